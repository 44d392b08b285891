import PyProof.Rows.All
import Wide.All
import OpenK.AllK
import Wide.FinOn
import KE.KBytesWalk
import KE.KStopIter
import KE.KTryOn
import KE.KDictSum
import KE.KEqDict
import KE.KLam
import KE.BytesMake
import Lean
import PySem.Challenge.RW_kl0432_01
open PySem PySem.Spec PySem.Calls PyProof.Rows PySem.W
set_option Elab.async false
set_option linter.all false
set_option maxRecDepth 100000
set_option maxHeartbeats 4000000
set_option tactic.hygienic false
set_option genInjectivity false
set_option genSizeOf false
namespace Mine.Internal
open _root_.List renaming mem_cons_self->aa,mem_cons_of_mem->ab,length_map->ak,mem_of_getElem? ->ao,mem_singleton->aA,getElem?_eq_some_iff->aB,mem_append_left->aE,mem_map->aG,getElem?_map->aI,range->aN,mem_cons->aP,mem_range->aY,map_map->a0,length_append->ba,mem_append->bb,map_append->bh,mem_filter->bl,length_filter_le->bu,getElem?_range->bz,map_cons->bA,mem_flatMap->bG,getElem?_eq_getElem->bH,length_cons->bJ,mem_append_right->bK,nodup_append->bO,getD_eq_getElem?_getD->bR,append_assoc->bU,map_congr_left->b5,nodup_cons->cj,perm_middle->cv,append_nil->cz,take_length->cL,any_eq_true->cT,sum_cons->df,mem_of_getLast? ->dg,length_take->dD,take_add_one->dG,flatMap_cons->dH,drop_eq_getElem_cons->dZ,take_of_length_le->d6,getElem?_set_self->eA,getElem?_append_left->eE,length_zipIdx->eW,append_of_mem->eX,not_mem_nil->eZ,length_range->fo,foldl_append->fq,drop_zero->fx,filter_congr->fy,foldl_cons->fE,cons_append->fU,mem_filterMap->fV,all_eq_true->fW,filter_append->fX,length_drop->fY,mem_of_mem_drop->gp,drop_append_of_le_length->gu,getLast?_eq_some_getLast->gv,toList_toArray->gQ,mem_map_of_mem->gS,sublist_cons_self->gW,filter_eq_nil_iff->gY,filter_cons->hZ,getElem?_eq_none->il,mem_iff_getElem? ->iq,take_succ_cons->jb,map_eq_nil_iff->jc,zipIdx_map_fst->jd,find?_cons->jV,getLast_cons->kf,getElem?_set_ne->kH,length_take_le'->kK,length->kL,nodup_nil->kP,lookup_cons->lj,nodup_range->ll,count_eq_zero->mC,take_append_drop->om,drop_length->ou,zipIdx_cons->ow,mem_of_mem_take->pv,eq_nil_of_length_eq_zero->pz,filter_nil->qc,range_succ->qd,nil_append->qf,mem_zipIdx_iff_getElem? ->qh,filterMap_cons->qk,getElem?_eq_none_iff->so,size_toArray->sQ,mem_of_head? ->sS,count_append->sT,getElem?_cons_succ->uf,isEmpty_iff->uk,map_flatMap->uo,mem_nil_iff->ur,map_nil->u5,set_set->u7,sum_append->vm,take_zero->xk,map_id->xt,length_pos_iff->zt,any_cons->zC,find?_eq_none->Af,getElem?_drop->Ah,count->Aj,any_map->CB,reverse_cons->CM,eq_nil_iff_forall_not_mem->E0,take_append_of_le_length->Fg,length_nil->GN,dropLast_concat_getLast->GQ,drop_drop->JB,getElem?_append_right->JF,perm_append_singleton->JG,pairwise_iff_getElem->JP,extract_eq_drop_take->JQ,getLast?_eq_some_iff->JR,map_drop->Nf,getElem?_take_of_lt->Ni,all_cons->Nj,length_eq_zero_iff->NK,drop_of_length_le->P1,set_append_right->QQ,getElem?_of_mem->Td,getElem?_mapIdx->Ti,getElem?_zipIdx->Tj,getLast?_append->TC,flatMap_append->Ul,drop_succ_cons->Um
open _root_.Option renaming some->ae,none->av,map_eq_some_iff->aL,bind_eq_some_iff->du,isSome_iff_exists->dJ,bind_eq_none_iff->ek,isSome_none->Ae,toList_some->Ag,map_eq_none_iff->PY
open _root_.PySem renaming wpAny_bind->ag,Value->aj,Shared->aq,wpAny_pure->ar,Addr->ay,wpAny->aS,model->aX,Str->bc,Around->bo,foldedSetIterable->bw,wpAny_holding->bC,Expr->bP,FuncData->cn,wpAny_of_eq->cN,sliceBounds->c8,wpAny_call_entry->dq,builtinLookup_eq_fast->dC,Heap->dI,wpAny_field->dS,eval->dW,wpAny_callSpecial?_slot->dX,Program->d7,Stmt->ed,World->eo,sizeLine->er,wpAny_call->eF,wpAny_setField->eH,wpAny_mono->eR,wpAny_truthy_bool->eU,holding->eV,typeLookup_type->fg,starEach->fl,Scope->fM,wpAny_ite_split->f5,DictEntry->gB,wpAny_Call_NameR->gC,wpAny_askSetting->gD,wpAny_specialOf->h8,Env->iE,standAt->iF,wpAny_standAt->iI,checkBuiltinCall->iJ,typeLookup->iR,isSubtype_type->iS,codeAny->iV,wpAny_newObj_type->jg,codeAny_call_builtin->jj,assignEach->jB,typeOf->jT,call->ks,letOwnedTupleGo->kI,codeAny_of_tree->kJ,codeAny_builtin->kN,wpAny_loadPart'->kO,Comprehension->kR,wpAny_attempt->kS,backTo->lb,wpAny_pyIter_list->lq,intKind->lr,wpAny_setState_of->lu,Pos->lF,sysModules->lX,pyNext->lZ,call_meets->l5,specialOf->mz,getMethod->mA,wpAny_rule->oa,Obj->oX,Sem->oY,rawInt->pA,callWith->pB,letTemporaryGo->pC,bindArgs->pF,wpAny_loadPart->pG,codeAny_call_function->ql,wpAny_execs_cons->qZ,pyIter->q7,argsOk->ra,attributeBase->rk,plainId_quiet->rl,aRefKeyMayBeTheName->sO,getAttr->sY,compStart->tu,isInstance->ue,Flow->ug,wpAny_pyIter_tuple->uh,ret->vf,OsState->vg,mainGlobals->vh,strIterType->vi,wpAny_alloc->vj,valueAt->vk,wpAny_pyIter_slot->vo,field->vq,behindInMarks->wm,assign->wo,swapsWithSole->wq,swappedStores->wu,Result->wx,PyData->wy,isSubtype->xg,swapsWith->xi,cellsFrom->xj,slicePick->xl,entryFor->xm,wpAny_isInstance->xr,PlainAttrs->zo,wpAny_pyNext_list_item->zp,strKind_is->zq,sliceRange->zr,wpAny_isTrue_Compare1->Ab,wpAny_allTrue_Or_cons->Ac,wpAny_pyNext_list_end->Ad,Model->Cv,NameKind->Cz,newFunctionEnv->CA,entryFor_alias->CC,someArgs->CF,builtinKind->CI,wpAny_seqItems->CJ,Arguments->CR,wpAny_Assign_stores->EN,list_getitem_lookup->ET,wpAny_Tuple_spliced->EU,wpAny_setEntries_of->EZ,cameBackBy->GG,intKind_is->GL,Tok->HO,call->Jm,execs->Jo,bootBuiltins->Jp,leaving->Js,getItem->Jt,baseText->Ju,codeAny_func->Jw,call_meetsIn->Jy,wpAny_mkText->JD,byteArr->JE,clausesOf->M5,seqIndex? ->M6,JoinOk->M7,opaqueClassAbove->Nb,entryFor_of_tree->Nc,wpAny_BinOp->Ny,again->Nz,subscripted->NB,Fin->NL,unpackItems->NM,pushCells_keeps->PX,importedModules->P3,splitId->QP,wpAny_Name->Te,Operator->Tf,BoolOp->Tg,wpAny_load->Th,wpAny_operateT->Tq,typeIs_str->Ts,newExc->Tt,boundAndCalled->Tv,isSubtype_stop->TA,evalArgs_none->Uo
open _root_.Nat renaming le_trans->aw,le_of_ble_eq_true->bg,le_refl->bp,lt_of_le_of_lt->b7,lt_of_lt_of_le->cc,lt_succ_of_lt->cJ,ne_of_lt->c9,le_add_right->dE,mod_lt->ee,le_of_lt->eB,zero_add->eC,pow_le_pow_right->e7,testBit_eq_decide_div_mod_eq->fu,zero_le->gq,lt_or_ge->gX,add_mul->iT,lt_succ_self->jf,succ_lt_succ->jk,le_succ->jC,ne_of_gt->jI,mul_assoc->jX,le_of_eq->lh,succ_ne_zero->lp,testBit_two_pow->lB,add_assoc->l0,add_sub_cancel_left->mE,le_of_succ_le->ni,succ_ne_self->oq,min_le_right->ot,two_pow_pos->qe,add_le_add_left->qj,mul_comm->q8,zero_mul->q9,lt_trichotomy->sJ,lt_of_not_le->uv,testBit_lt_two_pow->u6,strongRecOn->vr,succ->xh,eq_of_testBit_eq->xn,one_mul->xo,mul_le_mul_right->xq,lt_irrefl->zD,pow_succ->CD,le_of_lt_succ->CE,lt_trans->CL,succ_le_succ->EW,and_two_pow_sub_one_eq_mod->EY,testBit_and->GK,not_lt_zero->GP,not_lt->Jn,mod_two_eq_zero_or_one->JA,mul_le_mul->JC,testBit_two_pow_mul->NG,testBit_mul_two_pow->NI,le_of_succ_le_succ->P0,not_succ_le_self->To,add_le_add_right->Tp,not_succ_le_zero->TF,mul_le_mul_left->Un
open _root_.PySem.Heap renaming get?_push_of_some->az,get?_push_size->aW,lt_size->bM,get?_update_self->bS,size_push->fN,get?_update_other->iG,SameBut->ji,ExtBut->rt,MadeExcOf->Tu
open _root_.Bool renaming false->aH,true->aJ,eq_iff_iff->cm,and_eq_true_iff->cq,false_ne_true->cG,false_eq_true->dk,and_eq_true->dR,or_eq_true->jU,and_false->kM,or_false->zB,not_eq_true'->Cw,noConfusion->EP,toNat_true->GM,true_and->Ng
open _root_.Option.some renaming inj->aO
open _root_.Classical renaming byContradiction->bN
open _root_.Exists renaming imp->bQ
open _root_.Array renaming getElem?_toList->bV,getElem?_eq_getElem->dY,length_toList->eK,toList_append->lA,mem_toList_iff->pE,getElem?_eq_some_iff->rr,toList_inj->uj,any_toList->um,toList_extract->xp,toList_push->Cy,getElem?_eq_none->PW
open _root_.PySem.Heap.SameBut renaming update->bY,refl->JH
open _root_.Int renaming toNat_natCast->b8,natCast_nonneg->dK,ofNat->fA,lt_of_lt_of_le->rq,one_mul->sN,toNat->uq,fdiv_eq_ediv_of_nonneg->Jx,ofNat_inj->Nh,add_zero->PV
open _root_.PySem.F renaming type_str_join->b9,plainAttrs_str->eN,slot_tuple_iterator_next->fz,plainAttrs_list->fP,slot_list_append->iU,slot_str_split->jW,slot_tuple_iterator_next->l7,called_set->mB,slot_str_join->ny,slot_tuple_iter->uw,plainAttrs_list->ux,slot_list_iadd->u9,slot_tuple_getattribute->vb,entry_str_split->vn,plainAttrs_dict->vp,args_tuple_iterator_next_1->Ak,entry_tuple_iterator_next->Bs,args_str_split_2->GJ,slot_dict_items->Jz,slot_tuple_index->Nd,slot_dict_itemiterator_iter->ND,plain_tuple_new->NJ,plainAttrs_dict->NN,args_tuple_iterator_next_1->PZ,slot_tuple_eq->P2,entry_tuple_iterator_next->QR,slot_dict_get->QT,slot_tuple_ne->QU,store_object->Tw
open _root_.Trans renaming trans->cI
open _root_.PySem.Challenge renaming rw_kl0432_01->cR
open _root_.PySem.Value renaming ref->cZ,none->eG,builtin->iH,int->jS,type->lW,bytes->CG,isStrOf_shape->ES,bool->Tz
open _root_.PySem.Builtin.Str renaming occurrences->c7,strSub->fj,strKind->mQ
open _root_.Pure renaming pure->dh
open _root_.PySem.Obj renaming data_mapFields->dQ,isFreed_of_fields->iW,putName->oh,cls_mapFields->pH,mapFields->Fe
open _root_.PySem.W.Looks renaming of_pure->fe,ld->sq
open _root_.PySem.W renaming findIn->fG,Frag->gn,Looks->iM,dictOf->i3,putName_dict->mR,looks_findIn->mS,check_slot->ru,boot_heap->rv,instObj->Aa,kdk_entry_next->EX,specialIn->Fb,findCls->Fc,methodObj->Ff,lookIn_dict->QO,takesIn->Uk,hideAll->Uq,SharedT->Ur
open _root_.PySem.Txt renaming join->fO,split->M8,count->M9
open _root_.PySem.Str renaming ofString->fQ,ofString->Ai
open _root_.Ne renaming symm->gf
open _root_.PySem.Calls renaming call_function_entry->gw,docDef->mw,Name_function_global->Jq,evalArgs_plain->Jr
open _root_.PySem.Around renaming under_plainId->gR,frames_deeper->CH
open _root_.PyProof.Rows renaming Attribute_any_->gZ,callWith_def->iK,MethodCall_->i5,IntsAre->ui,callWith_builtin1->EO,mapSeq_app->NC
open _root_.List.Perm renaming refl->ic,swap->jh,of_eq->GR
open _root_.LawfulBEq renaming eq_of_beq->jD
open _root_.PyProof.Rows.F renaming plain_set_update_loop->lC,entry_set_update_loop->zu
open _root_.PySem.Builtin renaming bitAnd->lY
open _root_.Function renaming comp->l6
open _root_.PySem.Builtin.SmallTypes renaming nextOf->mF
open _root_.PySem.W.KBw renaming iter_typeIs->oj,slot_next->rx,IsBytesIter->Br
open _root_.PySem.PyData renaming strOk->pD,depthAll->zE,canLayAll0->Jv
open _root_.UInt8 renaming toNat->pI
open _root_.PySem.Builtin.Tuple renaming tupleCompareSizes->qg
open _root_.Inhabited renaming default->rb
open _root_.PySem.Builtin.Int renaming intBits->sL
open _root_.List.Sublist renaming refl->sM
open _root_.Prod.mk renaming inj->sR,injEq->Nk
open _root_.List.cons renaming inj->sX,injEq->GO
open _root_.Prod renaming fst->uu,ext->TB
open _root_.PySem.Builtin.List renaming listTooLong->wz,listLengthHint->QS
open _root_.Lean.Parser.Tactic renaming tacticSeq1Indented->xH,tacticSeq->GF
open _root_.PySem.Builtin.Range renaming small->ER
open _root_.PySem.Code renaming compLoop->Fd,compStart->Tn
open _root_.ForInStep renaming yield->GI
open _root_.PySem.Data renaming func->M4
open _root_.Int.ofNat renaming inj->Na
open _root_.And renaming intro->NA
noncomputable section
section
variable {T1 T2 T3 T4 T5:Sort _}{g:Prop}
theorem dU{A R:Prop}(h:A/\R)(f:A->R->g):g:=h.elim λa h=>f a h
theorem cK{R:T1->Prop}(h:∃a,R a)(f:∀a,R a->g):g:=h.elim λa h=>f a h
theorem GS{A B R:Prop}(h:A/\B/\R)(f:A->B->R->g):g:=h.elim λa h=>h.elim λb h=>f a b h
theorem aK{B R:T1->Prop}(h:∃a,B a/\R a)(f:∀a,B a->R a->g):g:=h.elim λa h=>h.elim λb h=>f a b h
theorem ox{R:T1->T2->Prop}(h:∃a,∃b,R a b)(f:∀a,∀b,R a b->g):g:=h.elim λa h=>h.elim λb h=>f a b h
theorem QV{A B C R:Prop}(h:A/\B/\C/\R)(f:A->B->C->R->g):g:=h.elim λa h=>h.elim λb h=>h.elim λc h=>f a b c h
theorem mG{A:Prop}{C R:T1->Prop}(h:A/\∃b,C b/\R b)(f:A->∀b,C b->R b->g):g:=h.elim λa h=>h.elim λb h=>h.elim λc h=>f a b c h
theorem vt{A:Prop}{R:T1->T2->Prop}(h:A/\∃b,∃c,R b c)(f:A->∀b,∀c,R b c->g):g:=h.elim λa h=>h.elim λb h=>h.elim λc h=>f a b c h
theorem ef{B C R:T1->Prop}(h:∃a,B a/\C a/\R a)(f:∀a,B a->C a->R a->g):g:=h.elim λa h=>h.elim λb h=>h.elim λc h=>f a b c h
theorem eD{C R:T1->T2->Prop}(h:∃a,∃b,C a b/\R a b)(f:∀a,∀b,C a b->R a b->g):g:=h.elim λa h=>h.elim λb h=>h.elim λc h=>f a b c h
theorem NO{A B C D R:Prop}(h:A/\B/\C/\D/\R)(f:A->B->C->D->R->g):g:=h.elim λa h=>h.elim λb h=>h.elim λc h=>h.elim λd h=>f a b c d h
theorem qm{A:Prop}{C D R:T1->Prop}(h:A/\∃b,C b/\D b/\R b)(f:A->∀b,C b->D b->R b->g):g:=h.elim λa h=>h.elim λb h=>h.elim λc h=>h.elim λd h=>f a b c d h
theorem uy{A:Prop}{D R:T1->T2->Prop}(h:A/\∃b,∃c,D b c/\R b c)(f:A->∀b,∀c,D b c->R b c->g):g:=h.elim λa h=>h.elim λb h=>h.elim λc h=>h.elim λd h=>f a b c d h
theorem Bt{B C D R:T1->Prop}(h:∃a,B a/\C a/\D a/\R a)(f:∀a,B a->C a->D a->R a->g):g:=h.elim λa h=>h.elim λb h=>h.elim λc h=>h.elim λd h=>f a b c d h
theorem cD{C D R:T1->T2->Prop}(h:∃a,∃b,C a b/\D a b/\R a b)(f:∀a,∀b,C a b->D a b->R a b->g):g:=h.elim λa h=>h.elim λb h=>h.elim λc h=>h.elim λd h=>f a b c d h
theorem oy{D R:T1->T2->T3->Prop}(h:∃a,∃b,∃c,D a b c/\R a b c)(f:∀a,∀b,∀c,D a b c->R a b c->g):g:=h.elim λa h=>h.elim λb h=>h.elim λc h=>h.elim λd h=>f a b c d h
theorem JS{A B C D E R:Prop}(h:A/\B/\C/\D/\E/\R)(f:A->B->C->D->E->R->g):g:=h.elim λa h=>h.elim λb h=>h.elim λc h=>h.elim λd h=>h.elim λe h=>f a b c d e h
theorem CS{A:Prop}{R:T1->T2->T3->T4->Prop}(h:A/\∃b,∃c,∃d,∃e,R b c d e)(f:A->∀b,∀c,∀d,∀e,R b c d e->g):g:=h.elim λa h=>h.elim λb h=>h.elim λc h=>h.elim λd h=>h.elim λe h=>f a b c d e h
theorem CT{B C D E R:T1->Prop}(h:∃a,B a/\C a/\D a/\E a/\R a)(f:∀a,B a->C a->D a->E a->R a->g):g:=h.elim λa h=>h.elim λb h=>h.elim λc h=>h.elim λd h=>h.elim λe h=>f a b c d e h
theorem ir{C D E R:T1->T2->Prop}(h:∃a,∃b,C a b/\D a b/\E a b/\R a b)(f:∀a,∀b,C a b->D a b->E a b->R a b->g):g:=h.elim λa h=>h.elim λb h=>h.elim λc h=>h.elim λd h=>h.elim λe h=>f a b c d e h
theorem cF{D E R:T1->T2->T3->Prop}(h:∃a,∃b,∃c,D a b c/\E a b c/\R a b c)(f:∀a,∀b,∀c,D a b c->E a b c->R a b c->g):g:=h.elim λa h=>h.elim λb h=>h.elim λc h=>h.elim λd h=>h.elim λe h=>f a b c d e h
theorem Al{A:Prop}{D E F R:T1->T2->Prop}(h:A/\∃b,∃c,D b c/\E b c/\F b c/\R b c)(f:A->∀b,∀c,D b c->E b c->F b c->R b c->g):g:=h.elim λa h=>h.elim λb h=>h.elim λc h=>h.elim λd h=>h.elim λe h=>h.elim λi h=>f a b c d e i h
theorem Am{C D E F R:T1->T2->Prop}(h:∃a,∃b,C a b/\D a b/\E a b/\F a b/\R a b)(f:∀a,∀b,C a b->D a b->E a b->F a b->R a b->g):g:=h.elim λa h=>h.elim λb h=>h.elim λc h=>h.elim λd h=>h.elim λe h=>h.elim λi h=>f a b c d e i h
theorem lG{D E F R:T1->T2->T3->Prop}(h:∃a,∃b,∃c,D a b c/\E a b c/\F a b c/\R a b c)(f:∀a,∀b,∀c,D a b c->E a b c->F a b c->R a b c->g):g:=h.elim λa h=>h.elim λb h=>h.elim λc h=>h.elim λd h=>h.elim λe h=>h.elim λi h=>f a b c d e i h
theorem cu{E F R:T1->T2->T3->T4->Prop}(h:∃a,∃b,∃c,∃d,E a b c d/\F a b c d/\R a b c d)(f:∀a,∀b,∀c,∀d,E a b c d->F a b c d->R a b c d->g):g:=h.elim λa h=>h.elim λb h=>h.elim λc h=>h.elim λd h=>h.elim λe h=>h.elim λi h=>f a b c d e i h
theorem xI{C D E F H R:T1->T2->Prop}(h:∃a,∃b,C a b/\D a b/\E a b/\F a b/\H a b/\R a b)(f:∀a,∀b,C a b->D a b->E a b->F a b->H a b->R a b->g):g:=h.elim λa h=>h.elim λb h=>h.elim λc h=>h.elim λd h=>h.elim λe h=>h.elim λi h=>h.elim λj h=>f a b c d e i j h
theorem g6{D E F H R:T1->T2->T3->Prop}(h:∃a,∃b,∃c,D a b c/\E a b c/\F a b c/\H a b c/\R a b c)(f:∀a,∀b,∀c,D a b c->E a b c->F a b c->H a b c->R a b c->g):g:=h.elim λa h=>h.elim λb h=>h.elim λc h=>h.elim λd h=>h.elim λe h=>h.elim λi h=>h.elim λj h=>f a b c d e i j h
theorem tv{E F H R:T1->T2->T3->T4->Prop}(h:∃a,∃b,∃c,∃d,E a b c d/\F a b c d/\H a b c d/\R a b c d)(f:∀a,∀b,∀c,∀d,E a b c d->F a b c d->H a b c d->R a b c d->g):g:=h.elim λa h=>h.elim λb h=>h.elim λc h=>h.elim λd h=>h.elim λe h=>h.elim λi h=>h.elim λj h=>f a b c d e i j h
theorem wA{D E F H I R:T1->T2->T3->Prop}(h:∃a,∃b,∃c,D a b c/\E a b c/\F a b c/\H a b c/\I a b c/\R a b c)(f:∀a,∀b,∀c,D a b c->E a b c->F a b c->H a b c->I a b c->R a b c->g):g:=h.elim λa h=>h.elim λb h=>h.elim λc h=>h.elim λd h=>h.elim λe h=>h.elim λi h=>h.elim λj h=>h.elim λk h=>f a b c d e i j k h
theorem dM{E F H I R:T1->T2->T3->T4->Prop}(h:∃a,∃b,∃c,∃d,E a b c d/\F a b c d/\H a b c d/\I a b c d/\R a b c d)(f:∀a,∀b,∀c,∀d,E a b c d->F a b c d->H a b c d->I a b c d->R a b c d->g):g:=h.elim λa h=>h.elim λb h=>h.elim λc h=>h.elim λd h=>h.elim λe h=>h.elim λi h=>h.elim λj h=>h.elim λk h=>f a b c d e i j k h
theorem iL{F H I R:T1->T2->T3->T4->T5->Prop}(h:∃a,∃b,∃c,∃d,∃e,F a b c d e/\H a b c d e/\I a b c d e/\R a b c d e)(f:∀a,∀b,∀c,∀d,∀e,F a b c d e->H a b c d e->I a b c d e->R a b c d e->g):g:=h.elim λa h=>h.elim λb h=>h.elim λc h=>h.elim λd h=>h.elim λe h=>h.elim λi h=>h.elim λj h=>h.elim λk h=>f a b c d e i j k h
theorem qo{D E F H I J R:T1->T2->T3->Prop}(h:∃a,∃b,∃c,D a b c/\E a b c/\F a b c/\H a b c/\I a b c/\J a b c/\R a b c)(f:∀a,∀b,∀c,D a b c->E a b c->F a b c->H a b c->I a b c->J a b c->R a b c->g):g:=h.elim λa h=>h.elim λb h=>h.elim λc h=>h.elim λd h=>h.elim λe h=>h.elim λi h=>h.elim λj h=>h.elim λk h=>h.elim λl h=>f a b c d e i j k l h
theorem jY{D E F H I J K R:T1->T2->T3->Prop}(h:∃a,∃b,∃c,D a b c/\E a b c/\F a b c/\H a b c/\I a b c/\J a b c/\K a b c/\R a b c)(f:∀a,∀b,∀c,D a b c->E a b c->F a b c->H a b c->I a b c->J a b c->K a b c->R a b c->g):g:=h.elim λa h=>h.elim λb h=>h.elim λc h=>h.elim λd h=>h.elim λe h=>h.elim λi h=>h.elim λj h=>h.elim λk h=>h.elim λl h=>h.elim λm h=>f a b c d e i j k l m h
end
@[elab_as_elim] theorem ai{α:Sort u}{a b:α}{P:α->Prop}(e:a=b)(h:P b):P a:=e▸h
@[elab_as_elim] theorem fZ{α:Sort u}{a b:α}{P:α->Prop}(e:a=b)(h:P a):P b:=e▸h
@[elab_as_elim] theorem gj{a b:Prop}{P:Prop->Prop}(e:a↔b)(h:P b):P a:=propext e▸h
@[elab_as_elim] theorem rwj{a b:Prop}{P:Prop->Prop}(e:a↔b)(h:P a):P b:=propext e▸h
noncomputable def ep{α:Type}(n:Nonempty α)(P:α->Prop):α:=@Classical.epsilon α n λa=>¬P a
theorem ry{α:Type}{n:Nonempty α}{P:α->Prop}(h:P (ep n P))(a:α):P a:=bN λq=>(Classical.epsilon_spec (p:=λa=>¬P a) ⟨a,q⟩) h
theorem j7{α β:Type}:Nonempty α->Nonempty β->Nonempty (α×β):=λ⟨a⟩ ⟨b⟩=>⟨(a,b)⟩
theorem neQ{α:Type}:Nonempty (α->Prop):=⟨λz=>True⟩
theorem sZ{α β:Type}:Nonempty (α->β->Prop):=⟨λz z=>True⟩
theorem gE{α:Type}:Nonempty (List α):=⟨[]⟩
theorem neO{α:Type}:Nonempty (Option α):=⟨av⟩
theorem neF{α β:Type}(n:Nonempty β):Nonempty (α->β):=n.elim λb=>⟨λz=>b⟩
theorem eO:Nonempty Nat:=⟨0⟩
theorem QW:Nonempty Int:=⟨0⟩
section
variable {T1 T2 T3 T4 T5 T6 T7 T8 T9 T10 T11 T12 T13 T14 T15 T16:Type}(n1:Nonempty T1)(n2:Nonempty T2)(n3:Nonempty T3)(n4:Nonempty T4)(n5:Nonempty T5)(n6:Nonempty T6)(n7:Nonempty T7)(n8:Nonempty T8)(n9:Nonempty T9)(QA:Nonempty T10)(TO:Nonempty T11)(TP:Nonempty T12)(n13:Nonempty T13)(n14:Nonempty T14)(n15:Nonempty T15)(n16:Nonempty T16)
def ap2(S:T1->T2->Prop)(t:T1×T2):Prop:=S t.1 t.2
noncomputable def P4(S:T1->T2->Prop):T1×T2:=ep (j7 n1 n2) (ap2 S)
theorem Fh(S:T1->T2->Prop)(h:ap2 S (P4 n1 n2 S))(x1:T1)(x2:T2):S x1 x2:=ry h (x1,x2)
def ap4(S:T1->T2->T3->T4->Prop)(t:T1×T2×T3×T4):Prop:=S t.1 t.2.1 t.2.2.1 t.2.2.2
noncomputable def GT(S:T1->T2->T3->T4->Prop):T1×T2×T3×T4:=ep (j7 n1 (j7 n2 (j7 n3 n4))) (ap4 S)
theorem vx(S:T1->T2->T3->T4->Prop)(h:ap4 S (GT n1 n2 n3 n4 S))(x1:T1)(x2:T2)(x3:T3)(x4:T4):S x1 x2 x3 x4:=ry h (x1,x2,x3,x4)
def ap6(S:T1->T2->T3->T4->T5->T6->Prop)(t:T1×T2×T3×T4×T5×T6):Prop:=S t.1 t.2.1 t.2.2.1 t.2.2.2.1 t.2.2.2.2.1 t.2.2.2.2.2
noncomputable def Fi(S:T1->T2->T3->T4->T5->T6->Prop):T1×T2×T3×T4×T5×T6:=ep (j7 n1 (j7 n2 (j7 n3 (j7 n4 (j7 n5 n6))))) (ap6 S)
theorem uz(S:T1->T2->T3->T4->T5->T6->Prop)(h:ap6 S (Fi n1 n2 n3 n4 n5 n6 S))(x1:T1)(x2:T2)(x3:T3)(x4:T4)(x5:T5)(x6:T6):S x1 x2 x3 x4 x5 x6:=ry h (x1,x2,x3,x4,x5,x6)
def ap8(S:T1->T2->T3->T4->T5->T6->T7->T8->Prop)(t:T1×T2×T3×T4×T5×T6×T7×T8):Prop:=S t.1 t.2.1 t.2.2.1 t.2.2.2.1 t.2.2.2.2.1 t.2.2.2.2.2.1 t.2.2.2.2.2.2.1 t.2.2.2.2.2.2.2
noncomputable def Nl(S:T1->T2->T3->T4->T5->T6->T7->T8->Prop):T1×T2×T3×T4×T5×T6×T7×T8:=ep (j7 n1 (j7 n2 (j7 n3 (j7 n4 (j7 n5 (j7 n6 (j7 n7 n8))))))) (ap8 S)
theorem Bu(S:T1->T2->T3->T4->T5->T6->T7->T8->Prop)(h:ap8 S (Nl n1 n2 n3 n4 n5 n6 n7 n8 S))(x1:T1)(x2:T2)(x3:T3)(x4:T4)(x5:T5)(x6:T6)(x7:T7)(x8:T8):S x1 x2 x3 x4 x5 x6 x7 x8:=ry h (x1,x2,x3,x4,x5,x6,x7,x8)
def ap10(S:T1->T2->T3->T4->T5->T6->T7->T8->T9->T10->Prop)(t:T1×T2×T3×T4×T5×T6×T7×T8×T9×T10):Prop:=S t.1 t.2.1 t.2.2.1 t.2.2.2.1 t.2.2.2.2.1 t.2.2.2.2.2.1 t.2.2.2.2.2.2.1 t.2.2.2.2.2.2.2.1 t.2.2.2.2.2.2.2.2.1 t.2.2.2.2.2.2.2.2.2
noncomputable def zF(S:T1->T2->T3->T4->T5->T6->T7->T8->T9->T10->Prop):T1×T2×T3×T4×T5×T6×T7×T8×T9×T10:=ep (j7 n1 (j7 n2 (j7 n3 (j7 n4 (j7 n5 (j7 n6 (j7 n7 (j7 n8 (j7 n9 QA))))))))) (ap10 S)
theorem uA(S:T1->T2->T3->T4->T5->T6->T7->T8->T9->T10->Prop)(h:ap10 S (zF n1 n2 n3 n4 n5 n6 n7 n8 n9 QA S))(x1:T1)(x2:T2)(x3:T3)(x4:T4)(x5:T5)(x6:T6)(x7:T7)(x8:T8)(x9:T9)(MK:T10):S x1 x2 x3 x4 x5 x6 x7 x8 x9 MK:=ry h (x1,x2,x3,x4,x5,x6,x7,x8,x9,MK)
def ap12(S:T1->T2->T3->T4->T5->T6->T7->T8->T9->T10->T11->T12->Prop)(t:T1×T2×T3×T4×T5×T6×T7×T8×T9×T10×T11×T12):Prop:=S t.1 t.2.1 t.2.2.1 t.2.2.2.1 t.2.2.2.2.1 t.2.2.2.2.2.1 t.2.2.2.2.2.2.1 t.2.2.2.2.2.2.2.1 t.2.2.2.2.2.2.2.2.1 t.2.2.2.2.2.2.2.2.2.1 t.2.2.2.2.2.2.2.2.2.2.1 t.2.2.2.2.2.2.2.2.2.2.2
noncomputable def HP(S:T1->T2->T3->T4->T5->T6->T7->T8->T9->T10->T11->T12->Prop):T1×T2×T3×T4×T5×T6×T7×T8×T9×T10×T11×T12:=ep (j7 n1 (j7 n2 (j7 n3 (j7 n4 (j7 n5 (j7 n6 (j7 n7 (j7 n8 (j7 n9 (j7 QA (j7 TO TP))))))))))) (ap12 S)
theorem CU(S:T1->T2->T3->T4->T5->T6->T7->T8->T9->T10->T11->T12->Prop)(h:ap12 S (HP n1 n2 n3 n4 n5 n6 n7 n8 n9 QA TO TP S))(x1:T1)(x2:T2)(x3:T3)(x4:T4)(x5:T5)(x6:T6)(x7:T7)(x8:T8)(x9:T9)(MK:T10)(QB:T11)(QC:T12):S x1 x2 x3 x4 x5 x6 x7 x8 x9 MK QB QC:=ry h (x1,x2,x3,x4,x5,x6,x7,x8,x9,MK,QB,QC)
def ap14(S:T1->T2->T3->T4->T5->T6->T7->T8->T9->T10->T11->T12->T13->T14->Prop)(t:T1×T2×T3×T4×T5×T6×T7×T8×T9×T10×T11×T12×T13×T14):Prop:=S t.1 t.2.1 t.2.2.1 t.2.2.2.1 t.2.2.2.2.1 t.2.2.2.2.2.1 t.2.2.2.2.2.2.1 t.2.2.2.2.2.2.2.1 t.2.2.2.2.2.2.2.2.1 t.2.2.2.2.2.2.2.2.2.1 t.2.2.2.2.2.2.2.2.2.2.1 t.2.2.2.2.2.2.2.2.2.2.2.1 t.2.2.2.2.2.2.2.2.2.2.2.2.1 t.2.2.2.2.2.2.2.2.2.2.2.2.2
noncomputable def NP(S:T1->T2->T3->T4->T5->T6->T7->T8->T9->T10->T11->T12->T13->T14->Prop):T1×T2×T3×T4×T5×T6×T7×T8×T9×T10×T11×T12×T13×T14:=ep (j7 n1 (j7 n2 (j7 n3 (j7 n4 (j7 n5 (j7 n6 (j7 n7 (j7 n8 (j7 n9 (j7 QA (j7 TO (j7 TP (j7 n13 n14))))))))))))) (ap14 S)
theorem JT(S:T1->T2->T3->T4->T5->T6->T7->T8->T9->T10->T11->T12->T13->T14->Prop)(h:ap14 S (NP n1 n2 n3 n4 n5 n6 n7 n8 n9 QA TO TP n13 n14 S))(x1:T1)(x2:T2)(x3:T3)(x4:T4)(x5:T5)(x6:T6)(x7:T7)(x8:T8)(x9:T9)(MK:T10)(QB:T11)(QC:T12)(x13:T13)(x14:T14):S x1 x2 x3 x4 x5 x6 x7 x8 x9 MK QB QC x13 x14:=ry h (x1,x2,x3,x4,x5,x6,x7,x8,x9,MK,QB,QC,x13,x14)
def ap16(S:T1->T2->T3->T4->T5->T6->T7->T8->T9->T10->T11->T12->T13->T14->T15->T16->Prop)(t:T1×T2×T3×T4×T5×T6×T7×T8×T9×T10×T11×T12×T13×T14×T15×T16):Prop:=S t.1 t.2.1 t.2.2.1 t.2.2.2.1 t.2.2.2.2.1 t.2.2.2.2.2.1 t.2.2.2.2.2.2.1 t.2.2.2.2.2.2.2.1 t.2.2.2.2.2.2.2.2.1 t.2.2.2.2.2.2.2.2.2.1 t.2.2.2.2.2.2.2.2.2.2.1 t.2.2.2.2.2.2.2.2.2.2.2.1 t.2.2.2.2.2.2.2.2.2.2.2.2.1 t.2.2.2.2.2.2.2.2.2.2.2.2.2.1 t.2.2.2.2.2.2.2.2.2.2.2.2.2.2.1 t.2.2.2.2.2.2.2.2.2.2.2.2.2.2.2
noncomputable def Fj(S:T1->T2->T3->T4->T5->T6->T7->T8->T9->T10->T11->T12->T13->T14->T15->T16->Prop):T1×T2×T3×T4×T5×T6×T7×T8×T9×T10×T11×T12×T13×T14×T15×T16:=ep (j7 n1 (j7 n2 (j7 n3 (j7 n4 (j7 n5 (j7 n6 (j7 n7 (j7 n8 (j7 n9 (j7 QA (j7 TO (j7 TP (j7 n13 (j7 n14 (j7 n15 n16))))))))))))))) (ap16 S)
theorem An(S:T1->T2->T3->T4->T5->T6->T7->T8->T9->T10->T11->T12->T13->T14->T15->T16->Prop)(h:ap16 S (Fj n1 n2 n3 n4 n5 n6 n7 n8 n9 QA TO TP n13 n14 n15 n16 S))(x1:T1)(x2:T2)(x3:T3)(x4:T4)(x5:T5)(x6:T6)(x7:T7)(x8:T8)(x9:T9)(MK:T10)(QB:T11)(QC:T12)(x13:T13)(x14:T14)(x15:T15)(x16:T16):S x1 x2 x3 x4 x5 x6 x7 x8 x9 MK QB QC x13 x14 x15 x16:=ry h (x1,x2,x3,x4,x5,x6,x7,x8,x9,MK,QB,QC,x13,x14,x15,x16)
end
theorem gL{α:Type u}{a:α}{P:Prop}(h:av=ae a):P:=by cases h
theorem nomS{α:Type u}{a:α}{P:Prop}(h:ae a=av):P:=by cases h
theorem el{α:Type u}{a:α}{P:Prop}(h:a∈([]:List α)):P:=by cases h
theorem vy{P:Prop}(h:aH=aJ):P:=by cases h
theorem JU{P:Prop}(h:aJ=aH):P:=by cases h
theorem QX{α:Type u}{a:α}{l:List α}{P:Prop}(h:[]=a::l):P:=by cases h
theorem JV{α:Type u}{a:α}{l:List α}{P:Prop}(h:a::l=[]):P:=by cases h
@[elab_as_elim] theorem TG{P:Nat->Prop}{i:Nat}(h:i < 3)(a:P 0)(b:P 1)(c:P 2):P i:=by cases i with|zero=>exact a|succ i=>cases i with|zero=>exact b|succ i=>cases i with|zero=>exact c|succ i=>omega
theorem lt4s{P:Nat->Prop}{i:Nat}(h:i < 4)(a:P 0)(b:P 1)(c:P 2)(d:P 3):P i:=by cases i with|zero=>exact a|succ i=>exact TG (P:=λi=>P (i+1)) (by omega) b c d
@[elab_as_elim] theorem lt5{P:Nat->Prop}{i:Nat}(h:i < 5)(a:P 0)(b:P 1)(c:P 2)(d:P 3)(e:P 4):P i:=by cases i with|zero=>exact a|succ i=>exact lt4s (P:=λi=>P (i+1)) (by omega) b c d e
def aR:Lean.Syntax:= .node .none `Lean.Parser.Tactic.tacticSeq #[.node .none `Lean.Parser.Tactic.tacticSeq1Indented #[.node .none `null #[.node .none `Lean.Parser.Tactic.intros #[.atom .none "intros",.node .none `null #[]],.atom .none ";",.node .none `Lean.Parser.Tactic.tacticRfl #[.atom .none "rfl"]]]]
def aD:Lean.Syntax:= .node .none `Lean.Parser.Tactic.tacticSeq #[.node .none `Lean.Parser.Tactic.tacticSeq1Indented #[.node .none `null #[.node .none `Lean.Parser.Tactic.decide #[.atom .none "decide",.node .none `Lean.Parser.Tactic.optConfig #[.node .none `null #[]]]]]]
noncomputable def Fk:CR:={posonlyargs:=[],args:=[],vararg:=av,kwonlyargs:=[],kw_defaults:=[],kwarg:=av,defaults:=[]}
noncomputable def Bv:fM:={kind:= .function,names:=[],isGenerator:=aH,isCoroutine:=aH,more:=[]}
noncomputable def cO(i:Nat):ed:=Challenge.pw_kl0432_01.main.body.getD i (.Pass ⟨0,0,0,0⟩)
noncomputable def jl(i j:Nat):ed:=match cO i with
 | .ClassDef _ _ _ body .. =>body.getD j (.Pass ⟨0,0,0,0⟩)
 |_=> .Pass ⟨0,0,0,0⟩
noncomputable def ma:ed->bc| .FunctionDef n .. =>n|_=>""
noncomputable def wB:ed->CR| .FunctionDef _ a .. =>a|_=>Fk
noncomputable def fR:ed->List ed| .FunctionDef _ _ b .. =>b|_=>[]
noncomputable def bj:ed->fM| .FunctionDef _ _ _ _ _ _ s .. =>s|_=>Bv
noncomputable def oz:List bc:=["OPTIMIZED","NEWLOCALS","VARARGS","VARKEYWORDS","NESTED","GENERATOR","NOFREE","COROUTINE","ITERABLE_COROUTINE","ASYNC_GENERATOR"]
noncomputable abbrev xu(st:ed)(pm cd doc:aj):cn:=mw (ma st) (wB st) (fR st) (bj st) pm cd doc
noncomputable def eS(K:gn)(C:ay)(name:bc):Bool:=((clsIn K C).any λcd=>cd.hasDict) && fG K (.ref C) name == ae av && fG K (.ref C) "__getattribute__" == ae (ae (.builtin "object.__getattribute__"))
noncomputable def jm(K:gn)(C f:ay)(name:bc):Bool:=fG K (.ref C) "__getattribute__" == ae (ae (.builtin "object.__getattribute__")) && fG K (.ref C) "__getattr__" == ae av && fG K (.ref C) name == ae (ae (.ref f)) && typeIn K (.ref f) == ae (.type "function")
noncomputable def fh(K:gn)(C:ay)(name:bc):Bool:=fG K (.ref C) "__setattr__" == ae (ae (.builtin "object.__setattr__")) && plainOver K C && takerIn K C name == ae av && (clsIn K C).any (·.hasDict)
noncomputable abbrev Ao(st:ed)(qual:bc)(pm cd doc:aj):cn:={xu st pm cd doc with qualname:=qual}
noncomputable def sr(K:gn)(C f:ay)(name:bc):Bool:=plainGet K C name && hasDictIn K C && fG K (.ref C) name == ae (ae (.ref f)) && isFn K (.ref f) && Fb K (.ref f) "__get__" == ae (ae (.builtin "function.__get__")) && Uk K (.ref f) == ae aH && !copiedNames.contains name
noncomputable def Bw(K:gn)(a:ay):oX:=(K.lookup a).getD {cls:= .none,data:= .plain}
noncomputable def pmIn(K:gn)(a:ay):aj:=match (Bw K a).data with| .func fd=>fd.pyModule|_=> .none
noncomputable def dcIn(K:gn)(a:ay):aj:=match (Bw K a).data with| .func fd=>fd.doc|_=> .none
noncomputable def i6(K:gn)(cd:aj)(q:bc):Bool:=match cd with
 | .ref c=>(match (Bw K c).data with
  | .fields vs=>(match (vs[1]? :Option aj) with|some (Value.str n _)=>n == q|_=>aH)
  |_=>aH) && (K.lookup c).isSome
 |_=>aH
noncomputable def strip:Data->Data
 | .func fd=> .func {fd with pyModule:= .none,doc:= .none}
 |d=>d
noncomputable def wX(K:gn)(a:ay):Option Data:=(K.lookup a).map λo=>strip o.data
noncomputable def Bx(K:gn)(x:bc):Option aj:=match (Bw K 3).data with| .dict es _=>nsFind es x|_=>av
noncomputable def TI:Nat->List bc->List gB
 |_,[]=>[]
 |i,n::l=>⟨2 ^ i,.int (2 ^ i) (253+2*i),.str n (254+2*i)⟩::TI (i+1) l
noncomputable def JW(K:gn)(a:ay):List gB:=match (Bw K a).data with| .dict es _=>es.toList|_=>[]
noncomputable def QY:List (ay×ay×ed):=[(72,71,cO 4),(172,171,cO 7),(179,178,cO 8),(256,255,cO 13),(263,262,cO 14),(270,269,cO 15),(275,274,cO 17),(280,279,cO 18),(285,284,cO 19),(290,289,cO 20),(297,296,cO 21),(302,301,cO 22),(307,306,cO 23)]
noncomputable def meL:List (ay×ay×ed×bc):=[(193,192,jl 10 0,"_netrclex.__init__"),(200,199,jl 10 1,"_netrclex._read_char"),(207,206,jl 10 2,"_netrclex.get_token"),(214,213,jl 10 3,"_netrclex.push_token"),(235,234,jl 12 1,"TupleComp.__init__"),(242,241,jl 12 2,"TupleComp.compare"),(90,89,jl 5 4,"_ExceptionTableEntryBase.__new__")]
noncomputable def QZ:List (bc×ay):=[("pretty_flags",72),("COMPILER_FLAG_NAMES",65),("_ExceptionTableEntry",162),("_parse_varint",172),("_parse_exception_table",179),("_netrclex",217),("TupleComp",245),("add_func_stats",256),("add_callers",263),("count_calls",270),("_law_given",275),("_law_spelled",280),("_law_octets",285),("_law_back",290),("_law_run",297),("_law_hear",302),("law",307),("__builtins__",4)]
noncomputable def mnL:List bc:=["range","len","sum","enumerate","int","bool","list","set","sorted","hex","next","iter","ord","chr","bytes","isinstance","tuple","StopIteration","type","issubclass"]
noncomputable def gtL:List (ay×bc):=[(132,"start"),(135,"end"),(138,"target"),(141,"depth"),(144,"lasti")]
noncomputable def oA(K:gn):=(QY.map λq=>(wX K q.1,i6 K (.ref q.2.1) (ma q.2.2)),meL.map λq=>(wX K q.1,i6 K (.ref q.2.1) q.2.2.2),QZ.map λq=>Bx K q.1,mnL.map (Bx K))
noncomputable def vA:=(QY.map λq=>(ae (M4 (mw (ma q.2.2) (wB q.2.2) (fR q.2.2) (bj q.2.2) .none (.ref q.2.1) .none)),aJ),meL.map λq=>(ae (M4 (Ao q.2.2.1 q.2.2.2 .none (.ref q.2.1) .none)),aJ),QZ.map λq=>ae (cZ q.2),mnL.map λz=>(av:Option aj))
noncomputable def oB(K:gn):=(K.lookup 65,K.lookup 36,wX K 43,i6 K (.ref 42) "_tuplegetter.__get__",(K.lookup 3).isSome)
noncomputable def vB:=(ae ({cls:= .type "dict",data:= .dict (TI 0 oz).toArray 10}:oX),ae ({cls:= .type "tuple",data:= .seq #[.none] 0}:oX),ae (M4 {Ao (jl 2 1) "_tuplegetter.__get__" .none (.ref 42) .none with defaults:= .ref 36}),aJ,aJ)
noncomputable def oC(K:gn):List Bool:=[eS K 217 "pushback",eS K 217 "lineno",eS K 217 "instream",eS K 217 "whitespace",fh K 217 "pushback",fh K 217 "lineno",fh K 217 "instream",fh K 217 "whitespace",jm K 217 200 "_read_char",jm K 217 207 "get_token",jm K 217 214 "push_token",eS K 245 "comp_select_list",fh K 245 "comp_select_list",jm K 245 242 "compare",makesIn K 217,keepIn K (.ref 217),makesIn K 245,keepIn K (.ref 245),sr K 217 200 "_read_char",readsIn K 162 (.type "type"),keepIn K (.ref 162),eS K 60 "index",codeHdIn K 274 272,codeHdIn K 306 304]
noncomputable def vC:List Bool:=List.replicate 24 aJ
noncomputable def oD(K:gn):=(fG K (.ref 217) "__init__",fG K (.ref 245) "__init__",fG K (.ref 162) "__getattribute__",fG K (.ref 162) "__getattr__",fG K (.ref 162) "__eq__",fG K (.ref 162) "__iter__",typeIn K (.ref 193),typeIn K (.ref 235),subIn K (.type "tuple") (.ref 162),subIn K (.ref 162) (.type "tuple"),Fc K (.ref 162) (.type "type") "__new__",recIn K 150 "staticmethod",Fc K (.type "tuple") (.type "type") "__new__",Fc K (.type "tuple") (.type "type") "__getitem__")
noncomputable def vD:=(ae (ae (cZ 193)),ae (ae (cZ 235)),ae (ae (iH "tuple.__getattribute__")),ae (av:Option aj),ae (ae (iH "tuple.__eq__")),ae (ae (iH "tuple.__iter__")),ae (lW "function"),ae (lW "function"),ae aH,ae aJ,ae (CFound.get (.builtin "staticmethod.__get__") (.ref 150) .none (.ref 162)),ae [cZ 90],ae (CFound.val (.builtin "tuple.__new__")),ae (CFound.val (.builtin "tuple.__getitem__")))
noncomputable def oE(K:gn)(S:Setting):=(peek K S (mz (.ref 162) "__call__"),peek K S (ue (.ref 162) (.type "type")),peek K S (Bind.madeBy (.ref 162)),peek K S (mroOf (.ref 162)),(λt:ay=>peek K S (iJ "tuple.__new__" {pos:=[.ref 162,.ref t]})),peek K S (Bind.madeHere "tuple.__new__" (.ref 162)),peek K S (isType (.ref 162)),peek K S (xg (.ref 162) (.type "tuple")),peek K S (xg (.ref 162) (.ref 162)),peek K S (xg (.ref 162) (.type "object")),peek K S (iR (.ref 162) "__init__"))
noncomputable def vE(_:Setting):=(ae (ae (iH "type.__call__")),ae aJ,ae (av:Option String),ae [cZ 162,.ref 149,.type "tuple",.type "object"],(λ_:ay=>ae ()),ae (),ae aJ,ae aJ,ae aJ,ae aJ,ae (ae (iH "object.__init__")))
noncomputable def JX(K:gn):Option Bool:=match K.lookup 162 with
 |some ⟨.type "type",_,.cls cd,_⟩=>ae cd.hasDel
 |_=>av
noncomputable def oF(K:gn):=(gtL.map λq=>(fG K (.ref 162) q.2,Fb K (.ref q.1) "__get__",Uk K (.ref q.1),K.lookup q.1,getL "index" (JW K (q.1 - 1)),(K.lookup (q.1 - 1)).map λo=>(o.cls,o.dict,o.slots)),JX K)
noncomputable def vF:=((gtL.zipIdx.map λ(q:(ay×bc)×Nat)=>(ae (ae (cZ q.1.1)),ae (ae (cZ 43)),ae aJ,ae (Aa 60 (q.1.1 - 1)),ae (ae (jS q.2 (394+10*q.2))),ae (lW "dict",(av:Option ay),(#[]:Array (Option aj))))),ae aH)
noncomputable def Fl(K:gn):=(oA K,oB K,oC K,oD K,oE K,oF K)
noncomputable def NQ:=(vA,vB,vC,vD,vE,vF)
def JY(_:eo)(h:dI):Prop:=∃K:gn,K.In h/\K.lookup 272=av/\K.lookup 304=av/\Fl K=NQ/\∀P∈[272,304],h.get? P=ae (tabObj #[])
structure Cx where
 w:eo
 s:aq
 mg:bc->Option aj
def CV(c:Cx):Prop:=∀(q:d7) (loose:List bc) (RR:WRecords) (XP:(bc->Option aj)->dI->Prop) (s0:aq) (mb:bc->Option aj) (fa:ay) (args:List WData) (bF:List aj) (cl:bc->Option ay) (mean:ExcName->Option aj) (E:aj->aq->Prop),
 Ground q loose RR XP c.w s0 c.mg mb c.s.heap->importsNone q=aJ->JY c.w c.s.heap->c.mg "law"=ae (.ref fa)->c.s.gens=#[]->(cR.row.toRowW.claim).pre args=aJ->WellAll c.w.params c.s.heap bF args->
 aS (aX cR.row.toRowW.prog c.w) callerA (Jm (.ref fa) bF) (λv s'=>GoodWG (cR.row.toRowW.claim) cl mean args c.s (.ok (.ret v)) s') E c.s
theorem P5:Nonempty Cx:=⟨⟨⟨λz z=>0,{strHash:=λz=>0,shareClass:=λz=>0,mergeTok:=λt=>t,idOf:=λz=>0,idOfShared:=λz z=>0,followText:=λz=>aH,idOfImm:=λz=>0}⟩,{},λz=>av⟩⟩
@[irreducible] noncomputable def cx:Cx:=@Classical.epsilon Cx P5 λc=>¬CV c
theorem JZ(h:CV cx)(c:Cx):CV c:=bN λn=>by
 unfold cx at h;exact @Classical.epsilon_spec_aux Cx P5 (λc=>¬CV c) ⟨c,n⟩ h
theorem zG:Nonempty aq:=⟨{}⟩
theorem E1:Nonempty eo:=⟨cx.w⟩
theorem Fm:Nonempty bo:=⟨callerA⟩
theorem cM:Nonempty ay:=inferInstance
theorem gM:Nonempty aj:=inferInstance
theorem neE:Nonempty iE:=inferInstance
theorem sU:Nonempty d7:=inferInstance
section
variable {s:aq}{h':dI}{k:Nat}
inductive V where
 |none|bool (b:Bool)|int (i:Int)|str (s:bc)|bytes (b:Array UInt8)
 |tup (xs:List V)|list (xs:List V)|dict (es:List (bc×V))|ent (xs:List V)
 |ref (a:ay)|type (n:String)|bi (id:String)
theorem neV:Nonempty V:=⟨.none⟩
noncomputable abbrev bI:=ay->Option oX
def bI.le(Z Z':bI):Prop:=∀a o,Z a=ae o->Z' a=ae o
theorem bI.le_refl(Z:bI):Z.le Z:=λz z e=>e
theorem bI.le_trans{Z Z' PA:bI}(x:Z.le Z')(y:Z'.le PA):Z.le PA:=λa o e=>y a o (x a o e)
noncomputable def bI.put(Z:bI)(a:ay)(o:oX):bI:=λb=>if b=a then ae o else Z b
theorem bI.le_put{Z:bI}{a:ay}{o:oX}(h:Z a=av):Z.le (Z.put a o):=λb p e=>by
 unfold bI.put;by_cases hb:b=a
 ·subst hb;rw [h] at e;exact gL e
 ·refine ai (if_neg hb ..) ?_;exact e
theorem bI.put_self(Z:bI)(a:ay)(o:oX):Z.put a o a=ae o:=if_pos rfl
structure Gd where
 prog:d7
 w:eo
 Z0:bI
 mg:bc->Option aj
 os:vg
 ent:ay
noncomputable def hG(w:eo)(s:aq)(mg:bc->Option aj):Gd:={prog:=cR.row.toRowW.prog,w:=w,Z0:=λa=>if a=272\/a=304 then av else s.heap.get? a,mg:=mg,os:=s.os,ent:=162}
@[irreducible] noncomputable def G:Gd:=hG cx.w cx.s cx.mg
theorem HQ:hG cx.w cx.s cx.mg=G:=by unfold G;rfl
noncomputable abbrev oG(vs:Array aj)(n:Nat):oX:={cls:= .type "list",data:= .seq vs n}
def By(G:Gd)(o:oX)(kvs:List (bc×aj)):Prop:=
 o.ExactDict/\∃es ep,o.data= .dict es ep/\KeysOf (strKind G.prog G.w) es/\Pairs (strKind G.prog G.w) es.toList kvs/\(kvs.map (·.1)).Nodup
mutual
inductive aZ(G:Gd)(Z:bI):aj->V->Prop
 |none:aZ G Z .none .none
 |bool (b):aZ G Z (.bool b) (.bool b)
 |int (i t):aZ G Z (.int i t) (.int i)
 |str (x t):aZ G Z (.str x t) (.str x)
 |bytes (b t):aZ G Z (.bytes b t) (.bytes b)
 |type (n):aZ G Z (.type n) (.type n)
 |bi (n):aZ G Z (.builtin n) (.bi n)
 |ref (a):aZ G Z (.ref a) (.ref a)
 |tup {a o vs n xs:_}:Z a=ae o->o.cls= .type "tuple"->o.data= .seq vs n->bW G Z vs.toList xs->aZ G Z (.ref a) (.tup xs)
 |list {a vs n xs:_}:Z a=ae (oG vs n)->bW G Z vs.toList xs->aZ G Z (.ref a) (.list xs)
 |ent {a o vs n xs:_}:Z a=ae o->o.cls= .ref G.ent->o.data= .seq vs n->bW G Z vs.toList xs->aZ G Z (.ref a) (.ent xs)
 |dict {a o kvs xs:_}:(a == lX)=aH->Z a=ae o->By G o kvs->kvs.map (·.1)=xs.map (·.1)->bW G Z (kvs.map (·.2)) (xs.map (·.2))->aZ G Z (.ref a) (.dict xs)
inductive bW(G:Gd)(Z:bI):List aj->List V->Prop
 |nil:bW G Z [] []
 |cons {v vs x xs:_}:aZ G Z v x->bW G Z vs xs->bW G Z (v::vs) (x::xs)
end
theorem bI.le.trans{Z Z' PA:bI}(x:Z.le Z')(y:Z'.le PA):Z.le PA:=λa o e=>y a o (x a o e)
theorem bI.le.rfl{Z:bI}:Z.le Z:=λz z e=>e
section
variable {Z Z':bI}{v:aj}
theorem aZ.both{P:aj->V->Prop}{Q:List aj->List V->Prop}(av:P .none .none)(bool:∀b,P (.bool b) (.bool b))(int:∀i t,P (.int i t) (.int i))(str:∀x t,P (.str x t) (.str x))(bytes:∀b t,P (.bytes b t) (.bytes b))
 (type:∀n,P (.type n) (.type n)) (bi:∀n,P (.builtin n) (.bi n)) (ref:∀a,P (.ref a) (.ref a))
 (tup:∀{a o vs n xs},Z a=ae o->o.cls= .type "tuple"->o.data= .seq vs n->Q vs.toList xs->P (.ref a) (.tup xs)) (list:∀{a vs n xs},Z a=ae (oG vs n)->Q vs.toList xs->P (.ref a) (.list xs))
 (ent:∀{a o vs n xs},Z a=ae o->o.cls= .ref G.ent->o.data= .seq vs n->Q vs.toList xs->P (.ref a) (.ent xs))
 (dict:∀{a o kvs xs},(a == lX)=aH->Z a=ae o->By G o kvs->kvs.map (·.1)=xs.map (·.1)->Q (kvs.map (·.2)) (xs.map (·.2))->P (.ref a) (.dict xs))
 (nil:Q [] []) (cons:∀{v vs x xs},P v x->bW G Z vs xs->Q vs xs->Q (v::vs) (x::xs)):(∀{v x},aZ G Z v x->P v x)/\∀{vs xs},bW G Z vs xs->Q vs xs:=
 have f:∀{v x},(h:aZ G Z v x)->P v x:=λ{z z} h=>aZ.rec (motive_1:=λv x z=>P v x) (motive_2:=λvs xs z=>Q vs xs) av bool int str bytes type bi ref (λ{z z z z z} e c d z q=>tup e c d q) (λ{z z z z} e z q=>list e q) (λ{z z z z z} e c d z q=>ent e c d q) (λ{z z z z} s e d k z q=>dict s e d k q) nil (λ{z z z z} z r p q=>cons p r q) h
 ⟨f,λ{z z} h=>bW.rec (motive_1:=λv x z=>P v x) (motive_2:=λvs xs z=>Q vs xs) av bool int str bytes type bi ref (λ{z z z z z} e c d z q=>tup e c d q) (λ{z z z z} e z q=>list e q) (λ{z z z z z} e c d z q=>ent e c d q) (λ{z z z z} s e d k z q=>dict s e d k q) nil (λ{z z z z} z r p q=>cons p r q) h⟩
theorem aZ.monos(h:Z.le Z'):(∀{v x},aZ G Z v x->aZ G Z' v x)/\∀{vs xs},bW G Z vs xs->bW G Z' vs xs:=
 aZ.both (P:=aZ G Z') (Q:=bW G Z') .none .bool .int .str .bytes .type .bi .ref (λ{z z z z z} e=> .tup (h _ _ e)) (λ{z z z z} e=> .list (h _ _ e)) (λ{z z z z z} e=> .ent (h _ _ e)) (λ{z z z z} s e=> .dict s (h _ _ e)) .nil (λ{z z z z} p z q=> .cons p q)
theorem aZ.mono(h:Z.le Z'){x:V}(r:aZ G Z v x):aZ G Z' v x:=(aZ.monos h).1 r
theorem bW.mono(h:Z.le Z'){vs:List aj}{xs:List V}(r:bW G Z vs xs):bW G Z' vs xs:=(aZ.monos h).2 r
@[elab_as_elim] theorem bW.ind{P:List aj->List V->Prop}{vs:List aj}{xs:List V}(h:bW G Z vs xs)(nil:P [] [])(cons:∀{v vs x xs},aZ G Z v x->bW G Z vs xs->P vs xs->P (v::vs) (x::xs)):P vs xs:=
 bW.rec (motive_1:=λz z z=>True) (motive_2:=λvs xs z=>P vs xs) trivial (λz=>trivial) (λz z=>trivial) (λz z=>trivial) (λz z=>trivial) (λz=>trivial) (λz=>trivial) (λz=>trivial) (λ{z z z z z} z z z z z=>trivial) (λ{z z z z} z z z=>trivial) (λ{z z z z z} z z z z z=>trivial) (λ{z z z z} z z z z z z=>trivial) nil (λ{z z z z} a r z q=>cons a r q) h
noncomputable def aZ.by(Z:bI)(v:aj):V->Prop
 | .none=>v= .none
 | .bool b=>v= .bool b
 | .int i=>∃t,v= .int i t
 | .str x=>∃t,v= .str x t
 | .bytes b=>∃t,v= .bytes b t
 | .type n=>v= .type n
 | .bi n=>v= .builtin n
 | .ref a=>v= .ref a
 |_=>True
theorem aZ.is{x:V}(h:aZ G Z v x):aZ.by Z v x:=by cases h <;> first|rfl|exact ⟨_,rfl⟩|trivial
variable {P:aj->Prop}
@[elab_as_elim] theorem aZ.intC{i:Int}(h:aZ G Z v (.int i))(c:∀t,P (.int i t)):P v:=by obtain ⟨t,rfl⟩:=h.is;exact c t
@[elab_as_elim] theorem aZ.strC{x:bc}(h:aZ G Z v (.str x))(c:∀t,P (.str x t)):P v:=by obtain ⟨t,rfl⟩:=h.is;exact c t
theorem aZ.boolE{b:Bool}(h:aZ G Z v (.bool b)):v= .bool b:=h.is
theorem aZ.noneE(h:aZ G Z v .none):v= .none:=h.is
theorem aZ.refE{a:ay}(h:aZ G Z v (.ref a)):v= .ref a:=h.is
theorem aZ.typeE{n:String}(h:aZ G Z v (.type n)):v= .type n:=h.is
theorem aZ.biE{n:String}(h:aZ G Z v (.bi n)):v= .builtin n:=h.is
end
section
variable {Z:bI}
theorem bW.length{vs:List aj}{xs:List V}(h:bW G Z vs xs):vs.length=xs.length:=h.ind rfl λ{z z z z} z z e=>congrArg xh e
theorem bW.get{vs:List aj}{xs:List V}(h:bW G Z vs xs){i:Nat}{x:V}:xs[i]? =ae x->∃v,vs[i]? =ae v/\aZ G Z v x:=
 h.ind (P:=λvs xs=>∀(i:Nat) (x:V),xs[i]? =ae x->∃v,vs[i]? =ae v/\aZ G Z v x) (λz z e=>gL e) (λ{v vs x xs} a z ih i=>i.casesOn (λz e=>⟨v,rfl,aO e▸a⟩) λi x e=>ih i x e) i x
theorem bW.get'{vs:List aj}{xs:List V}(h:bW G Z vs xs){i:Nat}{v:aj}:vs[i]? =ae v->∃x,xs[i]? =ae x/\aZ G Z v x:=
 h.ind (P:=λvs xs=>∀(i:Nat) (v:aj),vs[i]? =ae v->∃x,xs[i]? =ae x/\aZ G Z v x) (λz z e=>gL e) (λ{v vs x xs} a z ih i=>i.casesOn (λz e=>⟨x,rfl,aO e▸a⟩) λi v e=>ih i v e) i v
theorem bW.append{vs ws:List aj}{xs ys:List V}(h:bW G Z vs xs)(k:bW G Z ws ys):bW G Z (vs++ws) (xs++ys):=h.ind k λ{z z z z} a z r=> .cons a r
theorem bW.snoc{vs:List aj}{xs:List V}{v:aj}{x:V}(h:bW G Z vs xs)(e:aZ G Z v x):bW G Z (vs++[v]) (xs++[x]):=h.append (.cons e .nil)
theorem bW.ofGets:∀{vs:List aj} {xs:List V},vs.length=xs.length->(∀(i:Nat) (v:aj) (x:V),vs[i]? =ae v->xs[i]? =ae x->aZ G Z v x)->bW G Z vs xs:=λ{vs}=>by
 induction vs with
 |nil=>intro xs hl z;cases xs with
  |nil=>exact .nil
  |cons=>cases hl
 |cons v vs ih=>intro xs hl h;cases xs with
  |nil=>cases hl
  |cons x xs=>exact .cons (h 0 v x rfl rfl) (ih (Nat.succ.inj hl) λi a b ha hb=>h (i+1) a b ha hb)
end
structure cY where
 own:List ay
 sat:bI->dI->Prop
 mono:∀Z Z' h,Z.le Z'->sat Z h->sat Z' h
 loc:∀Z h h',sat Z h->(∀b∈own,∀o,h.get? b=ae o->h'.get? b=ae o)->(∀a o,Z a=ae o->h.get? a=ae o)->(∀a o,Z a=ae o->h'.get? a=ae o)->sat Z h'
 live:∀Z h,sat Z h->∀b∈own,∃o,h.get? b=ae o
noncomputable abbrev Mu:=List (cY)
noncomputable def gU(mu:Mu):List ay:=mu.flatMap (·.own)
structure R(Z:bI)(mu:Mu)(s:aq):Prop where
 z0:G.Z0.le Z
 zin:∀a o,Z a=ae o->s.heap.get? a=ae o
 sat:∀x∈mu,x.sat Z s.heap
 nodup:(gU mu).Nodup
 sep:∀b∈gU mu,Z b=av
 gens:s.gens=#[]
 os:s.os=G.os
section
variable {Z Z':bI}{mu:Mu}{s':aq}{tk:Nat}
theorem R.liveAll(r:R Z mu s){b:ay}(hb:b∈gU mu):∃o,s.heap.get? b=ae o:=by exact aK (bG.mp hb) λx hx hb=>x.live _ _ (r.sat x hx) b hb
theorem R.fresh(r:R Z mu s){a:ay}(ha:s.heap.objs.size<=a):Z a=av:=by
 cases e:Z a with
 |none=>rfl
 |some o=>exact absurd (bM (r.zin a o e)) (Jn.mpr ha)
theorem R.notOwn(r:R Z mu s){a:ay}(ha:s.heap.objs.size<=a):a∉gU mu:=λhb=>by
 exact cK (r.liveAll hb) λo ho=>absurd (bM ho) (Jn.mpr ha)
theorem R.keep(r:R Z mu s)(hk:∀b o,s.heap.get? b=ae o->h'.get? b=ae o):R Z mu {s with heap:=h',toks:=tk} where
 z0:=r.z0
 zin:=λa o e=>hk a o (r.zin a o e)
 sat:=λx hx=>x.loc _ _ _ (r.sat x hx) (λb z o e=>hk b o e) r.zin λa o e=>hk a o (r.zin a o e)
 nodup:=r.nodup
 sep:=r.sep
 gens:=r.gens
 os:=r.os
theorem R.keeps(r:R Z mu s)(hk:Keeps s s'):R Z mu s':=by refine eD hk λh tk dP k=>?_;clear hk;subst dP;exact r.keep k
theorem R.toks(r:R Z mu s):R Z mu {s with toks:=tk}:=r.keep (h':=s.heap) λz z e=>e
theorem R.grow(r:R Z mu s)(hz:Z.le Z')(qi:∀a o,Z' a=ae o->s.heap.get? a=ae o)(hs:∀b∈gU mu,Z' b=av):R Z' mu s where
 z0:=bI.le_trans r.z0 hz
 zin:=qi
 sat:=λx hx=>x.mono _ _ _ hz (r.sat x hx)
 nodup:=r.nodup
 sep:=hs
 gens:=r.gens
 os:=r.os
theorem R.freeze(r:R Z mu s){a:ay}{o:oX}(ha:s.heap.get? a=ae o)(hz:Z a=av)(ho:a∉gU mu):R (Z.put a o) mu s:=
 r.grow (bI.le_put hz) (λb p e=>by
  unfold bI.put at e;by_cases hb:b=a
  ·subst hb;rw [if_pos rfl] at e;(have lz:=aO e;clear e;subst lz);exact ha
  ·rw [if_neg hb] at e;exact r.zin b p e) λb hb=>by
  unfold bI.put;have iQ:b≠a:=λe=>ho (e▸hb);exact ai (if_neg iQ ..) (r.sep b hb)
theorem R.push(r:R Z mu s)(o:oX):R Z mu {s with heap:=s.heap.push o}:=
 r.keep (tk:=s.toks) λz z e=>az o e
theorem R.pushZ(r:R Z mu s){o:oX}(hf:autoParam (o.isFreed=aH) aR):R (Z.put s.heap.objs.size o) mu {s with heap:=s.heap.push o}:=
 (r.push o).freeze (aW _ hf) (r.fresh (bp _)) (r.notOwn (bp _))
theorem R.add(r:R Z mu s)(x:cY)(hx:x.sat Z s.heap)(hn:x.own.Nodup)(ho:∀b∈x.own,b∉gU mu/\Z b=av):R Z (x::mu) s where
 z0:=r.z0
 zin:=r.zin
 sat:=λy hy=>by
  rcases aP.mp hy with rfl|hy
  ·exact hx
  ·exact r.sat y hy
 nodup:=by show (x.own++gU mu).Nodup;exact gj (bO ..) (⟨hn,r.nodup,λa ha b hb e=>(ho a ha).1 (e▸hb)⟩)
 sep:=λb hb=>by
  rcases bb.mp (show b∈x.own++gU mu from hb) with hb|hb
  ·exact (ho b hb).2
  ·exact r.sep b hb
 gens:=r.gens
 os:=r.os
theorem R.drop{x:cY}(r:R Z (x::mu) s):R Z mu s where
 z0:=r.z0
 zin:=r.zin
 sat:=λy hy=>r.sat y (.tail _ hy)
 nodup:=(bO.mp (show (x.own++gU mu).Nodup from r.nodup)).2.1
 sep:=λb hb=>r.sep b (bK (as:=x.own) hb)
 gens:=r.gens
 os:=r.os
theorem oH(a b:Mu):gU (a++b)=gU a++gU b:=Ul
theorem R.sub{nu:Mu}(r:R Z mu s)(hs:∀x∈nu,x∈mu)(hn:(gU nu).Nodup):R Z nu s where
 z0:=r.z0
 zin:=r.zin
 sat:=λy hy=>r.sat y (hs y hy)
 nodup:=hn
 sep:=λb hb=>by
  exact aK (bG.mp hb) λx hx hb=>r.sep b (bG.mpr ⟨x,hs x hx,hb⟩)
 gens:=r.gens
 os:=r.os
theorem rm{nu mu:Mu}(h:nu.Sublist mu)(hn:(gU mu).Nodup):(gU nu).Nodup:=by
 induction h with
 |slnil=>exact hn
 |cons a _ ih=>exact ih (bO.mp (show (a.own++gU _).Nodup from hn)).2.1
 |cons_cons a h ih=>have h2:=bO.mp (show (a.own++gU _).Nodup from hn);show (a.own++gU _).Nodup;refine gj (bO ..) (⟨h2.1,ih h2.2.1,λx hx y hy e=>h2.2.2 x hx y ?_ e⟩);exact aK (bG.mp hy) λz hz hy=>bG.mpr ⟨z,h.subset hz,hy⟩
theorem R.sublist{nu:Mu}(r:R Z mu s)(h:nu.Sublist mu):R Z nu s:=r.sub (λz hx=>h.subset hx) (rm h r.nodup)
theorem gh{α:Type}:∀{l:List α} {i:Nat} {x:α},l[i]? =ae x->l=l.take i++x::l.drop (i+1)
 |_::_,0,_,e=>by simp at e;subst e;rfl
 |a::l,i+1,x,e=>by
  rw [uf] at e;have:=gh e;simp only [jb,Um,fU];refine fZ (this ..) ?_;rfl
theorem jZ{α:Type}:∀{l:List α} {i:Nat} {x:α} (y:α),l[i]? =ae x->l.set i y=l.take i++y::l.drop (i+1)
 |_::_,0,_,_,e=>by rfl
 |a::l,i+1,x,y,e=>by
  rw [uf] at e;simp only [List.set_cons_succ,jb,Um,fU];refine ai (jZ y e ..) ?_;rfl
theorem R.upd{i:Nat}{x x':cY}(r:R Z mu s)(hi:mu[i]? =ae x)(qb:x'.own=x.own)
 (hk:∀b o,b∉x.own->s.heap.get? b=ae o->h'.get? b=ae o) (hz:Z.le Z') (qi:∀a o,Z' a=ae o->h'.get? a=ae o) (hs:∀b∈gU mu,Z' b=av)
 (Gw:x'.sat Z' h'):R Z' (mu.set i x') {s with heap:=h',toks:=tk}:=by
 have e1:=gh hi;have e2:=jZ x' hi;have hn:(gU (mu.take i)++(x.own++gU (mu.drop (i+1)))).Nodup:=by have:=r.nodup;rw [e1,oH] at this;exact this
 have ho:gU (mu.set i x')=gU mu:=by
  refine ai (e2 ..) ?_;refine ai (oH ..) ?_
  conv=>rhs;rw [e1,oH]
  show _++(x'.own++_)=_++(x.own++_);rw [qb]
 have hap:=bO.mp hn;have hap2:=bO.mp hap.2.1;refine ⟨bI.le_trans r.z0 hz,qi,λy hy=>?_,by rw [ho];exact r.nodup,by rw [ho];exact hs,r.gens,r.os⟩;rw [e2] at hy;have old:∀y,y∈mu->(∀b∈y.own,b∉x.own)->y.sat Z' h':=λy hy hd=>
  y.mono _ _ _ hz (y.loc _ _ _ (r.sat y hy) (λb hb o e=>hk b o (hd b hb) e) r.zin λa o e=>qi a o (hz a o e))
 rcases bb.mp hy with hy|hy
 ·refine old y (pv hy) λb hb hx=>hap.2.2 b (bG.mpr ⟨y,hy,hb⟩) b (aE _ hx) rfl
 ·rcases aP.mp hy with rfl|hy
  ·exact Gw
  ·exact old y (gp hy) λb hb hx=>hap2.2.2 b hx b (bG.mpr ⟨y,hy,hb⟩) rfl
theorem R.upd'{i:Nat}{x x':cY}(r:R Z mu s)(hi:mu[i]? =ae x)(qb:x'.own=x.own)
 (hk:∀b o,b∉x.own->s.heap.get? b=ae o->h'.get? b=ae o) (Gw:x'.sat Z h'):R Z (mu.set i x') {s with heap:=h',toks:=tk}:=
 r.upd hi qb hk (bI.le_refl Z) (λa o e=>hk a o (λhx=>by
  have:=r.sep a (bG.mpr ⟨x,ao hi,hx⟩);rw [this] at e;exact gL e) (r.zin a o e)) r.sep Gw
end
theorem R.dropUpd{Z:bI}{mu:Mu}{s:aq}{x:cY}{h':dI}{tk:Nat}(r:R Z (x::mu) s)(hk:∀b o,b∉x.own->s.heap.get? b=ae o->h'.get? b=ae o):R Z mu {s with heap:=h',toks:=tk}:=by
 have hz:∀a o,Z a=ae o->h'.get? a=ae o:=λa o e=>hk a o (λhx=>by
  have:=r.sep a (aE (gU mu) hx);rw [this] at e;exact gL e) (r.zin a o e)
 have hn:=bO.mp (show (x.own++gU mu).Nodup from r.nodup);exact {
  z0:=r.z0
  zin:=hz
  sat:=λy hy=>y.loc _ _ _ (r.sat y (.tail _ hy)) (λb hb o e=>hk b o (λhx=>hn.2.2 b hx b (bG.mpr ⟨y,hy,hb⟩) rfl) e) r.zin hz
  nodup:=hn.2.1
  sep:=λb hb=>r.sep b (bK x.own hb)
  gens:=r.gens
  os:=r.os}
theorem R.left{Z:bI}{mu fr:Mu}{s:aq}(r:R Z (mu++fr) s):R Z mu s:=r.sublist (List.sublist_append_left mu fr)
theorem R.right{Z:bI}{mu fr:Mu}{s:aq}(r:R Z (mu++fr) s):R Z fr s:=r.sublist (List.sublist_append_right mu fr)
theorem R.perm{Z:bI}{mu nu:Mu}{s:aq}(r:R Z mu s)(h:mu.Perm nu):R Z nu s:=
 r.sub (λx hx=>h.mem_iff.mpr hx) ((List.Perm.flatMap_right (λx:cY=>x.own) h).nodup_iff.mp (show (mu.flatMap λx=>x.own).Nodup from r.nodup))
structure Rm(k:Nat)(A:bo):Prop where
 hh:A.handled=av
 dep:A.depth+k<=900
 uni:A.units+10*k<=9000
theorem Rm.le{k j:Nat}{A:bo}(r:Rm k A)(h:j<=k):Rm j A:=⟨r.hh,aw (qj h _) r.dep,aw (qj (Un 10 h) _) r.uni⟩
theorem Rm.deeper{k:Nat}{A:bo}(r:Rm (k+1) A)(env:iE):Rm k (A.deeper env):=
 ⟨r.hh,by have:=r.dep;show A.depth+1+k<=900;lia,by have:=r.uni;show A.units+3+10*k<=9000;lia⟩
theorem Rm.in1{k:Nat}{A:bo}(r:Rm (k+1) A):Rm k A.in1:=
 ⟨r.hh,by have:=r.dep;show A.depth+k<=900;lia,by have:=r.uni;show A.units+1+10*k<=9000;lia⟩
theorem Rm.units{k:Nat}{A:bo}(r:Rm k A):A.units < cLine:=by have:=r.uni;show A.units < 9900;lia
theorem Rm.depth{k:Nat}{A:bo}(r:Rm k A):A.depth < recursionLimit:=by have:=r.dep;show A.depth < 1000;lia
structure WV(k:Nat)(mu:Mu)(t:oY aj)(Φ:V->Mu->Prop):Prop where
 c:∀{A:bo} {E:aj->aq->Prop} {Z:bI} {s:aq} {fr:Mu} {Q:aj->aq->Prop},Rm k A->R Z (mu++fr) s->
  (∀{v s' Z' x nu},Z.le Z'->aZ G Z' v x->R Z' (nu++fr) s'->Φ x nu->Q v s')->aS (aX G.prog G.w) A t Q E s
structure Vw where
 p:bI->aj->Prop
 mono:∀Z Z' v,Z.le Z'->p Z v->p Z' v
theorem Q0:Nonempty bI:=⟨λz=>av⟩
theorem neVw:Nonempty (Vw):=⟨⟨λz z=>True,λz z z z z=>trivial⟩⟩
noncomputable def bZ(x:V):Vw:=⟨λZ v=>aZ G Z v x,λz z z h r=>r.mono h⟩
structure EV(k:Nat)(mu:Mu)(env:iE)(e:bP)(P:Vw):Prop where
 c:∀{A:bo} {E:aj->aq->Prop} {Z:bI} {s:aq} {fr:Mu} {Q:aj->aq->Prop},Rm k A->R Z (mu++fr) s->
  (∀{v s' Z'},Z.le Z'->P.p Z' v->R Z' (mu++fr) s'->Q v s')->aS (aX G.prog G.w) A (dW e env) Q E s
abbrev PE(k:Nat)(mu:Mu)(env:iE)(e:bP)(x:V):Prop:=EV k mu env e (bZ x)
abbrev WE(k:Nat)(mu:Mu)(env:iE)(e:bP)(Φ:V->Mu->Prop):Prop:=WV k mu (dW e env) Φ
structure WB(k:Nat)(mu:Mu){α:Type}(t:oY α)(b:α):Prop where
 c:∀{A:bo} {E:aj->aq->Prop} {Z:bI} {s:aq} {fr:Mu} {Q:α->aq->Prop},Rm k A->R Z (mu++fr) s->
  (∀{s' Z'},Z.le Z'->R Z' (mu++fr) s'->Q b s')->aS (aX G.prog G.w) A t Q E s
abbrev PT(k:Nat)(mu:Mu)(env:iE)(e:bP)(b:Bool):Prop:=WB k mu (isTrue e env (dW e env)) b
inductive AF where
 |next|brk|cont|ret (x:V)
inductive oZ(G:Gd)(Z:bI):ug->AF->Prop
 |next:oZ G Z .next .next
 |brk:oZ G Z .brk .brk
 |cont:oZ G Z .cont .cont
 |ret {v x:_}:aZ G Z v x->oZ G Z (.ret v) (.ret x)
structure WF(k:Nat)(mu:Mu)(t:oY ug)(Φ:AF->Mu->Prop):Prop where
 c:∀{A:bo} {E:aj->aq->Prop} {Z:bI} {s:aq} {fr:Mu} {Q:ug->aq->Prop},Rm k A->R Z (mu++fr) s->
  (∀{f s' Z' a nu},Z.le Z'->oZ G Z' f a->R Z' (nu++fr) s'->Φ a nu->Q f s')->aS (aX G.prog G.w) A t Q E s
abbrev WS(k:Nat)(mu:Mu)(env:iE)(st:List ed)(Φ:AF->Mu->Prop):Prop:=WF k mu (Jo st env) Φ
abbrev WX(k:Nat)(mu:Mu)(env:iE)(st:ed)(Φ:AF->Mu->Prop):Prop:=WF k mu (exec st env) Φ
structure Wu(k:Nat)(mu:Mu){α:Type}(t:oY α)(b:α)(Ψ:Mu->Prop):Prop where
 c:∀{A:bo} {E:aj->aq->Prop} {Z:bI} {s:aq} {fr:Mu} {Q:α->aq->Prop},Rm k A->R Z (mu++fr) s->
  (∀{s' Z' nu},Z.le Z'->R Z' (nu++fr) s'->Ψ nu->Q b s')->aS (aX G.prog G.w) A t Q E s
abbrev WU(k:Nat)(mu:Mu)(t:oY Unit)(Ψ:Mu->Prop):Prop:=Wu k mu t () Ψ
section
variable {mu:Mu}
theorem WV.mono{t:oY aj}{Φ Ψ:V->Mu->Prop}(h:WV k mu t Φ)(hi:∀x nu,Φ x nu->Ψ x nu):WV k mu t Ψ:=⟨λ{y y y y y y} hA r q=>h.c hA r λ{y y y y y} z a b p=>q z a b (hi _ _ p)⟩
end
variable {Z Z':bI}{mu:Mu}{j i:Nat}{env:iE}{L:ay}{y:V}{p:lF}
noncomputable abbrev E3:=List (bc×Option ay)
noncomputable abbrev eL:=List (Option V)
noncomputable def fH(Z:bI)(h:dI)(m:bc->Option aj)(x:bc):Option ay->Option V->Prop
 |none,av=>True
 |none,ae y=>∃v,m x=ae v/\aZ G Z v y
 |some c,av=>∃ov,h.IsCell c ov
 |some c,ae y=>∃v,h.IsCell c (ae v)/\aZ G Z v y
def ea(Z:bI)(h:dI)(m:bc->Option aj)(lay:E3)(bF:eL):Prop:=∀(j:Nat) (x:bc) (c:Option ay),lay[j]? =ae (x,c)->∃o,bF[j]? =ae o/\fH Z h m x c o
section
variable {h:dI}{m m':bc->Option aj}{lay:E3}{bF:eL}{x:bc}{c:Option ay}{o o':Option V}
theorem fH.mono(hz:Z.le Z')(s:fH Z h m x c o):fH Z' h m x c o:=by
 cases c <;> cases o
 ·trivial
 ·obtain ⟨v,a,b⟩:=s;exact ⟨v,a,b.mono hz⟩
 ·exact s
 ·obtain ⟨v,a,b⟩:=s;exact ⟨v,a,b.mono hz⟩
theorem ea.mono(hz:Z.le Z')(s:ea Z h m lay bF):ea Z' h m lay bF:=λj x c e=>(s j x c e).imp λz q=>⟨q.1,q.2.mono hz⟩
theorem IsCell.at{c:ay}{v:Option aj}(x:h.IsCell c v)(hk:∀o,h.get? c=ae o->h'.get? c=ae o):h'.IsCell c v:=x.imp λo q=>⟨hk o q.1,q.2⟩
theorem fH.loc(s:fH Z h m x c o)(hk:∀b,c=ae b->∀o,h.get? b=ae o->h'.get? b=ae o)(hm:m' x=m x):fH Z h' m' x c o:=by
 cases c <;> cases o
 ·trivial
 ·obtain ⟨v,a,b⟩:=s;exact ⟨v,hm.trans a,b⟩
 ·obtain ⟨ov,a⟩:=s;exact ⟨ov,IsCell.at a (hk _ rfl)⟩
 ·obtain ⟨v,a,b⟩:=s;exact ⟨v,IsCell.at a (hk _ rfl),b⟩
theorem CW{b:ay}(e:lay[j]? =ae (x,ae b)):b∈lay.filterMap (·.2):=fV.mpr ⟨_,ao e,rfl⟩
theorem ea.loc(s:ea Z h m lay bF)(hk:∀b∈lay.filterMap (·.2),∀o,h.get? b=ae o->h'.get? b=ae o)(hm:∀x∈lay.map (·.1),m' x=m x):ea Z h' m' lay bF:=
 λj x c e=>(s j x c e).imp λz q=>⟨q.1,q.2.loc (λb hb=>hk b (CW (hb▸e))) (hm x (aG.mpr ⟨_,ao e,rfl⟩))⟩
theorem ea.live(s:ea Z h m lay bF)(b:ay)(hb:b∈lay.filterMap (·.2)):∃o,h.get? b=ae o:=by
 refine aK (fV.mp hb) λq h1 h2=>cK (Td h1) λj hj=>aK (s j q.1 (ae b) (hj.trans (congrArg (λc=>ae (q.1,c)) h2))) λo z hs=>?_;cases o with
 |none=>exact hs.elim λz w=>w.imp λz q=>q.1
 |some y=>exact hs.elim λz w=>w.1.imp λz q=>q.1
theorem Bz(hn:(lay.filterMap (·.2)).Nodup){i:Nat}{y:bc}{b:ay}(hi:lay[i]? =ae (x,ae b))(hj:lay[j]? =ae (y,ae b)):i=j:=by
 have key:∀{i j:Nat} {x y:bc},i < j->lay[i]? =ae (x,ae b)->lay[j]? =ae (y,ae b)->False:=λ{z z z z} hlt hi hj=>by
  exact cK (aB.mp hi) λh1 e1=>cK (aB.mp hj) λh2 e2=>JP.mp (List.pairwise_filterMap.mp hn) _ _ h1 h2 hlt b (by (refine ai (e1 ..) ?_;rfl)) b (by (refine ai (e2 ..) ?_;rfl)) rfl
 exact (sJ i j).elim (λq=>(key q hi hj).elim) λq=>q.elim id λq=>(key q hj hi).elim
theorem BA(hn:(lay.map (·.1)).Nodup){i:Nat}{c d:Option ay}(hi:lay[i]? =ae (x,c))(hj:lay[j]? =ae (x,d)):i=j:=by
 have key:∀{i j:Nat} {c d:Option ay},i < j->lay[i]? =ae (x,c)->lay[j]? =ae (x,d)->False:=λ{z z z z} hlt hi hj=>by
  exact cK (aB.mp hi) λh1 e1=>cK (aB.mp hj) λh2 e2=>JP.mp (List.pairwise_map.mp hn) _ _ h1 h2 hlt (by (refine ai (e1 ..) ?_;refine ai (e2 ..) ?_;rfl))
 exact (sJ i j).elim (λq=>(key q hi hj).elim) λq=>q.elim id λq=>(key q hj hi).elim
theorem CX(hv:bF[j]? =ae o):(bF.set j o')[j]? =ae o':=eA (aB.mp hv).1
theorem ea.set(s:ea Z h m lay bF)(e:lay[j]? =ae (x,c))(hs:fH Z h' m' x c o)(hn:(lay.map (·.1)).Nodup)(hc:(lay.filterMap (·.2)).Nodup)(hm:∀y,y≠x->m' y=m y)
 (hk:∀b∈lay.filterMap (·.2),c≠ae b->∀o,h.get? b=ae o->h'.get? b=ae o):ea Z h' m' lay (bF.set j o):=λi y d q=>by
 refine aK (s i y d q) λp hv w=>?_;by_cases Bn:j=i
 ·subst Bn;cases e.symm.trans q;exact ⟨o,CX hv,hs⟩
 ·exact ⟨p,(kH Bn).trans hv,w.loc (λb hb=>hk b (CW (hb▸q)) λQD=>Bn (Bz hc (QD▸e) (hb▸q))) (hm y λhy=>Bn (BA hn e (hy▸q)))⟩
theorem ea.weak(s:ea Z h m lay bF)(e:bF[j]? =ae o)(hi:∀x c,fH Z h m x c o->fH Z h m x c o'):ea Z h m lay (bF.set j o'):=λi y d q=>by
 refine aK (s i y d q) λp hv w=>?_;by_cases Bn:j=i
 ·subst Bn;cases e.symm.trans hv;exact ⟨o',CX hv,hi _ _ w⟩
 ·exact ⟨p,(kH Bn).trans hv,w⟩
theorem ea.cons(w:fH Z h m x c o)(s:ea Z h m lay bF):ea Z h m ((x,c)::lay) (o::bF):=λi y d q=>by
 cases i with
 |zero=>cases q;exact ⟨o,rfl,w⟩
 |succ i=>exact s i y d q
end
abbrev E3.nd(lay:E3):Prop:=(lay.map (·.1)).Nodup
noncomputable def bq(L:ay)(lay:E3)(bF:eL):cY where
 own:=L::lay.filterMap (·.2)
 sat:=λZ h=>lay.nd/\∃m,h.Ns L m/\ea Z h m lay bF
 mono:=λZ Z' h hz ⟨n,m,a,b⟩=>⟨n,m,a,b.mono hz⟩
 loc:=λZ h h' ⟨n,m,a,b⟩ hk _ _=>⟨n,m,a.at' (λo e=>hk L aa o e),b.loc (λc hc=>hk c (ab _ hc)) λz z=>rfl⟩
 live:=λZ h ⟨n,m,a,b⟩ c hc=>by
  rcases aP.mp hc with rfl|hc
  ·obtain ⟨o,_,_,ho,_⟩:=a;exact ⟨o,ho⟩
  ·exact b.live c hc
structure g7(G:Gd):Prop where
 g:∀h:dI,(∀a o,G.Z0 a=ae o->h.get? a=ae o)->h.Ns vh G.mg
 b:∀h:dI,(∀a o,G.Z0 a=ae o->h.get? a=ae o)->∃mb,h.Ns builtinsNs mb/\∀x:bc,x≠"__name__"->mb x=Jp x
 lim:∀h:dI,(∀a o,G.Z0 a=ae o->h.get? a=ae o)->h.NoLimit
 sysm:∃o,G.Z0 lX=ae o
structure dz(env:iE):Prop where
 kind:env.scope.kind= .function
 globals:env.globals=vh
 builtins:env.builtins=builtinsNs
section
variable {lay:E3}{bF:eL}{x:bc}{c:ay}
theorem R.z0in(r:R Z mu s):∀a o,G.Z0 a=ae o->s.heap.get? a=ae o:=λa o e=>r.zin a o (r.z0 a o e)
theorem R.slot{lay:E3}{c:Option ay}(r:R Z mu s)(hf:bq L lay bF∈mu)(hl:lay[j]? =ae (x,c))(hv:bF[j]? =ae (ae y)):
 ∃m,s.heap.Ns L m/\fH Z s.heap m x c (ae y):=by
 refine mG (r.sat _ hf) λz m hn hs=>aK (hs _ _ _ hl) λo h1 h2=>?_;rw [hv] at h1;(have lz:=aO h1;clear h1;subst lz);exact ⟨m,hn,h2⟩
theorem Q1(he:dz env)(hk:env.kindOf x=ae .local)(hf:bq env.locals lay bF∈mu)(hl:lay[j]? =ae (x,av))(hv:bF[j]? =ae (ae y))(hd:autoParam ((x == ("__debug__":bc))=aH) aD):
 PE k mu env (.Name x p) y:=⟨λ{A E Z s fr Q} hA r q=>by
 obtain ⟨m,hn,v,hm,hr⟩:=r.slot (aE fr hf) hl hv;exact Te (wpAny_loadName_local he.kind hk hn hm (q .rfl hr r)) hd⟩
theorem NR(he:dz env)(hk:env.kindOf x=ae .cell)(hc:env.cells.lookup x=ae c)(hf:bq L lay bF∈mu){z:bc}(hl:lay[j]? =ae (z,ae c))(hv:bF[j]? =ae (ae y))(hd:autoParam ((x == ("__debug__":bc))=aH) aD):
 PE k mu env (.Name x p) y:=⟨λ{A E Z s fr Q} hA r q=>by
 obtain ⟨m,hn,v,hm,hr⟩:=r.slot (aE fr hf) hl hv;exact Te (wpAny_loadName_cell he.kind hk hc hm (q .rfl hr r)) hd⟩
theorem NS(he:dz env)(hk:env.kindOf x=ae .free)(hc:env.cells.lookup x=ae c)(hf:bq L lay bF∈mu){z:bc}(hl:lay[j]? =ae (z,ae c))(hv:bF[j]? =ae (ae y))(hd:autoParam ((x == ("__debug__":bc))=aH) aD)
 (hd':autoParam ((x == ("__classdict__":bc))=aH) aD):PE k mu env (.Name x p) y:=⟨λ{A E Z s fr Q} hA r q=>by
 obtain ⟨m,hn,v,hm,hr⟩:=r.slot (aE fr hf) hl hv;exact Te (wpAny_loadName_free he.kind hk hc hm (q .rfl hr r) hd') hd⟩
theorem NT(B:g7 G)(he:dz env)(hk:env.kindOf x=ae .globalImplicit){v:aj}(hm:G.mg x=ae v)(hv:aZ G G.Z0 v y)(hd:autoParam ((x == ("__debug__":bc))=aH) aD):
 PE k mu env (.Name x p) y:=⟨λ{A E Z s fr Q} hA r q=>by
 with_reducible refine Jq he.kind hk ?_ hd
 with_reducible refine loadGlobal_global (he.globals▸B.g _ r.z0in) hm ?_
 exact (q .rfl (hv.mono r.z0) r)⟩
theorem P6(B:g7 G)(he:dz env)(hk:env.kindOf x=ae .globalImplicit){v:aj}(hm:G.mg x=av)(hb:Jp x=ae v)(hv:aZ G G.Z0 v y)(hn:autoParam (x≠"__name__") aD)
 (hd:autoParam ((x == ("__debug__":bc))=aH) aD):PE k mu env (.Name x p) y:=⟨λ{A E Z s fr Q} hA r q=>by
 exact aK (B.b _ r.z0in) λmb h1 h2=>Jq he.kind hk (loadGlobal_builtin (he.globals▸B.g _ r.z0in) hm (he.builtins▸h1) ((h2 x hn).trans hb) (q .rfl (hv.mono r.z0) r)) hd
⟩
theorem R.ownNodup{x:cY}(r:R Z mu s)(hi:mu[i]? =ae x):x.own.Nodup:=by
 have h1:(gU (mu.take i)++(x.own++gU (mu.drop (i+1)))).Nodup:=by have:=r.nodup;rw [gh hi,oH] at this;exact this
 exact (bO.mp (bO.mp h1).2.1).1
theorem Q3{A:bo}{E:aj->aq->Prop}{v:aj}{Q:Unit->aq->Prop}(r:R Z mu s)(he:dz env)(hk:env.kindOf x=ae .local)(hi:mu[i]? =ae (bq env.locals lay bF))(hl:lay[j]? =ae (x,av))
 (hv:aZ G Z v y) (h:∀s',R Z (mu.set i (bq env.locals lay (bF.set j (ae y)))) s'->Q () s'):aS (aX G.prog G.w) A (storeName env x v) Q E s:=by
 refine mG (r.sat _ (ao hi)) λhnd m hn hs=>?_;have qb:(env.locals::lay.filterMap (·.2)).Nodup:=r.ownNodup hi;have hc:(lay.filterMap (·.2)).Nodup:=(cj.mp qb).2;refine wpAny_storeName_local hk hn (λh' Sz t9=>h _ ?_) (by refine ai (he.kind ..) ?_;rfl);refine r.upd' hi rfl (λb o hb e=>(t9.2 b λq=>hb (q▸aa)).trans e) ⟨hnd,_,Sz,?_⟩;exact hs.set hl ⟨v,by simp,hv⟩ hnd hc (λz hz=>by simp [hz]) λb hb u o e=>(t9.2 b λq=>(cj.mp qb).1 (q▸hb)).trans e
theorem NU{A:bo}{E:aj->aq->Prop}{v:aj}{Q:Unit->aq->Prop}(r:R Z mu s)(he:dz env)(hk:env.kindOf x=ae .cell)(hcl:env.cells.lookup x=ae c)(hi:mu[i]? =ae (bq L lay bF)){z:bc}(hl:lay[j]? =ae (z,ae c))
 (hv:aZ G Z v y) (h:∀s',R Z (mu.set i (bq L lay (bF.set j (ae y)))) s'->Q () s'):aS (aX G.prog G.w) A (storeName env x v) Q E s:=by
 obtain ⟨hnd,m,hn,hs⟩:=r.sat _ (ao hi);have qb:(L::lay.filterMap (·.2)).Nodup:=r.ownNodup hi;have hc:(lay.filterMap (·.2)).Nodup:=(cj.mp qb).2;have JM:c∈lay.filterMap (·.2):=fV.mpr ⟨_,ao hl,rfl⟩;have hLc:L≠c:=λq=>(cj.mp qb).1 (q▸JM);obtain ⟨o,h1,h2⟩:=hs _ _ _ hl;have ML:∃ov,s.heap.IsCell c ov:=by
  cases o with
  |none=>exact h2
  |some y=>obtain ⟨v,a,_⟩:=h2;exact ⟨_,a⟩
 obtain ⟨ov,ML⟩:=ML;refine wpAny_storeName_cell he.kind hk hcl ML λh' hv' t9=>h {s with heap:=h'} (r.upd' (tk:=s.toks) hi rfl (λb o hb e=>(t9.2 b λq=>hb (q▸ab _ JM)).trans e) ⟨hnd,_,hn.sameBut t9 hLc,?_⟩);exact hs.set hl ⟨v,hv',hv⟩ hnd hc (λz hz=>rfl) λb hb iQ o e=>(t9.2 b λq=>iQ (by (refine ai (q ..) ?_;rfl))).trans e
theorem R.weak{o o':Option V}(r:R Z mu s)(hi:mu[i]? =ae (bq L lay bF))(hv:bF[j]? =ae o)(ho:∀h m x c,fH Z h m x c o->fH Z h m x c o'):
 R Z (mu.set i (bq L lay (bF.set j o'))) s:=by
 exact mG (r.sat _ (ao hi)) λhnd m hn hs=>r.upd' (h':=s.heap) (tk:=s.toks) hi rfl (λz z z e=>e) ⟨hnd,m,hn,hs.weak hv λx c=>ho _ _ x c⟩
theorem fH.forget{h:dI}{m:bc->Option aj}{c:Option ay}{o:Option V}(e:fH Z h m x c o):fH Z h m x c av:=by
 cases c <;> cases o
 ·trivial
 ·trivial
 ·exact e
 ·obtain ⟨v,a,_⟩:=e;exact ⟨_,a⟩
theorem fH.as{h:dI}{m:bc->Option aj}{c:Option ay}{z:V}(e:fH Z h m x c (ae y))(hi:∀v,aZ G Z v y->aZ G Z v z):fH Z h m x c (ae z):=by
 cases c
 ·obtain ⟨v,a,b⟩:=e;exact ⟨v,a,hi v b⟩
 ·obtain ⟨v,a,b⟩:=e;exact ⟨v,a,hi v b⟩
end
variable {lay:E3}{bF:eL}{x:V}{c b:Bool}{l r e:bP}{P Q S:Vw}{op:Tf}{E7:CmpOp}
def rg(h:dI)(Z:bI)(a:ay)(xs:List V):Prop:=∃vs n,h.get? a=ae (oG vs n)/\bW G Z vs.toList xs
def P7(G:Gd)(h:dI)(Z:bI)(a:ay)(es:List (bc×V)):Prop:=
 (a == lX)=aH/\∃kvs,h.DictOf (strKind G.prog G.w) a kvs/\kvs.map (·.1)=es.map (·.1)/\bW G Z (kvs.map (·.2)) (es.map (·.2))
noncomputable def md(mu:Mu)(xs:List V):Vw:=
 ⟨λZ v=>∃a,v= .ref a/\∀Z' s,Z.le Z'->R Z' mu s->rg s.heap Z' a xs,λZ Z' v h=>bQ λa u=>⟨u.1,λPA s h' r=>u.2 PA s (bI.le_trans h h') r⟩⟩
noncomputable def Nm(mu:Mu)(es:List (bc×V)):Vw:=
 ⟨λZ v=>∃a,v= .ref a/\∀Z' s,Z.le Z'->R Z' mu s->P7 G s.heap Z' a es,λZ Z' v h=>bQ λa u=>⟨u.1,λPA s h' r=>u.2 PA s (bI.le_trans h h') r⟩⟩
noncomputable def bk(a:ay)(xs:List V):cY where
 own:=[a]
 sat:=λZ h=>rg h Z a xs
 mono:=λZ Z' h hz=>bQ λvs=>bQ λn u=>⟨u.1,u.2.mono hz⟩
 loc:=λZ h h' w hk z z=>w.imp λvs=>bQ λn u=>⟨hk a aa _ u.1,u.2⟩
 live:=λZ h w b hb=>w.elim λvs w=>w.elim λn u=>⟨_,aA.mp hb▸u.1⟩
noncomputable def cE(a:ay)(es:List (bc×V)):cY where
 own:=[a]
 sat:=λZ h=>P7 G h Z a es
 mono:=λZ Z' h hz w=>⟨w.1,w.2.imp λkvs u=>⟨u.1,u.2.1,u.2.2.mono hz⟩⟩
 loc:=λZ h h' w hk z z=>⟨w.1,w.2.imp λkvs u=>⟨u.1.imp λo=>bQ λes=>bQ λep v=>⟨hk a aa _ v.1,v.2⟩,u.2⟩⟩
 live:=λZ h w b hb=>w.2.elim λkvs u=>u.1.elim λo v=>v.elim λes v=>v.elim λep v=>⟨_,aA.mp hb▸v.1⟩
structure B2(k:Nat)(mu:Mu)(f:aj->aj->oY aj)(P Q S:Vw):Prop where
 c:∀{A:bo} {E:aj->aq->Prop} {Z:bI} {s:aq} {fr:Mu} {v u:aj} {T:aj->aq->Prop},Rm k A->R Z (mu++fr) s->P.p Z v->Q.p Z u->
  (∀{w s' Z'},Z.le Z'->S.p Z' w->R Z' (mu++fr) s'->T w s')->aS (aX G.prog G.w) A (f v u) T E s
abbrev xJ(k:Nat)(mu:Mu)(op:Tf)(P Q S:Vw):Prop:=B2 k mu (binaryOp op) P Q S
abbrev s7(k:Nat)(mu:Mu)(op:CmpOp)(P Q:Vw)(b:Bool):Prop:=B2 k mu (compareOp op) P Q (bZ (.bool b))
theorem rg.list{Z:bI}{v:aj}{xs:List V}(h:aZ G Z v (.list xs)):∃a vs n,v= .ref a/\Z a=ae (oG vs n)/\bW G Z vs.toList xs:=by cases h with|list e r=>exact ⟨_,_,_,rfl,e,r⟩
theorem BB{Z:bI}{v:aj}{xs:List V}(h:aZ G Z v (.list xs)):(md mu xs).p Z v:=
 (rg.list h).imp λ_ ⟨_,_,e,z,r⟩=>⟨e,λZ' s hz R=>⟨_,_,R.zin _ _ (hz _ _ z),r.mono hz⟩⟩
theorem NV{Z:bI}{v:aj}{es:List (bc×V)}(h:aZ G Z v (.dict es)):(Nm mu es).p Z v:=by
 cases h with
 |dict q e d f r=>refine Al d λd1 Nq ep d2 d3 d4 d5=>?_;clear d;exact ⟨_,rfl,λZ' s hz R=>⟨q,_,⟨_,_,_,R.zin _ _ (hz _ _ e),d1,d2,d3,d4,d5⟩,f,r.mono hz⟩⟩
theorem EV.mono(h:EV k mu env e P)(hi:∀Z v,P.p Z v->Q.p Z v):EV k mu env e Q:=⟨λ{z z z z z z} hA r q=>h.c hA r λ{z z z} a b c=>q a (hi _ _ b) c⟩
theorem dF{xs:List V}(h:PE k mu env e (.list xs)):EV k mu env e (md mu xs):=EV.mono h λz z q=>BB q
theorem uB{a:ay}{xs:List V}(h:PE k mu env e (.ref a))(hm:bk a xs∈mu):EV k mu env e (md mu xs):=EV.mono h λZ v q=>⟨a,q.refE,λZ' s hz r=>r.sat _ hm⟩
theorem pJ{es:List (bc×V)}(h:PE k mu env e (.dict es)):EV k mu env e (Nm mu es):=EV.mono h λz z q=>NV q
theorem wC{a:ay}{es:List (bc×V)}(h:PE k mu env e (.ref a))(hm:cE a es∈mu):EV k mu env e (Nm mu es):=EV.mono h λZ v q=>⟨a,q.refE,λZ' s hz r=>r.sat _ hm⟩
theorem aU{i:Int}{kk}:PE k mu env (.Constant (.int i) kk p) (.int i):=⟨λ{z z z z z z} hA r q=>wpAny_Constant_int (q .rfl (aZ.int _ _) r.toks)⟩
theorem cP{t:bc}{kk}:PE k mu env (.Constant (.str t) kk p) (.str t):=⟨λ{z z z z z z} hA r q=>wpAny_Constant_str (q .rfl (aZ.str _ _) r.toks)⟩
theorem J0{b:Bool}{kk}:PE k mu env (.Constant (.bool b) kk p) (.bool b):=⟨λ{z z z z z z} hA r q=>wpAny_Constant_bool (q .rfl (aZ.bool _) r)⟩
theorem J1{kk}:PE k mu env (.Constant .none kk p) .none:=⟨λ{z z z z z z} hA r q=>wpAny_Constant_none (q .rfl aZ.none r)⟩
theorem br(hl:EV k mu env l P)(hr:EV k mu env r Q)(ho:xJ k mu op P Q S):EV k mu env (.BinOp l op r p) S:=⟨λ{z z z z z z} hA R q=>by
 with_reducible refine Ny ?_
 exact hl.c hA R λz1 p1 r1=>hr.c hA r1 λz2 p2 r2=>ho.c hA r2 (P.mono _ _ _ z2 p1) p2 λz3 p3 r3=>q (z1.trans (z2.trans z3)) p3 r3⟩
theorem mH(hl:EV k mu env l P)(hr:EV k mu env r Q)(ho:s7 k mu E7 P Q b)(hm:wm E7 r=aH:=by with_unfolding_all rfl):PE k mu env (.Compare l [E7] [r] p) (.bool b):=⟨λ{z z z z z z} hA R q=>by
 with_reducible refine wpAny_Compare1 ?_ hm
 exact hl.c hA R λz1 p1 r1=>hr.c hA r1 λz2 p2 r2=>ho.c hA r2 (P.mono _ _ _ z2 p1) p2 λz3 p3 r3=>q (z1.trans (z2.trans z3)) p3 r3⟩
theorem da(hl:EV k mu env l P)(hr:EV k mu env r Q)(ho:s7 k mu E7 P Q b)(hm:wm E7 r=aH:=by with_unfolding_all rfl):PT k mu env (.Compare l [E7] [r] p) b:=⟨λ{z z z z z z} hA R q=>by
 with_reducible refine Ab ?_ hm
 exact hl.c hA R λ{z z z} z1 p1 r1=>hr.c hA r1 λ{z z z} z2 p2 r2=>ho.c hA r2 (P.mono _ _ _ z2 p1) p2 λ{z z z} z3 p3 r3=>(aZ.boolE p3)▸eU (q (z1.trans (z2.trans z3)) r3)⟩
theorem Fo(h:PT k mu env e b):PT k mu env (.UnaryOp .Not e p) (!b):=⟨λ{z z z z z z} hA R q=>wpAny_isTrue_Not (h.c hA R q)⟩
abbrev Fp(k:Nat)(mu:Mu)(env:iE)(op:Tg)(es:List bP)(b:Bool):Prop:=WB k mu (allTrue op es env) b
theorem oJ{bop:Tg}{es:List bP}(h:Fp k mu env bop es b):PT k mu env (.BoolOp bop es p) b:=⟨λ{z z z z z z} hA R q=>by
 with_reducible refine wpAny_isTrue_BoolOp ?_
 exact h.c hA R q⟩
theorem BC:Fp k mu env .And [] aJ:=⟨λ{z z z z z z} hA R q=>wpAny_allTrue_And_nil (q .rfl R)⟩
theorem jn:Fp k mu env .Or [] aH:=⟨λ{z z z z z z} hA R q=>wpAny_allTrue_Or_nil (q .rfl R)⟩
theorem CY{es:List bP}(h:PT k mu env e b)(hr:b=aJ->Fp k mu env .And es c):Fp k mu env .And (e::es) (b && c):=⟨λ{z z z z z z} hA R q=>by
 with_reducible refine wpAny_allTrue_And_cons ?_
 refine h.c hA R λ{s1 Z1} z1 r1=>?_;cases b with
 |false=>exact q z1 r1
 |true=>exact (hr rfl).c hA r1 λ{z z} z2 r2=>q (z1.trans z2) r2⟩
theorem iN{es:List bP}(h:PT k mu env e b)(hr:b=aH->Fp k mu env .Or es c):Fp k mu env .Or (e::es) (b || c):=⟨λ{z z z z z z} hA R q=>by
 with_reducible refine Ac ?_
 refine h.c hA R λ{s1 Z1} z1 r1=>?_;cases b with
 |true=>exact q z1 r1
 |false=>exact (hr rfl).c hA r1 λ{z z} z2 r2=>q (z1.trans z2) r2⟩
theorem uC{t a f:bP}(ht:PT k mu env t b)(ha:b=aJ->EV k mu env a P)(hf:b=aH->EV k mu env f P):EV k mu env (.IfExp t a f p) P:=⟨λ{z z z z z z} hA R q=>by
 with_reducible refine wpAny_IfExp ?_
 refine ht.c hA R λ{s1 Z1} z1 r1=>?_;cases b with
 |true=>exact (ha rfl).c hA r1 λ{z z z} z2 p2 r2=>q (z1.trans z2) p2 r2
 |false=>exact (hf rfl).c hA r1 λ{z z z} z2 p2 r2=>q (z1.trans z2) p2 r2⟩
section
variable {f:aj->aj->oY aj}{a b:Int}
theorem B2.ii{c:Int}(h:∀{A:bo} {E:aj->aq->Prop} {s:aq} {t u:HO} {T:aj->aq->Prop},T (.int c s.toks) {s with toks:=s.toks+1}->aS (aX G.prog G.w) A (f (.int a t) (.int b u)) T E s):B2 k mu f (bZ (.int a)) (bZ (.int b)) (bZ (.int c)):=
 ⟨λ{z z z z z z z z} hA R hp hq q=>aZ.intC hp λt=>aZ.intC hq λu=>h (q .rfl (.int _ _) R.toks)⟩
theorem B2.iib(h:∀{A:bo} {E:aj->aq->Prop} {s:aq} {t u:HO} {T:aj->aq->Prop},T (.bool c) s->aS (aX G.prog G.w) A (f (.int a t) (.int b u)) T E s):B2 k mu f (bZ (.int a)) (bZ (.int b)) (bZ (.bool c)):=
 ⟨λ{z z z z z z z z} hA R hp hq q=>aZ.intC hp λt=>aZ.intC hq λu=>h (q .rfl (.bool _) R)⟩
theorem B2.ssb{a b:bc}(h:∀{A:bo} {E:aj->aq->Prop} {s:aq} {t u:HO} {T:aj->aq->Prop},T (.bool c) s->aS (aX G.prog G.w) A (f (.str a t) (.str b u)) T E s):B2 k mu f (bZ (.str a)) (bZ (.str b)) (bZ (.bool c)):=
 ⟨λ{z z z z z z z z} hA R hp hq q=>aZ.strC hp λt=>aZ.strC hq λu=>h (q .rfl (.bool _) R)⟩
theorem fB:xJ k mu .Add (bZ (.int a)) (bZ (.int b)) (bZ (.int (a+b))):= .ii PyProof.Rows.add_int
theorem vz:xJ k mu .Sub (bZ (.int a)) (bZ (.int b)) (bZ (.int (a - b))):= .ii PyProof.Rows.sub_int
theorem J2(h:IntMulOk a b):xJ k mu .Mult (bZ (.int a)) (bZ (.int b)) (bZ (.int (a*b))):= .ii λ{z z z z z z} q=>PyProof.Rows.mul_int q h
theorem Q4(h:b≠0):xJ k mu .Mod (bZ (.int a)) (bZ (.int b)) (bZ (.int (a.fmod b))):= .ii (PyProof.Rows.mod_int' h)
theorem Q5(h:b≠0)(hn:Builtin.divisionGoesByPylong a b=aH):xJ k mu .FloorDiv (bZ (.int a)) (bZ (.int b)) (bZ (.int (a.fdiv b))):= .ii λ{z z z z z z} q=>PyProof.Rows.floordiv_int h q (.inl hn)
theorem Q6(h:0<=b)(hz:(sL a:Int)*b<=2 ^ 27):xJ k mu .Pow (bZ (.int a)) (bZ (.int b)) (bZ (.int (a ^ b.toNat))):= .ii (PyProof.Rows.pow_int h hz)
theorem J3(h:0<=b)(h2:b<=1000000)(ha:a.natAbs < 2 ^ 64):xJ k mu .LShift (bZ (.int a)) (bZ (.int b)) (bZ (.int (a*2 ^ b.toNat))):= .ii (PyProof.Rows.lshift_int_small h h2 ha)
theorem Q7(h:0<=b):xJ k mu .RShift (bZ (.int a)) (bZ (.int b)) (bZ (.int (a.fdiv (2 ^ b.toNat)))):= .ii (PyProof.Rows.rshift_int h)
theorem qp:xJ k mu .BitAnd (bZ (.int a)) (bZ (.int b)) (bZ (.int (lY a b))):= .ii PyProof.Rows.and_int
theorem qq:s7 k mu .Eq (bZ (.int a)) (bZ (.int b)) (a == b):= .iib PyProof.Rows.eq_int
theorem Fq:s7 k mu .NotEq (bZ (.int a)) (bZ (.int b)) (a != b):= .iib PyProof.Rows.ne_int
theorem CZ:s7 k mu .Lt (bZ (.int a)) (bZ (.int b)) (decide (a < b)):= .iib PyProof.Rows.lt_int
theorem GU:s7 k mu .Gt (bZ (.int a)) (bZ (.int b)) (decide (b < a)):= .iib PyProof.Rows.gt_int
theorem cm_le:s7 k mu .LtE (bZ (.int a)) (bZ (.int b)) (decide (a<=b)):= .iib PyProof.Rows.le_int
theorem o5(h:PE k mu env e (.int a)):PE k mu env (.UnaryOp .USub e p) (.int (-a)):=⟨λ{z z z z z z} hA R q=>by
 with_reducible refine wpAny_UnaryOp ?_
 exact h.c hA R λ{z z z} z1 p1 r1=>aZ.intC p1 λt=>PyProof.Rows.neg_int (q z1 (aZ.int _ _) r1.toks)⟩
end
theorem Fs{a b:bc}(h:a.length+b.length<=er):xJ k mu .Add (bZ (.str a)) (bZ (.str b)) (bZ (.str (a++b))):=
 ⟨λ{z z z z z z z z} hA R hp hq q=>aZ.strC hp λt=>aZ.strC hq λu=>PyProof.Rows.add_str (λt' tk=>q .rfl (aZ.str _ _) R.toks) h⟩
theorem rz{a b:bc}:s7 k mu .Eq (bZ (.str a)) (bZ (.str b)) (a == b):= .ssb PyProof.Rows.eq_str
theorem tw{a b:bc}:s7 k mu .NotEq (bZ (.str a)) (bZ (.str b)) (a != b):= .ssb PyProof.Rows.ne_str
theorem J4{a b:Bool}:s7 k mu .NotEq (bZ (.bool a)) (bZ (.bool b)) (a != b):=
 ⟨λ{z z z z z z z z} hA R hp hq q=>(aZ.boolE hp)▸(aZ.boolE hq)▸PyProof.Rows.ne_bool (q .rfl (.bool _) R)⟩
theorem C0{a b:bc}:s7 k mu .In (bZ (.str a)) (bZ (.str b)) (!(c7 b a 0 b.length 1).isEmpty):= .ssb PyProof.Rows.in_str
structure Tr(k:Nat)(mu:Mu)(P:Vw)(b:Bool):Prop where
 c:∀{A:bo} {E:aj->aq->Prop} {Z:bI} {s:aq} {fr:Mu} {v:aj} {T:Bool->aq->Prop},Rm k A->R Z (mu++fr) s->P.p Z v->
  (∀{s' Z'},Z.le Z'->R Z' (mu++fr) s'->T b s')->aS (aX G.prog G.w) A (truthy v) T E s
theorem xK{a:Int}:Tr k mu (bZ (.int a)) (a != 0):=⟨λ{z z z z z z z} hA R hp q=>aZ.intC hp λt=>PyProof.Rows.truthy_int (q .rfl R)⟩
theorem qr{a:Bool}:Tr k mu (bZ (.bool a)) a:=⟨λ{z z z z z z z} hA R hp q=>(aZ.boolE hp)▸eU (q .rfl R)⟩
theorem GV{xs:List V}(hl:xs.length < 2 ^ 60):Tr k mu (md mu xs) (!xs.isEmpty):=⟨λ{A E Z s fr v T} hA R ⟨a,e,w⟩ q=>by
 subst e;refine eD (w Z s .rfl R.left) λvs n h1 h2=>?_;have SA:vs.size=xs.length:=eK.symm.trans h2.length;have hL:s.heap.IsList a vs:=⟨_,h1,rfl,n,rfl⟩;have hb:(!vs.isEmpty)= !xs.isEmpty:=by unfold Array.isEmpty;refine ai (SA ..) ?_;cases xs <;> rfl
 with_reducible refine wpAny_truthy_list hL (by refine ai (SA ..) ?_;lia) ?_
 first|exact hb▸q .rfl R.toks|(rw [hb];exact q .rfl R.toks)⟩
theorem kT(h:EV k mu env e P)(ht:Tr k mu P b)(he:autoParam (isTrue e env (dW e env)=(do let v <- dW e env;iF e.pos;eV [v] (truthy v))) aR):PT k mu env e b:=⟨λ{z z z z z z} hA R q=>by
 with_reducible refine wpAny_isTrue_value ?_ he
 exact h.c hA R λ{z z z} z1 p1 r1=>ht.c hA r1 p1 λ{z z} z2 r2=>q (z1.trans z2) r2⟩
variable {nu:Mu}
inductive Sl(env:iE)(L:ay)(lay:E3)(x:bc)(j:Nat):Prop
 |loc (h1:autoParam (env.kindOf x=ae .local) aR) (h2:autoParam (L=env.locals) aR) (h3:autoParam (lay[j]? =ae (x,av)) aR) (h4:autoParam ((x == ("__debug__":bc))=aH) aR):Sl env L lay x j
 |cell (c:ay) (z:bc) (h1:autoParam (env.kindOf x=ae .cell) aR) (h2:autoParam (env.cells.lookup x=ae c) aR) (h3:autoParam (lay[j]? =ae (z,ae c)) aR) (h4:autoParam ((x == ("__debug__":bc))=aH) aR):Sl env L lay x j
 |free (c:ay) (z:bc):env.kindOf x=ae .free->env.cells.lookup x=ae c->lay[j]? =ae (z,ae c)->(x == ("__debug__":bc))=aH->(x == ("__classdict__":bc))=aH->Sl env L lay x j
section
variable {x:bc}{Φ:AF->Mu->Prop}
theorem ah(he:dz env)(sl:Sl env L lay x j)(hf:bq L lay bF∈mu)(hv:bF[j]? =ae (ae y)):PE k mu env (.Name x p) y:=by
 cases sl with
 |loc hk hL hl hd=>subst hL;exact Q1 he hk hf hl hv hd
 |cell c z hk hc hl hd=>exact NR he hk hc hf hl hv hd
 |free c z hk hc hl hd hd'=>exact NS he hk hc hf hl hv hd hd'
theorem cH{α:Type}{l fr:List α}{i:Nat}{x:α}(h:l[i]? =ae x):(l++fr)[i]? =ae x:=by refine ai (eE (aB.mp h).1 ..) ?_;exact h
theorem gF{α:Type}{l fr:List α}{i:Nat}{x y:α}(h:l[i]? =ae x):(l++fr).set i y=l.set i y++fr:=
 List.set_append_left i y (aB.mp h).1
theorem xM{A:bo}{E:aj->aq->Prop}{v:aj}{Q:Unit->aq->Prop}{fr:Mu}(r:R Z (mu++fr) s)(he:dz env)(sl:Sl env L lay x j)(hi:mu[i]? =ae (bq L lay bF))
 (Ct:env.kindOf x≠ae .free) (hv:aZ G Z v y) (h:∀s',R Z (mu.set i (bq L lay (bF.set j (ae y)))++fr) s'->Q () s'):aS (aX G.prog G.w) A (storeName env x v) Q E s:=by
 cases sl with
 |loc hk hL hl hd=>subst hL;exact Q3 r he hk (cH hi) hl hv λs' r'=>h s' (by refine fZ (gF hi ..) ?_;exact r')
 |cell c z hk hc hl hd=>exact NU r he hk hc (cH hi) hl hv λs' r'=>h s' (by refine fZ (gF hi ..) ?_;exact r')
 |free c z hk hc hl hd hd'=>exact absurd hk Ct
end
structure mI(k:Nat)(mu:Mu)(env:iE)(t:bP)(x:V)(Ψ:Mu->Prop):Prop where
 c:∀{A:bo} {E:aj->aq->Prop} {Z:bI} {s:aq} {fr:Mu} {v:aj} {Q:Unit->aq->Prop},Rm k A->R Z (mu++fr) s->aZ G Z v x->
  (∀{s' Z' nu},Z.le Z'->R Z' (nu++fr) s'->Ψ nu->Q () s')->aS (aX G.prog G.w) A (wo t env v) Q E s
structure HR(k:Nat)(mu:Mu)(env:iE)(ts:List bP)(xs:List V)(Ψ:Mu->Prop):Prop where
 len:ts.length=xs.length
 plain:(jB ts env).all (λq=>!q.1)=aJ
 c:∀{A:bo} {E:aj->aq->Prop} {Z:bI} {s:aq} {fr:Mu} {vs:List aj} {Q:Unit->aq->Prop},Rm k A->R Z (mu++fr) s->bW G Z vs xs->
  (∀{s' Z' nu},Z.le Z'->R Z' (nu++fr) s'->Ψ nu->Q () s')->aS (aX G.prog G.w) A (assignInOrder ((jB ts env).map (·.2)) vs) Q E s
section
variable {x:bc}{Φ:AF->Mu->Prop}{Ψ:Mu->Prop}
theorem aQ(he:dz env)(sl:Sl env L lay x j)(hi:mu[i]? =ae (bq L lay bF))(h:Ψ (mu.set i (bq L lay (bF.set j (ae y)))))(Ct:autoParam ((env.kindOf x == ae .free)=aH) aR):mI k mu env (.Name x p) y Ψ:=
 ⟨λ{z z z z z z z} hA r hv q=>wpAny_assign_Name (xM r he sl hi (beq_eq_false_iff_ne.mp Ct) hv λs' r'=>q .rfl r' h)⟩
theorem bW.nil_inv{vs:List aj}(h:bW G Z vs []):vs=[]:=pz h.length
theorem bW.cons_inv{vs:List aj}{y:V}{ys:List V}(h:bW G Z vs (y::ys)):∃v ro,vs=v::ro/\aZ G Z v y/\bW G Z ro ys:=by cases h with|cons a b=>exact ⟨_,_,rfl,a,b⟩
theorem bW.uncons{v:aj}{vs:List aj}{y:V}{ys:List V}(h:bW G Z (v::vs) (y::ys)):aZ G Z v y/\bW G Z vs ys:=by cases h with|cons a b=>exact ⟨a,b⟩
theorem iX(h:Ψ mu):HR k mu env [] [] Ψ:=⟨rfl,rfl,λ{z z z z z z z} hA r hv q=>hv.nil_inv▸ar (q .rfl r h)⟩
theorem wD{t:bP}{ts:List bP}(hs:∀a p,t≠ .Starred a p):jB (t::ts) env=(aH,wo t env)::jB ts env:=by cases t <;> first|rfl|exact absurd rfl (hs _ _)
theorem cw{t:bP}{ts:List bP}{xs:List V}(hl:ts.length=xs.length)(hp:(jB ts env).all (λq=>!q.1)=aJ)(h:mI k mu env t y λnu=>HR k nu env ts xs Ψ)(hs:∀a p,t≠ .Starred a p:=by intro z z h;cases h):HR k mu env (t::ts) (y::xs) Ψ:=
 ⟨congrArg xh hl,by refine ai (wD hs ..) ?_;exact hp,λ{z z z z z z z} hA r hv q=>by
  refine ai (wD hs ..) ?_;obtain ⟨v,vs,rfl,hv,hr⟩:=hv.cons_inv;exact ag (bC (h.c hA r hv λ{z z z} z1 r1 w=>w.c hA r1 (hr.mono z1) λ{z z z} z2=>q (z1.trans z2)))⟩
theorem o6{l:List (Bool×(aj->oY Unit))}(h:l.all (λq=>!q.1)=aJ):l.findIdx? (·.1)=av:=
 List.findIdx?_eq_none_iff.mpr λx hx=>by have:=fW.mp h x hx;simpa using this
theorem nz{env:iE}(ts:List bP):(jB ts env).length=ts.length:=by
 induction ts with
 |nil=>rfl
 |cons t ts ih=>cases t <;> exact congrArg xh ih
theorem aZ.tup_inv{v:aj}{xs:List V}(h:aZ G Z v (.tup xs)):∃a o vs n,v= .ref a/\Z a=ae o/\o.cls= .type "tuple"/\o.data= .seq vs n/\bW G Z vs.toList xs:=by cases h with|tup e c d r=>exact ⟨_,_,_,_,rfl,e,c,d,r⟩
theorem aZ.ent_inv{v:aj}{xs:List V}(h:aZ G Z v (.ent xs)):∃a o vs n,v= .ref a/\Z a=ae o/\o.cls= .ref G.ent/\o.data= .seq vs n/\bW G Z vs.toList xs:=by cases h with|ent e c d r=>exact ⟨_,_,_,_,rfl,e,c,d,r⟩
theorem i7{ts:List bP}{kk:Nat}{xs:List V}(h:HR k mu env ts xs Ψ):mI k mu env (.Tuple ts kk p) (.tup xs) Ψ:=⟨λ{A E Z s fr v Q} hA r hv q=>by
 refine dM (hv.tup_inv) λa o vs n eT e hc hd hr=>?_;subst eT;have hT:s.heap.IsTuple a vs:=⟨_,r.zin _ _ e,hc,_,hd⟩;have hn:(jB ts env).length=vs.size:=(nz ts).trans (h.len.trans hr.length.symm);exact wpAny_assign_Tuple hA.hh hT hn (o6 h.plain) λh' hx=>h.c hA (r.keep (tk:=s.toks) λb o e=>hx b o (c9 (bM e)) e) hr q⟩
theorem bB(h:Φ .next mu):WS k mu env [] Φ:=⟨λ{z z z z z z} hA r q=>wpAny_execs_nil (q .rfl .next r h)⟩
noncomputable def thenS(k:Nat)(env:iE)(rest:List ed)(Φ:AF->Mu->Prop):AF->Mu->Prop
 | .next,nu=>WS k nu env rest Φ
 |f,nu=>Φ f nu
@[elab_as_elim] theorem oZ.by{P:ug->AF->Prop}{f:ug}{a:AF}(h:oZ G Z f a)(n:P .next .next)(b:P .brk .brk)(c:P .cont .cont)(r:∀v x,aZ G Z v x->P (.ret v) (.ret x)):P f a:=
 oZ.rec (motive:=λf a z=>P f a) n b c (λ{v x} h=>r v x h) h
theorem aC{st:ed}{rest:List ed}(h:WX k mu env st (thenS k env rest Φ)):WS k mu env (st::rest) Φ:=⟨λ{z z z z z z} hA r q=>by
 with_reducible refine qZ ?_
 refine h.c hA r λ{f s1 Z1 a nu} z1 f1 r1 w=>?_
 revert w
 exact oZ.by f1 (λw=>WF.c (show WS k nu env rest Φ from w) hA r1 λ{z z z z z} z2=>q (z1.trans z2)) (q z1 .brk r1) (q z1 .cont r1) λv x hv=>q z1 (.ret hv) r1⟩
theorem cg{Θ:V->Mu->Prop}(h:PE k mu env e y)(hΘ:Θ y mu):WE k mu env e Θ:=⟨λ{z z z z z z} hA r q=>h.c hA r λ{z z z} a b c=>q a b c hΘ⟩
theorem b4{pos:lF}{t:bP}(hv:WE k mu env e λy nu=>mI k nu env t y (Φ .next))(hs:wq [t] e pos.line env=dh aH)(hw:wu [t] e env=dh av)
 (ht:autoParam (jB [t] env=[(aH,wo t env)]) aR):WX k mu env (.Assign [t] e pos) Φ:=⟨λ{z z z z z z} hA r q=>by
 with_reducible refine EN ?_ hs hw
 refine ai (ht ..) ?_;exact hv.c hA r λ{z z z z z} z1 q1 r1 w=>w.c hA r1 q1 λ{z z z} z2=>q (z1.trans z2) .next⟩
theorem bX{pos:lF}{t:bP}(hv:PE k mu env e y)(ha:mI k mu env t y (Φ .next))(hs:wq [t] e pos.line env=dh aH)(hw:wu [t] e env=dh av)
 (ht:autoParam (jB [t] env=[(aH,wo t env)]) aR):WX k mu env (.Assign [t] e pos) Φ:=b4 (cg hv ha) hs hw ht
theorem ig{pos:lF}(h:WE k mu env e λz nu=>Φ .next nu)(hi:autoParam (interactive env=aH) aR)(hs:autoParam (xi e av pos.line env=dh aH) aR):WX k mu env (.Expr e pos) Φ:=⟨λ{z z z z z z} hA r q=>by
 with_reducible refine wpAny_Expr_any ?_ hi hs
 exact h.c hA r λ{z z z z z} z1 z=>q z1 .next⟩
theorem gy{pos:lF}(h:WE k mu env e λy nu=>Φ (.ret y) nu):WX k mu env (.Return (ae e) pos) Φ:=⟨λ{z z z z z z} hA r q=>by
 with_reducible refine wpAny_Return_some ?_
 exact h.c hA r λ{z z z z z} z1 q1=>q z1 (.ret q1)⟩
theorem Q8{pos:lF}(h:Φ .brk mu):WX k mu env (.Break pos) Φ:=⟨λ{z z z z z z} hA r q=>wpAny_Break (q .rfl .brk r h)⟩
theorem GW{pos:lF}(h:Φ .cont mu):WX k mu env (.Continue pos) Φ:=⟨λ{z z z z z z} hA r q=>wpAny_Continue (q .rfl .cont r h)⟩
structure Wt(k:Nat)(mu:Mu)(t:oY Bool)(Θ:Bool->Mu->Prop):Prop where
 c:∀{A:bo} {E:aj->aq->Prop} {Z:bI} {s:aq} {fr:Mu} {Q:Bool->aq->Prop},Rm k A->R Z (mu++fr) s->
  (∀{b s' Z' nu},Z.le Z'->R Z' (nu++fr) s'->Θ b nu->Q b s')->aS (aX G.prog G.w) A t Q E s
abbrev WT(k:Nat)(mu:Mu)(env:iE)(e:bP)(Θ:Bool->Mu->Prop):Prop:=Wt k mu (isTrue e env (dW e env)) Θ
theorem PT.wt{Θ:Bool->Mu->Prop}(h:PT k mu env e b)(hΘ:Θ b mu):WT k mu env e Θ:=⟨λ{z z z z z z} hA r q=>h.c hA r λ{z z} z1 r1=>q z1 r1 hΘ⟩
noncomputable def brP:Bool->Prop->Prop->Prop
 |true,p,_=>p
 |false,_,q=>q
theorem xN{pos:lF}{body orelse:List ed}(h:WT k mu env e λc nu=>brP c (WS k nu env body Φ) (WS k nu env orelse Φ)):WX k mu env (.If e body orelse pos) Φ:=⟨λ{z z z z z z} hA r q=>by
 with_reducible refine wpAny_If ?_
 refine h.c hA r λ{c s1 Z1 nu} z1 r1 w=>?_;cases c with
 |true=>exact WF.c (show WS k nu env body Φ from w) hA r1 λ{z z z z z} z2=>q (z1.trans z2)
 |false=>exact WF.c (show WS k nu env orelse Φ from w) hA r1 λ{z z z z z} z2=>q (z1.trans z2)⟩
theorem iY{pos:lF}{body orelse:List ed}(h:PT k mu env e b)(h1:b=aJ->WS k mu env body Φ)(h2:b=aH->WS k mu env orelse Φ):WX k mu env (.If e body orelse pos) Φ:=
 xN (h.wt (by cases b;exact h2 rfl;exact h1 rfl))
structure CN(I:ay)(ctx:Mu)(t:bP)(xs:List V)(it:Nat->cY):Prop where
 item:∀(i:Nat) (x:V),xs[i]? =ae x->∀{A:bo} {E:aj->aq->Prop} {Z:bI} {s:aq} {fr:Mu} {Q:Option aj->aq->Prop},Rm 1 A->(∀o∈ctx,o∈fr)->R Z (it i::fr) s->
  (∀{v s1},(∀{E:aj->aq->Prop} {T:Unit->aq->Prop},(∀{s2 Z'},Z.le Z'->aZ G Z' v x->R Z' (it (i+1)::fr) s2->T () s2)->aS (aX G.prog G.w) A (kI t (.ref I) v) T E s1)->Q (ae v) s1)->
  wpAny (aX G.prog G.w) A (lZ (.ref I)) Q E s
 done:∀{A:bo} {E:aj->aq->Prop} {Z:bI} {s:aq} {fr:Mu} {Q:Option aj->aq->Prop},Rm 1 A->(∀o∈ctx,o∈fr)->R Z (it xs.length::fr) s->
  (∀{s1 Z'},Z.le Z'->R Z' fr s1->Q av s1)->aS (aX G.prog G.w) A (lZ (.ref I)) Q E s
 self:∀(i:Nat) {A:bo} {E:aj->aq->Prop} {Z:bI} {s:aq} {fr:Mu} {Q:aj->aq->Prop},Rm 1 A->R Z (it i::fr) s->
  (∀{s1},R Z (it i::fr) s1->Q (.ref I) s1)->aS (aX G.prog G.w) A (q7 (.ref I)) Q E s
structure o7(k:Nat)(mu:Mu)(env:iE)(e t:bP)(ctx:Mu)(xs:List V):Prop where
 has:∀o∈ctx,o∈mu
 c:∀{A:bo} {E:aj->aq->Prop} {Z:bI} {s:aq} {fr:Mu} {Q:aj->aq->Prop},Rm k A->R Z (mu++fr) s->
  (∀{I it s' Z'},CN I ctx t xs it->Z.le Z'->R Z' (it 0::(mu++fr)) s'->Q (.ref I) s')->
  wpAny (aX G.prog G.w) A (dW e env) (λx s1=>aS (aX G.prog G.w) A (q7 x) Q E s1) E s
noncomputable def kU(Inv:Mu->Prop)(Φ:AF->Mu->Prop):AF->Mu->Prop
 | .next,nu=>Inv nu
 | .cont,nu=>Inv nu
 | .brk,nu=>Φ .next nu
 | .ret y,nu=>Φ (.ret y) nu
noncomputable def oK(T:ug->aq->Prop)(P:aq->Prop):ug->aq->Prop
 | .next,s=>P s
 | .cont,s=>P s
 | .brk,s=>T .next s
 | .ret v,s=>T (.ret v) s
theorem oK.of{T:ug->aq->Prop}{P:aq->Prop}{fr:Mu}{Inv:Mu->Prop}{f:ug}{a:AF}(h:oZ G Z f a)(w:kU Inv Φ a nu)(hn:Inv nu->P s)(hq:∀{g c},oZ G Z g c->Φ c nu->T g s):oK T P f s:=by
 revert w
 exact oZ.by h hn (hq .next) hn λv x hv=>hq (.ret hv)
structure ForT(prog:d7)(w:eo)(A:bo)(env:iE)(target:bP)(body orelse:List ed)(it:aj)(T:ug->aq->Prop)(P:aq->Prop)(s:aq):Prop where
 c:∀{E:aj->aq->Prop} {Q:Option aj->aq->Prop},(∀{s1},(∀{E:aj->aq->Prop},aS (aX prog w) A (Jo orelse env) T E s1)->Q av s1)->
  (∀{v s1},(∀{E:aj->aq->Prop},aS (aX prog w) A (kI target it v) (λz s2=>aS (aX prog w) A (wo target env v) (λz s3=>aS (aX prog w) A (Jo body env) (oK T P) E s3) E s2) E s1)->Q (ae v) s1)->
  wpAny (aX prog w) A (lZ it) Q E s
theorem BD{prog:d7}{w:eo}{A:bo}{E:aj->aq->Prop}{target:bP}{body orelse:List ed}{it:aj}{T:ug->aq->Prop}(I:Nat->aq->Prop)
 (turn:∀n s,I n s->ForT prog w A env target body orelse it T (λs'=>∃m,m < n/\I m s') s) (n:Nat) (h:I n s):
 iV (aX prog w) A (.forLoop target it body orelse env) (λr s'=>match r with| .ok f=>T f s'| .error e=>GG (aX prog w) A env E e s') s:=
 codeAny_forLoop_any I (λn s hI=>(turn n s hI).c (λ{z} h=>h) λ{v s1} h=>eR h (λz s2 h=>eR h (λz s3 h=>eR h (λf s4 h=>by cases f <;> exact h) λz z e=>e) λz z e=>e) λz z e=>e) n h
structure BE(Z:bI)(Inv:Nat->Mu->Prop)(m:Nat)(it:Nat->cY)(fr:Mu)(n:Nat)(s':aq):Prop where
 ex:∃i Z' nu,n=m+1 - i/\i<=m/\Z.le Z'/\R Z' (it i::(nu++fr)) s'/\Inv i nu
theorem BE.lt{Inv:Nat->Mu->Prop}{m:Nat}{it:Nat->cY}{fr:Mu}{s':aq}{i:Nat}{Z':bI}(hi:i < m)(z:Z.le Z')(r:R Z' (nu++(it (i+1)::fr)) s')(h:Inv (i+1) nu):∃n,n < m+1 - i/\BE Z Inv m it fr n s':=
 ⟨m+1 - (i+1),Nat.sub_lt_sub_left (cJ hi) (jf _),⟨i+1,Z',nu,rfl,hi,z,r.perm cv,h⟩⟩
@[elab_as_elim] theorem BE.by{P:Nat->Prop}{Inv:Nat->Mu->Prop}{m:Nat}{it:Nat->cY}{fr:Mu}{n:Nat}{s':aq}(h:BE Z Inv m it fr n s')(item:∀{i Z' nu},i < m->Z.le Z'->R Z' (it i::(nu++fr)) s'->Inv i nu->P (m+1 - i))
 (done:∀{Z' nu},Z.le Z'->R Z' (it m::(nu++fr)) s'->Inv m nu->P (m+1 - m)):P n:=by
 refine g6 (h.ex) λi Z' nu gi hi z r inv=>?_;subst gi;rcases Nat.lt_or_eq_of_le hi with h|rfl
 ·exact item h z r inv
 ·exact done z r inv
theorem GX{A:bo}{E:aj->aq->Prop}{I:ay}{it:Nat->cY}{fr:Mu}{Z1:bI}{Q:ug->aq->Prop}{t:bP}{body orelse:List ed}{ctx:Mu}{xs:List V}(Inv:Nat->Mu->Prop)(hit:CN I ctx t xs it)(hk:1<=k)(h0:Inv 0 mu)(qW:∀i nu,Inv i nu->∀o∈ctx,o∈nu)
 (step:∀i x nu,xs[i]? =ae x->Inv i nu->mI k nu env t x λrp=>WS k rp env body (kU (Inv (i+1)) Φ)) (fin:∀nu,Inv xs.length nu->WS k nu env orelse Φ) (hA:Rm k A) (z1:Z.le Z1) (r:R Z1 (it 0::(mu++fr)) s)
 (q:∀{f s' Z' a nu},Z.le Z'->oZ G Z' f a->R Z' (nu++fr) s'->Φ a nu->Q f s'):iV (aX G.prog G.w) A (.forLoop t (.ref I) body orelse env) (λr s'=>match r with| .ok f=>Q f s'| .error e=>GG (aX G.prog G.w) A env E e s') s:=by
 refine BD (BE Z Inv xs.length it fr) (λn s' h=>h.by ?_ ?_) (xs.length+1) ⟨0,Z1,mu,rfl,gq _,z1,r,h0⟩
 ·intro i Z' nu hi z r inv;refine ⟨λ{y y} hn hs=>hit.item i _ (bH hi) (hA.le hk) (λo ho=>aE _ (qW i nu inv o ho)) r λ{v s3} h3=>hs (h3 λ{s4 Z4} z4 hv r4=>?_)⟩;refine (step i _ nu (bH hi) inv).c hA (r4.perm cv.symm) hv λ{s5 Z5 nu5} z5 r5 w5=>w5.c hA r5 λ{f s6 Z6 a nu6} z6 f6 r6 w6=>oK.of (fr:=fr) f6 w6 (BE.lt hi (z.trans (z4.trans (z5.trans z6))) r6) λ{y y} hg=>q (z.trans (z4.trans (z5.trans z6))) hg (R.drop (r6.perm cv))
 ·intro Z' nu z r inv;exact ⟨λ{y y} hn hs=>hit.done (hA.le hk) (λo ho=>aE _ (qW _ nu inv o ho)) r λ{y y} z3 r3=>hn ((fin nu inv).c hA r3 λ{y y y y y} z4=>q (z.trans (z3.trans z4)))⟩
theorem jN{pos:lF}{t:bP}{body orelse:List ed}{ctx:Mu}{xs:List V}(Inv:Nat->Mu->Prop)(src:o7 k mu env e t ctx xs)(hk:1<=k)(h0:Inv 0 mu)(qW:∀i nu,Inv i nu->∀o∈ctx,o∈nu)
 (step:∀i x nu,xs[i]? =ae x->Inv i nu->mI k nu env t x λrp=>WS k rp env body (kU (Inv (i+1)) Φ))
 (fin:∀nu,Inv xs.length nu->WS k nu env orelse Φ) (hf:autoParam (∀x,bw e env x=dh x) aR):WX k mu env (.For t e body orelse pos) Φ:=⟨λ{A E Z s fr Q} hA r q=>by
 with_reducible refine wpAny_For ?_ hf
 exact src.c hA r λ{z z z z} hit z2 r2=>GX Inv hit hk h0 qW step fin hA z2 r2 q⟩
structure WhI(Z:bI)(Inv:Nat->Mu->Prop)(fr:Mu)(n:Nat)(s':aq):Prop where
 ex:∃Z' nu,Z.le Z'/\R Z' (nu++fr) s'/\Inv n nu
theorem HS{prog:d7}{w:eo}{A:bo}{E:aj->aq->Prop}{test:bP}{body orelse:List ed}{T:ug->aq->Prop}(I:Nat->aq->Prop)
 (turn:∀n s,I n s->∀{E:aj->aq->Prop} {Q:Bool->aq->Prop},(∀{s1},(∀{E:aj->aq->Prop},aS (aX prog w) A (Jo body env) (oK T λs'=>∃m,m < n/\I m s') E s1)->Q aJ s1)->
  (∀{s1},(∀{E:aj->aq->Prop},aS (aX prog w) A (Jo orelse env) T E s1)->Q aH s1)->aS (aX prog w) A (isTrue test env (dW test env)) Q E s) (n:Nat) (h:I n s):
 iV (aX prog w) A (.whileLoop test body orelse env) (λr s'=>match r with| .ok f=>T f s'| .error e=>GG (aX prog w) A env E e s') s:=
 codeAny_whileLoop I (λn s hI=>turn n s hI (λ{z} h=>(if_pos rfl).symm▸eR h (λf s4 h=>by cases f <;> exact h) λz z e=>e) λ{z} h=>(if_neg cG).symm▸h) n h
theorem xO{pos:lF}{body orelse:List ed}(Inv:Nat->Mu->Prop)(n:Nat)(h0:Inv n mu)
 (turn:∀n nu,Inv n nu->WT k nu env e λc rp=>brP c (WS k rp env body (kU (λua=>∃m,m < n/\Inv m ua) Φ)) (WS k rp env orelse Φ)):WX k mu env (.While e body orelse pos) Φ:=⟨λ{A E Z s fr Q} hA r q=>by
 with_reducible refine wpAny_While ?_
 refine HS (WhI Z Inv fr) (λn s' h=>?_) n ⟨Z,mu,.rfl,r,h0⟩;intro E Q2 ht hf;refine cD (h.ex) λZ' nu z r inv=>(turn n nu inv).c hA r λ{c s1 Z1 rp} z1 r1 w1=>?_;cases c with
 |true=>exact ht (WF.c (show WS k rp env body _ from w1) hA r1 λ{f s2 Z2 a ua} z2 f2 r2 w2=>oK.of (fr:=fr) f2 w2 (λ⟨m,hm,hi⟩=>⟨m,hm,⟨Z2,ua,z.trans (z1.trans z2),r2,hi⟩⟩) λ{y y} hg=>q (z.trans (z1.trans z2)) hg r2)
 |false=>exact hf (WF.c (show WS k rp env orelse Φ from w1) hA r1 λ{y y y y y} z2=>q (z.trans (z1.trans z2)))⟩
end
variable {t:bP}{xs:List V}
noncomputable def BF:List String:=["enumerate","zip","dict_itemiterator","dict_reverseitemiterator","odict_iterator","itertools.zip_longest","itertools.pairwise"]
theorem Ft{M:Cv}{A:bo}{E:aj->aq->Prop}{s:aq}{t:bP}{x:bc}{p:lF}{I:ay}{v:aj}{Q:Unit->aq->Prop}(h:Q () s):aS M A (kI (.Name x p) (.ref I) v) Q E s:=ar h
theorem wF{M:Cv}{A:bo}{E:aj->aq->Prop}{s:aq}{t:bP}{I:ay}{v:aj}{n:String}{o:oX}{Q:Unit->aq->Prop}(ho:s.heap.get? I=ae o)(hc:o.cls= .type n)
 (hn:BF.contains n=aH) (h:Q () s):aS M A (kI t (.ref I) v) Q E s:=by
 have key:∀a:ay,aS M A (do
  let o <- load I
  match o.cls,o.data with
  | .type n,.fields vs=>
   if BF.contains n && vs[0]? == ae (pA a) then
    rule "for.unpacks-the-owned-tuple"
    updateField I 0 .none
  |_,_=>dh ():oY Unit) Q E s:=λa=>by
  refine ag (Th ho ?_);obtain ⟨cls,d,data,sl⟩:=o;subst hc;cases data <;> first|exact ar h|(simp only [hn,Bool.false_and,dk,if_false];exact ar h)
 unfold kI;cases t <;> first|exact ar h|(cases v <;> first|exact ar h|exact key _)
noncomputable def itW(I:ay)(fp:List ay)(Zf:bI)(E8:∀b∈fp,b≠I->∃o,Zf b=ae o)(St:dI->Prop)
 (Gx:∀h h',St h->(∀b∈fp,∀o,h.get? b=ae o->h'.get? b=ae o)->St h') (hl:∀h,St h->∃o,h.get? I=ae o):cY where
 own:=[I]
 sat:=λZ h=>Zf.le Z/\St h
 mono:=λZ Z' h hz ⟨a,b⟩=>⟨bI.le_trans a hz,b⟩
 loc:=λZ h h' ⟨a,b⟩ hk hz MM=>⟨a,Gx h h' b λc hc o e=>by
  by_cases hI:c=I
  ·subst hI;exact hk c aa o e
  ·refine cK (E8 c hc hI) λo' TQ=>?_;have h1:=hz c o' (a _ _ TQ);rw [e] at h1;(have lz:=aO h1;clear h1;subst lz);exact MM c _ (a _ _ TQ)⟩
 live:=λZ h ⟨a,b⟩ c hc=>by simp at hc;subst hc;exact hl h b
theorem CN.ofWalks{I:ay}{fp:List ay}{n:Nat}{P:Nat->aj->Prop}{St:Nat->dI->Prop}{Zf:bI}{c:String}(W:∀A:bo,A.handled=av->Walks G.prog G.w A I fp [I] n P St)(hn:xs.length=n)
 (E8:∀b∈fp,b≠I->∃o,Zf b=ae o) (hP:∀i v x,xs[i]? =ae x->P i v->aZ G Zf v x) (hc:∀i h,St i h->∃o,h.get? I=ae o/\o.cls= .type c) (hcn:BF.contains c=aH):
 CN I [] t xs λi=>itW I fp Zf E8 (St i) ((W {} rfl).frame i) λh s=>(hc i h s).imp λz q=>q.1 where
 item:=λi x hx {A E Z s fr Q} hA z r q=>by
  have hs:=r.sat _ aa;exact (W A hA.hh).item i s _ E (hn▸(aB.mp hx).1) hs.2 λv h' tk hp hst' hk=>q λ{E T} p=>aK (hc _ _ hst') λo ho hcl=>wF (s:={s with heap:=h',toks:=tk}) ho hcl hcn (p .rfl ((hP i v x hx hp).mono hs.1) (r.upd' (x':=itW I fp Zf E8 (St (i+1)) ((W {} rfl).frame _) _) (i:=0) (h':=h') (tk:=tk) rfl rfl hk ⟨hs.1,hst'⟩))
 done:=λ{A E Z s fr Q} hA z r q=>by
  have hs:=r.sat _ aa;rw [hn] at hs;exact (W A hA.hh).done s _ E hs.2 λh' tk hk=>q .rfl (r.dropUpd hk)
 self:=λi {A E Z s fr Q} hA r q=>(W A hA.hh).self i s _ E (r.sat _ aa).2 (q r)
variable {Ps:List (Vw)}{pos:lF}{o:bP}{es:List bP}{A:bo}{E:aj->aq->Prop}{fr:Mu}
inductive j0(Z:bI):List aj->List (Vw)->Prop
 |nil:j0 Z [] []
 |cons {v vs P Ps:_}:P.p Z v->j0 Z vs Ps->j0 Z (v::vs) (P::Ps)
section
variable {vs:List aj}
theorem j0.cons_inv(h:j0 Z vs (P::Ps)):∃v ro,vs=v::ro/\P.p Z v/\j0 Z ro Ps:=by cases h with|cons a r=>exact ⟨_,_,rfl,a,r⟩
theorem j0.none(h:j0 Z vs ([]:List (Vw))):vs=[]:=by cases h;rfl
theorem j0.one(h:j0 Z vs [P]):∃v,vs=[v]/\P.p Z v:=
 h.cons_inv.imp λv w=>w.elim λz w=>⟨w.2.2.none▸w.1,w.2.1⟩
theorem j0.two(h:j0 Z vs [P,Q]):∃v u,vs=[v,u]/\P.p Z v/\Q.p Z u:=
 by obtain ⟨v,_,rfl,a,r⟩:=h.cons_inv;obtain ⟨u,rfl,b⟩:=r.one;exact ⟨v,u,rfl,a,b⟩
theorem j0.three(h:j0 Z vs [P,Q,S]):∃v u w,vs=[v,u,w]/\P.p Z v/\Q.p Z u/\S.p Z w:=
 by obtain ⟨v,_,rfl,a,r⟩:=h.cons_inv;obtain ⟨u,w,rfl,b,c⟩:=r.two;exact ⟨v,u,w,rfl,a,b,c⟩
end
theorem gG{Z:bI}{v:aj}{i:Int}(h:(bZ (.int i):Vw).p Z v):∃t,v= .int i t:=aZ.is h
theorem gV{Z:bI}{v:aj}{x:bc}(h:(bZ (.str x):Vw).p Z v):∃t,v= .str x t:=aZ.is h
structure tx(k:Nat)(mu:Mu)(env:iE)(es:List bP)(Ps:List (Vw)):Prop where
 len:es.length=Ps.length
 plain:∀pos,(lb pos (fl es env)).any (·.1)=aH
 c:∀{A:bo} {E:aj->aq->Prop} {Z:bI} {s:aq} {fr:Mu} {pos:lF} {Q:List aj->aq->Prop},Rm k A->R Z (mu++fr) s->
  (∀{vs s' Z'},Z.le Z'->j0 Z' vs Ps->R Z' (mu++fr) s'->Q vs s')->aS (aX G.prog G.w) A (spliced (lb pos (fl es env))) Q E s
structure Fn(k:Nat)(mu:Mu)(f:aj)(Ps:List (Vw))(S:Vw):Prop where
 c:∀{A:bo} {E:aj->aq->Prop} {Z:bI} {s:aq} {fr:Mu} {vs:List aj} {Q:aj->aq->Prop},Rm k A->R Z (mu++fr) s->j0 Z vs Ps->
  (∀{w s' Z'},Z.le Z'->S.p Z' w->R Z' (mu++fr) s'->Q w s')->aS (aX G.prog G.w) A (ks f vs) Q E s
section
variable {p':lF}{x:bc}{Q:aj->aq->Prop}
theorem aT:tx k mu env [] []:=⟨rfl,λz=>rfl,λ{z z z z z z z} hA r q=>ar (q .rfl .nil r)⟩
theorem et(hs:∀a p,e≠ .Starred a p):fl (e::es) env=(aH,dW e env)::fl es env:=by cases e <;> first|rfl|exact absurd rfl (hs _ _)
theorem au(h:EV k mu env e P)(hr:tx k mu env es Ps)(hs:∀a p,e≠ .Starred a p:=by intro z z h;cases h):tx k mu env (e::es) (P::Ps):=
 ⟨congrArg xh hr.len,λpos=>by
  refine ai (et hs ..) ?_;exact hr.plain pos,λ{A E Z s fr pos Q} hA r q=>by
  refine ai (et hs ..) ?_;show aS _ A (dW e env >>=λv=>eV [v] (spliced (lb pos (fl es env))) >>=λr=>dh ([v]++r)) Q E s;exact ag (h.c hA r λ{z z z} z1 p1 r1=>ag (bC (hr.c hA r1 λ{z z z} z2 p2 r2=>ar (q (z1.trans z2) (.cons (P.mono _ _ _ z2 p1) p2) r2))))⟩
theorem tx.any(ha:tx k mu env (e::es) Ps)(hs:∀a p,e≠ .Starred a p):(lb pos ((aH,dW e env)::fl es env)).any (·.1)=aH:=et hs▸ha.plain pos
theorem BG{id:String}(hf:PE k mu env (.Name x p) (.bi id))(ha:tx k mu env (e::es) Ps)(hs:∀a p,e≠ .Starred a p)(hA:Rm k A)(r:R Z (mu++fr) s)
 (h:∀{vs s' Z'},Z.le Z'->j0 Z' vs Ps->R Z' (mu++fr) s'->aS (aX G.prog G.w) A (ks (.builtin id) vs) Q E s'):aS (aX G.prog G.w) A (dW (.Call (.Name x p) (e::es) [] pos) env) Q E s:=by
 with_reducible refine gC ?_
 exact hf.c hA r λ{f s1 Z1} z1 q1 r1=>ai (aZ.biE q1 ..) (EO (ha.c hA r1 λ{z z z} z2 q2 r2=>h (z1.trans z2) q2 r2) (et hs) (ha.any hs))
theorem su{T:String}(hf:PE k mu env (.Name x p) (.type T))(ha:tx k mu env (e::es) Ps)(hs:∀a p,e≠ .Starred a p)(hA:Rm k A)(r:R Z (mu++fr) s)
 (h:∀{vs s' Z'},Z.le Z'->j0 Z' vs Ps->R Z' (mu++fr) s'->aS (aX G.prog G.w) A (ks (.type T) vs) Q E s'):aS (aX G.prog G.w) A (dW (.Call (.Name x p) (e::es) [] pos) env) Q E s:=by
 with_reducible refine gC ?_
 exact hf.c hA r λ{f s1 Z1} z1 q1 r1=>ai (aZ.typeE q1 ..) (PyProof.Rows.callWith_type1 (ha.c hA r1 λ{z z z} z2 q2 r2=>h (z1.trans z2) q2 r2) (et hs) (ha.any hs))
theorem NW{a:ay}{ob:oX}{fd:cn}(hf:PE k mu env (.Name x p) (.ref a))(h0:G.Z0 a=ae ob)(hd:ob.data= .func fd)(ha:tx k mu env (e::es) Ps)(hs:∀a p,e≠ .Starred a p)(hA:Rm k A)(r:R Z (mu++fr) s)
 (h:∀{vs s' Z'},Z.le Z'->j0 Z' vs Ps->R Z' (mu++fr) s'->aS (aX G.prog G.w) A (ks (.ref a) vs) Q E s'):aS (aX G.prog G.w) A (dW (.Call (.Name x p) (e::es) [] pos) env) Q E s:=by
 with_reducible refine gC ?_
 exact hf.c hA r λ{f s1 Z1} z1 q1 r1=>ai (aZ.refE q1 ..) (iK hd (ha.c hA r1 λ{z z z} z2 q2 r2=>⟨r2.z0in _ _ h0,h (z1.trans z2) q2 r2⟩) (et hs))
theorem ej{id:String}(hf:PE k mu env (.Name x p) (.bi id))(ha:tx k mu env (e::es) Ps)(hF:Fn k mu (.builtin id) Ps S)(hs:∀a p,e≠ .Starred a p:=by intro z z h;cases h):
 EV k mu env (.Call (.Name x p) (e::es) [] pos) S:=⟨λ{z z z z z z} hA r q=>BG hf ha hs hA r λ{z z z} z2 q2 r2=>hF.c hA r2 q2 λ{z z z} z3=>q (z2.trans z3)⟩
theorem iZ{T:String}(hf:PE k mu env (.Name x p) (.type T))(ha:tx k mu env (e::es) Ps)(hF:Fn k mu (.type T) Ps S)(hs:∀a p,e≠ .Starred a p:=by intro z z h;cases h):
 EV k mu env (.Call (.Name x p) (e::es) [] pos) S:=⟨λ{z z z z z z} hA r q=>su hf ha hs hA r λ{z z z} z2 q2 r2=>hF.c hA r2 q2 λ{z z z} z3=>q (z2.trans z3)⟩
theorem J5{a:ay}{ob:oX}{fd:cn}(hf:PE k mu env (.Name x p) (.ref a))(h0:G.Z0 a=ae ob)(hd:ob.data= .func fd)(ha:tx k mu env (e::es) Ps)(hF:Fn k mu (.ref a) Ps S)(hs:∀a p,e≠ .Starred a p:=by intro z z h;cases h):
 EV k mu env (.Call (.Name x p) (e::es) [] pos) S:=⟨λ{z z z z z z} hA r q=>NW hf h0 hd ha hs hA r λ{z z z} z2 q2 r2=>hF.c hA r2 q2 λ{z z z} z3=>q (z2.trans z3)⟩
structure Ty(mu:Mu)(P:Vw)(T:String):Prop where
 run:∀(Z:bI) (s:aq) (fr:Mu) (v:aj),R Z (mu++fr) s->P.p Z v->s.TypeIs v T/\∀a,v= .ref a->∃ob,s.heap.get? a=ae ob/\ob.dict=av
theorem mJ{a:bc}:Ty mu (bZ (.str a)) "str":=⟨λZ s fr v r h=>aZ.strC h λz=>⟨rfl,λa e=>nomatch e⟩⟩
theorem Ty.at{T:String}{a:ay}{o:oX}(ho:s.heap.get? a=ae o)(hc:o.cls= .type T)(hd:o.dict=av):s.TypeIs (.ref a) T/\∀b,cZ a= .ref b->∃ob,s.heap.get? b=ae ob/\ob.dict=av:=
 ⟨⟨_,ho,hc⟩,λb e=>⟨o,Value.ref.inj e▸ho,hd⟩⟩
theorem GY:Ty mu (md mu xs) "list":=⟨λZ s fr v r ⟨a,e,q⟩=>by
 exact eD (q Z s .rfl r.left) λvs n h1 h2=>e▸Ty.at h1 rfl rfl⟩
theorem tx.unstar(ha:tx k mu env (e::es) Ps):∀a p,e≠ .Starred a p:=λa p he=>by
 subst he;exact EP (ha.plain ⟨0,0,0,0⟩)
theorem BI{id T:String}{name:bc}{apos:lF}(ho:EV k mu env o P)(ht:Ty mu P T)(hpl:(lb pos (fl es env)).any (·.1)=aH)(pa:zo T)(slot:Slot T name id)
 (MN:jT (.builtin id)=dh (.type "method_descriptor")) (hl:(apos.endLine == pos.line)=aJ) (hsz:es.length < 29) (si:rk o name env (dW o env)=dW o env) (hA:Rm k A) (r:R Z (mu++fr) s)
 (h:∀{v s' Z'},Z.le Z'->P.p Z' v->R Z' (mu++fr) s'->aS (aX G.prog G.w) A (pB pos (.builtin id) [v] (lb pos (fl es env)) []) Q E s'):aS (aX G.prog G.w) A (dW (.Call (.Attribute o name apos) es [] pos) env) Q E s:=by
 with_reducible refine wpAny_Call_method si ?_ hl pa slot MN ?_
 ·refine ai (show (lb pos (fl es env)).all (λx=>!x.1)=aJ from fW.mpr λq hq=>by rw [Cw,Bool.eq_false_iff];exact λh=>List.any_eq_false.mp hpl q hq h) ?_;exact decide_eq_true (show es.length+0+0 < 30 from cJ hsz)
 exact ho.c hA r λ{ov s1 Z1} z1 q1 r1=>⟨(ht.run Z1 s1 fr ov r1 q1).1,(ht.run Z1 s1 fr ov r1 q1).2,h z1 q1 r1⟩
theorem J6{id T:String}{name:bc}{apos:lF}(ho:EV k mu env o P)(ht:Ty mu P T)(ha:tx k mu env es Ps)(pa:zo T)(slot:Slot T name id)
 (MN:jT (.builtin id)=dh (.type "method_descriptor")) (hl:(apos.endLine == pos.line)=aJ) (hsz:es.length < 29) (si:rk o name env (dW o env)=dW o env) (hA:Rm k A) (r:R Z (mu++fr) s)
 (h:∀{v vs s' Z'},Z.le Z'->j0 Z' (v::vs) (P::Ps)->R Z' (mu++fr) s'->aS (aX G.prog G.w) A (ks (.builtin id) (v::vs)) Q E s'):aS (aX G.prog G.w) A (dW (.Call (.Attribute o name apos) es [] pos) env) Q E s:=by
 refine BI ho ht (ha.plain pos) pa slot MN hl hsz si hA r λ{ov s1 Z1} z1 q1 r1=>callWith_builtin (ha.plain pos) ?_;have fin:∀{vs s2 Z2},Z1.le Z2->j0 Z2 vs Ps->R Z2 (mu++fr) s2->aS (aX G.prog G.w) A (ks (.builtin id) ([ov]++vs) []) Q E s2:=λ{z z z} z2 q2 r2=>h (z1.trans z2) (.cons (P.mono _ _ _ z2 q1) q2) r2;have hr:=ha.c (E:=E) (pos:=pos) hA r1 fin;cases es with
 |nil=>exact Uo (fin .rfl (pz ha.len.symm▸.nil) r1)
 |cons e es=>rw [et ha.unstar] at hr ⊢;exact Jr hr
theorem f7{id T:String}{name:bc}{apos:lF}(ho:EV k mu env o P)(ht:Ty mu P T)(ha:tx k mu env es Ps)(hF:Fn k mu (.builtin id) (P::Ps) S)(pa:zo T)(slot:Slot T name id)
 (MN:jT (.builtin id)=dh (.type "method_descriptor")) (hl:(apos.endLine == pos.line)=aJ) (hsz:autoParam (es.length < 29) aD) (si:autoParam (rk o name env (dW o env)=dW o env) aR):
 EV k mu env (.Call (.Attribute o name apos) es [] pos) S:=⟨λ{z z z z z z} hA r q=>J6 ho ht ha pa slot MN hl hsz si hA r λ{z z z z} z1 q1 r1=>hF.c hA r1 q1 λ{z z z} z2=>q (z1.trans z2)⟩
end
noncomputable def itWT(wr fp:List ay)(Zf:bI)(E8:∀b∈fp,b∉wr->∃o,Zf b=ae o)(St:dI->Prop)
 (Gx:∀h h',St h->(∀b∈fp,∀o,h.get? b=ae o->h'.get? b=ae o)->St h') (hl:∀h,St h->∀b∈wr,∃o,h.get? b=ae o):cY where
 own:=wr
 sat:=λZ h=>Zf.le Z/\St h
 mono:=λZ Z' h hz ⟨a,b⟩=>⟨bI.le_trans a hz,b⟩
 loc:=λZ h h' ⟨a,b⟩ hk hz MM=>⟨a,Gx h h' b λc hc o e=>by
  by_cases hI:c∈wr
  ·exact hk c hI o e
  ·refine cK (E8 c hc hI) λo' TQ=>?_;have h1:=hz c o' (a _ _ TQ);rw [e] at h1;(have lz:=aO h1;clear h1;subst lz);exact MM c _ (a _ _ TQ)⟩
 live:=λZ h ⟨a,b⟩ c hc=>hl h b c hc
theorem CN.ofWalksT{I:ay}{wr fp:List ay}{n:Nat}{Pt:Nat->Array aj->Prop}{St:Nat->dI->Prop}{Mid:Nat->ay->dI->Prop}{Zf:bI}{elts:List bP}{kk:Nat}
 (W:∀A:bo,A.handled=av->WalksT G.prog G.w A I fp wr n Pt St Mid) (hn:xs.length=n)
 (E8:∀b∈fp,b∉wr->∃o,Zf b=ae o) (hP:∀i bF x,xs[i]? =ae x->Pt i bF->∃ys,x= .tup ys/\bW G Zf bF.toList ys)
 (hl:∀i h,St i h->∀b∈wr,∃o,h.get? b=ae o):
 CN I [] (.Tuple elts kk p) xs λi=>itWT wr fp Zf E8 (St i) ((W {} rfl).frame i) (hl i) where
 item:=λi x hx {A E Z s fr Q} hA z r q=>by
  have hs:=r.sat _ aa;refine (W A hA.hh).item i s _ E (hn▸(aB.mp hx).1) hs.2 λT bF h' tk hp hT hTup hMid hk=>q λ{E2 T2} p=>(W A hA.hh).go elts kk _ i T {s with heap:=h',toks:=tk} _ E2 hMid λh'' hst'' hk''=>aK (hP i bF x hx hp) λys dP hys=>?_;subst dP;obtain ⟨o,ho,hc,m,hd⟩:=hTup;exact p (bI.le_put (r.fresh hT)) (.tup (bI.put_self ..) hc hd (hys.mono (hs.1.trans (bI.le_put (r.fresh hT)))))
   (R.freeze (r.upd' (x':=itWT wr fp Zf E8 (St (i+1)) ((W {} rfl).frame _) (hl _)) (i:=0) (h':=h'') (tk:=tk) rfl rfl (λb o hb e=>hk'' b o hb (hk b o hb e)) ⟨hs.1,hst''⟩) (hk'' T o ((W A hA.hh).apart i T h' hMid) ho) (r.fresh hT) (r.notOwn hT))
 done:=λ{A E Z s fr Q} hA z r q=>by
  have hs:=r.sat _ aa;rw [hn] at hs;exact (W A hA.hh).done s _ E hs.2 λh' tk hk=>q .rfl (r.dropUpd hk)
 self:=λi {A E Z s fr Q} hA r q=>(W A hA.hh).self i s _ E (r.sat _ aa).2 (q r)
theorem R.addNew{Z:bI}{s:aq}{mu:Mu}{h':dI}{tk:Nat}(r:R Z mu s)(x:cY)(hk:∀b o,s.heap.get? b=ae o->h'.get? b=ae o)(hx:x.sat Z h')(hn:x.own.Nodup)(ho:∀b∈x.own,s.heap.objs.size<=b):
 R Z (x::mu) {s with heap:=h',toks:=tk}:=(r.keep hk).add x hx hn λb hb=>⟨r.notOwn (ho b hb),r.fresh (ho b hb)⟩
theorem R.swap{Z:bI}{s:aq}{mu:Mu}{h':dI}{tk i:Nat}{a:cY}(r:R Z mu s)(hi:mu[i]? =ae a)(x:cY)(hk:∀b o,b∉a.own->s.heap.get? b=ae o->h'.get? b=ae o)(hx:x.sat Z h')(hn:x.own.Nodup)(ho:∀b∈x.own,b∈a.own\/s.heap.objs.size<=b):
 R Z (mu.set i x) {s with heap:=h',toks:=tk}:=by
 have r1:R Z (a::(mu.take i++mu.drop (i+1))) s:=R.perm (gh hi▸r) cv;refine ai (jZ _ hi ..) (((r1.dropUpd hk).add x hx hn λb hb=>(ho b hb).elim (λh=>⟨λh2=>?_,r1.sep b (aE (gU _) h)⟩) λh=>⟨λh2=>r1.notOwn h (bK a.own h2),r1.fresh h⟩).perm cv.symm);exact (bO.mp (show (a.own++gU (mu.take i++mu.drop (i+1))).Nodup from r1.nodup)).2.2 b h b h2 rfl
theorem eg{a:ay}:[a].Nodup:=cj.mpr ⟨eZ,.nil⟩
theorem kW{a b:ay}(h:b∈[a]):a<=b:=lh (aA.mp h).symm
theorem pK{Z:bI}{s:aq}{nu:Mu}{n:Nat}{P:Nat->aj->Prop}{St:Nat->dI->Prop}{c:String}{fp:List ay}{T:Prop}(r:R Z nu s)(W:∀A:bo,A.handled=av->Walks G.prog G.w A s.heap.objs.size fp [s.heap.objs.size] n P St)(hn:xs.length=n)
 (E8:∀b∈fp,b≠s.heap.objs.size->∃o,Z b=ae o) (hP:∀i v x,xs[i]? =ae x->P i v->aZ G Z v x) (hc:∀i h,St i h->∃o,h.get? s.heap.objs.size=ae o/\o.cls= .type c) (hcn:BF.contains c=aH)
 {h':dI} (hk:∀b o,s.heap.get? b=ae o->h'.get? b=ae o) (h0:St 0 h') (q:∀{it:Nat->cY},CN s.heap.objs.size [] t xs it->R Z (it 0::nu) {s with heap:=h'}->T):T:=
 q (CN.ofWalks (Zf:=Z) W hn E8 hP hc hcn) (r.addNew (tk:=s.toks) _ hk ⟨.rfl,h0⟩ eg λz h=>kW h)
theorem vG{Z:bI}{I a:ay}{o:oX}(e:Z a=ae o):∀b∈[I,a],b≠I->∃o,Z b=ae o:=λb hb hn=>
 (aP.mp hb).elim (λq=>absurd q hn) λq=>⟨o,aA.mp q▸e⟩
theorem nA{Z:bI}{vs:Array aj}{i:Nat}{v:aj}{x:V}(hr:bW G Z vs.toList xs)(hx:xs[i]? =ae x)(hp:vs[i]? =ae v):aZ G Z v x:=by refine aK (hr.get hx) λv' h1 h2=>?_;cases hp.symm.trans (bV.symm.trans h1);exact h2
theorem cb{Z:bI}{vs:Array aj}(hr:bW G Z vs.toList xs):xs.length=vs.size:=hr.length.symm.trans eK
theorem Ap{Z:bI}{s:aq}{nu:Mu}{v:aj}{A:bo}{E Q:aj->aq->Prop}(r:R Z nu s)(h:aZ G Z v (.list xs))(q:∀{I it s'},CN I [] t xs it->R Z (it 0::nu) s'->Q (.ref I) s'):aS (aX G.prog G.w) A (q7 v) Q E s:=by
 refine cF (rg.list h) λa vs n eT e1 hr=>?_;subst eT;have hL:s.heap.IsList a vs:=⟨_,r.zin _ _ e1,rfl,n,rfl⟩;exact lq hL (pK (c:="list_iterator") r (λA hh=>Walks.list hh s.heap.objs.size a (c9 (bM (r.zin _ _ e1))) vs) (cb hr) (vG e1) (λi v x=>nA hr) (λi h hs=>hs.1.imp λz w=>⟨w.1,w.2.1⟩) (by decide)
  (λb o e=>az _ e) ⟨⟨_,aW _ rfl,rfl,rfl⟩,hL.at λo e=>az _ e⟩ q)
theorem dB(h:PE k mu env e (.list xs)):o7 k mu env e t [] xs:=⟨λz h=>(el h),λ{z z z z z z} hA r q=>h.c hA r λ{z z z} z1 q1 r1=>Ap r1 q1 λ{z z z} hit=>q hit z1⟩
theorem IsTuple.at{h h':dI}{a:ay}{vs:Array aj}(x:h.IsTuple a vs)(hk:∀o,h.get? a=ae o->h'.get? a=ae o):h'.IsTuple a vs:=x.imp λo w=>⟨hk o w.1,w.2⟩
theorem xv(h:PE k mu env e (.tup xs)):o7 k mu env e t [] xs:=⟨λz h=>(el h),λ{A E Z s fr Q} hA r q=>by
 refine h.c hA r λ{x s1 Z1} z1 q1 r1=>dM (aZ.tup_inv q1) λa o vs n gi e1 hc hd hr=>?_;subst gi;have hL:s1.heap.IsTuple a vs:=⟨_,r1.zin _ _ e1,hc,n,hd⟩;exact uh hL (pK (c:="tuple_iterator") r1 (λA hh=>Walks.tuple hh s1.heap.objs.size a (c9 (bM (r1.zin _ _ e1))) vs) (cb hr) (vG e1) (λi v x=>nA hr) (λi h hs=>hs.1.imp λz w=>⟨w.1,w.2.1⟩) (by decide)
  (λb o e=>az _ e) ⟨⟨_,aW _ rfl,rfl,rfl⟩,IsTuple.at hL λo e=>az _ e⟩ λ{z} hit r'=>q hit z1 r')⟩
noncomputable def rA(a b:Int):List V:=(aN (b - a).toNat).map λ(i:Nat)=> .int (a+i)
theorem s8(a b:Int):Builtin.Range.rangeSize a b 1=((b - a).toNat:Int):=by
 unfold Builtin.Range.rangeSize;refine ai (if_pos (by decide) ..) ?_
 split
 ·refine ai (Int.ediv_one ..) ?_;lia
 ·lia
theorem wG{a b:Int}(h1: -(2 ^ 60) < a)(h2:a < 2 ^ 60)(h3: -(2 ^ 60) < b)(h4:b < 2 ^ 60):ER a b 1=aJ:=by unfold ER;refine ai (s8 ..) ?_;simp only [Builtin.Range.rangeFitsLong,dR,jU,decide_eq_true_eq,beq_iff_eq];refine ⟨⟨⟨⟨⟨by lia,by exact rq (by assumption) (by decide)⟩,by lia,by exact rq (by assumption) (by decide)⟩,by lia,by lia⟩,by lia,by lia⟩,.inr ?_⟩;refine ai (if_pos (by decide) ..) ?_;simp only [dR,decide_eq_true_eq];lia
theorem NY{I:ay}(a:Int)(n:Nat)(hl:xs.length=n)(hx:∀(i:Nat) (x:V),xs[i]? =ae x->x=V.int (a+i)){Zf:bI}:∃it:Nat->cY,CN I [] t xs it/\(it 0).own=[I]/\
 ∀(h:dI) (Z:bI),Zf.le Z->IsRangeIter h I a n 1->(it 0).sat Z h:=by
 refine ⟨_,CN.ofWalks (Zf:=Zf) (c:="range_iterator") (λA hh=>Walks.range hh I a 1 n) hl (λb hb hn=>absurd (aA.mp hb) hn) (λi v x h1 h2=>by
  refine cK h2 λtk iC=>?_;clear h2;subst iC;(refine ai (hx i x h1 ..) ?_;refine ai (Int.mul_one ..) ?_);exact aZ.int _ _) (λi h hs=>⟨_,hs,rfl⟩) (by decide),rfl,λh Z hz hi=>⟨hz,?_⟩⟩
 show IsRangeIter h I (a+((0:Nat):Int)*1) ((n:Int) - ((0:Nat):Int)) 1;refine ai (show a+((0:Nat):Int)*1=a from PV a) ?_;refine ai (show (n:Int) - ((0:Nat):Int)=n from Int.sub_zero _) ?_;exact hi
theorem Fu(a b:Int):(rA a b).length=(b - a).toNat:=by exact (ak ..).trans fo
theorem Fv(a b:Int):∀(i:Nat) (x:V),(rA a b)[i]? =ae x->x=V.int (a+i):=λi x h=>by
 unfold rA at h;rw [aI] at h;refine aK (aL.mp h) λj hj kF=>?_;subst kF;have h2:=(aB.mp hj).2;simp at h2;subst h2;rfl
theorem xP{Z:bI}{s:aq}{nu:Mu}{a b:Int}{ob:oX}{A:bo}{E Q:aj->aq->Prop}{t1 t2 t3:HO}{tk:Nat}(r:R Z nu s)(ho:ob={cls:= .type "range",data:= .fields #[.int a t1,.int b t2,.int 1 t3]})
 (hs:ER a b 1=aJ) (q:∀{I it s'},CN I [] t (rA a b) it->R Z (it 0::nu) s'->Q (.ref I) s'):aS (aX G.prog G.w) A (q7 (.ref s.heap.objs.size)) Q E {s with heap:=s.heap.push ob,toks:=tk}:=by
 subst ho;refine wpAny_pyIter_range (aW _ rfl) hs (ai (s8 ..) ?_);refine ef (NY (t:=t) (I:=(s.heap.push {cls:= .type "range",data:= .fields #[.int a t1,.int b t2,.int 1 t3]}).objs.size) a (b - a).toNat (Fu a b) (Fv a b) (Zf:=Z)) λit hit qb Gw=>q hit (r.addNew (it 0) (λb o e=>az _ (az _ e)) (Gw _ _ .rfl (aW _ rfl)) (qb▸eg) λb hb=>?_);rw [qb] at hb;(refine ai (aA.mp hb ..) ?_;refine ai (fN ..) ?_);exact jC _
theorem qt{e1 e2:bP}{x:bc}{a b:Int}(hf:PE k mu env (.Name x p) (.type "range"))(h1:PE k mu env e1 (.int a))(h2:PE k mu env e2 (.int b))(ha: -(2 ^ 60) < a/\a < 2 ^ 60)(hb: -(2 ^ 60) < b/\b < 2 ^ 60)
 (zf:∀a p,e1≠ .Starred a p:=by intro z z h;cases h) (Gy:∀a p,e2≠ .Starred a p:=by intro z z h;cases h):
 o7 k mu env (.Call (.Name x p) [e1,e2] [] pos) t [] (rA a b):=⟨λz h=>(el h),λ{A E Z s fr Q} hA r q=>by
 refine su hf (au h1 (au h2 aT Gy) zf) zf hA r λ{vs s2 Z2} z2 q2 r2=>cD (q2.two) λv1 v2 l9 q5 q6=>?_;subst l9;refine aZ.intC q5 λt1=>aZ.intC q6 λt2=>?_
 with_reducible refine call_range_2 ?_
 exact xP r2 rfl (wG ha.1 ha.2 hb.1 hb.2) λ{z z z} hit=>q hit z2⟩
theorem Fw{e1:bP}{x:bc}{b:Int}(hf:PE k mu env (.Name x p) (.type "range"))(h1:PE k mu env e1 (.int b))(hb: -(2 ^ 60) < b/\b < 2 ^ 60)
 (zf:∀a p,e1≠ .Starred a p:=by intro z z h;cases h):o7 k mu env (.Call (.Name x p) [e1] [] pos) t [] (rA 0 b):=⟨λz h=>(el h),λ{A E Z s fr Q} hA r q=>by
 refine su hf (au h1 aT zf) zf hA r λ{vs s2 Z2} z2 q2 r2=>aK (q2.one) λv1 mD q5=>?_;subst mD;refine aZ.intC q5 λt1=>?_
 with_reducible refine call_range_1 ?_
 exact xP r2 rfl (wG (by decide) (by decide) hb.1 hb.2) λ{z z z} hit=>q hit z2⟩
theorem fJ{e1:bP}{x:bc}{b:Int}{n:Nat}(hf:PE k mu env (.Name x p) (.type "range"))(h1:PE k mu env e1 (.int b))(hn:b=n)(hb:n < 2 ^ 60)
 (zf:∀a p,e1≠ .Starred a p:=by intro z z h;cases h):o7 k mu env (.Call (.Name x p) [e1] [] pos) t [] ((aN n).map λ(i:Nat)=>V.int i):=by
 have:=Fw (t:=t) (pos:=pos) hf h1 (by lia) zf;subst hn;unfold rA at this;simpa using this
noncomputable def nB(x:bc):List V:=x.cps.toList.map λc=> .str ⟨#[c]⟩
theorem qu(x:bc):(x.cps.all (· < 128)=aJ/\vi x="str_ascii_iterator")\/(x.cps.all (· < 128)=aH/\vi x="str_iterator"):=by
 unfold vi;cases h:x.cps.all (· < 128)
 ·exact .inr ⟨rfl,by rfl⟩
 ·exact .inl ⟨rfl,by rfl⟩
theorem J7{A:bo}(hh:A.handled=av)(I:ay)(x:bc)(tk:HO):Walks G.prog G.w A I [I] [I] x.cps.size (SignAt x) (λi h=>h.IsStrIter I (vi x) x tk i):=by
 rcases qu x with ⟨_,e⟩|⟨_,e⟩ <;> refine ai (e ..) ?_
 ·exact Walks.strAscii hh I x tk
 ·exact Walks.strWide hh I x tk
theorem tA(x:bc){i:Nat}{y:V}{v:aj}{Z:bI}(h:(nB x)[i]? =ae y)(hs:SignAt x i v):aZ G Z v y:=by refine eD hs λc u hc qX=>?_;clear hs;subst qX;unfold nB at h;rw [aI,bV,hc] at h;simp at h;subst h;exact aZ.str _ _
theorem NZ{x:bc}(h:PE k mu env e (.str x)):o7 k mu env e t [] (nB x):=⟨λz h=>(el h),λ{A E Z s fr Q} hA r q=>by
 exact h.c hA r λ{v s1 Z1} z1 q1 r1=>aZ.strC q1 λtk=>wpAny_pyIter_strU (pK (c:=vi x) r1 (λA hh=>J7 hh s1.heap.objs.size x tk) (by exact ak ..) (λb hb hn=>absurd (aA.mp hb) hn) (λi v y=>tA x)
  (λi h hs=>hs.imp λz w=>⟨w.1,w.2.1⟩) (by rcases qu x with ⟨_,e⟩|⟨_,e⟩ <;> refine ai (e ..) ?_ <;> decide) (λb o e=>az _ e) ⟨_,aW _ rfl,rfl,rfl⟩ λ{z} hit r'=>q hit z1 r')⟩
variable {tp:lF}{kk:Nat}{elts:List bP}
section
variable {x:bc}
noncomputable def rB(xs:List V):List V:=xs.mapIdx λi x=> .tup [.int (i:Nat),x]
theorem HT(xs:List V):(rB xs).length=xs.length:=by simp [rB]
theorem HU(xs:List V){i:Nat}{y:V}(h:(rB xs)[i]? =ae y):∃x,xs[i]? =ae x/\y= .tup [.int (i:Nat),x]:=by unfold rB at h;rw [Ti] at h;exact aK (aL.mp h) λx h1 h2=>⟨x,h1,h2.symm⟩
def tB.S0(e0 it:ay)(fp:List ay)(St:Nat->dI->Prop)(Zf:bI)(_:Nat):Prop:=∀{tp:lF} {xs:List V} {kk:Nat} {elts:List bP} {n:Nat} {P:Nat->aj->Prop} (iQ:e0≠it) (hfe:e0∉fp) (hif:it∈fp) (D:∀A:bo,A.handled=av->Draws G.prog G.w A it fp n P St) (hn:xs.length=n) (E8:∀b∈fp,b≠it->∃o,Zf b=ae o) (hP:∀i v x,xs[i]? =ae x->P i v->aZ G Zf v x),∃I:Nat->cY,CN e0 [] (.Tuple elts kk tp) (rB xs) I/\(I 0).own=[e0,it]/\∀(h:dI) (Z:bI),Zf.le Z->IsEnum h e0 it 0 .none->St 0 h->(I 0).sat Z h
namespace tB
@[irreducible] def e0:=Fi cM cM gE sZ Q0 eO S0
def e0_:=e0.1
def sv:=e0.2.1
def fp_:=e0.2.2.1
def St_:=e0.2.2.2.1
def Zf_:=e0.2.2.2.2.1
theorem T0:S0 e0_ sv fp_ St_ Zf_ e0.2.2.2.2.2:=by
 intro tp xs kk elts n P iQ hfe hif D hn E8 hP;refine ⟨_,CN.ofWalksT (p:=tp) (elts:=elts) (kk:=kk) (Zf:=Zf_) (λA hh=>WalksT.enumerateD (D A.in1 hh) e0_ iQ hfe hif) ((HT xs).trans hn) (λb hb hn=>?_) (λi bF x hx hp=>?_) (λi h hs b hb=>?_),rfl,λh Z hz h1 h2=>⟨hz,⟨_,h1⟩,h2⟩⟩
 ·rcases aP.mp hb with rfl|hb
  ·exact absurd aa hn
  ·exact E8 b hb λq=>hn (q▸ab _ aa)
 ·refine aK (HU xs hx) λy h1 dP=>?_;subst dP;refine eD hp λtk v hv eT=>?_;clear hp;subst eT;exact ⟨_,rfl,.cons (.int _ _) (.cons (hP i v y h1 hv) .nil)⟩
 ·rcases aP.mp hb with rfl|hb
  ·exact hs.1.elim λz ho=>⟨_,ho⟩
  ·exact aA.mp hb▸(D {} rfl).live i h hs.2
end tB
theorem tB{e0 it:ay}{fp:List ay}{St:Nat->dI->Prop}{Zf:bI}:tB.S0 e0 it fp St Zf 0:=by with_unfolding_all exact uz _ _ _ _ _ _ tB.S0 @tB.T0 e0 it fp St Zf 0
theorem vH{Z:bI}{s:aq}{nu:Mu}{fp:List ay}{n:Nat}{P:Nat->aj->Prop}{St:Nat->dI->Prop}{A:bo}{E Q:aj->aq->Prop}(r:R Z nu s)(D:∀A:bo,A.handled=av->Draws G.prog G.w A s.heap.objs.size fp n P St)
 (hfe:s.heap.objs.size+1∉fp) (hif:s.heap.objs.size∈fp) (hn:xs.length=n) (E8:∀b∈fp,b≠s.heap.objs.size->∃o,Z b=ae o) (hP:∀i v x,xs[i]? =ae x->P i v->aZ G Z v x)
 {h':dI} (he:IsEnum h' (s.heap.objs.size+1) s.heap.objs.size 0 .none) (h0:St 0 h') (hk:∀b o,s.heap.get? b=ae o->h'.get? b=ae o)
 (q:∀{I it s'},CN I [] (.Tuple elts kk tp) (rB xs) it->R Z (it 0::nu) s'->Q (.ref I) s'):aS (aX G.prog G.w) A (q7 (.ref (s.heap.objs.size+1))) Q E {s with heap:=h'}:=by
 with_reducible refine wpAny_pyIter_enum he ?_
 refine ef (tB (xs:=xs) (Zf:=Z) (elts:=elts) (kk:=kk) (tp:=tp) (oq _) hfe hif D hn E8 hP) λit hit qb Gw=>q hit (r.addNew (tk:=s.toks) (it 0) hk (Gw _ _ .rfl he h0) ?_ λb hb=>?_)
 ·refine ai (qb ..) ?_;exact cj.mpr ⟨λh=>oq _ (aA.mp h),eg⟩
 ·rw [qb] at hb;rcases aP.mp hb with q|hb
  ·refine ai (q ..) ?_;exact jC _
  ·exact kW hb
theorem GZ{I a:ay}(h:a < I):I+1∉[I,a]:=λq=>(aP.mp q).elim (oq _) λq=>jI (cJ h) (aA.mp q)
theorem HV{e1:bP}(hf:PE k mu env (.Name x p) (.type "enumerate"))(h1:PE k mu env e1 (.list xs))(zf:∀a p,e1≠ .Starred a p:=by intro z z h;cases h):
 o7 k mu env (.Call (.Name x p) [e1] [] pos) (.Tuple elts kk tp) [] (rB xs):=⟨λz h=>(el h),λ{A E Z s fr Q} hA r q=>by
 refine su hf (au h1 aT zf) zf hA r λ{vs s2 Z2} z2 q2 r2=>aK (q2.one) λv1 gi q5=>?_;subst gi;refine cF (rg.list q5) λa vs n iC e1 hr=>?_;subst iC;have hL:s2.heap.IsList a vs:=⟨_,r2.zin _ _ e1,rfl,n,rfl⟩;have SD:=bM (r2.zin _ _ e1);exact call_enumerate_list hL λh' he TR hsz hk=>vH r2 (λA hh=>Draws.list hh s2.heap.objs.size a (c9 SD) vs) (GZ SD) aa (cb hr) (vG e1) (λi v x=>nA hr) he ⟨TR,hL.at λo e=>hk _ _ e⟩ hk λ{z z z} hit=>q hit z2⟩
theorem J8{A:bo}(hh:A.handled=av)(I:ay)(x:bc)(tk:HO):Draws G.prog G.w A I [I] x.cps.size (λi v=>∃c u,x.cps[i]? =ae c/\v= .str ⟨#[c]⟩ u) (λi h=>h.IsStrIter I (vi x) x tk i):=by
 rcases qu x with ⟨_,e⟩|⟨_,e⟩ <;> refine ai (e ..) ?_
 ·exact Draws.strAscii hh I x tk
 ·exact Draws.strWide hh I x tk
theorem HW{e1:bP}{y:bc}(hf:PE k mu env (.Name x p) (.type "enumerate"))(h1:PE k mu env e1 (.str y))(zf:∀a p,e1≠ .Starred a p:=by intro z z h;cases h):
 o7 k mu env (.Call (.Name x p) [e1] [] pos) (.Tuple elts kk tp) [] (rB (nB y)):=⟨λz h=>(el h),λ{A E Z s fr Q} hA r q=>by
 refine su hf (au h1 aT zf) zf hA r λ{vs s2 Z2} z2 q2 r2=>aK (q2.one) λv1 kF q5=>?_;subst kF;exact aZ.strC q5 λtk=>call_enumerate_str λh' he TR hsz hk=>vH r2 (λA hh=>J8 hh s2.heap.objs.size y tk) (λh=>oq _ (aA.mp h)) aa (by exact ak ..) (λb hb hn=>absurd (aA.mp hb) hn) (λi v x=>tA y) he TR hk λ{z z z} hit=>q hit z2⟩
theorem Aq{α:Type}(l:List α)(inj:α->V):rB (l.map inj)=l.zipIdx.map λq=>V.tup [.int (q.2:Nat),inj q.1]:=by refine List.ext_getElem? λi=>?_;unfold rB;refine ai (Ti ..) ?_;refine ai (aI ..) ?_;refine ai (aI ..) ?_;refine ai (Tj ..) ?_;cases l[i]? <;> simp
theorem sx{α:Type}{e1:bP}{l:List α}{inj:α->V}(hf:PE k mu env (.Name x p) (.type "enumerate"))(h1:PE k mu env e1 (.list (l.map inj)))(zf:∀a p,e1≠ .Starred a p:=by intro z z h;cases h):
 o7 k mu env (.Call (.Name x p) [e1] [] pos) (.Tuple elts kk tp) [] (l.zipIdx.map λq=>V.tup [.int (q.2:Nat),inj q.1]):=by
 refine fZ (Aq ..) ?_;exact HV hf h1 zf
theorem HX{e1:bP}{y:bc}(hf:PE k mu env (.Name x p) (.type "enumerate"))(h1:PE k mu env e1 (.str y))(zf:∀a p,e1≠ .Starred a p:=by intro z z h;cases h):
 o7 k mu env (.Call (.Name x p) [e1] [] pos) (.Tuple elts kk tp) [] (y.cps.toList.zipIdx.map λq=>V.tup [.int (q.2:Nat),.str ⟨#[q.1]⟩]):=by
 have:=HW (elts:=elts) (kk:=kk) (tp:=tp) (pos:=pos) hf h1 zf;unfold nB at this
 rwa [Aq] at this
def aZ.dict_inv.S0(Z:bI)(es:List (bc×V)):Prop:=∀{v:aj} (h:aZ G Z v (.dict es)),∃a o kvs,v= .ref a/\(a == lX)=aH/\Z a=ae o/\By G o kvs/\kvs.map (·.1)=es.map (·.1)/\bW G Z (kvs.map (·.2)) (es.map (·.2))
namespace aZ.dict_inv
@[irreducible] def e0:=P4 Q0 gE S0
def Z_:=e0.1
def es_:=e0.2
theorem T0:S0 Z_ es_:=by intro v h;cases h with|dict s e d k r=>exact ⟨_,_,_,rfl,s,e,d,k,r⟩
end aZ.dict_inv
theorem aZ.dict_inv{Z:bI}{es:List (bc×V)}:aZ.dict_inv.S0 Z es:=by with_unfolding_all exact Fh _ _ aZ.dict_inv.S0 @aZ.dict_inv.T0 Z es
theorem J9{es:List (bc×V)}(h:PE k mu env e (.dict es)):o7 k mu env e t [] (es.map λq=> .str q.1):=⟨λz h=>(el h),λ{A E Z s fr Q} hA r q=>by
 refine h.c hA r λ{x s1 Z1} z1 q1 r1=>wA (aZ.dict_inv q1) λa o kvs l9 hq e1 mD hk hr=>?_;subst l9;refine Al mD λd1 Nq ep d2 d3 d4 d5=>?_;clear mD;have ho:=r1.zin _ _ e1;refine wpAny_pyIter_dict hq (⟨o,Nq,ho,d1,d2,d3,d4,d5⟩:s1.heap.DictAt (strKind G.prog G.w) a kvs ep) (pK (c:="dict_keyiterator") r1 (λA hh=>Walks.dictKeys (knd:=strKind G.prog G.w) hh s1.heap.objs.size a (c9 (bM ho)) kvs ep) ?_ (vG e1) (λi v x hx hp=>?_)
  (λi h hs=>hs.1.imp λz w=>⟨w.1,w.2.1⟩) (by decide) (λb o e=>az _ e) ⟨⟨_,aW _ rfl,rfl,rfl⟩,o,Nq,az _ ho,d1,d2,d3,d4,d5⟩ λ{z} hit r'=>q hit z1 r')
 ·(refine ai (ak ..) ?_;refine fZ (ak (f:=(·.1)) ..) ?_;refine fZ (hk ..) ?_;refine ai (ak ..) ?_;rfl)
 ·refine eD hp λkey val h1 h2=>?_;clear hp;refine cK (ES (show Value.isStrOf key v=aJ from h2)) λtk qX=>?_;subst qX;have h3:(es.map (·.1))[i]? =ae key:=by (refine fZ (hk ..) ?_;refine ai (aI ..) ?_;refine ai (h1 ..) ?_);rfl
  rw [aI] at h3 hx;refine aK (aL.mp h3) λq hq ub=>?_;subst ub;rw [hq] at hx
  (have lz:=aO hx;clear hx;subst lz)
  exact aZ.str _ _⟩
noncomputable def Ka(I a:ay)(i:Nat):cY where
 own:=[I]
 sat:=λZ h=>h.IsListIter I a i
 mono:=λZ Z' h hz s=>s
 loc:=λZ h h' hs hk z z=>hs.at λo e=>hk I aa o e
 live:=λZ h ⟨o,ho,_⟩ c hc=>by simp at hc;subst hc;exact ⟨o,ho⟩
theorem xQ{I a:ay}(iQ:a≠I):CN I [bk a xs] t xs (Ka I a) where
 item:=λi x hx {A E Z s fr Q} hA hc r q=>by
  exact eD (r.sat _ (ab _ (hc _ aa))) λvs n h1 h2=>aK (h2.get hx) λv h3 h4=>zp (show s.heap.IsListIter I a i from r.sat _ aa) (⟨_,h1,rfl,n,rfl⟩:s.heap.IsList a vs) (bV.symm.trans h3) λh' hit hsb=>q λ{E T} p=>ef (id hit) λo ho hcl z=>wF (s:={s with heap:=h'}) ho hcl (by decide) (p .rfl h4 (r.upd' (x':=Ka I a (i+1)) (i:=0) (h':=h') (tk:=s.toks) rfl rfl (λb o hb e=>hsb.extBut b o (λq=>hb (q▸aa)) e) hit))
 done:=λ{A E Z s fr Q} hA hc r q=>by
  exact eD (r.sat _ (ab _ (hc _ aa))) λvs n h1 h2=>Ad hA.hh (show s.heap.IsListIter I a xs.length from r.sat _ aa) (⟨_,h1,rfl,n,rfl⟩:s.heap.IsList a vs) (PW (lh (cb h2).symm)) λh' hx=>q .rfl (r.dropUpd (tk:=s.toks) λb o hb e=>hx b o (λq=>hb (q▸aa)) e)
 self:=λi {A E Z s fr Q} hA r q=>wpAny_pyIter_listiter (r.sat _ aa) (q r)
theorem G0{a:ay}{A:bo}{E:aj->aq->Prop}{Z:bI}{s:aq}{fr:Mu}{Q:aj->aq->Prop}(h:PE k mu env e (.ref a))(hm:bk a xs∈mu)(hA:Rm k A)(r:R Z (mu++fr) s)
 (q:∀{I s' Z'},a≠I->Z.le Z'->R Z' (Ka I a 0::(mu++fr)) s'->Q (.ref I) s'):aS (aX G.prog G.w) A (dW e env) (λx s1=>aS (aX G.prog G.w) A (q7 x) Q E s1) E s:=by
 refine h.c hA r λ{x s1 Z1} z1 q1 r1=>ai (aZ.refE q1 ..) (eD (r1.sat _ (aE fr hm)) λvs n h1 h2=>?_);exact lq (⟨_,h1,rfl,n,rfl⟩:s1.heap.IsList a vs) (q (c9 (bM h1)) z1 (r1.addNew (tk:=s1.toks) (Ka s1.heap.objs.size a 0) (λb o e=>az _ e) (⟨_,aW _ rfl,rfl,rfl⟩:(s1.heap.push _).IsListIter s1.heap.objs.size a 0) eg λz h=>kW h))
theorem Ar{a:ay}(h:PE k mu env e (.ref a))(hm:bk a xs∈mu):o7 k mu env e t [bk a xs] xs:=⟨λo ho=>aA.mp ho▸hm,λ{z z z z z z} hA r q=>G0 h hm hA r λ{z z z} iQ=>q (xQ iQ)⟩
end
noncomputable def C6(target:bP)(ip:lF)(ifs:List bP)(nh fin:oY Fin)(it:aj)(env:iE):oY Fin:=do
 iF ip
 match <- lZ it with
 |none=>dh (.done .next)
 |some v=>
  kI target it v
  wo target env v
  let mut ok:=aJ
  for c in ifs do
   if ok then ok <- isTrue c env (dW c env)
  if ok then nh else fin
noncomputable def G1(elt:bP)(acc:aj)(env:iE):oY Unit:=do let _ <- ks (.builtin "list.append") [acc,<- dW elt env]
noncomputable def Kb(ke ve:bP)(acc:aj)(env:iE):oY Unit:=do
 let kv <- dW ke env
 let vv <- eV [kv] (dW ve env)
 match acc with
 | .ref d=>do
  iF {ke.pos with endLine:=ve.pos.endLine,endCol:=ve.pos.endCol}
  eV [kv,vv] (dictSet d kv vv)
 |_=>unsupported "internal:dictcomp"
noncomputable def P8(e iter:bP)(acc:aj)(env:iE)(fin:oY Fin):oY Fin:=do
 let x <- dW iter env
 iF iter.pos
 let x <- bw iter env x
 let _ <- runOwn (.compStart e 1 (<- eV [x] (q7 x)) acc env) env
 fin
noncomputable def uD(e:bP)(d:Nat)(acc:aj)(env:iE)(em:oY Unit)(it:aj):oY Fin:=em >>=λz=>Nz (.compLoop e d it acc env)
noncomputable def vI(e iter:bP)(acc:aj)(env:iE)(it:aj):oY Fin:=P8 e iter acc env (Nz (.compLoop e 0 it acc env))
structure TJ(env:iE)(e:bP)(d:Nat)(acc:aj)(t:bP)(ip:lF)(ifs:List bP)(nh:aj->oY Fin):Prop where
 tree:∀it,compTurn e d it acc env=C6 t ip ifs (nh it) (Nz (.compLoop e d it acc env)) it env
 fr:∀it,(Tn e d it acc env).isFrame=aH/\(Fd e d it acc env).isFrame=aH
 q:∀it,(Fd e d it acc env).quiet=aJ
 u:∀(A:bo) it,A.under (.compStart e d it acc env)=A/\A.under (.compLoop e d it acc env)=A
theorem Kc{elt target iter:bP}{ifs:List bP}{scope:fM}{pos:lF}{acc:aj}{env:iE}:TJ env (.ListComp elt [⟨target,iter,ifs,0⟩] scope pos) 0 acc target iter.pos ifs (uD (.ListComp elt [⟨target,iter,ifs,0⟩] scope pos) 0 acc env (G1 elt acc env)):=
 ⟨λz=>by rfl,λz=>⟨rfl,rfl⟩,λz=>rfl,λz z=>⟨rfl,rfl⟩⟩
theorem N0{elt target iter sI fc:bP}{ifs nZ:List bP}{scope:fM}{pos:lF}{acc:aj}{env:iE}:TJ env (.ListComp elt [⟨target,iter,ifs,0⟩,⟨sI,fc,nZ,0⟩] scope pos) 0 acc target iter.pos ifs (vI (.ListComp elt [⟨target,iter,ifs,0⟩,⟨sI,fc,nZ,0⟩] scope pos) fc acc env):=
 ⟨λz=>by rfl,λz=>⟨rfl,rfl⟩,λz=>rfl,λz z=>⟨rfl,rfl⟩⟩
theorem N1{elt target iter sI fc:bP}{ifs nZ:List bP}{scope:fM}{pos:lF}{acc:aj}{env:iE}:TJ env (.ListComp elt [⟨target,iter,ifs,0⟩,⟨sI,fc,nZ,0⟩] scope pos) 1 acc sI fc.pos nZ (uD (.ListComp elt [⟨target,iter,ifs,0⟩,⟨sI,fc,nZ,0⟩] scope pos) 1 acc env (G1 elt acc env)):=
 ⟨λz=>by rfl,λz=>⟨rfl,rfl⟩,λz=>rfl,λz z=>⟨rfl,rfl⟩⟩
theorem Q9{ke ve target iter:bP}{ifs:List bP}{scope:fM}{pos:lF}{acc:aj}{env:iE}:TJ env (.DictComp ke ve [⟨target,iter,ifs,0⟩] scope pos) 0 acc target iter.pos ifs (uD (.DictComp ke ve [⟨target,iter,ifs,0⟩] scope pos) 0 acc env (Kb ke ve acc env)):=
 ⟨λz=>by rfl,λz=>⟨rfl,rfl⟩,λz=>rfl,λz z=>⟨rfl,rfl⟩⟩
noncomputable def P9(env:iE)(ifs:List bP):oY Bool:=forIn ifs aJ λc r=>if r=aJ then do let ok <- isTrue c env (dW c env);dh (GI ok) else dh (GI r)
abbrev wY(k:Nat)(mu:Mu)(env:iE)(ifs:List bP)(b:Bool):Prop:=WB k mu (P9 env ifs) b
theorem dm:wY k mu env [] aJ:=⟨λ{z z z z z z} hA r q=>wpAny_tests_nil (q .rfl r)⟩
theorem fS{c:bP}(h:PT k mu env c b):wY k mu env [c] b:=⟨λ{z z z z z z} hA r q=>wpAny_tests_one (h.c hA r q)⟩
structure JI(k:Nat)(mu:Mu)(env:iE)(e:bP)(d:Nat)(acc:aj)(t:bP)(ctx:Mu)(xs:List V)(Ψ:Mu->Prop):Prop where
 c:∀{A:bo} {Z:bI} {s:aq} {fr:Mu} {I:ay} {it:Nat->cY} {T:wx->aq->Prop},Rm k A->CN I ctx t xs it->(∀o∈ctx,o∈mu++fr)->R Z (it 0::(mu++fr)) s->
  (∀{s' Z' nu},Z.le Z'->R Z' (nu++fr) s'->Ψ nu->T (.ok .next) s')->iV (aX G.prog G.w) A (.compStart e d (.ref I) acc env) T s
theorem Fx{prog:d7}{w:eo}{A:bo}{R:wx->aq->Prop}{s:aq}{e:bP}{d:Nat}{it acc:aj}{env:iE}{g:kR}(hg:(M5 e)[d]? =ae g)(ha:(g.is_async != 0)=aH)(iD:(Tn e d it acc env).isFrame=aH)
 (h0:iV (aX prog w) A (.compLoop e d it acc env) R s) (h:∀E,aS (aX prog w) A (q7 it) (λit' s'=>iV (aX prog w) A (.compLoop e d it' acc env) R s') E s) (hq:∀it',(Fd e d it' acc env).quiet=aJ)
 (hu:A.under (.compStart e d it acc env)=A):iV (aX prog w) A (.compStart e d it acc env) R s:=by
 refine kJ (ai (hu ..) ?_);show aS _ _ (if (Tn e d it acc env).isFrame then (tu e d it acc env).onRaise (Js env) else (tu e d it acc env).onRaise (λx=>do noteFrame x env;iF theWindowsPlace)) _ _ s;refine ai (iD ..) ?_;refine ai (if_neg cG ..) ?_;refine wpAny_notedAt ?_;unfold tu;refine ai (hg ..) ?_;refine ai (if_neg (show ¬(_=aJ) from λe=>absurd (ha.symm.trans e) cG) ..) ?_;show aS _ _ (ask >>=_) _ _ s;refine ag (gD (wpAny_ite ?_))
 split
 ·first
   |exact ag (ar (ar (NA (hq _) h0)))
   |exact ar (NA (hq _) h0)
 ·refine ag (oa ?_);refine ag (iI ?_);exact ag (eR (h _) (λit' s' h'=>ar (NA (hq _) h')) λz z x=>x)
abbrev WBf(k:Nat)(mu:Mu)(bf:oY Fin)(c:Code)(Ψ:Mu->Prop):Prop:=Wu k mu bf (.again c) Ψ
theorem WU.bf{d:Nat}{acc it:aj}{t:oY Unit}{Ψ:Mu->Prop}(h:WU k mu t Ψ):WBf k mu (uD e d acc env t it) (.compLoop e d it acc env) Ψ:=⟨λ{y y y y y y} hA r q=>ag (h.c hA r λ{y y y} z r w=>ar (q z r w))⟩
def Le(nu nu':Mu):Prop:=∀Z s fr,R Z (nu++fr) s->R Z (nu'++fr) s
theorem HY{prog:d7}{w:eo}{A:bo}{T:wx->aq->Prop}{s:aq}{d:Nat}{acc it:aj}{ip:lF}{ifs:List bP}{nh:aj->oY Fin}(K:TJ env e d acc t ip ifs nh)(I:Nat->aq->Prop)
 (turn:∀n s,I n s->∀{E:aj->aq->Prop} {Q:Option aj->aq->Prop},(∀{s1},T (.ok .next) s1->Q av s1)->
  (∀{v s1},(∀{E:aj->aq->Prop} {F:Bool->aq->Prop},(∀{s2},aS (aX prog w) A (nh it) (λfin s3=>fin= .again (.compLoop e d it acc env)/\∃m,m < n/\I m s3) E s2->F aJ s2)->(∀{s2},(∃m,m < n/\I m s2)->F aH s2)->
   aS (aX prog w) A (kI t it v) (λz s2=>aS (aX prog w) A (wo t env v) (λz s3=>aS (aX prog w) A (P9 env ifs) F E s3) E s2) E s1)->Q (ae v) s1)->
  aS (aX prog w) A (lZ it) Q E s) (n:Nat) (h:I n s):iV (aX prog w) A (.compLoop e d it acc env) T s:=by
 refine codeAny_loop (K.q _) I (λn s h=>?_) n h;refine ai ((K.u A _).2) ?_;show aS _ A (if (Fd e d it acc env).isFrame then (compTurn e d it acc env).onRaise (Js env) else (compTurn e d it acc env).onRaise (λx=>do noteFrame x env;theTreesLotGoes x)) _ _ s;refine ai ((K.fr _).2) ?_;refine ai (if_neg cG ..) ?_;refine wpAny_noted (ai (K.tree ..) ?_);unfold C6;refine ag (iI (ag (turn n s h (λ{z} h=>ar h) λ{v s1} h=>ag (eR (h (λ{s2} h=>?_) λ{s2} h=>?_) (λz s2 h=>ag (eR h (λz s3 h=>ag h) λz z e=>e)) λz z e=>e))))
 ·exact eR h (λfin s3 h=>h.1▸⟨rfl,h.2⟩) λz z e=>e
 ·exact ar ⟨rfl,h⟩
theorem rC{d:Nat}{acc:aj}{ip:lF}{ifs:List bP}{g:kR}{ctx:Mu}{Ψ:Mu->Prop}{nh:aj->oY Fin}(K:TJ env e d acc t ip ifs nh)(hk:1<=k)(hg:(M5 e)[d]? =ae g)(ha:(g.is_async != 0)=aH)
 (Inv:Nat->Mu->Prop) (h0:Inv 0 mu) (qW:∀i nu,Inv i nu->∀o∈ctx,o∈nu)
 (step:∀i x nu,xs[i]? =ae x->Inv i nu->mI k nu env t x λrp=>∃b,wY k rp env ifs b/\(b=aH->∃ua,Le rp ua/\Inv (i+1) ua)/\(b=aJ->∀it,WBf k rp (nh it) (.compLoop e d it acc env) (Inv (i+1))))
 (fin:∀nu,Inv xs.length nu->Ψ nu):JI k mu env e d acc t ctx xs Ψ:=⟨λ{A Z s fr I it T} hA hit hc r q=>by
 have loop:∀{s},R Z (it 0::(mu++fr)) s->iV (aX G.prog G.w) A (.compLoop e d (.ref I) acc env) T s:=λ{y} r=>by
  refine HY K (BE Z Inv xs.length it fr) (λn s' h {E Q} hn hs=>?_) (xs.length+1) ⟨0,Z,mu,rfl,gq _,.rfl,r,h0⟩
  revert hs
  refine h.by ?_ ?_
  ·intro i Z' nu hi z r inv hs;refine hit.item i _ (bH hi) (hA.le hk) (λo ho=>aE _ (qW i nu inv o ho)) r λ{v s3} h3=>hs λ{E F} ft ff=>h3 λ{s4 Z4} z4 hv r4=>(step i _ nu (bH hi) inv).c hA (r4.perm cv.symm) hv λ{s5 Z5 nu5} z5 r5 w5=>ef w5 λb hifs hf ht=>?_;clear w5;refine hifs.c hA r5 λ{s6 Z6} z6 r6=>?_;have zz:=z.trans (z4.trans (z5.trans z6));cases b with
   |false=>exact aK (hf rfl) λnu6 hle hf=>ff (BE.lt hi zz (hle _ _ _ r6) hf)
   |true=>exact ft ((ht rfl (.ref I)).c hA r6 λ{y y y} z7 r7 w7=>⟨rfl,BE.lt hi (zz.trans z7) r7 w7⟩)
  ·intro Z' nu z r inv y;exact hit.done (hA.le hk) (λo ho=>aE _ (qW _ nu inv o ho)) r λ{y y} z3 r3=>hn (q (z.trans z3) r3 (fin nu inv))
 exact Fx hg ha (K.fr _).1 (loop r) (λE'=>hit.self 0 (hA.le hk) r λ{y} r1=>loop r1) K.q (K.u A _).1⟩
theorem As{A:bo}{E:aj->aq->Prop}{Z:bI}{s:aq}{fr nu:Mu}{v:aj}{a:ay}{ys:List V}{i:Nat}{y:V}{Q:aj->aq->Prop}(r:R Z (nu++fr) s)(hi:nu[i]? =ae (bk a ys))(hl:ys.length < 2 ^ 22)(hv:aZ G Z v y)
 (q:∀{s'},R Z (nu.set i (bk a (ys++[y]))++fr) s'->Q .none s'):aS (aX G.prog G.w) A (ks (.builtin "list.append") [.ref a,v]) Q E s:=by
 have hi':=cH (fr:=fr) hi;obtain ⟨vs,n,h2,h3⟩:=r.sat _ (ao hi');have hsz:vs.size<=er:=by refine fZ (cb h3 ..) ?_;show _<=2 ^ 24;exact aw (eB (by assumption)) (by decide)
 refine wpAny_list_append_plain (⟨n,h2⟩:s.heap.PlainList a vs) (λh' hp hs=>q ?_) hsz;obtain ⟨m,hp⟩:=hp;exact fZ (gF hi ..) (r.upd' (tk:=s.toks) hi' rfl (λb o hb e=>hs.extBut b o (λq=>hb (q▸aa)) e) ⟨_,m,hp,by refine ai (Cy ..) ?_;exact h3.snoc hv⟩)
theorem vJ{a:ay}{ys:List V}{i:Nat}{elt:bP}{Ψ:Mu->Prop}(h:WE k mu env elt λy nu=>nu[i]? =ae (bk a ys)/\ys.length < 2 ^ 22/\Ψ (nu.set i (bk a (ys++[y])))):WU k mu (G1 elt (.ref a) env) Ψ:=⟨λ{A E Z s fr Q} hA r q=>by
 unfold G1;exact ag (h.c hA r λ{z z z z z} z1 q1 r1 w=>ag (As r1 w.1 w.2.1 q1 λ{z} r2=>ar (q z1 r2 w.2.2)))⟩
variable {M:Cv}
noncomputable def aM:Nat->List (bc×Cz)->E3
 |_,[]=>[]
 |n,(x,.cell)::r=>(x,ae n)::aM (n+1) r
 |n,(x,.local)::r=>(x,av)::aM n r
 |n,(_,_)::r=>aM n r
noncomputable def nones(lay:E3):eL:=lay.map λz=>av
theorem mW(n:Nat)(x:bc)(kd:Cz)(r:List (bc×Cz)):aM n ((x,kd)::r)=if kd= .cell then (x,ae n)::aM (n+1) r else if kd= .local then (x,av)::aM n r else aM n r:=by cases kd <;> rfl
theorem tC(names:List (bc×Cz)):∀(n:Nat),∀b∈(aM n names).filterMap (·.2),n<=b:=by
 induction names with
 |nil=>exact λz z h=>el h
 |cons q r ih=>
  intro n b h;rw [mW] at h
  split at h
  ·rcases aP.mp (show b∈n::(aM (n+1) r).filterMap (·.2) from h) with rfl|h'
   ·exact bp _
   ·exact ni (ih (n+1) b h')
  ·split at h
   ·exact ih n b h
   ·exact ih n b h
theorem zH(names:List (bc×Cz)):∀(n:Nat),((aM n names).filterMap (·.2)).Nodup:=by
 induction names with
 |nil=>exact λz=> .nil
 |cons q r ih=>
  intro n;refine ai (mW ..) ?_
  split
  ·exact cj.mpr ⟨λh=>To n (tC r (n+1) n h),ih (n+1)⟩
  ·split
   ·exact ih n
   ·exact ih n
theorem zI(names:List (bc×Cz)):∀n m:Nat,(aM n names).map (·.1)=(aM m names).map (·.1):=by
 induction names with
 |nil=>exact λz z=>rfl
 |cons q r ih=>
  intro n m;refine ai (mW ..) ?_;refine ai (mW ..) ?_
  split
  ·exact congrArg (List.cons q.1) (ih _ _)
  ·split
   ·exact congrArg (List.cons q.1) (ih _ _)
   ·exact ih n m
theorem zJ{Z:bI}{m:bc->Option aj}(names:List (bc×Cz)):∀(h:dI),ea Z (pushCells h names) m (aM h.objs.size names) (nones (aM h.objs.size names)):=by
 induction names with
 |nil=>exact λz z z z e=>gL e
 |cons q r ih=>
  intro h;obtain ⟨x,kd⟩:=q;cases kd
  case cell=>show ea Z (pushCells (h.push {cls:= .type "cell",data:= .cell av}) r) m ((x,ae h.objs.size)::aM (h.objs.size+1) r) (av::nones (aM (h.objs.size+1) r));have ih:=ih (h.push {cls:= .type "cell",data:= .cell av});rw [fN] at ih;exact .cons ⟨av,_,PX r _ _ _ (aW _ rfl),rfl⟩ ih
  case «local»=>exact .cons (c:=av) (o:=av) trivial (ih h)
  all_goals exact ih h
theorem Au{scope:fM}{cls:String}(r:R Z mu s)(hnd:(aM 0 scope.names).nd):
 R Z (bq s.heap.objs.size (aM (s.heap.objs.size+1) scope.names) (nones (aM (s.heap.objs.size+1) scope.names))::mu)
  {s with heap:=pushCells (s.heap.push {cls:= .type cls,data:= .dict #[]}) scope.names}:=by
 have hsz:(s.heap.push {cls:= .type cls,data:= .dict #[]}).objs.size=s.heap.objs.size+1:=fN ..;refine r.addNew (tk:=s.toks) _ (λb o e=>PX _ _ b o (az _ e)) ⟨?_,λz=>av,(Heap.Ns.new s.heap (.type cls)).keeps (PX _ _),?_⟩ ?_ ?_
 ·unfold E3.nd;refine ai (zI _ _ 0 ..) ?_;exact hnd
 ·have:=zJ (Z:=Z) (m:=λz=>av) scope.names (s.heap.push {cls:= .type cls,data:= .dict #[]});rw [hsz] at this;exact this
 ·refine cj.mpr ⟨λh=>?_,zH _ _⟩;exact To _ (tC _ _ _ h)
 ·intro b hb;rcases aP.mp hb with rfl|hb
  ·exact bp _
  ·exact ni (tC _ _ _ hb)
theorem HZ{scope:fM}{globals:ay}{cl:List (bc×ay)}{qual:bc}{env:iE}{Q:iE->aq->Prop}(r:R Z mu s)(hnd:(aM 0 scope.names).nd)
 (h:∀s',s'.toks=s.toks->R Z (bq s.heap.objs.size (aM (s.heap.objs.size+1) scope.names) (nones (aM (s.heap.objs.size+1) scope.names))::mu) s'->
  Q (newEnv scope s.heap.objs.size globals (xj (s.heap.objs.size+1) scope.names cl) qual av .none (ae env) builtinsNs) s'):
 aS M A (CA scope globals cl [] qual av .none (ae env)) Q E s:=by
 simp only [CA,Option.isSome_some,if_true];refine ag (vj ?_);refine ag (wpAny_layCells _ (λname kind cells=>by cases hkc:kind == NameKind.cell <;> simp [hkc]) _ _ _ _ ?_);refine ai (show ({s with heap:=s.heap.push {cls:= .type "dict",data:= .dict #[]}}:aq).heap.objs.size=s.heap.objs.size+1 from fN ..) (ag ?_);exact ai (List.forIn_nil ..) (ar (ar (h _ rfl (Au r hnd))))
inductive i9(env:iE)(L:ay)(lay:E3):List bc->List V->eL->eL->Prop
 |nil {bF:_}:i9 env L lay [] [] bF bF
 |cons {x j y xs ys bF vals':_}:Sl env L lay x j->(env.kindOf x == ae .free)=aH->i9 env L lay xs ys (bF.set j (ae y)) vals'->i9 env L lay (x::xs) (y::ys) bF vals'
theorem Fy{L:ay}{lay:E3}(he:dz env)(f:bc×aj->PUnit->oY (ForInStep PUnit))(hf:∀n v u,f (n,v) u=(do storeName env n v;dh (.yield ⟨⟩))){xs:List bc}{ys:List V}{bF vals':eL}{vs:List aj}{s:aq}{Q:PUnit->aq->Prop}
 (b:i9 env L lay xs ys bF vals') (hv:bW G Z vs ys) (r:R Z (bq L lay bF::mu) s) (h:∀s',R Z (bq L lay vals'::mu) s'->Q ⟨⟩ s'):aS (aX G.prog G.w) A (forIn (xs.zip vs) ⟨⟩ f) Q E s:=by
 induction b generalizing vs s with
 |nil=>refine ai (hv.nil_inv ..) ?_;show aS _ _ (forIn [] _ _) _ _ _;refine ai (List.forIn_nil ..) ?_;exact ar (h s r)
 |@cons x j y xs ys bF vals' sl Ct b ih=>obtain ⟨v,vs,rfl,hv,hr⟩:=hv.cons_inv;have Ct:env.kindOf x≠ae .free:=beq_eq_false_iff_ne.mp Ct;show aS _ _ (forIn ((x,v)::xs.zip vs) _ _) _ _ _;refine ai (List.forIn_cons ..) ?_;refine ai (hf ..) ?_;exact ag (ag (xM (fr:=mu) (i:=0) (mu:=[bq L lay _]) r he sl rfl Ct hv λs' r'=>ar (ih hr r' h)))
theorem pL{scope:fM}{globals:ay}{cl:List (bc×ay)}{qual:bc}{func:Option ay}{code:aj}{builtins:ay}{Q:iE->aq->Prop}{xs:List bc}{ys:List V}{vals':eL}{vs:List aj}(r:R Z mu s)(hnd:(aM 0 scope.names).nd)
 (he:dz (newEnv scope s.heap.objs.size globals (xj (s.heap.objs.size+1) scope.names cl) qual func code av builtins)) (hv:bW G Z vs ys)
 (hb:i9 (newEnv scope s.heap.objs.size globals (xj (s.heap.objs.size+1) scope.names cl) qual func code av builtins) s.heap.objs.size (aM (s.heap.objs.size+1) scope.names) xs ys (nones (aM (s.heap.objs.size+1) scope.names)) vals')
 (h:∀s',R Z (bq s.heap.objs.size (aM (s.heap.objs.size+1) scope.names) vals'::mu) s'->
  Q (newEnv scope s.heap.objs.size globals (xj (s.heap.objs.size+1) scope.names cl) qual func code av builtins) s'):
 aS (aX G.prog G.w) A (CA scope globals cl (xs.zip vs) qual func code av builtins) Q E s:=by
 simp only [CA,Ae,dk,if_false];refine ag (vj ?_);refine ag (wpAny_layCells _ (λname kind cells=>by cases hkc:kind == NameKind.cell <;> simp [hkc]) _ _ _ _ ?_);exact ai (show ({s with heap:=s.heap.push {cls:= .type "frame",data:= .dict #[]}}:aq).heap.objs.size=s.heap.objs.size+1 from fN ..) (ag (Fy (env:=newEnv scope s.heap.objs.size globals (xj (s.heap.objs.size+1) scope.names cl) qual func code av builtins) he _ (λz z z=>rfl) hb hv (Au r hnd) λs' r'=>ar (h s' r')))
variable {D:ay}
structure fK(D:ay)(nu:Mu)(Θ:V->Mu->Prop):Prop where
 c:∀{Z:bI} {s:aq} {fr:Mu} {T:Prop},R Z (nu++fr) s->(∀{Z' y nu'},Z.le Z'->aZ G Z' (.ref D) y->R Z' (nu'++fr) s->Θ y nu'->T)->T
section
variable {Θ:V->Mu->Prop}
theorem fK.ref(h:Θ (.ref D) nu):fK D nu Θ:=⟨λ{z z z z} r q=>q .rfl (.ref D) r h⟩
theorem R.freezeHd{x:cY}{o:oX}(r:R Z (x::mu) s)(ha:s.heap.get? D=ae o)(hD:D∈x.own):R (Z.put D o) mu s/\Z.le (Z.put D o):=by have hz:Z D=av:=r.sep D (aE (gU mu) hD);refine ⟨r.drop.freeze ha hz λh=>?_,bI.le_put hz⟩;exact (bO.mp (show (x.own++gU mu).Nodup from r.nodup)).2.2 D hD D h rfl
theorem fK.list{ys:List V}(h:Θ (.list ys) mu):fK D (bk D ys::mu) Θ:=⟨λ{Z s fr T} r q=>by
 exact eD (r.sat _ aa) λvs n h1 h2=>dU (R.freezeHd (show R Z (bk D ys::(mu++fr)) s from r) h1 aa) λr' z'=>q z' (.list (bI.put_self ..) (h2.mono z')) r' h⟩
theorem fK.dict{es:List (bc×V)}(h:Θ (.dict es) mu):fK D (cE D es::mu) Θ:=⟨λ{Z s fr T} r q=>by
 refine qm (r.sat _ aa) λw kvs dP f g=>cF dP λo Nq ep h1 d1 d=>?_;clear dP;exact dU (R.freezeHd (show R Z (cE D es::(mu++fr)) s from r) h1 aa) λr' z'=>q z' (.dict w (bI.put_self ..) ⟨d1,_,_,d⟩ f (g.mono z')) r' h⟩
noncomputable abbrev o8(scope:fM)(cl:List (bc×ay))(C:ay)(env:iE):iE:=compEnvC scope (xj (C+1) scope.names cl) C env
noncomputable abbrev nC(scope:fM)(C:ay)(bF:eL):cY:=bq C (aM (C+1) scope.names) bF
noncomputable abbrev uE(scope:fM)(C:ay):cY:=nC scope C (nones (aM (C+1) scope.names))
structure Acc(pq:oY aj)(zY:ay->cY):Prop where
 c:∀{A:bo} {E:aj->aq->Prop} {Z:bI} {s:aq} {mu:Mu} {Q:aj->aq->Prop},R Z mu s->(∀{D s'},R Z (zY D::mu) s'->Q (.ref D) s')->aS (aX G.prog G.w) A pq Q E s
theorem uF:Acc (newList []) (λD=>bk D []):=⟨λ{A E Z s mu Q} r q=>
 jg (q (r.addNew (tk:=s.toks) _ (λb o e=>az _ e) ⟨#[],0,aW _ rfl,.nil⟩ eg λz h=>kW h))⟩
structure E4(scope:fM)(env:iE)(cl:List (bc×ay)):Prop where
 clos:closureFor scope env=dh cl
 kind:scope.kind= .function
 names:∀x∈scope.names,x.2= .local->scope.names.lookup x.1=ae .local
 nd:(aM 0 scope.names).nd
theorem C7{A:bo}{E:aj->aq->Prop}{fr:Mu}{scope:fM}{cl:List (bc×ay)}{g:kR}{gs:List kR}{pq:oY aj}{zY:ay->cY}{ctx:Mu}{use:Option (aj->oY Unit)}{Q:aj->aq->Prop}{Ψ:ay->Mu->Prop}
 (hcl:M5 e=g::gs) (hs:∀x,bw g.iter env x=dh x) (sc:E4 scope env cl) (EI:Acc pq zY) (src:o7 k mu env g.iter t ctx xs)
 (body:∀C D,JI k (uE scope C::zY D::mu) (o8 scope cl C env) e 0 (.ref D) t ctx xs λnu=>∃bF nu',nu=nC scope C bF::nu'/\Ψ D nu')
 (hA:Rm k A) (r:R Z (mu++fr) s)
 (fin:∀{C D Z' bF nu' s'},Z.le Z'->Ψ D nu'->R Z' (nC scope C bF::(nu'++fr)) s'->compPost (aX G.prog G.w) A E use Q (.ref D) C (.ok .next) s'):
 aS (aX G.prog G.w) A (comprehension e scope env pos pq aH (dW g.iter env) use) Q E s:=by
 refine wpAny_comprehension_free hcl hs sc.clos sc.kind sc.names (src.c hA r λ{I it s2 Z2} hit z2 r2=>EI.c r2 λ{D s3} r3=>HZ r3 sc.nd λs4 z r4=>?_);refine (body s3.heap.objs.size D).c hA hit (λo ho=>aE fr (ab _ (ab _ (src.has o ho)))) (r4.perm (((jh _ _ _).cons _).trans (jh _ _ _))) λ{s5 Z5 nu} z5 r5 w5=>eD w5 λbF nu' eT w=>?_;clear w5;subst eT;have:=fin (z2.trans z5) w r5;cases use <;> exact this
theorem Kd{scope:fM}{C:ay}{bF:eL}(r:R Z (nC scope C bF::mu) s):∃m,s.heap.Ns C m:=(r.sat _ aa).2.imp λz w=>w.1
theorem C8{scope:fM}{C:ay}{bF:eL}{h':dI}(r:R Z (nC scope C bF::mu) s)(hs:ji C s.heap h'):R Z mu {s with heap:=h'}:=
 r.dropUpd (tk:=s.toks) λb o hb e=>hs.extBut b o (λq=>hb (q▸aa)) e
theorem xw{scope:fM}{cl:List (bc×ay)}{g:kR}{gs:List kR}{pq:oY aj}{zY:ay->cY}{ctx:Mu}
 (hcl:M5 e=g::gs) (hs:∀x,bw g.iter env x=dh x) (sc:E4 scope env cl) (EI:Acc pq zY) (src:o7 k mu env g.iter t ctx xs)
 (body:∀C D,JI k (uE scope C::zY D::mu) (o8 scope cl C env) e 0 (.ref D) t ctx xs λnu=>∃bF nu',nu=nC scope C bF::nu'/\fK D nu' Θ):
 WV k mu (comprehension e scope env pos pq aH (dW g.iter env)) Θ:=⟨λ{A E Z s fr Q} hA r q=>
 C7 (use:=av) hcl hs sc EI src body hA r λ{C D Z' bF nu' s'} z' w r'=>by
  exact cK (Kd r') λm hm=>⟨m,hm,λh' t9=>w.c (C8 r' t9) λ{z z z} z2=>q (z'.trans z2)⟩⟩
theorem G2{scope:fM}{cl:List (bc×ay)}{g:kR}{gs:List kR}{pq:oY aj}{zY:ay->cY}{ctx:Mu}{y:bc}{py spos:lF}{Φ:AF->Mu->Prop}
 (SE:xi e (ae (.Name y py)) spos.line env=dh aJ)
 (hev:∀u,evalThenUse e env u=(do let _ <- comprehension e scope env pos pq aH (dW g.iter env) (ae u)))
 (hcl:M5 e=g::gs) (hs:∀x,bw g.iter env x=dh x) (sc:E4 scope env cl) (EI:Acc pq zY) (src:o7 k mu env g.iter t ctx xs)
 (body:∀C D,JI k (uE scope C::zY D::mu) (o8 scope cl C env) e 0 (.ref D) t ctx xs λnu=>∃bF nu',nu=nC scope C bF::nu'/\fK D nu' λv nu=>mI k nu env (.Name y py) v (Φ .next)):
 WX k mu env (.Assign [.Name y py] e spos) Φ:=⟨λ{A E Z s fr Q} hA r q=>by
 refine ai (exec_Assign_Name_used _ _ _ _ SE ..) (ag (iI (ag ?_)));refine ai (hev ..) (ag (C7 (use:=ae (wo (.Name y py) env)) hcl hs sc EI src body hA r λ{C D Z' bF nu' s'} z' w r'=>?_));refine w.c (r'.perm cv.symm) λ{Z2 v ua} z2 q2 r2 w2=>w2.c hA r2 q2 λ{s3 Z3 TS} z3 r3 w3=>?_;have r3':=r3.perm cv;exact cK (Kd r3') λm hm=>⟨m,hm,λh' t9=>ar (ar (q (z'.trans (z2.trans z3)) .next (C8 r3' t9) w3))⟩⟩
theorem Wu.weak{α:Type}{bf:oY α}{c:α}{Ψ Ψ':Mu->Prop}(h:Wu k mu bf c Ψ)(hi:∀nu,Ψ nu->∃nu',Le nu nu'/\Ψ' nu'):Wu k mu bf c Ψ':=⟨λ{y y y y y y} hA r q=>h.c hA r λ{y y y} z r w=>(hi _ w).elim λy l=>q z (l.1 _ _ _ r) l.2⟩
theorem ea.nones{h:dI}{m:bc->Option aj}{lay:E3}{bF:eL}(s:ea Z h m lay bF):ea Z h m lay (nones lay):=λj x c e=>(s j x c e).elim λz w=>⟨av,by unfold Mine.Internal.nones;(refine ai (aI ..) ?_;refine ai (e ..) ?_);rfl,w.2.forget⟩
theorem Le.forget{L:ay}{lay:E3}{bF:eL}:Le (bq L lay bF::mu) (bq L lay (nones lay)::mu):=λZ s fr r=>by
 exact mG (r.sat _ aa) λhnd m hn hs=>r.upd' (x':=bq L lay (nones lay)) (i:=0) (h':=s.heap) (tk:=s.toks) rfl rfl (λz z z e=>e) ⟨hnd,m,hn,hs.nones⟩
theorem mI.mono{x:V}{Ψ Ψ':Mu->Prop}(h:mI k mu env t x Ψ)(hi:∀nu,Ψ nu->Ψ' nu):mI k mu env t x Ψ':=⟨λ{y y y y y y y} hA r v q=>h.c hA r v λ{y y y} z r w=>q z r (hi _ w)⟩
end
section
variable {Θ:V->Mu->Prop}
theorem s9{a b:cY}{fr:Mu}:List.Perm (a::b::mu++fr) (a::mu++(b::fr)):=(cv.symm).cons a
theorem WB.mid{a d:cY}{α:Type}{t:oY α}{b:α}(h:WB k (a::mu) t b):WB k (a::d::mu) t b:=⟨λ{y y y y y y} hA r q=>h.c hA (r.perm s9) λ{y y} z r=>q z (r.perm s9.symm)⟩
theorem EV.mid{a d:cY}{P:Vw}(h:EV k (a::mu) env e P):EV k (a::d::mu) env e P:=⟨λ{y y y y y y} hA r q=>h.c hA (r.perm s9) λ{y y y} z v r=>q z v (r.perm s9.symm)⟩
theorem mI.mid{a d:cY}{x:V}{Ψ:Mu->Prop}(h:mI k (a::mu) env t x λnu=>∃a',nu=a'::mu/\Ψ (a'::d::mu)):mI k (a::d::mu) env t x Ψ:=
 ⟨λ{y y y y y y y} hA r v q=>h.c hA (r.perm s9) v λ{y y y} z r w=>w.elim λy w=>q z (R.perm (w.1▸r) s9.symm) w.2⟩
structure zK(k:Nat)(mu:Mu)(scope:fM)(C:ay)(env:iE)(t:bP)(ifs:List bP)(elt:bP)(x:V)(b:Bool)(y:V):Prop where
 go:∃bF,mI k (uE scope C::mu) env t x (λnu=>nu=nC scope C bF::mu)/\wY k (nC scope C bF::mu) env ifs b/\(b=aJ->PE k (nC scope C bF::mu) env elt y)
theorem gk{α β:Type}{as:List α}{p:α->Bool}{g:α->β}{i:Nat}{a:α}(h:as[i]? =ae a):((as.take (i+1)).filter p).map g=((as.take i).filter p).map g++(if p a then [g a] else []):=by
 refine ai (dG ..) ?_;refine ai (h ..) ?_;simp [fX,hZ]
 split <;> simp
theorem C9{α:Type}{scope:fM}{C:ay}{elt iter:bP}{ifs:List bP}{spos:lF}{ctx:Mu}{dj:iE}(as:List α)(inj:α->V)(pp:α->Bool)(g:α->V)(hx:xs=as.map inj)(hk:1<=k)(hsz:as.length<=2 ^ 21)(qW:∀o∈ctx,o∈mu)
 (turn:∀a∈as,zK k mu scope C dj t ifs elt (inj a) (pp a) (g a)):
 JI k (uE scope C::bk D []::mu) dj (.ListComp elt [⟨t,iter,ifs,0⟩] scope spos) 0 (.ref D) t ctx xs λnu=>∃bF nu',nu=nC scope C bF::nu'/\nu'=bk D ((as.filter pp).map g)::mu:=by
 subst hx;refine rC Kc hk rfl rfl
  (λi nu=>nu=uE scope C::bk D (((as.take i).filter pp).map g)::mu) rfl (λi nu h o ho=>h▸ab _ (ab _ (qW o ho))) (λi x nu hx h=>?_) (λnu h=>⟨_,_,h,by (refine ai (ak ..) ?_;refine ai (cL ..) ?_;rfl)⟩)
 subst h;rw [aI] at hx;refine aK (aL.mp hx) λa ha gi=>?_;subst gi;refine ef ((turn a (ao ha)).go) λbF h1 h2 h3=>mI.mid (h1.mono λnu e=>⟨_,e,?_⟩);refine ⟨pp a,h2.mid,λhb=>⟨_,Le.forget,?_⟩,λhb it=>?_⟩
 ·(refine ai (gk ha ..) ?_;refine ai (hb ..) ?_);exact congrArg (λl=>_::bk D l::mu) (cz _).symm
 ·refine Wu.weak (Ψ:=λnu=>nu=nC scope C bF::bk D (((as.take (i+1)).filter pp).map g)::mu) (WU.bf (vJ (i:=1) (cg (h3 hb).mid ⟨rfl,?_,?_⟩))) λnu h=>⟨_,h▸Le.forget,rfl⟩
  ·exact ai (ak ..) (b7 (aw (bu _ _) (aw (kK _ _) hsz)) (show 2 ^ 21 < 2 ^ 22 by decide))
  ·(refine ai (gk ha ..) ?_;refine ai (hb ..) ?_);rfl
end
variable {ctx:Mu}
section
variable {Θ:V->Mu->Prop}
theorem JI.mono{d:Nat}{acc:aj}{Ψ Ψ':Mu->Prop}(h:JI k mu env e d acc t ctx xs Ψ)(hi:∀nu,Ψ nu->Ψ' nu):JI k mu env e d acc t ctx xs Ψ':=⟨λ{y y y y y y y} hA hit hc r q=>h.c hA hit hc r λ{y y y} z r w=>q z r (hi _ w)⟩
theorem WV.pe{y:V}(h:WV k mu (dW e env) λv nu=>v=y/\nu=mu):PE k mu env e y:=⟨λ{z z z z z z} hA r q=>h.c hA r λ{z z z z z} a b c w=>q a (w.1▸b) (w.2▸c)⟩
theorem Qa{α:Type}{scope:fM}{cl:List (bc×ay)}{elt iter:bP}{ifs:List bP}{spos:lF}(as:List α)(inj:α->V)(pp:α->Bool)(g:α->V)(sc:E4 scope env cl)(src:o7 k mu env iter t ctx (as.map inj))(hk:1<=k)(hsz:as.length<=2 ^ 21)
 (turn:∀C a,a∈as->zK k mu scope C (o8 scope cl C env) t ifs elt (inj a) (pp a) (g a)) (hΘ:∀D,fK D (bk D ((as.filter pp).map g)::mu) Θ) (hs:autoParam (∀x,bw iter env x=dh x) aR):
 WE k mu env (.ListComp elt [⟨t,iter,ifs,0⟩] scope spos) Θ:=by
 show WV k mu (dW _ _) Θ;exact ai (eval_ListComp ..) (xw (g:=⟨t,iter,ifs,0⟩) rfl hs sc uF src λC D=>(C9 as inj pp g rfl hk hsz src.has (turn C)).mono λnu=>bQ λbF=>bQ λnu' w=>⟨w.1,w.2▸hΘ D⟩)
theorem nD{α:Type}{scope:fM}{cl:List (bc×ay)}{elt iter:bP}{ifs:List bP}{spos:lF}(as:List α)(inj:α->V)(pp:α->Bool)(g:α->V)(sc:E4 scope env cl)(src:o7 k mu env iter t ctx (as.map inj))(hk:1<=k)(hsz:as.length<=2 ^ 21)
 (turn:∀C a,a∈as->zK k mu scope C (o8 scope cl C env) t ifs elt (inj a) (pp a) (g a)) (hs:autoParam (∀x,bw iter env x=dh x) aR):
 PE k mu env (.ListComp elt [⟨t,iter,ifs,0⟩] scope spos) (.list ((as.filter pp).map g)):=
 WV.pe (Qa as inj pp g sc src hk hsz turn (λD=>fK.list ⟨rfl,rfl⟩) hs)
theorem Qb{α:Type}{scope:fM}{cl:List (bc×ay)}{elt iter:bP}{ifs:List bP}{spos apos py:lF}{y:bc}{Φ:AF->Mu->Prop}(as:List α)(inj:α->V)(pp:α->Bool)(g:α->V)(sc:E4 scope env cl)(src:o7 k mu env iter t ctx (as.map inj))(hk:1<=k)(hsz:as.length<=2 ^ 21)
 (turn:∀C a,a∈as->zK k mu scope C (o8 scope cl C env) t ifs elt (inj a) (pp a) (g a))
 (SE:xi (.ListComp elt [⟨t,iter,ifs,0⟩] scope spos) (ae (.Name y py)) apos.line env=dh aJ)
 (hΘ:∀D,fK D (bk D ((as.filter pp).map g)::mu) λv nu=>mI k nu env (.Name y py) v (Φ .next)) (hs:autoParam (∀x,bw iter env x=dh x) aR):
 WX k mu env (.Assign [.Name y py] (.ListComp elt [⟨t,iter,ifs,0⟩] scope spos) apos) Φ:=
 G2 (g:=⟨t,iter,ifs,0⟩) (pos:=firstIterPos [⟨t,iter,ifs,0⟩] spos) SE (λu=>rfl) rfl hs sc uF src λC D=>(C9 as inj pp g rfl hk hsz src.has (turn C)).mono λnu=>bQ λbF=>bQ λnu' w=>⟨w.1,w.2▸hΘ D⟩
theorem H1{it:aj}{fc t2:bP}{acc:aj}{Cu:Mu}{xs2:List V}{Ψ:Mu->Prop}(src:o7 k mu env fc t2 Cu xs2)(w:JI k mu env e 1 acc t2 Cu xs2 Ψ)(hs:autoParam (∀x,bw fc env x=dh x) aR):
 WBf k mu (vI e fc acc env it) (.compLoop e 0 it acc env) Ψ:=⟨λ{A E Z s fr Q} hA r q=>by
 delta vI P8;refine ag (eR (src.c hA r λ{I it s2 Z2} hit z2 r2=>?_) (λx s1 h1=>ag (iI (ag (cN (hs x) (ag (bC h1)))))) λz z e=>e);exact ag (wpAny_runOwn (w.c (A:=A.mark av) hA hit (λo ho=>aE fr (src.has o ho)) r2 λ{z z z} z3 r3 w3=>ar (q (z2.trans z3) r3 w3)))⟩
structure Qd(k:Nat)(mu:Mu)(scope:fM)(C:ay)(bF:eL)(env:iE)(t:bP)(ifs:List bP)(elt:bP)(x:V)(b:Bool)(y:V):Prop where
 go:∃vals',mI k (nC scope C bF::mu) env t x (λnu=>nu=nC scope C vals'::mu)/\wY k (nC scope C vals'::mu) env ifs b/\(b=aJ->PE k (nC scope C vals'::mu) env elt y)/\
  Le (nC scope C vals'::mu) (nC scope C bF::mu)
theorem Le.mid{a a' d:cY}(h:Le (a::mu) (a'::mu)):Le (a::d::mu) (a'::d::mu):=λZ s fr r=>(h Z s (d::fr) (r.perm s9)).perm s9.symm
theorem H2{β:Type}{scope:fM}{C:ay}{elt iter fc t2:bP}{ifs nZ:List bP}{spos:lF}{Cu:Mu}{dj:iE}{bF:eL}(ys:List V)(bs:List β)(inj:β->V)(pp:β->Bool)(g:β->V)(hx:xs=bs.map inj)(hk:1<=k)(hsz:ys.length+bs.length<=2 ^ 21)(qW:∀o∈Cu,o∈mu)
 (turn:∀a∈bs,Qd k mu scope C bF dj t2 nZ elt (inj a) (pp a) (g a)):
 JI k (nC scope C bF::bk D ys::mu) dj (.ListComp elt [⟨t,iter,ifs,0⟩,⟨t2,fc,nZ,0⟩] scope spos) 1 (.ref D) t2 Cu xs λnu=>nu=nC scope C bF::bk D (ys++(bs.filter pp).map g)::mu:=by
 subst hx;refine rC N1 hk rfl rfl
  (λi nu=>nu=nC scope C bF::bk D (ys++((bs.take i).filter pp).map g)::mu) (by refine ai (xk ..) ?_;first|rfl|((refine ai (qc ..) ?_;refine ai (u5 ..) ?_;refine ai (cz ..) ?_;rfl))) (λi nu h o ho=>h▸ab _ (ab _ (qW o ho))) (λi x nu hx h=>?_) (λnu h=>by (refine ai (h ..) ?_;refine ai (ak ..) ?_;refine ai (cL ..) ?_;rfl))
 subst h;rw [aI] at hx;refine aK (aL.mp hx) λa ha dP=>?_;subst dP;refine Bt ((turn a (ao ha)).go) λvals' h1 h2 h3 h4=>mI.mid (h1.mono λnu e=>⟨_,e,?_⟩);refine ⟨pp a,h2.mid,λhb=>⟨_,h4.mid,?_⟩,λhb it=>?_⟩
 ·(refine ai (gk ha ..) ?_;refine ai (hb ..) ?_);exact congrArg (λl=>_::bk D (_++l)::mu) (cz _).symm
 ·refine Wu.weak (Ψ:=λnu=>nu=nC scope C vals'::bk D (ys++((bs.take (i+1)).filter pp).map g)::mu) (WU.bf (vJ (i:=1) (cg (h3 hb).mid ⟨rfl,?_,?_⟩))) λnu h=>⟨_,h▸h4.mid,rfl⟩
  ·(refine ai (ba ..) ?_;refine ai (ak ..) ?_)
   exact b7 (aw (qj (aw (bu _ _) (kK _ _)) _) hsz) (show 2 ^ 21 < 2 ^ 22 by decide)
  ·(refine ai (gk ha ..) ?_;refine ai (hb ..) ?_);exact congrArg (λl=>_::bk D l::mu) (bU ..)
structure Av(k:Nat)(mu:Mu)(scope:fM)(C:ay)(env:iE)(t elt fc t2:bP)(nZ:List bP)(x:V){β:Type}(bs:List β)(inj:β->V)(pp:β->Bool)(g:β->V):Prop where
 go:∃bF Cu,mI k (uE scope C::mu) env t x (λnu=>nu=nC scope C bF::mu)/\o7 k (nC scope C bF::mu) env fc t2 Cu (bs.map inj)/\(∀o∈Cu,o∈mu)/\
  ∀b∈bs,Qd k mu scope C bF env t2 nZ elt (inj b) (pp b) (g b)
theorem o7.mid{a d:cY}(h:o7 k (a::mu) env e t ctx xs):o7 k (a::d::mu) env e t ctx xs:=
 ⟨λo ho=>(aP.mp (h.has o ho)).elim (λq=>q▸aa) λq=>ab _ (ab _ q),λ{y y y y y y} hA r q=>h.c hA (r.perm s9) λ{y y y y} hit z r=>q hit z (r.perm (s9.symm.cons _))⟩
theorem H3{α β:Type}{scope:fM}{C:ay}{elt iter fc t2:bP}{nZ:List bP}{spos:lF}{dj:iE}(as:List α)(inj:α->V)(bs:α->List β)(zg:β->V)(pp:α->β->Bool)(g:α->β->V)(hx:xs=as.map inj)(hk:1<=k)
 (hsz:(as.flatMap bs).length<=2 ^ 21) (qW:∀o∈ctx,o∈mu) (turn:∀a∈as,Av k mu scope C dj t elt fc t2 nZ (inj a) (bs a) zg (pp a) (g a)) (Gy:∀x,bw fc dj x=dh x):
 JI k (uE scope C::bk D []::mu) dj (.ListComp elt [⟨t,iter,[],0⟩,⟨t2,fc,nZ,0⟩] scope spos) 0 (.ref D) t ctx xs λnu=>∃bF nu',nu=nC scope C bF::nu'/\nu'=bk D (as.flatMap λa=>((bs a).filter (pp a)).map (g a))::mu:=by
 subst hx;refine rC N0 hk rfl rfl
  (λi nu=>nu=uE scope C::bk D ((as.take i).flatMap λa=>((bs a).filter (pp a)).map (g a))::mu) (by refine ai (xk ..) ?_;first|rfl|(rw [qc,u5,cz])) (λi nu h o ho=>h▸ab _ (ab _ (qW o ho))) (λi x nu hx h=>?_) (λnu h=>⟨_,_,h,by (refine ai (ak ..) ?_;refine ai (cL ..) ?_;rfl)⟩)
 subst h;rw [aI] at hx;refine aK (aL.mp hx) λa ha eT=>?_;subst eT;refine ir ((turn a (ao ha)).go) λbF Cu h1 h2 h3 h4=>mI.mid (h1.mono λnu e=>⟨_,e,?_⟩);refine ⟨aJ,dm,λhb=>(JU hb),λhb it=>?_⟩;have hlen:((as.take i).flatMap λa=>((bs a).filter (pp a)).map (g a)).length+(bs a).length<=2 ^ 21:=by
  have e1:as.flatMap bs=(as.take i).flatMap bs++(bs a++(as.drop (i+1)).flatMap bs):=by
   conv=>lhs;rw [gh ha]
   simp
  have e2:((as.take i).flatMap λa=>((bs a).filter (pp a)).map (g a)).length<=((as.take i).flatMap bs).length:=by
   generalize as.take i=l;induction l with
   |nil=>simp
   |cons x l ih=>
    simp only [dH,ba,ak];have:=bu (pp x) (bs x)
    with_reducible exact Nat.add_le_add (by assumption) (by assumption)
  rw [e1] at hsz;simp only [ba] at hsz;lia
 refine Wu.weak (Ψ:=λnu=>nu=nC scope C bF::bk D ((as.take (i+1)).flatMap λa=>((bs a).filter (pp a)).map (g a))::mu) (H1 h2.mid ((H2 _ (bs a) zg (pp a) (g a) rfl hk hlen h3 h4).mono λnu e=>?_) Gy) λnu h=>⟨_,h▸Le.forget,rfl⟩
 rw [e,dG,ha];simp
theorem Ra{α β:Type}{scope:fM}{cl:List (bc×ay)}{elt iter fc t2:bP}{nZ:List bP}{spos:lF}(as:List α)(inj:α->V)(bs:α->List β)(zg:β->V)(pp:α->β->Bool)(g:α->β->V)(sc:E4 scope env cl)(src:o7 k mu env iter t ctx (as.map inj))(hk:1<=k)(hsz:(as.flatMap bs).length<=2 ^ 21)
 (turn:∀C a,a∈as->Av k mu scope C (o8 scope cl C env) t elt fc t2 nZ (inj a) (bs a) zg (pp a) (g a)) (hΘ:∀D,fK D (bk D (as.flatMap λa=>((bs a).filter (pp a)).map (g a))::mu) Θ) (hs:autoParam (∀x,bw iter env x=dh x) aR)
 (Gy:autoParam (∀C x,bw fc (o8 scope cl C env) x=dh x) aR):
 WE k mu env (.ListComp elt [⟨t,iter,[],0⟩,⟨t2,fc,nZ,0⟩] scope spos) Θ:=by
 show WV k mu (dW _ _) Θ;exact ai (eval_ListComp ..) (xw (g:=⟨t,iter,[],0⟩) rfl hs sc uF src λC D=>(H3 as inj bs zg pp g rfl hk hsz src.has (turn C) (Gy C)).mono λnu=>bQ λbF=>bQ λnu' w=>⟨w.1,w.2▸hΘ D⟩)
theorem Ke{α β:Type}{scope:fM}{cl:List (bc×ay)}{elt iter fc t2:bP}{nZ:List bP}{spos:lF}(as:List α)(inj:α->V)(bs:α->List β)(zg:β->V)(pp:α->β->Bool)(g:α->β->V)(sc:E4 scope env cl)(src:o7 k mu env iter t ctx (as.map inj))(hk:1<=k)(hsz:(as.flatMap bs).length<=2 ^ 21)
 (turn:∀C a,a∈as->Av k mu scope C (o8 scope cl C env) t elt fc t2 nZ (inj a) (bs a) zg (pp a) (g a)) (hs:autoParam (∀x,bw iter env x=dh x) aR)
 (Gy:autoParam (∀C x,bw fc (o8 scope cl C env) x=dh x) aR):
 PE k mu env (.ListComp elt [⟨t,iter,[],0⟩,⟨t2,fc,nZ,0⟩] scope spos) (.list (as.flatMap λa=>((bs a).filter (pp a)).map (g a))):=
 WV.pe (Ra as inj bs zg pp g sc src hk hsz turn (λD=>fK.list ⟨rfl,rfl⟩) hs Gy)
end
noncomputable def jE(es:List (bc×V))(x:bc)(y:V):List (bc×V):=
 if es.any (λkv=>kv.1=x) then es.map (λkv=>if kv.1=x then (kv.1,y) else kv) else es++[(x,y)]
section
variable {Θ:V->Mu->Prop}
theorem Kf{α:Type}(x:bc){l:List (bc×α)}{r:List (bc×V)}(h:l.map (·.1)=r.map (·.1)):l.any (λkv=>kv.1=x)=r.any (λkv=>kv.1=x):=by
 have e:∀{β:Type} (l:List (bc×β)),l.any (λkv=>kv.1=x)=(l.map (·.1)).any (λy=>y=x):=λ{z} l=>by refine ai (CB ..) ?_;rfl
 refine ai (e ..) ?_;refine ai (h ..) ?_;refine fZ (e ..) ?_;rfl
theorem Da{α:Type}(x:bc)(v:α)(l:List (bc×α)):(l.map (λkv=>if kv.1=x then (kv.1,v) else kv)).map (·.1)=l.map (·.1):=by refine ai (a0 ..) ?_;exact b5 λa z=>by show (if a.1=x then (a.1,v) else a).1=a.1;split <;> rfl
theorem Dc{P:List (bc×aj)->List (bc×V)->Prop}(nil:P [] [])(cons:∀{x v y l r},aZ G Z v y->P l r->P ((x,v)::l) ((x,y)::r)){l:List (bc×aj)}:∀{r:List (bc×V)},l.map (·.1)=r.map (·.1)->bW G Z (l.map (·.2)) (r.map (·.2))->P l r:=by
 induction l with
 |nil=>intro r h z;cases r with
  |nil=>exact nil
  |cons=>exact QX h
 |cons a l ih=>intro r h w;cases r with
  |nil=>exact JV h
  |cons c r=>obtain ⟨x,v⟩:=a;obtain ⟨y,u⟩:=c;refine dU (sX h) λh1 h2=>?_;subst h1;exact cons w.uncons.1 (ih h2 w.uncons.2)
theorem Dd{kvs:List (bc×aj)}{es:List (bc×V)}{x:bc}{v:aj}{y:V}(hk:kvs.map (·.1)=es.map (·.1))(hr:bW G Z (kvs.map (·.2)) (es.map (·.2)))(hv:aZ G Z v y):
 (stored kvs x v).map (·.1)=(jE es x y).map (·.1)/\bW G Z ((stored kvs x v).map (·.2)) ((jE es x y).map (·.2)):=by
 delta stored jE;refine ai (Kf x hk ..) ?_
 split
 ·refine ⟨by (refine ai (Da ..) ?_;refine ai (Da ..) ?_;refine ai (hk ..) ?_;rfl),Dc (P:=λl r=>bW G Z ((l.map (λkv=>if kv.1=x then (kv.1,v) else kv)).map (·.2)) ((r.map (λkv=>if kv.1=x then (kv.1,y) else kv)).map (·.2))) .nil (λ{z u w l r} h1 ih=>?_) hk hr⟩;rw [bA,bA,bA,bA];refine .cons ?_ ih;by_cases hx:z=x
  ·rw [if_pos hx,if_pos hx];exact hv
  ·rw [if_neg hx,if_neg hx];exact h1
 ·(refine ai (bh ..) ?_;refine ai (bh ..) ?_;refine ai (bh ..) ?_;refine ai (bh ..) ?_)
  exact ⟨congrArg (·++[x]) hk,hr.append (.cons hv .nil)⟩
theorem De{A:bo}{E:aj->aq->Prop}{Q:Unit->aq->Prop}{a:ay}{es:List (bc×V)}{i:Nat}{x:bc}{tk:HO}{v:aj}{y:V}(r:R Z mu s)(hi:mu[i]? =ae (cE a es))(hl:es.length<=er)(hv:aZ G Z v y)
 (h:∀s',R Z (mu.set i (cE a (jE es x y))) s'->Q () s'):aS (aX G.prog G.w) A (dictSet a (.str x tk) v) Q E s:=by
 refine qm (r.sat _ (ao hi)) λq kvs h1 h2 h3=>?_;have hlen:kvs.length=es.length:=by (refine fZ (ak (f:=(·.1)) ..) ?_;refine ai (h2 ..) ?_;refine ai (ak ..) ?_;rfl)
 refine wpAny_dictSet_pairs (knd:=strKind G.prog G.w) (k:=x) (zq G.prog G.w x tk) h1 (λh' hd hs=>h _ ?_) (hlen▸hl);exact r.upd' (x':=cE a (jE es x y)) hi rfl (λb o hb e=>hs.extBut b o (λq=>hb (q▸aa)) e) ⟨q,_,hd,Dd (x:=x) h2 h3 hv⟩
theorem N2{a:ay}{es:List (bc×V)}{i:Nat}{ke ve:bP}{x:bc}{y:V}{Ψ:Mu->Prop}(h1:PE k mu env ke (.str x))(h2:PE k mu env ve y)(hi:mu[i]? =ae (cE a es))(hl:es.length<=er)(h:Ψ (mu.set i (cE a (jE es x y)))):
 WU k mu (Kb ke ve (.ref a) env) Ψ:=⟨λ{A E Z s fr Q} hA r q=>by
 delta Kb;refine ag (h1.c hA r λ{kv s1 Z1} z1 q1 r1=>ag (bC (h2.c hA r1 λ{vv s2 Z2} z2 q2 r2=>?_)));refine cK (gV q1) λtk dP=>?_;subst dP;exact ag (iI (bC (De r2 (cH hi) hl q2 λs' r'=>q (z1.trans z2) (gF hi▸r') h)))⟩
theorem N3(B:g7 G)(r:R Z mu s):(s.heap.objs.size == lX)=aH:=by exact cK (B.sysm) λo ho=>beq_eq_false_iff_ne.mpr (jI (bM (r.z0in _ _ ho)))
theorem vK(B:g7 G){tk:Nat}(r:R Z mu s):R Z (cE s.heap.objs.size []::mu) {s with heap:=s.heap.push {cls:= .type "dict",data:= .dict #[]},toks:=tk}:=
 r.addNew (tk:=tk) _ (λb o e=>az _ e) ⟨N3 B r,[],Heap.DictOf.new s.heap,rfl,.nil⟩ eg λz h=>kW h
theorem Df(B:g7 G):Acc newDict (λD=>cE D []):=⟨λ{A E Z s mu Q} r q=>jg (q (vK B r))⟩
structure Aw(k:Nat)(mu:Mu)(scope:fM)(C:ay)(env:iE)(t:bP)(ifs:List bP)(ke ve:bP)(x:V)(b:Bool)(kx:bc)(y:V):Prop where
 go:∃bF,mI k (uE scope C::mu) env t x (λnu=>nu=nC scope C bF::mu)/\wY k (nC scope C bF::mu) env ifs b/\(b=aJ->PE k (nC scope C bF::mu) env ke (.str kx)/\PE k (nC scope C bF::mu) env ve y)
noncomputable def rD(ps:List (bc×V)):List (bc×V):=ps.foldl (λes q=>jE es q.1 q.2) []
theorem Kg(es:List (bc×V))(x:bc)(y:V):(jE es x y).length<=es.length+1:=by
 delta jE
 split
 ·refine ai (ak ..) ?_;exact jC _
 ·refine ai (ba ..) ?_;exact bp _
theorem H4(ps:List (bc×V)):(rD ps).length<=ps.length:=by
 have:∀(ps es:List (bc×V)),(ps.foldl (λes q=>jE es q.1 q.2) es).length<=es.length+ps.length:=by
  intro ps;induction ps with
  |nil=>intro es;exact bp _
  |cons q ps ih=>intro es;refine aw (ih (jE es q.1 q.2)) ?_;refine ai (bJ ..) ?_;refine ai (Nat.add_comm ps.length ..) ?_;refine fZ (l0 ..) ?_;exact Tp (Kg es q.1 q.2) _
 exact aw (this ps []) (lh (eC _))
theorem xR(ps:List (bc×V))(q:bc×V):rD (ps++[q])=jE (rD ps) q.1 q.2:=fq
theorem Ax{α:Type}{scope:fM}{C:ay}{ke ve iter:bP}{ifs:List bP}{spos:lF}{dj:iE}(as:List α)(inj:α->V)(pp:α->Bool)(g:α->bc×V)(hx:xs=as.map inj)(hk:1<=k)(hsz:as.length<=2 ^ 21)(qW:∀o∈ctx,o∈mu)
 (turn:∀a∈as,Aw k mu scope C dj t ifs ke ve (inj a) (pp a) (g a).1 (g a).2):
 JI k (uE scope C::cE D []::mu) dj (.DictComp ke ve [⟨t,iter,ifs,0⟩] scope spos) 0 (.ref D) t ctx xs λnu=>∃bF nu',nu=nC scope C bF::nu'/\nu'=cE D (rD ((as.filter pp).map g))::mu:=by
 subst hx;refine rC Q9 hk rfl rfl
  (λi nu=>nu=uE scope C::cE D (rD (((as.take i).filter pp).map g))::mu) rfl (λi nu h o ho=>h▸ab _ (ab _ (qW o ho))) (λi x nu hx h=>?_) (λnu h=>⟨_,_,h,by (refine ai (ak ..) ?_;refine ai (cL ..) ?_;rfl)⟩)
 subst h;rw [aI] at hx;refine aK (aL.mp hx) λa ha eT=>?_;subst eT;refine ef ((turn a (ao ha)).go) λbF h1 h2 h3=>mI.mid (h1.mono λnu e=>⟨_,e,?_⟩);refine ⟨pp a,h2.mid,λhb=>⟨_,Le.forget,?_⟩,λhb it=>?_⟩
 ·(refine ai (gk ha ..) ?_;refine ai (hb ..) ?_);exact congrArg (λl=>_::cE D (rD l)::mu) (cz _).symm
 ·refine Wu.weak (Ψ:=λnu=>nu=nC scope C bF::cE D (rD (((as.take (i+1)).filter pp).map g))::mu) (WU.bf (N2 (i:=1) (h3 hb).1.mid (h3 hb).2.mid rfl ?_ ?_)) λnu h=>⟨_,h▸Le.forget,rfl⟩
  ·refine aw (H4 _) (ai (ak ..) ?_);exact aw (bu _ _) (aw (kK _ _) (aw hsz (show 2 ^ 21<=2 ^ 24 by decide)))
  ·(refine ai (gk ha ..) ?_;refine ai (hb ..) ?_;refine ai (if_pos rfl ..) ?_;refine ai (xR ..) ?_);rfl
theorem WE_dc{α:Type}{scope:fM}{cl:List (bc×ay)}{ke ve iter:bP}{ifs:List bP}{spos:lF}(B:g7 G)(as:List α)(inj:α->V)(pp:α->Bool)(g:α->bc×V)(sc:E4 scope env cl)(src:o7 k mu env iter t ctx (as.map inj))(hk:1<=k)(hsz:as.length<=2 ^ 21)
 (turn:∀C a,a∈as->Aw k mu scope C (o8 scope cl C env) t ifs ke ve (inj a) (pp a) (g a).1 (g a).2) (hΘ:∀D,fK D (cE D (rD ((as.filter pp).map g))::mu) Θ) (hs:autoParam (∀x,bw iter env x=dh x) aR):
 WE k mu env (.DictComp ke ve [⟨t,iter,ifs,0⟩] scope spos) Θ:=by
 show WV k mu (dW _ _) Θ;exact ai (arm_eval_DictComp ..) (xw (g:=⟨t,iter,ifs,0⟩) rfl hs sc (Df B) src λC D=>(Ax as inj pp g rfl hk hsz src.has (turn C)).mono λnu=>bQ λbF=>bQ λnu' w=>⟨w.1,w.2▸hΘ D⟩)
theorem WX_dc{α:Type}{scope:fM}{cl:List (bc×ay)}{ke ve iter:bP}{ifs:List bP}{spos apos py:lF}{y:bc}{Φ:AF->Mu->Prop}(B:g7 G)(as:List α)(inj:α->V)(pp:α->Bool)(g:α->bc×V)(sc:E4 scope env cl)(src:o7 k mu env iter t ctx (as.map inj))(hk:1<=k)(hsz:as.length<=2 ^ 21)
 (turn:∀C a,a∈as->Aw k mu scope C (o8 scope cl C env) t ifs ke ve (inj a) (pp a) (g a).1 (g a).2)
 (SE:xi (.DictComp ke ve [⟨t,iter,ifs,0⟩] scope spos) (ae (.Name y py)) apos.line env=dh aJ)
 (hΘ:∀D,fK D (cE D (rD ((as.filter pp).map g))::mu) λv nu=>mI k nu env (.Name y py) v (Φ .next)) (hs:autoParam (∀x,bw iter env x=dh x) aR):
 WX k mu env (.Assign [.Name y py] (.DictComp ke ve [⟨t,iter,ifs,0⟩] scope spos) apos) Φ:=
 G2 (g:=⟨t,iter,ifs,0⟩) (pos:=firstIterPos [⟨t,iter,ifs,0⟩] spos) SE (λu=>rfl) rfl hs sc (Df B) src λC D=>(Ax as inj pp g rfl hk hsz src.has (turn C)).mono λnu=>bQ λbF=>bQ λnu' w=>⟨w.1,w.2▸hΘ D⟩
end
structure Gi(k:Nat)(mu:Mu)(P Q S:Vw):Prop where
 c:∀{A:bo} {E:aj->aq->Prop} {Z:bI} {s:aq} {fr:Mu} {v u:aj} {T:aj->aq->Prop},Rm k A->R Z (mu++fr) s->P.p Z v->Q.p Z u->(∀{w s' Z'},Z.le Z'->S.p Z' w->R Z' (mu++fr) s'->T w s')->
  (∃T id,iR (.type T) "__getitem__"=dh (ae (.builtin id))/\s.TypeIs v T)/\aS (aX G.prog G.w) A (Jt v u) T E s
noncomputable def Rb(lo hi st:Option Int):Vw:=
 ⟨λZ v=>∃a vl vu vs o,v= .ref a/\Z a=ae o/\o.cls= .type "slice"/\o.data= .fields #[vl,vu,vs]/\IsPart vl lo/\IsPart vu hi/\IsPart vs st,
  λZ Z' v h=>bQ λa=>bQ λvl=>bQ λvu=>bQ λvs=>bQ λo w=>⟨w.1,h _ _ w.2.1,w.2.2⟩⟩
theorem Kh{A:bo}{E T:aj->aq->Prop}{o i:bP}(hs:∀a b,∃ops,NB i aH a b=operate ops (Jt a b))(he:aS (aX G.prog G.w) A (dW o env) (λv s1=>aS (aX G.prog G.w) A (dW i env) (λu s2=>∀(T':aj->aq->Prop),(∀{w s'},T w s'->T' w s')->
 (∃U id,iR (.type U) "__getitem__"=dh (ae (.builtin id))/\s2.TypeIs v U)/\aS (aX G.prog G.w) A (Jt v u) T' E s2) E s1) E s):aS (aX G.prog G.w) A (dW (.Subscript o i p) env) T E s:=by
 with_reducible refine PyProof.Rows.Subscript_ ?_
 refine eR he (λv s1 h1=>eR h1 (λu s2 h2=>?_) λz z e=>e) λz z e=>e;refine dU (h2 (λw s3=>aS (aX G.prog G.w) A (pC o v w >>=λz=>dh w) T E s3) λ{z z} h=>ag (wpAny_letTemporaryGo (ar h))) λdP hg=>eD dP λU id hl hT=>?_;clear dP;refine cK (hs v u) λops hs=>?_;unfold PyProof.Rows.subscriptTail;refine ag (ai (getitemInPython_of_ne hT.not_modules ..) ?_);refine ag (h8 hT hl ?_)
 first
  |exact ar (ag (hs▸Tq hg))
  |exact ag (ar (ag (hs▸Tq hg)))
  |exact ag (hs▸Tq hg)
theorem bE{o i:bP}(ho:EV k mu env o P)(hi:EV k mu env i Q)(g:Gi k mu P Q S)(hs:∀a b,∃ops,NB i aH a b=operate ops (Jt a b):=by intro a b;exact ⟨_,rfl⟩):
 EV k mu env (.Subscript o i p) S:=⟨λ{z z z z z z} hA r q=>Kh hs (ho.c hA r λ{z z z} z1 q1 r1=>hi.c hA r1 λ{z z z} z2 q2 r2 T' t=>g.c hA r2 (P.mono _ _ _ z2 q1) q2 λ{z z z} z3 q3 r3=>t (q (z1.trans (z2.trans z3)) q3 r3))⟩
theorem md.at{v:aj}{fr:Mu}(h:(md mu xs).p Z v)(r:R Z (mu++fr) s):∃a vs n,v= .ref a/\s.heap.get? a=ae (oG vs n)/\bW G Z vs.toList xs:=
 h.imp λa w=>(w.2 Z s .rfl r.left).imp λvs=>bQ λn u=>⟨w.1,u⟩
noncomputable def j8(n:Nat)(i:Int):Nat:=if i < 0 then (i+n).toNat else i.toNat
theorem Ay{n:Nat}{i:Int}(SG: -(n:Int)<=i)(hlt:j8 n i < n):M6 i n=ae (j8 n i):=by
 unfold M6 j8;unfold j8 at hlt
 split <;> rename_i hneg
 ·rw [if_pos hneg] at hlt;refine ai (if_pos (by simp;lia) ..) ?_;rfl
 ·rw [if_neg hneg] at hlt;refine ai (if_pos (by simp;lia) ..) ?_;rfl
theorem Rc{i:Int}(hx:xs[j8 xs.length i]? =ae y)(SG: -(xs.length:Int)<=i)(hhi:i < 2 ^ 62)(hn:xs.length < 2 ^ 62):Gi k mu (md mu xs) (bZ (.int i)) (bZ y):=⟨λ{A E Z s fr v u T} hA r hp hq q=>by
 refine cF (md.at hp r) λa vs n eT h1 h2=>?_;subst eT;refine cK (gG hq) λtk gi=>?_;subst gi;have hL:s.heap.IsList a vs:=⟨_,h1,rfl,n,rfl⟩;refine aK (h2.get hx) λw h3 h4=>?_;rw [cb h2] at h3 SG hn;rw [bV] at h3;refine ⟨⟨"list",_,ET,hL.typeIs⟩,?_⟩;unfold j8 at h3
 split at h3
 ·exact wpAny_getItem_list_neg hL ‹_› SG (by lia) h3 (q .rfl h4 r)
 ·exact wpAny_getItem_list hL (by exact Int.le_of_not_gt (by assumption)) (by exact rq (by assumption) (by decide)) h3 (q .rfl h4 r)⟩
theorem Ki{i:Int}(hx:xs[j8 xs.length i]? =ae y)(SG: -(xs.length:Int)<=i)(hhi:i < 2 ^ 62)(hn:xs.length < 2 ^ 62):Gi k mu (bZ (.tup xs)) (bZ (.int i)) (bZ y):=⟨λ{A E Z s fr v u T} hA r hp hq q=>by
 refine dM (aZ.tup_inv hp) λa o vs n iC e1 hc hd h2=>?_;subst iC;refine cK (gG hq) λtk kF=>?_;subst kF;have hL:IsTup s.heap a vs:=⟨_,r.zin _ _ e1,hc,n,hd⟩;have hlt:=(aB.mp hx).1;refine aK (h2.get hx) λw h3 h4=>?_;rw [bV] at h3;exact ⟨⟨"tuple",_,PyProof.Rows.slot_tuple_getitem.lookup,hL.typeIs⟩,PyProof.Rows.getItem_tuple hL (by lia) (by exact rq (by assumption) (by decide)) (cb h2▸Ay SG hlt) h3 (q .rfl h4 r)⟩⟩
theorem gi_s{x:bc}{i:Int}{c:Nat}(hx:x.cps[j8 x.length i]? =ae c)(SG: -(x.length:Int)<=i)(hhi:i < 2 ^ 62)(hn:x.length < 2 ^ 62):Gi k mu (bZ (.str x)) (bZ (.int i)) (bZ (.str ⟨#[c]⟩)):=⟨λ{A E Z s fr v u T} hA r hp hq q=>by
 refine cK (gV hp) λtk l9=>?_;subst l9;refine cK (gG hq) λnx mD=>?_;subst mD;refine ⟨⟨"str",_,PyProof.Rows.slot_str_getitem.lookup,rfl⟩,PyProof.Rows.getItem_str (c:=c) ?_ ?_ (q .rfl (aZ.str _ _) r.toks)⟩
 ·simp;lia
 ·refine ai (Ay SG (rr.mp hx).1 ..) ?_;exact hx⟩
noncomputable def me(es:List (bc×V))(x:bc):Option V:=(es.find? λkv=>kv.1=x).map (·.2)
theorem uG{x:bc}{l:List (bc×aj)}{r:List (bc×V)}(h:l.map (·.1)=r.map (·.1))(hr:bW G Z (l.map (·.2)) (r.map (·.2))){y:V}:me r x=ae y->∃v,vk l x=ae v/\aZ G Z v y:=by
 refine Dc (P:=λl r=>me r x=ae y->∃v,vk l x=ae v/\aZ G Z v y) (λe=>gL e) (λ{z u w l r} h1 ih hy=>?_) h hr;unfold me at hy;unfold vk;rw [jV] at hy ⊢;by_cases hx:z=x
 ·rw [show decide (z=x)=aJ from decide_eq_true hx] at hy ⊢;exact ⟨u,rfl,aO hy▸h1⟩
 ·rw [show decide (z=x)=aH from decide_eq_false hx] at hy ⊢;exact ih hy
theorem ta{x:bc}{l:List (bc×aj)}{r:List (bc×V)}(h:l.map (·.1)=r.map (·.1))(hy:me r x=av):vk l x=av:=by unfold me at hy;unfold vk;rw [PY,Af] at hy ⊢;intro a ha;exact aK (aG.mp (h▸aG.mpr ⟨a,ha,rfl⟩:a.1∈r.map (·.1))) λc hc e=>e▸hy c hc
theorem Nm.at{v:aj}{fr:Mu}{es:List (bc×V)}(h:(Nm mu es).p Z v)(r:R Z (mu++fr) s):∃a kvs,v= .ref a/\(a == lX)=aH/\s.heap.DictOf (strKind G.prog G.w) a kvs/\kvs.map (·.1)=es.map (·.1)/\bW G Z (kvs.map (·.2)) (es.map (·.2)):=
 h.imp λa w=>(w.2 Z s .rfl r.left).2.imp λkvs u=>⟨w.1,(w.2 Z s .rfl r.left).1,u⟩
theorem mf{es:List (bc×V)}{x:bc}(hx:me es x=ae y):Gi k mu (Nm mu es) (bZ (.str x)) (bZ y):=⟨λ{A E Z s fr v u T} hA r hp hq q=>by
 refine Am (Nm.at hp r) λa kvs qX EJ h1 h2 h3=>?_;subst qX;refine cK (gV hq) λtk ub=>?_;subst ub;exact aK (uG h2 h3 hx) λw h4 h5=>⟨⟨"dict",_,PySem.slot_dict_getitem.lookup,h1.typeIs⟩,wpAny_getItem_of (knd:=strKind G.prog G.w) (k:=x) (zq G.prog G.w x tk) h1.mapOf h4 (q .rfl h5 r.toks)⟩⟩
structure Dg(k:Nat)(mu:Mu)(env:iE)(oe:Option bP)(x:Option Int):Prop where
 c:∀{A:bo} {E:aj->aq->Prop} {Z:bI} {s:aq} {fr:Mu} {T:aj->aq->Prop},Rm k A->R Z (mu++fr) s->(∀{v s' Z'},IsPart v x->Z.le Z'->R Z' (mu++fr) s'->T v s')->aS (aX G.prog G.w) A (evalPart oe env) T E s
theorem dN:Dg k mu env av av:=⟨λ{z z z z z z} hA r q=>by refine ai (evalPart_none ..) ?_;exact ar (q .none .rfl r)⟩
theorem eQ{i:Int}(h:PE k mu env e (.int i)):Dg k mu env (ae e) (ae i):=⟨λ{z z z z z z} hA r q=>by
 refine ai (evalPart_some ..) ?_;exact h.c hA r λ{z z z} z1 q1 r1=>q ((gG q1).elim λz e=>e▸.int _ _) z1 r1⟩
theorem jo{lo hi st:Option bP}{l h c:Option Int}(h1:Dg k mu env lo l)(h2:Dg k mu env hi h)(h3:Dg k mu env st c):EV k mu env (.Slice lo hi st p) (Rb l h c):=⟨λ{A E Z s fr T} hA r q=>by
 with_reducible refine wpAny_Slice ?_
 exact h1.c hA r λ{z z z} q1 z1 r1=>h2.c hA r1 λ{z z z} q2 z2 r2=>h3.c hA r2 λ{v3 s3 Z3} q3 z3 r3=>q (z1.trans (z2.trans (z3.trans (bI.le_put (r3.fresh (bp _)))))) ⟨_,_,_,v3,_,rfl,bI.put_self ..,rfl,rfl,q1,q2,q3⟩ r3.pushZ⟩
noncomputable def jq{α:Type}(xs:List α)(lo hi st:Option Int):List α:=
 (zr (c8 lo hi st xs.length).1 (c8 lo hi st xs.length).2.1 (c8 lo hi st xs.length).2.2).filterMap (xs[·]?)
theorem bW.picks{vs:List aj}{xs:List V}(h:bW G Z vs xs)(l:List Nat):bW G Z (l.filterMap (vs[·]?)) (l.filterMap (xs[·]?)):=by
 induction l with
 |nil=>exact .nil
 |cons i l ih=>
  refine ai (qk ..) ?_;refine ai (qk ..) ?_;cases hi:xs[i]? with
  |none=>refine ai (so.mpr (h.length▸so.mp hi) ..) ?_;exact ih
  |some x=>refine aK (h.get hi) λv h1 h2=>?_;refine ai (h1 ..) ?_;exact .cons h2 ih
theorem jr{α β:Type}(f:α->β)(xs:List α)(lo hi st:Option Int):jq (xs.map f) lo hi st=(jq xs lo hi st).map f:=by unfold jq;refine ai (ak ..) ?_;refine ai (List.map_filterMap ..) ?_;exact congrArg (List.filterMap · _) (funext λi=>aI)
theorem Az{vs:Array aj}{lo hi st:Option Int}(h:bW G Z vs.toList xs):bW G Z (xl vs lo hi st).toList (jq xs lo hi st):=by have:=h.picks (zr (c8 lo hi st vs.size).1 (c8 lo hi st vs.size).2.1 (c8 lo hi st vs.size).2.2);refine ai (show (xl vs lo hi st).toList=(zr (c8 lo hi st vs.size).1 (c8 lo hi st vs.size).2.1 (c8 lo hi st vs.size).2.2).filterMap (vs.toList[·]?) from by unfold xl;simp) ?_;unfold jq;exact ai (cb h ..) (this)
theorem o9{lo hi st:Option Int}(h0:st≠ae 0)(hn:xs.length<=2 ^ 23):Gi k mu (md mu xs) (Rb lo hi st) (bZ (.list (jq xs lo hi st))):=⟨λ{A E Z s fr v u T} hA r hp hq q=>by
 refine cF (md.at hp r) λa vs n mO h1 h2=>?_;subst mO;obtain ⟨b,vl,vu,vst,o,rfl,hz,hc,hd,p1,p2,p3⟩:=hq;have hL:s.heap.IsList a vs:=⟨_,h1,rfl,n,rfl⟩;have hlen:=cb h2;refine ⟨⟨"list",_,ET,hL.typeIs⟩,?_⟩;refine wpAny_getItem_list_slice hL ⟨o,r.zin _ _ hz,hc,hd⟩ p1 p2 p3 h0 ?_ (hlen▸aw hn (show 2 ^ 23<=2 ^ 24 by decide));have zz:Z.le (Z.put s.heap.objs.size {cls:= .type "list",data:= .seq (xl vs lo hi st)}):=bI.le_put (r.fresh (bp _));exact q zz (aZ.list (n:=0) (vs:=xl vs lo hi st) (bI.put_self ..) (Az (h2.mono zz))) r.pushZ⟩
variable {ys:List V}
section
variable {Θ:V->Mu->Prop}
theorem j0.vrels{vs:List aj}(h:j0 Z vs (xs.map bZ:List (Vw))):bW G Z vs xs:=by
 induction xs generalizing vs with
 |nil=>cases h.none;exact .nil
 |cons x xs ih=>refine cD (h.cons_inv) λv vs dP a r=>?_;subst dP;exact .cons a (ih r)
theorem j0.len{vs:List aj}{Ps:List (Vw)}(h:j0 Z vs Ps):vs.length=Ps.length:=by
 induction h with
 |nil=>rfl
 |cons _ _ ih=>exact congrArg xh ih
theorem j0.size{vs:List aj}(h:j0 Z vs (xs.map bZ:List (Vw)))(hl:xs.length<=2 ^ 20):vs.length<=er:=by (refine ai (h.len ..) ?_;refine ai (ak ..) ?_);exact aw hl (show 2 ^ 20<=2 ^ 24 by decide)
theorem xS{vs:Array aj}{n tk:Nat}{T:Prop}(r:R Z mu s)(hr:bW G Z vs.toList xs)(q:∀{Z'},Z.le Z'->aZ G Z' (.ref s.heap.objs.size) (.list xs)->R Z' mu {s with heap:=s.heap.push {cls:= .type "list",data:= .seq vs n},toks:=tk}->T):T:=
 q (bI.le_put (r.fresh (bp _))) (aZ.list (vs:=vs) (n:=n) (bI.put_self ..) (hr.mono (bI.le_put (r.fresh (bp _))))) r.pushZ.toks
theorem f9{es:List bP}{kk:Nat}(h:tx k mu env es (xs.map bZ))(hl:xs.length<=2 ^ 20):PE k mu env (.Tuple es kk pos) (.tup xs):=⟨λ{A E Z s fr Q} hA r q=>by
 with_reducible refine EU ?_
 refine h.c hA r λ{vs s1 Z1} z1 q1 r1=>⟨q1.size hl,?_⟩
 have z2:=bI.le_put (o:={cls:= .type "tuple",data:= .seq vs.toArray}) (r1.fresh (bp _));exact q (z1.trans z2) (aZ.tup (vs:=vs.toArray) (n:=0) (bI.put_self ..) rfl rfl (q1.vrels.mono z2)) r1.pushZ⟩
theorem ij{es:List bP}(h:tx k mu env es (xs.map bZ))(hl:xs.length<=2 ^ 20):PE k mu env (.List es pos) (.list xs):=⟨λ{A E Z s fr Q} hA r q=>by
 with_reducible refine wpAny_List_spliced ?_
 exact h.c hA r λ{z z z} z1 q1 r1=>⟨q1.size hl,xS r1 q1.vrels λ{z} z2=>q (z1.trans z2)⟩⟩
theorem sy{es:List bP}(h:tx k mu env es (xs.map bZ))(hl:xs.length<=2 ^ 20)(hΘ:∀D,fK D (bk D xs::mu) Θ):WE k mu env (.List es pos) Θ:=⟨λ{A E Z s fr Q} hA r q=>by
 with_reducible refine wpAny_List_spliced ?_
 exact h.c hA r λ{vs s1 Z1} z1 q1 r1=>⟨q1.size hl,(hΘ s1.heap.objs.size).c (r1.addNew (tk:=s1.toks) (bk s1.heap.objs.size xs) (λb o e=>az _ e) ⟨vs.toArray,0,aW _ rfl,q1.vrels⟩ eg λz h=>kW h) λ{z z z} z2=>q (z1.trans z2)⟩⟩
theorem xT(B:g7 G)(hΘ:∀D,fK D (cE D []::mu) Θ):WE k mu env (.Dict [] [] pos) Θ:=⟨λ{A E Z s fr Q} hA r q=>by
 with_reducible refine wpAny_Dict_empty ?_
 exact (hΘ s.heap.objs.size).c (fr:=fr) (vK B r) q⟩
theorem uH(hl:xs.length+ys.length<=2 ^ 23):xJ k mu .Add (md mu xs) (md mu ys) (bZ (.list (xs++ys))):=⟨λ{A E Z s fr v u T} hA r hp hq q=>by
 refine cF (md.at hp r) λa vs n eT h1 h2=>?_;subst eT;refine cF (md.at hq r) λb ws m gi h3 h4=>?_;subst gi;refine PySem.P.add_list (n:=n) (n2:=m) (items:=vs) (items2:=ws) h1 h3 ?_ (by (refine fZ (cb h2 ..) ?_;refine fZ (cb h4 ..) ?_);exact aw hl (show 2 ^ 23<=2 ^ 24 by decide));exact xS (tk:=s.toks) r (by refine ai (lA ..) ?_;exact h2.append h4) q⟩
theorem mh(hl:xs.length<=2 ^ 40):Fn k mu (.builtin "len") [md mu xs] (bZ (.int xs.length)):=⟨λ{A E Z s fr vs Q} hA r hq q=>by
 refine aK (hq.one) λv iC hp=>?_;subst iC;refine cF (md.at hp r) λa vs n kF h1 h2=>?_;subst kF;have l1:=cb h2;exact call_len_list (⟨_,h1,rfl,n,rfl⟩:s.heap.IsList a vs) (by refine fZ (l1 ..) ?_;lia) (l1▸q .rfl (aZ.int _ _) r.toks)⟩
theorem AA(ns:List Int):∀n,n<=ns.length->preSum (λi=>ns.getD i 0) n=(ns.take n).sum:=by
 intro n;induction n with
 |zero=>intro z;rfl
 |succ n ih=>
  intro h;have h1:n < ns.length:=h
  (rewrite [preSum];refine ai (ih (by exact eB (by assumption)) ..) ?_)
  refine ai (dG ..) ?_;refine ai (bH h1 ..) ?_;refine ai (vm ..) ?_;simp only [bR,bH h1,Option.getD_some,Ag,df,List.sum_nil,PV]
theorem Kj{ns:List Int}:Fn k mu (.builtin "sum") [md mu (ns.map .int)] (bZ (.int ns.sum)):=⟨λ{A E Z s fr vs Q} hA r hq q=>by
 refine aK (hq.one) λv l9 hp=>?_;subst l9;refine cF (md.at hp r) λa vs n mD h1 h2=>?_;subst mD;have l1:ns.length=vs.size:=by (refine fZ (cb h2 ..) ?_;refine ai (ak ..) ?_;rfl)
 have hL:s.heap.IsList a vs:=⟨_,h1,rfl,n,rfl⟩;refine call_sum_walkG (lq hL ?_);refine ⟨s.heap.objs.size,[s.heap.objs.size,a],[s.heap.objs.size],vs.size,_,_,λi=>ns.getD i 0,rfl,Walks.list (A:=A.in1) hA.hh s.heap.objs.size a (c9 (bM h1)) vs,⟨⟨_,aW _ rfl,rfl,rfl⟩,hL.at λo e=>az _ e⟩,?_,?_,?_⟩
 ·intro b hb;refine ai (fN ..) ?_;rcases aP.mp hb with rfl|hb
  ·exact jf _
  ·refine ai (aA.mp hb ..) ?_;exact cJ (bM h1)
 ·intro i v hv;refine aK (h2.get' (bV.trans hv)) λx h3 h4=>?_;rw [aI] at h3;refine aK (aL.mp h3) λm h5 qX=>?_;subst qX;refine cK (gG h4) λtk ub=>?_;subst ub;exact ⟨tk,by show jS m tk=jS (ns.getD i 0) tk;(refine ai (bR ..) ?_;refine ai (h5 ..) ?_);rfl⟩
 ·intro h' tk t' hk;refine fZ (l1 ..) ?_;refine ai (AA ns _ (bp _) ..) ?_;refine ai (cL ..) ?_;exact q .rfl (aZ.int _ _) (r.keep (tk:=tk) λb o e=>hk b o (λh=>c9 (bM e) (aA.mp h)) (az _ e))⟩
theorem Fn.ix{f:aj}{i:Int}{S:Vw}(h:∀{A:bo} {E:aj->aq->Prop} {Z:bI} {s:aq} {t:HO} {fr:Mu} {Q:aj->aq->Prop},R Z (mu++fr) s->(∀{w s'},S.p Z w->R Z (mu++fr) s'->Q w s')->aS (aX G.prog G.w) A (ks f [.int i t]) Q E s):Fn k mu f [bZ (.int i)] S:=
 ⟨λ{z z z z z z z} hA r hq q=>by obtain ⟨v,rfl,p⟩:=hq.one;exact aZ.intC p λt=>h r (q .rfl)⟩
theorem rE{c:Bool}:Fn k mu (.type "int") [bZ (.bool c)] (bZ (.int (if c then 1 else 0))):=⟨λ{z z z z z z z} hA r hq q=>by
 refine aK (hq.one) λv mO p=>?_;subst mO;refine ai (aZ.boolE p ..) ?_;exact call_int_bool (q .rfl (aZ.int _ _) r.toks)⟩
theorem H5{i:Int}:Fn k mu (.type "bool") [bZ (.int i)] (bZ (.bool (i != 0))):= .ix λ{z z z z z z z} r q=>call_bool_int (q (aZ.bool _) r)
theorem Rd{i:Int}(h0:0<=i)(h1:i<=1114111):Fn k mu (.builtin "chr") [bZ (.int i)] (bZ (.str ⟨#[i.toNat]⟩)):= .ix λ{z z z z z z z} r q=>PyProof.Rows.chr_of_range h0 h1 (q (aZ.str _ _) r.toks)
theorem Re{c:Nat}:Fn k mu (.builtin "ord") [bZ (.str ⟨#[c]⟩)] (bZ (.int c)):=⟨λ{z z z z z z z} hA r hq q=>by
 refine aK (hq.one) λv sj p=>?_;subst sj;exact aZ.strC p λt=>PySem.P.ord_of_char (q .rfl (aZ.int _ _) r.toks)⟩
theorem Kk{i:Int}(h:(Ju "0x" 16 i).length<=er):Fn k mu (.builtin "hex") [bZ (.int i)] (bZ (.str (Ju "0x" 16 i))):= .ix λ{z z z z z z z} r q=>PySem.P.hex_of_int (q (aZ.str _ _) r.toks) h
theorem H7{x:bc}(hl:x.cps.size<=er):Fn k mu (.type "list") [bZ (.str x)] (bZ (.list (nB x))):=⟨λ{A E Z s fr vs Q} hA r hq q=>by
 refine aK (hq.one) λv zh p=>?_;subst zh;refine cK (gV p) λtk EK=>?_;subst EK;refine call_list_str hA.hh x tk (λh' nx SH c' hk hg hi=>?_) hl;have hz:=r.fresh (bp s.heap.objs.size);refine q (bI.le_put hz) (aZ.list (vs:=SH) (n:=c') (bI.put_self ..) (bW.ofGets ?_ λi v y hv hy=>?_)) (R.freeze (r.keep (tk:=nx) hk) hg hz (r.notOwn (bp _)))
 ·have:=hi.1;simp [nB];with_reducible assumption
 ·exact tA x hy (hi.2 i v (bV.symm.trans hv))⟩
end
mutual
noncomputable def Kl:V->Option wy
 | .none=>ae .none
 | .bool b=>ae (.bool b)
 | .int i=>ae (.int i)
 | .str x=>if pD x then ae (.str x) else av
 | .list xs=>(pd xs).map .list
 | .tup xs=>(pd xs).map .tuple
 |_=>av
noncomputable def pd:List V->Option (List wy)
 |[]=>ae []
 |x::xs=>(Kl x).bind λd=>(pd xs).map (d::·)
end
theorem xU(hz:∀a o,Z a=ae o->s.heap.get? a=ae o):(∀{v x},aZ G Z v x->∀d,Kl x=ae d->(∃as,Reads s.heap v d as)/\d.canLay0=aJ)/\∀{vs xs},bW G Z vs xs->∀ds,pd xs=ae ds->(∃as,ReadsAll s.heap vs ds as)/\Jv ds=aJ:=
 aZ.both (P:=λv x=>∀d,Kl x=ae d->(∃as,Reads s.heap v d as)/\d.canLay0=aJ) (Q:=λvs xs=>∀ds,pd xs=ae ds->(∃as,ReadsAll s.heap vs ds as)/\Jv ds=aJ)
  (λd e=>aO e▸⟨⟨_,.none⟩,rfl⟩) (λb d e=>aO e▸⟨⟨_,.bool b⟩,rfl⟩) (λi t d e=>aO e▸⟨⟨_,.int i _⟩,rfl⟩)
  (λx t d e=>by
   have e:(if pD x then ae (PyData.str x) else av)=ae d:=e;by_cases hs:pD x
   ·exact aO ((if_pos hs).symm.trans e)▸⟨⟨_,.str x _⟩,hs⟩
   ·exact gL ((if_neg hs).symm.trans e))
  (λz z z e=>gL e) (λz z e=>gL e) (λz z e=>gL e) (λz z e=>gL e)
  (λ{a o vs n xs} e1 hc hd ih d e=>by
   refine aK (aL.mp e) λds h1 dP=>?_;subst dP;refine dU (ih ds h1) λeT h3=>cK eT λas h2=>?_;clear eT;exact ⟨⟨_,.tuple (hz _ _ e1) hc hd h2⟩,h3⟩)
  (λ{a vs n xs} e1 ih d e=>by
   refine aK (aL.mp e) λds h1 gi=>?_;subst gi;refine dU (ih ds h1) λiC h3=>cK iC λas h2=>?_;clear iC;exact ⟨⟨_,.list (hz _ _ e1) rfl rfl h2⟩,h3⟩)
  (λ{z z z z z} z z z z z e=>gL e) (λ{z z z z} z z z z z z e=>gL e)
  (λds e=>aO e▸⟨⟨_,.nil⟩,rfl⟩)
  (λ{v vs x xs} ih z ihs ds e=>by
   refine aK (du.mp e) λd h1 h2=>aK (aL.mp h2) λds h3 kF=>?_;subst kF;refine dU (ih d h1) λl9 h5=>cK l9 λas h4=>?_;clear l9;refine dU (ihs ds h3) λmD h7=>cK mD λbs h6=>?_;clear mD;exact ⟨⟨_,.cons h4 h6⟩,cq.mpr ⟨h5,h7⟩⟩)
theorem rF(hz:∀a o,Z a=ae o->s.heap.get? a=ae o)(x:V){v:aj}{d:wy}(h:aZ G Z v x)(e:Kl x=ae d):(∃as,Reads s.heap v d as)/\d.canLay0=aJ:=(xU hz).1 h d e
theorem wH(hz:∀a o,Z a=ae o->s.heap.get? a=ae o)(xs:List V){vs:List aj}{ds:List wy}(h:bW G Z vs xs)(e:pd xs=ae ds):(∃as,ReadsAll s.heap vs ds as)/\Jv ds=aJ:=(xU hz).2 h ds e
theorem Rm.eq{A:bo}(hA:Rm k A){n:Nat}(h:n<=100):A.units+n < 9900:=by have:=hA.uni;lia
theorem Rf{dx dy:wy}(hx:Kl x=ae dx)(hy:Kl y=ae dy)(hd:min dx.depth dy.depth<=100):s7 k mu .Eq (bZ x) (bZ y) (PyData.eqv dx dy):=⟨λ{A E Z s fr v u T} hA r hp hq q=>by
 refine dU (rF (s:=s) r.zin x hp hx) λqX h2=>cK qX λas h1=>?_;clear qX;refine dU (rF (s:=s) r.zin y hq hy) λub h4=>cK ub λbs h3=>?_;clear ub;exact SeqAt.compareEq_reads h1 h3 h2 h4 (hA.eq hd) (q .rfl (.bool _) r)⟩
theorem Km{dx dy:wy}(hx:Kl x=ae dx)(hy:Kl y=ae dy)(hd:min dx.depth dy.depth<=100):s7 k mu .NotEq (bZ x) (bZ y) (!PyData.eqv dx dy):=⟨λ{A E Z s fr v u T} hA r hp hq q=>by
 refine dU (rF (s:=s) r.zin x hp hx) λmO h2=>cK mO λas h1=>?_;clear mO;refine dU (rF (s:=s) r.zin y hq hy) λsj h4=>cK sj λbs h3=>?_;clear sj;exact SeqAt.compareNe_reads h1 h3 h2 h4 (hA.eq hd) (q .rfl (.bool _) r)⟩
theorem G3(ds:List wy):PyData.eqv (.list ds) (.list [])=ds.isEmpty:=by cases ds <;> rfl
theorem Dh{ds:List wy}(e:pd xs=ae ds):ds.length=xs.length:=by
 induction xs generalizing ds with
 |nil=>exact aO e▸rfl
 |cons x xs ih=>refine aK (du.mp e) λd h1 h2=>aK (aL.mp h2) λds h3 zh=>?_;subst zh;exact congrArg xh (ih h3)
theorem xV{ds:List wy}(e:pd xs=ae ds):ds.isEmpty=xs.isEmpty:=by have:=Dh e;cases xs <;> cases ds <;> first|rfl|cases this
theorem Di{ds:List wy}(e:pd xs=ae ds):Kl (.list xs)=ae (.list ds):=congrArg (Option.map PyData.list) e
theorem AB{d:wy}:min d.depth (PyData.list []).depth<=100:=aw (ot _ _) (by decide)
theorem Fz(h:(pd xs).isSome=aJ):s7 k mu .Eq (bZ (.list xs)) (bZ (.list [])) xs.isEmpty:=by
 refine cK (dJ.mp h) λds hd=>?_;have:=Rf (k:=k) (mu:=mu) (y:= .list []) (Di hd) rfl AB
 rwa [G3,xV hd] at this
theorem BJ(h:(pd xs).isSome=aJ):s7 k mu .NotEq (bZ (.list xs)) (bZ (.list [])) (!xs.isEmpty):=by
 refine cK (dJ.mp h) λds hd=>?_;have:=Km (k:=k) (mu:=mu) (y:= .list []) (Di hd) rfl AB
 rwa [G3,xV hd] at this
theorem tD{vs:List aj}{ns:List Int}(h:bW G Z vs (ns.map .int)):ui vs ns:=by
 induction ns generalizing vs with
 |nil=>cases h.nil_inv;exact .nil
 |cons n ns ih=>refine cD (h.cons_inv) λv vs EK a r=>?_;subst EK;exact aZ.intC (P:=λv=>ui (v::vs) (n::ns)) a λt=> .cons _ _ (ih r)
theorem tE{vs:List aj}{ns:List bc}(h:bW G Z vs (ns.map .str)):StrsAre vs ns:=by
 induction ns generalizing vs with
 |nil=>cases h.nil_inv;exact .nil
 |cons n ns ih=>refine cD (h.cons_inv) λv vs MO a r=>?_;subst MO;exact aZ.strC (P:=λv=>StrsAre (v::vs) (n::ns)) a λt=> .cons _ _ (ih r)
theorem Ko{f:aj->aj->oY aj}{i:Int}{ns:List Int}{b:Bool}(h:∀{A:bo} {E:aj->aq->Prop} {s:aq} {t:HO} {a:ay} {vs:List aj} {T:aj->aq->Prop},s.heap.IsList a vs.toArray->ui vs ns->T (.bool b) s->aS (aX G.prog G.w) A (f (.int i t) (.ref a)) T E s):B2 k mu f (bZ (.int i)) (md mu (ns.map .int)) (bZ (.bool b)):=⟨λ{A E Z s fr v u T} hA r hp hq q=>by
 refine cK (gG hp) λtk SI=>?_;subst SI;refine cF (md.at hq r) λa vs n SJ h1 h2=>?_;subst SJ;exact h (vs:=vs.toList) ⟨_,h1,rfl,n,rfl⟩ (tD h2) (q .rfl (.bool _) r)⟩
theorem Kp{f:aj->aj->oY aj}{i:bc}{ns:List bc}{b:Bool}(h:∀{A:bo} {E:aj->aq->Prop} {s:aq} {t:HO} {a:ay} {vs:List aj} {T:aj->aq->Prop},s.heap.IsList a vs.toArray->StrsAre vs ns->T (.bool b) s->aS (aX G.prog G.w) A (f (.str i t) (.ref a)) T E s):B2 k mu f (bZ (.str i)) (md mu (ns.map .str)) (bZ (.bool b)):=⟨λ{A E Z s fr v u T} hA r hp hq q=>by
 refine cK (gV hp) λtk PB=>?_;subst PB;refine cF (md.at hq r) λa vs n SK h1 h2=>?_;subst SK;exact h (vs:=vs.toList) ⟨_,h1,rfl,n,rfl⟩ (tE h2) (q .rfl (.bool _) r)⟩
theorem Rg{i:Int}{ns:List Int}:s7 k mu .In (bZ (.int i)) (md mu (ns.map .int)) (ns.any (· == i)):=Ko λ{z z z z z z z} a b q=>PyProof.Rows.in_list_ints a b q
theorem N4{i:Int}{ns:List Int}:s7 k mu .NotIn (bZ (.int i)) (md mu (ns.map .int)) (!ns.any (· == i)):=Ko λ{z z z z z z z} a b q=>PyProof.Rows.notin_list_ints a b q
theorem FA{i:bc}{ns:List bc}:s7 k mu .In (bZ (.str i)) (md mu (ns.map .str)) (ns.any (· == i)):=Kp λ{z z z z z z z} a b q=>PyProof.Rows.in_list_strs a b q
theorem BK{i:bc}{ns:List bc}:s7 k mu .NotIn (bZ (.str i)) (md mu (ns.map .str)) (!ns.any (· == i)):=Kp λ{z z z z z z z} a b q=>PyProof.Rows.notin_list_strs a b q
theorem zL{x:bc}{l:List (bc×aj)}{r:List (bc×V)}(h:l.map (·.1)=r.map (·.1))(hr:bW G Z (l.map (·.2)) (r.map (·.2))):(vk l x).isSome=(me r x).isSome:=by
 cases hd:me r x with
 |none=>refine ai (ta h hd ..) ?_;rfl
 |some y=>obtain ⟨v,hv,_⟩:=uG h hr hd;refine ai (hv ..) ?_;rfl
theorem Kq{i:bc}{es:List (bc×V)}:s7 k mu .In (bZ (.str i)) (Nm mu es) (me es i).isSome:=⟨λ{A E Z s fr v u T} hA r hp hq q=>by
 refine cK (gV hp) λtk q19z=>?_;subst q19z;refine Am (Nm.at hq r) λa kvs q20z EJ h1 h2 h3=>?_;subst q20z;exact wpAny_in_of (zq G.prog G.w i tk) EJ h1.mapOf (zL h2 h3▸q .rfl (.bool _) r.toks)⟩
theorem N5{l:List (bc×HO)}:bW G Z (strValues l) ((l.map (·.1)).map .str):=by
 induction l with
 |nil=>exact .nil
 |cons a l ih=>exact .cons (aZ.str _ _) ih
theorem H8{vs:List aj}{ts:List bc}(h:StrsAre vs ts):∃l:List (bc×HO),vs=strValues l/\l.map (·.1)=ts:=by
 induction h with
 |nil=>exact ⟨[],rfl,rfl⟩
 |cons y t _ ih=>obtain ⟨l,h3,h4⟩:=ih;exact ⟨(y,t)::l,by refine ai (h3 ..) ?_;rfl,congrArg (List.cons y) h4⟩
theorem G4{sep:bc}{ts:List bc}(hok:M7 sep ts=aJ):Fn k mu (.builtin "str.join") [bZ (.str sep),md mu (ts.map .str)] (bZ (.str (fO sep ts))):=⟨λ{A E Z s fr vs Q} hA r hq q=>by
 refine cD (hq.two) λv u q21z q1 q2=>?_;subst q21z;refine cK (gV q1) λtk q22z=>?_;subst q22z;refine cF (md.at q2 r) λa vs n q23z h1 h2=>?_;subst q23z;exact aK (H8 (tE h2)) λl hl ht=>SC.join (⟨_,h1,rfl,n,by (refine fZ (hl ..) ?_;rfl)⟩:s.heap.IsList a (strValues l).toArray) ht hok λt' k'=>q .rfl (aZ.str _ _) r.toks⟩
theorem rG{l:List (bc×HO)}{ts:List bc}{tk:Nat}{T:Prop}(r:R Z mu s)(e:l.map (·.1)=ts)(q:∀{Z'},Z.le Z'->aZ G Z' (.ref s.heap.objs.size) (.list (ts.map .str))->R Z' mu {s with heap:=s.heap.push {cls:= .type "list",data:= .seq (strValues l).toArray},toks:=tk}->T):T:=
 xS r (e▸N5 (l:=l)) q
theorem H9{x:bc}(h1:x.length<=er)(h2:(Builtin.Str.spaceWords x (x.length+1)).length<=er):Fn k mu (.builtin "str.split") [bZ (.str x)] (bZ (.list ((Txt.words x).map .str))):=⟨λ{A E Z s fr vs Q} hA r hq q=>by
 refine aK (hq.one) λv q24z q1=>?_;subst q24z;refine cK (gV q1) λtk q25z=>?_;subst q25z;refine l5 jW (Ts _ _ _) vn (F.args_str_split_1 _) (meets_str_split_space x tk h1 h2) ?_;unfold Txt.words at q;cases hw:Builtin.Str.spaceWords x (x.length+1) == [(0,x.length)]
 ·simp only [hw,dk,if_false] at q ⊢;exact ai (strsFrom_eq ..) (rG r (numbered_texts ..) q)
 ·simp only [hw,if_true] at q ⊢;exact rG (l:=[(x,tk)]) r rfl q⟩
def ku.S0(x y:bc):Prop:=∀{k:Nat} {mu:Mu} (hy:(y.length == 0)=aH) (hx1:x.length<=er) (PC:(Builtin.Str.partsBetween x (c7 x y 0 x.length (x.length+1)) y.length).length<=er),Fn k mu (.builtin "str.split") [bZ (.str x),bZ (.str y)] (bZ (.list ((M8 x y).map .str)))
namespace ku
@[irreducible] def e0:=P4 inferInstance inferInstance S0
def x_:=e0.1
def y_:=e0.2
theorem T0:S0 x_ y_:=λ{k} {mu} hy hx1 PC=>⟨λ{A E Z s fr vs Q} hA r hq q=>by
 refine cD (hq.two) λv u q26z q1 q2=>?_;subst q26z;refine cK (gV q1) λtk q27z=>?_;subst q27z;refine cK (gV q2) λnx q28z=>?_;subst q28z;unfold M8 at q;cases h1:(decide (x_.length < y_.length) || decide (mQ x_ < mQ y_))
 ·cases hf:(c7 x_ y_ 0 x_.length (x_.length+1)).isEmpty
  ·refine l5 jW (Ts _ _ _) vn (GJ _ _) (meets_str_split_sep x_ y_ tk nx h1 hy hf hx1 PC) ?_;simp only [h1,hf,dk,if_false] at q;exact ai (strsFrom_eq ..) (rG r (numbered_texts ..) q)
  ·refine l5 jW (Ts _ _ _) vn (GJ _ _) (meets_str_split_not_found x_ y_ tk nx h1 hy hf) ?_;simp only [h1,hf,dk,if_false,if_true] at q;exact rG (l:=[(x_,tk)]) r rfl q
 ·refine l5 jW (Ts _ _ _) vn (GJ _ _) (meets_str_split_cannot_occur x_ y_ tk nx h1) ?_;simp only [h1,if_true] at q;exact rG (l:=[(x_,tk)]) r rfl q⟩
end ku
theorem ku{x y:bc}:ku.S0 x y:=by with_unfolding_all exact Fh _ _ ku.S0 @ku.T0 x y
theorem rH{x y:bc}:Fn k mu (.builtin "str.count") [bZ (.str x),bZ (.str y)] (bZ (.int (M9 x y))):=⟨λ{z z z z z z z} hA r hq q=>by
 refine cD (hq.two) λv u q29z q1 q2=>?_;subst q29z;exact aZ.strC q1 λz=>aZ.strC q2 λz=>SC.count (q .rfl (aZ.int _ _) r.toks)⟩
theorem Dj(x:Int){vs:List aj}{ns:List Int}(h:ui vs ns):vs.countP (isInt x)=ns.countP (· == x):=by
 induction h with
 |nil=>rfl
 |cons n t _ ih=>(refine ai (List.countP_cons ..) ?_;refine ai (List.countP_cons ..) ?_;refine ai (ih ..) ?_);rfl
theorem Dk{x:Int}{ns:List Int}:Fn k mu (.builtin "list.count") [md mu (ns.map .int),bZ (.int x)] (bZ (.int (ns.countP (· == x):Nat))):=⟨λ{A E Z s fr vs Q} hA r hq q=>by
 refine cD (hq.two) λv u q30z q1 q2=>?_;subst q30z;refine cF (md.at q1 r) λa ws n q31z h1 h2=>?_;subst q31z;refine cK (gG q2) λnx q32z=>?_;subst q32z;have hi:=tD h2;exact l5 F.slot_list_count (⟨_,h1,rfl⟩:s.TypeIs (.ref a) "list") F.entry_list_count (F.args_list_count_2 _ _) (MeetsSeq.list_count a ws n (.int x nx) (isInt x) (λy hy=>eq_isInt x nx hi y (pE.mpr hy)))
  ⟨h1,by refine ai (Dj x hi ..) ?_;exact q .rfl (aZ.int _ _) r.toks⟩⟩
theorem Dl{x:Int}{ns:List Int}{j:Nat}(hj:ns[j]? =ae x)(Bo:∀m,m < j->ns[m]? ≠ae x)(hl:ns.length<=2 ^ 40):Fn k mu (.builtin "list.index") [md mu (ns.map .int),bZ (.int x)] (bZ (.int j)):=⟨λ{A E Z s fr vs Q} hA r hq q=>by
 refine cD (hq.two) λv u q33z q1 q2=>?_;subst q33z;refine cF (md.at q1 r) λa ws n q34z h1 h2=>?_;subst q34z;refine cK (gG q2) λnx q35z=>?_;subst q35z;have hlen:ws.size=ns.length:=by (refine fZ (cb h2 ..) ?_;refine ai (ak ..) ?_;rfl)
 have hjl:=(aB.mp hj).1;have key:∀(m:Nat) (hm:m < ws.size),isInt x ws[m]=decide (ns[m]? =ae x):=by intro m hm;refine aK (h2.get' (bV.trans (dY hm))) λy h4 h5=>?_;rw [aI] at h4;refine aK (aL.mp h4) λc h6 q36z=>?_;subst q36z;refine cK (gG h5) λtk h7=>?_;refine ai (h7 ..) ?_;refine ai (h6 ..) ?_;show decide (c=x)=_;refine gj (decide_eq_decide ..) ?_;exact ⟨λe=>e▸rfl,aO⟩
 have hi:=tD h2;exact l5 F.slot_list_index (⟨_,h1,rfl⟩:s.TypeIs (.ref a) "list") F.entry_list_index (F.args_list_index_2 _ _) (MeetsSeq.list_index a ws n (.int x nx) (isInt x) (λy hy=>eq_isInt x nx hi y (pE.mpr hy)) j (hlen▸hjl) (by lia) (by (refine ai (key _ (hlen▸hjl) ..) ?_;refine ai (hj ..) ?_);exact decide_eq_true rfl) (λm hm hlt=>by refine ai (key ..) ?_;exact decide_eq_false (Bo m hlt)))
  ⟨h1,q .rfl (aZ.int _ _) r.toks⟩⟩
variable {Φ:V->Mu->Prop}
structure FW(k:Nat)(mu:Mu)(f:aj)(xs:List V)(Φ:V->Mu->Prop):Prop where
 c:∀{A:bo} {E:aj->aq->Prop} {Z:bI} {s:aq} {fr:Mu} {vs:List aj} {Q:aj->aq->Prop},Rm k A->R Z (mu++fr) s->bW G Z vs xs->
  (∀{w s' Z' y nu},Z.le Z'->aZ G Z' w y->R Z' (nu++fr) s'->Φ y nu->Q w s')->aS (aX G.prog G.w) A (ks f vs) Q E s
structure FC(k:Nat)(mu:Mu)(f:aj)(xs:List V)(Φ:V->Mu->Prop):Prop where
 c:∀{A:bo} {E:aj->aq->Prop} {Z:bI} {s:aq} {fr:Mu} {vs:List aj} {Q:aj->aq->Prop},Rm k A->R Z (mu++fr) s->bW G Z vs xs->
  (∀{w s' Z' y nu},Z.le Z'->aZ G Z' w y->R Z' (nu++fr) s'->Φ y nu->Q w s')->iV (aX G.prog G.w) A (.call f ⟨vs,[]⟩) (λr s'=>match r with| .ok (.ret v)=>Q v s'| .ok _=>False| .error e=>E e s') s
theorem FC.fw{k:Nat}{mu:Mu}{f:aj}{xs:List V}{Φ:V->Mu->Prop}(h:FC k mu f xs Φ):FW k mu f xs Φ:=⟨λ{z z z z z z z} hA r hv q=>eF (h.c hA r hv q)⟩
structure jJ(y:V)(nu:Mu)(Φ:V->Mu->Prop):Prop where
 c:∀{Z:bI} {s:aq} {fr:Mu} {v:aj} {T:Prop},R Z (nu++fr) s->aZ G Z v y->(∀{Z' y' nu'},Z.le Z'->aZ G Z' v y'->R Z' (nu'++fr) s->Φ y' nu'->T)->T
noncomputable def lD(Φ:V->Mu->Prop):AF->Mu->Prop
 | .ret y,nu=>jJ y nu Φ
 | .next,nu=>jJ .none nu Φ
 |_,_=>False
def Kn(mu:Mu)(p:dI->Prop):Prop:=∀Z s,R Z mu s->p s.heap
noncomputable def mi(a:ay)(o:oX):cY where
 own:=[a]
 sat:=λZ h=>h.get? a=ae o
 mono:=λz z z z e=>e
 loc:=λZ h h' e hk z z=>hk a aa _ e
 live:=λZ h e b hb=>⟨_,aA.mp hb▸e⟩
noncomputable abbrev dT(fd:cn)(a L:ay):iE:=newEnv fd.scope L fd.globals (xj (L+1) fd.scope.names fd.closure) (fd.qualname++".<locals>.") (ae a) fd.code av fd.builtins
noncomputable abbrev vL(fd:cn)(L:ay)(bF:eL):cY:=bq L (aM (L+1) fd.scope.names) bF
theorem Kn.app{q:dI->Prop}(h:Kn mu q)(r:R Z (mu++nu) s):q s.heap:=h Z s r.left
theorem Kn.z0{a:ay}{o:oX}(h:G.Z0 a=ae o):Kn mu λhp=>hp.get? a=ae o:=λZ s r=>r.z0in _ _ h
theorem Kn.obj{a:ay}{o:oX}(h:mi a o∈mu):Kn mu λhp=>hp.get? a=ae o:=λZ s r=>r.sat _ h
theorem Kn.sub{q:dI->Prop}(h:Kn mu q)(hs:mu.Sublist nu):Kn nu q:=λZ s r=>h Z s (r.sublist hs)
theorem jJ.keep(h:Φ y nu):jJ y nu Φ:=⟨λ{z z z z z} r v q=>q .rfl v r h⟩
theorem jJ.sub{nu':Mu}(hs:nu'.Sublist nu)(h:jJ y nu' Φ):jJ y nu Φ:=⟨λ{Z s fr v T} r w q=>h.c (r.sublist (hs.append (sM fr))) w q⟩
theorem jJ.tail{a:cY}(h:jJ y nu Φ):jJ y (a::nu) Φ:=jJ.sub (gW _ _) h
theorem Qe(B:g7 G){fd:cn}{a:ay}{ob:oX}{body:List ed}{names:List bc}{vals':ay->eL}(Bp:Kn mu λhp=>hp.get? a=ae ob)(hd:ob.data= .func fd)(hcd:Kn mu λhp=>hp.CodeRec fd.code fd.qualname)(sk:fd.body= .stmts body)
 (i0:∀vs,vs.length=xs.length->pF fd ⟨vs,[]⟩=dh (names.zip vs)) (hnd:(aM 0 fd.scope.names).nd) (he:∀L,dz (dT fd a L))
 (hb:∀L,i9 (dT fd a L) L (aM (L+1) fd.scope.names) names xs (nones (aM (L+1) fd.scope.names)) (vals' L))
 (h:∀L,WS k (vL fd L (vals' L)::mu) (dT fd a L) body (lD Φ)) (wj:autoParam (fd.scope.isCoroutine=aH) aR) (mP:autoParam (fd.scope.isGenerator=aH) aR):FC (k+1) mu (.ref a) xs Φ:=⟨λ{A E Z s fr vs Q} hA r hv q=>by
 refine ql hA.depth (Bp.app r) hd wj mP sk (hcd.app r) (ai (i0 vs hv.length ..) ?_);refine ar (pL (vals':=vals' s.heap.objs.size) r hnd (he _) hv (hb _) λs' r'=>⟨B.lim _ r'.z0in,Jw ?_⟩);refine (h s.heap.objs.size).c (hA.deeper _) r' λ{f s2 Z2 af ua} z2 f2 r2 w2=>?_
 revert w2
 exact oZ.by f2 (λw=>jJ.c (show jJ .none ua Φ from w) r2 .none λ{z z z} z3=>q (z2.trans z3)) (λw=>w.elim) (λw=>w.elim) λv x hv w=>jJ.c (show jJ x ua Φ from w) r2 hv λ{z z z} z3=>q (z2.trans z3)⟩
theorem Kr(B:g7 G){fd:cn}{a:ay}{ob:oX}{body:List ed}{names:List bc}{vals':ay->eL}(Bp:Kn mu λhp=>hp.get? a=ae ob)(hd:ob.data= .func fd)(hcd:Kn mu λhp=>hp.CodeRec fd.code fd.qualname)(sk:fd.body= .stmts body)
 (i0:∀vs,vs.length=xs.length->pF fd ⟨vs,[]⟩=dh (names.zip vs)) (hnd:(aM 0 fd.scope.names).nd) (he:∀L,dz (dT fd a L))
 (hb:∀L,i9 (dT fd a L) L (aM (L+1) fd.scope.names) names xs (nones (aM (L+1) fd.scope.names)) (vals' L))
 (h:∀L,WS k (vL fd L (vals' L)::mu) (dT fd a L) body (lD Φ)) (wj:autoParam (fd.scope.isCoroutine=aH) aR) (mP:autoParam (fd.scope.isGenerator=aH) aR):FW (k+1) mu (.ref a) xs Φ:=(Qe B Bp hd hcd sk i0 hnd he hb h wj mP).fw
theorem FB(B:g7 G){fd:cn}{a:ay}{ob:oX}{body:bP}{names:List bc}{vals':ay->eL}(Bp:Kn mu λhp=>hp.get? a=ae ob)(hd:ob.data= .func fd)(hcd:Kn mu λhp=>hp.CodeRec fd.code fd.qualname)(sk:fd.body= .expr body)
 (i0:∀vs,vs.length=xs.length->pF fd ⟨vs,[]⟩=dh (names.zip vs)) (hnd:(aM 0 fd.scope.names).nd) (he:∀L,dz (dT fd a L))
 (hb:∀L,i9 (dT fd a L) L (aM (L+1) fd.scope.names) names xs (nones (aM (L+1) fd.scope.names)) (vals' L))
 (h:∀L,WE k (vL fd L (vals' L)::mu) (dT fd a L) body λy nu=>jJ y nu Φ) (wj:autoParam (fd.scope.isCoroutine=aH) aR) (mP:autoParam (fd.scope.isGenerator=aH) aR):FW (k+1) mu (.ref a) xs Φ:=⟨λ{A E Z s fr vs Q} hA r hv q=>by
 refine eF (kla_callFunE hA.depth (Bp.app r) hd wj mP sk (hcd.app r) ?_);refine ai (i0 vs hv.length ..) (ar (pL (vals':=vals' s.heap.objs.size) r hnd (he _) hv (hb _) λs' r'=>⟨B.lim _ r'.z0in,kla_codeExpr ?_⟩));exact (h s.heap.objs.size).c (hA.deeper _) r' λ{z z z z z} z2 f2 r2 w2=>w2.c r2 f2 λ{z z z} z3=>q (z2.trans z3)⟩
structure Dm(k:Nat)(mu:Mu)(env:iE)(es:List bP)(Ψ:List V->Mu->Prop):Prop where
 c:∀{A:bo} {E:aj->aq->Prop} {Z:bI} {s:aq} {fr:Mu} {pos:lF} {Q:List aj->aq->Prop},Rm k A->R Z (mu++fr) s->
  (∀{vs s' Z' ys nu},Z.le Z'->bW G Z' vs ys->R Z' (nu++fr) s'->Ψ ys nu->Q vs s')->aS (aX G.prog G.w) A (spliced (lb pos (fl es env))) Q E s
noncomputable def kg:List bP->Bool
 |[]=>aJ
 | .Starred _ _::_=>aH
 |_::r=>kg r
theorem jt(h:kg (e::es)=aJ):(∀a p,e≠ .Starred a p)/\kg es=aJ:=by cases e <;> first|(refine ⟨λz z h=>(nomatch h),?_⟩;exact h)|exact (vy h)
theorem kX(h:kg es=aJ)(pos:lF):(lb pos (fl es env)).any (·.1)=aH:=by
 induction es with
 |nil=>rfl
 |cons e es ih=>exact dU (jt h) λh1 h2=>ai (et h1 ..) (ih h2)
theorem e8{Ψ:List V->Mu->Prop}(h:Ψ [] mu):Dm k mu env [] Ψ:=⟨λ{z z z z z z z} hA r q=>ar (q .rfl .nil r h)⟩
theorem cB{Ψ:List V->Mu->Prop}(h:WE k mu env e λy nu=>Dm k nu env es λys nu'=>Ψ (y::ys) nu')(hs:∀a p,e≠ .Starred a p:=by intro z z h;cases h):Dm k mu env (e::es) Ψ:=⟨λ{A E Z s fr pos Q} hA r q=>by
 refine ai (et hs ..) ?_;show aS _ A (dW e env >>=λv=>eV [v] (spliced (lb pos (fl es env))) >>=λr=>dh ([v]++r)) Q E s;exact ag (h.c hA r λ{z z z z z} z1 q1 r1 w1=>ag (bC (w1.c hA r1 λ{z z z z z} z2 q2 r2 w2=>ar (q (z1.trans z2) (.cons (q1.mono z2) q2) r2 w2))))⟩
theorem tx.war{Ψ:List V->Mu->Prop}(h:tx k mu env es (ys.map bZ))(hΨ:Ψ ys mu):Dm k mu env es Ψ:=⟨λ{z z z z z z z} hA r q=>h.c hA r λ{z z z} z1 q1 r1=>q z1 q1.vrels r1 hΨ⟩
theorem G5{A:bo}{E:aj->aq->Prop}{fr:Mu}{Q:aj->aq->Prop}{Ψ:List V->Mu->Prop}{a:ay}{ob:oX}{fd:cn}{first:List aj}(ha:Dm k mu env (e::es) Ψ)(wk:kg (e::es)=aJ)(hA:Rm k A)(r:R Z (mu++fr) s)
 (h:∀{vs s' Z' ys nu},Z.le Z'->bW G Z' vs ys->R Z' (nu++fr) s'->Ψ ys nu->(s'.heap.get? a=ae ob/\ob.data= .func fd)/\aS (aX G.prog G.w) A (ks (.ref a) (first++vs) []) Q E s'):aS (aX G.prog G.w) A (pB pos (.ref a) first (lb pos (fl (e::es) env)) []) Q E s:=by
 refine callWith_function (o:=ob) (fd:=fd) ?_;have hr:=ha.c (E:=E) (pos:=pos) hA r h;rw [et (jt wk).1] at hr ⊢;exact Jr hr
theorem G6{A:bo}{E:aj->aq->Prop}{fr:Mu}{Q:aj->aq->Prop}{id:String}{Ps:List (Vw)}{first:List aj}(ha:tx k mu env (e::es) Ps)(hA:Rm k A)(r:R Z (mu++fr) s)
 (h:∀{vs s' Z'},Z.le Z'->j0 Z' vs Ps->R Z' (mu++fr) s'->aS (aX G.prog G.w) A (ks (.builtin id) (first++vs) []) Q E s'):aS (aX G.prog G.w) A (pB pos (.builtin id) first (lb pos (fl (e::es) env)) []) Q E s:=by
 refine callWith_builtin (ha.plain pos) ?_;have hr:=ha.c (E:=E) (pos:=pos) hA r h;rw [et ha.unstar] at hr ⊢;exact Jr hr
theorem G7{A:bo}{E:aj->aq->Prop}{fr:Mu}{Q:aj->aq->Prop}{Ψ:List V->Mu->Prop}{id:String}{first:List aj}(ha:Dm k mu env (e::es) Ψ)(wk:kg (e::es)=aJ)(hA:Rm k A)(r:R Z (mu++fr) s)
 (h:∀{vs s' Z' ys nu},Z.le Z'->bW G Z' vs ys->R Z' (nu++fr) s'->Ψ ys nu->aS (aX G.prog G.w) A (ks (.builtin id) (first++vs) []) Q E s'):aS (aX G.prog G.w) A (pB pos (.builtin id) first (lb pos (fl (e::es) env)) []) Q E s:=by
 refine callWith_builtin (kX wk pos) ?_;have hr:=ha.c (E:=E) (pos:=pos) hA r h;rw [et (jt wk).1] at hr ⊢;exact Jr hr
theorem mj{f:bc}{a:ay}{ob:oX}{fd:cn}(hf:PE k mu env (.Name f p) (.ref a))(h0:G.Z0 a=ae ob)(hd:ob.data= .func fd)(ha:Dm k mu env (e::es) λys nu=>FW k nu (.ref a) ys Φ)(hs:∀a p,e≠ .Starred a p:=by intro z z h;cases h):
 WE k mu env (.Call (.Name f p) (e::es) [] pos) Φ:=⟨λ{A E Z s fr Q} hA r q=>by
 with_reducible refine gC ?_
 refine hf.c hA r λ{f s1 Z1} z1 q1 r1=>ai (aZ.refE q1 ..) ?_;exact iK hd (ha.c hA r1 λ{z z z z z} z2 q2 r2 w2=>⟨r2.z0in _ _ h0,w2.c hA r2 q2 λ{z z z z z} z3=>q (z1.trans (z2.trans z3))⟩) (et hs)⟩
structure rI(G:Gd)(a:ay)(st:ed):Prop where
 go:∃ob pm cd doc,G.Z0 a=ae ob/\ob.data= .func (mw (ma st) (wB st) (fR st) (bj st) pm cd doc)/\∀h:dI,(∀a o,G.Z0 a=ae o->h.get? a=ae o)->h.CodeRec cd (ma st)
noncomputable def qv:List (Int×aj):=oz.mapIdx λi n=>((2:Int) ^ i,.str n (254+2*i))
def Hy(G:Gd):Prop:=
 (g7 G)/\
 (G.mg "pretty_flags"=ae (.ref 72))/\
 (G.mg "COMPILER_FLAG_NAMES"=ae (.ref 65))/\
 (G.mg "_ExceptionTableEntry"=ae (.ref 162))/\
 (G.mg "_parse_varint"=ae (.ref 172))/\
 (G.mg "_parse_exception_table"=ae (.ref 179))/\
 (G.mg "_netrclex"=ae (.ref 217))/\
 (G.mg "TupleComp"=ae (.ref 245))/\
 (G.mg "add_func_stats"=ae (.ref 256))/\
 (G.mg "add_callers"=ae (.ref 263))/\
 (G.mg "count_calls"=ae (.ref 270))/\
 (G.mg "_law_given"=ae (.ref 275))/\
 (G.mg "_law_spelled"=ae (.ref 280))/\
 (G.mg "_law_octets"=ae (.ref 285))/\
 (G.mg "_law_back"=ae (.ref 290))/\
 (G.mg "_law_run"=ae (.ref 297))/\
 (G.mg "_law_hear"=ae (.ref 302))/\
 (G.mg "range"=av)/\
 (G.mg "len"=av)/\
 (G.mg "sum"=av)/\
 (G.mg "enumerate"=av)/\
 (G.mg "int"=av)/\
 (G.mg "bool"=av)/\
 (G.mg "list"=av)/\
 (G.mg "set"=av)/\
 (G.mg "sorted"=av)/\
 (G.mg "hex"=av)/\
 (G.mg "next"=av)/\
 (G.mg "iter"=av)/\
 (G.mg "ord"=av)/\
 (G.mg "chr"=av)/\
 (G.mg "bytes"=av)/\
 (G.mg "isinstance"=av)/\
 (G.mg "tuple"=av)/\
 (G.mg "StopIteration"=av)/\
 ((65 == lX)=aH/\∀h:dI,(∀a o,G.Z0 a=ae o->h.get? a=ae o)->h.DictOf (lr G.prog G.w) 65 qv)/\
 (rI G 72 (cO 4))/\
 (rI G 172 (cO 7))/\
 (rI G 179 (cO 8))/\
 (rI G 256 (cO 13))/\
 (rI G 263 (cO 14))/\
 (rI G 270 (cO 15))/\
 (rI G 275 (cO 17))/\
 (rI G 280 (cO 18))/\
 (rI G 285 (cO 19))/\
 (rI G 290 (cO 20))/\
 (rI G 297 (cO 21))/\
 rI G 302 (cO 22)
section
variable {G:Gd}(h:Hy G)
def Hy.B:=@h.1
def Hy.m_flags:=@h.2.1
def Hy.m_names:=@h.2.2.1
def Hy.m_entry:=@h.2.2.2.1
def Hy.m_varint:=@h.2.2.2.2.1
def Hy.m_table:=@h.2.2.2.2.2.1
def Hy.m_lex:=@h.2.2.2.2.2.2.1
def Hy.m_comp:=@h.2.2.2.2.2.2.2.1
def Hy.m_stats:=@h.2.2.2.2.2.2.2.2.1
def Hy.m_callers:=@h.2.2.2.2.2.2.2.2.2.1
def Hy.m_count:=@h.2.2.2.2.2.2.2.2.2.2.1
def Hy.m_given:=@h.2.2.2.2.2.2.2.2.2.2.2.1
def Hy.m_spelled:=@h.2.2.2.2.2.2.2.2.2.2.2.2.1
def Hy.m_octets:=@h.2.2.2.2.2.2.2.2.2.2.2.2.2.1
def Hy.m_back:=@h.2.2.2.2.2.2.2.2.2.2.2.2.2.2.1
def Hy.m_run:=@h.2.2.2.2.2.2.2.2.2.2.2.2.2.2.2.1
def Hy.m_hear:=@h.2.2.2.2.2.2.2.2.2.2.2.2.2.2.2.2.1
def Hy.b_range:=@h.2.2.2.2.2.2.2.2.2.2.2.2.2.2.2.2.2.1
def Hy.b_len:=@h.2.2.2.2.2.2.2.2.2.2.2.2.2.2.2.2.2.2.1
def Hy.b_sum:=@h.2.2.2.2.2.2.2.2.2.2.2.2.2.2.2.2.2.2.2.1
def Hy.b_enumerate:=@h.2.2.2.2.2.2.2.2.2.2.2.2.2.2.2.2.2.2.2.2.1
def Hy.b_int:=@h.2.2.2.2.2.2.2.2.2.2.2.2.2.2.2.2.2.2.2.2.2.1
def Hy.b_bool:=@h.2.2.2.2.2.2.2.2.2.2.2.2.2.2.2.2.2.2.2.2.2.2.1
def Hy.b_list:=@h.2.2.2.2.2.2.2.2.2.2.2.2.2.2.2.2.2.2.2.2.2.2.2.1
def Hy.b_set:=@h.2.2.2.2.2.2.2.2.2.2.2.2.2.2.2.2.2.2.2.2.2.2.2.2.1
def Hy.b_sorted:=@h.2.2.2.2.2.2.2.2.2.2.2.2.2.2.2.2.2.2.2.2.2.2.2.2.2.1
def Hy.b_hex:=@h.2.2.2.2.2.2.2.2.2.2.2.2.2.2.2.2.2.2.2.2.2.2.2.2.2.2.1
def Hy.b_next:=@h.2.2.2.2.2.2.2.2.2.2.2.2.2.2.2.2.2.2.2.2.2.2.2.2.2.2.2.1
def Hy.b_iter:=@h.2.2.2.2.2.2.2.2.2.2.2.2.2.2.2.2.2.2.2.2.2.2.2.2.2.2.2.2.1
def Hy.b_ord:=@h.2.2.2.2.2.2.2.2.2.2.2.2.2.2.2.2.2.2.2.2.2.2.2.2.2.2.2.2.2.1
def Hy.b_chr:=@h.2.2.2.2.2.2.2.2.2.2.2.2.2.2.2.2.2.2.2.2.2.2.2.2.2.2.2.2.2.2.1
def Hy.b_bytes:=@h.2.2.2.2.2.2.2.2.2.2.2.2.2.2.2.2.2.2.2.2.2.2.2.2.2.2.2.2.2.2.2.1
def Hy.b_isinstance:=@h.2.2.2.2.2.2.2.2.2.2.2.2.2.2.2.2.2.2.2.2.2.2.2.2.2.2.2.2.2.2.2.2.1
def Hy.b_tuple:=@h.2.2.2.2.2.2.2.2.2.2.2.2.2.2.2.2.2.2.2.2.2.2.2.2.2.2.2.2.2.2.2.2.2.1
def Hy.b_stop:=@h.2.2.2.2.2.2.2.2.2.2.2.2.2.2.2.2.2.2.2.2.2.2.2.2.2.2.2.2.2.2.2.2.2.2.1
def Hy.flagD:=@h.2.2.2.2.2.2.2.2.2.2.2.2.2.2.2.2.2.2.2.2.2.2.2.2.2.2.2.2.2.2.2.2.2.2.2.1
def Hy.f72:=@h.2.2.2.2.2.2.2.2.2.2.2.2.2.2.2.2.2.2.2.2.2.2.2.2.2.2.2.2.2.2.2.2.2.2.2.2.1
def Hy.f172:=@h.2.2.2.2.2.2.2.2.2.2.2.2.2.2.2.2.2.2.2.2.2.2.2.2.2.2.2.2.2.2.2.2.2.2.2.2.2.1
def Hy.f179:=@h.2.2.2.2.2.2.2.2.2.2.2.2.2.2.2.2.2.2.2.2.2.2.2.2.2.2.2.2.2.2.2.2.2.2.2.2.2.2.1
def Hy.f256:=@h.2.2.2.2.2.2.2.2.2.2.2.2.2.2.2.2.2.2.2.2.2.2.2.2.2.2.2.2.2.2.2.2.2.2.2.2.2.2.2.1
def Hy.f263:=@h.2.2.2.2.2.2.2.2.2.2.2.2.2.2.2.2.2.2.2.2.2.2.2.2.2.2.2.2.2.2.2.2.2.2.2.2.2.2.2.2.1
def Hy.f270:=@h.2.2.2.2.2.2.2.2.2.2.2.2.2.2.2.2.2.2.2.2.2.2.2.2.2.2.2.2.2.2.2.2.2.2.2.2.2.2.2.2.2.1
def Hy.f275:=@h.2.2.2.2.2.2.2.2.2.2.2.2.2.2.2.2.2.2.2.2.2.2.2.2.2.2.2.2.2.2.2.2.2.2.2.2.2.2.2.2.2.2.1
def Hy.f280:=@h.2.2.2.2.2.2.2.2.2.2.2.2.2.2.2.2.2.2.2.2.2.2.2.2.2.2.2.2.2.2.2.2.2.2.2.2.2.2.2.2.2.2.2.1
def Hy.f285:=@h.2.2.2.2.2.2.2.2.2.2.2.2.2.2.2.2.2.2.2.2.2.2.2.2.2.2.2.2.2.2.2.2.2.2.2.2.2.2.2.2.2.2.2.2.1
def Hy.f290:=@h.2.2.2.2.2.2.2.2.2.2.2.2.2.2.2.2.2.2.2.2.2.2.2.2.2.2.2.2.2.2.2.2.2.2.2.2.2.2.2.2.2.2.2.2.2.1
def Hy.f297:=@h.2.2.2.2.2.2.2.2.2.2.2.2.2.2.2.2.2.2.2.2.2.2.2.2.2.2.2.2.2.2.2.2.2.2.2.2.2.2.2.2.2.2.2.2.2.2.1
def Hy.f302:=@h.2.2.2.2.2.2.2.2.2.2.2.2.2.2.2.2.2.2.2.2.2.2.2.2.2.2.2.2.2.2.2.2.2.2.2.2.2.2.2.2.2.2.2.2.2.2.2
end
theorem te(H:Hy G){a:ay}{st:ed}(F:rI G a st){names:List bc}{vals':ay->eL}
 (i0:∀pm cd doc vs,vs.length=xs.length->pF (xu st pm cd doc) ⟨vs,[]⟩=dh (names.zip vs)) (hnd:(aM 0 (bj st).names).nd) (hk:(bj st).kind= .function)
 (hb:∀pm cd doc L,i9 (dT (xu st pm cd doc) a L) L (aM (L+1) (bj st).names) names xs (nones (aM (L+1) (bj st).names)) (vals' L))
 (h:∀pm cd doc L,dz (dT (xu st pm cd doc) a L)->WS k (bq L (aM (L+1) (bj st).names) (vals' L)::mu) (dT (xu st pm cd doc) a L) (fR st) (lD Φ)) (wj:autoParam ((bj st).isCoroutine=aH) aR) (mP:autoParam ((bj st).isGenerator=aH) aR):
 FW (k+1) mu (.ref a) xs Φ:=by
 exact cu (F.go) λob pm cd doc h0 hd hcd=>Kr H.B (names:=names) (vals':=vals') (Kn.z0 h0) hd (λZ s r=>hcd _ r.z0in) rfl (i0 pm cd doc) hnd (λL=>⟨hk,rfl,rfl⟩) (hb pm cd doc) (λL=>h pm cd doc L ⟨hk,rfl,rfl⟩) wj mP
theorem iO(H:Hy G)(he:dz env){x:bc}{n:String}(hm:G.mg x=av)(hk:env.kindOf x=ae .globalImplicit)(hb:autoParam (Jp x=ae (.type n)) aR)(hn:autoParam (x≠"__name__") aD)(hd:autoParam ((x == ("__debug__":bc))=aH) aD):PE k mu env (.Name x p) (.type n):=
 P6 H.B he hk hm hb (aZ.type n) hn hd
theorem j3(H:Hy G)(he:dz env){x:bc}{n:String}(hm:G.mg x=av)(hk:env.kindOf x=ae .globalImplicit)(hb:autoParam (Jp x=ae (.builtin n)) aR)(hn:autoParam (x≠"__name__") aD)(hd:autoParam ((x == ("__debug__":bc))=aH) aD):PE k mu env (.Name x p) (.bi n):=
 P6 H.B he hk hm hb (aZ.bi n) hn hd
theorem ml(H:Hy G)(he:dz env){x:bc}{a:ay}(hm:G.mg x=ae (.ref a))(hk:env.kindOf x=ae .globalImplicit)(hd:autoParam ((x == ("__debug__":bc))=aH) aD):PE k mu env (.Name x p) (.ref a):=
 NT H.B he hk hm (aZ.ref a) hd
variable {v:V}{scope:fM}{C:ay}{cl:List (bc×ay)}
theorem dz.comp(h:dz env)(hk:autoParam (scope.kind= .function) aR):dz (o8 scope cl C env):=⟨hk,h.globals,h.builtins⟩
theorem bL(h:PE k mu env e x)(e1:x=y):PE k mu env e y:=e1▸h
noncomputable abbrev TK(scope:fM)(C:ay)(j:Nat)(v:V):cY:=nC scope C ((nones (aM (C+1) scope.names)).set j (ae v))
noncomputable abbrev Rh(scope:fM)(C:ay)(i j:Nat)(v u:V):cY:=nC scope C (((nones (aM (C+1) scope.names)).set i (ae v)).set j (ae u))
theorem qw{dj:iE}{t:bc}{j:Nat}{bF:eL}(he:dz dj)(sl:Sl dj C (aM (C+1) scope.names) t j)(hf:autoParam ((dj.kindOf t == ae .free)=aH) aR):
 mI k (nC scope C bF::mu) dj (.Name t p) v λnu=>nu=nC scope C (bF.set j (ae v))::mu:=aQ (i:=0) he sl rfl rfl hf
theorem xx{dj:iE}{t u:bc}{i j kk:Nat}{p1 p2:lF}{bF:eL}(he:dz dj)(s1:Sl dj C (aM (C+1) scope.names) t i)(s2:Sl dj C (aM (C+1) scope.names) u j)
 (hf:autoParam ((dj.kindOf t == ae .free)=aH) aR) (hf':autoParam ((dj.kindOf u == ae .free)=aH) aR):
 mI k (nC scope C bF::mu) dj (.Tuple [.Name t p1,.Name u p2] kk p) (.tup [v,x]) λnu=>nu=nC scope C ((bF.set i (ae v)).set j (ae x))::mu:=
 i7 (cw rfl rfl (aQ (i:=0) he s1 rfl (cw rfl rfl (aQ (i:=0) he s2 rfl (iX rfl) hf')) hf))
theorem iu{dj:iE}{t:bc}{ifs:List bP}{elt:bP}(j:Nat)(he:dz dj)(sl:Sl dj C (aM (C+1) scope.names) t j)(hi:wY k (TK scope C j v::mu) dj ifs b)(h:b=aJ->PE k (TK scope C j v::mu) dj elt y)
 (hf:autoParam ((dj.kindOf t == ae .free)=aH) aR):zK k mu scope C dj (.Name t p) ifs elt v b y:=⟨_,qw he sl hf,hi,h⟩
theorem tF{dj:iE}{t u:bc}{ifs:List bP}{elt:bP}{kk:Nat}{p1 p2:lF}(i j:Nat)(he:dz dj)(s1:Sl dj C (aM (C+1) scope.names) t i)(s2:Sl dj C (aM (C+1) scope.names) u j)
 (hi:wY k (Rh scope C i j v x::mu) dj ifs b) (h:b=aJ->PE k (Rh scope C i j v x::mu) dj elt y)
 (hf:autoParam ((dj.kindOf t == ae .free)=aH) aR) (hf':autoParam ((dj.kindOf u == ae .free)=aH) aR):zK k mu scope C dj (.Tuple [.Name t p1,.Name u p2] kk p) ifs elt (.tup [v,x]) b y:=⟨_,xx he s1 s2 hf hf',hi,h⟩
theorem BL{dj:iE}{t:bc}{ifs:List bP}{ke ve:bP}{kx:bc}(j:Nat)(he:dz dj)(sl:Sl dj C (aM (C+1) scope.names) t j)(hi:wY k (TK scope C j v::mu) dj ifs b)(h1:b=aJ->PE k (TK scope C j v::mu) dj ke (.str kx))(h2:b=aJ->PE k (TK scope C j v::mu) dj ve y)
 (hf:autoParam ((dj.kindOf t == ae .free)=aH) aR):Aw k mu scope C dj (.Name t p) ifs ke ve v b kx y:=⟨_,qw he sl hf,hi,λh=>⟨h1 h,h2 h⟩⟩
theorem Ks{dj:iE}{t u:bc}{ifs:List bP}{ke ve:bP}{kx:bc}{kk:Nat}{p1 p2:lF}(i j:Nat)(he:dz dj)(s1:Sl dj C (aM (C+1) scope.names) t i)(s2:Sl dj C (aM (C+1) scope.names) u j)
 (hi:wY k (Rh scope C i j v x::mu) dj ifs b) (h1:b=aJ->PE k (Rh scope C i j v x::mu) dj ke (.str kx)) (h2:b=aJ->PE k (Rh scope C i j v x::mu) dj ve y)
 (hf:autoParam ((dj.kindOf t == ae .free)=aH) aR) (hf':autoParam ((dj.kindOf u == ae .free)=aH) aR):Aw k mu scope C dj (.Tuple [.Name t p1,.Name u p2] kk p) ifs ke ve (.tup [v,x]) b kx y:=⟨_,xx he s1 s2 hf hf',hi,λh=>⟨h1 h,h2 h⟩⟩
theorem ky{α:Type}(as:List α):as.filter (λz=>aJ)=as:=by
 induction as with
 |nil=>rfl
 |cons a l ih=>(refine ai (hZ ..) ?_;refine ai (if_pos rfl ..) ?_;refine ai (ih ..) ?_;rfl)
theorem jO{α:Type}{elt iter t:bP}{spos:lF}(as:List α)(inj g:α->V)(sc:E4 scope env cl)(src:o7 k mu env iter t ctx (as.map inj))(hk:1<=k)(hsz:as.length<=2 ^ 21)
 (turn:∀C a,a∈as->zK k mu scope C (o8 scope cl C env) t [] elt (inj a) aJ (g a)) (hs:autoParam (∀x,bw iter env x=dh x) aR):
 PE k mu env (.ListComp elt [⟨t,iter,[],0⟩] scope spos) (.list (as.map g)):=by
 have:=nD (spos:=spos) as inj (λz=>aJ) g sc src hk hsz turn hs
 rwa [ky] at this
theorem Ri{α:Type}{elt iter t:bP}{spos:lF}(as:List α)(inj g:α->V)(sc:E4 scope env cl)(src:o7 k mu env iter t ctx (as.map inj))(hk:1<=k)(hsz:as.length<=2 ^ 21)
 (turn:∀C a,a∈as->zK k mu scope C (o8 scope cl C env) t [] elt (inj a) aJ (g a)) (hΘ:∀D,fK D (bk D (as.map g)::mu) Φ) (hs:autoParam (∀x,bw iter env x=dh x) aR):
 WE k mu env (.ListComp elt [⟨t,iter,[],0⟩] scope spos) Φ:=
 Qa (spos:=spos) as inj (λz=>aJ) g sc src hk hsz turn (λD=>by refine ai (ky ..) ?_;exact hΘ D) hs
theorem FD{α:Type}{elt iter t:bP}{spos apos py:lF}{z:bc}{Ψ:AF->Mu->Prop}(as:List α)(inj g:α->V)(sc:E4 scope env cl)(src:o7 k mu env iter t ctx (as.map inj))(hk:1<=k)(hsz:as.length<=2 ^ 21)
 (turn:∀C a,a∈as->zK k mu scope C (o8 scope cl C env) t [] elt (inj a) aJ (g a))
 (SE:xi (.ListComp elt [⟨t,iter,[],0⟩] scope spos) (ae (.Name z py)) apos.line env=dh aJ)
 (hΘ:∀D,fK D (bk D (as.map g)::mu) λv nu=>mI k nu env (.Name z py) v (Ψ .next)) (hs:autoParam (∀x,bw iter env x=dh x) aR):
 WX k mu env (.Assign [.Name z py] (.ListComp elt [⟨t,iter,[],0⟩] scope spos) apos) Ψ:=
 Qb (spos:=spos) as inj (λy=>aJ) g sc src hk hsz turn SE (λD=>by refine ai (ky ..) ?_;exact hΘ D) hs
noncomputable def vw(mu:Mu):V->Vw
 | .list xs=>md mu xs
 | .dict es=>Nm mu es
 |y=>bZ y
theorem cQ(h:PE k mu env e y):EV k mu env e (vw mu y):=by cases y <;> first|exact h|exact dF h|exact pJ h
theorem tG{a:Int}(h:a.natAbs < 2 ^ 64):sL a<=64:=by
 unfold sL
 split
 ·with_reducible exact gq _
 ·rename_i h0;have h0':a≠0:=by simpa using h0
  have:a.natAbs.log2 < 64:=(Nat.log2_lt (by lia)).mpr h;lia
theorem mX{a c:Int}(h: -(2 ^ 63) < a/\a < 2 ^ 63):xJ k mu .Mult (bZ (.int a)) (bZ (.int c)) (bZ (.int (a*c))):=J2 (IntMulOk.of_left (tG (by lia)))
theorem sA{a c:Int}(h: -(2 ^ 63) < c/\c < 2 ^ 63):xJ k mu .Mult (bZ (.int a)) (bZ (.int c)) (bZ (.int (a*c))):=J2 (IntMulOk.of_right (tG (by lia)))
theorem l8{a c:Int}(h:0 < c/\c < 2 ^ 30):xJ k mu .FloorDiv (bZ (.int a)) (bZ (.int c)) (bZ (.int (a / c))):=by
 have:=Q5 (k:=k) (mu:=mu) (a:=a) (b:=c) (by lia) (PyProof.noPylong_small (by lia))
 rwa [Jx _ (by lia)] at this
theorem fk{a c:Int}(h:0 < c):xJ k mu .Mod (bZ (.int a)) (bZ (.int c)) (bZ (.int (a % c))):=by
 have:=Q4 (k:=k) (mu:=mu) (a:=a) (b:=c) (by lia)
 rwa [Int.fmod_eq_emod_of_nonneg _ (by exact Int.le_of_lt (by assumption))] at this
theorem G8{a c:Int}(h:0<=c):xJ k mu .RShift (bZ (.int a)) (bZ (.int c)) (bZ (.int (a / 2 ^ c.toNat))):=by
 have:=Q7 (k:=k) (mu:=mu) (a:=a) (b:=c) h
 rwa [Jx _ (Int.pow_nonneg (by decide))] at this
theorem BM{a c:Int}(ha:0<=a/\a < 2 ^ 63)(h:0<=c/\c<=1000):xJ k mu .Pow (bZ (.int a)) (bZ (.int c)) (bZ (.int (a ^ c.toNat))):=Q6 h.1 (by
 have:=tG (a:=a) (by lia);have h2:(sL a:Int)*c<=64*1000:=Int.mul_le_mul (by lia) h.2 h.1 (by lia);have:(64*1000:Int)<=2 ^ 27:=by decide
 with_reducible exact Int.le_trans (by assumption) (by decide))
theorem Rj{t a f:bP}{i j:Int}(ht:PT k mu env t b)(ha:b=aJ->PE k mu env a (.int i))(hf:b=aH->PE k mu env f (.int j)):PE k mu env (.IfExp t a f p) (.int (if b then i else j)):=
 uC ht (λh=>by refine ai (if_pos h ..) ?_;exact ha h) (λh=>by refine ai (if_neg (by rw [h];decide) ..) ?_;exact hf h)
theorem BN{t a f:bP}{i j:bc}(ht:PT k mu env t b)(ha:b=aJ->PE k mu env a (.str i))(hf:b=aH->PE k mu env f (.str j)):PE k mu env (.IfExp t a f p) (.str (if b then i else j)):=
 uC ht (λh=>by refine ai (if_pos h ..) ?_;exact ha h) (λh=>by refine ai (if_neg (by rw [h];decide) ..) ?_;exact hf h)
theorem rJ{α:Type}{l:List α}{f:α->bc}{sep:bc}(hok:M7 sep (l.map f)=aJ):Fn k mu (.builtin "str.join") [bZ (.str sep),md mu (l.map λa=>V.str (f a))] (bZ (.str (fO sep (l.map f)))):=by
 have:=G4 (k:=k) (mu:=mu) (sep:=sep) (ts:=l.map f) hok
 rwa [a0] at this
theorem uI{α:Type}{l:List α}{f:α->Int}:Fn k mu (.builtin "sum") [md mu (l.map λa=>V.int (f a))] (bZ (.int (l.map f).sum)):=by
 have:=Kj (k:=k) (mu:=mu) (ns:=l.map f)
 rwa [a0] at this
theorem Kt(c:Nat):(⟨#[c]⟩:bc).length<=2 ^ 22:=by show 1<=2 ^ 22;decide
theorem uJ{a c:bc}(h1:a.length<=2 ^ 22)(h2:c.length<=2 ^ 22):xJ k mu .Add (bZ (.str a)) (bZ (.str c)) (bZ (.str (a++c))):=Fs (by show _<=2 ^ 24;lia)
theorem Qf{i:Int}(h0:0<=i)(h1:i < (xs.length:Int))(hn:xs.length < 2 ^ 60):Gi k mu (bZ (.tup xs)) (bZ (.int i)) (bZ (xs.getD i.toNat .none)):=
 Ki (by unfold j8;refine ai (if_neg (by exact Int.not_lt.mpr (by assumption)) ..) ?_;refine ai (bR ..) ?_;refine ai (bH (by lia) ..) ?_;rfl) (by lia) (by lia) (by exact cc (by assumption) (by decide))
theorem kh{y:V}{a:cY}(h:Φ y mu):lD Φ (.ret y) (a::mu):=jJ.tail (jJ.keep h)
section
variable {α:Type}{M:List α->Prop}{vs:List α}
@[elab_as_elim] theorem uK(h:vs.length=1)(f:∀a,M [a]):M vs:=by obtain ⟨a,rfl⟩:=List.length_eq_one_iff.mp h;exact f a
theorem rK{n:Nat}(h:vs.length=n+1)(f:∀a t,t.length=n->M (a::t)):M vs:=by
 cases vs with
 |nil=>cases h
 |cons a t=>exact f a t (Nat.succ.inj h)
@[elab_as_elim] theorem zM(h:vs.length=2)(f:∀a b,M [a,b]):M vs:=rK h λa t h=>uK (M:=λt=>M (a::t)) h (f a)
@[elab_as_elim] theorem N6(h:vs.length=3)(f:∀a b c,M [a,b,c]):M vs:=rK h λa t h=>zM (M:=λt=>M (a::t)) h (f a)
@[elab_as_elim] theorem Rk(h:vs.length=4)(f:∀a b c d,M [a,b,c,d]):M vs:=rK h λa t h=>N6 (M:=λt=>M (a::t)) h (f a)
@[elab_as_elim] theorem len5(h:vs.length=5)(f:∀a b c d e,M [a,b,c,d,e]):M vs:=rK h λa t h=>Rk (M:=λt=>M (a::t)) h (f a)
@[elab_as_elim] theorem len6(h:vs.length=6)(f:∀a b c d e g,M [a,b,c,d,e,g]):M vs:=rK h λa t h=>len5 (M:=λt=>M (a::t)) h (f a)
end
structure BO(k:Nat)(mu:Mu)(f:aj)(Ps:List (Vw))(Φ:V->Mu->Prop):Prop where
 c:∀{A:bo} {E:aj->aq->Prop} {Z:bI} {s:aq} {fr:Mu} {vs:List aj} {Q:aj->aq->Prop},Rm k A->R Z (mu++fr) s->j0 Z vs Ps->
  (∀{w s' Z' y nu},Z.le Z'->aZ G Z' w y->R Z' (nu++fr) s'->Φ y nu->Q w s')->aS (aX G.prog G.w) A (ks f vs) Q E s
theorem j4(hm:bk D xs∈mu):Ty mu (bZ (.ref D)) "list":=⟨λZ s fr v r h=>by
 refine eD (r.sat _ (aE fr hm)) λvs n h1 h2=>ai (aZ.refE h ..) ?_;exact Ty.at h1 rfl rfl⟩
theorem mY{id T:String}{name:bc}{apos:lF}(ho:EV k mu env o P)(ht:Ty mu P T)(ha:tx k mu env (e::es) Ps)(hF:BO k mu (.builtin id) (P::Ps) Φ)(pa:zo T)(slot:Slot T name id)
 (MN:jT (.builtin id)=dh (.type "method_descriptor")) (hl:(apos.endLine == pos.line)=aJ) (wk:autoParam (kg (e::es)=aJ) aR) (hsz:autoParam ((e::es).length < 29) aD) (si:autoParam (rk o name env (dW o env)=dW o env) aR):
 WE k mu env (.Call (.Attribute o name apos) (e::es) [] pos) Φ:=⟨λ{z z z z z z} hA r q=>J6 ho ht ha pa slot MN hl hsz si hA r λ{z z z z} z1 q1 r1=>hF.c hA r1 q1 λ{z z z z z} z2=>q (z1.trans z2)⟩
theorem kz(hi:mu[i]? =ae (bk D xs))(hl:xs.length < 2 ^ 22)(h:Φ .none (mu.set i (bk D (xs++[y])))):BO k mu (.builtin "list.append") [bZ (.ref D),bZ y] Φ:=⟨λ{z z z z z z z} hA r hq q=>by
 refine cD (hq.two) λv u dP q1 q2=>?_;subst dP;refine ai (aZ.refE q1 ..) ?_;exact As r hi hl q2 λ{z} r2=>q .rfl .none r2 h⟩
theorem xW{fr:Mu}{h':dI}{vs:Array aj}{n tk:Nat}{ys:List V}(r:R Z (mu++fr) s)(hi:mu[i]? =ae (bk D xs))(hk:∀b o,b≠D->s.heap.get? b=ae o->h'.get? b=ae o)(h:h'.get? D=ae (oG vs n))(hr:bW G Z vs.toList ys):
 R Z (mu.set i (bk D ys)++fr) {s with heap:=h',toks:=tk}:=
 gF hi▸r.upd' (tk:=tk) (cH (fr:=fr) hi) rfl (λb o hb e=>hk b o (λq=>hb (q▸aa)) e) ⟨_,_,h,hr⟩
theorem wI{a b:Nat}(h:a+b < 2 ^ 22):wz (a+b)=aH:=by unfold wz;have:er=2 ^ 24:=rfl;simp;exact aw (eB (by assumption)) (by decide)
theorem Ib(hi:mu[i]? =ae (bk D xs))(hl:xs.length+ys.length < 2 ^ 22)(h:Φ .none (mu.set i (bk D (xs++ys)))):BO k mu (.builtin "list.extend") [bZ (.ref D),bZ (.list ys)] Φ:=⟨λ{A E Z s fr vs Q} hA r hq q=>by
 refine cD (hq.two) λv u eT q1 q2=>?_;subst eT;refine ai (aZ.refE q1 ..) (cF (rg.list q2) λb ws m gi e1 hr=>?_);subst gi;refine eD (r.sat _ (ao (cH (fr:=fr) hi))) λvs n h2 h3=>?_;have l1:=cb h3;have l2:=cb hr;rw [l1,l2] at hl;refine l5 F.slot_list_extend (⟨_,h2,rfl⟩:s.TypeIs (.ref D) "list") F.entry_list_extend (F.args_list_extend_2 _ _) (AutoSeq1.list_extend_list_list_0 D vs n b ws m ?_ (by show _<=2 ^ 24;lia) (by show _<=2 ^ 24+1;exact aw (eB (by assumption)) (by decide))) ⟨h2,r.zin _ _ e1,?_⟩
 ·refine ai (wI hl ..) ?_;simp
 ·have hm:=NC vs ws n av #[];exact q .rfl .none (xW r hi (λc o hb e=>(bY ..).extBut c o hb e) ((bS _ h2 (by refine ai (hm ..) ?_;rfl)).trans (congrArg ae hm)) (by refine ai (lA ..) ?_;exact h3.append hr)) h⟩
theorem N7(hi:mu[i]? =ae (bk D (y::xs)))(hl:xs.length < 2 ^ 22)(h:Φ y (mu.set i (bk D xs))):BO k mu (.builtin "list.pop") [bZ (.ref D),bZ (.int 0)] Φ:=⟨λ{A E Z s fr vs Q} hA r hq q=>by
 refine cD (hq.two) λv u iC q1 q2=>?_;subst iC;refine ai (aZ.refE q1 ..) (cK (gG q2) λtk kF=>?_);subst kF;refine eD (r.sat _ (ao (cH (fr:=fr) hi))) λvs n h2 h3=>?_;have l1:xs.length+1=vs.size:=cb h3;refine cD (h3.cons_inv) λw ws h6 h5 hr=>?_;have h4':vs[0]? =ae w:=bV.symm.trans (by refine ai (h6 ..) ?_;rfl);refine l5 F.slot_list_pop (⟨_,h2,rfl⟩:s.TypeIs (.ref D) "list") F.entry_list_pop (F.args_list_pop_2 _ _) (MeetsSeq.list_pop_at D vs n 0 tk 0 w (by decide) (by unfold M6;refine fZ (l1 ..) ?_;simp) h4' (by refine fZ (l1 ..) ?_;show _<=2 ^ 24;lia)) ⟨h2,?_⟩;have hm:=PyProof.Rows.mapSeq_erase vs n 0 (by refine fZ (l1 ..) ?_;exact Nat.succ_pos _);exact q .rfl h5 (xW r hi (λc o hb e=>(bY ..).extBut c o hb e) ((bS _ h2 (by refine ai (hm ..) ?_;rfl)).trans (congrArg ae hm)) (by (refine ai (gQ ..) ?_;refine ai (h6 ..) ?_);exact hr)) h⟩
structure ForM(Z:bI)(Inv:Nat->Nat->List V->Mu->Prop)(it:Nat->cY)(fr:Mu)(m:Nat)(s':aq):Prop where
 ex:∃i xs Z' nu,Z.le Z'/\R Z' (it i::(nu++fr)) s'/\Inv m i xs nu
theorem G9{zi:lF}{body orelse:List ed}{Ψ:AF->Mu->Prop}(Inv:Nat->Nat->List V->Mu->Prop)(he:PE k mu env e (.ref D))(hk:1<=k)(m0:Nat)(xs0:List V)(h0:Inv m0 0 xs0 mu)(qi:∀m i xs nu,Inv m i xs nu->bk D xs∈nu)
 (step:∀m i xs nu x,Inv m i xs nu->xs[i]? =ae x->mI k nu env t x λrp=>WS k rp env body (kU (λua=>∃m' TT,m' < m/\Inv m' (i+1) TT ua) Ψ))
 (fin:∀m i xs nu,Inv m i xs nu->xs.length=i->WS k nu env orelse Ψ) (hlen:∀m i xs nu,Inv m i xs nu->i<=xs.length) (hf:autoParam (∀x,bw e env x=dh x) aR):WX k mu env (.For t e body orelse zi) Ψ:=⟨λ{A E Z s fr Q} hA r q=>by
 with_reducible refine wpAny_For ?_ hf
 refine G0 he (qi m0 0 xs0 mu h0) hA r λ{I s1 Z1} iQ z1 r1=>BD (ForM Z Inv (Ka I D) fr) (λm s' h=>?_) m0 ⟨0,xs0,Z1,mu,z1,r1,h0⟩;refine cu (h.ex) λi xs Z' nu z r inv=>?_;have hc:∀o∈[bk D xs],o∈nu++fr:=λo ho=>aA.mp ho▸aE fr (qi m i xs nu inv);rcases Nat.lt_or_eq_of_le (hlen m i xs nu inv) with hi|rfl
 ·refine ⟨λ{y y} hn hs=>(xQ iQ).item i _ (bH hi) (hA.le hk) hc r λ{v s3} h3=>hs (h3 λ{s4 Z4} z4 hv r4=>?_)⟩;exact (step m i xs nu _ inv (bH hi)).c hA (r4.perm cv.symm) hv λ{s5 Z5 nu5} z5 r5 w5=>w5.c hA r5 λ{f s6 Z6 a nu6} z6 f6 r6 w6=>oK.of (fr:=fr) f6 w6 (λ⟨m',TT,w7,w8⟩=>⟨m',w7,i+1,TT,Z6,nu6,z.trans (z4.trans (z5.trans z6)),r6.perm cv,w8⟩) λ{y y} hg=>q (z.trans (z4.trans (z5.trans z6))) hg (R.drop (r6.perm cv))
 ·exact ⟨λ{y y} hn hs=>(xQ (t:=t) iQ).done (hA.le hk) hc r λ{y y} z3 r3=>hn ((fin m _ xs nu inv rfl).c hA r3 λ{y y y y y} z4=>q (z.trans (z3.trans z4)))⟩⟩
noncomputable abbrev nV(n:Nat):V:= .int n
theorem Dn(l:List Nat):(l.map nV)=(l.map fA).map V.int:=by refine ai (a0 ..) ?_;rfl
theorem Ha(l:List Nat)(n:Nat):(l.map fA).any (· == (n:Int))=decide (n∈l):=by
 refine gj (cm ..) ?_;simp only [cT,aG,beq_iff_eq,decide_eq_true_eq];constructor
 ·intro l9;refine aK l9 λz mD h=>?_;clear l9;refine aK mD λa ha qX=>?_;clear mD;subst qX;have:a=n:=Na h;exact this▸ha
 ·exact λh=>⟨_,⟨n,h,rfl⟩,rfl⟩
theorem Ku{n:Nat}{l:List Nat}:s7 k mu .In (bZ (.int n)) (md mu (l.map nV)) (decide (n∈l)):=by
 have:=Rg (k:=k) (mu:=mu) (i:=(n:Int)) (ns:=l.map fA)
 rwa [Ha,<- Dn] at this
theorem Hb{n:Nat}{l:List Nat}:s7 k mu .NotIn (bZ (.int n)) (md mu (l.map nV)) (!decide (n∈l)):=by
 have:=N4 (k:=k) (mu:=mu) (i:=(n:Int)) (ns:=l.map fA)
 rwa [Ha,<- Dn] at this
theorem ew{α:Type}{as:List α}{inj:α->V}{j:Nat}{a:α}(h:as[j]? =ae a)(hn:as.length < 2 ^ 60):Gi k mu (md mu (as.map inj)) (bZ (.int (j:Nat))) (bZ (inj a)):=
 have hj:=(aB.mp h).1
 Rc (by unfold j8;refine ai (if_neg (by lia) ..) ?_;refine ai (aI ..) ?_;show as[((j:Nat):Int).toNat]?.map inj=_;(refine ai (b8 ..) ?_;refine ai (h ..) ?_);rfl) (by lia) (by lia) (by simp;exact cc (by assumption) (by decide))
theorem xy{α:Type}{as:List α}{inj:α->V}{a:α}(h:as.getLast? =ae a)(hn:as.length < 2 ^ 60):Gi k mu (md mu (as.map inj)) (bZ (.int (-1))) (bZ (inj a)):=by
 have iQ:as≠[]:=by intro e;subst e;simp at h
 have hp:0 < as.length:=zt.mpr iQ;refine Rc ?_ (by simp;lia) (by decide) (by simp;exact cc (by assumption) (by decide));unfold j8;refine ai (if_pos (by decide) ..) ?_;refine ai (ak ..) ?_;refine ai (aI ..) ?_;refine ai (show ((-1:Int)+(as.length:Nat)).toNat=as.length - 1 by lia) ?_;refine fZ (List.getLast?_eq_getElem? ..) ?_;refine ai (h ..) ?_;rfl
theorem FW.fn{f:aj}(h:FW k mu f xs λv nu=>v=y/\nu=mu):Fn k mu f (xs.map bZ) (bZ y):=⟨λ{x x x x x x x} hA r hq q=>h.c hA r hq.vrels λ{x x x x x} z w r e=>q z (e.1▸w) (e.2▸r)⟩
theorem FW.mono{Ψ:V->Mu->Prop}{f:aj}(h:FW k mu f xs Φ)(hi:∀y nu,Φ y nu->Ψ y nu):FW k mu f xs Ψ:=⟨λ{x x x x x x x} hA r hv q=>h.c hA r hv λ{x x x x x} z w r u=>q z w r (hi _ _ u)⟩
theorem FW.le{j:Nat}{f:aj}(h:FW j mu f xs Φ)(hj:j<=k):FW k mu f xs Φ:=⟨λ{z z z z z z z} hA=>h.c (hA.le hj)⟩
theorem jJ.tell{nu':Mu}(h:fK D nu λy nu=>nu'.Sublist nu/\Φ y nu'):jJ (.ref D) nu Φ:=⟨λ{x x x x x} r v q=>h.c r λ{x x x} z w r e=>q z ((aZ.refE v).symm▸w) (r.sublist (e.1.append (sM _))) e.2⟩
theorem jJ.list{nu':Mu}(hs:nu'.Sublist mu)(h:Φ (.list xs) nu'):jJ (.ref D) (bk D xs::mu) Φ:=jJ.tell (fK.list ⟨hs,h⟩)
theorem jJ.dict{nu':Mu}{es:List (bc×V)}(hs:nu'.Sublist mu)(h:Φ (.dict es) nu'):jJ (.ref D) (cE D es::mu) Φ:=jJ.tell (fK.dict ⟨hs,h⟩)
noncomputable def Ic(cl:String)(es:List (bc×V)):Vw:=
 ⟨λZ v=>∃a d o,v= .ref a/\Z a=ae o/\o.cls= .type cl/\o.data= .fields #[.ref d]/\aZ G Z (.ref d) (.dict es),
  λZ Z' v h=>bQ λa=>bQ λd=>bQ λo w=>⟨w.1,h _ _ w.2.1,w.2.2.1,w.2.2.2.1,w.2.2.2.2.mono h⟩⟩
theorem xX:xm table "dict_itemiterator.__iter__"=ae Builtin.«dict_keyiterator.__iter__»:=
 CC (id':="dict_keyiterator.__iter__") (by kernel_rfl) rfl (by decide+kernel) (by kernel_rfl)
section
variable {es:List (bc×V)}{x:bc}{Φ:AF->Mu->Prop}
theorem mZ{v:aj}(r:R Z mu s)(h:aZ G Z v (.dict es)):∃d kvs ep,v= .ref d/\(d == lX)=aH/\s.heap.DictAt (strKind G.prog G.w) d kvs ep/\s.heap.DictOf (strKind G.prog G.w) d kvs/\kvs.map (·.1)=es.map (·.1)/\bW G Z (kvs.map (·.2)) (es.map (·.2))/\(∃o,Z d=ae o)/\
 (∀h:dI,(∀a o,Z a=ae o->h.get? a=ae o)->h.DictAt (strKind G.prog G.w) d kvs ep):=by
 refine wA (aZ.dict_inv h) λa o kvs dP hq e1 eT hk hr=>?_;subst dP;refine vt eT λd1 Nq ep d=>?_;clear eT;have ho:=r.zin _ _ e1;exact ⟨a,kvs,ep,rfl,hq,⟨o,Nq,ho,d1,d⟩,⟨o,Nq,ep,ho,d1,d⟩,hk,hr,⟨_,e1⟩,λh hz=>⟨o,Nq,hz _ _ e1,d1,d⟩⟩
theorem rL:Ty mu (bZ (.dict es)) "dict":=⟨λZ s fr v r h=>by
 refine g6 (aZ.dict_inv h) λa o kvs gi hq e1 d z=>?_;subst gi;exact Ty.at (r.zin _ _ e1) d.1.1 d.1.2.1⟩
theorem Do{d:ay}{cl:String}{T:Prop}(r:R Z mu s)(h:aZ G Z (.ref d) (.dict es))(q:∀{Z'},Z.le Z'->(Ic cl es:Vw).p Z' (.ref s.heap.objs.size)->R Z' mu {s with heap:=s.heap.push {cls:= .type cl,data:= .fields #[.ref d]}}->T):T:=
 have z:=bI.le_put (o:={cls:= .type cl,data:= .fields #[.ref d]}) (r.fresh (bp _))
 q z ⟨_,d,_,rfl,bI.put_self ..,rfl,rfl,h.mono z⟩ r.pushZ
theorem AC:Fn k mu (.builtin "dict.values") [bZ (.dict es)] (Ic "dict_values" es):=⟨λ{A E Z s fr vs Q} hA r hq q=>by
 refine aK (hq.one) λv iC p=>?_;subst iC;refine g6 (mZ r p) λd kvs ep kF hs hD hO z=>?_;subst kF;exact Jy F.slot_dict_values hO.typeIs F.entry_dict_values (F.args_dict_values_1 _) (meets_dict_values (strKind G.prog G.w) d hs) ⟨⟨_,hO⟩,Do r p q⟩⟩
theorem Dp:Fn k mu (.builtin "dict.items") [bZ (.dict es)] (Ic "dict_items" es):=⟨λ{A E Z s fr vs Q} hA r hq q=>by
 refine aK (hq.one) λv l9 p=>?_;subst l9;refine g6 (mZ r p) λd kvs ep mD hs hD hO z=>?_;subst mD;exact Jy Jz hO.typeIs F.entry_dict_items (F.args_dict_items_1 _) (meets_dict_items (strKind G.prog G.w) d hs) ⟨⟨_,hO⟩,Do r p q⟩⟩
theorem Kv(h:EV k mu env e (Ic "dict_values" es)):o7 k mu env e t [] (es.map (·.2)):=⟨λz h=>(el h),λ{A E Z s fr Q} hA r q=>by
 refine h.c hA r λ{v s1 Z1} z1 q1 r1=>g6 q1 λa d o qX hz hc hd p=>?_;clear q1;subst qX;refine jY (mZ r1 p) λd' kvs ep e1 hs hD hO hk hr ub PD=>cK ub λod hod=>?_;clear ub;cases e1;refine wpAny_pyIter_values (⟨o,r1.zin _ _ hz,hc,hd⟩:s1.heap.IsValuesView a d) hD (pK (c:="dict_valueiterator") r1 (λA hh=>Walks.dictValues (knd:=strKind G.prog G.w) hh s1.heap.objs.size d (c9 (bM (r1.zin _ _ hod))) kvs ep) ?_ (vG hod) (λi v x hx hp=>?_)
  (λi h hs=>hs.1.imp λz w=>⟨w.1,w.2.1⟩) (by decide) (λb o e=>az _ e) ⟨⟨_,aW _ rfl,rfl,rfl⟩,PD _ λa o e=>az _ (r1.zin _ _ e)⟩ λ{z} hit r'=>q hit z1 r')
 ·(refine ai (ak ..) ?_;refine fZ (ak (f:=(·.1)) ..) ?_;refine fZ (hk ..) ?_;refine ai (ak ..) ?_;rfl)
 ·refine cK hp λkey h1=>?_;clear hp;obtain ⟨x',h3,h4⟩:=hr.get' (show (kvs.map (·.2))[i]? =ae v by (refine ai (aI ..) ?_;refine ai (h1 ..) ?_);rfl);cases h3.symm.trans hx;exact h4⟩
end
noncomputable def Hc(I d:ay)(Zf:bI)(n ep i:Nat):cY where
 own:=[I]
 sat:=λZ h=>Zf.le Z/\∃ok ov,IsItemIter h I d i n ep ok ov
 mono:=λZ Z' h hz w=>⟨w.1.trans hz,w.2⟩
 loc:=λZ h h' w hk z z=>⟨w.1,w.2.imp λz=>bQ λz b=>hk I aa _ b⟩
 live:=λZ h w c hc=>w.2.elim λz w=>w.elim λz b=>⟨_,aA.mp hc▸b⟩
abbrev Nn(k:Nat)(mu:Mu)(op:Tf)(P Q S:Vw):Prop:=B2 k mu (inplaceOp op) P Q S
section
variable {es:List (bc×V)}{x:bc}{Φ:AF->Mu->Prop}
theorem Ie{I d:ay}{kvs:List (bc×aj)}{ep:Nat}{Zf:bI}(hk:kvs.map (·.1)=es.map (·.1))(hr:bW G Zf (kvs.map (·.2)) (es.map (·.2)))
 (PD:∀h:dI,(∀a o,Zf a=ae o->h.get? a=ae o)->h.DictAt (strKind G.prog G.w) d kvs ep):CN I [] (.Tuple elts kk tp) (es.map λq=> .tup [.str q.1,q.2]) (Hc I d Zf kvs.length ep) where
 item:=λi x hx {A E Z s fr Q} hA z r q=>by
  refine vt (r.sat _ aa) λhz ok ov hit=>?_;rw [aI] at hx;refine aK (aL.mp hx) λw hq dP=>?_;subst dP;obtain ⟨v,h3,h4⟩:=hr.get (show (es.map (·.2))[i]? =ae w.2 by (refine ai (aI ..) ?_;refine ai (hq ..) ?_);rfl);have h1:(es.map (·.1))[i]? =ae w.1:=by (refine ai (aI ..) ?_;refine ai (hq ..) ?_);rfl
  rw [<- hk,aI] at h1;refine aK (aL.mp h1) λkv h5 h6=>?_;rw [aI,h5] at h3
  (have lz:=aO h3;clear h3;subst lz)
  refine wpAny_pyNext_items_item (knd:=strKind G.prog G.w) (k:=kv.1) (v:=kv.2) hit (PD _ λa o e=>r.zin _ _ (hz _ _ e)) h5 λkey h' hkey Gz htup hsz hkeep=>q λ{E T} p=>wpAny_letOwnedTupleGo_items (s:={s with heap:=h'}) Gz λh'' hit'' hsame=>cK (ES (show Value.isStrOf kv.1 key=aJ from hkey)) λtk eT=>?_;subst eT;have iD:=r.fresh (bp s.heap.objs.size);exact p (bI.le_put iD) (aZ.tup (bI.put_self ..) rfl rfl (.cons (h6▸aZ.str _ _) (.cons ((h4.mono hz).mono (bI.le_put iD)) .nil)))
   (R.freeze (r.upd' (x':=Hc I d Zf kvs.length ep (i+1)) (i:=0) (h':=h'') (tk:=s.toks) rfl rfl (λc o hc e=>have hc:c≠I:=λq=>hc (q▸aa);hsame.extBut c o hc (hkeep c o hc e)) ⟨hz,_,_,hit''⟩) (hsame.extBut _ _ (jI (bM hit)) htup) iD (r.notOwn (bp _)))
 done:=λ{A E Z s fr Q} hA z r q=>by
  rw [show (es.map λq=>V.tup [.str q.1,q.2]).length=kvs.length by (refine ai (ak ..) ?_;refine fZ (ak (f:=(·.1)) ..) ?_;refine fZ (hk ..) ?_;refine ai (ak ..) ?_;rfl)] at r;exact vt (r.sat _ aa) λhz ok ov hit=>wpAny_pyNext_items_end (knd:=strKind G.prog G.w) hA.hh hit (PD _ λa o e=>r.zin _ _ (hz _ _ e)) (il (bp _)) λh' he=>q .rfl (r.dropUpd (tk:=s.toks) λc o hc e=>he c o (λq=>hc (q▸aa)) e)
 self:=λi {A E Z s fr Q} hA r q=>by
  refine vt (r.sat _ aa) λhz ok ov hit=>?_;have hT:s.TypeIs (.ref I) "dict_itemiterator":=⟨_,hit,rfl⟩;refine vo hT ND (dq ND hT xX ?_ (F.args_dict_itemiterator_iter_1 _));show aS _ _ (vf (.ref I)) _ _ s;exact ar ⟨_,rfl,"dict_itemiterator",_,hT,F.slot_dict_itemiterator_next.lookup,q r⟩
theorem AD(h:EV k mu env e (Ic "dict_items" es)):o7 k mu env e (.Tuple elts kk tp) [] (es.map λq=> .tup [.str q.1,q.2]):=⟨λz h=>(el h),λ{A E Z s fr Q} hA r q=>by
 refine h.c hA r λ{v s1 Z1} z1 q1 r1=>g6 q1 λa d o gi hz hc hd p=>?_;clear q1;subst gi;refine jY (mZ r1 p) λd' kvs ep e1 hs hD hO hk hr hzd PD=>?_;cases e1;exact wpAny_pyIter_items (⟨o,r1.zin _ _ hz,hc,hd⟩:s1.heap.IsItemsView a d) hD (q (Ie hk hr PD) z1 (r1.addNew (tk:=s1.toks) _ (λb o e=>az _ e) ⟨.rfl,_,_,aW _ rfl⟩ eg λz h=>kW h))⟩
theorem FE{A:bo}{E Q:aj->aq->Prop}(he:dz env)(sl:Sl env L lay x j)(hf:bq L lay bF∈mu)(GA:bF[j]? =ae (ae y))(r:R Z mu s)(q:∀{v},aZ G Z v y->Q v s):aS (aX G.prog G.w) A (loadName env x) Q E s:=by
 cases sl with
 |loc hk hL hl hd=>subst hL;obtain ⟨m,hn,w,hw,hr⟩:=r.slot hf hl GA;exact wpAny_loadName_local he.kind hk hn hw (q hr)
 |cell c z hk hc hl hd=>obtain ⟨m,hn,w,hw,hr⟩:=r.slot hf hl GA;exact wpAny_loadName_cell he.kind hk hc hw (q hr)
 |free c z hk hc hl hd hd'=>obtain ⟨m,hn,w,hw,hr⟩:=r.slot hf hl GA;exact wpAny_loadName_free he.kind hk hc hw (q hr) hd'
theorem rM{v:bP}(he:dz env)(sl:Sl env L lay x j)(hi:mu[i]? =ae (bq L lay bF))(GA:bF[j]? =ae (ae y))(hv:EV k mu env v P){y':V}(ho:Nn k mu op (bZ y) P (bZ y'))(h:Φ .next (mu.set i (bq L lay (bF.set j (ae y')))))(Ct:autoParam ((env.kindOf x == ae .free)=aH) aR):
 WX k mu env (.AugAssign (.Name x p) op v pos) Φ:=⟨λ{A E Z s fr Q} hA r q=>by
 with_reducible refine wpAny_AugAssign_Name ?_
 exact FE he sl (aE fr (ao hi)) GA r λ{z} q1=>hv.c hA r λ{z z z} z2 q2 r2=>ho.c hA r2 (q1.mono z2) q2 λ{z z z} z3 q3 r3=>xM r3 he sl hi (beq_eq_false_iff_ne.mp Ct) q3 λs' r'=>q (z2.trans z3) .next r' h⟩
section
variable {a b:Int}
theorem FF:Nn k mu .Add (bZ (.int a)) (bZ (.int b)) (bZ (.int (a+b))):= .ii PyProof.Rows.iadd_int
theorem Qg:Nn k mu .BitOr (bZ (.int a)) (bZ (.int b)) (bZ (.int (Builtin.bitOr a b))):= .ii PyProof.Rows.ior_int
theorem Rl:Nn k mu .BitXor (bZ (.int a)) (bZ (.int b)) (bZ (.int (Builtin.bitXor a b))):= .ii PyProof.Rows.ixor_int
theorem Rn(h:0<=b)(h2:b<=1000000)(ha:a.natAbs < 2 ^ 64):Nn k mu .LShift (bZ (.int a)) (bZ (.int b)) (bZ (.int (a*2 ^ b.toNat))):= .ii (PyProof.Rows.ilshift_int_small h h2 ha)
end
theorem Ro{a b:bc}(h:a.length+b.length<=er):Nn k mu .Add (bZ (.str a)) (bZ (.str b)) (bZ (.str (a++b))):=
 ⟨λ{z z z z z z z z} hA R hp hq q=>aZ.strC hp λt=>aZ.strC hq λu=>PyProof.Rows.iadd_str (λt' tk=>q .rfl (aZ.str _ _) R.toks) h⟩
end
section
variable {ie v:bP}{es:List (bc×V)}{x:bc}{Φ:AF->Mu->Prop}
theorem wJ{A:bo}{E:aj->aq->Prop}{Q:Unit->aq->Prop}{tk:HO}{w:aj}(r:R Z mu s)(hi:mu[i]? =ae (cE D es))(hl:es.length<=er)(hv:aZ G Z w y)
 (h:∀s',R Z (mu.set i (cE D (jE es x y))) s'->Q () s'):aS (aX G.prog G.w) A (setItem (.ref D) (.str x tk) w) Q E s:=by
 refine qm (r.sat _ (ao hi)) λq kvs h1 h2 h3=>?_;have hlen:kvs.length=es.length:=by (refine fZ (ak (f:=(·.1)) ..) ?_;refine ai (h2 ..) ?_;refine ai (ak ..) ?_;rfl)
 exact wpAny_setItem_pairs (knd:=strKind G.prog G.w) (k:=x) (zq G.prog G.w x tk) h1 (λh' hd hs=>h _ (r.upd' (x':=cE D (jE es x y)) hi rfl (λb o hb e=>hs.extBut b o (λq=>hb (q▸aa)) e) ⟨q,_,hd,Dd (x:=x) h2 h3 hv⟩)) (hlen▸hl)
theorem Kw{Θ:V->Mu->Prop}(hv:WE k mu env v λy nu=>∃i D es x,PE k nu env o (.ref D)/\PE k nu env ie (.str x)/\nu[i]? =ae (cE D es)/\es.length<=er/\Φ .next (nu.set i (cE D (jE es x y))))
 (hs:autoParam (xi v (ae (.Subscript o ie p)) pos.line env=dh aH) aR):WX k mu env (.Assign [.Subscript o ie p] v pos) Φ:=⟨λ{A E Z s fr Q} hA r q=>by
 with_reducible refine wpAny_Assign_Subscript ?_ hs
 refine hv.c hA r λ{w s1 Z1 y nu} z1 q1 r1 u=>dM u λi D es x ho hx hi hl h=>?_;clear u;refine ho.c hA r1 λ{ov s2 Z2} z2 q2 r2=>hx.c hA r2 λ{iv s3 Z3} z3 q3 r3=>ai (aZ.refE q2 ..) ?_;exact aZ.strC q3 λtk=>wJ r3 (cH hi) hl (q1.mono (z2.trans z3)) λs' r'=>q (z1.trans (z2.trans z3)) .next (gF hi▸r') h⟩
theorem qx(hv:PE k mu env v y)(ho:PE k mu env o (.ref D))(hx:PE k mu env ie (.str x))(hi:mu[i]? =ae (cE D es))(hl:es.length<=er)(h:Φ .next (mu.set i (cE D (jE es x y))))
 (hs:autoParam (xi v (ae (.Subscript o ie p)) pos.line env=dh aH) aR):WX k mu env (.Assign [.Subscript o ie p] v pos) Φ:=
 Kw (Θ:=λz z=>True) (cg hv ⟨i,D,es,x,ho,hx,hi,hl,h⟩) hs
theorem N8{y0 y1:V}(ho:PE k mu env o (.ref D))(hx:PE k mu env ie (.str x))(hi:mu[i]? =ae (cE D es))(hg:me es x=ae y0)(hv:EV k mu env v P)(hop:Nn k mu op (bZ y0) P (bZ y1))(hl:es.length<=er)(h:Φ .next (mu.set i (cE D (jE es x y1))))
 (hau:autoParam (∀ov iv new,augStore ie ov iv new=(do eV [new,ov,iv] (setItem ov iv new);release [new,ov,iv] [];dh .next)) aR):WX k mu env (.AugAssign (.Subscript o ie p) op v pos) Φ:=⟨λ{A E Z s fr Q} hA r q=>by
 with_reducible refine wpAny_AugAssign_SubscriptAny ?_ hau
 refine ho.c hA r λ{ov s1 Z1} z1 q1 r1=>hx.c hA r1 λ{iv s2 Z2} z2 q2 r2=>ai (aZ.refE q1 ..) (((mf (k:=k) (mu:=mu) hg).c hA r2 ⟨D,rfl,λZ' s' hz r'=>r'.sat _ (ao hi)⟩ q2 λ{z z z} z3 q3 r3=>hv.c hA r3 λ{z z z} z4 q4 r4=>hop.c hA r4 (q3.mono z4) q4 λ{w s5 Z5} z5 q5 r5=>?_).2);exact aZ.strC q2 λtk=>wJ r5 (cH hi) hl q5 λs' r'=>q (z1.trans (z2.trans (z3.trans (z4.trans z5)))) .next (gF hi▸r') h⟩
theorem BP{n:Int}:Fn k mu (.builtin "isinstance") [bZ (.int n),bZ (.type "tuple")] (bZ (.bool aH)):=⟨λ{A E Z s fr vs Q} hA r hq q=>by
 refine cD (hq.two) λv u dP q1 q2=>?_;subst dP;refine ai (aZ.typeE q2 ..) ?_;exact aZ.intC q1 λtk=>call_isinstance (isinstance_false_int (by decide) (by rfl) (by refine ai (iS ..) ?_;kernel_rfl)) (q .rfl (aZ.bool _) r.toks)⟩
theorem BQ{c:Bool}:Fn k mu (.builtin "isinstance") [bZ (.bool c),bZ (.type "bool")] (bZ (.bool aJ)):=⟨λ{A E Z s fr vs Q} hA r hq q=>by
 refine cD (hq.two) λv u eT q1 q2=>?_;subst eT;refine ai (aZ.typeE q2 ..) ?_;refine ai (aZ.boolE q1 ..) ?_;exact call_isinstance_yes (Tx:="bool") rfl (by rfl) (by refine ai (iS ..) ?_;kernel_rfl) (q .rfl (aZ.bool _) r)⟩
end
noncomputable abbrev cV(c:List (bc×Int)):V:= .dict (c.map λq=>(q.1,V.int q.2))
theorem N9(c:List (bc×Int)):(c.map λq=>(q.1,V.int q.2)).map (·.2)=(c.map (·.2)).map V.int:=by (refine ai (a0 ..) ?_;refine ai (a0 ..) ?_);rfl
theorem Hd(H:Hy G){c:List (bc×Int)}:FW (k+2) mu (.ref 270) [cV c] λy nu=>nu=mu/\y= .int (c.map (·.2)).sum:=by
 refine te H H.f270 (names:=["callers"]) (vals':=λL=>[ae (cV c),av,av]) (λpm cd doc vs h=>?_) (by decide+kernel) rfl (λpm cd doc L=>?_) (λpm cd doc L he=>?_)
 ·exact uK h λa=>rfl
 ·exact .cons (j:=0) .loc rfl .nil
 refine aC (ig (cg cP ?_));refine aC (bX aU (aQ (i:=0) (j:=1) he .loc rfl ?_) rfl rfl);refine aC (jN (ctx:=[]) (xs:=(c.map (·.2)).map V.int) (λi nu=>∃o,nu=bq L (aM (L+1) (bj (cO 15)).names) [ae (cV c),ae (.int ((c.map (·.2)).take i).sum),o]::mu)
  (by refine fZ (N9 ..) ?_;exact Kv (f7 (ah (j:=0) he .loc aa rfl) rL aT AC (by exact vp) (by exact F.slot_dict_values) (by exact b9) rfl)) (by lia) ⟨av,rfl⟩ (λi nu h o ho=>(el ho)) ?_ ?_)
 ·intro i x nu hx dP;refine cK dP λo eT=>?_;clear dP;subst eT;rw [aI] at hx;refine aK (aL.mp hx) λn hn gi=>?_;subst gi;refine aQ (i:=0) (j:=2) he .loc rfl (aC (rM (i:=0) (j:=1) he .loc rfl rfl (ah (j:=2) he .loc aa rfl) FF ?_));refine bB ⟨ae (.int n),?_⟩;have e1:((c.map (·.2)).take (i+1)).sum=((c.map (·.2)).take i).sum+n:=by
   refine ai (dG ..) ?_;refine ai (hn ..) ?_;refine ai (vm ..) ?_;simp only [Ag,df,List.sum_nil,PV]
  refine ai (e1 ..) ?_;rfl
 ·intro nu iC;refine cK iC λo kF=>?_;clear iC;subst kF;refine bB (aC (gy (cg (bL (ah (j:=1) he .loc aa rfl) (by (refine ai (ak ..) ?_;refine ai (cL ..) ?_;rfl))) (kh ⟨rfl,rfl⟩))))
noncomputable def uL(c:List (bc×Int))(q:bc×Int):List (bc×Int):=
 if c.any (λp=>p.1=q.1) then c.map (λp=>if p.1=q.1 then (p.1,p.2+q.2) else p) else c++[q]
theorem Dq{c:List (bc×Int)}{x:bc}{n:Int}(h:x∉c.map (·.1)):jE (c.map λq=>(q.1,V.int q.2)) x (.int n)=(c++[(x,n)]).map λq=>(q.1,V.int q.2):=by
 delta jE;rw [if_neg]
 ·simp
 ·intro h2;rw [cT] at h2;refine aK h2 λq hq hx=>?_;clear h2;refine aK (aG.mp hq) λp hp l9=>?_;subst l9;exact h (aG.mpr ⟨p,hp,by simpa using hx⟩)
theorem BR{c:List (bc×Int)}{x:bc}:me (c.map λq=>(q.1,V.int q.2)) x=(c.find? λp=>p.1=x).map λp=>V.int p.2:=by
 delta me;induction c with
 |nil=>rfl
 |cons a c ih=>
  refine ai (bA ..) ?_;refine ai (jV ..) ?_;refine ai (jV ..) ?_;by_cases h:a.1=x
  ·simp [h]
  ·simp only [h,decide_false];exact ih
noncomputable def oL(a b:List (bc×Int)):List (bc×Int):=b.foldl uL a
theorem Ig(c:List (bc×Int))(q:bc×Int):(uL c q).map (·.1)=if c.any (λp=>p.1=q.1) then c.map (·.1) else c.map (·.1)++[q.1]:=by
 delta uL
 split
 ·refine ai (a0 ..) ?_;congr 1;funext p;simp only [l6]
  split <;> rfl
 ·simp
theorem FG{c:List (bc×Int)}{q:bc×Int}(h:(c.map (·.1)).Nodup):((uL c q).map (·.1)).Nodup:=by
 refine ai (Ig ..) ?_
 split
 ·exact h
 ·rename_i hn;refine gj (bO ..) (⟨h,by simp,λa ha b hb e=>?_⟩);rw [aA.mp hb] at e;exact aK (aG.mp ha) λp hp hp2=>hn (cT.mpr ⟨p,hp,by simp [hp2,e]⟩)
theorem Kx{c:List (bc×Int)}{q p0:bc×Int}(hn:(c.map (·.1)).Nodup)(hf:c.find? (λp=>p.1=q.1)=ae p0):jE (c.map λq=>(q.1,V.int q.2)) q.1 (.int (p0.2+q.2))=(uL c q).map λq=>(q.1,V.int q.2):=by
 have GB:c.any (λp=>p.1=q.1)=aJ:=cT.mpr ⟨p0,List.mem_of_find?_eq_some hf,by have:=List.find?_some hf;exact this⟩;delta jE uL;refine ai (if_pos GB ..) ?_;refine ai (if_pos (by rw [CB];exact GB) ..) ?_;refine ai (a0 ..) ?_;refine ai (a0 ..) ?_;refine b5 λp hp=>?_;simp only [l6];by_cases h:p.1=q.1
 ·(refine ai (if_pos h ..) ?_;refine ai (if_pos h ..) ?_)
  have:p=p0:=by
   have h0:=List.find?_some hf;simp at h0;clear GB;induction c with
   |nil=>exact el hp
   |cons a c ih=>
    simp only [bA,cj] at hn;rw [jV] at hf;by_cases ha:a.1=q.1
    ·simp [ha] at hf;subst hf;rcases aP.mp hp with rfl|hp
     ·rfl
     ·exact absurd (aG.mpr ⟨p,hp,h.trans ha.symm⟩) hn.1
    ·simp [ha] at hf;rcases aP.mp hp with rfl|hp
     ·exact absurd h ha
     ·exact ih hn.2 hf hp
  refine ai (this ..) ?_;rfl
 ·(refine ai (if_neg h ..) ?_;refine ai (if_neg h ..) ?_;rfl)
theorem Ky(c:List (bc×Int))(q:bc×Int):(uL c q).length<=c.length+1:=by
 delta uL
 split <;> simp
theorem Ih(a b:List (bc×Int)):(oL a b).length<=a.length+b.length:=by
 delta oL;induction b generalizing a with
 |nil=>simp
 |cons q b ih=>have h1:=ih (uL a q);have h2:=Ky a q;simp only [fE,bJ];lia
theorem Ds{a b:List (bc×Int)}(h:(a.map (·.1)).Nodup):((oL a b).map (·.1)).Nodup:=by
 delta oL;induction b generalizing a with
 |nil=>exact h
 |cons q b ih=>exact ih (FG h)
def lH.S0(k:Nat)(mu:Mu)(a b:List (bc×Int)):Prop:=∀(H:Hy G) (ha:(a.map (·.1)).Nodup) (SD:a.length<=1000) (hlb:b.length<=1000),FW (k+2) mu (.ref 263) [cV a,cV b] λy nu=>nu=mu/\y=cV (oL a b)
namespace lH
@[irreducible] def e0:=GT eO gE gE gE S0
def k_:=e0.1
def e9:=e0.2.1
def a_:=e0.2.2.1
def b_:=e0.2.2.2
theorem T0:S0 k_ e9 a_ b_:=by
 intro H ha SD hlb;refine te H H.f263 (names:=["target","source"]) (vals':=λL=>[ae (cV a_),ae (cV b_),av,av,av]) (λpm cd doc vs h=>?_) (by decide+kernel) rfl (λpm cd doc L=>?_) (λpm cd doc L he=>?_)
 ·exact zM h λa_ b_=>rfl
 ·exact .cons (j:=0) .loc rfl (.cons (j:=1) .loc rfl .nil)
 refine aC (ig (cg cP ?_));refine aC (b4 (xT H.B (λD=>fK.ref (aQ (i:=1) (j:=2) he .loc rfl ?_))) rfl rfl);have SL:∀n,n<=4000->n<=er:=λn h=>by show _<=2 ^ 24;exact aw (by assumption) (by decide)
 refine aC (jN (ctx:=[]) (xs:=(a_.map λq=>(q.1,V.int q.2)).map λq=> .tup [.str q.1,q.2]) (λi nu=>∃o1 o2,nu=cE D ((a_.take i).map λq=>(q.1,V.int q.2))::bq L (aM (L+1) (bj (cO 14)).names) [ae (cV a_),ae (cV b_),ae (.ref D),o1,o2]::e9)
  (AD (f7 (ah (j:=0) he .loc (ab _ aa) rfl) rL aT Dp (by exact vp) (by exact Jz) (by exact b9) rfl)) (by lia) ⟨av,av,rfl⟩ (λi nu h o ho=>(el ho)) ?_ ?_)
 ·intro i x nu hx mD;refine ox mD λo1 o2 qX=>?_;clear mD;subst qX;rw [aI,aI] at hx;refine aK (aL.mp hx) λq' EJ ub=>?_;subst ub;refine aK (aL.mp EJ) λq hq mO=>?_;subst mO;refine i7 (cw rfl rfl (aQ (i:=1) (j:=3) he .loc rfl (cw rfl rfl (aQ (i:=1) (j:=4) he .loc rfl (iX ?_)))));have PF:q.1∉(a_.take i).map (·.1):=λh=>by
   have e1:a_=a_.take i++q::a_.drop (i+1):=gh hq;rw [e1,bh,bA,bO] at ha;exact ha.2.2 _ h _ aa rfl
  refine aC (qx (i:=0) (ah (j:=4) he .loc (ab _ aa) rfl) (ah (j:=2) he .loc (ab _ aa) rfl) (ah (j:=3) he .loc (ab _ aa) rfl) rfl (SL _ (by simp;lia)) ?_);refine bB ⟨ae (.str q.1),ae (.int q.2),?_⟩;refine ai (Dq PF ..) ?_;refine ai (dG ..) ?_;refine ai (hq ..) ?_;rfl
 ·intro nu sj;refine ox sj λo1 o2 zh=>?_;clear sj;subst zh;refine bB ?_;refine ai (ak ..) ?_;refine ai (ak ..) ?_;refine ai (cL ..) ?_;refine aC (jN (ctx:=[]) (xs:=(b_.map λq=>(q.1,V.int q.2)).map λq=> .tup [.str q.1,q.2]) (λi nu=>∃o1 o2,nu=cE D ((oL a_ (b_.take i)).map λq=>(q.1,V.int q.2))::bq L (aM (L+1) (bj (cO 14)).names) [ae (cV a_),ae (cV b_),ae (.ref D),o1,o2]::e9)
   (AD (f7 (ah (j:=1) he .loc (ab _ aa) rfl) rL aT Dp (by exact vp) (by exact Jz) (by exact b9) rfl)) (by lia) ⟨o1,o2,rfl⟩ (λi nu h o ho=>(el ho)) ?_ ?_)
  ·intro i x nu hx EK;refine ox EK λo1 o2 MO=>?_;clear EK;subst MO;rw [aI,aI] at hx;refine aK (aL.mp hx) λq' EJ SI=>?_;subst SI;refine aK (aL.mp EJ) λq hq SJ=>?_;subst SJ;have hlc:(oL a_ (b_.take i)).length<=2000:=by
    have:=Ih a_ (b_.take i);have h3:(b_.take i).length<=b_.length:=by refine ai (dD ..) ?_;exact ot _ _
    lia
   have hnd:=Ds (b:=b_.take i) ha;have MP:oL a_ (b_.take (i+1))=uL (oL a_ (b_.take i)) q:=by (refine ai (dG ..) ?_;refine ai (hq ..) ?_);simp [oL]
   generalize oL a_ (b_.take i)=c at hlc hnd MP ⊢;refine i7 (cw rfl rfl (aQ (i:=1) (j:=3) he .loc rfl (cw rfl rfl (aQ (i:=1) (j:=4) he .loc rfl (iX ?_)))));refine aC (iY (da (ah (j:=3) he .loc (ab _ aa) rfl) (wC (ah (j:=2) he .loc (ab _ aa) rfl) aa) Kq) (λh=>?_) λh=>?_)
   ·rw [BR] at h;obtain ⟨p0,JN⟩:∃p0,c.find? (λp=>p.1=q.1)=ae p0:=by
     cases hc:c.find? (λp=>p.1=q.1) with
     |none=>rw [hc] at h;exact vy h
     |some p0=>exact ⟨p0,rfl⟩
    refine aC (iY (kT (ej (j3 H he H.b_isinstance rfl) (au (ah (j:=4) he .loc (ab _ aa) rfl) (au (iO H he H.b_tuple rfl) aT)) BP) qr) (λh=>(vy h)) λz=>?_);refine aC (N8 (i:=0) (y0:= .int p0.2) (ah (j:=2) he .loc (ab _ aa) rfl) (ah (j:=3) he .loc (ab _ aa) rfl) rfl (by (refine ai (BR ..) ?_;refine ai (JN ..) ?_);rfl) (ah (j:=4) he .loc (ab _ aa) rfl) FF (SL _ (by simp;exact aw (by assumption) (by decide))) ?_);refine bB (bB (bB ⟨ae (.str q.1),ae (.int q.2),?_⟩));refine ai (Kx hnd JN ..) ?_;refine ai (MP ..) ?_;rfl
   ·rw [BR] at h;have hnone:c.find? (λp=>p.1=q.1)=av:=by
     cases hc:c.find? (λp=>p.1=q.1) with
     |none=>rfl
     |some p0=>rw [hc] at h;exact JU h
    refine aC (qx (i:=0) (ah (j:=4) he .loc (ab _ aa) rfl) (ah (j:=2) he .loc (ab _ aa) rfl) (ah (j:=3) he .loc (ab _ aa) rfl) rfl (SL _ (by simp;exact aw (by assumption) (by decide))) ?_);refine bB (bB ⟨ae (.str q.1),ae (.int q.2),?_⟩);have hnot:q.1∉c.map (·.1):=λh=>by
     refine aK (aG.mp h) λp hp hp2=>?_;have:=Af.mp hnone p hp;simp [hp2] at this
    refine ai (Dq hnot ..) ?_;refine ai (MP ..) ?_;have:uL c q=c++[q]:=by delta uL;rw [if_neg];intro h;exact aK (cT.mp h) λp hp hp2=>hnot (aG.mpr ⟨p,hp,by simpa using hp2⟩)
    refine ai (this ..) ?_;rfl
  ·intro nu PB;refine ox PB λo1 o2 SK=>?_;clear PB;subst SK;refine bB ?_;refine ai (ak ..) ?_;refine ai (ak ..) ?_;refine ai (cL ..) ?_;refine aC (gy (cg (ah (j:=2) he .loc (ab _ aa) rfl) ?_));exact jJ.dict (gW _ _) ⟨rfl,rfl⟩
end lH
theorem lH{a b:List (bc×Int)}:lH.S0 k mu a b:=by with_unfolding_all exact vx _ _ _ _ lH.S0 @lH.T0 k mu a b
theorem ju{f:bc}{a:ay}{ob:oX}{fd:cn}(hf:PE k mu env (.Name f p) (.ref a))(h0:G.Z0 a=ae ob)(hd:ob.data= .func fd)(ha:tx k mu env (e::es) (ys.map bZ))(hF:FW k mu (.ref a) ys λv nu=>v=y/\nu=mu)(hs:∀a p,e≠ .Starred a p:=by intro z z h;cases h):
 PE k mu env (.Call (.Name f p) (e::es) [] pos) y:=J5 hf h0 hd ha hF.fn hs
noncomputable abbrev Qh(a b c d:Int)(q:List (bc×Int)):V:= .tup [.int a,.int b,.int c,.int d,cV q]
theorem Oa(H:Hy G){a b c d a' b' c' d':Int}{q q':List (bc×Int)}(hn:(q.map (·.1)).Nodup)(hl:q.length<=1000)(hl':q'.length<=1000):
 FW (k+3) mu (.ref 256) [Qh a b c d q,Qh a' b' c' d' q'] λy nu=>y=Qh (a'+a) (b'+b) (c'+c) (d'+d) (oL q q')/\nu=mu:=by
 refine te H H.f256 (names:=["target","source"]) (vals':=λL=>[ae (Qh a b c d q),ae (Qh a' b' c' d' q'),av,av,av,av,av,av,av,av,av,av]) (λpm cd doc vs h=>?_) (by decide+kernel) rfl (λpm cd doc L=>?_) (λpm cd doc L he=>?_)
 ·exact zM h λa b=>rfl
 ·exact .cons (j:=0) .loc rfl (.cons (j:=1) .loc rfl .nil)
 refine aC (ig (cg cP ?_));refine aC (bX (ah (j:=1) he .loc aa rfl) (i7 (cw rfl rfl (aQ (i:=0) (j:=2) he .loc rfl (cw rfl rfl (aQ (i:=0) (j:=3) he .loc rfl (cw rfl rfl (aQ (i:=0) (j:=4) he .loc rfl (cw rfl rfl (aQ (i:=0) (j:=5) he .loc rfl (cw rfl rfl (aQ (i:=0) (j:=6) he .loc rfl (iX ?_)))))))))))) rfl rfl);refine aC (bX (ah (j:=0) he .loc aa rfl) (i7 (cw rfl rfl (aQ (i:=0) (j:=7) he .loc rfl (cw rfl rfl (aQ (i:=0) (j:=8) he .loc rfl (cw rfl rfl (aQ (i:=0) (j:=9) he .loc rfl (cw rfl rfl (aQ (i:=0) (j:=10) he .loc rfl (cw rfl rfl (aQ (i:=0) (j:=11) he .loc rfl (iX ?_)))))))))))) rfl rfl);refine cu (H.f263.go) λob TU cd' Jh h0 hd z=>aC (gy (cg (f9 (xs:=[.int (a'+a),.int (b'+b),.int (c'+c),.int (d'+d),cV (oL q q')]) (au (br (cQ (ah (j:=2) he .loc aa rfl)) (cQ (ah (j:=7) he .loc aa rfl)) (by exact fB)) (au (br (cQ (ah (j:=3) he .loc aa rfl)) (cQ (ah (j:=8) he .loc aa rfl)) (by exact fB)) (au (br (cQ (ah (j:=4) he .loc aa rfl)) (cQ (ah (j:=9) he .loc aa rfl)) (by exact fB)) (au (br (cQ (ah (j:=5) he .loc aa rfl)) (cQ (ah (j:=10) he .loc aa rfl)) (by exact fB)) (au (ju (ys:=[cV q,cV q']) (ml H he H.m_callers rfl) h0 hd (au (ah (j:=11) he .loc aa rfl) (au (ah (j:=6) he .loc aa rfl) aT)) ((lH H hn hl hl').mono λy nu h=>⟨h.2,h.1⟩)) aT))))) (bg rfl)) (kh ⟨rfl,rfl⟩)))
noncomputable def nE(m:Nat):List Nat:=(aN 33).filter m.testBit
noncomputable def iw(m i:Nat):List Nat:=(aN i).filter m.testBit
noncomputable def lE(m i:Nat):Nat:=m / 2 ^ i*2 ^ i
theorem FH(m:Nat):lE m 0=m:=by simp [lE]
theorem Dt(m i:Nat):m / 2 ^ i=2*(m / 2 ^ (i+1))+(m.testBit i).toNat:=by
 have h1:m / 2 ^ (i+1)=m / 2 ^ i / 2:=by rw [CD,Nat.div_div_eq_div_mul]
 have h2:(m.testBit i).toNat=m / 2 ^ i % 2:=by rw [fu];have:=JA (m / 2 ^ i);rcases this with h|h <;> simp [h]
 rw [h1,h2];lia
theorem xY(m i:Nat):lE m i=lE m (i+1)+(m.testBit i).toNat*2 ^ i:=by unfold lE;rw [Dt m i,iT,CD];congr 1;rw [q8 2,jX,q8 2]
theorem Kz(a i:Nat):a &&& 2 ^ i=(a.testBit i).toNat*2 ^ i:=by
 apply xn;intro j;rw [GK,lB];by_cases Bn:i=j
 ·subst Bn;cases h:a.testBit i
  ·simp
  ·simp [lB]
 ·cases h:a.testBit i
  ·simp [Bn]
  ·simp [Bn,lB]
theorem Ii(m i:Nat):lE m i &&& 2 ^ i=(m.testBit i).toNat*2 ^ i:=by rw [Kz];congr 2;unfold lE;rw [q8,NG];simp;rw [fu]
theorem oM(m i:Nat):iw m (i+1)=iw m i++(if m.testBit i then [i] else []):=by
 unfold iw;rw [qd,fX];congr 1;rw [hZ]
 split <;> simp
theorem Dv{m i:Nat}(hi:i<=33)(h:m / 2 ^ i=0):iw m i=nE m:=by
 have:∀n,iw m (i+n)=iw m i:=by
  intro n;induction n with
  |zero=>rfl
  |succ n ih=>
   have hz:m.testBit (i+n)=aH:=by
    rw [fu];have:m < 2 ^ i:=by
     rcases gX m (2 ^ i) with h'|h'
     ·exact h'
     ·have:=Nat.div_pos h' (qe i);lia
    have h2:m / 2 ^ (i+n)=0:=Nat.div_eq_of_lt (cc this (e7 (by decide) (by exact dE _ _)));simp [h2]
   rw [<- l0,oM,hz,ih];simp
 have h2:=this (33 - i);rw [show i+(33 - i)=33 by lia] at h2;exact h2.symm
noncomputable def cC(i:Nat):bc:=if i < 10 then oz.getD i "" else Ju "0x" 16 ((2 ^ i:Nat):Int)
noncomputable def rN(m:Nat):bc:=fO ", " ((nE m).map cC)
theorem BS:∀i,i < 33->(cC i).length<=20:=by decide+kernel
theorem FI:∀i,i < 33->(vk qv ((1:Int)*2 ^ ((i:Nat):Int).toNat)).isSome=decide (i < 10)/\(i < 10->vk qv ((1:Int)*2 ^ ((i:Nat):Int).toNat)=ae (.str (cC i) (254+2*i))):=by decide+kernel
theorem Rp(i:Nat)(h:¬i < 10):Ju "0x" 16 ((1:Int)*2 ^ ((i:Nat):Int).toNat)=cC i:=by
 unfold cC;refine ai (if_neg h ..) ?_;refine ai (sN ..) ?_;refine ai (b8 ..) ?_
 norm_cast
theorem Rq(i:Nat)(h:i < 32):(Ju "0x" 16 ((1:Int)*2 ^ ((i:Nat):Int).toNat)).length<=er:=by
 have:∀i,i < 32->(Ju "0x" 16 ((1:Int)*2 ^ ((i:Nat):Int).toNat)).length<=20:=by decide+kernel
 exact aw (this i h) (by show _<=2 ^ 24;decide)
theorem BU(m:Nat):M7 ", " ((nE m).map cC)=aJ:=by
 refine joinOk_of ?_;have h1:∀l:List Nat,(∀i∈l,i < 33)->((l.map cC).map (·.length)).sum<=l.length*20:=by
  intro l;induction l with
  |nil=>intro z;simp
  |cons a l ih=>intro h;have:=ih λi hi=>h i (ab _ hi);have:=BS a (h a aa);simp only [bA,df,bJ];lia
 have h2:=h1 (nE m) λi hi=>aY.mp (bl.mp hi).1;have h3:(nE m).length<=33:=by have:=bu m.testBit (aN 33);exact this
 have h4:(", ":bc).length=2:=rfl;refine ai (ak ..) ?_;refine ai (h4 ..) ?_;lia
theorem FJ(H:Hy G){i:Nat}(hi:i < 32){d:bc}(hd:¬i < 10->d=cC i):Fn k mu (.builtin "dict.get") [bZ (.ref 65),bZ (.int (1*2 ^ ((i:Nat):Int).toNat)),bZ (.str d)] (bZ (.str (cC i))):=⟨λ{A E Z s fr vs Q} hA r hq q=>by
 refine lG (hq.three) λv u w dP q1 q2 q3=>?_;subst dP;refine ai (aZ.refE q1 ..) (cK (gG q2) λtk eT=>?_);subst eT;refine cK (gV q3) λnx gi=>?_;subst gi;have hD:=H.flagD.2 s.heap r.z0in;refine Jy F.slot_dict_get hD.typeIs F.entry_dict_get (F.args_dict_get_3 _ _ _) (meets_dict_get_default (knd:=lr G.prog G.w) (d:=65) (hkey:=GL G.prog G.w _ tk) (hd:=H.flagD.1) (dflt:=_)) ⟨_,hD.mapOf,?_⟩;refine dU (FI i (cJ hi)) λh1 h2=>?_;by_cases h:i < 10
 ·exact ai (h2 h ..) (q .rfl (aZ.str _ _) r.toks)
 ·have:vk qv ((1:Int)*2 ^ ((i:Nat):Int).toNat)=av:=by
   cases hv:vk qv ((1:Int)*2 ^ ((i:Nat):Int).toNat) with
   |none=>rfl
   |some _=>rw [hv] at h1;exact absurd (of_decide_eq_true h1.symm) h
  refine ai (this ..) ?_;refine ai (hd h ..) ?_;exact q .rfl (aZ.str _ _) r.toks⟩
theorem KA(H:Hy G):Ty mu (bZ (.ref 65)) "dict":=⟨λZ s fr v r h=>by
 exact cF (H.flagD.2 s.heap r.z0in) λo es ep h1 h2 z=>aZ.refE h▸Ty.at h1 h2.1 h2.2.1⟩
theorem xZ(m i:Nat):lY ((lE m i:Nat):Int) (1*2 ^ ((i:Nat):Int).toNat)=(((m.testBit i).toNat*2 ^ i:Nat):Int):=by
 have h:(1:Int)*2 ^ ((i:Nat):Int).toNat=((2 ^ i:Nat):Int):=by (refine ai (sN ..) ?_;refine ai (b8 ..) ?_);norm_cast
 refine ai (h ..) ?_;refine ai (bitAnd_pp (dK _) (dK _) ..) ?_;refine ai (b8 ..) ?_;refine ai (b8 ..) ?_;refine ai (Ii ..) ?_;rfl
theorem KB{m i:Nat}(h:m.testBit i=aJ):Builtin.bitXor ((lE m i:Nat):Int) (1*2 ^ ((i:Nat):Int).toNat)=((lE m (i+1):Nat):Int):=by
 refine ai (bitXor_and ..) ?_;refine ai (xZ ..) ?_;refine ai (h ..) ?_;have h2:(1:Int)*2 ^ ((i:Nat):Int).toNat=((2 ^ i:Nat):Int):=by (refine ai (sN ..) ?_;refine ai (b8 ..) ?_);norm_cast
 have h3:=xY m i;rw [h] at h3;refine ai (h2 ..) ?_;simp only [GM,xo] at h3 ⊢;lia
noncomputable abbrev pfFr(L:ay)(f:Int)(D:ay)(o1 o2:Option V):cY:=bq L (aM (L+1) (bj (cO 4)).names) [ae (.int f),ae (.ref D),o1,o2]
noncomputable abbrev Ij(l:List Nat):List V:=l.map λi=>V.str (cC i)
def oN.S0(k:Nat)(mu:Mu)(m _:Nat):Prop:=∀(H:Hy G) (h0:m≠0) (hm:m < 2 ^ 33),FW (k+2) mu (.ref 72) [nV m] λy nu=>y= .str (rN m)/\nu=mu
namespace oN
@[irreducible] def e0:=GT eO gE eO eO S0
def k_:=e0.1
def e9:=e0.2.1
def m_:=e0.2.2.1
theorem T0:S0 k_ e9 m_ e0.2.2.2:=by
 intro H h0 hm;refine te H H.f72 (names:=["flags"]) (vals':=λL=>[ae (nV m_),av,av,av]) (λpm cd doc vs h=>?_) (by decide+kernel) rfl (λpm cd doc L=>?_) (λpm cd doc L he=>?_)
 ·exact uK h λa=>rfl
 ·exact .cons (j:=0) .loc rfl .nil
 have fm:∀{a b:cY} {l:Mu},b∈a::b::l:=ab _ aa;have fin:∀D f o1 o2,WS (k_+1) (bk D (Ij (nE m_))::pfFr L f D o1 o2::e9) (dT (xu (cO 4) pm cd doc) 72 L) ((fR (cO 4)).drop 3) (lD λy nu=>y= .str (rN m_)/\nu=e9):=λD f o1 o2=>by
  refine aC (gy (cg (y:= .str (rN m_)) (f7 (cQ cP) (by exact mJ) (au (uB (ah (j:=1) he .loc fm rfl) aa) aT) (by exact rJ (f:=cC) (BU m_)) (by exact eN) (by exact ny) (by exact b9) rfl) ?_));exact jJ.tail (jJ.tail (jJ.keep ⟨rfl,rfl⟩))
 refine aC (ig (cg cP ?_));refine aC (b4 (sy (xs:=[]) aT (bg rfl) (λD=>fK.ref (aQ (i:=1) (j:=1) he .loc rfl ?_))) rfl rfl);refine aC (jN (ctx:=[]) (xs:=(aN 32).map λ(i:Nat)=>V.int i) (λi nu=>m_ / 2 ^ i≠0/\∃o1 o2,nu=bk D (Ij (iw m_ i))::pfFr L (lE m_ i:Nat) D o1 o2::e9)
  (fJ (iO H he H.b_range rfl) aU rfl (by decide)) (by lia) ⟨by simpa using h0,av,av,by refine ai (FH ..) ?_;rfl⟩ (λi nu h o ho=>(el ho)) ?_ ?_)
 ·intro i x nu hx iC;refine vt iC λhnz o1 o2 kF=>?_;clear iC;subst kF;rw [aI] at hx;refine aK (aL.mp hx) λi' hi' l9=>?_;subst l9;refine cK (aB.mp hi') λhlt he2=>?_;have hii:i'=i:=by refine fZ (he2 ..) ?_;simp
  subst hii;have hi32:i' < 32:=by exact hlt
  have hlb:(iw m_ i').length<=32:=by have:=bu m_.testBit (aN i');simp [iw] at this ⊢;lia
  refine aQ (i:=1) (j:=2) he .loc rfl (aC (bX (br (cQ aU) (cQ (ah (j:=2) he .loc fm rfl)) (by exact J3 (by exact dK _) (by lia) (by decide))) (aQ (i:=1) (j:=3) he .loc rfl ?_) rfl rfl));refine aC (iY (kT (cQ (br (cQ (ah (j:=0) he .loc fm rfl)) (cQ (ah (j:=3) he .loc fm rfl)) (by exact qp))) (by exact xK)) (λh=>?_) λh=>?_)
  ·rw [xZ] at h;have hb:m_.testBit i'=aJ:=by
    cases hb:m_.testBit i'
    ·rw [hb] at h;simp at h
    ·rfl
   refine aC (ig (mY (ah (j:=1) he .loc fm rfl) (j4 (xs:=Ij (iw m_ i')) aa) (au (f7 (ml H he H.m_names rfl) (KA H) (au (ah (j:=3) he .loc fm rfl) (au (ej (j3 H he H.b_hex rfl) (au (ah (j:=3) he .loc fm rfl) aT) (by exact Kk (Rq i' hi32))) aT)) (by exact FJ H hi32 (λh=>Rp i' h)) (by exact vp) (by exact F.slot_dict_get) (by exact b9) rfl) aT) (kz (i:=0) (y:= .str (cC i')) rfl (by simp;exact b7 (by assumption) (by decide)) ?_) (by exact fP) (by exact iU) (by exact b9) rfl));refine aC (rM (i:=1) (j:=0) he .loc rfl rfl (ah (j:=3) he .loc fm rfl) Rl ?_);refine ai (KB hb ..) ?_;have TV:iw m_ (i'+1)=iw m_ i'++[i']:=by (refine ai (oM ..) ?_;refine ai (hb ..) ?_);rfl
   have hdv:m_ / 2 ^ (i'+1)=0↔lE m_ (i'+1)=0:=by
    unfold lE;have:=qe (i'+1);constructor
    ·intro h;refine ai (h ..) ?_;simp
    ·intro h;rcases Nat.mul_eq_zero.mp h with h|h
     ·exact h
     ·lia
   refine aC (iY (Fo (kT (ah (j:=0) he .loc fm rfl) xK)) (λh2=>?_) λh2=>?_)
   ·have hz:lE m_ (i'+1)=0:=by simpa using h2
    refine aC (Q8 ?_);have hb2:=Dv (m:=m_) (i:=i'+1) (by lia) (hdv.mpr hz);show WS (k_+1) (bk D (Ij (iw m_ i')++[.str (cC i')])::_::e9) _ _ _;refine ai (show Ij (iw m_ i')++[.str (cC i')]=Ij (nE m_) by rw [<- hb2,TV];simp [Ij]) ?_;exact fin D _ _ _
   ·refine bB (bB (bB ⟨λh3=>?_,ae (.int i'),ae (.int (1*2 ^ ((i':Nat):Int).toNat)),?_⟩))
    ·have:=hdv.mp h3;rw [this] at h2;simp at h2
    ·refine ai (TV ..) ?_;simp only [Ij,bh];rfl
  ·rw [xZ] at h;have hb:m_.testBit i'=aH:=by
    cases hb:m_.testBit i'
    ·rfl
    ·rw [hb] at h;have h4:=qe i';simp only [GM,xo,bne_eq_false_iff_eq] at h;have h5:=Int.natCast_eq_zero.mp h;lia
   have hr:=xY m_ i';have hd:=Dt m_ i';rw [hb] at hr hd;refine bB (bB ⟨λh3=>hnz (by (refine ai (hd ..) ?_;refine ai (h3 ..) ?_);rfl),ae (.int i'),ae (.int (1*2 ^ ((i':Nat):Int).toNat)),?_⟩);refine ai (oM ..) ?_;refine ai (hb ..) ?_;refine ai (show lE m_ (i'+1)=lE m_ i' by simpa using hr.symm) ?_;simp only [dk,if_false,cz];rfl
 ·intro nu mD;refine vt mD λhnz o1 o2 qX=>?_;clear mD;subst qX;have hlen:((aN 32).map λ(i:Nat)=>V.int i).length=32:=by rfl
  rw [hlen] at hnz ⊢;have h1:m_ / 2 ^ 32=1:=by have:m_ / 2 ^ 32 < 2:=Nat.div_lt_of_lt_mul (by assumption);lia
  have hrm:lE m_ 32=2 ^ 32:=by unfold lE;(refine ai (h1 ..) ?_;rfl)
  have hb:m_.testBit 32=aJ:=by (refine ai (fu ..) ?_;refine ai (h1 ..) ?_);rfl
  have TV:nE m_=iw m_ 32++[32]:=by show iw m_ 33=_;(refine ai (oM ..) ?_;refine ai (hb ..) ?_);rfl
  have hlb:(iw m_ 32).length<=32:=by have:=bu m_.testBit (aN 32);exact this
  refine ai (hrm ..) (aC (ig (mY (ah (j:=1) he .loc fm rfl) (j4 (xs:=Ij (iw m_ 32)) aa) (au (ej (j3 H he H.b_hex rfl) (au (ah (j:=0) he .loc fm rfl) aT) (by exact Kk (by decide+kernel))) aT) (kz (i:=0) (y:= .str (cC 32)) rfl (by simp;exact b7 (by assumption) (by decide)) ?_) (by exact fP) (by exact iU) (by exact b9) rfl)));refine bB ?_;show WS (k_+1) (bk D (Ij (iw m_ 32)++[.str (cC 32)])::_::e9) _ _ _;refine ai (show Ij (iw m_ 32)++[.str (cC 32)]=Ij (nE m_) by rw [TV];simp [Ij]) ?_;exact fin D _ _ _
end oN
theorem oN{m:Nat}:oN.S0 k mu m 0:=by with_unfolding_all exact vx _ _ _ _ oN.S0 @oN.T0 k mu m 0
section
open PySem.StrLaws
noncomputable def glue:List (List Nat)->List Nat
 |[]=>[]
 |[t]=>t
 |t::u::r=>t++[44,32]++glue (u::r)
theorem ya(sep:List Nat):∀(ts:List (List Nat)) (acc:List Nat),ts.foldl (λacc p=>acc++sep++p) acc=acc++(ts.flatMap λp=>sep++p)
 |[],acc=>by simp
 |t::ts,acc=>by (refine ai (fE ..) ?_;refine ai (ya sep ts ..) ?_);simp
theorem He:∀(t:List Nat) (ts:List (List Nat)),glue (t::ts)=t++(ts.flatMap λp=>[44,32]++p)
 |t,[]=>(cz t).symm
 |t,u::r=>by
  show t++[44,32]++glue (u::r)=_;refine ai (He u r ..) ?_;exact (bU ..).trans (congrArg (t++·) (bU [44,32] u _).symm)
theorem yb(t:bc)(ts:List bc):(fO ", " (t::ts)).cps.toList=glue ((t::ts).map (·.cps.toList)):=by
 have h:∀(ts:List bc) (acc:Array Nat),(ts.foldl (λacc p=>acc++(", ":bc).cps++p.cps) acc).toList=(ts.map (·.cps.toList)).foldl (λacc p=>acc++[44,32]++p) acc.toList:=by
  intro ts;induction ts with
  |nil=>intro acc;rfl
  |cons u ts ih=>
   intro acc;refine ai (fE ..) ?_;refine ai (ih ..) ?_;refine ai (bA ..) ?_;refine ai (fE ..) ?_;have:(acc++(", ":bc).cps++u.cps).toList=acc.toList++[44,32]++u.cps.toList:=by simp;rfl
   refine ai (this ..) ?_;rfl
 show ((ts.foldl (λacc p=>acc++(", ":bc).cps++p.cps) t.cps).toList)=_;refine ai (h ..) ?_;refine ai (ya ..) ?_;refine ai (bA ..) ?_;refine ai (He ..) ?_;rfl
theorem Dw{x:bc}{i:Nat}(h:At x ", " x.length i):x.cps.toList[i]? =ae 44:=by
 refine dU h λh1 h2=>?_;clear h;have hl:(", ":bc).length=2:=rfl;unfold Builtin.Str.subAt at h2;have h3:=jD h2;rw [hl] at h3 h1;have h4:(x.cps.extract i (i+2))[0]? =ae 44:=by refine ai (h3 ..) ?_;rfl
 rw [Array.getElem?_extract] at h4
 split at h4
 ·simpa using h4
 ·exact gL h4
theorem at_of{x:bc}{i:Nat}{r:List Nat}(h:x.cps.toList.drop i=44::32::r):At x ", " x.length i:=by
 have hl:(", ":bc).length=2:=rfl;have hlen:x.length=x.cps.toList.length:=rfl;have h0:=congrArg kL h;rw [fY] at h0;simp only [bJ] at h0;refine ⟨by (refine ai (hl ..) ?_;refine ai (hlen ..) ?_);lia,?_⟩;unfold Builtin.Str.subAt;refine ai (hl ..) ?_;have:(x.cps.extract i (i+2)).toList=[44,32]:=by refine ai (xp ..) ?_;simp only [JQ];refine ai (h ..) (ai (show i+2 - i=2 by lia) ?_);rfl
 exact gj (beq_iff_eq ..) (uj.mp (this.trans rfl))
theorem rO(x:bc)(a c:Nat):(fj x a c).cps.toList=(x.cps.toList.drop a).take (c - a):=by unfold fj;refine ai (xp ..) ?_;refine ai (JQ ..) ?_;rfl
theorem yc(x:bc):∀(ts:List bc) (a:Nat) (Ji:List Nat) (f:Nat),ts≠[]->(∀t∈ts,44∉t.cps.toList)->a<=x.length->x.cps.toList.drop a=glue (ts.map (·.cps.toList))->
 ChainG x ", " x.length a Ji f->(∀k,f<=k->¬At x ", " x.length k)->partsFrom x 2 a Ji=ts
 |[],_,_,_,h,_,_,_,_,_=>absurd rfl h
 |[t],a,Ji,f,_,hc,ha,hd,QE,hf=>by
  have Bo:∀k,a<=k->¬At x ", " x.length k:=λk hk hA=>by
   have h1:=Dw hA;have h2:(x.cps.toList.drop a)[k - a]? =ae 44:=by (refine ai (Ah ..) ?_;refine ai (show a+(k - a)=k by lia) ?_);exact h1
   rw [hd] at h2;exact hc t aa (ao h2)
  cases Ji with
  |cons c r=>exact absurd QE.2.1 (Bo c QE.1)
  |nil=>
   show [fj x a x.length]=[t];congr 1;have:(fj x a x.length).cps.toList=t.cps.toList:=by refine ai (rO ..) ?_;refine ai (hd ..) ?_;show t.cps.toList.take _=_;refine d6 ?_;have h0:=congrArg kL hd;rw [fY] at h0;have h9:x.length=x.cps.toList.length:=rfl;have h0:_=t.cps.toList.length:=h0;lia
   cases t;exact congrArg Str.mk (uj.mp this)
 |t::u::ts,a,Ji,f,_,hc,ha,hd,QE,hf=>by
  have hxl:x.length=x.cps.toList.length:=rfl;have hd':x.cps.toList.drop a=t.cps.toList++(44::32::glue ((u::ts).map (·.cps.toList))):=by exact hd.trans (bU ..)
  have hd2:x.cps.toList.drop (a+t.cps.toList.length)=44::32::glue ((u::ts).map (·.cps.toList)):=by refine fZ (JB ..) ?_;refine ai (hd' ..) ?_;refine ai (List.drop_left ..) ?_;rfl
  have hA:=at_of hd2;have Bo:∀k,a<=k->k < a+t.cps.toList.length->¬At x ", " x.length k:=λk h1 h2 hA=>by
   have h3:=Dw hA;have h4:(x.cps.toList.drop a)[k - a]? =ae 44:=by (refine ai (Ah ..) ?_;refine ai (show a+(k - a)=k by lia) ?_);exact h3
   rw [hd',eE (by lia)] at h4;exact hc t aa (ao h4)
  cases Ji with
  |nil=>have:f=a:=QE;exact absurd hA (hf _ (by lia))
  |cons c r=>
   have hca:c=a+t.cps.toList.length:=by
    rcases sJ c (a+t.cps.toList.length) with h|h|h
    ·exact absurd QE.2.1 (Bo c QE.1 h)
    ·exact h
    ·exact absurd hA (QE.2.2.1 _ (by exact dE _ _) h)
   subst hca;have hd3:x.cps.toList.drop (a+t.cps.toList.length+2)=glue ((u::ts).map (·.cps.toList)):=by (refine fZ (JB ..) ?_;refine ai (hd2 ..) ?_);rfl
   have hle:a+t.cps.toList.length+2<=x.length:=hA.1;show fj x a (a+t.cps.toList.length)::partsFrom x 2 (a+t.cps.toList.length+2) r=t::u::ts;refine ai (yc x (u::ts) _ r f (by simp) (λv hv=>hc v (ab _ hv)) hle hd3 QE.2.2.2 hf ..) ?_;congr 1;have:(fj x a (a+t.cps.toList.length)).cps.toList=t.cps.toList:=by refine ai (rO ..) ?_;refine ai (hd' ..) ?_;refine ai (show a+t.cps.toList.length - a=t.cps.toList.length by lia) ?_;refine ai (List.take_left ..) ?_;rfl
   cases t;exact congrArg Str.mk (uj.mp this)
theorem vM{ts:List bc}(h0:ts≠[])(hc:∀t∈ts,44∉t.cps.toList):M8 (fO ", " ts) ", "=ts:=by
 obtain ⟨t,PG,rfl⟩:∃t PG,ts=t::PG:=by cases ts with|nil=>exact absurd rfl h0|cons t PG=>exact ⟨t,PG,rfl⟩
 refine aK (occ_tight (fO ", " (t::PG)) ", " (by decide)) λf h1 h2=>?_;have h3:=yc (fO ", " (t::PG)) (t::PG) 0 _ f h0 hc (gq _) (by (refine ai (fx ..) ?_;refine ai (yb ..) ?_;rfl)) h1 h2;generalize fO ", " (t::PG)=x at h1 h2 h3 ⊢;have whole:fj x 0 x.length=x:=by
  have:(fj x 0 x.length).cps.toList=x.cps.toList:=by refine ai (rO ..) ?_;exact d6 (bp _)
  cases x;exact congrArg Str.mk (uj.mp this)
 unfold M8;have MQ:(c7 x ", " 0 x.length (x.length+1))=[]->[x]=t::PG:=λh=>by
  rw [h] at h3;refine fZ (h3 ..) ?_;show [x]=[fj x 0 x.length];refine ai (whole ..) ?_;rfl
 split
 ·rename_i hk;refine MQ ?_;cases hcut:c7 x ", " 0 x.length (x.length+1) with
  |nil=>rfl
  |cons c r=>
   rw [hcut] at h1;have h4:=h1.2.1.1;have hl:(", ":bc).length=2:=rfl;have hs:mQ (", ":bc)=1:=by decide+kernel
   have hx1:¬mQ x < 1:=by unfold mQ;split <;> (try split) <;> lia
   rw [hl] at h4;rw [hl,hs] at hk;simp only [jU,decide_eq_true_eq] at hk;lia
 ·split
  ·rename_i hk;exact MQ (by simpa using hk)
  ·refine ai (partsBetween_eq ..) ?_;exact h3
end
theorem qz:∀i,i < 33->∀j,j < 33->cC i=cC j->i=j:=by decide+kernel
theorem Ik:∀i,i < 33->44∉(cC i).cps.toList:=by decide+kernel
noncomputable def eY(S:Nat):List Nat:=(aN 6).filter S.testBit
noncomputable def iy(low S:Nat):bc:=fO ", " ((eY S).map λb=>cC (low+b))
noncomputable def AE(p:Nat->Bool):Nat:=(p 0).toNat+(p 1).toNat*2+(p 2).toNat*4+(p 3).toNat*8+(p 4).toNat*16+(p 5).toNat*32
theorem Dx:∀a b c d e f:Bool,((a.toNat+b.toNat*2+c.toNat*4+d.toNat*8+e.toNat*16+f.toNat*32).testBit 0=a/\(a.toNat+b.toNat*2+c.toNat*4+d.toNat*8+e.toNat*16+f.toNat*32).testBit 1=b/\(a.toNat+b.toNat*2+c.toNat*4+d.toNat*8+e.toNat*16+f.toNat*32).testBit 2=c/\
 (a.toNat+b.toNat*2+c.toNat*4+d.toNat*8+e.toNat*16+f.toNat*32).testBit 3=d/\(a.toNat+b.toNat*2+c.toNat*4+d.toNat*8+e.toNat*16+f.toNat*32).testBit 4=e/\(a.toNat+b.toNat*2+c.toNat*4+d.toNat*8+e.toNat*16+f.toNat*32).testBit 5=f)/\
 a.toNat+b.toNat*2+c.toNat*4+d.toNat*8+e.toNat*16+f.toNat*32 < 64:=by decide
def kA.S0(p:Nat->Bool)(_:Nat):Prop:=∀{b:Nat} (h:b < 6),(AE p).testBit b=p b
namespace kA
@[irreducible] def e0:=P4 inferInstance eO S0
def p_:=e0.1
theorem T0:S0 p_ e0.2:=by intro b h;refine dU (Dx (p_ 0) (p_ 1) (p_ 2) (p_ 3) (p_ 4) (p_ 5)) λdP z=>JS dP λh0 h1 h2 h3 h4 h5=>?_;clear dP;delta AE;rcases (show b=0\/b=1\/b=2\/b=3\/b=4\/b=5 by lia) with rfl|rfl|rfl|rfl|rfl|rfl <;> assumption
end kA
theorem kA(p:Nat->Bool):kA.S0 p 0:=by with_unfolding_all exact Fh _ _ kA.S0 @kA.T0 p 0
theorem Dy(p:Nat->Bool):AE p < 64:=(Dx (p 0) (p 1) (p 2) (p 3) (p 4) (p 5)).2
theorem Dz(p:Nat->Bool)(f:Nat->Nat):∀l:List Nat,((l.filter p).map f).sum=(l.map λb=>(p b).toNat*f b).sum
 |[]=>rfl
 |a::l=>by
  refine ai (hZ ..) ?_;refine ai (bA ..) ?_;refine ai (df ..) ?_;refine fZ (Dz p f l ..) ?_;cases p a
  ·(refine ai (if_neg cG ..) ?_;refine ai (Bool.toNat_false ..) ?_;refine ai (q9 ..) ?_;refine ai (eC ..) ?_;rfl)
  ·(refine ai (if_pos rfl ..) ?_;refine ai (bA ..) ?_;refine ai (df ..) ?_;refine ai (GM ..) ?_;refine ai (xo ..) ?_;rfl)
theorem Il(p:Nat->Bool)(low:Nat):(((aN 6).filter p).map λb=>2 ^ (low+b)).sum=AE p*2 ^ low:=by
 refine ai (Dz ..) ?_;delta AE;show (p 0).toNat*2 ^ (low+0)+((p 1).toNat*2 ^ (low+1)+((p 2).toNat*2 ^ (low+2)+((p 3).toNat*2 ^ (low+3)+((p 4).toNat*2 ^ (low+4)+((p 5).toNat*2 ^ (low+5)+0)))))=_;have e:∀i,2 ^ (low+i)=2 ^ i*2 ^ low:=λi=>by (refine ai (Nat.pow_add ..) ?_;refine ai (q8 ..) ?_;rfl)
 rw [e,e,e,e,e,e,<- jX,<- jX,<- jX,<- jX,<- jX,<- jX,Nat.add_zero,<- iT,<- iT,<- iT,<- iT,<- iT];refine congrArg (·*2 ^ low) ?_;show (p 0).toNat*1+((p 1).toNat*2+((p 2).toNat*4+((p 3).toNat*8+((p 4).toNat*16+(p 5).toNat*32))))=_;rw [Nat.mul_one,<- l0,<- l0,<- l0,<- l0]
theorem BV{S low:Nat}(hS:S < 64)(hl:low < 28):nE (S*2 ^ low)=(eY S).map (low+·):=by
 delta nE eY;have h33:(33:Nat)=low+(6+(27 - low)):=by lia
 have QF:∀i,(S*2 ^ low).testBit i=(decide (low<=i) && S.testBit (i - low)):=λi=>by (refine ai (q8 ..) ?_;refine ai (NG ..) ?_;rfl)
 refine ai (h33 ..) ?_;refine ai (List.range_add ..) ?_;refine ai (List.range_add ..) ?_;refine ai (bh ..) ?_;refine ai (fX ..) ?_;refine ai (fX ..) ?_;have h1:(aN low).filter (S*2 ^ low).testBit=[]:=by refine gj (gY ..) ?_;intro i hi;refine ai (QF ..) ?_;refine ai (decide_eq_false (by have:=aY.mp hi;exact Nat.not_le.mpr (by assumption)) ..) ?_;simp
 have h3:(((aN (27 - low)).map (6+·)).map (low+·)).filter (S*2 ^ low).testBit=[]:=by refine gj (gY ..) ?_;intro i hi;refine aK (aG.mp hi) λj hj eT=>?_;subst eT;refine aK (aG.mp hj) λj' z gi=>?_;subst gi;refine ai (QF ..) ?_;refine ai (show low+(6+j') - low=6+j' by lia) ?_;have:S.testBit (6+j')=aH:=u6 (cc hS (by refine ai (show (64:Nat)=2 ^ 6 from rfl) ?_;exact e7 (by decide) (by exact dE _ _)));refine ai (this ..) ?_;simp
 refine ai (h1 ..) ?_;refine ai (h3 ..) ?_;refine ai (qf ..) ?_;refine ai (cz ..) ?_;refine ai (List.filter_map ..) ?_;congr 1;refine fy λb hb=>?_;simp only [l6];refine ai (QF ..) ?_;refine ai (show low+b - low=b by lia) ?_;simp
theorem rP{S low:Nat}(hS:S < 64)(hl:low < 28):rN (S*2 ^ low)=iy low S:=by delta rN iy;refine ai (BV hS hl ..) ?_;refine ai (a0 ..) ?_;rfl
theorem vN{S b:Nat}(h:b∈eY S):b < 6:=aY.mp (bl.mp h).1
theorem BX{S:Nat}(hS:S < 64)(h0:S≠0):eY S≠[]:=by
 have:∀S,S < 64->S≠0->eY S≠[]:=by decide+kernel
 exact this S hS h0
theorem oO{S low:Nat}(hS:S < 64)(h0:S≠0)(hl:low < 28):M8 (iy low S) ", "=(eY S).map λb=>cC (low+b):=by
 refine vM ?_ ?_
 ·intro h;exact BX hS h0 (jc.mp h)
 ·intro t ht;refine aK (aG.mp ht) λb hb iC=>?_;subst iC;exact Ik _ (by have:=vN hb;lia)
theorem DA:∀ts:List (List Nat),(glue ts).length<=(ts.map (·.length)).sum+2*ts.length
 |[]=>by decide
 |[t]=>by simp [glue]
 |t::u::r=>by
  have:=DA (u::r);rw [glue];simp only [ba,bJ,GN,bA,df] at this ⊢;lia
theorem KC:∀ts:List bc,(fO ", " ts).length<=(ts.map (·.length)).sum+2*ts.length
 |[]=>by show (0:Nat)<=_;exact gq _
 |t::ts=>by
  have h1:=DA ((t::ts).map (·.cps.toList));rw [<- yb] at h1;rw [a0,ak] at h1;exact h1
theorem vO{S low:Nat}(hl:low < 28):(iy low S).length<=200:=by
 delta iy;have h1:=KC ((eY S).map λb=>cC (low+b));have h2:∀l:List Nat,(∀b∈l,b < 6)->((l.map λb=>cC (low+b)).map (·.length)).sum<=l.length*20:=by
  intro l;induction l with
  |nil=>intro z;simp
  |cons a l ih=>intro h;have:=ih λi hi=>h i (ab _ hi);have:=BS (low+a) (by have:=h a aa;lia);simp only [bA,df,bJ];lia
 have h3:=h2 (eY S) λb hb=>vN hb;have h4:(eY S).length<=6:=by have:=bu S.testBit (aN 6);exact this
 rw [ak] at h1;lia
noncomputable def bD(low:Nat)(l:List Nat)(f:Nat->V):List (bc×V):=l.map λb=>(cC (low+b),f b)
theorem gb{low:Nat}{l:List Nat}{f:Nat->V}{b:Nat}(hl:low < 28)(h6:∀c∈l,c < 6)(hb:b∈l):me (bD low l f) (cC (low+b))=ae (f b):=by
 delta me bD;induction l with
 |nil=>exact el hb
 |cons c l ih=>
  refine ai (bA ..) ?_;refine ai (jV ..) ?_;by_cases hc:c=b
  ·subst hc;simp
  ·have iQ:cC (low+c)≠cC (low+b):=λe=>by
    have h1:=h6 c aa;have h2:=h6 b hb;have:=qz (low+c) (by lia) (low+b) (by lia) e;lia
   simp only [iQ,decide_false];exact ih (λc hc=>h6 c (ab _ hc)) (by rcases aP.mp hb with h|h;exact absurd h.symm hc;exact h)
theorem FK{low:Nat}{l:List Nat}{f:Nat->V}{b:Nat}{v:V}(hl:low < 28)(h6:∀c∈l,c < 6)(hb:b∈l):jE (bD low l f) (cC (low+b)) v=bD low l λc=>if c=b then v else f c:=by
 delta jE bD;refine ai (if_pos (by rw [CB,cT];exact ⟨b,hb,by simp⟩) ..) ?_;refine ai (a0 ..) ?_;refine b5 λc hc=>?_;simp only [l6];by_cases h:c=b
 ·subst h;simp
 ·have iQ:cC (low+c)≠cC (low+b):=λe=>by
   have h1:=h6 c hc;have h2:=h6 b hb;have:=qz (low+c) (by lia) (low+b) (by lia) e;lia
  refine ai (if_neg iQ ..) ?_;refine ai (if_neg h ..) ?_;rfl
theorem KD(low:Nat)(l:List Nat)(f:Nat->V):(bD low l f).length=l.length:=by exact ak ..
theorem pM{α:Type}{l:List α}{f:α->bc×V}(h:PE k mu env e (.dict (l.map f))):o7 k mu env e t [] (l.map λa=> .str (f a).1):=by
 have:=J9 (t:=t) h
 rwa [a0] at this
theorem nj{α:Type}(l:List α)(f:α->Int):(pd (l.map λa=>V.int (f a))).isSome=aJ:=by
 induction l with
 |nil=>rfl
 |cons a l ih=>show (Option.map (PyData.int (f a)::·) (pd (l.map λa=>V.int (f a)))).isSome=aJ;exact (Option.isSome_map ..).trans ih
noncomputable abbrev Cs:=List (Nat×Int)
noncomputable def FL(low:Nat)(c:Cs):V:= .dict (c.map λq=>(cC (low+q.1),V.int q.2))
structure Rw where
 a:Nat->Int
 b:Nat->Int
 c:Nat->Int
 d:Nat->Int
 cs:Nat->Cs
theorem Rt:Nonempty Rw:=⟨⟨λz=>0,λz=>0,λz=>0,λz=>0,λz=>[]⟩⟩
noncomputable abbrev rn(low:Nat)(B:Rw)(b:Nat):V:= .tup [.int (B.a b),.int (B.b b),.int (B.c b),.int (B.d b),FL low (B.cs b)]
noncomputable def fT(low:Nat)(B:Rw):List (bc×V):=bD low [1,2,3,4,5] (rn low B)
noncomputable def qA(low:Nat):List (bc×V):=bD low (aN 6) λb=>nV (2 ^ (low+b))
noncomputable def oo(low:Nat)(S:Nat->Nat):List (bc×V):=bD low (aN 6) λb=> .str (iy low (S b))
noncomputable def cU(S:Nat->Nat)(cs:Nat->Cs)(j:Nat):Nat:=AE λo=>o == j || (cs j).all λc=>(S c.1).testBit o
theorem Ob:∀S,S < 64->∀S',S' < 64->eY S=eY S'->S=S':=by decide+kernel
theorem Im{low S S':Nat}(hl:low < 28)(h:S < 64/\S≠0)(h':S' < 64/\S'≠0)(e:iy low S=iy low S'):S=S':=by
 have e1:=oO h.1 h.2 hl;rw [e,oO h'.1 h'.2 hl] at e1;refine Ob S h.1 S' h'.1 ?_;have key:∀l m:List Nat,(∀b∈l,b < 6)->(∀b∈m,b < 6)->(l.map λb=>cC (low+b))=(m.map λb=>cC (low+b))->l=m:=by
  intro l;induction l with
  |nil=>intro m z z h;exact (jc.mp h.symm).symm
  |cons a l ih=>
   intro m h1 h2 h3;cases m with
   |nil=>exact JV h3
   |cons c m=>simp only [bA,GO] at h3;have ha:=h1 a aa;have hc:=h2 c aa;have:=qz (low+a) (by lia) (low+c) (by lia) h3.1;refine ai (ih m (λb hb=>h1 b (ab _ hb)) (λb hb=>h2 b (ab _ hb)) h3.2 ..) ?_;congr 1;lia
 exact key _ _ (λb hb=>vN hb) (λb hb=>vN hb) e1.symm
theorem DB(S:Nat->Nat)(cs:Nat->Cs){j:Nat}(hj:j < 6):cU S cs j≠0:=by intro h;have:=kA (λo=>o == j || (cs j).all λc=>(S c.1).testBit o) hj;unfold cU at h;rw [h] at this;simp at this
theorem vP{low S o:Nat}(hl:low < 28)(ho:o < 6):((eY S).map λb=>cC (low+b)).any (· == cC (low+o))=S.testBit o:=by
 refine gj (cm ..) ?_;refine gj (cT ..) ?_;constructor
 ·intro dP;refine aK dP λz h1 h2=>?_;clear dP;refine aK (aG.mp h1) λb hb eT=>?_;subst eT;have h6:=vN hb;have:=qz (low+b) (by lia) (low+o) (by lia) (by simpa using h2);have hbo:b=o:=by lia
  subst hbo;exact (bl.mp hb).2
 ·intro h;exact ⟨cC (low+o),aG.mpr ⟨o,bl.mpr ⟨aY.mpr ho,h⟩,rfl⟩,by simp⟩
theorem rQ{low a b:Nat}(hl:low < 28)(ha:a < 6)(hb:b < 6):(cC (low+a) == cC (low+b))=(a == b):=by
 refine gj (cm ..) ?_;simp only [beq_iff_eq];constructor
 ·intro h;have:=qz (low+a) (by lia) (low+b) (by lia) h;lia
 ·rintro rfl;rfl
theorem yd{low S:Nat}(hl:low < 28):(Builtin.Str.partsBetween (iy low S) (c7 (iy low S) ", " 0 (iy low S).length ((iy low S).length+1)) (", ":bc).length).length<=er:=by refine ai (length_partsBetween ..) ?_;have h1:=StrLaws.occ_length_le (iy low S) ", " 0 (iy low S).length ((iy low S).length+1);have h2:=vO (S:=S) hl;show _<=2 ^ 24;lia
theorem tH{a b c d e:V}:Gi k mu (bZ (.tup [a,b,c,d,e])) (bZ (.int 4)) (bZ e):=Ki rfl (by show -((5:Nat):Int)<=4;decide) (by decide) (by show 5 < 2 ^ 62;decide)
def tI.S0(k:Nat)(mu:Mu)(low:Nat)(T:ay)(i:Nat)(S:Nat->Nat)(B:Rw)(j:Nat):Prop:=∀(H:Hy G) (hl:low < 28) (hi:mu[i]? =ae (cE T (oo low S))) (hS:∀b,S b < 64/\S b≠0) (QG:∀b,∀c∈B.cs b,c.1 < 6) (hlen:∀b,(B.cs b).length<=1000) (hj:j∈[1,2,3,4,5]),FW (k+4) mu (.ref 302) [.dict (fT low B),.ref T,.dict (qA low),.str (cC (low+j))] λy nu=>
 (cU S B.cs j=S j/\y= .list []/\nu=mu)\/(cU S B.cs j≠S j/\y= .list (([1,2,3,4,5].filter λo=>(B.cs o).any λc=>c.1 == j).map λo=> .str (cC (low+o)))/\nu=mu.set i (cE T (oo low λb=>if b=j then cU S B.cs j else S b)))
namespace tI
@[irreducible] def e0:=Nl eO gE eO cM eO inferInstance Rt eO S0
def k_:=e0.1
def e9:=e0.2.1
def gc:=e0.2.2.1
def T_:=e0.2.2.2.1
def i_:=e0.2.2.2.2.1
def S_:=e0.2.2.2.2.2.1
def B_:=e0.2.2.2.2.2.2.1
def j_:=e0.2.2.2.2.2.2.2
theorem T0:S0 k_ e9 gc T_ i_ S_ B_ j_:=by
 intro H hl hi hS QG hlen hj;refine te H H.f302 (names:=["book","table","flags","name"]) (vals':=λL=>[ae (.dict (fT gc B_)),ae (.ref T_),ae (.dict (qA gc)),ae (.str (cC (gc+j_))),av,av]) (λpm cd doc vs h=>?_) (by decide+kernel) rfl (λpm cd doc L=>?_) (λpm cd doc L he=>?_)
 ·exact Rk h λa b c d=>rfl
 ·exact .cons (j:=0) (.cell (L+1) "book") rfl (.cons (j:=1) (.cell (L+2) "table") rfl (.cons (j:=2) (.cell (L+3) "flags") rfl (.cons (j:=3) (.cell (L+4) "name") rfl .nil)))
 have h56:∀c∈[1,2,3,4,5],c < 6:=by decide
 have CP:∀c∈aN 6,c < 6:=λc hc=>aY.mp hc;have HK:j_ < 6:=h56 j_ hj;have hbk:∀o∈[1,2,3,4,5],me (fT gc B_) (cC (gc+o))=ae (rn gc B_ o):=λo ho=>gb hl h56 ho;have QF:∀o,o < 6->me (oo gc S_) (cC (gc+o))=ae (.str (iy gc (S_ o))):=λo ho=>gb hl CP (aY.mpr ho);have PH:∀o,o < 6->me (qA gc) (cC (gc+o))=ae (nV (2 ^ (gc+o))):=λo ho=>gb hl CP (aY.mpr ho);have hT:=ao hi;refine aC (bX (y:= .list ((B_.cs j_).map λc=> .list ((eY (S_ c.1)).map λb=> .str (cC (gc+b))))) (jO _ _ _ ⟨rfl,rfl,by decide+kernel,by decide+kernel⟩ (pM (l:=B_.cs j_) (f:=λq=>(cC (gc+q.1),V.int q.2)) (bE (bE (pJ (ah (j:=0) he (.cell (L+1) "book") aa rfl)) (ah (j:=3) he (.cell (L+4) "name") aa rfl) (mf (hbk j_ hj))) aU tH)) (by lia) (by have:=hlen j_;exact aw (by assumption) (by decide))
  (λC1 a ha=>iu 1 he.comp .loc dm (λhb=>bL (f7 (bE (wC (ah (j:=1) he.comp (.cell (L+2) "table") (ab _ aa) rfl) (ab _ (ab _ hT))) (ah (j:=1) he.comp .loc aa rfl) (mf (QF a.1 (QG j_ a ha)))) mJ (au cP aT) (ku rfl (by have:=vO (S:=S_ a.1) hl;show _<=2 ^ 24;exact aw (by assumption) (by decide)) (yd hl)) (by exact eN) (by exact jW) (by exact b9) rfl)
   (by (refine ai (oO (hS a.1).1 (hS a.1).2 hl ..) ?_;refine ai (a0 ..) ?_);rfl)))) (aQ (i:=0) (j:=4) he (.cell (L+5) "words") rfl ?_) rfl rfl)
 have SM:((((aN 6).filter λo=>o == j_ || (B_.cs j_).all λc=>(S_ c.1).testBit o).map λb=>((2 ^ (gc+b):Nat):Int)).sum)=((cU S_ B_.cs j_*2 ^ gc:Nat):Int):=by
  unfold cU;refine fZ (Il ..) ?_;generalize (aN 6).filter _=l;induction l with
  |nil=>rfl
  |cons a l ih=>(refine ai (bA ..) ?_;refine ai (df ..) ?_;refine ai (ih ..) ?_;refine ai (bA ..) ?_;refine ai (df ..) ?_;refine ai (Int.natCast_add ..) ?_;rfl)
 have SN:cU S_ B_.cs j_ < 64:=Dy _;have MR:=DB S_ B_.cs HK;have h33:cU S_ B_.cs j_*2 ^ gc < 2 ^ 33:=by
  have h1:2 ^ gc<=2 ^ 27:=e7 (by decide) (by exact CE (by assumption));have h2:=JC (show cU S_ B_.cs j_<=63 by exact CE (by assumption)) h1
  with_reducible exact b7 (by assumption) (by decide)
 have hne0:cU S_ B_.cs j_*2 ^ gc≠0:=by have:=qe gc;exact Nat.mul_ne_zero MR (by exact jI (by assumption))
 refine cu (H.f72.go) λob TU cd' Jh h0 hd z=>?_;have MS:∀nu:Mu,FW (k_+3) nu (.ref 72) [nV (cU S_ B_.cs j_*2 ^ gc)] λy nu'=>y= .str (iy gc (cU S_ B_.cs j_))/\nu'=nu:=λnu=>by
  have:=oN (k:=k_+1) (mu:=nu) H hne0 h33
  rwa [rP SN hl] at this
 have htest:∀o,o < 6->((o == j_) || ((((B_.cs j_).filter λc=>!((eY (S_ c.1)).map λb=>cC (gc+b)).any (· == cC (gc+o))).map λz=>V.int 1).isEmpty || false))=(o == j_ || (B_.cs j_).all λc=>(S_ c.1).testBit o):=λo ho=>by
  congr 1;refine ai (zB ..) ?_;refine ai (List.isEmpty_map ..) ?_;refine gj (cm ..) ?_;refine gj (uk ..) ?_;refine gj (gY ..) ?_;refine gj (fW ..) ?_;constructor
  ·intro h c hc;have:=h c hc;rw [vP hl ho] at this;simpa using this
  ·intro h c hc;refine ai (vP hl ho ..) ?_;refine ai (h c hc ..) ?_;decide
 refine aC (bX (y:= .str (iy gc (cU S_ B_.cs j_))) (ju (ys:=[nV (cU S_ B_.cs j_*2 ^ gc)]) (ml H he H.m_flags rfl) h0 hd (au (bL (ej (j3 H he H.b_sum rfl) (au (dF (nD (aN 6) (λb=>V.str (cC (gc+b))) (λo=>o == j_ || (B_.cs j_).all λc=>(S_ c.1).testBit o) (λb=>V.int ((2 ^ (gc+b):Nat):Int)) ⟨rfl,rfl,by decide+kernel,by decide+kernel⟩ (pM (l:=aN 6) (f:=λb=>(cC (gc+b),nV (2 ^ (gc+b)))) (ah (j:=2) he (.cell (L+3) "flags") aa rfl)) (by lia) (by decide)
  (λC2 a ha=>by
   have PJ:=aY.mp ha;refine fZ (htest a PJ ..) ?_;refine iu 1 he.comp (.cell (C2+1) "other") (fS (oJ (iN ?_ (λh=>(iN (da (nD (B_.cs j_) (λc=>V.list ((eY (S_ c.1)).map λb=> .str (cC (gc+b)))) (λc=>!((eY (S_ c.1)).map λb=>cC (gc+b)).any (· == cC (gc+a))) (λz=>V.int 1) ⟨rfl,rfl,by decide+kernel,by decide+kernel⟩ (dB (ah (j:=4) he.comp (.cell (L+5) "words") (ab _ aa) rfl)) (by lia) (by have:=hlen j_;exact aw (by assumption) (by decide)) (λC3 c hc=>iu 1 he.comp.comp .loc (fS (da (ah (j:=1) he.comp.comp (.cell (C2+1) "other") (ab _ aa) rfl) (dF (bL (ah (j:=1) he.comp.comp .loc aa rfl) (by refine ai (a0 ..) ?_;rfl))) BK)) (λhb=>aU))) (ij (xs:=[]) aT (bg rfl)) (Fz (nj _ _))) (λh=>jn)))))) (λhb=>bE (pJ (ah (j:=2) he.comp (.cell (L+3) "flags") (ab _ aa) rfl)) (ah (j:=1) he.comp (.cell (C2+1) "other") aa rfl) (mf (PH a PJ)));refine fZ (rQ hl PJ HK ..) ?_;exact da (ah (j:=1) he.comp (.cell (C2+1) "other") aa rfl) (ah (j:=3) he.comp (.cell (L+4) "name") (ab _ aa) rfl) rz))) aT) uI) (congrArg V.int SM)) aT) (MS _)) (aQ (i:=0) (j:=5) he .loc rfl ?_) rfl rfl)
 refine aC (iY (da (ah (j:=5) he .loc aa rfl) (bE (wC (ah (j:=1) he (.cell (L+2) "table") aa rfl) (ab _ hT)) (ah (j:=3) he (.cell (L+4) "name") aa rfl) (mf (QF j_ HK))) rz) (λh=>?_) λh=>?_)
 ·have h2:cU S_ B_.cs j_=S_ j_:=Im hl ⟨SN,MR⟩ (hS j_) (by simpa using h);exact aC (gy (cg (ij (xs:=[]) aT (bg rfl)) (kh (.inl ⟨h2,rfl,rfl⟩))))
 ·have h2:cU S_ B_.cs j_≠S_ j_:=λe=>by rw [e] at h;simp at h
  refine bB ?_;refine aC (qx (i:=i_+1) (ah (j:=5) he .loc aa rfl) (ah (j:=1) he (.cell (L+2) "table") aa rfl) (ah (j:=3) he (.cell (L+4) "name") aa rfl) (es:=oo gc S_) hi (by show (oo gc S_).length<=2 ^ 24;unfold oo;refine ai (KD ..) ?_;decide) ?_);have SO:jE (oo gc S_) (cC (gc+j_)) (.str (iy gc (cU S_ B_.cs j_)))=oo gc λb=>if b=j_ then cU S_ B_.cs j_ else S_ b:=by unfold oo;refine ai (FK hl CP (aY.mpr HK) ..) ?_;unfold bD;refine b5 λc hc=>?_;by_cases hcj:c=j_ <;> simp [hcj]
  refine ai (SO ..) ?_;refine aC (gy (cg (nD [1,2,3,4,5] (λb=>V.str (cC (gc+b))) (λo=>(B_.cs o).any λc=>c.1 == j_) (λo=>V.str (cC (gc+o))) ⟨rfl,rfl,by decide+kernel,by decide+kernel⟩ (pM (l:=[1,2,3,4,5]) (f:=λb=>(cC (gc+b),rn gc B_ b)) (ah (j:=0) he (.cell (L+1) "book") aa rfl)) (by lia) (by decide) (λC4 a ha=>?_)) (kh (.inr ⟨h2,rfl,rfl⟩))));have hhas:(me ((B_.cs a).map λq=>(cC (gc+q.1),V.int q.2)) (cC (gc+j_))).isSome=(B_.cs a).any λc=>c.1 == j_:=by
   refine gj (cm ..) ?_;unfold me;refine ai (Option.isSome_map ..) ?_;refine gj (List.find?_isSome ..) ?_;refine gj (cT ..) ?_;constructor
   ·intro gi;refine aK gi λq hq PK=>?_;clear gi;refine aK (aG.mp hq) λc hc iC=>?_;subst iC;refine ⟨c,hc,?_⟩;refine fZ (rQ hl (QG a c hc) HK ..) ?_;exact PK
   ·intro kF;refine aK kF λc hc hc2=>?_;clear kF;refine ⟨_,aG.mpr ⟨c,hc,rfl⟩,?_⟩;rw [<- rQ hl (QG a c hc) HK] at hc2;exact hc2
  refine fZ (hhas ..) ?_;exact iu 1 he.comp .loc (fS (da (ah (j:=3) he.comp (.cell (L+4) "name") (ab _ aa) rfl) (pJ (bE (bE (pJ (ah (j:=0) he.comp (.cell (L+1) "book") (ab _ aa) rfl)) (ah (j:=1) he.comp .loc aa rfl) (mf (hbk a ha))) aU tH)) Kq)) (λhb=>ah (j:=1) he.comp .loc aa rfl)
end tI
theorem tI{low:Nat}{T:ay}{i:Nat}{S:Nat->Nat}{B:Rw}{j:Nat}:tI.S0 k mu low T i S B j:=by with_unfolding_all exact Bu _ _ _ _ _ _ _ _ tI.S0 @tI.T0 k mu low T i S B j
variable {name:bc}{fs:List (bc×V)}{apos:lF}{dx:ay}{K:gn}
structure FM(G:Gd)(K:gn):Prop where
 inn:∀h:dI,(∀a o,G.Z0 a=ae o->h.get? a=ae o)->K.In h
noncomputable def gN(Z:bI):List gB->List (bc×V)->Prop
 |[],[]=>True
 |e::es,q::fs=>(∃t,e.key= .str q.1 t)/\aZ G Z e.val q.2/\gN Z es fs
 |_,_=>False
@[elab_as_elim] theorem gN.ind{Z:bI}{P:List gB->List (bc×V)->Prop}{es:List gB}{fs:List (bc×V)}(h:gN Z es fs)(nil:P [] [])
 (cons:∀{e es q fs},e.refKey=aH->(∃t,e.key= .str q.1 t)->aZ G Z e.val q.2->P es fs->P (e::es) (q::fs)):P es fs:=by
 induction es generalizing fs with
 |nil=>cases fs with
  |nil=>exact nil
  |cons=>exact h.elim
 |cons e es ih=>cases fs with
  |nil=>exact h.elim
  |cons q fs=>exact cons (h.1.elim λt w=>by unfold DictEntry.refKey;(refine ai (w ..) ?_;rfl)) h.1 h.2.1 (ih h.2.2)
theorem gN.mono{Z Z':bI}(hz:Z.le Z'){es:List gB}{fs:List (bc×V)}(h:gN Z es fs):gN Z' es fs:=h.ind trivial λ{z z z z} z k v r=>⟨k,v.mono hz,r⟩
noncomputable def gI(x C dx:ay)(fs:List (bc×V)):cY where
 own:=[x,dx]
 sat:=λZ h=>h.get? x=ae (Aa C dx)/\∃es n,h.get? dx=ae (i3 es n)/\gN Z es fs
 mono:=λZ Z' h hz w=>⟨w.1,w.2.imp λz=>bQ λz u=>⟨u.1,u.2.mono hz⟩⟩
 loc:=λZ h h' w hk z z=>⟨hk x aa _ w.1,w.2.imp λz=>bQ λz u=>⟨hk dx (ab _ aa) _ u.1,u.2⟩⟩
 live:=λZ h w y hy=>(aP.mp hy).elim (λe=>⟨_,e▸w.1⟩) λe=>w.2.elim λz u=>u.elim λz u=>⟨_,aA.mp e▸u.1⟩
noncomputable def zN:List (bc×V)->bc->V->List (bc×V)
 |[],x,y=>[(x,y)]
 |q::fs,x,y=>if q.1=x then (x,y)::fs else q::zN fs x y
theorem AG{e:gB}{x name:bc}(h:∃t,e.key= .str x t):e.key.isStr name=decide (x=name):=by obtain ⟨t,h⟩:=h;refine ai (h ..) ?_;show (x == name)=_;exact cm.mpr (beq_iff_eq.trans decide_eq_true_iff.symm)
section
variable {es:List gB}
theorem AH{e:gB}{x:bc}(hr:e.refKey=aH)(hk:∃t,e.key= .str x t):getL name (e::es)=if x=name then ae (ae e.val) else getL name es:=by
 unfold getL;refine ai (jV ..) ?_;refine ai (AG hk ..) ?_;refine ai (zC ..) ?_;refine ai (hr ..) ?_;refine ai (Bool.false_or ..) ?_;by_cases hx:x=name
 ·(refine ai (decide_eq_true hx ..) ?_;refine ai (if_pos hx ..) ?_;rfl)
 ·(refine ai (decide_eq_false hx ..) ?_;refine ai (if_neg hx ..) ?_;rfl)
theorem gN.none(h:gN Z es fs):name∉fs.map (·.1)->getL name es=ae av:=
 h.ind (λz=>rfl) λ{e es q fs} hr hk z ih hn=>by
  refine ai (AH hr hk ..) ?_;refine ai (if_neg λw:q.1=name=>hn (w▸aa) ..) ?_;exact ih λhm=>hn (ab _ hm)
theorem gN.some(h:gN Z es fs):(fs.map (·.1)).Nodup->(name,y)∈fs->∃v,getL name es=ae (ae v)/\aZ G Z v y:=
 h.ind (λz hm=>el hm) λ{e es q fs} hr hk hv ih hnd hm=>by
  rw [bA,cj] at hnd;refine ai (AH hr hk ..) ?_;by_cases hq:q.1=name
  ·refine ai (if_pos hq ..) ?_;rcases aP.mp hm with rfl|hm
   ·exact ⟨e.val,rfl,hv⟩
   ·exact absurd (aG.mpr ⟨_,hm,hq.symm⟩) hnd.1
  ·refine ai (if_neg hq ..) ?_;rcases aP.mp hm with rfl|hm
   ·exact absurd rfl hq
   ·exact ih hnd.2 hm
theorem gN.put{v:aj}{vc:Int}{tk:HO}(hv:aZ G Z v y)(h:gN Z es fs):gN Z (putL name vc (.str name tk) v es) (zN fs name y):=by
 have:=(h.ind (P:=λes fs=>gN Z es fs/\gN Z (putL name vc (.str name tk) v es) (zN fs name y)) ⟨trivial,⟨tk,rfl⟩,hv,trivial⟩ λ{e es q fs} hr hk GA ih=>?_).2
 ·exact this
 ·refine ⟨⟨hk,GA,ih.1⟩,?_⟩;unfold putL zN;refine ai (AG hk ..) ?_;by_cases hq:q.1=name
  ·(refine ai (decide_eq_true hq ..) ?_;refine ai (if_pos rfl ..) ?_;refine ai (if_pos hq ..) ?_)
   exact ⟨hq▸hk,hv,ih.1⟩
  ·(refine ai (decide_eq_false hq ..) ?_;refine ai (if_neg cG ..) ?_;refine ai (if_neg hq ..) ?_)
   exact ⟨hk,GA,ih.2⟩
theorem gN.len(h:gN Z es fs):es.length=fs.length:=h.ind rfl λ{z z z z} z z z ih=>congrArg xh ih
theorem gN.noRef(h:gN Z es fs):es.any (·.refKey)=aH:=h.ind rfl λ{z z z z} hr z z ih=>by (refine ai (zC ..) ?_;refine ai (hr ..) ?_;refine ai (ih ..) ?_);rfl
end
section
variable {x f:ay}
theorem xA(r:R Z mu s)(hm:gI x C dx fs∈mu):∃es n,InstAt s.heap x (Aa C dx) C (ae (i3 es n))/\s.heap.get? dx=ae (i3 es n)/\gN Z es fs:=by exact uy (r.sat _ hm) λa es n b c=>⟨es,n,⟨a,rfl,rfl,b⟩,b,c⟩
theorem m7{v:aj}(h:aZ G Z v y)(hy:∀n,y≠ .bi n):handedIn v=aJ:=by cases v <;> first|rfl|(cases h;exact absurd rfl (hy _))
theorem DC{cd:ClassData}{es:List gB}{n:Nat}{v:aj}(hcd:clsIn K C=ae cd)(h2:fG K (.ref C) name=ae av)(EL:cd.hasDict=aJ)(hv:getL name es=ae (ae v)):findObj K C (ae (i3 es n)) name=ae (.value v):=by delta findObj;refine ai (hcd ..) ?_;refine ai (h2 ..) ?_;show (W.ownOf cd (ae (i3 es n)) name).bind _=_;refine ai (show W.ownOf cd (ae (i3 es n)) name=ae (ae v) from (if_pos EL).trans ((QO ..).trans hv)) ?_;rfl
theorem Hf{A:bo}{E Q:aj->aq->Prop}{b:Bool}(KO:FM G K)(hp:eS K C name=aJ)(r:R Z mu s)(hm:gI x C dx fs∈mu)(hnd:(fs.map (·.1)).Nodup)(hq:(name,y)∈fs)(hy:∀n,y≠ .bi n)
 (q:∀{v tk},aZ G Z v y->R Z mu {s with toks:=tk}->Q v {s with toks:=tk}):aS (aX G.prog G.w) A (sY (.ref x) name b) Q E s:=by
 refine cD (xA r hm) λes n I z he=>aK (he.some hnd hq) λv hv hr=>dU (cq.mp hp) λSP h3=>dU (cq.mp SP) λh1 h2=>aK (any_some h1) λcd hcd EL=>get_value (KO.inn _ r.z0in) I (jD h3) ?_ (m7 hr hy) (q hr r.toks);exact DC hcd (jD h2) EL hv
theorem oP(KO:FM G K)(hp:eS K C name=aJ)(ho:PE k mu env o (.ref x))(hm:gI x C dx fs∈mu)(hnd:(fs.map (·.1)).Nodup)(hq:(name,y)∈fs)(hy:∀n,y≠ .bi n)
 (he:autoParam (dW (.Attribute o name p) env=(do let ov <- dW o env;iF p.atName;let r <- eV [ov] (sY ov name aJ);pC o ov r;dh r)) aR):PE k mu env (.Attribute o name p) y:=⟨λ{A E Z s fr Q} hA r q=>by
 refine gZ ?_ he;refine ho.c hA r λ{ov s1 Z1} z1 q1 r1=>ai (aZ.refE q1 ..) ?_;exact Hf KO hp r1 (aE fr hm) hnd hq hy λ{z z} hr r2=>q z1 hr r2⟩
theorem ye{A:bo}{E:aj->aq->Prop}{Q:aj×List aj->aq->Prop}{pl:oY Bool}(KO:FM G K)(hp:jm K C f name=aJ)(r:R Z mu s)(hm:gI x C dx fs∈mu)(hn:name∉fs.map (·.1))(h:Q (.ref f,[.ref x]) s):aS (aX G.prog G.w) A (mA (.ref x) name pl) Q E s:=by exact cD (xA r hm) λes n I z he=>dU (cq.mp hp) λSQ h4=>dU (cq.mp SQ) λSP h3=>dU (cq.mp SP) λh1 h2=>method_fn (KO.inn _ r.z0in) I (jD h1) (jD h2) (jD h3) (jD h4) (by show (lookIn name (i3 es n)).map (·.isSome)=ae aH;(refine ai (QO ..) ?_;refine ai (he.none hn ..) ?_);rfl) h
theorem pN{ob:oX}{fd:cn}{pl:oY Bool}(KO:FM G K)(hp:jm K C f name=aJ)(ho:PE k mu env o (.ref x))(hm:gI x C dx fs∈mu)(hn:name∉fs.map (·.1))(h0:G.Z0 f=ae ob)(hd:ob.data= .func fd)
 (hF:FW k mu (.ref f) [.ref x] Φ)
 (he:autoParam (dW (.Call (.Attribute o name apos) [] [] pos) env=(do let ov <- dW o env;iF apos.atName;let (f,first) <- eV [ov] (mA ov name pl);pB pos f first (lb pos (fl [] env)) [])) aR):
 WE k mu env (.Call (.Attribute o name apos) [] [] pos) Φ:=⟨λ{A E Z s fr Q} hA r q=>by
 refine i5 (pl:=pl) ?_ he;refine ho.c hA r λ{ov s1 Z1} z1 q1 r1=>ai (aZ.refE q1 ..) ?_;refine ye KO hp r1 (aE fr hm) hn ?_;refine callWith_function (o:=ob) (fd:=fd) ?_;exact Uo ⟨⟨r1.z0in _ _ h0,hd⟩,hF.c hA r1 (.cons (.ref x) .nil) λ{z z z z z} z3=>q (z1.trans z3)⟩⟩
theorem BY{a:bP}{rest:List bP}{ob:oX}{fd:cn}{pl:oY Bool}(KO:FM G K)(hp:jm K C f name=aJ)(ho:PE k mu env o (.ref x))(hm:gI x C dx fs∈mu)(hn:name∉fs.map (·.1))(h0:G.Z0 f=ae ob)(hd:ob.data= .func fd)
 (ha:Dm k mu env (a::rest) λys nu=>FW k nu (.ref f) (.ref x::ys) Φ) (wk:autoParam (kg (a::rest)=aJ) aR)
 (he:autoParam (dW (.Call (.Attribute o name apos) (a::rest) [] pos) env=(do let ov <- dW o env;iF apos.atName;let (f,first) <- eV [ov] (mA ov name pl);pB pos f first (lb pos (fl (a::rest) env)) [])) aR):
 WE k mu env (.Call (.Attribute o name apos) (a::rest) [] pos) Φ:=⟨λ{A E Z s fr Q} hA r q=>by
 refine i5 (pl:=pl) ?_ he;refine ho.c hA r λ{ov s1 Z1} z1 q1 r1=>ai (aZ.refE q1 ..) (ye KO hp r1 (aE fr hm) hn ?_);exact G5 (ob:=ob) (fd:=fd) ha wk hA r1 λ{z z z z z} z2 q2 r2 w2=>⟨⟨r2.z0in _ _ h0,hd⟩,w2.c hA r2 (.cons (.ref x) q2) λ{z z z z z} z3=>q (z1.trans (z2.trans z3))⟩⟩
theorem KF(name:bc)(vc:Int)(key v:aj)(l:List gB):(putL name vc key v l).length<=l.length+1:=by
 induction l with
 |nil=>exact bp _
 |cons a l ih=>
  unfold putL
  split
  ·exact jC _
  ·exact EW ih
def qB.S0(x C dx:ay)(name:bc)(s:aq)(A:bo)(Rr:wx->aq->Prop)(v:aj)(de:List gB)(_:Nat):Prop:=∀{K:gn} {tk:HO} {n:Nat} (X:K.In s.heap) (I:InstAt s.heap x (Aa C dx) C (ae (i3 de n))) (D:s.heap.get? dx=ae (i3 de n)) (h2:plainOver K C=aJ) (h3:takerIn K C name=ae av) (h4:(clsIn K C).any (·.hasDict)=aJ) (hr:(de.any (·.refKey))=aH) (hz:de.length<=500) (h:∀(vc:Int) nx,Rr (.ok (.ret .none)) {s with heap:=s.heap.update dx (oh name vc (.str name nx) v),toks:=s.toks+1}),iV (aX G.prog G.w) A (.call (.builtin "object.__setattr__") ⟨[.ref x,.str name tk,v],[]⟩) Rr s
namespace qB
@[irreducible] def e0:=zF cM cM cM inferInstance zG Fm sZ gM gE eO S0
def x_:=e0.1
def C_:=e0.2.1
def dx_:=e0.2.2.1
def iz:=e0.2.2.2.1
def s_:=e0.2.2.2.2.1
def A_:=e0.2.2.2.2.2.1
def Rr_:=e0.2.2.2.2.2.2.1
def v_:=e0.2.2.2.2.2.2.2.1
def Od:=e0.2.2.2.2.2.2.2.2.1
theorem T0:S0 x_ C_ dx_ iz s_ A_ Rr_ v_ Od e0.2.2.2.2.2.2.2.2.2:=by
 intro K tk n X I D h2 h3 h4 hr hz h;refine osa_open X I h2 h3 λb=>aK (any_some h4) λcd hc hd'=>?_;have hx:=I.at_;refine ag (ar (ag (ag (pG hx (ag ((looks_clsIn X hc).here ?_))))));refine ai (hd' ..) (ar (a:=ae dx_) (ag (ar (ag ?_))));unfold nsSet;refine ag (ag (gD (ar (ag (JD (ag (pG D ?_)))))));show aS _ _ (if sO iz Od.toArray=aJ then _ else _) _ _ _;have c:sO iz Od.toArray=aH:=by refine ai (aRefKeyMayBeTheName_at ..) ?_;refine fZ (um ..) ?_;refine fZ (um ..) ?_;show (_ && Od.any (·.refKey))=aH;refine ai (hr ..) ?_;refine ai (kM ..) ?_;rfl
 refine ai (c ..) ?_;refine ai (if_neg (by decide) ..) ?_;refine wpAny_updatePart D ?_;have hm:∀vc nx,oh iz vc (.str iz nx) v_ (i3 Od n)=i3 (putL iz vc (.str iz nx) v_ Od) (putN iz Od n):=λvc nx=>mR ..;refine ag (wpAny_lookBehind (o:=i3 (putL iz _ (.str iz _) v_ Od) (putN iz Od n)) ((bS _ D (by refine ai (hm ..) ?_;rfl)).trans (congrArg ae (hm _ _))) (pastItsLine_dict ?_) ?_)
 ·exact ai (sQ ..) (aw (KF ..) (EW (aw hz (show 500<=2 ^ 24 by decide))))
 ·exact ar (h _ _)
end qB
theorem qB{A:bo}{Rr:wx->aq->Prop}{v:aj}{de:List gB}:qB.S0 x C dx name s A Rr v de 0:=by with_unfolding_all exact uA _ _ _ _ _ _ _ _ _ _ qB.S0 @qB.T0 x C dx name s A Rr v de 0
theorem wK{A:bo}{E:aj->aq->Prop}{Q:Unit->aq->Prop}{v:aj}(KO:FM G K)(hp:fh K C name=aJ)(r:R Z mu s)(hi:mu[i]? =ae (gI x C dx fs))(hl:fs.length<=500)(hv:aZ G Z v y)
 (h:∀s',R Z (mu.set i (gI x C dx (zN fs name y))) s'->Q () s'):aS (aX G.prog G.w) A (setAttr (.ref x) name v) Q E s:=by
 refine cD (xA r (ao hi)) λde n I D he=>?_;have hx:=I.at_;refine dU (cq.mp hp) λSQ h4=>dU (cq.mp SQ) λSP h3=>dU (cq.mp SP) λh1 h2=>set_plain (KO.inn _ r.z0in) I (jD h1) ?_;have iQ:x≠dx:=by exact λe=>(cj.mp (r.ownNodup hi)).1 (aA.mpr e)
 refine qB (s:={s with toks:=s.toks+1}) (KO.inn _ r.z0in) I D h2 (jD h3) h4 he.noRef (he.len▸hl) λvc nx=>h _ ?_;have hs:=bY s.heap dx (oh name vc (.str name nx) v);refine r.upd' (x':=gI x C dx (zN fs name y)) hi rfl (λb o hb e=>hs.extBut b o (λq=>hb (q▸ab _ aa)) e) ⟨hs.extBut _ _ iQ hx,_,_,(bS _ D (by refine ai (mR ..) ?_;rfl)).trans (congrArg ae (mR ..)),he.put hv⟩
theorem rR(KO:FM G K)(hp:fh K C name=aJ)(ho:PE k mu env o (.ref x))(hi:mu[i]? =ae (gI x C dx fs))(hl:fs.length<=500){Ψ:Mu->Prop}(h:Ψ (mu.set i (gI x C dx (zN fs name y))))
 (he:autoParam (∀v,wo (.Attribute o name p) env v=(do let ov <- eV [v] (dW o env);iF p.atName;eV [v,ov] (setAttr ov name v);release [v,ov] [])) aR):mI k mu env (.Attribute o name p) y Ψ:=⟨λ{A E Z s fr v Q} hA r hv q=>by
 refine ai (he ..) ?_;refine ag (bC (ho.c hA r λ{ov s1 Z1} z1 q1 r1=>?_));refine ai (aZ.refE q1 ..) ?_;exact ag (iI (ag (bC (wK KO hp r1 (cH hi) hl (hv.mono z1) λs' r'=>wpAny_release (q z1 (gF hi▸r') h)))))⟩
end
variable {Ψ:AF->Mu->Prop}{y':V}
section
variable {v:bP}
structure nF(G:Gd)(a:ay)(st:ed)(qual:bc):Prop where
 go:∃ob pm cd doc,G.Z0 a=ae ob/\ob.data= .func (Ao st qual pm cd doc)/\∀h:dI,(∀a o,G.Z0 a=ae o->h.get? a=ae o)->h.CodeRec cd qual
theorem DD(H:Hy G){a:ay}{st:ed}{qual:bc}(F:nF G a st qual){names:List bc}{vals':ay->eL}
 (i0:∀pm cd doc vs,vs.length=xs.length->pF (Ao st qual pm cd doc) ⟨vs,[]⟩=dh (names.zip vs)) (hnd:(aM 0 (bj st).names).nd) (hk:(bj st).kind= .function)
 (hb:∀pm cd doc L,i9 (dT (Ao st qual pm cd doc) a L) L (aM (L+1) (bj st).names) names xs (nones (aM (L+1) (bj st).names)) (vals' L))
 (h:∀pm cd doc L,dz (dT (Ao st qual pm cd doc) a L)->WS k (bq L (aM (L+1) (bj st).names) (vals' L)::mu) (dT (Ao st qual pm cd doc) a L) (fR st) (lD Φ)) (wj:autoParam ((bj st).isCoroutine=aH) aR) (mP:autoParam ((bj st).isGenerator=aH) aR):
 FW (k+1) mu (.ref a) xs Φ:=by
 exact cu (F.go) λob pm cd doc h0 hd hcd=>Kr H.B (names:=names) (vals':=vals') (Kn.z0 h0) hd (λZ s r=>hcd _ r.z0in) rfl (i0 pm cd doc) hnd (λL=>⟨hk,rfl,rfl⟩) (hb pm cd doc) (λL=>h pm cd doc L ⟨hk,rfl,rfl⟩) wj mP
theorem Oe{lx C dx:ay}{fs:List (bc×V)}{name:bc}(KO:FM G K)(hp:eS K C name=aJ)(hs:fh K C name=aJ)(ho:PE k mu env o (.ref lx))(hi:mu[i]? =ae (gI lx C dx fs))(hnd:(fs.map (·.1)).Nodup)(hq:(name,y)∈fs)(hy:∀n,y≠ .bi n)(hl:fs.length<=500)
 (hv:EV k mu env v P) (hop:Nn k mu op (bZ y) P (bZ y')) (h:Ψ .next (mu.set i (gI lx C dx (zN fs name y')))):WX k mu env (.AugAssign (.Attribute o name p) op v pos) Ψ:=⟨λ{A E Z s fr Q} hA r q=>by
 refine wpAny_AugAssign_AttributeAny ?_;refine ho.c hA r λ{ov s1 Z1} z1 q1 r1=>ai (aZ.refE q1 ..) ?_;exact Hf KO hp r1 (aE fr (ao hi)) hnd hq hy λ{z z} hr r2=>hv.c hA r2 λ{z z z} z2 q2 r2=>hop.c hA r2 (hr.mono z2) q2 λ{z z z} z3 q3 r3=>wK KO hs r3 (cH hi) hl q3 λs' r'=>q (z1.trans (z2.trans z3)) .next (gF hi▸r') h⟩
def fL(G:Gd)(K:gn):Prop:=
 (FM G K)/\
 (eS K 217 "pushback"=aJ)/\
 (eS K 217 "lineno"=aJ)/\
 (eS K 217 "instream"=aJ)/\
 (eS K 217 "whitespace"=aJ)/\
 (fh K 217 "pushback"=aJ)/\
 (fh K 217 "lineno"=aJ)/\
 (fh K 217 "instream"=aJ)/\
 (fh K 217 "whitespace"=aJ)/\
 (jm K 217 200 "_read_char"=aJ)/\
 (jm K 217 207 "get_token"=aJ)/\
 (jm K 217 214 "push_token"=aJ)/\
 (nF G 193 (jl 10 0) "_netrclex.__init__")/\
 (nF G 200 (jl 10 1) "_netrclex._read_char")/\
 (nF G 207 (jl 10 2) "_netrclex.get_token")/\
 (nF G 214 (jl 10 3) "_netrclex.push_token")/\
 (eS K 245 "comp_select_list"=aJ)/\
 (fh K 245 "comp_select_list"=aJ)/\
 (jm K 245 242 "compare"=aJ)/\
 (nF G 235 (jl 12 1) "TupleComp.__init__")/\
 nF G 242 (jl 12 2) "TupleComp.compare"
section
variable {G:Gd}(h:fL G K)
def fL.KO:=@h.1
def fL.p_push:=@h.2.1
def fL.p_line:=@h.2.2.1
def fL.p_in:=@h.2.2.2.1
def fL.p_ws:=@h.2.2.2.2.1
def fL.s_push:=@h.2.2.2.2.2.1
def fL.s_line:=@h.2.2.2.2.2.2.1
def fL.s_in:=@h.2.2.2.2.2.2.2.1
def fL.s_ws:=@h.2.2.2.2.2.2.2.2.1
def fL.m_read:=@h.2.2.2.2.2.2.2.2.2.1
def fL.m_get:=@h.2.2.2.2.2.2.2.2.2.2.1
def fL.m_put:=@h.2.2.2.2.2.2.2.2.2.2.2.1
def fL.f193:=@h.2.2.2.2.2.2.2.2.2.2.2.2.1
def fL.f200:=@h.2.2.2.2.2.2.2.2.2.2.2.2.2.1
def fL.f207:=@h.2.2.2.2.2.2.2.2.2.2.2.2.2.2.1
def fL.f214:=@h.2.2.2.2.2.2.2.2.2.2.2.2.2.2.2.1
def fL.p_comp:=@h.2.2.2.2.2.2.2.2.2.2.2.2.2.2.2.2.1
def fL.s_comp:=@h.2.2.2.2.2.2.2.2.2.2.2.2.2.2.2.2.2.1
def fL.m_comp:=@h.2.2.2.2.2.2.2.2.2.2.2.2.2.2.2.2.2.2.1
def fL.f235:=@h.2.2.2.2.2.2.2.2.2.2.2.2.2.2.2.2.2.2.2.1
def fL.f242:=@h.2.2.2.2.2.2.2.2.2.2.2.2.2.2.2.2.2.2.2.2
end
theorem Ru(H:Hy G)(LH:fL G K){lx dx pb:ay}{fs:List (bc×V)}(hm:gI lx 217 dx fs∈mu)(hnd:(fs.map (·.1)).Nodup)(hq:(("pushback":bc),V.ref pb)∈fs)(hi:mu[i]? =ae (bk pb xs))(hl:xs.length < 2 ^ 20):
 FW (k+2) mu (.ref 214) [.ref lx,y] λr nu=>r= .none/\nu=mu.set i (bk pb (xs++[y])):=by
 refine DD H LH.f214 (names:=["self","token"]) (vals':=λL=>[ae (.ref lx),ae y]) (λpm cd doc vs h=>?_) (by decide+kernel) rfl (λpm cd doc L=>?_) (λpm cd doc L he=>?_)
 ·exact zM h λa b=>rfl
 ·exact .cons (j:=0) .loc rfl (.cons (j:=1) .loc rfl .nil)
 refine aC (ig (mY (oP LH.KO LH.p_push (ah (j:=0) he .loc aa rfl) (ab _ hm) hnd hq (λn e=>by cases e)) (j4 (xs:=xs) (ab _ (ao hi))) (au (ah (j:=1) he .loc aa rfl) aT) (kz (i:=i+1) hi (by exact cc (by assumption) (by decide)) ?_) (by exact fP) (by exact iU) (by exact b9) rfl));exact bB (jJ.tail (jJ.keep ⟨rfl,rfl⟩))
end
variable {z z':V}
noncomputable def DE:V:= .list [.tup [.int 0,.int (-1)],.tup [.int 1,.int (-2)],.tup [.int 2,.int (-3)]]
noncomputable def vQ(a b:Nat->Int):Int:=if a 0 < b 0 then 1 else if b 0 < a 0 then -1 else if a 1 < b 1 then 2 else if b 1 < a 1 then -2 else if a 2 < b 2 then 3 else if b 2 < a 2 then -3 else 0
theorem Of{a b:Nat->Int}{i:Nat}(h3:i < 3)(heq:∀c,c < i->a c=b c)(d:Int):(a i < b i->d=1+(i:Nat)->d=vQ a b)/\(b i < a i->d= -1 - (i:Nat)->d=vQ a b):=by
 refine TG (P:=λi=>(∀c,c < i->a c=b c)->(a i < b i->d=1+(i:Nat)->d=vQ a b)/\(b i < a i->d= -1 - (i:Nat)->d=vQ a b)) h3 (λheq=>?_) (λheq=>?_) (λheq=>?_) heq
 ·unfold vQ;exact ⟨λh e=>by refine ai (if_pos h ..) ?_;lia,λh e=>by (refine ai (if_neg (by lia) ..) ?_;refine ai (if_pos h ..) ?_);lia⟩
 ·unfold vQ;have h0:=heq 0 (by decide);exact ⟨λh e=>by (refine ai (if_neg (by lia) ..) ?_;refine ai (if_neg (by lia) ..) ?_;refine ai (if_pos h ..) ?_);lia,λh e=>by (refine ai (if_neg (by lia) ..) ?_;refine ai (if_neg (by lia) ..) ?_;refine ai (if_neg (by lia) ..) ?_;refine ai (if_pos h ..) ?_);lia⟩
 ·unfold vQ;have h0:=heq 0 (by decide);have h1:=heq 1 (by decide);exact ⟨λh e=>by (refine ai (if_neg (by lia) ..) ?_;refine ai (if_neg (by lia) ..) ?_;refine ai (if_neg (by lia) ..) ?_;refine ai (if_neg (by lia) ..) ?_;refine ai (if_pos h ..) ?_);lia,λh e=>by (refine ai (if_neg (by lia) ..) ?_;refine ai (if_neg (by lia) ..) ?_;refine ai (if_neg (by lia) ..) ?_;refine ai (if_neg (by lia) ..) ?_;refine ai (if_neg (by lia) ..) ?_;refine ai (if_pos h ..) ?_);lia⟩
def lI.S0(k:Nat)(mu:Mu)(z z':V)(cx:ay)(a b:Nat->Int)(_:Nat):Prop:=∀{K:gn} {dx:ay} {fs:List (bc×V)} (H:Hy G) (LH:fL G K) (hm:gI cx 245 dx fs∈mu) (hnd:(fs.map (·.1)).Nodup) (hq:(("comp_select_list":bc),DE)∈fs),FW (k+2) mu (.ref 242) [.ref cx,.tup [.int (a 0),.int (a 1),.int (a 2),z],.tup [.int (b 0),.int (b 1),.int (b 2),z']] λr nu=>r= .int (vQ a b)/\nu=mu
namespace lI
@[irreducible] def e0:=Nl eO gE neV neV cM inferInstance inferInstance eO S0
def k_:=e0.1
def e9:=e0.2.1
def z_:=e0.2.2.1
def z'_:=e0.2.2.2.1
def vR:=e0.2.2.2.2.1
def a_:=e0.2.2.2.2.2.1
def b_:=e0.2.2.2.2.2.2.1
theorem T0:S0 k_ e9 z_ z'_ vR a_ b_ e0.2.2.2.2.2.2.2:=by
 intro K dx fs H LH hm hnd hq;refine DD H LH.f242 (names:=["self","left","right"]) (vals':=λL=>[ae (.ref vR),ae (.tup [.int (a_ 0),.int (a_ 1),.int (a_ 2),z_]),ae (.tup [.int (b_ 0),.int (b_ 1),.int (b_ 2),z'_]),av,av,av,av]) (λpm cd doc vs h=>?_) (by decide+kernel) rfl (λpm cd doc L=>?_) (λpm cd doc L he=>?_)
 ·exact N6 h λa_ b_ c=>rfl
 ·exact .cons (j:=0) .loc rfl (.cons (j:=1) .loc rfl (.cons (j:=2) .loc rfl .nil))
 refine aC (jN (ctx:=[]) (xs:=[.tup [.int 0,.int (-1)],.tup [.int 1,.int (-2)],.tup [.int 2,.int (-3)]]) (λi nu=>(∀c,c < i->a_ c=b_ c)/\∃o1 o2 o3 o4,nu=bq L (aM (L+1) (bj (jl 12 2)).names) [ae (.ref vR),ae (.tup [.int (a_ 0),.int (a_ 1),.int (a_ 2),z_]),ae (.tup [.int (b_ 0),.int (b_ 1),.int (b_ 2),z'_]),o1,o2,o3,o4]::e9)
  (dB (oP LH.KO LH.p_comp (ah (j:=0) he .loc aa rfl) (ab _ hm) hnd hq (λn e=>by cases e))) (by lia) ⟨λc h=>absurd h (GP _),av,av,av,av,rfl⟩ (λi nu h o ho=>(el ho)) ?_ ?_)
 ·intro i x nu hx dP;refine CS dP λheq o1 o2 o3 o4 eT=>?_;clear dP;subst eT;have hi3:i < 3:=(aB.mp hx).1;have hxe:x= .tup [.int (i:Nat),.int (-((i:Nat):Int) - 1)]:=by
   exact TG (P:=λi=>([V.tup [.int 0,.int (-1)],.tup [.int 1,.int (-2)],.tup [.int 2,.int (-3)]]:List V)[i]? =ae x->x= .tup [.int (i:Nat),.int (-((i:Nat):Int) - 1)]) hi3 (λe=>(aO e).symm) (λe=>(aO e).symm) (λe=>(aO e).symm) hx
  subst hxe;have gl:Gi (k_+1) (bq L (aM (L+1) (bj (jl 12 2)).names) [ae (.ref vR),ae (.tup [.int (a_ 0),.int (a_ 1),.int (a_ 2),z_]),ae (.tup [.int (b_ 0),.int (b_ 1),.int (b_ 2),z'_]),ae (.int (i:Nat)),ae (.int (-((i:Nat):Int) - 1)),o3,o4]::e9) (bZ (.tup [.int (a_ 0),.int (a_ 1),.int (a_ 2),z_])) (bZ (.int (i:Nat))) (bZ (.int (a_ i))):=Ki (by exact TG hi3 rfl rfl rfl) (by show -((4:Nat):Int)<=_;lia) (by lia) (by show 4 < 2 ^ 62;decide)
  have gr:∀l',Gi (k_+1) l' (bZ (.tup [.int (b_ 0),.int (b_ 1),.int (b_ 2),z'_])) (bZ (.int (i:Nat))) (bZ (.int (b_ i))):=λl'=>Ki (by exact TG hi3 rfl rfl rfl) (by show -((4:Nat):Int)<=_;lia) (by lia) (by show 4 < 2 ^ 62;decide)
  have res:=λd=>Of hi3 heq d;refine i7 (cw rfl rfl (aQ (i:=0) (j:=3) he .loc rfl (cw rfl rfl (aQ (i:=0) (j:=4) he .loc rfl (iX ?_)))));refine aC (bX (bE (ah (j:=1) he .loc aa rfl) (ah (j:=3) he .loc aa rfl) gl) (aQ (i:=0) (j:=5) he .loc rfl ?_) rfl rfl);refine aC (bX (bE (ah (j:=2) he .loc aa rfl) (ah (j:=3) he .loc aa rfl) (gr _)) (aQ (i:=0) (j:=6) he .loc rfl ?_) rfl rfl);refine aC (iY (da (ah (j:=5) he .loc aa rfl) (ah (j:=6) he .loc aa rfl) CZ) (λh=>?_) λh=>?_)
  ·have h':=of_decide_eq_true h;exact aC (gy (cg (o5 (ah (j:=4) he .loc aa rfl)) (kh ⟨congrArg V.int ((res _).1 h' (by lia)),rfl⟩)))
  refine bB ?_;have h1:=of_decide_eq_false h;refine aC (iY (da (ah (j:=5) he .loc aa rfl) (ah (j:=6) he .loc aa rfl) GU) (λh=>?_) λh=>?_)
  ·have h':=of_decide_eq_true h;exact aC (gy (cg (ah (j:=4) he .loc aa rfl) (kh ⟨congrArg V.int ((res _).2 h' (by lia)),rfl⟩)))
  have h2:=of_decide_eq_false h;refine bB (bB ⟨λc hc=>?_,ae (.int (i:Nat)),ae (.int (-((i:Nat):Int) - 1)),ae (.int (a_ i)),ae (.int (b_ i)),rfl⟩);rcases gX c i with h3|h3
  ·exact heq c h3
  ·have:c=i:=by lia
   subst this;lia
 ·intro nu gi;refine CS gi λheq o1 o2 o3 o4 iC=>?_;clear gi;subst iC;have h0:=heq 0 (by decide);have h1:=heq 1 (by decide);have h2:=heq 2 (by decide);refine bB (aC (gy (cg aU (kh ⟨?_,rfl⟩))));unfold vQ;refine ai (if_neg (by lia) ..) ?_;refine ai (if_neg (by lia) ..) ?_;refine ai (if_neg (by lia) ..) ?_;refine ai (if_neg (by lia) ..) ?_;refine ai (if_neg (by lia) ..) ?_;refine ai (if_neg (by lia) ..) ?_;rfl
end lI
theorem lI{cx:ay}{a b:Nat->Int}:lI.S0 k mu z z' cx a b 0:=by with_unfolding_all exact Bu _ _ _ _ _ _ _ _ lI.S0 @lI.T0 k mu z z' cx a b 0
theorem Rv(H:Hy G)(LH:fL G K){lx dx pb:ay}{fs:List (bc×V)}(hm:gI lx 217 dx fs∈mu)(hnd:(fs.map (·.1)).Nodup)(hq:(("pushback":bc),V.ref pb)∈fs)(hi:mu[i]? =ae (bk pb (y::xs)))(hl:xs.length < 2 ^ 20):
 FW (k+2) mu (.ref 207) [.ref lx] λr nu=>r=y/\nu=mu.set i (bk pb xs):=by
 refine DD H LH.f207 (names:=["self"]) (vals':=λL=>[ae (.ref lx),av,av,av]) (λpm cd doc vs h=>?_) (by decide+kernel) rfl (λpm cd doc L=>?_) (λpm cd doc L he=>?_)
 ·exact uK h λa=>rfl
 ·exact .cons (j:=0) .loc rfl .nil
 have hL:=ao hi;refine aC (iY (kT (uB (oP LH.KO LH.p_push (ah (j:=0) he .loc aa rfl) (ab _ hm) hnd hq (λn e=>by cases e)) (ab _ hL)) (GV (by simp;lia))) (λh=>?_) λh=>(JU h));refine aC (gy (mY (oP LH.KO LH.p_push (ah (j:=0) he .loc aa rfl) (ab _ hm) hnd hq (λn e=>by cases e)) (j4 (xs:=y::xs) (ab _ hL)) (au aU aT) (N7 (i:=i+1) hi (by exact cc (by assumption) (by decide)) ?_) (by exact fP) (by exact F.slot_list_pop) (by exact b9) rfl));exact jJ.tail (jJ.keep ⟨rfl,rfl⟩)
theorem Og{zi:lF}{body orelse:List ed}(hk:1<=k)
 (he:WE k mu env e λy nu=>∃(xs:List V) (Inv:Nat->Mu->Prop),y= .list xs/\Inv 0 nu/\(∀i x nu,xs[i]? =ae x->Inv i nu->mI k nu env t x λrp=>WS k rp env body (kU (Inv (i+1)) Ψ))/\∀nu,Inv xs.length nu->WS k nu env orelse Ψ)
 (hf:autoParam (∀x,bw e env x=dh x) aR):WX k mu env (.For t e body orelse zi) Ψ:=⟨λ{A E Z s fr Q} hA r q=>by
 with_reducible refine wpAny_For ?_ hf
 refine he.c hA r λ{v s1 Z1 y nu} z1 q1 r1 w=>ir w λxs Inv dP h0 step fin=>?_;clear w;subst dP;exact Ap r1 q1 λ{z z z} hit r2=>GX Inv hit hk h0 (λz z z z ho=>el ho) step fin hA z1 r2 q⟩
theorem KG{f:bc}{a:ay}{ob:oX}{fd:cn}(hf:PE k mu env (.Name f p) (.ref a))(hd:ob.data= .func fd)(ha:Dm k mu env (e::es) λys nu=>(Kn nu λhp=>hp.get? a=ae ob)/\FW k nu (.ref a) ys Φ)(hs:∀a p,e≠ .Starred a p:=by intro z z h;cases h):
 WE k mu env (.Call (.Name f p) (e::es) [] pos) Φ:=⟨λ{A E Z s fr Q} hA r q=>by
 with_reducible refine gC ?_
 refine hf.c hA r λ{f s1 Z1} z1 q1 r1=>?_;rw [aZ.refE q1];exact iK hd (ha.c hA r1 λ{z z z z z} z2 q2 r2 w=>⟨w.1.app r2,w.2.c hA r2 q2 λ{z z z z z} z3=>q (z1.trans (z2.trans z3))⟩) (et hs)⟩
variable {lx pb W fd:ay}{ob:oX}{Nr:cn}{pm cd doc:aj}
theorem FW.cons{f:aj}(a:cY)(h:FW k mu f xs Φ):FW k (a::mu) f xs λy nu=>∃nu',nu=a::nu'/\Φ y nu':=⟨λ{x x x x x x x} hA r hv q=>h.c hA (r.perm cv.symm) hv λ{x x x x x} z v r w=>q z v (r.perm cv) ⟨_,rfl,w⟩⟩
theorem FW.up{f:aj}{a:cY}(h:FW k mu f xs λy nu=>Φ y (a::nu)):FW k (a::mu) f xs Φ:=⟨λ{x x x x x x x} hA r hv q=>h.c hA (r.perm cv.symm) hv λ{x x x x x} z v r w=>q z v (r.perm cv) w⟩
theorem Oh{β:Type}{S:Nat->β->Mu}{b0:β}{zi:lF}{ctx:Mu}{body orelse:List ed}(I:Nat->β->Prop)(h0:I 0 b0)(src:o7 k (S 0 b0) env e t ctx xs)(hk:1<=k)(qW:∀i b,∀o∈ctx,o∈S i b)
 (step:∀T i x b,xs[i]? =ae x->I i b->(∀b',I (i+1) b'->T (S (i+1) b'))->mI k (S i b) env t x λrp=>WS k rp env body (kU T Ψ))
 (fin:∀b,I xs.length b->WS k (S xs.length b) env orelse Ψ) (hf:autoParam (∀x,bw e env x=dh x) aR):WX k (S 0 b0) env (.For t e body orelse zi) Ψ:=
 jN (λi nu=>∃b,nu=S i b/\I i b) src hk ⟨b0,rfl,h0⟩ (λi nu h o ho=>by obtain ⟨b,rfl,_⟩:=h;exact qW i b o ho) (λi x nu hx h=>by obtain ⟨b,rfl,h⟩:=h;exact step _ i x b hx h λb' h=>⟨b',rfl,h⟩) (λnu h=>by obtain ⟨b,rfl,h⟩:=h;exact fin b h) hf
theorem KH{β:Type}{zi:lF}{body orelse:List ed}(hk:1<=k)
 (he:WE k mu env e λy nu=>∃(xs:List V) (S:Nat->β->Mu) (b0:β),y= .list xs/\nu=S 0 b0/\(∀T i x b,xs[i]? =ae x->(∀b',T (S (i+1) b'))->mI k (S i b) env t x λrp=>WS k rp env body (kU T Ψ))/\∀b,WS k (S xs.length b) env orelse Ψ)
 (hf:autoParam (∀x,bw e env x=dh x) aR):WX k mu env (.For t e body orelse zi) Ψ:=
 Og hk ⟨λ{u u u u u u} hA r q=>he.c hA r λ{u u u u u} z v r w=>by
  refine lG w λxs S b0 e1 e2 h1 h2=>?_;clear w;exact q z v r ⟨xs,λi nu=>∃b,nu=S i b,e1,⟨b0,e2⟩,λi x nu hx h=>by obtain ⟨b,rfl⟩:=h;exact h1 _ i x b hx λb'=>⟨b',rfl⟩,λnu h=>by obtain ⟨b,rfl⟩:=h;exact h2 b⟩⟩ hf
theorem KI{A B C D:Type}{S:Nat->A->B->C->D->Mu}{X:C->List V}{m0:Nat}{Q:ay}{zi:lF}{body orelse:List ed}(I:Nat->Nat->C->D->Prop){a:A}{b:B}{c:C}{d:D}(h0:I m0 0 c d)(he:PE k (S 0 a b c d) env e (.ref Q))(hk:1<=k)(qi:∀{i a b c d},bk Q (X c)∈S i a b c d)(hlen:∀m i c d,I m i c d->i<=(X c).length)
 (step:∀T m i a b c d x,I m i c d->(X c)[i]? =ae x->(∀m' a b c d,m' < m->I m' (i+1) c d->T (S (i+1) a b c d))->mI k (S i a b c d) env t x λrp=>WS k rp env body (kU T Ψ))
 (fin:∀m a b c d,I m (X c).length c d->WS k (S (X c).length a b c d) env orelse Ψ) (hf:autoParam (∀x,bw e env x=dh x) aR):WX k (S 0 a b c d) env (.For t e body orelse zi) Ψ:=
 G9 (λm i xs nu=>∃a b c d,xs=X c/\nu=S i a b c d/\I m i c d) he hk m0 (X c) ⟨a,b,c,d,rfl,rfl,h0⟩ (λm i xs nu h=>by obtain ⟨a,b,c,d,rfl,rfl,_⟩:=h;exact qi)
  (λm i xs nu x h hx=>by obtain ⟨a,b,c,d,rfl,rfl,h⟩:=h;exact step _ m i a b c d x h hx λm' a b c d hm h=>⟨m',X c,hm,a,b,c,d,rfl,rfl,h⟩)
  (λm i xs nu h hx=>by obtain ⟨a,b,c,d,rfl,rfl,h⟩:=h;subst hx;exact fin m a b c d h) (λm i xs nu h=>by obtain ⟨a,b,c,d,rfl,rfl,h⟩:=h;exact hlen m i c d h) hf
theorem Hg(h:WE k mu env l λy nu=>∃(Q:Vw) (b:Bool),EV k nu env r Q/\s7 k nu E7 (bZ y) Q b/\Φ (.bool b) nu)(hm:wm E7 r=aH:=by with_unfolding_all rfl):WE k mu env (.Compare l [E7] [r] p) Φ:=⟨λ{z z z z z z} hA R q=>by
 with_reducible refine wpAny_Compare1 ?_ hm
 exact h.c hA R λz1 q1 r1 ⟨Q,b,hr,ho,w⟩=>hr.c hA r1 λ{z z z} z2 p2 r2=>ho.c hA r2 (q1.mono z2) p2 λ{z z z} z3 p3 r3=>q (z1.trans (z2.trans z3)) p3 r3 w⟩
theorem Hh{Θ:Bool->Mu->Prop}(h:WE k mu env l λy nu=>∃(Q:Vw) (b:Bool),EV k nu env r Q/\s7 k nu E7 (bZ y) Q b/\Θ b nu)(hm:wm E7 r=aH:=by with_unfolding_all rfl):WT k mu env (.Compare l [E7] [r] p) Θ:=⟨λ{z z z z z z} hA R q=>by
 with_reducible refine Ab ?_ hm
 exact h.c hA R λz1 q1 r1 ⟨Q,b,hr,ho,w⟩=>hr.c hA r1 λ{z z z} z2 p2 r2=>ho.c hA r2 (q1.mono z2) p2 λ{z z z} z3 p3 r3=>(aZ.boolE p3)▸eU (q (z1.trans (z2.trans z3)) r3 w)⟩
def rS(k:Nat){α σ:Type}(nm:α->bc)(lx dx pb W fd:ay)(fs:List (bc×V))(ob:oX)(Nr:cn)(ρ:σ->Mu)(out:σ->List α->α->σ×List α)(J:Nat->Nat->List α->σ->Prop)(fin:bc->Mu->List α->σ->Prop):Prop:=
 (∀s:σ,gI lx 217 dx fs∈ρ s)/\
 ((fs.map (·.1)).Nodup)/\
 ((("pushback":bc),V.ref pb)∈fs)/\
 (("get_token":bc)∉fs.map (·.1))/\
 (("push_token":bc)∉fs.map (·.1))/\
 (ob.data= .func Nr)/\
 (∀(s:σ) (ws q:List α),Kn (bk W (ws.map λw=>V.str (nm w))::bk pb (q.map λw=>V.str (nm w))::ρ s) λhp=>hp.get? fd=ae ob)/\
 (∀m i (ws:List α) (s:σ),J m i ws s->ws.length<=2000/\i<=ws.length)/\
 (∀m i (ws:List α) (s:σ) (w:α),J m i ws s->ws[i]? =ae w->FW (k+3) (bk W (ws.map λw=>V.str (nm w))::bk pb ((ws.drop (i+1)).map λw=>V.str (nm w))::ρ s) (.ref fd) [.str (nm w)] λy nu=>
  y= .list ((out s ws w).2.map λw=>V.str (nm w))/\nu=bk W (ws.map λw=>V.str (nm w))::bk pb ((ws.drop (i+1)).map λw=>V.str (nm w))::ρ (out s ws w).1)/\
 (∀m i (ws:List α) (s:σ) (w:α),J m i ws s->ws[i]? =ae w->∃m',m' < m/\J m' (i+1) (ws++(out s ws w).2) (out s ws w).1)/\
 ∀m (ws:List α) (s:σ),J m ws.length ws s->FW (k+3) (bk W (ws.map λw=>V.str (nm w))::bk pb []::ρ s) (.ref 207) [.ref lx] λy nu=>∃c,y= .str c/\fin c nu ws s
section
variable {α σ:Type}{nm:α->bc}{ρ:σ->Mu}{out:σ->List α->α->σ×List α}{J:Nat->Nat->List α->σ->Prop}{fin:bc->Mu->List α->σ->Prop}(h:rS k nm lx dx pb W fd fs ob Nr ρ out J fin)
def rS.lex:=@h.1
def rS.nd:=@h.2.1
def rS.hpb:=@h.2.2.1
def rS.ng:=@h.2.2.2.1
def rS.np:=@h.2.2.2.2.1
def rS.fn:=@h.2.2.2.2.2.1
def rS.kn:=@h.2.2.2.2.2.2.1
def rS.len:=@h.2.2.2.2.2.2.2.1
def rS.deed:=@h.2.2.2.2.2.2.2.2.1
def rS.step:=@h.2.2.2.2.2.2.2.2.2.1
def rS.last:=@h.2.2.2.2.2.2.2.2.2.2
end
noncomputable abbrev rnFr(L lx W fd:ay)(close:bc)(o1 o2:Option V):cY:=bq L (aM (L+1) (bj (cO 21)).names) [ae (.ref lx),ae (.ref W),ae (.str close),ae (.ref fd),o1,o2]
noncomputable abbrev tf(pm cd doc:aj)(L:ay):iE:=dT (xu (cO 21) pm cd doc) 297 L
noncomputable abbrev Rx{α σ:Type}(nm:α->bc)(L lx W fd pb:ay)(close:bc)(ρ:σ->Mu)(o1 o2:Option V)(ws q:List α)(s:σ):Mu:=rnFr L lx W fd close o1 o2::bk W (ws.map λw=>V.str (nm w))::bk pb (q.map λw=>V.str (nm w))::ρ s
def CO(k:Nat){α σ:Type}(nm:α->bc)(lx dx W fd:ay)(fs:List (bc×V))(ob:oX)(out:σ->List α->α->σ×List α)(J:Nat->Nat->List α->σ->Prop)(Φ:V->Mu->Prop)(st:Option V->Option V->List α->List α->σ->Mu)(pm cd doc:aj)(L:ay):Prop:=
 (∀{o1 o2 ws q s p},PE (k+3) (st o1 o2 ws q s) (tf pm cd doc L) (.Name "lexer" p) (.ref lx))/\
 (∀{o1 o2 ws q s p},PE (k+3) (st o1 o2 ws q s) (tf pm cd doc L) (.Name "line" p) (.ref W))/\
 (∀{o1 o2 ws q s p},PE (k+3) (st o1 o2 ws q s) (tf pm cd doc L) (.Name "deed" p) (.ref fd))/\
 (∀{v o2 ws q s p},PE (k+3) (st (ae v) o2 ws q s) (tf pm cd doc L) (.Name "name" p) v)/\
 (∀{v o1 ws q s p},PE (k+3) (st o1 (ae v) ws q s) (tf pm cd doc L) (.Name "other" p) v)/\
 (∀{v o1 o2 ws q s p} {Ψ:Mu->Prop},Ψ (st (ae v) o2 ws q s)->mI (k+3) (st o1 o2 ws q s) (tf pm cd doc L) (.Name "name" p) v Ψ)/\
 (∀{v o1 o2 ws q s p} {Ψ:Mu->Prop},Ψ (st o1 (ae v) ws q s)->mI (k+3) (st o1 o2 ws q s) (tf pm cd doc L) (.Name "other" p) v Ψ)/\
 (∀{o1 o2 ws q s},gI lx 217 dx fs∈st o1 o2 ws q s)/\
 (∀{o1 o2 ws q s},bk W (ws.map λw=>V.str (nm w))∈st o1 o2 ws q s)/\
 (∀{o1 o2 ws q s},Kn (st o1 o2 ws q s) λhp=>hp.get? fd=ae ob)/\
 (∀{o1 o2 ws q s w} {Ψ:V->Mu->Prop},q.length<=4000->Ψ .none (st o1 o2 ws (q++[w]) s)->FW (k+3) (st o1 o2 ws q s) (.ref 214) [.ref lx,.str (nm w)] Ψ)/\
 (∀{o1 o2 ws q s w} {Ψ:V->Mu->Prop},q.length<=4000->Ψ (.str (nm w)) (st o1 o2 ws q s)->FW (k+3) (st o1 o2 ws (w::q) s) (.ref 207) [.ref lx] Ψ)/\
 (∀{o1 o2 ws q s w} {Ψ:V->Mu->Prop},ws.length<=4000->Ψ .none (st o1 o2 (ws++[w]) q s)->BO (k+3) (st o1 o2 ws q s) (.builtin "list.append") [bZ (.ref W),bZ (.str (nm w))] Ψ)/\
 (∀{m i o1 o2 ws s w} {Ψ:V->Mu->Prop},J m i ws s->ws[i]? =ae w->Ψ (.list ((out s ws w).2.map λw=>V.str (nm w))) (st o1 o2 ws (ws.drop (i+1)) (out s ws w).1)->FW (k+3) (st o1 o2 ws (ws.drop (i+1)) s) (.ref fd) [.str (nm w)] Ψ)/\
 ∀{m o1 o2 ws s},J m ws.length ws s->WS (k+3) (st o1 o2 ws [] s) (tf pm cd doc L) ((fR (cO 21)).drop 2) (lD Φ)
section
variable {α σ:Type}{nm:α->bc}{out:σ->List α->α->σ×List α}{J:Nat->Nat->List α->σ->Prop}{st:Option V->Option V->List α->List α->σ->Mu}(h:CO k nm lx dx W fd fs ob out J Φ st pm cd doc L)
def CO.vl:=@h.1
def CO.vw:=@h.2.1
def CO.vd:=@h.2.2.1
def CO.n1:=@h.2.2.2.1
def CO.n2:=@h.2.2.2.2.1
def CO.a1:=@h.2.2.2.2.2.1
def CO.a2:=@h.2.2.2.2.2.2.1
def CO.im:=@h.2.2.2.2.2.2.2.1
def CO.lm:=@h.2.2.2.2.2.2.2.2.1
def CO.kn:=@h.2.2.2.2.2.2.2.2.2.1
def CO.push:=@h.2.2.2.2.2.2.2.2.2.2.1
def CO.take:=@h.2.2.2.2.2.2.2.2.2.2.2.1
def CO.app:=@h.2.2.2.2.2.2.2.2.2.2.2.2.1
def CO.deed:=@h.2.2.2.2.2.2.2.2.2.2.2.2.2.1
def CO.last:=@h.2.2.2.2.2.2.2.2.2.2.2.2.2.2
end
section
variable {α σ:Type}{nm:α->bc}{ρ:σ->Mu}{out:σ->List α->α->σ×List α}{J:Nat->Nat->List α->σ->Prop}{fin:bc->Mu->List α->σ->Prop}{close:bc}{m0:Nat}{Nu:List α}{s0:σ}{st:Option V->Option V->List α->List α->σ->Mu}
theorem rn_ok(H:Hy G)(LH:fL G K)(RH:rS k nm lx dx pb W fd fs ob Nr ρ out J fin)(he:dz (tf pm cd doc L))(hΦ:∀m ws s c nu,J m ws.length ws s->fin c nu ws s->Φ (.bool (c == close)) nu):CO k nm lx dx W fd fs ob out J Φ (Rx nm L lx W fd pb close ρ) pm cd doc L:=by
 have im:∀{a b c:cY} {s},gI lx 217 dx fs∈a::b::c::ρ s:=ab _ (ab _ (ab _ (RH.lex _)));refine ⟨?_,?_,?_,?_,?_,?_,?_,?_,?_,?_,?_,?_,?_,?_,?_⟩
 ·intro o1 o2 ws q s p;exact ah (j:=0) he .loc aa rfl
 ·intro o1 o2 ws q s p;exact ah (j:=1) he .loc aa rfl
 ·intro o1 o2 ws q s p;exact ah (j:=3) he .loc aa rfl
 ·intro v o2 ws q s p;exact ah (j:=4) he .loc aa rfl
 ·intro v o2 ws q s p;exact ah (j:=5) he .loc aa rfl
 ·intro v o1 o2 ws q s p Ψ h;exact aQ (i:=0) (j:=4) he .loc rfl h
 ·intro v o1 o2 ws q s p Ψ h;exact aQ (i:=0) (j:=5) he .loc rfl h
 ·intro o1 o2 ws q s;exact im
 ·intro o1 o2 ws q s;exact ab _ aa
 ·intro o1 o2 ws q s;exact (RH.kn s ws q).sub (gW _ _)
 ·intro o1 o2 ws q s w Ψ hq h;refine ((Ru (k:=k) (i:=2) (y:= .str (nm w)) H LH im RH.nd RH.hpb rfl (by refine ai (ak ..) ?_;exact b7 (by assumption) (by decide))).le (jC _)).mono λr nu e=>?_;refine ai (e.1 ..) ?_;refine ai (e.2 ..) ?_;unfold Rx at h;rw [bh] at h;exact h
 ·intro o1 o2 ws q s w Ψ hq h;refine ((Rv (k:=k) (i:=2) (y:= .str (nm w)) (xs:=q.map λw=>V.str (nm w)) H LH im RH.nd RH.hpb rfl (by refine ai (ak ..) ?_;exact b7 (by assumption) (by decide))).le (jC _)).mono λr nu e=>?_;refine ai (e.1 ..) ?_;refine ai (e.2 ..) ?_;exact h
 ·intro o1 o2 ws q s w Ψ hq h;refine kz (i:=1) rfl (by refine ai (ak ..) ?_;show _ < 2 ^ 22;exact b7 (by assumption) (by decide)) ?_;unfold Rx at h;rw [bh] at h;exact h
 ·intro m i o1 o2 ws s w Ψ hJ hw h;refine FW.up ((RH.deed m i ws s w hJ hw).mono λy nu e=>?_);refine ai (e.1 ..) ?_;refine ai (e.2 ..) ?_;exact h
 ·intro m o1 o2 ws s hJ;refine cu (LH.f207.go) λobg pmg cdg docg PL SR z=>aC (gy (Hg (pN LH.KO LH.m_get (ah (j:=0) he .loc aa rfl) im RH.ng PL SR (FW.up ((RH.last m ws s hJ).mono λy nu hq=>?_)))));refine aK hq λc e2 e3=>?_;clear hq;exact ai (e2 ..) (⟨bZ (.str close),(c == close),ah (j:=2) he .loc aa rfl,rz,kh (hΦ m ws s c nu hJ e3)⟩)
def qC.S0(k:Nat)(Φ:V->Mu->Prop)(pm cd doc:aj)(L:ay):Prop:=∀{K:gn} {α σ:Type} {nm:α->bc} {lx dx pb W fd:ay} {fs:List (bc×V)} {ob:oX} {Nr:cn} {ρ:σ->Mu} {out:σ->List α->α->σ×List α} {J:Nat->Nat->List α->σ->Prop} {fin:bc->Mu->List α->σ->Prop} {m0:Nat} {Nu:List α} {s0:σ} {st:Option V->Option V->List α->List α->σ->Mu} (LH:fL G K) (RH:rS k nm lx dx pb W fd fs ob Nr ρ out J fin) (T:CO k nm lx dx W fd fs ob out J Φ st pm cd doc L) (h0:J m0 0 Nu s0),WS (k+3) (st av av Nu [] s0) (tf pm cd doc L) (fR (cO 21)) (lD Φ)
namespace qC
@[irreducible] def e0:=Fi eO sZ gM gM gM cM S0
def k_:=e0.1
def Φ_:=e0.2.1
def pf:=e0.2.2.1
def cd_:=e0.2.2.2.1
def g8:=e0.2.2.2.2.1
def L_:=e0.2.2.2.2.2
theorem T0:S0 k_ Φ_ pf cd_ g8 L_:=by
 intro K α σ nm lx dx pb W fd fs ob Nr ρ out J fin m0 Nu s0 st LH RH T h0;refine cu (LH.f214.go) λobp pmp cdp docp JN hpd z=>cu (LH.f207.go) λobg pmg cdg docg PL SR z=>?_;have hk:1<=k_+3:=Nat.le_add_left 1 (k_+2);have tl:∀{l:List α} {j n:Nat},l.length+n<=4000->(l.take j).length+n<=4000:=λ{z z z} h=>aw (Tp (kK ..) _) h;refine aC (Oh (S:=λj o=>st o av Nu (Nu.take j) s0) (b0:=av) (xs:=Nu.map λw=>V.str (nm w)) (λz z=>True) trivial (Ar T.vw T.lm) hk (λi b o ho=>aA.mp ho▸T.lm) (λI i x b hx z hI=>?_) λb z=>?_)
 ·rw [aI] at hx;refine aK (aL.mp hx) λw hw dP=>?_;subst dP;have hI:=hI (ae (.str (nm w))) trivial;rw [dG,hw] at hI;exact T.a1 (aC (ig (BY LH.KO LH.m_put T.vl T.im RH.np JN hpd (cB (cg T.n1 (e8 (T.push (tl (n:=0) (aw (RH.len _ _ _ _ h0).1 (by decide))) (bB hI))))))))
 refine ai (ak ..) ?_;refine ai (cL ..) ?_;refine bB (aC (KI (S:=λi o1 o2 ws s=>st o1 o2 ws (ws.drop i) s) (X:=λws=>ws.map λw=>V.str (nm w)) (a:=b) (b:=av) (c:=Nu) (d:=s0) J h0 T.vw hk T.lm (λm i ws s h=>by refine ai (ak ..) ?_;exact (RH.len _ _ _ _ h).2) (λI m i o1 o2 ws s x hJ hx hI=>?_) λm o1 o2 ws s hJ=>?_))
 ·rw [aI] at hx;refine aK (aL.mp hx) λw hw eT=>?_;subst eT;have hlt:i < ws.length:=(aB.mp hw).1;have SA:=(RH.len _ _ _ _ hJ).1;refine T.a1 (ai (show ws.drop i=w::ws.drop (i+1) by rw [dZ hlt,(aB.mp hw).2]) ?_);have E9:(ws.drop (i+1)).length<=2000:=by refine ai (fY ..) ?_;lia
  refine aC (xN (Hh (pN LH.KO LH.m_get T.vl T.im RH.ng PL SR (T.take (aw E9 (by decide)) ⟨bZ (.str (nm w)),(nm w != nm w),T.n1,tw,?_⟩))));refine ai (show (nm w != nm w)=aH by simp) (bB ?_);refine aK (RH.step m i ws s w hJ hw) λm' hm' TX=>?_;have hl':=(RH.len _ _ _ _ TX).1;rw [ba] at hl';refine aC (KH hk (KG T.vd RH.fn (cB (cg T.n1 (e8 ⟨T.kn,T.deed hJ hw ⟨_,λj o2=>st (ae (.str (nm w))) o2 (ws++(out s ws w).2.take j) (ws.drop (i+1)++(out s ws w).2.take j) (out s ws w).1,o2,rfl,?_,λI' j x o2 hx hI'=>?_,λo2=>?_⟩⟩)))))
  ·dsimp only;refine ai (xk ..) ?_;refine ai (cz ..) ?_;refine ai (cz ..) ?_;rfl
  ·rw [aI] at hx;refine aK (aL.mp hx) λu hu gi=>?_;subst gi;have hI':=hI' (ae (.str (nm u)));dsimp only at hI';rw [dG,hu,Ag,<- bU,<- bU] at hI';have htk:((out s ws w).2.take j).length<=(out s ws w).2.length:=kK ..;exact T.a2 (aC (ig (BY LH.KO LH.m_put T.vl T.im RH.np JN hpd (cB (cg T.n2 (e8 (T.push (by refine ai (ba ..) ?_;lia) (aC (ig (mY T.vw (j4 T.lm) (au T.n2 aT) (T.app (by refine ai (ba ..) ?_;lia) (bB hI')) (by exact fP) (by exact iU) (by exact b9) rfl))))))))))
  ·have hI:=hI m' (ae (.str (nm w))) o2 _ _ hm' TX;rw [gu hlt] at hI;dsimp only;refine ai (ak ..) ?_;refine ai (cL ..) ?_;exact bB (bB hI)
 ·rw [ak] at hJ ⊢;refine bB (ai (ou ..) ?_);exact T.last hJ
end qC
theorem qC:qC.S0 k Φ pm cd doc L:=by with_unfolding_all exact uz _ _ _ _ _ _ qC.S0 @qC.T0 k Φ pm cd doc L
theorem Qi(H:Hy G)(LH:fL G K)(RH:rS k nm lx dx pb W fd fs ob Nr ρ out J fin)(h0:J m0 0 Nu s0)(hΦ:∀m ws s c nu,J m ws.length ws s->fin c nu ws s->Φ (.bool (c == close)) nu):
 FW (k+4) (bk W (Nu.map λw=>V.str (nm w))::bk pb []::ρ s0) (.ref 297) [.ref lx,.ref W,.str close,.ref fd] Φ:=
 te H H.f297 (names:=["lexer","line","close","deed"]) (vals':=λL=>[ae (.ref lx),ae (.ref W),ae (.str close),ae (.ref fd),av,av]) (λpm cd doc vs h=>Rk h λa b c d=>rfl) (by decide+kernel) rfl
  (λpm cd doc L=> .cons (j:=0) .loc rfl (.cons (j:=1) .loc rfl (.cons (j:=2) .loc rfl (.cons (j:=3) .loc rfl .nil)))) (λpm cd doc L he=>qC LH RH (rn_ok H LH RH he hΦ) h0)
end
section
variable {v:bP}
theorem KJ(H:Hy G){a:ay}{st:ed}{qual:bc}(F:nF G a st qual){names:List bc}{vals':ay->eL}
 (i0:∀pm cd doc vs,vs.length=xs.length->pF (Ao st qual pm cd doc) ⟨vs,[]⟩=dh (names.zip vs)) (hnd:(aM 0 (bj st).names).nd) (hk:(bj st).kind= .function)
 (hb:∀pm cd doc L,i9 (dT (Ao st qual pm cd doc) a L) L (aM (L+1) (bj st).names) names xs (nones (aM (L+1) (bj st).names)) (vals' L))
 (h:∀pm cd doc L,dz (dT (Ao st qual pm cd doc) a L)->WS k (bq L (aM (L+1) (bj st).names) (vals' L)::mu) (dT (Ao st qual pm cd doc) a L) (fR st) (lD Φ)) (wj:autoParam ((bj st).isCoroutine=aH) aR) (mP:autoParam ((bj st).isGenerator=aH) aR):
 FC (k+1) mu (.ref a) xs Φ:=by
 exact cu (F.go) λob pm cd doc h0 hd hcd=>Qe H.B (names:=names) (vals':=vals') (Kn.z0 h0) hd (λZ s r=>hcd _ r.z0in) rfl (i0 pm cd doc) hnd (λL=>⟨hk,rfl,rfl⟩) (hb pm cd doc) (λL=>h pm cd doc L ⟨hk,rfl,rfl⟩) wj mP
theorem KL{fI:ay}(KO:FM G K)(hm:makesIn K C=aJ)(hi:fG K (.ref C) "__init__"=ae (ae (.ref fI)))(hf:typeIn K (.ref fI)=ae (.type "function"))
 (h:∀x dx,FC k (gI x C dx []::mu) (.ref fI) (.ref x::xs) λy nu=>y= .none/\Φ (.ref x) nu):FW (k+1) mu (.ref C) xs Φ:=⟨λ{A E Z s fr vs Q} hA r hv q=>by
 obtain ⟨hh,g,d,t,os⟩:=s;have X:K.In hh:=KO.inn _ r.z0in;refine eF (make_core (makes_of X hm) (mS X hi) (λself=>bind_fn X self hf) (.inl rfl) ?_);have r2:R Z (gI (hh.objs.size+1) C hh.objs.size []::(mu++fr)) ⟨(hh.push emptyDict).push (Aa C hh.objs.size),g,d,t,os⟩:=r.addNew (tk:=t) _ (λb o e=>az _ (az _ e)) ⟨by heap_get,[],0,by heap_get,trivial⟩ (cj.mpr ⟨λhm=>absurd (aA.mp hm) (oq _),eg⟩) λb hb=>(aP.mp hb).elim (λe=>e▸jC _) λhb=>kW hb;have hA':Rm k (A.under (.builtin "type.__call__" ⟨.ref C::vs,[]⟩)):=⟨hA.hh,by have:=hA.dep;show A.depth+1+k<=900;lia,by have:=hA.uni;show A.units+1+10*k<=9000;lia⟩;refine codeAny_mono ((h _ _).c (E:=E) (Q:=λw s'=>w= .none/\Q (.ref (hh.objs.size+1)) s') hA' r2 (.cons (.ref _) hv) λ{u u u u u} z hy r' w=>⟨aZ.noneE (w.1▸hy),q z (.ref _) r' w.2⟩) λres s' z=>?_;rcases res with e|(v|_|_|_) <;> first|exact z|exact (show False from z).elim⟩
theorem BZ{f:bc}(KO:FM G K)(hk:keepIn K (.ref C)=aJ)(hf:PE k mu env (.Name f p) (.ref C))(ha:Dm k mu env (e::es) λys nu=>FW k nu (.ref C) ys Φ)(hs:autoParam (kg (e::es)=aJ) aR):
 WE k mu env (.Call (.Name f p) (e::es) [] pos) Φ:=⟨λ{A E Z s fr Q} hA r q=>by
 with_reducible refine gC ?_
 refine hf.c hA r λ{f s1 Z1} z1 q1 r1=>?_;rw [aZ.refE q1];exact callWith_K (KO.inn _ r1.z0in) hk (ha.c hA r1 λ{z z z z z} z2 q2 r2 w2=>⟨KO.inn _ r2.z0in,w2.c hA r2 q2 λ{z z z z z} z3=>q (z1.trans (z2.trans z3))⟩) (et (jt hs).1) (kX (jt hs).2 pos)⟩
end
def uM(K:gn):Prop:=
 (makesIn K 217=aJ)/\
 (fG K (.ref 217) "__init__"=ae (ae (.ref 193)))/\
 (typeIn K (.ref 193)=ae (.type "function"))/\
 (keepIn K (.ref 217)=aJ)/\
 (makesIn K 245=aJ)/\
 (fG K (.ref 245) "__init__"=ae (ae (.ref 235)))/\
 (typeIn K (.ref 235)=ae (.type "function"))/\
 keepIn K (.ref 245)=aJ
section
variable (h:uM K)
def uM.mk217:=@h.1
def uM.i217:=@h.2.1
def uM.t193:=@h.2.2.1
def uM.k217:=@h.2.2.2.1
def uM.mk245:=@h.2.2.2.2.1
def uM.i245:=@h.2.2.2.2.2.1
def uM.t235:=@h.2.2.2.2.2.2.1
def uM.k245:=@h.2.2.2.2.2.2.2
end
noncomputable def tg(n:Int)(fp:V)(pb:ay):List (bc×V):=[("lineno",.int n),("instream",fp),("whitespace",.str "\n\t\r "),("pushback",.ref pb)]
def Ry(fp:V)(mu:Mu)(y:V)(nu:Mu):Prop:=∃lx dx pb,y= .ref lx/\nu=bk pb []::gI lx 217 dx (tg 1 fp pb)::mu
theorem KM(H:Hy G)(LH:fL G K)(NH:uM K):FW (k+3) mu (.ref 217) [x] (Ry x mu):=by
 refine KL LH.KO NH.mk217 NH.i217 NH.t193 λlx dx=>KJ H LH.f193 (names:=["self","fp"]) (vals':=λL=>[ae (.ref lx),ae x]) (λpm cd doc vs h=>?_) (by decide+kernel) rfl (λpm cd doc L=>?_) (λpm cd doc L he=>?_)
 ·exact zM h λa b=>rfl
 ·exact .cons (j:=0) .loc rfl (.cons (j:=1) .loc rfl .nil)
 refine aC (bX aU (rR LH.KO LH.s_line (ah (j:=0) he .loc aa rfl) (i:=1) rfl (by decide) ?_) rfl rfl);refine aC (bX (ah (j:=1) he .loc aa rfl) (rR LH.KO LH.s_in (ah (j:=0) he .loc aa rfl) (i:=1) rfl (bg rfl) ?_) rfl rfl);refine aC (bX cP (rR LH.KO LH.s_ws (ah (j:=0) he .loc aa rfl) (i:=1) rfl (bg rfl) ?_) rfl rfl);refine aC (b4 (sy (xs:=[]) aT (bg rfl) (λT=>fK.ref (rR LH.KO LH.s_push (ah (j:=0) he .loc (ab _ aa) rfl) (i:=2) rfl (bg rfl) ?_))) rfl rfl);refine bB (jJ.sub (nu':=bk T []::gI lx 217 dx (tg 1 x T)::mu) ?_ (jJ.keep ⟨rfl,lx,dx,T,rfl,rfl⟩));exact .cons_cons _ (.cons _ (.refl (gI lx 217 dx (tg 1 x T)::mu)))
def Oi(x:V)(mu:Mu)(y:V)(nu:Mu):Prop:=∃ax dx,y= .ref ax/\nu=gI ax 245 dx [("comp_select_list",x)]::mu
theorem Io(H:Hy G)(LH:fL G K)(NH:uM K):FW (k+3) mu (.ref 245) [x] (Oi x mu):=by
 refine KL LH.KO NH.mk245 NH.i245 NH.t235 λlx dx=>KJ H LH.f235 (names:=["self","comp_select_list"]) (vals':=λL=>[ae (.ref lx),ae x]) (λpm cd doc vs h=>?_) (by decide+kernel) rfl (λpm cd doc L=>?_) (λpm cd doc L he=>?_)
 ·exact zM h λa b=>rfl
 ·exact .cons (j:=0) .loc rfl (.cons (j:=1) .loc rfl .nil)
 refine aC (bX (ah (j:=1) he .loc aa rfl) (rR LH.KO LH.s_comp (ah (j:=0) he .loc aa rfl) (i:=1) rfl (by decide) ?_) rfl rfl);exact bB (jJ.tail (jJ.keep ⟨rfl,lx,dx,rfl,rfl⟩))
variable {prog:d7}{w:eo}
section
variable {Q:aj->aq->Prop}
theorem FN{it l:ay}{i:Nat}{items:Array aj}{x d:aj}(hit:s.heap.IsListIter it l i)(hl:s.heap.IsList l items)(hx:items[i]? =ae x)(hQ:∀h',h'.IsListIter it l (i+1)->ji it s.heap h'->Q x {s with heap:=h'}):
 aS (aX prog w) A (ks (.builtin "next") [.ref it,d]) Q E s:=by
 refine gw (by decide+kernel) (by decide+kernel) EX (kdk_args_next2 _ _) ?_;unfold Builtin.«next»
 refine ag (m:=CF "next" 1 2 _) (cN (a:=[cZ it,d]) (by first|rfl|kernel_rfl!) ?_);dsimp only;refine ag (h8 (name:=fQ "__next__") hit.typeIs slot_listiter_next.lookup ?_);refine f5 (λwW=>absurd wW (by decide)) (λz=>?_);refine ag (zp hit hl hx λh' h1 h2=>?_);exact ar ⟨_,rfl,hQ h' h1 h2⟩
theorem Ip{it l:ay}{i:Nat}{items:Array aj}{d:aj}(hh:A.handled=av)(hit:s.heap.IsListIter it l i)(hl:s.heap.IsList l items)(hx:items[i]? =av)(hQ:∀h',rt it s.heap h'->Q d {s with heap:=h'}):
 aS (aX prog w) A (ks (.builtin "next") [.ref it,d]) Q E s:=by
 refine gw (by decide+kernel) (by decide+kernel) EX (kdk_args_next2 _ _) ?_;unfold Builtin.«next»
 refine ag (m:=CF "next" 1 2 _) (cN (a:=[cZ it,d]) (by first|rfl|kernel_rfl!) ?_);dsimp only;refine ag (h8 (name:=fQ "__next__") hit.typeIs slot_listiter_next.lookup ?_);refine f5 (λwW=>absurd wW (by decide)) (λz=>?_);refine ag (Ad hh hit hl hx λh' h1=>?_);exact ar ⟨_,rfl,hQ h' h1⟩
structure B1(h h':dI)(e:ay):Prop where
 keeps:∀b o,h.get? b=ae o->h'.get? b=ae o
 new:h.get? e=av
 there:∃t,h'.get? e=ae {cls:= .type "StopIteration",data:= .fields (#[.ref t,.none,.none,.none,.bool aH,.none]++ownMembersOf (.type "StopIteration") [])}/\h.get? t=av/\h'.get? t=ae {cls:= .type "tuple",data:= .seq #[]}
noncomputable abbrev tup0:oX:={cls:= .type "tuple",data:= .seq #[]}
noncomputable abbrev stopO(t:ay):oX:={cls:= .type "StopIteration",data:= .fields (#[.ref t,.none,.none,.none,.bool aH,.none]++ownMembersOf (.type "StopIteration") [])}
theorem nG{α:Type}{prog:d7}{w:eo}{A:bo}{Q:α->aq->Prop}{E:aj->aq->Prop}{s:aq}(hh:A.handled=av)
 (h:E (.ref (s.heap.push tup0).objs.size) {s with heap:=(s.heap.push tup0).push (stopO s.heap.objs.size)}):aS (aX prog w) A (Tt (.type "StopIteration") [] >>=raiseNew) Q E s:=by
 refine ag ?_;delta Tt newTuple;refine ag (jg ?_ (by size_fits));refine ag (m:=firstArgMember _ _) (cN (a:=eG) rfl ?_);refine jg ?_ (by size_fits);delta raiseNew;refine ag (wpAny_handled ?_);refine ai (hh ..) ?_;exact ag (ar (wpAny_throw h))
theorem FO{it:ay}{b:Array UInt8}{t:HO}{i:Nat}{c:UInt8}(hit:Br s.heap it b t i)(hx:b[i]? =ae c)
 (hQ:∀h',Br h' it b t (i+1)->ji it s.heap h'->Q (.int (c.toNat:Int) s.toks) {s with heap:=h',toks:=s.toks+1}):aS (aX prog w) A (ks (.builtin "next") [.ref it]) Q E s:=by
 refine gw (by decide+kernel) (by decide+kernel) EX (kdk_args_next _) ?_;unfold Builtin.«next»
 refine ag (m:=CF "next" 1 2 _) (cN (a:=[cZ it]) (by first|rfl|kernel_rfl!) ?_);dsimp only;refine ag (h8 (name:=fQ "__next__") (oj hit) rx.lookup ?_);refine f5 (λwW=>absurd wW (by decide)) (λz=>?_);refine ef (id hit) λo ho hc hd=>ag (dX (name:=Ai "__next__") (oj hit) rx
  (dq rx (oj hit) KBw.entry_next ?_ (KBw.args_next _)))
 show aS _ _ (vq (.ref it) 0 >>=_) _ _ s;refine ag (dS ho hd (x:= .bytes b t) rfl ?_);show aS _ _ (if (CG b t == eG)=aJ then _ else _) _ _ s;refine ai (if_neg (show ¬((CG b t == eG)=aJ) from cG)) ?_;show aS _ _ (vq (.ref it) 1 >>=_) _ _ s;refine ag (dS ho hd (x:= .int i 0) rfl ?_);refine ag (cN (a:=b) rfl ?_);simp only [b8,hx];refine ag (eH ho hd (by exact bp _) (ag (wpAny_mkInt (ar ⟨_,rfl,ar ⟨_,rfl,hQ _ ?_ (bY ..)⟩⟩))));exact ⟨_,bS _ ho (iW (dQ hd _)),(pH ..).trans hc,by refine ai (dQ hd ..) ?_;simp [pA]⟩
theorem Iq{it:ay}{b:Array UInt8}{t:HO}{i:Nat}(hh:A.handled=av)(hit:Br s.heap it b t i)(hx:b[i]? =av)
 (hE:∀h1 h' e,rt it s.heap h1->B1 h1 h' e->E (.ref e) {s with heap:=h'}):aS (aX prog w) A (ks (.builtin "next") [.ref it]) Q E s:=by
 refine gw (by decide+kernel) (by decide+kernel) EX (kdk_args_next _) ?_;unfold Builtin.«next»
 refine ag (m:=CF "next" 1 2 _) (cN (a:=[cZ it]) (by first|rfl|kernel_rfl!) ?_);dsimp only;refine ag (h8 (name:=fQ "__next__") (oj hit) rx.lookup ?_);refine f5 (λwW=>absurd wW (by decide)) (λz=>?_);refine ef (id hit) λo ho hc hd=>ag (dX (name:=Ai "__next__") (oj hit) rx
  (dq rx (oj hit) KBw.entry_next ?_ (KBw.args_next _)))
 show aS _ _ (vq (.ref it) 0 >>=_) _ _ s;refine ag (dS ho hd (x:= .bytes b t) rfl ?_);show aS _ _ (if (CG b t == eG)=aJ then _ else _) _ _ s;refine ai (if_neg (show ¬((CG b t == eG)=aJ) from cG)) ?_;show aS _ _ (vq (.ref it) 1 >>=_) _ _ s;refine ag (dS ho hd (x:= .int i 0) rfl ?_);refine ag (cN (a:=b) rfl ?_);simp only [b8,hx];refine ag (oa (ag (eH ho hd (by simp) ?_)));show aS _ _ (Tt (.type "StopIteration") [] >>=_) _ _ _;refine nG hh ?_;refine hE (s.heap.update it _) _ _ (bY ..).extBut ⟨λb o e=>az _ (az _ e),Heap.get?_none_of_le (by refine ai (fN ..) ?_;exact jC _),(s.heap.update it _).objs.size,aW _ rfl,Heap.get?_none_of_le (bp _),az _ (aW _ rfl)⟩
end
theorem B1.made{h h':dI}{e:ay}(S:B1 h h' e):Tu h h' e (.type "StopIteration") []:=
 ⟨S.keeps,S.new,let ⟨t,h1,h2,h3⟩:=S.there;⟨t,h1,h2,h3⟩⟩
variable {it:ay}{bs:List Nat}
section
variable {c:Nat}
noncomputable def jK(it:ay)(bs:List Nat):cY where
 own:=[it]
 sat:=λZ h=>∃b t i,Br h it b t i/\(b.toList.drop i).map pI=bs
 mono:=λZ Z' h hz a=>a
 loc:=λZ h h' w hk z z=>w.imp λb=>bQ λt=>bQ λi u=>⟨u.1.imp λo v=>⟨hk it aa o v.1,v.2⟩,u.2⟩
 live:=λZ h w a ha=>w.elim λb w=>w.elim λt w=>w.elim λi u=>u.1.elim λo v=>⟨o,aA.mp ha▸v.1⟩
theorem AI{α:Type}{l:List α}{j:Nat}{a:α}{r:List α}(h:l.drop j=a::r):l[j]? =ae a/\l.drop (j+1)=r:=
 ⟨by (refine fZ (List.head?_drop ..) ?_;refine ai (h ..) ?_);rfl,by (refine fZ (JB ..) ?_;refine ai (h ..) ?_);rfl⟩
theorem DF{α:Type}{l:Array α}{j:Nat}(h:l.toList.drop j=[]):l[j]? =av:=PW (eK▸List.drop_eq_nil_iff.mp h)
theorem uN(hi:mu[i]? =ae (jK it (c::bs)))(h:Φ (.int c) (mu.set i (jK it bs))):BO k mu (.builtin "next") [bZ (.ref it)] Φ:=⟨λ{A E Z s fr vs Q} hA r hq q=>by
 refine aK (hq.one) λv dP q1=>?_;subst dP;refine ai (aZ.refE q1 ..) ?_;have hi':=cH (fr:=fr) hi;refine oy (r.sat _ (ao hi')) λb t j I e=>?_;cases hd:b.toList.drop j with
 |nil=>rw [hd] at e;exact QX e
 |cons u l=>
 rw [hd] at e;exact dU (sX e) λe1 e2=>dU (AI hd) λhx hd=>FO I (bV.symm.trans hx) λh' I' hs=>q .rfl (e1▸aZ.int _ _) (gF hi▸r.upd' hi' rfl (λa o hb e=>hs.extBut a o (λq=>hb (q▸aa)) e) ⟨b,t,j+1,I',hd▸e2⟩) h⟩
noncomputable def mT(it:ay)(xs:List V):cY where
 own:=[it]
 sat:=λZ h=>∃l vs n i,h.IsListIter it l i/\Z l=ae (oG vs n)/\bW G Z (vs.toList.drop i) xs
 mono:=λZ Z' h hz w=>w.imp λl=>bQ λvs=>bQ λn=>bQ λi u=>⟨u.1,hz _ _ u.2.1,u.2.2.mono hz⟩
 loc:=λZ h h' w hk z z=>w.imp λl=>bQ λvs=>bQ λn=>bQ λi u=>⟨u.1.imp λo v=>⟨hk it aa o v.1,v.2⟩,u.2⟩
 live:=λZ h w a ha=>w.elim λl w=>w.elim λvs w=>w.elim λn w=>w.elim λi u=>u.1.elim λo v=>⟨o,aA.mp ha▸v.1⟩
theorem KN(hi:mu[i]? =ae (mT it (x::xs)))(h:Φ x (mu.set i (mT it xs))):BO k mu (.builtin "next") [bZ (.ref it),bZ y] Φ:=⟨λ{A E Z s fr vs Q} hA r hq q=>by
 refine cD (hq.two) λv u eT q1 q2=>?_;subst eT;refine ai (aZ.refE q1 ..) ?_;have hi':=cH (fr:=fr) hi;exact cu (r.sat _ (ao hi')) λl vs n j I hl hr=>cD (hr.cons_inv) λw ws hd h1 h2=>dU (AI hd) λhx hd=>FN I (⟨_,r.zin _ _ hl,rfl,n,rfl⟩:s.heap.IsList l vs) (bV.symm.trans hx) λh' I' hs=>q .rfl h1 (gF hi▸r.upd' (tk:=s.toks) hi' rfl (λa o hb e=>hs.extBut a o (λq=>hb (q▸aa)) e) ⟨l,vs,n,j+1,I',hl,hd▸h2⟩) h⟩
end
noncomputable def pO:cY where
 own:=[]
 sat:=λz z=>True
 mono:=λz z z z z=>trivial
 loc:=λz z z z z z z=>trivial
 live:=λz z z z hb=>el hb
theorem R.dead{Z:bI}{s:aq}{h':dI}{tk:Nat}{a:cY}(r:R Z mu s)(hi:mu[i]? =ae a)(hk:∀b o,b∉a.own->s.heap.get? b=ae o->h'.get? b=ae o):R Z (mu.set i (pO)) {s with heap:=h',toks:=tk}:=r.swap hi (pO) hk trivial .nil λb hb=>el hb
theorem Ir(hi:mu[i]? =ae (mT it []))(h:Φ y (mu.set i (pO))):BO k mu (.builtin "next") [bZ (.ref it),bZ y] Φ:=⟨λ{A E Z s fr vs Q} hA r hq q=>by
 refine cD (hq.two) λv u gi q1 q2=>?_;subst gi;refine ai (aZ.refE q1 ..) ?_;have hi':=cH (fr:=fr) hi;exact cu (r.sat _ (ao hi')) λl vs n j I hl hr=>Ip hA.hh I (⟨_,r.zin _ _ hl,rfl,n,rfl⟩:s.heap.IsList l vs) (DF hr.nil_inv) λh' hs=>q .rfl q2 (gF hi▸R.dead (tk:=s.toks) r hi' λa o hb e=>hs a o (λq=>hb (q▸aa)) e) h⟩
section
variable {l outer:List iE}{v:aj}
theorem DG{x y:cY}{b:ay}{mu:Mu}(hn:(gU mu).Nodup)(hx:x∈mu)(hy:y∈mu)(bx:b∈x.own)(by':b∈y.own):x=y:=by
 induction mu with
 |nil=>exact el hx
 |cons z mu ih=>
  have Sz:=bO.mp (show (z.own++gU mu).Nodup from hn);have qi:∀w:cY,w∈mu->b∈w.own->b∈gU mu:=λw hw hb=>bG.mpr ⟨w,hw,hb⟩;rcases aP.mp hx with h1|h1 <;> rcases aP.mp hy with h2|h2
  ·exact h1.trans h2.symm
  ·exact absurd rfl (Sz.2.2 b (h1▸bx) b (qi _ h2 by'))
  ·exact absurd rfl (Sz.2.2 b (h2▸by') b (qi _ h1 bx))
  ·exact ih Sz.2.1 h1 h2
def zO(env:iE)(mu:Mu):Prop:=∃lay bF,bq env.locals lay bF∈mu
structure FrOK(env:iE)(mu:Mu):Prop where
 kind:env.scope.kind≠ .module
 frame:env.frame=ae env.locals
 has:zO env mu
def ia(l:List iE)(mu:Mu):Prop:=∀env∈l,FrOK env mu
theorem zO.mono(h:zO env mu)(hs:∀x∈mu,x∈nu):zO env nu:=let ⟨a,b,c⟩:=h;⟨a,b,hs _ c⟩
theorem ia.mono(h:ia l mu)(hs:∀x∈mu,x∈nu):ia l nu:=λe he=>⟨(h e he).kind,(h e he).frame,(h e he).has.mono hs⟩
theorem ia.right(h:ia l fr):ia l (nu++fr):=h.mono λx hx=>bK _ hx
theorem ia.cons(h:ia l mu)(he:FrOK env mu):ia (env::l) mu:=λe hm=>by
 rcases aP.mp hm with rfl|hm
 ·exact he
 ·exact h e hm
theorem ia.tail(h:ia (env::l) mu):ia l mu:=λe hm=>h e (ab _ hm)
structure Up(l:List iE)(Z:bI)(mu:Mu)(base h0 h:dI):Prop where
 keepZ:∀a o,Z a=ae o->base.get? a=ae o
 keepO:∀b∈gU mu,b∉l.filterMap (·.frame)->∀o,h0.get? b=ae o->base.get? b=ae o
 up:h0.UpToSlots h
theorem Up.on{base h0 h h':dI}(U:Up l Z mu base h0 h)(hu:h.UpToSlots h'):Up l Z mu base h0 h':=⟨U.keepZ,U.keepO,U.up.trans hu⟩
theorem R.reslot{h0 base:dI}{tr:Nat}(r:R Z mu {s with heap:=h0,toks:=tr})(U:Up l Z mu base h0 s.heap)(Gx:base.StaysIn s.heap)(hf:ia l mu):R Z mu s where
 z0:=r.z0
 zin:=λa o e=>Gx a o (U.keepZ a o e)
 sat:=λx hx=>by
  have hz:∀a o,Z a=ae o->s.heap.get? a=ae o:=λa o e=>Gx a o (U.keepZ a o e);by_cases hm:∃b∈x.own,b∈l.filterMap (·.frame)
  ·refine aK hm λb hb hl=>?_;clear hm;refine aK (fV.mp hl) λenv he hb'=>?_;obtain ⟨_,h2,lay,bF,h3⟩:=hf env he;rw [h2] at hb';injection hb' with hb'
   have hxe:x=bq env.locals lay bF:=DG r.nodup hx h3 hb (by refine fZ (hb' ..) ?_;exact aa);subst hxe;refine mG (r.sat _ hx) λnd m hn hs=>⟨nd,m,U.up.ns hn,hs.loc (λc hc o ho=>?_) λz z=>rfl⟩
   have qb:(env.locals::lay.filterMap (·.2)).Nodup:=by exact cK (Td hx) λi hi=>r.ownNodup hi
   have wj:c∈gU mu:=bG.mpr ⟨_,hx,ab _ hc⟩;refine Gx c o (U.keepO c wj (λQI=>?_) o ho);refine aK (fV.mp QI) λMT he2 hc2=>?_;obtain ⟨_,h5,SS,vals2,h6⟩:=hf MT he2;rw [h5] at hc2;injection hc2 with hc2
   have hxe2:bq env.locals lay bF=bq MT.locals SS vals2:=DG r.nodup hx h6 (ab _ hc) (by refine fZ (hc2 ..) ?_;exact aa);have hoo:(bq env.locals lay bF).own=(bq MT.locals SS vals2).own:=by (refine ai (hxe2 ..) ?_;rfl)
   have hL:env.locals=MT.locals:=(sX (show env.locals::lay.filterMap (·.2)=MT.locals::SS.filterMap (·.2) from hoo)).1;exact (cj.mp qb).1 (by (refine ai (hL ..) ?_;refine ai (hc2 ..) ?_);exact hc)
  ·refine x.loc _ _ _ (r.sat x hx) (λb hb o ho=>Gx b o (U.keepO b (bG.mpr ⟨x,hx,hb⟩) (λhl=>hm ⟨b,hb,hl⟩) o ho)) r.zin hz
 nodup:=r.nodup
 sep:=r.sep
 gens:=r.gens
 os:=r.os
noncomputable abbrev KP:aj:= .type "StopIteration"
def Qj(Z:bI)(mu:Mu)(v:aj)(s:aq):Prop:=∃e h0 tr,v= .ref e/\R Z mu {s with heap:=h0,toks:=tr}/\Tu h0 s.heap e KP []
def It(l:List iE)(L:ay)(Z:bI)(mu:Mu)(v:aj)(s:aq):Prop:=∃e t base h0 tr,v= .ref e/\R Z mu {s with heap:=h0,toks:=tr}/\Up l Z mu base h0 s.heap/\Heap.HeldW base l e KP (.ref t) L s.heap
def jP(l:List iE)(Z:bI)(mu:Mu)(v:aj)(s:aq):Prop:=∃e t base h0 tr,v= .ref e/\R Z mu {s with heap:=h0,toks:=tr}/\Up l Z mu base h0 s.heap/\Heap.FlyingW base l e KP (.ref t) s.heap
def Exn(l:List iE)(L:ay)(Z:bI)(mu:Mu)(v:aj)(s:aq):Prop:=Qj Z mu v s\/It l L Z mu v s\/jP l Z mu v s
theorem R.funs{h0:dI}{tr:Nat}(r:R Z mu {s with heap:=h0,toks:=tr}){l:List iE}(hf:ia l mu)(as:List ay)(qi:∀e∈l,∀a,e.frame=ae a->a∈as):h0.FunFrames (Uq h0 as) l:=by
 induction l with
 |nil=>trivial
 |cons env l ih=>obtain ⟨h1,h2,lay,bF,h3⟩:=hf env aa;refine mG (r.sat _ h3) λnd m hn hs=>cF hn λo es ep ho hd z=>?_;clear hn;exact ⟨h1,⟨env.locals,o,h2,hideAll_none _ (qi env aa _ h2),ho,λvs q=>by rw [hd] at q;cases q⟩,ih hf.tail λe he=>qi e (ab _ he)⟩
theorem R.up0{h0:dI}{tr:Nat}(r:R Z mu {s with heap:=h0,toks:=tr})(hf:ia l mu):Up l Z mu (Uq h0 (l.filterMap (·.frame))) h0 h0 where
 keepZ:=λa o e=>hideAll_get _ (r.zin a o e) λhm=>by
  refine aK (fV.mp hm) λenv he hf'=>?_;obtain ⟨_,h2,lay,bF,h3⟩:=hf env he;rw [h2] at hf';injection hf' with hf'
  have:=r.sep a (bG.mpr ⟨_,h3,by refine fZ (hf' ..) ?_;exact aa⟩);rw [this] at e;exact gL e
 keepO:=λb hb hn o ho=>hideAll_get _ ho hn
 up:=Heap.UpToSlots.refl _
section
variable {Q:Unit->aq->Prop}
theorem KQ{h h':dI}{e:ay}{cls:aj}{args:List aj}(x:Tu h h' e cls args):∃t,h'.get? e=ae {cls:=cls,data:= .fields #[.ref t,.none,.none,.none,.bool aH,.none]}/\h.get? t=av/\h'.get? t=ae {cls:= .type "tuple",data:= .seq args.toArray}:=x.there
theorem Up.leave{base h0 h:dI}(iD:env.frame=ae env.locals)(U:Up (env::l) Z mu base h0 h)(hs:nu.Sublist mu)(hL:env.locals∉gU nu){h':dI}(hu:h0.UpToSlots h'):Up l Z nu base h0 h':=
 ⟨U.keepZ,λb hb hn o ho=>U.keepO b (bG.mpr ((bG.mp hb).imp λx w=>⟨hs.subset w.1,w.2⟩)) (λhm=>by
  rw [qk,iD] at hm;exact (aP.mp hm).elim (λe=>hL (e▸hb)) hn) o ho,hu⟩
theorem DH(hA:A.frames=ae (env::l))(hf:ia (env::l) mu)(h:Qj Z mu v s)(hs:nu.Sublist mu)(hL:env.locals∉gU nu)(hQ:∀s',jP l Z nu v s'->Q () s'):aS M A (Js env v) Q E s:=by
 refine cF h λe h0 tr dP r x=>?_;clear h;subst dP;have iD:=(hf env aa).frame;have U:=r.up0 hf;exact wpAny_leaves_madeW (base:=Uq h0 ((env::l).filterMap (·.frame))) hA iD (λb o q=>of_hideAll _ q) (r.funs hf _ λe he a ha=>fV.mpr ⟨e,he,ha⟩) x λh' t f1 f2 f3 f4=>hQ _
  ⟨e,t,_,h0,tr,rfl,r.sublist hs,U.leave iD hs hL ((Heap.UpToSlots.of_keeps x.keeps).trans f4),f1⟩
theorem FP(hA:A.frames=ae (env::l))(iD:env.frame=ae env.locals)(h:It (env::l) env.locals Z mu v s)(hs:nu.Sublist mu)(hL:env.locals∉gU nu)(hQ:∀s',jP l Z nu v s'->Q () s'):aS M A (Js env v) Q E s:=by refine iL h λe t base h0 tr eT r U x=>?_;clear h;subst eT;unfold Js;refine ag (wpAny_noteFrame_againW iD x.2.2.2 ?_);exact wpAny_landsW x λh' PH hup=>hQ _ ⟨e,t,base,h0,tr,rfl,r.sublist hs,U.leave iD hs hL (U.up.trans hup),PH.1,PH.2.1,PH.2.2.1.2.2,PH.2.2.2⟩
theorem B3(hA:A.frames=ae (env::l))(iD:env.frame=ae env.locals)(h:jP (env::l) Z mu v s)(hs:nu.Sublist mu)(hL:env.locals∉gU nu)(hQ:∀s',jP l Z nu v s'->Q () s'):aS M A (Js env v) Q E s:=by refine iL h λe t base h0 tr gi r U x=>?_;clear h;subst gi;exact wpAny_leaves_onW hA iD x λh' PH hup=>hQ _ ⟨e,t,base,h0,tr,rfl,r.sublist hs,U.leave iD hs hL (U.up.trans hup),PH⟩
theorem Iu(hA:A.frames=ae (env::l))(hf:ia (env::l) mu)(h:Exn (env::l) env.locals Z mu v s)(hs:nu.Sublist mu)(hL:env.locals∉gU nu)(hQ:∀s',jP l Z nu v s'->Q () s'):aS M A (Js env v) Q E s:=by
 have iD:=(hf env aa).frame;rcases h with h|h|h
 ·exact DH hA hf h hs hL hQ
 ·exact FP hA iD h hs hL hQ
 ·exact B3 hA iD h hs hL hQ
def mn.S0(Z:bI)(mu:Mu)(s:aq)(l:List iE)(env:iE)(_:Nat):Prop:=∀{v:aj} {M:Cv} {A:bo} {E:aj->aq->Prop} {Q:Unit->aq->Prop} (hA:A.frames=ae (env::l)) (hf:ia (env::l) mu) (h:Exn (env::l) env.locals Z mu v s) (hQ:∀s',It (env::l) env.locals Z mu v s'->Q () s'),aS M A (noteFrame v env) Q E s
namespace mn
@[irreducible] def e0:=Fi Q0 gE zG gE neE eO S0
def Z_:=e0.1
def e9:=e0.2.1
def s_:=e0.2.2.1
def l_:=e0.2.2.2.1
def KR:=e0.2.2.2.2.1
theorem T0:S0 Z_ e9 s_ l_ KR e0.2.2.2.2.2:=by
 intro v M A E Q hA hf h hQ;have iD:=(hf KR aa).frame;rcases h with h|h|h
 ·refine cF h λe h0 tr iC r x=>?_;clear h;subst iC;have U:=r.up0 hf;refine ef (KQ x) λt he htn ht=>?_;have zj:∀b,h0.get? b=av->(Uq h0 ((KR::l_).filterMap (·.frame))).get? b=av:=λb hb=>by
   cases hq:(Uq h0 ((KR::l_).filterMap (·.frame))).get? b with
   |none=>rfl
   |some o=>have:=of_hideAll _ hq;rw [hb] at this;exact gL this
  unfold noteFrame;simp only [iD];refine ag (dS he rfl (x:= .none) rfl ?_);refine ai (if_neg (by decide) ..) (wpAny_entryW (base:=Uq h0 ((KR::l_).filterMap (·.frame))) hA ((r.funs hf _ λe he a ha=>fV.mpr ⟨e,he,ha⟩).of_keeps λb o hb z=>⟨o,x.keeps b o hb,rfl⟩) iD he (λb o q=>x.keeps b o (of_hideAll _ q)) (zj e x.new) rfl (by show 1 < 6;decide) rfl λh' hN=>hQ _ ?_);refine QV hN λk1 k2 k3 k4=>?_;clear hN;exact ⟨e,t,_,h0,tr,rfl,r,⟨U.keepZ,U.keepO,(Heap.UpToSlots.of_keeps x.keeps).trans k4⟩,k1,zj e x.new,k2,k3⟩
 ·refine iL h λe t base h0 tr kF r U x=>?_;clear h;subst kF;exact wpAny_noteFrame_againW iD x.2.2.2 (hQ _ ⟨e,t,base,h0,tr,rfl,r,U,x⟩)
 ·refine iL h λe t base h0 tr l9 r U x=>?_;clear h;subst l9;exact wpAny_looks_onW hA iD x λh' hh hu=>hQ _ ⟨e,t,base,h0,tr,rfl,r,U.on hu,hh⟩
end mn
theorem mn:mn.S0 Z mu s l env 0:=by with_unfolding_all exact uz _ _ _ _ _ _ mn.S0 @mn.T0 Z mu s l env 0
theorem Iv(h:It l L Z mu v s)(hQ:∀s',jP l Z mu v s'->Q () s'):aS M A (setFlight v av) Q E s:=by refine iL h λe t base h0 tr mD r U x=>?_;clear h;subst mD;exact wpAny_landsW x λh' hh hu=>hQ _ ⟨e,t,base,h0,tr,rfl,r,U.on hu,hh⟩
theorem DI(h:jP l Z mu v s)(hQ:∀s',jP l Z mu v s'->Q () s'):aS M A (setFlight v av) Q E s:=by refine iL h λe t base h0 tr qX r U x=>?_;clear h;subst qX;exact lands_againW x λh' hh hu=>hQ _ ⟨e,t,base,h0,tr,rfl,r,U.on hu,hh⟩
theorem Iw{E':aj->aq->Prop}(iD:env.frame=ae L)(h:It l L Z mu v s)(hQ:∀s',It l L Z mu v s'->E' v s'):GG M A env E' v s:=by
 obtain ⟨e,t,base,h0,tr,rfl,r,U,x1,x2,x3,oe,vs,T,oT,ts,he,hc,hd,h1,hnT,hTe,hT,hdT,h3⟩:=h;unfold GG;refine ai (iD ..) (ag (dS he hd h1 ?_));refine ai (if_neg (by simp) ..) ?_;unfold setFlight;refine ag (dS he hd h1 ?_);refine ai (if_pos (show (cZ T != eG)=aJ from by rfl)) ?_;have hsz3:3 < ts.size:=(rr.mp h3).1;refine eH hT hdT hsz3 (hQ _ ?_);have other:∀b,b≠T->(s.heap.update T (Fe (·.setIfInBounds 3 ((ae L).elim eG λf=>pA f)))).get? b=s.heap.get? b:=λb hb=>iG _ _ (gf hb);have EM:∀b o,s.heap.get? b=ae o->(∀vs,o.data≠ .fields vs)->b≠T:=λb o hb Ct q=>by
  rw [q,hT] at hb;injection hb with hb;subst hb;exact Ct ts hdT
 refine ⟨e,t,base,h0,tr,rfl,r,U.on λb o hb hn=>⟨o.slots,(other b (EM b o hb hn)).trans hb⟩,λb o hbo=>(other b λq=>by rw [q,hnT] at hbo;exact gL hbo).trans (x1 b o hbo),x2,x3.of_keeps λb o hb Ct=>⟨o,(other b (EM b o hb Ct)).trans hb,rfl⟩,?_⟩;exact ⟨oe,vs,T,_,_,(other e (gf hTe)).trans he,hc,hd,h1,hnT,hTe,bS _ hT (iW (dQ hdT _)),dQ hdT _,by simp [hsz3]⟩
theorem jP.now(h:jP l Z mu v s)(hf:ia l mu):∃e,v= .ref e/\R Z mu s/\s.TypeIs (.ref e) "StopIteration":=by refine iL h λe t base h0 tr mO r U x=>?_;clear h;subst mO;refine ⟨e,rfl,r.reslot U x.1 hf,?_⟩;exact aK (x.there) λob h1 h2=>⟨ob,h1,h2⟩
end
end
variable {Θ:AF->Mu->Prop}
section
variable {Ψ:Mu->Prop}
theorem Exn.nodup{l:List iE}{v:aj}(h:Exn l L Z mu v s):(gU mu).Nodup:=by rcases h with ⟨_,_,_,_,r,_⟩|⟨_,_,_,_,_,_,r,_⟩|⟨_,_,_,_,_,_,r,_⟩ <;> exact r.nodup
theorem jP.perm{l:List iE}{v:aj}(h:jP l Z mu v s)(hp:mu.Perm nu):jP l Z nu v s:=by
 refine iL h λe t base h0 tr dP r U x=>?_;clear h;subst dP;exact ⟨e,t,base,h0,tr,rfl,r.perm hp,⟨U.keepZ,λb hb=>U.keepO b (by exact aK (bG.mp hb) λy hy hb=>bG.mpr ⟨y,hp.mem_iff.mpr hy,hb⟩),U.up⟩,x⟩
structure RT(k:Nat)(mu:Mu)(env:iE){α:Type}(t:oY α)(Ψ:Mu->Prop):Prop where
 c:∀{A:bo} {Z:bI} {s:aq} {fr:Mu} {outer:List iE} {F:α->aq->Prop} {T:aj->aq->Prop},Rm k A->A.frames=ae (env::outer)->ia outer fr->R Z (mu++fr) s->
  (∀{v s' Z' nu},Z.le Z'->zO env nu->Exn (env::outer) env.locals Z' (nu++fr) v s'->Ψ nu->T v s')->aS (aX G.prog G.w) A t F T s
structure RFW(k:Nat)(mu:Mu)(f:aj)(xs:List V)(Ψ:Mu->Prop):Prop where
 c:∀{A:bo} {Z:bI} {s:aq} {fr:Mu} {l:List iE} {vs:List aj} {F T:aj->aq->Prop},Rm k A->A.frames=ae l->ia l fr->R Z (mu++fr) s->bW G Z vs xs->
  (∀{v s' Z' nu},Z.le Z'->jP l Z' (nu++fr) v s'->Ψ nu->T v s')->aS (aX G.prog G.w) A (ks f vs) F T s
structure Wf(k:Nat)(mu:Mu)(env:iE)(t:oY ug)(Θ:AF->Mu->Prop):Prop where
 c:∀{A:bo} {E:aj->aq->Prop} {Z:bI} {s:aq} {fr:Mu} {outer:List iE} {Q:ug->aq->Prop},Rm k A->A.frames=ae (env::outer)->ia outer fr->R Z (mu++fr) s->
  (∀{f s' Z' a nu},Z.le Z'->oZ G Z' f a->R Z' (nu++fr) s'->Θ a nu->Q f s')->aS (aX G.prog G.w) A t Q E s
structure WVf(k:Nat)(mu:Mu)(env:iE)(t:oY aj)(Φ:V->Mu->Prop):Prop where
 c:∀{A:bo} {E:aj->aq->Prop} {Z:bI} {s:aq} {fr:Mu} {outer:List iE} {Q:aj->aq->Prop},Rm k A->A.frames=ae (env::outer)->ia outer fr->R Z (mu++fr) s->
  (∀{v s' Z' x nu},Z.le Z'->aZ G Z' v x->R Z' (nu++fr) s'->Φ x nu->Q v s')->aS (aX G.prog G.w) A t Q E s
structure JJ(k:Nat)(mu:Mu)(f:aj)(xs:List V)(Φ:V->Mu->Prop):Prop where
 c:∀{A:bo} {E:aj->aq->Prop} {Z:bI} {s:aq} {fr:Mu} {l:List iE} {vs:List aj} {Q:aj->aq->Prop},Rm k A->A.frames=ae l->ia l fr->R Z (mu++fr) s->bW G Z vs xs->
  (∀{w s' Z' y nu},Z.le Z'->aZ G Z' w y->R Z' (nu++fr) s'->Φ y nu->Q w s')->aS (aX G.prog G.w) A (ks f vs) Q E s
abbrev yf(k:Nat)(mu:Mu)(env:iE)(st:List ed)(Θ:AF->Mu->Prop):Prop:=Wf k mu env (Jo st env) Θ
abbrev WXf(k:Nat)(mu:Mu)(env:iE)(st:ed)(Θ:AF->Mu->Prop):Prop:=Wf k mu env (exec st env) Θ
abbrev RE(k:Nat)(mu:Mu)(env:iE)(e:bP)(Ψ:Mu->Prop):Prop:=RT k mu env (dW e env) Ψ
abbrev RX(k:Nat)(mu:Mu)(env:iE)(st:ed)(Ψ:Mu->Prop):Prop:=RT k mu env (exec st env) Ψ
abbrev RS(k:Nat)(mu:Mu)(env:iE)(st:List ed)(Ψ:Mu->Prop):Prop:=RT k mu env (Jo st env) Ψ
structure vS(env:iE):Prop where
 kind:env.scope.kind≠ .module
 frame:env.frame=ae env.locals
theorem zO.frs{l:List iE}(hk:vS env)(h:zO env mu)(iD:ia l fr):ia (env::l) (mu++fr):=ia.cons iD.right ⟨hk.kind,hk.frame,h.mono λx hx=>aE _ hx⟩
theorem WF.f{t:oY ug}(h:WF k mu t Θ):Wf k mu env t Θ:=⟨λ{z z z z z z z} hA z z=>h.c hA⟩
noncomputable def KU(k:Nat)(env:iE)(rest:List ed)(Θ:AF->Mu->Prop):AF->Mu->Prop
 | .next,nu=>yf k nu env rest Θ
 |f,nu=>Θ f nu
theorem nH{st:ed}{rest:List ed}(h:WXf k mu env st (KU k env rest Θ)):yf k mu env (st::rest) Θ:=⟨λ{z z z z z z z} hA hf iD r q=>by
 with_reducible refine qZ ?_
 refine h.c hA hf iD r λ{f s1 Z1 a nu} z1 f1 r1 w=>?_
 revert w
 exact oZ.by f1 (λw=>Wf.c (show yf k nu env rest Θ from w) hA hf iD r1 λ{z z z z z} z2=>q (z1.trans z2)) (q z1 .brk r1) (q z1 .cont r1) λv x hv=>q z1 (.ret hv) r1⟩
theorem Oj(h:Θ .next mu):yf k mu env [] Θ:=(bB h).f
theorem FQ{pos:lF}{t:bP}(hv:WVf k mu env (dW e env) λy nu=>mI k nu env t y (Θ .next))(hs:wq [t] e pos.line env=dh aH)(hw:wu [t] e env=dh av)
 (ht:autoParam (jB [t] env=[(aH,wo t env)]) aR):WXf k mu env (.Assign [t] e pos) Θ:=⟨λ{z z z z z z z} hA hf iD r q=>by
 with_reducible refine EN ?_ hs hw
 refine ai (ht ..) ?_;exact hv.c hA hf iD r λ{z z z z z} z1 q1 r1 w=>w.c hA r1 q1 λ{z z z} z2=>q (z1.trans z2) .next⟩
theorem R.split{Nv rest:Mu}(r:R Z (nu++fr) s)(hp:nu.Perm (Nv++rest)):R Z (Nv++(rest++fr)) s:=bU .. ▸r.perm (hp.append_right fr)
theorem AJ{f:bc}{a:ay}{ob:oX}{fd:cn}(hk:vS env)(hf:PE k mu env (.Name f p) (.ref a))(h0:G.Z0 a=ae ob)(hd:ob.data= .func fd)(ha:Dm k mu env (e::es) λys nu=>∃Nv rest,nu.Perm (Nv++rest)/\zO env rest/\JJ k Nv (.ref a) ys λy nu'=>∃xf,(nu'++rest).Perm xf/\Φ y xf)(hs:∀a p,e≠ .Starred a p:=by intro z z h;cases h):
 WVf k mu env (dW (.Call (.Name f p) (e::es) [] pos) env) Φ:=⟨λ{A E Z s fr outer Q} hA zk iD r q=>by
 with_reducible refine gC ?_
 refine hf.c hA r λ{f s1 Z1} z1 q1 r1=>ai (aZ.refE q1 ..) (iK hd (ha.c hA r1 λ{vs s2 Z2 ys ua} z2 q2 r2 w=>⟨r2.z0in _ _ h0,?_⟩) (et hs));refine cD w λNv rest hp hH w2=>?_;clear w;refine w2.c hA zk (hH.frs hk iD) (r2.split hp) q2 λ{w s3 Z3 y TS} z3 q3 r3 u=>aK u λnu4 hp4 w3=>?_;clear u;exact q (z1.trans (z2.trans z3)) q3 (R.perm (bU .. ▸r3) (hp4.append_right fr)) w3⟩
theorem KV{f:bc}{a:ay}{ob:oX}{fd:cn}(hk:vS env)(hf:PE k mu env (.Name f p) (.ref a))(h0:G.Z0 a=ae ob)(hd:ob.data= .func fd)(ha:Dm k mu env (e::es) λys nu=>∃Nv rest,nu.Perm (Nv++rest)/\zO env rest/\RFW k Nv (.ref a) ys λnu'=>∃xf,(nu'++rest).Perm xf/\Ψ xf)(hs:∀a p,e≠ .Starred a p:=by intro z z h;cases h):
 RE k mu env (.Call (.Name f p) (e::es) [] pos) Ψ:=⟨λ{A Z s fr outer F T} hA zk iD r q=>by
 with_reducible refine gC ?_
 refine hf.c hA r λ{f s1 Z1} z1 q1 r1=>ai (aZ.refE q1 ..) (iK hd (ha.c hA r1 λ{vs s2 Z2 ys ua} z2 q2 r2 w=>⟨r2.z0in _ _ h0,?_⟩) (et hs));refine cD w λNv rest hp hH w2=>?_;clear w;refine w2.c hA zk (hH.frs hk iD) (r2.split hp) q2 λ{v s3 Z3 TS} z3 q3 u=>aK u λnu4 hp4 w3=>?_;clear u;exact q (z1.trans (z2.trans z3)) (hH.mono λx hx=>hp4.mem_iff.mp (bK _ hx)) (.inr (.inr (jP.perm (bU .. ▸q3) (hp4.append_right fr)))) w3⟩
theorem B4{l r:bP}{op:Tf}(h:RE k mu env l Ψ):RE k mu env (.BinOp l op r p) Ψ:=⟨λ{z z z z z z z} hA zk iD r q=>by
 with_reducible refine Ny ?_
 exact h.c hA zk iD r q⟩
theorem nk{pos:lF}{t:bP}(h:RE k mu env e Ψ)(hs:wq [t] e pos.line env=dh aH)(hw:wu [t] e env=dh av):RX k mu env (.Assign [t] e pos) Ψ:=⟨λ{z z z z z z z} hA zk iD r q=>by
 with_reducible refine EN ?_ hs hw
 exact h.c hA zk iD r q⟩
theorem oQ{st:ed}{rest:List ed}(h:RX k mu env st Ψ):RS k mu env (st::rest) Ψ:=⟨λ{z z z z z z z} hA zk iD r q=>by
 with_reducible refine qZ ?_
 exact h.c hA zk iD r q⟩
noncomputable def thenR(k:Nat)(env:iE)(rest:List ed)(Ψ:Mu->Prop):AF->Mu->Prop
 | .next,nu=>RS k nu env rest Ψ
 |_,_=>False
theorem qD{st:ed}{rest:List ed}(h:WX k mu env st (thenR k env rest Ψ)):RS k mu env (st::rest) Ψ:=⟨λ{z z z z z z z} hA zk iD r q=>by
 with_reducible refine qZ ?_
 refine h.c hA r λ{f s1 Z1 a nu} z1 f1 r1 w=>?_
 revert w
 exact oZ.by f1 (λw=>RT.c (show RS k nu env rest Ψ from w) hA zk iD r1 λ{z z z z} z2=>q (z1.trans z2)) (λw=>w.elim) (λw=>w.elim) λv x hv w=>w.elim⟩
theorem DJ{pos:lF}{body orelse:List ed}(hk:vS env)(Inv:Nat->Mu->Prop)(n:Nat)(h0:Inv n mu)
 (turn:∀n nu,Inv n nu->WT k nu env e λc rp=>c=aJ/\(RS k rp env body Ψ\/WS k rp env body λf ua=>(f= .next\/f= .cont)/\∃m,m < n/\Inv m ua)):RX k mu env (.While e body orelse pos) Ψ:=⟨λ{A Z s fr outer F T} hA zk iD r q=>by
 with_reducible refine wpAny_While ?_
 refine codeAny_whileLoop (WhI Z Inv fr) (λn s' h=>?_) n ⟨Z,mu,.rfl,r,h0⟩;refine cD (h.ex) λZ' nu z' r' inv=>(turn n nu inv).c hA r' λ{c s1 Z1 rp} z1 r1 w=>dU w λeT w1=>?_;clear w;subst eT;refine ai (if_pos rfl ..) ?_;rcases w1 with w1|w1
 ·exact w1.c hA zk iD r1 λ{z z z z} z2 hH hx hΨ=>mn zk (hH.frs hk iD) hx λs3 TY=>Iw hk.frame TY λs4 hx4=>q (z'.trans (z1.trans z2)) hH (.inr (.inl hx4)) hΨ
 ·refine w1.c hA r1 λ{f s2 Z2 a ua} z2 f2 r2 w=>mG w λha m hm hi=>?_;clear w;have fin:∃m,m < n/\WhI Z Inv fr m s2:=⟨m,hm,⟨Z2,ua,z'.trans (z1.trans z2),r2,hi⟩⟩
  revert ha
  exact oZ.by f2 (λz=>fin) (λh=>by rcases h with h|h <;> cases h) (λz=>fin) λv x hv h=>by rcases h with h|h <;> cases h⟩
theorem Rz(B:g7 G){fd:cn}{a:ay}{ob:oX}{body:List ed}{names:List bc}{vals':ay->eL}(Bp:Kn mu λhp=>hp.get? a=ae ob)(hd:ob.data= .func fd)(hcd:Kn mu λhp=>hp.CodeRec fd.code fd.qualname)(sk:fd.body= .stmts body)
 (i0:∀vs,vs.length=xs.length->pF fd ⟨vs,[]⟩=dh (names.zip vs)) (hnd:(aM 0 fd.scope.names).nd) (he:∀L,dz (dT fd a L))
 (hb:∀L,i9 (dT fd a L) L (aM (L+1) fd.scope.names) names xs (nones (aM (L+1) fd.scope.names)) (vals' L))
 (h:∀L,RS k (vL fd L (vals' L)::mu) (dT fd a L) body λnu=>∃bF nu',nu=vL fd L bF::nu'/\Ψ nu') (wj:autoParam (fd.scope.isCoroutine=aH) aR) (mP:autoParam (fd.scope.isGenerator=aH) aR):RFW (k+1) mu (.ref a) xs Ψ:=⟨λ{A Z s fr l vs F T} hA zk iD r hv q=>by
 refine eF (ql hA.depth (Bp.app r) hd wj mP sk (hcd.app r) ?_);refine ai (i0 vs hv.length ..) (ar (pL (vals':=vals' s.heap.objs.size) r hnd (he _) hv (hb _) λs' r'=>⟨B.lim _ r'.z0in,Jw ?_⟩));refine (h s.heap.objs.size).c (hA.deeper _) (CH zk) iD r' λ{v s2 Z2 ua} z2 hH hx w=>?_;obtain ⟨bF,nu',rfl,hΨ⟩:=w;exact Iu (CH zk) (hH.frs ⟨by refine ai ((he _).kind) ?_;decide,rfl⟩ iD) hx (gW _ _) (λhb=>(bO.mp (show ((vL fd s.heap.objs.size bF).own++gU (nu'++fr)).Nodup from hx.nodup)).2.2 _ aa _ hb rfl) λs3 TY=>q z2 TY hΨ⟩
theorem KW(B:g7 G){fd:cn}{a:ay}{ob:oX}{body:List ed}{names:List bc}{vals':ay->eL}(Bp:Kn mu λhp=>hp.get? a=ae ob)(hd:ob.data= .func fd)(hcd:Kn mu λhp=>hp.CodeRec fd.code fd.qualname)(sk:fd.body= .stmts body)
 (i0:∀vs,vs.length=xs.length->pF fd ⟨vs,[]⟩=dh (names.zip vs)) (hnd:(aM 0 fd.scope.names).nd) (he:∀L,dz (dT fd a L))
 (hb:∀L,i9 (dT fd a L) L (aM (L+1) fd.scope.names) names xs (nones (aM (L+1) fd.scope.names)) (vals' L))
 (h:∀L,yf k (vL fd L (vals' L)::mu) (dT fd a L) body (lD Φ)) (wj:autoParam (fd.scope.isCoroutine=aH) aR) (mP:autoParam (fd.scope.isGenerator=aH) aR):JJ (k+1) mu (.ref a) xs Φ:=⟨λ{A E Z s fr l vs Q} hA zk iD r hv q=>by
 refine eF (ql hA.depth (Bp.app r) hd wj mP sk (hcd.app r) ?_);refine ai (i0 vs hv.length ..) (ar (pL (vals':=vals' s.heap.objs.size) r hnd (he _) hv (hb _) λs' r'=>⟨B.lim _ r'.z0in,Jw ?_⟩));refine (h s.heap.objs.size).c (hA.deeper _) (CH zk) iD r' λ{f s2 Z2 af ua} z2 f2 r2 w2=>?_
 revert w2
 exact oZ.by f2 (λw=>jJ.c (show jJ .none ua Φ from w) r2 .none λ{z z z} z3=>q (z2.trans z3)) (λw=>w.elim) (λw=>w.elim) λv x hv w=>jJ.c (show jJ x ua Φ from w) r2 hv λ{z z z} z3=>q (z2.trans z3)⟩
theorem RA(H:Hy G){a:ay}{st:ed}(F:rI G a st){names:List bc}{vals':ay->eL}
 (i0:∀pm cd doc vs,vs.length=xs.length->pF (xu st pm cd doc) ⟨vs,[]⟩=dh (names.zip vs)) (hnd:(aM 0 (bj st).names).nd) (hk:(bj st).kind= .function)
 (hb:∀pm cd doc L,i9 (dT (xu st pm cd doc) a L) L (aM (L+1) (bj st).names) names xs (nones (aM (L+1) (bj st).names)) (vals' L))
 (h:∀pm cd doc L,dz (dT (xu st pm cd doc) a L)->vS (dT (xu st pm cd doc) a L)->yf k (bq L (aM (L+1) (bj st).names) (vals' L)::mu) (dT (xu st pm cd doc) a L) (fR st) (lD Φ)) (wj:autoParam ((bj st).isCoroutine=aH) aR) (mP:autoParam ((bj st).isGenerator=aH) aR):
 JJ (k+1) mu (.ref a) xs Φ:=by
 exact cu (F.go) λob pm cd doc h0 hd hcd=>KW H.B (names:=names) (vals':=vals') (Kn.z0 h0) hd (λZ s r=>hcd _ r.z0in) rfl (i0 pm cd doc) hnd (λL=>⟨hk,rfl,rfl⟩) (hb pm cd doc) (λL=>h pm cd doc L ⟨hk,rfl,rfl⟩ ⟨by show (bj st).kind≠_;refine ai (hk ..) ?_;decide,rfl⟩) wj mP
theorem RB(H:Hy G){a:ay}{st:ed}(F:rI G a st){names:List bc}{vals':ay->eL}
 (i0:∀pm cd doc vs,vs.length=xs.length->pF (xu st pm cd doc) ⟨vs,[]⟩=dh (names.zip vs)) (hnd:(aM 0 (bj st).names).nd) (hk:(bj st).kind= .function)
 (hb:∀pm cd doc L,i9 (dT (xu st pm cd doc) a L) L (aM (L+1) (bj st).names) names xs (nones (aM (L+1) (bj st).names)) (vals' L))
 (h:∀pm cd doc L,dz (dT (xu st pm cd doc) a L)->vS (dT (xu st pm cd doc) a L)->RS k (bq L (aM (L+1) (bj st).names) (vals' L)::mu) (dT (xu st pm cd doc) a L) (fR st) λnu=>∃bF nu',nu=bq L (aM (L+1) (bj st).names) bF::nu'/\Ψ nu')
 (wj:autoParam ((bj st).isCoroutine=aH) aR) (mP:autoParam ((bj st).isGenerator=aH) aR):RFW (k+1) mu (.ref a) xs Ψ:=by
 exact cu (F.go) λob pm cd doc h0 hd hcd=>Rz H.B (names:=names) (vals':=vals') (Kn.z0 h0) hd (λZ s r=>hcd _ r.z0in) rfl (i0 pm cd doc) hnd (λL=>⟨hk,rfl,rfl⟩) (hb pm cd doc) (λL=>h pm cd doc L ⟨hk,rfl,rfl⟩ ⟨by show (bj st).kind≠_;refine ai (hk ..) ?_;decide,rfl⟩) wj mP
theorem Hi{f:bc}(hf:PE k mu env (.Name f p) (.bi "next"))(ha:PE k mu env e (.ref it))(hi:mu[i]? =ae (jK it []))(hF:zO env (mu.set i (pO)))(h:Ψ (mu.set i (pO)))(hs:∀a p,e≠ .Starred a p:=by intro z z h;cases h):
 RE k mu env (.Call (.Name f p) [e] [] pos) Ψ:=⟨λ{A Z s fr outer F T} hA zk iD r q=>by
 refine BG hf (au (Ps:=[]) ha aT hs) hs hA r λ{vs s2 Z2} z2 q2 r2=>aK (q2.one) λv gi q3=>?_;subst gi;refine ai (aZ.refE q3 ..) ?_;have hi':=cH (fr:=fr) hi;exact oy (r2.sat _ (ao hi')) λb t j I e=>Iq hA.hh I (DF (jc.mp e)) λh1 h' ev hb S=>q z2 hF (.inl ⟨ev,h1,s2.toks,rfl,gF hi▸R.dead (s:=s2) (h':=h1) (tk:=s2.toks) r2 hi' λa o hb' e=>hb a o (λq=>hb' (q▸aa)) e,S.made⟩) h⟩
theorem DK(B:g7 G){body:List ed}{MU rpos npos MR xpos:lF}{z:bc}(he:dz env)(hk:vS env)(hm:G.mg "StopIteration"=av)(hkn:env.kindOf "StopIteration"=ae .globalImplicit)(sl:Sl env L lay z j)
 (hb:RS k mu env body λnu=>∃bF y,bq L lay bF∈nu/\bF[j]? =ae (ae y)/\Θ (.ret y) nu) (hd:autoParam ((z == ("__debug__":bc))=aH) aD):
 WXf k mu env (.Try body [.ExceptHandler (ae (.Name "StopIteration" npos)) av [.Return (ae (.Name z xpos)) rpos] MR] [] [] MU) Θ:=⟨λ{A E Z s fr outer Q} hA zk iD r q=>by
 refine wpAny_Try_except (hb.c hA zk iD r λ{v s1 Z1 nu} z1 hH hx w=>?_);obtain ⟨bF,y,hv1,hv2,hΘ⟩:=w;have hfs:=hH.frs hk iD;refine mn zk hfs hx λs2 PC=>Iv PC λs3 TY=>ef (TY.now hfs) λe iC r3 ty3=>?_;subst iC;refine wpAny_handleBy_builtin (X:="StopIteration") (T:="StopIteration") (b:=aJ) owsi_raise.isExc (by kernel_rfl) owsi_facts.sub (aK (B.b _ r3.z0in) λmb h1 h2=>?_);refine Jq he.kind hkn (loadGlobal_builtin (he.globals▸B.g _ r3.z0in) hm (he.builtins▸h1) ((h2 "StopIteration" (by decide)).trans (by rfl)) ⟨rfl,ty3,?_⟩) (by decide);refine ai (if_pos rfl ..) (DI TY λs4 hx4=>?_);refine ef (hx4.now hfs) λx x r4 x=>?_
 with_reducible refine qZ (wpAny_Return_some ?_)
 exact Te (FE he sl (aE fr hv1) hv2 r4 λ{x} hw=>q z1 (.ret hw) r4 hΘ) hd⟩
end
noncomputable def jv:Nat->List Nat->Option (Nat×List Nat)
 |_,[]=>av
 |v,b::bs=>if b / 64 % 2=1 then jv (v*64+b % 64) bs else ae (v*64+b % 64,bs)
noncomputable def mK(bs:List Nat):Option (Nat×List Nat):=jv 0 bs
structure uO(b d:Nat)(more:Bool):Prop where
 low:b % 64=d
 bit:b / 64 % 2=if more then 1 else 0
theorem ki:∀{bs:List Nat} {v n:Nat} {rs:List Nat},jv v bs=ae (n,rs)->rs.length < bs.length
 |[],_,_,_,h=>gL h
 |b::bs,v,n,rs,h=>by
  have h:(if b / 64 % 2=1 then jv (v*64+b % 64) bs else ae (v*64+b % 64,bs))=ae (n,rs):=h;by_cases hb:b / 64 % 2=1
  ·exact cJ (ki ((if_pos hb).symm.trans h))
  ·exact (sR (aO ((if_neg hb).symm.trans h))).2▸jf _
theorem B5{v b d:Nat}{bs:List Nat}(h:uO b d aJ):jv v (b::bs)=jv (v*64+d) bs:=(if_pos h.bit).trans (h.low▸rfl)
theorem yg{v b d:Nat}{bs:List Nat}(h:uO b d aH):jv v (b::bs)=ae (v*64+d,bs):=(if_neg (λe=>absurd (h.bit.symm.trans e) (by decide))).trans (h.low▸rfl)
theorem vint1{b0 d0:Nat}{rs:List Nat}(h0:uO b0 d0 aH):mK (b0::rs)=ae (d0,rs):=by exact (yg h0).trans (ai (q9 64) (ai (eC d0) rfl))
theorem vint2{b0 b1 d0 d1:Nat}{rs:List Nat}(h1:uO b1 d1 aJ)(h0:uO b0 d0 aH):mK (b1::b0::rs)=ae (d1*64+d0,rs):=by exact (B5 h1).trans ((yg h0).trans (ai (q9 64) (ai (eC d1) rfl)))
theorem vint3{b0 b1 b2 d0 d1 d2:Nat}{rs:List Nat}(h2:uO b2 d2 aJ)(h1:uO b1 d1 aJ)(h0:uO b0 d0 aH):mK (b2::b1::b0::rs)=ae ((d2*64+d1)*64+d0,rs):=by exact (B5 h2).trans ((B5 h1).trans ((yg h0).trans (ai (q9 64) (ai (eC d2) rfl))))
noncomputable def yh(bs:List Nat):Option ((Nat×Nat×Nat×Nat)×List Nat):=
 (mK bs).bind λa=>(mK a.2).bind λb=>(mK b.2).bind λc=>(mK c.2).bind λd=>ae ((a.1,b.1,c.1,d.1),d.2)
theorem DL{bs:List Nat}(h:bs.length < 4):yh bs=av:=by refine ek.mpr λa h1=>ek.mpr λb h2=>ek.mpr λc h3=>ek.mpr λd h4=>?_;have l1:=ki h1;have l2:=ki h2;have l3:=ki h3;have l4:=ki h4;omega
variable {n:Nat}
section
theorem Hj(b:Nat):lY (b:Int) 63=((b % 64:Nat):Int):=by refine ai (bitAnd_pp (dK _) (by decide) ..) ?_;refine ai (b8 ..) ?_;exact congrArg _ (EY b 6)
theorem Qk(b:Nat):(lY (b:Int) 64 != 0)=decide (b / 64 % 2=1):=by
 refine ai (bitAnd_pp (dK _) (by decide) ..) ?_;refine ai (b8 ..) ?_;have h:b &&& (64:Int).toNat=(b.testBit 6).toNat*64:=by
  apply xn;intro i;refine ai (GK ..) ?_;refine ai (show (64:Int).toNat=2 ^ 6 from rfl) ?_;refine ai (lB ..) ?_;refine ai (show (b.testBit 6).toNat*64=(b.testBit 6).toNat*2 ^ 6 from rfl) ?_;refine ai (NI ..) ?_;by_cases hi:6=i
  ·subst hi;cases b.testBit 6 <;> rfl
  ·(refine ai (decide_eq_false hi ..) ?_;refine ai (kM ..) ?_)
   cases b.testBit 6 with
   |false=>simp
   |true=>
    by_cases h6:6<=i
    ·have:i - 6≠0:=by lia
     refine cK (Nat.exists_eq_succ_of_ne_zero this) λm hm=>ai (hm ..) ?_;simp [h6,Nat.testBit_succ]
    ·simp [h6]
 refine ai (h ..) ?_;refine ai (fu ..) ?_;by_cases h2:b / 2 ^ 6 % 2=1
 ·have h3:b / 64 % 2=1:=h2;simp [h2,h3]
 ·have h3:¬b / 64 % 2=1:=h2;simp [h2,h3]
theorem or63(v b:Nat):Builtin.bitOr ((v*64:Nat):Int) ((b % 64:Nat):Int)=((v*64+b % 64:Nat):Int):=by
 have hd:b % 64 < 2 ^ 6:=ee _ (by decide);generalize b % 64=d at*;refine ai (bitOr_and ..) ?_;refine ai (bitAnd_pp (dK _) (dK _) ..) ?_;refine ai (b8 ..) ?_;refine ai (b8 ..) ?_;have h:(v*64) &&& d=0:=by
  apply xn;intro i;refine ai (GK ..) ?_;refine ai (Nat.zero_testBit ..) ?_;refine ai (show v*64=v*2 ^ 6 from rfl) ?_;refine ai (NI ..) ?_;by_cases hi:6<=i
  ·(refine ai (u6 (cc hd (e7 (by decide) hi)) ..) ?_;refine ai (kM ..) ?_;rfl)
  ·simp [hi]
 refine ai (h ..) ?_;simp
theorem AK:∀{bs:List Nat} {v n:Nat} {rs:List Nat},jv v bs=ae (n,rs)->v*64<=n
 |b::bs,v,n,rs,h=>by
  unfold jv at h
  split at h
  ·have:=AK h;lia
  ·cases h;exact dE _ _
variable {Ψ:Mu->Prop}{rs:List Nat}
theorem nI{f:bc}{id:String}(hf:PE k mu env (.Name f p) (.bi id))(ha:tx k mu env (e::es) Ps)(hF:BO k mu (.builtin id) Ps Φ)(hs:∀a p,e≠ .Starred a p:=by intro z z h;cases h):WE k mu env (.Call (.Name f p) (e::es) [] pos) Φ:=⟨λ{z z z z z z} hA r q=>BG hf ha hs hA r λ{z z z} z2 q2 r2=>hF.c hA r2 q2 λ{z z z z z} z3=>q (z2.trans z3)⟩
theorem oR{b c:Bool}(h:PT k mu env e b)(e1:b=c):PT k mu env e c:=e1▸h
noncomputable abbrev Ol(L it:ay)(b v:V):cY:=bq L (aM (L+1) (bj (cO 7)).names) [ae (.ref it),ae b,ae v]
theorem B6{v:Nat}(h:v < 2 ^ 60):Nn k mu .LShift (bZ (.int v)) (bZ (.int 6)) (bZ (.int (v*64:Nat))):=by
 have:=Rn (k:=k) (mu:=mu) (a:=(v:Int)) (b:=6) (by decide) (by decide) (by omega);have e:(v:Int)*2 ^ (6:Int).toNat=((v*64:Nat):Int):=by rfl
 rwa [e] at this
def nJ.S0(k:Nat)(mu:Mu)(i:Nat)(it:ay)(rs:List Nat)(n:Nat):Prop:=∀{bs:List Nat} (H:Hy G) (hi:mu[i]? =ae (jK it bs)) (hv:mK bs=ae (n,rs)) (hn:n < 2 ^ 60),FW (k+2) mu (.ref 172) [.ref it] λy nu=>y= .int n/\nu=mu.set i (jK it rs)
namespace nJ
@[irreducible] def e0:=Fi eO gE eO cM gE eO S0
def k_:=e0.1
def e9:=e0.2.1
def i_:=e0.2.2.1
def sv:=e0.2.2.2.1
def rs_:=e0.2.2.2.2.1
def n_:=e0.2.2.2.2.2
theorem T0:S0 k_ e9 i_ sv rs_ n_:=by
 intro bs H hi hv hn;refine te H H.f172 (names:=["iterator"]) (vals':=λL=>[ae (.ref sv),av,av]) (λpm cd doc vs h=>?_) (by decide+kernel) rfl (λpm cd doc L=>?_) (λpm cd doc L he=>?_)
 ·exact uK h λa=>rfl
 ·exact .cons (j:=0) .loc rfl .nil
 cases bs with
 |nil=>exact gL hv
 |cons b bs=>
 unfold mK jv at hv;rw [q9,eC] at hv;refine aC (b4 (nI (j3 H he H.b_next rfl) (au (ah (j:=0) he .loc aa rfl) aT) (uN (i:=i_+1) hi (aQ (i:=0) (j:=1) he .loc rfl ?_))) rfl rfl);refine aC (bX (br (ah (j:=1) he .loc aa rfl) aU (qp)) (aQ (i:=0) (j:=2) he .loc rfl ?_) rfl rfl);refine ai (Hj ..) (aC (xO (λm nu=>∃b v CQ,CQ.length=m/\nu=Ol L sv (.int (b:Nat)) (.int (v:Nat))::e9.set i_ (jK sv CQ)/\(if b / 64 % 2=1 then jv v CQ else ae (v,CQ))=ae (n_,rs_)) bs.length ⟨b,b % 64,bs,rfl,rfl,hv⟩ ?_));intro m nu dP;refine cF dP λb v CQ eT gi hg=>?_;clear dP;subst eT;subst gi;refine (oR (kT (br (ah (j:=1) he .loc aa rfl) aU qp) xK) (Qk b)).wt ?_;by_cases hb:b / 64 % 2=1
 ·refine ai (decide_eq_true hb ..) ?_;rw [if_pos hb] at hg;have hi':(e9.set i_ (jK sv CQ))[i_]? =ae (jK sv CQ):=by (refine ai (eA (aB.mp hi).1 ..) ?_;rfl)
  have hge:=AK hg;cases CQ with
  |nil=>exact gL hg
  |cons c cs=>
  unfold jv at hg;refine aC (rM (i:=0) (j:=2) he .loc rfl rfl aU (B6 (by lia)) ?_);refine aC (b4 (nI (j3 H he H.b_next rfl) (au (ah (j:=0) he .loc aa rfl) aT) (uN (i:=i_+1) hi' (aQ (i:=0) (j:=1) he .loc rfl ?_))) rfl rfl);refine aC (rM (i:=0) (j:=2) he .loc rfl rfl (br (ah (j:=1) he .loc aa rfl) aU qp) (by refine ai (Hj ..) ?_;exact Qg) ?_);refine ai (or63 ..) (bB ⟨cs.length,by exact bp _,c,v*64+c % 64,cs,rfl,?_,hg⟩);show Ol L sv (.int (c:Nat)) (.int ((v*64+c % 64:Nat):Int))::(e9.set i_ (jK sv (c::cs))).set i_ (jK sv cs)=_;refine ai (u7 ..) ?_;rfl
 ·refine ai (decide_eq_false hb ..) ?_;rw [if_neg hb] at hg;cases hg;refine bB (aC (gy (cg (ah (j:=2) he .loc aa rfl) (kh ⟨rfl,rfl⟩))))
end nJ
theorem nJ:nJ.S0 k mu i it rs n:=by with_unfolding_all exact uz _ _ _ _ _ _ nJ.S0 @nJ.T0 k mu i it rs n
def nK.S0(k:Nat)(mu:Mu)(i:Nat)(it:ay):Prop:=∀{bs:List Nat} (H:Hy G) (hi:mu[i]? =ae (jK it bs)) (hv:mK bs=av) (hn:bs.length<=8),RFW (k+2) mu (.ref 172) [.ref it] λnu=>nu=mu.set i (pO)
namespace nK
@[irreducible] def e0:=GT eO gE eO cM S0
def k_:=e0.1
def e9:=e0.2.1
def i_:=e0.2.2.1
def sv:=e0.2.2.2
theorem T0:S0 k_ e9 i_ sv:=by
 intro bs H hi hv hn;refine RB H H.f172 (names:=["iterator"]) (vals':=λL=>[ae (.ref sv),av,av]) (λpm cd doc vs h=>?_) (by decide+kernel) rfl (λpm cd doc L=>?_) (λpm cd doc L he hk=>?_)
 ·exact uK h λa=>rfl
 ·exact .cons (j:=0) .loc rfl .nil
 cases bs with
 |nil=>exact oQ (nk (Hi (i:=i_+1) (j3 H he H.b_next rfl) (ah (j:=0) he .loc aa rfl) hi ⟨_,_,aa⟩ ⟨_,_,rfl,rfl⟩) rfl rfl)
 |cons b bs=>
 unfold mK jv at hv;rw [q9,eC] at hv;have hb63:b % 64 < 64:=ee _ (by decide);refine qD (b4 (nI (j3 H he H.b_next rfl) (au (ah (j:=0) he .loc aa rfl) aT) (uN (i:=i_+1) hi (aQ (i:=0) (j:=1) he .loc rfl ?_))) rfl rfl);refine qD (bX (br (ah (j:=1) he .loc aa rfl) aU (qp)) (aQ (i:=0) (j:=2) he .loc rfl ?_) rfl rfl);refine ai (Hj ..) ?_;simp only [bJ] at hn;refine oQ (DJ hk (λm nu=>∃b v CQ d,CQ.length=m/\CQ.length+d=7/\v < 64 ^ (d+1)/\nu=Ol L sv (.int (b:Nat)) (.int (v:Nat))::e9.set i_ (jK sv CQ)/\(if b / 64 % 2=1 then jv v CQ else ae (v,CQ))=av) bs.length ⟨b,b % 64,bs,7 - bs.length,rfl,by lia,cc hb63 (Nat.le_self_pow (by lia) 64),rfl,hv⟩ ?_);intro m nu iC;refine dM iC λb v CQ d kF hd hlt l9 hg=>?_;clear iC;subst kF;subst l9;refine (oR (kT (br (ah (j:=1) he .loc aa rfl) aU qp) xK) (Qk b)).wt ?_;by_cases hb:b / 64 % 2=1
 ·refine ⟨decide_eq_true hb,?_⟩;rw [if_pos hb] at hg;have hi':(e9.set i_ (jK sv CQ))[i_]? =ae (jK sv CQ):=by (refine ai (eA (aB.mp hi).1 ..) ?_;rfl)
  have hv60:v < 2 ^ 60:=cc hlt (aw (e7 (by decide) (show d+1<=8 by lia)) (by decide));cases CQ with
  |nil=>refine .inl (qD (rM (i:=0) (j:=2) he .loc rfl rfl aU (B6 hv60) ?_));refine oQ (nk (Hi (i:=i_+1) (j3 H he H.b_next rfl) (ah (j:=0) he .loc aa rfl) hi' ⟨_,_,aa⟩ ⟨[ae (.ref sv),ae (.int (b:Nat)),ae (.int ((v*64:Nat):Int))],(e9.set i_ (jK sv [])).set i_ (pO),rfl,?_⟩) rfl rfl);refine ai (u7 ..) ?_;rfl
  |cons c cs=>
   refine .inr ?_;simp only [bJ] at hd;unfold jv at hg;refine aC (rM (i:=0) (j:=2) he .loc rfl rfl aU (B6 hv60) ?_);refine aC (b4 (nI (j3 H he H.b_next rfl) (au (ah (j:=0) he .loc aa rfl) aT) (uN (i:=i_+1) hi' (aQ (i:=0) (j:=1) he .loc rfl ?_))) rfl rfl);refine aC (rM (i:=0) (j:=2) he .loc rfl rfl (br (ah (j:=1) he .loc aa rfl) aU qp) (by refine ai (Hj ..) ?_;exact Qg) ?_);refine ai (or63 ..) (bB ⟨.inl rfl,cs.length,by exact bp _,c,v*64+c % 64,cs,d+1,rfl,by lia,?_,?_,hg⟩)
   ·have:v*64+c % 64 < (v+1)*64:=by have:=ee c (show 0 < 64 by decide);lia
    exact cc this (by refine ai (CD ..) ?_;exact xq _ hlt)
   ·show Ol L sv (.int (c:Nat)) (.int ((v*64+c % 64:Nat):Int))::(e9.set i_ (jK sv (c::cs))).set i_ (jK sv cs)=_;refine ai (u7 ..) ?_;rfl
 ·rw [if_neg hb] at hg;exact nomS hg
end nK
theorem nK:nK.S0 k mu i it:=by with_unfolding_all exact vx _ _ _ _ nK.S0 @nK.T0 k mu i it
end
section
open Builtin Builtin.ObjectAttr Builtin.Getset_descriptor Builtin.Tuple
noncomputable abbrev pk(G:Gd){α:Type}(K:gn)(t:oY α):Option α:=peek K ⟨G.prog,G.w.params⟩ t
def gO(G:Gd)(K:gn):Prop:=
 (FM G K)/\
 (G.ent=162)/\
 (pk G K (mz (.ref 162) "__call__")=ae (ae (.builtin "type.__call__")))/\
 (pk G K (ue (.ref 162) (.type "type"))=ae aJ)/\
 (pk G K (Bind.madeBy (.ref 162))=ae av)/\
 (pk G K (mroOf (.ref 162))=ae [.ref 162,.ref 149,.type "tuple",.type "object"])/\
 (readsIn K 162 (.type "type")=aJ)/\
 (Fc K (.ref 162) (.type "type") "__new__"=ae (.get (.builtin "staticmethod.__get__") (.ref 150) .none (.ref 162)))/\
 (recIn K 150 "staticmethod"=ae [.ref 90])/\
 (∀t,pk G K (iJ "tuple.__new__" ⟨[.ref 162,.ref t],[]⟩)=ae ())/\
 (pk G K (Bind.madeHere "tuple.__new__" (.ref 162))=ae ())/\
 (pk G K (isType (.ref 162))=ae aJ)/\
 (pk G K (xg (.ref 162) (.type "tuple"))=ae aJ)/\
 (pk G K (xg (.ref 162) (.ref 162))=ae aJ)/\
 (pk G K (xg (.ref 162) (.type "object"))=ae aJ)/\
 (pk G K (iR (.ref 162) "__init__")=ae (ae (.builtin "object.__init__")))/\
 (∃od cd sl,K.lookup 162=ae ⟨.type "type",od,.cls cd,sl⟩/\cd.hasDel=aH)/\
 (keepIn K (.ref 162)=aJ)/\
 (nF G 90 (jl 5 4) "_ExceptionTableEntryBase.__new__")/\
 Fc K (.type "tuple") (.type "type") "__new__"=ae (.val (.builtin "tuple.__new__"))
section
variable {G:Gd}(h:gO G K)
def gO.KO:=@h.1
def gO.ent:=@h.2.1
def gO.call:=@h.2.2.1
def gO.typ:=@h.2.2.2.1
def gO.made:=@h.2.2.2.2.1
def gO.mro:=@h.2.2.2.2.2.1
def gO.reads:=@h.2.2.2.2.2.2.1
def gO.new:=@h.2.2.2.2.2.2.2.1
def gO.stat:=@h.2.2.2.2.2.2.2.2.1
def gO.check:=@h.2.2.2.2.2.2.2.2.2.1
def gO.here:=@h.2.2.2.2.2.2.2.2.2.2.1
def gO.isT:=@h.2.2.2.2.2.2.2.2.2.2.2.1
def gO.subT:=@h.2.2.2.2.2.2.2.2.2.2.2.2.1
def gO.self:=@h.2.2.2.2.2.2.2.2.2.2.2.2.2.1
def gO.subO:=@h.2.2.2.2.2.2.2.2.2.2.2.2.2.2.1
def gO.init:=@h.2.2.2.2.2.2.2.2.2.2.2.2.2.2.2.1
def gO.obj:=@h.2.2.2.2.2.2.2.2.2.2.2.2.2.2.2.2.1
def gO.keep:=@h.2.2.2.2.2.2.2.2.2.2.2.2.2.2.2.2.2.1
def gO.f90:=@h.2.2.2.2.2.2.2.2.2.2.2.2.2.2.2.2.2.2.1
def gO.tnew:=@h.2.2.2.2.2.2.2.2.2.2.2.2.2.2.2.2.2.2.2
end
def DM(p:Prop):Prop:=p
theorem fC{α:Type}{h:dI}{t:oY α}{r:α}(X:K.In h)(e:pk G K t=ae r):iM (aX G.prog G.w) h t r:=Looks.of_peek X e
theorem KY(a v1 v2 v3 v4 v5:aj):ra "object.__init__" ⟨[a,v1,v2,v3,v4,v5],[]⟩:=by delta ra;kernel_rfl
theorem KZ(EH:gO G K){x1 x2 x3 x4 x5:V}(h:FW k mu (.ref 90) [.ref 162,x1,x2,x3,x4,x5] λy nu=>y= .ent [x1,x2,x3,x4,x5]/\nu=mu):FW (k+1) mu (.ref 162) [x1,x2,x3,x4,x5] λy nu=>y= .ent [x1,x2,x3,x4,x5]/\nu=mu:=⟨λ{A E Z s fr vs Q} hA r hv q=>by
 obtain ⟨hh,g,d,t,os⟩:=s;have X:K.In hh:=EH.KO.inn _ r.z0in;obtain ⟨v1,v2,v3,v4,v5,rfl⟩:∃v1 v2 v3 v4 v5,vs=[v1,v2,v3,v4,v5]:=len5 hv.length λa b c d e=>⟨a,b,c,d,e,rfl⟩
 refine oy (EH.obj) λod cd sl hl z=>?_;have hC:hh.get? 162=ae ⟨.type "type",od,.cls cd,sl⟩:=X _ _ hl;have ks:=fC X EH.call;have typ:=fC X EH.typ;have made:=fC X EH.made;have mro:=fC X EH.mro;refine eF (kJ ?_);show aS _ _ (callAny (.ref 162) _) _ _ _;refine nd_load hC ?_;show aS _ _ (callAny.viaDunder (.ref 162) _) _ _ _;delta callAny.viaDunder;refine ag (ks.at ?_);dsimp only;refine ai (tc_bind ..) (ag (ar (ag (ar ?_))));refine ar (a:=Fin.again (.call (.builtin "type.__call__") ⟨.ref 162::[v1,v2,v3,v4,v5],[]⟩)) (NA rfl ?_);refine codeAny_call_builtin_at (Code.quiet_builtin _ (by decide+kernel)) entry_typeCall (@ru (aX G.prog G.w) _ _ ⟨hh,g,d,t,os⟩ "type.__call__" "type" "__call__" (.ref 162) [v1,v2,v3,v4,v5] [] _ tc_kind tc_split typ (tc_args _ _ _) ?_);have ga:∀A' Q E',DM (Q (cZ 90) ⟨hh,g,d,t+1,os⟩)->aS (aX G.prog G.w) A' (sY (.ref 162) "__new__") Q E' ⟨hh,g,d,t,os⟩:=λA' Q E' q=>by
  refine cls_bind X EH.reads EH.new (eF (sm_get X EH.stat ?_));exact handed_on rfl q
 have hA':Rm k (A.under (.builtin "type.__call__" ⟨.ref 162::[v1,v2,v3,v4,v5],[]⟩)):=⟨hA.hh,by have:=hA.dep;show A.depth+1+k<=900;lia,by have:=hA.uni;show A.units+1+10*k<=9000;lia⟩;have cl:∀Q E' (as:List aj) (kw:List (bc×aj)),as=[.ref 162,v1,v2,v3,v4,v5]->kw=[]->(∀(Z':bI) (x:ay) (o:oX) (h':dI) (g':Array GenState) (d':Drawn) (t':Nat) (PM:vg),Z.le Z'->R Z' (mu++fr) ⟨h',g',d',t',PM⟩->aZ G Z' (.ref x) (.ent [x1,x2,x3,x4,x5])->h'.get? x=ae o->o.cls= .ref 162->Q (cZ x) ⟨h',g',d',t',PM⟩)->
  aS (aX G.prog G.w) (A.under (.builtin "type.__call__" ⟨.ref 162::[v1,v2,v3,v4,v5],[]⟩)) (Jm (.ref 90) as kw) Q E' ⟨hh,g,d,t+1,os⟩:=λQ E' as kw e1 e2 q=>by
  subst e1 e2;refine h.c (fr:=fr) hA' r.toks (.cons (.ref 162) hv) λ{w s' Z' y nu} z' hy r' u=>dU u λe1 e2=>?_;clear u;subst e1 e2;obtain ⟨h',g',d',t',PM⟩:=s';refine tv (aZ.ent_inv hy) λa o ro n' dP z1 z2 z=>?_;subst dP;exact q Z' a o h' g' d' t' PM z' r' hy (r'.zin _ _ z1) (z2.trans (by (refine ai (EH.ent ..) ?_;rfl)))
 have oi:∀(A':bo) Q E' (x:ay) (o:oX) (h':dI) (g':Array GenState) (d':Drawn) (t':Nat) (PM:vg),h'.get? x=ae o->o.cls= .ref 162->K.In h'->∀(as:List aj) (kw:List (bc×aj)),as=[.ref x,v1,v2,v3,v4,v5]->kw=[]->DM (Q eG ⟨h',g',d',t',PM⟩)->aS (aX G.prog G.w) A' (Jm (.builtin "object.__init__") as kw) Q E' ⟨h',g',d',t',PM⟩:=λA' Q E' x o h' g' d' t' PM hx PN X' as kw e1 e2 q=>by
  subst e1 e2;have t1:iM (aX G.prog G.w) h' (jT (.ref x)) (.ref 162):=by refine fZ (PN ..) ?_;exact (sq hx).andThen .now
  have i1:=fC X' EH.init;have m1:=fC X' EH.made;refine eF (jj oi_plain entry_oi (@ru (aX G.prog G.w) _ _ _ "object.__init__" "object" "__init__" (.ref x) [v1,v2,v3,v4,v5] [] _ oi_kind oi_split (t1.andThen (fC X' EH.subO)) (KY _ _ _ _ _ _) ?_));unfold Builtin.«object.__init__»
  repeat lk
  exact q
 unfold Builtin.«type.__call__»;unfold ue callSpecial? mz
 repeat (first|refine ai (if_neg (show ¬(List.isEmpty (_::_)=aJ) from cG) ..) ?_|with_reducible refine ga _ _ _ ?_|lk)
 unfold DM;refine ag (bC (cl _ _ _ _ rfl rfl ?_));intro Z' x o h' g' d' t' PM z' r' hy hx PN;have X':K.In h':=EH.KO.inn _ r'.z0in;have t1:iM (aX G.prog G.w) h' (jT (.ref x)) (.ref 162):=by refine fZ (PN ..) ?_;exact (sq hx).andThen .now
 have s1:=fC X' EH.self;have i1:=fC X' EH.init;have b1:iM (aX G.prog G.w) h' (bindSpecial (.builtin "object.__init__") (.ref x)) (.builtin "object.__init__",[.ref x]):=fe (oi_bind _)
 repeat (first|(with_reducible refine oi _ _ _ _ _ _ _ _ _ _ hx PN X' _ _ ?_ ?_ ?_)|lk)
 ·rfl
 ·rfl
 unfold DM
 repeat lk
 exact q z' hy r' ⟨rfl,rfl⟩⟩
theorem Iy(EH:gO G K)(hl:xs.length<=1000):Fn k mu (.builtin "tuple.__new__") [bZ (.ref 162),bZ (.tup xs)] (bZ (.ent xs)):=⟨λ{A E Z s fr vs Q} hA r hq q=>by
 refine cD (hq.two) λv u eT q1 q2=>?_;subst eT;refine ai (aZ.refE q1 ..) (dM (aZ.tup_inv q2) λt o ws n gi z1 z2 z3 z4=>?_);subst gi;obtain ⟨hh,g,d,tk,os⟩:=s;have X:K.In hh:=EH.KO.inn _ r.z0in;refine oy (EH.obj) λod cd sl hlk hdel=>?_;have hC:hh.get? 162=ae ⟨.type "type",od,.cls cd,sl⟩:=X _ _ hlk;have ck:=fC X (EH.check t);have he:=fC X EH.here;have hi:=fC X EH.isT;have hs:=fC X EH.subT;have hn:=fC X EH.init;have ht:hh.get? t=ae o:=r.zin _ _ z1;have hsz:ws.size<=er:=cb z4▸aw hl (show 1000<=2 ^ 24 by decide);have co:∀(A':bo) Q E',(∀h',(∀b o',hh.get? b=ae o'->h'.get? b=ae o')->DM (Q ws.toList ⟨h',g,d,tk,os⟩))->aS (aX G.prog G.w) A' (collect (.ref t)) Q E' ⟨hh,g,d,tk,os⟩:=λA' Q E' q=>
  wpAny_collect_seq t (.inr rfl) ht z2 z3 (λh' hk=>q h' hk) hsz
 refine eF (kJ ?_);show aS _ A.in1 (do iJ "tuple.__new__" ⟨[.ref 162,.ref t],[]⟩;Nz (.builtin "tuple.__new__" ⟨[.ref 162,.ref t],[]⟩)) _ _ _;refine ag (ck.at (ar ⟨rl NJ _,kN PySem.F.entry_tuple_new ?_⟩));refine ai (gR NJ _ ..) ?_;unfold Builtin.«tuple.__new__»
 repeat (first|(with_reducible refine co _ _ _ ?_)|lk)
 intro h' hk;unfold DM;have hC':=hk _ _ hC;have r1:R Z (mu++fr) ⟨h',g,d,tk,os⟩:=r.keep (tk:=tk) λb o e=>hk b o e;refine ag (ar (ag (vj (ag ?_))));refine ai (show ws.toList.toArray=ws from by rfl) ?_;show aS _ _ (if ws.size > er then unsupported "sequence:memory" >>=λz=>newObjAsIs (.ref 162) (.seq ws) (ae h'.objs.size) else newObjAsIs (.ref 162) (.seq ws) (ae h'.objs.size)) _ _ _;refine ai (if_neg (Jn.mpr hsz) ..) ?_;unfold newObjAsIs classHasDel;refine ag (vj (ag (ag (Th (az _ (az _ hC')) (ar ?_)))));show aS _ _ (if cd.hasDel=aJ then _ else _) _ _ _;refine ai (hdel ..) (ar (ar ?_));have r2:=r1.push {cls:= .type "dict",data:= .dict #[]};have hz:=r2.fresh (bp _);have r3:=r2.pushZ (o:={cls:= .ref 162,dict:=ae h'.objs.size,data:= .seq ws}) (by rfl);exact q (bI.le_put hz) (aZ.ent (bI.put_self ..) (by (refine ai (EH.ent ..) ?_;rfl)) rfl (z4.mono (bI.le_put hz))) r3⟩
theorem Om:handedIn (.builtin "tuple.__new__")=aJ:=by kernel_rfl!
theorem DN:Manifest.isStub "tuple"=aH:=by kernel_rfl!
theorem DO:jT (.type "tuple")=dh (.type "type"):=by kernel_rfl!
theorem uP{A:bo}{E:aj->aq->Prop}{s:aq}{T:String}{name:bc}{v:aj}{pl:oY Bool}{Q:aj×List aj->aq->Prop}(X:K.In s.heap)(ht:jT (.type T)=dh (.type "type"))(hs:Manifest.isStub T=aH)
 (e:Fc K (.type T) (.type "type") name=ae (.val v)) (hh:handedIn v=aJ) (h:Q (v,[]) {s with toks:=s.toks+1}):aS (aX G.prog G.w) A (mA (.type T) name pl) Q E s:=by
 have hstub:Nb (.type T)=dh av:=by delta Nb;dsimp only;refine ai (hs ..) ?_;rfl
 have L0:iM (aX G.prog G.w) s.heap (jT (.type T)) (.type "type"):=fe ht;have hg:fG K (.type "type") "__getattribute__"=ae (ae (.builtin "type.__getattribute__")):=type_tga;delta mA mz;refine ag (ag (L0.here ((mS X hg).here ?_)));dsimp only;refine ai (if_pos canon_tga ..) (ag (eR (Q:=λv=>Q (v,[])) (E:=E) ?_ (λy y z=>ar z) λy y z=>z));have LO:iM (aX G.prog G.w) s.heap (Nb (.type T)) av:=fe hstub;refine cls_open X LO L0 hg (looks_hook X (r:=av) (by rfl)) (by show subIn K _ _=_;rfl) e
  (ar (by show aS _ _ (handedOut v) _ _ _;refine ai (handedOut_of hh ..) ?_;exact ar h))
theorem Iz{f:bc}{fp:lF}{pl:oY Bool}(EH:gO G K)(hf:PE k mu env (.Name f fp) (.type "tuple"))(ha:tx k mu env (e::es) Ps)(hF:Fn k mu (.builtin "tuple.__new__") Ps S)(wk:autoParam (kg (e::es)=aJ) aR)
 (he:autoParam (dW (.Call (.Attribute (.Name f fp) "__new__" apos) (e::es) [] pos) env=(do let ov <- dW (.Name f fp) env;iF apos.atName;let (f,first) <- eV [ov] (mA ov "__new__" pl);pB pos f first (lb pos (fl (e::es) env)) [])) aR):
 EV k mu env (.Call (.Attribute (.Name f fp) "__new__" apos) (e::es) [] pos) S:=⟨λ{A E Z s fr Q} hA r q=>by
 refine i5 (pl:=pl) ?_ he;refine hf.c hA r λ{ov s1 Z1} z1 q1 r1=>ai (aZ.typeE q1 ..) (uP (T:="tuple") (v:= .builtin "tuple.__new__") (pl:=pl) (EH.KO.inn _ r1.z0in) DO DN EH.tnew Om ?_);exact G6 ha hA r1.toks λ{z z z} z2 q2 r2=>hF.c hA r2 q2 λ{z z z} z3=>q (z1.trans (z2.trans z3))⟩
theorem K0(H:Hy G)(EH:gO G K){x1 x2 x3 x4 x5:V}:FW (k+2) mu (.ref 90) [.ref 162,x1,x2,x3,x4,x5] λy nu=>y= .ent [x1,x2,x3,x4,x5]/\nu=mu:=by
 refine DD H EH.f90 (names:=["_cls","start","end","target","depth","lasti"]) (vals':=λL=>[ae (.ref 162),ae x1,ae x2,ae x3,ae x4,ae x5]) (λpm cd doc vs h=>?_) (by decide+kernel) rfl (λpm cd doc L=>?_) (λpm cd doc L he=>?_)
 ·exact len6 h λa b c d e f=>rfl
 ·exact .cons (j:=0) .loc rfl (.cons (j:=1) .loc rfl (.cons (j:=2) .loc rfl (.cons (j:=3) .loc rfl (.cons (j:=4) .loc rfl (.cons (j:=5) .loc rfl .nil)))))
 refine aC (ig (cg cP ?_));refine aC (gy (cg (Iz EH (iO H he H.b_tuple rfl) (au (ah (j:=0) he .loc aa rfl) (au (f9 (xs:=[x1,x2,x3,x4,x5]) (au (ah (j:=1) he .loc aa rfl) (au (ah (j:=2) he .loc aa rfl) (au (ah (j:=3) he .loc aa rfl) (au (ah (j:=4) he .loc aa rfl) (au (ah (j:=5) he .loc aa rfl) aT))))) (by show 5<=2 ^ 20;decide)) aT)) (Iy EH (by show 5<=1000;decide))) (kh ⟨rfl,rfl⟩)))
theorem On(H:Hy G)(EH:gO G K){x1 x2 x3 x4 x5:V}:FW (k+3) mu (.ref 162) [x1,x2,x3,x4,x5] λy nu=>y= .ent [x1,x2,x3,x4,x5]/\nu=mu:=KZ EH (K0 H EH)
end
section
open Builtin Builtin.ObjectAttr Builtin.Getset_descriptor Builtin.Tuple
noncomputable abbrev eh(fd:cn)(d:Option ay):oX:={cls:= .type "function",dict:=d,data:= .func fd}
theorem K1{M:Cv}{h:dI}:iM M h (iR (.type "function") "__getattribute__") (ae (.builtin "object.__getattribute__")):=fe (by (refine ai (fg ..) ?_;refine ai (dC ..) ?_);kernel_rfl)
theorem RC{M:Cv}{h:dI}:iM M h (iR (.type "function") "__setattr__") (ae (.builtin "object.__setattr__")):=fe (by (refine ai (fg ..) ?_;refine ai (dC ..) ?_);kernel_rfl)
theorem RD{M:Cv}{h:dI}:iM M h (iR (.type "function") "__getattr__") av:=fe (by (refine ai (fg ..) ?_;refine ai (dC ..) ?_);kernel_rfl)
theorem K2{M:Cv}{h:dI}:iM M h (xg (.type "function") (.type "object")) aJ:=fe (by refine ai (iS ..) ?_;kernel_rfl)
def j9(name:bc):Prop:=iR (.type "function") name=dh av
theorem qE:j9 "read":=by delta j9;(refine ai (fg ..) ?_;refine ai (dC ..) ?_);kernel_rfl
theorem wL:j9 "co_exceptiontable":=by delta j9;(refine ai (fg ..) ?_;refine ai (dC ..) ?_);kernel_rfl
theorem IA:xm table "object.__getattribute__"=ae Builtin.«object.__getattribute__»:=Nc (by kernel_rfl)
theorem IB:plainId "object.__getattribute__"=aJ:=by decide+kernel
theorem K3:CI "object.__getattribute__"=ae .slot:=by decide+kernel
theorem IC:QP "object.__getattribute__"=ae ("object","__getattribute__"):=by decide+kernel
theorem K4(a b:aj):ra "object.__getattribute__" ⟨[a,b],[]⟩:=by delta ra;kernel_rfl
theorem K5(self:aj):bindSpecial (.builtin "object.__getattribute__") self=dh (.builtin "object.__getattribute__",[self]):=
 (Slot.of (T:="object") (name:="__getattribute__") (owner:="object") (n:="__getattribute__") (by (refine ai (fg ..) ?_;refine ai (dC ..) ?_);kernel_rfl) (by decide+kernel) (by decide+kernel) (by decide+kernel)
  (.inl (by decide+kernel)) (by refine ai (iS ..) ?_;kernel_rfl)).bind self
section
variable {f:ay}{fd:cn}{es:List gB}{v:aj}{Q:aj->aq->Prop}
def mr.S0(prog:d7)(w:eo)(f dx:ay)(fd:cn)(name:bc):Prop:=∀{A:bo} {E:aj->aq->Prop} {s:aq} {es:List gB} {n:Nat} {v:aj} {Q:aj->aq->Prop} {expr:Bool} (hx:s.heap.get? f=ae (eh fd (ae dx))) (D:s.heap.get? dx=ae (i3 es n)) (hv:getL name es=ae (ae v)) (hn:j9 name) (hh:handedIn v=aJ) (h:Q v {s with toks:=s.toks+1}),aS (aX prog w) A (sY (.ref f) name expr) Q E s
namespace mr
@[irreducible] def e0:=Fi sU E1 cM cM inferInstance inferInstance S0
def cW:=e0.1
def w_:=e0.2.1
def f_:=e0.2.2.1
def dx_:=e0.2.2.2.1
def fd_:=e0.2.2.2.2.1
def iz:=e0.2.2.2.2.2
theorem T0:S0 cW w_ f_ dx_ fd_ iz:=by
 intro A E s es n v Q expr hx D hv hn hh h;obtain ⟨hp,g,d,t,os⟩:=s;have t1:iM (aX cW w_) hp (jT (.ref f_)) (.type "function"):=(sq hx).andThen .now;have lg:=K1 (M:=aX cW w_) (h:=hp);have ln:iM (aX cW w_) hp (iR (.type "function") iz) av:=fe hn;have nl:iM (aX cW w_) hp (nsGet dx_ iz) (ae v):=λA Q E s k q=>by
  delta nsGet;refine ag (pG (k _ _ D) ?_);refine ai (nsLook_of (r:=ae v) (by rw [QO];exact hv) ..) ?_;exact ar q
 have co:∀(A':bo) Q' E',DM (Q' v ⟨hp,g,d,t+1,os⟩)->aS (aX cW w_) A' (Tv (.builtin "object.__getattribute__") (.ref f_) (.str iz t)) Q' E' ⟨hp,g,d,t+1,os⟩:=λA' Q' E' q=>by
  delta Tv;refine ai (K5 ..) (ag (ar (eF ?_)));refine jj IB IA (@ru (aX cW w_) _ _ ⟨hp,g,d,t+1,os⟩ "object.__getattribute__" "object" "__getattribute__" (.ref f_) [.str iz t] [] _ K3 IC (t1.andThen K2) (K4 _ _) ?_);unfold Builtin.«object.__getattribute__»
  repeat lk
  exact q
 unfold sY getAttrBy
 repeat (first|(with_reducible refine kS ?_)|lk)
 refine ai (show (expr && onTheHeap (iH "object.__getattribute__"))=aH from kM _) ?_;refine ai (if_neg (by decide) ..) ?_;refine co _ _ _ ?_;unfold DM;show aS _ _ (handedOut v) _ _ _;exact ai (handedOut_of hh ..) (ar h)
end mr
theorem mr:mr.S0 prog w f dx fd name:=by with_unfolding_all exact uz _ _ _ _ _ _ mr.S0 @mr.T0 prog w f dx fd name
theorem Oo{M:Cv}{h:dI}:iM M h (mroOf (.type "function")) [.type "function",.type "object"]:=fe (by refine ai (mroOf_type ..) ?_;kernel_rfl)
theorem Hk{tk:HO}{Q:Fin->aq->Prop}(D:s.heap.get? dx=ae (i3 es n))(hr:es.any (·.refKey)=aH)(hz:es.length<=500)
 (h:∀(vc:Int) nx,Q (.done (.ret .none)) {s with heap:=s.heap.update dx (oh name vc (.str name nx) v),toks:=s.toks+1}):
 aS (aX prog w) A (storeInDict dx (.str name tk) name v) Q E s:=by
 unfold storeInDict;refine ag (ar (ag ?_));unfold nsSet;refine ag (ag (gD (ar (ag (JD (ag (pG D ?_)))))));show aS _ _ (if sO name es.toArray=aJ then _ else _) _ _ _;have c:sO name es.toArray=aH:=by refine ai (aRefKeyMayBeTheName_at ..) ?_;refine fZ (um ..) ?_;refine fZ (um ..) ?_;show (_ && es.any (·.refKey))=aH;refine ai (hr ..) ?_;refine ai (kM ..) ?_;rfl
 refine ai (c ..) ?_;refine ai (if_neg (by decide) ..) ?_;refine wpAny_updatePart D ?_;have hm:∀vc nx,oh name vc (.str name nx) v (i3 es n)=i3 (putL name vc (.str name nx) v es) (putN name es n):=λvc nx=>mR ..;refine ag (wpAny_lookBehind (o:=i3 (putL name _ (.str name _) v es) (putN name es n)) ((bS _ D (by refine ai (hm ..) ?_;rfl)).trans (congrArg ae (hm _ _))) (pastItsLine_dict ?_) ?_)
 ·have hlen:∀vc key (l:List gB),(putL name vc key v l).length<=l.length+1:=by
   intro vc key l;induction l with
   |nil=>simp [putL]
   |cons a l ih=>unfold putL;split <;> simp <;> omega
  refine ai (sQ ..) (aw (hlen _ _ _) ?_);show _<=2 ^ 24+1;omega
 ·exact ar (h _ _)
def kB.S0(prog:d7)(w:eo)(A:bo)(f:ay)(name:bc)(v:aj)(tk:HO)(R:wx->aq->Prop):Prop:=∀{s:aq} {fd:cn} {o:Option ay} (hx:s.heap.get? f=ae (eh fd o)) (hn:j9 name) (h:aS (aX prog w) A.in1 (instanceDict f aJ) (λo s1=>aS (aX prog w) A.in1 (match o with|some d=>storeInDict d (.str name tk) name v|none=>noDictFor (.ref f) (.type "function") name aH)
 (λfin s'=>match fin with| .done f=>R (.ok f) s'| .again c'=>c'.quiet=aJ/\iV (aX prog w) A c' R s') (λe s'=>R (.error e) s') s1) (λe s'=>R (.error e) s') s),iV (aX prog w) A (.call (.builtin "object.__setattr__") ⟨[.ref f,.str name tk,v],[]⟩) R s
namespace kB
@[irreducible] def e0:=Nl sU E1 Fm cM inferInstance gM inferInstance sZ S0
def cW:=e0.1
def w_:=e0.2.1
def A_:=e0.2.2.1
def f_:=e0.2.2.2.1
def iz:=e0.2.2.2.2.1
def v_:=e0.2.2.2.2.2.1
def tk_:=e0.2.2.2.2.2.2.1
def R_:=e0.2.2.2.2.2.2.2
theorem T0:S0 cW w_ A_ f_ iz v_ tk_ R_:=by
 intro s fd o hx hn h;have SF:=Tw;obtain ⟨hp,g,d,t,os⟩:=s;have t1:iM (aX cW w_) hp (jT (.ref f_)) (.type "function"):=(sq hx).andThen .now;have ln:iM (aX cW w_) hp (iR (.type "function") iz) av:=fe hn;have lm:=Oo (M:=aX cW w_) (h:=hp);refine jj SF.slot.plain SF.entry (@ru (aX cW w_) _ _ ⟨hp,g,d,t,os⟩ "object.__setattr__" "object" "__setattr__" (.ref f_) [.str iz tk_,v_] [] _ SF.kind SF.split (t1.andThen K2) (SF.args (.ref f_) (.str iz tk_) v_) ?_);refine ai (osa_eq ..) ?_;have rf:iM (aX cW w_) hp (refuseIfOverridden (.ref f_) "__setattr__") ():=by refine ai (refuse_eq ..) (t1.andThen (lm.andThen ?_));refine fe ?_;kernel_rfl
 have st:iM (aX cW w_) hp (storeTaker? av) av:= .now;refine ag (rf.at (ag (t1.at (ag (ln.at (ag (st.at ?_)))))));dsimp only;show aS _ _ (do ownStreamTells (.ref f_) (.type "function");if ((lW "function" == .type "module")=aJ) then _ else _) _ _ _;refine ag (ar ?_);exact ai (if_neg (by decide) ..) (ag h)
end kB
theorem kB{tk:HO}{R:wx->aq->Prop}:kB.S0 prog w A f name v tk R:=by with_unfolding_all exact Bu _ _ _ _ _ _ _ _ kB.S0 @kB.T0 prog w A f name v tk R
theorem K6{tk:HO}{R:wx->aq->Prop}(hx:s.heap.get? f=ae (eh fd (ae dx)))(D:s.heap.get? dx=ae (i3 es n))(hn:j9 name)(hr:es.any (·.refKey)=aH)(hz:es.length<=500)
 (h:∀(vc:Int) nx,R (.ok (.ret .none)) {s with heap:=s.heap.update dx (oh name vc (.str name nx) v),toks:=s.toks+1}):
 iV (aX prog w) A (.call (.builtin "object.__setattr__") ⟨[.ref f,.str name tk,v],[]⟩) R s:=by
 refine kB hx hn ?_;delta instanceDict;refine ag (pG hx ?_);exact ar (Hk D hr hz h)
theorem ID{tk:HO}{R:wx->aq->Prop}(hx:s.heap.get? f=ae (eh fd av))(hn:j9 name)
 (h:∀h' e,h'.get? f=ae (eh fd (ae s.heap.objs.size))->(∃n,h'.get? s.heap.objs.size=ae (i3 [e] n))->(∃nx,e.key= .str name nx)->e.val=v->(∀b o,b≠f->s.heap.get? b=ae o->h'.get? b=ae o)->R (.ok (.ret .none)) {s with heap:=h',toks:=s.toks+1}):
 iV (aX prog w) A (.call (.builtin "object.__setattr__") ⟨[.ref f,.str name tk,v],[]⟩) R s:=by
 refine kB hx hn ?_;delta instanceDict;refine ag (pG hx ?_);dsimp only;refine ai (show (!aJ || !typeHasDict (.type "function"))=aH from by decide+kernel) ?_;refine ai (if_neg (by decide) ..) ?_;refine ag (vj (ag ?_));have hx1:=az {cls:= .type "dict",data:= .dict #[]} hx;have iQ:s.heap.objs.size≠f:=jI (bM hx);refine wpAny_update hx1 ?_;have PC:((s.heap.push {cls:= .type "dict",data:= .dict #[]}).update f λo=>{o with dict:=ae s.heap.objs.size}).get? f=ae (eh fd (ae s.heap.objs.size)):=bS _ hx1 rfl;have hd2:((s.heap.push {cls:= .type "dict",data:= .dict #[]}).update f λo=>{o with dict:=ae s.heap.objs.size}).get? s.heap.objs.size=ae (i3 [] 0):=(iG _ _ (gf iQ)).trans (aW _ rfl);delta dictMade;dsimp only;refine ai (show finalisedInACycleAlone "function"=aH from by decide+kernel) ?_;refine ai (if_neg (by decide) ..) ?_;refine ar (Hk (s:={s with heap:=(s.heap.push {cls:= .type "dict",data:= .dict #[]}).update f λo=>{o with dict:=ae s.heap.objs.size}}) hd2 rfl (by decide) λvc nx=>?_);have hs:=bY ((s.heap.push {cls:= .type "dict",data:= .dict #[]}).update f λo=>{o with dict:=ae s.heap.objs.size}) s.heap.objs.size (oh name vc (.str name nx) v);refine h _ ⟨vc,.str name nx,v⟩ (hs.extBut _ _ (gf iQ) PC) ⟨_,(bS _ hd2 (by refine ai (mR ..) ?_;rfl)).trans (congrArg ae (mR ..))⟩ ⟨nx,rfl⟩ rfl λb o hb hk=>?_;have TV:b≠s.heap.objs.size:=λe=>by rw [e] at hk;exact absurd (bM hk) (zD _)
 exact hs.extBut _ _ TV ((iG _ _ (gf hb)).trans (az _ hk))
end
section
variable {f:ay}{fd:cn}{v:aj}
theorem yi{o:Option ay}{Q:Unit->aq->Prop}(hx:s.heap.get? f=ae (eh fd o))
 (h:iV (aX prog w) A (.call (.builtin "object.__setattr__") ⟨[.ref f,.str name s.toks,v],[]⟩) (λr s'=>match r with| .ok (.ret _)=>Q () s'| .ok _=>False| .error e=>E e s') {s with toks:=s.toks+1}):
 aS (aX prog w) A (setAttr (.ref f) name v) Q E s:=by
 have t1:iM (aX prog w) s.heap (jT (.ref f)) (.type "function"):=(sq hx).andThen .now;have hs:=RC (M:=aX prog w) (h:=s.heap);refine ag (JD (ag (ag (ag (t1 _ _ _ _ (λy y e=>e) (hs _ _ _ _ (λy y e=>e) (bC ?_)))))));refine ai (Tw.slot.bind ..) (ag (ar (ag (eF (codeAny_mono h λr s' z=>?_)))));rcases r with e|(v|_|_|_) <;> first|exact z|exact ar (ar z)
end
noncomputable def tJ(f dx:ay)(fd:cn)(fs:List (bc×V)):cY where
 own:=[f,dx]
 sat:=λZ h=>h.get? f=ae (eh fd (ae dx))/\∃es n,h.get? dx=ae (i3 es n)/\gN Z es fs
 mono:=λZ Z' h hz ⟨a,es,n,b,c⟩=>⟨a,es,n,b,c.mono hz⟩
 loc:=λZ h h' ⟨a,es,n,b,c⟩ hk _ _=>⟨hk f (by exact aa) _ a,es,n,hk dx (by exact ab _ aa) _ b,c⟩
 live:=λZ h ⟨a,es,n,b,c⟩ y hy=>by
  simp at hy;rcases hy with rfl|rfl
  ·exact ⟨_,a⟩
  ·exact ⟨_,b⟩
section
variable {a:bP}{f:ay}{fd:cn}
theorem K7(hn:j9 name)(ho:PE k mu env o (.ref f))(hm:tJ f dx fd fs∈mu)(hnd:(fs.map (·.1)).Nodup)(hq:(name,y)∈fs)(hy:∀n,y≠ .bi n)
 (he:autoParam (dW (.Attribute o name p) env=(do let ov <- dW o env;iF p.atName;let r <- eV [ov] (sY ov name aJ);pC o ov r;dh r)) aR):PE k mu env (.Attribute o name p) y:=⟨λ{A E Z s fr Q} hA r q=>by
 refine gZ ?_ he;refine ho.c hA r λ{ov s1 Z1} z1 q1 r1=>ai (aZ.refE q1 ..) (uy (r1.sat _ (aE fr hm)) λhx es n D he=>?_);exact aK (he.some hnd hq) λv hv hr=>mr hx D hv hn (m7 hr hy) (q z1 hr r1.toks)⟩
theorem yj(hn:j9 name)(ho:PE k mu env o (.ref f))(hi:mu[i]? =ae (mi f (eh fd av))){Ψ:Mu->Prop}(h:∀dx,Ψ (mu.set i (tJ f dx fd [(name,y)])))
 (he:autoParam (∀v,wo (.Attribute o name p) env v=(do let ov <- eV [v] (dW o env);iF p.atName;eV [v,ov] (setAttr ov name v);release [v,ov] [])) aR):mI k mu env (.Attribute o name p) y Ψ:=⟨λ{A E Z s fr v Q} hA r hv q=>by
 refine ai (he ..) (ag (bC (ho.c hA r λ{ov s1 Z1} z1 q1 r1=>?_)));refine ai (aZ.refE q1 ..) (ag (iI (ag (bC ?_))));have hi':=cH (fr:=fr) hi;have hx:s1.heap.get? f=ae (eh fd av):=r1.sat _ (ao hi');refine yi hx (ID (s:={s1 with toks:=s1.toks+1}) hx hn λh' e h1 ⟨n,h2⟩ ⟨nx,h3⟩ h4 h5=>?_);refine wpAny_release (q z1 (gF hi▸r1.swap (tk:=s1.toks+1+1) hi' (tJ f s1.heap.objs.size fd [(name,y)]) (λb o hb e=>h5 b o (λq=>hb (q▸aa)) e) ⟨h1,[e],n,h2,⟨nx,h3⟩,by refine ai (h4 ..) ?_;exact hv.mono z1,trivial⟩ ?_ ?_) (h s1.heap.objs.size))
 ·exact cj.mpr ⟨λhm=>c9 (bM hx) (aA.mp hm),eg⟩
 ·exact λb hb=>(aP.mp hb).elim (λe=> .inl (e▸aa)) λhb=> .inr (kW hb)⟩
theorem IE(hn:j9 name)(ho:PE k mu env o (.ref f))(hi:mu[i]? =ae (tJ f dx fd fs))(hl:fs.length<=500){Ψ:Mu->Prop}(h:Ψ (mu.set i (tJ f dx fd (zN fs name y))))
 (he:autoParam (∀v,wo (.Attribute o name p) env v=(do let ov <- eV [v] (dW o env);iF p.atName;eV [v,ov] (setAttr ov name v);release [v,ov] [])) aR):mI k mu env (.Attribute o name p) y Ψ:=⟨λ{A E Z s fr v Q} hA r hv q=>by
 refine ai (he ..) (ag (bC (ho.c hA r λ{ov s1 Z1} z1 q1 r1=>?_)));refine ai (aZ.refE q1 ..) (ag (iI (ag (bC ?_))));have hi':=cH (fr:=fr) hi;refine uy (r1.sat _ (ao hi')) λhx de n D GC=>?_;have iQ:f≠dx:=λe=>(cj.mp (r1.ownNodup hi')).1 (aA.mpr e);refine yi hx (K6 (s:={s1 with toks:=s1.toks+1}) hx D hn GC.noRef (GC.len▸hl) λvc nx=>?_);have hs:=bY s1.heap dx (oh name vc (.str name nx) v);exact wpAny_release (q z1 (gF hi▸r1.upd' (x':=tJ f dx fd (zN fs name y)) hi' rfl (λb o hb e=>hs.extBut b o (λq=>hb (q▸ab _ aa)) e) ⟨hs.extBut _ _ iQ hx,_,_,(bS _ D (by refine ai (mR ..) ?_;rfl)).trans (congrArg ae (mR ..)),GC.put (hv.mono z1)⟩) h)⟩
theorem K8{fd':cn}{lam:ay}{ob:oX}{pl:oY Bool}(hn:j9 name)(ho:PE k mu env o (.ref f))(hm:tJ f dx fd fs∈mu)(hnd:(fs.map (·.1)).Nodup)(hq:(name,V.ref lam)∈fs)
 (ha:Dm k mu env (a::es) λys nu=>(Kn nu λhp=>hp.get? lam=ae ob)/\ob.data= .func fd'/\FW k nu (.ref lam) ys Φ) (wk:autoParam (kg (a::es)=aJ) aR)
 (he:autoParam (dW (.Call (.Attribute o name apos) (a::es) [] pos) env=(do let ov <- dW o env;iF apos.atName;let (f,first) <- eV [ov] (mA ov name pl);pB pos f first (lb pos (fl (a::es) env)) [])) aR):
 WE k mu env (.Call (.Attribute o name apos) (a::es) [] pos) Φ:=⟨λ{A E Z s fr Q} hA r q=>by
 refine i5 (pl:=pl) ?_ he;refine ho.c hA r λ{ov s1 Z1} z1 q1 r1=>ai (aZ.refE q1 ..) (uy (r1.sat _ (aE fr hm)) λhx de n D GC=>?_);refine aK (GC.some hnd hq) λv hv hr=>?_;rw [aZ.refE hr] at hv;have t1:iM (aX G.prog G.w) s1.heap (jT (.ref f)) (.type "function"):=(sq hx).andThen .now;delta mA mz;refine ag (ag (t1.here (K1.here ?_)));dsimp only;refine ai (PySem.F.canon_object_ga ..) ?_;refine ai (if_neg (by decide) ..) ?_;refine ag (ag (t1.here (RD.here ?_)));refine ag (ag (t1.here ((fe hn).here ?_)));refine ag (mr hx D hv hn rfl (ar ?_));exact G5 (ob:=ob) (fd:=fd') (first:=[]) ha wk hA r1.toks λ{z z z z z} z2 q2 r2 w=>⟨⟨w.1.app r2,w.2.1⟩,w.2.2.c hA r2 q2 λ{z z z z z} z3=>q (z1.trans (z2.trans z3))⟩⟩
end
end
section
open Builtin
structure DP(G:Gd)(c P:ay):Prop where
 hd:∀h:dI,(∀a o,G.Z0 a=ae o->h.get? a=ae o)->CodeHd h c P
 bt:∀h:dI,(∀a o,G.Z0 a=ae o->h.get? a=ae o)->h.BuiltinsAt G.mg P
 ne:vh≠P
noncomputable abbrev zP:=Nat×Nat×ay×bc
noncomputable def rh:List zP->List aj
 |[]=>[]
 |(a,b,c,_)::l=>pA a::pA b:: .ref c::rh l
theorem AL:∀(l m:List zP),rh (l++m)=rh l++rh m
 |[],_=>rfl
 |(a,b,c,_)::l,m=>by simp [rh,AL l m]
theorem yk:∀l:List zP,TriplesOk (rh l)
 |[]=>trivial
 |(a,b,c,_)::l=>yk l
theorem CodeRec.at{h h':dI}{c:ay}{q:bc}(x:h.CodeRec (.ref c) q)(hk:∀o,h.get? c=ae o->h'.get? c=ae o):h'.CodeRec (.ref c) q:=by refine cu x λc' oc vs t hc h1 h2=>?_;clear x;cases hc;exact ⟨c,oc,vs,t,rfl,hk _ h1,h2⟩
theorem CodeRec.live{h:dI}{c:ay}{q:bc}(x:h.CodeRec (.ref c) q):∃o,h.get? c=ae o:=by refine cu x λc' oc vs t hc h1 h2=>?_;clear x;cases hc;exact ⟨_,h1⟩
noncomputable def gH(P:ay)(l:List zP):cY where
 own:=P::l.map (·.2.2.1)
 sat:=λZ h=>h.get? P=ae (tabObj (rh l).toArray)/\∀q∈l,h.CodeRec (.ref q.2.2.1) q.2.2.2
 mono:=λz z z z a=>a
 loc:=λZ h h' ⟨a,b⟩ hk _ _=>⟨hk P aa _ a,λq hq=>CodeRec.at (b q hq) λo ho=>hk _ (ab _ (aG.mpr ⟨q,hq,rfl⟩)) o ho⟩
 live:=λZ h ⟨a,b⟩ c hc=>by
  rcases aP.mp hc with rfl|hc
  ·exact ⟨_,a⟩
  ·refine aK (aG.mp hc) λq hq dP=>?_;subst dP;exact CodeRec.live (b q hq)
noncomputable abbrev yl(qual:bc)(params:CR)(body:bP)(scope:fM)(clos:List (bc×ay))(c:ay)(ct:aj):cn:=kla_fn "<lambda>" qual params body scope clos ((G.mg "__name__").getD .none) (.ref c) ct
section
variable {c P:ay}{params:CR}{body:bP}{clos:List (bc×ay)}{l:List zP}
theorem Kn.code{q:zP}(h:gH P l∈mu)(hq:q∈l):Kn mu λhp=>hp.CodeRec (.ref q.2.2.1) q.2.2.2:=λZ s r=>(r.sat _ h).2 q hq
theorem DQ(hn:defaultsOf params env=([],[])):dW (.Lambda params body scope pos) env=makeFunction "<lambda>" (env.qual++"<lambda>") params (.expr body) scope env [] [] [] pos pos.line:=by (refine ai (arm_eval_Lambda ..) ?_;refine ai (hn ..) ?_);rfl
theorem B7(he:dz env)(hc:env.code= .ref c)(LA:DP G c P)(B:g7 G)(hi:mu[i]? =ae (gH P l))(Ct:codeAmong pos (rh l)=av)(hcl:closureFor scope env=dh clos)(hn:defaultsOf params env=([],[]))
 (h:∀f c' ct,Φ (.ref f) (mi f (eh (yl (env.qual++"<lambda>") params body scope clos c' ct) av)::mu.set i (gH P (l++[(pos.line,pos.col,c',env.qual++"<lambda>")])))):WE k mu env (.Lambda params body scope pos) Φ:=⟨λ{A E Z s fr Q} hA r q=>by
 refine ai (DQ hn ..) ?_;have hi':=cH (fr:=fr) hi;refine dU (r.sat _ (ao hi')) λhP QG=>kla_makeFunction (mg:=G.mg) hcl he.globals (B.g _ r.z0in) hc (LA.hd _ r.z0in) hP (by refine ai (gQ ..) ?_;exact yk l) (by refine ai (gQ ..) ?_;exact Ct) LA.ne (LA.bt _ r.z0in) λc' ctv h' tk hx hge hlt hrec QF=>?_;have qb:(P::l.map (·.2.2.1)).Nodup:=r.ownNodup hi';have PF:∀b∈P::l.map (·.2.2.1),b < s.heap.objs.size:=λb hb=>(aP.mp hb).elim (λe=>e▸bM hP) λhb=>by
  refine aK (aG.mp hb) λq hq eT=>?_;subst eT;exact (CodeRec.live (QG q hq)).elim λz ho=>bM ho
 have SU:∀b o,b≠P->s.heap.get? b=ae o->(h'.push (kla_obj "<lambda>" (env.qual++"<lambda>") params body scope clos ((G.mg "__name__").getD .none) c' ctv)).get? b=ae o:=λb o hb e=>az _ (hx b o hb e);have hnd:(P::(l++[(pos.line,pos.col,c',env.qual++"<lambda>")]).map (·.2.2.1))=(P::l.map (·.2.2.1))++[c']:=by refine ai (bh ..) ?_;rfl
 have rc:=r.swap (tk:=tk) hi' (gH P (l++[(pos.line,pos.col,c',env.qual++"<lambda>")])) (λb o hb e=>SU b o (λq=>hb (q▸aa)) e) ⟨az _ (QF.trans (by refine ai (AL ..) ?_;simp [rh])),λq hq=>?_⟩ ?_ λb hb=>?_
 ·have hsz:s.heap.objs.size < h'.objs.size:=b7 hge hlt;rw [gF hi] at rc;refine q .rfl (.ref _) (rc.add (mi h'.objs.size (eh (yl (env.qual++"<lambda>") params body scope clos c' ctv) av)) (aW _ rfl) eg λb hb=>?_) (h h'.objs.size c' ctv);refine ai (aA.mp hb ..) (⟨λhm=>?_,r.fresh (eB hsz)⟩);refine aK (bG.mp hm) λx hx1 PC=>?_;rw [<- gF (fr:=fr) hi] at hx1;rcases List.mem_or_eq_of_mem_set hx1 with hx1|rfl
  ·exact r.notOwn (eB hsz) (bG.mpr ⟨x,hx1,PC⟩)
  ·rcases bb.mp (show h'.objs.size∈(P::l.map (·.2.2.1))++[c'] from hnd▸PC) with hm|hm
   ·exact Nat.lt_asymm hsz (PF _ hm)
   ·exact zD _ (aA.mp hm▸hlt)
 ·rcases bb.mp hq with hq|hq
  ·exact CodeRec.at (QG q hq) λo ho=>SU _ o (λe=>(cj.mp qb).1 (e▸aG.mpr ⟨q,hq,rfl⟩)) ho
  ·exact ai (aA.mp hq ..) (CodeRec.at hrec λo ho=>az _ ho)
 ·show (P::(l++[(pos.line,pos.col,c',env.qual++"<lambda>")]).map (·.2.2.1)).Nodup;refine ai (hnd ..) ?_;refine gj (bO ..) ?_;exact ⟨qb,eg,λa ha b hb e=>Jn.mpr hge ((e.trans (aA.mp hb))▸PF a ha)⟩
 ·exact (bb.mp (show b∈(P::l.map (·.2.2.1))++[c'] from hnd▸hb)).elim .inl λh=> .inr (aA.mp h▸hge)⟩
theorem AM{c':ay}(he:dz env)(hc:env.code= .ref c)(LA:DP G c P)(B:g7 G)(hi:gH P l∈mu)(hf:codeAmong pos (rh l)=ae (.ref c'))(hcl:closureFor scope env=dh clos)(hn:defaultsOf params env=([],[]))
 (h:∀f ct,Φ (.ref f) (mi f (eh (yl (env.qual++"<lambda>") params body scope clos c' ct) av)::mu)):WE k mu env (.Lambda params body scope pos) Φ:=⟨λ{A E Z s fr Q} hA r q=>by
 refine ai (DQ hn ..) (dU (r.sat _ (aE fr hi)) λhP QG=>?_);refine kla_makeFunctionHit (mg:=G.mg) hcl he.globals (B.g _ r.z0in) hc (LA.hd _ r.z0in) hP (by refine ai (gQ ..) ?_;exact yk l) (by refine ai (gQ ..) ?_;exact hf) (LA.bt _ r.z0in) λctv h' tk hk hsz=>?_;exact q .rfl (.ref _) (r.addNew (tk:=tk) _ (λb o e=>az _ (hk b o e)) (aW _ rfl) eg λb hb=>by refine ai (aA.mp hb ..) ?_;exact hsz) (h h'.objs.size ctv)⟩
end
end
theorem K9{scope:fM}{cl:List (bc×ay)}{elt iter:bP}{spos:lF}(J:Nat->List V->Mu->Prop)(sc:E4 scope env cl)(src:o7 k mu env iter t ctx xs)(hk:1<=k)(hsz:xs.length<=2 ^ 21)(h0:J 0 [] mu)(qW:∀i ys nu,J i ys nu->∀o∈ctx,o∈nu)(hlen:∀i ys nu,J i ys nu->ys.length=i)
 (turn:∀C D i x ys nu,xs[i]? =ae x->J i ys nu->∃bF,mI k (uE scope C::nu) (o8 scope cl C env) t x (λrp=>rp=nC scope C bF::nu)/\
  WE k (nC scope C bF::bk D ys::nu) (o8 scope cl C env) elt λy rp=>∃nu',rp=nC scope C bF::bk D ys::nu'/\J (i+1) (ys++[y]) nu')
 (fin:∀D ys nu,J xs.length ys nu->fK D (bk D ys::nu) Φ) (hs:autoParam (∀x,bw iter env x=dh x) aR):WE k mu env (.ListComp elt [⟨t,iter,[],0⟩] scope spos) Φ:=by
 show WV k mu (dW _ _) Φ;refine ai (eval_ListComp ..) (xw (g:=⟨t,iter,[],0⟩) rfl hs sc uF src λC D=>?_);refine rC Kc hk rfl rfl
  (λi nu=>∃ys nu',nu=uE scope C::bk D ys::nu'/\J i ys nu') ⟨[],mu,rfl,h0⟩ (λi nu ⟨ys,nu',e1,hJ⟩ o ho=>by refine ai (e1 ..) ?_;exact ab _ (ab _ (qW i ys nu' hJ o ho))) (λi x nu hx ⟨ys,nu',e1,hJ⟩=>?_) (λnu ⟨ys,nu',e1,hJ⟩=>⟨_,_,e1,fin D ys nu' hJ⟩)
 subst e1;refine aK (turn C D i x ys nu' hx hJ) λbF h1 h2=>mI.mid (h1.mono λnu e=>⟨_,e,?_⟩);refine ⟨aJ,dm,λhb=>(JU hb),λz it=>?_⟩;refine Wu.weak (Ψ:=λnu=>∃y xf,nu=nC scope C bF::bk D (ys++[y])::xf/\J (i+1) (ys++[y]) xf) (WU.bf (vJ (i:=1) (ys:=ys) (h2.mono λy rp ⟨xf,e1,TX⟩=>?_))) λnu ⟨y,xf,e1,TX⟩=>⟨_,e1▸Le.forget,ys++[y],xf,rfl,TX⟩
 subst e1;refine ⟨rfl,?_,y,xf,rfl,TX⟩;have:=hlen i ys nu' hJ;have hi:=(aB.mp hx).1;lia
theorem Lb(h:∀I,Φ (.ref I) (mT I xs::mu)):BO k mu (.builtin "iter") [bZ (.list xs)] Φ:=⟨λ{A E Z s fr vs Q} hA r hq q=>by
 refine aK (hq.one) λv dP q1=>?_;subst dP;refine cF (rg.list q1) λa ws n eT e1 hr=>?_;subst eT;refine gw (by decide+kernel) (by decide+kernel) kdk_entry_iter (kdk_args_iter _) ?_;unfold Builtin.«iter»;refine ag (m:=CF "iter" 1 2 _) (cN (a:=[cZ a]) (by first|rfl|kernel_rfl!) ?_);show aS _ _ (q7 (.ref a) >>=_) _ _ s;refine ag (lq (⟨_,r.zin _ _ e1,rfl,n,rfl⟩:s.heap.IsList a ws) ?_);exact ar ⟨_,rfl,q .rfl (.ref _) (r.addNew (tk:=s.toks) (mT s.heap.objs.size xs) (λb o e=>az _ e) ⟨a,ws,n,0,⟨_,aW _ rfl,rfl,rfl⟩,e1,hr⟩ eg λz h=>kW h) (h _)⟩⟩
theorem Lc{b:Array UInt8}(h:∀I,Φ (.ref I) (jK I (b.toList.map pI)::mu)):BO k mu (.builtin "iter") [bZ (.bytes b)] Φ:=⟨λ{A E Z s fr vs Q} hA r hq q=>by
 refine aK (hq.one) λv gi q1=>?_;subst gi;refine cK (aZ.is q1) λt iC=>?_;subst iC;refine gw (by decide+kernel) (by decide+kernel) kdk_entry_iter (kdk_args_iter _) ?_;unfold Builtin.«iter»;refine ag (m:=CF "iter" 1 2 _) (cN (a:=[CG b t]) (by first|rfl|kernel_rfl!) ?_);show aS _ _ (q7 (.bytes b t) >>=_) _ _ s;refine ag (KBw.pyIter_bytes ?_);exact ar ⟨_,rfl,q .rfl (.ref _) (r.addNew (tk:=s.toks) (jK s.heap.objs.size (b.toList.map pI)) (λb o e=>az _ e) ⟨b,t,0,⟨_,aW _ rfl,rfl,rfl⟩,rfl⟩ eg λz h=>kW h) (h _)⟩⟩
theorem Ld{Z:bI}{vs:List aj}{ns:List Int}(h:bW G Z vs (ns.map V.int)):ui vs ns:=by
 induction ns generalizing vs with
 |nil=>cases h;exact .nil
 |cons n ns ih=>
  cases h with
  |cons a r=>exact aZ.intC a λt=> .cons _ _ (ih r)
theorem Lf{ns:List Int}(hr:∀n∈ns,0<=n/\n < 256)(hl:ns.length<=2 ^ 20):Fn k mu (.type "bytes") [md mu (ns.map V.int)] (bZ (.bytes (JE ns))):=⟨λ{A E Z s fr vs Q} hA r hq q=>by
 refine aK (hq.one) λv kF q1=>?_;subst kF;refine cF (md.at q1 r) λa ws n l9 h1 h2=>?_;subst l9;exact call_bytes_ints (vs:=ws.toList) (⟨_,h1,rfl,n,rfl⟩:s.heap.IsList a ws.toList.toArray) (Ld h2) hr (by (refine ai (h2.length ..) ?_;refine ai (ak ..) ?_);exact aw hl (show 2 ^ 20<=2 ^ 24 by decide)) hA.hh λh' t k' hk=>q .rfl (.bytes _ _) (r.keep (tk:=k') hk)⟩
structure DR(G:Gd)(a c:ay)(st:ed):Prop where
 go:∃ob pm doc,G.Z0 a=ae ob/\ob.data= .func (mw (ma st) (wB st) (fR st) (bj st) pm (.ref c) doc)/\∀h:dI,(∀a o,G.Z0 a=ae o->h.get? a=ae o)->h.CodeRec (.ref c) (ma st)
theorem RF(H:Hy G){a c:ay}{st:ed}(F:DR G a c st){names:List bc}{vals':ay->eL}
 (i0:∀pm cd doc vs,vs.length=xs.length->pF (xu st pm cd doc) ⟨vs,[]⟩=dh (names.zip vs)) (hnd:(aM 0 (bj st).names).nd) (hk:(bj st).kind= .function)
 (hb:∀pm cd doc L,i9 (dT (xu st pm cd doc) a L) L (aM (L+1) (bj st).names) names xs (nones (aM (L+1) (bj st).names)) (vals' L))
 (h:∀pm doc L,dz (dT (xu st pm (.ref c) doc) a L)->WS k (bq L (aM (L+1) (bj st).names) (vals' L)::mu) (dT (xu st pm (.ref c) doc) a L) (fR st) (lD Φ)) (wj:autoParam ((bj st).isCoroutine=aH) aR) (mP:autoParam ((bj st).isGenerator=aH) aR):
 FW (k+1) mu (.ref a) xs Φ:=by
 exact cF (F.go) λob pm doc h0 hd hcd=>Kr H.B (names:=names) (vals':=vals') (Kn.z0 h0) hd (λZ s r=>hcd _ r.z0in) rfl (i0 pm _ doc) hnd (λL=>⟨hk,rfl,rfl⟩) (hb pm _ doc) (λL=>h pm doc L ⟨hk,rfl,rfl⟩) wj mP
theorem DS{id T:String}{name:bc}(ho:EV k mu env o P)(ht:Ty mu P T)(ha:Dm k mu env (e::es) λys nu=>∃Ps y,(∀Z vs,bW G Z vs ys->j0 Z vs Ps)/\Fn k nu (.builtin id) (P::Ps) (bZ y)/\Φ y nu)(pa:zo T)(slot:Slot T name id)
 (MN:jT (.builtin id)=dh (.type "method_descriptor")) (hl:(apos.endLine == pos.line)=aJ) (wk:autoParam (kg (e::es)=aJ) aR) (hsz:autoParam ((e::es).length < 29) aD) (si:autoParam (rk o name env (dW o env)=dW o env) aR):
 WE k mu env (.Call (.Attribute o name apos) (e::es) [] pos) Φ:=⟨λ{z z z z z z} hA r q=>
 BI ho ht (kX wk pos) pa slot MN hl hsz si hA r λ{z z z} z1 q1 r1=>G7 ha wk hA r1 λz2 q2 r2 ⟨Ps,y,hc,hF,hΦ⟩=>hF.c hA r2 (.cons (P.mono _ _ _ z2 q1) (hc _ _ q2)) λ{z z z} z3 q3 r3=>q (z1.trans (z2.trans z3)) q3 r3 hΦ⟩
theorem BO.mono{f:aj}{Ps:List (Vw)}{Ψ:V->Mu->Prop}(h:BO k mu f Ps Φ)(hi:∀y nu,Φ y nu->Ψ y nu):BO k mu f Ps Ψ:=⟨λ{x x x x x x x} hA r v q=>h.c hA r v λ{x x x x x} z w r u=>q z w r (hi _ _ u)⟩
noncomputable def FR:bc:=ma (cO 17)++".<locals>."++"<lambda>"
noncomputable def zQ:Option (ay×ay)->List zP
 |none=>[]
 |some (a,b)=>[(200,12,a,FR),(201,17,b,FR)]
structure Lg(G:Gd):Prop where
 la:DP G 274 272
 f275:DR G 275 274 (cO 17)
noncomputable abbrev AN(L:ay)(text:bc)(f it:ay):cY:=bq L (aM (L+1) (bj (cO 17)).names) [ae (.str text),ae (.ref f),ae (.ref it)]
def FS(lam it L f:ay)(text:bc)(ld:cn)(a b:ay):Prop:=
 ∀(k:Nat) (mu:Mu) (i:Nat),AN L text f it∈mu->mi lam (eh ld av)∈mu->gH 272 (zQ (ae (a,b)))∈mu->
  (∀c xs,mu[i]? =ae (mT it (.str ⟨#[c]⟩::xs))->FW (k+2) mu (.ref lam) [.int 1] λy nu=>y= .str ⟨#[c]⟩/\nu=mu.set i (mT it xs))/\
  (mu[i]? =ae (mT it [])->FW (k+2) mu (.ref lam) [.int 1] λy nu=>y= .str ""/\nu=mu.set i (pO))
theorem IF(c:Nat):fO "" [⟨#[c]⟩]=⟨#[c]⟩:=by rfl
noncomputable def th(x:bc):List Int:=x.cps.toList.map fA
noncomputable def lamA:ed->CR
 | .Assign _ (.Lambda a _ _ _) _=>a
 |_=>Fk
noncomputable def lamB:ed->bP
 | .Assign _ (.Lambda _ b _ _) _=>b
 |_=> .Constant .none 0 ⟨0,0,0,0⟩
noncomputable def RG:ed->fM
 | .Assign _ (.Lambda _ _ s _) _=>s
 |_=>Bv
noncomputable def RI:ed:=(fR (cO 17)).getD 1 (.Pass ⟨0,0,0,0⟩)
noncomputable abbrev Ql(a:ay)(ct:aj):cn:=yl FR (lamA RI) (lamB RI) (RG RI) [] a ct
noncomputable def Oq:ed:=(fR (cO 17)).getD 2 (.Pass ⟨0,0,0,0⟩)
noncomputable abbrev rU(L b:ay)(ct:aj):cn:=yl FR (lamA Oq) (lamB Oq) (RG Oq) [("signs",L+1)] b ct
def jw.S0(L b:ay)(ct:aj)(_:Nat):Prop:=∀{it f lam a:ay} {text:bc} (H:Hy G),FS lam it L f text (rU L b ct) a b
namespace jw
@[irreducible] def e0:=GT cM cM gM eO S0
def L_:=e0.1
def b_:=e0.2.1
def Np:=e0.2.2.1
theorem T0:S0 L_ b_ Np e0.2.2.2:=λ{it} {f} {lam} {a} {text} H=>λk mu i h1 h2 h3=>by
 have go:∀(y:V) (o:cY) (r:bc),(∀(HL:Mu),BO (k+1) (HL++mu) (.builtin "next") [bZ (.ref it),bZ (.str "")] λz nu=>z= .str r/\nu=HL++mu.set i o)->fO "" [r]=r->M7 "" [r]=aJ->FW (k+2) mu (.ref lam) [.int 1] λy nu=>y= .str r/\nu=mu.set i o:=λy o r hnx hj hok=>by
  refine FB H.B (names:=["size"]) (vals':=λw=>[ae (.int 1)]) (Kn.obj h2) rfl (Kn.code h3 (q:=(201,17,b_,FR)) (by exact ab _ aa)) rfl (λvs h=>?_) (by show (aM 0 (RG Oq).names).nd;decide+kernel) (λL_=>⟨rfl,rfl,rfl⟩) (λL2=>?_) (λL2=>?_)
  ·exact uK h λa=>rfl
  ·exact .cons (j:=0) .loc rfl .nil
  have he:dz (dT (rU L_ b_ Np) lam L2):=⟨rfl,rfl,rfl⟩;refine DS cP mJ (cB (K9 (ctx:=[]) (xs:=[V.int 0]) (λj ys nu=>(j=0/\ys=[]/\nu=vL (rU L_ b_ Np) L2 [ae (.int 1)]::mu)\/(j=1/\ys=[V.str r]/\nu=vL (rU L_ b_ Np) L2 [ae (.int 1)]::mu.set i o))
   ⟨rfl,rfl,by decide+kernel,by decide+kernel⟩ (fJ (n:=1) (iO H he H.b_range rfl) (ah (j:=0) he .loc aa rfl) rfl (by decide)) (by lia) (by decide) (.inl ⟨rfl,rfl,rfl⟩) (λw w w w o ho=>el ho)
   (λj ys nu h=>by rcases h with ⟨rfl,rfl,_⟩|⟨rfl,rfl,_⟩ <;> rfl) (λC D j x ys nu hx hJ=>?_) (λD ys nu hJ=>?_))) (by exact eN) (by exact ny) (by exact b9) rfl
  ·rcases hJ with ⟨rfl,rfl,rfl⟩|⟨rfl,_,_⟩
   ·refine ⟨_,qw (j:=1) he.comp .loc,?_⟩;refine nI (j3 H he.comp H.b_next rfl) (au (ah (j:=2) (L:=L_) (lay:=aM (L_+1) (bj (cO 17)).names) he.comp (.free (L_+1) "signs" rfl rfl rfl rfl rfl) (ab _ (ab _ (ab _ h1))) rfl) (au cP aT)) ((hnx [_,_,_]).mono λz nu ⟨e1,e2⟩=>?_);subst e1;exact ⟨_,e2,.inr ⟨rfl,rfl,rfl⟩⟩
   ·exact gL hx
  ·rcases hJ with ⟨h,_⟩|⟨_,rfl,rfl⟩
   ·cases h
   ·refine fK.list (e8 ⟨[md (vL (rU L_ b_ Np) L2 [ae (.int 1)]::mu.set i o) [V.str r]],.str r,λZ vs hv=>?_,?_,?_⟩)
    ·cases hv with
     |cons a b_=>cases b_;exact .cons (BB a) .nil
    ·have:=G4 (k:=k+1) (mu:=vL (rU L_ b_ Np) L2 [ae (.int 1)]::mu.set i o) (sep:="") (ts:=[r]) hok;rw [hj] at this;exact this
    ·exact jJ.tail (jJ.keep ⟨rfl,rfl⟩)
 refine ⟨λc xs hi=>go (.str ⟨#[c]⟩) (mT it xs) _ (λHL=>?_) (IF c) rfl,λhi=>go (.str "") (pO) "" (λHL=>?_) rfl (by decide+kernel)⟩
 ·have hi':(HL++mu)[HL.length+i]? =ae (mT it (V.str ⟨#[c]⟩::xs)):=by (refine ai (JF (dE _ _) ..) ?_;refine ai (mE ..) ?_);exact hi
  refine KN (i:=HL.length+i) hi' ⟨rfl,?_⟩;refine ai (QQ _ _ (dE _ _) ..) ?_;refine ai (mE ..) ?_;rfl
 ·have hi':(HL++mu)[HL.length+i]? =ae (mT it []):=by (refine ai (JF (dE _ _) ..) ?_;refine ai (mE ..) ?_);exact hi
  refine Ir (i:=HL.length+i) hi' ⟨rfl,?_⟩;refine ai (QQ _ _ (dE _ _) ..) ?_;refine ai (mE ..) ?_;rfl
end jw
theorem jw{L b:ay}{ct:aj}:jw.S0 L b ct 0:=by with_unfolding_all exact vx _ _ _ _ jw.S0 @jw.T0 L b ct 0
noncomputable abbrev Lh(pm doc:aj)(L:ay):iE:=dT (xu (cO 17) pm (.ref 274) doc) 275 L
theorem ym(H:Hy G){pm doc:aj}{L f dx lam:ay}{gd ld:cn}{text:bc}(he:dz (Lh pm doc L))(hs:∀c∈text.cps.toList,c < 256)(hl:text.cps.size<=2 ^ 20){Φ:V->Mu->Prop}
 (hΦ:Φ (.ref f) (mi lam (eh ld av)::tJ f dx gd [("read",.ref lam),("co_exceptiontable",.bytes (JE (th text)))]::mT it (nB text)::AN L text f it::mu)):
 WS (k+1) (mi lam (eh ld av)::tJ f dx gd [("read",.ref lam)]::mT it (nB text)::AN L text f it::mu) (Lh pm doc L) ((fR (cO 17)).drop 3) (lD Φ):=by
 have h3:∀{a b c d:cY} {l:Mu},d∈a::b::c::d::l:=ab _ (ab _ (ab _ aa));refine aC (bX (iZ (S:=bZ (.bytes (JE (th text)))) (iO H he H.b_bytes rfl) (au (dF (jO text.cps.toList (λc=> .str ⟨#[c]⟩) (λ(c:Nat)=> .int (c:Int)) ⟨rfl,rfl,by decide+kernel,by decide+kernel⟩ (NZ (ah (j:=0) he .loc h3 rfl)) (by lia) (by exact aw hl (by decide)) (λC1 a ha=>iu 1 he.comp .loc dm (λhb=>(ej (j3 H he.comp H.b_ord rfl) (au (ah (j:=1) he.comp .loc aa rfl) aT) Re))))) aT) ?_)
  (IE (i:=1) wL (ah (j:=1) he .loc h3 rfl) rfl (by show 1<=500;decide) ?_) rfl rfl)
 ·have:=Lf (k:=k+1) (mu:=mi lam (eh ld av)::tJ f dx gd [("read",.ref lam)]::mT it (nB text)::AN L text f it::mu) (ns:=th text) (λn hn=>by
   refine aK (aG.mp hn) λc hc dP=>?_;subst dP;have:=hs c hc;exact ⟨dK _,by show (c:Int) < 256;lia⟩) (by unfold th;simpa using hl)
  rw [show (th text).map V.int=text.cps.toList.map λ(c:Nat)=>V.int (c:Int) from by unfold th;refine ai (a0 ..) ?_;rfl] at this;exact this
 ·refine aC (gy (cg (ah (j:=1) he .loc h3 rfl) (jJ.keep hΦ)))
def m8.S0(k:Nat)(mu:Mu)(i:Nat)(text:bc):Prop:=∀{o:Option (ay×ay)} (H:Hy G) (GH:Lg G) (hi:mu[i]? =ae (gH 272 (zQ o))) (hs:∀c∈text.cps.toList,c < 256) (hl:text.cps.size<=2 ^ 20),FW (k+2) mu (.ref 275) [.str text] λy nu=>∃f dx lam it L gd ld a b,y= .ref f/\(∀q,o=ae q->q=(a,b))/\FS lam it L f text ld a b/\
 nu=mi lam (eh ld av)::tJ f dx gd [("read",.ref lam),("co_exceptiontable",.bytes (JE (th text)))]::mT it (nB text)::AN L text f it::mu.set i (gH 272 (zQ (ae (a,b))))
namespace m8
@[irreducible] def e0:=GT eO gE eO inferInstance S0
def k_:=e0.1
def e9:=e0.2.1
def i_:=e0.2.2.1
def Qm:=e0.2.2.2
theorem T0:S0 k_ e9 i_ Qm:=by
 intro o H GH hi hs hl;refine RF H GH.f275 (names:=["text"]) (vals':=λL=>[ae (.str Qm),av,av]) (λpm cd doc vs h=>?_) (by decide+kernel) rfl (λpm cd doc L=>?_) (λpm doc L he=>?_)
 ·exact uK h λa=>rfl
 ·exact .cons (j:=0) .loc rfl .nil
 refine aC (b4 (nI (j3 H he H.b_iter rfl) (au (iZ (iO H he H.b_list rfl) (au (ah (j:=0) he .loc aa rfl) aT) (H7 (by show _<=2 ^ 24;exact aw (by assumption) (by decide)))) aT) (Lb λI=>aQ (i:=1) (j:=2) he (.cell (L+1) "signs") rfl ?_)) rfl rfl);cases o with
 |none=>
  refine aC (b4 (B7 (i:=i_+2) he rfl GH.la H.B hi rfl rfl rfl λf c' ct=>aQ (i:=2) (j:=1) he .loc rfl ?_) rfl rfl);have TZ:(e9.set i_ (gH 272 (zQ av++[(200,12,c',FR)])))[i_]? =ae (gH 272 [(200,12,c',FR)]):=by refine ai (eA (aB.mp hi).1 ..) ?_;rfl
  refine aC (b4 (B7 (i:=i_+3) he rfl GH.la H.B TZ rfl rfl rfl λlam c2 ct2=>yj (i:=1) qE (ah (j:=1) he .loc (ab _ (ab _ (ab _ aa))) rfl) rfl λdx=>?_) rfl rfl);refine ym H he hs hl ⟨f,dx,lam,I,L,Ql c' ct,rU L c2 ct2,c',c2,rfl,(λq e=>gL e),jw H,?_⟩;show _::_::_::_::(e9.set i_ _).set i_ _=_;refine ai (u7 ..) ?_;rfl
 |some q=>
  obtain ⟨a,b⟩:=q;have hm:=ao hi;have m2:∀{x y:cY},gH 272 (zQ (ae (a,b)))∈x::y::e9:=ab _ (ab _ hm);have m3:∀{x y z:cY},gH 272 (zQ (ae (a,b)))∈x::y::z::e9:=ab _ m2;refine aC (b4 (AM he rfl GH.la H.B m2 rfl rfl rfl λf ct=>aQ (i:=2) (j:=1) he .loc rfl ?_) rfl rfl);refine aC (b4 (AM he rfl GH.la H.B m3 rfl rfl rfl λlam ct2=>yj (i:=1) qE (ah (j:=1) he .loc (ab _ (ab _ (ab _ aa))) rfl) rfl λdx=>?_) rfl rfl);refine ym H he hs hl ⟨f,dx,lam,I,L,Ql a ct,rU L b ct2,a,b,rfl,(λq e=>by (have lz:=aO e;clear e;subst lz);rfl),jw H,?_⟩;have e1:e9.set i_ (gH 272 (zQ (ae (a,b))))=e9:=by refine ai (jZ _ hi ..) ?_;refine fZ (gh hi ..) ?_;rfl
  refine ai (e1 ..) ?_;rfl
end m8
theorem m8{text:bc}:m8.S0 k mu i text:=by with_unfolding_all exact vx _ _ _ _ m8.S0 @m8.T0 k mu i text
variable {Ok:List V->Prop}{Xp:Mu->Prop}{I:ay}
theorem sC(hl:WE k mu env l λy nu=>∃Q z,EV k nu env r Q/\xJ k nu op (bZ y) Q (bZ z)/\Φ z nu):WE k mu env (.BinOp l op r p) Φ:=⟨λ{x x x x x x} hA R q=>by
 with_reducible refine Ny ?_
 exact hl.c hA R λz1 q1 r1 ⟨Q,z,hr,ho,hΦ⟩=>hr.c hA r1 λ{x x x} z2 p2 r2=>ho.c hA r2 (q1.mono z2) p2 λ{x x x} z3 p3 r3=>q (z1.trans (z2.trans z3)) p3 r3 hΦ⟩
theorem IG{id T:String}{name:bc}(ho:EV k mu env o P)(ht:Ty mu P T)(ha:Dm k mu env (e::es) λys nu=>∃Ps,(∀Z vs,bW G Z vs ys->j0 Z vs Ps)/\BO k nu (.builtin id) (P::Ps) Φ)(pa:zo T)(slot:Slot T name id)
 (MN:jT (.builtin id)=dh (.type "method_descriptor")) (hl:(apos.endLine == pos.line)=aJ) (wk:autoParam (kg (e::es)=aJ) aR) (hsz:autoParam ((e::es).length < 29) aD) (si:autoParam (rk o name env (dW o env)=dW o env) aR):
 WE k mu env (.Call (.Attribute o name apos) (e::es) [] pos) Φ:=⟨λ{z z z z z z} hA r q=>
 BI ho ht (kX wk pos) pa slot MN hl hsz si hA r λ{z z z} z1 q1 r1=>G7 ha wk hA r1 λz2 q2 r2 ⟨Ps,hc,hF⟩=>hF.c hA r2 (.cons (P.mono _ _ _ z2 q1) (hc _ _ q2)) λ{z z z z z} z3=>q (z1.trans (z2.trans z3))⟩
theorem Li{a b:cY}(h:Φ (.list xs) mu):jJ (.ref D) (a::bk D xs::b::mu) Φ:=jJ.tail (jJ.list (gW _ _) h)
theorem RT.mono{α:Type}{t:oY α}{Ψ Ψ':Mu->Prop}(h:RT k mu env t Ψ)(hi:∀nu,Ψ nu->Ψ' nu):RT k mu env t Ψ':=⟨λ{y y y y y y y} hA hf iD r q=>h.c hA hf iD r λ{y y y y} z hH hx w=>q z hH hx (hi _ w)⟩
inductive DT:List Nat->List (Nat×Nat×Nat×Nat)->Prop
 |stop {bs:_}:yh bs=av->bs.length<=8->DT bs []
 |more {bs q rs qs:_}:yh bs=ae (q,rs)->q.1 < 2 ^ 60->q.2.1 < 2 ^ 60->q.2.2.1 < 2 ^ 60->q.2.2.2 < 2 ^ 60->DT rs qs->DT bs (q::qs)
noncomputable def DU(q:Nat×Nat×Nat×Nat):V:= .ent [.int (q.1*2),.int (q.1*2+q.2.1*2),.int (q.2.2.1*2),.int (q.2.2.2 / 2),.bool (decide (q.2.2.2 % 2=1))]
theorem uQ:∀{bs:List Nat} {v n:Nat} {rs:List Nat},jv v bs=ae (n,rs)->n < (v+1)*64 ^ bs.length
 |b::bs,v,n,rs,h=>by
  have hb:b % 64 < 64:=ee _ (by decide);unfold jv at h;refine ai (bJ ..) ?_;refine ai (CD ..) ?_
  split at h
  ·have:=uQ h;refine cc this ?_;have:(v*64+b % 64+1)<=(v+1)*64:=by lia
   calc (v*64+b % 64+1)*64 ^ bs.length<=((v+1)*64)*64 ^ bs.length:=xq _ this
    _=(v+1)*(64 ^ bs.length*64):=by (refine ai (jX ..) ?_;refine ai (q8 64 ..) ?_;rfl)
  ·cases h;have h1:v*64+b % 64 < (v+1)*64:=by lia
   have h2:0 < 64 ^ bs.length:=Nat.pow_pos (by decide)
   calc v*64+b % 64 < (v+1)*64:=h1
    _<=(v+1)*(64 ^ bs.length*64):=Un _ (by lia)
theorem FT{bs rs:List Nat}{n:Nat}(h:mK bs=ae (n,rs))(hl:bs.length<=8):n < 2 ^ 60:=by
 have:=uQ h;have h2:(0+1)*64 ^ bs.length<=64 ^ 8:=by (refine ai (eC ..) ?_;refine ai (xo ..) ?_);exact e7 (by decide) hl
 have h3:(64:Nat) ^ 8<=2 ^ 60:=by decide
 lia
theorem and1(b:Nat):(lY (b:Int) 1 != 0)=decide (b % 2=1):=by
 have h:lY (b:Int) 1=((b % 2:Nat):Int):=by refine ai (bitAnd_pp (dK _) (by decide) ..) ?_;refine ai (b8 ..) ?_;exact congrArg _ (EY b 1)
 refine ai (h ..) ?_;rcases JA b with h2|h2 <;> refine ai (h2 ..) ?_ <;> rfl
noncomputable abbrev RK(L f I D:ay)(w:eL):cY:=bq L (aM (L+1) (bj (cO 8)).names) (ae (.ref f)::ae (.ref I)::ae (.ref D)::w)
noncomputable abbrev jL(pm cd doc:aj)(L:ay):iE:=dT (xu (cO 8) pm cd doc) 179 L
noncomputable abbrev tbSt(L f I D:ay)(mu:Mu)(es:List V)(bs:List Nat)(v3 v4 v5 v6 v7 v8 v9:Option V):Mu:=bk D es::jK I bs::RK L f I D [v3,v4,v5,v6,v7,v8,v9]::mu
def zv(k:Nat)(st:List V->List Nat->Option V->Option V->Option V->Option V->Option V->Option V->Option V->Mu)(pm cd doc:aj)(L D:ay)(Ok:List V->Prop)(Xp:Mu->Prop):Prop:=
 (∀{es bs rs n v3 v4 v5 v6 v7 v8 v9 p1 p2 p3} {Ψ:V->Mu->Prop},mK bs=ae (n,rs)->n < 2 ^ 60->Ψ (.int n) (st es rs v3 v4 v5 v6 v7 v8 v9)->WE (k+3) (st es bs v3 v4 v5 v6 v7 v8 v9) (jL pm cd doc L) (.Call (.Name "_parse_varint" p1) [.Name "iterator" p2] [] p3) Ψ)/\
 (∀{es bs v3 v4 v5 v6 v7 v8 v9 p1 p2 p3},mK bs=av->bs.length<=8->Ok es->RE (k+3) (st es bs v3 v4 v5 v6 v7 v8 v9) (jL pm cd doc L) (.Call (.Name "_parse_varint" p1) [.Name "iterator" p2] [] p3) Xp)/\
 (∀{es bs v4 v5 v6 v7 v8 v9 v p},PE (k+3) (st es bs (ae v) v4 v5 v6 v7 v8 v9) (jL pm cd doc L) (.Name "start" p) v)/\
 (∀{es bs v3 v4 v5 v6 v7 v8 v9 v p} {Ψ:Mu->Prop},Ψ (st es bs (ae v) v4 v5 v6 v7 v8 v9)->mI (k+3) (st es bs v3 v4 v5 v6 v7 v8 v9) (jL pm cd doc L) (.Name "start" p) v Ψ)/\
 (∀{es bs v3 v5 v6 v7 v8 v9 v p},PE (k+3) (st es bs v3 (ae v) v5 v6 v7 v8 v9) (jL pm cd doc L) (.Name "length" p) v)/\
 (∀{es bs v3 v4 v5 v6 v7 v8 v9 v p} {Ψ:Mu->Prop},Ψ (st es bs v3 (ae v) v5 v6 v7 v8 v9)->mI (k+3) (st es bs v3 v4 v5 v6 v7 v8 v9) (jL pm cd doc L) (.Name "length" p) v Ψ)/\
 (∀{es bs v3 v4 v6 v7 v8 v9 v p},PE (k+3) (st es bs v3 v4 (ae v) v6 v7 v8 v9) (jL pm cd doc L) (.Name "end" p) v)/\
 (∀{es bs v3 v4 v5 v6 v7 v8 v9 v p} {Ψ:Mu->Prop},Ψ (st es bs v3 v4 (ae v) v6 v7 v8 v9)->mI (k+3) (st es bs v3 v4 v5 v6 v7 v8 v9) (jL pm cd doc L) (.Name "end" p) v Ψ)/\
 (∀{es bs v3 v4 v5 v7 v8 v9 v p},PE (k+3) (st es bs v3 v4 v5 (ae v) v7 v8 v9) (jL pm cd doc L) (.Name "target" p) v)/\
 (∀{es bs v3 v4 v5 v6 v7 v8 v9 v p} {Ψ:Mu->Prop},Ψ (st es bs v3 v4 v5 (ae v) v7 v8 v9)->mI (k+3) (st es bs v3 v4 v5 v6 v7 v8 v9) (jL pm cd doc L) (.Name "target" p) v Ψ)/\
 (∀{es bs v3 v4 v5 v6 v8 v9 v p},PE (k+3) (st es bs v3 v4 v5 v6 (ae v) v8 v9) (jL pm cd doc L) (.Name "dl" p) v)/\
 (∀{es bs v3 v4 v5 v6 v7 v8 v9 v p} {Ψ:Mu->Prop},Ψ (st es bs v3 v4 v5 v6 (ae v) v8 v9)->mI (k+3) (st es bs v3 v4 v5 v6 v7 v8 v9) (jL pm cd doc L) (.Name "dl" p) v Ψ)/\
 (∀{es bs v3 v4 v5 v6 v7 v9 v p},PE (k+3) (st es bs v3 v4 v5 v6 v7 (ae v) v9) (jL pm cd doc L) (.Name "depth" p) v)/\
 (∀{es bs v3 v4 v5 v6 v7 v8 v9 v p} {Ψ:Mu->Prop},Ψ (st es bs v3 v4 v5 v6 v7 (ae v) v9)->mI (k+3) (st es bs v3 v4 v5 v6 v7 v8 v9) (jL pm cd doc L) (.Name "depth" p) v Ψ)/\
 (∀{es bs v3 v4 v5 v6 v7 v8 v p},PE (k+3) (st es bs v3 v4 v5 v6 v7 v8 (ae v)) (jL pm cd doc L) (.Name "lasti" p) v)/\
 (∀{es bs v3 v4 v5 v6 v7 v8 v9 v p} {Ψ:Mu->Prop},Ψ (st es bs v3 v4 v5 v6 v7 v8 (ae v))->mI (k+3) (st es bs v3 v4 v5 v6 v7 v8 v9) (jL pm cd doc L) (.Name "lasti" p) v Ψ)/\
 (∀{es bs v3 v4 v5 v6 v7 v8 v9 p},PE (k+3) (st es bs v3 v4 v5 v6 v7 v8 v9) (jL pm cd doc L) (.Name "entries" p) (.ref D))/\
 (∀{es bs v3 v4 v5 v6 v7 v8 v9},bk D es∈st es bs v3 v4 v5 v6 v7 v8 v9)/\
 ∀{es bs y v3 v4 v5 v6 v7 v8 v9} {Ψ:V->Mu->Prop},es.length < 2 ^ 22->Ψ .none (st (es++[y]) bs v3 v4 v5 v6 v7 v8 v9)->BO (k+3) (st es bs v3 v4 v5 v6 v7 v8 v9) (.builtin "list.append") [bZ (.ref D),bZ y] Ψ
section
variable {st:List V->List Nat->Option V->Option V->Option V->Option V->Option V->Option V->Option V->Mu}(h:zv k st pm cd doc L D Ok Xp)
def zv.num:=@h.1
def zv.bad:=@h.2.1
def zv.p3:=@h.2.2.1
def zv.a3:=@h.2.2.2.1
def zv.p4:=@h.2.2.2.2.1
def zv.a4:=@h.2.2.2.2.2.1
def zv.p5:=@h.2.2.2.2.2.2.1
def zv.a5:=@h.2.2.2.2.2.2.2.1
def zv.p6:=@h.2.2.2.2.2.2.2.2.1
def zv.a6:=@h.2.2.2.2.2.2.2.2.2.1
def zv.p7:=@h.2.2.2.2.2.2.2.2.2.2.1
def zv.a7:=@h.2.2.2.2.2.2.2.2.2.2.2.1
def zv.p8:=@h.2.2.2.2.2.2.2.2.2.2.2.2.1
def zv.a8:=@h.2.2.2.2.2.2.2.2.2.2.2.2.2.1
def zv.p9:=@h.2.2.2.2.2.2.2.2.2.2.2.2.2.2.1
def zv.a9:=@h.2.2.2.2.2.2.2.2.2.2.2.2.2.2.2.1
def zv.p2:=@h.2.2.2.2.2.2.2.2.2.2.2.2.2.2.2.2.1
def zv.lm:=@h.2.2.2.2.2.2.2.2.2.2.2.2.2.2.2.2.2.1
def zv.app:=@h.2.2.2.2.2.2.2.2.2.2.2.2.2.2.2.2.2.2
end
def okTo(T:Mu->Prop)(f:AF)(nu:Mu):Prop:=(f= .next\/f= .cont)/\T nu
theorem Lj{st:List V->List Nat->Option V->Option V->Option V->Option V->Option V->Option V->Option V->Mu}{pos cp:lF}{kk n:Nat}{body orelse:List ed}{es:List V}{bs:List Nat}{v3 v4 v5 v6 v7 v8 v9:Option V}{Ψ:Mu->Prop}(hk:vS env)(I:Nat->List V->List Nat->Prop)(h0:I n es bs)
 (turn:∀T n es bs v3 v4 v5 v6 v7 v8 v9,I n es bs->(∀m es bs v3 v4 v5 v6 v7 v8 v9,m < n->I m es bs->T (st es bs v3 v4 v5 v6 v7 v8 v9))->RS k (st es bs v3 v4 v5 v6 v7 v8 v9) env body Ψ\/WS k (st es bs v3 v4 v5 v6 v7 v8 v9) env body (okTo T)):
 RX k (st es bs v3 v4 v5 v6 v7 v8 v9) env (.While (.Constant (.bool aJ) kk cp) body orelse pos) Ψ:=by
 refine DJ hk (λm nu=>∃es bs v3 v4 v5 v6 v7 v8 v9,nu=st es bs v3 v4 v5 v6 v7 v8 v9/\I m es bs) n ⟨es,bs,v3,v4,v5,v6,v7,v8,v9,rfl,h0⟩ λn nu h=>?_;obtain ⟨es,bs,v3,v4,v5,v6,v7,v8,v9,rfl,h⟩:=h;exact (kT J0 qr).wt ⟨rfl,turn _ n es bs v3 v4 v5 v6 v7 v8 v9 h λm es bs v3 v4 v5 v6 v7 v8 v9 hm h=>⟨m,hm,es,bs,v3,v4,v5,v6,v7,v8,v9,rfl,h⟩⟩
theorem FU{bs rs:List Nat}{q:Nat×Nat×Nat×Nat}(h:yh bs=ae (q,rs)):∃b1 b2 b3,mK bs=ae (q.1,b1)/\mK b1=ae (q.2.1,b2)/\mK b2=ae (q.2.2.1,b3)/\mK b3=ae (q.2.2.2,rs):=by refine aK (du.mp h) λa h1 h=>aK (du.mp h) λb h2 h=>aK (du.mp h) λc h3 h=>aK (du.mp h) λd h4 h=>?_;cases h;exact ⟨_,_,_,h1,h2,h3,h4⟩
def Brk(bs:List Nat)(P:Nat->List Nat->Prop):Prop:=mK bs=av\/∃n b,mK bs=ae (n,b)/\n < 2 ^ 60/\b.length<=8/\P n b
theorem brk{bs:List Nat}{P:Nat->List Nat->Prop}(hl:bs.length<=8)(h:∀p:Nat×List Nat,mK bs=ae p->p.2.length<=8->P p.1 p.2):Brk bs P:=by
 cases e:mK bs with
 |none=>exact .inl e
 |some p=>exact .inr ⟨p.1,p.2,e,FT e hl,aw (eB (ki e)) hl,h p e (aw (eB (ki e)) hl)⟩
theorem FV{bs:List Nat}(h:yh bs=av)(hl:bs.length<=8):Brk bs λz b1=>Brk b1 λz b2=>Brk b2 λz b3=>mK b3=av:=
 brk hl λa h1 l=>brk l λb h2 l=>brk l λc h3 l=>by
  have h:=ek.mp (ek.mp (ek.mp h a h1) b h2) c h3;cases e:mK c.2 with
  |none=>rfl
  |some d=>exact nomS (ek.mp h d e)
noncomputable def Os:ed:=match (fR (cO 8)).getD 2 (.Pass ⟨0,0,0,0⟩) with
 | .Try (s::_) _ _ _ _=>s
 |s=>s
section
variable {st:List V->List Nat->Option V->Option V->Option V->Option V->Option V->Option V->Option V->Mu}{f:ay}
theorem tb_ok(H:Hy G)(he:dz (jL pm cd doc L))(hk:vS (jL pm cd doc L))(hX:∀es,Ok es->∀w,Xp (RK L f I D w::bk D es::pO::mu)):zv k (tbSt L f I D mu) pm cd doc L D Ok Xp:=by
 refine cu (H.f172.go) λobv pmv cdv docv GA hvd z=>?_;have f2:∀{a b c:cY} {l:Mu},c∈a::b::c::l:=ao (i:=2) rfl;refine ⟨?_,?_,?_,?_,?_,?_,?_,?_,?_,?_,?_,?_,?_,?_,?_,?_,?_,?_,?_⟩
 ·intro es bs rs n v3 v4 v5 v6 v7 v8 v9 p1 p2 p3 Ψ hv hn h;refine mj (ml H he H.m_varint rfl) GA hvd (tx.war (ys:=[V.ref I]) (au (ah (j:=1) he .loc f2 rfl) aT) ?_);exact ((nJ (k:=k+1) (i:=1) H rfl hv hn).mono λy nu e=>by (refine ai (e.1 ..) ?_;refine ai (e.2 ..) ?_);exact h)
 ·intro es bs v3 v4 v5 v6 v7 v8 v9 p1 p2 p3 hv hlen ho;refine KV hk (ml H he H.m_varint rfl) GA hvd (tx.war (ys:=[V.ref I]) (au (ah (j:=1) he .loc f2 rfl) aT) ?_);refine ⟨bk D es::jK I bs::mu,[RK L f I D [v3,v4,v5,v6,v7,v8,v9]],?_,⟨_,_,aa⟩,?_⟩
  ·show List.Perm (_::_::_::mu) (_::_::(mu++[_]));exact ((JG _ mu).symm.cons _).cons _
  ·obtain ⟨run⟩:=nK (k:=k+1) (i:=1) (mu:=bk D es::jK I bs::mu) H rfl hv hlen;refine ⟨λ{z z z z z z z z} hA hf iD r hq q=>run hA hf iD r hq λ{z z z z} z' hx e1=>q z' hx ?_⟩;subst e1;exact ⟨_,((JG _ mu).cons _).cons _ |>.trans (((jh _ _ _).cons _).trans (jh _ _ _)),hX es ho _⟩
 ·intro es bs v4 v5 v6 v7 v8 v9 v p;exact ah (j:=3) he .loc f2 rfl
 ·intro es bs v3 v4 v5 v6 v7 v8 v9 v p Ψ h;exact aQ (i:=2) (j:=3) he .loc rfl h
 ·intro es bs v3 v5 v6 v7 v8 v9 v p;exact ah (j:=4) he .loc f2 rfl
 ·intro es bs v3 v4 v5 v6 v7 v8 v9 v p Ψ h;exact aQ (i:=2) (j:=4) he .loc rfl h
 ·intro es bs v3 v4 v6 v7 v8 v9 v p;exact ah (j:=5) he .loc f2 rfl
 ·intro es bs v3 v4 v5 v6 v7 v8 v9 v p Ψ h;exact aQ (i:=2) (j:=5) he .loc rfl h
 ·intro es bs v3 v4 v5 v7 v8 v9 v p;exact ah (j:=6) he .loc f2 rfl
 ·intro es bs v3 v4 v5 v6 v7 v8 v9 v p Ψ h;exact aQ (i:=2) (j:=6) he .loc rfl h
 ·intro es bs v3 v4 v5 v6 v8 v9 v p;exact ah (j:=7) he .loc f2 rfl
 ·intro es bs v3 v4 v5 v6 v7 v8 v9 v p Ψ h;exact aQ (i:=2) (j:=7) he .loc rfl h
 ·intro es bs v3 v4 v5 v6 v7 v9 v p;exact ah (j:=8) he .loc f2 rfl
 ·intro es bs v3 v4 v5 v6 v7 v8 v9 v p Ψ h;exact aQ (i:=2) (j:=8) he .loc rfl h
 ·intro es bs v3 v4 v5 v6 v7 v8 v p;exact ah (j:=9) he .loc f2 rfl
 ·intro es bs v3 v4 v5 v6 v7 v8 v9 v p Ψ h;exact aQ (i:=2) (j:=9) he .loc rfl h
 ·intro es bs v3 v4 v5 v6 v7 v8 v9 p;exact ah (j:=2) he .loc f2 rfl
 ·intro es bs v3 v4 v5 v6 v7 v8 v9;exact aa
 ·intro es bs y v3 v4 v5 v6 v7 v8 v9 Ψ hl h;exact kz (i:=0) rfl hl h
theorem RL(H:Hy G)(EH:gO G K){dx:ay}{gd:cn}{fs:List (bc×V)}{b:Array UInt8}(hm:tJ f dx gd fs∈mu)(hnd:(fs.map (·.1)).Nodup)(hq:(("co_exceptiontable":bc),V.bytes b)∈fs)
 (h:∀st pm cd doc L D Xp,dz (jL pm cd doc L)->vS (jL pm cd doc L)->zv k st pm cd doc L D (λes=>Φ (.list es) mu) Xp->RX (k+3) (st [] (b.toList.map pI) av av av av av av av) (jL pm cd doc L) Os Xp):JJ (k+4) mu (.ref 179) [.ref f] Φ:=by
 refine RA H H.f179 (names:=["code"]) (vals':=λL=>[ae (.ref f),av,av,av,av,av,av,av,av,av]) (λpm cd doc vs h=>uK h λa=>rfl) (by decide+kernel) rfl (λpm cd doc L=> .cons (j:=0) .loc rfl .nil) (λpm cd doc L he hk=>?_);refine nH (WF.f (b4 (nI (j3 H he H.b_iter rfl) (au (K7 wL (ah (j:=0) he .loc aa rfl) (ab _ hm) hnd hq (λn e=>by cases e)) aT) (Lc λI=>aQ (i:=1) (j:=1) he .loc rfl ?_)) rfl rfl));refine nH (WF.f (b4 (sy (xs:=[]) aT (by show 0<=2 ^ 20;decide) λD=>fK.ref (aQ (i:=2) (j:=2) he .loc rfl ?_)) rfl rfl));exact nH (DK (lay:=aM (L+1) (bj (cO 8)).names) (L:=L) (j:=2) H.B he hk H.b_stop rfl .loc (oQ (h _ pm cd doc L D _ he hk (tb_ok (f:=f) (I:=I) H he hk λes ho w=>⟨_,.ref D,aa,rfl,Li ho⟩))))
theorem Lk(H:Hy G)(EH:gO G K){dx:ay}{gd:cn}{fs:List (bc×V)}{b:Array UInt8}{qs:List (Nat×Nat×Nat×Nat)}(hm:tJ f dx gd fs∈mu)(hnd:(fs.map (·.1)).Nodup)(hq:(("co_exceptiontable":bc),V.bytes b)∈fs)(hE:DT (b.toList.map pI) qs)(hl:qs.length<=2 ^ 20)(hΦ:Φ (.list (qs.map DU)) mu):
 JJ (k+4) mu (.ref 179) [.ref f] Φ:=by
 refine RL H EH hm hnd hq λst pm cd doc L D Xp he hk T=>Lj (n:=qs.length) hk (λm es bs=>∃qs',qs'.length=m/\es++qs'.map DU=qs.map DU/\DT bs qs') ⟨qs,rfl,rfl,hE⟩ λT' n es bs v3 v4 v5 v6 v7 v8 v9 hI hT=>ef hI λqs' eT hes hEn=>?_;clear hI;subst eT;cases hEn with
 |stop hn hlen=>
  have ho:Φ (.list es) mu:=by rw [<- hes,u5,cz] at hΦ;exact hΦ
  refine .inl ?_;rcases FV hn hlen with h|⟨n1,b1,h1,m1,l1,h⟩
  ·exact oQ (nk (B4 (T.bad h hlen ho)) rfl rfl)
  refine qD (b4 (sC (T.num h1 m1 ⟨_,_,aU,sA (by decide),T.a3 ?_⟩)) rfl rfl);rcases h with h|⟨n2,b2,h2,m2,l2,h⟩
  ·exact oQ (nk (B4 (T.bad h l1 ho)) rfl rfl)
  refine qD (b4 (sC (T.num h2 m2 ⟨_,_,aU,sA (by decide),T.a4 ?_⟩)) rfl rfl);refine qD (bX (br T.p3 T.p4 fB) (T.a5 ?_) rfl rfl);rcases h with h|⟨n3,b3,h3,m3,l3,h⟩
  ·exact oQ (nk (B4 (T.bad h l2 ho)) rfl rfl)
  refine qD (b4 (sC (T.num h3 m3 ⟨_,_,aU,sA (by decide),T.a6 ?_⟩)) rfl rfl);exact oQ (nk (T.bad h l3 ho) rfl rfl)
 |@more _ q rs qs2 SV k1 k2 k3 k4 hrest=>
  refine .inr (lG (FU SV) λb1 b2 b3 h1 h2 h3 h4=>?_);refine aC (b4 (sC (T.num h1 k1 ⟨_,_,aU,sA (by decide),T.a3 ?_⟩)) rfl rfl);refine aC (b4 (sC (T.num h2 k2 ⟨_,_,aU,sA (by decide),T.a4 ?_⟩)) rfl rfl);refine aC (bX (br T.p3 T.p4 fB) (T.a5 ?_) rfl rfl);refine aC (b4 (sC (T.num h3 k3 ⟨_,_,aU,sA (by decide),T.a6 ?_⟩)) rfl rfl);refine aC (b4 (T.num h4 k4 (T.a7 ?_)) rfl rfl);refine aC (bX (br T.p7 aU (G8 (by decide))) (T.a8 ?_) rfl rfl);refine aC (bX (iZ (iO H he H.b_bool rfl) (au (br T.p7 aU qp) aT) H5) (T.a9 ?_) rfl rfl);refine ai (and1 ..) (aC (ig (IG T.p2 (j4 T.lm) (cB (BZ EH.KO EH.keep (ml H he H.m_entry rfl) (tx.war (ys:=[.int (q.1*2),.int (q.1*2+q.2.1*2),.int (q.2.2.1*2),.int (q.2.2.2 / 2 ^ (1:Int).toNat),.bool (decide (q.2.2.2 % 2=1))]) (au T.p3 (au T.p5 (au T.p6 (au T.p8 (au T.p9 aT))))) ((On (k:=k) H EH).mono λy nu e=>?_)))) (by exact fP) (by exact iU) (by exact b9) rfl)));refine ai (e.1 ..) ?_;refine ai (e.2 ..) ?_;refine e8 ⟨[bZ (DU q)],λZ vs hv=>?_,T.app ?_ (bB ⟨.inl rfl,hT _ _ _ _ _ _ _ _ _ _ (jf _) ⟨qs2,rfl,?_,hrest⟩⟩)⟩
  ·cases hv with
   |cons a b=>cases b;exact .cons a .nil
  ·have h5:=congrArg kL hes;simp only [ba,ak,bJ] at h5;lia
  ·refine ai (bU ..) ?_;exact hes
theorem Hl(H:Hy G)(EH:gO G K){dx:ay}{gd:cn}{fs:List (bc×V)}{b:Array UInt8}{qs:List (Nat×Nat×Nat×Nat)}(hm:tJ f dx gd fs∈mu)(hnd:(fs.map (·.1)).Nodup)(hq:(("co_exceptiontable":bc),V.bytes b)∈fs)(hE:DT (b.toList.map pI) qs)(hl:qs.length<=2 ^ 20):
 JJ (k+4) mu (.ref 179) [.ref f] λy nu=>y= .list (qs.map DU)/\nu=mu:=Lk H EH hm hnd hq hE hl ⟨rfl,rfl⟩
end
section
open Builtin
section
theorem tK:Slot "callable_iterator" "__next__" "callable_iterator.__next__":=
 .of (owner:="callable_iterator") (n:="__next__") (by (refine ai (fg ..) ?_;refine ai (dC ..) ?_);kernel_rfl) (by decide+kernel) (by decide+kernel) (by decide+kernel)
  (by first|exact .inl (by decide+kernel)|exact .inr (by decide+kernel)) (by refine ai (iS ..) ?_;kernel_rfl)
theorem yn:Slot "callable_iterator" "__iter__" "callable_iterator.__iter__":=
 .of (owner:="callable_iterator") (n:="__iter__") (by (refine ai (fg ..) ?_;refine ai (dC ..) ?_);kernel_rfl) (by decide+kernel) (by decide+kernel) (by decide+kernel)
  (by first|exact .inl (by decide+kernel)|exact .inr (by decide+kernel)) (by refine ai (iS ..) ?_;kernel_rfl)
theorem DV:xm table "callable_iterator.__next__"=ae Builtin.«callable_iterator.__next__»:=Nc (by kernel_rfl)
theorem DW:xm table "callable_iterator.__iter__"=ae Builtin.«dict_keyiterator.__iter__»:=CC (id':="dict_keyiterator.__iter__") (by kernel_rfl) rfl (by decide+kernel) (by kernel_rfl)
theorem FX(a:aj):ra "callable_iterator.__next__" ⟨[a],[]⟩:=by unfold ra;kernel_rfl
theorem FY(a:aj):ra "callable_iterator.__iter__" ⟨[a],[]⟩:=by unfold ra;kernel_rfl
noncomputable abbrev Ll(m:ay)(t:HO):oX:={cls:= .type "callable_iterator",data:= .fields #[.ref m,.str "" t,.bool aH]}
noncomputable def TL(I m f x:ay):cY where
 own:=[I,m]
 sat:=λZ h=>(∃t,h.get? I=ae (Ll m t))/\h.get? m=ae (Ff (.ref f) (.ref x))
 mono:=λz z z z a=>a
 loc:=λZ h h' w hk z z=>⟨w.1.imp λz a=>hk I aa _ a,hk m (ab _ aa) _ w.2⟩
 live:=λZ h w y hy=>(aP.mp hy).elim (λe=>w.1.elim λz a=>⟨_,e▸a⟩) λe=>⟨_,aA.mp e▸w.2⟩
variable {m f x:ay}
theorem vT{A:bo}{E:aj->aq->Prop}{s:aq}{fv:aj}{pos:List aj}{Q:aj->aq->Prop}{M:Cv}
 (hc:iV M A (.call fv ⟨pos,[]⟩) (λr s'=>match r with| .ok (.ret v)=>Q v s'| .ok _=>False| .error e=>E e s') s):aS M A (callBorrowed fv pos) Q E s:=λΓ p hΓ=>by
 unfold callBorrowed;show wpCode M (Γ.enter _ av p) _ p s;refine wpCode_mono (λr s' h=>?_) (hc _ p rfl (hΓ.enter _ av p (by intro x;exact gL x)));rcases r with e|(v|_|_|_) <;> first|exact h|exact h.elim
structure NX(k:Nat)(mu:Mu)(I:ay)(Φs:V->Mu->Prop)(Φn:Mu->Prop):Prop where
 c:∀{A:bo} {E:aj->aq->Prop} {Z:bI} {s:aq} {fr:Mu} {Q:Option aj->aq->Prop},Rm k A->R Z (mu++fr) s->(∀{v s' Z' x nu},Z.le Z'->aZ G Z' v x->R Z' (nu++fr) s'->Φs x nu->Q (ae v) s')->
  (∀{s' Z' nu},Z.le Z'->R Z' (nu++fr) s'->Φn nu->Q av s')->aS (aX G.prog G.w) A (lZ (.ref I)) Q E s
theorem yo{A:bo}{E:aj->aq->Prop}{s:aq}{ob:oX}{fd:cn}{Q:Bool->aq->Prop}{M:Cv}(hm:s.heap.get? m=ae (Ff (.ref f) (.ref x)))(hf:s.heap.get? f=ae ob)(hd:ob.data= .func fd)(h:Q aJ s):aS M A (borrowsExactly (.ref m)) Q E s:=by obtain ⟨hp,g,d,t,os⟩:=s;unfold borrowsExactly;refine ag (Th hm ?_);dsimp only;refine ai (if_pos (by decide) ..) (ag (Th hf ?_));exact ai (hd ..) (ar h)
def oS.S0(I m f x:ay):Prop:=∀{k:Nat} {mu:Mu} {i:Nat} {ob:oX} {fd:cn} {Φs:V->Mu->Prop} {Φn:Mu->Prop} (h0:G.Z0 f=ae ob) (hd:ob.data= .func fd) (hi:mu[i]? =ae (TL I m f x)) (hF:FC k mu (.ref f) [.ref x] λy nu=>∃c,y= .str c/\nu[i]? =ae (TL I m f x)/\(c≠""->Φs (.str c) nu)/\(c=""->Φn (nu.set i (pO)))),NX (k+1) mu I Φs Φn
namespace oS
@[irreducible] def e0:=GT cM cM cM cM S0
def I_:=e0.1
def m_:=e0.2.1
def f_:=e0.2.2.1
def x_:=e0.2.2.2
theorem T0:S0 I_ m_ f_ x_:=λ{k} {mu} {i} {ob} {fd} {Φs} {Φn} h0 hd hi hF=>⟨λ{A E Z s fr Q} hA r qs qn=>by
 have hi':=cH (fr:=fr) hi;refine dU (r.sat _ (ao hi')) λdP hm=>cK dP λt ho=>?_;clear dP;have hT:s.TypeIs (.ref I_) "callable_iterator":=⟨_,ho,rfl⟩;unfold lZ;refine ag (kS (dX (name:=Ai "__next__") hT tK
  (dq tK hT DV ?_ (FX _))))
 show aS _ _ (vq (.ref I_) 2 >>=_) _ _ s;refine ag (dS ho rfl (x:= .bool aH) rfl ?_);show aS _ _ (if (Tz aH == Tz aJ)=aJ then _ else _) _ _ s;refine ai (if_neg (by decide) ..) ?_;show aS _ _ (vq (.ref I_) 0 >>=_) _ _ s;refine ag (dS ho rfl (x:= .ref m_) rfl ?_);refine ag (kS ?_);unfold callOutOfASlot;refine ag (yo hm (r.z0in _ _ h0) hd ?_);refine ai (if_pos rfl ..) (vT (method_call hm (hF.c hA.in1 r (.cons (.ref x_) .nil) λ{w s1 Z' y nu} z' hy r' u=>?_)));refine Bt u λc e1 TZ hs hn=>?_;clear u;subst e1;refine cK (gV hy) λtk eT=>?_;subst eT;have hi2':=cH (fr:=fr) TZ;refine dU (r'.sat _ (ao hi2')) λgi hm2=>cK gi λt2 Nw=>?_;clear gi;show aS _ _ (vq (.ref I_) 2 >>=_) _ _ s1;refine ag (dS Nw rfl (x:= .bool aH) rfl ?_);show aS _ _ (if (Tz aH == Tz aJ)=aJ then _ else _) _ _ s1;refine ai (if_neg (by decide) ..) (ag (dS Nw rfl (x:= .str "" t2) rfl ?_));refine ag (bC (wpAny_eqBool_str ?_));by_cases hc:c=""
 ·subst hc;refine ai (show decide ((fQ "")=fQ "")=aJ from decide_eq_true rfl) (ai (if_neg (by decide) ..) ?_);refine ag (oa (ag ?_));show aS _ _ (vq (.ref I_) 0 >>=_) _ _ s1;refine ag (dS Nw rfl (x:= .ref m_) rfl ?_);refine ag ?_;unfold slotLetsGo;refine ag (yo hm2 (r'.z0in _ _ h0) hd ?_);refine ai (if_pos rfl ..) (ar ?_);refine ag (eH Nw rfl (by show 0 < 3;decide) ?_);have h1:=bS (Fe (·.setIfInBounds 0 (eG))) Nw rfl;refine ag (eH h1 rfl (by show 1 < 3;decide) ?_);have h2:=bS (Fe (·.setIfInBounds 1 (eG))) h1 rfl;refine eH h2 rfl (by show 2 < 3;decide) ?_;show aS _ _ (Tt (.type "StopIteration") [] >>=_) _ _ _;refine nG hA.hh ?_;refine ag (xr (T:="StopIteration") (b:=aJ) ⟨_,aW _ rfl,rfl⟩ TA ?_);refine ar (qn z' (gF TZ▸R.dead (s:=s1) (tk:=s1.toks) r' hi2' λb o hb e=>?_) (hn rfl));have hb':b≠I_:=λq=>hb (q▸aa);exact az _ (az _ ((iG _ _ (gf hb')).trans ((iG _ _ (gf hb')).trans ((iG _ _ (gf hb')).trans e))))
 ·(refine ai (show decide ((fQ "")=c)=aH from decide_eq_false λe=>hc e.symm) ?_;refine ai (if_pos (by decide) ..) ?_);exact ar ⟨_,rfl,ar (qs z' (.str _ _) r' (hs hc))⟩⟩
end oS
theorem oS:oS.S0 I m f x:=by with_unfolding_all exact vx _ _ _ _ oS.S0 @oS.T0 I m f x
end
section
theorem Ot:iR (.type "method") "__call__"=dh (ae (.builtin "method.__call__")):=by (refine ai (fg ..) ?_;refine ai (dC ..) ?_);kernel_rfl
theorem FZ(a b:aj):ra "iter" ⟨[a,b],[]⟩:=by unfold ra;kernel_rfl
variable {m f x:ay}
theorem Lm(KO:FM G K)(hp:sr K C f name=aJ)(ho:PE k mu env o (.ref x))(hm:gI x C dx fs∈mu)(hn:name∉fs.map (·.1))(h:∀q,Φ (.ref q) (mi q (Ff (.ref f) (.ref x))::mu))
 (he:autoParam (dW (.Attribute o name p) env=(do let ov <- dW o env;iF p.atName;let r <- eV [ov] (sY ov name aJ);pC o ov r;dh r)) aR):WE k mu env (.Attribute o name p) Φ:=⟨λ{A E Z s fr Q} hA r q=>by
 refine gZ ?_ he;refine ho.c hA r λ{ov s1 Z1} z1 q1 r1=>ai (aZ.refE q1 ..) (cD (xA r1 (aE fr hm)) λes n Ia z GC=>?_);unfold sr at hp;simp only [dR,beq_iff_eq,Cw] at hp;refine dU hp λiC p7=>?_;clear hp;refine dU iC λkF p6=>?_;clear iC;refine dU kF λl9 p5=>?_;clear kF;refine dU l9 λmD p4=>?_;clear l9;refine dU mD λqX p3=>?_;clear mD;refine dU qX λp1 p2=>?_;clear qX;have X:=KO.inn _ r1.z0in;exact get_bind X Ia (plainGet_of p1).1 (findObj_fn p2 p3 p5 p6 p7 (by show lookIn name (i3 es n)=_;(refine ai (QO ..) ?_;refine ai (GC.none hn ..) ?_;rfl))) (plainGet_of p1).2 (eF (fn_get (s:={s1 with toks:=s1.toks+1}) X (beq_iff_eq.mp p4) (handed_on rfl
  (q z1 (.ref _) (r1.addNew (tk:=s1.toks+1) _ (λb o e=>az _ e) (aW _ rfl) eg λz h=>kW h) (h s1.heap.objs.size)))))⟩
theorem Ln(h:∀I,Φ (.ref I) (TL I m f x::mu)):BO k (mi m (Ff (.ref f) (.ref x))::mu) (.builtin "iter") [bZ (.ref m),bZ (.str "")] Φ:=⟨λ{A E Z s fr vs Q} hA r hq q=>by
 refine cD (hq.two) λv u ub q1 q2=>?_;subst ub;refine ai (aZ.refE q1 ..) (cK (gV q2) λtk mO=>?_);subst mO;have hm:s.heap.get? m=ae (Ff (.ref f) (.ref x)):=r.sat _ aa;refine gw (by decide+kernel) (by decide+kernel) kdk_entry_iter (FZ _ _) ?_;unfold Builtin.«iter»;refine ag (m:=CF "iter" 1 2 _) (cN (a:=[cZ m,Value.str "" tk]) (by first|rfl|kernel_rfl!) ?_);have t1:iM (aX G.prog G.w) s.heap (mz (.ref m) "__call__") (ae (.builtin "method.__call__")):=((sq hm).andThen .now).andThen (fe Ot);refine ag (t1.here ?_);show aS _ _ (rule _ >>=_) _ _ s;refine ag (oa (ag (jg ?_ (by size_fits))));refine ar ⟨_,rfl,q .rfl (.ref _) (R.swap (tk:=s.toks) (mu:=mi m (Ff (.ref f) (.ref x))::(mu++fr)) (i:=0) r rfl (TL s.heap.objs.size m f x) (λz z z e=>az _ e) ⟨⟨tk,aW _ rfl⟩,az _ hm⟩ ?_ ?_) (h s.heap.objs.size)⟩
 ·exact cj.mpr ⟨λh=>jI (bM hm) (aA.mp h),eg⟩
 ·exact λb hb=>(aP.mp hb).elim (λe=> .inr (lh e.symm)) .inl⟩
theorem II{A:bo}{E:aj->aq->Prop}{s:aq}{t:HO}{Q:aj->aq->Prop}(ho:s.heap.get? I=ae (Ll m t))(h:Q (.ref I) s):aS (aX G.prog G.w) A (q7 (.ref I)) Q E s:=by have hT:s.TypeIs (.ref I) "callable_iterator":=⟨_,ho,rfl⟩;refine vo hT yn (dq yn hT DW ?_ (FY _));show aS _ _ (vf (.ref I)) _ _ s;exact ar ⟨_,rfl,"callable_iterator",_,hT,tK.lookup,h⟩
theorem Ou{zi tp:lF}{t:bc}{body orelse:List ed}(he:PE k mu env e (.ref I))(hi:TL I m f x∈mu)(Inv:Nat->Mu->Prop)(n:Nat)(h0:Inv n mu)
 (turn:∀n nu,Inv n nu->NX k nu I (λx rp=>mI k rp env (.Name t tp) x λua=>WS k ua env body (kU (λTS=>∃m,m < n/\Inv m TS) Θ)) (λrp=>WS k rp env orelse Θ))
 (hf:autoParam (∀x,bw e env x=dh x) aR):WX k mu env (.For (.Name t tp) e body orelse zi) Θ:=⟨λ{A E Z s fr Q} hA r q=>by
 with_reducible refine wpAny_For ?_ hf
 refine he.c hA r λ{x s1 Z1} z1 q1 r1=>ai (aZ.refE q1 ..) (dU (r1.sat _ (aE fr hi)) λsj z=>?_);refine cK sj λtk ho=>?_;clear sj;refine II ho (BD (WhI Z Inv fr) (λn s' h=>⟨λ{z z} hn hs=>?_⟩) n ⟨Z1,mu,z1,r1,h0⟩);refine cD (h.ex) λZ' nu z' r' inv=>(turn n nu inv).c hA r' (λ{v s3 Z3 y TS} z3 hv r3 w3=>hs (Ft (t:= .Name t tp) (w3.c hA r3 hv λ{s5 Z5 nu5} z5 r5 w5=>w5.c hA r5 λ{f s6 Z6 a nu6} z6 f6 r6 w6=>?_))) λ{s3 Z3 TS} z3 r3 w3=>hn (w3.c hA r3 λ{z z z z z} z4=>q (z'.trans (z3.trans z4)));have zz:=z'.trans (z3.trans (z5.trans z6));exact oK.of (fr:=fr) f6 w6 (λ⟨m',w7,w8⟩=>⟨m',w7,⟨Z6,nu6,zz,r6,w8⟩⟩) λ{z z} hg=>q zz hg r6⟩
end
end
noncomputable def xB(c:Nat):Bool:=decide (c∈[10,9,13,32])
noncomputable def sV:List Nat->List Nat->Option (List Nat×List Nat)
 |_,[]=>av
 |acc,c::cs=>if xB c then ae (acc,cs) else if c=92 then (match cs with|[]=>av|d::ds=>sV (acc++[d]) ds) else sV (acc++[c]) cs
noncomputable def uR:List Nat->List Nat->Option (List Nat×List Nat)
 |_,[]=>av
 |acc,c::cs=>if c=34 then ae (acc,cs) else if c=92 then (match cs with|[]=>av|d::ds=>uR (acc++[d]) ds) else uR (acc++[c]) cs
noncomputable def yp:List Nat->Option (List Nat×List Nat)
 |[]=>av
 |c::cs=>if xB c then yp cs else if c=34 then uR [] cs else sV [] (c::cs)
theorem IJ{f:bc}{id:String}(hf:PE k mu env (.Name f p) (.bi id))(ha:Dm k mu env (e::es) λys nu=>∃Ps,(∀Z vs,bW G Z vs ys->j0 Z vs Ps)/\BO k nu (.builtin id) Ps Φ)(hs:autoParam (kg (e::es)=aJ) aR):WE k mu env (.Call (.Name f p) (e::es) [] pos) Φ:=⟨λ{A E Z s fr Q} hA r q=>by
 with_reducible refine gC ?_
 refine hf.c hA r λ{f s1 Z1} z1 q1 r1=>ai (aZ.biE q1 ..) ?_;exact EO (ha.c hA r1 λz2 q2 r2 ⟨Ps,hc,hF⟩=>hF.c hA r2 (hc _ _ q2) λ{z z z z z} z3=>q (z1.trans (z2.trans z3))) (et (jt hs).1) (kX (jt hs).2 pos)⟩
theorem FC.up{f:aj}{a:cY}(h:FC k mu f xs λy nu=>Φ y (a::nu)):FC k (a::mu) f xs Φ:=⟨λ{x x x x x x x} hA r hv q=>h.c hA (r.perm cv.symm) hv λ{x x x x x} z v r w=>q z v (r.perm cv) w⟩
structure ib where
 (lx dx pb f fdx it L lam a b:ay)
 gd:cn
 ld:cn
 text:bc
theorem IK:Nonempty ib:=⟨⟨rb,rb,rb,rb,rb,rb,rb,rb,rb,rb,rb,rb,rb⟩⟩
noncomputable abbrev E5(c:Nat):V:= .str ⟨#[c]⟩
noncomputable def itO(it:ay):Option (List Nat)->cY
 |some cs=>mT it (cs.map E5)
 |none=>pO
noncomputable def yq(P:ib)(q:List V)(n:Int)(cs:Option (List Nat)):Mu:=
 [bk P.pb q,gI P.lx 217 P.dx (tg n (.ref P.f) P.pb),mi P.lam (eh P.ld av),tJ P.f P.fdx P.gd [("read",.ref P.lam),("co_exceptiontable",.bytes (JE (th P.text)))],itO P.it cs,AN P.L P.text P.f P.it,gH 272 (zQ (ae (P.a,P.b)))]
structure mU(P:ib):Prop where
 read:FS P.lam P.it P.L P.f P.text P.ld P.a P.b
noncomputable abbrev j5(P:ib)(q:List V)(N:Int)(cs:List Nat):Mu:=yq P q (N - (cs.count 10:Nat)) (ae cs)
theorem nL(n:Int)(fp:V)(pb:ay):((tg n fp pb).map (·.1)).Nodup:=by show (["lineno","instream","whitespace","pushback"]:List bc).Nodup;decide
theorem AO(H:Hy G)(LH:fL G K){P:ib}{q:List V}{n:Int}{cs cs':Option (List Nat)}{c:bc}(hr:∀{Φ},Φ (.str c) (yq P q n cs')->FW (k+2) (yq P q n cs) (.ref P.lam) [.int 1] Φ)(hΦ:Φ (.str c) (yq P q (if c == "\n" then n+1 else n) cs')):
 FC (k+3) (yq P q n cs) (.ref 200) [.ref P.lx] Φ:=by
 refine KJ H LH.f200 (names:=["self"]) (vals':=λL=>[ae (.ref P.lx),av]) (λpm cd doc vs h=>?_) (by decide+kernel) rfl (λpm cd doc L=>?_) (λpm cd doc L he=>?_)
 ·exact uK h λa=>rfl
 ·exact .cons (j:=0) .loc rfl .nil
 have m2:∀{a b c:cY} {l:Mu},c∈a::b::c::l:=ab _ (ab _ aa);have m4:∀{a b c d e:cY} {l:Mu},e∈a::b::c::d::e::l:=ab _ (ab _ m2);refine aC (b4 (K8 (name:="read") qE (oP LH.KO LH.p_in (ah (j:=0) he .loc aa rfl) m2 (nL ..) (y:= .ref P.f) (.tail _ (.head _)) (λn e=>by cases e)) m4 (by show (["read","co_exceptiontable"]:List bc).Nodup;decide) (lam:=P.lam) (.head _) (tx.war (ys:=[.int 1]) (au aU aT) ⟨Kn.obj (o:=eh P.ld av) (.tail _ (.tail _ (.tail _ (.head _)))),rfl,FW.up (hr ?_)⟩)) rfl rfl);refine aQ (i:=0) (j:=1) he .loc rfl (aC (iY (da (ah (j:=1) he .loc aa rfl) cP rz) (λh=>?_) λh=>?_))
 ·refine aC (Oe LH.KO LH.p_line LH.s_line (ah (j:=0) he .loc aa rfl) (i:=2) rfl (nL ..) (y:= .int n) (.head _) (λn e=>by cases e) (by show 4<=500;decide) aU FF ?_);refine bB (aC (gy (cg (ah (j:=1) he .loc aa rfl) (kh ?_))));rw [h] at hΦ;exact hΦ
 ·refine bB (aC (gy (cg (ah (j:=1) he .loc aa rfl) (kh ?_))));rw [h] at hΦ;exact hΦ
theorem Lo(H:Hy G)(LH:fL G K){P:ib}(PO:mU P){q:List V}{N:Int}{c:Nat}{cs:List Nat}(hΦ:Φ (E5 c) (j5 P q N cs)):FC (k+3) (j5 P q N (c::cs)) (.ref 200) [.ref P.lx] Φ:=by
 have h1:=(PO.read k (j5 P q N (c::cs)) 4 (.tail _ (.tail _ (.tail _ (.tail _ (.tail _ (.head _)))))) (.tail _ (.tail _ (.head _))) (.tail _ (.tail _ (.tail _ (.tail _ (.tail _ (.tail _ (.head _)))))))).1 c (cs.map E5) rfl;refine AO (cs':=ae cs) (c:=⟨#[c]⟩) H LH (λ{z} h=>h1.mono λy nu e=>by (refine ai (e.1 ..) ?_;refine ai (e.2 ..) ?_);exact h) ?_;have:(if (⟨#[c]⟩:bc) == "\n" then N - ((c::cs).count 10:Nat)+1 else N - ((c::cs).count 10:Nat))=N - (cs.count 10:Nat):=by
  by_cases hc:c=10
  ·subst hc;refine ai (if_pos (by decide) ..) ?_;refine ai (List.count_cons_self ..) ?_;lia
  ·have:¬((⟨#[c]⟩:bc) == "\n")=aJ:=by
    intro h;have h2:(⟨#[c]⟩:bc)="\n":=by simpa using h
    have h3:(⟨#[c]⟩:bc).cps.toList=[10]:=by refine ai (h2 ..) ?_;rfl
    exact hc (by simpa using h3)
   refine ai (if_neg this ..) ?_;refine ai (List.count_cons_of_ne (by exact hc) ..) ?_;rfl
 exact ai (this ..) (hΦ)
theorem Ov(H:Hy G)(LH:fL G K){P:ib}(PO:mU P){q:List V}{N:Int}(hΦ:Φ (.str "") (yq P q N av)):FC (k+3) (j5 P q N []) (.ref 200) [.ref P.lx] Φ:=by have h1:=(PO.read k (j5 P q N []) 4 (.tail _ (.tail _ (.tail _ (.tail _ (.tail _ (.head _)))))) (.tail _ (.tail _ (.head _))) (.tail _ (.tail _ (.tail _ (.tail _ (.tail _ (.tail _ (.head _)))))))).2 rfl;refine AO (cs':=av) (c:="") H LH (λ{z} h=>h1.mono λy nu e=>by (refine ai (e.1 ..) ?_;refine ai (e.2 ..) ?_);exact h) ?_;refine ai (if_neg (by decide) ..) ?_;refine ai (show N - (Aj 10 ([]:List Nat):Int)=N from Int.sub_zero N) ?_;exact hΦ
noncomputable abbrev gtFr(L lx:ay)(tok fit ch:Option V):cY:=bq L (aM (L+1) (bj (jl 10 2)).names) [ae (.ref lx),tok,fit,ch]
noncomputable abbrev IL(acc:List Nat):V:= .str ⟨acc.toArray⟩
theorem Ow(acc:List Nat)(c:Nat):(⟨acc.toArray⟩:bc)++(⟨#[c]⟩:bc)=⟨(acc++[c]).toArray⟩:=by show (⟨acc.toArray++#[c]⟩:bc)=_;simp
theorem RM(c:Nat):(!(c7 ("\n\t\r ":bc) ⟨#[c]⟩ 0 ("\n\t\r ":bc).length 1).isEmpty)=xB c:=by refine ai (PySem.StrLaws.found_one ..) ?_;rfl
theorem eq_ch(c d:Nat):((⟨#[c]⟩:bc) == (⟨#[d]⟩:bc))=decide (c=d):=by
 by_cases h:c=d
 ·subst h;simp
 ·refine ai (decide_eq_false h ..) ?_;apply beq_eq_false_iff_ne.mpr;intro e;have h3:(⟨#[c]⟩:bc).cps.toList=(⟨#[d]⟩:bc).cps.toList:=by (refine ai (e ..) ?_;rfl)
  exact h (by simpa using h3)
noncomputable abbrev DX(P:ib)(N:Int)(L I m:ay)(acc:List Nat)(ch:Option V)(cs:List Nat):Mu:=TL I m 200 P.lx::gtFr L P.lx (ae (IL acc)) (ae (.ref I)) ch::j5 P [] N cs
noncomputable abbrev kC(pm cd doc:aj)(L:ay):iE:=dT (Ao (jl 10 2) "_netrclex.get_token" pm cd doc) 207 L
theorem m1{a b:cY}{l:Mu}:b∈a::b::l:=ab _ aa
theorem ch_ne(c:Nat):(⟨#[c]⟩:bc)≠"":=λe=>by
 have h3:(⟨#[c]⟩:bc).cps.toList=[]:=by refine ai (e ..) ?_;rfl
 simp at h3
theorem Ox(H:Hy G)(LH:fL G K){P:ib}(PO:mU P){N:Int}{L I m:ay}{acc:List Nat}{ch:Option V}{c:Nat}{cs:List Nat}{Φs:V->Mu->Prop}{Φn:Mu->Prop}(h:Φs (E5 c) (DX P N L I m acc ch cs)):NX (k+4) (DX P N L I m acc ch (c::cs)) I Φs Φn:=by exact cu (LH.f200.go) λob pm cd doc h0 hd z=>oS (i:=0) h0 hd rfl (FC.up (FC.up (Lo (k:=k) (q:=[]) (N:=N) (c:=c) (cs:=cs) H LH PO ⟨_,rfl,rfl,λz=>h,λe=>absurd e (ch_ne c)⟩)))
theorem Oy(H:Hy G)(LH:fL G K){P:ib}(PO:mU P){N:Int}{L I m:ay}{acc:List Nat}{ch:Option V}{c:Nat}{cs:List Nat}(h:Φ (E5 c) (DX P N L I m acc ch cs)):
 FW (k+4) (DX P N L I m acc ch (c::cs)) (.ref 200) [.ref P.lx] Φ:=by
 exact FW.le (FC.fw (FC.up (FC.up (Lo (k:=k) (q:=[]) (N:=N) (c:=c) (cs:=cs) H LH PO h)))) (jC _)
theorem io_tk{acc:List Nat}{c:Nat}(h:acc.length<=2 ^ 22):Nn k mu .Add (bZ (IL acc)) (bZ (E5 c)) (bZ (IL (acc++[c]))):=by have:=Ro (k:=k) (mu:=mu) (a:=⟨acc.toArray⟩) (b:=⟨#[c]⟩) (by show acc.toArray.size+1<=2 ^ 24;simp;exact aw (by assumption) (by decide));rw [Ow] at this;exact this
structure yr(K:gn):Prop where
 b_read:sr K 217 200 "_read_char"=aJ
noncomputable abbrev gtS0(P:ib)(N:Int)(L I:ay)(acc:List Nat)(ch:Option V):Mu:=pO::gtFr L P.lx (ae (IL acc)) (ae (.ref I)) ch::yq P [] N av
def Lp(k:Nat)(P:ib)(N:Int)(st:List Nat->Option V->List Nat->Mu)(s0:List Nat->Option V->Mu)(pm cd doc:aj)(L:ay)(Φ:V->Mu->Prop):Prop:=
 (∀{acc c d cs p p2 p3 s kk},s=⟨#[d]⟩->PT (k+4) (st acc (ae (E5 c)) cs) (kC pm cd doc L) (.Compare (.Name "ch" p) [.Eq] [.Constant (.str s) kk p2] p3) (decide (c=d)))/\
 (∀{acc c cs p p2 p3 p4},PT (k+4) (st acc (ae (E5 c)) cs) (kC pm cd doc L) (.Compare (.Name "ch" p) [.In] [.Attribute (.Name "self" p2) "whitespace" p3] p4) (xB c))/\
 (∀{acc c cs p p2 p3 Ψ},acc.length<=2 ^ 22->Ψ .next (st (acc++[c]) (ae (E5 c)) cs)->WX (k+4) (st acc (ae (E5 c)) cs) (kC pm cd doc L) (.AugAssign (.Name "token" p) .Add (.Name "ch" p2) p3) Ψ)/\
 (∀{acc ch c cs p p2 p3 p4 p5 pl Ψ},dW (.Call (.Attribute (.Name "self" p2) "_read_char" p3) [] [] p4) (kC pm cd doc L)=(do let ov <- dW (.Name "self" p2) (kC pm cd doc L);iF p3.atName;let (f,first) <- eV [ov] (mA ov "_read_char" pl);pB p4 f first (lb p4 (fl [] (kC pm cd doc L))) [])->Ψ .next (st acc (ae (E5 c)) cs)->WX (k+4) (st acc ch (c::cs)) (kC pm cd doc L) (.Assign [.Name "ch" p] (.Call (.Attribute (.Name "self" p2) "_read_char" p3) [] [] p4) p5) Ψ)/\
 (∀{acc ch cs p p2 p3 body orelse Ψ} (I:List Nat->List Nat->Prop),I acc cs->(∀a b,I a []->WS (k+4) (s0 a b) (kC pm cd doc L) orelse Ψ)->
  (∀J a c cs,I a (c::cs)->(∀a' b cs',cs'.length<=cs.length->I a' cs'->J (st a' b cs'))->WS (k+4) (st a (ae (E5 c)) cs) (kC pm cd doc L) body (kU J Ψ))->
  WX (k+4) (st acc ch cs) (kC pm cd doc L) (.For (.Name "ch" p) (.Name "fiter" p2) body orelse p3) Ψ)/\
 (∀{acc ch cs p p2 Ψ},Φ (IL acc) (j5 P [] N cs)->(jJ (IL acc) (st acc ch cs) Φ->Ψ (.ret (IL acc)) (st acc ch cs))->WX (k+4) (st acc ch cs) (kC pm cd doc L) (.Return (ae (.Name "token" p)) p2) Ψ)/\
 ∀{acc ch p p2 Ψ},Φ (IL acc) (yq P [] N av)->(jJ (IL acc) (s0 acc ch) Φ->Ψ (.ret (IL acc)) (s0 acc ch))->WX (k+4) (s0 acc ch) (kC pm cd doc L) (.Return (ae (.Name "token" p)) p2) Ψ
section
variable {P:ib}{N:Int}{st:List Nat->Option V->List Nat->Mu}{s0:List Nat->Option V->Mu}(h:Lp k P N st s0 pm cd doc L Φ)
def Lp.eq:=@h.1
def Lp.ws:=@h.2.1
def Lp.aug:=@h.2.2.1
def Lp.rd:=@h.2.2.2.1
def Lp.loop:=@h.2.2.2.2.1
def Lp.ret:=@h.2.2.2.2.2.1
def Lp.ret0:=@h.2.2.2.2.2.2
end
def yt.S0(k:Nat)(P:ib)(N:Int)(L I q:ay)(pm cd doc:aj)(_:Nat):Prop:=∀{Φ:V->Mu->Prop} {K:gn} (H:Hy G) (LH:fL G K) (PO:mU P) (he:dz (kC pm cd doc L)),Lp k P N (DX P N L I q) (gtS0 P N L I) pm cd doc L Φ
namespace yt
@[irreducible] def e0:=zF eO IK QW cM cM cM gM gM gM eO S0
def k_:=e0.1
def P_:=e0.2.1
def N_:=e0.2.2.1
def L_:=e0.2.2.2.1
def I_:=e0.2.2.2.2.1
def q_:=e0.2.2.2.2.2.1
def pf:=e0.2.2.2.2.2.2.1
def cd_:=e0.2.2.2.2.2.2.2.1
def g8:=e0.2.2.2.2.2.2.2.2.1
theorem T0:S0 k_ P_ N_ L_ I_ q_ pf cd_ g8 e0.2.2.2.2.2.2.2.2.2:=by
 intro Φ K H LH PO he;obtain ⟨ob,_,_,_,h0,hd,_⟩:=LH.f200.go;have m3:∀{a b c d:cY} {l:Mu},d∈a::b::c::d::l:=ao (i:=3) rfl;have p0:∀{acc:List Nat} {ch:Option V} {cs:List Nat} {p:lF},PE (k_+4) (DX P_ N_ L_ I_ q_ acc ch cs) (kC pf cd_ g8 L_) (.Name "self" p) (.ref P_.lx):=ah (j:=0) he .loc m1 rfl;have p3:∀{acc:List Nat} {c:Nat} {cs:List Nat} {p:lF},PE (k_+4) (DX P_ N_ L_ I_ q_ acc (ae (E5 c)) cs) (kC pf cd_ g8 L_) (.Name "ch" p) (E5 c):=ah (j:=3) he .loc m1 rfl;have nr:∀n,("_read_char":bc)∉(tg n (.ref P_.f) P_.pb).map (·.1):=λn=>by show ("_read_char":bc)∉(["lineno","instream","whitespace","pushback"]:List bc);decide
 refine ⟨?_,?_,?_,?_,?_,?_,?_⟩
 ·intro acc c d cs p p2 p3' s kk e;subst e;exact oR (da p3 cP rz) (eq_ch c d)
 ·intro acc c cs p p2 p3' p4;exact oR (da p3 (oP LH.KO LH.p_ws p0 m3 (nL ..) (y:= .str "\n\t\r ") (.tail _ (.tail _ (.head _))) (λn e=>by cases e)) C0) (RM c)
 ·intro acc c cs p p2 p3' Ψ h w;exact rM (i:=1) (j:=1) he .loc rfl rfl p3 (io_tk h) w
 ·intro acc ch c cs p p2 p3' p4 p5 pl Ψ ev w;exact b4 (pN LH.KO LH.m_read p0 m3 (nr _) h0 hd (Oy H LH PO (aQ (i:=1) (j:=3) he .loc rfl w)) ev) rfl rfl
 ·intro acc ch cs p p2 p3' body orelse Ψ I' h hn ht;refine Ou (ah (j:=2) he .loc m1 rfl) aa (λn nu=>∃a b cs,cs.length=n/\I' a cs/\nu=DX P_ N_ L_ I_ q_ a b cs) cs.length ⟨acc,ch,cs,rfl,h,rfl⟩ λn nu hI=>?_;obtain ⟨a,b,cs,rfl,hI,rfl⟩:=hI;cases cs with
  |nil=>exact oS (i:=0) h0 hd rfl (FC.up (FC.up (Ov (k:=k_) (q:=[]) (N:=N_) H LH PO ⟨_,rfl,rfl,λh=>absurd rfl h,λz=>hn a b hI⟩)))
  |cons c cs=>exact Ox H LH PO (aQ (i:=1) (j:=3) he .loc rfl (ht _ a c cs hI λa' b cs' hl hI=>⟨cs'.length,Nat.lt_succ_of_le hl,a',b,cs',rfl,hI,rfl⟩))
 ·intro acc ch cs p p2 Ψ h o;exact gy (cg (ah (j:=1) he .loc m1 rfl) (o (jJ.tail (jJ.tail (jJ.keep h)))))
 ·intro acc ch p p2 Ψ h o;exact gy (cg (ah (j:=1) he .loc m1 rfl) (o (jJ.tail (jJ.tail (jJ.keep h)))))
end yt
theorem yt{P:ib}{N:Int}{L I q:ay}{pm cd doc:aj}:yt.S0 k P N L I q pm cd doc 0:=by with_unfolding_all exact uA _ _ _ _ _ _ _ _ _ _ yt.S0 @yt.T0 k P N L I q pm cd doc 0
theorem Lq(H:Hy G)(LH:fL G K)(BH:yr K){P:ib}(PO:mU P){N:Int}{cs:List Nat}(h:∀st s0 pm cd doc L,Lp k P N st s0 pm cd doc L Φ->WS (k+4) (st [] av cs) (kC pm cd doc L) ((fR (jl 10 2)).drop 3) (lD Φ)):
 FW (k+5) (j5 P [] N cs) (.ref 207) [.ref P.lx] Φ:=by
 refine DD H LH.f207 (names:=["self"]) (vals':=λL=>[ae (.ref P.lx),av,av,av]) (λpm cd doc vs h=>uK h λa=>rfl) (by decide+kernel) rfl (λpm cd doc L=> .cons (j:=0) .loc rfl .nil) (λpm cd doc L he=>?_);have m2:∀{a b c:cY} {l:Mu},c∈a::b::c::l:=ao (i:=2) rfl;have nr:∀n,("_read_char":bc)∉(tg n (.ref P.f) P.pb).map (·.1):=λn=>by show ("_read_char":bc)∉(["lineno","instream","whitespace","pushback"]:List bc);decide
 refine aC (iY (kT (uB (oP LH.KO LH.p_push (ah (j:=0) he .loc aa rfl) m2 (nL ..) (y:= .ref P.pb) (.tail _ (.tail _ (.tail _ (.head _)))) (λn e=>by cases e)) m1) (GV (by show 0 < 2 ^ 60;decide))) (λh=>(vy h)) λz=>?_);refine bB (aC (bX cP (aQ (i:=0) (j:=1) he .loc rfl ?_) rfl rfl));refine aC (b4 (IJ (j3 H he H.b_iter rfl) (cB (Lm LH.KO BH.b_read (ah (j:=0) he .loc aa rfl) m2 (nr _) λq=>cB (cg cP (e8 ⟨[bZ (.ref q),bZ (.str "")],λZ vs hv=>?_,Ln λI=>aQ (i:=1) (j:=2) he .loc rfl (h _ _ pm cd doc L (yt H LH PO he))⟩))))) rfl rfl);cases hv with
 |cons a r=>cases r with
  |cons b r=>cases r;exact .cons a (.cons b .nil)
theorem Qn{a cs:List Nat}{c:Nat}(h:a.length+(c::cs).length<=2 ^ 20):a.length<=2 ^ 22:=aw (dE _ _) (aw h (by decide))
theorem Lr{a cs ds:List Nat}{c d:Nat}(h:a.length+(c::cs).length<=2 ^ 20)(hl:ds.length<=cs.length):(a++[d]).length+ds.length<=2 ^ 20:=by refine ai (ba ..) ?_;refine ai (l0 ..) ?_;refine ai (Nat.add_comm [d].length ..) ?_;exact aw (qj (EW hl) _) h
theorem F0{P:ib}{N:Int}{st:List Nat->Option V->List Nat->Mu}{s0:List Nat->Option V->Mu}{pm cd doc:aj}{L:ay}{tk:List Nat->List Nat->Option (List Nat×List Nat)}{r:List Nat×List Nat}{a cs:List Nat}{c:Nat}{s:bc}{kk:Nat}{p1 p2 p3 p4 p5 p6 p7 p8 p9:lF}{pl:oY Bool}
 (T:Lp k P N st s0 pm cd doc L Φ) (ht:(if c=92 then (match cs with|[]=>av|d::ds=>tk (a++[d]) ds) else tk (a++[c]) cs)=ae r) (h:∀d ds,ds.length<=cs.length->tk (a++[d]) ds=ae r->Θ .next (st a (ae (E5 d)) ds)) (hs:autoParam (s=⟨#[92]⟩) aR) (he:autoParam (dW (.Call (.Attribute (.Name "self" p5) "_read_char" p6) [] [] p7) (kC pm cd doc L)=(do let ov <- dW (.Name "self" p5) (kC pm cd doc L);iF p6.atName;let (f,first) <- eV [ov] (mA ov "_read_char" pl);pB p7 f first (lb p7 (fl [] (kC pm cd doc L))) [])) aR):
 WX (k+4) (st a (ae (E5 c)) cs) (kC pm cd doc L) (.If (.Compare (.Name "ch" p1) [.Eq] [.Constant (.str s) kk p2] p3) [.Assign [.Name "ch" p4] (.Call (.Attribute (.Name "self" p5) "_read_char" p6) [] [] p7) p8] [] p9) Θ:=by
 refine iY (T.eq hs) (λe=>?_) λe=>?_
 ·rw [if_pos (of_decide_eq_true e)] at ht;cases cs with
  |nil=>exact gL ht
  |cons d ds=>exact aC (T.rd he (bB (h d ds (jC _) ht)))
 ·rw [if_neg (of_decide_eq_false e)] at ht;exact bB (h c cs (bp _) ht)
def nM.S0(k:Nat)(Φ:V->Mu->Prop)(w rest:List Nat):Prop:=∀{K:gn} {P:ib} {N:Int} {cs:List Nat} (H:Hy G) (LH:fL G K) (BH:yr K) (PO:mU P) (ht:yp cs=ae (w,rest)) (hB:cs.length<=2 ^ 20) (hΦ:Φ (IL w) (j5 P [] N rest)),FW (k+5) (j5 P [] N cs) (.ref 207) [.ref P.lx] Φ
namespace nM
@[irreducible] def e0:=GT eO sZ gE gE S0
def k_:=e0.1
def Φ_:=e0.2.1
def w_:=e0.2.2.1
def Hn:=e0.2.2.2
theorem T0:S0 k_ Φ_ w_ Hn:=by
 intro K P N cs H LH BH PO ht hB hΦ;refine Lq H LH BH PO λst s0 pm cd doc L T=>aC (T.loop (λa cs=>a=[]/\cs.length<=2 ^ 20/\yp cs=ae (w_,Hn)) ⟨rfl,hB,ht⟩ (λa b h=>by exact gL h.2.2) λJ a c cs hI hJ=>?_);refine GS hI λgi hB ht=>?_;clear hI;subst gi;unfold yp at ht;refine aC (iY T.ws (λh=>?_) λh=>?_)
 ·rw [if_pos h] at ht;exact aC (GW (hJ _ _ _ (bp _) ⟨rfl,ni hB,ht⟩))
 rw [if_neg (by refine ai (h ..) ?_;decide)] at ht;refine bB (aC (iY (T.eq (d:=34) rfl) (λh2=>?_) λh2=>?_))
 ·rw [if_pos (of_decide_eq_true h2)] at ht;refine aC (T.loop (λa cs=>a.length+cs.length<=2 ^ 20/\uR a cs=ae (w_,Hn)) ⟨aw (lh (eC _)) (ni hB),ht⟩ (λa b h=>by exact gL h.2) λJ a c cs hI hJ=>?_);refine dU hI λhB ht=>?_;clear hI;unfold uR at ht;refine aC (iY (T.eq (d:=34) rfl) (λh3=>?_) λh3=>?_)
  ·rw [if_pos (of_decide_eq_true h3)] at ht;cases ht;exact aC (T.ret hΦ λh=>h)
  ·rw [if_neg (of_decide_eq_false h3)] at ht;exact aC (F0 T ht λd ds hl ht=>bB (aC (T.aug (Qn hB) (bB (hJ _ _ _ hl ⟨Lr hB hl,ht⟩)))))
 ·rw [if_neg (of_decide_eq_false h2)] at ht;unfold sV at ht;rw [if_neg (by refine ai (h ..) ?_;decide)] at ht;refine aC (F0 (a:=[]) T ht λd ds hl ht=>aC (T.aug (by decide) (aC (T.loop (λa cs=>a.length+cs.length<=2 ^ 20/\sV a cs=ae (w_,Hn)) ⟨Lr (a:=[]) (c:=c) (cs:=cs) (aw (lh (eC _)) hB) hl,ht⟩ (λa b h=>by exact gL h.2) λJ a c cs hI hJ=>?_))));refine dU hI λhB ht=>?_;clear hI;unfold sV at ht;refine aC (iY T.ws (λh3=>?_) λh3=>?_)
  ·rw [if_pos h3] at ht;cases ht;exact aC (T.ret hΦ λh=>h)
  ·rw [if_neg (by refine ai (h3 ..) ?_;decide)] at ht;exact aC (F0 T ht λd ds hl ht=>bB (aC (T.aug (Qn hB) (bB (hJ _ _ _ hl ⟨Lr hB hl,ht⟩)))))
end nM
theorem nM{w rest:List Nat}:nM.S0 k Φ w rest:=by with_unfolding_all exact vx _ _ _ _ nM.S0 @nM.T0 k Φ w rest
theorem xC(H:Hy G)(LH:fL G K)(BH:yr K){P:ib}(PO:mU P){N:Int}{w rest cs:List Nat}(ht:yp cs=ae (w,rest))(hB:cs.length<=2 ^ 20):
 FW (k+5) (j5 P [] N cs) (.ref 207) [.ref P.lx] λy nu=>y=IL w/\nu=j5 P [] N rest:=nM H LH BH PO ht hB ⟨rfl,rfl⟩
theorem IM(H:Hy G)(LH:fL G K)(BH:yr K){P:ib}(PO:mU P){N:Int}{cs:List Nat}(hw:∀c∈cs,xB c=aJ)(hΦ:Φ (.str "") (yq P [] N av)):
 FW (k+5) (j5 P [] N cs) (.ref 207) [.ref P.lx] Φ:=by
 refine Lq H LH BH PO λst s0 pm cd doc L T=>aC (T.loop (λa cs=>a=[]/\∀c∈cs,xB c=aJ) ⟨rfl,hw⟩ (λa b h=>?_) λJ a c cs hI hJ=>?_)
 ·refine dU h λiC z=>?_;clear h;subst iC;exact bB (aC (T.ret0 hΦ λh=>h))
 ·refine aC (iY T.ws (λh=>?_) λh=>?_)
  ·exact aC (GW (hJ _ _ _ (bp _) ⟨hI.1,λd hd=>hI.2 d (ab _ hd)⟩))
  ·rw [hI.2 c aa] at h;exact JU h
theorem Ls(H:Hy G)(LH:fL G K)(BH:yr K){P:ib}(PO:mU P){N:Int}{cs:List Nat}(hw:∀c∈cs,xB c=aJ):
 FW (k+5) (j5 P [] N cs) (.ref 207) [.ref P.lx] λy nu=>y= .str ""/\nu=yq P [] N av:=IM H LH BH PO hw ⟨rfl,rfl⟩
variable {vs:eL}
open Builtin in
theorem wZ{it t:ay}{i:Nat}{items:Array aj}{x:aj}{Q:aj->aq->Prop}(hit:s.heap.IsTupleIter it t i)(ht:s.heap.IsTuple t items)(hx:items[i]? =ae x)
 (hQ:∀h',h'.IsTupleIter it t (i+1)->ji it s.heap h'->Q x {s with heap:=h'}):aS (aX prog w) A (mF (.ref it)) Q E s:=by
 refine ef (id hit) λo ho hc hd=>?_;obtain ⟨ol,MV,_,nl,E9⟩:=ht;unfold mF;refine ag (dX (name:=fQ "__next__") hit.typeIs l7
  (dq l7 hit.typeIs QR ?_ (PZ _)))
 show aS _ _ (vq (.ref it) 0 >>=_) _ _ s;refine ag (dS ho hd (x:= .ref t) rfl ?_);show aS _ _ (if (cZ t == eG)=aJ then _ else _) _ _ s;refine ai (if_neg (show ¬((cZ t == eG)=aJ) from cG)) ?_;show aS _ _ (vq (.ref it) 1 >>=_) _ _ s;refine ag (dS ho hd (x:= .int i 0) rfl ?_);show aS _ _ (seqItems? (.ref t) >>=_) _ _ s;refine ag (CJ MV E9 ?_);simp only [b8,hx];refine ag (eH ho hd (by exact bp _) (ar ⟨x,rfl,ar (hQ _ ?_ (bY ..))⟩));exact ⟨_,bS _ ho (iW (dQ hd _)),(pH ..).trans hc,by refine ai (dQ hd ..) ?_;simp [pA]⟩
theorem yu{it t:ay}{i:Nat}{items:Array aj}{Q:aj->aq->Prop}(hh:A.handled=av)(hit:s.heap.IsTupleIter it t i)(ht:s.heap.IsTuple t items)(hx:items[i]? =av)
 (hE:∀h' e,rt it s.heap h'->(∃o,h'.get? e=ae o/\o.cls= .type "StopIteration")->E (.ref e) {s with heap:=h'}):aS (aX prog w) A (mF (.ref it)) Q E s:=by
 refine ef (id hit) λo ho hc hd=>?_;obtain ⟨ol,MV,_,nl,E9⟩:=ht;unfold mF;refine ag (dX (name:=fQ "__next__") hit.typeIs l7
  (dq l7 hit.typeIs QR ?_ (PZ _)))
 show aS _ _ (vq (.ref it) 0 >>=_) _ _ s;refine ag (dS ho hd (x:= .ref t) rfl ?_);show aS _ _ (if (cZ t == eG)=aJ then _ else _) _ _ s;refine ai (if_neg (show ¬((cZ t == eG)=aJ) from cG)) ?_;show aS _ _ (vq (.ref it) 1 >>=_) _ _ s;refine ag (dS ho hd (x:= .int i 0) rfl ?_);show aS _ _ (seqItems? (.ref t) >>=_) _ _ s;refine ag (CJ MV E9 ?_);simp only [b8,hx];refine ag (oa (ag (eH ho hd (by simp) ?_)));show aS _ _ (Tt (.type "StopIteration") [] >>=_) _ _ _;refine nG hh ?_;exact hE _ _ (((bY ..).extBut.push _).push _) ⟨_,aW _ rfl,rfl⟩
theorem Lu(hh:A.handled=av)(it t:ay)(iQ:t≠it)(items:Array aj):
 Draws prog w A it [it,t] items.size (λi v=>items[i]? =ae v) (λi h=>h.IsTupleIter it t i/\h.IsTuple t items) where
 live:=λz z st=>let ⟨o,ho,_⟩:=st.1;⟨o,ho⟩
 frame:=λz z z st hk=>⟨let ⟨o,ho,q⟩:=st.1;⟨o,hk it (by exact aa) o ho,q⟩,IsTuple.at st.2 λo e=>hk t (by exact ab _ aa) o e⟩
 item:=λi s Q E hi st hQ=>by
  exact wZ st.1 st.2 (x:=items[i]) (by simp [hi]) λh' SW t9=>hQ _ h' s.toks (by simp [hi]) ⟨SW,IsTuple.at st.2 λo e=>t9.extBut t o iQ e⟩ t9
 done:=λs Q E st hE=>yu hh st.1 st.2 (by simp) hE
open AutoSeq1 (wpAny_loadPart') in
set_option tactic.hygienic true in
theorem rV(l:ay)(o:oX)(hc:o.cls= .type "tuple")(items:Array aj)(n:Nat)(hd:o.data= .seq items n):
 Meets (Builtin.«enumerate.__new__» ⟨[.type "enumerate",.ref l],[]⟩) (λ_ R s=>s.heap.get? l=ae o/\
  R (.ok (.ret (.ref (s.heap.push {cls:= .type "tuple_iterator",data:= .fields #[.ref l,.int 0 0]}).objs.size)))
   {s with heap:=(s.heap.push {cls:= .type "tuple_iterator",data:= .fields #[.ref l,.int 0 0]}).push {cls:= .type "enumerate",data:= .fields #[.none,.bool aH,.ref s.heap.objs.size,pA 0,.none,.none]}}):=
 .of_wp λprog w A R s h=>by
  obtain ⟨hp,g,d,tk,os⟩:=s;obtain ⟨hl,h⟩:=h;have qY:=sub_enumerate;have hL:Heap.IsTuple (Shared.heap ⟨hp,g,d,tk,os⟩) l items:=⟨_,hl,hc,n,hd⟩
  wp_walk using kO hl
  refine wpAny_stack_any λst=>ar ?_
  split
  ·rename_i c _ _ _ _ _;cases (c == lW "enumerate")
   ·wp_walk using kO hl,uh hL
    exact ⟨_,rfl,h⟩
   ·wp_walk using kO hl,uh hL
    exact ⟨_,rfl,h⟩
  ·wp_walk using kO hl,uh hL
   exact ⟨_,rfl,h⟩
theorem tL{l:ay}{items:Array aj}{Q:aj->aq->Prop}(hL:s.heap.IsTuple l items)
 (h:∀h',IsEnum h' (s.heap.objs.size+1) s.heap.objs.size 0 .none->h'.IsTupleIter s.heap.objs.size l 0->h'.objs.size=s.heap.objs.size+2->
  (∀b o,s.heap.get? b=ae o->h'.get? b=ae o)->Q (.ref (s.heap.objs.size+1)) {s with heap:=h'}):
 aS (aX prog w) A (ks (.type "enumerate") [.ref l]) Q E s:=by
 obtain ⟨o,hl,hc,n,hd⟩:=hL;refine callType_new F.called_enumerate (by decide) (F.typeCall_enumerate_1 _) (F.newCall_enumerate_1 _) (λobj=>F.args_object_init_2 obj _) F.entry_enumerate_new
  (rV l o hc items n hd) ⟨hl,?_⟩
 have hz:(s.heap.push {cls:= .type "tuple_iterator",data:= .fields #[.ref l,.int 0 0]}).objs.size=s.heap.objs.size+1:=fN ..;show _/\_;refine ai (hz ..) ?_;have he:IsEnum ((s.heap.push {cls:= .type "tuple_iterator",data:= .fields #[.ref l,.int 0 0]}).push
  {cls:= .type "enumerate",data:= .fields #[.none,.bool aH,.ref s.heap.objs.size,pA 0,.none,.none]}) (s.heap.objs.size+1) s.heap.objs.size 0 .none:=by
  have:=aW (s.heap.push {cls:= .type "tuple_iterator",data:= .fields #[.ref l,.int 0 0]})
   (o:={cls:= .type "enumerate",data:= .fields #[.none,.bool aH,.ref s.heap.objs.size,pA 0,.none,.none]}) rfl
  rw [hz] at this;exact this
 refine ⟨⟨_,he,rfl⟩,h _ he ⟨_,az _ (aW _ rfl),rfl,rfl⟩ (by (refine ai (fN ..) ?_;refine ai (hz ..) ?_;rfl)) λb o x=>az _ (az _ x)⟩
section
variable {x:bc}
theorem IP{e1:bP}(hf:PE k mu env (.Name x p) (.type "enumerate"))(h1:PE k mu env e1 (.tup xs))(zf:∀a p,e1≠ .Starred a p:=by intro z z h;cases h):
 o7 k mu env (.Call (.Name x p) [e1] [] pos) (.Tuple elts kk tp) [] (rB xs):=⟨λz h=>(el h),λ{A E Z s fr Q} hA r q=>by
 refine su hf (au h1 aT zf) zf hA r λ{vs s2 Z2} z2 q2 r2=>aK (q2.one) λv1 dP q5=>?_;subst dP;refine dM (aZ.tup_inv q5) λa o vs n eT e1 hc hd hr=>?_;subst eT;have hL:s2.heap.IsTuple a vs:=⟨_,r2.zin _ _ e1,hc,n,hd⟩;have SD:=bM (r2.zin _ _ e1);exact tL hL λh' he TR hsz hk=>vH r2 (λA hh=>Lu hh s2.heap.objs.size a (c9 SD) vs) (GZ SD) aa (cb hr) (vG e1) (λi v x=>nA hr) he ⟨TR,IsTuple.at hL λo e=>hk _ _ e⟩ hk λ{z z z} hit=>q hit z2⟩
structure Sv(vs:eL)(S:List (Nat×V)):Prop where
 len:vs.length=47
 at':∀j y,S.lookup j=ae y->vs[j]? =ae (ae y)
variable {S:List (Nat×V)}
theorem Sv.get(h:Sv vs S)(e:S.lookup j=ae y):vs[j]? =ae (ae y):=h.at' j y e
theorem Sv.set(h:Sv vs S)(hj:autoParam (j < 47) aD):Sv (vs.set j (ae y)) ((j,y)::S):=⟨by refine ai (List.length_set ..) ?_;exact h.len,λi z e=>by
 rw [lj] at e;by_cases Bn:i=j
 ·subst Bn;rw [show (i == i)=aJ from by simp] at e
  (have lz:=aO e;clear e;subst lz)
  refine ai (eA (by rw [h.len];exact hj) ..) ?_;rfl
 ·rw [show (i == j)=aH from by simpa using Bn] at e;refine ai (kH (λq=>Bn q.symm) ..) ?_;exact h.at' i z e⟩
theorem Sv.drop(h:Sv vs ((j,y)::S))(e:S.lookup j=av):Sv vs S:=⟨h.len,λi z e2=>h.at' i z (by
 refine ai (lj ..) ?_;by_cases Bn:i=j
 ·subst Bn;rw [e] at e2;exact gL e2
 ·refine ai (show (i == j)=aH from by simpa using Bn) ?_;exact e2)⟩
noncomputable abbrev cy(L:ay)(vs:eL):cY:=bq L (aM (L+1) (bj (cO 23)).names) vs
noncomputable abbrev bT(pm doc:aj)(L:ay):iE:=dT (xu (cO 23) pm (.ref 306) doc) 307 L
noncomputable def mv(n:Nat):List ed:=((fR (cO 23)).take 15).drop n
noncomputable def je(n:Nat):List ed:=(fR (cO 23)).drop n
end
variable {p2:lF}
section
variable {S:List (Nat×V)}
theorem Le.unset(h:bF[j]? =ae av):Le (bq L lay (bF.set j (ae y))::mu) (bq L lay bF::mu):=λZ s fr r=>by
 refine mG (r.sat _ aa) λhnd m hn hs=>?_;have hj:=(aB.mp h).1;have hw:=hs.weak (o:=ae y) (o':=av) (j:=j) (by (refine ai (eA hj ..) ?_;rfl)) (λx c e=>e.forget);rw [u7,show bF.set j av=bF from by
  refine List.ext_getElem? λn=>?_;by_cases hn:j=n
  ·subst hn;(refine ai (eA hj ..) ?_;refine ai (h ..) ?_;rfl)
  ·(refine ai (kH hn ..) ?_;rfl)] at hw
 exact r.upd' (x':=bq L lay bF) (i:=0) (h':=s.heap) (tk:=s.toks) rfl rfl (λz z z e=>e) ⟨hnd,m,hn,hw⟩
theorem Lv{β:Type}{dj:iE}{t u:bc}{elt fc:bP}{bs:List β}{inj g:β->V}(i j:Nat)(he:dz dj)(s1:Sl dj C (aM (C+1) scope.names) t i)(s2:Sl dj C (aM (C+1) scope.names) u j)(hj:((nones (aM (C+1) scope.names)).set i (ae v))[j]? =ae av)
 (src:o7 k (TK scope C i v::mu) dj fc (.Name u p2) [] (bs.map inj)) (h:∀b∈bs,PE k (Rh scope C i j v (inj b)::mu) dj elt (g b))
 (hf:autoParam ((dj.kindOf t == ae .free)=aH) aR) (hf':autoParam ((dj.kindOf u == ae .free)=aH) aR):Av k mu scope C dj (.Name t p) elt fc (.Name u p2) [] v bs inj (λz=>aJ) g:=
 ⟨_,[],qw he s1 hf,src,(λz h=>el h),λb hb=>⟨_,qw he s2 hf',dm,λz=>h b hb,Le.unset hj⟩⟩
theorem Ho{α β:Type}{elt iter fc t2:bP}{spos:lF}(as:List α)(inj:α->V)(bs:α->List β)(zg:β->V)(g:α->β->V)(sc:E4 scope env cl)(src:o7 k mu env iter t ctx (as.map inj))(hk:1<=k)(hsz:(as.flatMap bs).length<=2 ^ 21)
 (turn:∀C a,a∈as->Av k mu scope C (o8 scope cl C env) t elt fc t2 [] (inj a) (bs a) zg (λz=>aJ) (g a)) (hs:autoParam (∀x,bw iter env x=dh x) aR)
 (Gy:autoParam (∀C x,bw fc (o8 scope cl C env) x=dh x) aR):
 PE k mu env (.ListComp elt [⟨t,iter,[],0⟩,⟨t2,fc,[],0⟩] scope spos) (.list (as.flatMap λa=>(bs a).map (g a))):=by
 have:=Ke (spos:=spos) as inj bs zg (λz z=>aJ) g sc src hk hsz turn hs Gy;simpa only [ky] using this
theorem pP{ys:List V}(h:o7 k mu env e t ctx xs)(e1:xs=ys):o7 k mu env e t ctx ys:=e1▸h
noncomputable def Qo:List Int:=[871261,18183,223382,230704,2030521,1350021,8139969]
noncomputable def Lw(sc:List Int)(q:Nat×Int):Int:=(q.2+((jq (jq sc av (ae 60) av) (ae (q.1:Int)) av (ae 7)).map λn=>n % 12960000).sum) % 12960000
noncomputable def own7:List (Nat×Int):=Qo.zipIdx.map λq=>(q.2,q.1)
noncomputable def jQ(sc:List Int):List Int:=own7.map (Lw sc)
noncomputable def uS(ns:List Int):List Int:=ns.flatMap λn=>(aN 4).map λ(p:Nat)=>n / 60 ^ p % 60
theorem uT{α:Type}(xs:List α)(lo hi st:Option Int):(jq xs lo hi st).length<=xs.length:=by
 unfold jq;refine aw (List.length_filterMap_le _ _) (sliceRange_length_le _ _ _ _ (λh=>?_) (λh=>?_))
 ·unfold c8 at h ⊢;simp only at h ⊢;refine ai (if_pos h ..) ?_;refine ai (if_pos h ..) ?_;constructor
  ·cases lo with
   |none=>simp
   |some i=>simp only [h,if_true];omega
  ·cases hi with
   |none=>simp
   |some i=>simp only [h,if_true];omega
 ·unfold c8 at h ⊢;simp only at h ⊢;refine ai (if_neg h ..) ?_;refine ai (if_neg h ..) ?_;constructor
  ·cases lo with
   |none=>simp
   |some i=>simp only [h,if_false];omega
  ·cases hi with
   |none=>simp
   |some i=>simp only [h,if_false];omega
theorem pQ(a n:Nat):zr (a:Int) ((a+n:Nat):Int) 1=(aN n).map (a+·):=by
 unfold zr;refine ai (if_pos (by decide) ..) ?_;by_cases h:0 < n
 ·refine ai (if_pos (by lia) ..) ?_;have:(((a+n:Nat):Int) - (a:Int)+1 - 1) / 1=n:=by simp;lia
  simp only [this,b8];refine b5 λk z=>?_;simp only [sN];lia
 ·have:n=0:=by lia
  subst this;refine ai (if_neg (by simp) ..) ?_;rfl
theorem pR{α:Type}(xs:List α)(a n:Nat):((aN n).map (a+·)).filterMap (xs[·]?)=(xs.drop a).take n:=by
 induction n with
 |zero=>simp
 |succ n ih=>
  refine ai (qd ..) ?_;refine ai (bh ..) ?_;refine ai (List.filterMap_append ..) ?_;refine ai (ih ..) ?_;refine ai (dG ..) ?_;congr 1;refine ai (Ah ..) ?_;cases h:xs[a+n]? with
  |none=>simp [h]
  |some y=>simp [h]
theorem Lx{α:Type}{xs:List α}{a b:Nat}(wW:a<=b)(hb:b<=xs.length):jq xs (ae (a:Int)) (ae (b:Int)) av=(xs.drop a).take (b - a):=by
 have e:c8 (ae (a:Int)) (ae (b:Int)) av xs.length=((a:Int),((a+(b - a):Nat):Int),1):=by
  unfold c8;have h1:¬(a:Int) < 0:=by lia
  have h2:¬(b:Int) < 0:=by lia
  simp only [Option.getD_none,h1,h2,if_false,show (1:Int) > 0 from by decide,if_true];refine TB ?_ (TB ?_ rfl) <;> simp only <;> lia
 unfold jq;refine ai (e ..) ?_;simp only;refine ai (pQ ..) ?_;refine ai (pR ..) ?_;rfl
theorem Oz{α:Type}{xs:List α}{b:Nat}:jq xs av (ae (b:Int)) av=xs.take b:=by
 have e:c8 av (ae (b:Int)) av xs.length=(((0:Nat):Int),((0+min b xs.length:Nat):Int),1):=by
  unfold c8;have h2:¬(b:Int) < 0:=by omega
  simp only [Option.getD_none,h2,if_false,show (1:Int) > 0 from by decide,if_true];refine TB ?_ (TB ?_ rfl) <;> simp only <;> omega
 unfold jq;refine ai (e ..) ?_;simp only;refine ai (pQ ..) ?_;refine ai (pR ..) ?_;refine ai (fx ..) ?_;by_cases h:b<=xs.length
 ·(refine ai (Nat.min_eq_left h ..) ?_;rfl)
 ·(refine ai (Nat.min_eq_right (by omega) ..) ?_;refine ai (d6 (bp _) ..) ?_;refine ai (d6 (by omega) ..) ?_;rfl)
theorem law_0(H:Hy G){pm doc:aj}(he:dz (bT pm doc L)){sc:List Int}(Ua:sc.length<=63)(hS:Sv vs [(0,.list (sc.map .int))])
 (next:∀vs,Sv vs [(4,.list ((uS (jQ sc)).map .int)),(3,.list ((jQ sc).map .int)),(0,.list (sc.map .int))]->WS (k+8) (cy L vs::mu) (bT pm doc L) (mv 2) Θ):
 WS (k+8) (cy L vs::mu) (bT pm doc L) (mv 0) Θ:=by
 have hf:∀{vs},bq L (aM (L+1) (bj (cO 23)).names) vs∈cy L vs::mu:=aa;refine aC (bX (y:= .list ((jQ sc).map .int)) (bL (jO own7 (λq=> .tup [.int (q.1:Nat),.int q.2]) (λq=> .int (Lw sc q)) ⟨rfl,rfl,by decide+kernel,by decide+kernel⟩ (pP (IP (iO H he H.b_enumerate rfl) (f9 (xs:=Qo.map .int) (au aU (au aU (au aU (au aU (au aU (au aU (au aU aT))))))) (by decide))) rfl) (by lia) (by decide) (λC1 a ha=>tF 1 2 he.comp .loc .loc dm (λhb=>(br (br (ah (j:=2) he.comp .loc aa rfl) (ej (j3 H he.comp H.b_sum rfl) (au (cQ (jO (jq (jq sc av (ae 60) av) (ae (a.1:Int)) av (ae 7)) .int (λn=> .int (n % 12960000)) ⟨rfl,rfl,by decide+kernel,by decide+kernel⟩ (pP (dB (bE (dF (bE (dF (ah (j:=0) he.comp (.cell (L+1) "script") (ab _ hf) (hS.get rfl))) (jo dN (eQ aU) dN) (o9 (by decide) (by simp;exact aw (by assumption) (by decide))))) (jo (eQ (ah (j:=1) he.comp .loc aa rfl)) dN (eQ aU)) (o9 (by decide) (by have:=uT (sc.map V.int) av (ae 60) av;simp at this;lia)))) (by rw [jr,jr])) (by lia) (by have:=uT (jq sc av (ae 60) av) (ae (a.1:Int)) av (ae 7);have:=uT sc av (ae 60) av;lia) (λC2 a ha=>iu 1 he.comp.comp .loc dm (λhb=>(br (ah (j:=1) he.comp.comp .loc aa rfl) aU (fk (by decide))))))) aT) uI) fB) aU (fk (by decide)))))) (by rw [jQ,a0];rfl)) (aQ (i:=0) (j:=3) he (.cell (L+2) "numbers") rfl ?_) rfl rfl);have hS1:=hS.set (j:=3) (y:= .list ((jQ sc).map .int));refine aC (bX (y:= .list ((uS (jQ sc)).map .int)) (bL (Ho (jQ sc) .int (λz=>aN 4) nV (λn (p:Nat)=> .int (n / 60 ^ p % 60)) ⟨rfl,rfl,by decide+kernel,by decide+kernel⟩ (dB (ah (j:=3) he (.cell (L+2) "numbers") hf (hS1.get rfl))) (by lia) (aw (lh (show ((jQ sc).flatMap λz=>aN 4).length=28 from rfl)) (by decide)) (λC a ha=>Lv 1 2 he.comp .loc .loc rfl (fJ (n:=4) (iO H he.comp H.b_range rfl) aU rfl (by decide)) (λb hb=>br (br (ah (j:=1) he.comp .loc aa rfl) (br aU (ah (j:=2) he.comp .loc aa rfl) (BM (by decide) (by have:=aY.mp hb;lia))) (l8 ?_)) aU (fk (by decide))))) (by unfold uS;rw [uo];simp only [a0];rfl)) (aQ (i:=0) (j:=4) he (.cell (L+3) "draws") rfl ?_) rfl rfl)
 ·have:=aY.mp hb;rcases (by lia:b=0\/b=1\/b=2\/b=3) with rfl|rfl|rfl|rfl <;> decide
 ·exact next _ hS1.set
end
variable {ds:List Nat}{ns:List Int}{n6:Nat}
section
variable {S:List (Nat×V)}
theorem RN{x:bc}{n:Int}(h:MulOk x n):xJ k mu .Mult (bZ (.str x)) (bZ (.int n)) (bZ (.str (Txt.mul x n))):=⟨λ{z z z z z z z z} hA R hp hq q=>aZ.strC hp λt=>aZ.intC hq λu=>SB.mul h λt' k=>q .rfl (aZ.str _ _) R.toks⟩
theorem OA(hl:EV k mu env l (md mu xs))(hr:EV k mu env r (md mu ys))(hz:xs.length+ys.length<=2 ^ 23)(hΦ:∀D,fK D (bk D (xs++ys)::mu) Φ):WE k mu env (.BinOp l .Add r p) Φ:=⟨λ{A E Z s fr Q} hA r0 q=>by
 with_reducible refine Ny ?_
 refine hl.c hA r0 λ{v s1 Z1} z1 p1 r1=>hr.c hA r1 λ{u s2 Z2} z2 p2 r2=>cF (md.at ((md mu xs).mono _ _ _ z2 p1) r2) λa vs n dP h1 h2=>?_;subst dP;refine cF (md.at p2 r2) λb ws m eT h3 h4=>?_;subst eT;refine PySem.P.add_list (n:=n) (n2:=m) (items:=vs) (items2:=ws) h1 h3 ?_ (by (refine fZ (cb h2 ..) ?_;refine fZ (cb h4 ..) ?_);exact aw hz (show 2 ^ 23<=2 ^ 24 by decide));exact (hΦ s2.heap.objs.size).c (fr:=fr) (r2.addNew (tk:=s2.toks) (bk s2.heap.objs.size (xs++ys)) (λb o e=>az _ e) ⟨vs++ws,0,aW _ rfl,by refine ai (lA ..) ?_;exact h2.append h4⟩ eg λz h=>kW h) λ{z z z} z3=>q (z1.trans (z2.trans z3))⟩
structure Dr(ds:List Nat)(ns:List Int)(n6:Nat):Prop where
 len:ds.length=28
 lt:∀d∈ds,d < 60
 nlen:ns.length=7
 six:ns[6]? =ae (n6:Int)
 nlt:n6 < 12960000
noncomputable def dr(ds:List Nat)(i:Nat):Nat:=ds.getD i 0
theorem Dr.at(h:Dr ds ns n6){i:Nat}(hi:i < 28):ds[i]? =ae (dr ds i):=by unfold dr;refine ai (bR ..) ?_;refine ai (bH (by rw [h.len];exact hi) ..) ?_;rfl
theorem Dr.dlt(h:Dr ds ns n6)(i:Nat):dr ds i < 60:=by
 unfold dr;refine ai (bR ..) ?_;cases e:ds[i]? with
 |none=>decide
 |some d=>exact h.lt d (ao e)
noncomputable def aF(ds:List Nat):Nat:=dr ds 24 % 28
theorem eI(ds:List Nat):aF ds < 28:=ee _ (by decide)
noncomputable def Ly(ds:List Nat):List (Nat×Nat):=[2,3,4,5].map λb=>(dr ds (b - 2) % b,b)
noncomputable def Lz(ds:List Nat):List (Nat×Nat):=[4,6,8].map λq=>(dr ds q % 6,1+dr ds (q+1) % 5)
noncomputable def dn(ds:List Nat):List (Nat×Nat):=[(0,1)]++Ly ds++Lz ds
noncomputable abbrev kG(q:Nat×Nat):V:= .tup [nV q.1,nV q.2]
noncomputable def cf(ds:List Nat)(b:Nat):Nat:=((ds.drop 18).take b).sum+b
noncomputable def rW(low:Nat):V:= .list ((aN 6).map λb=> .str (cC (low+b)))
theorem OB:∀i,i < 33->i < 10->oz.getD i ""=cC i:=by decide+kernel
theorem OC:∀i,i < 33->¬i < 10->(("0x":bc)++⟨#[[49,50,52,56].getD (i % 4) 0]⟩)++Txt.mul "0" ((i / 4:Nat):Int)=cC i:=by decide+kernel
noncomputable def LB:bc:="OPTIMIZED NEWLOCALS VARARGS VARKEYWORDS NESTED GENERATOR NOFREE COROUTINE ITERABLE_COROUTINE ASYNC_GENERATOR"
theorem DY:Txt.words LB=oz:=by decide+kernel
theorem RO:∀i,i < 33->MulOk "0" ((i / 4:Nat):Int):=λi hi=>by
 have h:i / 4<=8:=by lia
 generalize i / 4=j at h;refine ⟨by refine gj (Bool.or_eq_false_iff ..) ?_;constructor <;> (apply decide_eq_false;lia),λh1 z=>?_,λh1 z=>?_⟩
 ·rcases (by lia:j=1\/j=2\/j=3\/j=4\/j=5\/j=6\/j=7\/j=8) with rfl|rfl|rfl|rfl|rfl|rfl|rfl|rfl <;> decide
 ·rcases (by lia:j=1\/j=2\/j=3\/j=4\/j=5\/j=6\/j=7\/j=8) with rfl|rfl|rfl|rfl|rfl|rfl|rfl|rfl <;> decide
theorem OD:∀i,i < 33->(Txt.mul "0" ((i / 4:Nat):Int)).length<=8:=by decide+kernel
noncomputable def DZ(S:List (Nat×V)):List (Nat×V)->Prop
 |[]=>True
 |q::r=>S.lookup q.1=ae q.2/\DZ S r
theorem DZ.at{S:List (Nat×V)}:∀{S':List (Nat×V)},DZ S S'->∀j y,S'.lookup j=ae y->S.lookup j=ae y
 |[],_,j,y,e=>by exact gL e
 |q::r,h,j,y,e=>by
  rw [lj] at e;by_cases hj:j=q.1
  ·subst hj;rw [show (q.1 == q.1)=aJ from by simp] at e
   (have lz:=aO e;clear e;subst lz)
   exact h.1
  ·rw [show (j == q.1)=aH from by simpa using hj] at e;exact DZ.at h.2 j y e
theorem Sv.sub{S':List (Nat×V)}(h:Sv vs S)(hs:DZ S S'):Sv vs S':=⟨h.len,λj y e=>h.at' j y (hs.at j y e)⟩
def yv.S0(k:Nat)(mu:Mu)(vs:eL)(L:ay)(ds:List Nat)(ns:List Int)(pm doc:aj):Prop:=∀{Θ:AF->Mu->Prop} {n6:Nat} (H:Hy G) (he:dz (bT pm doc L)) (hD:Dr ds ns n6) (hS:Sv vs [(4,.list (ds.map nV)),(3,.list (ns.map .int))]) (next:∀vs,Sv vs [(7,rW (aF ds)),(5,nV (aF ds)),(4,.list (ds.map nV)),(3,.list (ns.map .int))]->WS (k+8) (cy L vs::mu) (bT pm doc L) (mv 4) Θ),WS (k+8) (cy L vs::mu) (bT pm doc L) (mv 2) Θ
namespace yv
@[irreducible] def e0:=Nl eO gE gE cM gE gE gM gM S0
def k_:=e0.1
def e9:=e0.2.1
def kQ:=e0.2.2.1
def L_:=e0.2.2.2.1
def aV:=e0.2.2.2.2.1
def Hp:=e0.2.2.2.2.2.1
def pf:=e0.2.2.2.2.2.2.1
def g8:=e0.2.2.2.2.2.2.2
theorem T0:S0 k_ e9 kQ L_ aV Hp pf g8:=by
 intro Θ n6 H he hD hS next
 have hf:∀{kQ},bq L_ (aM (L_+1) (bj (cO 23)).names) kQ∈cy L_ kQ::e9:=aa;have d8:=eI aV;refine aC (bX (y:= .tup [nV (aF aV),.list (oz.map .str)]) (f9 (xs:=[nV (aF aV),.list (oz.map .str)]) (au (br (bE (dF (ah (j:=4) he (.cell (L_+3) "draws") hf (hS.get rfl))) aU (ew (hD.at (i:=24) (by decide)) (by refine ai (hD.len ..) ?_;decide))) aU (fk (by decide))) (au (bL (f7 cP mJ aT (H9 (x:=LB) (by decide+kernel) (by decide+kernel)) (by exact eN) (by exact jW) (by exact b9) rfl) (by (refine ai (DY ..) ?_;rfl))) aT)) (by show 2<=2 ^ 20;decide)) (i7 (cw rfl rfl (aQ (i:=0) (j:=5) he (.cell (L_+4) "low") rfl (cw rfl rfl (aQ (i:=0) (j:=6) he (.cell (L_+5) "known") rfl (iX ?_)))))) rfl rfl);have hS2:=(hS.set (j:=5) (y:=nV (aF aV))).set (j:=6) (y:= .list (oz.map .str));refine aC (bX (y:=rW (aF aV)) (jO (aN 6) (λb=> .int ((aF aV:Int)+(b:Nat))) (λb=> .str (cC (aF aV+b))) ⟨rfl,rfl,by decide+kernel,by decide+kernel⟩ (pP (qt (iO H he H.b_range rfl) (ah (j:=5) he (.cell (L_+4) "low") hf (hS2.get rfl)) (br (ah (j:=5) he (.cell (L_+4) "low") hf (hS2.get rfl)) aU fB) (by lia) (by lia)) (by unfold rA;(refine ai (show ((aF aV:Int)+6 - (aF aV:Int)).toNat=6 by lia) ?_;rfl))) (by lia) (by decide) (λC1 a ha=>by
  have PJ:=aY.mp ha;have h33:aF aV+a < 33:=by lia
  have ec:(aF aV:Int)+(a:Nat)=((aF aV+a:Nat):Int):=by lia
  refine ai (ec ..) ?_;generalize aF aV+a=i at h33;refine iu 1 he.comp .loc dm (λhb=>?_);have h10:decide ((i:Int) < 10)=decide (i < 10):=by
   by_cases h:i < 10
   ·(refine ai (decide_eq_true h ..) ?_;refine ai (decide_eq_true (by lia) ..) ?_;rfl)
   ·(refine ai (decide_eq_false h ..) ?_;refine ai (decide_eq_false (by lia) ..) ?_;rfl)
  refine uC (b:=decide (i < 10)) (oR (da (ah (j:=1) he.comp .loc aa rfl) aU CZ) h10) (λh=>?_) (λh=>?_)
  ·have hi:=of_decide_eq_true h;exact fZ (OB i h33 hi ..) (bE (dF (ah (j:=6) he.comp (.cell (L_+5) "known") (ab _ hf) (hS2.get rfl))) (ah (j:=1) he.comp .loc aa rfl) (ew (a:=oz.getD i "") (by (refine ai (bR ..) ?_;refine ai (bH (show i < oz.length from hi)) ?_);rfl) (by decide)))
  ·have hi:=of_decide_eq_false h;refine fZ (OC i h33 hi ..) (br (br cP (bE cP (br (ah (j:=1) he.comp .loc aa rfl) aU (fk (by decide))) (gi_s (c:=[49,50,52,56].getD (i % 4) 0) ?_ ?_ ?_ (by decide))) (Fs (by show 2+1<=2 ^ 24;decide))) (br cP (br (ah (j:=1) he.comp .loc aa rfl) aU (l8 (by decide))) (RN (RO i h33))) (Fs ?_))
   ·have e2:((i:Int) % 4)=((i % 4:Nat):Int):=by lia
    refine ai (e2 ..) ?_;have h4:i % 4 < 4:=ee _ (by decide);generalize i % 4=m at h4;rcases (by lia:m=0\/m=1\/m=2\/m=3) with rfl|rfl|rfl|rfl <;> rfl
   ·show -(4:Int)<=_;lia
   ·lia
   ·have:=OD i h33;show 3+_<=2 ^ 24;have e3:((i:Int) / 4)=((i / 4:Nat):Int):=by lia
    refine ai (e3 ..) ?_;lia)) (aQ (i:=0) (j:=7) he (.cell (L_+6) "names") rfl ?_) rfl rfl)
 have hS3:=hS2.set (j:=7) (y:=rW (aF aV));exact next _ (hS3.sub ⟨rfl,rfl,rfl,rfl,trivial⟩)
end yv
theorem yv{pm doc:aj}:yv.S0 k mu vs L ds ns pm doc:=by with_unfolding_all exact Bu _ _ _ _ _ _ _ _ yv.S0 @yv.T0 k mu vs L ds ns pm doc
end
section
variable {S:List (Nat×V)}
theorem OE{op:Tf}{P Q:Vw}{z z':V}(h:xJ k mu op P Q (bZ z))(e:z=z'):xJ k mu op P Q (bZ z'):=e▸h
theorem F1{es:List (bc×V)}{x:bc}(h:x∉es.map (·.1)):jE es x y=es++[(x,y)]:=by unfold jE;rw [if_neg];intro h2;rw [cT] at h2;refine aK h2 λq hq hx=>?_;clear h2;exact h (aG.mpr ⟨q,hq,by simpa using hx⟩)
theorem D2:∀(ps es:List (bc×V)),((es++ps).map (·.1)).Nodup->ps.foldl (λes q=>jE es q.1 q.2) es=es++ps
 |[],es,_=>by simp
 |q::ps,es,h=>by
  have hq:q.1∉es.map (·.1):=λhm=>by
   rw [bh,bO] at h;exact h.2.2 _ hm _ aa rfl
  refine ai (fE ..) ?_;refine ai (F1 hq ..) ?_;refine ai (D2 ps (es++[(q.1,q.2)]) (by simpa using h) ..) ?_;simp
theorem D3{ps:List (bc×V)}(h:(ps.map (·.1)).Nodup):rD ps=ps:=by have:=D2 ps [] (by exact h);exact this
theorem yw{α:Type}{ke ve iter:bP}{spos:lF}(B:g7 G)(as:List α)(inj:α->V)(g:α->bc×V)(sc:E4 scope env cl)(src:o7 k mu env iter t ctx (as.map inj))(hk:1<=k)(hsz:as.length<=2 ^ 21)
 (turn:∀C a,a∈as->Aw k mu scope C (o8 scope cl C env) t [] ke ve (inj a) aJ (g a).1 (g a).2) (hnd:(as.map λa=>(g a).1).Nodup) (hΘ:∀D,fK D (cE D (as.map g)::mu) Φ) (hs:autoParam (∀x,bw iter env x=dh x) aR):
 WE k mu env (.DictComp ke ve [⟨t,iter,[],0⟩] scope spos) Φ:=
 WE_dc B as inj (λz=>aJ) g sc src hk hsz turn (λD=>by
  refine ai (ky ..) ?_;refine ai (D3 (by rw [a0];exact hnd) ..) ?_;exact hΘ D) hs
theorem jx{low:Nat}(hl:low < 28):∀l:List Nat,(∀b∈l,b < 6)->l.Nodup->(l.map λb=>cC (low+b)).Nodup
 |[],_,_=>by simp
 |a::l,h6,hn=>by
  refine ai (bA ..) ?_;refine gj (cj ..) ?_;rw [cj] at hn;refine ⟨λhm=>?_,jx hl l (λb hb=>h6 b (ab _ hb)) hn.2⟩;refine aK (aG.mp hm) λb hb e=>?_;have h1:=h6 b (ab _ hb);have h2:=h6 a aa;have:=qz (low+b) (by lia) (low+a) (by lia) e;have:b=a:=by lia
  subst this;exact hn.1 hb
theorem zip6:(aN 6).zipIdx=(aN 6).map λb=>(b,b):=rfl
def yx.S0(k:Nat)(mu:Mu)(vs:eL)(L:ay)(ds:List Nat)(ns:List Int)(pm doc:aj):Prop:=∀{Θ:AF->Mu->Prop} {n6:Nat} (H:Hy G) (he:dz (bT pm doc L)) (hD:Dr ds ns n6) (hS:Sv vs [(7,rW (aF ds)),(5,nV (aF ds)),(4,.list (ds.map nV)),(3,.list (ns.map .int))]) (next:∀vs A,Sv vs [(11,.list ((aN 7).map λb=>nV (cf ds b))),(10,.ref A),(42,.dict (qA (aF ds))),(7,rW (aF ds)),(5,nV (aF ds)),(4,.list (ds.map nV)),(3,.list (ns.map .int))]->WS (k+8) (bk A ((dn ds).map kG)::cy L vs::mu) (bT pm doc L) (mv 7) Θ),WS (k+8) (cy L vs::mu) (bT pm doc L) (mv 4) Θ
namespace yx
@[irreducible] def e0:=Nl eO gE gE cM gE gE gM gM S0
def k_:=e0.1
def e9:=e0.2.1
def kQ:=e0.2.2.1
def L_:=e0.2.2.2.1
def aV:=e0.2.2.2.2.1
def Hp:=e0.2.2.2.2.2.1
def pf:=e0.2.2.2.2.2.2.1
def g8:=e0.2.2.2.2.2.2.2
theorem T0:S0 k_ e9 kQ L_ aV Hp pf g8:=by
 intro Θ n6 H he hD hS next
 have hf:∀{kQ},bq L_ (aM (L_+1) (bj (cO 23)).names) kQ∈cy L_ kQ::e9:=aa;have d8:=eI aV;refine aC (b4 (yw H.B ((aN 6).zipIdx) (λq=> .tup [.int (q.2:Nat),.str (cC (aF aV+q.1))]) (λq=>(cC (aF aV+q.1),nV (2 ^ (aF aV+q.2)))) ⟨rfl,rfl,by decide+kernel,by decide+kernel⟩ (sx (iO H he H.b_enumerate rfl) (ah (j:=7) he (.cell (L_+6) "names") hf (hS.get rfl))) (by lia) (by decide) (λC2 a ha=>Ks 1 2 he.comp .loc .loc dm (λhb=>(ah (j:=2) he.comp .loc aa rfl)) (λhb=>bL (br aU (br (ah (j:=5) he.comp (.cell (L_+4) "low") (ab _ hf) (hS.get rfl)) (ah (j:=1) he.comp .loc aa rfl) fB) (J3 ?_ ?_ (by decide))) ?_)) ?_ (λD=>fK.dict (aQ (i:=0) (j:=42) he (.cell (L_+16) "flags") rfl ?_))) rfl rfl)
 ·have:=dK (n:=aF aV);have:=dK (n:=a.2);lia
 ·rw [zip6] at ha;refine aK (aG.mp ha) λb hb dP=>?_;subst dP;have:=aY.mp hb;show (aF aV:Int)+(b:Int)<=_;lia
 ·show V.int (1*2 ^ ((aF aV:Int)+(a.2:Int)).toNat)=nV (2 ^ (aF aV+a.2));refine ai (show ((aF aV:Int)+(a.2:Int)).toNat=aF aV+a.2 by lia) ?_;refine ai (sN ..) ?_;refine congrArg V.int ?_;simp
 ·(refine ai (zip6 ..) ?_;refine ai (a0 ..) ?_)
  exact jx d8 (aN 6) (λb hb=>aY.mp hb) ll
 have hS1:=hS.set (j:=42) (y:= .dict (qA (aF aV)));have dw:∀{C:ay} {scope:fM} {ro:eL},bq L_ (aM (L_+1) (bj (cO 23)).names) ro∈nC scope C kQ::cy L_ ro::e9:=ab _ aa;refine aC (b4 (OA (xs:=([(0,1)]++Ly aV).map kG) (ys:=(Lz aV).map kG) (dF (bL (br (dF (ij (xs:=[kG (0,1)]) (au (f9 (xs:=[nV 0,nV 1]) (au aU (au aU aT)) (by show 2<=2 ^ 20;decide)) aT) (by show 1<=2 ^ 20;decide))) (dF (jO [2,3,4,5] nV (λb=>kG (dr aV (b - 2) % b,b)) ⟨rfl,rfl,by decide+kernel,by decide+kernel⟩ (pP (qt (iO H he H.b_range rfl) aU aU (by decide) (by decide)) rfl) (by lia) (by decide) (λC3 a ha=>iu 1 he.comp .loc dm (λhb=>?_)))) (uH ?_)) ?_)) (dF (jO [4,6,8] nV (λq=>kG (dr aV q % 6,1+dr aV (q+1) % 5)) ⟨rfl,rfl,by decide+kernel,by decide+kernel⟩ (xv (f9 (xs:=[nV 4,nV 6,nV 8]) (au aU (au aU (au aU aT))) (by show 3<=2 ^ 20;decide))) (by lia) (by decide) (λC4 a ha=>iu 1 he.comp .loc dm (λhb=>?_)))) ?_ (λA=>fK.ref (aQ (i:=1) (j:=10) he (.cell (L_+9) "arms") rfl ?_))) rfl rfl)
 ·have h25:2<=a/\a < 6:=by simp at ha;lia
  refine f9 (xs:=[nV (dr aV (a - 2) % a),nV a]) (au (bL (br (bE (dF (ah (j:=4) he.comp (.cell (L_+3) "draws") (ab _ aa) (hS1.get rfl))) (bL (br (ah (j:=1) he.comp .loc aa rfl) aU vz) (show V.int ((a:Int) - 2)=nV (a - 2) from congrArg V.int (by lia))) (ew (hD.at (i:=a - 2) (by lia)) (by refine ai (hD.len ..) ?_;decide))) (ah (j:=1) he.comp .loc aa rfl) (fk (by lia))) (by show V.int _=V.int _;congr 1)) (au (ah (j:=1) he.comp .loc aa rfl) aT)) (by show 2<=2 ^ 20;decide)
 ·show 1+4<=2 ^ 23;decide
 ·rfl
 ·have h9:a < 9:=by simp at ha;lia
  refine f9 (xs:=[nV (dr aV a % 6),nV (1+dr aV (a+1) % 5)]) (au (br (bE (dF (ah (j:=4) he.comp (.cell (L_+3) "draws") (ab _ aa) (hS1.get rfl))) (ah (j:=1) he.comp .loc aa rfl) (ew (hD.at (i:=a) (by exact cc (by assumption) (by decide))) (by refine ai (hD.len ..) ?_;decide))) aU (fk (by decide))) (au (br aU (br (bE (dF (ah (j:=4) he.comp (.cell (L_+3) "draws") (ab _ aa) (hS1.get rfl))) (br (ah (j:=1) he.comp .loc aa rfl) aU fB) (ew (hD.at (i:=a+1) (by lia)) (by refine ai (hD.len ..) ?_;decide))) aU (fk (by decide))) fB) aT)) (by show 2<=2 ^ 20;decide)
 ·show 5+3<=2 ^ 23;decide
 have hS2:=hS1.set (j:=10) (y:= .ref A);refine fZ (bh ..) (aC (FD (aN 7) nV (λb=>nV (cf aV b)) ⟨rfl,rfl,by decide+kernel,by decide+kernel⟩ (fJ (n:=7) (iO H he H.b_range rfl) aU rfl (by decide)) (by lia) (by decide) (λC5 a ha=>iu 1 he.comp .loc dm (λhb=>?_)) rfl (λD=>fK.list (aQ (i:=1) (j:=11) he .loc rfl (next _ A ((hS2.set (j:=11)).sub ⟨rfl,rfl,rfl,rfl,rfl,rfl,rfl,trivial⟩))))));have h7:=aY.mp ha;refine br (ej (j3 H he.comp H.b_sum rfl) (au (dF (bL (bE (dF (ah (j:=4) he.comp (.cell (L_+3) "draws") (ab _ (ab _ aa)) (hS2.get rfl))) (jo (eQ aU) (eQ (br aU (ah (j:=1) he.comp .loc aa rfl) fB)) dN) (o9 (by decide) (by simp [hD.len]))) (y:= .list (((aV.drop 18).take a).map nV)) ?_)) aT) (uI (l:=(aV.drop 18).take a) (f:=λ(n:Nat)=>(n:Int)))) (ah (j:=1) he.comp .loc aa rfl) ?_
 ·refine ai (jr ..) ?_;have:=Lx (xs:=aV) (a:=18) (b:=18+a) (by exact dE _ _) (by refine ai (hD.len ..) ?_;lia);rw [show (((18+a:Nat):Int))=18+(a:Int) from by lia,show 18+a - 18=a by lia] at this;refine fZ (this ..) ?_;rfl
 ·have e:(((aV.drop 18).take a).map λ(n:Nat)=>(n:Int)).sum+(a:Int)=((cf aV a:Nat):Int):=by
   unfold cf;have:∀l:List Nat,(l.map λ(n:Nat)=>(n:Int)).sum=((l.sum:Nat):Int):=λl=>by
    induction l with
    |nil=>rfl
    |cons b l ih=>simp only [bA,df,ih];lia
   refine ai (this ..) ?_;lia
  exact OE fB (congrArg V.int e)
end yx
theorem yx{pm doc:aj}:yx.S0 k mu vs L ds ns pm doc:=by with_unfolding_all exact Bu _ _ _ _ _ _ _ _ yx.S0 @yx.T0 k mu vs L ds ns pm doc
end
noncomputable def mL(n w:Int):Nat:=if w % 3 == 0 then 3 else 1+(if decide (63 < n) then 1 else 0)
noncomputable def pS(n w:Int)(i:Nat):Int:=n / 64 ^ i % 64+64*(if decide ((0:Int) < i) then 1 else 0)+128*(w / ((i:Int)+1) % 2)
noncomputable def gm(n w:Int):List Int:=jq ((aN (mL n w)).map (pS n w)) av av (ae (-1))
theorem kY(n w:Int):mL n w=3\/mL n w=1\/mL n w=2:=by
 unfold mL;split
 ·exact .inl rfl
 ·split
  ·exact .inr (.inr rfl)
  ·exact .inr (.inl rfl)
theorem pow64{a:Nat}(h:a < 3):(0:Int) < 64 ^ a/\(64:Int) ^ a < 2 ^ 30:=by exact TG h (by decide) (by decide) (by decide)
theorem LC(H:Hy G){n w:Int}:FW (k+2) mu (.ref 285) [.int n,.int w] λy nu=>y= .list ((gm n w).map .int)/\nu=mu:=by
 refine te H H.f285 (names:=["number","way"]) (vals':=λL=>[ae (.int n),ae (.int w)]) (λpm cd doc vs h=>?_) (by decide+kernel) rfl (λpm cd doc L=>?_) (λpm cd doc L he=>?_)
 ·exact zM h λa b=>rfl
 ·exact .cons (j:=0) (.cell (L+1) "number") rfl (.cons (j:=1) (.cell (L+2) "way") rfl .nil)
 have hc:=kY n w;have hcc:(if w % 3 == 0 then (3:Int) else 1+(if decide (63 < n) then 1 else 0))=(mL n w:Nat):=by unfold mL;split <;> first|rfl|(split <;> rfl)
 refine aC (gy (cg (y:= .list ((gm n w).map .int)) (bL
  (bE (cQ (jO _ _ _ ⟨rfl,rfl,by decide+kernel,by decide+kernel⟩ (fJ (iO H he H.b_range rfl) (Rj (da (cQ (br (cQ (ah (j:=1) he (.cell (L+2) "way") aa rfl)) (cQ aU) (by exact fk (by decide)))) (cQ aU) (by exact qq)) (λh=>aU) (λh=>(br (cQ aU) (cQ (iZ (iO H he H.b_int rfl) (au (cQ (mH (cQ (ah (j:=0) he (.cell (L+1) "number") aa rfl)) (cQ aU) (by exact GU))) aT) (by exact rE))) (by exact fB)))) hcc (by lia)) (by lia) (by (simp only [ak,fo,eW,ba] <;> lia)) (λC1 a ha=>iu 1 he.comp .loc dm (λhb=>(br (cQ (br (cQ (br (cQ (br (cQ (ah (j:=0) he.comp (.cell (L+1) "number") (ab _ aa) rfl)) (cQ (br (cQ aU) (cQ (ah (j:=1) he.comp .loc aa rfl)) (BM (by decide) ?a1))) (l8 ?a2))) (cQ aU) (by exact fk (by decide)))) (cQ (br (cQ aU) (cQ (iZ (iO H he.comp H.b_int rfl) (au (cQ (mH (cQ (ah (j:=1) he.comp .loc aa rfl)) (cQ aU) (by exact GU))) aT) (by exact rE))) (by exact mX (by decide)))) (by exact fB))) (cQ (br (cQ aU) (cQ (br (cQ (br (cQ (ah (j:=1) he.comp (.cell (L+2) "way") (ab _ aa) rfl)) (cQ (br (cQ (ah (j:=1) he.comp .loc aa rfl)) (cQ aU) (by exact fB))) (l8 ?a3))) (cQ aU) (by exact fk (by decide)))) (by exact mX (by decide)))) (by exact fB)))))) (jo dN dN (eQ (o5 aU))) (by exact o9 (by decide) (by (simp only [ak,fo,eW,ba] <;> lia))))
  ?a6) (kh ⟨rfl,rfl⟩)))
 case a1=>have:=aY.mp ha;omega
 case a2=>exact pow64 (by have:=aY.mp ha;omega)
 case a3=>have:=aY.mp ha;omega
 case a6=>unfold gm;rw [<- jr,a0];rfl
theorem tM{n w:Int}(h:mL n w=3):gm n w=[pS n w 2,pS n w 1,pS n w 0]:=by unfold gm;rw [h,jr,show jq (aN 3) av av (ae (-1))=[2,1,0] from by decide+kernel];rfl
theorem yy{n w:Int}(h:mL n w=2):gm n w=[pS n w 1,pS n w 0]:=by unfold gm;rw [h,jr,show jq (aN 2) av av (ae (-1))=[1,0] from by decide+kernel];rfl
theorem yz{n w:Int}(h:mL n w=1):gm n w=[pS n w 0]:=by unfold gm;rw [h,jr,show jq (aN 1) av av (ae (-1))=[0] from by decide+kernel];rfl
theorem vU(n:Nat)(w:Int)(i:Nat):uO (pS n w i).toNat (n / 64 ^ i % 64) (decide (0 < i)):=by
 have e:(n:Int) / 64 ^ i % 64=((n / 64 ^ i % 64:Nat):Int):=by simp
 have hb:n / 64 ^ i % 64 < 64:=ee _ (by decide);unfold pS;rw [e];generalize n / 64 ^ i % 64=d at*;have h2:=Int.emod_two_eq (w / ((i:Int)+1));constructor
 ·rcases h2 with h|h <;> rw [h] <;> split <;> lia
 ·by_cases hi:0 < i
  ·have:(0:Int) < i:=by lia
   rcases h2 with h|h <;> rw [h] <;> simp [hi] <;> lia
  ·have:¬(0:Int) < i:=by lia
   rcases h2 with h|h <;> rw [h] <;> simp [hi] <;> lia
theorem sD{n:Nat}{w:Int}(hn:n < 4096)(rs:List Nat):mK ((gm n w).map uq++rs)=ae (n,rs):=by
 have o0:=vU n w 0;have o1:=vU n w 1;have o2:=vU n w 2;simp only [show decide (0 < 0)=aH from rfl,show decide (0 < 1)=aJ from rfl,show decide (0 < 2)=aJ from rfl] at o0 o1 o2;rcases kY n w with h|h|h
 ·rw [tM h];refine (vint3 o2 o1 o0).trans ?_;have:(n / 64 ^ 2 % 64*64+n / 64 ^ 1 % 64)*64+n / 64 ^ 0 % 64=n:=by lia
  rw [this];rfl
 ·rw [yz h];refine (vint1 o0).trans ?_;have h63:n < 64:=by
   unfold mL at h
   split at h
   ·exact absurd h (by decide)
   ·split at h
    ·exact absurd h (by decide)
    ·rename_i hd;simp at hd;lia
  have:n / 64 ^ 0 % 64=n:=by lia
  rw [this];rfl
 ·rw [yy h];refine (vint2 o1 o0).trans ?_;have:n / 64 ^ 1 % 64*64+n / 64 ^ 0 % 64=n:=by lia
  rw [this];rfl
section
set_option tactic.hygienic true
inductive BW(hs:List (List Nat))(block:Nat)(marks:List Nat):List Nat->Prop
 |one {c:_}:c∈hs.getD block []->BW hs block marks [c]
 |ext {w c d:_}:BW hs block marks w->w.getLast? =ae c->c∉marks->c≠block->d∈hs.getD c []->d∉w->BW hs block marks (w++[d])
structure zR(hs:List (List Nat)):Prop where
 len:hs.length=6
 lt:∀b,∀c∈hs.getD b [],c < 6
 nd:∀b,(hs.getD b []).Nodup
noncomputable def mM:Nat->Nat
 |0=>1
 |m+1=>1+(m+1)*mM m
noncomputable def w0(w:List Nat):Nat:=mM (6 - w.length)
structure WOk(w:List Nat):Prop where
 nd:w.Nodup
 lt:∀c∈w,c < 6
 ne:w≠[]
theorem ti:∀{l m:List Nat},l.Nodup->(∀a∈l,a∈m)->l.length<=m.length
 |[],_,_,_=>gq _
 |a::l,m,hn,hs=>by
  have ha:=hs a aa;refine dU (cj.mp hn) λh1 h2=>?_;have ih:=ti (m:=m.erase a) h2 λb hb=>(List.mem_erase_of_ne (show b≠a from λe=>h1 (e▸hb))).mpr (hs b (ab _ hb));rw [List.length_erase_of_mem ha] at ih;have:=List.length_pos_of_mem ha;simp only [bJ];lia
theorem ez{w:List Nat}(nd:w.Nodup)(lt:∀c∈w,c < 6):w.length<=6:=by have h:w.length<=(aN 6).length:=ti nd λc hc=>aY.mpr (lt c hc);exact h
theorem BW.ok{hs:List (List Nat)}{block:Nat}{marks w:List Nat}(H:zR hs)(h:BW hs block marks w):WOk w:=by
 induction h with
 |one hc=>exact ⟨by simp,λc zl=>by refine ai (aA.mp zl ..) ?_;exact H.lt _ _ hc,by simp⟩
 |ext _ _ _ _ hd hn ih=>exact ⟨by
  refine gj (bO ..) ?_;exact ⟨ih.nd,by simp,λa ha b hb e=>by rw [aA.mp hb] at e;exact hn (e▸ha)⟩,λc hc=>by
  rcases bb.mp hc with h|h
  ·exact ih.lt c h
  ·refine ai (aA.mp h ..) ?_;exact H.lt _ _ hd,by simp⟩
noncomputable def j6(hs:List (List Nat))(block:Nat)(marks w:List Nat):List (List Nat):=
 match w.getLast? with
 |none=>[]
 |some c=>if c∈marks then [] else if c=block then [] else ((hs.getD c []).filter λd=>!decide (d∈w)).map λd=>w++[d]
theorem qF:∀m,0 < mM m
 |0=>by decide
 |m+1=>by unfold mM;lia
set_option tactic.hygienic true in
theorem IQ{hs:List (List Nat)}{block:Nat}{marks w:List Nat}(H:zR hs)(hw:WOk w):((j6 hs block marks w).map w0).sum < w0 w:=by
 unfold j6
 split
 ·simp [w0,qF]
 ·rename_i c hc
  split
  ·simp [w0,qF]
  split
  ·simp [w0,qF]
  ·generalize hl:(hs.getD c []).filter (λd=>!decide (d∈w))=l;have SA:l.length+w.length<=6:=by
    have h1:(l++w).Nodup:=by refine gj (bO ..) (⟨hl▸(H.nd c).filter _,hw.nd,λa ha b hb e=>?_⟩);rw [<- hl] at ha;have:=(bl.mp ha).2;simp at this;exact this (e▸hb)
    have:=ez h1 λa ha=>by
     rcases bb.mp ha with h|h
     ·rw [<- hl] at h;exact H.lt _ _ (bl.mp h).1
     ·exact hw.lt a h
    simpa using this
   have SM:((l.map λd=>w++[d]).map w0).sum=l.length*mM (6 - (w.length+1)):=by
    clear hl SA;induction l with
    |nil=>simp
    |cons a l ih=>
     simp only [bA,df,bJ,ih];have:w0 (w++[a])=mM (6 - (w.length+1)):=by simp [w0]
     (refine ai (this ..) ?_;refine ai (iT ..) ?_);lia
   refine ai (SM ..) ?_;unfold w0;by_cases h6:w.length=6
   ·have:l.length=0:=by lia
    (refine ai (this ..) ?_;refine ai (h6 ..) ?_);simp [mM]
   ·have PP:w.length < 6:=by lia
    obtain ⟨m,hm⟩:∃m,6 - w.length=m+1:=⟨5 - w.length,by lia⟩;have hm':6 - (w.length+1)=m:=by lia
    refine ai (hm ..) ?_;refine ai (hm' ..) ?_;rewrite [mM];have:l.length<=m+1:=by lia
    have:=xq (mM m) this;lia
structure nN(hs:List (List Nat))(block:Nat)(marks:List Nat)(i:Nat)(ws:List (List Nat)):Prop where
 ok:∀w∈ws,BW hs block marks w
 init:∀c∈hs.getD block [],[c]∈ws
 step:∀j w,j < i->ws[j]? =ae w->∀v∈j6 hs block marks w,v∈ws
 le:i<=ws.length
 room:i+((ws.drop i).map w0).sum<=2000
theorem nN.len{hs:List (List Nat)}{block:Nat}{marks:List Nat}{i:Nat}{ws:List (List Nat)}(h:nN hs block marks i ws):ws.length<=2000:=by
 have h1:(ws.drop i).length<=((ws.drop i).map w0).sum:=by
  generalize ws.drop i=l;induction l with
  |nil=>simp
  |cons a l ih=>simp only [bJ,bA,df];have:=qF (6 - a.length);unfold w0 at*;lia
 have:=h.room;have h2:=h.le;rw [fY] at h1;lia
theorem nN.start{hs:List (List Nat)}{block:Nat}{marks:List Nat}(H:zR hs):nN hs block marks 0 ((hs.getD block []).map λc=>[c]) where
 ok:=λw hw=>by obtain ⟨c,hc,rfl⟩:=aG.mp hw;exact .one hc
 init:=λc hc=>aG.mpr ⟨c,hc,rfl⟩
 step:=λj w hj=>absurd hj (GP _)
 le:=gq _
 room:=by
  have h1:(((hs.getD block []).map λc=>[c]).map w0).sum=(hs.getD block []).length*mM 5:=by
   generalize hs.getD block []=l;induction l with
   |nil=>simp
   |cons a l ih=>simp only [bA,df,bJ,ih];have:w0 [a]=mM 5:=rfl;(refine ai (this ..) ?_;refine ai (iT ..) ?_);lia
  have h2:=ez (H.nd block) (H.lt block);refine ai (fx ..) ?_;refine ai (h1 ..) ?_;have:mM 5=326:=by decide
  refine ai (this ..) ?_;lia
def nN.turn.S0(hs:List (List Nat))(block:Nat)(marks:List Nat)(i:Nat)(ws:List (List Nat))(w:List Nat):Prop:=∀(H:zR hs) (h:nN hs block marks i ws) (hw:ws[i]? =ae w),nN hs block marks (i+1) (ws++j6 hs block marks w)/\(((ws++j6 hs block marks w).drop (i+1)).map w0).sum < ((ws.drop i).map w0).sum
namespace nN.turn
@[irreducible] def e0:=Fi gE eO gE eO gE gE S0
def kD:=e0.1
def eM:=e0.2.1
def dA:=e0.2.2.1
def i_:=e0.2.2.2.1
def qG:=e0.2.2.2.2.1
def w_:=e0.2.2.2.2.2
theorem T0:S0 kD eM dA i_ qG w_:=by
 intro H h hw;have hlt:i_ < qG.length:=(aB.mp hw).1;have MW:=h.ok w_ (ao hw);have hp:=IQ (block:=eM) (marks:=dA) H (MW.ok H);have HM:(qG++j6 kD eM dA w_).drop (i_+1)=qG.drop (i_+1)++j6 kD eM dA w_:=by refine ai (gu (by lia) ..) ?_;rfl
 have hd:qG.drop i_=w_::qG.drop (i_+1):=by refine ai (dZ hlt ..) ?_;congr 1;exact (aB.mp hw).2
 have zf:((qG.drop i_).map w0).sum=w0 w_+((qG.drop (i_+1)).map w0).sum:=by refine ai (hd ..) ?_;simp
 have Gy:(((qG++j6 kD eM dA w_).drop (i_+1)).map w0).sum=((qG.drop (i_+1)).map w0).sum+((j6 kD eM dA w_).map w0).sum:=by refine ai (HM ..) ?_;simp
 refine ⟨⟨λv hv=>?_,λc hc=>aE _ (h.init c hc),λj v hj hv=>?_,by simp;lia,?_⟩,by lia⟩
 ·rcases bb.mp hv with hv|hv
  ·exact h.ok v hv
  ·unfold j6 at hv
   split at hv
   ·simp at hv
   ·rename_i c hc
    split at hv
    ·simp at hv
    split at hv
    ·simp at hv
    ·refine aK (aG.mp hv) λd hd dP=>?_;subst dP;have:=(bl.mp hd).2;simp at this;exact .ext MW hc ‹_› ‹_› (bl.mp hd).1 this
 ·intro u hu;by_cases Ub:j=i_
  ·subst Ub;rw [eE hlt,hw] at hv
   (have lz:=aO hv;clear hv;subst lz)
   exact bK _ hu
  ·have hj':j < i_:=by lia
   rw [eE (by exact CL (by assumption) (by assumption))] at hv;exact aE _ (h.step j v hj' hv u hu)
 ·have:=h.room;lia
end nN.turn
theorem nN.turn{hs:List (List Nat)}{block:Nat}{marks:List Nat}{i:Nat}{ws:List (List Nat)}{w:List Nat}:nN.turn.S0 hs block marks i ws w:=by with_unfolding_all exact uz _ _ _ _ _ _ nN.turn.S0 @nN.turn.T0 hs block marks i ws w
theorem nN.done{hs:List (List Nat)}{block:Nat}{marks:List Nat}{ws:List (List Nat)}(h:nN hs block marks ws.length ws)(w:List Nat):w∈ws↔BW hs block marks w:=by
 refine ⟨h.ok w,λhw=>?_⟩;induction hw with
 |one hc=>exact h.init _ hc
 |ext _ hc hm hb hd hn ih=>refine cK (iq.mp ih) λj hj=>h.step j _ (aB.mp hj).1 hj _ ?_;unfold j6;refine ai (hc ..) ?_;simp only [if_neg hm,if_neg hb];exact aG.mpr ⟨_,bl.mpr ⟨hd,by simpa using hn⟩,rfl⟩
end
theorem dp{α:Type _}(u:List α){v:List α}(h:v≠[]):(u++v).getLast? =v.getLast? :=by (refine ai (TC ..) ?_;refine ai (gv h ..) ?_);rfl
noncomputable def ei(hs:List (List Nat)):Nat->List Nat->Prop
 |_,[]=>True
 |b,c::w=>c∈hs.getD b []/\ei hs c w
theorem ei.append{hs:List (List Nat)}:∀{b:Nat} {u v:List Nat},ei hs b (u++v)↔ei hs b u/\ei hs ((b::u).getLast (by simp)) v
 |b,[],v=>(and_iff_right trivial).symm
 |b,c::u,v=>by
  refine ai (fU ..) ?_;show (_/\ei hs c (u++v))↔(_/\ei hs c u)/\_;refine gj (ei.append ..) ?_;refine gj (and_assoc ..) ?_;simp
theorem BW.back{hs:List (List Nat)}{b:Nat}{marks w:List Nat}(h:BW hs b marks w):ei hs b w:=by
 induction h with
 |one hc=>exact ⟨hc,trivial⟩
 |@ext w c d hw hl hm hb hd hn ih=>
  refine gj (ei.append ..) (⟨ih,?_,trivial⟩);have:(b::w).getLast (by simp)=c:=by
   cases w with
   |nil=>simp at hl
   |cons a w=>refine ai (kf (by simp) ..) ?_;rw [gv (by simp)] at hl;exact aO hl
  refine ai (this ..) ?_;exact hd
theorem B8{hs:List (List Nat)}{b:Nat}{marks:List Nat}{U:Nat->Prop}{n:Nat}
 (SX:∀v,ei hs b v->(∀c∈v,U c)->(∃c,v.getLast? =ae c/\c∈marks)->n<=v.length) {w:List Nat} (hlen:w.length=n) (hw:ei hs b w) (hU:∀c∈w,U c) (hl:∃c,w.getLast? =ae c/\c∈marks):
 ∀u v,w=u++v->u≠[]->BW hs b marks u:=by
 intro u
 suffices H:∀k u v,u.length=k->w=u++v->u≠[]->BW hs b marks u from λv=>H u.length u v rfl
 intro k;induction k with
 |zero=>intro u v h1 z h3;exact absurd (NK.mp h1) h3
 |succ k ih=>
  intro u v h1 h2 h3;obtain ⟨u',d,rfl⟩:∃u' d,u=u'++[d]:=⟨u.dropLast,u.getLast h3,(GQ h3).symm⟩;have hk:u'.length=k:=by simpa using h1
  by_cases QJ:u'=[]
  ·subst QJ;have:ei hs b (d::v):=by rw [h2] at hw;exact hw
   exact .one this.1
  ·have hb':=ih u' (d::v) hk (by refine ai (h2 ..) ?_;simp) QJ;have hwb:ei hs b (u'++(d::v)):=by rw [h2] at hw;simpa using hw
   rw [ei.append] at hwb;have hcl:u'.getLast? =ae (u'.getLast QJ):=gv QJ;have Bq:(b::u').getLast (by simp)=u'.getLast QJ:=kf QJ;rw [Bq] at hwb;have hmemu:u'.getLast QJ∈w:=by refine ai (h2 ..) ?_;simp
   refine .ext hb' hcl ?_ ?_ hwb.2.1 ?_
   ·intro hm;have:=SX u' hwb.1 (λc hc=>hU c (by refine ai (h2 ..) ?_;simp [hc])) ⟨_,hcl,hm⟩;rw [<- hlen,h2] at this;simp at this;lia
   ·intro hbk;have hlv:∃c,(d::v).getLast? =ae c/\c∈marks:=by
     refine aK hl λc h4 h5=>?_;clear hl;refine ⟨c,?_,h5⟩;rw [h2] at h4;rw [bU,dp _ (by simp)] at h4;exact h4
    have:=SX (d::v) (by have:=hwb.2;rw [hbk] at this;exact this) (λc hc=>hU c (by refine ai (h2 ..) ?_;simp at hc ⊢;rcases hc with h|h <;> simp [h])) hlv;rw [<- hlen,h2] at this;have iQ:u'.length≠0:=λh=>QJ (NK.mp h);simp only [ba,bJ,GN] at this;lia
   ·intro hd;refine ox (eX hd) λp q PQ=>?_;have hback:ei hs b ((p++[d])++v):=by
     have h6:ei hs b ((p++[d])++(q++(d::v))):=by
      have:w=(p++[d])++(q++(d::v)):=by (refine ai (h2 ..) ?_;refine ai (PQ ..) ?_);simp
      rw [this] at hw;exact hw
     have h7:ei hs b ((p++d::q)++([d]++v)):=by
      have:w=(p++d::q)++([d]++v):=by (refine ai (h2 ..) ?_;refine ai (PQ ..) ?_);simp
      rw [this] at hw;exact hw
     rw [ei.append] at h6;rw [<- bU,ei.append] at h7;refine gj (ei.append ..) (⟨h6.1,?_⟩);have e0:∀(l:List Nat) (hh:(b::(l++[d]))≠[]),(b::(l++[d])).getLast hh=d:=λl hh=>by
      refine ai (kf (by simp) ..) ?_;simp
     have e1:=e0 p (by simp);have e2:=e0 (p++d::q) (by simp);refine ai (e1 ..) ?_;have:=h7.2;rw [e2] at this;exact this
    have hlv:∃c,((p++[d])++v).getLast? =ae c/\c∈marks:=by
     refine aK hl λc h4 h5=>?_;clear hl;refine ⟨c,?_,h5⟩;rw [h2] at h4;cases v with
     |nil=>simpa using h4
     |cons x v=>rw [dp _ (by simp)] at h4 ⊢;exact h4
    have:=SX _ hback (λc hc=>hU c (by (refine ai (h2 ..) ?_;refine ai (PQ ..) ?_);simp at hc ⊢;rcases hc with h|h|h <;> simp [h])) hlv;rw [<- hlen,h2,PQ] at this;simp at this;lia
def kZ.S0(hs:List (List Nat))(b:Nat)(marks w:List Nat):Prop:=∀(hw:ei hs b w) (hl:∃c,w.getLast? =ae c/\c∈marks),∃v,BW hs b marks v/\(∃c,v.getLast? =ae c/\c∈marks)/\∀c∈v,c∈w
namespace kZ
@[irreducible] def e0:=GT gE eO gE gE S0
def kD:=e0.1
def b_:=e0.2.1
def dA:=e0.2.2.1
def w_:=e0.2.2.2
theorem T0:S0 kD b_ dA w_:=by
 intro hw hl;have ex:∃n,∃v,v.length=n/\ei kD b_ v/\(∀c∈v,c∈w_)/\∃c,v.getLast? =ae c/\c∈dA:=⟨_,w_,rfl,hw,λz h=>h,hl⟩;have key:∀n,(∃v,v.length=n/\ei kD b_ v/\(∀c∈v,c∈w_)/\∃c,v.getLast? =ae c/\c∈dA)->∃m,(∃v,v.length=m/\ei kD b_ v/\(∀c∈v,c∈w_)/\∃c,v.getLast? =ae c/\c∈dA)/\∀k,k < m->¬∃v,v.length=k/\ei kD b_ v/\(∀c∈v,c∈w_)/\∃c,v.getLast? =ae c/\c∈dA:=by
  intro n;induction n using vr with
  |ind n ih=>
   intro h;by_cases hk:∃k,k < n/\∃v,v.length=k/\ei kD b_ v/\(∀c∈v,c∈w_)/\∃c,v.getLast? =ae c/\c∈dA
   ·refine aK hk λk h1 h2=>?_;clear hk;exact ih k h1 h2
   ·exact ⟨n,h,λk h1 h2=>hk ⟨k,h1,h2⟩⟩
 refine cK ex λn hn=>?_;clear ex;refine aK (key n hn) λm dP h5=>Bt dP λv h1 h2 h3 h4=>?_;clear dP;have hv:v≠[]:=by rintro rfl;obtain ⟨c,hc,_⟩:=h4;simp at hc
 refine ⟨v,B8 (U:=(·∈w_)) (n:=m) (λu hu hU hl=>?_) h1 h2 h3 h4 v [] (by simp) hv,h4,h3⟩;rcases gX u.length m with h|h
 ·exact absurd ⟨u,rfl,hu,hU,hl⟩ (h5 _ h)
 ·exact h
end kZ
theorem kZ{hs:List (List Nat)}{b:Nat}{marks w:List Nat}:kZ.S0 hs b marks w:=by with_unfolding_all exact vx _ _ _ _ kZ.S0 @kZ.T0 hs b marks w
def vV(hs:List (List Nat))(b:Nat)(marks w:List Nat):Prop:=BW hs b marks w/\∃c,w.getLast? =ae c/\c∈marks
def gJ(hs:List (List Nat))(b o:Nat):Prop:=o=b\/(b≠0/\∀w,vV hs b [0] w->o∈w)
theorem gJ.self{hs:List (List Nat)}{b:Nat}:gJ hs b b:= .inl rfl
theorem gJ.step{hs:List (List Nat)}{b o:Nat}(h:gJ hs b o):o=b\/∀c∈hs.getD b [],gJ hs c o:=by
 rcases h with h|⟨_,h⟩
 ·exact .inl h
 ·refine .inr λc hc=>?_;by_cases hoc:o=c
  ·exact .inl hoc
  ·refine .inr ⟨λe=>?_,λw hw=>?_⟩
   ·subst e;have:=h [0] ⟨.one hc,0,rfl,by simp⟩;exact hoc (by simpa using this)
   have hb:ei hs b (c::w):=⟨hc,hw.1.back⟩;have iQ:w≠[]:=by rintro rfl;refine aK (hw.2) λd hd z=>?_;simp at hd
   have hl:∃d,(c::w).getLast? =ae d/\d∈[0]:=by exact aK (hw.2) λd hd hm=>⟨d,by rw [show c::w=[c]++w from rfl,dp _ iQ];exact hd,hm⟩
   refine ef (kZ hb hl) λv hv MX qY=>?_;rcases aP.mp (qY o (h v ⟨hv,MX⟩)) with e|e
   ·exact absurd e hoc
   ·exact e
theorem D4{hs:List (List Nat)}{D:Nat->Nat->Prop}(h0:∀o,D 0 o->o=0)(Gx:∀b o,b≠0->D b o->o=b\/∀c∈hs.getD b [],D c o):
 ∀{w:List Nat} {b o:Nat},ei hs b w->w.getLast? =ae 0->b≠0->D b o->o=b\/o∈w
 |[],b,o,_,h,_,_=>by simp at h
 |c::w,b,o,hb,hl,hn,hD=>by
  rcases Gx b o hn hD with e|e
  ·exact .inl e
  ·have hc:=e c hb.1;by_cases zy:c=0
   ·subst zy;exact .inr (by rw [h0 o hc];exact aa)
   ·have iQ:w≠[]:=by
     rintro rfl;simp at hl;exact zy hl
    have hl':w.getLast? =ae 0:=by rw [<- hl,show c::w=[c]++w from rfl,dp _ iQ]
    rcases D4 h0 Gx hb.2 hl' zy hc with e|e
    ·exact .inr (by rw [e];exact aa)
    ·exact .inr (ab _ e)
theorem LD{hs:List (List Nat)}{D:Nat->Nat->Prop}(h0:∀o,D 0 o->o=0)(Gx:∀b o,b≠0->D b o->o=b\/∀c∈hs.getD b [],D c o)(qi:∀b o,b≠0->gJ hs b o->D b o){b o:Nat}(hn:b≠0):D b o↔gJ hs b o:=by
 refine ⟨λh=>?_,qi b o hn⟩;by_cases Bp:o=b
 ·exact .inl Bp
 ·refine .inr ⟨hn,λw hw=>?_⟩;refine aK (hw.2) λc hc hm=>?_;have:c=0:=by simpa using hm
  subst this;rcases D4 h0 Gx hw.1.back hc hn h with e|e
  ·exact absurd e Bp
  ·exact e
variable {hs:List (List Nat)}
noncomputable abbrev wV(w:List Nat):V:= .list (w.map nV)
noncomputable abbrev LF(L:ay)(hs:List (List Nat))(block:Nat)(marks:List Nat)(T W:ay)(o:Option V):cY:=
 bq L (aM (L+1) (bj (cO 20)).names) [ae (.list (hs.map wV)),ae (nV block),ae (wV marks),ae (.ref T),ae (.ref W),o]
noncomputable def tN(marks w:List Nat):Bool:=match w.getLast? with
 |some c=>decide (c∈marks)
 |none=>aH
theorem yA{marks w:List Nat}:tN marks w=aJ↔∃c,w.getLast? =ae c/\c∈marks:=by
 delta tN;cases w.getLast? with
 |none=>exact ⟨λh=>vy h,λh=>aK h λc h z=>gL h⟩
 |some c=>exact ⟨λh=>⟨c,rfl,of_decide_eq_true h⟩,λh=>aK h λd e h=>decide_eq_true (aO e▸h)⟩
section
noncomputable def k0(hs:List (List Nat))(block:Nat)(marks:List Nat):Nat->List (List Nat)
 |0=>(hs.getD block []).map λc=>[c]
 |i+1=>match (k0 hs block marks i)[i]? with
  |some w=>k0 hs block marks i++j6 hs block marks w
  |none=>k0 hs block marks i
variable {block:Nat}{marks:List Nat}
theorem AP{i:Nat}{w:List Nat}(h:(k0 hs block marks i)[i]? =ae w):k0 hs block marks (i+1)=k0 hs block marks i++j6 hs block marks w:=by show (match (k0 hs block marks i)[i]? with|some w=>k0 hs block marks i++j6 hs block marks w|none=>k0 hs block marks i)=_;refine ai (h ..) ?_;rfl
theorem AQ{i:Nat}(h:(k0 hs block marks i).length=i):∀j,k0 hs block marks (i+j)=k0 hs block marks i
 |0=>rfl
 |j+1=>by
  have ih:=AQ h j;show k0 hs block marks (i+j+1)=_;show (match (k0 hs block marks (i+j))[i+j]? with|some w=>k0 hs block marks (i+j)++j6 hs block marks w|none=>k0 hs block marks (i+j))=_;(refine ai (ih ..) ?_;refine ai (il (by lia) ..) ?_);rfl
theorem IR(H:zR hs):∀(m i:Nat),(((k0 hs block marks i).drop i).map w0).sum=m->nN hs block marks i (k0 hs block marks i)->∃n,nN hs block marks n (k0 hs block marks n)/\(k0 hs block marks n).length=n:=by
 intro m;induction m using vr with
 |ind m ih=>
  intro i hm t9;by_cases hl:(k0 hs block marks i).length=i
  ·exact ⟨i,t9,hl⟩
  ·have hlt:i < (k0 hs block marks i).length:=by have:=t9.le;lia
   have hw:=bH hlt;refine dU (t9.turn H hw) λt1 t2=>?_;rw [<- AP hw] at t1 t2;exact ih _ (hm▸t2) (i+1) rfl t1
noncomputable def gK(hs:List (List Nat))(block:Nat)(marks:List Nat):List (List Nat):=(k0 hs block marks 2000).filter (tN marks)
theorem AR{n:Nat}(h:nN hs block marks n (k0 hs block marks n))(hl:(k0 hs block marks n).length=n):k0 hs block marks 2000=k0 hs block marks n:=by
 have h1:=h.len;have:=AQ hl (2000 - n)
 rwa [show n+(2000 - n)=2000 by lia] at this
theorem rX(H:zR hs):(gK hs block marks).length<=2000/\∀w,w∈gK hs block marks↔vV hs block marks w:=by refine aK (IR (block:=block) (marks:=marks) H _ 0 rfl (nN.start H)) λn h hl=>?_;unfold gK;refine ai (AR h hl ..) (⟨aw (bu _ _) h.len,λw=>?_⟩);refine gj (bl ..) ?_;refine gj (yA ..) ?_;exact and_congr_left λz=>nN.done (by refine ai (hl ..) ?_;exact h) w
end
def m9.S0(k:Nat)(mu:Mu)(hs:List (List Nat))(block:Nat)(marks:List Nat)(_:Nat):Prop:=∀(H:Hy G) (hh:zR hs) (hb:block < 6) (hm:marks.length<=100),FW (k+2) mu (.ref 290) [.list (hs.map wV),nV block,wV marks] λy nu=>y= .list ((gK hs block marks).map wV)/\nu=mu
namespace m9
@[irreducible] def e0:=Fi eO gE gE eO gE eO S0
def k_:=e0.1
def e9:=e0.2.1
def kD:=e0.2.2.1
def eM:=e0.2.2.2.1
def dA:=e0.2.2.2.2.1
theorem T0:S0 k_ e9 kD eM dA e0.2.2.2.2.2:=by
 intro H hh hb hm;refine te H H.f290 (names:=["heads","block","marks"]) (vals':=λL=>[ae (.list (kD.map wV)),ae (nV eM),ae (wV dA),av,av,av]) (λpm cd doc vs h=>?_) (by decide+kernel) rfl (λpm cd doc L=>?_) (λpm cd doc L he=>?_)
 ·exact N6 h λa b c=>rfl
 ·exact .cons (j:=0) .loc rfl (.cons (j:=1) .loc rfl (.cons (j:=2) .loc rfl .nil))
 have hbl:kD.length=6:=hh.len;have hget:∀b,b < 6->kD[b]? =ae (kD.getD b []):=λb hb=>by
  (refine ai (bR ..) ?_;refine ai (bH (by lia) ..) ?_);rfl
 refine aC (b4 (sy (xs:=[]) aT (bg rfl) (λT=>fK.ref (aQ (i:=1) (j:=3) he .loc rfl ?_))) rfl rfl);refine aC (FD (kD.getD eM []) nV (λc=>wV [c]) ⟨rfl,rfl,by decide+kernel,by decide+kernel⟩ (dB (bE (cQ (ah (j:=0) he .loc (ab _ aa) rfl)) (cQ (ah (j:=1) he .loc (ab _ aa) rfl)) (by exact ew (inj:=wV) (hget eM hb) (by lia)))) (by lia) ?sz (λC1 a ha=>iu 1 he.comp .loc dm (λhb=>(ij (xs:=[_]) (au (ah (j:=1) he.comp .loc aa rfl) aT) (bg rfl)))) rfl (λW=>fK.ref (aQ (i:=2) (j:=4) he .loc rfl ?_)))
 case sz=>have:=ez (hh.nd eM) (hh.lt eM);exact aw (by assumption) (by decide)
 show WS (k_+1) (bk W ((kD.getD eM []).map λc=>wV [c])::bk T []::LF L kD eM dA T W av::e9) _ _ _;have fill:∀(i:Nat) (ws:List (List Nat)) (w:List Nat),ws[i]? =ae w->((ws.take (i+1)).filter (tN dA))=((ws.take i).filter (tN dA))++(if tN dA w then [w] else []):=λi ws w h=>by
  (refine ai (dG ..) ?_;refine ai (h ..) ?_);simp [fX,hZ]
 refine aC (G9 (λm i xs nu=>∃ws o,xs=ws.map wV/\m=((ws.drop i).map w0).sum/\(nN kD eM dA i ws/\ws=k0 kD eM dA i)/\nu=bk W xs::bk T (((ws.take i).filter (tN dA)).map wV)::LF L kD eM dA T W o::e9)
  (ah (j:=4) he .loc (ab _ (ab _ aa)) rfl) (by lia) _ _ ⟨(kD.getD eM []).map λc=>[c],av,by (refine ai (a0 ..) ?_;rfl) <;> rfl,rfl,⟨nN.start hh,rfl⟩,by refine ai (xk ..) ?_;rfl⟩
  (λm i xs nu ⟨ws,o,e1,e2,e3,e4⟩=>by refine ai (e4 ..) ?_;exact aa) ?step ?fin (λm i xs nu ⟨ws,o,e1,e2,e3,e4⟩=>by (refine ai (e1 ..) ?_;refine ai (ak ..) ?_);exact e3.1.le))
 case fin=>
  intro m i xs nu dP hi;refine ir dP λws o e1 e2 e3 e4=>?_;clear dP;refine bB ?_;subst e4;refine aC (gy (cg (ah (j:=3) he .loc (ab _ (ab _ aa)) rfl) ?_));have hi':i=ws.length:=by (refine fZ (hi ..) ?_;refine ai (e1 ..) ?_;refine ai (ak ..) ?_;rfl)
  subst hi';refine jJ.tail (jJ.list (gW _ _) ⟨?_,rfl⟩);unfold gK;refine ai (AR (n:=ws.length) (by rw [<- e3.2];exact e3.1) (by rw [<- e3.2]) ..) ?_;refine fZ (e3.2 ..) ?_;refine ai (cL ..) ?_;rfl
 case step=>
  intro m i xs nu x eT hx;refine ir eT λws o e1 e2 e3 e4=>?_;clear eT;subst e1 e4;rw [aI] at hx;refine aK (aL.mp hx) λw hw gi=>?_;subst gi;have MW:=e3.1.ok w (ao hw);have hok:=MW.ok hh;obtain ⟨c,hc⟩:∃c,w.getLast? =ae c:=by
   cases h:w.getLast? with
   |none=>exact absurd (List.getLast?_eq_none_iff.mp h) hok.ne
   |some c=>exact ⟨c,rfl⟩
  have uc:c < 6:=hok.lt c (dg hc);have hwl:w.length<=6:=ez hok.nd hok.lt;refine dU (e3.1.turn (w:=w) hh hw) λt1 t2=>?_;have t3:=(AP (hs:=kD) (block:=eM) (marks:=dA) (i:=i) (w:=w) (by refine fZ (e3.2 ..) ?_;exact hw)).symm;rw [<- e3.2] at t3;have hlen:=e3.1.len;refine aQ (i:=2) (j:=5) he (.cell (L+1) "way") rfl ?_;show WS (k_+1) (bk W (ws.map wV)::bk T (((ws.take i).filter (tN dA)).map wV)::LF L kD eM dA T W (ae (wV w))::e9) _ _ _;refine aC (iY (da (cQ (bE (cQ (ah (j:=5) he (.cell (L+1) "way") (ab _ (ab _ aa)) rfl)) (cQ (o5 aU)) (by exact xy hc (by exact b7 (by assumption) (by decide))))) (cQ (ah (j:=2) he .loc (ab _ (ab _ aa)) rfl)) (by exact Ku)) (λh=>?_) λh=>?_)
  ·have JM:c∈dA:=of_decide_eq_true h;have qi:tN dA w=aJ:=yA.mpr ⟨c,hc,JM⟩;have Gz:j6 kD eM dA w=[]:=by unfold j6;refine ai (hc ..) ?_;simp [JM]
   rw [Gz,cz] at t1 t2 t3;refine aC (ig (mY (ah (j:=3) he .loc (ab _ (ab _ aa)) rfl) (j4 (xs:=((ws.take i).filter (tN dA)).map wV) (ab _ aa)) (au (ah (j:=5) he (.cell (L+1) "way") (ab _ (ab _ aa)) rfl) aT) (kz (i:=1) rfl ?a1 ?a2) (by exact fP) (by exact iU) (by exact b9) rfl))
   case a1=>
    have q1:=bu (tN dA) (ws.take i);have q2:(ws.take i).length<=ws.length:=by refine ai (dD ..) ?_;exact ot _ _
    exact ai (ak ..) (b7 (aw q1 (aw q2 hlen)) (by decide))
   case a2=>refine bB (bB ?_);refine ⟨_,_,e2▸t2,ws,ae (wV w),rfl,rfl,⟨t1,t3⟩,?_⟩;refine ai (fill i ws w hw ..) ?_;refine ai (if_pos qi ..) ?_;simp only [bh];rfl
  ·have JM:c∉dA:=of_decide_eq_false h;have qi:tN dA w=aH:=by
    cases h:tN dA w
    ·rfl
    ·refine aK (yA.mp h) λc' h1 h2=>?_;rw [hc] at h1;(have lz:=aO h1;clear h1;subst lz);exact absurd h2 JM
   have keep:j6 kD eM dA w=[]->∃m' TT,m' < m/\∃Uc o,TT=Uc.map wV/\m'=((Uc.drop (i+1)).map w0).sum/\(nN kD eM dA (i+1) Uc/\Uc=k0 kD eM dA (i+1))/\bk W (ws.map wV)::bk T (((ws.take i).filter (tN dA)).map wV)::LF L kD eM dA T W (ae (wV w))::e9=bk W TT::bk T (((Uc.take (i+1)).filter (tN dA)).map wV)::LF L kD eM dA T W o::e9:=λGz=>by
    rw [Gz,cz] at t1 t2 t3;refine ⟨_,_,e2▸t2,ws,ae (wV w),rfl,rfl,⟨t1,t3⟩,?_⟩;refine ai (fill i ws w hw ..) ?_;refine ai (if_neg (by rw [qi];decide) ..) ?_;refine ai (cz ..) ?_;rfl
   refine aC (iY (da (cQ (bE (cQ (ah (j:=5) he (.cell (L+1) "way") (ab _ (ab _ aa)) rfl)) (cQ (o5 aU)) (by exact xy hc (by exact b7 (by assumption) (by decide))))) (cQ (ah (j:=1) he .loc (ab _ (ab _ aa)) rfl)) (by exact Fq)) (λh2=>?_) λh2=>?_)
   ·have QD:c≠eM:=by rintro rfl;simp at h2
    have hcl:(kD.getD c []).length<=6:=ez (hh.nd c) (hh.lt c);have Gz:j6 kD eM dA w=((kD.getD c []).filter λd=>!decide (d∈w)).map λd=>w++[d]:=by unfold j6;refine ai (hc ..) ?_;simp only [if_neg JM,if_neg QD]
    have PH:=bu (λd=>!decide (d∈w)) (kD.getD c []);refine aC (ig (mY (ah (j:=4) he .loc (ab _ (ab _ aa)) rfl) (j4 (xs:=ws.map wV) aa)
     (au (nD (kD.getD c []) nV (λd=>!decide (d∈w)) (λd=>wV (w++[d])) ⟨rfl,rfl,by decide+kernel,by decide+kernel⟩
      (dB (bE (cQ (ah (j:=0) he .loc (ab _ (ab _ aa)) rfl)) (cQ (bE (cQ (ah (j:=5) he (.cell (L+1) "way") (ab _ (ab _ aa)) rfl)) (cQ (o5 aU)) (by exact xy hc (by exact b7 (by assumption) (by decide))))) (by exact ew (inj:=wV) (hget c uc) (by lia)))) (by lia) (by exact aw (by assumption) (by decide))
      (λC2 a ha=>iu 1 he.comp .loc (fS (da (cQ (ah (j:=1) he.comp .loc aa rfl)) (cQ (ah (j:=5) he.comp (.cell (L+1) "way") (ab _ (ab _ (ab _ aa))) rfl)) (by exact Hb)))
       (λhb=>bL (br (cQ (ah (j:=5) he.comp (.cell (L+1) "way") (ab _ (ab _ (ab _ aa))) rfl)) (cQ (ij (xs:=[_]) (au (ah (j:=1) he.comp .loc aa rfl) aT) (bg rfl))) (by exact uH (by refine ai (ak ..) ?_;show w.length+1<=_;lia))) (by simp [wV])))) aT)
     (Ib (i:=0) rfl ?a3 ?a4) (by exact fP) (by exact F.slot_list_extend) (by exact b9) rfl))
    case a3=>(refine ai (ak ..) ?_;refine ai (ak ..) ?_);lia
    case a4=>refine bB (bB (bB ?_));rw [Gz] at t1 t2 t3;refine ⟨_,_,e2▸t2,_,ae (wV w),rfl,rfl,⟨t1,t3⟩,?_⟩;refine ai (fill i _ w (by rw [eE (aB.mp hw).1];exact hw) ..) ?_;refine ai (if_neg (by rw [qi];decide) ..) ?_;refine ai (cz ..) ?_;refine ai (Fg e3.1.le ..) ?_;simp only [bh,a0];rfl
   ·have QD:c=eM:=Na (by simpa using h2);refine bB (bB (bB (keep ?_)));unfold j6;refine ai (hc ..) ?_;simp only [if_neg JM,if_pos QD]
end m9
theorem m9{hs:List (List Nat)}{block:Nat}{marks:List Nat}:m9.S0 k mu hs block marks 0:=by with_unfolding_all exact uz _ _ _ _ _ _ m9.S0 @m9.T0 k mu hs block marks 0
theorem RP(H:Hy G){hs:List (List Nat)}{block:Nat}{marks:List Nat}(hh:zR hs)(hb:block < 6)(hm:marks.length<=100):
 FW (k+2) mu (.ref 290) [.list (hs.map wV),nV block,wV marks] λy nu=>nu=mu/\∃W:List (List Nat),y= .list (W.map wV)/\W.length<=2000/\∀w,w∈W↔BW hs block marks w/\∃c,w.getLast? =ae c/\c∈marks:=
 (m9 H hh hb hm).mono λy nu e=>⟨e.2,_,e.1,(rX hh).1,(rX hh).2⟩
noncomputable def pT(w:Int):bc:=if decide (w % 4 < 2) then "\\\"" else "\\\n\t\r "
noncomputable def lJ(w:Int)(q:Nat×Nat):bc:=
 if (w % 2 == 1) || ((!(c7 (pT w) ⟨#[q.1]⟩ 0 (pT w).length 1).isEmpty) || (((⟨#[q.1]⟩:bc) == "\"" && ((((q.2:Nat):Int) == 0) && aJ)) || false)) then "\\"++(⟨#[q.1]⟩:bc) else ⟨#[q.1]⟩
noncomputable def qH(x:bc)(w:Int):bc:=fO "" (x.cps.toList.zipIdx.map (lJ w))
noncomputable def jM(w:Int):bc:=(["\n","\t","\r"," ",if decide (w % 4 < 2) then "" else " \n"]:List bc).getD (w / 4 % 5).toNat ""
noncomputable def ik(x:bc)(w:Int):bc:=if decide (w % 4 < 2) then "\""++qH x w++"\""++jM w else qH x w++jM w
theorem LG(w:Int):([V.str "\n",.str "\t",.str "\r",.str " ",.str (if decide (w % 4 < 2) then "" else " \n")]:List V).getD (w / 4 % 5).toNat .none= .str (jM w):=by
 unfold jM;have h:(w / 4 % 5).toNat < 5:=by lia
 generalize (w / 4 % 5).toNat=n at h;exact lt5 h rfl rfl rfl rfl rfl
theorem AS(w:Int):(jM w).length<=2 ^ 22:=by
 unfold jM;have h:(w / 4 % 5).toNat < 5:=by lia
 generalize (w / 4 % 5).toNat=n at h
 match n,h with
 |0,_=>exact bg rfl
 |1,_=>exact bg rfl
 |2,_=>exact bg rfl
 |3,_=>exact bg rfl
 |4,_=>
  show (if decide (w % 4 < 2)=aJ then ("":bc) else " \n").length<=_
  split <;> decide
theorem qI(a b:bc):(a++b).length=a.length+b.length:=by show (a.cps++b.cps).size=_;refine ai (Array.size_append ..) ?_;rfl
def lK.S0(k:Nat)(x:bc)(w:Int)(_:Nat):Prop:=∀{mu:Mu} (H:Hy G) (hx:x.length<=1000) (hsz:(qH x w).length<=100000) (hj:M7 "" (x.cps.toList.zipIdx.map (lJ w))=aJ),FW (k+2) mu (.ref 280) [.str x,.int w] λy nu=>y= .str (ik x w)/\nu=mu
namespace lK
@[irreducible] def e0:=GT eO inferInstance QW eO S0
def k_:=e0.1
def x_:=e0.2.1
def w_:=e0.2.2.1
theorem T0:S0 k_ x_ w_ e0.2.2.2:=by
 intro mu H hx hsz hj;refine te H H.f280 (names:=["word","way"]) (vals':=λL=>[ae (.str x_),ae (.int w_),av,av,av,av]) (λpm cd doc vs h=>?_) (by decide+kernel) rfl (λpm cd doc L=>?_) (λpm cd doc L he=>?_)
 ·exact zM h λa b=>rfl
 ·exact .cons (j:=0) .loc rfl (.cons (j:=1) (.cell (L+1) "way") rfl .nil)
 have hx':x_.cps.toList.zipIdx.length<=2 ^ 21:=by have:x_.cps.toList.length=x_.length:=rfl;simp only [eW];lia
 refine aC (bX (mH (cQ (br (cQ (ah (j:=1) he (.cell (L+1) "way") aa rfl)) (cQ aU) (by exact fk (by decide)))) (cQ aU) (by exact CZ)) (aQ (i:=0) (j:=2) he .loc rfl ?_) rfl rfl);refine aC (bX (y:= .str (pT w_)) (BN (kT (cQ (ah (j:=2) he .loc aa rfl)) (by exact qr)) (λh=>cP) (λh=>cP)) (aQ (i:=0) (j:=3) he (.cell (L+2) "marked") rfl ?_) rfl rfl);refine aC (bX (y:= .str (qH x_ w_)) (f7 (cQ cP) (by exact mJ) (au (cQ (jO (g:=λq=>V.str (lJ w_ q)) _ _ ⟨rfl,rfl,by decide+kernel,by decide+kernel⟩ (HX (iO H he H.b_enumerate rfl) (ah (j:=0) he .loc aa rfl)) (by lia) (by assumption) (λC1 a ha=>tF 1 2 he.comp .loc .loc dm (λhb=>(BN (oJ (iN (da (cQ (br (cQ (ah (j:=1) he.comp (.cell (L+1) "way") (ab _ aa) rfl)) (cQ aU) (by exact fk (by decide)))) (cQ aU) (by exact qq)) (λh=>(iN (da (cQ (ah (j:=2) he.comp .loc aa rfl)) (cQ (ah (j:=3) he.comp (.cell (L+2) "marked") (ab _ aa) rfl)) (by exact C0)) (λh=>(iN (oJ (CY (da (cQ (ah (j:=2) he.comp .loc aa rfl)) (cQ cP) (by exact rz)) (λh=>(CY (da (cQ (ah (j:=1) he.comp .loc aa rfl)) (cQ aU) (by exact qq)) (λh=>BC))))) (λh=>jn))))))) (λh=>(br (cQ cP) (cQ (ah (j:=2) he.comp .loc aa rfl)) (by exact uJ (by exact Kt _) (by exact Kt _)))) (λh=>(ah (j:=2) he.comp .loc aa rfl))))))) aT) (rJ (f:=lJ w_) hj) (by exact eN) (by exact ny) (by exact b9) rfl) (aQ (i:=0) (j:=4) he .loc rfl ?_) rfl rfl);refine aC (bX (y:= .str (jM w_)) (bL (bE (cQ (f9 (xs:=[_,_,_,_,_]) (au cP (au cP (au cP (au cP (au (BN (kT (cQ (ah (j:=2) he .loc aa rfl)) (by exact qr)) (λh=>cP) (λh=>cP)) aT))))) (bg rfl))) (cQ (br (cQ (br (cQ (ah (j:=1) he (.cell (L+1) "way") aa rfl)) (cQ aU) (by exact l8 (by decide)))) (cQ aU) (by exact fk (by decide)))) (by refine Qf ?_ ?_ (bg rfl) <;> first|lia|(simp;lia))) (LG w_)) (aQ (i:=0) (j:=5) he .loc rfl ?_) rfl rfl);refine aC (gy (cg (y:= .str (ik x_ w_)) (bL (BN (kT (cQ (ah (j:=2) he .loc aa rfl)) (by exact qr)) (λh=>(br (cQ (br (cQ (br (cQ cP) (cQ (ah (j:=4) he .loc aa rfl)) (by exact uJ (by decide) (by exact aw (by assumption) (by decide))))) (cQ cP) (by exact uJ (by refine ai (qI ..) ?_;have:("\"":bc).length=1:=rfl;lia) (by decide)))) (cQ (ah (j:=5) he .loc aa rfl)) (by exact uJ (by (refine ai (qI ..) ?_;refine ai (qI ..) ?_);have:("\"":bc).length=1:=rfl;lia) (AS w_)))) (λh=>(br (cQ (ah (j:=4) he .loc aa rfl)) (cQ (ah (j:=5) he .loc aa rfl)) (by exact uJ (by exact aw (by assumption) (by decide)) (AS w_))))) (by unfold ik;split <;> rfl)) (kh ⟨rfl,rfl⟩)))
end lK
theorem lK{x:bc}{w:Int}:lK.S0 k x w 0:=by with_unfolding_all exact vx _ _ _ _ lK.S0 @lK.T0 k x w 0
variable {m:Nat}
section
variable {S:List (Nat×V)}
set_option maxRecDepth 100000 in
theorem zS:seqSlot? (.type "list") (dunderI "add")=dh (ae (.builtin "list.__iadd__")):=PySem.seqSlot_of u9.lookup (by decide+kernel)
def iP.S0(l b:ay):Prop:=∀{prog:d7} {w:eo} {A:bo} {E:aj->aq->Prop} {s:aq} {items items2:Array aj} {n n2:Nat} {Q:aj->aq->Prop} (hl:IsL s.heap l items n) (hb:IsL s.heap b items2 n2) (h:Q (.ref l) {s with heap:=s.heap.update l (Obj.mapSeq λx=>x++items2)}) (Ud:¬(!items.isEmpty && wz (items.size+items2.size))=aJ) (hsz:items.size<=er) (Gy:items.size+items2.size<=er+1),aS (aX prog w) A (inplaceOp .Add (.ref l) (.ref b)) Q E s
namespace iP
@[irreducible] def e0:=P4 cM cM S0
def l_:=e0.1
def b_:=e0.2
theorem T0:S0 l_ b_:=by
 intro prog w A E s items items2 n n2 Q hl hb h Ud hsz Gy;unfold inplaceOp;refine bC ?_;have ha:s.TypeIs (.ref l_) "list":=⟨_,hl,rfl⟩;have hbt:s.TypeIs (.ref b_) "list":=⟨_,hb,rfl⟩;have hfi:fillsInplaceSlot (.type "list") "add" (Operator.Add == .Add)=dh aH:=by
  unfold fillsInplaceSlot;show (iR (.type "list") (dunderI "add") >>=λfi=>dh (fi.isSome && !isSeqSlot fi))=dh aH;refine ai (u9.lookup ..) ?_;refine ai (pure_bind ..) ?_;have:isSeqSlot (ae (.builtin "list.__iadd__"))=aJ:=by decide+kernel
  refine ai (this ..) ?_;rfl
 refine ag (wpAny_typeOf ha (ag (cN hfi ?_)));show aS _ A (if aH=aJ then _ else _) Q E s;refine ai (if_neg cG ..) (ag (wpAny_binaryOp1_none (nm:="add") ha hbt noFill_list_add ?_));refine ag (cN zS ?_);exact ag (oa (l5 u9 ha PySem.F.entry_list_iadd (PySem.F.args_list_iadd_2 _ _) (AutoSeq1.list___iadd___list_list_0 l_ items n b_ items2 n2 Ud hsz Gy) ⟨hl,hb,h⟩))
end iP
theorem iP{l b:ay}:iP.S0 l b:=by with_unfolding_all exact Fh _ _ iP.S0 @iP.T0 l b
theorem OF{x:bc}{e:bP}(he:dz env)(sl:Sl env L lay x j)(hi:mu[i]? =ae (bq L lay bF))(GA:bF[j]? =ae (ae (.ref D)))(hm:mu[m]? =ae (bk D xs))(hv:PE k mu env e (.list ys))(hl:xs.length+ys.length < 2 ^ 22)(hmi:m≠i)
 (h:Ψ .next ((mu.set m (bk D (xs++ys))).set i (bq L lay (bF.set j (ae (.ref D)))))) (Ct:autoParam ((env.kindOf x == ae .free)=aH) aR):
 WX k mu env (.AugAssign (.Name x p) .Add e pos) Ψ:=⟨λ{A E Z s fr Q} hA r q=>by
 with_reducible refine wpAny_AugAssign_Name ?_
 refine FE he sl (aE fr (ao hi)) GA r λ{old} q1=>hv.c hA r λ{u s2 Z2} z2 q2 r2=>ai (aZ.refE q1 ..) (cF (rg.list q2) λb ws n2 dP e1 hr=>?_);subst dP;refine eD (r2.sat _ (ao (cH (fr:=fr) hm))) λvs n h2 h3=>?_;have l1:=cb h3;have l2:=cb hr;rw [l1,l2] at hl;refine iP h2 (r2.zin _ _ e1) ?_ (by refine ai (wI hl ..) ?_;simp) (by show _<=2 ^ 24;lia) (by show _<=2 ^ 24+1;exact aw (eB (by assumption)) (by decide));have hmm:=NC vs ws n av #[];have r3:R Z2 ((mu.set m (bk D (xs++ys)))++fr) {s2 with heap:=s2.heap.update D (Obj.mapSeq λx=>x++ws)}:=xW (tk:=s2.toks) r2 hm (λc o hb e=>(bY ..).extBut c o hb e) ((bS _ h2 (by refine ai (hmm ..) ?_;rfl)).trans (congrArg ae hmm)) (by refine ai (lA ..) ?_;exact h3.append hr);exact xM r3 he sl (by refine ai (kH hmi ..) ?_;exact hi) (beq_eq_false_iff_ne.mp Ct) (aZ.ref _) λs' r'=>q z2 .next r' h⟩
theorem B9{kk:Nat}(h:Dm k mu env es λys nu=>ys.length<=2 ^ 20/\Φ (.tup ys) nu):WE k mu env (.Tuple es kk pos) Φ:=⟨λ{A E Z s fr Q} hA r q=>by
 with_reducible refine EU ?_
 refine h.c hA r λ{vs s1 Z1 ys nu} z1 q1 r1 w=>⟨q1.length▸aw w.1 (show 2 ^ 20<=2 ^ 24 by decide),?_⟩
 have z2:=bI.le_put (o:={cls:= .type "tuple",data:= .seq vs.toArray}) (r1.fresh (bp _));exact q (z1.trans z2) (aZ.tup (vs:=vs.toArray) (n:=0) (bI.put_self ..) rfl rfl (q1.mono z2)) r1.pushZ w.2⟩
noncomputable def sP(ds:List Nat)(p:Nat):Nat:=dr ds p % 6
noncomputable def eP(ds:List Nat)(p:Nat):Nat:=sP ds p+1+dr ds (p+1) % (6 - sP ds p)
noncomputable def tP(ds:List Nat)(p:Nat):Nat:=1+dr ds (p+2) % 5
noncomputable def lP(ds:List Nat)(p:Nat):Nat:=dr ds (p+3)
theorem Hq(p:Nat):sP ds p < 6:=ee _ (by decide)
theorem LI(p:Nat):sP ds p < eP ds p/\eP ds p<=6:=by have h:=Hq (ds:=ds) p;have:=ee (dr ds (p+1)) (show 0 < 6 - sP ds p by lia);unfold eP;lia
theorem Hr(p:Nat):1<=tP ds p/\tP ds p < 6:=by have:=ee (dr ds (p+2)) (show 0 < 5 by decide);unfold tP;lia
noncomputable def uU(ds:List Nat)(p:Nat):V:= .tup [nV (2*cf ds (sP ds p)),nV (2*cf ds (eP ds p)),nV (2*cf ds (tP ds p)),nV (lP ds p / 2),.bool (decide (lP ds p % 2=1))]
noncomputable def jy(ds:List Nat)(p:Nat):List Nat:=[cf ds (sP ds p),cf ds (eP ds p) - cf ds (sP ds p),cf ds (tP ds p),lP ds p]
noncomputable def iA(n6:Nat)(xs:List Int)(l:List Nat):List Int:=l.foldl (λ(xs:List Int) (n:Nat)=>xs++gm n ((n6:Int) / ((xs.length:Int)+1))) xs
theorem D5(n w:Int):(gm n w).length<=3:=by have h:=uT ((aN (mL n w)).map (pS n w)) av av (ae (-1));have:=kY n w;unfold gm;simp only [ak,fo] at h;lia
theorem vW:∀(l:List Nat) (xs:List Int),(iA n6 xs l).length<=xs.length+3*l.length
 |[],xs=>by exact bp _
 |n::l,xs=>by
  have h:=vW l (xs++gm n ((n6:Int) / ((xs.length:Int)+1)));have:=D5 n ((n6:Int) / ((xs.length:Int)+1));rw [ba] at h;show (iA n6 (xs++gm n ((n6:Int) / ((xs.length:Int)+1))) l).length<=_;refine ai (bJ ..) ?_;lia
theorem F2(l:List Nat)(n:Nat)(xs:List Int):iA n6 xs (l++[n])=iA n6 xs l++gm n ((n6:Int) / (((iA n6 xs l).length:Int)+1)):=by unfold iA;refine ai (fq ..) ?_;rfl
theorem D6(h:Dr ds ns n6)(b:Nat)(hb:b<=6):cf ds b<=366:=by
 unfold cf;have:∀l:List Nat,(∀d∈l,d < 60)->l.sum<=60*l.length:=λl=>by
  induction l with
  |nil=>intro z;simp
  |cons a l ih=>intro h;have:=ih λd hd=>h d (ab _ hd);have:=h a aa;simp only [df,bJ];lia
 have h2:=this ((ds.drop 18).take b) λd hd=>h.lt d (gp (pv hd));have h3:((ds.drop 18).take b).length<=b:=by refine ai (dD ..) ?_;exact Nat.min_le_left _ _
 lia
theorem nO{a b:Nat}(h:a<=b):cf ds a<=cf ds b:=by
 unfold cf;have:∀(l:List Nat) (a b:Nat),a<=b->(l.take a).sum<=(l.take b).sum:=λl=>by
  induction l with
  |nil=>intro a b z;simp
  |cons x l ih=>
   intro a b h;cases a with
   |zero=>simp
   |succ a=>
    cases b with
    |zero=>with_reducible exact absurd (by assumption) (TF _)
    |succ b=>have:=ih a b (by exact P0 (by assumption));simp only [jb,df];lia
 have:=this (ds.drop 18) a b h
 with_reducible exact Nat.add_le_add (by assumption) (by assumption)
structure OG(k:Nat)(mu:Mu)(env:iE)(nms:List bc)(xs:List V)(Ψ:Mu->Prop):Prop where
 c:∀{A:bo} {E:aj->aq->Prop} {Z:bI} {s:aq} {fr:Mu} {vs:List aj} {Q:Unit->aq->Prop},Rm k A->R Z (mu++fr) s->bW G Z vs xs->(∀{s' Z' nu},Z.le Z'->R Z' (nu++fr) s'->Ψ nu->Q () s')->aS (aX G.prog G.w) A (assignInOrder (nms.map λn=>bindName env n) vs) Q E s
theorem D7{Ψ:Mu->Prop}(h:Ψ mu):OG k mu env [] [] Ψ:=⟨λ{z z z z z z z} hA r hv q=>hv.nil_inv▸ar (q .rfl r h)⟩
theorem pU{Ψ:Mu->Prop}{x:bc}{nms:List bc}(he:dz env)(sl:Sl env L lay x j)(hi:mu[i]? =ae (bq L lay bF))(h:OG k (mu.set i (bq L lay (bF.set j (ae y)))) env nms xs Ψ)(Ct:autoParam ((env.kindOf x == ae .free)=aH) aR):
 OG k mu env (x::nms) (y::xs) Ψ:=⟨λ{A E Z s fr vs Q} hA r hv q=>by
 obtain ⟨v,vs,rfl,hv,hr⟩:=hv.cons_inv;exact ag (bC (wpAny_bindName (xM r he sl hi (beq_eq_false_iff_ne.mp Ct) hv λs' r'=>h.c hA r' hr q)))⟩
theorem bW.rev{Z:bI}{vs:List aj}{xs:List V}(h:bW G Z vs xs):bW G Z vs.reverse xs.reverse:=h.ind .nil λ{z z z z} hv z ih=>by (refine ai (CM ..) ?_;refine ai (CM ..) ?_);exact ih.append (.cons hv .nil)
theorem Hs{kk:Nat}{elts:List bP}{MU:lF}{nms:List bc}{e:bP}{Ψ:AF->Mu->Prop}(hv:WE k mu env e λy nu=>∃xs,y= .tup xs/\xs.length=nms.length/\OG k nu env nms.reverse xs.reverse (Ψ .next))(hs:wq [.Tuple elts kk MU] e pos.line env=dh aH)(hw:wu [.Tuple elts kk MU] e env=dh (ae nms)):
 WX k mu env (.Assign [.Tuple elts kk MU] e pos) Ψ:=⟨λ{A E Z s fr Q} hA r q=>by
 refine PyProof.Rows.Assign_Tuple_swapped ?_ hs hw;refine hv.c hA r λ{v s1 Z1 y nu} z1 q1 r1 w=>?_;obtain ⟨xs,rfl,hl,w⟩:=w;obtain ⟨a,o,vs,n,rfl,e1,hc,hd,hr⟩:=aZ.tup_inv q1;refine fZ (hl ..) ?_;refine ai (cb hr ..) ?_;exact wpAny_unpackItems_tuple hA.hh (⟨_,r1.zin _ _ e1,hc,n,hd⟩:s1.heap.IsTuple a vs) λh' hx=>w.c hA (r1.keep (tk:=s1.toks) λb o e=>hx b o (c9 (bM e)) e) hr.rev λ{z z z} z2=>q (z1.trans z2) .next⟩
end
section
variable {S:List (Nat×V)}{A:ay}
theorem OH{a:Int}{n:Nat}(h:a=(n:Nat)):V.int a=nV n:=congrArg V.int h
noncomputable abbrev S4(ds:List Nat)(ns:List Int)(A:ay):List (Nat×V):=[(11,.list ((aN 7).map λb=>nV (cf ds b))),(10,.ref A),(42,.dict (qA (aF ds))),(7,rW (aF ds)),(5,nV (aF ds)),(4,.list (ds.map nV)),(3,.list (ns.map .int))]
noncomputable abbrev S7(ds:List Nat)(ns:List Int)(A Du Oc:ay):List (Nat×V):=(13,.ref Oc)::(12,.ref Du)::S4 ds ns A
noncomputable def fb(ds:List Nat)(n6:Nat)(ps:List Nat):List Int:=ps.foldl (λ(xs:List Int) (p:Nat)=>iA n6 xs (jy ds p)) []
theorem Ca(ps:List Nat)(p:Nat):fb ds n6 (ps++[p])=iA n6 (fb ds n6 ps) (jy ds p):=by unfold fb;refine ai (fq ..) ?_;rfl
theorem rY:∀ps:List Nat,(fb ds n6 ps).length<=12*ps.length:=λps=>by
 have:∀(ps:List Nat) (xs:List Int),(ps.foldl (λ(xs:List Int) (p:Nat)=>iA n6 xs (jy ds p)) xs).length<=xs.length+12*ps.length:=λps=>by
  induction ps with
  |nil=>intro xs;simp
  |cons p ps ih=>intro xs;have h:=ih (iA n6 xs (jy ds p));have h2:=vW (n6:=n6) (jy ds p) xs;have h3:(jy ds p).length=4:=rfl;simp only [fE,bJ];lia
 have h:=this ps [];simpa [fb] using h
theorem S7.again{vs:eL}{Du Oc:ay}{j:Nat}{y:V}(h:Sv vs ((j,y)::S7 ds ns A Du Oc))(hj:(S7 ds ns A Du Oc).lookup j=av):Sv vs (S7 ds ns A Du Oc):=h.drop hj
theorem lL{α:Type}{xs:List α}{i:Nat}{a:α}(h:xs[i]? =ae a):xs.take (i+1)=xs.take i++[a]:=by (refine ai (dG ..) ?_;refine ai (h ..) ?_);rfl
def yB.S0(k:Nat)(mu:Mu)(Θ:AF->Mu->Prop)(L A:ay)(ds:List Nat)(ns:List Int)(n6:Nat)(pm doc:aj):Prop:=∀{vs:eL} (H:Hy G) (he:dz (bT pm doc L)) (hD:Dr ds ns n6) (hS:Sv vs (S4 ds ns A)) (next:∀vs Oc Du,Sv vs (S7 ds ns A Du Oc)->WS (k+8) (bk Oc ((fb ds n6 [10,14]).map .int)::bk Du ([10,14].map (uU ds))::bk A ((dn ds).map kG)::cy L vs::mu) (bT pm doc L) (mv 9) Θ),WS (k+8) (bk A ((dn ds).map kG)::cy L vs::mu) (bT pm doc L) (mv 7) Θ
namespace yB
@[irreducible] def e0:=zF eO gE sZ cM cM gE gE eO gM gM S0
def k_:=e0.1
def e9:=e0.2.1
def Θ_:=e0.2.2.1
def L_:=e0.2.2.2.1
def A_:=e0.2.2.2.2.1
def aV:=e0.2.2.2.2.2.1
def Hp:=e0.2.2.2.2.2.2.1
def gP:=e0.2.2.2.2.2.2.2.1
def pf:=e0.2.2.2.2.2.2.2.2.1
def g8:=e0.2.2.2.2.2.2.2.2.2
theorem T0:S0 k_ e9 Θ_ L_ A_ aV Hp gP pf g8:=by
 intro vs H he hD hS next
 refine aC (Hs (nms:=["due","octets"]) (B9 (cB (sy (xs:=[]) aT (by show 0<=2 ^ 20;decide) (λDu=>fK.ref (cB (sy (xs:=[]) aT (by show 0<=2 ^ 20;decide) (λOc=>fK.ref (e8 ⟨by show 2<=2 ^ 20;decide,_,rfl,rfl,pU (i:=3) (j:=13) he .loc rfl (pU (i:=3) (j:=12) he .loc rfl (D7 ?_))⟩)))))))) rfl rfl);have hS1:Sv _ (S7 aV Hp A_ Du Oc):=((hS.set (j:=13) (y:= .ref Oc)).set (j:=12) (y:= .ref Du)).sub ⟨rfl,rfl,rfl,rfl,rfl,rfl,rfl,rfl,rfl,trivial⟩;refine aC (jN (ctx:=[]) (xs:=[10,14].map nV) (λi nu=>∃ro,nu=bk Oc ((fb aV gP ([10,14].take i)).map .int)::bk Du (([10,14].take i).map (uU aV))::bk A_ ((dn aV).map kG)::cy L_ ro::e9/\Sv ro (S7 aV Hp A_ Du Oc))
  (xv (f9 (xs:=[nV 10,nV 14]) (au aU (au aU aT)) (by show 2<=2 ^ 20;decide))) (by lia) ⟨_,rfl,hS1⟩ (λi nu h o ho=>(el ho)) ?_ ?_)
 ·intro i x nu hx dP;refine aK dP λro eT hS=>?_;clear dP;subst eT;rw [aI] at hx;refine aK (aL.mp hx) λq hq gi=>?_;subst gi;have TZ:i < 2:=(aB.mp hq).1;have hq14:q<=14:=by have:=ao hq;simp at this;lia
  have hf:∀{x y z:cY} {ro},bq L_ (aM (L_+1) (bj (cO 23)).names) ro∈x::y::z::cy L_ ro::e9:=ab _ (ab _ (ab _ aa));refine aQ (i:=3) (j:=1) he .loc rfl ?_;have hS2:=hS.set (j:=1) (y:=nV q);have hs6:=Hq (ds:=aV) q;have he6:=LI (ds:=aV) q;have ht6:=Hr (ds:=aV) q;refine aC (Hs (nms:=["start","target","last"]) (cg (y:= .tup [nV (sP aV q),nV (tP aV q),nV (lP aV q)]) (f9 (xs:=[nV (sP aV q),nV (tP aV q),nV (lP aV q)]) (au (bL (br (bE (dF (ah (j:=4) he (.cell (L_+3) "draws") hf (hS2.get rfl))) (ah (j:=1) he .loc hf (hS2.get rfl)) (ew (hD.at (i:=q) (by exact b7 (by assumption) (by decide))) (by refine ai (hD.len ..) ?_;decide))) aU (fk (by decide))) (OH (by unfold sP;lia))) (au (bL (br aU (br (bE (dF (ah (j:=4) he (.cell (L_+3) "draws") hf (hS2.get rfl))) (br (ah (j:=1) he .loc hf (hS2.get rfl)) aU fB) (ew (hD.at (i:=q+2) (by lia)) (by refine ai (hD.len ..) ?_;decide))) aU (fk (by decide))) fB) (OH (by unfold tP;lia))) (au (bE (dF (ah (j:=4) he (.cell (L_+3) "draws") hf (hS2.get rfl))) (br (ah (j:=1) he .loc hf (hS2.get rfl)) aU fB) (ew (hD.at (i:=q+3) (by lia)) (by refine ai (hD.len ..) ?_;decide))) aT))) (by show 3<=2 ^ 20;decide)) ⟨_,rfl,rfl,pU (i:=3) (j:=16) he .loc rfl (pU (i:=3) (j:=15) he .loc rfl (pU (i:=3) (j:=14) he .loc rfl (D7 ?_)))⟩) rfl rfl);have hS3:=((hS2.set (j:=16) (y:=nV (lP aV q))).set (j:=15) (y:=nV (tP aV q))).set (j:=14) (y:=nV (sP aV q));refine aC (bX (y:=nV (eP aV q)) (bL (br (br (ah (j:=14) he .loc hf (hS3.get rfl)) aU fB) (br (bE (dF (ah (j:=4) he (.cell (L_+3) "draws") hf (hS3.get rfl))) (br (ah (j:=1) he .loc hf (hS3.get rfl)) aU fB) (ew (hD.at (i:=q+1) (by lia)) (by refine ai (hD.len ..) ?_;decide))) (bL (br aU (ah (j:=14) he .loc hf (hS3.get rfl)) vz) (OH (n:=6 - sP aV q) (by lia))) (fk (by lia))) fB) (OH (by unfold eP;lia))) (aQ (i:=3) (j:=17) he .loc rfl ?_) rfl rfl);have zZ:=hS3.set (j:=17) (y:=nV (eP aV q));have SY:∀{b:Nat},b < 7->(aN 7)[b]? =ae b:=λ{w} h=>bz h;refine aC (ig (mY (ah (j:=12) he .loc hf (zZ.get rfl)) (j4 (xs:=([10,14].take i).map (uU aV)) (ab _ aa)) (au (P:=bZ (uU aV q)) (f9 (xs:=[nV (2*cf aV (sP aV q)),nV (2*cf aV (eP aV q)),nV (2*cf aV (tP aV q)),nV (lP aV q / 2),.bool (decide (lP aV q % 2=1))]) (au (bL (br aU (bE (dF (ah (j:=11) he .loc hf (zZ.get rfl))) (ah (j:=14) he .loc hf (zZ.get rfl)) (ew (SY (by exact cJ (by assumption))) (by decide))) (mX (by decide))) (OH (by lia))) (au (bL (br aU (bE (dF (ah (j:=11) he .loc hf (zZ.get rfl))) (ah (j:=17) he .loc hf (zZ.get rfl)) (ew (SY (by lia)) (by decide))) (mX (by decide))) (OH (by lia))) (au (bL (br aU (bE (dF (ah (j:=11) he .loc hf (zZ.get rfl))) (ah (j:=15) he .loc hf (zZ.get rfl)) (ew (SY (by lia)) (by decide))) (mX (by decide))) (OH (by lia))) (au (bL (br (ah (j:=16) he .loc hf (zZ.get rfl)) aU (l8 (by decide))) (OH (by lia))) (au (bL (mH (br (ah (j:=16) he .loc hf (zZ.get rfl)) aU (fk (by decide))) aU qq) ?_) aT))))) (by show 5<=2 ^ 20;decide)) aT) (kz (i:=1) rfl (by (refine ai (ak ..) ?_;refine ai (dD ..) ?_);show min i 2 < 2 ^ 22;lia) ?_) (by exact fP) (by exact iU) (by exact b9) rfl))
  ·refine congrArg V.bool ?_;by_cases h:lP aV q % 2=1
   ·(refine ai (decide_eq_true h ..) ?_;refine gj (beq_iff_eq ..) ?_);lia
   ·(refine ai (decide_eq_false h ..) ?_;refine gj (beq_eq_false_iff_ne ..) ?_);lia
  have hX:=rY (ds:=aV) (n6:=gP) ([10,14].take i);have hT:([10,14].take i).length<=2:=by refine ai (dD ..) ?_;exact ot _ _
  generalize hXe:fb aV gP ([10,14].take i)=X at hX ⊢;refine cu (H.f285.go) λob TU cd' Jh h0 hd w=>?_;have hS5:Sv _ (S7 aV Hp A_ Du Oc):=zZ.sub ⟨rfl,rfl,rfl,rfl,rfl,rfl,rfl,rfl,rfl,trivial⟩;refine aC (jN (ctx:=[]) (xs:=(jy aV q).map nV) (λj nu=>∃ro,nu=bk Oc ((iA gP X ((jy aV q).take j)).map .int)::bk Du (([10,14].take i).map (uU aV)++[uU aV q])::bk A_ ((dn aV).map kG)::cy L_ ro::e9/\Sv ro (S7 aV Hp A_ Du Oc))
   (xv (f9 (xs:=(jy aV q).map nV) (au (bE (dF (ah (j:=11) he .loc hf (zZ.get rfl))) (ah (j:=14) he .loc hf (zZ.get rfl)) (ew (SY (by exact cJ (by assumption))) (by decide))) (au (bL (br (bE (dF (ah (j:=11) he .loc hf (zZ.get rfl))) (ah (j:=17) he .loc hf (zZ.get rfl)) (ew (SY (by lia)) (by decide))) (bE (dF (ah (j:=11) he .loc hf (zZ.get rfl))) (ah (j:=14) he .loc hf (zZ.get rfl)) (ew (SY (by exact cJ (by assumption))) (by decide))) vz) ?_) (au (bE (dF (ah (j:=11) he .loc hf (zZ.get rfl))) (ah (j:=15) he .loc hf (zZ.get rfl)) (ew (SY (by lia)) (by decide))) (au (ah (j:=16) he .loc hf (zZ.get rfl)) aT)))) (by show 4<=2 ^ 20;decide))) (by lia) ⟨_,rfl,hS5⟩ (λi nu h o ho=>(el ho)) ?_ ?_)
  ·have:cf aV (sP aV q)<=cf aV (eP aV q):=nO (by lia);exact OH (by lia)
  ·intro j x nu hx iC;refine aK iC λro kF hS=>?_;clear iC;subst kF;rw [aI] at hx;refine aK (aL.mp hx) λn hn l9=>?_;subst l9;have hj4:j < 4:=(aB.mp hn).1;refine aQ (i:=3) (j:=2) he .loc rfl ?_;have hS6:=hS.set (j:=2) (y:=nV n);have hY:=vW (n6:=gP) ((jy aV q).take j) X;have hTj:((jy aV q).take j).length<=4:=by refine ai (dD ..) ?_;exact ot _ _
   have hoc:=D5 n ((gP:Int) / (((iA gP X ((jy aV q).take j)).length:Int)+1));have hsn:=F2 (n6:=gP) ((jy aV q).take j) n X;refine ai (lL hn ..) ?_;refine ai (hsn ..) ?_;generalize iA gP X ((jy aV q).take j)=Y at hY hoc ⊢;refine aC (OF (i:=3) (j:=13) (m:=0) (xs:=Y.map .int) (ys:=(gm n ((gP:Int) / ((Y.length:Int)+1))).map .int) he .loc rfl (hS6.get rfl) rfl (ju (ys:=[nV n,.int ((gP:Int) / ((Y.length:Int)+1))]) (ml H he H.m_octets rfl) h0 hd (au (ah (j:=2) he .loc hf (hS6.get rfl)) (au (br (bE (dF (ah (j:=3) he (.cell (L_+2) "numbers") hf (hS6.get rfl))) aU (ew (j:=6) hD.six (by refine ai (hD.nlen ..) ?_;decide))) (br (bL (ej (j3 H he H.b_len rfl) (au (uB (ah (j:=13) he .loc hf (hS6.get rfl)) aa) aT) (mh (by refine ai (ak ..) ?_;lia))) (by (refine ai (ak ..) ?_;rfl))) aU fB) (l8 (by lia))) aT)) (LC H)) (by (refine ai (ak ..) ?_;refine ai (ak ..) ?_);lia) (by decide) ?_);refine bB ⟨_,by refine fZ (bh ..) ?_;rfl,(hS6.set (j:=13)).sub ⟨rfl,rfl,rfl,rfl,rfl,rfl,rfl,rfl,rfl,trivial⟩⟩
  ·intro nu mD;refine aK mD λro qX hS=>?_;clear mD;subst qX;refine bB (bB ⟨ro,?_,hS⟩);rw [lL hq,Ca,hXe,bh,ak,cL];rfl
 ·intro nu ub;refine aK ub λro mO hS=>?_;clear ub;subst mO;exact bB (next _ _ _ hS)
end yB
theorem yB{pm doc:aj}:yB.S0 k mu Θ L A ds ns n6 pm doc:=by with_unfolding_all exact uA _ _ _ _ _ _ _ _ _ _ yB.S0 @yB.T0 k mu Θ L A ds ns n6 pm doc
end
variable {Du Oc:ay}
section
variable {S:List (Nat×V)}{A:ay}
noncomputable def xD:List bc:=["a","b c","\"d","\\e","#\t","\n\r"]
noncomputable def tO(ds:List Nat)(n6:Nat):List Int:=fb ds n6 [10,14]++(fb ds n6 [10,14]).take (n6 % 4)
noncomputable def qJ(ds:List Nat)(n6:Nat):bc:=fO "" ((tO ds n6).map λo=>⟨#[o.toNat]⟩)
noncomputable def d9(ds:List Nat)(n6:Nat):List bc:=((dn ds).flatMap λq=>[q.1,q.2].map λb=>xD.getD b "")++[qJ ds n6,"done","end"]
noncomputable def g9(ds:List Nat)(n6:Nat):bc:=fO "" ((d9 ds n6).zipIdx.map λq=>ik q.1 ((n6:Int) / ((q.2:Int)+1)))
theorem nc{sep:bc}{l:List bc}{B:Nat}(hb:∀t∈l,t.length<=B)(h:l.length*(B+sep.length)<=2 ^ 20):M7 sep l=aJ:=by
 refine joinOk_of ?_;have h1:∀l:List bc,(∀t∈l,t.length<=B)->(l.map (·.length)).sum<=l.length*B:=by
  intro l;induction l with
  |nil=>intro z;simp
  |cons a l ih=>intro h;have:=ih λi hi=>h i (ab _ hi);have:=h a aa;simp only [bA,df,bJ];refine ai (iT ..) ?_;lia
 have h2:=h1 l hb;rw [Nat.mul_add] at h;have:(2:Nat) ^ 20<=er:=by show 2 ^ 20<=2 ^ 24;decide
 lia
theorem vX{l:List bc}{B:Nat}(hb:∀t∈l,t.length<=B):(fO "" l).length<=l.length*B:=by
 have h:(fO "" l).length<=(l.map (·.length)).sum:=by have h0:("":bc).length=0:=rfl;have e:(fO "" l).length=(l.map (·.length)).sum+(l.length - 1)*("":bc).length:=size_glued "" l;(refine ai (e ..) ?_;refine ai (h0 ..) ?_);lia
 have h1:∀l:List bc,(∀t∈l,t.length<=B)->(l.map (·.length)).sum<=l.length*B:=by
  intro l;induction l with
  |nil=>intro z;simp
  |cons a l ih=>intro h;have:=ih λi hi=>h i (ab _ hi);have:=h a aa;simp only [bA,df,bJ];refine ai (iT ..) ?_;lia
 have h2:=h1 l hb;exact aw h h2
theorem vY(n:Nat)(w:Int)(i:Nat):0<=pS n w i/\pS n w i < 256:=by
 unfold pS;have h1:0<=(n:Int) / 64 ^ i % 64/\(n:Int) / 64 ^ i % 64 < 64:=⟨Int.emod_nonneg _ (by decide),Int.emod_lt_of_pos _ (by decide)⟩;have h2:0<=w / ((i:Int)+1) % 2/\w / ((i:Int)+1) % 2 < 2:=⟨Int.emod_nonneg _ (by decide),Int.emod_lt_of_pos _ (by decide)⟩
 split <;> omega
theorem LJ(n:Nat)(w:Int):∀o∈gm n w,0<=o/\o < 256:=by
 intro o ho;have h0:=vY n w 0;have h1:=vY n w 1;have h2:=vY n w 2;rcases kY n w with h|h|h
 ·rw [tM h] at ho;simp at ho;rcases ho with rfl|rfl|rfl <;> assumption
 ·rw [yz h] at ho;simp at ho;rcases ho with rfl;assumption
 ·rw [yy h] at ho;simp at ho;rcases ho with rfl|rfl <;> assumption
theorem vZ:∀(l:List Nat) (xs:List Int),(∀o∈xs,0<=o/\o < 256)->∀o∈iA n6 xs l,0<=o/\o < 256
 |[],xs,h=>h
 |n::l,xs,h=>vZ l _ λo ho=>by
  rcases bb.mp ho with h'|h'
  ·exact h o h'
  ·exact LJ n _ o h'
theorem wM:∀o∈fb ds n6 [10,14],0<=o/\o < 256:=by unfold fb;simp only [fE,List.foldl_nil];exact vZ _ _ (vZ _ _ λo ho=>el ho)
theorem uV:∀o∈tO ds n6,0<=o/\o < 256:=λo ho=>by
 rcases bb.mp ho with h|h
 ·exact wM o h
 ·exact wM o (pv h)
theorem yC:(tO ds n6).length<=27:=by unfold tO;have:=rY (ds:=ds) (n6:=n6) [10,14];have h2:[10,14].length=2:=rfl;(refine ai (ba ..) ?_;refine ai (dD ..) ?_);lia
def kc.S0(ds:List Nat)(_:Nat):Prop:=∀q∈dn ds,q.1 < 6/\1<=q.2/\q.2 < 6
namespace kc
@[irreducible] def e0:=P4 gE eO S0
def aV:=e0.1
theorem T0:S0 aV e0.2:=by
 unfold S0;intro q hq;unfold dn Ly Lz at hq;have m6:∀n,n % 6 < 6:=λn=>ee _ (by decide);have m5:∀n,n % 5 < 5:=λn=>ee _ (by decide);simp only [bA,u5,fU,qf,aP,ur,or_false] at hq;have a1:=ee (dr aV (2 - 2)) (show 0 < 2 by decide);have a2:=ee (dr aV (3 - 2)) (show 0 < 3 by decide);have a3:=ee (dr aV (4 - 2)) (show 0 < 4 by decide);have a4:=ee (dr aV (5 - 2)) (show 0 < 5 by decide);rcases hq with rfl|rfl|rfl|rfl|rfl|rfl|rfl|rfl
 ·exact ⟨by decide,by decide,by decide⟩
 ·exact ⟨by show _ < 6;exact cc (by assumption) (by decide),by show 1<=2;decide,by show 2 < 6;decide⟩
 ·exact ⟨by show _ < 6;exact cc (by assumption) (by decide),by show 1<=3;decide,by show 3 < 6;decide⟩
 ·exact ⟨by show _ < 6;exact cc (by assumption) (by decide),by show 1<=4;decide,by show 4 < 6;decide⟩
 ·exact ⟨by show _ < 6;exact cJ (by assumption),by show 1<=5;decide,by show 5 < 6;decide⟩
 ·exact ⟨m6 _,by show 1<=1+_;exact dE _ _,by have:=m5 (dr aV (4+1));show 1+_ < 6;lia⟩
 ·exact ⟨m6 _,by show 1<=1+_;exact dE _ _,by have:=m5 (dr aV (6+1));show 1+_ < 6;lia⟩
 ·exact ⟨m6 _,by show 1<=1+_;exact dE _ _,by have:=m5 (dr aV (8+1));show 1+_ < 6;lia⟩
end kc
theorem kc(ds:List Nat):kc.S0 ds 0:=by with_unfolding_all exact Fh _ _ kc.S0 @kc.T0 ds 0
theorem OI(b:Nat):(xD.getD b "").length<=27:=by
 rcases gX b 6 with h|h
 ·rcases (by lia:b=0\/b=1\/b=2\/b=3\/b=4\/b=5) with rfl|rfl|rfl|rfl|rfl|rfl <;> decide
 ·(refine ai (bR ..) ?_;refine ai (il (by exact h) ..) ?_);decide
theorem yD:(qJ ds n6).length<=27:=by refine aw (vX (B:=1) λt ht=>?_) (by refine ai (ak ..) ?_;have:=yC (ds:=ds) (n6:=n6);lia);refine aK (aG.mp ht) λo z dP=>?_;subst dP;exact bp 1
theorem wa:∀w∈d9 ds n6,w.length<=27:=by
 intro w hw;rcases bb.mp hw with h|h
 ·refine aK (bG.mp h) λq z h2=>aK (aG.mp h2) λb z eT=>?_;subst eT;exact OI b
 ·simp only [aP,ur,or_false] at h;rcases h with rfl|rfl|rfl
  ·exact yD
  ·decide
  ·decide
theorem LK:(dn ds).length=8:=rfl
theorem pV:(d9 ds n6).length=19:=rfl
theorem F3(w:Int)(q:Nat×Nat):(lJ w q).length<=2:=by
 unfold lJ
 split
 ·exact bp 2
 ·show 1<=2;decide
theorem wb{x:bc}(w:Int)(hx:x.length<=1000):(qH x w).length<=2*x.length/\M7 "" (x.cps.toList.zipIdx.map (lJ w))=aJ:=by
 have hl:(x.cps.toList.zipIdx.map (lJ w)).length=x.length:=by simp [Str.length]
 have hb:∀t∈x.cps.toList.zipIdx.map (lJ w),t.length<=2:=λt ht=>by
  refine aK (aG.mp ht) λq z gi=>?_;subst gi;exact F3 w q
 have h0:("":bc).length=0:=rfl;refine ⟨?_,nc hb (by (refine ai (hl ..) ?_;refine ai (h0 ..) ?_);show _<=1048576;lia)⟩;have:=vX hb;rw [hl] at this;unfold qH;lia
theorem wN{x:bc}(w:Int)(hx:x.length<=27):(ik x w).length<=60:=by
 have h:=(wb w (x:=x) (by exact aw (by assumption) (by decide))).1;have hg:(jM w).length<=2:=by
  unfold jM;have h:(w / 4 % 5).toNat < 5:=by lia
  generalize (w / 4 % 5).toNat=n at h
  match n,h with
  |0,_=>exact bg rfl
  |1,_=>exact bg rfl
  |2,_=>exact bg rfl
  |3,_=>exact bg rfl
  |4,_=>
   show (if decide (w % 4 < 2)=aJ then ("":bc) else " \n").length<=_
   split <;> decide
 have h1:("\"":bc).length=1:=rfl;unfold ik
 split
 ·(refine ai (qI ..) ?_;refine ai (qI ..) ?_;refine ai (qI ..) ?_;refine ai (h1 ..) ?_);lia
 ·refine ai (qI ..) ?_;lia
theorem IS:M7 "" ((d9 ds n6).zipIdx.map λq=>ik q.1 ((n6:Int) / ((q.2:Int)+1)))=aJ:=by
 refine nc (B:=60) (λt ht=>?_) (by (refine ai (ak ..) ?_;refine ai (eW ..) ?_;refine ai (pV ..) ?_);decide);refine aK (aG.mp ht) λq hq iC=>?_;subst iC;have EJ:q.1∈d9 ds n6:=by
  have:=gS (f:=uu) hq
  rwa [jd] at this
 exact wN _ (wa _ EJ)
theorem D8:(g9 ds n6).length<=1200:=by
 refine aw (vX (B:=60) λt ht=>?_) (by (refine ai (ak ..) ?_;refine ai (eW ..) ?_;refine ai (pV ..) ?_);decide);refine aK (aG.mp ht) λq hq kF=>?_;subst kF;have EJ:q.1∈d9 ds n6:=by
  have:=gS (f:=uu) hq
  rwa [jd] at this
 exact wN _ (wa _ EJ)
noncomputable def qK:List Nat->Mu->Mu
 |[],nu=>nu
 |j::js,nu=>match nu[j]? with
  |some a=>a::qK js (nu.eraseIdx j)
  |none=>nu
theorem yE:∀{nu:Mu} {j:Nat} {a:cY},nu[j]? =ae a->nu.Perm (a::nu.eraseIdx j)
 |b::nu,0,a,h=>by (have lz:=aO h;clear h;subst lz);exact ic _
 |b::nu,j+1,a,h=>((yE (nu:=nu) (j:=j) h).cons b).trans (jh a b _)
theorem nf:∀(js:List Nat) (nu:Mu),nu.Perm (qK js nu)
 |[],nu=>ic _
 |j::js,nu=>by
  show nu.Perm (match nu[j]? with|some a=>a::qK js (nu.eraseIdx j)|none=>nu);cases h:nu[j]? with
  |none=>exact ic _
  |some a=>exact (yE h).trans ((nf js _).cons a)
theorem WF.to{nu:Mu}{t:oY ug}(js:List Nat)(h:WF k (qK js nu) t Θ):WF k nu t Θ:=⟨λ{A E Z s fr Q} hA r=>h.c hA (r.perm ((nf js nu).append_right fr))⟩
noncomputable def yF(a:ay)(xs:List V):cY where
 own:=[]
 sat:=λZ h=>∃o vs n,Z a=ae o/\o.cls= .type "tuple"/\o.data= .seq vs n/\o.dict=av/\bW G Z vs.toList xs
 mono:=λZ Z' h hz=>bQ λo=>bQ λvs=>bQ λn u=>⟨hz _ _ u.1,u.2.1,u.2.2.1,u.2.2.2.1,u.2.2.2.2.mono hz⟩
 loc:=λZ h h' q z z z=>q
 live:=λZ h q c hc=>el hc
theorem PE_tk{e:bP}{a:ay}{xs:List V}(h:PE k mu env e (.ref a))(hm:yF a xs∈mu):PE k mu env e (.tup xs):=⟨λ{A E Z s fr Q} hA r q=>h.c hA r λ{v s1 Z1} z1 q1 r1=>by
 refine ai (aZ.refE q1 ..) (g6 (r1.sat _ (aE fr hm)) λo vs n h1 h2 h3 z h5=>?_);exact q z1 (aZ.tup h1 h2 h3 h5) r1⟩
theorem ty_tk{a:ay}{xs:List V}(hm:yF a xs∈mu):Ty mu (bZ (.ref a)) "tuple":=⟨λZ s fr v r h=>by
 exact g6 (r.sat _ (aE fr hm)) λo vs n h1 h2 h3 h4 h5=>aZ.refE h▸Ty.at (r.zin _ _ h1) h2 h4⟩
theorem OJ{es:List bP}{kk:Nat}{xs:List V}(h:tx k mu env es (xs.map bZ))(hl:xs.length<=2 ^ 20)(hΦ:∀a,Φ (.ref a) (yF a xs::mu)):WE k mu env (.Tuple es kk pos) Φ:=⟨λ{A E Z s fr Q} hA r q=>by
 with_reducible refine EU ?_
 refine h.c hA r λ{vs s1 Z1} z1 q1 r1=>⟨q1.size hl,?_⟩
 have z2:=bI.le_put (o:={cls:= .type "tuple",data:= .seq vs.toArray}) (r1.fresh (bp _));exact q (z1.trans z2) (aZ.ref _) (r1.pushZ.addNew (tk:=s1.toks) (h':=s1.heap.push {cls:= .type "tuple",data:= .seq vs.toArray}) (yF s1.heap.objs.size xs) (λb o e=>e) ⟨_,vs.toArray,0,bI.put_self ..,rfl,rfl,rfl,q1.vrels.mono z2⟩ kP (λb hb=>el hb)) (hΦ _)⟩
noncomputable abbrev S9(ds:List Nat)(ns:List Int)(n6:Nat)(A Du Oc Sg:ay):List (Nat×V):=(20,.str (g9 ds n6))::(19,.list ((d9 ds n6).map .str))::(18,.ref Sg)::S7 ds ns A Du Oc
def yG.S0(k:Nat)(L A Du Oc:ay)(ds:List Nat)(ns:List Int)(n6:Nat)(pm doc:aj):Prop:=∀{mu:Mu} {vs:eL} {Θ:AF->Mu->Prop} (H:Hy G) (he:dz (bT pm doc L)) (hD:Dr ds ns n6) (hS:Sv vs (S7 ds ns A Du Oc)) (next:∀vs Sg,Sv vs (S9 ds ns n6 A Du Oc Sg)->WS (k+8) (bk Oc ((fb ds n6 [10,14]).map .int)::bk Du ([10,14].map (uU ds))::bk A ((dn ds).map kG)::cy L vs::yF Sg (xD.map .str)::mu) (bT pm doc L) (mv 12) Θ),WS (k+8) (bk Oc ((fb ds n6 [10,14]).map .int)::bk Du ([10,14].map (uU ds))::bk A ((dn ds).map kG)::cy L vs::mu) (bT pm doc L) (mv 9) Θ
namespace yG
@[irreducible] def e0:=zF eO cM cM cM cM gE gE eO gM gM S0
def k_:=e0.1
def L_:=e0.2.1
def A_:=e0.2.2.1
def JK:=e0.2.2.2.1
def RQ:=e0.2.2.2.2.1
def aV:=e0.2.2.2.2.2.1
def Hp:=e0.2.2.2.2.2.2.1
def gP:=e0.2.2.2.2.2.2.2.1
def pf:=e0.2.2.2.2.2.2.2.2.1
def g8:=e0.2.2.2.2.2.2.2.2.2
theorem T0:S0 k_ L_ A_ JK RQ aV Hp gP pf g8:=by
 intro mu vs Θ H he hD hS next
 have hf:∀{x y z:cY} {ro} {mu:Mu},bq L_ (aM (L_+1) (bj (cO 23)).names) ro∈x::y::z::cy L_ ro::mu:=ab _ (ab _ (ab _ aa));have hX:=rY (ds:=aV) (n6:=gP) [10,14];have h2:[10,14].length=2:=rfl;refine aC (b4 (OJ (xs:=xD.map .str) (au cP (au cP (au cP (au cP (au cP (au cP aT)))))) (by show 6<=2 ^ 20;decide) (λSg=>aQ (i:=4) (j:=18) he (.cell (L_+10) "signs") rfl ?_)) rfl rfl);refine WF.to [1,1,1,1] ?_;show WS (k_+8) (bk RQ ((fb aV gP [10,14]).map .int)::bk JK ([10,14].map (uU aV))::bk A_ ((dn aV).map kG)::cy L_ (vs.set 18 (ae (.ref Sg)))::yF Sg (xD.map .str)::mu) _ _ _;have hS1:=hS.set (j:=18) (y:= .ref Sg);have hK:∀{x y z w:cY} {mu:Mu},yF Sg (xD.map .str)∈x::y::z::w::yF Sg (xD.map .str)::mu:=ao (i:=4) rfl;refine aC (bX (y:= .list ((d9 aV gP).map .str)) (bL (br (dF (Ho (dn aV) kG (λq=>[q.1,q.2]) nV (λq b=> .str (xD.getD b "")) ⟨rfl,rfl,by decide+kernel,by decide+kernel⟩ (Ar (ah (j:=10) he (.cell (L_+9) "arms") hf (hS1.get rfl)) (ab _ (ab _ aa))) (by lia) (by show 16<=2 ^ 21;decide) (λC a ha=>Lv 1 2 he.comp .loc .loc rfl (xv (ah (j:=1) he.comp .loc aa rfl)) (λb hb=>bL (bE (PE_tk (ah (j:=18) he.comp (.cell (L_+10) "signs") (ab _ hf) (hS1.get rfl)) (ab _ hK)) (ah (j:=2) he.comp .loc aa rfl) (Qf (by exact dK _) ?_ (by show 6 < 2 ^ 60;decide))) ?_)))) (dF (ij (xs:=[V.str (qJ aV gP),.str "done",.str "end"]) (au (f7 cP mJ (au (dF (jO (tO aV gP) .int (λo=> .str ⟨#[o.toNat]⟩) ⟨rfl,rfl,by decide+kernel,by decide+kernel⟩ (dB (bL (br (uB (ah (j:=13) he .loc hf (hS1.get rfl)) aa) (dF (bE (uB (ah (j:=13) he .loc hf (hS1.get rfl)) aa) (jo dN (eQ (br (bE (dF (ah (j:=3) he (.cell (L_+2) "numbers") hf (hS1.get rfl))) aU (ew (j:=6) hD.six (by refine ai (hD.nlen ..) ?_;decide))) aU (fk (by decide)))) dN) (o9 (by decide) (by refine ai (ak ..) ?_;show _<=8388608;exact aw (by assumption) (by decide))))) (uH ?_)) ?_)) (by lia) (aw yC (by decide)) (λC2 a ha=>iu 1 he.comp .loc dm (λhb=>ej (j3 H he.comp H.b_chr rfl) (au (ah (j:=1) he.comp .loc aa rfl) aT) (Rd (uV a ha).1 (by have:=(uV a ha).2;lia)))))) aT) (rJ ?_) (by exact eN) (by exact ny) (by exact b9) rfl) (au cP (au cP aT))) (by show 3<=2 ^ 20;decide))) (uH ?_)) ?_) (aQ (i:=3) (j:=19) he .loc rfl ?_) rfl rfl)
 ·have:=kc aV a ha;have:b < 6:=by simp at hb;lia
  show (b:Int) < 6;lia
 ·refine ai (b8 ..) ?_;have:=kc aV a ha;have:b < 6:=by simp at hb;lia
  rcases (by lia:b=0\/b=1\/b=2\/b=3\/b=4\/b=5) with rfl|rfl|rfl|rfl|rfl|rfl <;> rfl
 ·have:=uT ((fb aV gP [10,14]).map V.int) av (ae ((gP:Int) % 4)) av;rw [ak] at this ⊢;show _<=8388608;lia
 ·rw [show ((gP:Int) % 4)=((gP % 4:Nat):Int) by lia,Oz,tO,bh,List.map_take]
 ·refine nc (B:=1) (λt ht=>?_) (by refine ai (ak ..) ?_;have:=yC (ds:=aV) (n6:=gP);have h0:("":bc).length=0:=rfl;refine ai (h0 ..) ?_;show _<=1048576;lia);refine aK (aG.mp ht) λo v l9=>?_;subst l9;exact bp 1
 ·show 16+3<=2 ^ 23;decide
 ·unfold d9;rw [bh,uo];simp only [a0];rfl
 have hS2:=hS1.set (j:=19) (y:= .list ((d9 aV gP).map .str));refine cu (H.f280.go) λob TU cd' Jh h0 hd v=>aC (bX (y:= .str (g9 aV gP)) (f7 cP mJ (au (dF (jO ((d9 aV gP).zipIdx) (λq=> .tup [.int (q.2:Nat),.str q.1]) (λq=> .str (ik q.1 ((gP:Int) / ((q.2:Int)+1)))) ⟨rfl,rfl,by decide+kernel,by decide+kernel⟩ (sx (iO H he H.b_enumerate rfl) (ah (j:=19) he .loc hf (hS2.get rfl))) (by lia) (by rw [eW,pV];decide) (λC3 a ha=>tF 1 2 he.comp .loc .loc dm (λhb=>ju (ys:=[.str a.1,.int ((gP:Int) / ((a.2:Int)+1))]) (ml H he.comp H.m_spelled rfl) h0 hd (au (ah (j:=2) he.comp .loc aa rfl) (au (br (bE (dF (ah (j:=3) he.comp (.cell (L_+2) "numbers") (ab _ hf) (hS2.get rfl))) aU (ew (j:=6) hD.six (by rw [hD.nlen];decide))) (br (ah (j:=1) he.comp .loc aa rfl) aU fB) (l8 ?_)) aT)) (lK H ?_ ?_ ?_))))) aT) (rJ IS) (by exact eN) (by exact ny) (by exact b9) rfl) (aQ (i:=3) (j:=20) he .loc rfl (next _ Sg (hS2.set (j:=20)))) rfl rfl)
 all_goals (have hm:a.1∈d9 aV gP:=by
  {have:=gS (f:=uu) ha
   rwa [jd] at this})
 all_goals have hw:=wa _ hm
 ·have:=List.snd_lt_of_mem_zipIdx ha;rw [pV] at this;lia
 ·with_reducible exact aw (by assumption) (by decide)
 ·have:=(wb ((gP:Int) / ((a.2:Int)+1)) (x:=a.1) (by exact aw (by assumption) (by decide))).1;lia
 ·exact (wb _ (x:=a.1) (by exact aw (by assumption) (by decide))).2
end yG
theorem yG{pm doc:aj}:yG.S0 k L A Du Oc ds ns n6 pm doc:=by with_unfolding_all exact uA _ _ _ _ _ _ _ _ _ _ yG.S0 @yG.T0 k L A Du Oc ds ns n6 pm doc
end
section
variable {S:List (Nat×V)}{A:ay}{ke ve:bP}{x:bc}
theorem LM(B:g7 G)(hk:PE k mu env ke (.str x))(hv:PE k mu env ve y):PE k mu env (.Dict [ae ke] [ve] pos) (.dict [(x,y)]):=⟨λ{A E Z s fr Q} hA r q=>by
 with_reducible refine wpAny_Dict_walk (knd:=strKind G.prog G.w) rfl rfl (by simp) (by simp) ?_
 refine pairTrees_cons_walk (hk.c (fr:=cE s.heap.objs.size []::fr) hA ((vK B r).perm cv.symm) λ{kv s1 Z1} z1 q1 r1=>hv.c hA r1 λ{vv s3 Z3} z3 q3 r3=>pairTrees_nil_walk ?_);refine cK (gV q1) λtk dP=>?_;subst dP;have r4:R Z3 (cE s.heap.objs.size []::(mu++fr)) s3:=r3.perm cv;refine qm (r4.sat _ aa) λhq kvs hD SU hr1=>?_;cases jc.mp SU;exact ⟨[(x,vv)],⟨zq G.prog G.w x tk,rfl,trivial⟩,hD,λh' hD' t9=>(fK.dict (D:=s.heap.objs.size) (es:=[(x,y)]) (mu:=mu) (Θ:=λz nu=>z= .dict [(x,y)]/\nu=mu) ⟨rfl,rfl⟩).c (fr:=fr)
  (r4.upd' (x':=cE s.heap.objs.size [(x,y)]) (i:=0) (h':=h') (tk:=s3.toks+1) rfl rfl (λc o hb e=>t9.extBut c o (λq=>hb (q▸aa)) e) ⟨hq,[(x,vv)],hD',rfl,.cons q3 .nil⟩) λ{v v v} z6 q6 r6 u=>q (z1.trans (z3.trans z6)) (u.1▸q6) (u.2▸r6)⟩⟩
theorem WF.drop1{t:oY ug}{a:cY}(h:WF k nu t Θ):WF k (a::nu) t Θ:=⟨λ{A E Z s fr Q} hA r=>h.c hA (r.sublist (.cons _ (sM _)))⟩
theorem FW.app{f:aj}{xs:List V}(more:Mu)(h:FW k mu f xs Φ):FW k (mu++more) f xs λy nu=>∃nu',nu=nu'++more/\Φ y nu':=⟨λ{A E Z s fr vs Q} hA r hv q=>h.c (fr:=more++fr) hA (bU .. ▸r) hv λ{x x x x x} z w r u=>q z w ((bU ..).symm▸r) ⟨_,rfl,u⟩⟩
theorem FW.to{f:aj}{xs:List V}(js:List Nat)(h:FW k (qK js nu) f xs Φ):FW k nu f xs Φ:=⟨λ{A E Z s fr vs Q} hA r hv=>h.c hA (r.perm ((nf js nu).append_right fr)) hv⟩
theorem WF.from{t:oY ug}(js:List Nat){X:Mu}(e:qK js nu=X)(h:WF k X t Θ):WF k nu t Θ:=WF.to js (e▸h)
end
variable {Sg:ay}
theorem sE(l:List bc):(fO "" l).cps.toList=l.flatMap (·.cps.toList):=by
 cases l with
 |nil=>rfl
 |cons t ts=>
  have h:∀(ts:List bc) (acc:Array Nat),(ts.foldl (λacc p=>acc++("":bc).cps++p.cps) acc).toList=acc.toList++ts.flatMap (·.cps.toList):=λts=>by
   induction ts with
   |nil=>intro acc;simp
   |cons u ts ih=>
    intro acc;refine ai (fE ..) ?_;refine ai (ih ..) ?_;refine ai (dH ..) ?_;have:(acc++("":bc).cps++u.cps).toList=acc.toList++u.cps.toList:=by have:("":bc).cps=#[]:=rfl;refine ai (this ..) ?_;simp
    refine ai (this ..) ?_;simp
  show ((ts.foldl (λacc p=>acc++("":bc).cps++p.cps) t.cps).toList)=_;refine ai (h ..) ?_;refine ai (dH ..) ?_;rfl
theorem sF(a b:bc):(a++b).cps.toList=a.cps.toList++b.cps.toList:=by show (a.cps++b.cps).toList=_;simp
abbrev jz(x:bc):Prop:=∀c∈x.cps.toList,c < 256
theorem jz.cat{a b:bc}(ha:jz a)(hb:jz b):jz (a++b):=λc hc=>by
 rw [sF] at hc;rcases bb.mp hc with h|h
 ·exact ha c h
 ·exact hb c h
theorem jz.join{l:List bc}(h:∀t∈l,jz t):jz (fO "" l):=λc hc=>by
 rw [sE] at hc;exact aK (bG.mp hc) λt ht h2=>h t ht c h2
theorem D9(w:Int):jz (jM w):=by
 unfold jM;have h:(w / 4 % 5).toNat < 5:=by lia
 generalize (w / 4 % 5).toNat=n at h;have:∀x∈([["\n","\t","\r"," ",""],["\n","\t","\r"," "," \n"]]:List (List bc)),∀n,n < 5->jz (x.getD n ""):=by decide
 split
 ·exact this _ (.head _) n h
 ·exact this _ (.tail _ (.head _)) n h
theorem F4{x:bc}(w:Int)(hx:jz x):jz (ik x w):=by
 have h1:jz (qH x w):=jz.join λt ht=>by
  refine aK (aG.mp ht) λq hq dP=>?_;subst dP;have hm:q.1∈x.cps.toList:=by
   have:=gS (f:=uu) hq
   rwa [jd] at this
  have h0:jz (⟨#[q.1]⟩:bc):=λc hc=>by
   have:c=q.1:=by simpa using hc
   subst this;exact hx _ hm
  unfold lJ
  split
  ·exact jz.cat (by decide) h0
  ·exact h0
 have h2:jz ("\"":bc):=by decide
 unfold ik
 split
 ·exact ((h2.cat h1).cat h2).cat (D9 w)
 ·exact h1.cat (D9 w)
theorem tQ:(qJ ds n6).cps.toList=(tO ds n6).map uq:=by
 unfold qJ;refine ai (sE ..) ?_;induction tO ds n6 with
 |nil=>rfl
 |cons a l ih=>(refine ai (bA ..) ?_;refine ai (dH ..) ?_;refine ai (ih ..) ?_);rfl
theorem AU:jz (qJ ds n6):=λc hc=>by
 rw [tQ] at hc;refine aK (aG.mp hc) λo ho eT=>?_;subst eT;have:=uV o ho;lia
theorem Ea:∀w∈d9 ds n6,jz w:=by
 intro w hw;have h6:∀n,n < 6->jz (xD.getD n ""):=by decide
 rcases bb.mp hw with h|h
 ·refine aK (bG.mp h) λq hq h2=>aK (aG.mp h2) λb hb gi=>?_;subst gi;have:=kc ds q hq;exact h6 b (by simp at hb;lia)
 ·simp only [aP,ur,or_false] at h;rcases h with rfl|rfl|rfl
  ·exact AU
  ·decide
  ·decide
theorem OK:jz (g9 ds n6):=jz.join λt ht=>by
 refine aK (aG.mp ht) λq hq iC=>?_;subst iC;have EJ:q.1∈d9 ds n6:=by
  have:=gS (f:=uu) hq
  rwa [jd] at this
 exact F4 _ (Ea _ EJ)
section
variable {S:List (Nat×V)}{A:ay}
noncomputable def LN(low:Nat):List (bc×V):=bD low (aN 6) λb=>cV [(cC (low+b),1)]
noncomputable abbrev S12(ds:List Nat)(ns:List Int)(n6:Nat)(A Du Oc Sg lx:ay):List (Nat×V):=(23,.dict (LN (aF ds)))::(22,.dict [])::(21,.ref lx)::S9 ds ns n6 A Du Oc Sg
def tR.S0(k:Nat)(mu:Mu)(vs:eL)(Θ:AF->Mu->Prop)(L A Du Oc:ay)(ds:List Nat)(n6:Nat)(pm doc:aj):Prop:=∀{Sg:ay} {ns:List Int} {K:gn} (H:Hy G) (LH:fL G K) (NH:uM K) (GH:Lg G) (he:dz (bT pm doc L)) (hD:Dr ds ns n6) (hS:Sv vs (S9 ds ns n6 A Du Oc Sg)) (next:∀vs P,mU P->P.text=g9 ds n6->Sv vs (S12 ds ns n6 A Du Oc Sg P.lx)->WS (k+8) (cy L vs::(j5 P [] (1+((g9 ds n6).cps.toList.count 10:Nat)) (g9 ds n6).cps.toList++(bk A ((dn ds).map kG)::bk Du ([10,14].map (uU ds))::gH 304 []::bk Oc ((fb ds n6 [10,14]).map .int)::mu))) (bT pm doc L) (mv 13) Θ),WS (k+8) (bk Oc ((fb ds n6 [10,14]).map .int)::bk Du ([10,14].map (uU ds))::bk A ((dn ds).map kG)::cy L vs::gH 272 (zQ av)::gH 304 []::mu) (bT pm doc L) (mv 12) Θ
namespace tR
@[irreducible] def e0:=HP eO gE gE sZ cM cM cM cM gE eO gM gM S0
def k_:=e0.1
def e9:=e0.2.1
def kQ:=e0.2.2.1
def Θ_:=e0.2.2.2.1
def L_:=e0.2.2.2.2.1
def A_:=e0.2.2.2.2.2.1
def JK:=e0.2.2.2.2.2.2.1
def RQ:=e0.2.2.2.2.2.2.2.1
def aV:=e0.2.2.2.2.2.2.2.2.1
def gP:=e0.2.2.2.2.2.2.2.2.2.1
def pf:=e0.2.2.2.2.2.2.2.2.2.2.1
def g8:=e0.2.2.2.2.2.2.2.2.2.2.2
theorem T0:S0 k_ e9 kQ Θ_ L_ A_ JK RQ aV gP pf g8:=by
 intro Sg ns K H LH NH GH he hD hS next
 have hf:∀{x y z:cY} {ro HL},bq L_ (aM (L_+1) (bj (cO 23)).names) ro∈x::y::z::cy L_ ro::HL:=ab _ (ab _ (ab _ aa));have d8:=eI aV;refine cF (GH.f275.go) λob TU Jh h0 hd w=>aC (b4 (B9 (cB (BZ LH.KO NH.k217 (ml H he H.m_lex rfl) (cB (mj (ml H he H.m_given rfl) h0 hd (cB (cg (ah (j:=20) he .loc hf (hS.get rfl)) (e8 (FW.mono (m8 (i:=4) H GH rfl OK (aw D8 (by decide))) λy nu hy=>?_))))))))) rfl rfl);obtain ⟨f,dx,lam,it,L1,gd,ld,a,b,e1,_,hR,e2⟩:=hy;refine e8 (FW.mono (KM H LH NH) λy2 ua hy=>?_);refine oy hy λlx dx2 pb e3 e4=>?_;clear hy;subst e1 e2 e3 e4
 let P:ib:={lx:=lx,dx:=dx2,pb:=pb,f:=f,fdx:=dx,it:=it,L:=L1,lam:=lam,a:=a,b:=b,gd:=gd,ld:=ld,text:=g9 aV gP}
 have hf9:∀{x0 x1 x2 x3 x4 x5 x6 x7 x8:cY} {ro HL},bq L_ (aM (L_+1) (bj (cO 23)).names) ro∈x0::x1::x2::x3::x4::x5::x6::x7::x8::cy L_ ro::HL:=ao (i:=9) rfl;refine cB (xT H.B (λD0=>fK.dict (cB (yw H.B (aN 6) (λb=> .str (cC (aF aV+b))) (λb=>(cC (aF aV+b),cV [(cC (aF aV+b),1)])) ⟨rfl,rfl,by decide+kernel,by decide+kernel⟩ (dB (ah (j:=7) he (.cell (L_+6) "names") hf9 (hS.get rfl))) (by lia) (by decide) (λC4 a ha=>BL 1 he.comp .loc dm (λhb=>(ah (j:=1) he.comp .loc aa rfl)) (λhb=>LM H.B (ah (j:=1) he.comp .loc aa rfl) aU)) (jx d8 (aN 6) (λb hb=>aY.mp hb) ll) (λD1=>fK.dict (e8 ⟨by show 3<=2 ^ 20;decide,i7 (cw rfl rfl (aQ (i:=9) (j:=21) he (.cell (L_+11) "lexer") rfl (cw rfl rfl (aQ (i:=9) (j:=22) he (.cell (L_+12) "none") rfl (cw rfl rfl (aQ (i:=9) (j:=23) he .loc rfl (iX ?_)))))))⟩))))));refine WF.from [9,0,0,0,0,0,0,3,2,1,1] rfl ?_;have hn:=next _ P ⟨hR⟩ rfl (((hS.set (j:=21) (y:= .ref lx)).set (j:=22) (y:= .dict [])).set (j:=23) (y:= .dict (LN (aF aV))))
 have e1:(1+((g9 aV gP).cps.toList.count 10:Nat):Int) - ((g9 aV gP).cps.toList.count 10:Nat)=1:=by lia
 unfold j5 at hn;rw [e1] at hn;exact hn
end tR
theorem tR{pm doc:aj}:tR.S0 k mu vs Θ L A Du Oc ds n6 pm doc:=by with_unfolding_all exact CU _ _ _ _ _ _ _ _ _ _ _ _ tR.S0 @tR.T0 k mu vs Θ L A Du Oc ds n6 pm doc
end
noncomputable def IT(w:Int)(q:Nat×Nat):Bool:=(w % 2 == 1) || (decide (q.1∈(if decide (w % 4 < 2) then [92,34] else [92,10,9,13,32])) || (decide (q.1=34) && decide (q.2=0)))
noncomputable def Ht(w:Int)(q:Nat×Nat):List Nat:=if IT w q then [92,q.1] else [q.1]
theorem LP:∀c,c < 256->(!(c7 ("\\\"":bc) ⟨#[c]⟩ 0 ("\\\"":bc).length 1).isEmpty)=decide (c∈[92,34]):=by decide+kernel
theorem LQ:∀c,c < 256->(!(c7 ("\\\n\t\r ":bc) ⟨#[c]⟩ 0 ("\\\n\t\r ":bc).length 1).isEmpty)=decide (c∈[92,10,9,13,32]):=by decide+kernel
theorem LR:∀c,c < 256->((⟨#[c]⟩:bc) == "\"")=decide (c=34):=by decide+kernel
theorem F5{w:Int}{q:Nat×Nat}(hc:q.1 < 256):(lJ w q).cps.toList=Ht w q:=by
 have hb:((w % 2 == 1) || ((!(c7 (pT w) ⟨#[q.1]⟩ 0 (pT w).length 1).isEmpty) || (((⟨#[q.1]⟩:bc) == "\"" && ((((q.2:Nat):Int) == 0) && aJ)) || false)))=IT w q:=by
  delta IT pT;refine ai (LR _ hc ..) ?_;refine ai (zB ..) ?_;refine ai (Bool.and_true ..) ?_;have e0:(((q.2:Nat):Int) == 0)=decide (q.2=0):=by
   by_cases h:q.2=0
   ·refine ai (h ..) ?_;rfl
   ·(refine ai (decide_eq_false h ..) ?_;refine gj (beq_eq_false_iff_ne ..) ?_);lia
  refine ai (e0 ..) ?_
  split
  ·(refine ai (LP _ hc ..) ?_;rfl)
  ·(refine ai (LQ _ hc ..) ?_;rfl)
 delta lJ Ht;refine ai (hb ..) ?_
 split
 ·refine ai (sF ..) ?_;rfl
 ·rfl
theorem yH{x:bc}{w:Int}(hx:jz x):(qH x w).cps.toList=x.cps.toList.zipIdx.flatMap (Ht w):=by
 delta qH;refine ai (sE ..) ?_;have:∀l:List (Nat×Nat),(∀q∈l,q.1 < 256)->(l.map (lJ w)).flatMap (·.cps.toList)=l.flatMap (Ht w):=λl=>by
  induction l with
  |nil=>intro z;rfl
  |cons q l ih=>intro h;refine ai (bA ..) ?_;refine ai (dH ..) ?_;refine ai (dH ..) ?_;refine ai (ih λq hq=>h q (ab _ hq) ..) ?_;refine ai (F5 (h q aa) ..) ?_;rfl
 refine this _ λq hq=>hx _ ?_;have:=gS (f:=uu) hq
 rwa [jd] at this
set_option tactic.hygienic true in
theorem Eb{w:Int}(hw:w % 4 < 2)(rest:List Nat):∀(l:List Nat) (i:Nat) (acc:List Nat),uR acc ((l.zipIdx i).flatMap (Ht w)++34::rest)=ae (acc++l,rest)
 |[],i,acc=>by
  show uR acc (34::rest)=_;unfold uR;simp
 |c::l,i,acc=>by
  refine ai (ow ..) ?_;refine ai (dH ..) ?_;have ih:=Eb hw rest l (i+1) (acc++[c]);unfold Ht
  split
  ·rename_i h;show uR acc (92::c::(((l.zipIdx (i+1)).flatMap (Ht w))++34::rest))=_;unfold uR;refine ai (if_neg (by decide) ..) ?_;refine ai (if_pos rfl ..) ?_;show uR (acc++[c]) _=_;refine ai (ih ..) ?_;simp
  ·rename_i h;show uR acc (c::(((l.zipIdx (i+1)).flatMap (Ht w))++34::rest))=_;unfold IT at h;rw [decide_eq_true hw,if_pos rfl] at h;simp at h;refine GS h λ_ h1 _=>?_;clear h;unfold uR;(refine ai (if_neg h1.2 ..) ?_;refine ai (if_neg h1.1 ..) ?_;refine ai (ih ..) ?_);simp
set_option tactic.hygienic true in
theorem Ec{w:Int}(hw:¬w % 4 < 2){g:Nat}(hg:xB g=aJ)(rest:List Nat):∀(l:List Nat) (i:Nat) (acc:List Nat),sV acc ((l.zipIdx i).flatMap (Ht w)++g::rest)=ae (acc++l,rest)
 |[],i,acc=>by
  show sV acc (g::rest)=_;unfold sV;refine ai (if_pos hg ..) ?_;simp
 |c::l,i,acc=>by
  refine ai (ow ..) ?_;refine ai (dH ..) ?_;have ih:=Ec hw hg rest l (i+1) (acc++[c]);unfold Ht
  split
  ·rename_i h;show sV acc (92::c::(((l.zipIdx (i+1)).flatMap (Ht w))++g::rest))=_;unfold sV;refine ai (if_neg (by decide) ..) ?_;refine ai (if_pos rfl ..) ?_;show sV (acc++[c]) _=_;refine ai (ih ..) ?_;simp
  ·rename_i h;show sV acc (c::(((l.zipIdx (i+1)).flatMap (Ht w))++g::rest))=_;unfold IT at h;rw [decide_eq_false hw,if_neg (by decide)] at h;simp at h;have hws:xB c=aH:=by
    unfold xB;simp;lia
   unfold sV;(refine ai (hws ..) ?_;refine ai (if_neg (by decide) ..) ?_;refine ai (if_neg (by lia) ..) ?_;refine ai (ih ..) ?_);simp
theorem Ee:∀(pre l:List Nat),(∀c∈pre,xB c=aJ)->yp (pre++l)=yp l
 |[],l,_=>rfl
 |c::pre,l,h=>by
  refine ai (fU ..) ?_;show (if xB c then yp (pre++l) else _)=_;exact ai (if_pos (h c aa) ..) (Ee pre l λc hc=>h c (ab _ hc))
theorem AV(w:Int):∀c∈(jM w).cps.toList,xB c=aJ:=by
 delta jM;have h:(w / 4 % 5).toNat < 5:=by lia
 generalize (w / 4 % 5).toNat=n at h;have:∀x∈([["\n","\t","\r"," ",""],["\n","\t","\r"," "," \n"]]:List (List bc)),∀n,n < 5->∀c∈(x.getD n "").cps.toList,xB c=aJ:=by decide
 split
 ·exact this _ (.head _) n h
 ·exact this _ (.tail _ (.head _)) n h
theorem AW(w:Int):(jM w).cps.toList.length<=2:=by
 delta jM;have h:(w / 4 % 5).toNat < 5:=by lia
 generalize (w / 4 % 5).toNat=n at h;have:∀x∈([["\n","\t","\r"," ",""],["\n","\t","\r"," "," \n"]]:List (List bc)),∀n,n < 5->(x.getD n "").cps.toList.length<=2:=by decide
 split
 ·exact this _ (.head _) n h
 ·exact this _ (.tail _ (.head _)) n h
theorem F6{w:Int}(hw:¬w % 4 < 2):∃g pre,(jM w).cps.toList=g::pre/\xB g=aJ/\∀c∈pre,xB c=aJ:=by
 have h1:=AV w;have h2:(jM w).cps.toList≠[]:=by
  delta jM;refine ai (decide_eq_false hw ..) ?_;have h:(w / 4 % 5).toNat < 5:=by lia
  generalize (w / 4 % 5).toNat=n at h;have:∀n,n < 5->((["\n","\t","\r"," "," \n"]:List bc).getD n "").cps.toList≠[]:=by decide
  exact this n h
 cases e:(jM w).cps.toList with
 |nil=>exact absurd e h2
 |cons g pre=>exact ⟨g,pre,rfl,h1 g (by refine ai (e ..) ?_;exact aa),λc hc=>h1 c (by refine ai (e ..) ?_;exact ab _ hc)⟩
set_option tactic.hygienic true in
theorem LS{x:bc}{w:Int}(hx:jz x)(iQ:x.cps.toList≠[])(rest:List Nat):∃pre,(∀c∈pre,xB c=aJ)/\pre.length<=2/\yp ((ik x w).cps.toList++rest)=ae (x.cps.toList,pre++rest):=by
 by_cases hw:w % 4 < 2
 ·refine ⟨(jM w).cps.toList,AV w,AW w,?_⟩;delta ik;refine ai (decide_eq_true hw ..) ?_;refine ai (if_pos rfl ..) ?_;refine ai (sF ..) ?_;refine ai (sF ..) ?_;refine ai (sF ..) ?_;refine ai (yH hx ..) ?_;have e:("\"":bc).cps.toList=[34]:=rfl;refine ai (e ..) ?_;show yp (34::(x.cps.toList.zipIdx.flatMap (Ht w))++[34]++(jM w).cps.toList++rest)=_;have:=Eb hw ((jM w).cps.toList++rest) x.cps.toList 0 [];simp only [fU,bU,qf] at this ⊢;show (if xB 34 then _ else if 34=34 then uR [] _ else _)=_;refine ai (if_neg (by decide) ..) ?_;refine ai (if_pos rfl ..) ?_;exact this
 ·refine cD (F6 hw) λg pre e hg hp=>⟨pre,hp,by have:=AW w;rw [e,bJ] at this;exact ni (by assumption),?_⟩
  delta ik;refine ai (decide_eq_false hw ..) ?_;refine ai (if_neg (by decide) ..) ?_;refine ai (sF ..) ?_;refine ai (yH hx ..) ?_;refine ai (e ..) ?_;have:=Ec hw hg (pre++rest) x.cps.toList 0 [];simp only [fU,bU,qf] at this ⊢;refine fZ (this ..) ?_;cases hxl:x.cps.toList with
  |nil=>exact absurd hxl iQ
  |cons c l=>
   refine ai (ow ..) ?_;refine ai (dH ..) ?_;delta Ht
   split
   ·show (if xB 92 then _ else if 92=34 then _ else sV [] _)=_;refine ai (if_neg (by decide) ..) ?_;refine ai (if_neg (by decide) ..) ?_;rfl
   ·rename_i h;unfold IT at h;rw [decide_eq_false hw,if_neg (by decide)] at h;simp at h;have hws:xB c=aH:=by
     delta xB;simp;lia
    show (if xB c then _ else if c=34 then _ else sV [] _)=_;refine ai (hws ..) ?_;refine ai (if_neg (by decide) ..) ?_;refine ai (if_neg (by lia) ..) ?_;rfl
noncomputable def tl(ds:List Nat)(n6 i:Nat):List Nat:=((d9 ds n6).zipIdx.drop i).flatMap λq=>(ik q.1 ((n6:Int) / ((q.2:Int)+1))).cps.toList
theorem Hu:(g9 ds n6).cps.toList=tl ds n6 0:=by delta g9 tl;refine ai (sE ..) ?_;refine ai (fx ..) ?_;refine ai (List.flatMap_map ..) ?_;rfl
theorem LU(n w:Int):1<=(gm n w).length:=by
 rcases kY n w with h|h|h
 ·refine ai (tM h ..) ?_;simp
 ·refine ai (yz h ..) ?_;simp
 ·refine ai (yy h ..) ?_;simp
theorem AX:∀(l:List Nat) (xs:List Int),xs.length+l.length<=(iA n6 xs l).length
 |[],xs=>by simp [iA]
 |n::l,xs=>by
  have h:=AX l (xs++gm n ((n6:Int) / ((xs.length:Int)+1)));have:=LU n ((n6:Int) / ((xs.length:Int)+1));rw [ba] at h;show _<=(iA n6 (xs++gm n ((n6:Int) / ((xs.length:Int)+1))) l).length;refine ai (bJ ..) ?_;lia
theorem LV:4<=(tO ds n6).length:=by
 delta tO;refine ai (ba ..) ?_;have:4<=(fb ds n6 [10,14]).length:=by delta fb;simp only [fE,List.foldl_nil];have:=AX (n6:=n6) (jy ds 14) (iA n6 [] (jy ds 10));have h4:(jy ds 14).length=4:=rfl;lia
 lia
theorem LW:∀w∈d9 ds n6,w.cps.toList≠[]:=by
 intro w hw;have h6:∀n,n < 6->(xD.getD n "").cps.toList≠[]:=by decide
 rcases bb.mp hw with h|h
 ·refine aK (bG.mp h) λq hq h2=>aK (aG.mp h2) λb hb dP=>?_;subst dP;have:=kc ds q hq;exact h6 b (by simp at hb;lia)
 ·simp only [aP,ur,or_false] at h;rcases h with rfl|rfl|rfl
  ·intro e;rw [tQ] at e;have:=LV (ds:=ds) (n6:=n6);have e2:=congrArg kL e;rw [ak,GN] at e2;lia
  ·decide
  ·decide
def pg(ds:List Nat)(n6 i:Nat)(cs:List Nat):Prop:=∃pre,(∀c∈pre,xB c=aJ)/\pre.length<=2/\cs=pre++tl ds n6 i
theorem pg.start:pg ds n6 0 (g9 ds n6).cps.toList:=⟨[],(λz h=>el h),by simp,by refine ai (Hu ..) ?_;rfl⟩
theorem RU(i:Nat):(tl ds n6 i).length<=1200:=by
 have h:(tl ds n6 i).length<=(tl ds n6 0).length:=by delta tl;rw [fx];have e:(d9 ds n6).zipIdx=(d9 ds n6).zipIdx.take i++(d9 ds n6).zipIdx.drop i:=(om i _).symm;have e2:=congrArg (λl=>(l.flatMap λq=>(ik q.1 ((n6:Int) / ((q.2:Int)+1))).cps.toList).length) e;simp only [Ul,ba] at e2;lia
 rw [<- Hu] at h;exact aw h (D8 (ds:=ds) (n6:=n6))
theorem pg.len{i:Nat}{cs:List Nat}(h:pg ds n6 i cs):cs.length<=2 ^ 20:=by refine ef h λpre z h2 eT=>?_;clear h;subst eT;have:=RU (ds:=ds) (n6:=n6) i;refine ai (ba ..) ?_;show _<=1048576;lia
theorem pg.tok{i:Nat}{cs:List Nat}{x:bc}(h:pg ds n6 i cs)(hx:(d9 ds n6)[i]? =ae x):∃cs',yp cs=ae (x.cps.toList,cs')/\pg ds n6 (i+1) cs':=by
 refine ef h λpre h1 h2 gi=>?_;clear h;subst gi;have hi:=(aB.mp hx).1;have hd:(d9 ds n6).zipIdx.drop i=(x,i)::(d9 ds n6).zipIdx.drop (i+1):=by refine ai (dZ (by rw [eW];exact hi) ..) ?_;congr 1;refine ai (List.getElem_zipIdx ..) ?_;have:=(aB.mp hx).2;refine ai (this ..) ?_;simp
 have e:tl ds n6 i=(ik x ((n6:Int) / ((i:Int)+1))).cps.toList++tl ds n6 (i+1):=by delta tl;refine ai (hd ..) ?_;refine ai (dH ..) ?_;rfl
 have hm:=ao hx;obtain ⟨pre',h3,h4,h5⟩:=LS (w:=(n6:Int) / ((i:Int)+1)) (Ea x hm) (LW x hm) (tl ds n6 (i+1));exact ⟨_,by (refine ai (Ee pre _ h1 ..) ?_;refine ai (e ..) ?_);exact h5,pre',h3,h4,rfl⟩
theorem pg.end_{cs:List Nat}(h:pg ds n6 19 cs):∀c∈cs,xB c=aJ:=by
 refine ef h λpre h1 z iC=>?_;clear h;subst iC;have:tl ds n6 19=[]:=by delta tl;refine ai (List.drop_eq_nil_of_le (by rw [eW,pV];exact bp _) ..) ?_;rfl
 (refine ai (this ..) ?_;refine ai (cz ..) ?_);exact h1
theorem OL{p:Nat}(hp:p < 8):(d9 ds n6)[2*p]? =ae (xD.getD ((dn ds).getD p (0,0)).1 "")/\(d9 ds n6)[2*p+1]? =ae (xD.getD ((dn ds).getD p (0,0)).2 ""):=by rcases (by lia:p=0\/p=1\/p=2\/p=3\/p=4\/p=5\/p=6\/p=7) with rfl|rfl|rfl|rfl|rfl|rfl|rfl|rfl <;> exact ⟨rfl,rfl⟩
theorem OM:(d9 ds n6)[16]? =ae (qJ ds n6):=rfl
theorem ON:(d9 ds n6)[17]? =ae ("done":bc):=rfl
theorem OO:(d9 ds n6)[18]? =ae ("end":bc):=rfl
theorem Ef{items:Array aj}{x:aj}{e:aj->Bool}(he:∀y,y∈items->MeetsSeq.EqGives y x (e y)){j:Nat}(hj:j < items.size)(hit:e items[j]=aJ)(Bo:∀m (hm:m < items.size),m < j->e items[m]=aH){Q:Option NL×Unit->aq->Prop}(hQ:Q (ae (.done (.ret (.int j s.toks))),()) {s with toks:=s.toks+1})
 {f:Nat->Option NL×Unit->oY (ForInStep (Option NL×Unit))} (hf:∀i y r,items[i]? =ae y->f i r=(do
  let b <- eqBool y x
  if b=aJ then do
   let q <- retInt i
   dh (ForInStep.done (ae q,()))
  else dh (GI (av,())))):
 ∀(n i:Nat),i<=j->j < i+n->aS (aX prog w) A (forIn (List.range' i n 1) ((av,()):Option NL×Unit) f) Q E s
 |0,i,h1,h2=>by lia
 |n+1,i,h1,h2=>by
  refine ai (List.range'_succ ..) ?_;refine ai (List.forIn_cons ..) ?_;have hi:i < items.size:=by exact b7 (by assumption) (by assumption)
  refine ag (ai (hf i _ _ (dY hi) ..) ?_);refine ag (he _ (Array.getElem_mem hi) prog w _ _ _ _ ?_);by_cases Bn:i=j
  ·subst Bn;refine ai (hit ..) ?_;refine ai (if_pos rfl ..) ?_;refine ag ?_
   wp_walk
   exact hQ
  ·(refine ai (Bo i hi (by exact Nat.lt_of_le_of_ne (by assumption) (by assumption)) ..) ?_;refine ai (if_neg cG ..) ?_)
   exact ar (Ef he hj hit Bo hQ hf n (i+1) (by lia) (by lia))
theorem Eg(l:ay)(o:oX)(hc:o.cls= .type "tuple")(items:Array aj)(n:Nat)(hd:o.data= .seq items n)(x:aj)(e:aj->Bool)(he:∀y,y∈items->MeetsSeq.EqGives y x (e y))(j:Nat)(hj:j < items.size)
 (hit:e items[j]=aJ) (Bo:∀m (hm:m < items.size),m < j->e items[m]=aH):
 Meets (Builtin.«tuple.index» ⟨[.ref l,x],[]⟩) (λz R s=>s.heap.get? l=ae o/\R (.ok (.ret (.int j s.toks))) {s with toks:=s.toks+1}):=
 .of_wp λprog w A R s h=>by
  obtain ⟨hp,g,d,tk,os⟩:=s;obtain ⟨hl,h⟩:=h;show aS _ _ (selfAndSome "tuple.index" "index" 1 3 ⟨[.ref l,x],[]⟩ >>=_) _ _ _;refine ag (cN (a:=(.ref l,[x])) (by rfl) ?_);show aS _ _ (Builtin.Tuple.tupleItemsOf (.ref l) >>=_) _ _ _;refine ag (wpAny_tupleItemsOf hl hd ?_);refine ag (ar (ag (ar (ag ?_))));refine ai (Std.Legacy.Range.forIn_eq_forIn_range' ..) ?_;have hsz:(min items.size items.size - 0+1 - 1) / 1=min items.size items.size:=by lia
  refine eR (Q:=λr s'=>r=(ae (.done (.ret (.int j tk))),())/\s'=⟨hp,g,d,tk+1,os⟩) ?_ (λr s' ⟨e1,e2⟩=>?_) λz z e=>e
  ·show aS _ _ (forIn (List.range' 0 ((min items.size items.size - 0+1 - 1) / 1) 1) _ _) _ _ _;refine ai (hsz ..) (Ef he hj hit Bo ⟨rfl,rfl⟩ (λi y r h=>?_) _ 0 (gq _) (by lia));simp only [h]
  ·subst e1 e2;exact ar ⟨_,rfl,h⟩
theorem ri{it t:ay}{items:Array aj}(iQ:t≠it):∀(n i:Nat) (s:aq) (Q:List aj->aq->Prop),s.heap.IsListIter it t i->s.heap.IsList t items->i+n<=items.size->
 (∀h',h'.IsListIter it t (i+n)->ji it s.heap h'->Q ((items.toList.drop i).take n) {s with heap:=h'})->aS (aX prog w) A (draw (.ref it) n) Q E s
 |0,i,s,Q,hit,_,_,hQ=>by
  show aS _ _ (dh []) Q E s;exact ar (by exact hQ s.heap hit (JH ..))
 |n+1,i,s,Q,hit,ht,hle,hQ=>by
  have hlt:i < items.size:=by lia
  show aS _ _ (lZ (.ref it) >>=_) Q E s;refine ag (zp hit ht (x:=items[i]) (by simp [hlt]) λh₁ GD MY=>?_);have ht₁:h₁.IsList t items:=by refine aK ht λo h1 h2=>?_;clear ht;exact ⟨o,MY.extBut t o iQ h1,h2⟩
  refine ag (bC (ri iQ n (i+1) _ _ GD ht₁ (by lia) λh₂ SZ hs₂=>ar ?_));have hd:items.toList.drop i=items[i]::items.toList.drop (i+1):=by simp [dZ,hlt]
  have:=hQ h₂ (by refine ai (show i+(n+1)=i+1+n by lia) ?_;exact SZ) (MY.trans hs₂);rw [hd,jb] at this;exact this
def dO.S0(prog:d7)(w:eo)(s:aq)(t:ay)(items:Array aj)(_:Nat):Prop:=∀{A:bo} {E:aj->aq->Prop} {Q:List aj->aq->Prop} (hh:A.handled=av) (ht:s.heap.IsList t items) (hQ:∀h',rt s.heap.objs.size s.heap h'->Q items.toList {s with heap:=h'}),aS (aX prog w) A (NM (.ref t) items.size av) Q E s
namespace dO
@[irreducible] def e0:=Fi sU E1 zG cM inferInstance eO S0
def cW:=e0.1
def w_:=e0.2.1
def s_:=e0.2.2.1
def t_:=e0.2.2.2.1
def k5:=e0.2.2.2.2.1
theorem T0:S0 cW w_ s_ t_ k5 e0.2.2.2.2.2:=by
 intro A E Q hh ht hQ;have hlt:t_≠s_.heap.objs.size:=by obtain ⟨o,ho,_⟩:=ht;exact c9 (bM ho)
 have hT:s_.TypeIs (.ref t_) "list":=by obtain ⟨o,ho,hc,_⟩:=ht;exact ⟨o,ho,hc⟩
 unfold NM;refine ag ?_
 ·unfold notIterableAtAll;refine ag (h8 hT PySem.F.slot_list_iter.lookup ?_);refine ar ?_;simp only [dk,if_false];refine ag (bC (lq ht ?_));have PR:(s_.heap.push {cls:= .type "list_iterator",data:= .fields #[.ref t_,.int 0 0]}).IsList t_ k5:=by
   refine aK ht λo h1 h2=>?_;clear ht;exact ⟨o,az _ h1,h2⟩
  refine ag (bC (ri hlt k5.size 0 _ _ ⟨_,aW _ rfl,rfl,rfl⟩ PR (by lia) λh₁ GD MY=>?_));have zm:List.take k5.size (List.drop 0 k5.toList)=k5.toList:=by refine ai (fx ..) ?_;exact d6 (by exact bp _)
  refine ai (zm ..) (ai (if_neg (by simp) ..) ?_);have ht₁:h₁.IsList t_ k5:=by refine aK PR λo h1 h2=>?_;clear PR;exact ⟨o,MY.extBut t_ o hlt h1,h2⟩
  refine ag (bC (Ad hh GD ht₁ (by simp) λh₂ he₂=>?_));simp only [Ae,dk,if_false];refine ar (hQ h₂ λb o hb e=>he₂ b o hb (MY.extBut b o hb (az _ e)))
end dO
theorem dO{t:ay}{items:Array aj}:dO.S0 prog w s t items 0:=by with_unfolding_all exact uz _ _ _ _ _ _ dO.S0 @dO.T0 prog w s t items 0
section
variable {Ψ:Mu->Prop}{x:bc}{ns:List bc}
theorem F7{ts:List bP}{kk:Nat}(h:HR k mu env ts xs Ψ):mI k mu env (.Tuple ts kk p) (.list xs) Ψ:=⟨λ{A E Z s fr v Q} hA r hv q=>by
 refine cF (rg.list hv) λa vs n dP e1 hr=>?_;subst dP;have hn:(jB ts env).length=vs.toList.length:=(nz ts).trans (h.len.trans hr.length.symm);refine ai (arm_assign_Tuple ..) ?_;refine ag (iI ?_);unfold unpack;refine ai (hn ..) ?_;refine ai (o6 h.plain ..) ?_;refine ag (bC ?_);refine ai (eK ..) ?_;exact dO hA.hh (⟨_,r.zin _ _ e1,rfl,n,rfl⟩:s.heap.IsList a vs) λh' hx=>h.c hA (r.keep (tk:=s.toks) λb o e=>hx b o (c9 (bM e)) e) hr q⟩
theorem Eh(hj:ns[j]? =ae x)(Bo:∀m,m < j->ns[m]? ≠ae x):Fn k mu (.builtin "tuple.index") [bZ (.tup (ns.map .str)),bZ (.str x)] (bZ (.int j)):=⟨λ{A E Z s fr vs Q} hA r hq q=>by
 refine cD (hq.two) λv u eT q1 q2=>?_;subst eT;refine dM (aZ.tup_inv q1) λa o ws n gi e1 hc hd hr=>?_;subst gi;refine cK (gV q2) λnx iC=>?_;subst iC;have hlen:ws.size=ns.length:=by (refine fZ (cb hr ..) ?_;refine ai (ak ..) ?_;rfl)
 have hjl:=(aB.mp hj).1;have key:∀(m:Nat) (hm:m < ws.size),isStrOf x ws[m]=decide (ns[m]? =ae x):=by intro m hm;refine aK (hr.get' (bV.trans (dY hm))) λy h4 h5=>?_;rw [aI] at h4;refine aK (aL.mp h4) λc h6 kF=>?_;subst kF;refine cK (gV h5) λtk h7=>?_;refine ai (h7 ..) ?_;refine ai (h6 ..) ?_;simp [isStrOf];refine gj (cm ..) ?_;simp
 have hi:=tE hr;exact l5 Nd (⟨_,r.zin _ _ e1,hc⟩:s.TypeIs (.ref a) "tuple") PySem.F.entry_tuple_index (PySem.F.args_tuple_index_2 _ _) (Eg a o hc ws n hd (.str x nx) (isStrOf x) (λy hy=>eq_isStrOf x nx hi y (pE.mpr hy)) j (hlen▸hjl) (by (refine ai (key _ (hlen▸hjl) ..) ?_;refine ai (hj ..) ?_);exact decide_eq_true rfl) (λm hm h=>by refine ai (key ..) ?_;exact decide_eq_false (Bo m h)))
  ⟨r.zin _ _ e1,q .rfl (aZ.int _ _) r.toks⟩⟩
end
section
variable {i:bP}
theorem OP(ho:PE k mu env o (.list xs))(hi:WE k mu env i λy nu=>∃z,Gi k nu (md nu xs) (bZ y) (bZ z)/\Φ z nu)(hs:∀a b,∃ops,NB i aH a b=operate ops (Jt a b):=by intro a b;exact ⟨_,rfl⟩):
 WE k mu env (.Subscript o i p) Φ:=⟨λ{x x x x x x} hA r q=>Kh hs (ho.c hA r λ{x x x} z1 q1 r1=>hi.c hA r1 λz2 q2 r2 ⟨z,g,w⟩ T' t=>g.c hA r2 (BB (aZ.mono z2 q1)) q2 λ{x x x} z3 q3 r3=>t (q (z1.trans (z2.trans z3)) q3 r3 w))⟩
end
noncomputable def k6(c:Cs)(a:Nat):Cs:=if c.any (λp=>p.1=a) then c.map (λp=>if p.1=a then (p.1,p.2+1) else p) else c++[(a,1)]
noncomputable abbrev Ei(low:Nat)(c:Cs):List (bc×Int):=c.map λq=>(cC (low+q.1),q.2)
theorem Cb(low:Nat)(c:Cs):FL low c=cV (Ei low c):=by delta FL cV Ei;refine ai (a0 ..) ?_;rfl
theorem wO{low a b:Nat}(hl:low < 28)(ha:a < 6)(hb:b < 6):(cC (low+a)=cC (low+b))↔a=b:=⟨λh=>by have:=qz (low+a) (by lia) (low+b) (by lia) h;lia,λh=>by (refine ai (h ..) ?_;rfl)⟩
theorem IU{low a:Nat}{c:Cs}(hl:low < 28)(ha:a < 6)(hc:∀q∈c,q.1 < 6):oL (Ei low c) [(cC (low+a),1)]=Ei low (k6 c a):=by
 show uL (Ei low c) (cC (low+a),1)=_;delta uL k6;have e:(Ei low c).any (λp=>p.1=cC (low+a))=c.any (λp=>p.1=a):=by
  delta Ei;refine ai (CB ..) ?_;induction c with
  |nil=>rfl
  |cons q c ih=>refine ai (zC ..) ?_;refine ai (zC ..) ?_;refine ai (ih λq hq=>hc q (ab _ hq) ..) ?_;congr 1;show decide (cC (low+q.1)=cC (low+a))=_;exact gj (decide_eq_decide ..) (wO hl (hc q aa) ha)
 refine ai (e ..) ?_
 split
 ·delta Ei;refine ai (a0 ..) ?_;refine ai (a0 ..) ?_;apply b5;intro q hq;show (if cC (low+q.1)=cC (low+a) then (cC (low+q.1),q.2+1) else (cC (low+q.1),q.2))=(cC (low+(if q.1=a then (q.1,q.2+1) else q).1),(if q.1=a then (q.1,q.2+1) else q).2);by_cases h:q.1=a
  ·(refine ai (if_pos ((wO hl (hc q hq) ha).mpr h) ..) ?_;refine ai (if_pos h ..) ?_;rfl)
  ·(refine ai (if_neg (λe=>h ((wO hl (hc q hq) ha).mp e)) ..) ?_;refine ai (if_neg h ..) ?_;rfl)
 ·delta Ei;refine ai (bh ..) ?_;rfl
theorem oU(c:Cs)(a:Nat):(k6 c a).map (·.1)=if a∈c.map (·.1) then c.map (·.1) else c.map (·.1)++[a]:=by
 delta k6;have e:c.any (λp=>p.1=a)=decide (a∈c.map (·.1)):=by
  refine gj (cm ..) ?_;refine gj (cT ..) ?_;refine ai (decide_eq_true_eq ..) ?_;constructor
  ·intro dP;refine aK dP λq hq h=>?_;clear dP;exact aG.mpr ⟨q,hq,by simpa using h⟩
  ·intro h;exact aK (aG.mp h) λq hq h=>⟨q,hq,by simpa using h⟩
 refine ai (e ..) ?_;by_cases h:a∈c.map (·.1)
 ·(refine ai (decide_eq_true h ..) ?_;refine ai (if_pos rfl ..) ?_;refine ai (if_pos h ..) ?_;refine ai (a0 ..) ?_)
  apply b5;intro q z;show (if q.1=a then (q.1,q.2+1) else q).1=q.1
  split <;> rfl
 ·(refine ai (decide_eq_false h ..) ?_;refine ai (if_neg (by decide) ..) ?_;refine ai (if_neg h ..) ?_;refine ai (bh ..) ?_);rfl
noncomputable def kj(B:Rw)(pl:Nat)(q:Nat×Nat):Rw where
 a:=λb=>if b=q.2 then (if q.1=q.2 then 0 else 1)+B.a b else B.a b
 b:=λb=>if b=q.2 then 1+B.b b else B.b b
 c:=λb=>if b=q.2 then (pl:Int)+B.c b else B.c b
 d:=λb=>if b=q.2 then (pl:Int)*pl+B.d b else B.d b
 cs:=λb=>if b=q.2 then k6 (B.cs b) q.1 else B.cs b
noncomputable def B0:Rw:=⟨λz=>0,λz=>0,λz=>0,λz=>0,λz=>[]⟩
noncomputable def fF(B:Rw)(i:Nat)(l:List (Nat×Nat)):Rw:=(l.zipIdx i).foldl (λB q=>kj B q.2 q.1) B
structure E6(B:Rw)(n:Nat):Prop where
 lt:∀b,∀c∈B.cs b,c.1 < 6
 nd:∀b,((B.cs b).map (·.1)).Nodup
 len:∀b,(B.cs b).length<=n
theorem E6.zero:E6 B0 0:=⟨λz z h=>(el h),λz=>kP,λz=>bp _⟩
set_option tactic.hygienic true in
theorem E6.step{B:Rw}{n pl:Nat}{q:Nat×Nat}(h:E6 B n)(hq:q.1 < 6):E6 (kj B pl q) (n+1):=by
 refine ⟨λb c hc=>?_,λb=>?_,λb=>?_⟩
 ·unfold kj at hc;simp only at hc
  split at hc
  ·have:c.1∈(k6 (B.cs b) q.1).map (·.1):=gS hc;rw [oU] at this;have old:∀x∈(B.cs b).map (·.1),x < 6:=λx hx=>by
    refine aK (aG.mp hx) λy hy eT=>?_;subst eT;exact h.lt b y hy
   split at this
   ·exact old _ this
   ·rcases bb.mp this with h'|h'
    ·exact old _ h'
    ·refine ai (aA.mp h' ..) ?_;exact hq
  ·exact h.lt b c hc
 ·delta kj;simp only
  split
  ·refine ai (oU ..) ?_
   split
   ·exact h.nd b
   ·rename_i hn;exact gj (bO ..) (⟨h.nd b,by simp,λx hx y hy=>by refine ai (aA.mp hy ..) ?_;exact λe=>hn (e▸hx)⟩)
  ·exact h.nd b
 ·delta kj;simp only
  split
  ·have:=congrArg kL (oU (B.cs b) q.1);rw [ak] at this;refine ai (this ..) ?_;have:=h.len b
   split
   ·refine ai (ak ..) ?_;exact Nat.le_succ_of_le (by assumption)
   ·(refine ai (ba ..) ?_;refine ai (ak ..) ?_);simp;with_reducible assumption
  ·have:=h.len b;exact Nat.le_succ_of_le (by assumption)
theorem LX{low:Nat}{l:List Nat}{f g:Nat->V}(h:∀b∈l,f b=g b):bD low l f=bD low l g:=by delta bD;exact b5 λb hb=>by (refine ai (h b hb ..) ?_;rfl)
set_option tactic.hygienic true in
theorem Ej{low:Nat}{B:Rw}{pl:Nat}{q:Nat×Nat}(hl:low < 28)(hj:q.2∈[1,2,3,4,5]):jE (fT low B) (cC (low+q.2)) (rn low (kj B pl q) q.2)=fT low (kj B pl q):=by
 delta fT;refine ai (FK hl (by decide) hj ..) (LX λb hb=>?_)
 split
 ·rename_i h;(refine ai (h ..) ?_;rfl)
 ·rename_i h;simp only [rn,kj,if_neg h]
theorem kE(B:Rw)(i:Nat)(l:List (Nat×Nat))(q:Nat×Nat):fF B i (l++[q])=kj (fF B i l) (i+l.length) q:=by delta fF;refine ai (List.zipIdx_append ..) ?_;refine ai (fq ..) ?_;rfl
section
variable {S:List (Nat×V)}{A:ay}
noncomputable abbrev Qp(ds:List Nat)(ns:List Int)(n6:Nat)(A Du Oc Sg lx Bk:ay):List (Nat×V):=(41,.ref Bk)::S12 ds ns n6 A Du Oc Sg lx
noncomputable abbrev ph(P:ib)(N:Int)(cs:List Nat)(A:ay)(arms:List (Nat×Nat))(ds:List Nat)(Du:ay)(mu:Mu):Mu:=j5 P [] N cs++(bk A (arms.map kG)::bk Du ([10,14].map (uU ds))::gH 304 []::mu)
theorem RV(H:Hy G){pm doc:aj}(he:dz (bT pm doc L)){P:ib}{N:Int}{cs:List Nat}(hS:Sv vs (S12 ds ns n6 A Du Oc Sg P.lx))
 (next:∀vs Bk,Sv vs (Qp ds ns n6 A Du Oc Sg P.lx Bk)->WS (k+8) (cy L vs::cE Bk (fT (aF ds) B0)::ph P N cs A (dn ds) ds Du mu) (bT pm doc L) (mv 14) Θ):
 WS (k+8) (cy L vs::ph P N cs A (dn ds) ds Du mu) (bT pm doc L) (mv 13) Θ:=by
 have d8:=eI ds;refine aC (b4 (yw H.B [1,2,3,4,5] (λb=> .str (cC (aF ds+b))) (λb=>(cC (aF ds+b),rn (aF ds) B0 b)) ⟨rfl,rfl,by decide+kernel,by decide+kernel⟩ (dB (bL (bE (dF (ah (j:=7) he (.cell (L+6) "names") aa (hS.get rfl))) (jo (eQ aU) dN dN) (o9 (by decide) (by show 6<=2 ^ 23;decide))) ?_)) (by lia) (by decide) (λC5 a ha=>BL 1 he.comp .loc dm (λhb=>(ah (j:=1) he.comp .loc aa rfl)) (λhb=>f9 (xs:=[.int 0,.int 0,.int 0,.int 0,.dict []]) (au aU (au aU (au aU (au aU (au (ah (j:=22) he.comp (.cell (L+12) "none") (ab _ aa) (hS.get rfl)) aT))))) (by show 5<=2 ^ 20;decide))) (jx d8 [1,2,3,4,5] (by decide) (by decide)) (λD=>fK.ref (aQ (i:=1) (j:=41) he (.cell (L+15) "book") rfl ?_))) rfl rfl)
 ·(refine ai (jr ..) ?_;refine ai (show jq (aN 6) (ae 1) av av=[1,2,3,4,5] from by decide+kernel) ?_;rfl)
 ·exact WF.to [1] (next _ D (hS.set (j:=41)))
end
variable {Bk:ay}
section
variable {S:List (Nat×V)}{A:ay}
theorem Ek{x:bc}{ts:List bc}{j:Nat}(hm:yF Sg (ts.map .str)∈mu)(hj:ts[j]? =ae x)(Bo:∀m,m < j->ts[m]? ≠ae x):Fn k mu (.builtin "tuple.index") [bZ (.ref Sg),bZ (.str x)] (bZ (.int j)):=⟨λ{A E Z s fr vs Q} hA r hq q=>by
 refine cD (hq.two) λv u dP q1 q2=>?_;subst dP;refine ai (aZ.refE q1 ..) (g6 (r.sat _ (aE fr hm)) λo vs n h1 h2 h3 z h5=>?_);exact (Eh (k:=k) (mu:=mu) hj Bo).c hA r (.cons (aZ.tup h1 h2 h3 h5) (.cons q2 .nil)) q⟩
theorem yI(n:Int)(fp:V)(pb:ay):("get_token":bc)∉(tg n fp pb).map (·.1):=by show ("get_token":bc)∉(["lineno","instream","whitespace","pushback"]:List bc);decide
theorem El{b:Nat}(hb:b < 6):xD[b]? =ae (xD.getD b "")/\∀m,m < b->xD[m]? ≠ae (xD.getD b ""):=by
 have:∀b,b < 6->xD[b]? =ae (xD.getD b "")/\∀m,m < b->xD[m]? ≠ae (xD.getD b ""):=by decide
 exact this b hb
theorem LY{low b:Nat}(hb:b < 6):((aN 6).map λb=>V.str (cC (low+b)))[b]? =ae (V.str (cC (low+b))):=by (refine ai (aI ..) ?_;refine ai (bz hb ..) ?_);rfl
theorem nme{low a b:Nat}(hl:low < 28)(ha:a < 6)(hb:b < 6):(if (cC (low+a) != cC (low+b))=aJ then (1:Int) else 0)=if a=b then 0 else 1:=by
 by_cases h:a=b
 ·subst h;simp
 ·have:cC (low+a)≠cC (low+b):=λe=>h ((wO hl ha hb).mp e);refine ai (if_neg h ..) ?_;refine ai (if_pos (by simpa using this) ..) ?_;rfl
theorem Em{low:Nat}(hl:low < 28){c:Cs}(h6:∀q∈c,q.1 < 6)(hn:(c.map (·.1)).Nodup):((Ei low c).map (·.1)).Nodup:=by have:=jx hl (c.map (·.1)) (λb hb=>by obtain ⟨q,hq,rfl⟩:=aG.mp hb;exact h6 q hq) hn;rw [a0] at this;delta Ei;exact ai (a0 ..) (this)
theorem AY(H:Hy G){low:Nat}{B:Rw}{n pl:Nat}{q:Nat×Nat}(hl:low < 28)(hB:E6 B n)(hn:n<=100)(h1:q.1 < 6):FW (k+3) mu (.ref 256) [rn low B q.2,.tup [.int (if q.1=q.2 then 0 else 1),.int 1,.int pl,.int ((pl:Int)*pl),cV [(cC (low+q.1),1)]]] λy nu=>y=rn low (kj B pl q) q.2/\nu=mu:=by
 have h:=Oa (k:=k) (mu:=mu) (a:=B.a q.2) (b:=B.b q.2) (c:=B.c q.2) (d:=B.d q.2) (a':=if q.1=q.2 then 0 else 1) (b':=1) (c':=pl) (d':=(pl:Int)*pl) (q:=Ei low (B.cs q.2)) (q':=[(cC (low+q.1),1)]) H (Em hl (hB.lt q.2) (hB.nd q.2)) (by refine ai (ak ..) ?_;have:=hB.len q.2;lia) (by show 1<=1000;decide);rw [IU hl h1 (hB.lt q.2)] at h;refine ai (show rn low B q.2=Qh (B.a q.2) (B.b q.2) (B.c q.2) (B.d q.2) (Ei low (B.cs q.2)) by delta rn Qh;rw [Cb]) ?_;refine h.mono λy nu ⟨e1,e2⟩=>⟨e1.trans ?_,e2⟩
 simp only [rn,Qh,kj,if_pos,Cb]
def tS.S0(k:Nat)(mu:Mu)(L A Du Oc Bk Sg:ay)(ds:List Nat)(ns:List Int)(n6:Nat)(pm doc:aj)(P:ib)(N:Int)(_:Nat):Prop:=∀{vs:eL} {Θ:AF->Mu->Prop} {K:gn} {cs:List Nat} (H:Hy G) (LH:fL G K) (BH:yr K) (he:dz (bT pm doc L)) (PO:mU P) (hS:Sv vs (Qp ds ns n6 A Du Oc Sg P.lx Bk)) (hR:pg ds n6 0 cs) (hK:yF Sg (xD.map .str)∈mu) (next:∀vs cs,Sv vs (Qp ds ns n6 A Du Oc Sg P.lx Bk)->pg ds n6 16 cs->E6 (fF B0 0 (dn ds)) 8->WS (k+8) (cy L vs::cE Bk (fT (aF ds) (fF B0 0 (dn ds)))::ph P N cs A (dn ds) ds Du mu) (bT pm doc L) (mv 15) Θ),WS (k+8) (cy L vs::cE Bk (fT (aF ds) B0)::ph P N cs A (dn ds) ds Du mu) (bT pm doc L) (mv 14) Θ
namespace tS
@[irreducible] def e0:=Fj eO gE cM cM cM cM cM cM gE gE eO gM gM IK QW eO S0
def k_:=e0.1
def e9:=e0.2.1
def L_:=e0.2.2.1
def A_:=e0.2.2.2.1
def JK:=e0.2.2.2.2.1
def RQ:=e0.2.2.2.2.2.1
def wc:=e0.2.2.2.2.2.2.1
def Sg_:=e0.2.2.2.2.2.2.2.1
def aV:=e0.2.2.2.2.2.2.2.2.1
def Hp:=e0.2.2.2.2.2.2.2.2.2.1
def gP:=e0.2.2.2.2.2.2.2.2.2.2.1
def pf:=e0.2.2.2.2.2.2.2.2.2.2.2.1
def g8:=e0.2.2.2.2.2.2.2.2.2.2.2.2.1
def P_:=e0.2.2.2.2.2.2.2.2.2.2.2.2.2.1
def N_:=e0.2.2.2.2.2.2.2.2.2.2.2.2.2.2.1
theorem T0:S0 k_ e9 L_ A_ JK RQ wc Sg_ aV Hp gP pf g8 P_ N_ e0.2.2.2.2.2.2.2.2.2.2.2.2.2.2.2:=by
 intro vs Θ K cs H LH BH he PO hS hR hK next
 have d8:=eI aV;have hKm:∀{cs} (a b c d:cY),yF Sg_ (xD.map .str)∈a::b::c::d::ph P_ N_ cs A_ (dn aV) aV JK e9:=λ{z} a b c d=> .tail _ (.tail _ (.tail _ (.tail _ (bK _ (.tail _ (.tail _ (.tail _ hK)))))));refine aC (jN (ctx:=[]) (xs:=(aN 8).map nV) (λi nu=>∃vs cs,nu=cy L_ vs::cE wc (fT (aF aV) (fF B0 0 ((dn aV).take i)))::ph P_ N_ cs A_ (dn aV) aV JK e9/\Sv vs (Qp aV Hp gP A_ JK RQ Sg_ P_.lx wc)/\pg aV gP (2*i) cs/\E6 (fF B0 0 ((dn aV).take i)) i)
  (fJ (n:=8) (iO H he H.b_range rfl) aU rfl (by decide)) (by lia) ⟨vs,cs,rfl,hS,hR,E6.zero⟩ (λi nu h o ho=>(el ho)) ?_ ?_)
 ·intro i x nu hx eT;refine ir eT λvs cs gi hS hR hB=>?_;clear eT;subst gi;rw [aI] at hx;refine aK (aL.mp hx) λi' hi' iC=>?_;subst iC;have hi8:i < 8:=by have:=(aB.mp hi').1;exact this
  have:i'=i:=by rw [bz hi8] at hi';exact (aO hi').symm
  subst this;refine aQ (i:=0) (j:=1) he .loc rfl ?_;have hS1:=hS.set (j:=1) (y:=nV i');obtain ⟨q,hq⟩:∃q,(dn aV)[i']? =ae q:=⟨_,bH (show i' < (dn aV).length from hi8)⟩;have hqD:(dn aV).getD i' (0,0)=q:=by (refine ai (bR ..) ?_;refine ai (hq ..) ?_);rfl
  have Jj:=kc aV q (ao hq);have hw:=OL (ds:=aV) (n6:=gP) hi8;rw [hqD] at hw;refine cu (LH.f207.go) λob z z z PL SR z=>cu (H.f256.go) λob2 z z z Ud GE z=>?_
  let qn:Nat->Nat:=λm=>if m=0 then q.1 else q.2
  refine aC (b4 (K9 (ctx:=[]) (xs:=(aN 2).map nV) (λm ys nu=>m<=2/\∃cs,nu=cy L_ (vs.set 1 (ae (nV i')))::cE wc (fT (aF aV) (fF B0 0 ((dn aV).take i')))::ph P_ N_ cs A_ (dn aV) aV JK e9/\pg aV gP (2*i'+m) cs/\ys=(aN m).map λm=>V.str (cC (aF aV+qn m)))
   ⟨rfl,rfl,by decide+kernel,by decide+kernel⟩ (fJ (n:=2) (iO H he H.b_range rfl) aU rfl (by decide)) (by lia) (by decide) ⟨gq _,cs,rfl,hR,rfl⟩ (λz z z z o ho=>el ho) (λm ys nu ⟨_,_,_,_,e⟩=>by refine ai (e ..) ?_;simp) (λC D m x ys nu hx hJ=>?_) (λD ys nu hJ=>?_)) rfl rfl)
  ·refine qm hJ λz cs kF hR l9=>?_;clear hJ;subst kF;subst l9;have hm2:m < 2:=by have:=(aB.mp hx).1;exact this
   refine ⟨_,qw (j:=1) he.comp .loc,?_⟩;have hwm:(d9 aV gP)[2*i'+m]? =ae (xD.getD (qn m) ""):=by
    rcases (by lia:m=0\/m=1) with rfl|rfl
    ·exact hw.1
    ·exact hw.2
   have hqm:qn m < 6:=by
    rcases (by lia:m=0\/m=1) with rfl|rfl
    ·exact Jj.1
    ·exact Jj.2.2
   refine aK (hR.tok hwm) λcs' ht S1=>OP (xs:=(aN 6).map λb=>V.str (cC (aF aV+b))) (ah (j:=7) he.comp (.cell (L_+6) "names") (ab _ (ab _ aa)) (hS1.get rfl)) (DS (ah (j:=18) he.comp (.cell (L_+10) "signs") (ab _ (ab _ aa)) (hS1.get rfl)) (ty_tk (hKm _ _ _ _)) (cB (pN LH.KO LH.m_get (ah (j:=21) he.comp (.cell (L_+11) "lexer") (ab _ (ab _ aa)) (hS1.get rfl)) (ao (i:=5) rfl) (yI _ _ _) PL SR (FW.mono (FW.cons _ (FW.cons _ (FW.cons _ (FW.cons _ (FW.app _ (xC (k:=k_+3) H LH BH PO ht hR.len)))))) λy nu hy=>?_))) PySem.F.plainAttrs_tuple Nd PySem.F.type_tuple_index rfl);obtain ⟨_,e1,_,e2,_,e3,_,e4,_,e5,ey,e6⟩:=hy;subst e6 e5 e4 e3 e2 e1 ey;refine e8 ⟨[bZ (.str (xD.getD (qn m) ""))],.int (qn m:Nat),λZ vs hv=>?_,Ek (hKm _ _ _ _) (El hqm).1 (El hqm).2,V.str (cC (aF aV+qn m)),Rc (by delta j8;(refine ai (if_neg (by lia) ..) ?_;refine ai (b8 ..) ?_);exact LY hqm) (by show -(6:Int)<=_;lia) (by lia) (by show 6 < 2 ^ 62;decide),_,rfl,by lia,cs',rfl,S1,?_⟩
   ·cases hv with
    |cons a b=>cases b;exact .cons a .nil
   ·(refine ai (qd ..) ?_;refine ai (bh ..) ?_);rfl
  ·refine qm hJ λz cs mD hR qX=>?_;clear hJ;subst mD;subst qX;refine fK.list (F7 (cw rfl rfl (aQ (i:=0) (j:=24) he .loc rfl (cw rfl rfl (aQ (i:=0) (j:=25) he .loc rfl (iX ?_))))));have hS2:=(hS1.set (j:=24) (y:= .str (cC (aF aV+q.1)))).set (j:=25) (y:= .str (cC (aF aV+q.2)));have hq5:q.2∈[1,2,3,4,5]:=by
    have h1:=Jj.2.1;have h2:=Jj.2.2;rcases (by lia:q.2=1\/q.2=2\/q.2=3\/q.2=4\/q.2=5) with h|h|h|h|h <;> refine ai (h ..) ?_ <;> decide
   refine aC (qx (i:=1) (D:=wc) (x:=cC (aF aV+q.2)) (y:=rn (aF aV) (kj (fF B0 0 ((dn aV).take i')) i' q) q.2) (ju (ys:=[rn (aF aV) (fF B0 0 ((dn aV).take i')) q.2,.tup [.int (if q.1=q.2 then 0 else 1),.int 1,.int i',.int ((i':Int)*i'),cV [(cC (aF aV+q.1),1)]]]) (ml H he H.m_stats rfl) Ud GE (au (bE (wC (ah (j:=41) he (.cell (L_+15) "book") aa (hS2.get rfl)) (ab _ aa)) (ah (j:=25) he .loc aa (hS2.get rfl)) (mf (gb d8 (by decide) hq5))) (au (f9 (xs:=[.int (if q.1=q.2 then 0 else 1),.int 1,.int i',.int ((i':Int)*i'),cV [(cC (aF aV+q.1),1)]]) (au (bL (iZ (iO H he H.b_int rfl) (au (mH (ah (j:=24) he .loc aa (hS2.get rfl)) (ah (j:=25) he .loc aa (hS2.get rfl)) tw) aT) rE) (congrArg V.int (nme d8 Jj.1 Jj.2.2))) (au aU (au (ah (j:=1) he .loc aa (hS2.get rfl)) (au (br (ah (j:=1) he .loc aa (hS2.get rfl)) (ah (j:=1) he .loc aa (hS2.get rfl)) (mX (by lia))) (au (bE (pJ (ah (j:=23) he .loc aa (hS2.get rfl))) (ah (j:=24) he .loc aa (hS2.get rfl)) (mf (gb d8 (by decide) (aY.mpr Jj.1)))) aT))))) (by show 5<=2 ^ 20;decide)) aT)) (FW.mono (AY (k:=k_+5) H d8 hB (by exact aw (eB (by assumption)) (by decide)) Jj.1) λy nu h=>h)) (ah (j:=41) he (.cell (L_+15) "book") aa (hS2.get rfl)) (ah (j:=25) he .loc aa (hS2.get rfl)) rfl (by show 5<=2 ^ 24;decide) ?_);refine bB ⟨_,cs,?_,hS2.sub ⟨rfl,rfl,rfl,rfl,rfl,rfl,rfl,rfl,rfl,rfl,rfl,rfl,rfl,rfl,rfl,rfl,trivial⟩,?_,?_⟩
   ·(refine ai (lL hq ..) ?_;refine ai (kE ..) ?_;refine ai (dD ..) ?_;refine ai (Nat.min_eq_left (eB (show i' < (dn aV).length from hi8))) ?_;refine ai (eC ..) ?_)
    show _::cE wc (jE (fT (aF aV) _) _ _)::_=_;refine ai (Ej d8 hq5 ..) ?_;rfl
   ·have e:2*i'+((aN 2).map nV).length=2*(i'+1):=by simp;lia
    refine fZ (e ..) ?_;exact hR
   ·(refine ai (lL hq ..) ?_;refine ai (kE ..) ?_)
    exact hB.step Jj.1
 ·intro nu ub;refine ir ub λvs cs mO hS hR hB=>?_;clear ub;subst mO;refine bB (next vs cs hS hR ?_);exact hB
end tS
theorem tS{pm doc:aj}{P:ib}{N:Int}:tS.S0 k mu L A Du Oc Bk Sg ds ns n6 pm doc P N 0:=by with_unfolding_all exact An _ _ _ _ _ _ _ _ _ _ _ _ _ _ _ _ tS.S0 @tS.T0 k mu L A Du Oc Bk Sg ds ns n6 pm doc P N 0
end
theorem AZ:∀(l1 l2:List ed) (env:iE),Jo (l1++l2) env=(Jo l1 env >>=λf=>match f with
 | .next=>Jo l2 env
 |f=>dh f)
 |[],l2,env=>by
  show Jo l2 env=((dh Flow.next:oY ug) >>=_);rw [pure_bind]
 |st::l1,l2,env=>by
  rw [fU,execs_cons,execs_cons,bind_assoc];congr 1;funext f;cases f with
  |next=>exact AZ l1 l2 env
  |_=>exact (pure_bind ..).symm
theorem OQ{l1 l2:List ed}(h:WS k mu env l1 (KU k env l2 Θ)):yf k mu env (l1++l2) Θ:=⟨λ{A E Z s fr outer Q} hA hf iD r q=>by
 rw [AZ];refine ag (h.c hA r λ{f s1 Z1 a nu} z1 f1 r1 w=>?_)
 revert w
 exact oZ.by f1 (λw=>Wf.c (show yf k nu env l2 Θ from w) hA hf iD r1 λ{z z z z z} z2=>q (z1.trans z2)) (λw=>ar (q z1 .brk r1 w)) (λw=>ar (q z1 .cont r1 w)) λv x hv w=>ar (q z1 (.ret hv) r1 w)⟩
theorem IV:fR (cO 23)=mv 0++je 15:=(om 15 _).symm
theorem Cc{a:Nat}{l:List Nat}{xs:List Int}:∃w:Int,iA n6 xs (a::l)=iA n6 (xs++gm a w) l:=⟨_,rfl⟩
theorem LZ{a b c d:Nat}{xs:List Int}:∃w1 w2 w3 w4:Int,iA n6 xs [a,b,c,d]=xs++(gm a w1++gm b w2++gm c w3++gm d w4):=by
 refine cK (Cc (n6:=n6) (a:=a) (l:=[b,c,d]) (xs:=xs)) λw1 e1=>cK (Cc (n6:=n6) (a:=b) (l:=[c,d]) (xs:=xs++gm a w1)) λw2 e2=>cK (Cc (n6:=n6) (a:=c) (l:=[d]) (xs:=xs++gm a w1++gm b w2)) λw3 e3=>cK (Cc (n6:=n6) (a:=d) (l:=[]) (xs:=xs++gm a w1++gm b w2++gm c w3)) λw4 e4=>⟨w1,w2,w3,w4,?_⟩
 rw [e1,e2,e3,e4];show xs++gm a w1++gm b w2++gm c w3++gm d w4=_;simp only [bU]
theorem yJ{a b c d:Nat}{w1 w2 w3 w4:Int}(ha:a < 4096)(hb:b < 4096)(hc:c < 4096)(hd:d < 4096)(rs:List Nat):
 yh ((gm a w1++gm b w2++gm c w3++gm d w4).map uq++rs)=ae ((a,b,c,d),rs):=by
 simp only [bh,bU];delta yh;exact du.mpr ⟨_,sD ha _,du.mpr ⟨_,sD hb _,du.mpr ⟨_,sD hc _,du.mpr ⟨_,sD hd _,rfl⟩⟩⟩⟩
noncomputable def Qq(ds:List Nat)(p:Nat):Nat×Nat×Nat×Nat:=(cf ds (sP ds p),cf ds (eP ds p) - cf ds (sP ds p),cf ds (tP ds p),lP ds p)
def lM.S0(ds:List Nat)(n6:Nat):Prop:=∀{ns:List Int} (h:Dr ds ns n6),DT ((tO ds n6).map uq) [Qq ds 10,Qq ds 14]
namespace lM
@[irreducible] def e0:=P4 gE eO S0
def aV:=e0.1
def gP:=e0.2
theorem T0:S0 aV gP:=by
 intro ns h;have hb:∀b,b<=6->cf aV b < 4096:=λb hb=>by have:=D6 h b hb;exact b7 (by assumption) (by decide)
 have hl:∀p,lP aV p < 4096:=λp=>by have:=h.dlt (p+3);delta lP;exact cc (by assumption) (by decide)
 obtain ⟨w1,w2,w3,w4,e1⟩:=LZ (n6:=gP) (a:=cf aV (sP aV 10)) (b:=cf aV (eP aV 10) - cf aV (sP aV 10)) (c:=cf aV (tP aV 10)) (d:=lP aV 10) (xs:=[]);obtain ⟨w1',w2',w3',w4',e2⟩:=LZ (n6:=gP) (a:=cf aV (sP aV 14)) (b:=cf aV (eP aV 14) - cf aV (sP aV 14)) (c:=cf aV (tP aV 14)) (d:=lP aV 14) (xs:=iA gP [] (jy aV 10));have e:fb aV gP [10,14]=(gm (cf aV (sP aV 10)) w1++gm (cf aV (eP aV 10) - cf aV (sP aV 10):Nat) w2++gm (cf aV (tP aV 10)) w3++gm (lP aV 10) w4)++(gm (cf aV (sP aV 14)) w1'++gm (cf aV (eP aV 14) - cf aV (sP aV 14):Nat) w2'++gm (cf aV (tP aV 14)) w3'++gm (lP aV 14) w4'):=by show iA gP (iA gP [] (jy aV 10)) (jy aV 14)=_;rw [show iA gP (iA gP [] (jy aV 10)) (jy aV 14)=_ from e2,show iA gP [] (jy aV 10)=_ from e1,qf]
 have h6:∀p,sP aV p<=6:=λp=>eB (Hq p);have t6:∀p,tP aV p<=6:=λp=>eB (Hr p).2;have k1:∀p,cf aV (eP aV p) - cf aV (sP aV p) < 4096:=λp=>by have:=hb _ (LI (ds:=aV) p).2;lia
 have sm:∀{n},n < 4096->n < 2 ^ 60:=λ{z} h=>by exact cc (by assumption) (by decide)
 delta tO;generalize ht:(fb aV gP [10,14]).take (gP % 4)=tail;have htl:tail.length<=3:=by rw [<- ht,dD];have:=ee gP (show 0 < 4 by decide);lia
 rw [e,bU,bh];refine .more (yJ (hb _ (h6 10)) (k1 10) (hb _ (t6 10)) (hl 10) _) (sm (hb _ (h6 10))) (sm (k1 10)) (sm (hb _ (t6 10))) (sm (hl 10)) ?_;rw [bh];exact .more (yJ (hb _ (h6 14)) (k1 14) (hb _ (t6 14)) (hl 14) _) (sm (hb _ (h6 14))) (sm (k1 14)) (sm (hb _ (t6 14))) (sm (hl 14)) (.stop (DL (by rw [ak];exact Nat.lt_succ_of_le (by assumption))) (by rw [ak];exact aw (by assumption) (by decide)))
end lM
theorem lM:lM.S0 ds n6:=by with_unfolding_all exact Fh _ _ lM.S0 @lM.T0 ds n6
theorem Cd:(JE (th (qJ ds n6))).toList.map pI=(tO ds n6).map uq:=by
 have hlt:∀c∈(tO ds n6).map uq,c < 256:=λc hc=>by
  refine aK (aG.mp hc) λo ho dP=>?_;subst dP;have:=uV o ho;lia
 delta JE th;rw [tQ];generalize (tO ds n6).map uq=l at hlt;simp only [a0];refine (b5 λc hc=>?_).trans (xt l);show ((fA c).toNat.toUInt8).toNat=c;show c % 256=c;exact Nat.mod_eq_of_lt (hlt c hc)
section
variable {S:List (Nat×V)}{A:ay}
theorem Wf.drop1{t:oY ug}{a:cY}(h:Wf k nu env t Θ):Wf k (a::nu) env t Θ:=⟨λ{A E Z s fr outer Q} hA hf iD r=>h.c hA hf iD (r.sublist (.cons _ (sM _)))⟩
theorem Wf.to{t:oY ug}(js:List Nat)(h:Wf k (qK js nu) env t Θ):Wf k nu env t Θ:=⟨λ{A E Z s fr outer Q} hA hf iD r=>h.c hA hf iD (r.perm ((nf js nu).append_right fr))⟩
theorem JJ.mono{f:aj}{xs:List V}{Φ':V->Mu->Prop}(h:JJ k mu f xs Φ)(hi:∀y nu,Φ y nu->Φ' y nu):JJ k mu f xs Φ':=⟨λ{x x x x x x x x} hA hf iD r hv q=>h.c hA hf iD r hv λ{x x x x x} z w r u=>q z w r (hi _ _ u)⟩
noncomputable def L6(ds:List Nat):V:= .list ([Qq ds 10,Qq ds 14].map DU)
noncomputable abbrev S15(ds:List Nat)(ns:List Int)(n6:Nat)(A Du Oc Sg lx Bk:ay):List (Nat×V):=(26,L6 ds)::Qp ds ns n6 A Du Oc Sg lx Bk
theorem Ce(x:bc):IL x.cps.toList= .str x:=by
 cases x with
 |mk c=>cases c;rfl
def tT.S0(k:Nat)(mu:Mu)(vs:eL)(Θ:AF->Mu->Prop)(L A Du Bk:ay)(ds:List Nat)(n6:Nat)(pm doc:aj)(P:ib)(N:Int)(cs:List Nat)(B:Rw):Prop:=∀{Oc Sg:ay} {ns:List Int} {K:gn} (H:Hy G) (LH:fL G K) (BH:yr K) (GH:Lg G) (EH:gO G K) (he:dz (bT pm doc L)) (hk:vS (bT pm doc L)) (hD:Dr ds ns n6) (PO:mU P) (hS:Sv vs (Qp ds ns n6 A Du Oc Sg P.lx Bk)) (hR:pg ds n6 16 cs) (next:∀vs cs,Sv vs (S15 ds ns n6 A Du Oc Sg P.lx Bk)->pg ds n6 17 cs->yf (k+8) (cy L vs::cE Bk (fT (aF ds) B)::ph P N cs A (dn ds) ds Du mu) (bT pm doc L) (je 16) Θ),yf (k+8) (cy L vs::cE Bk (fT (aF ds) B)::ph P N cs A (dn ds) ds Du mu) (bT pm doc L) (je 15) Θ
namespace tT
@[irreducible] def e0:=Fj eO gE gE sZ cM cM cM cM gE eO gM gM IK QW gE Rt S0
def k_:=e0.1
def e9:=e0.2.1
def kQ:=e0.2.2.1
def Θ_:=e0.2.2.2.1
def L_:=e0.2.2.2.2.1
def A_:=e0.2.2.2.2.2.1
def JK:=e0.2.2.2.2.2.2.1
def wc:=e0.2.2.2.2.2.2.2.1
def aV:=e0.2.2.2.2.2.2.2.2.1
def gP:=e0.2.2.2.2.2.2.2.2.2.1
def pf:=e0.2.2.2.2.2.2.2.2.2.2.1
def g8:=e0.2.2.2.2.2.2.2.2.2.2.2.1
def P_:=e0.2.2.2.2.2.2.2.2.2.2.2.2.1
def N_:=e0.2.2.2.2.2.2.2.2.2.2.2.2.2.1
def qL:=e0.2.2.2.2.2.2.2.2.2.2.2.2.2.2.1
def B_:=e0.2.2.2.2.2.2.2.2.2.2.2.2.2.2.2
theorem T0:S0 k_ e9 kQ Θ_ L_ A_ JK wc aV gP pf g8 P_ N_ qL B_:=by
 intro Oc Sg ns K H LH BH GH EH he hk hD PO hS hR next
 refine aK (hR.tok OM) λcs' ht S1=>cu (LH.f207.go) λob z z z PL SR z=>cF (GH.f275.go) λob2 z z g0 gd0 z=>cu (H.f179.go) λob3 z z z t0 td z=>nH (FQ (AJ hk (ml H he H.m_table rfl) t0 td (cB (mj (ml H he H.m_given rfl) g0 gd0 (cB (pN LH.KO LH.m_get (ah (j:=21) he (.cell (L_+11) "lexer") aa (hS.get rfl)) (ao (i:=3) rfl) (yI _ _ _) PL SR (FW.mono (FW.cons _ (FW.cons _ (FW.app _ (xC (k:=k_+3) H LH BH PO ht hR.len)))) λy nu hq=>?_)))))) rfl rfl);obtain ⟨_,e1,_,e2,_,e3,ey,e4⟩:=hq;subst e4 e3 e2 e1 ey;rw [Ce];refine e8 (FW.mono (m8 (k:=k_+6) (i:=8) (text:=qJ aV gP) (o:=ae (P_.a,P_.b)) H GH rfl AU (aw yD (by decide))) λy nu hq=>?_);obtain ⟨f,dx,lam,it,L1,gd,ld,a,b,e1,wW,hRd,e2⟩:=hq;cases wW _ rfl;subst e1 e2;refine e8 ⟨[_,_,_,_],_,ic _,⟨_,_,aa⟩,JJ.mono (Hl (k:=k_+4) (qs:=[Qq aV 10,Qq aV 14]) H EH (.tail _ (.head _)) (by show (["read","co_exceptiontable"]:List bc).Nodup;decide) (.tail _ (.head _)) (by rw [Cd];exact lM hD) (by show 2<=2 ^ 20;decide)) λy nu hq=>?_⟩;refine dU hq λe1 e2=>?_;clear hq;subst e1 e2;refine ⟨_,ic _,aQ (i:=4) (j:=26) he .loc rfl ?_⟩;refine Wf.drop1 (Wf.drop1 (Wf.drop1 (Wf.drop1 (next _ cs' (hS.set (j:=26)) S1))))
end tT
theorem tT{pm doc:aj}{P:ib}{N:Int}{cs:List Nat}{B:Rw}:tT.S0 k mu vs Θ L A Du Bk ds n6 pm doc P N cs B:=by with_unfolding_all exact An _ _ _ _ _ _ _ _ _ _ _ _ _ _ _ _ tT.S0 @tT.T0 k mu vs Θ L A Du Bk ds n6 pm doc P N cs B
end
section
open Builtin Builtin.ObjectAttr Builtin.Getset_descriptor Builtin.Tuple
section
variable {x:ay}{expr:Bool}{Q:aj->aq->Prop}
theorem IW{M:Cv}{h:dI}{a g:aj}(X:K.In h)(ha:fG K (.ref C) name=ae (ae a))(hg:Fb K a "__get__"=ae (ae g))(ht:Uk K a=ae aJ):iM M h (find (.ref x) (.ref C) name) (.bind g a):=by have L1:=mS (M:=M) X ha;have L2:iM M h (getOf (ae a)) (ae g):=looks_specialIn X hg;have L3:=looks_takesIn (M:=M) X ht;exact L1.andThen (L2.andThen ((show iM M h (dataDescriptor? (ae a) (ae g)) (ae (g,a)) from L3.andThen .now).andThen (Looks.tag .now)))
theorem L7:xm table "tuple.__getattribute__"=ae Builtin.«object.__getattribute__»:=F.entry_tuple_ga
theorem OR:CI "tuple.__getattribute__"=ae .slot:=by kernel_rfl
theorem L8:QP "tuple.__getattribute__"=ae ("tuple","__getattribute__"):=by kernel_rfl
theorem ga_ne:(iH "tuple.__getattribute__" == iH "object.__getattribute__")=aH:=by decide+kernel
def lN.S0(prog:d7)(w:eo)(A:bo)(E:aj->aq->Prop)(x C:ay)(name:bc)(Q:aj->aq->Prop):Prop:=∀{s:aq} {K:gn} {a g:aj} (X:K.In s.heap) (L0:∀M,iM M s.heap (jT (.ref x)) (.ref C)) (LT:iM (aX prog w) s.heap (ue (.ref x) (.type "tuple")) aJ) (hga:fG K (.ref C) "__getattribute__"=ae (ae (.builtin "tuple.__getattribute__"))) (ha:fG K (.ref C) name=ae (ae a)) (hg:Fb K a "__get__"=ae (ae g)) (ht:Uk K a=ae aJ) (hk:fG K (.ref C) "__getattr__"=ae av) (h:∀E2,aS (aX prog w) A.in1 (ks g [a,.ref x,.ref C]) (λv s'=>aS (aX prog w) A (handedOut v) Q E s') E2 {s with toks:=s.toks+1}),aS (aX prog w) A (sY (.ref x) name aJ) Q E s
namespace lN
@[irreducible] def e0:=Nl sU E1 Fm sZ cM cM inferInstance sZ S0
def cW:=e0.1
def w_:=e0.2.1
def A_:=e0.2.2.1
def E_:=e0.2.2.2.1
def x_:=e0.2.2.2.2.1
def C_:=e0.2.2.2.2.2.1
def iz:=e0.2.2.2.2.2.2.1
def Q_:=e0.2.2.2.2.2.2.2
theorem T0:S0 cW w_ A_ E_ x_ C_ iz Q_:=by intro s K a g X L0 LT hga ha hg ht hk h;obtain ⟨hh,gg,d,t,os⟩:=s;have L1:=mS (M:=aX cW w_) X hga;have L3:=mS (M:=aX cW w_) X hk;have L2:=IW (M:=aX cW w_) (x:=x_) X ha hg ht;delta sY getAttrBy;refine ag (JD (bC (ag ((L0 _).at (ag (L1.at ?_))))));show aS _ _ (if (onTheHeap (.ref C_) && (iH "tuple.__getattribute__" == iH "object.__getattribute__"))=aJ then _ else _) _ _ _;refine ai (ga_ne ..) ?_;refine ai (kM ..) ?_;refine ai (if_neg (by decide) ..) ?_;show aS _ _ (hookBefore (.ref C_) >>=_) _ _ _;delta hookBefore;refine ai (if_pos (by rfl) ..) (ag (L3.at (ag (kS (bC ?_)))));delta callGetattribute;refine ai (if_neg (by decide) ..) ?_;delta Tv;refine ai (vb.bind (.ref x_) ..) (ag (ar ?_));refine eF (codeAny_call_builtin_at (rl vb.plain _) L7 ?_);refine ai (gR vb.plain _ ..) (@ru (aX cW w_) _ _ ⟨hh,gg,d,t+1,os⟩ "tuple.__getattribute__" "tuple" "__getattribute__" (.ref x_) [.str iz t] [] _ OR L8 LT (F.args_tuple_getattribute_2 _ _) ?_);unfold Builtin.«object.__getattribute__»;refine ag (cN (a:=(cZ x_,[Value.str iz t])) (by rfl) ?_);dsimp only;refine ag (cN (a:=iz) (by rfl) ?_);refine ag ((L0 _).at (ag (L2.at ?_)));show aS _ _ (eV [a] (ks g [a,.ref x_,.ref C_]) >>=vf) _ _ _;refine ag (bC (eR (h _) (λv s' z=>ar ?_) λy y z=>z));exact z
end lN
theorem lN:lN.S0 prog w A E x C name Q:=by with_unfolding_all exact Bu _ _ _ _ _ _ _ _ lN.S0 @lN.T0 prog w A E x C name Q
end
theorem uW(l:ay)(o:oX)(items:Array aj)(n:Nat)(hd:o.data= .seq items n)(i:Nat)(u:HO)(y:aj)(hy:items[i]? =ae y)(hi:i < 2 ^ 62):
 Meets (Builtin.«tuple.__getitem__» ⟨[.ref l,.int i u],[]⟩) (λz R s=>s.heap.get? l=ae o/\R (.ok (.ret y)) s):=
 .of_wp λprog w A R s h=>by
  obtain ⟨hp,g,d,tk,os⟩:=s;obtain ⟨hl,h⟩:=h;have hlt:=(rr.mp hy).1;have hk:M6 (i:Int) items.size=ae i:=by unfold M6;simp;lia
  unfold Builtin.«tuple.__getitem__»;refine ag (cN (a:=(cZ l,[jS i u])) (by rfl) ?_);dsimp only;refine ag (wpAny_tupleItemsOf hl hd ?_);refine ag (cN (a:=lW "int") (by rfl) ?_);refine ai (if_neg (by decide) ..) (ag (h8 (typeIs_int _ _ _) F.slot_int_index.lookup ?_));refine ai (if_neg (by decide) ..) (ag (cN (a:=(i:Int)) (by rfl) ?_));refine ai (if_neg (by simp;lia) ..) ?_;refine ai (hk ..) ?_;refine ai (Option.bind_some ..) ?_;refine ai (hy ..) ?_;exact ar ⟨_,rfl,h⟩
theorem wd{Z:bI}{s:aq}(EH:gO G K){v:aj}(r:R Z mu s)(h:aZ G Z v (.ent xs)):∃a o vs n,v= .ref a/\s.heap.get? a=ae o/\o.cls= .ref 162/\o.data= .seq vs n/\bW G Z vs.toList xs:=
 (aZ.ent_inv h).imp λa=>bQ λo=>bQ λvs=>bQ λn w=>⟨w.1,r.zin _ _ w.2.1,by (refine ai (w.2.2.1 ..) ?_;refine ai (EH.ent ..) ?_;rfl),w.2.2.2⟩
theorem sG{M:Cv}{h:dI}{a:ay}{o:oX}(he:h.get? a=ae o)(hc:o.cls= .ref 162):iM M h (jT (.ref a)) (.ref 162):=hc▸(sq he).andThen .now
theorem yK(EH:gO G K){h:dI}(X:K.In h){a:ay}{o:oX}(he:h.get? a=ae o)(hc:o.cls= .ref 162):iM (aX G.prog G.w) h (ue (.ref a) (.type "tuple")) aJ:=(sG he hc).andThen (fC X EH.subT)
theorem F8(EH:gO G K):s7 k mu .Is (bZ (.ent xs)) (bZ .none) aH:=⟨λ{A E Z s fr v u T} hA r hp hq q=>by
 refine dM (wd EH r.left hp) λa o vs n dP h1 h2 h3 h4=>?_;subst dP;refine ai (aZ.noneE hq ..) ?_;exact is_none (q .rfl (.bool _) r)⟩
theorem L9(EH:gO G K):Fn k mu (.type "type") [bZ (.ent xs)] (bZ (.ref 162)):=⟨λ{A E Z s fr vs Q} hA r hq q=>by
 refine aK (hq.one) λv eT q1=>?_;subst eT;refine dM (wd EH r.left q1) λa o vs n gi h1 h2 h3 h4=>?_;subst gi;refine PyProof.Rows.call_type_obj h1 (by refine ai (h2 ..) ?_;rfl) ?_;refine ai (h2 ..) ?_;exact q .rfl (aZ.ref _) r⟩
theorem IX(EH:gO G K):Fn k mu (.builtin "issubclass") [bZ (.ref 162),bZ (.type "tuple")] (bZ (.bool aJ)):=⟨λ{A E Z s fr vs Q} hA r hq q=>by
 refine cD (hq.two) λv u iC q1 q2=>?_;subst iC;refine ai (aZ.refE q1 ..) ?_;refine ai (aZ.typeE q2 ..) ?_;have X:K.In s.heap:=EH.KO.inn _ r.z0in;have hs:=fC X EH.subT;have hi:=fC X EH.isT;refine eF (kJ ?_);have ck:iJ "issubclass" ⟨[.ref 162,.type "tuple"],[]⟩=dh ():=by have h1:ra "issubclass" ⟨[.ref 162,.type "tuple"],[]⟩:=F.args_issubclass_2 _ _;delta iJ;exact ai (F.kind_issubclass ..) (h1)
 show aS _ A.in1 (do iJ "issubclass" ⟨[.ref 162,.type "tuple"],[]⟩;Nz (.builtin "issubclass" ⟨[.ref 162,.type "tuple"],[]⟩)) _ _ _;refine ai (ck ..) (ag (ar (ar ⟨rl F.plain_issubclass _,kN F.entry_issubclass ?_⟩)));refine ai (gR F.plain_issubclass _ ..) (PyProof.Rows.issubclass_outer ?_);unfold Builtin.«issubclass.nested»;dsimp only;refine ag (cN (a:=lW "type") (by kernel_rfl) ?_);show aS _ _ ((isType (.ref 162) >>=_) >>=_) _ _ _;refine ag (ag (hi.here (ag (cN (a:=aJ) (by kernel_rfl) ?_))));refine ai (if_pos (by rfl) ..) (hs.here ?_);exact ar (q .rfl (aZ.bool _) r)⟩
theorem OS:CI "tuple.__getitem__"=ae .slot:=by kernel_rfl
theorem Ma:QP "tuple.__getitem__"=ae ("tuple","__getitem__"):=by kernel_rfl
theorem F9(EH:gO G K){i:Nat}(hx:xs[i]? =ae y)(hl:xs.length<=1000):Fn k mu (.builtin "tuple.__getitem__") [bZ (.ent xs),bZ (.int i)] (bZ y):=⟨λ{A E Z s fr vs Q} hA r hq q=>by
 refine cD (hq.two) λv u kF q1 q2=>?_;subst kF;refine dM (wd EH r.left q1) λa o ws n l9 h1 h2 h3 h4=>?_;subst l9;refine cK (gG q2) λtk mD=>?_;subst mD;have X:K.In s.heap:=EH.KO.inn _ r.z0in;refine aK (h4.get hx) λw h5 h6=>?_;have hi:i < xs.length:=(aB.mp hx).1;refine eF ?_;refine kJ ?_;show aS _ A.in1 (do iJ "tuple.__getitem__" ⟨[.ref a,.int i tk],[]⟩;Nz (.builtin "tuple.__getitem__" ⟨[.ref a,.int i tk],[]⟩)) _ _ _;refine ag (@ru (aX G.prog G.w) _ _ s "tuple.__getitem__" "tuple" "__getitem__" (.ref a) [.int i tk] [] _ OS Ma (yK EH X h1 h2) (F.args_tuple_getitem_2 _ _) ?_);refine ar ⟨rl F.slot_tuple_getitem.plain _,kN F.entry_tuple_getitem ?_⟩;refine ai (gR F.slot_tuple_getitem.plain _ ..) ?_;exact (uW a o ws n h3 i tk w (bV.symm.trans h5) (by lia)) G.prog G.w A (wants Q E) s ⟨h1,q .rfl h6 r⟩⟩
end
section
variable {x:ay}
theorem RW{k:Nat}{mu:Mu}{xs:List V}{Φ:V->Mu->Prop}(B:g7 G){fd:cn}{a:ay}{ob:oX}{body:List ed}{names:List bc}{vals':ay->eL}(Bp:Kn mu λhp=>hp.get? a=ae ob)(hd:ob.data= .func fd)(hcd:Kn mu λhp=>hp.CodeRec fd.code fd.qualname)(sk:fd.body= .stmts body)
 (i0:∀(s:aq) vs,(∀a o,G.Z0 a=ae o->s.heap.get? a=ae o)->vs.length=xs.length->BindsTo s fd ⟨vs,[]⟩ (names.zip vs)) (hnd:(aM 0 fd.scope.names).nd) (he:∀L,dz (dT fd a L))
 (hb:∀L,i9 (dT fd a L) L (aM (L+1) fd.scope.names) names xs (nones (aM (L+1) fd.scope.names)) (vals' L))
 (h:∀L,WS k (vL fd L (vals' L)::mu) (dT fd a L) body (lD Φ)) (wj:autoParam (fd.scope.isCoroutine=aH) aR) (mP:autoParam (fd.scope.isGenerator=aH) aR):FW (k+1) mu (.ref a) xs Φ:=⟨λ{A E Z s fr vs Q} hA r hv q=>by
 refine eF (ql hA.depth (Bp.app r) hd wj mP sk (hcd.app r) ?_);refine i0 s vs r.z0in hv.length _ _ _ _ (pL (vals':=vals' s.heap.objs.size) r hnd (he _) hv (hb _) λs' r'=>⟨B.lim _ r'.z0in,Jw ?_⟩);refine (h s.heap.objs.size).c (hA.deeper _) r' λ{f s2 Z2 af ua} z2 f2 r2 w2=>?_
 revert w2
 exact oZ.by f2 (λw=>jJ.c (show jJ .none ua Φ from w) r2 .none λ{z z z} z3=>q (z2.trans z3)) (λw=>w.elim) (λw=>w.elim) λv x hv w=>jJ.c (show jJ x ua Φ from w) r2 hv λ{z z z} z3=>q (z2.trans z3)⟩
structure Cf(G:Gd)(a:ay)(st:ed)(qual:bc):Prop where
 go:∃ob pm cd doc T o n,G.Z0 a=ae ob/\ob.data= .func {Ao st qual pm cd doc with defaults:= .ref T}/\G.Z0 T=ae o/\o.data= .seq #[.none] n/\∀h:dI,(∀a o,G.Z0 a=ae o->h.get? a=ae o)->h.CodeRec cd qual
theorem RY{k:Nat}{mu:Mu}{xs:List V}{Φ:V->Mu->Prop}(H:Hy G){a:ay}{st:ed}{qual:bc}(F:Cf G a st qual){names:List bc}{vals':ay->eL}
 (i0:∀pm cd doc T (s:aq) o n vs,s.heap.get? T=ae o->o.data= .seq #[.none] n->vs.length=xs.length->BindsTo s {Ao st qual pm cd doc with defaults:= .ref T} ⟨vs,[]⟩ (names.zip vs)) (hnd:(aM 0 (bj st).names).nd) (hk:(bj st).kind= .function)
 (hb:∀pm cd doc T L,i9 (dT {Ao st qual pm cd doc with defaults:= .ref T} a L) L (aM (L+1) (bj st).names) names xs (nones (aM (L+1) (bj st).names)) (vals' L))
 (h:∀pm cd doc T L,dz (dT {Ao st qual pm cd doc with defaults:= .ref T} a L)->WS k (bq L (aM (L+1) (bj st).names) (vals' L)::mu) (dT {Ao st qual pm cd doc with defaults:= .ref T} a L) (fR st) (lD Φ)) (wj:autoParam ((bj st).isCoroutine=aH) aR) (mP:autoParam ((bj st).isGenerator=aH) aR):
 FW (k+1) mu (.ref a) xs Φ:=by
 obtain ⟨ob,pm,cd,doc,T,o,n,h0,hd,hT,hn,hcd⟩:=F.go;exact RW H.B (names:=names) (vals':=vals') (Kn.z0 h0) hd (λZ s r=>hcd _ r.z0in) rfl (λs vs hz hl=>i0 pm cd doc T s o n vs (hz T o hT) hn hl) hnd (λL=>⟨hk,rfl,rfl⟩) (hb pm cd doc T) (λL=>h pm cd doc T L ⟨hk,rfl,rfl⟩) wj mP
structure wQ(K:gn)(name:bc)(g:ay)(i:Nat):Prop where
 find:fG K (.ref 162) name=ae (ae (.ref g))
 spec:Fb K (.ref g) "__get__"=ae (ae (.ref 43))
 takes:Uk K (.ref g)=ae aJ
 inst:∃d,K.lookup g=ae (Aa 60 d)/\∃es n t,K.lookup d=ae (i3 es n)/\getL "index" es=ae (ae (.int i t))
def rZ(G:Gd)(K:gn):Prop:=
 (Cf G 43 (jl 2 1) "_tuplegetter.__get__")/\
 (eS K 60 "index"=aJ)/\
 (fG K (.ref 162) "__getattribute__"=ae (ae (.builtin "tuple.__getattribute__")))/\
 (fG K (.ref 162) "__getattr__"=ae av)/\
 (Fc K (.type "tuple") (.type "type") "__getitem__"=ae (.val (.builtin "tuple.__getitem__")))/\
 (G.mg "type"=av)/\
 (G.mg "issubclass"=av)/\
 (∃g,wQ K "start" g 0)/\
 (∃g,wQ K "end" g 1)/\
 (∃g,wQ K "target" g 2)/\
 (∃g,wQ K "depth" g 3)/\
 ∃g,wQ K "lasti" g 4
section
variable {G:Gd}(h:rZ G K)
def rZ.f43:=@h.1
def rZ.p60:=@h.2.1
def rZ.ga:=@h.2.2.1
def rZ.gx:=@h.2.2.2.1
def rZ.titem:=@h.2.2.2.2.1
def rZ.b_type:=@h.2.2.2.2.2.1
def rZ.b_issub:=@h.2.2.2.2.2.2.1
def rZ.g0:=@h.2.2.2.2.2.2.2.1
def rZ.g1:=@h.2.2.2.2.2.2.2.2.1
def rZ.g2:=@h.2.2.2.2.2.2.2.2.2.1
def rZ.g3:=@h.2.2.2.2.2.2.2.2.2.2.1
def rZ.g4:=@h.2.2.2.2.2.2.2.2.2.2.2
end
theorem Mb{de:List gB}{n:Nat}{v:aj}(KO:FM G K)(hp:eS K C name=aJ)(ho:PE k mu env o (.ref x))(hx:K.lookup x=ae (Aa C dx))(hd:K.lookup dx=ae (i3 de n))(hv:getL name de=ae (ae v))(hr:aZ G G.Z0 v y)(hy:∀n,y≠ .bi n)
 (he:autoParam (dW (.Attribute o name p) env=(do let ov <- dW o env;iF p.atName;let r <- eV [ov] (sY ov name aJ);pC o ov r;dh r)) aR):PE k mu env (.Attribute o name p) y:=⟨λ{A E Z s fr Q} hA r q=>by
 refine gZ ?_ he;refine ho.c hA r λ{ov s1 Z1} z1 q1 r1=>ai (aZ.refE q1 ..) ?_;have X:K.In s1.heap:=KO.inn _ r1.z0in;refine dU (cq.mp hp) λSP h3=>dU (cq.mp SP) λh1 h2=>aK (any_some h1) λcd hcd EL=>get_value X (⟨X _ _ hx,rfl,rfl,X _ _ hd⟩:InstAt s1.heap x (Aa C dx) C (ae (i3 de n))) (jD h3) ?_ (m7 hr hy) (q z1 (hr.mono r1.z0) r1.toks);exact DC hcd (jD h2) EL hv⟩
theorem Ga{f name:bc}{id:String}{fp:lF}{pl:oY Bool}(EH:gO G K)(hn:Fc K (.type "tuple") (.type "type") name=ae (.val (.builtin id)))(hf:PE k mu env (.Name f fp) (.type "tuple"))(ha:tx k mu env (e::es) Ps)(hF:Fn k mu (.builtin id) Ps S)(hh:handedIn (.builtin id)=aJ:=by kernel_rfl!)(wk:autoParam (kg (e::es)=aJ) aR)
 (he:autoParam (dW (.Call (.Attribute (.Name f fp) name apos) (e::es) [] pos) env=(do let ov <- dW (.Name f fp) env;iF apos.atName;let (f,first) <- eV [ov] (mA ov name pl);pB pos f first (lb pos (fl (e::es) env)) [])) aR):
 EV k mu env (.Call (.Attribute (.Name f fp) name apos) (e::es) [] pos) S:=⟨λ{A E Z s fr Q} hA r q=>by
 refine i5 (pl:=pl) ?_ he;refine hf.c hA r λ{ov s1 Z1} z1 q1 r1=>ai (aZ.typeE q1 ..) (uP (T:="tuple") (v:= .builtin id) (pl:=pl) (EH.KO.inn _ r1.z0in) DO DN hn hh ?_);exact G6 ha hA r1.toks λ{z z z} z2 q2 r2=>hF.c hA r2 q2 λ{z z z} z3=>q (z1.trans (z2.trans z3))⟩
theorem Mc(H:Hy G)(EH:gO G K)(TH:rZ G K){g:ay}{i:Nat}(hg:wQ K name g i)(hx:xs[i]? =ae y)(hl:xs.length<=1000):FW (k+2) mu (.ref 43) [.ref g,.ent xs,.ref 162] λr nu=>r=y/\nu=mu:=by
 refine RY H TH.f43 (names:=["self","obj","objtype"]) (vals':=λL=>[ae (.ref g),ae (.ent xs),ae (.ref 162)]) (λpm cd doc T s o n vs ho hs h=>?_) (by decide+kernel) rfl (λpm cd doc dv L=>?_) (λpm cd doc dv L he=>?_)
 ·exact N6 h λa b c=>BindsTo.of_defaults rfl ho hs rfl rfl
 ·exact .cons (j:=0) .loc rfl (.cons (j:=1) .loc rfl (.cons (j:=2) .loc rfl .nil))
 obtain ⟨d,hi,de,n,t,hd,hv⟩:=hg.inst;refine aC (iY (da (ah (j:=1) he .loc aa rfl) J1 (F8 EH)) (λh=>vy h) λz=>?_);refine bB (aC (iY (Fo (kT (ej (j3 H he TH.b_issub rfl) (au (iZ (iO H he TH.b_type rfl) (au (ah (j:=1) he .loc aa rfl) aT) (L9 EH)) (au (iO H he H.b_tuple rfl) aT)) (IX EH)) qr)) (λh=>vy h) λz=>?_));refine bB (aC (gy (cg (Ga EH TH.titem (iO H he H.b_tuple rfl) (au (ah (j:=1) he .loc aa rfl) (au (Mb (y:= .int i) EH.KO TH.p60 (ah (j:=0) he .loc aa rfl) hi hd hv (aZ.int _ _) (λn e=>by cases e)) aT)) (F9 EH hx hl)) (kh ⟨rfl,rfl⟩))))
theorem nP(H:Hy G)(EH:gO G K)(TH:rZ G K){g:ay}{i:Nat}(hg:wQ K name g i)(ho:PE (k+3) mu env o (.ent xs))(hx:xs[i]? =ae y)(hl:xs.length<=1000)(hy:∀n,y≠ .bi n)
 (he:autoParam (dW (.Attribute o name p) env=(do let ov <- dW o env;iF p.atName;let r <- eV [ov] (sY ov name aJ);pC o ov r;dh r)) aR):PE (k+3) mu env (.Attribute o name p) y:=⟨λ{A E Z s fr Q} hA r q=>by
 refine gZ ?_ he;refine ho.c hA r λ{ov s1 Z1} z1 q1 r1=>dM (wd EH r1.left q1) λa ob vs n dP h1 h2 h3 h4=>?_;subst dP;have X:K.In s1.heap:=EH.KO.inn _ r1.z0in;refine lN X (λM=>sG h1 h2) (yK EH X h1 h2) TH.ga hg.find hg.spec hg.takes TH.gx λE2=>(Mc (k:=k) (mu:=mu) H EH TH hg hx hl).c hA.in1 r1.toks (.cons (.ref _) (.cons q1 (.cons (.ref _) .nil))) λ{w s2 Z2 y' ua} z2 q2 r2 u=>dU u λe1 e2=>?_;clear u;subst e1 e2;refine ai (handedOut_of (m7 q2 hy) ..) ?_;exact ar (q (z1.trans z2) q2 r2)⟩
end
open Builtin AutoSeq1 SeqAt in
theorem En(l b:ay)(items items2:Array aj)(n n2:Nat)(C:aj)(dd dd2:Option ay)(sl sl2:Array (Option aj))(hs:items.size=items2.size):
 Meets (Builtin.«tuple.__eq__» ⟨[.ref l,.ref b],[]⟩) (λA R s=>s.heap.get? l=ae {cls:=C,dict:=dd,data:= .seq items n,slots:=sl}/\s.heap.get? b=ae {cls:= .type "tuple",dict:=dd2,data:= .seq items2 n2,slots:=sl2}/\
  (∀j (h1:j < items.size) (h2:j < items2.size),EqAt A.in1 s items[j] items2[j] aJ)/\R (.ok (.ret (.bool aJ))) s):=
 .of_wp λprog w A R s h=>by
  obtain ⟨hp,g,d,tk,os⟩:=s;obtain ⟨hl,hb,he,h⟩:=h;have f2:=AutoSeq1.sub_tuple_tuple
  wp_walk using kO hl,kO hb,wpAny_forIn_list _ (λrest acc s'=>acc.1=av/\s'=⟨hp,g,d,tk,os⟩/\∃i,rest=(items.toList.zip items2.toList).drop i) _
  case turn=>
   rintro ⟨u,v⟩ rest acc s' ⟨ha,rfl,i,hz⟩;have hlt:i < (items.toList.zip items2.toList).length:=uv λq=>by rw [P1 q] at hz;exact JV hz
   have MZ:i < items.size/\i < items2.size:=by simp at hlt;omega
   rw [dZ hlt] at hz;obtain ⟨e1,e2⟩:=sX hz;have hu:u=items[i]:=by have:=congrArg uu e1;simpa using this
   have hv:v=items2[i]:=by have:=congrArg Prod.snd e1;simpa using this
   subst hu hv;refine ag (he i MZ.1 MZ.2 prog w _ _ ?_)
   wp_walk
   exact ⟨rfl,rfl,i+1,e2⟩
  case fin=>
   rintro ⟨acc1,acc2⟩ s' ⟨ha,rfl,i,hz⟩;simp only at ha;subst ha
   wp_walk
   exact ⟨_,rfl,by simpa [qg,hs] using h⟩
  case h=>exact ⟨rfl,rfl,0,rfl⟩
theorem Md:CI "tuple.__eq__"=ae .slot:=by kernel_rfl
theorem IY:QP "tuple.__eq__"=ae ("tuple","__eq__"):=by kernel_rfl
structure Qr(K:gn):Prop where
 sub:subIn K (.type "tuple") (.ref 162)=ae aH
 eq:fG K (.ref 162) "__eq__"=ae (ae (.builtin "tuple.__eq__"))
 up:subIn K (.ref 162) (.type "tuple")=ae aJ
open SeqAt in
theorem Me{K:gn}{A:bo}{s:aq}{l b:ay}{items items2:Array aj}{n:Nat}{o:oX}(X:K.In s.heap)(QH:Qr K)(h1:s.heap.get? l=ae o)(hc:o.cls= .ref 162)(hd:o.data= .seq items n)(h2:s.heap.IsTuple b items2)(hs:items.size=items2.size)(hu:A.units < cLine)
 (he:∀j (h1:j < items.size) (h2:j < items2.size),EqAt A.in1 s items[j] items2[j] aJ):RcAt A s (.ref l) (.ref b) aJ:=λprog w E Q hq=>by
 obtain ⟨cls,dd,data,sl⟩:=o;obtain ⟨⟨cls2,dd2,data2,sl2⟩,Nw,hc2,n2,hd2⟩:=id h2;simp only at hc hd hc2 hd2;subst hc hd hc2 hd2;obtain ⟨hp,g,d,t,os⟩:=s;have L1:iM (aX prog w) hp (jT (.ref l)) (.ref 162):=(sq h1).andThen .now;have L2:iM (aX prog w) hp (jT (.ref b)) (.type "tuple"):=(sq Nw).andThen .now;have L3:=looks_subIn (M:=aX prog w) X QH.sub;have L4:=mS (M:=aX prog w) X QH.eq;have L5:iM (aX prog w) hp (ue (.ref l) (.type "tuple")) aJ:=L1.andThen (looks_subIn X QH.up);unfold richCompare;refine bC (ag (wpAny_cRoomFor_or (.inr hu) ?_));show aS _ _ (jT (.ref l) >>=_) _ _ _;refine ag (L1.at (ag (L2.at (ag ?_))));have tc:∀(Qc:Option aj->aq->Prop) (E':aj->aq->Prop),Qc (ae (.bool aJ)) ⟨hp,g,d,t,os⟩->aS (aX prog w) A (tryCompare (.ref l) "__eq__" (.ref b)) Qc E' ⟨hp,g,d,t,os⟩:=λQc E' hQ=>by
  have fin:∀E':aj->aq->Prop,aS (aX prog w) A (ks (.builtin "tuple.__eq__") ([.ref l]++[.ref b])) (λv s'=>v= .bool aJ/\s'=⟨hp,g,d,t,os⟩) E' ⟨hp,g,d,t,os⟩:=λE'=>by
   refine eF (jj P2.plain F.entry_tuple_eq (ru Md IY L5 (F.args_tuple_eq_2 _ _) ?_));exact (En l b items items2 n n2 (.ref 162) dd dd2 sl sl2 hs) prog w A (wants _ E') _ ⟨h1,Nw,he,rfl,rfl⟩
  unfold tryCompare callSpecialIfBound? bindSpecialIfBound? mz;refine ag (bC (ag (ag (ag (L1.at (L4.at ?_))))));refine ag (gD (wpAny_ite ?_))
  split
  ·refine ag (cN (P2.bind _) (ar (ag (eR (fin _) (λv s' ⟨e1,e2⟩=>?_) λy y z=>z))));subst e1 e2;exact ar (ar hQ)
  ·refine wpAny_tryCatch (ag (cN (P2.bind _) (ar (ag (eR (fin _) (λv s' ⟨e1,e2⟩=>?_) λy y z=>z)))));subst e1 e2;exact ar (ar hQ)
 refine L3.at (ag (tc _ _ ?_));exact ar hq
section
variable {Ξ:Bool->Mu->Prop}
theorem IZ(EH:gO G K)(QH:Qr K){rows:List (List V)}(hr:∀row∈rows,∃ds,pd row=ae ds/\zE ds=0):s7 k mu .NotEq (bZ (.list (rows.map .ent))) (bZ (.list (rows.map .tup))) aH:=⟨λ{A E Z s fr v u T} hA R hp hq q=>by
 have X:K.In s.heap:=EH.KO.inn _ R.z0in;have hu:=hA.uni;refine cF (rg.list hp) λa vs n qX e1 r1=>?_;subst qX;refine cF (rg.list hq) λa' ro n' ub e2 r2=>?_;subst ub;have hl1:rows.length=vs.size:=by (refine fZ (cb r1 ..) ?_;refine ai (ak ..) ?_;rfl)
 have QI:rows.length=ro.size:=by (refine fZ (cb r2 ..) ?_;refine ai (ak ..) ?_;rfl)
 have he:∀j (j1:j < vs.size) (j2:j < ro.size),SeqAt.EqAt A.in1 s vs[j] ro[j] aJ:=λj j1 j2=>by
  obtain ⟨row,M0⟩:∃row,rows[j]? =ae row:=⟨_,bH (hl1▸j1)⟩;have q1:=nA r1 (i:=j) (x:= .ent row) (by (refine ai (aI ..) ?_;refine ai (M0 ..) ?_);rfl) (dY j1);have q2:=nA r2 (i:=j) (x:= .tup row) (by (refine ai (aI ..) ?_;refine ai (M0 ..) ?_);rfl) (dY j2);refine dM (wd EH R.left q1) λc o ws m h1 g1 g2 g3 g4=>dM (aZ.tup_inv q2) λc' o' Uc m' h2 z1 z2 z3 z4=>?_;refine ai (h1 ..) ?_;refine ai (h2 ..) ?_;have g5:=R.zin _ _ z1;refine aK (hr row (ao M0)) λds hds hdd=>SeqAt.EqAt.of_refs (λe=>?_) (Me X QH g1 g2 g3 ⟨o',g5,z2,m',z3⟩ ((cb g4).symm.trans (cb z4)) (by show _ < 9900;have:A.in1.units=A.units+1:=rfl;lia) λi i1 i2=>?_)
  ·subst e;rw [g1] at g5;(have lz:=aO g5;clear g5;subst lz);rw [g2] at z2;cases z2
  ·refine dU (wH (s:=s) R.zin row g4 hds) λmO h4=>cK mO λas h3=>?_;clear mO;refine dU (wH (s:=s) R.zin row z4 hds) λsj z=>cK sj λbs h5=>?_;clear sj;have:=SeqAt.eqAt_readsAll ds ds A.in1.in1 s _ _ _ _ h3 h5 h4 h4 (by refine ai (hdd ..) ?_;show _ < 9900;have:A.in1.in1.units=A.units+1+1:=rfl;lia) i (eK▸i1) (eK▸i2);have h6:SeqAt.pairEq ds ds i=aJ:=by
    have h7:=SeqAt.eqvAll_eq ds ds;rw [SeqAt.eqvAll_refl ds h4,Nat.min_self] at h7;exact fW.mp (cq.mp h7).1 i (aY.mpr (by (refine ai (Dh hds ..) ?_;refine ai (cb g4 ..) ?_);exact i1))
   rw [h6] at this;exact this
 have:=SeqAt.RcNeAt.lists (A:=A) (s:=s) (l:=a) (b:=a') (e:=λz=>aJ) ⟨_,R.zin _ _ e1,rfl,n,rfl⟩ ⟨_,R.zin _ _ e2,rfl,n',rfl⟩ (hl1.symm.trans QI) (by show _ < 9900;lia) he;rw [show (!(aN vs.size).all λz=>aJ)=aH by simp] at this;exact this G.prog G.w E _ (q .rfl (.bool _) R)⟩
theorem A0{d:wy}(hx:Kl x=ae d)(hd:d.depth<=100):s7 k mu .NotEq (bZ x) (bZ x) aH:=⟨λ{A E Z s fr v u T} hA r hp hq q=>by
 exact dU (rF (s:=s) r.zin x hp hx) λz h2=>(Km (k:=k) (mu:=mu) hx hx (aw (Nat.min_le_left _ _) hd)).c hA r hp hq (by refine ai (SeqAt.eqv_refl d h2 ..) ?_;exact q)⟩
theorem R.frzL(r:R Z (bq L lay bF::bk D xs::mu) s)(hv:bF[j]? =ae (ae (.ref D))):∃Z',Z.le Z'/\R Z' (bq L lay (bF.set j (ae (.list xs)))::mu) s:=by
 have r1:=r.perm (jh _ _ _);refine eD (r1.sat _ aa) λvs n h1 h2=>dU (R.freezeHd r1 h1 aa) λr' z'=>⟨_,z',?_⟩
 exact mG (r'.sat _ aa) λhnd m hn hs=>r'.upd' (i:=0) (h':=s.heap) (tk:=s.toks) rfl rfl (λz z z e=>e) ⟨hnd,m,hn,hs.weak hv λx c q=>q.as λv q=>by
  cases q;exact .list (bI.put_self ..) (h2.mono z')⟩
theorem R.frzD{es:List (bc×V)}(r:R Z (bq L lay bF::cE D es::mu) s)(hv:bF[j]? =ae (ae (.ref D))):∃Z',Z.le Z'/\R Z' (bq L lay (bF.set j (ae (.dict es)))::mu) s:=by
 have r1:=r.perm (jh _ _ _);refine qm (r1.sat _ aa) λq0 kvs zh h1 h2=>oy zh λo Nq ep ho hd=>?_;clear zh;refine dU (R.freezeHd r1 ho aa) λr' z'=>⟨_,z',?_⟩
 exact mG (r'.sat _ aa) λhnd m hn hs=>r'.upd' (i:=0) (h':=s.heap) (tk:=s.toks) rfl rfl (λz z z e=>e) ⟨hnd,m,hn,hs.weak hv λx c q=>q.as λv q=>by
  cases q;exact .dict q0 (bI.put_self ..) ⟨hd.1,Nq,ep,hd.2⟩ h1 (h2.mono z')⟩
theorem Wf.frzL{t:oY ug}(hv:bF[j]? =ae (ae (.ref D)))(h:Wf k (bq L lay (bF.set j (ae (.list xs)))::mu) env t Θ):Wf k (bq L lay bF::bk D xs::mu) env t Θ:=⟨λ{A E Z s fr outer Q} hA hf iD r q=>by
 exact aK (R.frzL (mu:=mu++fr) r hv) λZ1 z1 r1=>h.c (fr:=fr) hA hf iD r1 λ{z z z z z} z'=>q (z1.trans z')⟩
theorem WF.frzL{t:oY ug}(hv:bF[j]? =ae (ae (.ref D)))(h:WF k (bq L lay (bF.set j (ae (.list xs)))::mu) t Θ):WF k (bq L lay bF::bk D xs::mu) t Θ:=⟨λ{A E Z s fr Q} hA r q=>by
 exact aK (R.frzL (mu:=mu++fr) r hv) λZ1 z1 r1=>h.c (fr:=fr) hA r1 λ{z z z z z} z'=>q (z1.trans z')⟩
theorem WF.frzD{es:List (bc×V)}{t:oY ug}(hv:bF[j]? =ae (ae (.ref D)))(h:WF k (bq L lay (bF.set j (ae (.dict es)))::mu) t Θ):WF k (bq L lay bF::cE D es::mu) t Θ:=⟨λ{A E Z s fr Q} hA r q=>by
 exact aK (R.frzD (mu:=mu++fr) r hv) λZ1 z1 r1=>h.c (fr:=fr) hA r1 λ{z z z z z} z'=>q (z1.trans z')⟩
structure Qs(k:Nat)(mu:Mu)(env:iE)(t:oY Bool)(Ξ:Bool->Mu->Prop):Prop where
 c:∀{A:bo} {E:aj->aq->Prop} {Z:bI} {s:aq} {fr:Mu} {outer:List iE} {Q:Bool->aq->Prop},Rm k A->A.frames=ae (env::outer)->ia outer fr->R Z (mu++fr) s->
  (∀{b s' Z' nu},Z.le Z'->R Z' (nu++fr) s'->Ξ b nu->Q b s')->aS (aX G.prog G.w) A t Q E s
theorem RZ{body orelse:List ed}(h:Qs k mu env (isTrue e env (dW e env)) λc nu=>brP c (yf k nu env body Θ) (yf k nu env orelse Θ)):WXf k mu env (.If e body orelse pos) Θ:=⟨λ{z z z z z z z} hA hf iD r q=>by
 with_reducible refine wpAny_If ?_
 refine h.c hA hf iD r λ{c s1 Z1 nu} z1 r1 w=>?_;cases c with
 |true=>exact Wf.c (show yf k nu env body Θ from w) hA hf iD r1 λ{z z z z z} z2=>q (z1.trans z2)
 |false=>exact Wf.c (show yf k nu env orelse Θ from w) hA hf iD r1 λ{z z z z z} z2=>q (z1.trans z2)⟩
theorem R0(h:Qs k mu env (allTrue .Or es env) Ξ):Qs k mu env (isTrue (.BoolOp .Or es p) env (dW (.BoolOp .Or es p) env)) Ξ:=⟨λ{z z z z z z z} hA hf iD R q=>by
 with_reducible refine wpAny_isTrue_BoolOp ?_
 exact h.c hA hf iD R q⟩
theorem Cg(h:PT k mu env e aH)(hr:Qs k mu env (allTrue .Or es env) Ξ):Qs k mu env (allTrue .Or (e::es) env) Ξ:=⟨λ{z z z z z z z} hA hf iD R q=>by
 with_reducible refine Ac ?_
 exact h.c hA R λ{z z} z1 r1=>hr.c hA hf iD r1 λ{z z z z} z2=>q (z1.trans z2)⟩
theorem OT(h:Qs k mu env (isTrue e env (dW e env)) Ξ):Qs k mu env (allTrue .Or [e] env) Ξ:=⟨λ{z z z z z z z} hA hf iD R q=>by
 with_reducible refine Ac ?_
 refine h.c hA hf iD R λ{d s1 Z1 nu} z1 r1 w=>?_;cases d with
 |true=>exact q z1 r1 w
 |false=>refine ai (if_neg cG ..) ?_;(with_reducible refine wpAny_allTrue_Or_nil ?_);exact q z1 r1 w⟩
theorem Mf(h:WVf k mu env (dW l env) λy nu=>∃(Q:Vw) (b:Bool),EV k nu env r Q/\s7 k nu E7 (bZ y) Q b/\Ξ b nu)(hm:wm E7 r=aH:=by with_unfolding_all rfl):Qs k mu env (isTrue (.Compare l [E7] [r] p) env (dW (.Compare l [E7] [r] p) env)) Ξ:=⟨λ{z z z z z z z} hA hf iD R q=>by
 with_reducible refine Ab ?_ hm
 exact h.c hA hf iD R λz1 q1 r1 ⟨Q,b,hr,ho,w⟩=>hr.c hA r1 λ{z z z} z2 p2 r2=>ho.c hA r2 (q1.mono z2) p2 λ{z z z} z3 p3 r3=>(aZ.boolE p3)▸eU (q (z1.trans (z2.trans z3)) r3 w)⟩
end
noncomputable def k7(S:Nat)(v:Nat->aj):Array (Int×aj):=((eY S).map λ(k:Nat)=>((k:Int),v k)).toArray
noncomputable def I0(S T:Nat)(led:Bool):SetTable:={mask:=if 5<=(eY T).length then 31 else 7,place:=(eY S).toArray,dummies:=#[],finger:=0,led:=led,moves:=if 5<=(eY T).length then 1 else 0,plain:=aJ}
noncomputable abbrev Eo(S:Nat)(led:Bool):SetTable:=I0 S S led
theorem OU:∀S,S < 64->∀k:Nat,k < 6->S.testBit k=aH->∀led,((Eo S led).freeSlot (fA k) == ae (k,aH))=aJ:=by decide+kernel
theorem R1:∀S,S < 64->∀k:Nat,k < 6->S.testBit k=aH->∀led,(Eo S led).put k=(I0 (S+2 ^ k) S led,((eY S).filter (· < k)).length):=by decide+kernel
theorem Gb:∀S,S < 64->∀k:Nat,k < 6->S.testBit k=aH->(eY S).take ((eY S).filter (· < k)).length++k::(eY S).drop ((eY S).filter (· < k)).length=eY (S+2 ^ k)/\S+2 ^ k < 64:=by decide+kernel
theorem OV:∀S,S < 64->∀k:Nat,k < 6->S.testBit k=aH->∀led,(I0 (S+2 ^ k) S led).tooFull=decide ((eY S).length=4):=by decide+kernel
theorem OW:∀S,S < 64->∀k:Nat,k < 6->S.testBit k=aH->(eY S).length≠4->∀led,I0 (S+2 ^ k) S led=Eo (S+2 ^ k) led:=by decide+kernel
theorem I1:∀S,S < 64->∀k:Nat,k < 6->S.testBit k=aH->(eY S).length=4->∀led,((I0 (S+2 ^ k) S led).relaid ((eY (S+2 ^ k)).map λ(j:Nat)=>(j:Int)).toArray 20 == ae (Eo (S+2 ^ k) led,#[0,1,2,3,4]))=aJ:=by decide+kernel
theorem Ep:∀S,S < 64->∀i,i < (eY S).length+1->SetTable.below (eY S).toArray (if i=0 then 0 else (eY S).getD (i - 1) 0+1)=i:=by decide+kernel
noncomputable def Hv(v:Nat->aj)(k:Nat)(x:aj):Nat->aj:=λj=>if j=k then x else v j
theorem jF(S:Nat)(v:Nat->aj):(k7 S v).size=(eY S).length:=by exact ak ..
theorem R2{S k:Nat}{v:Nat->aj}{x:aj}(hS:S < 64)(hk:k < 6)(hn:S.testBit k=aH):SetTable.insertAt (k7 S v) ((eY S).filter (· < k)).length ((k:Int),x)=k7 (S+2 ^ k) (Hv v k x):=by
 have h1:=(Gb S hS k hk hn).1;have hkb:k∉eY S:=λh=>by have:=(bl.mp h).2;rw [hn] at this;exact vy this
 have hm:∀l:List Nat,k∉l->l.map (λ(j:Nat)=>((j:Int),v j))=l.map λ(j:Nat)=>((j:Int),Hv v k x j):=λl hl=>
  b5 λj hj=>by delta Hv;(refine ai (if_neg (λe:j=k=>hl (e▸hj)) ..) ?_;rfl)
 generalize ((eY S).filter (· < k)).length=p at h1;delta SetTable.insertAt;apply Array.ext';have hx:Hv v k x k=x:=by delta Hv;(refine ai (if_pos rfl ..) ?_;rfl)
 simp only [k7,lA,Cy,xp,List.extract_eq_take_drop,sQ,fx,Nat.sub_zero];refine fZ (h1 ..) ?_;simp only [bh,bA,List.map_take,Nf,bU,List.singleton_append,hx];refine ai (hm (eY S) hkb ..) ?_;congr 3;refine ai (d6 (by simp) ..) ?_;rfl
theorem uX(S T:Nat)(led:Bool):(I0 S T led).fits (eY S).length=aJ:=by
 have h:(eY S).length<=6:=by have:=bu S.testBit (aN 6);exact this
 delta SetTable.fits SetTable.fill I0;simp only [sQ,beq_self_eq_true,Ng]
 split <;> simp <;> lia
theorem R3{S k:Nat}{v:Nat->aj}{x:aj}{led:Bool}(hS:S < 64)(hk:k < 6)(hn:S.testBit k=aH):layNew (Eo S led) (k7 S v) k x=(k7 (S+2 ^ k) (Hv v k x),I0 (S+2 ^ k) S led,aH,aH):=by have h1:=jD (OU S hS k hk hn led);have h2:=R1 S hS k hk hn led;delta layNew;refine ai (show (k:Int)=fA k from rfl) ?_;refine ai (h1 ..) ?_;simp only;refine ai (h2 ..) ?_;simp only;refine ai (show fA k=(k:Int) from rfl) ?_;refine ai (R2 hS hk hn ..) ?_;refine ai (jF ..) ?_;delta SetTable.orStandIn;refine ai (if_pos (uX _ _ _) ..) ?_;refine ai (uX ..) ?_;rfl
theorem w9{α:Type}(a:Array α):(Array.range a.size).filterMap (a[·]?)=a:=by
 apply Array.ext';simp only [Array.toList_filterMap,Array.toList_range];have:∀l:List α,(aN l.length).filterMap (l[·]?)=l:=by
  intro l;induction l with
  |nil=>rfl
  |cons x l ih=>refine ai (bJ ..) ?_;refine ai (List.range_succ_eq_map ..) ?_;refine ai (qk ..) ?_;simp only [List.getElem?_cons_zero,List.filterMap_map];congr 1
 have h:=this a.toList;simpa using h
theorem Mg{S k:Nat}{v:Nat->aj}{led:Bool}(hS:S < 64)(hk:k < 6)(hn:S.testBit k=aH)(h4:(eY S).length=4):relayAll (I0 (S+2 ^ k) S led) (k7 (S+2 ^ k) v) (SetTable.grown (k7 (S+2 ^ k) v).size)=(k7 (S+2 ^ k) v,Eo (S+2 ^ k) led,aH):=by
 have h1:=(Gb S hS k hk hn).1;have hl:(eY (S+2 ^ k)).length=5:=by refine fZ (h1 ..) ?_;simp only [ba,bJ,dD,fY];have:=bu (λj=>decide (j < k)) (eY S);lia
 have h2:=jD (I1 S hS k hk hn h4 led);have hz:(k7 (S+2 ^ k) v).size=5:=by (refine ai (jF ..) ?_;refine ai (hl ..) ?_;rfl)
 have hh:(k7 (S+2 ^ k) v).map (·.1)=((eY (S+2 ^ k)).map λ(j:Nat)=>(j:Int)).toArray:=by apply Array.ext';simp [k7]
 delta relayAll;refine ai (hz ..) ?_;refine ai (hh ..) ?_;refine ai (show SetTable.grown 5=20 from rfl) ?_;refine ai (h2 ..) ?_;simp only;have he:(#[0,1,2,3,4]:Array Nat).filterMap (λi=>(k7 (S+2 ^ k) v)[i]?)=k7 (S+2 ^ k) v:=by have:=w9 (k7 (S+2 ^ k) v);rw [hz] at this;exact this
 refine ai (he ..) ?_;refine ai (hz ..) ?_;have hf:=uX (S+2 ^ k) (S+2 ^ k) led;rw [hl] at hf;refine ai (if_pos (by rw [hf];decide) ..) ?_;rfl
structure zT(h:dI)(a:ay)(S:Nat)(led:Bool):Prop where
 go:∃v ep,h.get? a=ae {cls:= .type "set",dict:=av,data:= .set (k7 S v) ep (Eo S led)}/\(∀k:Nat,∃t,v k= .int k t)/\S < 64
theorem Mh:∀k:Nat,k < 6->hashInt (k:Int)=(k:Int):=by decide
theorem Mi{S:Nat}{v:Nat->aj}(hv:∀k:Nat,∃t,v k= .int k t):ElemsOf (lr prog w) (k7 S v).toList:=λe he=>by
 simp only [k7,aG] at he;refine aK he λk hk dP=>?_;clear he;subst dP;refine cK (hv k) λt ht=>?_;have h6:k < 6:=aY.mp (bl.mp hk).1;simp only [ht];exact ⟨⟨k,GL _ _ _ _,(Mh k h6).symm⟩,rfl⟩
theorem R4(a b:Int)(t:HO):(lr prog w).is a (.int b t)=decide (a=b):=by
 by_cases h:a=b
 ·subst h;refine ai (GL ..) ?_;simp
 ·refine ai (decide_eq_false h ..) ?_;cases hq:(lr prog w).is a (.int b t)
  ·rfl
  ·exact absurd ((lr prog w).inj _ _ _ (GL prog w b t) hq) (λe=>h (by first|exact e|exact e.symm))
theorem OX{S k:Nat}{v:Nat->aj}(hv:∀k:Nat,∃t,v k= .int k t)(hk:k < 6):((k7 S v).toList.findIdx? λe=>(lr prog w).is (k:Int) e.2).isSome=S.testBit k:=by
 refine gj (cm ..) ?_;refine ai (List.findIdx?_isSome ..) ?_;refine gj (cT ..) ?_;have qi:∀j:Nat,(lr prog w).is (k:Int) (v j)=decide (k=j):=λj=>by
  refine cK (hv j) λt ht=>?_;refine ai (ht ..) ?_;refine ai (R4 ..) ?_;refine gj (cm ..) ?_;simp only [decide_eq_true_eq];lia
 constructor
 ·intro eT;refine aK eT λe he h=>?_;clear eT;simp only [k7,aG] at he;refine aK he λj hj gi=>?_;clear he;subst gi;rw [qi] at h;have:=of_decide_eq_true h;subst this;exact (bl.mp hj).2
 ·intro h;refine ⟨((k:Int),v k),?_,by refine ai (qi ..) ?_;simp⟩;simp only [k7,aG];exact ⟨k,bl.mpr ⟨aY.mpr hk,h⟩,rfl⟩
def nQ.S0(prog:d7)(w:eo)(A:bo)(E:aj->aq->Prop)(s:aq)(a:ay)(S k:Nat)(led:Bool)(t:HO)(Q:Bool->aq->Prop)(_:Nat):Prop:=∀(hS:zT s.heap a S led) (hk:k < 6) (h:∀h' tk,ji a s.heap h'->zT h' a (S ||| 2 ^ k) led->∀b,Q b {s with heap:=h',toks:=tk}),aS (aX prog w) A (setAdd a (.int k t)) Q E s
namespace nQ
@[irreducible] def e0:=HP sU E1 Fm sZ zG cM eO eO inferInstance inferInstance sZ eO S0
def cW:=e0.1
def w_:=e0.2.1
def A_:=e0.2.2.1
def E_:=e0.2.2.2.1
def s_:=e0.2.2.2.2.1
def a_:=e0.2.2.2.2.2.1
def S_:=e0.2.2.2.2.2.2.1
def k_:=e0.2.2.2.2.2.2.2.1
def xa:=e0.2.2.2.2.2.2.2.2.1
def t_:=e0.2.2.2.2.2.2.2.2.2.1
def Q_:=e0.2.2.2.2.2.2.2.2.2.2.1
theorem T0:S0 cW w_ A_ E_ s_ a_ S_ k_ xa t_ Q_ e0.2.2.2.2.2.2.2.2.2.2.2:=by
 intro hS hk h;obtain ⟨v,ep,ho,hv,ud⟩:=hS;have hel:=Mi (prog:=cW) (w:=w_) (S:=S_) hv;have hf:(Eo S_ xa).fits (k7 S_ v).size=aJ:=by refine ai (jF ..) ?_;exact uX S_ S_ xa
 have JO:(k7 S_ v).size<=6:=by refine ai (jF ..) ?_;have:=bu S_.testBit (aN 6);exact this
 have hz:(k7 S_ v).size < scanBound:=by show _ < 4096;exact b7 (by assumption) (by decide)
 have hkey:(lr cW w_).is (k_:Int) (.int k_ t_)=aJ:=GL _ _ _ _;have hgw:∀(b:Bool) {s₁:aq} {Q':Unit->aq->Prop},Q' () s₁->aS (aX cW w_) A_ (match b with|true=>rule "set.scan.the-table-gave-way"|false=>dh ()) Q' E_ s₁:=
  λb s₁ Q' hq=>by cases b <;> first|exact ar hq|exact oa hq
 delta setAdd;refine bC (ag ((lr cW w_).pyHash hkey ?_));refine ai (show (lr cW w_).hash (k_:Int)=(k_:Int) from Mh k_ hk) ?_;delta setAddHashed setAddHashedIn;refine bC (ag (lu (o:={cls:= .type "set",dict:=av,data:= .set (k7 S_ v) ep (Eo S_ xa)}) ho rfl hf ?_));dsimp only;refine ai (byScan_of rfl hz hel ..) ?_;refine ai (if_pos rfl ..) ?_;delta setAddByScan;refine ag (ag (oa ?_));have sc:∀(Q':ScanMet->aq->Prop),Q' (match (k7 S_ v).toList.findIdx? (λe=>(lr cW w_).is (k_:Int) e.2) with|some j=> .found (0+j)|none=> .absent) {s_ with toks:=s_.toks+1}->aS (aX cW w_) A_ (setScan a_ (.int k_ t_) (k_:Int) aJ (k7 S_ v)) Q' E_ {s_ with toks:=s_.toks+1}:=λQ' hq=>by
  have:=wpAny_setScan_of (A:=A_) (E:=E_) (s:={s_ with toks:=s_.toks+1}) (adding:=aJ) (k:=(k_:Int)) hkey (o:={cls:= .type "set",dict:=av,data:= .set (k7 S_ v) ep (Eo S_ xa)}) ho rfl hf hel hq;rw [show (lr cW w_).hash (k_:Int)=(k_:Int) from Mh k_ hk] at this;exact this
 refine ag (sc _ ?_);have hfi:=OX (prog:=cW) (w:=w_) (S:=S_) hv hk;cases hr:(k7 S_ v).toList.findIdx? (λe=>(lr cW w_).is (k_:Int) e.2) with
 |some j=>
  rw [hr] at hfi;have hb:S_.testBit k_=aJ:=hfi.symm;dsimp only;refine ar (ar ?_);have hor:∀S_,S_ < 64->∀k_:Nat,k_ < 6->S_.testBit k_=aJ->S_ ||| 2 ^ k_=S_:=by decide+kernel
  refine h s_.heap _ (JH a_ s_.heap) ?_ _;exact ai (hor S_ ud k_ hk hb ..) (⟨v,ep,ho,hv,ud⟩)
 |none=>
  rw [hr] at hfi;have hb:S_.testBit k_=aH:=hfi.symm;have hor:∀S_,S_ < 64->∀k_:Nat,k_ < 6->S_.testBit k_=aH->S_ ||| 2 ^ k_=S_+2 ^ k_:=by decide+kernel
  dsimp only;refine ai (R3 ud hk hb ..) ?_;dsimp only;have SN:=(Gb S_ ud k_ hk hb).2;have hv':∀j:Nat,∃t',Hv v k_ (.int k_ t_) j= .int j t':=λj=>by
   delta Hv;by_cases e:j=k_
   ·subst e;exact ⟨t_,by (refine ai (if_pos rfl ..) ?_;rfl)⟩
   ·refine ai (if_neg e ..) ?_;exact hv j
  have hz1:(k7 (S_+2 ^ k_) (Hv v k_ (.int k_ t_))).size<=er:=by refine ai (jF ..) ?_;have:=bu (S_+2 ^ k_).testBit (aN 6);simp [eY] at this ⊢;show _<=2 ^ 24;exact aw (by assumption) (by decide)
  refine ag (ar ?_);simp only [show (I0 (S_+2 ^ k_) S_ xa).plain=aJ from rfl,↓reduceIte,Bool.not_false,Ng];refine ai (hashByValue_scannable 8 (show (jS (k_:Int) t_).scannable=aJ from rfl)) (ag (ar ?_));simp only [show plainKind (jS (k_:Int) t_)=aJ from rfl,↓reduceIte];refine ai (OV S_ ud k_ hk hb ..) (ag (wpAny_storeSet_of (o:={cls:= .type "set",dict:=av,data:= .set (k7 S_ v) ep (Eo S_ xa)}) ho rfl ?_ hz1));have fin:∀h',ji a_ s_.heap h'->(∃ep',h'.get? a_=ae {cls:= .type "set",dict:=av,data:= .set (k7 (S_+2 ^ k_) (Hv v k_ (.int k_ t_))) ep' (Eo (S_+2 ^ k_) xa)})->Q_ aJ {s_ with heap:=h',toks:=s_.toks+1}:=λh' hs ⟨ep',e⟩=>by
   refine h h' _ hs ?_ _;exact ai (hor S_ ud k_ hk hb ..) (⟨_,ep',e,hv',SN⟩)
  have hg1:(s_.heap.update a_ (Obj.putSet (k7 (S_+2 ^ k_) (Hv v k_ (.int k_ t_))) (I0 (S_+2 ^ k_) S_ xa))).get? a_=ae {cls:= .type "set",dict:=av,data:= .set (k7 (S_+2 ^ k_) (Hv v k_ (.int k_ t_))) (ep+1) (I0 (S_+2 ^ k_) S_ xa)}:=
   bS (Obj.putSet (k7 (S_+2 ^ k_) (Hv v k_ (.int k_ t_))) (I0 (S_+2 ^ k_) S_ xa)) ho rfl
  by_cases h4:(eY S_).length=4
  ·(refine ai (decide_eq_true h4 ..) ?_;refine ai (if_pos rfl ..) ?_;refine ai (Mg ud hk hb h4 ..) ?_)
   refine ag (ar ?_);refine ag (wpAny_storeSet_of hg1 rfl ?_ hz1);refine ar (ar (fin _ ((bY _ a_ _).trans (bY _ a_ _)) ⟨ep+1+1,?_⟩));exact bS (Obj.putSet (k7 (S_+2 ^ k_) (Hv v k_ (.int k_ t_))) (Eo (S_+2 ^ k_) xa)) hg1 rfl
  ·(refine ai (decide_eq_false h4 ..) ?_;refine ai (if_neg (by decide) ..) ?_)
   refine ar (ar (fin _ (bY _ a_ _) ⟨ep+1,?_⟩));exact fZ (OW S_ ud k_ hk hb h4 ..) (hg1)
end nQ
theorem nQ{a:ay}{S k:Nat}{led:Bool}{t:HO}{Q:Bool->aq->Prop}:nQ.S0 prog w A E s a S k led t Q 0:=by with_unfolding_all exact CU _ _ _ _ _ _ _ _ _ _ _ _ nQ.S0 @nQ.T0 prog w A E s a S k led t Q 0
noncomputable def nR(ns:List Nat):Nat:=ns.foldl (λS k=>S ||| 2 ^ k) 0
theorem zT.at{h h':dI}{a:ay}{S:Nat}{led:Bool}(x:zT h a S led)(hk:∀o,h.get? a=ae o->h'.get? a=ae o):zT h' a S led:=let ⟨v,ep,e,r⟩:=x;⟨v,ep,hk _ e,r⟩
theorem Mj{a I l:ay}{items:Array aj}{ns:List Nat}{led:Bool}{Rr:wx->aq->Prop}(hh:A.handled=av)(iQ:l≠I)(ha:a≠I/\a≠l)(hi:∀(j:Nat) (v:aj),items[j]? =ae v->∃(k:Nat) (t:HO),ns[j]? =ae k/\k < 6/\v=jS (k:Int) t)(hlen:ns.length=items.size)
 (base:dI) (hR:∀h' tk,zT h' a (nR ns) led->(∀b o,b≠a->b≠I->base.get? b=ae o->h'.get? b=ae o)->Rr (.ok (.ret .none)) {s with heap:=h',toks:=tk}):
 ∀(n i:Nat) (h:dI) (tk:Nat),items.size - i=n->i<=items.size->h.IsListIter I l i->h.IsList l items->zT h a (nR (ns.take i)) led->(∀b o,b≠a->b≠I->base.get? b=ae o->h.get? b=ae o)->
  iV (aX prog w) A (.builtin "set.update.loop" ⟨[.ref a,.ref I],[]⟩) Rr {s with heap:=h,toks:=tk}:=by
 have W:Walks prog w A.in1 I [I,l] [I] items.size (λi v=>items[i]? =ae v) (λi h=>h.IsListIter I l i/\h.IsList l items):=Walks.list (by simp [hh]) I l iQ items;intro n;induction n with
 |zero=>
  intro i h tk hn hi' hit hl hS hk;have qi:i=items.size:=by lia
  subst qi;refine kN zu (ai (gR lC _ ..) ?_);show aS _ A.in1 (lZ (.ref I) >>=_) _ _ _;refine ag (W.done _ _ _ ⟨hit,hl⟩ λh' nx S2=>?_);show aS _ A.in1 (vf eG) _ _ _;rw [d6 (by exact lh (by assumption))] at hS;exact ar (hR h' nx (hS.at λo e=>S2 _ _ (by simp [ha.1]) e) λb o h1 h2 e=>S2 b o (by simp [h2]) (hk b o h1 h2 e))
 |succ n ih=>
  intro i h tk hn hi' hit hl hS hk;have hlt:i < items.size:=by lia
  refine kN zu (ai (gR lC _ ..) ?_);show aS _ A.in1 (lZ (.ref I) >>=_) _ _ _;refine ag (W.item i _ _ _ hlt ⟨hit,hl⟩ λv h' nx hv ⟨SW,hl'⟩ S2=>?_);refine cD (hi i v hv) λk t hnk hk6 iC=>?_;subst iC;show aS _ A.in1 (eV [jS (k:Int) t] (setAdd a (.int (k:Int) t)) >>=_) _ _ _;refine ag (bC (nQ (s:={s with heap:=h',toks:=nx}) (hS.at λo e=>S2 _ _ (by simp [ha.1]) e) hk6 λh2 tk2 hsb hS2 b=>?_));refine ar ⟨rl lC _,ih (i+1) h2 tk2 (by lia) hlt ?_ ?_ ?_ ?_⟩
  ·exact SW.at λo e=>(hsb.2 I (gf ha.1)).trans e
  ·obtain ⟨o,ho,q⟩:=hl';exact ⟨o,(hsb.2 l (gf ha.2)).trans ho,q⟩
  ·have:nR (ns.take (i+1))=nR (ns.take i) ||| 2 ^ k:=by
    (refine ai (dG ..) ?_;refine ai (hnk ..) ?_);delta nR;simp
   refine ai (this ..) ?_;exact hS2
  ·exact λb o h1 h2 e=>(hsb.2 b h1).trans (S2 b o (by simp [h2]) (hk b o h1 h2 e))
theorem yL{h:dI}{l:ay}:(h.push {cls:= .type "list_iterator",data:= .fields #[.ref l,.int 0 0]}).IsListIter h.objs.size l 0:=⟨_,aW _ rfl,rfl,rfl⟩
def qM.S0(prog:d7)(w:eo)(A:bo)(a l:ay)(Rr:wx->aq->Prop):Prop:=∀{s:aq} {items:Array aj} {ns:List Nat} {led:Bool} (hh:A.handled=av) (ha:a≠l) (hS:zT s.heap a 0 led) (hl:s.heap.IsList l items) (hi:∀(j:Nat) (v:aj),items[j]? =ae v->∃(k:Nat) (t:HO),ns[j]? =ae k/\k < 6/\v=jS (k:Int) t) (hlen:ns.length=items.size) (hR:∀h' tk,zT h' a (nR ns) led->(∀b o,b≠a->s.heap.get? b=ae o->h'.get? b=ae o)->Rr (.ok (.ret .none)) {s with heap:=h',toks:=tk}),iV (aX prog w) A (.call (.builtin "set.__init__") ⟨[.ref a,.ref l],[]⟩) Rr s
namespace qM
@[irreducible] def e0:=Fi sU E1 Fm cM cM sZ S0
def cW:=e0.1
def w_:=e0.2.1
def A_:=e0.2.2.1
def a_:=e0.2.2.2.1
def l_:=e0.2.2.2.2.1
def Rr_:=e0.2.2.2.2.2
theorem T0:S0 cW w_ A_ a_ l_ Rr_:=by
 intro s items ns led hh ha hS hl hi hlen hR;obtain ⟨v,ep,ho,hv,ud⟩:=id hS;have hT:s.TypeIs (.ref a_) "set":=⟨_,ho,rfl⟩;refine jj mB.init.plain F.entry_set_init (check_set_init_1 hT ?_);obtain ⟨ol,MV,hcl,nl,E9⟩:=id hl;obtain ⟨ocls,odict,odata,oslots⟩:=ol;simp only at hcl E9;subst hcl;subst E9;have hsls:=F.sub_list_set;have hslf:=F.sub_list_frozenset;have iQ:(lW "list" == lW "dict")=aH:=by decide
 obtain ⟨hp,g,d,tk,os⟩:=s;have TQ:hp.get? a_=ae {cls:= .type "set",dict:=av,data:= .set #[] ep (.fresh 0 0 led),slots:=#[]}:=ho;unfold Builtin.«set.__init__» noKeywords Builtin.Frozenset.updateFrom;generalize hPI:q7=PI
 wp_walk
 subst hPI;have hl1:hp.IsList l_ items:=hl;have ha1:a_ < hp.objs.size:=bM ho;have QI:l_ < hp.objs.size:=bM MV;refine lq hl1 (ag (wpAny_runValue ?_));refine Mj (s:=⟨hp,g,d,tk,os⟩) (a:=a_) (I:=hp.objs.size) (l:=l_) (items:=items) (ns:=ns) (led:=led) (by simp [hh]) (c9 QI) ⟨c9 ha1,ha⟩ hi hlen hp (λh' nx h1 h2=>?_) items.size 0 _ tk rfl (gq _) yL (hl1.push _) ?_ (λb o h1 h2 e=>az _ e)
 ·show aS _ _ _ _ _ _;refine ar (ar ?_);exact hR h' nx h1 λb o hb e=>h2 b o hb (c9 (bM e)) e
 ·exact hS.at λo e=>az _ e
end qM
theorem qM{a l:ay}{Rr:wx->aq->Prop}:qM.S0 prog w A a l Rr:=by with_unfolding_all exact uz _ _ _ _ _ _ qM.S0 @qM.T0 prog w A a l Rr
def lO.S0(prog:d7)(w:eo)(A:bo)(E:aj->aq->Prop)(a:aj)(Q₁:aj->aq->Prop):Prop:=∀{s:aq} (h:Q₁ (.ref s.heap.objs.size) {s with heap:=s.heap.push {cls:= .type "set",dict:=av,data:= .set #[] 0 (.fresh 0 0 (!(w.params.followText "set-order")))}}),iV (aX prog w) A (.call (.builtin "set.__new__") ⟨[.type "set",a],[]⟩) (wants Q₁ E) s
namespace lO
@[irreducible] def e0:=Fi sU E1 Fm sZ gM sZ S0
def cW:=e0.1
def w_:=e0.2.1
def A_:=e0.2.2.1
def E_:=e0.2.2.2.1
def a_:=e0.2.2.2.2.1
def Q₁_:=e0.2.2.2.2.2
theorem T0:S0 cW w_ A_ E_ a_ Q₁_:=by
 intro s h;refine kJ ?_;show aS _ A_.in1 (do iJ "set.__new__" ⟨[.type "set",a_],[]⟩;Nz (.builtin "set.__new__" ⟨[.type "set",a_],[]⟩)) _ _ s;refine ag (cN (F.newCall_set_1 a_) (ar ⟨rl F.plain_set_new _,kN F.entry_set_new ?_⟩));refine ai (gR F.plain_set_new _ ..) ?_;unfold Builtin.«set.__new__» Builtin.Frozenset.newClass;have qY:=sub_set_self;obtain ⟨hp,g,d,tk,os⟩:=s;dsimp only
 wp_walk
 refine gD (ar ?_);dsimp only;delta newObj;refine ag (vj (ar ?_));exact ar h
end lO
theorem lO(a:aj){Q₁:aj->aq->Prop}:lO.S0 prog w A E a Q₁:=by with_unfolding_all exact uz _ _ _ _ _ _ lO.S0 @lO.T0 prog w A E a Q₁
def lQ.S0(prog:d7)(w:eo)(A:bo)(E:aj->aq->Prop)(s:aq)(l:ay)(Q:aj->aq->Prop)(_:Nat):Prop:=∀{items:Array aj} {ns:List Nat} (hh:A.handled=av) (hl:s.heap.IsList l items) (hi:∀(j:Nat) (v:aj),items[j]? =ae v->∃(k:Nat) (t:HO),ns[j]? =ae k/\k < 6/\v=jS (k:Int) t) (hlen:ns.length=items.size) (h:∀(h':dI) (tk:Nat) (led:Bool),led= !(w.params.followText "set-order")->zT h' s.heap.objs.size (nR ns) led->(∀b o,s.heap.get? b=ae o->h'.get? b=ae o)->Q (.ref s.heap.objs.size) {s with heap:=h',toks:=tk}),aS (aX prog w) A (ks (.type "set") [.ref l]) Q E s
namespace lQ
@[irreducible] def e0:=Nl sU E1 Fm sZ zG cM sZ eO S0
def cW:=e0.1
def w_:=e0.2.1
def A_:=e0.2.2.1
def E_:=e0.2.2.2.1
def s_:=e0.2.2.2.2.1
def l_:=e0.2.2.2.2.2.1
def Q_:=e0.2.2.2.2.2.2.1
theorem T0:S0 cW w_ A_ E_ s_ l_ Q_ e0.2.2.2.2.2.2.2:=by
 intro items ns hh hl hi hlen h;have hmade:=mB.made;have qY:=mB.sub;refine ox (mB.mro) λc tl hmro=>?_;have h1:=mB.notType;have h2:=mB.canCreate;have hct:=F.typeCall_set_1 (.ref l_);refine eF (kJ ?_);show aS _ _ (callAny (.type "set") _) _ _ _;refine ar ⟨Code.quiet_builtin _ (by decide+kernel),kN F.entry_type_call ?_⟩;refine ai (Around.under_plain (weight_type_call_type "set" [.ref l_] []) rfl ..) ?_
 repeat (any_goals (first|assumption|wp_step))
 refine codeAny_mono (lO (.ref l_) (E:=E_) (Q₁:=λobj s₁=>obj= .ref s_.heap.objs.size/\s₁={s_ with heap:=s_.heap.push {cls:= .type "set",dict:=av,data:= .set #[] 0 (.fresh 0 0 (!(w_.params.followText "set-order")))}}) ⟨rfl,rfl⟩) λr s₁ hr=>?_;rcases r with e|(_|_|_|obj)
 ·exact hr
 ·exact hr.elim
 ·exact hr.elim
 ·exact hr.elim
 refine dU hr λkF l9=>?_;clear hr;subst kF;subst l9;have hS:(s_.heap.push {cls:= .type "set",dict:=av,data:= .set #[] 0 (.fresh 0 0 (!(w_.params.followText "set-order")))}).get? s_.heap.objs.size=ae {cls:= .type "set",dict:=av,data:= .set #[] 0 (.fresh 0 0 (!(w_.params.followText "set-order")))}:=aW _ rfl;have hT:Shared.TypeIs {s_ with heap:=s_.heap.push {cls:= .type "set",dict:=av,data:= .set #[] 0 (.fresh 0 0 (!(w_.params.followText "set-order")))}} (.ref s_.heap.objs.size) "set":=⟨_,hS,rfl⟩;have TR:=mB.init.lookup;have hbi:=mB.init.bind (.ref s_.heap.objs.size)
 repeat (any_goals (first|assumption|wp_step))
 have hl':(s_.heap.push {cls:= .type "set",dict:=av,data:= .set #[] 0 (.fresh 0 0 (!(w_.params.followText "set-order")))}).IsList l_ items:=hl.push _;refine aK (id hl) λol MV z=>qM (a:=s_.heap.objs.size) (l:=l_) (items:=items) (ns:=ns) (led:= !(w_.params.followText "set-order")) (by simp [hh]) (jI (bM MV)) ⟨λk=> .int k 0,0,hS,λk=>⟨0,rfl⟩,by decide⟩ hl' hi hlen λh' tk h3 h4=>ar (ar ?_);exact h h' tk _ rfl h3 λb o e=>h4 b o (c9 (bM e)) (az _ e)
end lQ
theorem lQ{l:ay}{Q:aj->aq->Prop}:lQ.S0 prog w A E s l Q 0:=by with_unfolding_all exact Bu _ _ _ _ _ _ _ _ lQ.S0 @lQ.T0 prog w A E s l Q 0
variable {a:ay}{ep:Nat}
theorem yM{α:Type}:∀{l:List α} {i:Nat} {x:α},l[i]? =ae x->(x::l.eraseIdx i).Perm l
 |a::l,0,x,h=>by simp at h;subst h;exact ic _
 |a::l,i+1,x,h=>by
  rw [uf] at h;exact ai (List.eraseIdx_cons_succ ..) ((jh _ _ _).trans ((yM h).cons a))
theorem A5{α:Type}(next:Nat->Nat):∀(fuel k:Nat) (l:List α) (out:Array α),l.length<=fuel->(pickOrder.go next fuel k l out).toList.Perm (out.toList++l)
 |0,k,l,out,h=>by
  have:l=[]:=pz (by lia);subst this;exact GR (cz _).symm
 |fuel+1,k,l,out,h=>by
  show (match l[next k % l.length]? with|some x=>pickOrder.go next fuel (k+1) (l.eraseIdx (next k % l.length)) (out.push x)|none=>out).toList.Perm _;cases hx:l[next k % l.length]? with
  |none=>
   cases l with
   |nil=>exact GR (cz _).symm
   |cons a l=>exact absurd (so.mp hx) (Nat.not_le.mpr (ee _ (Nat.succ_pos _)))
  |some x=>
   have hi:next k % l.length < l.length:=(aB.mp hx).1
   have hl:(l.eraseIdx (next k % l.length)).length<=fuel:=by refine ai (List.length_eraseIdx_of_lt hi ..) ?_;lia
   refine (A5 next fuel (k+1) _ _ hl).trans ?_;refine ai (Cy ..) ?_;refine ai (bU ..) ?_;exact List.Perm.append_left _ (yM hx)
noncomputable def tU(w:eo)(a:ay)(ep:Nat)(es:Array (Int×aj)):Array (Int×aj):=if w.params.followText "set-order" then pickOrder (w.params.setOrder a ep) es else es
theorem r8(w:eo)(a:ay)(ep:Nat)(es:Array (Int×aj)):(tU w a ep es).toList.Perm es.toList:=by
 unfold tU
 split
 ·have:=A5 (w.params.setOrder a ep) es.size 0 es.toList #[] (by exact bp _);exact this
 ·exact ic _
theorem i8:Slot "set_iterator" "__next__" "set_iterator.__next__":=
 .of (owner:="set_iterator") (n:="__next__") (by (refine ai (fg ..) ?_;refine ai (dC ..) ?_);kernel_rfl) (by decide+kernel) (by decide+kernel) (by decide+kernel) (by first|exact .inl (by decide+kernel)|exact .inr (by decide+kernel)) (by refine ai (iS ..) ?_;kernel_rfl)
theorem r9:xm table "set_iterator.__next__"=ae Builtin.«set_iterator.__next__»:=Nc (by kernel_rfl)
theorem yN:xm table "set.__iter__"=ae Builtin.«frozenset.__iter__»:=CC (id':="frozenset.__iter__") (by kernel_rfl) rfl (by decide+kernel) (by kernel_rfl)
theorem tj(a:aj):ra "set_iterator.__next__" ⟨[a],[]⟩:=by unfold ra;kernel_rfl
noncomputable def sa(w:eo)(S i:Nat):Nat:=if w.params.followText "set-order" then 0 else if i=0 then 0 else (eY S).getD (i - 1) 0+1
noncomputable abbrev yO(w:eo)(S:Nat)(v:Nat->aj)(ep:Nat):oX:={cls:= .type "set",dict:=av,data:= .set (k7 S v) ep (Eo S (!(w.params.followText "set-order")))}
structure TM(w:eo)(it a:ay)(S:Nat)(v:Nat->aj)(ep i:Nat)(h:dI):Prop where
 it:∃o,h.get? it=ae o/\o.cls= .type "set_iterator"/\o.data= .fields #[.int (sa w S i) 0,.int i 0,.ref a,.int (eY S).length 0,.int ep 0]
 at':h.get? a=ae (yO w S v ep)
section
variable {S:Nat}{v:Nat->aj}
theorem k8(b:Bool):(Eo S b).fits (k7 S v).size=aJ:=by refine ai (jF ..) ?_;exact uX S S b
theorem nS{Q:Bool->aq->Prop}(h:Q (w.params.followText "set-order") s):aS (aX prog w) A setsByText Q E s:=by unfold setsByText;exact ag (gD (ar h))
def lR.S0(prog:d7)(w:eo)(A:bo)(E:aj->aq->Prop)(a:ay)(S ep i:Nat)(v:Nat->aj)(_:Nat):Prop:=∀{s:aq} {Q:Option (aj×Nat)->aq->Prop} (ud:S < 64) (hs:s.heap.get? a=ae (yO w S v ep)) (hi:i < (eY S).length) (h:∀x,(∃hh,(tU w a ep (k7 S v))[i]? =ae (hh,x))->Q (ae (x,sa w S (i+1))) s),aS (aX prog w) A (setNext a (sa w S i) i ep) Q E s
namespace lR
@[irreducible] def e0:=zF sU E1 Fm sZ cM eO eO eO inferInstance eO S0
def cW:=e0.1
def w_:=e0.2.1
def A_:=e0.2.2.1
def E_:=e0.2.2.2.1
def a_:=e0.2.2.2.2.1
def S_:=e0.2.2.2.2.2.1
def Er:=e0.2.2.2.2.2.2.1
def i_:=e0.2.2.2.2.2.2.2.1
def v_:=e0.2.2.2.2.2.2.2.2.1
theorem T0:S0 cW w_ A_ E_ a_ S_ Er i_ v_ e0.2.2.2.2.2.2.2.2.2:=by
 intro s Q ud hs hi h;have hz:(tU w_ a_ Er (k7 S_ v_)).size=(eY S_).length:=by have:=(r8 w_ a_ Er (k7 S_ v_)).length_eq;simp at this;(refine ai (this ..) ?_;refine ai (jF ..) ?_;rfl)
 obtain ⟨⟨hh,x⟩,hx⟩:∃e,(tU w_ a_ Er (k7 S_ v_))[i_]? =ae e:=⟨_,dY (by lia)⟩;have:=h x ⟨hh,hx⟩;unfold setNext;refine ag (lu hs rfl (k8 _) ?_);dsimp only;refine ag (nS ?_);cases hb:w_.params.followText "set-order" with
 |true=>refine ai (if_pos rfl ..) ?_;refine ai (if_neg (by simp) ..) (ag ?_);unfold setWalk;refine ag (lu hs rfl (k8 _) ?_);dsimp only;refine ag (nS ?_);refine ai (hb ..) ?_;refine ai (if_pos rfl ..) ?_;refine ag (gD (ar ?_));refine ar ?_;unfold tU at hx;rw [hb,if_pos rfl] at hx;unfold sa at this ⊢;rw [hb,if_pos rfl] at this ⊢;show Q ((pickOrder (w_.params.setOrder a_ Er) (k7 S_ v_))[i_]?.map λe=>(e.2,0)) s;refine ai (hx ..) ?_;exact this
 |false=>
  simp only [dk,if_false];unfold tU at hx;rw [hb,if_neg (by decide)] at hx;simp only [sa,hb,dk,if_false] at this ⊢;refine f5 (λhd=>EP (show aH=aJ from hd)) λz=>ag (ar (ar ?_));have hp:(Eo S_ (!aH)).place=(eY S_).toArray:=rfl;refine ai (hp ..) ?_;refine ai (Ep S_ ud i_ (by exact cJ (by assumption)) ..) ?_;refine ai (hx ..) ?_;refine ai (show (eY S_).toArray[i_]? =ae ((eY S_)[i_]) by simp [hi]) ?_;have e:(eY S_).getD (i_+1 - 1) 0=(eY S_)[i_]:=by (refine ai (Nat.add_sub_cancel ..) ?_;refine ai (bR ..) ?_;refine ai (bH hi ..) ?_);rfl
  rw [if_neg (by lia),e] at this;exact this
end lR
theorem lR:lR.S0 prog w A E a S ep i v 0:=by with_unfolding_all exact uA _ _ _ _ _ _ _ _ _ _ lR.S0 @lR.T0 prog w A E a S ep i v 0
theorem TM.typeIs(x:TM w it a S v ep i s.heap):s.TypeIs (.ref it) "set_iterator":=let ⟨o,h1,h2,_⟩:=x.it;⟨o,h1,h2⟩
def jA.S0(prog:d7)(w:eo)(A:bo)(E:aj->aq->Prop)(s:aq)(it a:ay)(S ep i:Nat)(Q:Option aj->aq->Prop)(_:Nat):Prop:=∀{v:Nat->aj} (ud:S < 64) (iQ:it≠a) (x:TM w it a S v ep i s.heap) (hi:i < (eY S).length) (hQ:∀u h',(∃hh,(tU w a ep (k7 S v))[i]? =ae (hh,u))->TM w it a S v ep (i+1) h'->ji it s.heap h'->Q (ae u) {s with heap:=h'}),aS (aX prog w) A (lZ (.ref it)) Q E s
namespace jA
@[irreducible] def e0:=HP sU E1 Fm sZ zG cM cM eO eO eO sZ eO S0
def cW:=e0.1
def w_:=e0.2.1
def A_:=e0.2.2.1
def E_:=e0.2.2.2.1
def s_:=e0.2.2.2.2.1
def sv:=e0.2.2.2.2.2.1
def a_:=e0.2.2.2.2.2.2.1
def S_:=e0.2.2.2.2.2.2.2.1
def Er:=e0.2.2.2.2.2.2.2.2.1
def i_:=e0.2.2.2.2.2.2.2.2.2.1
def Q_:=e0.2.2.2.2.2.2.2.2.2.2.1
theorem T0:S0 cW w_ A_ E_ s_ sv a_ S_ Er i_ Q_ e0.2.2.2.2.2.2.2.2.2.2.2:=by
 intro v ud iQ x hi hQ;refine ef (x.it) λo ho hc hd=>?_;unfold lZ;refine ag (kS (dX (name:=fQ "__next__") x.typeIs i8 (dq i8 x.typeIs r9 ?_ (tj _))));unfold Builtin.«set_iterator.__next__»;refine ag (ar ?_);refine ag (wpAny_fieldsOf ho hd ?_);dsimp only;refine ag (EZ x.at' rfl (k8 _) ?_);refine ai (if_neg (by rw [jF];simp) ..) ?_;refine ag (lR ud x.at' hi λu hu=>?_);show aS _ _ (setField (.ref sv) 0 (pA (sa w_ S_ (i_+1))) >>=λz=>setField (.ref sv) 1 (pA ((i_:Int)+1)) >>=λz=>vf u) _ _ _;refine ag (eH ho hd (by decide) ?_);have ho1:=bS (Fe (·.setIfInBounds 0 (pA (sa w_ S_ (i_+1))))) ho (iW (dQ hd _));have hd1:=dQ hd (·.setIfInBounds 0 (pA (sa w_ S_ (i_+1))));refine ag (eH ho1 hd1 (by decide) ?_);refine ar ⟨_,rfl,ar (hQ u _ hu ⟨⟨_,bS _ ho1 (iW (dQ hd1 _)),?_,?_⟩,?_⟩ ((bY ..).trans (bY ..)))⟩
 ·(refine ai (pH ..) ?_;refine ai (pH ..) ?_);exact hc
 ·refine ai (dQ hd1 ..) ?_;simp [pA]
 ·refine ai (((bY ..).trans (bY ..)).2 a_ (gf iQ)) ?_;exact x.at'
end jA
theorem jA{Q:Option aj->aq->Prop}:jA.S0 prog w A E s it a S ep i Q 0:=by with_unfolding_all exact CU _ _ _ _ _ _ _ _ _ _ _ _ jA.S0 @jA.T0 prog w A E s it a S ep i Q 0
def hV.S0(prog:d7)(w:eo)(A:bo)(a:ay)(S ep:Nat)(v:Nat->aj)(_:Nat):Prop:=∀{E:aj->aq->Prop} {s:aq} {Q:Option (aj×Nat)->aq->Prop} (ud:S < 64) (hs:s.heap.get? a=ae (yO w S v ep)) (h:Q av s),aS (aX prog w) A (setNext a (sa w S (eY S).length) (eY S).length ep) Q E s
namespace hV
@[irreducible] def e0:=Nl sU E1 Fm cM eO eO inferInstance eO S0
def cW:=e0.1
def w_:=e0.2.1
def A_:=e0.2.2.1
def a_:=e0.2.2.2.1
def S_:=e0.2.2.2.2.1
def Er:=e0.2.2.2.2.2.1
def v_:=e0.2.2.2.2.2.2.1
theorem T0:S0 cW w_ A_ a_ S_ Er v_ e0.2.2.2.2.2.2.2:=by
 intro E s Q ud hs h;have hz:(tU w_ a_ Er (k7 S_ v_)).size=(eY S_).length:=by have:=(r8 w_ a_ Er (k7 S_ v_)).length_eq;simp at this;(refine ai (this ..) ?_;refine ai (jF ..) ?_;rfl)
 have hx:(tU w_ a_ Er (k7 S_ v_))[(eY S_).length]? =av:=by simp [hz]
 unfold setNext;refine ag (lu hs rfl (k8 _) ?_);dsimp only;refine ag (nS ?_);cases hb:w_.params.followText "set-order" with
 |true=>refine ai (if_pos rfl ..) ?_;refine ai (if_neg (by simp) ..) (ag ?_);unfold setWalk;refine ag (lu hs rfl (k8 _) ?_);dsimp only;refine ag (nS ?_);refine ai (hb ..) ?_;refine ai (if_pos rfl ..) ?_;refine ag (gD (ar ?_));refine ar ?_;unfold tU at hx;rw [hb,if_pos rfl] at hx;show Q ((pickOrder (w_.params.setOrder a_ Er) (k7 S_ v_))[(eY S_).length]?.map λe=>(e.2,_)) s;refine ai (hx ..) ?_;exact h
 |false=>simp only [dk,if_false,sa,hb];refine f5 (λhd=>EP (show aH=aJ from hd)) λz=>ag (ar (ar ?_));have hp:(Eo S_ (!aH)).place=(eY S_).toArray:=rfl;refine ai (hp ..) ?_;refine ai (Ep S_ ud (eY S_).length (by exact jf _) ..) ?_;refine ai (show (k7 S_ v_)[(eY S_).length]? =av by simp [jF]) ?_;exact h
end hV
theorem hV:hV.S0 prog w A a S ep v 0:=by with_unfolding_all exact Bu _ _ _ _ _ _ _ _ hV.S0 @hV.T0 prog w A a S ep v 0
def kl.S0(prog:d7)(w:eo)(A:bo)(E:aj->aq->Prop)(s:aq)(it a:ay)(S ep:Nat)(Q:Option aj->aq->Prop):Prop:=∀{v:Nat->aj} (hh:A.handled=av) (ud:S < 64) (x:TM w it a S v ep (eY S).length s.heap) (hQ:∀h',rt it s.heap h'->Q av {s with heap:=h'}),aS (aX prog w) A (lZ (.ref it)) Q E s
namespace kl
@[irreducible] def e0:=zF sU E1 Fm sZ zG cM cM eO eO sZ S0
def cW:=e0.1
def w_:=e0.2.1
def A_:=e0.2.2.1
def E_:=e0.2.2.2.1
def s_:=e0.2.2.2.2.1
def sv:=e0.2.2.2.2.2.1
def a_:=e0.2.2.2.2.2.2.1
def S_:=e0.2.2.2.2.2.2.2.1
def Er:=e0.2.2.2.2.2.2.2.2.1
def Q_:=e0.2.2.2.2.2.2.2.2.2
theorem T0:S0 cW w_ A_ E_ s_ sv a_ S_ Er Q_:=by intro v hh ud x hQ;refine ef (x.it) λo ho hc hd=>?_;unfold lZ;refine ag (kS (dX (name:=fQ "__next__") x.typeIs i8 (dq i8 x.typeIs r9 ?_ (tj _))));unfold Builtin.«set_iterator.__next__»;refine ag (ar ?_);refine ag (wpAny_fieldsOf ho hd ?_);dsimp only;refine ag (EZ x.at' rfl (k8 _) ?_);refine ai (if_neg (by rw [jF];simp) ..) ?_;refine ag (hV ud x.at' ?_);show aS _ _ (setField (.ref sv) 2 .none >>=_) _ _ _;refine ag (eH ho hd (by decide) ?_);show aS _ _ (Tt (.type "StopIteration") [] >>=_) _ _ _;refine nG hh ?_;refine ag (xr (T:="StopIteration") (b:=aJ) ⟨_,aW _ rfl,rfl⟩ TA ?_);exact ar (hQ _ (((bY ..).extBut.push _).push _))
end kl
theorem kl{Q:Option aj->aq->Prop}:kl.S0 prog w A E s it a S ep Q:=by with_unfolding_all exact uA _ _ _ _ _ _ _ _ _ _ kl.S0 @kl.T0 prog w A E s it a S ep Q
def tV.S0(prog:d7)(w:eo)(A:bo)(s:aq)(a:ay)(S ep:Nat)(v:Nat->aj)(Q:aj->aq->Prop)(_:Nat):Prop:=∀{E:aj->aq->Prop} (hs:s.heap.get? a=ae (yO w S v ep)) (hQ:Q (.ref s.heap.objs.size) {s with heap:=s.heap.push {cls:= .type "set_iterator",data:= .fields #[.int 0 0,.int 0 0,.ref a,.int (eY S).length 0,.int ep 0]}}),aS (aX prog w) A (q7 (.ref a)) Q E s
namespace tV
@[irreducible] def e0:=zF sU E1 Fm zG cM eO eO inferInstance sZ eO S0
def cW:=e0.1
def w_:=e0.2.1
def A_:=e0.2.2.1
def s_:=e0.2.2.2.1
def a_:=e0.2.2.2.2.1
def S_:=e0.2.2.2.2.2.1
def Er:=e0.2.2.2.2.2.2.1
def v_:=e0.2.2.2.2.2.2.2.1
def Q_:=e0.2.2.2.2.2.2.2.2.1
theorem T0:S0 cW w_ A_ s_ a_ S_ Er v_ Q_ e0.2.2.2.2.2.2.2.2.2:=by
 intro E hs hQ;have hT:s_.TypeIs (.ref a_) "set":=⟨_,hs,rfl⟩;refine vo hT F.slot_set_iter (dq F.slot_set_iter hT yN ?_ (F.args_set_iter_1 _));unfold Builtin.«frozenset.__iter__»;refine ag (ar ?_);unfold Builtin.Frozenset.sizeOf;refine ag (ag (EZ hs rfl (k8 _) (ar ?_)));refine ag ?_;unfold setDrawn;refine ag (lu hs rfl (k8 _) ?_);dsimp only;refine ag (nS (ar ?_));refine f5 (λhd=>?_) λz=>?_
 ·have hd':(!(w_.params.followText "set-order") && aH)=aJ:=hd;rw [kM] at hd';exact vy hd'
 refine ag (ar ?_);refine ag (wpAny_setEpoch_of hs rfl (k8 _) ?_);refine ag (jg (ar ⟨_,rfl,"set_iterator",_,⟨_,aW _ rfl,rfl⟩,i8.lookup,?_⟩));exact ai (jF ..) (hQ)
end tV
theorem tV{Q:aj->aq->Prop}:tV.S0 prog w A s a S ep v Q 0:=by with_unfolding_all exact uA _ _ _ _ _ _ _ _ _ _ tV.S0 @tV.T0 prog w A s a S ep v Q 0
def tW.S0(r:ay)(_:Nat):Prop:=∀{prog:d7} {w:eo} {A:bo} {E:aj->aq->Prop} {s:aq} {Q:Bool->aq->Prop} (hT:s.TypeIs (.ref r) "set") (h:Q aH s),aS (aX prog w) A (QS (.ref r)) Q E s
namespace tW
@[irreducible] def e0:=P4 cM eO S0
def r_:=e0.1
theorem T0:S0 r_ e0.2:=by
 intro prog w A E s Q hT h;unfold QS;refine ag (h8 hT F.slot_set_len.lookup ?_);generalize hid:("set.__len__":String)=id0
 wp_delta
 refine ai (show QP id0=ae ("set","__len__") from by subst hid;decide+kernel) ?_;subst hid;refine ag (xr (T:="set") (b:=aJ) hT (by refine ai (iS ..) ?_;kernel_rfl) ?_);refine f5 (λwW=>absurd wW (by decide)) (λz=>?_);refine f5 (λz=>?_) (λwW=>absurd (by decide+kernel) wW);refine ag (wpAny_typeOf hT ?_);exact ar h
end tW
theorem tW{r:ay}:tW.S0 r 0:=by with_unfolding_all exact Fh _ _ tW.S0 @tW.T0 r 0
end
theorem tm:Slot "set_iterator" "__iter__" "set_iterator.__iter__":=
 .of (owner:="set_iterator") (n:="__iter__") (by (refine ai (fg ..) ?_;refine ai (dC ..) ?_);kernel_rfl) (by decide+kernel) (by decide+kernel) (by decide+kernel) (by first|exact .inl (by decide+kernel)|exact .inr (by decide+kernel)) (by refine ai (iS ..) ?_;kernel_rfl)
theorem yP:xm table "set_iterator.__iter__"=ae Builtin.«dict_keyiterator.__iter__»:=CC (id':="dict_keyiterator.__iter__") (by kernel_rfl) rfl (by decide+kernel) (by kernel_rfl)
theorem zU(a:aj):ra "set_iterator.__iter__" ⟨[a],[]⟩:=by unfold ra;kernel_rfl
section
variable {S:Nat}{v:Nat->aj}
theorem OY(ud:S < 64):KdlSrc prog w "set" a a (eY S).length (λi u=>∃hh,(tU w a ep (k7 S v))[i]? =ae (hh,u)) (λh=>h.get? a=ae (yO w S v ep)) where
 type:=λs h=>⟨_,h,rfl⟩
 there:=λh e=>⟨bM e,bM e⟩
 keep:=λh h' e hk=>hk a (.inl rfl) _ e
 notList:=by decide
 notTuple:=by decide
 hint:=λA E s Q e hq=>tW ⟨_,e,rfl⟩ hq
 iter:=λA s hh e=>by
  have hlt:=bM e;refine ⟨_,λi h=>TM w s.heap.objs.size a S v ep i h,λE Q hq=>tV e hq,⟨λb hb=>by simp at hb;simp [hb],λi h h' st hk=>⟨?_,hk a (by exact ab _ aa) _ st.at'⟩,λi s Q E hi st hQ=>jA ud (jI hlt) st hi λu h' hu st' hs=>hQ u h' s.toks hu st' λb o hb e=>hs.extBut b o (λq=>hb (by simp [q])) e,λs Q E st hQ=>kl hh ud st λh' he=>hQ h' s.toks λb o hb e=>he b o (λq=>hb (by simp [q])) e,λi s Q E st hQ=>?_⟩,?_⟩
  ·exact ef (st.it) λo h1 h2 h3=>⟨o,hk _ (by exact aa) _ h1,h2,h3⟩
  ·have hT:=st.typeIs;refine vo hT tm (dq tm hT yP ?_ (zU _));show aS _ _ (vf _) _ _ s;exact ar ⟨_,rfl,"set_iterator",_,hT,i8.lookup,hQ⟩
  ·refine ⟨⟨_,aW _ rfl,rfl,?_⟩,az _ e⟩;simp [sa]
end
section
variable {S:Nat}{v:Nat->aj}
theorem ui.of_vals:∀{vs:List aj} {ns:List Int},vs.length=ns.length->(∀(j:Nat) (u:aj) (n:Int),vs[j]? =ae u->ns[j]? =ae n->∃t,u= .int n t)->ui vs ns
 |[],[],_,_=> .nil
 |u::vs,n::ns,hl,h=>by
  refine cK (h 0 u n rfl rfl) λt dP=>?_;subst dP;exact .cons n t (ui.of_vals (by simpa using hl) λj u n hu hn=>h (j+1) u n hu hn)
 |[],_::_,hl,_=>by simp at hl
 |_::_,[],hl,_=>by simp at hl
theorem Gc{Q:aj->aq->Prop}(hh:A.handled=av)(ud:S < 64)(hv:∀k:Nat,∃t,v k= .int k t)(hs:s.heap.get? a=ae (yO w S v ep))
 (h:∀(D:ay) (h':dI) (tk:Nat) (out:Array aj) (n:Nat),(∀b o,s.heap.get? b=ae o->h'.get? b=ae o)->s.heap.get? D=av->h'.get? D=ae (oG out n)->ui out.toList ((eY S).map fA)->Q (.ref D) {s with heap:=h',toks:=tk}):
 aS (aX prog w) A (ks (.builtin "sorted") [.ref a]) Q E s:=by
 have hz:(tU w a ep (k7 S v)).size=(eY S).length:=by have:=(r8 w a ep (k7 S v)).length_eq;simp at this;(refine ai (this ..) ?_;refine ai (jF ..) ?_;rfl)
 have z8:(eY S).length<=6:=by have:=bu S.testBit (aN 6);exact this
 refine gw kind_sorted plain_sorted entry_sorted (args_sorted1 _) ?_;unfold Builtin.«sorted»;refine ag (m:=checkCount "sorted" 1 1 _) (ar ?_);refine ag (kdu_collect (A:=A.in1) (OY ud) hh hs (by show _<=2 ^ 24;exact aw (by assumption) (by decide)) λh' tk acc hk EI=>?_);have hl:acc.toList.length=(eY S).length:=by refine ai (eK ..) ?_;exact EI.1
 refine ag (wpAny_newList ?_ (by refine ai (hl ..) ?_;show _<=2 ^ 24;exact aw (by assumption) (by decide)));have hoL:(h'.push {cls:= .type "list",data:= .seq acc.toList.toArray}).get? h'.objs.size=ae (seqObj "list" acc.toList.toArray 0):=aW _ rfl;have hI:ui acc.toList ((tU w a ep (k7 S v)).toList.map (·.1)):=by refine ui.of_vals (by (refine ai (hl ..) ?_;refine ai (ak ..) ?_;refine ai (eK ..) ?_);exact hz.symm) λj u n hu hn=>?_;refine cK (EI.2 j u (by refine fZ (bV ..) ?_;exact hu)) λhh' hj=>?_;rw [aI,bV,hj] at hn;have hm:(hh',u)∈(k7 S v).toList:=(r8 w a ep (k7 S v)).mem_iff.mp (by refine gj (pE ..) ?_;exact Array.mem_of_getElem? hj);simp only [k7,aG] at hm;refine aK hm λk z e=>?_;clear hm;refine cK (hv k) λt ht=>?_;have e1:hh'=(k:Int):=(sR e).1.symm;have e2:u= .int k t:=(sR e).2.symm.trans ht;have e3:n=hh':=(aO hn).symm;exact ⟨t,by (refine ai (e2 ..) ?_;refine ai (e3 ..) ?_;refine ai (e1 ..) ?_;rfl)⟩
 have hp:((tU w a ep (k7 S v)).toList.map (·.1)).Perm ((eY S).map fA):=by have:=(r8 w a ep (k7 S v)).map (·.1);refine this.trans (GR ?_);simp only [k7,a0];rfl
 have hR:(eY S).map fA=((eY S).map fA):=rfl;have hsrt:((eY S).map fA).Pairwise (·<=·):=by
  have:∀S,S < 64->(eY S).Pairwise (·<=·):=by decide+kernel
  exact List.pairwise_map.mpr ((this S ud).imp λ{a b} h=>Int.ofNat_le.mpr h)
 show aS _ _ _ _ _ {s with heap:=h'.push (seqObj "list" acc.toList.toArray 0),toks:=tk};refine ag (bC (dq slot_list_sort ⟨_,hoL,rfl⟩ entry_list_sort (list_sort_tree hoL hI (by lia) λout ns' a1 a2 a3=>⟨_,rfl,?_⟩) (args_list_sort _)));have wk:ns'=(eY S).map fA:=List.Perm.eq_of_pairwise (λa b z z h1 h2=>Int.le_antisymm h1 h2) a3 hsrt (a2.trans hp);subst wk;exact cK (sortedHeap_at (out:=out) hoL) λe he=>ar ⟨_,rfl,h _ _ _ out e (λb o eb=>by
  have hbl:=bM (hk b o eb);refine ai (sortedHeap_old (c9 hbl) (by rw [fN];exact cJ hbl) ..) ?_;exact az _ (hk b o eb)) (by
   cases hq:s.heap.get? h'.objs.size with
   |none=>rfl
   |some o=>exact absurd (bM (hk _ _ hq)) (zD _)) he a1⟩
end
noncomputable def Mk(S:Nat):Vw:=⟨λZ v=>∃a u ep,v= .ref a/\Z a=ae (yO G.w S u ep)/\(∀k:Nat,∃t,u k= .int k t)/\S < 64,λZ Z' v h ⟨a,u,ep,e,z,r⟩=>⟨a,u,ep,e,h _ _ z,r⟩⟩
theorem OZ{ns:List Nat}(h6:∀n∈ns,n < 6):Fn k mu (.type "set") [md mu (ns.map nV)] (Mk (nR ns)):=⟨λ{A E Z s fr vs Q} hA r hq q=>by
 refine aK (hq.one) λv eT p=>?_;subst eT;refine cF (md.at p r) λa ws n gi h1 h2=>?_;subst gi;have hl:ns.length=ws.size:=by (refine fZ (cb h2 ..) ?_;refine ai (ak ..) ?_;rfl)
 refine lQ (ns:=ns) hA.hh ⟨_,h1,rfl,n,rfl⟩ (λj u hu=>?_) hl λh' tk led hled hS hk=>?_
 ·refine aK (h2.get' (bV.trans hu)) λx hx hr=>?_;rw [aI] at hx;refine aK (aL.mp hx) λm hm iC=>?_;subst iC;refine cK (gG hr) λt kF=>?_;subst kF;exact ⟨m,t,hm,h6 m (ao hm),rfl⟩
 ·obtain ⟨u,ep,ho,hu,ud⟩:=hS;subst hled;have hz:=r.fresh (bp _);exact q (bI.le_put hz) ⟨_,u,ep,rfl,bI.put_self ..,hu,ud⟩ (R.freeze (r.keep (tk:=tk) hk) ho hz (r.notOwn (bp _)))⟩
theorem yQ{Z:bI}:∀{vs:List aj} {ns:List Nat},ui vs (ns.map fA)->bW G Z vs (ns.map nV)
 |[],[],_=> .nil
 |v::vs,n::ns,h=>by cases h with|cons _ t hr=>exact .cons (.int _ _) (yQ hr)
 |[],_::_,h=>by cases h
 |_::_,[],h=>by cases h
theorem Ge{S:Nat}:Fn k mu (.builtin "sorted") [Mk S] (bZ (.list ((eY S).map nV))):=⟨λ{A E Z s fr vs Q} hA r hq q=>by
 obtain ⟨v,rfl,a,u,ep,rfl,hz,hu,ud⟩:=hq.one;refine Gc hA.hh ud hu (r.zin _ _ hz) λD h' tk out n hk hD hl hI=>?_;have hzD:Z D=av:=by
  cases e:Z D with
  |none=>rfl
  |some o=>have:=r.zin _ _ e;rw [hD] at this;exact gL this
 exact q (bI.le_put hzD) (aZ.list (bI.put_self ..) (yQ hI)) (R.freeze (r.keep (tk:=tk) hk) hl hzD λhb=>by obtain ⟨o,ho⟩:=r.liveAll hb;rw [hD] at ho;exact gL ho)⟩
theorem Gf(ns:List Nat)(b:Nat):(nR ns).testBit b=decide (b∈ns):=by
 have:∀(ns:List Nat) (S:Nat),(ns.foldl (λS k=>S ||| 2 ^ k) S).testBit b=(S.testBit b || decide (b∈ns)):=by
  intro ns;induction ns with
  |nil=>intro S;simp
  |cons n ns ih=>
   intro S;refine ai (fE ..) ?_;refine ai (ih ..) ?_;refine ai (Nat.testBit_or ..) ?_;refine ai (lB ..) ?_;refine gj (cm ..) ?_;simp only [jU,decide_eq_true_eq,aP];constructor
   ·rintro ((h|h)|h)
    ·exact .inl h
    ·exact .inr (.inl h.symm)
    ·exact .inr (.inr h)
   ·rintro (h|h|h)
    ·exact .inl (.inl h)
    ·exact .inl (.inr h.symm)
    ·exact .inr h
 unfold nR;refine ai (this ..) ?_;simp
section
variable {A:ay}
noncomputable def rT(ds:List Nat)(p:Nat):List V:=[nV (2*cf ds (sP ds p)),nV (2*cf ds (eP ds p)),nV (2*cf ds (tP ds p)),nV (lP ds p / 2),.bool (decide (lP ds p % 2=1))]
theorem R5(p:Nat):DU (Qq ds p)= .ent (rT ds p):=by
 have h:cf ds (sP ds p)<=cf ds (eP ds p):=nO (by unfold eP;lia);have e1:((cf ds (sP ds p):Nat):Int)*2=((2*cf ds (sP ds p):Nat):Int):=by lia
 have e2:((2*cf ds (sP ds p):Nat):Int)+((cf ds (eP ds p) - cf ds (sP ds p):Nat):Int)*2=((2*cf ds (eP ds p):Nat):Int):=by lia
 have e3:((cf ds (tP ds p):Nat):Int)*2=((2*cf ds (tP ds p):Nat):Int):=by lia
 have e4:((lP ds p:Nat):Int) / 2=((lP ds p / 2:Nat):Int):=by lia
 simp only [DU,Qq,rT,e1,e2,e3,e4];rfl
theorem O0:L6 ds= .list ([10,14].map λp=>V.ent (rT ds p)):=by unfold L6;simp only [bA,u5,R5]
theorem O1(p:Nat):∃dd,pd (rT ds p)=ae dd/\zE dd=0:=⟨[.int _,.int _,.int _,.int _,.bool _],rfl,rfl⟩
noncomputable abbrev S16(ds:List Nat)(ns:List Int)(n6:Nat)(A Du Oc Sg lx Bk:ay):List (Nat×V):=(27,.list ([10,14].map λp=>V.tup (rT ds p)))::(26,.list ([10,14].map λp=>V.ent (rT ds p)))::Qp ds ns n6 A Du Oc Sg lx Bk
theorem R6(H:Hy G)(EH:gO G K)(TH:rZ G K){pm doc:aj}(he:dz (bT pm doc L)){P:ib}{N:Int}{cs:List Nat}{B:Rw}(hS:Sv vs (S15 ds ns n6 A Du Oc Sg P.lx Bk))
 (next:∀vs,Sv vs (S16 ds ns n6 A Du Oc Sg P.lx Bk)->yf (k+8) (cy L vs::mu) (bT pm doc L) (je 17) Θ):
 yf (k+8) (cy L vs::mu) (bT pm doc L) (je 16) Θ:=by
 have hf:∀{vs},bq L (aM (L+1) (bj (cO 23)).names) vs∈cy L vs::mu:=aa;refine cK (TH.g0) λg0 PL=>cK (TH.g1) λg1 hg1=>cK (TH.g2) λg2 hg2=>cK (TH.g3) λg3 hg3=>cK (TH.g4) λg4 hg4=>?_;have SN:Sv vs ((26,.list ([10,14].map λp=>V.ent (rT ds p)))::Qp ds ns n6 A Du Oc Sg P.lx Bk):=by refine fZ (O0 ..) ?_;exact hS
 have Jk:∀p:Nat,(rT ds p).length<=1000:=λp=>by show 5<=1000;decide
 refine nH (WF.f (bX (y:= .list ([10,14].map λp=>V.tup (rT ds p))) (jO [10,14] (λp=>V.ent (rT ds p)) (λp=>V.tup (rT ds p)) ⟨rfl,rfl,by decide+kernel,by decide+kernel⟩ (dB (ah (j:=26) he .loc hf (SN.get rfl))) (by lia) (by decide) (λC1 a ha=>iu 1 he.comp .loc dm (λhb=>(f9 (xs:=rT ds a)
  (au (nP (k:=k+5) (i:=0) H EH TH PL (ah (j:=1) he.comp .loc aa rfl) rfl (Jk a) (λn e=>by cases e))
  (au (nP (k:=k+5) (i:=1) H EH TH hg1 (ah (j:=1) he.comp .loc aa rfl) rfl (Jk a) (λn e=>by cases e))
  (au (nP (k:=k+5) (i:=2) H EH TH hg2 (ah (j:=1) he.comp .loc aa rfl) rfl (Jk a) (λn e=>by cases e))
  (au (nP (k:=k+5) (i:=3) H EH TH hg3 (ah (j:=1) he.comp .loc aa rfl) rfl (Jk a) (λn e=>by cases e))
  (au (nP (k:=k+5) (i:=4) H EH TH hg4 (ah (j:=1) he.comp .loc aa rfl) rfl (Jk a) (λn e=>by cases e)) aT))))) (by show 5<=2 ^ 20;decide))))) (aQ (i:=0) (j:=27) he (.cell (L+13) "told") rfl ?_) rfl rfl))
 exact next _ (SN.set (j:=27))
noncomputable abbrev k9(P:ib)(N:Int)(cs:List Nat)(A:ay)(arms:List (Nat×Nat))(mu:Mu):Mu:=j5 P [] N cs++(bk A (arms.map kG)::gH 304 []::mu)
noncomputable abbrev R7(ds:List Nat)(n6:Nat)(A lx Bk:ay):List (Nat×V):=[(26,.list ([10,14].map λp=>V.ent (rT ds p))),(41,.ref Bk),(23,.dict (LN (aF ds))),(21,.ref lx),(20,.str (g9 ds n6)),(11,.list ((aN 7).map λb=>nV (cf ds b))),(10,.ref A),(42,.dict (qA (aF ds))),(7,rW (aF ds)),(4,.list (ds.map nV))]
def tX.S0(k:Nat)(mu:Mu)(vs:eL)(Θ:AF->Mu->Prop)(L A Bk:ay)(ds:List Nat)(pm doc:aj)(P:ib)(N:Int)(cs:List Nat)(B:Rw):Prop:=∀{Du Oc Sg:ay} {ns:List Int} {n6:Nat} {K:gn} (H:Hy G) (EH:gO G K) (QH:Qr K) (GH:Lg G) (he:dz (bT pm doc L)) (hk:vS (bT pm doc L)) (hS:Sv vs (S16 ds ns n6 A Du Oc Sg P.lx Bk)) (next:∀vs,Sv vs (R7 ds n6 A P.lx Bk)->yf (k+8) (cy L vs::cE Bk (fT (aF ds) B)::k9 P N cs A (dn ds) mu) (bT pm doc L) (je 18) Θ),yf (k+8) (cy L vs::cE Bk (fT (aF ds) B)::ph P N cs A (dn ds) ds Du mu) (bT pm doc L) (je 17) Θ
namespace tX
@[irreducible] def e0:=NP eO gE gE sZ cM cM cM gE gM gM IK QW gE Rt S0
def k_:=e0.1
def e9:=e0.2.1
def kQ:=e0.2.2.1
def Θ_:=e0.2.2.2.1
def L_:=e0.2.2.2.2.1
def A_:=e0.2.2.2.2.2.1
def wc:=e0.2.2.2.2.2.2.1
def aV:=e0.2.2.2.2.2.2.2.1
def pf:=e0.2.2.2.2.2.2.2.2.1
def g8:=e0.2.2.2.2.2.2.2.2.2.1
def P_:=e0.2.2.2.2.2.2.2.2.2.2.1
def N_:=e0.2.2.2.2.2.2.2.2.2.2.2.1
def qL:=e0.2.2.2.2.2.2.2.2.2.2.2.2.1
def B_:=e0.2.2.2.2.2.2.2.2.2.2.2.2.2
theorem T0:S0 k_ e9 kQ Θ_ L_ A_ wc aV pf g8 P_ N_ qL B_:=by
 intro Du Oc Sg ns n6 K H EH QH GH he hk hS next
 refine Wf.to [0,9] (Wf.frzL (j:=12) (hS.get rfl) ?_);have hS1:Sv (kQ.set 12 (ae (.list ([10,14].map (uU aV))))) ((12,.list ([10,14].map λp=>V.tup (rT aV p)))::S16 aV ns n6 A_ Du Oc Sg P_.lx wc):=hS.set (j:=12);generalize kQ.set 12 (ae (.list ([10,14].map (uU aV))))=kQ at hS1;show yf (k_+8) (cy L_ kQ::cE wc (fT (aF aV) B_)::k9 P_ N_ qL A_ (dn aV) e9) (bT pf g8 L_) (je 17) Θ_;refine cF (GH.f275.go) λob2 z z g0 gd0 z=>cu (H.f179.go) λob3 z z z t0 td z=>?_;have hf:∀{l:Mu},bq L_ (aM (L_+1) (bj (cO 23)).names) kQ∈cy L_ kQ::l:=aa;have Jk:∀p:Nat,∃a b c d,rT aV p=[a,b,c,d,.bool (decide (lP aV p % 2=1))]:=λp=>⟨_,_,_,_,rfl⟩
 refine nH (RZ (R0 ?_));refine Cg (da (ah (j:=26) he .loc hf (hS1.get rfl)) (ah (j:=12) he .loc hf (hS1.get rfl)) (IZ (rows:=[10,14].map (rT aV)) EH QH ?_)) ?_
 ·intro row M0;refine aK (aG.mp M0) λp z dP=>?_;subst dP;exact O1 p
 refine Cg (da (ah (j:=27) he (.cell (L_+13) "told") hf (hS1.get rfl)) (ah (j:=12) he .loc hf (hS1.get rfl)) (A0 (d:= .list ([10,14].map λp=> .tuple [.int (2*cf aV (sP aV p):Nat),.int (2*cf aV (eP aV p):Nat),.int (2*cf aV (tP aV p):Nat),.int (lP aV p / 2:Nat),.bool (decide (lP aV p % 2=1))])) rfl (by decide))) (Cg (oR (da (nD [10,14] (λp=>V.tup (rT aV p)) (λz=>aH) (λz=>V.int 1) ⟨rfl,rfl,by decide+kernel,by decide+kernel⟩ (dB (ah (j:=27) he (.cell (L_+13) "told") hf (hS1.get rfl))) (by lia) (by decide) (λC2 a ha=>iu 1 he.comp .loc (fS (Fo (b:=aJ) (kT (ej (j3 H he.comp H.b_isinstance rfl) (au (bE (ah (j:=1) he.comp .loc aa rfl) aU (tH (e:= .bool (decide (lP aV a % 2=1))))) (au (iO H he.comp H.b_bool rfl) aT)) BQ) qr))) (λhb=>aU))) (ij (xs:=[]) aT (bg rfl)) (BJ (nj _ _))) rfl) ?_);refine OT (Mf (AJ hk (ml H he H.m_table rfl) t0 td (cB (mj (ml H he H.m_given rfl) g0 gd0 (cB (cg cP (e8 (FW.mono (m8 (k:=k_+6) (i:=8) (text:="") (o:=ae (P_.a,P_.b)) H GH rfl (λc hc=>el hc) (by decide)) λy nu hy=>?_))))))));obtain ⟨f,dx,lam,it,L1,gd,ld,a,b,e1,wW,hRd,e2⟩:=hy;cases wW _ rfl;subst e1 e2;refine e8 ⟨[_,_,_,_],_,ic _,⟨_,_,aa⟩,JJ.mono (Hl (k:=k_+4) (qs:=[]) H EH (.tail _ (.head _)) (by show (["read","co_exceptiontable"]:List bc).Nodup;decide) (.tail _ (.head _)) (DT.stop rfl (by decide)) (by decide)) λy nu e=>?_⟩;refine dU e λe1 e2=>?_;clear e;subst e1 e2;refine ⟨_,ic _,bZ (.list []),aH,ij (xs:=[]) aT (bg rfl),BJ (xs:=[]) rfl,?_⟩;exact Oj (Wf.drop1 (Wf.drop1 (Wf.drop1 (Wf.drop1 (next _ (hS1.sub ⟨rfl,rfl,rfl,rfl,rfl,rfl,rfl,rfl,rfl,rfl,trivial⟩))))))
end tX
theorem tX{pm doc:aj}{P:ib}{N:Int}{cs:List Nat}{B:Rw}:tX.S0 k mu vs Θ L A Bk ds pm doc P N cs B:=by with_unfolding_all exact JT _ _ _ _ _ _ _ _ _ _ _ _ _ _ tX.S0 @tX.T0 k mu vs Θ L A Bk ds pm doc P N cs B
end
variable {o1 o2:CmpOp}
def yR(h:dI)(t:ay)(items:Array aj):Prop:=∃o n,h.get? t=ae o/\o.data= .seq items n
theorem yR.at{h h':dI}{t:ay}{items:Array aj}(x:yR h t items)(hk:∀o,h.get? t=ae o->h'.get? t=ae o):yR h' t items:=let ⟨o,n,e,d⟩:=x;⟨o,n,hk o e,d⟩
theorem Ml:CI "tuple.__iter__"=ae .slot:=by kernel_rfl
theorem I2:QP "tuple.__iter__"=ae ("tuple","__iter__"):=by kernel_rfl
section
variable {t:ay}{items:Array aj}{x:aj}
theorem xb{Q:Option aj->aq->Prop}(hit:s.heap.IsTupleIter it t i)(ht:yR s.heap t items)(hx:items[i]? =ae x)
 (hQ:∀h',h'.IsTupleIter it t (i+1)->ji it s.heap h'->Q (ae x) {s with heap:=h'}):aS (aX prog w) A (lZ (.ref it)) Q E s:=by
 refine ef (id hit) λo ho hc hd=>eD ht λol nl MV E9=>?_;clear ht;delta lZ;refine ag (kS (dX (name:=fQ "__next__") hit.typeIs fz (dq fz hit.typeIs Bs ?_ (Ak _))));show aS _ _ (vq (.ref it) 0 >>=_) _ _ s;refine ag (dS ho hd (x:= .ref t) rfl ?_);show aS _ _ (if (cZ t == eG)=aJ then _ else _) _ _ s;refine ai (if_neg (show ¬((cZ t == eG)=aJ) from cG)) ?_;show aS _ _ (vq (.ref it) 1 >>=_) _ _ s;refine ag (dS ho hd (x:= .int i 0) rfl ?_);show aS _ _ (seqItems? (.ref t) >>=_) _ _ s;refine ag (CJ MV E9 ?_);simp only [b8,hx];refine ag (eH ho hd (by exact bp _) (ar ⟨x,rfl,ar (hQ _ ?_ (bY ..))⟩));exact ⟨_,bS _ ho (iW (dQ hd _)),(pH ..).trans hc,by refine ai (dQ hd ..) ?_;simp [pA]⟩
def gz.S0(prog:d7)(w:eo)(A:bo)(E:aj->aq->Prop)(s:aq)(it t:ay)(i:Nat)(Q:Option aj->aq->Prop)(_:Nat):Prop:=∀{items:Array aj} (hh:A.handled=av) (hit:s.heap.IsTupleIter it t i) (ht:yR s.heap t items) (hx:items[i]? =av) (hQ:∀h',rt it s.heap h'->Q av {s with heap:=h'}),aS (aX prog w) A (lZ (.ref it)) Q E s
namespace gz
@[irreducible] def e0:=zF sU E1 Fm sZ zG cM cM eO sZ eO S0
def cW:=e0.1
def w_:=e0.2.1
def A_:=e0.2.2.1
def E_:=e0.2.2.2.1
def s_:=e0.2.2.2.2.1
def sv:=e0.2.2.2.2.2.1
def t_:=e0.2.2.2.2.2.2.1
def i_:=e0.2.2.2.2.2.2.2.1
def Q_:=e0.2.2.2.2.2.2.2.2.1
theorem T0:S0 cW w_ A_ E_ s_ sv t_ i_ Q_ e0.2.2.2.2.2.2.2.2.2:=by intro items hh hit ht hx hQ;refine ef (id hit) λo ho hc hd=>eD ht λol nl MV E9=>?_;clear ht;delta lZ;refine ag (kS (dX (name:=fQ "__next__") hit.typeIs fz (dq fz hit.typeIs Bs ?_ (Ak _))));show aS _ _ (vq (.ref sv) 0 >>=_) _ _ s_;refine ag (dS ho hd (x:= .ref t_) rfl ?_);show aS _ _ (if (cZ t_ == eG)=aJ then _ else _) _ _ s_;refine ai (if_neg (show ¬((cZ t_ == eG)=aJ) from cG)) ?_;show aS _ _ (vq (.ref sv) 1 >>=_) _ _ s_;refine ag (dS ho hd (x:= .int i_ 0) rfl ?_);show aS _ _ (seqItems? (.ref t_) >>=_) _ _ s_;refine ag (CJ MV E9 ?_);simp only [b8,hx];refine ag (oa (ag (eH ho hd (by decide) ?_)));show aS _ _ (Tt (.type "StopIteration") [] >>=_) _ _ _;refine nG hh ?_;refine ag (xr (T:="StopIteration") (b:=aJ) ⟨_,aW _ rfl,rfl⟩ TA ?_);exact ar (hQ _ (((bY ..).extBut.push _).push _))
end gz
theorem gz{Q:Option aj->aq->Prop}:gz.S0 prog w A E s it t i Q 0:=by with_unfolding_all exact uA _ _ _ _ _ _ _ _ _ _ gz.S0 @gz.T0 prog w A E s it t i Q 0
theorem Es(iQ:t≠it):∀(n i:Nat) (s:aq) (Q:List aj->aq->Prop),s.heap.IsTupleIter it t i->yR s.heap t items->i+n<=items.size->
 (∀h',h'.IsTupleIter it t (i+n)->ji it s.heap h'->Q ((items.toList.drop i).take n) {s with heap:=h'})->aS (aX prog w) A (draw (.ref it) n) Q E s
 |0,i,s,Q,hit,_,_,hQ=>by
  show aS _ _ (dh []) Q E s;exact ar (by exact hQ s.heap hit (JH ..))
 |n+1,i,s,Q,hit,ht,hle,hQ=>by
  have hlt:i < items.size:=by lia
  show aS _ _ (lZ (.ref it) >>=_) Q E s;refine ag (xb hit ht (x:=items[i]) (by simp [hlt]) λh₁ GD MY=>?_);refine ag (bC (Es iQ n (i+1) _ _ GD (ht.at λo e=>MY.extBut t o iQ e) (by lia) λh₂ SZ hs₂=>ar ?_));have hd:items.toList.drop i=items[i]::items.toList.drop (i+1):=by simp [dZ,hlt]
  have:=hQ h₂ (by refine ai (show i+(n+1)=i+1+n by lia) ?_;exact SZ) (MY.trans hs₂);rw [hd,jb] at this;exact this
def nT.S0(prog:d7)(w:eo)(A:bo)(E:aj->aq->Prop)(t:ay)(Q:aj->aq->Prop):Prop:=∀{s:aq} {K:gn} {o:oX} (X:K.In s.heap) (QH:Qr K) (hI:fG K (.ref 162) "__iter__"=ae (ae (.builtin "tuple.__iter__"))) (ho:s.heap.get? t=ae o) (hc:o.cls= .ref 162) (hQ:Q (.ref s.heap.objs.size) {s with heap:=s.heap.push {cls:= .type "tuple_iterator",data:= .fields #[.ref t,.int 0 0]}}),aS (aX prog w) A (q7 (.ref t)) Q E s
namespace nT
@[irreducible] def e0:=Fi sU E1 Fm sZ cM sZ S0
def cW:=e0.1
def w_:=e0.2.1
def A_:=e0.2.2.1
def E_:=e0.2.2.2.1
def t_:=e0.2.2.2.2.1
def Q_:=e0.2.2.2.2.2
theorem T0:S0 cW w_ A_ E_ t_ Q_:=by
 intro s K o X QH hI ho hc hQ;obtain ⟨hp,g,d,tk,os⟩:=s;have L1:iM (aX cW w_) hp (jT (.ref t_)) (.ref 162):=sG ho hc;have L2:=mS (M:=aX cW w_) X hI;have L5:iM (aX cW w_) hp (ue (.ref t_) (.type "tuple")) aJ:=L1.andThen (looks_subIn X QH.up);have fin:∀E':aj->aq->Prop,aS (aX cW w_) A_ (ks (.builtin "tuple.__iter__") [.ref t_]) (λv s'=>v= .ref hp.objs.size/\s'=⟨hp.push {cls:= .type "tuple_iterator",data:= .fields #[.ref t_,.int 0 0]},g,d,tk,os⟩) E' ⟨hp,g,d,tk,os⟩:=λE'=>by
  refine eF (jj uw.plain PySem.F.entry_tuple_iter (ru Ml I2 L5 (PySem.F.args_tuple_iter_1 _) ?_));show aS _ _ (do vf (<- newFields "tuple_iterator" [.ref t_,pA 0])) _ _ _;exact ag (jg (ar ⟨rfl,rfl⟩))
 have tail:aS (aX cW w_) A_ (do
  match <- mz (.ref hp.objs.size) "__next__" with
  |none=>rule "iter.non-iterator";raiseError "TypeError" s!"iter() returned non-iterator of type '{<- PySem.typeNameOf (.ref hp.objs.size)}'"
  |some _=>dh (.ref hp.objs.size)) Q_ E_ ⟨hp.push {cls:= .type "tuple_iterator",data:= .fields #[.ref t_,.int 0 0]},g,d,tk,os⟩:=
  ag (h8 (T:="tuple_iterator") ⟨_,aW _ rfl,rfl⟩ fz.lookup (ar hQ))
 delta q7 mz;refine ag (ag (L1.at (L2.at ?_)));dsimp only;refine ag ?_;unfold callSpecialIfBoundUnlessNone? bindSpecialIfBound? mz;refine bC (ag (ag (ag (L1.at (L2.at ?_)))));refine ag (gD (wpAny_ite ?_))
 split
 ·refine ag (cN (uw.bind _) (ar ?_));dsimp only;refine ai (if_neg (by decide) ..) (ag (eR (fin _) (λv s' ⟨e1,e2⟩=>?_) λy y z=>z));subst e1 e2;exact ar tail
 ·refine wpAny_tryCatch (ag (cN (uw.bind _) (ar ?_)));dsimp only;refine ai (if_neg (by decide) ..) (ag (eR (fin _) (λv s' ⟨e1,e2⟩=>?_) λy y z=>z));subst e1 e2;exact ar tail
end nT
theorem nT{Q:aj->aq->Prop}:nT.S0 prog w A E t Q:=by with_unfolding_all exact uz _ _ _ _ _ _ nT.S0 @nT.T0 prog w A E t Q
def km.S0(prog:d7)(w:eo)(A:bo)(s:aq)(t:ay)(items:Array aj):Prop:=∀{E:aj->aq->Prop} {K:gn} {Q:List aj->aq->Prop} {o:oX} {n:Nat} (hh:A.handled=av) (X:K.In s.heap) (QH:Qr K) (hI:fG K (.ref 162) "__iter__"=ae (ae (.builtin "tuple.__iter__"))) (ho:s.heap.get? t=ae o) (hc:o.cls= .ref 162) (hd:o.data= .seq items n) (hQ:∀h',rt s.heap.objs.size s.heap h'->Q items.toList {s with heap:=h'}),aS (aX prog w) A (NM (.ref t) items.size av) Q E s
namespace km
@[irreducible] def e0:=Fi sU E1 Fm zG cM inferInstance S0
def cW:=e0.1
def w_:=e0.2.1
def A_:=e0.2.2.1
def s_:=e0.2.2.2.1
def t_:=e0.2.2.2.2.1
def k5:=e0.2.2.2.2.2
theorem T0:S0 cW w_ A_ s_ t_ k5:=by
 intro E K Q o n hh X QH hI ho hc hd hQ;have hlt:t_≠s_.heap.objs.size:=c9 (bM ho);have ht:yR s_.heap t_ k5:=⟨o,n,ho,hd⟩;have L1:iM (aX cW w_) s_.heap (jT (.ref t_)) (.ref 162):=sG ho hc;have L2:=mS (M:=aX cW w_) X hI;delta NM;refine ag ?_;delta notIterableAtAll mz;refine ag (ag (L1.here (L2.here ?_)));refine ar ?_;simp only [dk,if_false];refine ag (bC (nT X QH hI ho hc ?_));have PR:=ht.at (h':=s_.heap.push {cls:= .type "tuple_iterator",data:= .fields #[.ref t_,.int 0 0]}) λo e=>az _ e;refine ag (bC (Es hlt k5.size 0 _ _ ⟨_,aW _ rfl,rfl,rfl⟩ PR (by lia) λh₁ GD MY=>?_));have zm:List.take k5.size (List.drop 0 k5.toList)=k5.toList:=by refine ai (fx ..) ?_;exact d6 (by exact bp _)
 refine ai (zm ..) ?_;refine ai (if_neg (by simp) ..) ?_;refine ag (bC (gz hh GD (PR.at λo e=>MY.extBut t_ o hlt e) (by simp) λh₂ he₂=>?_));simp only [Ae,dk,if_false];exact ar (hQ h₂ λb o hb e=>he₂ b o hb (MY.extBut b o hb (az _ e)))
end km
theorem km:km.S0 prog w A s t items:=by with_unfolding_all exact uz _ _ _ _ _ _ km.S0 @km.T0 prog w A s t items
end
section
variable {Ψ:Mu->Prop}{m:bP}
theorem Gg(EH:gO G K)(QH:Qr K)(hI:fG K (.ref 162) "__iter__"=ae (ae (.builtin "tuple.__iter__"))){ts:List bP}{kk:Nat}(h:HR k mu env ts xs Ψ):mI k mu env (.Tuple ts kk p) (.ent xs) Ψ:=⟨λ{A E Z s fr v Q} hA r hv q=>by
 refine dM (wd EH r hv) λa o vs n dP h1 h2 h3 h4=>?_;subst dP;have hn:(jB ts env).length=vs.toList.length:=(nz ts).trans (h.len.trans h4.length.symm);refine ai (arm_assign_Tuple ..) ?_;refine ag (iI ?_);delta unpack;refine ai (hn ..) ?_;refine ai (o6 h.plain ..) ?_;refine ag (bC ?_);refine ai (eK ..) ?_;exact km hA.hh (EH.KO.inn _ r.z0in) QH hI h1 h2 h3 λh' hx=>h.c hA (r.keep (tk:=s.toks) λb o e=>hx b o (c9 (bM e)) e) h4 q⟩
end
section
variable {A:ay}{m:bP}
theorem Mm(hl:EV k mu env l P)(hm:EV k mu env m Q)(hr:EV k mu env r S)(h1:s7 k mu o1 P Q b)(h2:s7 k mu o2 Q S c)(hk:lastMarks [o1,o2] [m,r]=aH:=by with_unfolding_all rfl):PT k mu env (.Compare l [o1,o2] [m,r] p) (b && c):=⟨λ{z z z z z z} hA R q=>by
 with_reducible refine isTrue_chain ?_ hk
 refine hl.c hA R λ{v s1 Z1} z1 p1 r1=>test_link (hm.c hA r1 λ{u s2 Z2} z2 p2 r2=>h1.c hA r2 (P.mono _ _ _ z2 p1) p2 λ{w s3 Z3} z3 p3 r3=>?_);refine ai (aZ.boolE p3 ..) ?_;refine eU ?_;cases b with
 |false=>exact q (z1.trans (z2.trans z3)) r3
 |true=>refine ai (if_pos rfl ..) ?_;exact test_last (hr.c hA r3 λ{w s4 Z4} z4 p4 r4=>h2.c hA r4 (Q.mono _ _ _ (z3.trans z4) p2) p4 λ{z z z} z5 p5 r5=>(aZ.boolE p5)▸eU (q (z1.trans (z2.trans (z3.trans (z4.trans z5)))) r5))⟩
structure ItH(K:gn):Prop where
 iter:fG K (.ref 162) "__iter__"=ae (ae (.builtin "tuple.__iter__"))
noncomputable def mV(ds:List Nat)(p j:Nat):List (Nat×Nat):=((aN j).filter λb=>decide (sP ds p<=b) && decide (b < eP ds p)).map λb=>(b,tP ds p)
noncomputable def qN(ds:List Nat)(p:Nat):List (Nat×Nat):=mV ds p 6
noncomputable def gA(ds:List Nat)(i:Nat):List (Nat×Nat):=dn ds++([10,14].take i).flatMap (qN ds)
noncomputable abbrev cX(ds:List Nat):List (Nat×Nat):=gA ds 2
theorem yS{a b:Nat}(h:a < b):cf ds a < cf ds b:=by
 have:=nO (ds:=ds) (show a<=b by exact eB (by assumption));have h2:∀(l:List Nat) (a b:Nat),a<=b->(l.take a).sum<=(l.take b).sum:=by
  intro l;induction l with
  |nil=>intro a b z;simp
  |cons x l ih=>
   intro a b h;cases a with
   |zero=>simp
   |succ a=>
    cases b with
    |zero=>with_reducible exact absurd (by assumption) (TF _)
    |succ b=>simp only [jb,df];have:=ih a b (by exact P0 (by assumption));lia
 unfold cf at*;have:=h2 (ds.drop 18) a b (by exact eB (by assumption));lia
theorem Ci{a b:Nat}:cf ds a<=cf ds b↔a<=b:=by
 constructor
 ·intro h;rcases gX b a with q|q
  ·have:=yS (ds:=ds) q;lia
  ·exact q
 ·exact nO
theorem Cj{a b:Nat}:cf ds a < cf ds b↔a < b:=by
 constructor
 ·intro h;rcases gX a b with q|q
  ·exact q
  ·have:=nO (ds:=ds) q;lia
 ·exact yS
theorem qO(p j:Nat):mV ds p (j+1)=mV ds p j++(if (decide (sP ds p<=j) && decide (j < eP ds p))=aJ then [(j,tP ds p)] else []):=by
 unfold mV;refine ai (qd ..) ?_;refine ai (fX ..) ?_;refine ai (bh ..) ?_;congr 1;refine ai (hZ ..) ?_;refine ai (qc ..) ?_
 split <;> rfl
theorem we(p j:Nat):(mV ds p j).length<=j:=by unfold mV;exact ai (ak ..) (aw (bu _ _) (by simp))
theorem lS(i:Nat):(gA ds i).length<=20:=by
 unfold gA;refine ai (ba ..) ?_;refine ai (LK ..) ?_;have h10:=we (ds:=ds) 10 6;have h14:=we (ds:=ds) 14 6;have:(([10,14].take i).flatMap (qN ds)).length<=12:=by
  rcases i with _|_|i
  ·simp
  ·show (List.flatMap (qN ds) [10]).length<=12;simp only [dH,List.flatMap_nil,cz];unfold qN;exact aw (by assumption) (by decide)
  ·refine ai (show ([10,14]:List Nat).take (i+1+1)=[10,14] by simp) ?_;simp only [dH,List.flatMap_nil,cz,ba];unfold qN;lia
 lia
theorem wR{i p:Nat}(h:[10,14][i]? =ae p):gA ds (i+1)=gA ds i++qN ds p:=by unfold gA;refine ai (dG ..) ?_;refine ai (h ..) ?_;simp
def tY.S0(k:Nat)(mu:Mu)(Θ:AF->Mu->Prop)(L A Bk:ay)(ds:List Nat)(n6:Nat)(pm doc:aj)(P:ib)(N:Int)(cs:List Nat)(_:Nat):Prop:=∀{vs:eL} {ns:List Int} {K:gn} (H:Hy G) (EH:gO G K) (QH:Qr K) (IH:ItH K) (he:dz (bT pm doc L)) (hD:Dr ds ns n6) (hS:Sv vs (R7 ds n6 A P.lx Bk)) (hB:E6 (fF B0 0 (dn ds)) 8) (next:∀vs,Sv vs (R7 ds n6 A P.lx Bk)->E6 (fF B0 0 (cX ds)) 20->yf (k+8) (cy L vs::cE Bk (fT (aF ds) (fF B0 0 (cX ds)))::k9 P N cs A (cX ds) mu) (bT pm doc L) (je 19) Θ),yf (k+8) (cy L vs::cE Bk (fT (aF ds) (fF B0 0 (dn ds)))::k9 P N cs A (dn ds) mu) (bT pm doc L) (je 18) Θ
namespace tY
@[irreducible] def e0:=NP eO gE sZ cM cM cM gE eO gM gM IK QW gE eO S0
def k_:=e0.1
def e9:=e0.2.1
def Θ_:=e0.2.2.1
def L_:=e0.2.2.2.1
def A_:=e0.2.2.2.2.1
def wc:=e0.2.2.2.2.2.1
def aV:=e0.2.2.2.2.2.2.1
def gP:=e0.2.2.2.2.2.2.2.1
def pf:=e0.2.2.2.2.2.2.2.2.1
def g8:=e0.2.2.2.2.2.2.2.2.2.1
def P_:=e0.2.2.2.2.2.2.2.2.2.2.1
def N_:=e0.2.2.2.2.2.2.2.2.2.2.2.1
def qL:=e0.2.2.2.2.2.2.2.2.2.2.2.2.1
theorem T0:S0 k_ e9 Θ_ L_ A_ wc aV gP pf g8 P_ N_ qL e0.2.2.2.2.2.2.2.2.2.2.2.2.2:=by
 intro vs ns K H EH QH IH he hD hS hB next
 have d8:=eI aV;refine nH (WF.f (jN (ctx:=[]) (xs:=[10,14].map λp=>V.ent (rT aV p)) (λi nu=>∃vs n,nu=cy L_ vs::cE wc (fT (aF aV) (fF B0 0 (gA aV i)))::k9 P_ N_ qL A_ (gA aV i) e9/\Sv vs (R7 aV gP A_ P_.lx wc)/\E6 (fF B0 0 (gA aV i)) n/\n<=8+6*i)
  (dB (ah (j:=26) he .loc aa (hS.get rfl))) (by lia) ⟨vs,8,by rfl,hS,by exact hB,by exact bp _⟩ (λi nu h o ho=>(el ho)) ?_ ?_))
 ·intro i x nu hx dP;refine ir dP λvs n eT hS hB hn=>?_;clear dP;subst eT;rw [aI] at hx;refine aK (aL.mp hx) λp hp gi=>?_;subst gi;have TZ:i < 2:=by have:=(aB.mp hp).1;exact this
  refine Gg EH QH IH.iter (cw rfl rfl ?_);refine aQ (i:=0) (j:=14) he .loc rfl (cw rfl rfl ?_);refine aQ (i:=0) (j:=17) he .loc rfl (cw rfl rfl ?_);refine aQ (i:=0) (j:=29) he .loc rfl (cw rfl rfl ?_);refine aQ (i:=0) (j:=30) he .loc rfl (cw rfl rfl ?_);refine aQ (i:=0) (j:=31) he .loc rfl (iX ?_);have hS1:=((((hS.set (j:=14) (y:=nV (2*cf aV (sP aV p)))).set (j:=17) (y:=nV (2*cf aV (eP aV p)))).set (j:=29) (y:=nV (2*cf aV (tP aV p)))).set (j:=30) (y:=nV (lP aV p / 2))).set (j:=31) (y:= .bool (decide (lP aV p % 2=1)));have hf:∀{vs} {l:Mu},bq L_ (aM (L_+1) (bj (cO 23)).names) vs∈cy L_ vs::l:=aa;have PR:=Hr (ds:=aV) p;have hsp:=Hq (ds:=aV) p;have hep:=LI (ds:=aV) p;have b6:∀b,b<=6->cf aV b<=366:=λb hb=>D6 hD b hb;generalize ((((vs.set 14 (ae (nV (2*cf aV (sP aV p))))).set 17 (ae (nV (2*cf aV (eP aV p))))).set 29 (ae (nV (2*cf aV (tP aV p))))).set 30 (ae (nV (lP aV p / 2)))).set 31 (ae (.bool (decide (lP aV p % 2=1))))=Nx at hS1 ⊢;show WS (k_+8) (cy L_ Nx::cE wc (fT (aF aV) (fF B0 0 (gA aV i)))::k9 P_ N_ qL A_ (gA aV i) e9) _ _ _;refine aC (bX (y:=nV (tP aV p)) (f7 (dF (ah (j:=11) he .loc hf (hS1.get rfl))) GY (au (bL (y:=nV (cf aV (tP aV p))) (br (ah (j:=29) he .loc hf (hS1.get rfl)) aU (l8 (by decide))) (congrArg V.int (by lia))) aT) ?idx ux PySem.F.slot_list_index PySem.F.type_list_index rfl) (aQ (i:=0) (j:=15) he .loc rfl ?_) rfl rfl)
  case idx=>
   have:=Dl (k:=k_+8) (mu:=cy L_ Nx::cE wc (fT (aF aV) (fF B0 0 (gA aV i)))::k9 P_ N_ qL A_ (gA aV i) e9) (x:=(cf aV (tP aV p):Nat)) (ns:=(aN 7).map λb=>((cf aV b:Nat):Int)) (j:=tP aV p) (by (refine ai (aI ..) ?_;refine ai (bz (by lia) ..) ?_);rfl) (λm hm h=>by
    rw [aI,bz (by lia)] at h;have h1:=Na (aO h);have:=yS (ds:=aV) hm;lia) (by decide)
   rw [a0] at this;exact this
  have hS2:=hS1.set (j:=15) (y:=nV (tP aV p));generalize Nx.set 15 (ae (nV (tP aV p)))=vs2 at hS2;have hns2:=hS2.sub (S':=(15,nV (tP aV p))::(17,nV (2*cf aV (eP aV p)))::(14,nV (2*cf aV (sP aV p)))::R7 aV gP A_ P_.lx wc) ⟨rfl,rfl,rfl,rfl,rfl,rfl,rfl,rfl,rfl,rfl,rfl,rfl,rfl,trivial⟩;show WS (k_+8) (cy L_ vs2::cE wc (fT (aF aV) (fF B0 0 (gA aV i)))::k9 P_ N_ qL A_ (gA aV i) e9) _ _ _;refine cu (H.f256.go) λob2 z z z Ud GE z=>?_;have M1:=lS (ds:=aV) i;refine aC (jN (ctx:=[]) (xs:=(aN 6).map nV) (λj nu=>∃vs n,nu=cy L_ vs::cE wc (fT (aF aV) (fF B0 0 (gA aV i++mV aV p j)))::k9 P_ N_ qL A_ (gA aV i++mV aV p j) e9/\Sv vs ((15,nV (tP aV p))::(17,nV (2*cf aV (eP aV p)))::(14,nV (2*cf aV (sP aV p)))::R7 aV gP A_ P_.lx wc)/\E6 (fF B0 0 (gA aV i++mV aV p j)) n/\n<=8+6*i+j)
   (fJ (n:=6) (iO H he H.b_range rfl) aU rfl (by decide)) (by lia) ⟨vs2,n,by simp [mV],hns2,by simpa [mV] using hB,by lia⟩ (λi nu h o ho=>(el ho)) ?_ ?_)
  ·intro j x nu hx iC;refine ir iC λvs n kF hS hB hn=>?_;clear iC;subst kF;rw [aI] at hx;refine aK (aL.mp hx) λj' hj' l9=>?_;subst l9;have HK:j < 6:=by have:=(aB.mp hj').1;exact this
   have:j'=j:=by rw [bz HK] at hj';exact (aO hj').symm
   subst this;refine aQ (i:=0) (j:=9) he (.cell (L_+8) "block") rfl ?_;have hS3:=hS.set (j:=9) (y:=nV j');generalize vs.set 9 (ae (nV j'))=Ue at hS3 ⊢;show WS (k_+8) (cy L_ Ue::cE wc (fT (aF aV) (fF B0 0 (gA aV i++mV aV p j')))::k9 P_ N_ qL A_ (gA aV i++mV aV p j') e9) _ _ _;have hlen:(gA aV i++mV aV p j').length<=100:=by refine ai (ba ..) ?_;have:=we (ds:=aV) p j';lia
   have hT:(decide ((2*cf aV (sP aV p):Nat)<=(2*(cf aV j':Int))) && decide (2*(cf aV j':Int) < (2*cf aV (eP aV p):Nat)))=(decide (sP aV p<=j') && decide (j' < eP aV p)):=by have h1:=Ci (ds:=aV) (a:=sP aV p) (b:=j');have h2:=Cj (ds:=aV) (a:=j') (b:=eP aV p);refine gj (cm ..) ?_;simp only [dR,decide_eq_true_eq];lia
   have hb7:((aN 7).map λb=>nV (cf aV b))[j']? =ae (nV (cf aV j')):=by (refine ai (aI ..) ?_;refine ai (bz (by exact cJ (by assumption)) ..) ?_);rfl
   refine aC (iY (oR (Mm (ah (j:=14) he .loc hf (hS3.get rfl)) (br aU (bE (dF (ah (j:=11) he .loc hf (hS3.get rfl))) (ah (j:=9) he (.cell (L_+8) "block") hf (hS3.get rfl)) (ew (inj:=λb=>nV (cf aV b)) (bz (show j' < 7 by exact cJ (by assumption))) (by decide))) (mX (by decide))) (ah (j:=17) he .loc hf (hS3.get rfl)) cm_le CZ) hT) (λh=>?_) λh=>?_)
   ·have hq:∀b:Nat,b < 6->(aN 6)[b]? =ae b:=λb hb=>bz hb;have hq5:tP aV p∈[1,2,3,4,5]:=by
     rcases (by lia:tP aV p=1\/tP aV p=2\/tP aV p=3\/tP aV p=4\/tP aV p=5) with h|h|h|h|h <;> refine ai (h ..) ?_ <;> decide
    generalize hLa:gA aV i++mV aV p j'=La at hlen hB ⊢;have hA:bk A_ (La.map kG)∈cy L_ Ue::cE wc (fT (aF aV) (fF B0 0 La))::k9 P_ N_ qL A_ La e9:=ao (i:=9) rfl;have Gx:=AY (k:=k_+5) (mu:=cy L_ Ue::cE wc (fT (aF aV) (fF B0 0 La))::k9 P_ N_ qL A_ La e9) (pl:=La.length) (q:=(j',tP aV p)) H d8 hB (by lia) HK;refine aC (qx (i:=1) (D:=wc) (x:=cC (aF aV+tP aV p)) (y:=rn (aF aV) (kj (fF B0 0 La) La.length (j',tP aV p)) (tP aV p)) (ju (ys:=[rn (aF aV) (fF B0 0 La) (tP aV p),.tup [.int (if j'=tP aV p then 0 else 1),.int 1,.int La.length,.int ((La.length:Int)*La.length),cV [(cC (aF aV+j'),1)]]]) (ml H he H.m_stats rfl) Ud GE (au (bE (wC (ah (j:=41) he (.cell (L_+15) "book") hf (hS3.get rfl)) (ab _ aa)) (bE (dF (ah (j:=7) he (.cell (L_+6) "names") hf (hS3.get rfl))) (ah (j:=15) he .loc hf (hS3.get rfl)) (ew (inj:=λb=>V.str (cC (aF aV+b))) (hq (tP aV p) PR.2) (by decide))) (mf (gb d8 (by decide) hq5))) (au (f9 (xs:=[.int (if j'=tP aV p then 0 else 1),.int 1,.int La.length,.int ((La.length:Int)*La.length),cV [(cC (aF aV+j'),1)]]) (au (bL (iZ (iO H he H.b_int rfl) (au (mH (ah (j:=9) he (.cell (L_+8) "block") hf (hS3.get rfl)) (ah (j:=15) he .loc hf (hS3.get rfl)) Fq) aT) rE) ?c1) (au aU (au (bL (ej (j3 H he H.b_len rfl) (au (uB (ah (j:=10) he (.cell (L_+9) "arms") hf (hS3.get rfl)) hA) aT) (mh (by refine ai (ak ..) ?_;exact aw (by assumption) (by decide)))) ?c2) (au (bL (br (ej (j3 H he H.b_len rfl) (au (uB (ah (j:=10) he (.cell (L_+9) "arms") hf (hS3.get rfl)) hA) aT) (mh (by refine ai (ak ..) ?_;exact aw (by assumption) (by decide)))) aU (BM ?c3 (by decide))) ?c4) (au (bE (pJ (ah (j:=23) he .loc hf (hS3.get rfl))) (bE (dF (ah (j:=7) he (.cell (L_+6) "names") hf (hS3.get rfl))) (ah (j:=9) he (.cell (L_+8) "block") hf (hS3.get rfl)) (ew (inj:=λb=>V.str (cC (aF aV+b))) (hq j' HK) (by decide))) (mf (gb d8 (by decide) (aY.mpr HK)))) aT))))) (by show 5<=2 ^ 20;decide)) aT)) (FW.mono Gx λy nu h=>h)) (ah (j:=41) he (.cell (L_+15) "book") hf (hS3.get rfl)) (bE (dF (ah (j:=7) he (.cell (L_+6) "names") hf (hS3.get rfl))) (ah (j:=15) he .loc hf (hS3.get rfl)) (ew (inj:=λb=>V.str (cC (aF aV+b))) (hq (tP aV p) PR.2) (by decide))) rfl (by show 5<=2 ^ 24;decide) ?_)
    case c1=>
     refine congrArg V.int ?_;by_cases e:j'=tP aV p
     ·refine ai (e ..) ?_;simp
     ·(refine ai (if_neg e ..) ?_;refine ai (if_pos (by simp;lia) ..) ?_;rfl)
    case c2=>(refine ai (ak ..) ?_;rfl)
    case c3=>refine ai (ak ..) ?_;lia
    case c4=>refine ai (ak ..) ?_;show V.int ((La.length:Int) ^ 2)=_;refine ai (Int.pow_succ ..) ?_;refine ai (Int.pow_succ ..) ?_;refine ai (Int.pow_zero ..) ?_;refine ai (sN ..) ?_;rfl
    rw [show (j',tP aV p).2=tP aV p from rfl] at*;have SO:=Ej (low:=aF aV) (B:=fF B0 0 La) (pl:=La.length) (q:=(j',tP aV p)) d8 hq5;show WS (k_+8) (cy L_ Ue::cE wc (jE (fT (aF aV) (fF B0 0 La)) (cC (aF aV+tP aV p)) (rn (aF aV) (kj (fF B0 0 La) La.length (j',tP aV p)) (tP aV p)))::k9 P_ N_ qL A_ La e9) _ _ _;refine ai (SO ..) (aC (ig (mY (ah (j:=10) he (.cell (L_+9) "arms") hf (hS3.get rfl)) (j4 (xs:=La.map kG) (ao (i:=9) rfl)) (au (f9 (xs:=[nV j',nV (tP aV p)]) (au (ah (j:=9) he (.cell (L_+8) "block") hf (hS3.get rfl)) (au (ah (j:=15) he .loc hf (hS3.get rfl)) aT)) (by show 2<=2 ^ 20;decide)) aT) (kz (i:=9) rfl (by refine ai (ak ..) ?_;exact b7 (by assumption) (by decide)) ?_) ux PySem.F.slot_list_append PySem.F.type_list_append rfl)));have hgo:fF B0 0 (La++[(j',tP aV p)])=kj (fF B0 0 La) La.length (j',tP aV p):=by (refine ai (kE ..) ?_;refine ai (eC ..) ?_;rfl)
    refine bB (bB ⟨Ue,n+1,?_,hS3.sub ⟨rfl,rfl,rfl,rfl,rfl,rfl,rfl,rfl,rfl,rfl,rfl,rfl,rfl,trivial⟩,?_,by lia⟩)
    ·(refine ai (qO ..) ?_;refine ai (h ..) ?_;refine ai (if_pos rfl ..) ?_;refine fZ (bU ..) ?_;refine ai (hLa ..) ?_;refine ai (hgo ..) ?_)
     show _::_::(j5 P_ [] N_ qL++(bk A_ (La.map kG++[kG (j',tP aV p)])::gH 304 []::e9))=_;refine ai (show La.map kG++[kG (j',tP aV p)]=(La++[(j',tP aV p)]).map kG by simp) ?_;rfl
    ·(refine ai (qO ..) ?_;refine ai (h ..) ?_;refine ai (if_pos rfl ..) ?_;refine fZ (bU ..) ?_;refine ai (hLa ..) ?_;refine ai (hgo ..) ?_)
     exact hB.step HK
   ·refine bB (bB ⟨Ue,n,?_,hS3.sub ⟨rfl,rfl,rfl,rfl,rfl,rfl,rfl,rfl,rfl,rfl,rfl,rfl,rfl,trivial⟩,?_,by lia⟩)
    ·(refine ai (qO ..) ?_;refine ai (h ..) ?_);simp
    ·(refine ai (qO ..) ?_;refine ai (h ..) ?_);simpa using hB
  ·intro nu mD;refine ir mD λvs n qX hS hB hn=>?_;clear mD;subst qX;refine bB (bB ⟨vs,n,?_,hS.sub ⟨rfl,rfl,rfl,rfl,rfl,rfl,rfl,rfl,rfl,rfl,trivial⟩,?_,?_⟩)
   ·(refine ai (wR hp ..) ?_;refine ai (ak ..) ?_;refine ai (fo ..) ?_);rfl
   ·refine ai (wR hp ..) ?_;rw [ak,fo] at hB;exact hB
   ·rw [ak,fo] at hn;lia
 ·intro nu ub;refine ir ub λvs n mO hS hB hn=>?_;clear ub;subst mO;exact bB (next vs hS ⟨hB.lt,hB.nd,λb=>aw (hB.len b) hn⟩)
end tY
theorem tY{pm doc:aj}{P:ib}{N:Int}{cs:List Nat}:tY.S0 k mu Θ L A Bk ds n6 pm doc P N cs 0:=by with_unfolding_all exact JT _ _ _ _ _ _ _ _ _ _ _ _ _ _ tY.S0 @tY.T0 k mu Θ L A Bk ds n6 pm doc P N cs 0
end
section
variable {A:ay}{es:List (bc×V)}
theorem Mn{is:List Int}(he:es.map (·.2)=is.map .int):Fn k mu (.builtin "sum") [Ic "dict_values" es] (bZ (.int is.sum)):=⟨λ{A E Z s fr vs Q} hA r hq q=>by
 obtain ⟨v,rfl,a,d,o,rfl,hz,hc,hd,p⟩:=hq.one;refine jY (mZ r p) λd' kvs ep e1 hs hD hO hk hr hzd PD=>?_;cases e1;have KS:=kdl_values (prog:=G.prog) (w:=G.w) (knd:=strKind G.prog G.w) (r:=a) (d:=d) (kvs:=kvs) (ep:=ep);have hok:s.heap.IsValuesView a d/\s.heap.DictAt (strKind G.prog G.w) d kvs ep:=⟨⟨o,r.zin _ _ hz,hc,hd⟩,hD⟩;have SA:kvs.length=is.length:=by (refine fZ (ak (f:=(·.1)) ..) ?_;refine ai (hk ..) ?_;refine ai (ak ..) ?_;refine fZ (ak (f:=(·.2)) ..) ?_;refine ai (he ..) ?_;refine ai (ak ..) ?_;rfl)
 refine PySem.call_sum_walkAnyS (cD (KS.iter A.in1 s hA.hh hok) λoI St hit W st=>?_);refine hit _ _ ⟨s.heap.objs.size,_,_,_,kvs.length,_,_,(λi=>is.getD i 0),rfl,W.toS,st,λb hb=>?_,λi u hu=>?_,λs' t' hm=>?_⟩
 ·show b < (s.heap.push oI).objs.size;refine ai (fN ..) ?_;rcases aP.mp hb with e|hb
  ·refine ai (e ..) ?_;exact jf _
  ·refine ai (aA.mp hb ..) ?_;exact cJ (KS.there _ hok).2
 ·refine cK hu λkey hx=>?_;clear hu;have h2:(kvs.map (·.2))[i]? =ae u:=by (refine ai (aI ..) ?_;refine ai (hx ..) ?_);rfl
  refine aK (hr.get' h2) λx' h3 h4=>?_;rw [he,aI] at h3;refine aK (aL.mp h3) λn hn gi=>?_;subst gi;refine cK (gG h4) λt iC=>?_;subst iC;exact ⟨t,by show jS n t=jS (is.getD i 0) t;(refine ai (bR ..) ?_;refine ai (hn ..) ?_);rfl⟩
 ·have hk2:∀b o,s.heap.get? b=ae o->s'.heap.get? b=ae o:=λb o e=>
   hm.heap b o (λhI=>absurd (bM e) (by refine ai (aA.mp hI ..) ?_;exact zD _)) (az _ e)
  refine ai (Moved.eq_with hm ..) ?_;refine ai (SA ..) ?_;refine ai (AA is is.length (bp _) ..) ?_;refine ai (cL ..) ?_;exact q .rfl (aZ.int _ _) (r.keep (tk:=s'.toks) hk2)⟩
noncomputable def gT(arms:List (Nat×Nat))(b:Nat):List Nat:=(arms.filter λq=>q.2 == b).map (·.1)
noncomputable def sH(arms:List (Nat×Nat))(b:Nat):List Nat:=eY (nR (gT arms b))
noncomputable abbrev di(ds:List Nat):List (List Nat):=(aN 6).map (sH (cX ds))
noncomputable abbrev lT(ds:List Nat):Rw:=fF B0 0 (cX ds)
theorem qP:∀q∈cX ds,q.1 < 6/\1<=q.2/\q.2 < 6:=λq hq=>by
 unfold cX gA at hq;rcases bb.mp hq with h|h
 ·exact kc ds q h
 ·refine aK (bG.mp h) λp z hp=>?_;unfold qN mV at hp;refine aK (aG.mp hp) λb hb kF=>?_;subst kF;have h1:=Hr (ds:=ds) p;exact ⟨aY.mp (bl.mp hb).1,h1.1,h1.2⟩
noncomputable abbrev Gh(P:ib)(N:Int)(cs:List Nat)(mu:Mu):Mu:=j5 P [] N cs++(gH 304 []::mu)
noncomputable abbrev S19(ds:List Nat)(n6:Nat)(lx:ay):List (Nat×V):=[(32,.list ((di ds).map wV)),(41,.dict (fT (aF ds) (lT ds))),(10,.list ((cX ds).map kG)),(21,.ref lx),(20,.str (g9 ds n6)),(42,.dict (qA (aF ds))),(7,rW (aF ds)),(4,.list (ds.map nV))]
theorem R8(H:Hy G){pm doc:aj}(he:dz (bT pm doc L)){P:ib}{N:Int}{cs:List Nat}(hS:Sv vs (R7 ds n6 A P.lx Bk))
 (next:∀vs,Sv vs (S19 ds n6 P.lx)->WS (k+8) (cy L vs::Gh P N cs mu) (bT pm doc L) (je 20) Θ):
 WS (k+8) (cy L vs::cE Bk (fT (aF ds) (lT ds))::k9 P N cs A (cX ds) mu) (bT pm doc L) (je 19) Θ:=by
 refine WF.frzD (j:=41) (hS.get rfl) (WF.to [0,7] (WF.frzL (j:=10) ((hS.set (j:=41) (y:= .dict (fT (aF ds) (lT ds)))).get rfl) ?_));have hS1:=(hS.set (j:=41) (y:= .dict (fT (aF ds) (lT ds)))).set (j:=10) (y:= .list ((cX ds).map kG));generalize (vs.set 41 (ae (.dict (fT (aF ds) (lT ds))))).set 10 (ae (.list ((cX ds).map kG)))=Nx at hS1 ⊢;show WS (k+8) (cy L Nx::Gh P N cs mu) (bT pm doc L) (je 19) Θ;have hf:∀{vs} {l:Mu},bq L (aM (L+1) (bj (cO 23)).names) vs∈cy L vs::l:=aa;have M1:=lS (ds:=ds) 2;refine aC (FD (aN 6) nV (λb=>wV (sH (cX ds) b)) ⟨rfl,rfl,by decide+kernel,by decide+kernel⟩ (fJ (n:=6) (iO H he H.b_range rfl) aU rfl (by decide)) (by lia) (by decide) (λC3 b hb=>iu 1 he.comp (.cell (C3+1) "block") dm (λz=>(ej (j3 H he.comp H.b_sorted rfl) (au (iZ (iO H he.comp H.b_set rfl) (au (dF (bL (nD (cX ds) kG (λq=>((q.2:Int) == (b:Int))) (λq=>nV q.1) ⟨rfl,rfl,by decide+kernel,by decide+kernel⟩ (dB (ah (j:=10) he.comp (.cell (L+9) "arms") (ab _ hf) (hS1.get rfl))) (by lia) (aw M1 (by decide)) (λC4 q hq=>tF 1 2 he.comp.comp .loc .loc (fS (da (ah (j:=2) he.comp.comp .loc aa rfl) (ah (j:=1) he.comp.comp (.cell (C3+1) "block") (ab _ aa) rfl) qq)) (λhb=>(ah (j:=1) he.comp.comp .loc aa rfl)))) ?c1)) aT) (OZ (ns:=gT (cX ds) b) ?c2)) aT) Ge))) rfl (λD=>fK.list (aQ (i:=0) (j:=32) he .loc rfl ?_)))
 case c1=>
  delta gT;refine ai (a0 ..) (congrArg V.list ?_);have:(cX ds).filter (λq=>((q.2:Int) == (b:Int)))=(cX ds).filter λq=>q.2 == b:=fy λq z=>by
   refine gj (cm ..) ?_;simp only [beq_iff_eq];lia
  refine ai (this ..) ?_;rfl
 case c2=>intro n hn;refine aK (aG.mp hn) λq hq l9=>?_;subst l9;exact (qP q (bl.mp hq).1).1
 have e:V.list ((aN 6).map λb=>wV (sH (cX ds) b))= .list ((di ds).map wV):=by refine ai (a0 ..) ?_;rfl
 exact next _ ((hS1.set (j:=32)).sub ⟨congrArg ae e,rfl,rfl,rfl,rfl,rfl,rfl,rfl,trivial⟩)
noncomputable def T0(b:Nat):Nat:=if b=0 then 1 else 63
noncomputable abbrev S20(ds:List Nat)(n6:Nat)(lx T:ay):List (Nat×V):=(46,.ref T)::S19 ds n6 lx
theorem R9(H:Hy G){pm doc:aj}(he:dz (bT pm doc L))(hS:Sv vs (S19 ds n6 A))
 (next:∀vs T,Sv vs (S20 ds n6 A T)->WS (k+8) (cE T (oo (aF ds) T0)::cy L vs::mu) (bT pm doc L) (je 21) Θ):
 WS (k+8) (cy L vs::mu) (bT pm doc L) (je 20) Θ:=by
 have d8:=eI ds;have hf:∀{vs} {l:Mu},bq L (aM (L+1) (bj (cO 23)).names) vs∈cy L vs::l:=aa;refine cu (H.f72.go) λob TU cd' Jh h0 hd z=>aC (b4 (yw H.B (aN 6) (λb=>V.str (cC (aF ds+b))) (λb=>(cC (aF ds+b),V.str (iy (aF ds) (T0 b)))) ⟨rfl,rfl,by decide+kernel,by decide+kernel⟩ (dB (ah (j:=7) he (.cell (L+6) "names") hf (hS.get rfl))) (by lia) (by decide) (λC5 b hb=>BL 1 he.comp .loc dm (λz=>(ah (j:=1) he.comp .loc aa rfl)) (λz=>(ju (ys:=[nV (T0 b*2 ^ aF ds)]) (ml H he.comp H.m_flags rfl) h0 hd (au (uC (b:=decide (b=0)) (oR (da (ah (j:=1) he.comp .loc aa rfl) (bE (dF (ah (j:=7) he.comp (.cell (L+6) "names") (ab _ hf) (hS.get rfl))) aU (ew (j:=0) (a:=0) (inj:=λb=>V.str (cC (aF ds+b))) rfl (by decide))) rz) ?c1) (λh=>bL (bE (pJ (ah (j:=42) he.comp (.cell (L+16) "flags") (ab _ hf) (hS.get rfl))) (ah (j:=1) he.comp .loc aa rfl) (mf (gb d8 (λc hc=>aY.mp hc) hb))) ?c2) (λh=>bL (ej (j3 H he.comp H.b_sum rfl) (au (f7 (ah (j:=42) he.comp (.cell (L+16) "flags") (ab _ hf) (hS.get rfl)) rL aT AC NN PySem.F.slot_dict_values PySem.F.type_dict_values rfl) aT) (Mn (is:=(aN 6).map λb=>((2 ^ (aF ds+b):Nat):Int)) ?c3)) ?c4)) aT) ?c5))) ?c6 (λT=>fK.ref (aQ (i:=1) (j:=46) he (.cell (L+20) "table") rfl ?_))) rfl rfl)
 case c1=>exact (rQ d8 (aY.mp hb) (show 0 < 6 by decide)).trans (by cases b <;> rfl)
 case c2=>have:=of_decide_eq_true h;subst this;show nV (2 ^ (aF ds+0))=_;simp [T0]
 case c3=>delta qA bD;rw [a0,a0];rfl
 case c4=>
  have zj:=of_decide_eq_false h;have e:((aN 6).map λb=>((2 ^ (aF ds+b):Nat):Int)).sum=((63*2 ^ aF ds:Nat):Int):=by simp only [Nat.pow_add];show ((2 ^ aF ds*2 ^ 0:Nat):Int)+(((2 ^ aF ds*2 ^ 1:Nat):Int)+(((2 ^ aF ds*2 ^ 2:Nat):Int)+(((2 ^ aF ds*2 ^ 3:Nat):Int)+(((2 ^ aF ds*2 ^ 4:Nat):Int)+(((2 ^ aF ds*2 ^ 5:Nat):Int)+0)))))=_;generalize 2 ^ aF ds=X;lia
  refine ai (e ..) ?_;delta T0;refine ai (if_neg zj ..) ?_;rfl
 case c5=>
  have hT:T0 b < 64/\T0 b≠0:=by delta T0;split <;> decide
  have MR:=qe (aF ds);have h33:T0 b*2 ^ aF ds < 2 ^ 33:=by
   have h1:2 ^ aF ds<=2 ^ 27:=e7 (by decide) (by exact CE (by assumption));have h2:T0 b*2 ^ aF ds<=63*2 ^ 27:=JC (by lia) h1
   with_reducible exact b7 (by assumption) (by decide)
  have MS:∀nu:Mu,FW (k+8) nu (.ref 72) [nV (T0 b*2 ^ aF ds)] λy nu'=>y= .str (iy (aF ds) (T0 b))/\nu'=nu:=λnu=>by
   have:=oN (k:=k+6) (mu:=nu) H (Nat.mul_ne_zero hT.2 (by exact jI (by assumption))) h33
   rwa [rP hT.1 d8] at this
  exact MS _
 case c6=>exact jx d8 (aN 6) (λb hb=>aY.mp hb) ll
 exact next _ T (hS.set (j:=46))
end
section
variable {i:bP}{Θ:Bool->Mu->Prop}
structure GiE(k:Nat)(mu:Mu)(P Q:Vw)(Φ:V->Mu->Prop):Prop where
 c:∀{A:bo} {E:aj->aq->Prop} {Z:bI} {s:aq} {fr:Mu} {v u:aj} {T:aj->aq->Prop},Rm k A->R Z (mu++fr) s->P.p Z v->Q.p Z u->(∀{w s' Z' y nu},Z.le Z'->aZ G Z' w y->R Z' (nu++fr) s'->Φ y nu->T w s')->
  (∃U id,iR (.type U) "__getitem__"=dh (ae (.builtin id))/\s.TypeIs v U)/\aS (aX G.prog G.w) A (Jt v u) T E s
theorem O2(ho:EV k mu env o P)(hi:EV k mu env i Q)(g:GiE k mu P Q Φ)(hs:∀a b,∃ops,NB i aH a b=operate ops (Jt a b):=by intro a b;exact ⟨_,rfl⟩):
 WE k mu env (.Subscript o i p) Φ:=⟨λ{z z z z z z} hA r q=>Kh hs (ho.c hA r λ{z z z} z1 q1 r1=>hi.c hA r1 λ{z z z} z2 q2 r2 T' t=>g.c hA r2 (P.mono _ _ _ z2 q1) q2 λ{z z z z z} z3 q3 r3 w=>t (q (z1.trans (z2.trans z3)) q3 r3 w))⟩
theorem O3{lo hi st:Option Int}(h0:st≠ae 0)(hn:xs.length<=2 ^ 23)(hΦ:∀D,fK D (bk D (jq xs lo hi st)::mu) Φ):GiE k mu (md mu xs) (Rb lo hi st) Φ:=⟨λ{A E Z s fr v u T} hA r hp hq q=>by
 refine cF (md.at hp r) λa vs n dP h1 h2=>?_;subst dP;obtain ⟨b,vl,vu,vst,o,rfl,hz,hc,hd,p1,p2,p3⟩:=hq;have hL:s.heap.IsList a vs:=⟨_,h1,rfl,n,rfl⟩;refine ⟨⟨"list",_,ET,hL.typeIs⟩,?_⟩;refine wpAny_getItem_list_slice hL ⟨o,r.zin _ _ hz,hc,hd⟩ p1 p2 p3 h0 ?_ (cb h2▸aw hn (show 2 ^ 23<=2 ^ 24 by decide));exact (hΦ s.heap.objs.size).c (fr:=fr) (r.addNew (tk:=s.toks) (h':=s.heap.push {cls:= .type "list",data:= .seq (xl vs lo hi st)}) (bk s.heap.objs.size (jq xs lo hi st)) (λb o e=>az _ e) ⟨xl vs lo hi st,0,aW _ rfl,Az h2⟩ eg λz h=>kW h) q⟩
theorem Mo{ps:lF}(h:WT k mu env e λb nu=>Θ (!b) nu):WT k mu env (.UnaryOp .Not e ps) Θ:=⟨λ{z z z z z z} hA R q=>wpAny_isTrue_Not (h.c hA R q)⟩
theorem Hw(h:WE k mu env e λy nu=>∃b,y= .bool b/\Θ b nu)(he:autoParam (isTrue e env (dW e env)=(do let v <- dW e env;iF e.pos;eV [v] (truthy v))) aR):WT k mu env e Θ:=⟨λ{z z z z z z} hA R q=>by
 with_reducible refine wpAny_isTrue_value ?_ he
 exact h.c hA R λz1 q1 r1 ⟨b,e1,w⟩=>(aZ.boolE (e1▸q1))▸eU (q z1 r1 w)⟩
theorem I3:jq (aN 6) av (ae 0) (ae (-1))=[5,4,3,2,1]:=by decide
end
theorem Et{a a':Nat}:∀{w:List Nat},a∈w->∃p x q,w=p++x::q/\(x=a\/x=a')/\a∉p/\a'∉p
 |c::w,h=>by
  by_cases hc:c=a\/c=a'
  ·exact ⟨[],c,w,rfl,hc,by simp,by simp⟩
  ·have hca:c≠a:=λe=>hc (.inl e);have hca':c≠a':=λe=>hc (.inr e);refine lG (Et (a':=a') (w:=w) (by rcases aP.mp h with e|e;exact absurd e.symm hca;exact e)) λp x q e hx h1 h2=>?_;exact ⟨c::p,x,q,by rw [e];rfl,hx,by simp [h1,gf hca],by simp [h2,gf hca']⟩
theorem ei.join{hs:List (List Nat)}{b x:Nat}{p q u:List Nat}(h:ei hs b (p++x::q))(hu:ei hs x u):ei hs b (p++x::u):=by
 have h1:ei hs b ((p++[x])++q):=by simpa using h
 rw [ei.append] at h1;have e:(b::(p++[x])).getLast (by simp)=x:=by rw [kf (by simp)];simp
 have h2:ei hs b ((p++[x])++u):=by rw [ei.append,e];exact ⟨h1.1,hu⟩
 simpa using h2
theorem gJ.through{hs:List (List Nat)}{b a x:Nat}{p q:List Nat}(hw:ei hs b (p++x::q))(hp:a∉p)(wW:a≠b)(hd:gJ hs b a):gJ hs x a:=by
 by_cases hax:a=x
 ·exact .inl hax
 ·have hd':∀v,vV hs b [0] v->a∈v:=by
   rcases hd with e|⟨_,e⟩
   ·exact absurd e wW
   ·exact e
  refine .inr ⟨λe0=>?_,λu hu=>?_⟩
  ·subst e0;have hb:=hw.join (u:=[]) trivial;obtain ⟨v,hv,MX,qY⟩:=kZ hb ⟨0,by rw [dp _ (List.cons_ne_nil 0 [])];rfl,aA.mpr rfl⟩;rcases bb.mp (qY a (hd' v ⟨hv,MX⟩)) with h|h
   ·exact hp h
   ·exact hax (by simpa using h)
  refine aK (hu.2) λc hc hm=>?_;have iQ:u≠[]:=by rintro rfl;simp at hc
  have hb:=hw.join hu.1.back;have hl:∃d,(p++x::u).getLast? =ae d/\d∈[0]:=⟨c,by rw [dp _ (by simp),show x::u=[x]++u from rfl,dp _ iQ];exact hc,hm⟩;refine ef (kZ hb hl) λv hv MX qY=>?_;rcases bb.mp (qY a (hd' v ⟨hv,MX⟩)) with h|h
  ·exact absurd h hp
  ·rcases aP.mp h with h|h
   ·exact absurd h hax
   ·exact h
theorem I4{hs:List (List Nat)}{b a a':Nat}(hr:∃w,vV hs b [0] w)(h:gJ hs b a)(h':gJ hs b a')(hn:a≠b)(Sz:a'≠b):gJ hs a a'\/gJ hs a' a:=by
 refine cK hr λw hw=>?_;clear hr;have ha:a∈w:=by
  rcases h with e|⟨_,e⟩
  ·exact absurd e hn
  ·exact e w hw
 refine lG (Et (a':=a') ha) λp x q e hx h1 h2=>?_;have hb:=hw.1.back;rw [e] at hb;rcases hx with rfl|rfl
 ·exact .inl (gJ.through hb h2 Sz h')
 ·exact .inr (gJ.through hb h1 hn h)
theorem gJ.trans{hs:List (List Nat)}{a b c:Nat}(h:gJ hs b a)(h':gJ hs c b):gJ hs c a:=by
 by_cases QD:b=c
 ·subst QD;exact h
 by_cases wW:a=b
 ·subst wW;exact h'
 rcases h' with e|⟨zy,e⟩
 ·exact absurd e QD
 rcases h with e1|⟨zj,e1⟩
 ·exact absurd e1 wW
 refine .inr ⟨zy,λw hw=>?_⟩;have MW:=e w hw;refine ox (eX MW) λp q PQ=>?_;have hb:=hw.1.back;rw [PQ] at hb;refine aK (hw.2) λd hd hm=>?_;by_cases hq:q=[]
 ·subst hq;have:d=b:=by rw [PQ,dp _ (by simp)] at hd;simpa using hd.symm
  have Jl:d=0:=by simpa using hm
  exact absurd (this.symm.trans Jl) zj
 ·have EJ:ei hs b q:=by
   have h1:ei hs c ((p++[b])++q):=by simpa using hb
   rw [ei.append] at h1;have e:(c::(p++[b])).getLast (by simp)=b:=by rw [kf (by simp)];simp
   rw [e] at h1;exact h1.2
  have hl:∃d,q.getLast? =ae d/\d∈[0]:=by refine ⟨d,?_,hm⟩;rw [PQ,dp _ (by simp),show b::q=[b]++q from rfl,dp _ hq] at hd;exact hd
  refine ef (kZ EJ hl) λv hv MX qY=>?_;rw [PQ];exact bK _ (ab _ (qY a (e1 v ⟨hv,MX⟩)))
noncomputable abbrev Ed:=List (Nat×Nat)
noncomputable def sb(E:Ed):List Nat->Prop
 |a::b::p=>(a,b)∈E/\sb E (b::p)
 |_=>True
structure sW(E:Ed)(A B:Nat->Prop)(p:List Nat):Prop where
 ch:sb E p
 st:∃a,p.head? =ae a/\A a
 en:∃b,p.getLast? =ae b/\B b
theorem sb.mono{E E':Ed}(h:∀x∈E,x∈E'):∀{p:List Nat},sb E p->sb E' p
 |[],_=>trivial
 |[_],_=>trivial
 |_::_::_,hc=>⟨h _ hc.1,hc.2.mono h⟩
theorem sW.mono{E E':Ed}{A B:Nat->Prop}{p:List Nat}(h:∀x∈E,x∈E')(hp:sW E A B p):sW E' A B p:=⟨hp.ch.mono h,hp.st,hp.en⟩
theorem sb.left{E:Ed}:∀{u v:List Nat},sb E (u++v)->sb E u
 |[],_,_=>trivial
 |[_],_,_=>trivial
 |_::_::_,_,h=>⟨h.1,sb.left (u:=_::_) h.2⟩
theorem sb.right{E:Ed}:∀{u v:List Nat},sb E (u++v)->sb E v
 |[],_,h=>h
 |[_],[],_=>trivial
 |[_],_::_,h=>h.2
 |_::b::u,v,h=>sb.right (u:=b::u) h.2
theorem sb.glue{E:Ed}:∀{u v:List Nat} {z:Nat},sb E (u++[z])->sb E (z::v)->sb E (u++z::v)
 |[],_,_,_,h=>h
 |[a],_,_,h,h'=>⟨h.1,h'⟩
 |a::b::u,v,z,h,h'=>⟨h.1,sb.glue (u:=b::u) h.2 h'⟩
theorem sb.uses{x y:Nat}{E:Ed}:∀{p:List Nat},sb ((x,y)::E) p->sb E p\/∃u v,p=u++x::y::v/\sb E (u++[x])
 |[],_=> .inl trivial
 |[_],_=> .inl trivial
 |a::b::p,h=>by
  rcases aP.mp h.1 with e|e
  ·injection e with e1 e2
   subst e1;subst e2;exact .inr ⟨[],p,rfl,trivial⟩
  ·rcases sb.uses h.2 with h'|⟨u,v,e',h'⟩
   ·exact .inl ⟨e,h'⟩
   ·refine .inr ⟨a::u,v,by refine ai (e' ..) ?_;rfl,?_⟩;cases u with
    |nil=>
     have:b=x:=by injection e'
     subst this;exact ⟨e,trivial⟩
    |cons c u=>
     have:b=c:=by injection e'
     subst this;exact ⟨e,h'⟩
theorem sb.uses'{x y:Nat}{E:Ed}:∀{p:List Nat},sb ((x,y)::E) p->sb E p\/∃u v,p=u++x::y::v/\sb E (y::v)
 |[],_=> .inl trivial
 |[_],_=> .inl trivial
 |a::b::p,h=>by
  rcases sb.uses' h.2 with h'|⟨u,v,e',h'⟩
  ·rcases aP.mp h.1 with e|e
   ·injection e with e1 e2
    subst e1;subst e2;exact .inr ⟨[],p,rfl,h'⟩
   ·exact .inl ⟨e,h'⟩
  ·exact .inr ⟨a::u,v,by refine ai (e' ..) ?_;rfl,h'⟩
theorem pW{s:Nat}:∀{p:List Nat},s∈p->∃u v,p=u++s::v/\s∉u
 |a::p,h=>by
  by_cases e:a=s
  ·exact ⟨[],p,by refine ai (e ..) ?_;rfl,by simp⟩
  ·refine eD (pW (p:=p) (by rcases aP.mp h with h|h;exact absurd h.symm e;exact h)) λu v h1 h2=>?_;exact ⟨a::u,v,by refine ai (h1 ..) ?_;rfl,by simp [h2,gf e]⟩
theorem Ck{s:Nat}:∀{p:List Nat},s∈p->∃u v,p=u++s::v/\s∉v
 |a::p,h=>by
  by_cases e:s∈p
  ·exact eD (Ck e) λu v h1 h2=>⟨a::u,v,by refine ai (h1 ..) ?_;rfl,h2⟩
  ·rcases aP.mp h with h|h
   ·exact ⟨[],p,by refine ai (h ..) ?_;rfl,e⟩
   ·exact absurd h e
theorem se{α:Type _}(u:List α){v:List α}(h:v≠[]):(u++v).getLast? =v.getLast? :=by (refine ai (TC ..) ?_;refine ai (gv h ..) ?_);rfl
theorem uY{u v:List Nat}{z:Nat}:(u++z::v).head? =(u++[z]).head? :=by cases u <;> rfl
theorem sW.pre{E:Ed}{A B C:Nat->Prop}{u v:List Nat}{z:Nat}(h:sW E A B (u++z::v))(hz:C z):sW E A C (u++[z]):=
 ⟨sb.left (v:=v) (by simpa using h.ch),by refine fZ (uY (v:=v) ..) ?_;exact h.st,z,by simp,hz⟩
theorem sW.suf{E:Ed}{A B C:Nat->Prop}{u v:List Nat}{z:Nat}(h:sW E A B (u++z::v))(hz:C z):sW E C B (z::v):=
 ⟨h.ch.right,⟨z,rfl,hz⟩,by refine fZ (se u (by simp) ..) ?_;exact h.en⟩
theorem sW.join{E:Ed}{A B C D:Nat->Prop}{u v p q:List Nat}{z:Nat}(h:sW E A B (u++z::p))(h':sW E C D (v++z::q)):sW E A D (u++z::q):=
 ⟨sb.glue (sb.left (v:=p) (by simpa using h.ch)) h'.ch.right,by (refine ai (uY ..) ?_;refine fZ (uY (v:=p) ..) ?_);exact h.st,by (refine ai (se _ (by simp) ..) ?_;refine fZ (se v (by simp) ..) ?_);exact h'.en⟩
theorem Hx{u v:List Nat}{z c:Nat}(h:c∈u++[z]):c∈u++z::v:=by
 rcases bb.mp h with h|h
 ·exact aE _ h
 ·exact bK _ (by refine ai (aA.mp h ..) ?_;exact aa)
def Sa(p q:List Nat):Prop:=∀z∈p,z∉q
theorem xE:∀(E:Ed) (A B:Nat->Prop),(∀c,∃p,sW E A B p/\c∉p)->∃p q,sW E A B p/\sW E A B q/\Sa p q
 |[],A,B,H=>by
  have one:∀{p:List Nat},sW [] A B p->∃a,p=[a]/\A a/\B a:=by
   intro p hp;obtain ⟨ch,⟨a,ha,hA⟩,b,hb,hB⟩:=hp
   match p,ch,ha,hb with
   |[c],_,ha,hb=>simp at ha hb;subst ha;subst hb;exact ⟨_,rfl,hA,hB⟩
   |_::_::_,ch,_,_=>exact absurd ch.1 (by simp)
  refine aK (H 0) λp hp w=>aK (one hp) λa eT w=>?_;subst eT;exact aK (H a) λq hq hn=>⟨[a],q,hp,hq,λz hz=>by refine ai (aA.mp hz ..) ?_;exact hn⟩
 |(x,y)::E,A,B,H=>by
  have up:∀z∈E,z∈(x,y)::E:=λz hz=>ab _ hz;by_cases h1:∀c,∃p,sW E A B p/\c∉p
  ·exact cD (xE E A B h1) λp q hp hq hs=>⟨p,q,hp.mono up,hq.mono up,hs⟩
  ·refine cK (Classical.not_forall.mp h1) λs hs=>?_;have cut:∀p,sW E A B p->s∈p:=λp hp=>bN λhn=>hs ⟨p,hp,hn⟩;have HA:∀c,∃p,sW E A (λz=>z=s\/z=x) p/\c∉p:=by
    intro c;refine aK (H c) λp hp hc=>?_;rcases hp.ch.uses with h|⟨u,v,e,h⟩
    ·refine eD (pW (cut p ⟨h,hp.st,hp.en⟩)) λu v e w=>?_;have hp':sW E A B (u++s::v):=e▸⟨h,hp.st,hp.en⟩;exact ⟨u++[s],hp'.pre (.inl rfl),λhm=>hc (by refine ai (e ..) ?_;exact Hx hm)⟩
    ·refine ⟨u++[x],⟨h,?_,x,by simp,.inr rfl⟩,λhm=>hc (by refine ai (e ..) ?_;exact Hx hm)⟩;have:=hp.st;rw [e,uY] at this;exact this
   have HB:∀c,∃p,sW E (λz=>z=s\/z=y) B p/\c∉p:=by
    intro c;refine aK (H c) λp hp hc=>?_;rcases hp.ch.uses' with h|⟨u,v,e,h⟩
    ·refine eD (pW (cut p ⟨h,hp.st,hp.en⟩)) λu v e w=>?_;have hp':sW E A B (u++s::v):=e▸⟨h,hp.st,hp.en⟩;exact ⟨s::v,hp'.suf (.inl rfl),λhm=>hc (by refine ai (e ..) ?_;exact bK _ hm)⟩
    ·refine ⟨y::v,⟨h,⟨y,rfl,.inr rfl⟩,?_⟩,λhm=>hc (by refine ai (e ..) ?_;exact bK _ (ab _ hm))⟩;have:=hp.en;rw [e,show u++x::y::v=(u++[x])++y::v by simp,se _ (by simp)] at this;exact this
   refine cD (xE E A _ HA) λp1 p2 hp1 hp2 hps=>cD (xE E _ B HB) λq1 q2 SV PK hqs=>?_;obtain ⟨ps,px,S3,HN,hpd⟩:∃ps px,sW E A (·=s) ps/\sW E A (·=x) px/\Sa ps px:=by
    refine aK (hp1.en) λb1 e1 o1=>aK (hp2.en) λb2 e2 o2=>?_;have m1:=dg e1;have m2:=dg e2;have iQ:b1≠b2:=λe=>hps b1 m1 (e▸m2);rcases o1 with rfl|rfl <;> rcases o2 with rfl|rfl
    ·exact absurd rfl iQ
    ·exact ⟨p1,p2,⟨hp1.ch,hp1.st,_,e1,rfl⟩,⟨hp2.ch,hp2.st,_,e2,rfl⟩,hps⟩
    ·exact ⟨p2,p1,⟨hp2.ch,hp2.st,_,e2,rfl⟩,⟨hp1.ch,hp1.st,_,e1,rfl⟩,λz h h'=>hps z h' h⟩
    ·exact absurd rfl iQ
   obtain ⟨qs,qy,S5,hqy,hqd⟩:∃qs qy,sW E (·=s) B qs/\sW E (·=y) B qy/\Sa qs qy:=by
    refine aK (SV.st) λb1 e1 o1=>aK (PK.st) λb2 e2 o2=>?_;have m1:=sS e1;have m2:=sS e2;have iQ:b1≠b2:=λe=>hqs b1 m1 (e▸m2);rcases o1 with rfl|rfl <;> rcases o2 with rfl|rfl
    ·exact absurd rfl iQ
    ·exact ⟨q1,q2,⟨SV.ch,⟨_,e1,rfl⟩,SV.en⟩,⟨PK.ch,⟨_,e2,rfl⟩,PK.en⟩,hqs⟩
    ·exact ⟨q2,q1,⟨PK.ch,⟨_,e2,rfl⟩,PK.en⟩,⟨SV.ch,⟨_,e1,rfl⟩,SV.en⟩,λz h h'=>hqs z h' h⟩
    ·exact absurd rfl iQ
   have ms:s∈ps:=by obtain ⟨b,e,rfl⟩:=S3.en;exact dg e
   have mq:s∈qs:=by obtain ⟨b,e,rfl⟩:=S5.st;exact sS e
   refine eD (pW ms) λu u' eu hu=>eD (Ck mq) λv' v ev hv=>?_;have spx:s∉px:=hpd s ms;have sqy:s∉qy:=hqd s mq;subst eu;subst ev;have mx:x∈px:=by obtain ⟨b,e,rfl⟩:=HN.en;exact dg e
   have my:y∈qy:=by obtain ⟨b,e,rfl⟩:=hqy.st;exact sS e
   have noc:∀{C D:Nat->Prop} {l1 r1 l2 r2:List Nat} {z:Nat},sW E A C (l1++z::r1)->sW E D B (l2++z::r2)->s∉l1->z≠s->s∉r2->False:=by
    intro C D l1 r1 l2 r2 z ha hb n1 n2 n3;have:=cut _ (ha.join hb);simp at this;rcases this with h|h|h
    ·exact n1 h
    ·exact n2 h.symm
    ·exact n3 h
   refine ⟨u++s::v,px++qy,(S3.join S5).mono up,?_,?_⟩
   ·refine aK (HN.en) λb e hb=>aK (hqy.st) λa e' ha=>?_;have hb':b=x:=hb;have ha':a=y:=ha;subst hb';subst ha';obtain ⟨p0,rfl⟩:∃p0,px=p0++[b]:=by
     have iQ:px≠[]:=by rintro rfl;exact gL e
     refine ⟨px.dropLast,?_⟩;have h1:=GQ iQ;rw [gv iQ] at e;rw [aO e] at h1;exact h1.symm
    obtain ⟨q0,rfl⟩:∃q0,qy=a::q0:=by
     cases qy with
     |nil=>exact gL e'
     |cons c l=>exact ⟨l,by (refine ai (aO e' ..) ?_;rfl)⟩
    refine ⟨?_,?_,?_⟩
    ·have h1:sb ((b,a)::E) (p0++b::(a::q0)):=sb.glue (HN.ch.mono up) ⟨aa,hqy.ch.mono up⟩;simpa using h1
    ·refine aK (HN.st) λc hc hA=>⟨c,?_,hA⟩
     refine fZ (hc ..) ?_;cases p0 <;> rfl
    ·exact aK (hqy.en) λc hc hB=>⟨c,by refine ai (se _ (by simp) ..) ?_;exact hc,hB⟩
   ·intro z hz MM;rcases bb.mp hz with h|h
    ·rcases bb.mp MM with h'|h'
     ·exact hpd z (aE _ h) h'
     ·refine ox (eX h) λl1 r1 e1=>ox (eX h') λl2 r2 e2=>?_;subst e1;subst e2;have ha:sW E A (·=s) (l1++z::(r1++s::u')):=by simpa using S3
      exact noc ha hqy (λhm=>hu (aE _ hm)) (λe=>hu (by refine fZ (e ..) ?_;simp)) λhm=>sqy (by simp [hm])
    ·rcases aP.mp h with h|h
     ·subst h;rcases bb.mp MM with h'|h'
      ·exact spx h'
      ·exact sqy h'
     ·rcases bb.mp MM with h'|h'
      ·refine ox (eX h') λl1 r1 e1=>ox (eX h) λl2 r2 e2=>?_;subst e1;subst e2;have hb:sW E (·=s) B ((v'++s::l2)++z::r2):=by simpa using S5
       exact noc HN hb (λhm=>spx (by simp [hm])) (λe=>hv (by refine fZ (e ..) ?_;simp)) λhm=>hv (by simp [hm])
      ·exact hqd z (by simp [h]) h'
def wg(hs:List (List Nat))(b o:Nat):Prop:=gJ hs b o/\o≠b
def Gj(hs:List (List Nat))(x z:Nat):Prop:=∃p∈hs.getD z [],gJ hs p x/\¬wg hs z x
inductive iB(hs:List (List Nat))(S:List Nat):Nat->Prop
 |set {x z:_}:x∈S->Gj hs x z->iB hs S z
 |next {x z:_}:iB hs S x->Gj hs x z->iB hs S z
def zw(hs:List (List Nat))(S:List Nat)(x:Nat):Prop:=x∈S\/iB hs S x
theorem iB.of{hs:List (List Nat)}{S:List Nat}{x z:Nat}(h:zw hs S x)(hf:Gj hs x z):iB hs S z:=by
 rcases h with h|h
 ·exact .set h hf
 ·exact .next h hf
structure Gr(hs:List (List Nat)):Prop where
 reach:∀b,b≠0->(∃c,b∈hs.getD c []\/c∈hs.getD b [])->∃w,vV hs b [0] w
 entry:hs.getD 0 []=[]
theorem gJ.zero{hs:List (List Nat)}{o:Nat}(h:gJ hs 0 o):o=0:=by
 rcases h with h|⟨h,_⟩
 ·exact h
 ·exact absurd rfl h
theorem A6{hs:List (List Nat)}{S:List Nat}{x p z:Nat}(hx:zw hs S x)(hp:p∈hs.getD z [])(hd:gJ hs p x)(hn:¬iB hs S z):wg hs z x:=
 bN λh=>hn (iB.of hx ⟨p,hp,hd,h⟩)
theorem A7{hs:List (List Nat)}{S:List Nat}{x:Nat}(hx:zw hs S x):∀{w:List Nat} {z:Nat},ei hs z (w++[x])->(∀c∈w,¬zw hs S c)->¬iB hs S z->wg hs z x
 |[],z,hb,_,hn=>A6 hx hb.1 gJ.self hn
 |c::w,z,hb,hw,hn=>by
  have hc:=hw c aa;have:=A7 hx hb.2 (λd hd=>hw d (ab _ hd)) (λh=>hc (.inr h));exact A6 hx hb.1 this.1 hn
def Cut(hs:List (List Nat))(S:List Nat)(c y:Nat):Prop:=y=c\/(y∉S/\∀w,ei hs y w->(∃d,w.getLast? =ae d/\d∈S)->c∈w)
theorem Cut.head{hs:List (List Nat)}{S:List Nat}{c y p:Nat}(h:∀w,ei hs y w->(∃d,w.getLast? =ae d/\d∈S)->c∈w)(hp:p∈hs.getD y []):Cut hs S c p:=by
 by_cases e:p=c
 ·exact .inl e
 ·refine .inr ⟨λt9=>?_,λw hw hl=>?_⟩
  ·have:=h [p] ⟨hp,trivial⟩ ⟨p,rfl,t9⟩;exact e (aA.mp this).symm
  ·have iQ:w≠[]:=by
    rintro rfl;refine aK hl λd hd z=>?_;clear hl;simp at hd
   refine aK hl λd hd hm=>?_;clear hl;have:=h (p::w) ⟨hp,hw⟩ ⟨d,by (refine ai (show p::w=[p]++w from rfl) ?_;refine ai (dp _ iQ ..) ?_);exact hd,hm⟩;rcases aP.mp this with e'|e'
   ·exact absurd e'.symm e
   ·exact e'
theorem gJ.walk{hs:List (List Nat)}{b a:Nat}(h:gJ hs b a)(hn:a≠b){w:List Nat}(hw:ei hs b w)(hl:w.getLast? =ae 0):a∈w:=by
 refine ef (kZ (marks:=[0]) hw ⟨0,hl,by decide⟩) λv hv MX qY=>?_;rcases h with e|⟨_,e⟩
 ·exact absurd e hn
 ·exact qY a (e v ⟨hv,MX⟩)
theorem yT{hs:List (List Nat)}{b a:Nat}{p q:List Nat}(h:ei hs b (p++a::q)):ei hs a q:=by
 have h1:ei hs b ((p++[a])++q):=by simpa using h
 rw [ei.append] at h1;have e:(b::(p++[a])).getLast (by simp)=a:=by refine ai (kf (by simp) ..) ?_;simp
 rw [e] at h1;exact h1.2
theorem yU{p q:List Nat}{a:Nat}(ha:a≠0)(h:(p++a::q).getLast? =ae 0):q.getLast? =ae 0:=by
 rw [dp _ (by simp)] at h;cases q with
 |nil=>exact absurd (aO h) ha
 |cons c q=>refine fZ (h ..) ?_;rfl
theorem gJ.anti{hs:List (List Nat)}{a b:Nat}(hr:b≠0->∃w,vV hs b [0] w)(h:gJ hs b a)(h':gJ hs a b):a=b:=by
 by_cases hb:b=0
 ·subst hb;exact h.zero
 by_cases ha:a=0
 ·subst ha;exact h'.zero.symm
 apply bN;intro hn;have key:∀n,∀w,w.length=n->ei hs b w->w.getLast? =ae 0->False:=by
  intro n;induction n using vr with
  |ind n ih=>intro w hlen hw hl;refine ox (eX (h.walk hn hw hl)) λp q e=>?_;subst e;have hq:=yT hw;have hql:=yU ha hl;refine ox (eX (h'.walk (gf hn) hq hql)) λp' q' e'=>?_;subst e';refine ih q'.length ?_ q' rfl (yT hq) (yU hb hql);refine fZ (hlen ..) ?_;simp only [ba,bJ];lia
 obtain ⟨w,hw,c,hc,hm⟩:=hr hb;have:c=0:=by simpa using hm
 subst this;exact key _ w rfl hw.back hc
theorem ei.lt{hs:List (List Nat)}(lt:∀b,∀c∈hs.getD b [],c < 6):∀{w:List Nat} {b:Nat},ei hs b w->∀c∈w,c < 6
 |[],_,_,_,h=>el h
 |d::w,b,hw,c,h=>by
  rcases aP.mp h with e|e
  ·refine ai (e ..) ?_;exact lt b d hw.1
  ·exact ei.lt lt hw.2 c e
theorem uZ{hs:List (List Nat)}{S:List Nat}{c x z:Nat}(h0:0∈S)(he:hs.getD 0 []=[])(lt:∀b,∀c∈hs.getD b [],c < 6)(hr:∀y,y≠0->y < 6->∃w,vV hs y [0] w)(ih:Cut hs S c x->x=c)(hf:Gj hs x z)(zm:∀w,ei hs z w->(∃d,w.getLast? =ae d/\d∈S)->c∈w):z=c:=by
 apply bN;intro hn;refine ef hf λp hp HN wk=>?_;clear hf;have M3:z≠0:=by rintro rfl;rw [he] at hp;exact el hp
 have hdc:gJ hs z c:= .inr ⟨M3,λw hw=>zm w hw.1.back (by
  refine aK (hw.2) λd hd hm=>?_;exact ⟨d,hd,by
   have:d=0:=by simpa using hm
   refine ai (this ..) ?_;exact h0⟩)⟩
 have uc:c < 6:=by
  by_cases JN:p=0
  ·subst JN;have:=zm [0] ⟨hp,trivial⟩ ⟨0,rfl,h0⟩;refine ai (aA.mp this ..) ?_;decide
  ·obtain ⟨w,hw,d,hd,hm⟩:=hr p JN (lt z p hp);have Jl:d=0:=by simpa using hm
   have iQ:w≠[]:=by rintro rfl;simp at hd
   have hb:ei hs z (p::w):=⟨hp,hw.back⟩;exact hb.lt lt c (zm _ hb ⟨d,by (refine ai (show p::w=[p]++w from rfl) ?_;refine ai (dp _ iQ ..) ?_);exact hd,Jl▸h0⟩)
 have PN:x≠c:=λe=>wk (e▸⟨hdc,gf hn⟩);have bad:gJ hs c x->False:=λh=>by
  by_cases hxz:x=z
  ·subst hxz;exact hn (gJ.anti (λhc=>hr c hc uc) h hdc)
  ·exact wk ⟨h.trans hdc,hxz⟩
 have hcp:=Cut.head zm hp;rcases hcp with e|⟨hpS,hpw⟩
 ·exact bad (e▸HN)
 by_cases QK:x=p
 ·exact PN (ih (QK▸.inr ⟨hpS,hpw⟩))
 have JN:p≠0:=λe=>hpS (e▸h0);obtain ⟨w,hw,d,hd,hm⟩:=hr p JN (lt z p hp);have Jl:d=0:=by simpa using hm
 subst Jl;refine eD (pW (HN.walk QK hw.back hd)) λu v e hu=>?_;have hb:=hw.back;rw [e] at hb;have hcu:c∉u:=λhm=>by
  refine ox (eX hm) λu1 u2 e1=>?_;rw [e1] at hb hu;exact bad (gJ.through (p:=u1) (q:=u2++x::v) (by simpa using hb) (λh=>hu (by simp [h])) QK HN)
 refine PN (ih (.inr ⟨λhxS=>?_,λw' hw' hl=>?_⟩))
 ·have:=hpw (u++[x]) (hb.join (u:=[]) trivial) ⟨x,by simp,hxS⟩;rcases bb.mp this with h|h
  ·exact hcu h
  ·exact PN (aA.mp h).symm
 ·refine aK hl λd hd hm=>?_;clear hl;have iQ:w'≠[]:=by rintro rfl;simp at hd
  have:=hpw (u++x::w') (hb.join hw') ⟨d,by (refine ai (dp _ (by simp) ..) ?_;refine ai (show x::w'=[x]++w' from rfl) ?_;refine ai (dp _ iQ ..) ?_);exact hd,hm⟩;rcases bb.mp this with h|h
  ·exact absurd h hcu
  ·rcases aP.mp h with h|h
   ·exact absurd h.symm PN
   ·exact h
theorem O4{hs:List (List Nat)}{S:List Nat}{c x:Nat}(h0:0∈S)(he:hs.getD 0 []=[])(lt:∀b,∀c∈hs.getD b [],c < 6)(hr:∀y,y≠0->y < 6->∃w,vV hs y [0] w)(hx:iB hs S x):Cut hs S c x->x=c:=by
 induction hx with
 |set t9 hf=>exact λh=>h.elim id λh=>uZ h0 he lt hr (λh=>h.elim id λh=>absurd t9 h.1) hf h.2
 |next _ hf ih=>exact λh=>h.elim id λh=>uZ h0 he lt hr ih hf h.2
theorem Mp{hs:List (List Nat)}{S:List Nat}{c x:Nat}(h0:0∈S)(he:hs.getD 0 []=[])(lt:∀b,∀c∈hs.getD b [],c < 6)(hr:∀y,y≠0->y < 6->∃w,vV hs y [0] w)(hx:iB hs S x)(zm:∀w,ei hs x w->(∃d,w.getLast? =ae d/\d∈S)->c∈w):x=c:=by
 cases hx with
 |set t9 hf=>exact uZ h0 he lt hr (λh=>h.elim id λh=>absurd t9 h.1) hf zm
 |next h hf=>exact uZ h0 he lt hr (O4 h0 he lt hr h) hf zm
def kp.S0(hs:List (List Nat))(S:List Nat)(z _:Nat):Prop:=∀(h0:0∈S) (lt:∀b,∀c∈hs.getD b [],c < 6) (hr:∀y,y≠0->y < 6->∃w,vV hs y [0] w) (hz:iB hs S z),∃w y,ei hs z (w++[y])/\zw hs S y/\¬wg hs z y/\∀c∈w,¬zw hs S c
namespace kp
@[irreducible] def e0:=GT gE gE eO eO S0
def kD:=e0.1
def S_:=e0.2.1
def z_:=e0.2.2.1
theorem T0:S0 kD S_ z_ e0.2.2.2:=by
 intro h0 lt hr hz;obtain ⟨x,hx,p,hp,HN,wk⟩:∃x,zw kD S_ x/\Gj kD x z_:=by
  cases hz with
  |set h hf=>exact ⟨_,.inl h,hf⟩
  |next h hf=>exact ⟨_,.inr h,hf⟩
 obtain ⟨u,hu,hxu⟩:∃u,ei kD z_ (u++[x])/\∀u1 y u2,u=u1++y::u2->gJ kD y x:=by
  by_cases QK:x=p
  ·exact ⟨[],⟨QK▸hp,trivial⟩,λu1 y u2 e=>by simp at e⟩
  ·have JN:p≠0:=λe=>by subst e;exact QK HN.zero
   obtain ⟨w,hw,d,hd,hm⟩:=hr p JN (lt z_ p hp);have Jl:d=0:=by simpa using hm
   subst Jl;refine eD (pW (HN.walk QK hw.back hd)) λu v e hxu=>?_;have hb:=hw.back;rw [e] at hb;refine ⟨p::u,⟨hp,hb.join (u:=[]) trivial⟩,λu1 y u2 e'=>?_⟩;cases u1 with
   |nil=>injection e' with e1 e2;refine fZ (e1 ..) ?_;exact HN
   |cons a u1=>
    injection e' with e1 e2
    rw [e2] at hb hxu;exact gJ.through (p:=u1) (q:=u2++x::v) (by simpa using hb) (λh=>hxu (by simp [h])) QK HN
 by_cases hM:∃c∈u,zw kD S_ c
 ·
  have first:∀{l:List Nat},(∃c∈l,zw kD S_ c)->∃u1 y u2,l=u1++y::u2/\zw kD S_ y/\∀c∈u1,¬zw kD S_ c:=by
   intro l;induction l with
   |nil=>rintro ⟨c,hc,_⟩;exact el hc
   |cons a l ih=>
    intro h;by_cases ha:zw kD S_ a
    ·exact ⟨[],a,l,rfl,ha,λc hc=>el hc⟩
    ·obtain ⟨u1,y,u2,e,h1,h2⟩:=ih (by
      refine aK h λc hc hm=>?_;clear h;rcases aP.mp hc with e|e
      ·exact absurd (e▸hm) ha
      ·exact ⟨c,e,hm⟩)
     exact ⟨a::u1,y,u2,by refine ai (e ..) ?_;rfl,h1,λc hc=>by
      rcases aP.mp hc with e|e
      ·exact e▸ha
      ·exact h2 c e⟩
  refine cF (first hM) λu1 y u2 e hy h1=>?_;have hd:=hxu u1 y u2 e;refine ⟨u1,y,?_,hy,λt9=>?_,h1⟩
  ·rw [e] at hu;exact ei.join (q:=u2++[x]) (u:=[]) (by simpa using hu) trivial
  ·by_cases hxz:x=z_
   ·subst hxz;have Ug:y < 6:=by rw [e] at hu;exact hu.lt lt y (by simp)
    exact t9.2 (gJ.anti (λhy0=>hr y hy0 Ug) hd t9.1).symm
   ·exact wk ⟨hd.trans t9.1,hxz⟩
 ·exact ⟨u,x,hu,hx,wk,λc hc hm=>hM ⟨c,hc,hm⟩⟩
end kp
theorem kp{hs:List (List Nat)}{S:List Nat}{z:Nat}:kp.S0 hs S z 0:=by with_unfolding_all exact vx _ _ _ _ kp.S0 @kp.T0 hs S z 0
noncomputable def A8(hs:List (List Nat)):Ed:=(aN hs.length).flatMap λb=>(hs.getD b []).map λc=>(b,c)
theorem O5{hs:List (List Nat)}{b c:Nat}:(b,c)∈A8 hs↔c∈hs.getD b []:=by
 unfold A8;refine gj (bG ..) ?_;constructor
 ·intro dP;refine aK dP λd z h=>?_;clear dP;refine aK (aG.mp h) λe h1 h2=>?_;injection h2 with h3 h4
  subst h3;subst h4;exact h1
 ·intro h;refine ⟨b,?_,aG.mpr ⟨c,h,rfl⟩⟩;refine gj (aY ..) ?_;rcases gX b hs.length with h'|h'
  ·exact h'
  ·rw [bR,il h'] at h;exact el h
theorem yV{hs:List (List Nat)}:∀{w:List Nat} {b:Nat},sb (A8 hs) (b::w)↔ei hs b w
 |[],_=>⟨λz=>trivial,λz=>trivial⟩
 |c::w,b=>by
  show (_/\sb (A8 hs) (c::w))↔(_/\ei hs c w);refine gj (O5 ..) ?_;refine gj (yV ..) ?_;rfl
def nU.S0(hs:List (List Nat))(S:List Nat)(z _:Nat):Prop:=∀(h0:0∈S) (he:hs.getD 0 []=[]) (lt:∀b,∀c∈hs.getD b [],c < 6) (hr:∀y,y≠0->y < 6->∃w,vV hs y [0] w) (hz:iB hs S z) (M3:z≠0) (JO:z < 6),∃w1 w2,vV hs z S w1/\vV hs z S w2/\Sa w1 w2
namespace nU
@[irreducible] def e0:=GT gE gE eO eO S0
def kD:=e0.1
def S_:=e0.2.1
def z_:=e0.2.2.1
theorem T0:S0 kD S_ z_ e0.2.2.2:=by
 intro h0 he lt hr hz M3 JO;have H:∀c,∃p,sW (A8 kD) (λa=>a∈kD.getD z_ []) (λa=>a∈S_) p/\c∉p:=by
  intro c;obtain ⟨w,hw,hl,hc⟩:∃w,ei kD z_ w/\(∃d,w.getLast? =ae d/\d∈S_)/\c∉w:=by
   by_cases PS:z_=c
   ·obtain ⟨w,hw,d,hd,hm⟩:=hr z_ M3 JO;have Jl:d=0:=by simpa using hm
    subst Jl;by_cases hzw:z_∈w
    ·refine eD (Ck hzw) λu v e hv=>?_;have hb:=hw.back;rw [e] at hb hd;exact ⟨v,yT hb,⟨0,yU M3 hd,h0⟩,PS▸hv⟩
    ·exact ⟨w,hw.back,⟨0,hd,h0⟩,PS▸hzw⟩
   ·apply bN;intro Bo;have all:∀w,ei kD z_ w->(∃d,w.getLast? =ae d/\d∈S_)->c∈w:=λw h1 h2=>bN λh3=>Bo ⟨w,h1,h2,h3⟩;exact PS (Mp h0 he lt hr hz all)
  refine aK hl λd hd hm=>?_;clear hl;cases w with
  |nil=>simp at hd
  |cons a w=>exact ⟨a::w,⟨yV.mpr hw.2,⟨a,rfl,hw.1⟩,d,hd,hm⟩,hc⟩
 refine cD (xE _ _ _ H) λp q hp hq t9=>?_;have mk:∀{p:List Nat},sW (A8 kD) (λa=>a∈kD.getD z_ []) (λa=>a∈S_) p->∃v,vV kD z_ S_ v/\∀c∈v,c∈p:=by
  intro p hp;obtain ⟨ch,⟨a,ha,hA⟩,d,hd,hm⟩:=hp;cases p with
  |nil=>exact gL ha
  |cons b p=>have:b=a:=aO ha;subst this;exact ef (kZ (b:=z_) (marks:=S_) (w:=b::p) ⟨hA,yV.mp ch⟩ ⟨d,hd,hm⟩) λv hv MX qY=>⟨v,⟨hv,MX⟩,qY⟩
 exact aK (mk hp) λv1 h1 s1=>aK (mk hq) λv2 h2 s2=>⟨v1,v2,h1,h2,λz_ hz MM=>t9 z_ (s1 z_ hz) (s2 z_ MM)⟩
end nU
theorem nU{hs:List (List Nat)}{S:List Nat}{z:Nat}:nU.S0 hs S z 0:=by with_unfolding_all exact vx _ _ _ _ nU.S0 @nU.T0 hs S z 0
structure I5(hs:List (List Nat))(S:List Nat)(z v:Nat):Prop where
 mem:zw hs S v
 sd:wg hs z v
 near:∀y,zw hs S y->wg hs z y->gJ hs v y
theorem Cm{hs:List (List Nat)}{y v:Nat}(h:¬gJ hs y v)(hy:y≠0):∃u,ei hs y u/\u.getLast? =ae 0/\v∉u:=by
 apply bN;intro Bo;refine h (.inr ⟨hy,λw hw=>bN λhv=>Bo ⟨w,hw.1.back,?_,hv⟩⟩);refine aK (hw.2) λd hd hm=>?_;have Jl:d=0:=by simpa using hm
 exact Jl▸hd
theorem tn{hs:List (List Nat)}{S:List Nat}{z v y:Nat}{w:List Nat}(hr:∀y,y≠0->y < 6->∃w,vV hs y [0] w)(lt:∀b,∀c∈hs.getD b [],c < 6)(hn:¬iB hs S z)(nv:I5 hs S z v)
 (hw:ei hs z (w++[y])) (hy:zw hs S y) (hu:∀c∈w,¬zw hs S c):y=v:=by
 have GE:=A7 hy hw hu hn;have hd:=nv.near y hy GE;have Ug:y < 6:=hw.lt lt y (by exact bK _ aa);apply bN;intro iQ;by_cases hy0:y=0
 ·subst hy0;have h1:=nv.sd.1.walk nv.sd.2 hw (by simp);rcases bb.mp h1 with h|h
  ·exact hu v h nv.mem
  ·exact iQ (aA.mp h).symm
 ·have hnd:¬gJ hs y v:=λh=>iQ (by
   by_cases GA:v=0
   ·subst GA;exact hd.zero
   ·exact (gJ.anti (λx=>hr y hy0 Ug) h hd).symm)
  refine ef (Cm hnd hy0) λu hu1 hu2 hu3=>?_;have hne':u≠[]:=by rintro rfl;simp at hu2
  have h1:=nv.sd.1.walk nv.sd.2 (w:=w++y::u) (ei.join (q:=[]) hw hu1) (by (refine ai (dp _ (by simp) ..) ?_;refine ai (show y::u=[y]++u from rfl) ?_;refine ai (dp _ hne' ..) ?_);exact hu2);rcases bb.mp h1 with h|h
  ·exact hu v h nv.mem
  ·rcases aP.mp h with h|h
   ·exact iQ h.symm
   ·exact hu3 h
variable {ws:List Nat}
section
variable {cs:Nat->Cs}{S S':Nat->Nat}{w:Nat}
theorem Qt{S o:Nat}(h:S < 64)(hb:S.testBit o=aJ):o < 6:=by
 rcases gX o 6 with q|q
 ·exact q
 ·have:S.testBit o=aH:=u6 (cc h (by refine ai (show (64:Nat)=2 ^ 6 from rfl) ?_;exact e7 (by decide) q));rw [this] at hb;exact vy hb
theorem xF:cU S cs j < 64:=Dy _
theorem yW{o:Nat}(ho:o < 6):(cU S cs j).testBit o=(o == j || (cs j).all λc=>(S c.1).testBit o):=kA _ ho
theorem I6(h:∀b o,(S' b).testBit o=aJ->(S b).testBit o=aJ){o:Nat}(hb:(cU S' cs j).testBit o=aJ):(cU S cs j).testBit o=aJ:=by
 have ho:=Qt xF hb;rw [yW ho] at hb ⊢;rw [jU] at hb ⊢;rcases hb with hb|hb
 ·exact .inl hb
 ·rw [fW] at hb ⊢;exact .inr λc hc=>h _ _ (hb c hc)
theorem Gk(h:∀c∈cs j,S' c.1=S c.1):cU S' cs j=cU S cs j:=by unfold cU;congr 1;funext o;congr 1;refine gj (cm ..) ?_;refine gj (fW ..) ?_;refine gj (fW ..) ?_;exact ⟨λq c hc=>by refine fZ (h c hc ..) ?_;exact q c hc,λq c hc=>by refine ai (h c hc ..) ?_;exact q c hc⟩
theorem Sb:∀S,S < 64->∀S',S' < 64->(∀o,o < 6->S'.testBit o=aJ->S.testBit o=aJ)->S'≠S->(eY S').length < (eY S).length:=by decide+kernel
noncomputable def Cn(S:Nat->Nat):Nat:=(eY (S 1)).length+(eY (S 2)).length+(eY (S 3)).length+(eY (S 4)).length+(eY (S 5)).length
theorem O6(hw:w∈[1,2,3,4,5])(h0:∀b,b≠w->S' b=S b)(h:(eY (S' w)).length < (eY (S w)).length):Cn S' < Cn S:=by
 unfold Cn;simp only [aP,eZ,or_false] at hw;rcases hw with rfl|rfl|rfl|rfl|rfl
 ·(refine ai (h0 2 (by decide) ..) ?_;refine ai (h0 3 (by decide) ..) ?_;refine ai (h0 4 (by decide) ..) ?_;refine ai (h0 5 (by decide) ..) ?_);lia
 ·(refine ai (h0 1 (by decide) ..) ?_;refine ai (h0 3 (by decide) ..) ?_;refine ai (h0 4 (by decide) ..) ?_;refine ai (h0 5 (by decide) ..) ?_);lia
 ·(refine ai (h0 2 (by decide) ..) ?_;refine ai (h0 1 (by decide) ..) ?_;refine ai (h0 4 (by decide) ..) ?_;refine ai (h0 5 (by decide) ..) ?_);lia
 ·(refine ai (h0 2 (by decide) ..) ?_;refine ai (h0 3 (by decide) ..) ?_;refine ai (h0 1 (by decide) ..) ?_;refine ai (h0 5 (by decide) ..) ?_);lia
 ·(refine ai (h0 2 (by decide) ..) ?_;refine ai (h0 3 (by decide) ..) ?_;refine ai (h0 4 (by decide) ..) ?_;refine ai (h0 1 (by decide) ..) ?_);lia
noncomputable def oV(cs:Nat->Cs)(S:Nat->Nat)(w:Nat):Nat->Nat:=λb=>if b=w then cU S cs w else S b
noncomputable def pX(cs:Nat->Cs)(w:Nat):List Nat:=[1,2,3,4,5].filter λo=>(cs o).any λc=>c.1 == w
noncomputable def qQ(cs:Nat->Cs)(S:Nat->Nat)(ws:List Nat)(w:Nat):(Nat->Nat)×List Nat:=(oV cs S w,if cU S cs w=S w then [] else pX cs w)
structure Sd(hs:List (List Nat))(cs:Nat->Cs):Prop where
 lt:∀j,∀c∈cs j,c.1 < 6
 mem:∀j,j∈[1,2,3,4,5]->∀c,c∈hs.getD j []↔c∈(cs j).map (·.1)
structure HJ(hs:List (List Nat))(cs:Nat->Cs)(m i:Nat)(ws:List Nat)(S:Nat->Nat):Prop where
 in5:∀w∈ws,w∈[1,2,3,4,5]
 ok:∀b,S b < 64/\S b≠0
 z:S 0=1
 dec:∀j∈[1,2,3,4,5],∀o,(cU S cs j).testBit o=aJ->(S j).testBit o=aJ
 don:∀j∈[1,2,3,4,5],cU S cs j=S j\/j∈ws.drop i
 dom:∀j∈[1,2,3,4,5],∀o,o < 6->gJ hs j o->(S j).testBit o=aJ
 le:i<=ws.length
 len:ws.length+5*Cn S<=200
 ms:m=6*Cn S+(ws.length - i)
theorem HJ.start:HJ hs cs 185 0 [5,4,3,2,1] T0 where
 in5:=by decide
 ok:=λb=>by unfold T0;split <;> decide
 z:=rfl
 dec:=λj hj o ho=>by
  have h6:=Qt xF ho;have:T0 j=63:=by unfold T0;rw [if_neg];rintro rfl;revert hj;decide
  refine ai (this ..) ?_;have:∀o,o < 6->(63:Nat).testBit o=aJ:=by decide
  exact this o h6
 don:=λj hj=> .inr (by revert hj;simp only [fx,aP,eZ,or_false];lia)
 dom:=λj hj o ho y=>by
  have:T0 j=63:=by unfold T0;rw [if_neg];rintro rfl;revert hj;decide
  refine ai (this ..) ?_;have:∀o,o < 6->(63:Nat).testBit o=aJ:=by decide
  exact this o ho
 le:=gq _
 len:=by decide
 ms:=by decide
def HJ.step.S0(hs:List (List Nat))(cs:Nat->Cs)(S:Nat->Nat)(m i:Nat)(ws:List Nat):Prop:=∀{w:Nat} (C:Sd hs cs) (h:HJ hs cs m i ws S) (hw:ws[i]? =ae w),∃m',m' < m/\HJ hs cs m' (i+1) (ws++(qQ cs S ws w).2) (qQ cs S ws w).1
namespace HJ.step
@[irreducible] def e0:=Fi gE inferInstance inferInstance eO eO gE S0
def kD:=e0.1
def qL:=e0.2.1
def S_:=e0.2.2.1
def m_:=e0.2.2.2.1
def i_:=e0.2.2.2.2.1
def qG:=e0.2.2.2.2.2
theorem T0:S0 kD qL S_ m_ i_ qG:=by
 intro w C h hw;have hlt:i_ < qG.length:=(aB.mp hw).1;have QL:=h.in5 w (ao hw);have hw0:w≠0:=by rintro rfl;revert QL;decide
 have HM:qG.drop i_=w::qG.drop (i_+1):=by refine ai (dZ hlt ..) ?_;congr 1;exact (aB.mp hw).2
 unfold qQ;by_cases he:cU S_ qL w=S_ w
 ·have hT:oV qL S_ w=S_:=by
   funext b;unfold oV;by_cases hb:b=w
   ·(refine ai (if_pos hb ..) ?_;refine ai (he ..) ?_;refine ai (hb ..) ?_;rfl)
   ·(refine ai (if_neg hb ..) ?_;rfl)
  refine ai (if_pos he ..) ?_;refine ai (hT ..) ?_;simp only [cz];refine ⟨6*Cn S_+(qG.length - (i_+1)),by refine ai (h.ms ..) ?_;lia,h.in5,h.ok,h.z,h.dec,λj hj=>?_,h.dom,hlt,h.len,rfl⟩;rcases h.don j hj with q|q
  ·exact .inl q
  ·rw [HM] at q;rcases aP.mp q with rfl|q
   ·exact .inl he
   ·exact .inr q
 ·refine ai (if_neg he ..) ?_;simp only;have h0:∀b,b≠w->oV qL S_ w b=S_ b:=λb hb=>if_neg hb;have Uh:oV qL S_ w w=cU S_ qL w:=if_pos rfl;have qY:∀b o,(oV qL S_ w b).testBit o=aJ->(S_ b).testBit o=aJ:=λb o hb=>by
   by_cases e:b=w
   ·rw [e,Uh] at hb;refine ai (e ..) ?_;exact h.dec w QL o hb
   ·rw [h0 b e] at hb;exact hb
  have hpop:Cn (oV qL S_ w) < Cn S_:=O6 QL h0 (by refine ai (Uh ..) ?_;exact Sb _ (h.ok w).1 _ xF (λo y q=>h.dec w QL o q) he);have hcl:(pX qL w).length<=5:=bu _ _;refine ⟨6*Cn (oV qL S_ w)+((qG++pX qL w).length - (i_+1)),by (refine ai (h.ms ..) ?_;refine ai (ba ..) ?_);lia,λx hx=>?_,λb=>?_,by refine ai (h0 0 (gf hw0) ..) ?_;exact h.z,λj hj o ho=>?_,λj hj=>?_,λj hj o ho hd=>?_,by refine ai (ba ..) ?_;lia,by refine ai (ba ..) ?_;have:=h.len;lia,rfl⟩
  ·rcases bb.mp hx with q|q
   ·exact h.in5 x q
   ·exact (bl.mp q).1
  ·by_cases e:b=w
   ·(refine ai (e ..) ?_;refine ai (Uh ..) ?_);exact ⟨xF,DB S_ qL (by revert QL;simp only [aP,eZ,or_false];lia)⟩
   ·refine ai (h0 b e ..) ?_;exact h.ok b
  ·have h1:=I6 qY ho;by_cases e:j=w
   ·(refine ai (e ..) ?_;refine ai (Uh ..) ?_);rw [e] at h1;exact h1
   ·refine ai (h0 j e ..) ?_;exact h.dec j hj o h1
  ·by_cases hc:∃c∈qL j,c.1=w
   ·right
    refine ai (gu (by lia) ..) (bK _ (bl.mpr ⟨hj,?_⟩));refine aK hc λc Ui hc2=>?_;clear hc;exact gj (cT ..) (⟨c,Ui,by refine ai (hc2 ..) ?_;exact beq_self_eq_true w⟩)
   ·have hcg:cU (oV qL S_ w) qL j=cU S_ qL j:=Gk λc Ui=>h0 _ λe=>hc ⟨c,Ui,e⟩;refine ai (hcg ..) ?_;by_cases e:j=w
    ·left;(refine ai (e ..) ?_;refine ai (Uh ..) ?_;rfl)
    ·rcases h.don j hj with q|q
     ·left;(refine ai (q ..) ?_;refine ai (h0 j e ..) ?_;rfl)
     ·right
      rw [HM] at q;rcases aP.mp q with q|q
      ·exact absurd q e
      ·exact ai (gu (by lia) ..) (aE _ q)
  ·by_cases e:j=w
   ·(refine ai (e ..) ?_;refine ai (Uh ..) ?_;refine ai (yW ho ..) ?_)
    rw [e] at hd;rcases hd.step with q|q
    ·refine ai (q ..) ?_;simp
    ·refine ai (jU ..) ?_
     right
     refine gj (fW ..) ?_;intro c hc;have hcd:=q c.1 ((C.mem w QL c.1).mpr (aG.mpr ⟨c,hc,rfl⟩));have uc:=C.lt w c hc;by_cases zy:c.1=0
     ·rw [zy] at hcd ⊢;(refine ai (h.z ..) ?_;refine ai (hcd.zero ..) ?_);rfl
     ·exact h.dom c.1 (by simp only [aP,eZ,or_false];lia) o ho hcd
   ·refine ai (h0 j e ..) ?_;exact h.dom j hj o ho hd
end HJ.step
theorem HJ.step:HJ.step.S0 hs cs S m i ws:=by with_unfolding_all exact uz _ _ _ _ _ _ HJ.step.S0 @HJ.step.T0 hs cs S m i ws
theorem HJ.fin(C:Sd hs cs)(h:HJ hs cs m ws.length ws S):∀j∈[1,2,3,4,5],∀o,o < 6->((S j).testBit o=aJ↔gJ hs j o):=by
 have fixd:∀j∈[1,2,3,4,5],cU S cs j=S j:=λj hj=>(h.don j hj).elim id λq=>by rw [ou] at q;exact el q
 have in5:∀b,b≠0->b < 6->b∈[1,2,3,4,5]:=λb h0 h6=>by simp only [aP,eZ,or_false];lia
 intro j hj o ho;have hj0:j≠0:=by rintro rfl;revert hj;decide
 have HK:j < 6:=by revert hj;simp only [aP,eZ,or_false];lia
 have key:=LD (hs:=hs) (D:=λb o=>gJ hs b o\/(b < 6/\o < 6/\(S b).testBit o=aJ)) (λo q=>by
  rcases q with q|⟨_,h6,q⟩
  ·exact q.zero
  ·rw [h.z] at q;have:∀o,o < 6->(1:Nat).testBit o=aJ->o=0:=by decide
   exact this o h6 q) (λb o hb q=>by
  rcases q with q|⟨q6,h6,q⟩
  ·rcases q.step with e|e
   ·exact .inl e
   ·exact .inr λc hc=> .inl (e c hc)
  ·have zA:=in5 b hb q6;rw [<- fixd b zA,yW h6,jU] at q;rcases q with q|q
   ·exact .inl (by simpa using q)
   ·refine .inr λc hc=>aK (aG.mp ((C.mem b zA c).mp hc)) λc' zl dP=>?_;subst dP;rw [fW] at q;exact .inr ⟨C.lt b c' zl,h6,q c' zl⟩) (λb o y hd=> .inl hd) (b:=j) (o:=o) hj0
 exact ⟨λq=>key.mp (.inr ⟨HK,ho,q⟩),h.dom j hj o ho⟩
end
variable {T:ay}
theorem jG{α:Type}{p:List α->Prop}(h0:p [])(h1:∀l a,p l->p (l++[a])):∀l,p l:=λl=>by
 have:∀r:List α,p r.reverse:=λr=>by
  induction r with
  |nil=>exact h0
  |cons a r ih=>refine ai (CM ..) ?_;exact h1 _ _ ih
 have:=this l.reverse
 rwa [List.reverse_reverse] at this
noncomputable def cS(l:List Nat):Cs:=l.foldl k6 []
theorem qR(arms:List (Nat×Nat))(q:Nat×Nat)(b:Nat):gT (arms++[q]) b=gT arms b++(if q.2=b then [q.1] else []):=by
 delta gT;refine ai (fX ..) ?_;refine ai (bh ..) ?_;refine ai (hZ ..) ?_;refine ai (qc ..) ?_;by_cases h:q.2=b
 ·simp [h]
 ·simp [h]
theorem A9(arms:List (Nat×Nat))(b:Nat):(fF B0 0 arms).cs b=cS (gT arms b):=by
 induction arms using jG with
 |h0=>rfl
 |h1 l q ih=>
  refine ai (kE ..) ?_;refine ai (qR ..) ?_;show (if b=q.2 then k6 ((fF B0 0 l).cs b) q.1 else (fF B0 0 l).cs b)=_;unfold cS at*;refine ai (fq ..) ?_;refine fZ (ih ..) ?_;by_cases h:b=q.2
  ·(refine ai (if_pos h ..) ?_;refine ai (if_pos h.symm ..) ?_);rfl
  ·(refine ai (if_neg h ..) ?_;refine ai (if_neg (gf h) ..) ?_);rfl
set_option tactic.hygienic true in
theorem pY(l:List Nat)(c:Nat):c∈(cS l).map (·.1)↔c∈l:=by
 induction l using jG with
 |h0=>simp [cS]
 |h1 l a ih=>
  unfold cS at*;refine ai (fq ..) ?_;show c∈(k6 _ a).map (·.1)↔_;refine ai (oU ..) ?_;refine gj (bb ..) ?_;refine gj (aA ..) ?_
  split
  ·rename_i h;refine gj (ih ..) (⟨.inl,λq=>q.elim id λe=>?_⟩);subst e;exact ih.mp h
  ·(refine gj (bb ..) ?_;refine gj (ih ..) ?_;refine gj (aA ..) ?_;rfl)
theorem nq(arms:List (Nat×Nat))(b c:Nat):c∈sH arms b↔c < 6/\c∈gT arms b:=by delta sH eY;refine gj (bl ..) ?_;refine gj (aY ..) ?_;refine ai (Gf ..) ?_;refine ai (decide_eq_true_eq ..) ?_;rfl
theorem kq{b c:Nat}(h:c∈gT (cX ds) b):c < 6:=by refine aK (aG.mp h) λq hq dP=>?_;subst dP;exact (qP q (bl.mp hq).1).1
theorem tZ{b:Nat}(h:b < 6):(di ds).getD b []=sH (cX ds) b:=by (refine ai (bR ..) ?_;refine ai (aI ..) ?_;refine ai (bz h ..) ?_);rfl
theorem Mq{b:Nat}(h:6<=b):(di ds).getD b []=[]:=by (refine ai (bR ..) ?_;refine ai (il (by exact h) ..) ?_);rfl
theorem O7(hB:E6 (lT ds) 20):Sd (di ds) (lT ds).cs where
 lt:=λj c hc=>hB.lt j c hc
 mem:=λj hj c=>by
  have h6:j < 6:=by revert hj;simp only [aP,eZ,or_false];lia
  refine ai (tZ h6 ..) ?_;refine gj (nq ..) ?_;refine ai (A9 ..) ?_;refine gj (pY ..) ?_;exact ⟨λq=>q.2,λq=>⟨kq q,q⟩⟩
theorem sf:zR (di ds) where
 len:=by rfl
 lt:=λb c hc=>by
  rcases gX b 6 with h|h
  ·rw [tZ h,nq] at hc;exact hc.1
  ·rw [Mq h] at hc;exact el hc
 nd:=λb=>by
  rcases gX b 6 with h|h
  ·refine ai (tZ h ..) ?_;exact ll.filter _
  ·refine ai (Mq h ..) ?_;exact kP
noncomputable def exA:bP->CR| .Lambda a _ _ _=>a|_=>Fk
noncomputable def exB:bP->bP| .Lambda _ b _ _=>b|_=> .Constant .none 0 ⟨0,0,0,0⟩
noncomputable def exS:bP->fM| .Lambda _ _ s _=>s|_=>Bv
noncomputable def Qu:ed->bP| .If (.UnaryOp _ (.Call _ args _ _) _) _ _ _=>args.getD 3 (.Constant .none 0 ⟨0,0,0,0⟩)|_=> .Constant .none 0 ⟨0,0,0,0⟩
noncomputable def ly:bc:=ma (cO 23)++".<locals>."++"<lambda>"
noncomputable def Hz:bP:=Qu ((fR (cO 23)).getD 21 (.Pass ⟨0,0,0,0⟩))
noncomputable abbrev pj(L c:ay)(ct:aj):cn:=yl ly (exA Hz) (exB Hz) (exS Hz) [("table",L+20),("flags",L+16),("book",L+15)] c ct
structure Se(G:Gd):Prop where
 la:DP G 306 304
section
variable {A:ay}
def lU.S0(mu:Mu)(L T:ay)(ds:List Nat)(c':ay)(ct:aj)(ws:List Nat)(S:Nat->Nat)(w i4:Nat):Prop:=∀{k:Nat} {vs:eL} {fd:ay} {n6 m i:Nat} {lx:ay} (H:Hy G) (hB:E6 (lT ds) 20) (hS:Sv vs (S20 ds n6 lx T)) (hJ:HJ (di ds) (lT ds).cs m i ws S) (hw:ws[i]? =ae w) (h1:cy L vs∈mu) (h2:mi fd (eh (pj L c' ct) av)∈mu) (h3:gH 304 [(273,49,c',ly)]∈mu) (h4:mu[i4]? =ae (cE T (oo (aF ds) S))),FW (k+5) mu (.ref fd) [.str (cC (aF ds+w))] λy nu=>y= .list ((qQ (lT ds).cs S ws w).2.map λw=>V.str (cC (aF ds+w)))/\nu=mu.set i4 (cE T (oo (aF ds) (qQ (lT ds).cs S ws w).1))
namespace lU
@[irreducible] def e0:=zF gE cM cM gE cM gM gE inferInstance eO eO S0
def e9:=e0.1
def L_:=e0.2.1
def T_:=e0.2.2.1
def aV:=e0.2.2.2.1
def c'_:=e0.2.2.2.2.1
def Np:=e0.2.2.2.2.2.1
def qG:=e0.2.2.2.2.2.2.1
def S_:=e0.2.2.2.2.2.2.2.1
def w_:=e0.2.2.2.2.2.2.2.2.1
def i4_:=e0.2.2.2.2.2.2.2.2.2
theorem T0:S0 e9 L_ T_ aV c'_ Np qG S_ w_ i4_:=by
 intro k vs fd n6 m i lx H hB hS hJ hw h1 h2 h3 h4;have d8:=eI aV;refine FB H.B (names:=["name"]) (vals':=λz=>[ae (.str (cC (aF aV+w_)))]) (Kn.obj h2) rfl (Kn.code h3 (q:=(273,49,c'_,ly)) aa) rfl (λvs h=>?_) (by show (aM 0 (exS Hz).names).nd;decide+kernel) (λL_=>⟨rfl,rfl,rfl⟩) (λL2=>?_) (λL2=>?_)
 ·exact uK h λa=>rfl
 ·exact .cons (j:=0) .loc rfl .nil
 have he:dz (dT (pj L_ c'_ Np) fd L2):=⟨rfl,rfl,rfl⟩;refine cu (H.f302.go) λob TU cd' Jh h0 hd z=>?_;have QL:=hJ.in5 w_ (ao hw);refine mj (ml H he H.m_hear rfl) h0 hd (cB (cg (ah (j:=41) (L:=L_) (lay:=aM (L_+1) (bj (cO 23)).names) he (.free (L_+15) "book" rfl rfl rfl rfl rfl) (ab _ h1) (hS.get rfl)) (cB (cg (ah (j:=46) (L:=L_) (lay:=aM (L_+1) (bj (cO 23)).names) he (.free (L_+20) "table" rfl rfl rfl rfl rfl) (ab _ h1) (hS.get rfl)) (cB (cg (ah (j:=42) (L:=L_) (lay:=aM (L_+1) (bj (cO 23)).names) he (.free (L_+16) "flags" rfl rfl rfl rfl rfl) (ab _ h1) (hS.get rfl)) (cB (cg (ah (j:=0) he .loc aa rfl) (e8 ?_)))))))));refine (tI (k:=k) (i:=i4_+1) (T:=T_) (S:=S_) (B:=lT aV) (j:=w_) H d8 h4 hJ.ok (λb c hc=>hB.lt b c hc) (λb=>aw (hB.len b) (by decide)) QL).mono λy nu hy=>?_;delta qQ;have key:nu=vL (pj L_ c'_ Np) L2 [ae (.str (cC (aF aV+w_)))]::e9.set i4_ (cE T_ (oo (aF aV) (oV (lT aV).cs S_ w_)))->y= .list ((if cU S_ (lT aV).cs w_=S_ w_ then [] else pX (lT aV).cs w_).map λw_=>V.str (cC (aF aV+w_)))->jJ y nu (λy nu=>y= .list ((oV (lT aV).cs S_ w_,if cU S_ (lT aV).cs w_=S_ w_ then [] else pX (lT aV).cs w_).2.map λw_=>V.str (cC (aF aV+w_)))/\nu=e9.set i4_ (cE T_ (oo (aF aV) (oV (lT aV).cs S_ w_,if cU S_ (lT aV).cs w_=S_ w_ then [] else pX (lT aV).cs w_).1))):=λe1 e2=>by
  refine ai (e1 ..) ?_;exact jJ.tail (jJ.keep ⟨e2,rfl⟩)
 rcases hy with ⟨q1,q2,q3⟩|⟨q1,q2,q3⟩
 ·have hT:oV (lT aV).cs S_ w_=S_:=by
   funext b;delta oV;by_cases hb:b=w_
   ·(refine ai (if_pos hb ..) ?_;refine ai (q1 ..) ?_;refine ai (hb ..) ?_;rfl)
   ·(refine ai (if_neg hb ..) ?_;rfl)
  refine key ?_ (by (refine ai (q2 ..) ?_;refine ai (if_pos q1 ..) ?_);rfl);refine ai (q3 ..) ?_;refine ai (hT ..) ?_;refine ai (jZ _ h4 ..) ?_;refine fZ (gh h4 ..) ?_;rfl
 ·refine key ?_ (by (refine ai (q2 ..) ?_;refine ai (if_neg q1 ..) ?_);rfl);refine ai (q3 ..) ?_;rfl
end lU
theorem lU{c':ay}{ct:aj}{ws:List Nat}{S:Nat->Nat}{w i4:Nat}:lU.S0 mu L T ds c' ct ws S w i4:=by with_unfolding_all exact uA _ _ _ _ _ _ _ _ _ _ lU.S0 @lU.T0 mu L T ds c' ct ws S w i4
end
section
variable {A:ay}
noncomputable abbrev S21(ds:List Nat)(n6:Nat)(lx:ay)(S:Nat->Nat):List (Nat×V):=(46,.dict (oo (aF ds) S))::S19 ds n6 lx
structure sg(hs:List (List Nat))(S:Nat->Nat):Prop where
 fin:∀j∈[1,2,3,4,5],∀o,o < 6->((S j).testBit o=aJ↔gJ hs j o)
 ok:∀b,S b < 64/\S b≠0
 z:S 0=1
noncomputable abbrev Qv(P:ib)(N:Int)(cs:List Nat)(L fd T c':ay)(ct:aj)(vs:eL)(low:Nat)(mu:Mu)(S:Nat->Nat):Mu:=mi fd (eh (pj L c' ct) av)::cE T (oo low S)::cy L vs::((j5 P [] N cs).drop 1++(gH 304 [(273,49,c',ly)]::mu))
theorem Sf(H:Hy G)(LH:fL G K)(BH:yr K)(LL:Se G){pm doc:aj}(he:dz (bT pm doc L)){P:ib}(PO:mU P){N:Int}{cs:List Nat}(hS:Sv vs (S20 ds n6 P.lx T))(hR:pg ds n6 17 cs)(hB:E6 (lT ds) 20)
 (next:∀vs cs' S c',Sv vs (S21 ds n6 P.lx S)->pg ds n6 18 cs'->sg (di ds) S->WS (k+8) (cy L vs::(j5 P [] N cs'++(gH 304 [(273,49,c',ly)]::mu))) (bT pm doc L) (je 22) Θ):
 WS (k+8) (cE T (oo (aF ds) T0)::cy L vs::Gh P N cs mu) (bT pm doc L) (je 21) Θ:=by
 have hf:∀{vs} {l:Mu} {a:cY},bq L (aM (L+1) (bj (cO 23)).names) vs∈a::cy L vs::l:=ab _ aa;have hf2:∀{vs} {l:Mu} {a b:cY},bq L (aM (L+1) (bj (cO 23)).names) vs∈a::b::cy L vs::l:=ab _ (ab _ aa);refine cu (H.f297.go) λob2 x x x r0 rd x=>aK (hR.tok ON) λcs' ht S1=>aC (xN (Mo (Hw (mj (ml H he H.m_run rfl) r0 rd (cB (cg (ah (j:=21) he (.cell (L+11) "lexer") hf (hS.get rfl)) (cB (O2 (dF (ah (j:=7) he (.cell (L+6) "names") hf (hS.get rfl))) (jo dN (eQ aU) (eQ (o5 aU))) (O3 (by decide) (by simp) λW=>?_)))))))));refine ai (jr ..) ?_;refine ai (show jq (aN 6) av (ae 0) (ae (-1))=[5,4,3,2,1] from I3) ?_;refine fK.ref (cB (cg cP (cB (B7 (i:=10) he rfl LL.la H.B rfl rfl rfl rfl λfd c' ct=>e8 ?_))));have CK:=O7 hB;show FW (k+8) (mi fd (eh (pj L c' ct) av)::bk W ([5,4,3,2,1].map λb=>V.str (cC (aF ds+b)))::cE T (oo (aF ds) T0)::cy L vs::(j5 P [] N cs++(gH 304 [(273,49,c',ly)]::mu))) (.ref 297) [.ref P.lx,.ref W,.str "done",.ref fd] _;refine FW.to [1,3] ?_;show FW (k+8) (bk W ([5,4,3,2,1].map λb=>V.str (cC (aF ds+b)))::bk P.pb []::Qv P N cs L fd T c' ct vs (aF ds) mu T0) (.ref 297) [.ref P.lx,.ref W,.str "done",.ref fd] _;have RH:rS (k+4) (λb=>cC (aF ds+b)) P.lx P.dx P.pb W fd (tg (N - (cs.count 10:Nat)) (.ref P.f) P.pb) (eh (pj L c' ct) av) (pj L c' ct) (Qv P N cs L fd T c' ct vs (aF ds) mu) (qQ (lT ds).cs) (HJ (di ds) (lT ds).cs) (λc nu ws S=>c="done"/\nu=j5 P [] N cs'++(bk W (ws.map λb=>V.str (cC (aF ds+b)))::mi fd (eh (pj L c' ct) av)::cE T (oo (aF ds) S)::cy L vs::gH 304 [(273,49,c',ly)]::mu)):=⟨
  λS=>ao (i:=3) rfl,
  nL _ _ _,
  ab _ (ab _ (ab _ aa)),
  yI _ _ _,
  by show ("push_token":bc)∉(["lineno","instream","whitespace","pushback"]:List bc);decide,
  rfl,
  λS ws q=>Kn.obj (ao (i:=2) rfl),
  λm i ws S h=>⟨by have:=h.len;lia,h.le⟩,
  λm i ws S w h hw=>((lU (k:=k+2) (i4:=3) H hB hS h hw (ao (i:=4) rfl) (ao (i:=2) rfl) (ao (i:=11) rfl) rfl).mono λy nu e=>⟨e.1,by refine ai (e.2 ..) ?_;rfl⟩),
  λm i ws S w h hw=>h.step CK hw,
  λm ws S h=>by
   refine FW.to [1,4,4,4,4,4,4] (FW.mono (FW.app (bk W (ws.map λb=>V.str (cC (aF ds+b)))::mi fd (eh (pj L c' ct) av)::cE T (oo (aF ds) S)::cy L vs::gH 304 [(273,49,c',ly)]::mu) (xC (k:=k+2) H LH BH PO ht hR.len)) λy nu he=>?_);refine ef he λnu' e1 e2 e3=>?_;clear he;subst e1 e3;exact ⟨"done",by (refine ai (e2 ..) ?_;refine ai (Ce ..) ?_;rfl),rfl,rfl⟩⟩
 refine Qi (k:=k+4) H LH RH HJ.start λm ws S c nu hJ hf=>dU hf λe2 e3=>?_;clear hf;subst e2 e3;refine ⟨aJ,by rfl,?_⟩;show WS (k+8) _ (bT pm doc L) [] _;refine bB ?_;show WS (k+8) (j5 P [] N cs'++(bk W (ws.map λb=>V.str (cC (aF ds+b)))::mi fd (eh (pj L c' ct) av)::cE T (oo (aF ds) S)::cy L vs::gH 304 [(273,49,c',ly)]::mu)) (bT pm doc L) (je 22) Θ;refine WF.to [7,7] (WF.drop1 (WF.drop1 (WF.to [8,7] (WF.frzD (j:=46) (hS.get rfl) ?_))));exact next _ cs' S c' (((hS.set (j:=46) (y:= .dict (oo (aF ds) S))).sub ⟨rfl,rfl,rfl,rfl,rfl,rfl,rfl,rfl,rfl,trivial⟩)) S1 ⟨hJ.fin CK,hJ.ok,hJ.z⟩
end
variable {Hm Nt cx dc:ay}
section
variable {S:Nat->Nat}
noncomputable abbrev Gl(low:Nat)(l:List Nat):V:= .list (l.map λo=>V.str (cC (low+o)))
noncomputable def qS(low:Nat)(F:Nat->List Nat):List (bc×V):=bD low (aN 6) λb=>Gl low (F b)
noncomputable def pZ(low n:Nat)(h:Nat->Nat):List (bc×V):=bD low ((aN n).map (·+1)) λb=> .str (cC (low+h b))
noncomputable abbrev I7(ds:List Nat)(n6:Nat)(lx:ay)(S:Nat->Nat)(Hm Nt cx:ay):List (Nat×V):=(34,.ref cx)::(44,.ref Nt)::(33,.ref Hm)::S21 ds n6 lx S
theorem Sh(H:Hy G)(LH:fL G K)(NH:uM K){pm doc:aj}(he:dz (bT pm doc L))(hS:Sv vs (S21 ds n6 lx S))
 (next:∀vs Hm Nt cx dc,Sv vs (I7 ds n6 lx S Hm Nt cx)->WS (k+8) (cy L vs::cE Hm (pZ (aF ds) 0 λz=>0)::cE Nt (qS (aF ds) λz=>[])::gI cx 245 dc [("comp_select_list",DE)]::mu) (bT pm doc L) (je 23) Θ):
 WS (k+8) (cy L vs::mu) (bT pm doc L) (je 22) Θ:=by
 have d8:=eI ds;refine aC (b4 (B9 (cB (xT H.B λHm=>fK.ref (cB (yw H.B (aN 6) (λb=> .str (cC (aF ds+b))) (λb=>(cC (aF ds+b),Gl (aF ds) [])) ⟨rfl,rfl,by decide+kernel,by decide+kernel⟩ (dB (ah (j:=7) he (.cell (L+6) "names") (ao (i:=1) rfl) (hS.get rfl))) (by lia) (by decide) (λC4 a ha=>BL 1 he.comp .loc dm (λhb=>(ah (j:=1) he.comp .loc aa rfl)) (λhb=>ij (xs:=[]) aT (bg rfl))) (jx d8 (aN 6) (λb hb=>aY.mp hb) ll) (λNt=>fK.ref (cB (BZ LH.KO NH.k245 (ml H he H.m_comp rfl) (cB (cg (y:=DE) (ij (au (f9 (xs:=[.int 0,.int (-1)]) (au aU (au (o5 aU) aT)) (by show 2<=2 ^ 20;decide)) (au (f9 (xs:=[.int 1,.int (-2)]) (au aU (au (o5 aU) aT)) (by show 2<=2 ^ 20;decide)) (au (f9 (xs:=[.int 2,.int (-3)]) (au aU (au (o5 aU) aT)) (by show 2<=2 ^ 20;decide)) aT))) (by show 3<=2 ^ 20;decide)) (e8 (FW.mono (Io H LH NH) λy2 ua hy=>?_)))))))))))) rfl rfl);refine eD hy λcx dc e3 e4=>?_;clear hy;subst e3 e4;refine e8 ⟨by show 3<=2 ^ 20;decide,i7 (cw rfl rfl ?_)⟩;refine aQ (i:=3) (j:=33) he .loc rfl (cw rfl rfl ?_);refine aQ (i:=3) (j:=44) he (.cell (L+18) "noted") rfl (cw rfl rfl ?_);refine aQ (i:=3) (j:=34) he .loc rfl (iX ?_);exact WF.from [3,2,1,0] rfl (next _ Hm Nt cx dc (((hS.set (j:=33) (y:= .ref Hm)).set (j:=44) (y:= .ref Nt)).set (j:=34) (y:= .ref cx)))
end
section
variable {x y:bP}{es:List (bc×V)}{v1 v2 v3:V}
theorem O8(h1:PE k mu env x (.bool b))(h2:b=aJ->PE k mu env y (.bool c)):PE k mu env (.BoolOp .And [x,y] pos) (.bool (b && c)):=⟨λ{z z z z z z} hA r q=>by
 refine wpAny_And2 (h1.c hA r λ{v s1 Z1} z1 q1 r1=>?_);refine ai (aZ.boolE q1 ..) (eU ?_);cases b with
 |false=>exact q z1 (.bool _) r1
 |true=>exact (h2 rfl).c hA r1 λ{z z z} z2=>q (z1.trans z2)⟩
theorem Ba(hl:es.length<=1000):Fn k mu (.type "list") [bZ (.dict es)] (bZ (.list (es.map λq=> .str q.1))):=⟨λ{A E Z s fr vs Q} hA r hq q=>by
 refine aK (hq.one) λv dP p=>?_;subst dP;refine jY (mZ r p) λd kvs ep eT hs hD hO hk hr hzd PD=>?_;subst eT;have hlen:kvs.length=es.length:=by (refine fZ (ak (f:=(·.1)) ..) ?_;refine ai (hk ..) ?_;refine ai (ak ..) ?_;rfl)
 refine kdl_call (kdl_dict (prog:=G.prog) (w:=G.w) (knd:=strKind G.prog G.w) (kvs:=kvs) (ep:=ep) hs) hA.hh hD (by show _<=2 ^ 24;lia) λh' tk SH c' S2 hg hi=>?_;have hz:=r.fresh (bp s.heap.objs.size);refine q (bI.le_put hz) (aZ.list (vs:=SH) (n:=c') (bI.put_self ..) (bW.ofGets ?_ λi v y hv hy=>?_)) (R.freeze (r.keep (tk:=tk) S2) hg hz (r.notOwn (bp _)))
 ·have:=hi.1;simp;lia
 ·refine eD (hi.2 i v (bV.symm.trans hv)) λkey x h1 h2=>?_;have h3:(es.map (·.1))[i]? =ae key:=by (refine fZ (hk ..) ?_;refine ai (aI ..) ?_;refine ai (h1 ..) ?_);rfl
  rw [aI] at h3 hy;refine aK (aL.mp h3) λq h4 gi=>?_;subst gi;rw [h4] at hy
  (have lz:=aO hy;clear hy;subst lz)
  refine cK (ES (show Value.isStrOf q.1 v=aJ from h2)) λt iC=>?_;subst iC;exact .str _ _⟩
theorem O9{x:bc}{d:V}:Fn k mu (.builtin "dict.get") [bZ (.dict es),bZ (.str x),bZ d] (bZ ((me es x).getD d)):=⟨λ{A E Z s fr vs Q} hA r hq q=>by
 refine lG (hq.three) λv u w kF q1 q2 q3=>?_;subst kF;refine jY (mZ r q1) λdd kvs ep l9 hs hD hO hk hr hzd PD=>?_;subst l9;refine cK (gV q2) λtk mD=>?_;subst mD;refine Jy QT hO.typeIs PySem.F.entry_dict_get (PySem.F.args_dict_get_3 _ _ _) (meets_dict_get_default (knd:=strKind G.prog G.w) (d:=dd) (hkey:=zq G.prog G.w _ tk) (hd:=hs) (dflt:=_)) ⟨_,hO.mapOf,?_⟩;cases hg:me es x with
 |none=>rw [hg] at q;refine ai (ta hk hg ..) ?_;exact q .rfl q3 r.toks
 |some y=>rw [hg] at q;refine aK (uG hk hr hg) λv' h1 h2=>ai (h1 ..) ?_;exact q .rfl h2 r.toks⟩
theorem Si{dj:iE}{t u m:bc}{ifs:List bP}{elt:bP}{kk kk2:Nat}{p1 p2 p3 p4:lF}(i j l:Nat)(he:dz dj)(s1:Sl dj C (aM (C+1) scope.names) t i)(s2:Sl dj C (aM (C+1) scope.names) u j)(s3:Sl dj C (aM (C+1) scope.names) m l)
 (hi:wY k (nC scope C ((((nones (aM (C+1) scope.names)).set i (ae v1)).set j (ae v2)).set l (ae v3))::mu) dj ifs b) (h:b=aJ->PE k (nC scope C ((((nones (aM (C+1) scope.names)).set i (ae v1)).set j (ae v2)).set l (ae v3))::mu) dj elt z)
 (hf1:autoParam ((dj.kindOf t == ae .free)=aH) aR) (hf2:autoParam ((dj.kindOf u == ae .free)=aH) aR) (hf3:autoParam ((dj.kindOf m == ae .free)=aH) aR):
 zK k mu scope C dj (.Tuple [.Name t p1,.Tuple [.Name u p2,.Name m p3] kk2 p4] kk p) ifs elt (.tup [v1,.tup [v2,v3]]) b z:=
 ⟨_,i7 (cw rfl rfl (aQ (i:=0) he s1 rfl (cw rfl rfl (xx he s2 s3 hf2 hf3 |>.mono λnu e=>by subst e;exact iX rfl)) hf1)),hi,h⟩
theorem Bb{α:Type}{as:List α}:jq as av av (ae 1)=as/\(as.length=6->jq as av av (ae (-1))=as.reverse):=by
 constructor
 ·have e:c8 av av (ae 1) as.length=(((0:Nat):Int),((0+as.length:Nat):Int),1):=by
   unfold c8;simp
  unfold jq;refine ai (e ..) ?_;simp only;refine ai (pQ ..) ?_;refine ai (pR ..) ?_;refine ai (fx ..) ?_;refine ai (cL ..) ?_;rfl
 ·intro h;unfold jq;refine ai (h ..) ?_;refine ai (show zr (c8 av av (ae (-1)) 6).1 (c8 av av (ae (-1)) 6).2.1 (c8 av av (ae (-1)) 6).2.2=[5,4,3,2,1,0] from by decide) ?_;exact len6 h λa b c d e f=>rfl
theorem HC{A:bo}{s:aq}{Z:bI}{kb:List (bc×aj)}{es:List (bc×Int)}(hkb:kb.map (·.1)=(es.map λq=>(q.1,V.int q.2)).map (·.1))(hrb:bW G Z (kb.map (·.2)) ((es.map λq=>(q.1,V.int q.2)).map (·.2)))(hnd:(es.map (·.1)).Nodup):
 ∀{fs:List (bc×Int)} {ka:List (bc×aj)},(∀q∈fs,q∈es)->ka.map (·.1)=fs.map (·.1)->bW G Z (ka.map (·.2)) (fs.map λq=>V.int q.2)->KeqHits A s kb ka aJ
 |[],[],_,_,_=> .nil
 |[],_::_,_,h,_=>by exact JV h
 |_::_,[],_,h,_=>by exact QX h
 |q::fs,(key,v)::ka,qi,h1,h2=>by
  simp only [bA,GO] at h1;refine dU h1 λh1a h1b=>?_;clear h1;have h1a:key=q.1:=h1a;subst h1a;cases h2 with
  |cons hv hr=>
  have hg:me (es.map λq=>(q.1,V.int q.2)) q.1=ae (.int q.2):=by
   have hq:=qi q aa;clear qi h1b hkb hrb hr;induction es with
   |nil=>exact el hq
   |cons a es ih=>
    rw [bA,cj] at hnd;unfold me at ih ⊢;refine ai (bA ..) ?_;refine ai (jV ..) ?_;rcases aP.mp hq with e|e
    ·subst e;simp
    ·have iQ:a.1≠q.1:=λe2=>hnd.1 (e2▸aG.mpr ⟨q,e,rfl⟩);simp only [iQ,decide_false];exact ih hnd.2 e
  refine aK (uG hkb hrb hg) λy h3 h4=>cK (gG hv) λt1 qX=>?_;subst qX;refine cK (gG h4) λt2 ub=>?_;subst ub;have he:=SeqAt.EqAt.int_int (A:=A) (s:=s) q.2 t1 q.2 t2;rw [beq_self_eq_true] at he;exact .hit h3 he (HC hkb hrb hnd (λr hr=>qi r (ab _ hr)) h1b hr)
theorem Eu{A:bo}{E:aj->aq->Prop}{s:aq}{Z:bI}{v u:aj}{es:List (bc×Int)}{Q:Bool->aq->Prop}(r:R Z mu s)(hu:A.units < 9900)(hnd:(es.map (·.1)).Nodup)(h1:aZ G Z v (.dict (es.map λq=>(q.1,V.int q.2))))(h2:aZ G Z u (.dict (es.map λq=>(q.1,V.int q.2))))(h:Q aJ s):
 aS (aX G.prog G.w) A (eqBool v u) Q E s:=by
 refine qo (mZ r h1) λd1 k1 ep1 mO zf z hO1 SU hr1 z=>?_;subst mO;refine qo (mZ r h2) λd2 k2 ep2 sj Gy z hO2 hk2 hr2 z=>?_;subst sj;by_cases hd:d1=d2
 ·subst hd;exact SeqAt.EqAt.same _ G.prog G.w E Q h
 ·unfold eqBool;refine bC (f5 (λwW=>absurd (by have:=jD wW;injection this) hd) (λz=>?_));have hl:k1.length=k2.length:=by have a:=congrArg kL SU;have b:=congrArg kL hk2;simp at a b;lia
  refine ag (keq_eq zf Gy hO1 hO2 hu (λz=>HC hk2 hr2 hnd (λq hq=>hq) (SU.trans (by refine ai (a0 ..) ?_;rfl)) (by rw [a0] at hr1;exact hr1)) ?_);refine ai (hl ..) ?_;refine ai (beq_self_eq_true ..) ?_;refine ai (Ng ..) ?_;exact eU h
theorem Mr{A:bo}{E:aj->aq->Prop}{s:aq}{l b:ay}{items items2:Array aj}{Q:aj->aq->Prop}(hl:s.heap.IsTuple l items)(hb:s.heap.IsTuple b items2)(hs:items.size=items2.size)(hu:A.units < 9900)
 (he:∀j (h1:j < items.size) (h2:j < items2.size) (E:aj->aq->Prop) (Q:Bool->aq->Prop),Q aJ s->aS (aX G.prog G.w) A.in1 (eqBool items[j] items2[j]) Q E s) (h:Q (.bool aH) s):aS (aX G.prog G.w) A (compareOp .NotEq (.ref l) (.ref b)) Q E s:=by
 obtain ⟨⟨cls,dd,data,sl⟩,ho,hc,n,hd⟩:=id hl;obtain ⟨⟨cls2,dd2,data2,sl2⟩,Nw,hc2,n2,hd2⟩:=id hb;simp only at hc hd hc2 hd2;subst hc hd hc2 hd2;refine wpAny_richCompare_same_room (op:= .NotEq) hl.typeIs hb.typeIs QU (dq QU hl.typeIs PySem.F.entry_tuple_ne ?_ (PySem.F.args_tuple_ne_2 _ _)) hu;obtain ⟨hp,g,d,tk,os⟩:=s;have f2:=AutoSeq1.sub_tuple_tuple
 wp_walk using AutoSeq1.wpAny_loadPart' ho,AutoSeq1.wpAny_loadPart' Nw,wpAny_forIn_list _ (λrest acc s'=>acc.1=av/\s'=⟨hp,g,d,tk,os⟩/\∃i,rest=(items.toList.zip items2.toList).drop i) _
 case turn=>
  rintro ⟨u,v⟩ rest acc s' ⟨ha,rfl,i,hz⟩;have hlt:i < (items.toList.zip items2.toList).length:=uv λq=>by rw [P1 q] at hz;exact JV hz
  have MZ:i < items.size/\i < items2.size:=by simp at hlt;omega
  rw [dZ hlt] at hz;refine dU (sX hz) λe1 e2=>?_;have hu:u=items[i]:=by have:=congrArg uu e1;simpa using this
  have hv:v=items2[i]:=by have:=congrArg Prod.snd e1;simpa using this
  subst hu hv;refine ag (he i MZ.1 MZ.2 _ _ ?_)
  wp_walk
  exact ⟨rfl,rfl,i+1,e2⟩
 case fin=>
  rintro ⟨acc1,acc2⟩ s' ⟨ha,rfl,i,hz⟩;simp only at ha;subst ha
  wp_walk
  refine ⟨_,rfl,?_,?_⟩
  ·simp [qg]
  ·simpa [qg,hs] using h
 case h=>exact ⟨rfl,rfl,0,rfl⟩
end
def okEq(x:V):Prop:=(∃i,x= .int i)\/∃es:List (bc×Int),(es.map (·.1)).Nodup/\x= .dict (es.map λq=>(q.1,V.int q.2))
theorem Ms(h:∀x∈xs,okEq x):s7 k mu .NotEq (bZ (.tup xs)) (bZ (.tup xs)) aH:=⟨λ{A E Z s fr v u T} hA r hp hq q=>by
 have hu:=hA.uni;refine dM (aZ.tup_inv hp) λa o vs n dP z1 z2 z3 z4=>?_;subst dP;refine dM (aZ.tup_inv hq) λa' o' ro n' eT y1 y2 y3 y4=>?_;subst eT;refine Mr ⟨o,r.zin _ _ z1,z2,n,z3⟩ ⟨o',r.zin _ _ y1,y2,n',y3⟩ ((cb z4).symm.trans (cb y4)) (by lia) (λj h1 h2 E Q hQ=>?_) (q .rfl (.bool _) r);refine aK (z4.get' (bV.trans (dY h1))) λx hx hr1=>?_;have hr2:=nA y4 hx (dY h2);rcases h x (ao hx) with ⟨i,rfl⟩|⟨es,hnd,rfl⟩
 ·refine cK (gG hr1) λt1 e1=>cK (gG hr2) λt2 e2=>?_;have he:=SeqAt.EqAt.int_int (A:=A.in1) (s:=s) i t1 i t2;rw [beq_self_eq_true] at he;refine ai (e1 ..) ?_;refine ai (e2 ..) ?_;exact he G.prog G.w E Q hQ
 ·exact Eu r (by have:A.in1.units=A.units+1:=rfl;lia) hnd hr1 hr2 hQ⟩
noncomputable def ja(arms:List (Nat×Nat))(b:Nat):List ((Nat×Nat)×Nat):=arms.zipIdx.filter λq=>q.1.2 == b
theorem qa(arms:List (Nat×Nat))(q:Nat×Nat)(b:Nat):ja (arms++[q]) b=ja arms b++(if q.2=b then [(q,arms.length)] else []):=by unfold ja;refine ai (List.zipIdx_append ..) ?_;refine ai (fX ..) ?_;congr 1;simp only [ow,List.zipIdx_nil,eC,hZ,qc];by_cases h:q.2=b <;> simp [h]
theorem jH(arms:List (Nat×Nat))(b:Nat):(ja arms b).map (·.1.1)=gT arms b:=by
 induction arms using jG with
 |h0=>rfl
 |h1 l q ih=>
  refine ai (qa ..) ?_;refine ai (qR ..) ?_;refine ai (bh ..) ?_;refine ai (ih ..) ?_
  split <;> rfl
theorem Ew(arms:List (Nat×Nat))(b:Nat):(ja arms b).length<=arms.length:=by unfold ja;exact aw (bu _ _) (by simp)
theorem Pa(arms:List (Nat×Nat))(b:Nat):∀q∈ja arms b,q.2 < arms.length:=λq hq=>by
 have:=List.mem_zipIdx (bl.mp hq).1;omega
theorem bk_b(arms:List (Nat×Nat))(b:Nat):(fF B0 0 arms).b b=((ja arms b).length:Nat):=by
 induction arms using jG with
 |h0=>rfl
 |h1 l q ih=>
  refine ai (kE ..) ?_;refine ai (qa ..) ?_;refine ai (ba ..) ?_;show (if b=q.2 then 1+(fF B0 0 l).b b else (fF B0 0 l).b b)=_;refine ai (ih ..) ?_;by_cases h:b=q.2
  ·(refine ai (if_pos h ..) ?_;refine ai (if_pos h.symm ..) ?_);simp;lia
  ·(refine ai (if_neg h ..) ?_;refine ai (if_neg (gf h) ..) ?_);simp
theorem bk_c(arms:List (Nat×Nat))(b:Nat):(fF B0 0 arms).c b=((ja arms b).map λq=>((q.2:Nat):Int)).sum:=by
 induction arms using jG with
 |h0=>rfl
 |h1 l q ih=>
  refine ai (kE ..) ?_;refine ai (qa ..) ?_;refine ai (bh ..) ?_;refine ai (vm ..) ?_;show (if b=q.2 then ((0+l.length:Nat):Int)+(fF B0 0 l).c b else (fF B0 0 l).c b)=_;refine ai (ih ..) ?_;by_cases h:b=q.2
  ·(refine ai (if_pos h ..) ?_;refine ai (if_pos h.symm ..) ?_);simp;lia
  ·(refine ai (if_neg h ..) ?_;refine ai (if_neg (gf h) ..) ?_);simp
theorem bk_d(arms:List (Nat×Nat))(b:Nat):(fF B0 0 arms).d b=((ja arms b).map λq=>((q.2:Nat):Int)*q.2).sum:=by
 induction arms using jG with
 |h0=>rfl
 |h1 l q ih=>
  refine ai (kE ..) ?_;refine ai (qa ..) ?_;refine ai (bh ..) ?_;refine ai (vm ..) ?_;show (if b=q.2 then ((0+l.length:Nat):Int)*((0+l.length:Nat):Int)+(fF B0 0 l).d b else (fF B0 0 l).d b)=_;refine ai (ih ..) ?_;refine ai (eC ..) ?_;by_cases h:b=q.2
  ·(refine ai (if_pos h ..) ?_;refine ai (if_pos h.symm ..) ?_);simp;lia
  ·(refine ai (if_neg h ..) ?_;refine ai (if_neg (gf h) ..) ?_);simp
theorem bk_a(arms:List (Nat×Nat))(b:Nat):(fF B0 0 arms).a b=((ja arms b).length:Nat) - ((gT arms b).count b:Nat):=by
 induction arms using jG with
 |h0=>rfl
 |h1 l q ih=>
  refine ai (kE ..) ?_;refine ai (qa ..) ?_;refine ai (qR ..) ?_;refine ai (ba ..) ?_;refine ai (sT ..) ?_;show (if b=q.2 then (if q.1=q.2 then (0:Int) else 1)+(fF B0 0 l).a b else (fF B0 0 l).a b)=_;refine ai (ih ..) ?_;by_cases h:b=q.2
  ·(refine ai (if_pos h ..) ?_;refine ai (if_pos h.symm ..) ?_;refine ai (if_pos h.symm ..) ?_)
   by_cases e:q.1=q.2
   ·(refine ai (if_pos e ..) ?_;refine ai (h ..) ?_;refine ai (e ..) ?_);simp;lia
   ·refine ai (if_neg e ..) ?_;have:Aj b [q.1]=0:=by refine gj (mC ..) ?_;intro hm;rw [aA] at hm;exact e (by refine fZ (hm ..) ?_;exact h)
    refine ai (this ..) ?_;simp;lia
  ·(refine ai (if_neg h ..) ?_;refine ai (if_neg (gf h) ..) ?_;refine ai (if_neg (gf h) ..) ?_);simp
noncomputable def fD(l:List Nat):List Nat:=l.foldl (λacc c=>if c∈acc then acc else acc++[c]) []
theorem nW(l:List Nat)(a:Nat):fD (l++[a])=if a∈fD l then fD l else fD l++[a]:=by unfold fD;refine ai (fq ..) ?_;rfl
set_option tactic.hygienic true in
theorem nt(l:List Nat)(c:Nat):c∈fD l↔c∈l:=by
 induction l using jG with
 |h0=>simp [fD]
 |h1 l a ih=>
  refine ai (nW ..) ?_;refine gj (bb ..) ?_;refine gj (aA ..) ?_
  split
  ·rename_i h;refine gj (ih ..) (⟨.inl,λq=>q.elim id λe=>?_⟩);subst e;exact ih.mp h
  ·(refine gj (bb ..) ?_;refine gj (ih ..) ?_;refine gj (aA ..) ?_;rfl)
set_option tactic.hygienic true in
theorem wU(l:List Nat):(fD l).Nodup:=by
 induction l using jG with
 |h0=>exact kP
 |h1 l a ih=>
  refine ai (nW ..) ?_
  split
  ·exact ih
  ·rename_i h;exact gj (bO ..) (⟨ih,by simp,λx hx y hy e=>by rw [aA] at hy;subst hy;subst e;exact h hx⟩)
theorem sh(l:List Nat):cS l=(fD l).map λc=>(c,((l.count c:Nat):Int)):=by
 induction l using jG with
 |h0=>rfl
 |h1 l a ih=>
  have e1:cS (l++[a])=k6 (cS l) a:=by unfold cS;refine ai (fq ..) ?_;rfl
  refine ai (e1 ..) ?_;refine ai (ih ..) ?_;refine ai (nW ..) ?_;unfold k6;have GB:((fD l).map λc=>(c,((l.count c:Nat):Int))).any (λp=>p.1=a)=decide (a∈fD l):=by
   refine gj (cm ..) ?_;refine gj (cT ..) ?_;refine ai (decide_eq_true_eq ..) ?_;constructor
   ·intro gi;refine aK gi λq hq h=>?_;clear gi;refine aK (aG.mp hq) λc hc iC=>?_;subst iC;have:c=a:=by simpa using h
    exact this▸hc
   ·intro h;exact ⟨_,aG.mpr ⟨a,h,rfl⟩,by simp⟩
  refine ai (GB ..) ?_;by_cases h:a∈fD l
  ·(refine ai (decide_eq_true h ..) ?_;refine ai (if_pos rfl ..) ?_;refine ai (if_pos h ..) ?_;refine ai (a0 ..) ?_)
   refine b5 λc hc=>?_;simp only [l6];by_cases e:c=a
   ·subst e;simp
   ·(refine ai (if_neg e ..) ?_;refine ai (sT ..) ?_;refine ai (show Aj c [a]=0 from mC.mpr (by simp [e])) ?_);simp
  ·(refine ai (decide_eq_false h ..) ?_;refine ai (if_neg (by decide) ..) ?_;refine ai (if_neg h ..) ?_;refine ai (bh ..) ?_)
   have h0:a∉l:=λq=>h ((nt l a).mpr q);congr 1
   ·refine b5 λc hc=>?_;have e:c≠a:=λe=>h (e▸hc);(refine ai (sT ..) ?_;refine ai (show Aj c [a]=0 from mC.mpr (by simp [e])) ?_);simp
   ·(refine ai (List.map_singleton ..) ?_;refine ai (sT ..) ?_;refine ai (mC.mpr h0 ..) ?_);simp
theorem Mt{nm:Nat->bc}{g:Nat->V}:∀l:List Nat,(∀a∈l,∀b∈l,nm a=nm b->a=b)->rD (l.map λc=>(nm c,g c))=(fD l).map λc=>(nm c,g c):=by
 intro l;induction l using jG with
 |h0=>intro z;rfl
 |h1 l a ih=>
  intro S6;have hi:∀x∈l,∀y∈l,nm x=nm y->x=y:=λx hx y hy=>S6 x (aE _ hx) y (aE _ hy);refine ai (bh ..) ?_;refine ai (List.map_singleton ..) ?_;refine ai (xR ..) ?_;refine ai (ih hi ..) ?_;refine ai (nW ..) ?_;have GB:((fD l).map λc=>(nm c,g c)).any (λkv=>kv.1=nm a)=decide (a∈fD l):=by
   refine gj (cm ..) ?_;refine gj (cT ..) ?_;refine ai (decide_eq_true_eq ..) ?_;constructor
   ·intro kF;refine aK kF λq hq h=>?_;clear kF;refine aK (aG.mp hq) λc hc l9=>?_;subst l9;have zl:=(nt l c).mp hc;have:c=a:=S6 c (aE _ zl) a (by exact bK _ aa) (by simpa using h);exact this▸hc
   ·intro h;exact ⟨_,aG.mpr ⟨a,h,rfl⟩,by simp⟩
  unfold jE;refine ai (GB ..) ?_;by_cases h:a∈fD l
  ·(refine ai (decide_eq_true h ..) ?_;refine ai (if_pos rfl ..) ?_;refine ai (if_pos h ..) ?_;refine ai (a0 ..) ?_)
   refine b5 λc hc=>?_;simp only [l6];have zl:=(nt l c).mp hc;by_cases e:nm c=nm a
   ·have:c=a:=S6 c (aE _ zl) a (by exact bK _ aa) e;subst this;simp
   ·(refine ai (if_neg e ..) ?_;rfl)
  ·(refine ai (decide_eq_false h ..) ?_;refine ai (if_neg (by decide) ..) ?_;refine ai (if_neg h ..) ?_;refine ai (bh ..) ?_);rfl
theorem Ex:∀i,i < 33->cnt 44 (cC i).cps.toList=0:=by decide+kernel
theorem Co(c:Nat):∀l m:List Nat,cnt c (l++m)=cnt c l+cnt c m
 |[],m=>by simp [cnt_nil]
 |a::l,m=>by (refine ai (fU ..) ?_;refine ai (cnt_cons ..) ?_;refine ai (cnt_cons ..) ?_;refine ai (Co c l m ..) ?_);lia
theorem Ey:∀ts:List (List Nat),(∀t∈ts,cnt 44 t=0)->ts≠[]->cnt 44 (glue ts)=(ts.length:Int) - 1
 |[],_,h=>absurd rfl h
 |[t],h,_=>by (rewrite [glue];refine ai (h t aa ..) ?_);simp
 |t::u::r,h,_=>by
  (rewrite [glue];refine ai (Co ..) ?_;refine ai (Co ..) ?_;refine ai (h t aa ..) ?_;refine ai (Ey (u::r) (λx hx=>h x (ab _ hx)) (by simp) ..) ?_;refine ai (cnt_cons ..) ?_;refine ai (cnt_cons ..) ?_;refine ai (cnt_nil ..) ?_;refine ai (if_pos rfl ..) ?_;refine ai (if_neg (show ¬(32:Nat)=44 by decide) ..) ?_)
  simp only [bJ];lia
theorem u0{low S:Nat}(hl:low < 28)(hS:S < 64/\S≠0):M9 (iy low S) ","=((eY S).length - 1:Nat):=by
 have iQ:=BX hS.1 hS.2;show M9 (iy low S) ⟨#[44]⟩=_;rw [count_cnt];unfold iy;cases hb:eY S with
 |nil=>exact absurd hb iQ
 |cons a l=>
  rw [bA,yb,Ey _ (λt ht=>?_) (by simp)]
  ·simp
  ·rw [<- bA (f:=λb=>cC (low+b)),<- hb,a0] at ht;refine aK (aG.mp ht) λb hbm mD=>?_;subst mD;exact Ex _ (by have:=vN hbm;lia)
noncomputable def HD:ed->List ed| .For _ _ b _ _=>b|_=>[]
noncomputable def yX(n:Nat):List ed:=(HD ((fR (cO 23)).getD 23 (.Pass ⟨0,0,0,0⟩))).drop n
section
variable {b:Nat}{S:Nat->Nat}
noncomputable abbrev Qw(q:(Nat×Nat)×Nat):V:= .tup [nV q.2,nV q.1.1]
noncomputable abbrev zx(ds:List Nat)(b:Nat):List ((Nat×Nat)×Nat):=ja (cX ds) b
noncomputable abbrev cls(ds:List Nat)(b:Nat):List Nat:=gT (cX ds) b
noncomputable abbrev S23(ds:List Nat)(n6:Nat)(lx:ay)(S:Nat->Nat)(Hm Nt cx:ay)(b:Nat):List (Nat×V):=(9,nV b)::I7 ds n6 lx S Hm Nt cx
noncomputable abbrev Pb(ds:List Nat)(n6:Nat)(lx:ay)(S:Nat->Nat)(Hm Nt cx:ay)(b:Nat)(W:List (List Nat)):List (Nat×V):=(36,.list (W.map wV))::(35,FL (aF ds) (cS (cls ds b)))::(27,.list ((zx ds b).map Qw))::S23 ds n6 lx S Hm Nt cx b
theorem Pc:(cls ds b).length<=20:=by refine ai (show cls ds b=(ja (cX ds) b).map (·.1.1) from (jH _ _).symm) ?_;refine ai (ak ..) ?_;exact aw (Ew _ _) (lS 2)
theorem qT:(zx ds b).length<=20:=aw (Ew _ _) (lS 2)
theorem Ez(l:List Nat)(c:Nat):(l.map fA).countP (· == (c:Int))=l.count c:=by refine ai (List.countP_map ..) ?_;delta Aj;congr 1;funext x;refine gj (cm ..) ?_;simp only [l6,beq_iff_eq];exact Nh
def yY.S0(k:Nat)(mu:Mu)(vs:eL)(Θ:AF->Mu->Prop)(L Hm Nt:ay)(ds:List Nat)(b:Nat)(pm doc:aj)(_:Nat):Prop:=∀{cx lx:ay} {n6:Nat} {S:Nat->Nat} (H:Hy G) (he:dz (bT pm doc L)) (hb:b < 6) (hS:Sv vs (S23 ds n6 lx S Hm Nt cx b)) (next:∀vs W,Sv vs (Pb ds n6 lx S Hm Nt cx b W)->W.length<=2000->(∀w,w∈W↔vV (di ds) b [0] w)->WS (k+8) (cy L vs::mu) (bT pm doc L) (yX 3) Θ),WS (k+8) (cy L vs::mu) (bT pm doc L) (yX 0) Θ
namespace yY
@[irreducible] def e0:=HP eO gE gE sZ cM cM cM gE eO gM gM eO S0
def k_:=e0.1
def e9:=e0.2.1
def kQ:=e0.2.2.1
def Θ_:=e0.2.2.2.1
def L_:=e0.2.2.2.2.1
def xG:=e0.2.2.2.2.2.1
def xc:=e0.2.2.2.2.2.2.1
def aV:=e0.2.2.2.2.2.2.2.1
def b_:=e0.2.2.2.2.2.2.2.2.1
def pf:=e0.2.2.2.2.2.2.2.2.2.1
def g8:=e0.2.2.2.2.2.2.2.2.2.2.1
theorem T0:S0 k_ e9 kQ Θ_ L_ xG xc aV b_ pf g8 e0.2.2.2.2.2.2.2.2.2.2.2:=by
 intro cx lx n6 S H he hb hS next
 have d8:=eI aV;have hf:∀{kQ} {l:Mu},bq L_ (aM (L_+1) (bj (cO 23)).names) kQ∈cy L_ kQ::l:=aa;have M1:=lS (ds:=aV) 2;refine aC (bX (y:= .list ((zx aV b_).map Qw)) (bL (nD (cX aV).zipIdx (λq=>V.tup [.int (q.2:Nat),kG q.1]) (λq=>((q.1.2:Int) == (b_:Int))) Qw ⟨rfl,rfl,by decide+kernel,by decide+kernel⟩ (sx (iO H he H.b_enumerate rfl) (ah (j:=10) he (.cell (L_+9) "arms") hf (hS.get rfl))) (by lia) (by refine ai (eW ..) ?_;exact aw M1 (by decide)) (λC1 q hq=>Si 1 2 3 he.comp .loc .loc .loc (fS (da (ah (j:=3) he.comp .loc aa rfl) (ah (j:=9) he.comp (.cell (L_+8) "block") (ab _ hf) (hS.get rfl)) qq)) (λz=>f9 (xs:=[nV q.2,nV q.1.1]) (au (ah (j:=1) he.comp .loc aa rfl) (au (ah (j:=2) he.comp .loc aa rfl) aT)) (by show 2<=2 ^ 20;decide)))) ?c1) (aQ (i:=0) (j:=27) he (.cell (L_+13) "told") rfl ?_) rfl rfl)
 case c1=>refine congrArg V.list ?_;congr 1;delta zx ja;refine fy λq z=>?_;refine gj (cm ..) ?_;simp only [beq_iff_eq];exact Nh
 have hS1:=hS.set (j:=27) (y:= .list ((zx aV b_).map Qw));have uc:∀q∈zx aV b_,q.1.1 < 6:=λq hq=>by
  have:q.1.1∈cls aV b_:=by refine ai (show cls aV b_=(ja (cX aV) b_).map (·.1.1) from (jH _ _).symm) ?_;exact aG.mpr ⟨q,hq,rfl⟩
  exact kq this
 refine aC (WX_dc H.B (zx aV b_) Qw (λz=>aJ) (λq=>(cC (aF aV+q.1.1),V.int ((cls aV b_).count q.1.1:Nat))) ⟨rfl,rfl,by decide+kernel,by decide+kernel⟩ (dB (ah (j:=27) he (.cell (L_+13) "told") hf (hS1.get rfl))) (by lia) (aw qT (by decide)) (λC1 q hq=>Ks 1 2 he.comp .loc .loc dm (λz=>(bE (dF (ah (j:=7) he.comp (.cell (L_+6) "names") (ab _ hf) (hS1.get rfl))) (ah (j:=2) he.comp .loc aa rfl) (ew (j:=q.1.1) (inj:=λb_=>V.str (cC (aF aV+b_))) (bz (uc q hq)) (by decide)))) (λz=>bL (f7 (dF (bL (jO (zx aV b_) Qw (λq=>nV q.1.1) ⟨rfl,rfl,by decide+kernel,by decide+kernel⟩ (dB (ah (j:=27) he.comp (.cell (L_+13) "told") (ab _ hf) (hS1.get rfl))) (by lia) (aw qT (by decide)) (λC2 r hr=>tF 1 2 he.comp.comp .loc .loc dm (λz=>(ah (j:=2) he.comp.comp .loc aa rfl)))) (y:= .list (((cls aV b_).map fA).map .int)) ?c1)) GY (au (ah (j:=2) he.comp .loc aa rfl) aT) Dk ux PySem.F.slot_list_count PySem.F.type_list_count rfl) ?c2)) rfl (λD=>?_))
 case c1=>refine congrArg V.list ?_;refine ai (show cls aV b_=(ja (cX aV) b_).map (·.1.1) from (jH _ _).symm) ?_;refine ai (a0 ..) ?_;refine ai (a0 ..) ?_;rfl
 case c2=>(refine ai (Ez ..) ?_;rfl)
 rw [ky,show ((zx aV b_).map λq=>(cC (aF aV+q.1.1),V.int ((cls aV b_).count q.1.1:Nat)))=(cls aV b_).map (λc=>(cC (aF aV+c),V.int ((cls aV b_).count c:Nat))) by
  conv=>rhs;rw [show cls aV b_=(ja (cX aV) b_).map (·.1.1) from (jH _ _).symm,a0]
  rw [jH];rfl,Mt (nm:=λc=>cC (aF aV+c)) (g:=λc=>V.int ((cls aV b_).count c:Nat)) (cls aV b_) (λx hx y hy e=>(wO d8 (kq hx) (kq hy)).mp e),show ((fD (cls aV b_)).map λc=>(cC (aF aV+c),V.int ((cls aV b_).count c:Nat)))=(cS (cls aV b_)).map (λq=>(cC (aF aV+q.1),V.int q.2)) by rw [sh,a0];rfl]
 refine fK.dict (aQ (i:=0) (j:=35) he .loc rfl ?_);have hS2:=hS1.set (j:=35) (y:=FL (aF aV) (cS (cls aV b_)));refine cu (H.f290.go) λob z z z h0 hd z=>aC (b4 (mj (ml H he H.m_back rfl) h0 hd (cB (cg (ah (j:=32) he .loc hf (hS2.get rfl)) (cB (cg (ah (j:=9) he (.cell (L_+8) "block") hf (hS2.get rfl)) (cB (cg (ij (xs:=[.int 0]) (au aU aT) (by show 1<=2 ^ 20;decide)) (e8 (FW.mono (RP (k:=k_+6) (hs:=di aV) (block:=b_) (marks:=[0]) H sf hb (by decide)) λy nu ⟨e1,W,e2,hl,hw⟩=>?_))))))))) rfl rfl);subst e1 e2;exact aQ (i:=0) (j:=36) he (.cell (L_+14) "ways") rfl (next _ W (hS2.set (j:=36) (y:= .list (W.map wV))) hl hw)
end yY
theorem yY{pm doc:aj}:yY.S0 k mu vs Θ L Hm Nt ds b pm doc 0:=by with_unfolding_all exact CU _ _ _ _ _ _ _ _ _ _ _ _ yY.S0 @yY.T0 k mu vs Θ L Hm Nt ds b pm doc 0
end
section
variable {b:Nat}{S:Nat->Nat}
theorem Gm{low:Nat}(hl:low < 28)(l:List Nat)(h6:∀c∈l,c < 6)(hb:b < 6):(me ((cS l).map λq=>(cC (low+q.1),V.int q.2)) (cC (low+b))).getD (.int 0)= .int (l.count b:Nat):=by
 refine ai (sh ..) ?_;refine ai (a0 ..) ?_;by_cases h:b∈l
 ·have:=gb (low:=low) (l:=fD l) (f:=λc=>V.int (l.count c:Nat)) hl (λc hc=>h6 c ((nt l c).mp hc)) ((nt l b).mpr h);unfold bD at this;refine ai (show ((fD l).map ((λq:Nat×Int=>(cC (low+q.1),V.int q.2))∘λc=>(c,((l.count c:Nat):Int))))=(fD l).map λb=>(cC (low+b),V.int (l.count b:Nat)) from rfl) ?_;refine ai (this ..) ?_;rfl
 ·have hc:l.count b=0:=mC.mpr h;refine ai (hc ..) ?_;have:me ((fD l).map ((λq:Nat×Int=>(cC (low+q.1),V.int q.2))∘λc=>(c,((l.count c:Nat):Int)))) (cC (low+b))=av:=by
   delta me;refine gj (PY ..) ?_;refine gj (Af ..) ?_;intro q hq;refine aK (aG.mp hq) λc hc dP=>?_;subst dP;intro e;have zl:=(nt l c).mp hc;have:c=b:=(wO hl (h6 c zl) hb).mp (by simpa using e);exact h (this▸zl)
  refine ai (this ..) ?_;rfl
theorem Sj(b:Nat):rn (aF ds) (lT ds) b= .tup [.int (((zx ds b).length:Nat) - ((cls ds b).count b:Nat)),.int ((zx ds b).length:Nat),.int ((zx ds b).map λq=>((q.2:Nat):Int)).sum,.int ((zx ds b).map λq=>((q.2:Nat):Int)*q.2).sum,FL (aF ds) (cS (cls ds b))]:=by show V.tup [.int ((fF B0 0 (cX ds)).a b),.int ((fF B0 0 (cX ds)).b b),.int ((fF B0 0 (cX ds)).c b),.int ((fF B0 0 (cX ds)).d b),FL (aF ds) ((fF B0 0 (cX ds)).cs b)]=_;refine ai (bk_a ..) ?_;refine ai (bk_b ..) ?_;refine ai (bk_c ..) ?_;refine ai (bk_d ..) ?_;refine ai (A9 ..) ?_;rfl
theorem Mv:∀i,i < 33->pD (cC i)=aJ:=by decide+kernel
theorem Bc:∀{l:List bc},(∀x∈l,pD x=aJ)->pd (l.map .str)=ae (l.map .str)/\zE (l.map PyData.str)=0
 |[],_=>⟨rfl,rfl⟩
 |x::l,h=>by
  refine dU (Bc λy hy=>h y (ab _ hy)) λh1 h2=>⟨?_,?_⟩
  ·show (if pD x then ae (PyData.str x) else av).bind (λd=>(pd (l.map .str)).map (d::·))=_;rw [h1,if_pos (h x aa)];rfl
  ·simp [zE,PyData.depth] at h2 ⊢;exact h2
theorem I8{l:List bc}(h:∀x∈l,pD x=aJ):s7 k mu .NotEq (bZ (.list (l.map .str))) (bZ (.list (l.map .str))) aH:=by exact dU (Bc h) λh1 h2=>A0 (d:= .list (l.map .str)) (congrArg (Option.map PyData.list) h1) (by simp [PyData.depth,h2])
theorem I9(l:List Nat):(fD l).length<=l.length:=by
 induction l using jG with
 |h0=>exact bp _
 |h1 l a ih=>
  refine ai (nW ..) ?_;refine ai (ba ..) ?_
  split
  ·exact aw ih (dE _ _)
  ·refine ai (ba ..) ?_;simpa using ih
theorem EA:∀q∈cS (cls ds b),q.1 < 6:=λq hq=>kq ((pY _ _).mp (aG.mpr ⟨q,hq,rfl⟩))
theorem Mw:((cS (cls ds b)).map (·.1)).Nodup:=by refine ai (sh ..) ?_;refine ai (a0 ..) ?_;exact ai (show ((fD (cls ds b)).map ((λx:Nat×Int=>x.1)∘λc=>(c,(((cls ds b).count c:Nat):Int))))=fD (cls ds b) from xt _) (wU _)
def yZ.S0(k:Nat)(mu:Mu)(vs:eL)(L:ay)(ds:List Nat)(b:Nat)(pm doc:aj):Prop:=∀{Θ:AF->Mu->Prop} {Hm Nt cx lx:ay} {n6:Nat} {S:Nat->Nat} {W:List (List Nat)} (H:Hy G) (he:dz (bT pm doc L)) (hb:b < 6) (zA:b∈[1,2,3,4,5]) (hS:Sv vs (Pb ds n6 lx S Hm Nt cx b W)) (next:WS (k+8) (cy L vs::mu) (bT pm doc L) (yX 4) Θ),WS (k+8) (cy L vs::mu) (bT pm doc L) (yX 3) Θ
namespace yZ
@[irreducible] def e0:=Nl eO gE gE cM gE eO gM gM S0
def k_:=e0.1
def e9:=e0.2.1
def kQ:=e0.2.2.1
def L_:=e0.2.2.2.1
def aV:=e0.2.2.2.2.1
def b_:=e0.2.2.2.2.2.1
def pf:=e0.2.2.2.2.2.2.1
def g8:=e0.2.2.2.2.2.2.2
theorem T0:S0 k_ e9 kQ L_ aV b_ pf g8:=by
 intro Θ Hm Nt cx lx n6 S W H he hb zA hS next
 have d8:=eI aV;have hf:∀{kQ} {l:Mu},bq L_ (aM (L_+1) (bj (cO 23)).names) kQ∈cy L_ kQ::l:=aa;have M1:(cX aV).length<=20:=lS (ds:=aV) 2;have hnd:=Em d8 (c:=cS (cls aV b_)) EA Mw;refine aC (iY (b:=aH || (aH || false)) (oJ (iN ?t1 λz=>iN ?t2 λz=>jn)) (λh=>by exact vy h) λz=>bB next)
 case t1=>
  refine da (bL (bE (pJ (ah (j:=41) he (.cell (L_+15) "book") hf (hS.get rfl))) (bE (dF (ah (j:=7) he (.cell (L_+6) "names") hf (hS.get rfl))) (ah (j:=9) he (.cell (L_+8) "block") hf (hS.get rfl)) (ew (j:=b_) (inj:=λb_=>V.str (cC (aF aV+b_))) (bz hb) (by decide))) (mf (gb d8 (by decide) zA))) (Sj b_)) (f9 (xs:=[.int (((zx aV b_).length:Nat) - ((cls aV b_).count b_:Nat)),.int ((zx aV b_).length:Nat),.int ((zx aV b_).map λq=>((q.2:Nat):Int)).sum,.int ((zx aV b_).map λq=>((q.2:Nat):Int)*q.2).sum,FL (aF aV) (cS (cls aV b_))]) (au (br (bL (ej (j3 H he H.b_len rfl) (au (dF (ah (j:=27) he (.cell (L_+13) "told") hf (hS.get rfl))) aT) (mh (by refine ai (ak ..) ?_;exact aw qT (by decide)))) (congrArg (λn:Nat=>V.int n) (ak _))) (bL (f7 (ah (j:=35) he .loc hf (hS.get rfl)) rL (au (bE (dF (ah (j:=7) he (.cell (L_+6) "names") hf (hS.get rfl))) (ah (j:=9) he (.cell (L_+8) "block") hf (hS.get rfl)) (ew (j:=b_) (inj:=λb_=>V.str (cC (aF aV+b_))) (bz hb) (by decide))) (au aU aT)) O9 NN QT PySem.F.type_dict_get rfl) (Gm d8 (cls aV b_) (λc hc=>kq hc) hb)) vz) (au (bL (ej (j3 H he H.b_len rfl) (au (dF (ah (j:=27) he (.cell (L_+13) "told") hf (hS.get rfl))) aT) (mh (by refine ai (ak ..) ?_;exact aw qT (by decide)))) (congrArg (λn:Nat=>V.int n) (ak _))) (au (ej (j3 H he H.b_sum rfl) (au (dF (jO (zx aV b_) Qw (λq=>nV q.2) ⟨rfl,rfl,by decide+kernel,by decide+kernel⟩ (dB (ah (j:=27) he (.cell (L_+13) "told") hf (hS.get rfl))) (by lia) (aw qT (by decide)) (λC2 r hr=>tF 1 2 he.comp .loc .loc dm (λz=>(ah (j:=1) he.comp .loc aa rfl))))) aT) (uI (f:=λq:(Nat×Nat)×Nat=>((q.2:Nat):Int)))) (au (ej (j3 H he H.b_sum rfl) (au (dF (jO (zx aV b_) Qw (λq=>V.int (((q.2:Nat):Int)*q.2)) ⟨rfl,rfl,by decide+kernel,by decide+kernel⟩ (dB (ah (j:=27) he (.cell (L_+13) "told") hf (hS.get rfl))) (by lia) (aw qT (by decide)) (λC2 r hr=>tF 1 2 he.comp .loc .loc dm (λz=>br (ah (j:=1) he.comp .loc aa rfl) (ah (j:=1) he.comp .loc aa rfl) (mX (by have:=Pa _ _ r hr;lia)))))) aT) (uI (f:=λq:(Nat×Nat)×Nat=>((q.2:Nat):Int)*q.2))) (au (ah (j:=35) he .loc hf (hS.get rfl)) aT))))) (by show 5<=2 ^ 20;decide)) ?cmp
  case cmp=>
   refine Ms λx hx=>?_;simp only [aP,eZ,or_false] at hx;rcases hx with rfl|rfl|rfl|rfl|rfl
   ·exact .inl ⟨_,rfl⟩
   ·exact .inl ⟨_,rfl⟩
   ·exact .inl ⟨_,rfl⟩
   ·exact .inl ⟨_,rfl⟩
   ·refine .inr ⟨Ei (aF aV) (cS (cls aV b_)),hnd,?_⟩;delta FL Ei;refine ai (a0 ..) ?_;rfl
 case t2=>
  have QI:(cS (cls aV b_)).length<=1000:=by (refine ai (sh ..) ?_;refine ai (ak ..) ?_);exact aw (I9 _) (aw Pc (by decide))
  refine da (iZ (iO H he H.b_list rfl) (au (bL (bE (bE (pJ (ah (j:=41) he (.cell (L_+15) "book") hf (hS.get rfl))) (bE (dF (ah (j:=7) he (.cell (L_+6) "names") hf (hS.get rfl))) (ah (j:=9) he (.cell (L_+8) "block") hf (hS.get rfl)) (ew (j:=b_) (inj:=λb_=>V.str (cC (aF aV+b_))) (bz hb) (by decide))) (mf (gb d8 (by decide) zA))) aU tH) (congrArg (FL (aF aV)) (A9 (cX aV) b_))) aT) (Ba ?len)) (iZ (iO H he H.b_list rfl) (au (ah (j:=35) he .loc hf (hS.get rfl)) aT) (Ba ?zM)) ?cmp2
  case len=>refine ai (ak ..) ?_;exact QI
  case zM=>refine ai (ak ..) ?_;exact QI
  case cmp2=>
   refine ai (a0 ..) ?_;have:=I8 (k:=k_+8) (mu:=cy L_ kQ::e9) (l:=(cS (cls aV b_)).map λq=>cC (aF aV+q.1)) (λx hx=>by
    refine aK (aG.mp hx) λq hq eT=>?_;subst eT;exact Mv _ (by have:=EA q hq;lia))
   rw [a0] at this;exact this
end yZ
theorem yZ{pm doc:aj}:yZ.S0 k mu vs L ds b pm doc:=by with_unfolding_all exact Bu _ _ _ _ _ _ _ _ yZ.S0 @yZ.T0 k mu vs L ds b pm doc
end
section
variable {b:Nat}{S:Nat->Nat}
theorem Gn(c:Cs)(a:Nat):((k6 c a).map (·.2)).sum=(c.map (·.2)).sum+1\/¬(c.map (·.1)).Nodup:=by
 by_cases hnd:(c.map (·.1)).Nodup
 ·left
  unfold k6;by_cases h:c.any (λp=>p.1=a)
  ·refine ai (if_pos h ..) ?_;induction c with
   |nil=>simp at h
   |cons q c ih=>
    rw [bA,cj] at hnd;simp only [bA,df];by_cases e:q.1=a
    ·have Bo:∀p∈c,p.1≠a:=λp hp e2=>hnd.1 (by (refine ai (e ..) ?_;refine fZ (e2 ..) ?_);exact aG.mpr ⟨p,hp,rfl⟩);have:(c.map λp=>if p.1=a then (p.1,p.2+1) else p)=c:=by
      conv=>rhs;rw [<- xt c]
      exact b5 λp hp=>by simp [Bo p hp]
     rw [this];simp [e];lia
    ·have h':c.any (λp=>p.1=a)=aJ:=by simpa [e] using h
     have:=ih hnd.2 h';rw [this];simp [e];lia
  ·rw [if_neg h];simp
 ·exact .inr hnd
theorem Bd(l:List Nat):((cS l).map (·.2)).sum=(l.length:Nat):=by
 have key:∀l:List Nat,((cS l).map (·.1)).Nodup:=λl=>by
  refine ai (sh ..) ?_;refine ai (a0 ..) ?_;exact ai (show ((fD l).map ((λx:Nat×Int=>x.1)∘λc=>(c,((l.count c:Nat):Int))))=fD l from xt _) (wU _)
 induction l using jG with
 |h0=>rfl
 |h1 l a ih=>
  have e1:cS (l++[a])=k6 (cS l) a:=by unfold cS;refine ai (fq ..) ?_;rfl
  refine ai (e1 ..) ?_;rcases Gn (cS l) a with h|h
  ·(refine ai (h ..) ?_;refine ai (ih ..) ?_);simp
  ·exact absurd (key l) h
theorem Pd{hs W:List (List Nat)}(zA:b∈[1,2,3,4,5])(hT:sg hs S)(hW:∀w,w∈W↔vV hs b [0] w):(aN 6).filter (λo:Nat=>((o:Int) == (b:Int)) || (((W.filter λw=>!decide (o∈w)).map λz=>V.int 1).isEmpty || false))=eY (S b):=by
 unfold eY;refine fy λo ho=>?_;have ho6:=aY.mp ho;refine gj (cm ..) ?_;refine gj (hT.fin b zA o ho6 ..) ?_;have zj:b≠0:=by rintro rfl;revert zA;decide
 simp only [jU,beq_iff_eq,zB,uk,jc,gY];constructor
 ·rintro (h|h)
  ·exact .inl (Nh.mp h)
  ·exact .inr ⟨zj,λw hw=>by simpa using h w ((hW w).mpr hw)⟩
 ·rintro (h|⟨_,h⟩)
  ·exact .inl (by (refine ai (h ..) ?_;rfl))
  ·exact .inr λw hw=>by simpa using h w ((hW w).mp hw)
def y6.S0(k:Nat)(mu:Mu)(vs:eL)(L Hm Nt cx lx:ay)(ds:List Nat)(n6 b:Nat)(S:Nat->Nat)(pm doc:aj)(W:List (List Nat))(_:Nat):Prop:=∀{Θ:AF->Mu->Prop} (H:Hy G) (he:dz (bT pm doc L)) (hb:b < 6) (zA:b∈[1,2,3,4,5]) (hS:Sv vs (Pb ds n6 lx S Hm Nt cx b W)) (hT:sg (di ds) S) (QM:W.length<=2000) (hW:∀w,w∈W↔vV (di ds) b [0] w) (next:WS (k+8) (cy L vs::mu) (bT pm doc L) (yX 5) Θ),WS (k+8) (cy L vs::mu) (bT pm doc L) (yX 4) Θ
namespace y6
@[irreducible] def e0:=Fj eO gE gE cM cM cM cM cM gE eO eO inferInstance gM gM gE eO S0
def k_:=e0.1
def e9:=e0.2.1
def kQ:=e0.2.2.1
def L_:=e0.2.2.2.1
def xG:=e0.2.2.2.2.1
def xc:=e0.2.2.2.2.2.1
def vR:=e0.2.2.2.2.2.2.1
def y5:=e0.2.2.2.2.2.2.2.1
def aV:=e0.2.2.2.2.2.2.2.2.1
def gP:=e0.2.2.2.2.2.2.2.2.2.1
def b_:=e0.2.2.2.2.2.2.2.2.2.2.1
def S_:=e0.2.2.2.2.2.2.2.2.2.2.2.1
def pf:=e0.2.2.2.2.2.2.2.2.2.2.2.2.1
def g8:=e0.2.2.2.2.2.2.2.2.2.2.2.2.2.1
def W_:=e0.2.2.2.2.2.2.2.2.2.2.2.2.2.2.1
theorem T0:S0 k_ e9 kQ L_ xG xc vR y5 aV gP b_ S_ pf g8 W_ e0.2.2.2.2.2.2.2.2.2.2.2.2.2.2.2:=by
 intro Θ H he hb zA hS hT QM hW next
 have d8:=eI aV;have hf:∀{kQ} {l:Mu},bq L_ (aM (L_+1) (bj (cO 23)).names) kQ∈cy L_ kQ::l:=aa;have CP:∀c∈aN 6,c < 6:=λc hc=>aY.mp hc;refine cu (H.f270.go) λob z z z h0 hd z=>?_;have hsm:((Ei (aF aV) (cS (cls aV b_))).map (·.2)).sum=((zx aV b_).length:Nat):=by refine ai (a0 ..) ?_;refine ai (show ((cS (cls aV b_)).map ((λx:bc×Int=>x.2)∘λq=>(cC (aF aV+q.1),q.2)))=(cS (cls aV b_)).map (·.2) from rfl) ?_;refine ai (Bd ..) ?_;refine ai (show cls aV b_=(ja (cX aV) b_).map (·.1.1) from (jH _ _).symm) ?_;refine ai (ak ..) ?_;rfl
 refine aC (iY (b:=(((zx aV b_).length:Nat):Int) != ((zx aV b_).length:Nat) || ((iy (aF aV) (S_ b_) != iy (aF aV) (S_ b_)) || false)) (oJ (iN ?t1 λz=>iN ?t2 λz=>jn)) (λh=>by simp at h) λz=>bB next)
 case t1=>exact da (ju (ys:=[FL (aF aV) (cS (cls aV b_))]) (ml H he H.m_count rfl) h0 hd (au (bL (bE (bE (pJ (ah (j:=41) he (.cell (L_+15) "book") hf (hS.get rfl))) (bE (dF (ah (j:=7) he (.cell (L_+6) "names") hf (hS.get rfl))) (ah (j:=9) he (.cell (L_+8) "block") hf (hS.get rfl)) (ew (j:=b_) (inj:=λb_=>V.str (cC (aF aV+b_))) (bz hb) (by decide))) (mf (gb d8 (by decide) zA))) aU tH) (congrArg (FL (aF aV)) (A9 (cX aV) b_))) aT) (by refine ai (Cb ..) ?_;exact FW.mono (Hd (k:=k_+6) H) λy nu h=>⟨h.2.trans (congrArg V.int hsm),h.1⟩)) (bL (ej (j3 H he H.b_len rfl) (au (dF (ah (j:=27) he (.cell (L_+13) "told") hf (hS.get rfl))) aT) (mh (by refine ai (ak ..) ?_;exact aw qT (by decide)))) (congrArg (λn:Nat=>V.int n) (ak _))) Fq
 case t2=>
  have hjn:iy (aF aV) (S_ b_)=fO ", " (((aN 6).filter (λo:Nat=>((o:Int) == (b_:Int)) || (((W_.filter λw=>!decide (o∈w)).map λz=>V.int 1).isEmpty || false))).map λo=>cC (aF aV+o)):=by refine ai (Pd zA hT hW ..) ?_;rfl
  refine da (bE (pJ (ah (j:=46) he (.cell (L_+20) "table") hf (hS.get rfl))) (bE (dF (ah (j:=7) he (.cell (L_+6) "names") hf (hS.get rfl))) (ah (j:=9) he (.cell (L_+8) "block") hf (hS.get rfl)) (ew (j:=b_) (inj:=λb_=>V.str (cC (aF aV+b_))) (bz hb) (by decide))) (mf (gb d8 CP (aY.mpr hb)))) (bL (f7 cP mJ (au (dF (nD (aN 6) nV (λo:Nat=>((o:Int) == (b_:Int)) || (((W_.filter λw=>!decide (o∈w)).map λz=>V.int 1).isEmpty || false)) (λo=>V.str (cC (aF aV+o))) ⟨rfl,rfl,by decide+kernel,by decide+kernel⟩ (fJ (n:=6) (iO H he H.b_range rfl) aU rfl (by decide)) (by lia) (by decide) (λC2 a ha=>iu 1 he.comp (.cell (C2+1) "other") (fS (oJ (iN (da (ah (j:=1) he.comp (.cell (C2+1) "other") aa rfl) (ah (j:=9) he.comp (.cell (L_+8) "block") (ab _ hf) (hS.get rfl)) qq) (λz=>iN (da (nD W_ wV (λw=>!decide (a∈w)) (λz=>V.int 1) ⟨rfl,rfl,by decide+kernel,by decide+kernel⟩ (dB (ah (j:=36) he.comp (.cell (L_+14) "ways") (ab _ hf) (hS.get rfl))) (by lia) (aw QM (by decide)) (λC3 w hw=>iu 1 he.comp.comp .loc (fS (da (ah (j:=1) he.comp.comp (.cell (C2+1) "other") (ab _ aa) rfl) (dF (ah (j:=1) he.comp.comp .loc aa rfl)) Hb)) (λhb=>aU))) (ij (xs:=[]) aT (bg rfl)) (Fz (nj _ _))) (λz=>jn))))) (λz=>(bE (dF (ah (j:=7) he.comp (.cell (L_+6) "names") (ab _ hf) (hS.get rfl))) (ah (j:=1) he.comp (.cell (C2+1) "other") aa rfl) (ew (j:=a) (inj:=λb_=>V.str (cC (aF aV+b_))) (bz (CP a ha)) (by decide))))))) aT) (rJ (f:=λo=>cC (aF aV+o)) ?hok) (by exact eN) (by exact ny) (by exact b9) rfl) (congrArg V.str hjn.symm)) tw
  case hok=>
   refine nc (B:=20) (λt ht=>?_) ?_
   ·refine aK (aG.mp ht) λo ho dP=>?_;subst dP;have h6:=CP o (bl.mp ho).1;exact BS _ (by lia)
   ·refine ai (ak ..) ?_;have h1:=bu (λo:Nat=>((o:Int) == (b_:Int)) || (((W_.filter λw=>!decide (o∈w)).map λz=>V.int 1).isEmpty || false)) (aN 6);rw [fo] at h1;have h2:(", ":bc).length=2:=rfl;refine ai (h2 ..) ?_;lia
end y6
theorem y6{pm doc:aj}{W:List (List Nat)}:y6.S0 k mu vs L Hm Nt cx lx ds n6 b S pm doc W 0:=by with_unfolding_all exact An _ _ _ _ _ _ _ _ _ _ _ _ _ _ _ _ y6.S0 @y6.T0 k mu vs L Hm Nt cx lx ds n6 b S pm doc W 0
end
section
variable {b:Nat}{S:Nat->Nat}
noncomputable def zV(S:Nat->Nat)(o:Nat):Nat:=(eY (S o)).length - 1
noncomputable def jR(S:Nat->Nat)(b o:Nat):Nat->Int
 |0=>if (o != b && (S b).testBit o) then 1 else 0
 |1=>(zV S o:Nat) / 2
 |_=>(zV S o:Nat) % 2
theorem Qx{S:Nat->Nat}{b o:Nat}:jR S b o 0=0\/jR S b o 0=1:=by
 show (if (o != b && (S b).testBit o) then (1:Int) else 0)=0\/(if (o != b && (S b).testBit o) then (1:Int) else 0)=1
 split
 ·exact .inr rfl
 ·exact .inl rfl
noncomputable abbrev xd(low:Nat)(S:Nat->Nat)(b o:Nat):V:= .tup [.int (jR S b o 0),.int (jR S b o 1),.int (jR S b o 2),.str (cC (low+o))]
noncomputable def y7(S:Nat->Nat)(b o:Nat):Int:=6*jR S b o 0+(zV S o:Nat)
theorem Cp(S:Nat->Nat)(o:Nat):zV S o < 6:=by
 delta zV;have:(eY (S o)).length<=6:=by delta eY;exact aw (bu _ _) (by decide)
 omega
def oW.S0(S:Nat->Nat)(b r x:Nat):Prop:=(vQ (jR S b r) (jR S b x) < 0)↔y7 S b x < y7 S b r
namespace oW
@[irreducible] def e0:=GT inferInstance eO eO eO S0
def S_:=e0.1
def b_:=e0.2.1
def r_:=e0.2.2.1
def x_:=e0.2.2.2
theorem T0:S0 S_ b_ r_ x_:=by
 delta S0;have h1:=Cp S_ r_;have h2:=Cp S_ x_;delta vQ y7;have a1:jR S_ b_ r_ 1=(zV S_ r_:Nat) / 2:=rfl;have a2:jR S_ b_ x_ 1=(zV S_ x_:Nat) / 2:=rfl;have a3:jR S_ b_ r_ 2=(zV S_ r_:Nat) % 2:=rfl;have a4:jR S_ b_ x_ 2=(zV S_ x_:Nat) % 2:=rfl;have a5:jR S_ b_ r_ 0=0\/jR S_ b_ r_ 0=1:=Qx;have a6:jR S_ b_ x_ 0=0\/jR S_ b_ x_ 0=1:=Qx;generalize jR S_ b_ r_ 0=p at*;generalize jR S_ b_ x_ 0=q at*;generalize jR S_ b_ r_ 1=p1 at*;generalize jR S_ b_ x_ 1=q1 at*;generalize jR S_ b_ r_ 2=p2 at*;generalize jR S_ b_ x_ 2=q2 at*
 repeat' split
 all_goals lia
end oW
theorem oW(S:Nat->Nat)(b r x:Nat):oW.S0 S b r x:=by with_unfolding_all exact vx _ _ _ _ oW.S0 @oW.T0 S b r x
noncomputable def xe(b:Nat):List Nat:=if b % 2=1 then (aN 6).reverse else aN 6
set_option tactic.hygienic true in
theorem Ja(b:Nat):jq (aN 6) av av (ae (1 - 2*((b:Int) % 2)))=xe b:=by
 delta xe
 split
 ·rename_i h;exact ai (show (1:Int) - 2*((b:Int) % 2)= -1 by lia) (Bb.2 (by rfl))
 ·exact ai (show (1:Int) - 2*((b:Int) % 2)=1 by lia) (Bb.1)
theorem y8{b o:Nat}:o∈xe b↔o < 6:=by
 delta xe
 split <;> simp
theorem EB(b:Nat):(xe b).length=6:=by
 delta xe
 split <;> simp
noncomputable abbrev EC(ds:List Nat)(n6:Nat)(lx:ay)(S:Nat->Nat)(Hm Nt cx:ay)(b x:Nat):List (Nat×V):=(38,xd (aF ds) S b x)::(37,.list ((xe b).map (xd (aF ds) S b)))::S23 ds n6 lx S Hm Nt cx b
theorem b23_d(H:Hy G){pm doc:aj}(he:dz (bT pm doc L))(hb:b < 6){W:List (List Nat)}(hS:Sv vs (Pb ds n6 lx S Hm Nt cx b W))(hT:sg (di ds) S)
 (next:∀vs x,x < 6->Sv vs (EC ds n6 lx S Hm Nt cx b x)->WS (k+8) (cy L vs::mu) (bT pm doc L) (yX 7) Θ):
 WS (k+8) (cy L vs::mu) (bT pm doc L) (yX 5) Θ:=by
 have d8:=eI ds;have hf:∀{vs} {l:Mu},bq L (aM (L+1) (bj (cO 23)).names) vs∈cy L vs::l:=aa;have CP:∀c∈aN 6,c < 6:=λc hc=>aY.mp hc;refine aC (bX (y:= .list ((xe b).map (xd (aF ds) S b))) (bL (bE (dF (jO (aN 6) (λo=>V.str (cC (aF ds+o))) (xd (aF ds) S b) ⟨rfl,rfl,by decide+kernel,by decide+kernel⟩ (dB (ah (j:=7) he (.cell (L+6) "names") hf (hS.get rfl))) (by lia) (by decide) (λC1 a ha=>?turn))) (jo dN dN (eQ (br aU (br aU (br (ah (j:=9) he (.cell (L+8) "block") hf (hS.get rfl)) aU (fk (by decide))) (mX (by decide))) vz))) (o9 (λh=>by have:=aO h;lia) (by refine ai (ak ..) ?_;decide))) (by (refine ai (jr ..) ?_;refine ai (Ja ..) ?_;rfl))) (aQ (i:=0) (j:=37) he .loc rfl ?_) rfl rfl)
 case turn=>
  have PJ:=aY.mp ha;refine iu 1 he.comp .loc dm (λz=>f9 (xs:=[.int (jR S b a 0),.int (jR S b a 1),.int (jR S b a 2),.str (cC (aF ds+a))]) (au ?c0 (au (br (bL (f7 (bE (pJ (ah (j:=46) he.comp (.cell (L+20) "table") (ab _ hf) (hS.get rfl))) (ah (j:=1) he.comp .loc aa rfl) (mf (gb d8 CP (aY.mpr PJ)))) mJ (au cP aT) rH (by exact eN) (by exact F.slot_str_count) (by exact b9) rfl) (congrArg V.int (u0 d8 (hT.ok a)))) aU (l8 (by decide))) (au (br (bL (f7 (bE (pJ (ah (j:=46) he.comp (.cell (L+20) "table") (ab _ hf) (hS.get rfl))) (ah (j:=1) he.comp .loc aa rfl) (mf (gb d8 CP (aY.mpr PJ)))) mJ (au cP aT) rH (by exact eN) (by exact F.slot_str_count) (by exact b9) rfl) (congrArg V.int (u0 d8 (hT.ok a)))) aU (fk (by decide))) (au (ah (j:=1) he.comp .loc aa rfl) aT)))) (by show 4<=2 ^ 20;decide))
  case c0=>refine bL (iZ (iO H he.comp H.b_int rfl) (au (O8 (mH (ah (j:=1) he.comp .loc aa rfl) (bE (dF (ah (j:=7) he.comp (.cell (L+6) "names") (ab _ hf) (hS.get rfl))) (ah (j:=9) he.comp (.cell (L+8) "block") (ab _ hf) (hS.get rfl)) (ew (j:=b) (inj:=λb=>V.str (cC (aF ds+b))) (bz hb) (by decide))) tw) (λz=>mH (ah (j:=1) he.comp .loc aa rfl) (dF (bL (f7 (bE (pJ (ah (j:=46) he.comp (.cell (L+20) "table") (ab _ hf) (hS.get rfl))) (bE (dF (ah (j:=7) he.comp (.cell (L+6) "names") (ab _ hf) (hS.get rfl))) (ah (j:=9) he.comp (.cell (L+8) "block") (ab _ hf) (hS.get rfl)) (ew (j:=b) (inj:=λb=>V.str (cC (aF ds+b))) (bz hb) (by decide))) (mf (gb d8 CP (aY.mpr hb)))) mJ (au cP aT) (ku rfl (by have:=vO (S:=S b) d8;show _<=2 ^ 24;exact aw (by assumption) (by decide)) (yd d8)) (by exact eN) (by exact jW) (by exact b9) rfl) (y:= .list (((eY (S b)).map λo=>cC (aF ds+o)).map .str)) (by (refine ai (oO (hT.ok b).1 (hT.ok b).2 d8 ..) ?_;rfl)))) FA)) aT) rE) ?_;refine ai (vP d8 PJ ..) ?_;show V.int _=V.int (if (a != b && (S b).testBit a) then 1 else 0);refine ai (show (cC (aF ds+a) != cC (aF ds+b))=(a != b) from congrArg not (rQ d8 PJ hb)) ?_;rfl
 obtain ⟨x,hx⟩:∃x,(xe b)[0]? =ae x:=⟨_,bH (by refine ai (EB ..) ?_;decide)⟩;have hx6:x < 6:=y8.mp (ao hx);have hS1:=hS.set (j:=37) (y:= .list ((xe b).map (xd (aF ds) S b)));refine aC (bX (y:=xd (aF ds) S b x) (bE (dF (ah (j:=37) he .loc hf (hS1.get rfl))) aU (ew (j:=0) (inj:=xd (aF ds) S b) hx (by refine ai (EB ..) ?_;decide))) (aQ (i:=0) (j:=38) he .loc rfl ?_) rfl rfl);exact next _ x hx6 ((hS1.set (j:=38) (y:=xd (aF ds) S b x)).sub ⟨rfl,rfl,rfl,rfl,rfl,rfl,rfl,rfl,rfl,rfl,rfl,rfl,rfl,rfl,rfl,trivial⟩)
end
section
variable {b:Nat}{S:Nat->Nat}
def y9.S0(k:Nat)(mu:Mu)(L Hm Nt cx lx:ay)(ds:List Nat)(n6 b:Nat)(S:Nat->Nat)(pm doc:aj)(_:Nat):Prop:=∀{vs:eL} {Θ:AF->Mu->Prop} {dc:ay} {K:gn} {x0:Nat} (H:Hy G) (LH:fL G K) (he:dz (bT pm doc L)) (hx0:x0 < 6) (z9:Sv vs (EC ds n6 lx S Hm Nt cx b x0)) (hcx:gI cx 245 dc [("comp_select_list",DE)]∈mu) (next:∀vs x,x < 6->(∀o,o < 6->y7 S b o<=y7 S b x)->Sv vs (EC ds n6 lx S Hm Nt cx b x)->WS (k+8) (cy L vs::mu) (bT pm doc L) (yX 8) Θ),WS (k+8) (cy L vs::mu) (bT pm doc L) (yX 7) Θ
namespace y9
@[irreducible] def e0:=NP eO gE cM cM cM cM cM gE eO eO inferInstance gM gM eO S0
def k_:=e0.1
def e9:=e0.2.1
def L_:=e0.2.2.1
def xG:=e0.2.2.2.1
def xc:=e0.2.2.2.2.1
def vR:=e0.2.2.2.2.2.1
def y5:=e0.2.2.2.2.2.2.1
def aV:=e0.2.2.2.2.2.2.2.1
def gP:=e0.2.2.2.2.2.2.2.2.1
def b_:=e0.2.2.2.2.2.2.2.2.2.1
def S_:=e0.2.2.2.2.2.2.2.2.2.2.1
def pf:=e0.2.2.2.2.2.2.2.2.2.2.2.1
def g8:=e0.2.2.2.2.2.2.2.2.2.2.2.2.1
theorem T0:S0 k_ e9 L_ xG xc vR y5 aV gP b_ S_ pf g8 e0.2.2.2.2.2.2.2.2.2.2.2.2.2:=by
 intro vs Θ dc K x0 H LH he hx0 z9 hcx next
 refine cu (LH.f242.go) λob z z z h0 hd z=>?_;have hf:∀{vs} {l:Mu},bq L_ (aM (L_+1) (bj (cO 23)).names) vs∈cy L_ vs::l:=aa;refine aC (jN (ctx:=[]) (xs:=(xe b_).map (xd (aF aV) S_ b_)) (λi nu=>∃vs x,nu=cy L_ vs::e9/\Sv vs (EC aV gP y5 S_ xG xc vR b_ x)/\x < 6/\∀o∈(xe b_).take i,y7 S_ b_ o<=y7 S_ b_ x) (dB (ah (j:=37) he .loc hf (z9.get rfl))) (by lia) ⟨vs,x0,rfl,z9,hx0,by simp⟩ (λi nu h o ho=>(el ho)) ?step ?fin)
 case step=>
  intro i y nu hy dP;refine ir dP λvs x eT hS hx hk=>?_;clear dP;subst eT;rw [aI] at hy;refine aK (aL.mp hy) λr hr gi=>?_;subst gi;refine aQ (i:=0) (j:=28) he .loc rfl ?_;have hS1:=hS.set (j:=28) (y:=xd (aF aV) S_ b_ r);have Ui:=ab (cy L_ (vs.set 28 (ae (xd (aF aV) S_ b_ r)))) hcx;refine aC (xN (Hh (BY LH.KO LH.m_comp (ah (j:=34) he .loc hf (hS1.get rfl)) Ui (by show ("compare":bc)∉(["comp_select_list"]:List bc);decide) h0 hd (cB (cg (ah (j:=28) he .loc hf (hS1.get rfl)) (cB (cg (ah (j:=38) he .loc hf (hS1.get rfl)) (e8 (FW.mono (lI (k:=k_+6) (a:=jR S_ b_ r) (b:=jR S_ b_ x) H LH Ui (by decide) (by exact aa)) λy nu hy=>?_)))))))));refine dU hy λe1 e2=>?_;clear hy;subst e1 e2;refine ⟨bZ (.int 0),decide (vQ (jR S_ b_ r) (jR S_ b_ x) < 0),aU,CZ,?_⟩;have qY:∀{vs x},Sv vs (EC aV gP y5 S_ xG xc vR b_ x)->Sv vs (EC aV gP y5 S_ xG xc vR b_ x):=λ{z z} h=>h;by_cases hc:vQ (jR S_ b_ r) (jR S_ b_ x) < 0
  ·refine ai (decide_eq_true hc ..) ?_;have hkey:=(oW S_ b_ r x).mp hc;refine aC (bX (ah (j:=28) he .loc hf (hS1.get rfl)) (aQ (i:=0) (j:=38) he .loc rfl ?_) rfl rfl);have hS2:=hS1.set (j:=38) (y:=xd (aF aV) S_ b_ r);refine bB (bB ⟨_,r,rfl,hS2.sub ⟨rfl,rfl,rfl,rfl,rfl,rfl,rfl,rfl,rfl,rfl,rfl,rfl,rfl,rfl,rfl,trivial⟩,y8.mp (ao hr),λo ho=>?_⟩);rw [lL hr] at ho;rcases bb.mp ho with h|h
   ·have:=hk o h;lia
   ·refine ai (aA.mp h ..) ?_;exact Int.le_refl _
  ·refine ai (decide_eq_false hc ..) (bB (bB ⟨_,x,rfl,hS1.sub ⟨rfl,rfl,rfl,rfl,rfl,rfl,rfl,rfl,rfl,rfl,rfl,rfl,rfl,rfl,rfl,trivial⟩,hx,λo ho=>?_⟩));rw [lL hr] at ho;rcases bb.mp ho with h|h
   ·exact hk o h
   ·refine ai (aA.mp h ..) ?_;have:=mt (oW S_ b_ r x).mpr hc
    with_reducible exact Int.le_of_not_gt (by assumption)
 case fin=>intro nu iC;refine ir iC λvs x kF hS hx hk=>?_;clear iC;subst kF;refine bB (next _ x hx (λo ho=>hk o ?_) hS);refine ai (ak ..) ?_;refine ai (cL ..) ?_;exact y8.mpr ho
end y9
theorem y9{pm doc:aj}:y9.S0 k mu L Hm Nt cx lx ds n6 b S pm doc 0:=by with_unfolding_all exact JT _ _ _ _ _ _ _ _ _ _ _ _ _ _ y9.S0 @y9.T0 k mu L Hm Nt cx lx ds n6 b S pm doc 0
def nX.S0(low n x:Nat)(h:Nat->Nat):Prop:=∀(hl:low < 28) (hn:n+1 < 6),jE (pZ low n h) (cC (low+(n+1))) (.str (cC (low+x)))=pZ low (n+1) (λc=>if c=n+1 then x else h c)
namespace nX
@[irreducible] def e0:=GT eO eO eO inferInstance S0
def gc:=e0.1
def n_:=e0.2.1
def x_:=e0.2.2.1
def h_:=e0.2.2.2
theorem T0:S0 gc n_ x_ h_:=by
 intro hl hn;delta jE pZ bD;rw [if_neg]
 ·(refine ai (qd ..) ?_;refine ai (bh ..) ?_;refine ai (bh ..) ?_)
  congr 1
  ·refine b5 λc hc=>aK (aG.mp hc) λd hd l9=>?_;subst l9;have:=aY.mp hd;show _=(_,V.str (cC (gc+if d+1=n_+1 then x_ else h_ (d+1))));refine ai (if_neg (by lia) ..) ?_;rfl
  ·simp
 ·intro h_;refine aK (cT.mp h_) λq hq e=>aK (aG.mp hq) λc hc mD=>?_;subst mD;refine aK (aG.mp hc) λd hd qX=>?_;subst qX;have h1:=aY.mp hd;have:=(wO hl (show d+1 < 6 by lia) hn).mp (by simpa using e);lia
end nX
theorem nX{low n x:Nat}{h:Nat->Nat}:nX.S0 low n x h:=by with_unfolding_all exact vx _ _ _ _ nX.S0 @nX.T0 low n x h
theorem Jb(low n:Nat)(h:Nat->Nat):(pZ low n h).length=n:=by simp [pZ,bD]
theorem b23_f(H:Hy G){pm doc:aj}(he:dz (bT pm doc L)){n x:Nat}{h:Nat->Nat}(hn:n+1 < 6)(hS:Sv vs (EC ds n6 lx S Hm Nt cx (n+1) x))
 (next:Sv vs (EC ds n6 lx S Hm Nt cx (n+1) x)->WS (k+8) (cy L vs::cE Hm (pZ (aF ds) (n+1) (λc=>if c=n+1 then x else h c))::mu) (bT pm doc L) [] Θ):
 WS (k+8) (cy L vs::cE Hm (pZ (aF ds) n h)::mu) (bT pm doc L) (yX 8) Θ:=by
 have d8:=eI ds;have hf:∀{vs} {l:Mu},bq L (aM (L+1) (bj (cO 23)).names) vs∈cy L vs::l:=aa;refine aC (qx (i:=1) (D:=Hm) (x:=cC (aF ds+(n+1))) (y:= .str (cC (aF ds+x))) (bE (ah (j:=38) he .loc hf (hS.get rfl)) aU (Ki rfl (by show -((4:Nat):Int)<=3;decide) (by decide) (by show 4 < 2 ^ 62;decide))) (ah (j:=33) he .loc hf (hS.get rfl)) (bE (dF (ah (j:=7) he (.cell (L+6) "names") hf (hS.get rfl))) (ah (j:=9) he (.cell (L+8) "block") hf (hS.get rfl)) (ew (j:=(n+1)) (inj:=λb=>V.str (cC (aF ds+b))) (bz hn) (by decide))) rfl (by refine ai (Jb ..) ?_;show n<=2 ^ 24;lia) ?_);exact ai (nX d8 hn ..) (next hS)
end
section
variable {b:Nat}{S:Nat->Nat}
structure pn(hs:List (List Nat))(b h:Nat):Prop where
 lt:h < 6
 sd:wg hs b h
 near:∀o,o < 6->wg hs b o->gJ hs h o
theorem HE{S S':Nat}(h:∀c,c < 6->S.testBit c=aJ->S'.testBit c=aJ)(hl:(eY S').length<=(eY S).length):∀c,c < 6->S'.testBit c=aJ->S.testBit c=aJ:=by
 have e:(eY S').filter S.testBit=eY S:=by unfold eY;refine ai (List.filter_filter ..) (fy λc hc=>?_);have:=h c (aY.mp hc);cases h1:S.testBit c <;> simp_all
 have hs:(eY S).Sublist (eY S'):=e▸List.filter_sublist;have heq:=hs.eq_of_length_le hl;intro c hc h2;have:c∈eY S':=bl.mpr ⟨aY.mpr hc,h2⟩;rw [<- heq] at this;exact (bl.mp this).2
theorem back6:∀n y,y=n->y≠0->y < 6->∃w,ei (di ds) y w/\w.getLast? =ae 0:=by
 intro n;induction n using vr with
 |ind n ih=>
  rintro y rfl h0 h6;obtain ⟨c,hc,hm⟩:∃c,c < y/\(c,y)∈cX ds:=by
   by_cases h1:y=1
   ·subst h1;exact ⟨0,by decide,aE _ (aE _ (aE _ (by decide)))⟩
   ·refine ⟨dr ds (y - 2) % y,ee _ (by exact Nat.pos_of_ne_zero (by assumption)),aE _ (aE _ (bK _ (aG.mpr ⟨y,?_,rfl⟩)))⟩;rcases (by lia:y=2\/y=3\/y=4\/y=5) with h|h|h|h <;> refine ai (h ..) ?_ <;> decide
  have qi:c∈(di ds).getD y []:=by refine ai (tZ h6 ..) ?_;refine gj (nq ..) ?_;exact ⟨by exact CL (by assumption) (by assumption),aG.mpr ⟨(c,y),bl.mpr ⟨hm,by simp⟩,rfl⟩⟩
  by_cases zy:c=0
  ·subst zy;exact ⟨[0],⟨qi,trivial⟩,rfl⟩
  ·refine aK (ih c hc c rfl zy (by exact CL (by assumption) (by assumption))) λw hw hl=>⟨c::w,⟨qi,hw⟩,?_⟩
   cases w with
   |nil=>simp at hl
   |cons d w=>refine fZ (hl ..) ?_;rfl
theorem qU:∀y,y≠0->y < 6->∃w,vV (di ds) y [0] w:=λy h0 h6=>by
 exact aK (back6 (ds:=ds) y y rfl h0 h6) λw hw hl=>ef (kZ (marks:=[0]) hw ⟨0,hl,by decide⟩) λv hv hl z=>⟨v,hv,hl⟩
theorem zW{hs:List (List Nat)}(hT:sg hs S){j o:Nat}(hj:j < 6)(ho:o < 6):(S j).testBit o=aJ↔gJ hs j o:=by
 by_cases h:j=0
 ·subst h;have h1:∀o,o < 6->(Nat.testBit 1 o=aJ↔o=0):=by decide
  refine ai (hT.z ..) ?_;refine gj (h1 o ho ..) ?_;exact ⟨λh=> .inl h,λh=>h.zero⟩
 ·exact hT.fin j (by rcases (by lia:j=1\/j=2\/j=3\/j=4\/j=5) with h|h|h|h|h <;> refine ai (h ..) ?_ <;> decide) o ho
theorem dom0{hs:List (List Nat)}{b:Nat}(hb:b≠0):gJ hs b 0:= .inr ⟨hb,λw hw=>by
 refine aK (hw.2) λc hc hm=>?_;have:c=0:=by simpa using hm
 subst this;exact dg hc⟩
theorem Pe(z8:b < 6)(zj:b≠0)(hT:sg (di ds) S){x:Nat}(hx:x < 6)(PU:∀o,o < 6->y7 S b o<=y7 S b x):pn (di ds) b x:=by
 have S8:∀{o},o < 6->wg (di ds) b o->jR S b o 0=1:=λ{z} ho h=>by
  refine if_pos ?_;exact ai (dR ..) (⟨by simpa using h.2,(zW hT z8 ho).mpr h.1⟩)
 have h0:=PU 0 (by decide);have c0:=S8 (o:=0) (by decide) ⟨dom0 zj,zj.symm⟩;have cx:=Cp S x;have GE:wg (di ds) b x:=by
  apply bN;intro hn;have:jR S b x 0=0:=by refine if_neg λh=>?_;rw [dR] at h;exact hn ⟨(zW hT z8 hx).mp h.2,by simpa using h.1⟩
  unfold y7 at h0;rw [c0,this] at h0;lia
 refine ⟨hx,GE,λo ho hso=>?_⟩;rcases I4 (qU b zj z8) GE.1 hso.1 GE.2 hso.2 with h|h
 ·exact h
 ·have hk:=PU o ho;unfold y7 at hk;rw [S8 ho hso,S8 hx GE] at hk;have e1:1<=(eY (S o)).length:=zt.mpr (BX (hT.ok o).1 (hT.ok o).2);have e2:1<=(eY (S x)).length:=zt.mpr (BX (hT.ok x).1 (hT.ok x).2);have hl:(eY (S o)).length<=(eY (S x)).length:=by unfold zV at hk;lia
  refine (zW hT hx ho).mp (HE (S:=S x) (S':=S o) (λc hc h1=>?_) hl o ho ((zW hT ho ho).mpr gJ.self));exact (zW hT ho hc).mpr (gJ.trans ((zW hT hx hc).mp h1) h)
noncomputable abbrev zX(L Hm Nt cx dc:ay)(vs:eL)(low n:Nat)(h:Nat->Nat)(F:Nat->List Nat)(mu:Mu):Mu:=cy L vs::cE Hm (pZ low n h)::cE Nt (qS low F)::gI cx 245 dc [("comp_select_list",DE)]::mu
def t4.S0(k:Nat)(L Hm Nt cx dc lx:ay)(ds:List Nat)(n6:Nat)(S:Nat->Nat)(pm doc:aj):Prop:=∀{mu:Mu} {vs:eL} {Θ:AF->Mu->Prop} {K:gn} (H:Hy G) (LH:fL G K) (he:dz (bT pm doc L)) (z9:Sv vs (I7 ds n6 lx S Hm Nt cx)) (hT:sg (di ds) S) (next:∀vs h,Sv vs (I7 ds n6 lx S Hm Nt cx)->(∀b,b≠0->b < 6->pn (di ds) b (h b))->WS (k+8) (zX L Hm Nt cx dc vs (aF ds) 5 h (λz=>[]) mu) (bT pm doc L) (je 24) Θ),WS (k+8) (zX L Hm Nt cx dc vs (aF ds) 0 (λz=>0) (λz=>[]) mu) (bT pm doc L) (je 23) Θ
namespace t4
@[irreducible] def e0:=HP eO cM cM cM cM cM cM gE eO inferInstance gM gM S0
def k_:=e0.1
def L_:=e0.2.1
def xG:=e0.2.2.1
def xc:=e0.2.2.2.1
def vR:=e0.2.2.2.2.1
def Qy:=e0.2.2.2.2.2.1
def y5:=e0.2.2.2.2.2.2.1
def aV:=e0.2.2.2.2.2.2.2.1
def gP:=e0.2.2.2.2.2.2.2.2.1
def S_:=e0.2.2.2.2.2.2.2.2.2.1
def pf:=e0.2.2.2.2.2.2.2.2.2.2.1
def g8:=e0.2.2.2.2.2.2.2.2.2.2.2
theorem T0:S0 k_ L_ xG xc vR Qy y5 aV gP S_ pf g8:=by
 intro mu vs Θ K H LH he z9 hT next
 refine aC (jN (ctx:=[]) (xs:=[1,2,3,4,5].map nV) (λi nu=>∃vs h,nu=zX L_ xG xc vR Qy vs (aF aV) i h (λz=>[]) mu/\Sv vs (I7 aV gP y5 S_ xG xc vR)/\∀b,b≠0->b < i+1->pn (di aV) b (h b)) (pP (qt (iO H he H.b_range rfl) aU aU (by decide) (by decide)) rfl) (by lia) ⟨vs,_,rfl,z9,λb h0 h1=>by lia⟩ (λi nu h o ho=>(el ho)) ?step ?fin)
 case step=>
  intro i y nu hy dP;refine cD dP λvs h eT hS hh=>?_;clear dP;subst eT;have hi5:i < 5:=by have:=(aB.mp hy).1;exact this
  have hye:y=nV (i+1):=by
   match i,hi5 with
   |0,_=>(have lz:=aO hy;clear hy;subst lz);rfl
   |1,_=>(have lz:=aO hy;clear hy;subst lz);rfl
   |2,_=>(have lz:=aO hy;clear hy;subst lz);rfl
   |3,_=>(have lz:=aO hy;clear hy;subst lz);rfl
   |4,_=>(have lz:=aO hy;clear hy;subst lz);rfl
  subst hye;have zA:i+1∈[1,2,3,4,5]:=by rcases (by lia:i=0\/i=1\/i=2\/i=3\/i=4) with h|h|h|h|h <;> refine ai (h ..) ?_ <;> decide
  refine aQ (i:=0) (j:=9) he (.cell (L_+8) "block") rfl ?_;have hS1:Sv (vs.set 9 (ae (nV (i+1)))) (S23 aV gP y5 S_ xG xc vR (i+1)):=hS.set (j:=9) (y:=nV (i+1));refine yY H he (by exact jk (by assumption)) hS1 λvs W hS2 QM hW=>yZ H he (by exact jk (by assumption)) zA hS2 (y6 H he (by exact jk (by assumption)) zA hS2 hT QM hW ?_);refine b23_d H he (by exact jk (by assumption)) hS2 hT λvs x hx hS3=>y9 H LH he hx hS3 (ao (i:=2) rfl) λvs x hx PU zZ=>b23_f H he (by exact jk (by assumption)) zZ λhS5=>bB ⟨_,_,rfl,hS5.sub ⟨rfl,rfl,rfl,rfl,rfl,rfl,rfl,rfl,rfl,rfl,rfl,rfl,trivial⟩,λb h0 h1=>?_⟩;show pn _ b (if b=i+1 then x else h b);by_cases e:b=i+1
  ·subst e;refine ai (if_pos rfl ..) ?_;exact Pe (by exact jk (by assumption)) (by assumption) hT hx PU
  ·refine ai (if_neg e ..) ?_;exact hh b h0 (by lia)
 case fin=>intro nu gi;refine cD gi λvs h iC hS hh=>?_;clear gi;subst iC;exact bB (next _ h hS hh)
end t4
theorem t4{pm doc:aj}:t4.S0 k L Hm Nt cx dc lx ds n6 S pm doc:=by with_unfolding_all exact CU _ _ _ _ _ _ _ _ _ _ _ _ t4.S0 @t4.T0 k L Hm Nt cx dc lx ds n6 S pm doc
end
variable {F:Nat->List Nat}{h:Nat->Nat}
section
variable {P Q:Nat->Nat->Prop}
structure NF(F:Nat->List Nat)(P:Nat->Nat->Prop):Prop where
 nd:∀c,c < 6->(F c).Nodup
 iff:∀c,c < 6->∀y,y∈F c↔P c y
theorem NF.to(h:NF F P)(e:∀c,c < 6->∀y,P c y↔Q c y):NF F Q:=⟨h.nd,λc hc y=>(h.iff c hc y).trans (e c hc y)⟩
noncomputable def JL(F:Nat->List Nat)(c z:Nat):Nat->List Nat:=λc'=>if c'=c then (F c).filter (λy=>y != z)++[z] else F c'
set_option tactic.hygienic true in
theorem NF.up{c z:Nat}(h:NF F P):NF (JL F c z) λc' y=>P c' y\/(y=z/\c'=c):=⟨λc' hc=>by
 unfold JL
 split
 ·rename_i e;subst e;rw [bO];exact ⟨(h.nd c' hc).filter _,by simp,λa ha b hb e=>by
   rw [aA] at hb;have:=(bl.mp ha).2;rw [e,hb] at this;simp at this⟩
 ·exact h.nd c' hc,λc' hc y=>by
 unfold JL
 split
 ·rename_i e;subst e;rw [bb,bl,aA,h.iff c' hc y];by_cases e:y=z <;> simp [e]
 ·rename_i e;rw [h.iff c' hc y];simp [e]⟩
theorem gJ.antiH(hr:∀y,y≠0->y < 6->∃w,vV hs y [0] w){a b:Nat}(hb:b < 6)(h:gJ hs b a)(h':gJ hs a b):a=b:=gJ.anti (λh0=>hr b h0 hb) h h'
theorem Gp(hr:∀y,y≠0->y < 6->∃w,vV hs y [0] w)(hh:∀b,b≠0->b < 6->pn hs b (h b)){p c t:Nat}(uc:c < 6)(ht:t < 6)(hpc:gJ hs p c)(hct:gJ hs c t)(iQ:c≠t):
 c≠0/\h c < 6/\gJ hs p (h c)/\gJ hs (h c) t/\∀c',c' < 6->((gJ hs p c'/\¬gJ hs (h c) c')↔((gJ hs p c'/\¬gJ hs c c')\/c'=c)):=by
 have zy:c≠0:=by rintro rfl;exact iQ hct.zero.symm
 have ho:=hh c zy uc;refine ⟨zy,ho.lt,gJ.trans ho.sd.1 hpc,?_,λc' zl=>?_⟩
 ·exact ho.near t ht ⟨hct,iQ.symm⟩
 ·constructor
  ·intro dP;refine dU dP λh1 h2=>?_;clear dP;by_cases hcc:gJ hs c c'
   ·right
    exact bN λhn=>h2 (ho.near c' zl ⟨hcc,hn⟩)
   ·exact .inl ⟨h1,hcc⟩
  ·rintro (⟨h1,h2⟩|rfl)
   ·exact ⟨h1,λh3=>h2 (gJ.trans h3 ho.sd.1)⟩
   ·exact ⟨hpc,λh3=>ho.sd.2 ((gJ.antiH hr ho.lt h3 ho.sd.1).symm)⟩
theorem wh(hr:∀y,y≠0->y < 6->∃w,vV hs y [0] w)(hh:∀b,b≠0->b < 6->pn hs b (h b)){z p:Nat}(M3:z≠0)(hz:z < 6)(hp:p∈hs.getD z []):gJ hs p (h z)/\∀c',c' < 6->((gJ hs p c'/\¬gJ hs (h z) c')↔(gJ hs p c'/\¬wg hs z c')):=by have ho:=hh z M3 hz;refine ⟨(ho.sd.1.step.resolve_left ho.sd.2) p hp,λc' zl=>?_⟩;refine and_congr_right λx=>not_congr ⟨λh1=>⟨gJ.trans h1 ho.sd.1,λe=>?_⟩,λh1=>ho.near c' zl h1⟩;subst e;exact ho.sd.2 (gJ.antiH hr ho.lt h1 ho.sd.1).symm
theorem Be{b:Nat}(hb:∀q∈hs.getD b [],q=b):∀{w:List Nat},ei hs b w->∀x∈w,x=b
 |[],_,_,hx=>el hx
 |c::w,hw,x,hx=>by
  have hc:c=b:=hb c hw.1;subst hc;rcases aP.mp hx with e|e
  ·exact e
  ·exact Be hb hw.2 x e
theorem Pf(hr:∀y,y≠0->y < 6->∃w,vV hs y [0] w){z p c':Nat}(M3:z≠0)(hz:z < 6)(hp6:p < 6)(h1:∀q∈hs.getD z [],q=p):¬Gj hs c' z:=by
 intro eT;refine ef eT λq hq hd hn=>?_;clear eT;have:=h1 q hq;subst this;refine cK (hr z M3 hz) λw hw=>?_;have hzq:q≠z:=by
  rintro rfl;refine aK (hw.2) λd hd hm=>?_;have Jl:d=0:=by simpa using hm
  have:=Be h1 hw.1.back d (dg hd);exact M3 (by rw [<- this,Jl])
 have hdq:gJ hs z q:= .inr ⟨M3,λv hv=>by
  have hb:=hv.1.back;refine aK (hv.2) λd hd x=>?_
  match v,hb,hd with
  |c::v,hb,_=>rw [h1 c hb.1];exact aa⟩
 refine hn ⟨gJ.trans hd hdq,λe=>?_⟩;subst e;exact hzq (gJ.antiH hr hz hdq hd)
end
section
variable {b:Nat}{S:Nat->Nat}
theorem Bf(hT:sg (di ds) S)(hh:∀b,b≠0->b < 6->pn (di ds) b (h b)){c:Nat}(hc:c < 6)(zy:c≠0):(eY (S (h c))).length < (eY (S c)).length:=by have ho:=hh c zy hc;refine uv λhl=>?_;have:=HE (S:=S (h c)) (S':=S c) (λx hx h1=>(zW hT hc hx).mpr (gJ.trans ((zW hT ho.lt hx).mp h1) ho.sd.1)) hl c hc ((zW hT hc hc).mpr gJ.self);exact ho.sd.2 (gJ.antiH qU ho.lt ((zW hT ho.lt hc).mp this) ho.sd.1).symm
theorem Pg:∀z,z < 6->z≠0->z∈(aN 5).map (·+1):=by decide
theorem Ph:∀c∈(aN 5).map (·+1),c < 6:=by decide
theorem Jc{low c z:Nat}{F:Nat->List Nat}(hl:low < 28)(hc:c < 6):jE (qS low F) (cC (low+c)) (Gl low (JL F c z c))=qS low (JL F c z):=by
 unfold qS;refine ai (FK hl (λc hc=>aY.mp hc) (aY.mpr hc) ..) ?_;unfold bD;refine b5 λb y=>?_;show (_,(if b=c then Gl low (JL F c z c) else Gl low (F b)))=(_,Gl low (JL F c z b));by_cases e:b=c
 ·subst e;(refine ai (if_pos rfl ..) ?_;rfl)
 ·refine ai (if_neg e ..) ?_;unfold JL;(refine ai (if_neg e ..) ?_;rfl)
def t5.S0(k:Nat)(mu:Mu)(Θ:AF->Mu->Prop)(L Hm Nt cx dc lx:ay)(ds:List Nat)(n6:Nat)(S h:Nat->Nat)(pm doc:aj)(_:Nat):Prop:=∀{vs:eL} (H:Hy G) (he:dz (bT pm doc L)) (z9:Sv vs (I7 ds n6 lx S Hm Nt cx)) (hT:sg (di ds) S) (hh:∀b,b≠0->b < 6->pn (di ds) b (h b)) (next:∀vs F,Sv vs (I7 ds n6 lx S Hm Nt cx)->NF F (λc z=>z≠0/\z < 6/\Gj (di ds) c z)->WS (k+8) (zX L Hm Nt cx dc vs (aF ds) 5 h F mu) (bT pm doc L) (je 25) Θ),WS (k+8) (zX L Hm Nt cx dc vs (aF ds) 5 h (λy=>[]) mu) (bT pm doc L) (je 24) Θ
namespace t5
@[irreducible] def e0:=Fj eO gE sZ cM cM cM cM cM cM gE eO inferInstance inferInstance gM gM eO S0
def k_:=e0.1
def e9:=e0.2.1
def Θ_:=e0.2.2.1
def L_:=e0.2.2.2.1
def xG:=e0.2.2.2.2.1
def xc:=e0.2.2.2.2.2.1
def vR:=e0.2.2.2.2.2.2.1
def Qy:=e0.2.2.2.2.2.2.2.1
def y5:=e0.2.2.2.2.2.2.2.2.1
def aV:=e0.2.2.2.2.2.2.2.2.2.1
def gP:=e0.2.2.2.2.2.2.2.2.2.2.1
def S_:=e0.2.2.2.2.2.2.2.2.2.2.2.1
def h_:=e0.2.2.2.2.2.2.2.2.2.2.2.2.1
def pf:=e0.2.2.2.2.2.2.2.2.2.2.2.2.2.1
def g8:=e0.2.2.2.2.2.2.2.2.2.2.2.2.2.2.1
theorem T0:S0 k_ e9 Θ_ L_ xG xc vR Qy y5 aV gP S_ h_ pf g8 e0.2.2.2.2.2.2.2.2.2.2.2.2.2.2.2:=by
 intro vs H he z9 hT hh next
 have d8:=eI aV;have CP:∀c∈aN 6,c < 6:=λc hc=>aY.mp hc;have hf:∀{vs} {l:Mu},bq L_ (aM (L_+1) (bj (cO 23)).names) vs∈cy L_ vs::l:=aa;refine cu (H.f270.go) λob w w w h0 hd w=>aC (jN (ctx:=[]) (xs:=[1,2,3,4,5].map λb=>V.str (cC (aF aV+b))) (λi nu=>∃vs F,nu=zX L_ xG xc vR Qy vs (aF aV) 5 h_ F e9/\Sv vs (I7 aV gP y5 S_ xG xc vR)/\NF F (λc z=>z≠0/\z < i+1/\Gj (di aV) c z)) (pM (l:=[1,2,3,4,5]) (f:=λb=>(cC (aF aV+b),rn (aF aV) (lT aV) b)) (ah (j:=41) he (.cell (L_+15) "book") hf (z9.get rfl))) (by lia) ⟨vs,_,rfl,z9,⟨λw w=>kP,λc w y=>⟨λh_=>absurd h_ eZ,λh_=>by lia⟩⟩⟩ (λi nu h_ o ho=>(el ho)) ?step ?fin)
 case fin=>intro nu dP;refine cD dP λvs F eT hS hF=>?_;clear dP;subst eT;exact bB (next _ F hS hF)
 case step=>
  intro i y nu hy gi;refine cD gi λvs F iC hS hF=>?_;clear gi;subst iC;have hi5:i < 5:=by have:=(aB.mp hy).1;exact this
  have hye:y= .str (cC (aF aV+(i+1))):=by
   match i,hi5 with
   |0,_=>(have lz:=aO hy;clear hy;subst lz);rfl
   |1,_=>(have lz:=aO hy;clear hy;subst lz);rfl
   |2,_=>(have lz:=aO hy;clear hy;subst lz);rfl
   |3,_=>(have lz:=aO hy;clear hy;subst lz);rfl
   |4,_=>(have lz:=aO hy;clear hy;subst lz);rfl
  subst hye;have zA:i+1∈[1,2,3,4,5]:=by rcases (by lia:i=0\/i=1\/i=2\/i=3\/i=4) with h_|h_|h_|h_|h_ <;> refine ai (h_ ..) ?_ <;> decide
  have JO:i+1 < 6:=by exact jk (by assumption)
  refine aQ (i:=0) (j:=8) he (.cell (L_+7) "name") rfl ?_;have hS1:Sv (vs.set 8 (ae (.str (cC (aF aV+(i+1)))))) ((8,.str (cC (aF aV+(i+1))))::I7 aV gP y5 S_ xG xc vR):=hS.set (j:=8) (y:= .str (cC (aF aV+(i+1))));have hsm:((Ei (aF aV) (cS (cls aV (i+1)))).map (·.2)).sum=((cls aV (i+1)).length:Nat):=by refine ai (a0 ..) ?_;refine ai (show ((cS (cls aV (i+1))).map ((λx:bc×Int=>x.2)∘λq=>(cC (aF aV+q.1),q.2)))=(cS (cls aV (i+1))).map (·.2) from rfl) ?_;refine ai (Bd ..) ?_;rfl
  have qi:∀q,q∈(di aV).getD (i+1) []↔q∈cls aV (i+1):=λq=>by
   (refine ai (tZ JO ..) ?_;refine gj (nq ..) ?_);exact ⟨λh_=>h_.2,λh_=>⟨kq h_,h_⟩⟩
  refine aC (iY (b:=decide ((1:Int) < ((cls aV (i+1)).length:Nat))) (da (ju (ys:=[FL (aF aV) (cS (cls aV (i+1)))]) (ml H he H.m_count rfl) h0 hd (au (bL (bE (bE (pJ (ah (j:=41) he (.cell (L_+15) "book") hf (hS1.get rfl))) (ah (j:=8) he (.cell (L_+7) "name") hf (hS1.get rfl)) (mf (gb d8 (by decide) zA))) aU tH) (congrArg (FL (aF aV)) (A9 (cX aV) (i+1)))) aT) (by refine ai (Cb ..) ?_;exact FW.mono (Hd (k:=k_+6) H) λy nu h_=>⟨h_.2.trans (congrArg V.int hsm),h_.1⟩)) aU GU) (λhc=>?many) λhc=>?few)
  case few=>
   have hc:=of_decide_eq_false hc;refine bB (bB ⟨_,F,rfl,hS1.sub ⟨rfl,rfl,rfl,rfl,rfl,rfl,rfl,rfl,rfl,rfl,rfl,rfl,trivial⟩,hF.to λc uc y=>⟨λh_=>⟨h_.1,by lia,h_.2.2⟩,λh_=>⟨h_.1,?_,h_.2.2⟩⟩⟩);refine Nat.lt_of_le_of_ne (by lia) λe=>?_;subst e;obtain ⟨p,hp⟩:∃p,∀q∈cls aV (i+1),q=p:=by
    match hcl:cls aV (i+1) with
    |[]=>exact ⟨0,λq hq=>el hq⟩
    |[p]=>exact ⟨p,λq hq=>aA.mp hq⟩
    |a::b::l=>rw [hcl] at hc;simp at hc;lia
   have iQ:=h_.2.2;refine aK iQ λq hq w=>?_;clear iQ;have hqp:=hp q ((qi q).mp hq);exact Pf qU h_.1 JO (p:=p) (by refine fZ (hqp ..) ?_;exact sf.lt _ _ hq) (λr hr=>hp r ((qi r).mp hr)) h_.2.2
  case many=>
   refine aC (jN (ctx:=[]) (xs:=(cS (cls aV (i+1))).map λq=>V.str (cC (aF aV+q.1))) (λj nu=>∃vs F,nu=zX L_ xG xc vR Qy vs (aF aV) 5 h_ F e9/\Sv vs ((8,.str (cC (aF aV+(i+1))))::I7 aV gP y5 S_ xG xc vR)/\NF F (λc' y=>(y≠0/\y < i+1/\Gj (di aV) c' y)\/(y=i+1/\∃q∈(cS (cls aV (i+1))).take j,gJ (di aV) q.1 c'/\¬gJ (di aV) (h_ (i+1)) c'))) (pM (l:=cS (cls aV (i+1))) (f:=λq=>(cC (aF aV+q.1),V.int q.2)) (bL (bE (bE (pJ (ah (j:=41) he (.cell (L_+15) "book") hf (hS1.get rfl))) (ah (j:=8) he (.cell (L_+7) "name") hf (hS1.get rfl)) (mf (gb d8 (by decide) zA))) aU tH) (congrArg (FL (aF aV)) (A9 (cX aV) (i+1))))) (by lia) ⟨_,F,rfl,hS1,hF.to λc w y=>⟨λh_=> .inl h_,λh_=>h_.resolve_right λh_=>by simp at h_⟩⟩ (λi nu h_ o ho=>(el ho)) ?step2 ?fin2)
   case fin2=>
    intro nu kF;refine cD kF λvs F l9 hS hF=>?_;clear kF;subst l9;refine bB (bB (bB ⟨_,F,rfl,hS.sub ⟨rfl,rfl,rfl,rfl,rfl,rfl,rfl,rfl,rfl,rfl,rfl,rfl,trivial⟩,hF.to λc uc y=>?_⟩));refine ai (ak ..) ?_;refine ai (cL ..) ?_;constructor
    ·rintro (⟨h1,h2,h3⟩|⟨rfl,q,hq,h1⟩)
     ·exact ⟨h1,by exact cJ (by assumption),h3⟩
     ·have EJ:=(qi q.1).mpr ((pY _ _).mp (aG.mpr ⟨q,hq,rfl⟩));have h2:=((wh qU hh (lp i) JO EJ).2 c uc).mp h1;exact ⟨lp i,by exact jf _,q.1,EJ,h2⟩
    ·intro mD;refine GS mD λh1 h2 h3=>?_;clear mD;by_cases e:y=i+1
     ·subst e;refine aK h3 λp hp h4=>?_;clear h3;refine aK (aG.mp ((pY _ _).mpr ((qi p).mp hp))) λq hq qX=>?_;subst qX;exact .inr ⟨rfl,q,hq,((wh qU hh (lp i) JO hp).2 c uc).mpr h4⟩
     ·exact .inl ⟨h1,by lia,h3⟩
   case step2=>
    intro j y nu hy ub;refine cD ub λvs F mO hS hF=>?_;clear ub;subst mO;rw [aI] at hy;refine aK (aL.mp hy) λq hq sj=>?_;subst sj;have hqh:=(qi q.1).mpr ((pY _ _).mp (aG.mpr ⟨q,ao hq,rfl⟩));have Jj:=sf.lt _ _ hqh;have hzo:=hh (i+1) (lp i) JO;refine aQ (i:=0) (j:=24) he .loc rfl ?_;have hS2:Sv (vs.set 24 (ae (.str (cC (aF aV+q.1))))) ((24,.str (cC (aF aV+q.1)))::(8,.str (cC (aF aV+(i+1))))::I7 aV gP y5 S_ xG xc vR):=hS.set (j:=24) (y:= .str (cC (aF aV+q.1)));refine aC (xO (λn nu=>∃vs F c,nu=zX L_ xG xc vR Qy vs (aF aV) 5 h_ F e9/\Sv vs ((24,.str (cC (aF aV+c)))::(8,.str (cC (aF aV+(i+1))))::I7 aV gP y5 S_ xG xc vR)/\c < 6/\gJ (di aV) q.1 c/\gJ (di aV) c (h_ (i+1))/\n=(eY (S_ c)).length/\NF F (λc' y=>((y≠0/\y < i+1/\Gj (di aV) c' y)\/(y=i+1/\∃q∈(cS (cls aV (i+1))).take j,gJ (di aV) q.1 c'/\¬gJ (di aV) (h_ (i+1)) c'))\/(y=i+1/\gJ (di aV) q.1 c'/\¬gJ (di aV) c c'))) (eY (S_ q.1)).length ⟨_,F,q.1,rfl,hS2,Jj,gJ.self,(wh qU hh (lp i) JO hqh).1,rfl,hF.to λc' w y=>⟨λh_=> .inl h_,λh_=>h_.resolve_right λh_=>h_.2.2 h_.2.1⟩⟩ ?_);intro n nu zh;refine qo zh λvs F c EK hS3 uc hqc hct MO hF=>?_;clear zh;subst EK;subst MO;refine PT.wt (da (ah (j:=24) he .loc hf (hS3.get rfl)) (bE (wC (ah (j:=33) he .loc hf (hS3.get rfl)) (ao (i:=1) rfl)) (ah (j:=8) he (.cell (L_+7) "name") hf (hS3.get rfl)) (mf (gb d8 Ph (Pg _ JO (lp i))))) tw) ?_;by_cases PS:c=h_ (i+1)
    ·refine ai (show (cC (aF aV+c) != cC (aF aV+h_ (i+1)))=aH by rw [PS];simp) ?_;refine bB (bB ⟨_,F,rfl,hS3.sub ⟨rfl,rfl,rfl,rfl,rfl,rfl,rfl,rfl,rfl,rfl,rfl,rfl,rfl,trivial⟩,hF.to λc' zl y=>?_⟩);refine ai (lL hq ..) ?_;constructor
     ·rintro ((h1|⟨h1,r,h2,h3⟩)|⟨h1,h2,h3⟩)
      ·exact .inl h1
      ·exact .inr ⟨h1,r,aE _ h2,h3⟩
      ·exact .inr ⟨h1,q,bK _ (aA.mpr rfl),h2,by refine fZ (PS ..) ?_;exact h3⟩
     ·rintro (h1|⟨h1,r,h2,h3⟩)
      ·exact .inl (.inl h1)
      ·rcases bb.mp h2 with h4|h4
       ·exact .inl (.inr ⟨h1,r,h4,h3⟩)
       ·rw [aA] at h4;subst h4;exact .inr ⟨h1,h3.1,by refine ai (PS ..) ?_;exact h3.2⟩
    ·have iQ:(cC (aF aV+c) != cC (aF aV+h_ (i+1)))=aJ:=by
      refine ai (show (cC (aF aV+c) != cC (aF aV+h_ (i+1)))=(c != h_ (i+1)) from congrArg not (rQ d8 uc hzo.lt)) ?_;simpa using PS
     refine ai (iQ ..) (NO (Gp qU hh uc hzo.lt hqc hct PS) λzy hhc s1 s2 s3=>?_);have Ug:∀y∈F c,y < 6:=λy hy=>by
      rcases (hF.iff c uc y).mp hy with (h1|h1)|h1 <;> lia
     have hl6:(F c).length<=6:=ez (hF.nd c uc) Ug;refine aC (qx (i:=2) (D:=xc) (x:=cC (aF aV+c)) (y:=Gl (aF aV) (JL F c (i+1) c)) (bL (br (dF (nD (F c) (λo=>V.str (cC (aF aV+o))) (λo=>cC (aF aV+o) != cC (aF aV+(i+1))) (λo=>V.str (cC (aF aV+o))) ⟨rfl,rfl,by decide+kernel,by decide+kernel⟩ (dB (bE (wC (ah (j:=44) he (.cell (L_+18) "noted") hf (hS3.get rfl)) (ao (i:=2) rfl)) (ah (j:=24) he .loc hf (hS3.get rfl)) (mf (gb d8 CP (aY.mpr uc))))) (by lia) (by exact aw (by assumption) (by decide)) (λC1 a ha=>iu 1 he.comp .loc (fS (da (ah (j:=1) he.comp .loc aa rfl) (ah (j:=8) he.comp (.cell (L_+7) "name") (ab _ hf) (hS3.get rfl)) tw)) (λhb=>(ah (j:=1) he.comp .loc aa rfl))))) (dF (ij (xs:=[.str (cC (aF aV+(i+1)))]) (au (ah (j:=8) he (.cell (L_+7) "name") hf (hS3.get rfl)) aT) (by show 1<=2 ^ 20;decide))) (uH (by refine ai (ak ..) ?_;have:=bu (λo=>cC (aF aV+o) != cC (aF aV+(i+1))) (F c);show _+1<=_;lia))) ?ceq) (ah (j:=44) he (.cell (L_+18) "noted") hf (hS3.get rfl)) (ah (j:=24) he .loc hf (hS3.get rfl)) rfl (by show (bD (aF aV) (aN 6) _).length<=2 ^ 24;refine ai (KD ..) ?_;decide) ?_)
     case ceq=>refine congrArg V.list ?_;unfold JL;refine ai (if_pos rfl ..) ?_;refine ai (bh ..) ?_;congr 2;exact fy λo ho=>congrArg not (rQ d8 (Ug o ho) JO)
     refine ai (Jc d8 uc ..) ?_;show WS (k_+8) (zX L_ xG xc vR Qy vs (aF aV) 5 h_ (JL F c (i+1)) e9) _ _ _;refine aC (bX (bE (wC (ah (j:=33) he .loc hf (hS3.get rfl)) (ao (i:=1) rfl)) (ah (j:=24) he .loc hf (hS3.get rfl)) (mf (gb d8 Ph (Pg _ uc zy)))) (aQ (i:=0) (j:=24) he .loc rfl ?_) rfl rfl);refine bB ⟨_,Bf hT hh uc zy,_,JL F c (i+1),h_ c,rfl,(hS3.set (j:=24) (y:= .str (cC (aF aV+h_ c)))).sub ⟨rfl,rfl,rfl,rfl,rfl,rfl,rfl,rfl,rfl,rfl,rfl,rfl,rfl,rfl,trivial⟩,hhc,s1,s2,rfl,(hF.up (c:=c) (z:=i+1)).to λc' zl y=>?_⟩;have:=s3 c' zl;constructor
     ·rintro ((h1|⟨h1,h2⟩)|⟨h1,h2⟩)
      ·exact .inl h1
      ·exact .inr ⟨h1,this.mpr (.inl h2)⟩
      ·exact .inr ⟨h1,this.mpr (.inr h2)⟩
     ·rintro (h1|⟨h1,h2⟩)
      ·exact .inl (.inl h1)
      ·rcases this.mp h2 with h3|h3
       ·exact .inl (.inr ⟨h1,h3⟩)
       ·exact .inr ⟨h1,h3⟩
end t5
theorem t5{pm doc:aj}:t5.S0 k mu Θ L Hm Nt cx dc lx ds n6 S h pm doc 0:=by with_unfolding_all exact An _ _ _ _ _ _ _ _ _ _ _ _ _ _ _ _ t5.S0 @t5.T0 k mu Θ L Hm Nt cx dc lx ds n6 S h pm doc 0
end
section
variable {b:Nat}{S:Nat->Nat}
noncomputable def setP(d b:Nat):Bool:=((b:Int) == 0) || (lY ((d:Int) / 2 ^ ((b:Int) - 1).toNat) 1 != 0 || false)
noncomputable def cA(d:Nat):List Nat:=(aN 6).filter (setP d)
theorem shz{a:Nat}(h:((a:Int) == 0)=aH):0<=(a:Int) - 1:=by
 have:(a:Int)≠0:=by simpa using h
 lia
theorem Cq{d:Nat}:∀c∈cA d,c < 6:=λc hc=>aY.mp (bl.mp hc).1
theorem Pi(d:Nat):(cA d).Nodup:=ll.filter _
theorem Gq(d:Nat):0∈cA d:=bl.mpr ⟨by decide,rfl⟩
theorem nY(d:Nat):(cA d).length<=6:=ez (Pi d) Cq
noncomputable abbrev S25(ds:List Nat)(n6:Nat)(lx:ay)(S h:Nat->Nat)(F:Nat->List Nat)(d:Nat):List (Nat×V):=(45,wV (cA d))::(44,.dict (qS (aF ds) F))::(33,.dict (pZ (aF ds) 5 h))::S21 ds n6 lx S
noncomputable abbrev Pj(low:Nat)(l:List Nat):List V:=l.map λw=>V.str (cC (low+w))
theorem Sk(H:Hy G){pm doc:aj}(he:dz (bT pm doc L)){d:Nat}(hlen:ds.length < 2 ^ 60)(h25:ds[25]? =ae d)(z9:Sv vs (I7 ds n6 lx S Hm Nt cx))
 (next:∀vs W,Sv vs ((43,.ref W)::S25 ds n6 lx S h F d)->WS (k+8) (bk W (Pj (aF ds) (cA d))::cy L vs::mu) (bT pm doc L) (je 27) Θ):
 WS (k+8) (zX L Hm Nt cx dc vs (aF ds) 5 h F mu) (bT pm doc L) (je 25) Θ:=by
 have d8:=eI ds;have hf:∀{vs} {l:Mu},bq L (aM (L+1) (bj (cO 23)).names) vs∈cy L vs::l:=aa;refine WF.frzD (j:=33) (z9.get rfl) ?_;have hSa:=z9.set (j:=33) (y:= .dict (pZ (aF ds) 5 h));refine WF.frzD (j:=44) (hSa.get rfl) (WF.to [1] (WF.drop1 ?_));have hSb:Sv _ ((44,.dict (qS (aF ds) F))::(33,.dict (pZ (aF ds) 5 h))::S21 ds n6 lx S):=(hSa.set (j:=44) (y:= .dict (qS (aF ds) F))).sub ⟨rfl,rfl,rfl,rfl,rfl,rfl,rfl,rfl,rfl,rfl,rfl,trivial⟩;generalize (vs.set 33 (ae (.dict (pZ (aF ds) 5 h)))).set 44 (ae (.dict (qS (aF ds) F)))=Nx at hSb ⊢;show WS (k+8) (cy L Nx::mu) (bT pm doc L) (je 25) Θ;refine aC (bX (y:=wV (cA d)) (nD (aN 6) nV (setP d) nV ⟨rfl,rfl,by decide+kernel,by decide+kernel⟩ (fJ (n:=6) (iO H he H.b_range rfl) aU rfl (by decide)) (by lia) (by decide) (λC1 a ha=>iu 1 he.comp .loc (fS (oJ (iN (da (ah (j:=1) he.comp .loc aa rfl) aU qq) (λhz=>iN (kT (br (br (bE (dF (ah (j:=4) he.comp (.cell (L+3) "draws") (ab _ hf) (hSb.get rfl))) aU (ew (j:=25) (inj:=nV) h25 hlen)) (br (ah (j:=1) he.comp .loc aa rfl) aU vz) (G8 (shz hz))) aU qp) xK) (λz=>jn))))) (λz=>(ah (j:=1) he.comp .loc aa rfl)))) (aQ (i:=0) (j:=45) he (.cell (L+19) "settings") rfl ?_) rfl rfl);have hSc:=hSb.set (j:=45) (y:=wV (cA d));refine aC (b4 (Ri (cA d) nV (λb=>V.str (cC (aF ds+b))) ⟨rfl,rfl,by decide+kernel,by decide+kernel⟩ (dB (ah (j:=45) he (.cell (L+19) "settings") hf (hSc.get rfl))) (by lia) (aw (nY d) (by decide)) (λC2 a ha=>iu 1 he.comp .loc dm (λz=>(bE (dF (ah (j:=7) he.comp (.cell (L+6) "names") (ab _ hf) (hSc.get rfl))) (ah (j:=1) he.comp .loc aa rfl) (ew (j:=a) (inj:=λb=>V.str (cC (aF ds+b))) (bz (Cq a ha)) (by decide))))) (λW=>fK.ref (aQ (i:=1) (j:=43) he (.cell (L+17) "line") rfl ?_))) rfl rfl);exact next _ W (hSc.set (j:=43) (y:= .ref W))
end
section
variable {sets:List Nat}{w:Nat}
noncomputable def Jd(n0:Nat)(F:Nat->List Nat)(s:Unit)(ws:List Nat)(w:Nat):Unit×List Nat:=(s,(F w).filter λz=>!decide (z∈ws.drop n0))
structure RJ(hs:List (List Nat))(sets:List Nat)(F:Nat->List Nat)(m i:Nat)(ws:List Nat)(_:Unit):Prop where
 pre:ws.take sets.length=sets
 nd:(ws.drop sets.length).Nodup
 lt:∀c∈ws,c < 6
 pl:∀c∈ws.drop sets.length,iB hs sets c
 clo:∀j x,j < i->ws[j]? =ae x->∀z∈F x,z∈ws.drop sets.length
 le:i<=ws.length
 ms:m=(6 - (ws.drop sets.length).length)+(ws.length - i)
theorem RJ.start(h6:∀c∈sets,c < 6):RJ hs sets F (6+sets.length) 0 sets () where
 pre:=cL
 nd:=by refine ai (ou ..) ?_;exact kP
 lt:=h6
 pl:=by refine ai (ou ..) ?_;exact λc hc=>el hc
 clo:=λj x hj=>absurd hj (GP _)
 le:=gq _
 ms:=by refine ai (ou ..) ?_;rfl
theorem RJ.hl(h:RJ hs sets F m i ws ()):sets.length<=ws.length:=by have:=congrArg kL h.pre;rw [dD] at this;lia
theorem RJ.dl(h:RJ hs sets F m i ws ()):(ws.drop sets.length).length<=6:=ez h.nd λc hc=>h.lt c (gp hc)
theorem RJ.mem(h:RJ hs sets F m i ws ()){x:Nat}(hx:x∈ws):zw hs sets x:=by rw [<- om sets.length ws,bb,h.pre] at hx;exact hx.imp id (h.pl x)
def RJ.step.S0(hs:List (List Nat))(sets:List Nat)(F:Nat->List Nat)(w:Nat)(ws:List Nat)(_:Nat):Prop:=∀{m i:Nat} (hF:NF F (λc z=>z≠0/\z < 6/\Gj hs c z)) (h:RJ hs sets F m i ws ()) (hw:ws[i]? =ae w),∃m',m' < m/\RJ hs sets F m' (i+1) (ws++(Jd sets.length F () ws w).2) ()
namespace RJ.step
@[irreducible] def e0:=Fi gE gE inferInstance eO gE eO S0
def kD:=e0.1
def u3:=e0.2.1
def F_:=e0.2.2.1
def w_:=e0.2.2.2.1
def qG:=e0.2.2.2.2.1
theorem T0:S0 kD u3 F_ w_ qG e0.2.2.2.2.2:=by
 intro m i hF h hw;have hi:i < qG.length:=(aB.mp hw).1;have hwm:=ao hw;have PP:=h.lt w_ hwm;have Uj:∀o:List Nat,(qG++o).drop u3.length=qG.drop u3.length++o:=λo=>gu h.hl;have ho:∀z∈(Jd u3.length F_ () qG w_).2,z∈F_ w_/\z∉qG.drop u3.length:=λz hz=>by
  have:=bl.mp hz;exact ⟨this.1,by simpa using this.2⟩
 have hnd:(qG.drop u3.length++(Jd u3.length F_ () qG w_).2).Nodup:=by exact gj (bO ..) (⟨h.nd,(hF.nd w_ PP).filter _,λa ha b hb e=>(ho b hb).2 (e▸ha)⟩)
 have hlt:∀c∈qG++(Jd u3.length F_ () qG w_).2,c < 6:=λc hc=>by
  rcases bb.mp hc with h1|h1
  ·exact h.lt c h1
  ·exact ((hF.iff w_ PP c).mp (ho c h1).1).2.1
 have hd6:=ez hnd λc hc=>hlt c (by
  rcases bb.mp hc with h1|h1
  ·exact aE _ (gp h1)
  ·exact bK _ h1)
 rw [ba] at hd6;refine ⟨m - 1,?_,?_,?_,hlt,?_,?_,?_,?_⟩
 ·have:=h.ms;lia
 ·refine ai (Fg h.hl ..) ?_;exact h.pre
 ·refine ai (Uj ..) ?_;exact hnd
 ·refine ai (Uj ..) ?_;intro c hc;rcases bb.mp hc with h1|h1
  ·exact h.pl c h1
  ·exact iB.of (h.mem hwm) ((hF.iff w_ PP c).mp (ho c h1).1).2.2
 ·refine ai (Uj ..) ?_;intro j x hj hx z hz;rcases gX j i with h1|h1
  ·rw [eE (by exact CL (by assumption) (by assumption))] at hx;exact aE _ (h.clo j x h1 hx z hz)
  ·have:j=i:=by lia
   subst this;rw [eE hi,hw] at hx
   (have lz:=aO hx;clear hx;subst lz)
   by_cases hm:z∈qG.drop u3.length
   ·exact aE _ hm
   ·exact bK _ (bl.mpr ⟨hz,by simpa using hm⟩)
 ·refine ai (ba ..) ?_;lia
 ·(refine ai (Uj ..) ?_;refine ai (ba ..) ?_;refine ai (ba ..) ?_)
  have:=h.ms;lia
end RJ.step
theorem RJ.step:RJ.step.S0 hs sets F w ws 0:=by with_unfolding_all exact uz _ _ _ _ _ _ RJ.step.S0 @RJ.step.T0 hs sets F w ws 0
structure t7(hs:List (List Nat))(sets ws:List Nat):Prop where
 pre:ws.take sets.length=sets
 lt:∀c∈ws,c < 6
 len:ws.length<=12
 iff:∀z,z∈ws.drop sets.length↔iB hs sets z
theorem t7.mem(h:t7 hs sets ws)(x:Nat):x∈ws↔zw hs sets x:=by
 conv=>lhs;rw [<- om sets.length ws,bb,h.pre]
 exact or_congr Iff.rfl (h.iff x)
theorem RJ.fin(hF:NF F (λc z=>z≠0/\z < 6/\Gj hs c z))(H0:hs.getD 0 []=[])(H6:hs.length=6)(hs6:sets.length<=6)(h:RJ hs sets F m ws.length ws ()):t7 hs sets ws where
 pre:=h.pre
 lt:=h.lt
 len:=by have h1:=h.dl;rw [fY] at h1;lia
 iff:=λz=>by
  have key:∀{x z},x∈ws->Gj hs x z->z∈ws.drop sets.length:=λ{x z} hx hf=>by
   refine cK (iq.mp hx) λj hj=>h.clo j x (aB.mp hj).1 hj z ((hF.iff x (h.lt x hx) z).mpr ⟨?_,?_,hf⟩)
   ·rintro rfl;refine aK hf λp hp y=>?_;clear hf;rw [H0] at hp;exact el hp
   ·refine aK hf λp hp y=>?_;clear hf;refine uv λhz=>?_;rw [bR,il (by lia)] at hp;exact el hp
  refine ⟨h.pl z,λhp=>?_⟩;induction hp with
  |set hx hf=>refine key ?_ hf;rw [<- h.pre] at hx;exact pv hx
  |next _ hf ih=>exact key (gp ih) hf
end
theorem Bg{α:Type}{as:List α}{n:Nat}(hn:n<=as.length):jq as (ae (n:Int)) av av=as.drop n:=by
 have e:c8 (ae (n:Int)) av av as.length=(((n:Nat):Int),((n+(as.length - n):Nat):Int),1):=by unfold c8;simp;lia
 unfold jq;refine ai (e ..) ?_;simp only;refine ai (pQ ..) ?_;refine ai (pR ..) ?_;refine ai (d6 (by rw [fY];exact bp _) ..) ?_;rfl
variable {d:Nat}{cs:List Nat}
noncomputable def HF:bP:=Qu ((fR (cO 23)).getD 27 (.Pass ⟨0,0,0,0⟩))
noncomputable abbrev tq(L c:ay)(ct:aj):cn:=yl ly (exA HF) (exB HF) (exS HF) [("settings",L+19),("noted",L+18),("line",L+17)] c ct
section
variable {S:Nat->Nat}
theorem Cr{low:Nat}(hl:low < 28){l:List Nat}(h6:∀c∈l,c < 6){o:Nat}(ho:o < 6):((l.map λw=>cC (low+w)).any (· == cC (low+o)))=decide (o∈l):=by
 refine gj (cm ..) ?_;refine gj (cT ..) ?_;refine ai (decide_eq_true_eq ..) ?_;constructor
 ·intro dP;refine aK dP λz h1 h2=>?_;clear dP;refine aK (aG.mp h1) λb hb eT=>?_;subst eT;have:=(wO hl (h6 b hb) ho).mp (by simpa using h2);exact this▸hb
 ·intro h;exact ⟨_,aG.mpr ⟨o,h,rfl⟩,by simp⟩
theorem Mx(H:Hy G){c':ay}{ct:aj}{m i:Nat}{ws:List Nat}{w c0:Nat}{tb:List zP}(hS:Sv vs ((43,.ref W)::S25 ds n6 lx S h F d))(hF:NF F (λc z=>z≠0/\z < 6/\Gj (di ds) c z))(hJ:RJ (di ds) (cA d) F m i ws ())(hw:ws[i]? =ae w)
 (h1:cy L vs∈mu) (h2:mi fd (eh (tq L c' ct) av)∈mu) (h3:gH 304 tb∈mu) (hq:(298,c0,c',ly)∈tb) (h4:bk W (Pj (aF ds) ws)∈mu):
 FW (k+5) mu (.ref fd) [.str (cC (aF ds+w))] λy nu=>y= .list ((Jd (cA d).length F () ws w).2.map λw=>V.str (cC (aF ds+w)))/\nu=mu:=by
 have d8:=eI ds;have CP:∀c∈aN 6,c < 6:=λc hc=>aY.mp hc;refine FB H.B (names:=["name"]) (vals':=λx=>[ae (.str (cC (aF ds+w)))]) (Kn.obj h2) rfl (Kn.code h3 hq) rfl (λvs h=>?_) (by show (aM 0 (exS HF).names).nd;decide+kernel) (λL=>⟨rfl,rfl,rfl⟩) (λL2=>?_) (λL2=>?_)
 ·exact uK h λa=>rfl
 ·exact .cons (j:=0) .loc rfl .nil
 have he:dz (dT (tq L c' ct) fd L2):=⟨rfl,rfl,rfl⟩;have PP:=hJ.lt w (ao hw);have hl6:(F w).length<=6:=ez (hF.nd w PP) λy hy=>((hF.iff w PP y).mp hy).2.1;have hwl:ws.length<=12:=by have:=hJ.dl;have h2:=nY d;rw [fY] at this;lia
 have E9:(Pj (aF ds) ws).drop (cA d).length=((ws.drop (cA d).length).map λw=>cC (aF ds+w)).map .str:=by (refine ai (a0 ..) ?_;refine ai (Nf ..) ?_);rfl
 refine cg (bL (nD (F w) (λo=>V.str (cC (aF ds+o))) (λo=>!((ws.drop (cA d).length).map λw=>cC (aF ds+w)).any (· == cC (aF ds+o))) (λo=>V.str (cC (aF ds+o))) ⟨rfl,rfl,by decide+kernel,by decide+kernel⟩ (dB (bE (pJ (ah (j:=44) (L:=L) (lay:=aM (L+1) (bj (cO 23)).names) he (.free (L+18) "noted" rfl rfl rfl rfl rfl) (ab _ h1) (hS.get rfl))) (ah (j:=0) he .loc aa rfl) (mf (gb d8 CP (aY.mpr PP))))) (by lia) (by exact aw (by assumption) (by decide)) (λC1 a ha=>iu 1 he.comp .loc (fS (da (ah (j:=1) he.comp .loc aa rfl) (dF (bL (bE (uB (ah (j:=43) (L:=L) (lay:=aM (L+1) (bj (cO 23)).names) he.comp (.free (L+17) "line" rfl rfl rfl rfl rfl) (ab _ (ab _ h1)) (hS.get rfl)) (ab _ (ab _ h4))) (jo (eQ (ej (j3 H he.comp H.b_len rfl) (au (dF (ah (j:=45) (L:=L) (lay:=aM (L+1) (bj (cO 23)).names) he.comp (.free (L+19) "settings" rfl rfl rfl rfl rfl) (ab _ (ab _ h1)) (hS.get rfl))) aT) (mh (by refine ai (ak ..) ?_;exact aw (nY d) (by decide))))) dN dN) (o9 (λh=>by exact gL h) (by refine ai (ak ..) ?_;exact aw (by assumption) (by decide)))) (by (refine ai (Bg (by rw [ak,ak];exact hJ.hl) ..) ?_;refine ai (ak ..) ?_;refine ai (E9 ..) ?_;rfl)))) BK)) (λx=>(ah (j:=1) he.comp .loc aa rfl)))) ?eq) (jJ.tail (jJ.keep ⟨rfl,rfl⟩))
 case eq=>refine congrArg V.list (congrArg _ (fy λo ho=>?_));have ho6:=((hF.iff w PP o).mp ho).2.1;exact congrArg not (Cr d8 (λc hc=>hJ.lt c (gp hc)) ho6)
end
section
variable {S:Nat->Nat}
noncomputable abbrev S27(ds:List Nat)(n6:Nat)(lx:ay)(S h:Nat->Nat)(F:Nat->List Nat)(d:Nat)(ws:List Nat):List (Nat×V):=(43,.list (Pj (aF ds) ws))::S25 ds n6 lx S h F d
noncomputable abbrev Qz(P:ib)(N:Int)(cs:List Nat)(L fd:ay)(Nr:cn)(tb:List zP)(vs:eL)(mu:Mu)(_:Unit):Mu:=mi fd (eh Nr av)::cy L vs::((j5 P [] N cs).drop 1++(gH 304 tb::mu))
def t8.S0(k:Nat)(mu:Mu)(vs:eL)(Θ:AF->Mu->Prop)(L W:ay)(ds:List Nat)(n6 d:Nat)(cs:List Nat)(pm doc:aj)(P:ib)(N:Int)(c0:ay)(_:Nat):Prop:=∀{K:gn} {S h:Nat->Nat} {F:Nat->List Nat} (H:Hy G) (LH:fL G K) (BH:yr K) (LL:Se G) (he:dz (bT pm doc L)) (PO:mU P) (hS:Sv vs ((43,.ref W)::S25 ds n6 P.lx S h F d)) (hR:pg ds n6 18 cs) (hF:NF F (λc z=>z≠0/\z < 6/\Gj (di ds) c z)) (next:∀vs cs' ws c',Sv vs (S27 ds n6 P.lx S h F d ws)->pg ds n6 19 cs'->t7 (di ds) (cA d) ws->WS (k+8) (cy L vs::(j5 P [] N cs'++(gH 304 [(273,49,c0,ly),(298,40,c',ly)]::mu))) (bT pm doc L) (je 28) Θ),WS (k+8) (bk W (Pj (aF ds) (cA d))::cy L vs::(j5 P [] N cs++(gH 304 [(273,49,c0,ly)]::mu))) (bT pm doc L) (je 27) Θ
namespace t8
@[irreducible] def e0:=Fj eO gE gE sZ cM cM gE eO eO gE gM gM IK QW cM eO S0
def k_:=e0.1
def e9:=e0.2.1
def kQ:=e0.2.2.1
def Θ_:=e0.2.2.2.1
def L_:=e0.2.2.2.2.1
def W_:=e0.2.2.2.2.2.1
def aV:=e0.2.2.2.2.2.2.1
def gP:=e0.2.2.2.2.2.2.2.1
def d_:=e0.2.2.2.2.2.2.2.2.1
def qL:=e0.2.2.2.2.2.2.2.2.2.1
def pf:=e0.2.2.2.2.2.2.2.2.2.2.1
def g8:=e0.2.2.2.2.2.2.2.2.2.2.2.1
def P_:=e0.2.2.2.2.2.2.2.2.2.2.2.2.1
def N_:=e0.2.2.2.2.2.2.2.2.2.2.2.2.2.1
def Sm:=e0.2.2.2.2.2.2.2.2.2.2.2.2.2.2.1
theorem T0:S0 k_ e9 kQ Θ_ L_ W_ aV gP d_ qL pf g8 P_ N_ Sm e0.2.2.2.2.2.2.2.2.2.2.2.2.2.2.2:=by
 intro K S h F H LH BH LL he PO hS hR hF next
 have hf:∀{kQ} {l:Mu} {a:cY},bq L_ (aM (L_+1) (bj (cO 23)).names) kQ∈a::cy L_ kQ::l:=ab _ aa;refine cu (H.f297.go) λob2 z z z r0 rd z=>aK (hR.tok OO) λcs' ht S1=>aC (xN (Mo (Hw (mj (ml H he H.m_run rfl) r0 rd (cB (cg (ah (j:=21) he (.cell (L_+11) "lexer") hf (hS.get rfl)) (cB (cg (ah (j:=43) he (.cell (L_+17) "line") hf (hS.get rfl)) (cB (cg cP (cB (B7 (i:=9) he rfl LL.la H.B rfl rfl rfl rfl λfd c' ct=>e8 ?_))))))))))));have h00:(di aV).getD 0 []=[]:=by
  refine ai (tZ (by decide) ..) (E0.mpr λc hc=>?_);refine aK (aG.mp ((nq _ _ _).mp hc).2) λq hq z=>?_;have h1:=bl.mp hq;have h2:=(qP q h1.1).2.1;have h3:q.2=0:=by simpa using h1.2
  lia
 show FW (k_+8) (mi fd (eh (tq L_ c' ct) av)::bk W_ (Pj (aF aV) (cA d_))::cy L_ kQ::(j5 P_ [] N_ qL++(gH 304 [(273,49,Sm,ly),(298,40,c',ly)]::e9))) (.ref 297) [.ref P_.lx,.ref W_,.str "end",.ref fd] _;refine FW.to [1,2] ?_;show FW (k_+8) (bk W_ ((cA d_).map λb=>V.str (cC (aF aV+b)))::bk P_.pb []::Qz P_ N_ qL L_ fd (tq L_ c' ct) [(273,49,Sm,ly),(298,40,c',ly)] kQ e9 ()) (.ref 297) [.ref P_.lx,.ref W_,.str "end",.ref fd] _;have RH:rS (k_+4) (λb=>cC (aF aV+b)) P_.lx P_.dx P_.pb W_ fd (tg (N_ - (qL.count 10:Nat)) (.ref P_.f) P_.pb) (eh (tq L_ c' ct) av) (tq L_ c' ct) (Qz P_ N_ qL L_ fd (tq L_ c' ct) [(273,49,Sm,ly),(298,40,c',ly)] kQ e9) (Jd (cA d_).length F) (RJ (di aV) (cA d_) F) (λc nu ws S=>c="end"/\nu=j5 P_ [] N_ cs'++(bk W_ (ws.map λb=>V.str (cC (aF aV+b)))::mi fd (eh (tq L_ c' ct) av)::cy L_ kQ::gH 304 [(273,49,Sm,ly),(298,40,c',ly)]::e9)):=⟨
  λS=>ao (i:=2) rfl,
  nL _ _ _,
  ab _ (ab _ (ab _ aa)),
  yI _ _ _,
  by show ("push_token":bc)∉(["lineno","instream","whitespace","pushback"]:List bc);decide,
  rfl,
  λS ws q=>Kn.obj (ao (i:=2) rfl),
  λm i ws S h=>⟨by have h1:=h.dl;have h2:=nY d_;rw [fY] at h1;lia,h.le⟩,
  λm i ws S w h hw=>((Mx (k:=k_+2) H hS hF h hw (ao (i:=3) rfl) (ao (i:=2) rfl) (ao (i:=10) rfl) (ab _ aa) (ao (i:=0) rfl)).mono λy nu e=>⟨e.1,by (refine ai (e.2 ..) ?_;rfl)⟩),
  λm i ws S w h hw=>h.step hF hw,
  λm ws S h=>by
   refine FW.to [1,3,3,3,3,3,3] (FW.mono (FW.app (bk W_ (ws.map λb=>V.str (cC (aF aV+b)))::mi fd (eh (tq L_ c' ct) av)::cy L_ kQ::gH 304 [(273,49,Sm,ly),(298,40,c',ly)]::e9) (xC (k:=k_+2) H LH BH PO ht hR.len)) λy nu he=>?_);refine ef he λnu' e1 e2 e3=>?_;clear he;subst e1 e3;exact ⟨"end",by (refine ai (e2 ..) ?_;refine ai (Ce ..) ?_;rfl),rfl,rfl⟩⟩
 refine Qi (k:=k_+4) H LH RH (RJ.start Cq) λm ws S c nu hJ hf=>dU hf λe2 e3=>?_;clear hf;subst e2 e3;refine ⟨aJ,by rfl,?_⟩;show WS (k_+8) _ (bT pf g8 L_) [] _;refine bB ?_;show WS (k_+8) (j5 P_ [] N_ cs'++(bk W_ (Pj (aF aV) ws)::mi fd (eh (tq L_ c' ct) av)::cy L_ kQ::gH 304 [(273,49,Sm,ly),(298,40,c',ly)]::e9)) (bT pf g8 L_) (je 28) Θ_;refine WF.to [8] (WF.drop1 (WF.to [8,7] (WF.frzL (j:=43) (hS.get rfl) ?_)));exact next _ cs' ws c' ((hS.set (j:=43) (y:= .list (Pj (aF aV) ws))).sub ⟨rfl,rfl,rfl,rfl,rfl,rfl,rfl,rfl,rfl,rfl,rfl,rfl,rfl,trivial⟩) S1 (hJ.fin hF h00 (by rfl) (nY d_))
end t8
theorem t8{pm doc:aj}{P:ib}{N:Int}{c0:ay}:t8.S0 k mu vs Θ L W ds n6 d cs pm doc P N c0 0:=by with_unfolding_all exact An _ _ _ _ _ _ _ _ _ _ _ _ _ _ _ _ t8.S0 @t8.T0 k mu vs Θ L W ds n6 d cs pm doc P N c0 0
end
section
variable {S:List Nat}{W:List (List Nat)}{b v:Nat}
noncomputable def HG(one other:List Nat):Bool:=((one.filter λhere=>decide (here∈other)).map λz=>V.int 1).isEmpty
noncomputable def rj(W:List (List Nat)):List V:=W.zipIdx.flatMap λq=>((W.take q.2).filter (HG q.1)).map λz=>V.int 1
theorem ED{u w:List Nat}:HG u w=aJ↔Sa u w:=by delta HG Sa;refine gj (uk ..) ?_;refine gj (jc ..) ?_;refine gj (gY ..) ?_;simp
theorem Pk:(!(rj W).isEmpty)=aJ↔∃(i j:Nat) (u w:List Nat),j < i/\W[i]? =ae u/\W[j]? =ae w/\Sa u w:=by
 have e:(!(rj W).isEmpty)=aJ↔∃x,x∈rj W:=by
  cases h:rj W with
  |nil=>simp
  |cons a l=>simp
 refine gj (e ..) ?_;delta rj;constructor
 ·intro dP;refine cK dP λx hx=>?_;clear dP;refine aK (bG.mp hx) λq hq h=>aK (aG.mp h) λw hw z=>dU (bl.mp hw) λh1 h2=>cK (iq.mp h1) λj hj=>?_;have PK:=qh.mp hq;have Ub:j < q.2:=by
   have:=(aB.mp hj).1;rw [dD] at this;omega
  rw [Ni Ub] at hj;exact ⟨q.2,j,q.1,w,Ub,PK,hj,ED.mp h2⟩
 ·intro eT;refine tv eT λi j u w Ub hi hj hs=>?_;clear eT;exact ⟨V.int 1,bG.mpr ⟨(u,i),qh.mpr hi,aG.mpr ⟨w,bl.mpr ⟨iq.mpr ⟨j,by refine ai (Ni Ub ..) ?_;exact hj⟩,ED.mpr hs⟩,rfl⟩⟩⟩
theorem Bh{P:Nat->Prop}:∀{w:List Nat},(∃c∈w,P c)->∃u y t,w=u++y::t/\P y/\∀c∈u,¬P c
 |[],h=>by obtain ⟨c,hc,_⟩:=h;exact el hc
 |a::w,h=>by
  by_cases ha:P a
  ·exact ⟨[],a,w,rfl,ha,λc hc=>el hc⟩
  ·obtain ⟨u,y,t,e,h1,h2⟩:=Bh (w:=w) (by
    refine aK h λc hc hp=>?_;rcases aP.mp hc with q|q
    ·exact absurd (q▸hp) ha
    ·exact ⟨c,q,hp⟩)
   exact ⟨a::u,y,t,by refine ai (e ..) ?_;rfl,h1,λc hc=>by
    rcases aP.mp hc with q|q
    ·refine ai (q ..) ?_;exact ha
    ·exact h2 c q⟩
structure Gr6(hs:List (List Nat)):Prop where
 ok:zR hs
 z:hs.getD 0 []=[]
 hr:∀y,y≠0->y < 6->∃w,vV hs y [0] w
theorem EE(g:Gr6 hs)(hn:¬iB hs S b)(nv:I5 hs S b v){w:List Nat}(hw:vV hs b S w):v∈w:=by refine aK (hw.2) λd hd hdS=>cF (Bh (P:=zw hs S) ⟨d,dg hd,.inl hdS⟩) λu y t e h1 h2=>?_;have hb:=hw.1.back;rw [e,show u++y::t=(u++[y])++t by simp,ei.append] at hb;have:=tn g.hr g.ok.lt hn nv hb.1 h1 h2;refine ai (e ..) ?_;refine fZ (this ..) ?_;exact bK _ aa
theorem My(g:Gr6 hs)(h0:0∈S)(zj:b≠0)(z8:b < 6)(nv:I5 hs S b v)(hW:∀w,w∈W↔vV hs b S w):(!(rj W).isEmpty)=aJ↔iB hs S b:=by
 refine gj (Pk ..) ?_;constructor
 ·intro gi;refine tv gi λi j u w y hi hj hs=>?_;clear gi;exact bN λhn=>hs v (EE g hn nv ((hW u).mp (ao hi))) (EE g hn nv ((hW w).mp (ao hj)))
 ·intro hp;refine cD (nU h0 g.z g.ok.lt g.hr hp zj z8) λu w hu hw hs=>cK (iq.mp ((hW u).mpr hu)) λi hi=>cK (iq.mp ((hW w).mpr hw)) λj hj=>?_;rcases sJ i j with h|h|h
  ·exact ⟨j,i,w,u,h,hj,hi,λz hz MM=>hs z MM hz⟩
  ·subst h;rw [hi] at hj
   (have lz:=aO hj;clear hj;subst lz)
   exact aK (hu.2) λd hd y=>absurd (dg hd) (hs d (dg hd))
  ·exact ⟨i,j,u,w,h,hi,hj,hs⟩
theorem Pm{marks w:List Nat}(h:BW hs b marks w):∀u y,w=u++[y]->∀c∈u,c∉marks:=by
 induction h with
 |one _=>
  intro u y e c hc;cases u with
  |nil=>exact el hc
  |cons a t=>simp at e
 |@ext w c d hw hl hm _ _ _ ih=>
  intro u y e a ha;have hu:u=w:=((List.append_inj' e rfl).1).symm;subst hu;refine cK (JR.mp hl) λt ht=>?_;rw [ht] at ha;rcases bb.mp ha with h1|h1
  ·exact ih t c ht a h1
  ·refine ai (aA.mp h1 ..) ?_;exact hm
noncomputable def kr(w:List Nat):Nat:=w.getLast?.getD 0
theorem Mz(g:Gr6 hs)(h0:0∈S)(nv:I5 hs S b v){Ta:List Nat}(hm:∀x,x∈Ta↔zw hs S x)(hW:∀w,w∈W↔vV hs b Ta w):(!(W.filter λw=>kr w != v).isEmpty)=aJ↔iB hs S b:=by
 have e:(!(W.filter λw=>kr w != v).isEmpty)=aJ↔∃w∈W,kr w≠v:=by
  refine ai (Cw ..) ?_;refine fZ (Bool.not_eq_true ..) ?_;refine gj (uk ..) ?_;refine gj (gY ..) ?_;constructor
  ·intro h;apply bN;intro hn;exact h λw hw=>by
    have:¬kr w≠v:=λq=>hn ⟨w,hw,q⟩;simpa using this
  ·intro iC h;refine aK iC λw hw h1=>?_;clear iC;exact h w hw (by simpa using h1)
 refine gj (e ..) ?_;constructor
 ·intro kF;refine aK kF λw hw hl=>?_;clear kF;refine mG ((hW w).mp hw) λMW y hy hym=>cK (JR.mp hy) λu l9=>?_;subst l9;refine bN λhn=>hl ?_;have:=tn g.hr g.ok.lt hn nv MW.back ((hm y).mp hym) λc hc h=>Pm MW u y rfl c hc ((hm c).mpr h);delta kr;(refine ai (hy ..) ?_;refine ai (this ..) ?_);rfl
 ·intro hp;refine ir (kp h0 g.ok.lt g.hr hp) λw y hw hy wk hu=>ef (kZ (marks:=Ta) hw ⟨y,by simp,(hm y).mpr hy⟩) λu MW mD qY=>aK mD λc hc JM=>?_;clear mD;have hcy:c=y:=by
   rcases bb.mp (qY c (dg hc)) with h|h
   ·exact absurd ((hm c).mp JM) (hu c h)
   ·exact aA.mp h
  subst hcy;refine ⟨u,(hW u).mpr ⟨MW,c,hc,JM⟩,?_⟩;delta kr;refine ai (hc ..) ?_;rintro rfl;exact wk nv.sd
theorem Bi{α β:Type}(W:List β):∀(l:List α) (s:Nat),2*((l.zipIdx s).flatMap λq=>W.take q.2).length<=l.length*(2*s+l.length)
 |[],s=>by exact gq _
 |a::l,s=>by
  have ih:=Bi W l (s+1);refine ai (ow ..) ?_;refine ai (dH ..) ?_;refine ai (ba ..) ?_;refine ai (dD ..) ?_;refine ai (bJ ..) ?_;have e:l.length*(2*(s+1)+l.length)=l.length*(2*s+(l.length+1))+l.length:=by refine ai (show 2*(s+1)+l.length=(2*s+(l.length+1))+1 by lia) ?_;refine ai (Nat.mul_succ ..) ?_;rfl
  rw [e] at ih;refine ai (iT ..) ?_;refine ai (xo ..) ?_;generalize l.length*(2*s+(l.length+1))=q at ih ⊢;lia
end
section
variable {p1 p3:lF}
theorem Sn{β:Type}{dj:iE}{t u w:bc}{elt fc:bP}{nZ:List bP}{bs:List β}{inj:β->V}{pp:β->Bool}{g:β->V}{kk:Nat}(i j l:Nat)(he:dz dj)(s1:Sl dj C (aM (C+1) scope.names) t i)(s2:Sl dj C (aM (C+1) scope.names) w j)(s3:Sl dj C (aM (C+1) scope.names) u l)(hl:(((nones (aM (C+1) scope.names)).set i (ae v)).set j (ae x))[l]? =ae av)
 (src:o7 k (Rh scope C i j v x::mu) dj fc (.Name u p2) [] (bs.map inj)) (h:∀b∈bs,wY k (nC scope C ((((nones (aM (C+1) scope.names)).set i (ae v)).set j (ae x)).set l (ae (inj b)))::mu) dj nZ (pp b)/\(pp b=aJ->PE k (nC scope C ((((nones (aM (C+1) scope.names)).set i (ae v)).set j (ae x)).set l (ae (inj b)))::mu) dj elt (g b)))
 (hf:autoParam ((dj.kindOf t == ae .free)=aH) aR) (hf':autoParam ((dj.kindOf u == ae .free)=aH) aR) (hf'':autoParam ((dj.kindOf w == ae .free)=aH) aR):Av k mu scope C dj (.Tuple [.Name t p1,.Name w p3] kk p) elt fc (.Name u p2) nZ (.tup [v,x]) bs inj pp g:=
 ⟨_,[],xx he s1 s2 hf hf'',src,(λz h=>el h),λb hb=>⟨_,qw he s3 hf',(h b hb).1,(h b hb).2,Le.unset hl⟩⟩
end
section
variable {S:Nat->Nat}
theorem Je{α:Type}{as:List α}{n:Nat}(hn:n<=as.length):jq as av (ae (n:Int)) av=as.take n:=by
 have e:c8 av (ae (n:Int)) av as.length=(((0:Nat):Int),((0+n:Nat):Int),1):=by unfold c8;simp;lia
 unfold jq;refine ai (e ..) ?_;simp only;refine ai (pQ ..) ?_;refine ai (pR ..) ?_;refine ai (fx ..) ?_;rfl
theorem Jf{xs:List V}(h:∀x∈xs,x=V.int 1):(pd xs).isSome=aJ:=by
 have e:xs=xs.map λz=>V.int 1:=by
  conv=>lhs;rw [<- xt xs]
  exact b5 h
 rw [e];exact nj xs λz=>1
theorem Bj:∀l:List (List Nat),(pd (l.map wV)).isSome=aJ
 |[]=>rfl
 |w::l=>by
  refine cK (dJ.mp (Bj l)) λa ha=>cK (dJ.mp (nj w λn=>(n:Int))) λb hb=>?_;have hb':pd (w.map nV)=ae b:=hb;simp [pd,Kl,ha,hb']
noncomputable def lV(ws:List Nat):List Nat:=(aN 6).filter λb=>decide (b∈ws)
theorem MA(ws:List Nat):(lV ws).length<=6:=aw (bu _ _) (by decide)
noncomputable abbrev Pn(ds:List Nat)(n6:Nat)(lx:ay)(S h:Nat->Nat)(F:Nat->List Nat)(d:Nat)(ws:List Nat):List (Nat×V):=(39,wV (lV ws))::S27 ds n6 lx S h F d ws
theorem So(H:Hy G){pm doc:aj}(he:dz (bT pm doc L))(hS:Sv vs (S27 ds n6 lx S h F d ws))(h6:∀c∈ws,c < 6)
 (next:∀vs,Sv vs (Pn ds n6 lx S h F d ws)->WS (k+8) (cy L vs::mu) (bT pm doc L) (je 29) Θ):
 WS (k+8) (cy L vs::mu) (bT pm doc L) (je 28) Θ:=by
 have d8:=eI ds;have CP:∀c∈aN 6,c < 6:=λc hc=>aY.mp hc;have hf:∀{vs} {l:Mu},bq L (aM (L+1) (bj (cO 23)).names) vs∈cy L vs::l:=aa;refine aC (Qb (aN 6) nV (λb=>(ws.map λw=>cC (aF ds+w)).any (· == cC (aF ds+b))) nV ⟨rfl,rfl,by decide+kernel,by decide+kernel⟩ (fJ (n:=6) (iO H he H.b_range rfl) aU rfl (by decide)) (by lia) (by decide) (λC1 a ha=>iu 1 he.comp .loc (fS (da (bE (dF (ah (j:=7) he.comp (.cell (L+6) "names") (ab _ hf) (hS.get rfl))) (ah (j:=1) he.comp .loc aa rfl) (ew (j:=a) (inj:=λb=>V.str (cC (aF ds+b))) (bz (CP a ha)) (by decide))) (dF (bL (ah (j:=43) he.comp (.cell (L+17) "line") (ab _ hf) (hS.get rfl)) (y:= .list ((ws.map λw=>cC (aF ds+w)).map .str)) (by refine ai (a0 ..) ?_;rfl))) FA)) (λz=>(ah (j:=1) he.comp .loc aa rfl))) rfl (λD=>?_));refine ai (show ((aN 6).filter λb=>(ws.map λw=>cC (aF ds+w)).any (· == cC (aF ds+b)))=lV ws from fy λb hb=>Cr d8 h6 (CP b hb)) (fK.list (aQ (i:=0) (j:=39) he .loc rfl ?_));exact next _ (hS.set (j:=39) (y:=wV (lV ws)))
noncomputable abbrev S29(ds:List Nat)(n6:Nat)(lx:ay)(S h:Nat->Nat)(F:Nat->List Nat)(d:Nat)(ws:List Nat)(b c:Nat):List (Nat×V):=(8,.str (cC (aF ds+c)))::(40,.bool (!(rj (gK (di ds) b (cA d))).isEmpty))::(9,nV b)::Pn ds n6 lx S h F d ws
theorem h00:(di ds).getD 0 []=[]:=by
 refine ai (tZ (by decide) ..) (E0.mpr λc hc=>?_);refine aK (aG.mp ((nq _ _ _).mp hc).2) λq hq z=>?_;have h1:=bl.mp hq;have h2:=(qP q h1.1).2.1;have h3:q.2=0:=by simpa using h1.2
 lia
theorem gr6:Gr6 (di ds):=⟨sf,h00,qU⟩
def za.S0(k:Nat)(mu:Mu)(vs:eL)(L lx:ay)(ds:List Nat)(n6 d:Nat)(S h:Nat->Nat)(F:Nat->List Nat)(ws:List Nat)(pm doc:aj)(b _:Nat):Prop:=∀{Θ:AF->Mu->Prop} (H:Hy G) (he:dz (bT pm doc L)) (z8:b < 6) (zj:b≠0) (z9:Sv vs ((9,nV b)::Pn ds n6 lx S h F d ws)) (hT:sg (di ds) S) (hh:∀b,b≠0->b < 6->pn (di ds) b (h b)) (hL:t7 (di ds) (cA d) ws) (next:∀vs c,Sv vs (S29 ds n6 lx S h F d ws b c)->c < 6->I5 (di ds) (cA d) b c->WS (k+8) (cy L vs::mu) (bT pm doc L) ((HD ((fR (cO 23)).getD 29 (.Pass ⟨0,0,0,0⟩))).drop 4) Θ),WS (k+8) (cy L vs::mu) (bT pm doc L) (HD ((fR (cO 23)).getD 29 (.Pass ⟨0,0,0,0⟩))) Θ
namespace za
@[irreducible] def e0:=Fj eO gE gE cM cM gE eO eO inferInstance inferInstance inferInstance gE gM gM eO eO S0
def k_:=e0.1
def e9:=e0.2.1
def kQ:=e0.2.2.1
def L_:=e0.2.2.2.1
def y5:=e0.2.2.2.2.1
def aV:=e0.2.2.2.2.2.1
def gP:=e0.2.2.2.2.2.2.1
def d_:=e0.2.2.2.2.2.2.2.1
def S_:=e0.2.2.2.2.2.2.2.2.1
def h_:=e0.2.2.2.2.2.2.2.2.2.1
def F_:=e0.2.2.2.2.2.2.2.2.2.2.1
def qG:=e0.2.2.2.2.2.2.2.2.2.2.2.1
def pf:=e0.2.2.2.2.2.2.2.2.2.2.2.2.1
def g8:=e0.2.2.2.2.2.2.2.2.2.2.2.2.2.1
def b_:=e0.2.2.2.2.2.2.2.2.2.2.2.2.2.2.1
theorem T0:S0 k_ e9 kQ L_ y5 aV gP d_ S_ h_ F_ qG pf g8 b_ e0.2.2.2.2.2.2.2.2.2.2.2.2.2.2.2:=by
 intro Θ H he z8 zj z9 hT hh hL next
 have d8:=eI aV;have hf:∀{kQ} {l:Mu},bq L_ (aM (L_+1) (bj (cO 23)).names) kQ∈cy L_ kQ::l:=aa;refine cu (H.f290.go) λob z z z h0 hd z=>dU (rX (block:=b_) (marks:=cA d_) (sf (ds:=aV))) λQM hW=>aC (bX (y:= .list ((gK (di aV) b_ (cA d_)).map wV)) (ju (ys:=[.list ((di aV).map wV),nV b_,wV (cA d_)]) (ml H he H.m_back rfl) h0 hd (au (ah (j:=32) he .loc hf (z9.get rfl)) (au (ah (j:=9) he (.cell (L_+8) "block") hf (z9.get rfl)) (au (ah (j:=45) he (.cell (L_+19) "settings") hf (z9.get rfl)) aT))) (m9 (k:=k_+6) H sf z8 (aw (nY d_) (by decide)))) (aQ (i:=0) (j:=36) he (.cell (L_+14) "ways") rfl ?_) rfl rfl);have hS1:Sv _ ((36,.list ((gK (di aV) b_ (cA d_)).map wV))::(9,nV b_)::Pn aV gP y5 S_ h_ F_ d_ qG):=z9.set (j:=36) (y:= .list ((gK (di aV) b_ (cA d_)).map wV));generalize kQ.set 36 (ae (.list ((gK (di aV) b_ (cA d_)).map wV)))=Nx at hS1 ⊢;show WS (k_+8) (cy L_ Nx::e9) _ _ _;have hsz:((gK (di aV) b_ (cA d_)).zipIdx.flatMap λq=>(gK (di aV) b_ (cA d_)).take q.2).length<=2 ^ 21:=by have h1:=Bi (gK (di aV) b_ (cA d_)) (gK (di aV) b_ (cA d_)) 0;have h2:=JC QM (show 2*0+(gK (di aV) b_ (cA d_)).length<=2000 by lia);lia
 have hqi:∀q∈(gK (di aV) b_ (cA d_)).zipIdx,q.2<=(gK (di aV) b_ (cA d_)).length:=λq hq=>by
  have:=List.mem_zipIdx hq;lia
 have Jj:∀q∈(gK (di aV) b_ (cA d_)).zipIdx,q.1.length<=2 ^ 21:=λq hq=>by
  have h1:=ao (qh.mp hq);have ok:=((hW q.1).mp h1).1.ok sf;exact aw (ez ok.nd ok.lt) (by decide)
 refine aC (bX (y:= .bool (!(rj (gK (di aV) b_ (cA d_))).isEmpty)) (mH (Ke (gK (di aV) b_ (cA d_)).zipIdx (λq=>V.tup [.int (q.2:Nat),wV q.1]) (λq=>(gK (di aV) b_ (cA d_)).take q.2) wV (λq=>HG q.1) (λz z=>V.int 1) ⟨rfl,rfl,by decide+kernel,by decide+kernel⟩ (sx (iO H he H.b_enumerate rfl) (ah (j:=36) he (.cell (L_+14) "ways") hf (hS1.get rfl))) (by lia) hsz (λC2 q hq=>Sn 1 2 3 he.comp .loc .loc (.cell (C2+1) "other") rfl (dB (bL (bE (dF (ah (j:=36) he.comp (.cell (L_+14) "ways") (ab _ hf) (hS1.get rfl))) (jo dN (eQ (ah (j:=1) he.comp .loc aa rfl)) dN) (o9 (λh_=>by exact gL h_) (by refine ai (ak ..) ?_;exact aw QM (by decide)))) (by (refine ai (jr ..) ?_;refine ai (Je (hqi q hq) ..) ?_;rfl)))) (λw hw=>⟨fS (da (nD q.1 nV (λa=>decide (a∈w)) (λz=>V.int 1) ⟨rfl,rfl,by decide+kernel,by decide+kernel⟩ (dB (ah (j:=2) he.comp .loc aa rfl)) (by lia) (Jj q hq) (λC3 a ha=>iu 1 he.comp.comp .loc (fS (da (ah (j:=1) he.comp.comp .loc aa rfl) (dF (ah (j:=3) he.comp.comp (.cell (C2+1) "other") (ab _ aa) rfl)) Ku)) (λz=>aU))) (ij (xs:=[]) aT (bg rfl)) (Fz (nj _ _))),λz=>aU⟩))) (ij (xs:=[]) aT (bg rfl)) (BJ (Jf λx hx=>?ones))) (aQ (i:=0) (j:=40) he .loc rfl ?_) rfl rfl)
 case ones=>exact aK (bG.mp hx) λq z h_=>aK (aG.mp h_) λw z h_=>h_.symm
 have hS2:Sv _ ((40,.bool (!(rj (gK (di aV) b_ (cA d_))).isEmpty))::(9,nV b_)::Pn aV gP y5 S_ h_ F_ d_ qG):=(hS1.set (j:=40) (y:= .bool (!(rj (gK (di aV) b_ (cA d_))).isEmpty))).sub ⟨rfl,rfl,rfl,rfl,rfl,rfl,rfl,rfl,rfl,rfl,rfl,rfl,rfl,rfl,rfl,rfl,trivial⟩;generalize Nx.set 40 (ae (.bool (!(rj (gK (di aV) b_ (cA d_))).isEmpty)))=vs2 at hS2 ⊢;show WS (k_+8) (cy L_ vs2::e9) _ _ _;have ho:=hh b_ zj z8;refine aC (bX (y:= .str (cC (aF aV+h_ b_))) (bE (pJ (ah (j:=33) he .loc hf (hS2.get rfl))) (bE (dF (ah (j:=7) he (.cell (L_+6) "names") hf (hS2.get rfl))) (ah (j:=9) he (.cell (L_+8) "block") hf (hS2.get rfl)) (ew (j:=b_) (inj:=λb_=>V.str (cC (aF aV+b_))) (bz z8) (by decide))) (mf (gb d8 Ph (Pg _ z8 zj)))) (aQ (i:=0) (j:=8) he (.cell (L_+7) "name") rfl ?_) rfl rfl);have hS3:Sv _ (S29 aV gP y5 S_ h_ F_ d_ qG b_ (h_ b_)):=hS2.set (j:=8) (y:= .str (cC (aF aV+h_ b_)));refine aC (xO (λn nu=>∃kQ c,nu=cy L_ kQ::e9/\Sv kQ (S29 aV gP y5 S_ h_ F_ d_ qG b_ c)/\c < 6/\wg (di aV) b_ c/\(∀y,zw (di aV) (cA d_) y->wg (di aV) b_ y->gJ (di aV) c y)/\n=(eY (S_ c)).length) (eY (S_ (h_ b_))).length ⟨_,h_ b_,rfl,hS3,ho.lt,ho.sd,λy hy hd=>ho.near y (hL.lt y ((hL.mem y).mpr hy)) hd,rfl⟩ ?_);intro n nu dP;refine xI dP λkQ c eT hS uc GE hnr gi=>?_;clear dP;subst eT;subst gi;refine PT.wt (da (ah (j:=8) he (.cell (L_+7) "name") hf (hS.get rfl)) (dF (bL (ah (j:=43) he (.cell (L_+17) "line") hf (hS.get rfl)) (y:= .list ((qG.map λw=>cC (aF aV+w)).map .str)) (by refine ai (a0 ..) ?_;rfl))) BK) ?_;refine ai (Cr d8 hL.lt uc ..) ?_;by_cases hc:c∈qG
 ·exact ai (decide_eq_true hc ..) (bB (next _ c hS uc ⟨(hL.mem c).mp hc,GE,hnr⟩))
 ·refine ai (decide_eq_false hc ..) ?_;have zy:c≠0:=by
   rintro rfl;exact hc ((hL.mem 0).mpr (.inl (Gq d_)))
  have zl:=hh c zy uc;show WS (k_+8) (cy L_ kQ::e9) (bT pf g8 L_) _ _;refine aC (bX (y:= .str (cC (aF aV+h_ c))) (bE (pJ (ah (j:=33) he .loc hf (hS.get rfl))) (ah (j:=8) he (.cell (L_+7) "name") hf (hS.get rfl)) (mf (gb d8 Ph (Pg _ uc zy)))) (aQ (i:=0) (j:=8) he (.cell (L_+7) "name") rfl ?_) rfl rfl);refine bB ⟨_,Bf hT hh uc zy,_,h_ c,rfl,(hS.set (j:=8) (y:= .str (cC (aF aV+h_ c)))).sub ⟨rfl,rfl,rfl,rfl,rfl,rfl,rfl,rfl,rfl,rfl,rfl,rfl,rfl,rfl,rfl,rfl,rfl,trivial⟩,zl.lt,⟨gJ.trans zl.sd.1 GE.1,λe=>?_⟩,λy hy hd=>zl.near y (hL.lt y ((hL.mem y).mpr hy)) ⟨hnr y hy hd,λe=>hc ((hL.mem c).mpr (e▸hy))⟩,rfl⟩;have h1:gJ (di aV) c b_:=e▸zl.sd.1;exact GE.2 (gJ.antiH qU z8 GE.1 h1)
end za
theorem za{pm doc:aj}{b:Nat}:za.S0 k mu vs L lx ds n6 d S h F ws pm doc b 0:=by with_unfolding_all exact An _ _ _ _ _ _ _ _ _ _ _ _ _ _ _ _ za.S0 @za.T0 k mu vs L lx ds n6 d S h F ws pm doc b 0
theorem b29_b(H:Hy G){pm doc:aj}(he:dz (bT pm doc L)){b c:Nat}(z8:b < 6)(zj:b≠0)(uc:c < 6)(hS3:Sv vs (S29 ds n6 lx S h F d ws b c))(hL:t7 (di ds) (cA d) ws)(nv:I5 (di ds) (cA d) b c)
 (next:WS (k+8) (cy L vs::mu) (bT pm doc L) [] Θ):
 WS (k+8) (cy L vs::mu) (bT pm doc L) ((HD ((fR (cO 23)).getD 29 (.Pass ⟨0,0,0,0⟩))).drop 4) Θ:=by
 have d8:=eI ds;have hf:∀{vs} {l:Mu},bq L (aM (L+1) (bj (cO 23)).names) vs∈cy L vs::l:=aa;refine cu (H.f290.go) λob z z z h0 hd z=>dU (rX (block:=b) (marks:=cA d) (sf (ds:=ds))) λQM hW=>dU (rX (block:=b) (marks:=lV ws) (sf (ds:=ds))) λhW2l hW2=>?_;have hmm:∀x,x∈lV ws↔zw (di ds) (cA d) x:=λx=>by
  refine rwj (hL.mem x ..) ?_;unfold lV;refine gj (bl ..) ?_;refine gj (aY ..) ?_;refine ai (decide_eq_true_eq ..) ?_;exact ⟨λh=>h.2,λh=>⟨hL.lt x h,h⟩⟩
 have Bq:∀w∈gK (di ds) b (lV ws),w.getLast? =ae (kr w)/\kr w < 6/\w.length < 2 ^ 60:=λw hw=>by
  refine mG ((hW2 w).mp hw) λh1 y hy z=>?_;have ok:=h1.ok sf;have e:kr w=y:=by unfold kr;refine ai (hy ..) ?_;rfl
  exact ⟨by (refine ai (hy ..) ?_;refine ai (e ..) ?_;rfl),e▸ok.lt y (dg hy),b7 (ez ok.nd ok.lt) (by decide)⟩
 have m1:(!(rj (gK (di ds) b (cA d))).isEmpty)=decide (b∈ws.drop (cA d).length):=by rw [cm,My gr6 (Gq d) zj z8 nv hW,decide_eq_true_eq];exact (hL.iff b).symm
 have m2:(((ws.drop (cA d).length).map λw=>cC (aF ds+w)).any (· == cC (aF ds+b)))=decide (b∈ws.drop (cA d).length):=by rw [Cr d8 (λc hc=>hL.lt c (gp hc)) z8]
 have m3:(!((((gK (di ds) b (lV ws)).filter λw=>cC (aF ds+kr w) != cC (aF ds+c)).map wV).isEmpty))=decide (b∈ws.drop (cA d).length):=by rw [List.isEmpty_map,cm,decide_eq_true_eq,hL.iff b,<- Mz gr6 (Gq d) nv hmm hW2];rw [show ((gK (di ds) b (lV ws)).filter λw=>cC (aF ds+kr w) != cC (aF ds+c))=(gK (di ds) b (lV ws)).filter λw=>kr w != c from fy λw hw=>congrArg not (rQ d8 (Bq w hw).2.1 uc)]
 have E9:(Pj (aF ds) ws).drop (cA d).length=((ws.drop (cA d).length).map λw=>cC (aF ds+w)).map .str:=by rw [a0,Nf];rfl
 have hsl:(cA d).length<=ws.length:=by have h1:=congrArg kL hL.pre;rw [dD] at h1;omega
 refine aC (iY (b:=(decide (b∈ws.drop (cA d).length) != decide (b∈ws.drop (cA d).length)) || ((decide (b∈ws.drop (cA d).length) != decide (b∈ws.drop (cA d).length)) || false)) (oJ (iN ?t1 λz=>iN ?t2 λz=>jn)) (λh=>by simp at h) λz=>bB next)
 case t1=>exact da (bL (ah (j:=40) he .loc hf (hS3.get rfl)) (congrArg V.bool m1)) (bL (mH (bE (dF (ah (j:=7) he (.cell (L+6) "names") hf (hS3.get rfl))) (ah (j:=9) he (.cell (L+8) "block") hf (hS3.get rfl)) (ew (j:=b) (inj:=λb=>V.str (cC (aF ds+b))) (bz z8) (by decide))) (dF (bL (bE (dF (ah (j:=43) he (.cell (L+17) "line") hf (hS3.get rfl))) (jo (eQ (ej (j3 H he H.b_len rfl) (au (dF (ah (j:=45) he (.cell (L+19) "settings") hf (hS3.get rfl))) aT) (mh (by rw [ak];exact aw (nY d) (by decide))))) dN dN) (o9 (λh=>by exact gL h) (by rw [ak];exact aw hL.len (by decide)))) (by rw [Bg (by rw [ak,ak];exact hsl),ak,E9]))) FA) (congrArg V.bool m2)) J4
 case t2=>exact da (bL (ah (j:=40) he .loc hf (hS3.get rfl)) (congrArg V.bool m1)) (bL (mH (nD (gK (di ds) b (lV ws)) wV (λw=>cC (aF ds+kr w) != cC (aF ds+c)) wV ⟨rfl,rfl,by decide+kernel,by decide+kernel⟩ (dB (ju (ys:=[.list ((di ds).map wV),nV b,wV (lV ws)]) (ml H he H.m_back rfl) h0 hd (au (ah (j:=32) he .loc hf (hS3.get rfl)) (au (ah (j:=9) he (.cell (L+8) "block") hf (hS3.get rfl)) (au (ah (j:=39) he .loc hf (hS3.get rfl)) aT))) (m9 (k:=k+6) H sf z8 (aw (MA ws) (by decide))))) (by lia) (aw hW2l (by decide)) (λC4 w hw=>iu 1 he.comp .loc (fS (da (bE (dF (ah (j:=7) he.comp (.cell (L+6) "names") (ab _ hf) (hS3.get rfl))) (bE (dF (ah (j:=1) he.comp .loc aa rfl)) (o5 aU) (xy (inj:=nV) (Bq w hw).1 (Bq w hw).2.2)) (ew (j:=(kr w)) (inj:=λb=>V.str (cC (aF ds+b))) (bz (Bq w hw).2.1) (by decide))) (ah (j:=8) he.comp (.cell (L+7) "name") (ab _ hf) (hS3.get rfl)) tw)) (λz=>ah (j:=1) he.comp .loc aa rfl))) (ij (xs:=[]) aT (bg rfl)) (BJ (Bj _))) (congrArg V.bool m3)) J4
theorem Sp(H:Hy G){pm doc:aj}(he:dz (bT pm doc L))(z9:Sv vs (Pn ds n6 lx S h F d ws))(hT:sg (di ds) S)(hh:∀b,b≠0->b < 6->pn (di ds) b (h b))(hL:t7 (di ds) (cA d) ws)
 (next:∀vs,Sv vs (Pn ds n6 lx S h F d ws)->WS (k+8) (cy L vs::mu) (bT pm doc L) (je 30) Θ):
 WS (k+8) (cy L vs::mu) (bT pm doc L) (je 29) Θ:=by
 refine aC (jN (ctx:=[]) (xs:=[1,2,3,4,5].map nV) (λi nu=>∃vs,nu=cy L vs::mu/\Sv vs (Pn ds n6 lx S h F d ws)) (pP (qt (iO H he H.b_range rfl) aU aU (by decide) (by decide)) rfl) (by lia) ⟨vs,rfl,z9⟩ (λi nu h o ho=>(el ho)) ?step ?fin)
 case step=>intro i y nu hy iC;refine aK iC λvs kF hS=>?_;clear iC;subst kF;rw [aI] at hy;refine aK (aL.mp hy) λb hb l9=>?_;subst l9;have zA:=ao hb;have z8:b < 6:=(by decide:∀b∈[1,2,3,4,5],b < 6) b zA;have zj:b≠0:=(by decide:∀b∈[1,2,3,4,5],b≠0) b zA;refine aQ (i:=0) (j:=9) he (.cell (L+8) "block") rfl (za H he z8 zj (hS.set (j:=9) (y:=nV b)) hT hh hL λvs c hS3 uc nv=>?_);refine b29_b H he z8 zj uc hS3 hL nv (bB ⟨_,rfl,hS3.sub ⟨rfl,rfl,rfl,rfl,rfl,rfl,rfl,rfl,rfl,rfl,rfl,rfl,rfl,rfl,trivial⟩⟩)
 case fin=>intro nu mD;refine aK mD λvs qX hS=>?_;clear mD;subst qX;exact bB (next _ hS)
end
section
variable {x y:bP}{Ψ:V->Mu->Prop}{S:Nat->Nat}
theorem Po(h1:WE k mu env x λv nu=>v= .bool aJ/\WE k nu env y Ψ):WE k mu env (.BoolOp .And [x,y] pos) Ψ:=⟨λ{z z z z z z} hA r q=>wpAny_And2 (h1.c hA r λ{z z z z z} z1 q1 r1 w=>(aZ.boolE (w.1▸q1))▸eU (w.2.c hA r1 λ{z z z z z} z2=>q (z1.trans z2)))⟩
theorem Bl(c:Nat):∀l:List Nat,cnt c l=((l.count c:Nat):Int)
 |[]=>by rw [cnt_nil];rfl
 |a::l=>by
  rw [cnt_cons,Bl c l,List.count_cons];by_cases h:a=c
  ·simp [h];lia
  ·simp [h]
theorem Sq(H:Hy G)(LH:fL G K)(BH:yr K){pm doc:aj}(he:dz (bT pm doc L)){P:ib}(PO:mU P)(hS:Sv vs (Pn ds n6 P.lx S h F d ws))(hR:pg ds n6 19 cs)
 (next:Θ (.ret (.bool aJ)) (cy L vs::(yq P [] (1+((g9 ds n6).cps.toList.count 10:Nat)) av++mu))):
 WS (k+8) (cy L vs::(j5 P [] (1+((g9 ds n6).cps.toList.count 10:Nat)) cs++mu)) (bT pm doc L) (je 30) Θ:=by
 have hf:∀{vs} {l:Mu},bq L (aM (L+1) (bj (cO 23)).names) vs∈cy L vs::l:=aa;refine cu (LH.f207.go) λog z z z g0 gd z=>aC (gy (Po (Hg (pN LH.KO LH.m_get (ah (j:=21) he (.cell (L+11) "lexer") hf (hS.get rfl)) (ao (i:=2) rfl) (yI _ _ _) g0 gd (FW.mono (FW.cons _ (FW.app mu (Ls (k:=k+3) H LH BH PO hR.end_))) λy nu ⟨rp,e1,ua,e2,e3,e4⟩=>?_)))));subst e1 e2 e3 e4;refine ⟨bZ (.str ""),aJ,cP,rz,rfl,?_⟩;refine cg (mH (oP LH.KO LH.p_line (ah (j:=21) he (.cell (L+11) "lexer") hf (hS.get rfl)) (ao (i:=2) rfl) (nL _ _ _) (y:= .int (1+((g9 ds n6).cps.toList.count 10:Nat))) (.head _) (λn e=>by cases e)) (br aU (f7 (ah (j:=20) he .loc hf (hS.get rfl)) mJ (au cP aT) rH PySem.F.plainAttrs_str PySem.F.slot_str_count PySem.F.type_str_count rfl) fB) qq) ?_;have e:M9 (g9 ds n6) "\n"=(((g9 ds n6).cps.toList.count 10:Nat):Int):=by show M9 (g9 ds n6) ⟨#[10]⟩=_;rw [count_cnt,Bl]
 rw [e,beq_self_eq_true];exact next
end
theorem MB(sc:List Int):∃(ds:List Nat) (n6:Nat),Dr ds (jQ sc) n6/\(uS (jQ sc)).map V.int=ds.map nV:=by
 have hb:∀n∈jQ sc,0<=n/\n < 12960000:=λn hn=>by
  refine aK (aG.mp hn) λq z dP=>?_;subst dP;unfold Lw;lia
 have hl:(jQ sc).length=7:=by unfold jQ;rw [ak];rfl
 obtain ⟨n,hn⟩:∃n,(jQ sc)[6]? =ae n:=⟨_,bH (by rw [hl];decide)⟩;have h6:=hb n (ao hn);refine ⟨(jQ sc).flatMap λn=>(aN 4).map λp=>n.toNat / 60 ^ p % 60,n.toNat,⟨?_,?_,hl,?_,?_⟩,?_⟩
 ·rw [List.length_flatMap];simp only [ak,fo];rw [List.map_const',hl];rfl
 ·intro d hd;refine aK (bG.mp hd) λm z h=>aK (aG.mp h) λp z eT=>?_;subst eT;exact ee _ (by decide)
 ·rw [hn,Int.toNat_of_nonneg h6.1]
 ·lia
 ·unfold uS;rw [uo,uo];rw [List.flatMap_def,List.flatMap_def];refine congrArg List.flatten (b5 λm hm=>?_);rw [a0,a0];refine b5 λp z=>?_;have h0:=(hb m hm).1;refine cK (Int.eq_ofNat_of_zero_le h0) λa gi=>?_;subst gi;show V.int ((a:Int) / 60 ^ p % 60)=V.int (((a:Int).toNat / 60 ^ p % 60:Nat));rw [b8]
  push_cast
  rfl
structure Pp(G:Gd)(K:gn):Prop where
 H:Hy G
 LH:fL G K
 NH:uM K
 GH:Lg G
 BH:yr K
 EH:gO G K
 TH:rZ G K
 QH:Qr K
 IH:ItH K
 LL:Se G
 f307:DR G 307 306 (cO 23)
theorem Pq(X:Pp G K){pm doc:aj}{L:ay}{vs:eL}(he:dz (bT pm doc L))(hk:vS (bT pm doc L)){sc:List Int}(Ua:sc.length<=63)(hS:Sv vs [(0,.list (sc.map .int))])
 (fin:∀nu l1 l2,gH 272 l1∈nu->gH 304 l2∈nu->Φ (.bool aJ) nu):
 yf (k+8) (cy L vs::gH 272 []::gH 304 []::mu) (bT pm doc L) (fR (cO 23)) (lD Φ):=by
 refine eD (MB sc) λds n6 hD Uj=>?_;rw [IV];refine OQ (law_0 X.H he Ua hS λvs hS=>?_);have hS:Sv vs [(4,.list (ds.map nV)),(3,.list ((jQ sc).map .int))]:=by rw [<- Uj];exact hS.sub ⟨rfl,rfl,trivial⟩
 refine yv X.H he hD hS λvs hS=>yx X.H he hD hS λvs A hS=>yB X.H he hD hS λvs Oc Du hS=>yG X.H he hD hS λvs Sg hS=>WF.to [0,0,0,0,1,1] (tR X.H X.LH X.NH X.GH he hD hS λvs P PO hP hS=>?_);refine RV X.H he hS λvs Bk hS=>tS X.H X.LH X.BH he PO hS (by have h:=pg.start (ds:=ds) (n6:=n6);exact h) (ab _ aa) λvs cs hS hR hB=>?_;refine bB ?_;show yf (k+8) _ (bT pm doc L) (je 15) (lD Φ);refine tT X.H X.LH X.BH X.GH X.EH he hk hD PO hS hR λvs cs hS hR=>R6 (N:=0) (cs:=cs) (B:=B0) X.H X.EH X.TH he hS λvs hS=>tX X.H X.EH X.QH X.GH he hk hS λvs hS=>tY X.H X.EH X.QH X.IH he hD hS hB λvs hS hB=>WF.f (R8 X.H he hS λvs hS=>?_);refine R9 X.H he hS λvs T hS=>Sf X.H X.LH X.BH X.LL he PO hS hR hB λvs cs S c' hS hR hT=>Sh X.H X.LH X.NH he hS λvs Hm Nt cx dc hS=>t4 X.H X.LH he hS hT λvs h hS hh=>t5 X.H he hS hT hh λvs F hS hF=>Sk X.H he (by rw [hD.len];decide) (hD.at (i:=25) (by decide)) hS λvs W hS=>?_;exact t8 X.H X.LH X.BH X.LL he PO hS hR hF λvs cs ws c2 hS hR hL=>So X.H he hS hL.lt λvs hS=>Sp X.H he hS hT hh hL λvs hS=>Sq X.H X.LH X.BH he PO hS hR (jJ.keep (fin _ (zQ (ae (P.a,P.b))) [(273,49,c',ly),(298,40,c2,ly)] (ao (i:=7) rfl) (ao (i:=8) rfl)))
end
section
variable {G:Gd}{K:gn}{a c:ay}{st:ed}{q:bc}
theorem u4{o:oX}(h:K.lookup a=ae o):Bw K a=o:=by delta Bw;refine ai (h ..) ?_;rfl
theorem wi{cd:aj}{h:dI}(hK:K.In h)(e:i6 K cd q=aJ):h.CodeRec cd q:=by
 refine Heap.CodeRec.of_ok ?_;cases cd with
 |ref c=>refine dU (cq.mp e) λe1 e2=>cK (dJ.mp e2) λo ho=>?_;rw [u4 ho] at e1;delta Heap.codeRecOk;dsimp only;exact ai (hK c o ho ..) e1
 |_=>exact vy e
structure TN(G:Gd)(K:gn):Prop where
 at':∀a o,K.lookup a=ae o->G.Z0 a=ae o
theorem TN.ko(f:TN G K):FM G K:=⟨λh hz a o e=>hz a o (f.at' a o e)⟩
theorem MC{fd:cn}(h:wX K a=ae (.func fd)):∃o,K.lookup a=ae o/\o.data= .func {fd with pyModule:=pmIn K a,doc:=dcIn K a}:=by
 unfold wX at h;refine aK (aL.mp h) λo ho e=>⟨o,ho,?_⟩
 delta pmIn dcIn;refine ai (u4 ho ..) ?_;cases hd:o.data with
 |func f=>
  rw [hd] at e;injection e with e
  refine fZ (e ..) ?_;rfl
 |_=>rw [hd] at e;cases e
theorem FnK.isC(h1:wX K a=ae (.func (mw (ma st) (wB st) (fR st) (bj st) .none (.ref c) .none)))(h3:i6 K (.ref c) (ma st)=aJ)(f:TN G K):DR G a c st:=by exact aK (MC h1) λo ho e=>⟨o,_,_,f.at' _ _ ho,e,λh hz=>wi (f.ko.inn h hz) h3⟩
theorem FnK.f(h1:wX K a=ae (.func (mw (ma st) (wB st) (fR st) (bj st) .none (.ref c) .none)))(h3:i6 K (.ref c) (ma st)=aJ)(f:TN G K):rI G a st:=by exact cF ((FnK.isC h1 h3 f).go) λo pm doc h1 h2 h3=>⟨o,pm,_,doc,h1,h2,h3⟩
theorem MeK.f(h1:wX K a=ae (.func (Ao st q .none (.ref c) .none)))(h3:i6 K (.ref c) q=aJ)(f:TN G K):nF G a st q:=by exact aK (MC h1) λo ho e=>⟨o,_,_,_,f.at' _ _ ho,e,λh hz=>wi (f.ko.inn h hz) h3⟩
noncomputable def flK:Nat->List bc->List (Int×aj)
 |_,[]=>[]
 |i,n::l=>((2:Int) ^ i,.str n (254+2*i))::flK (i+1) l
theorem EF{prog:d7}{w:eo}:∀(l:List bc) (i:Nat),Pairs (lr prog w) (TI i l) (flK i l)
 |[],_=> .nil
 |n::l,i=> .cons (by show ((2:Int) ^ i == 2 ^ i)=aJ;simp) rfl (EF l (i+1))
noncomputable def epIn(K:gn)(a:ay):Nat:=match (Bw K a).data with| .dict _ n=>n|_=>0
noncomputable def Gs:List ay:=[2,3,15,17,18,20,21,29,31,32,34,35,36,37,39,40,42,43,44,46,47,49,50,51,53,54,56,57,58,59,60,61,62,65,66,68,69,71,72,73,76,81,82,83,84,86,87,89,90,91,93,94,96,97,98,99,100,101,102,104,105,107,108,109,111,112,114,115,116,118,119,121,122,123,125,126,128,129,130,131,132,134,135,137,138,140,141,143,144,146,148,149,150,153,160,161,162,163,166,168,169,171,172,173,175,176,178,179,187,189,190,192,193,194,196,197,199,200,201,203,204,206,207,208,210,211,213,214,215,216,217,218,219,229,231,232,234,235,236,238,239,241,242,243,244,245,246,247,250,252,253,255,256,257,259,260,262,263,264,266,267,269,270,271,274,275,276,279,280,281,284,285,286,289,290,291,293,294,296,297,298,301,302,303,306,307]
noncomputable def mN(h:dI):List ay->gn
 |[]=>[]
 |a::l=>match h.get? a with
  |some o=>(a,o)::mN h l
  |none=>mN h l
theorem HH(h:dI):∀l:List ay,(mN h l).In h/\∀a,a∉l->(mN h l).lookup a=av
 |[]=>⟨(λa o e=>by exact gL e),λz z=>rfl⟩
 |b::l=>by
  refine dU (HH h l) λh1 h2=>?_;show Frag.In (match h.get? b with|some o=>(b,o)::mN h l|none=>mN h l) h/\∀a,a∉b::l->(match h.get? b with|some o=>(b,o)::mN h l|none=>mN h l).lookup a=av;cases hb:h.get? b with
  |none=>exact ⟨h1,λa ha=>h2 a λq=>ha (ab _ q)⟩
  |some o=>
   refine ⟨λa o' e=>?_,λa ha=>?_⟩
   ·rw [lj] at e;by_cases wW:a=b
    ·subst wW;rw [show (a == a)=aJ from by simp] at e
     (have lz:=aO e;clear e;subst lz);exact hb
    ·rw [show (a == b)=aH from by simpa using wW] at e;exact h1 a o' e
   ·(refine ai (lj ..) ?_;refine ai (show (a == b)=aH from by simpa using λq:a=b=>ha (q▸aa)) ?_)
    exact h2 a λq=>ha (ab _ q)
end
section
noncomputable def Pr(p:d7)(w:eo)(n0:Nat)(ann:Option aj):Nat->Ur->Thread->Option Ur
 |0,_,_=>av
 |n+1,s,t=>match through t with
  |true=>ae s
  |false=>match PySem.W.Fast.tw6613529449190102663 n0 ann t with
   |false=>av
   |true=>match PySem.W.Fast.tw10156331382660048174 (PySem.W.Fast.tw11892475500146522536 PySem.W.Fast.tw14364793385576792824) p w s t with
    |some (s',t')=>Pr p w n0 ann n s' t'
    |none=>av
theorem Bm{p:d7}{w:eo}{n0:Nat}{ann:Option aj}:∀{n:Nat} {s s':Ur} {t:Thread},Pr p w n0 ann n s t=ae s'->topRun treeTable p w n0 ann n s.abs t=ae s'.abs
 |0,_,_,_,h=>by cases h
 |n+1,s,s',t,h=>by
  unfold Pr at h;unfold topRun;cases ht:through t with
  |true=>rw [ht] at h;cases h;rfl
  |false=>
   rw [ht] at h;dsimp only at h ⊢;rw [<- PySem.W.Fast.te6613529449190102663] at h;cases ho:stepOk n0 ann t with
   |false=>rw [ho] at h;cases h
   |true=>
    rw [ho] at h;dsimp only at h ⊢;rw [<- PySem.W.Fast.te10156331382660048174,<- PySem.W.Fast.te11892475500146522536,<- PySem.W.Fast.te14364793385576792824] at h;cases hs:stepT (denote treeTable) p w s t with
    |none=>rw [hs] at h;cases h
    |some q=>obtain ⟨s1,t1⟩:=q;rw [hs] at h;rw [stepT_spec hs];exact Bm h
noncomputable def mkT:List oX->Nat->BT->BT
 |[],_,t=>t
 |o::l,n,t=>mkT l (n+1) (t.ins n o)
noncomputable def st0(w:eo)(os:vg):Ur:=⟨mkT (rv w.params).objs.toList 0 .nil,11,(rv w.params).life,#[],boot_drawn,boot_toks,os⟩
theorem Pu(w:eo)(os:vg):(st0 w os).abs=⟨rv w.params,#[],boot_drawn,boot_toks,os⟩:=by kernel_rfl!
noncomputable abbrev pw:d7:=PySem.Challenge.pw_kl0432_01
noncomputable def qV:d7:=view pw [23]
noncomputable def zb:List bc:=["_wall","_tuplegetter","COMPILER_FLAG_NAMES","pretty_flags","_ExceptionTableEntryBase","_ExceptionTableEntry","_parse_varint","_parse_exception_table","_netrclex","TupleComp","add_func_stats","add_callers","count_calls","_law_given","_law_spelled","_law_octets","_law_back","_law_run","_law_hear"]
noncomputable def ends(w:eo)(os:vg):Option Ur:=Pr pw w 11 (ae (.ref 6)) 3200 (st0 w os) (topStub pw)
noncomputable def chk(h0:dI)(s:aq):Bool:=staticsOk (P3 pw.main.body) h0 s.heap && namesBound pw s.heap && gensDone s && laidKept h0 s.heap
noncomputable def zc(t:BT)(n:Nat):List ay->gn
 |[]=>[]
 |a::l=>match Nat.blt a n with
  |true=>match t.get a with
   |some o=>match alive o with
    |some o'=>(a,o')::zc t n l
    |none=>zc t n l
   |none=>[]
  |false=>zc t n l
noncomputable def okT(t:BT)(n:Nat)(l:List ay):Bool:=l.all λa=>Nat.blt a n && (t.get a).isSome
noncomputable def Gu(t:BT)(a:ay):Option oX:=(t.get a).bind alive
theorem MD{t:BT}{n:Nat}{life:Life}{a:ay}(h1:Nat.blt a n=aJ)(h2:(t.get a).isSome=aJ):(absHeap t n life).get? a=Gu t a:=by obtain ⟨o,ho⟩:=dJ.mp h2;rw [abs_get (Nat.blt_eq.mp h1:a < n) ho];unfold Gu;rw [ho];rfl
theorem ME{t:BT}{n:Nat}{life:Life}:∀{l:List ay},okT t n l=aJ->mN (absHeap t n life) l=zc t n l
 |[],_=>rfl
 |a::l,h=>by
  unfold okT at h;rw [Nj,dR,dR] at h;obtain ⟨⟨h1,h2⟩,h3⟩:=h;have ih:=ME (life:=life) (l:=l) h3;unfold mN zc;rw [MD h1 h2,h1];unfold Gu;obtain ⟨o,ho⟩:=dJ.mp h2;rw [ho];dsimp only [Option.bind_some];cases alive o with
  |none=>exact ih
  |some o'=>dsimp only;rw [ih]
noncomputable def obs(s:aq):=(Fl (mN s.heap Gs),[s.heap.get? 272,s.heap.get? 304])
noncomputable def bF:=(NQ,[ae (tabObj #[]),ae (tabObj #[])])
theorem obs_T{s:Ur}(h:okT s.tree s.n (272::304::Gs)=aJ):obs s.abs=(Fl (zc s.tree s.n Gs),[Gu s.tree 272,Gu s.tree 304]):=by unfold okT at h;rw [Nj,dR,dR,Nj,dR,dR] at h;obtain ⟨⟨h1,h2⟩,⟨h3,h4⟩,h5⟩:=h;show (Fl (mN (absHeap s.tree s.n s.life) Gs),[(absHeap s.tree s.n s.life).get? 272,(absHeap s.tree s.n s.life).get? 304])=_;rw [ME h5,MD h1 h2,MD h3 h4]
noncomputable def Sr(w:eo)(os:vg):=(ends w os).map λs=>(chk (rv w.params) s.abs,PySem.W.Fast.tw4187177175401517315 qV zb (P3 pw.main.body) (λz=>aJ) aJ s.abs,okT s.tree s.n (272::304::Gs),(Fl (zc s.tree s.n Gs),[Gu s.tree 272,Gu s.tree 304]))
noncomputable def Ss:=ae (aJ,openGood qV zb,aJ,bF)
set_option maxHeartbeats 0
theorem Su(w:eo)(os:vg):Sr (w.withFollow "special-get-raises" aH) os=Ss:=by kernel_rfl
theorem Sw(w:eo)(os:vg):Sr (w.withFollow "special-get-raises" aJ) os=Ss:=by kernel_rfl
end
theorem MF(w:eo)(os:vg):Sr w os=Ss:=by
 have e:=World.withFollow_self w "special-get-raises";cases hb:w.params.followText "special-get-raises" <;> rw [hb] at e
 ·have:=Su w os;rwa [e] at this
 ·have:=Sw w os;rwa [e] at this
theorem leftV:LeftO pw qV zb (λz=>aJ) obs (λz=>bF) 3200:=λw=>by
 obtain ⟨⟨h,gs,d,k,os⟩,e,e'⟩:=aL.mp (boot_open (p:=pw) (N:=3200) (by kernel_rfl!) rfl (λs=>by kernel_rfl!) w);obtain ⟨rfl,rfl,rfl,rfl⟩:h=rv w.params/\gs=Array.mk []/\d=boot_drawn/\k=boot_toks:=by simpa using e'
 refine aK (aL.mp (MF w os)) λs' hs hv=>?_;obtain ⟨h1,h2,h3,h4⟩:_/\_/\_/\_:=by simpa only [Nk] using hv
 have r:=Bm hs;rw [Pu] at r;have z1:((rv w.params).isNs vh && (Array.mk []:Array GenState).size == 0)=aJ:=by kernel_rfl!
 have z2:(rv w.params).objs.size=11:=by kernel_rfl!
 have z3:(rv w.params).nsMap vh "__annotations__"=ae (.ref 6):=by kernel_rfl!
 unfold openEnds;rw [e];show (topFrom treeTable pw w 3200 _).map _=_;unfold topFrom;dsimp only;rw [z1,z2,z3,r];show ((match chk (rv w.params) s'.abs with|true=>ae s'.abs|false=>av).map _)=_;rw [h1];show ae (openSeen qV zb (P3 pw.main.body) (λz=>aJ) aJ s'.abs,obs s'.abs)=ae _;rw [obs_T h3,h4,PySem.W.Fast.te4187177175401517315,h2]
theorem Pv(w:eo)(s:aq)(e:obs s=bF):JY w s.heap:=by
 refine dU (sR e) λe1 e2=>dU (HH s.heap Gs) λh1 h2=>?_;simp only [GO,and_true] at e2;refine ⟨_,h1,h2 272 (by decide),h2 304 (by decide),e1,λP hP=>?_⟩;rcases aP.mp hP with h|h
 ·rw [h];exact e2.1
 ·rw [aA.mp h];exact e2.2
theorem Gv(w:eo)(h h':dI)(x:JY w h)(k:∀b o,h.get? b=ae o->h'.get? b=ae o):JY w h':=by refine CT x λK h1 h2 h3 h4 h5=>?_;clear x;exact ⟨K,λa o e=>k _ _ (h1 a o e),h2,h3,h4,λP hP=>k _ _ (h5 P hP)⟩
theorem saidV:cR.wellSaid=aJ:=by rw [PySem.W.Fast.te9446332074065402090];kernel_rfl
theorem Sx(ks:∀d kwd,defOf qV "law"=ae (d,kwd)->WalkO qV zb (λz z=>True) JY cR.row.toRowW d kwd λf vs=>Jm f vs):cR.Holds:=by
 refine holds_law saidV λk1=>?_;obtain ⟨⟨d,kwd⟩,hd⟩:∃x,defOf qV "law"=ae x:=dJ.mp (by kernel_rfl!);refine holds_open (N:=3200) leftV Pv Gv (λz z=>trivial) (λz z z z z=>trivial) hd ?hp ?hk (λs z=>?rf) rfl k1 ?ok ?hb ?hw (ks d kwd hd)
 case hp=>
  have e:pw.theDef "law"=(defOf qV "law").map λx=>(x.1.params,x.1.body,x.1.scope):=by kernel_rfl!
  exact e.trans (by rw [hd];rfl)
 case hk=>
  have e:((defOf qV "law").map λx=>kwWritten? x.1.params.kwonlyargs x.1.params.kw_defaults)=(defOf qV "law").map λx=>ae x.2:=by kernel_rfl!
  rw [hd] at e;exact aO e
 case rf=>exact recFacts_of (R:=[]) (s:=s) rfl
 case ok=>kernel_rfl
 case hb=>exact ⟨rfl,rfl,rfl,rfl,rfl,by kernel_rfl!⟩
 case hw=>exact ⟨[.list []],by decide+kernel,by decide+kernel⟩
section
variable {w:eo}{s:aq}{mg mb:bc->Option aj}
theorem zd{α β:Type}{f g:α->β}{l:List α}(h:l.map f=l.map g):∀{i:Nat} {a:α},l[i]? =ae a->f a=g a:=λ{i a} hi=>by
 have:=congrArg (λl=>l[i]?) h;simp only [aI,hi,Option.map_some] at this;exact aO this
structure eJ(K:gn)(w:eo)(s:aq)(mg:bc->Option aj):Prop where
 fit:TN (hG w s mg) K
 mgK:∀x,mg x=Bx K x
 B:g7 (hG w s mg)
 bt:∀h:dI,(∀a o,(hG w s mg).Z0 a=ae o->h.get? a=ae o)->∀Pl,Pl≠4->h.BuiltinsAt mg Pl
 ob:Fl K=NQ
variable {K:gn}
theorem eJ.A(F:eJ K w s mg):oA K=vA:=congrArg (·.1) F.ob
theorem eJ.O(F:eJ K w s mg):oB K=vB:=congrArg (·.2.1) F.ob
theorem eJ.C(F:eJ K w s mg):oC K=vC:=congrArg (·.2.2.1) F.ob
theorem eJ.D(F:eJ K w s mg):oD K=vD:=congrArg (·.2.2.2.1) F.ob
theorem eJ.E(F:eJ K w s mg):oE K=vE:=congrArg (·.2.2.2.2.1) F.ob
theorem eJ.V(F:eJ K w s mg):oF K=vF:=congrArg (·.2.2.2.2.2) F.ob
theorem eJ.A1(F:eJ K w s mg):(QY.map λq=>(wX K q.1,i6 K (.ref q.2.1) (ma q.2.2)))=QY.map λq=>(ae (M4 (mw (ma q.2.2) (wB q.2.2) (fR q.2.2) (bj q.2.2) .none (.ref q.2.1) .none)),aJ):=congrArg (·.1) F.A
theorem eJ.A2(F:eJ K w s mg):(meL.map λq=>(wX K q.1,i6 K (.ref q.2.1) q.2.2.2))=meL.map λq=>(ae (M4 (Ao q.2.2.1 q.2.2.2 .none (.ref q.2.1) .none)),aJ):=congrArg (·.2.1) F.A
theorem eJ.A3(F:eJ K w s mg):(QZ.map λq=>Bx K q.1)=QZ.map λq=>ae (cZ q.2):=congrArg (·.2.2.1) F.A
theorem eJ.A4(F:eJ K w s mg):(mnL.map (Bx K))=mnL.map λz=>(av:Option aj):=congrArg (·.2.2.2) F.A
theorem eJ.fn(F:eJ K w s mg)(i:Nat){q:ay×ay×ed}(hi:QY[i]? =ae q):wX K q.1=ae (.func (mw (ma q.2.2) (wB q.2.2) (fR q.2.2) (bj q.2.2) .none (.ref q.2.1) .none))/\i6 K (.ref q.2.1) (ma q.2.2)=aJ:=
 sR (zd F.A1 hi)
theorem eJ.isF(F:eJ K w s mg)(i:Nat){a c:ay}{st:ed}(hi:QY[i]? =ae (a,c,st)):rI (hG w s mg) a st:=FnK.f (F.fn i hi).1 (F.fn i hi).2 F.fit
theorem eJ.isC(F:eJ K w s mg)(i:Nat){a c:ay}{st:ed}(hi:QY[i]? =ae (a,c,st)):DR (hG w s mg) a c st:=FnK.isC (F.fn i hi).1 (F.fn i hi).2 F.fit
theorem eJ.isM(F:eJ K w s mg)(i:Nat){a c:ay}{st:ed}{q:bc}(hi:meL[i]? =ae (a,c,st,q)):nF (hG w s mg) a st q:=by exact dU (sR (zd F.A2 hi)) λh1 h2=>MeK.f h1 h2 F.fit
theorem eJ.m(F:eJ K w s mg)(i:Nat){x:bc}{a:ay}(hi:QZ[i]? =ae (x,a)):mg x=ae (.ref a):=(F.mgK x).trans (zd F.A3 hi)
theorem eJ.n(F:eJ K w s mg)(i:Nat){x:bc}(hi:mnL[i]? =ae x):mg x=av:=(F.mgK x).trans (zd F.A4 hi)
theorem eJ.b(F:eJ K w s mg)(i:Nat){x:Bool}(hi:(oC K)[i]? =ae x):x=aJ:=by rw [F.C] at hi;exact List.eq_of_mem_replicate (ao hi)
theorem Pw(F:eJ K w s mg):(65 == lX)=aH/\∀h:dI,(∀a o,(hG w s mg).Z0 a=ae o->h.get? a=ae o)->h.DictOf (lr (hG w s mg).prog (hG w s mg).w) 65 qv:=by
 refine ⟨rfl,λh hz=>?_⟩;have h1:=hz 65 _ (F.fit.at' _ _ (congrArg (·.1) F.O));refine ⟨_,(TI 0 oz).toArray,10,h1,⟨rfl,rfl,rfl⟩,rfl,?_,?_,?_⟩
 ·intro e he;have:∀(l:List bc) (i:Nat),i+l.length<=10->∀e∈TI i l,∃k:Int,Value.isInt k e.key=aJ/\e.hash=hashInt k:=by
   intro l;induction l with
   |nil=>intro i z e he;exact el he
   |cons n l ih=>
    intro i hi e he;rcases aP.mp he with q|q
    ·subst q;refine ⟨2 ^ i,by show ((2:Int) ^ i == 2 ^ i)=aJ;simp,?_⟩;have hi9:i < 10:=by simp at hi;lia
     have:∀i,i < 10->(2:Int) ^ i=hashInt (2 ^ i):=by decide+kernel
     exact this i hi9
    ·exact ih (i+1) (by simp at hi;lia) e q
  exact this oz 0 (by decide) e (by simpa using he)
 ·show Pairs _ (TI 0 oz).toArray.toList qv;exact ai (gQ ..) (EF oz 0)
 ·decide+kernel
theorem Px(F:eJ K w s mg):Hy (hG w s mg):=⟨
 F.B,
 F.m 0 rfl,
 F.m 1 rfl,
 F.m 2 rfl,
 F.m 3 rfl,
 F.m 4 rfl,
 F.m 5 rfl,
 F.m 6 rfl,
 F.m 7 rfl,
 F.m 8 rfl,
 F.m 9 rfl,
 F.m 10 rfl,
 F.m 11 rfl,
 F.m 12 rfl,
 F.m 13 rfl,
 F.m 14 rfl,
 F.m 15 rfl,
 F.n 0 rfl,
 F.n 1 rfl,
 F.n 2 rfl,
 F.n 3 rfl,
 F.n 4 rfl,
 F.n 5 rfl,
 F.n 6 rfl,
 F.n 7 rfl,
 F.n 8 rfl,
 F.n 9 rfl,
 F.n 10 rfl,
 F.n 11 rfl,
 F.n 12 rfl,
 F.n 13 rfl,
 F.n 14 rfl,
 F.n 15 rfl,
 F.n 16 rfl,
 F.n 17 rfl,
 Pw F,
 F.isF 0 rfl,
 F.isF 1 rfl,
 F.isF 2 rfl,
 F.isF 3 rfl,
 F.isF 4 rfl,
 F.isF 5 rfl,
 F.isF 6 rfl,
 F.isF 7 rfl,
 F.isF 8 rfl,
 F.isF 9 rfl,
 F.isF 10 rfl,
 F.isF 11 rfl⟩
theorem MG(F:eJ K w s mg){c P:ay}(h:codeHdIn K c P=aJ)(hP:P≠4)(hn:vh≠P):DP (hG w s mg) c P:=
 ⟨λh' hz=>codeHd_of_K (F.fit.ko.inn h' hz) h,λh' hz=>F.bt h' hz P hP,hn⟩
theorem ze(F:eJ K w s mg)(i:Nat){g:ay}{name:bc}(hi:gtL[i]? =ae (g,name)):∃g,wQ K name g i:=by
 have h:(gtL.map λq=>(fG K (.ref 162) q.2,Fb K (.ref q.1) "__get__",Uk K (.ref q.1),K.lookup q.1,getL "index" (JW K (q.1 - 1)),(K.lookup (q.1 - 1)).map λo=>(o.cls,o.dict,o.slots)))=gtL.zipIdx.map λ(q:(ay×bc)×Nat)=>(ae (ae (cZ q.1.1)),ae (ae (cZ 43)),ae aJ,ae (Aa 60 (q.1.1 - 1)),ae (ae (jS q.2 (394+10*q.2))),ae (lW "dict",(av:Option ay),(#[]:Array (Option aj)))):=congrArg (·.1) F.V;have:=congrArg (λl=>l[i]?) h;simp only [aI,hi,Option.map_some,Tj,eC] at this;obtain ⟨h1,h2,h3,h4,h5,h6⟩:_/\_/\_/\_/\_/\_:=by simpa only [Nk] using aO this
 obtain ⟨⟨c,d,dt,sl⟩,ho,e⟩:=aL.mp h6;simp only [Nk] at e;refine GS e λeT gi iC=>?_;clear e;subst eT;subst gi;subst iC;refine ⟨g,h1,h2,h3,g - 1,h4,JW K (g - 1),epIn K (g - 1),_,?_,h5⟩;refine ai (ho ..) ?_;delta JW epIn;refine ai (u4 ho ..) ?_;unfold JW at h5;rw [u4 ho] at h5;cases dt with
 |dict es n=>rfl
 |_=>cases h5
theorem me_d(F:eJ K w s mg):Cf (hG w s mg) 43 (jl 2 1) "_tuplegetter.__get__":=by obtain ⟨o,ho,e⟩:=MC (show wX K 43=ae (.func {Ao (jl 2 1) "_tuplegetter.__get__" .none (.ref 42) .none with defaults:= .ref 36}) from congrArg (·.2.2.1) F.O);exact ⟨o,_,_,_,36,_,_,F.fit.at' _ _ ho,e,F.fit.at' _ _ (congrArg (·.2.1) F.O),rfl,λh hz=>wi (F.fit.ko.inn h hz) (congrArg (·.2.2.2.1) F.O)⟩
end
section
variable {w:eo}{s:aq}{mg mb:bc->Option aj}{K:gn}
set_option tactic.hygienic true in
theorem MH(F:eJ K w s mg):Pp (hG w s mg) K:={
 H:=Px F
 LH:=⟨
  F.fit.ko,
  F.b 0 rfl,
  F.b 1 rfl,
  F.b 2 rfl,
  F.b 3 rfl,
  F.b 4 rfl,
  F.b 5 rfl,
  F.b 6 rfl,
  F.b 7 rfl,
  F.b 8 rfl,
  F.b 9 rfl,
  F.b 10 rfl,
  F.isM 0 rfl,
  F.isM 1 rfl,
  F.isM 2 rfl,
  F.isM 3 rfl,
  F.b 11 rfl,
  F.b 12 rfl,
  F.b 13 rfl,
  F.isM 4 rfl,
  F.isM 5 rfl⟩
 NH:=⟨
  F.b 14 rfl,
  congrArg (·.1) F.D,
  congrArg (·.2.2.2.2.2.2.1) F.D,
  F.b 15 rfl,
  F.b 16 rfl,
  congrArg (·.2.1) F.D,
  congrArg (·.2.2.2.2.2.2.2.1) F.D,
  F.b 17 rfl⟩
 GH:={la:=MG F (F.b 22 rfl) (by decide) (by decide),f275:=F.isC 6 rfl}
 BH:={b_read:=F.b 18 rfl}
 EH:=⟨
  F.fit.ko,
  rfl,
  congrArg (·.1) (congrFun F.E _),
  congrArg (·.2.1) (congrFun F.E _),
  congrArg (·.2.2.1) (congrFun F.E _),
  congrArg (·.2.2.2.1) (congrFun F.E _),
  F.b 19 rfl,
  congrArg (·.2.2.2.2.2.2.2.2.2.2.1) F.D,
  congrArg (·.2.2.2.2.2.2.2.2.2.2.2.1) F.D,
  λt=>congrFun (congrArg (·.2.2.2.2.1) (congrFun F.E _)) t,
  congrArg (·.2.2.2.2.2.1) (congrFun F.E _),
  congrArg (·.2.2.2.2.2.2.1) (congrFun F.E _),
  congrArg (·.2.2.2.2.2.2.2.1) (congrFun F.E _),
  congrArg (·.2.2.2.2.2.2.2.2.1) (congrFun F.E _),
  congrArg (·.2.2.2.2.2.2.2.2.2.1) (congrFun F.E _),
  congrArg (·.2.2.2.2.2.2.2.2.2.2) (congrFun F.E _),
  by
   have h:JX K=ae aH:=congrArg (·.2) F.V;unfold JX at h
   split at h
   ·rename_i od cd sl e;exact ⟨od,cd,sl,e,aO h⟩
   ·exact gL h,
  F.b 20 rfl,
  F.isM 6 rfl,
  congrArg (·.2.2.2.2.2.2.2.2.2.2.2.2.1) F.D⟩
 TH:=⟨
  me_d F,
  F.b 21 rfl,
  congrArg (·.2.2.1) F.D,
  congrArg (·.2.2.2.1) F.D,
  congrArg (·.2.2.2.2.2.2.2.2.2.2.2.2.2) F.D,
  F.n 18 rfl,
  F.n 19 rfl,
  ze F 0 rfl,
  ze F 1 rfl,
  ze F 2 rfl,
  ze F 3 rfl,
  ze F 4 rfl⟩
 QH:={sub:=congrArg (·.2.2.2.2.2.2.2.2.1) F.D,eq:=congrArg (·.2.2.2.2.1) F.D,up:=congrArg (·.2.2.2.2.2.2.2.2.2.1) F.D}
 IH:={iter:=congrArg (·.2.2.2.2.2.1) F.D}
 LL:={la:=MG F (F.b 23 rfl) (by decide) (by decide)}
 f307:=F.isC 12 rfl}
theorem EG{a:ay}(h1:a≠272)(h2:a≠304):(hG w s mg).Z0 a=s.heap.get? a:=if_neg (by rintro (h|h);exact h1 h;exact h2 h)
theorem MI{a:ay}{m:bc->Option aj}(x:s.heap.Ns a m)(h1:a≠272)(h2:a≠304){h:dI}(hz:∀a o,(hG w s mg).Z0 a=ae o->h.get? a=ae o):h.Ns a m:=by refine oy x λo es ep ho r=>?_;clear x;exact ⟨o,es,ep,hz a o ((EG h1 h2).trans ho),r⟩
theorem headF{q:d7}{loose:List bc}{RR:WRecords}{XP:(bc->Option aj)->dI->Prop}{s0:aq}(Gr:Ground q loose RR XP w s0 mg mb s.heap)(hq:importsNone q=aJ)(KX:K.In s.heap)(k272:K.lookup 272=av)(k304:K.lookup 304=av)(Bp:Fl K=NQ):eJ K w s mg:=by
 have k3:K.lookup 3=ae (Bw K 3):=by refine cK (dJ.mp (show (K.lookup 3).isSome=aJ from congrArg (·.2.1.2.2.2.2) Bp)) λo ho=>?_;rw [ho,u4 ho]
 have kb:Bx K "__builtins__"=ae (.ref 4):=by have h:(QZ.map λq=>Bx K q.1)=QZ.map λq=>ae (cZ q.2):=congrArg (·.1.2.2.1) Bp;exact zd h (i:=17) (a:=("__builtins__",4)) rfl
 have hm:∀x,mg x=Bx K x:=λx=>by
  refine lG (Gr.T.g) λo es ep ho hd' z h=>?_;have e:=KX 3 _ k3;rw [show s.heap.get? 3=ae o from ho] at e;have e:=aO e;unfold Bx;rw [<- e,hd'];exact (h x).symm
 refine ⟨⟨λa o e=>?_⟩,hm,⟨λh hz=>MI Gr.T.g (by decide) (by decide) hz,λh hz=>⟨mb,MI Gr.T.b (by decide) (by decide) hz,Gr.T.builtins⟩,λh hz=>?_,?_⟩,λh hz Pl hP=>?_,Bp⟩
 ·rw [EG (by rintro rfl;rw [k272] at e;exact gL e) (by rintro rfl;rw [k304] at e;exact gL e)];exact KX a o e
 ·exact aK (Gr.T.nolimit) λmc h1 h2=>⟨mc,MI h1 (by decide) (by decide) hz,h2⟩
 ·refine aK ((Gr.T.seer hq).mods) λmm dP z=>oy dP λo z z ho z=>?_;clear dP;exact ⟨o,(EG (by decide) (by decide)).trans ho⟩
 ·refine xI (Gr.T.bmain) λbm ob h1 h2 h3 h4 h5 h6=>?_;have e:=(hm "__builtins__").trans kb;rw [h1] at e;have e:bm=4:=by injection e with e;injection e
  subst e;exact ⟨4,ob,h1,by decide,by decide,λe=>hP e.symm,hz 4 ob ((EG (by decide) (by decide)).trans h3),h4,h5,h6⟩
theorem Py{P:Params}{h:dI}:∀{vs:List aj} {xs:List WData},WellAll P h vs xs->WShape.hasItems [] xs .int=aJ->∃is:List Int,xs=is.map .int/\∀{Z:bI},bW G Z vs (is.map .int):=by
 intro vs xs hw hs;induction xs generalizing vs with
 |nil=>cases hw;exact ⟨[],rfl,λ{z}=> .nil⟩
 |cons x xs ih=>
  cases hw with
  |cons h1 h2=>
   have hs:=cq.mp (show (WShape.has [] x .int && WShape.hasItems [] xs .int)=aJ from hs);refine aK (ih h2 hs.2) λis e hr=>?_;cases h1 with
   |int i t=>exact ⟨i::is,by rw [e];rfl,λ{z}=> .cons (.int i t) hr⟩
   |_=>exact absurd (show aH=aJ from hs.1) (by decide)
theorem Sy{R:WRecords}{a b:WTm}{e:WCtx}(h:WTm.value R a e=ae (.bool aH)):WTm.value R (.and a b) e=ae (.bool aH):=by
 conv=>lhs;whnf
 exact ai h rfl
theorem MJ{R:WRecords}{t:WTm}{e:WCtx}(h:WTm.value R t e=ae (.bool aH)):t.holds R e=aH:=by delta WTm.holds;exact ai h rfl
theorem Pz{P:Params}{h:dI}{args:List WData}{bF:List aj}(hw:WellAll P h bF args)(hp:(cR.row.toRowW.claim).pre args=aJ):∃a vs sc,bF=[.ref a]/\args=[.list ((sc:List Int).map .int)]/\sc.length<=63/\h.get? a=ae {cls:= .type "list",data:= .seq vs}/\∀{Z:bI},bW G Z vs.toList (sc.map .int):=by
 have hp2:(WShape.hasAll [] args [.list .int] && (OpenLaw.pre cR).holds [] {args:=args})=aJ:=hp;rw [dR] at hp2;refine dU hp2 λh1 h2=>?_;clear hp2
 match args,hw with
 |[],_=>exact absurd (show aH=aJ from h1) (by decide)
 |[x],hw=>
  cases hw with
  |cons q1 q2=>
  cases q2;have h1:=(cq.mp (show (WShape.has [] x (.list .int) && aJ)=aJ from h1)).1;cases q1 with
  |@list a vs xs e r=>
   refine aK (Py r ((zB _).symm.trans h1)) λsc e2 hr=>⟨a,vs.toArray,sc,rfl,by rw [e2],?_,e,λ{z}=>by rw [gQ];exact hr⟩
   subst e2;refine Nat.le_of_not_lt λhlt=>?_;have hn:decide ((63:Int) < ((sc.map WData.int).length:Nat))=aJ:=decide_eq_true (by refine ai (ak ..) ?_;omega);have e:WTm.value [] (OpenLaw.pre cR) {args:=[.list (sc.map .int)]}=ae (.bool aH):=Sy (congrArg (λb=>ae (WData.bool !b)) hn);exact vy ((MJ e).symm.trans h2)
  |_=>exact absurd (show aH=aJ from h1) (by decide)
 |x::y::r,hw=>exact absurd (show aH=aJ from (cq.mp (show (WShape.has [] x (.list .int) && aH)=aJ from h1)).2) (by decide)
end
section
variable {K:gn}
theorem c_law(X:Pp G K){sc:List Int}(Ua:sc.length<=63):JJ 9 [gH 272 [],gH 304 []] (.ref 307) [.list (sc.map .int)] λy nu=>y= .bool aJ/\∃l1 l2,gH 272 l1∈nu/\gH 304 l2∈nu:=by
 refine cF (X.f307.go) λob pm doc h0 hd hcd=>KW X.H.B (k:=8) (names:=["script"]) (vals':=λL=>(nones (aM (L+1) (bj (cO 23)).names)).set 0 (ae (.list (sc.map .int)))) (Kn.z0 h0) hd (λZ s r=>hcd _ r.z0in) rfl (λvs h=>?_) (by show (aM 0 (bj (cO 23)).names).nd;decide+kernel) (λL=>⟨rfl,rfl,rfl⟩) (λL=>?_) (λL=>?_)
 ·exact uK h λa=>rfl
 ·exact .cons (j:=0) (.cell (L+1) "script") rfl .nil
 ·refine Pq (k:=0) X ⟨rfl,rfl,rfl⟩ ⟨by show (bj (cO 23)).kind≠_;decide,rfl⟩ Ua ⟨?_,?_⟩ λnu l1 l2 h1 h2=>⟨rfl,l1,l2,h1,h2⟩
  ·rw [List.length_set];rfl
  ·intro j y e;rw [lj] at e;by_cases hj:j=0
   ·subst hj;rw [show ((0:Nat) == 0)=aJ from rfl] at e
    (have lz:=aO e;clear e;subst lz)
    rw [eA (by show 0 < 47;decide)]
   ·rw [show (j == 0)=aH from by simpa using hj] at e;exact gL e
end
section
variable {w:eo}{s:aq}{mg mb:bc->Option aj}{K:gn}
theorem HI{s':aq}{c P:ay}{l:List zP}(C:CodeHd s.heap c P)(hP:s.heap.get? P=ae (tabObj #[]))(h':s'.heap.get? P=ae (tabObj (rh l).toArray)){o:oX}(e:s.heap.get? P=ae o):asItWas s.heap s'.heap P o:=by
 rw [hP] at e
 (have lz:=aO e;clear e;subst lz)
 exact .inr (.inl ⟨(C.tab hP).isCodeTable,rfl,#[],(rh l).toArray,rfl,by rw [h'];simp [tabObj]⟩)
theorem Jg:CV cx:=by
 intro q loose RR XP s0 mb fa args bF cl mean E Gr hq Y hmg hg hp hw;refine CT Y λK KX n1 n2 Bp ht=>?_;clear Y;have F:=headF Gr hq KX n1 n2 Bp;have X:Pp G K:=HQ▸MH F;have e:=F.m 16 (x:="law") (a:=307) rfl;rw [hmg] at e;obtain rfl:fa=307:=by injection e with e;injection e
 refine g6 (Pz hw hp) λa vs sc eT gi Ua ha hr=>?_;subst eT;subst gi;have Tb:=ht 272 (by decide);have Tc:=ht 304 (by decide);have na:a≠272:=by rintro rfl;rw [Tb] at ha;cases ha
 have nb:a≠304:=by rintro rfl;rw [Tc] at ha;cases ha
 have zat:∀{b:ay},b≠272->b≠304->G.Z0 b=cx.s.heap.get? b:=λ{z} h1 h2=>HQ▸EG h1 h2;have QN:∀{b:ay},b=272\/b=304->G.Z0 b=av:=λ{z} h=>HQ▸if_pos h;have r0:R G.Z0 ([gH 272 [],gH 304 []]++[]) cx.s:={
  z0:=bI.le_refl _
  zin:=λb o e=>by
   by_cases h1:b=272\/b=304
   ·rw [QN h1] at e;exact gL e
   ·rw [zat (λh=>h1 (.inl h)) (λh=>h1 (.inr h))] at e;exact e
  sat:=λx hx=>by
   rcases aP.mp hx with h|hx
   ·subst h;exact ⟨Tb,λq hq=>el hq⟩
   ·rcases aP.mp hx with h|hx
    ·subst h;exact ⟨Tc,λq hq=>el hq⟩
    ·exact el hx
  nodup:=by show ([272,304]:List ay).Nodup;decide
  sep:=λb hb=>by
   have:b∈([272,304]:List ay):=hb;refine QN ?_;simpa using this
  gens:=hg
  os:=congrArg Gd.os HQ}
 have va:aZ G G.Z0 (.ref a) (.list (sc.map .int)):= .list (vs:=vs) (n:=0) ((zat na nb).trans ha) hr;have em:aX cR.row.toRowW.prog cx.w=aX G.prog G.w:=congrArg (λg:Gd=>aX g.prog g.w) HQ;rw [em];refine (c_law X Ua).c (fr:=[]) (l:=[]) (vs:=[.ref a]) ⟨rfl,by show 1+claimMargin+9<=900;decide+kernel,by show 4+10*9<=9000;decide⟩ rfl (λz h=>el h) r0 (.cons va .nil) λ{v s' Z' y nu} z' hv r' w=>?_;refine uy w λhy l1 l2 t1 t2=>?_;clear w;subst hy;cases hv;have c1:CodeHd cx.s.heap 274 272:=codeHd_of_K KX (F.b 22 rfl);have c2:CodeHd cx.s.heap 306 304:=codeHd_of_K KX (F.b 23 rfl);have q1:=(r'.sat _ (aE _ t1)).1;have q2:=(r'.sat _ (aE _ t2)).1;have keep:∀b o,b≠272->b≠304->cx.s.heap.get? b=ae o->s'.heap.get? b=ae o:=λb o h1 h2 e=>r'.zin b o (r'.z0 _ _ ((zat h1 h2).trans e));have hpost:(cR.row.toRowW.claim).post [.list (sc.map .int)] (.bool aJ) [.list (sc.map .int)]=aJ:=by kernel_rfl
 refine ⟨.inl ⟨.bool aJ,.bool aJ,[],rfl,λz=>rfl,.bool aJ,hpost,λz=>⟨kP,λz h=>el h⟩⟩,⟨λb o e=>?_,λb o e=>?_⟩,r'.os.trans (congrArg Gd.os HQ).symm,AllBare.of_eq r'.gens⟩
 ·by_cases h1:b=272
  ·subst h1;exact HI c1 Tb q1 e
  ·by_cases h2:b=304
   ·subst h2;exact HI c2 Tc q2 e
   ·exact .inl (keep b o h1 h2 e)
 ·by_cases h1:b=272
  ·subst h1;exact ⟨_,q1⟩
  ·by_cases h2:b=304
   ·subst h2;exact ⟨_,q2⟩
   ·exact ⟨o,keep b o h1 h2 e⟩
end
theorem PySem_holds:PySem.Challenge.rw_kl0432_01.Holds:=Sx λd kwd hdef w s₀ s₁ mg mb Gr Y fa o pm cd doc dV kV ho hdt hcd hD hmg hgens args bF as hpre hlay hrd hwell d8=>
 JZ Jg ⟨w,s₁,mg⟩ _ _ _ _ _ _ _ _ _ _ _ _ Gr (by kernel_rfl) Y ((defOf_name hdef)▸hmg) hgens hpre hwell
end
end Mine.Internal
theorem PySem.Challenge.cw_kl0432_01_holds : PySem.Challenge.rw_kl0432_01.Holds :=
 Mine.Internal.PySem_holds
