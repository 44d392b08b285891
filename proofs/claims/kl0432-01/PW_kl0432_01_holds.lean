import PyProof.Rows.All
import Wide.All
import OpenK.AllK
import Wide.FinOn
import KE.KBytesWalk
import KE.KStopIter
import KE.KTryOn
import KE.KDictSum
import KE.KEqDict
import KE.KLam
import KE.BytesMake
import Lean
import PySem.Challenge.RW_kl0432_01
open PySem PySem.Spec PySem.Calls PyProof.Rows PySem.W
set_option Elab.async false
set_option linter.all false
set_option maxRecDepth 100000
set_option maxHeartbeats 4000000
set_option tactic.hygienic false
set_option genInjectivity false
set_option genSizeOf false
namespace Mine.Internal
open _root_.List renaming mem_cons_self->aa,mem_cons_of_mem->ab,length_map->ak,mem_of_getElem? ->ao,mem_singleton->aA,getElem?_eq_some_iff->aB,mem_append_left->aE,mem_map->aG,getElem?_map->aI,range->aN,mem_cons->aP,mem_range->aY,map_map->a0,length_append->ba,mem_append->bc,map_append->bj,mem_filter->bo,length_filter_le->bu,getElem?_range->bA,map_cons->bB,mem_flatMap->bG,getElem?_eq_getElem->bJ,length_cons->bK,mem_append_right->bL,nodup_append->bP,getD_eq_getElem?_getD->bR,append_assoc->bU,map_congr_left->b5,nodup_cons->cj,perm_middle->cu,append_nil->cy,take_length->cK,any_eq_true->cS,sum_cons->da,mem_of_getLast? ->df,take_add_one->dE,flatMap_cons->dF,length_take->dR,drop_eq_getElem_cons->dZ,take_of_length_le->d6,getElem?_set_self->eA,getElem?_append_left->eE,length_zipIdx->eX,append_of_mem->eY,not_mem_nil->e7,length_range->fq,foldl_append->fu,drop_zero->fy,filter_congr->fz,foldl_cons->fF,cons_append->fU,mem_filterMap->fV,all_eq_true->fW,filter_append->fX,length_drop->fY,mem_of_mem_drop->gn,drop_append_of_le_length->gq,getLast?_eq_some_getLast->gu,toList_toArray->gQ,mem_map_of_mem->gS,sublist_cons_self->gW,filter_eq_nil_iff->gY,filter_cons->hZ,getElem?_eq_none->il,mem_iff_getElem? ->iq,take_succ_cons->jb,map_eq_nil_iff->jc,zipIdx_map_fst->jd,find?_cons->jW,getLast_cons->kg,getElem?_set_ne->kI,length_take_le'->kL,length->kM,nodup_nil->kQ,lookup_cons->lh,nodup_range->lp,count_eq_zero->mD,take_append_drop->oo,drop_length->ow,zipIdx_cons->ox,mem_of_mem_take->pz,eq_nil_of_length_eq_zero->pA,filter_nil->qd,range_succ->qe,nil_append->qg,mem_zipIdx_iff_getElem? ->qi,filterMap_cons->ql,getElem?_eq_none_iff->sq,size_toArray->sS,mem_of_head? ->sT,count_append->sU,getElem?_cons_succ->ug,isEmpty_iff->um,map_flatMap->uq,mem_nil_iff->uu,map_nil->u7,set_set->vb,sum_append->vo,take_zero->xn,map_id->xw,length_pos_iff->zv,any_cons->zF,find?_eq_none->Ai,getElem?_drop->Ak,count->Am,any_map->CE,reverse_cons->CP,eq_nil_iff_forall_not_mem->E5,take_append_of_le_length->Fj,length_nil->GR,dropLast_concat_getLast->GT,drop_drop->JE,getElem?_append_right->JI,perm_append_singleton->JJ,pairwise_iff_getElem->JS,extract_eq_drop_take->JT,getLast?_eq_some_iff->JU,all_cons->M9,map_drop->Nm,getElem?_take_of_lt->Nq,length_eq_zero_iff->NO,drop_of_length_le->P6,set_append_right->QU,getElem?_of_mem->Th,getElem?_mapIdx->To,getElem?_zipIdx->Tp,getLast?_append->TI,flatMap_append->Uq,drop_succ_cons->Ur
open _root_.Option renaming some->ae,none->av,map_eq_some_iff->aL,bind_eq_some_iff->dq,isSome_iff_exists->dH,bind_eq_none_iff->el,isSome_none->Ah,toList_some->Aj,map_eq_none_iff->P3
open _root_.PySem renaming wpAny_bind->ag,Value->ai,Shared->aq,wpAny_pure->ar,Addr->ay,wpAny->aS,model->aX,Str->bb,Around->bh,foldedSetIterable->bw,wpAny_holding->bE,Expr->bH,FuncData->cg,wpAny_of_eq->cM,sliceBounds->c7,wpAny_call_entry->dp,builtinLookup_eq_fast->dB,Heap->dG,Program->dJ,wpAny_field->dS,eval->dW,wpAny_callSpecial?_slot->dX,Stmt->ed,World->ee,sizeLine->er,wpAny_call->eF,wpAny_setField->eH,Scope->eN,wpAny_mono->eS,wpAny_truthy_bool->eV,holding->eW,typeLookup_type->fg,starEach->fo,wpAny_ite_split->f5,DictEntry->gA,wpAny_Call_NameR->gB,wpAny_askSetting->gC,Env->gP,wpAny_specialOf->h8,standAt->iE,wpAny_standAt->iH,checkBuiltinCall->iI,typeLookup->iQ,isSubtype_type->iR,codeAny->iV,wpAny_newObj_type->jg,codeAny_call_builtin->jj,Pos->jB,assignEach->jC,typeOf->jU,call->ku,letOwnedTupleGo->kJ,codeAny_of_tree->kK,codeAny_builtin->kO,wpAny_loadPart'->kP,Comprehension->kS,wpAny_attempt->kT,backTo->lj,wpAny_pyIter_list->lr,intKind->lu,wpAny_setState_of->ly,sysModules->lY,pyNext->l0,call_meets->l6,specialOf->mA,getMethod->mB,wpAny_rule->oh,Obj->oY,Sem->oZ,rawInt->pB,callWith->pC,letTemporaryGo->pD,bindArgs->pG,wpAny_loadPart->pH,codeAny_call_function->qm,wpAny_execs_cons->q7,pyIter->q8,argsOk->rb,attributeBase->rl,plainId_quiet->rm,aRefKeyMayBeTheName->sR,getAttr->sZ,compStart->tv,isInstance->uf,Flow->uh,wpAny_pyIter_tuple->ui,ret->vh,OsState->vi,mainGlobals->vj,strIterType->vk,wpAny_alloc->vm,valueAt->vn,wpAny_pyIter_slot->vq,field->vt,behindInMarks->wq,assign->wu,swapsWithSole->wx,swappedStores->wy,Result->wz,PyData->wA,isSubtype->xi,swapsWith->xk,Model->xl,cellsFrom->xm,slicePick->xo,entryFor->xp,wpAny_isInstance->xv,PlainAttrs->zq,wpAny_pyNext_list_item->zr,strKind_is->zt,sliceRange->zu,wpAny_isTrue_Compare1->Ae,wpAny_allTrue_Or_cons->Af,wpAny_pyNext_list_end->Ag,Operator->Cz,NameKind->CC,newFunctionEnv->CD,entryFor_alias->CF,someArgs->CI,builtinKind->CM,wpAny_seqItems->CN,Arguments->CV,wpAny_Assign_stores->ES,list_getitem_lookup->EY,wpAny_Tuple_spliced->EZ,wpAny_setEntries_of->E4,cameBackBy->GL,intKind_is->GP,Tok->HR,call->Jp,execs->Jr,bootBuiltins->Js,leaving->Jv,getItem->Jw,baseText->Jx,codeAny_func->Jz,call_meetsIn->JB,wpAny_mkText->JG,byteArr->JH,clausesOf->Nb,seqIndex? ->Nc,JoinOk->Nd,opaqueClassAbove->Nj,entryFor_of_tree->Nk,wpAny_BinOp->NC,again->ND,subscripted->NI,Fin->NP,unpackItems->NQ,importedModules->PZ,pushCells_keeps->P2,splitId->QT,wpAny_Name->Ti,BoolOp->Tj,wpAny_load->Tn,wpAny_operateT->Tu,typeIs_str->Tv,newExc->Tw,boundAndCalled->TA,isSubtype_stop->TF,evalArgs_none->Ut
open _root_.Nat renaming le_trans->aw,le_of_ble_eq_true->bg,le_refl->bp,lt_of_le_of_lt->b7,lt_of_lt_of_le->cb,lt_succ_of_lt->cI,ne_of_lt->c8,le_add_right->dC,mod_lt->ef,le_of_lt->eB,zero_add->eC,pow_le_pow_right->e8,testBit_eq_decide_div_mod_eq->fx,zero_le->gp,lt_or_ge->gX,add_mul->iS,lt_succ_self->jf,succ_lt_succ->jk,le_succ->jD,ne_of_gt->jJ,mul_assoc->jY,le_of_eq->ll,succ_ne_zero->lq,testBit_two_pow->lC,add_assoc->l5,add_sub_cancel_left->mF,le_of_succ_le->ni,succ_ne_self->ot,min_le_right->ou,two_pow_pos->qf,add_le_add_left->qk,mul_comm->q9,zero_mul->ra,lt_trichotomy->sM,lt_of_not_le->uw,testBit_lt_two_pow->u9,strongRecOn->vx,succ->xj,eq_of_testBit_eq->xq,one_mul->xr,mul_le_mul_right->xu,lt_irrefl->zG,pow_succ->CG,le_of_lt_succ->CH,lt_trans->CO,succ_le_succ->E0,and_two_pow_sub_one_eq_mod->E3,testBit_and->GO,not_lt_zero->GS,not_lt->Jq,mod_two_eq_zero_or_one->JD,mul_le_mul->JF,testBit_two_pow_mul->NL,testBit_mul_two_pow->NM,le_of_succ_le_succ->P5,not_succ_le_self->Ts,add_le_add_right->Tt,not_succ_le_zero->TJ,mul_le_mul_left->Us
open _root_.PySem.Heap renaming get?_push_of_some->az,get?_push_size->aW,lt_size->bN,get?_update_self->bS,size_push->fN,get?_update_other->iF,SameBut->ji,ExtBut->rv,MadeExcOf->Tz
open _root_.Bool renaming false->aH,true->aJ,eq_iff_iff->cm,and_eq_true_iff->cn,false_ne_true->cF,false_eq_true->dj,and_eq_true->dQ,or_eq_true->jV,and_false->kN,or_false->zE,not_eq_true'->CA,noConfusion->EU,toNat_true->GQ,true_and->Nn
open _root_.Option.some renaming inj->aO
open _root_.Classical renaming byContradiction->bO
open _root_.Exists renaming imp->bQ
open _root_.Array renaming getElem?_toList->bV,getElem?_eq_getElem->dY,length_toList->eK,toList_append->lB,mem_toList_iff->pF,getElem?_eq_some_iff->ru,toList_inj->uk,any_toList->uo,toList_extract->xt,toList_push->CB,getElem?_eq_none->P1
open _root_.PySem.Heap.SameBut renaming update->bY,refl->JK
open _root_.Int renaming toNat_natCast->b8,natCast_nonneg->dI,ofNat->fB,lt_of_lt_of_le->rt,one_mul->sQ,toNat->ur,fdiv_eq_ediv_of_nonneg->JA,ofNat_inj->Np,add_zero->P0
open _root_.Trans renaming trans->cH
open _root_.PySem.Challenge renaming rw_kl0432_01->cQ
open _root_.PySem.Value renaming ref->cY,none->eG,builtin->iG,int->jT,type->lX,bytes->CJ,isStrOf_shape->EX,bool->TC
open _root_.PySem.Builtin.Str renaming occurrences->cZ,strSub->fj,strKind->mQ
open _root_.Pure renaming pure->dg
open _root_.PySem.Obj renaming data_mapFields->dP,isFreed_of_fields->iW,putName->oj,cls_mapFields->pI,mapFields->Fh
open _root_.PySem.F renaming plainAttrs_str->eM,slot_tuple_iterator_next->fA,plainAttrs_list->fP,slot_list_append->iT,type_list_append->iU,slot_str_split->jX,slot_tuple_iterator_next->l8,called_set->mC,slot_str_join->ny,type_str_join->nz,slot_tuple_iter->ux,plainAttrs_list->uy,slot_list_iadd->vc,slot_tuple_getattribute->vf,entry_str_split->vp,plainAttrs_dict->vr,args_tuple_iterator_next_1->An,entry_tuple_iterator_next->Bv,args_str_split_2->GN,slot_dict_items->JC,type_str_split->Ni,slot_tuple_index->Nl,slot_dict_itemiterator_iter->NK,plain_tuple_new->NN,plainAttrs_dict->NR,args_tuple_iterator_next_1->P4,slot_tuple_eq->P7,entry_tuple_iterator_next->QV,slot_dict_get->QX,slot_tuple_ne->QY,store_object->TB
open _root_.PySem.W.Looks renaming of_pure->fe,ld->sr
open _root_.PySem.W renaming Frag->fl,findIn->fH,Looks->iL,dictOf->i3,putName_dict->mR,looks_findIn->mS,boot_heap->rr,check_slot->rx,instObj->Ad,kdk_entry_next->E1,specialIn->Fd,findCls->Fe,absHeap->Ff,methodObj->Fi,lookIn_dict->QS,takesIn->Un,SharedT->Uo,hideAll->Uu
open _root_.PySem.Txt renaming join->fO,split->Nf,count->Ng
open _root_.PySem.Str renaming ofString->fQ,ofString->Al
open _root_.Ne renaming symm->gf
open _root_.PySem.Calls renaming call_function_entry->gv,docDef->mz,Name_function_global->Jt,evalArgs_plain->Ju
open _root_.PySem.Around renaming under_plainId->gR,frames_deeper->CL
open _root_.PyProof.Rows renaming Attribute_any_->gZ,callWith_def->iJ,MethodCall_->i5,IntsAre->uj,callWith_builtin1->ET,mapSeq_app->NJ
open _root_.List.Perm renaming refl->ic,swap->jh,of_eq->GU
open _root_.LawfulBEq renaming eq_of_beq->jE
open _root_.PyProof.Rows.F renaming plain_set_update_loop->lD,entry_set_update_loop->zw
open _root_.PySem.Builtin renaming bitAnd->lZ
open _root_.Function renaming comp->l7
open _root_.PySem.Builtin.SmallTypes renaming nextOf->mG
open _root_.PySem.W.KBw renaming iter_typeIs->om,slot_next->ry,IsBytesIter->Bu
open _root_.PySem.PyData renaming strOk->pE,depthAll->zH,canLayAll0->Jy
open _root_.UInt8 renaming toNat->pJ
open _root_.PySem.Builtin.Tuple renaming tupleCompareSizes->qh
open _root_.Inhabited renaming default->rg
open _root_.Prod.mk renaming inj->sL,injEq->Na
open _root_.PySem.Builtin.Int renaming intBits->sN
open _root_.List.Sublist renaming refl->sO
open _root_.List.cons renaming inj->sY,injEq->GK
open _root_.Prod renaming fst->uv,ext->TG
open _root_.PySem.Builtin.List renaming listTooLong->wB,listLengthHint->QW
open _root_.Lean.Parser.Tactic renaming tacticSeq1Indented->xK,tacticSeq->GJ
open _root_.PySem.Builtin.Range renaming small->EW
open _root_.PySem.Code renaming compLoop->Fg,compStart->Tq
open _root_.ForInStep renaming yield->GM
open _root_.PySem.Data renaming func->M8
open _root_.Int.ofNat renaming inj->Nh
open _root_.And renaming intro->NG
noncomputable section
section
variable {T1 T2 T3 T4 T5:Sort _}{g:Prop}
theorem dU{A R:Prop}(h:A/\R)(f:A->R->g):g:=h.elim λa h=>f a h
theorem cJ{R:T1->Prop}(h:∃a,R a)(f:∀a,R a->g):g:=h.elim λa h=>f a h
theorem GV{A B R:Prop}(h:A/\B/\R)(f:A->B->R->g):g:=h.elim λa h=>h.elim λb h=>f a b h
theorem aK{B R:T1->Prop}(h:∃a,B a/\R a)(f:∀a,B a->R a->g):g:=h.elim λa h=>h.elim λb h=>f a b h
theorem oy{R:T1->T2->Prop}(h:∃a,∃b,R a b)(f:∀a,∀b,R a b->g):g:=h.elim λa h=>h.elim λb h=>f a b h
theorem QZ{A B C R:Prop}(h:A/\B/\C/\R)(f:A->B->C->R->g):g:=h.elim λa h=>h.elim λb h=>h.elim λc h=>f a b c h
theorem mH{A:Prop}{C R:T1->Prop}(h:A/\∃b,C b/\R b)(f:A->∀b,C b->R b->g):g:=h.elim λa h=>h.elim λb h=>h.elim λc h=>f a b c h
theorem vy{A:Prop}{R:T1->T2->Prop}(h:A/\∃b,∃c,R b c)(f:A->∀b,∀c,R b c->g):g:=h.elim λa h=>h.elim λb h=>h.elim λc h=>f a b c h
theorem eg{B C R:T1->Prop}(h:∃a,B a/\C a/\R a)(f:∀a,B a->C a->R a->g):g:=h.elim λa h=>h.elim λb h=>h.elim λc h=>f a b c h
theorem eD{C R:T1->T2->Prop}(h:∃a,∃b,C a b/\R a b)(f:∀a,∀b,C a b->R a b->g):g:=h.elim λa h=>h.elim λb h=>h.elim λc h=>f a b c h
theorem NS{A B C D R:Prop}(h:A/\B/\C/\D/\R)(f:A->B->C->D->R->g):g:=h.elim λa h=>h.elim λb h=>h.elim λc h=>h.elim λd h=>f a b c d h
theorem qo{A:Prop}{C D R:T1->Prop}(h:A/\∃b,C b/\D b/\R b)(f:A->∀b,C b->D b->R b->g):g:=h.elim λa h=>h.elim λb h=>h.elim λc h=>h.elim λd h=>f a b c d h
theorem uz{A:Prop}{D R:T1->T2->Prop}(h:A/\∃b,∃c,D b c/\R b c)(f:A->∀b,∀c,D b c->R b c->g):g:=h.elim λa h=>h.elim λb h=>h.elim λc h=>h.elim λd h=>f a b c d h
theorem Bw{B C D R:T1->Prop}(h:∃a,B a/\C a/\D a/\R a)(f:∀a,B a->C a->D a->R a->g):g:=h.elim λa h=>h.elim λb h=>h.elim λc h=>h.elim λd h=>f a b c d h
theorem cC{C D R:T1->T2->Prop}(h:∃a,∃b,C a b/\D a b/\R a b)(f:∀a,∀b,C a b->D a b->R a b->g):g:=h.elim λa h=>h.elim λb h=>h.elim λc h=>h.elim λd h=>f a b c d h
theorem oz{D R:T1->T2->T3->Prop}(h:∃a,∃b,∃c,D a b c/\R a b c)(f:∀a,∀b,∀c,D a b c->R a b c->g):g:=h.elim λa h=>h.elim λb h=>h.elim λc h=>h.elim λd h=>f a b c d h
theorem JV{A B C D E R:Prop}(h:A/\B/\C/\D/\E/\R)(f:A->B->C->D->E->R->g):g:=h.elim λa h=>h.elim λb h=>h.elim λc h=>h.elim λd h=>h.elim λe h=>f a b c d e h
theorem CW{A:Prop}{R:T1->T2->T3->T4->Prop}(h:A/\∃b,∃c,∃d,∃e,R b c d e)(f:A->∀b,∀c,∀d,∀e,R b c d e->g):g:=h.elim λa h=>h.elim λb h=>h.elim λc h=>h.elim λd h=>h.elim λe h=>f a b c d e h
theorem CX{B C D E R:T1->Prop}(h:∃a,B a/\C a/\D a/\E a/\R a)(f:∀a,B a->C a->D a->E a->R a->g):g:=h.elim λa h=>h.elim λb h=>h.elim λc h=>h.elim λd h=>h.elim λe h=>f a b c d e h
theorem ir{C D E R:T1->T2->Prop}(h:∃a,∃b,C a b/\D a b/\E a b/\R a b)(f:∀a,∀b,C a b->D a b->E a b->R a b->g):g:=h.elim λa h=>h.elim λb h=>h.elim λc h=>h.elim λd h=>h.elim λe h=>f a b c d e h
theorem cE{D E R:T1->T2->T3->Prop}(h:∃a,∃b,∃c,D a b c/\E a b c/\R a b c)(f:∀a,∀b,∀c,D a b c->E a b c->R a b c->g):g:=h.elim λa h=>h.elim λb h=>h.elim λc h=>h.elim λd h=>h.elim λe h=>f a b c d e h
theorem Ao{A:Prop}{D E F R:T1->T2->Prop}(h:A/\∃b,∃c,D b c/\E b c/\F b c/\R b c)(f:A->∀b,∀c,D b c->E b c->F b c->R b c->g):g:=h.elim λa h=>h.elim λb h=>h.elim λc h=>h.elim λd h=>h.elim λe h=>h.elim λi h=>f a b c d e i h
theorem Ap{C D E F R:T1->T2->Prop}(h:∃a,∃b,C a b/\D a b/\E a b/\F a b/\R a b)(f:∀a,∀b,C a b->D a b->E a b->F a b->R a b->g):g:=h.elim λa h=>h.elim λb h=>h.elim λc h=>h.elim λd h=>h.elim λe h=>h.elim λi h=>f a b c d e i h
theorem lG{D E F R:T1->T2->T3->Prop}(h:∃a,∃b,∃c,D a b c/\E a b c/\F a b c/\R a b c)(f:∀a,∀b,∀c,D a b c->E a b c->F a b c->R a b c->g):g:=h.elim λa h=>h.elim λb h=>h.elim λc h=>h.elim λd h=>h.elim λe h=>h.elim λi h=>f a b c d e i h
theorem cq{E F R:T1->T2->T3->T4->Prop}(h:∃a,∃b,∃c,∃d,E a b c d/\F a b c d/\R a b c d)(f:∀a,∀b,∀c,∀d,E a b c d->F a b c d->R a b c d->g):g:=h.elim λa h=>h.elim λb h=>h.elim λc h=>h.elim λd h=>h.elim λe h=>h.elim λi h=>f a b c d e i h
theorem xM{C D E F H R:T1->T2->Prop}(h:∃a,∃b,C a b/\D a b/\E a b/\F a b/\H a b/\R a b)(f:∀a,∀b,C a b->D a b->E a b->F a b->H a b->R a b->g):g:=h.elim λa h=>h.elim λb h=>h.elim λc h=>h.elim λd h=>h.elim λe h=>h.elim λi h=>h.elim λj h=>f a b c d e i j h
theorem g6{D E F H R:T1->T2->T3->Prop}(h:∃a,∃b,∃c,D a b c/\E a b c/\F a b c/\H a b c/\R a b c)(f:∀a,∀b,∀c,D a b c->E a b c->F a b c->H a b c->R a b c->g):g:=h.elim λa h=>h.elim λb h=>h.elim λc h=>h.elim λd h=>h.elim λe h=>h.elim λi h=>h.elim λj h=>f a b c d e i j h
theorem tw{E F H R:T1->T2->T3->T4->Prop}(h:∃a,∃b,∃c,∃d,E a b c d/\F a b c d/\H a b c d/\R a b c d)(f:∀a,∀b,∀c,∀d,E a b c d->F a b c d->H a b c d->R a b c d->g):g:=h.elim λa h=>h.elim λb h=>h.elim λc h=>h.elim λd h=>h.elim λe h=>h.elim λi h=>h.elim λj h=>f a b c d e i j h
theorem wC{D E F H I R:T1->T2->T3->Prop}(h:∃a,∃b,∃c,D a b c/\E a b c/\F a b c/\H a b c/\I a b c/\R a b c)(f:∀a,∀b,∀c,D a b c->E a b c->F a b c->H a b c->I a b c->R a b c->g):g:=h.elim λa h=>h.elim λb h=>h.elim λc h=>h.elim λd h=>h.elim λe h=>h.elim λi h=>h.elim λj h=>h.elim λk h=>f a b c d e i j k h
theorem dK{E F H I R:T1->T2->T3->T4->Prop}(h:∃a,∃b,∃c,∃d,E a b c d/\F a b c d/\H a b c d/\I a b c d/\R a b c d)(f:∀a,∀b,∀c,∀d,E a b c d->F a b c d->H a b c d->I a b c d->R a b c d->g):g:=h.elim λa h=>h.elim λb h=>h.elim λc h=>h.elim λd h=>h.elim λe h=>h.elim λi h=>h.elim λj h=>h.elim λk h=>f a b c d e i j k h
theorem iK{F H I R:T1->T2->T3->T4->T5->Prop}(h:∃a,∃b,∃c,∃d,∃e,F a b c d e/\H a b c d e/\I a b c d e/\R a b c d e)(f:∀a,∀b,∀c,∀d,∀e,F a b c d e->H a b c d e->I a b c d e->R a b c d e->g):g:=h.elim λa h=>h.elim λb h=>h.elim λc h=>h.elim λd h=>h.elim λe h=>h.elim λi h=>h.elim λj h=>h.elim λk h=>f a b c d e i j k h
theorem qp{D E F H I J R:T1->T2->T3->Prop}(h:∃a,∃b,∃c,D a b c/\E a b c/\F a b c/\H a b c/\I a b c/\J a b c/\R a b c)(f:∀a,∀b,∀c,D a b c->E a b c->F a b c->H a b c->I a b c->J a b c->R a b c->g):g:=h.elim λa h=>h.elim λb h=>h.elim λc h=>h.elim λd h=>h.elim λe h=>h.elim λi h=>h.elim λj h=>h.elim λk h=>h.elim λl h=>f a b c d e i j k l h
theorem jZ{D E F H I J K R:T1->T2->T3->Prop}(h:∃a,∃b,∃c,D a b c/\E a b c/\F a b c/\H a b c/\I a b c/\J a b c/\K a b c/\R a b c)(f:∀a,∀b,∀c,D a b c->E a b c->F a b c->H a b c->I a b c->J a b c->K a b c->R a b c->g):g:=h.elim λa h=>h.elim λb h=>h.elim λc h=>h.elim λd h=>h.elim λe h=>h.elim λi h=>h.elim λj h=>h.elim λk h=>h.elim λl h=>h.elim λm h=>f a b c d e i j k l m h
end
@[elab_as_elim] theorem aj{α:Sort u}{a b:α}{P:α->Prop}(e:a=b)(h:P b):P a:=e▸h
@[elab_as_elim] theorem fZ{α:Sort u}{a b:α}{P:α->Prop}(e:a=b)(h:P a):P b:=e▸h
@[elab_as_elim] theorem gj{a b:Prop}{P:Prop->Prop}(e:a↔b)(h:P b):P a:=propext e▸h
@[elab_as_elim] theorem rwj{a b:Prop}{P:Prop->Prop}(e:a↔b)(h:P a):P b:=propext e▸h
noncomputable def ep{α:Type}(n:Nonempty α)(P:α->Prop):α:=@Classical.epsilon α n λa=>¬P a
theorem rz{α:Type}{n:Nonempty α}{P:α->Prop}(h:P (ep n P))(a:α):P a:=bO λq=>(Classical.epsilon_spec (p:=λa=>¬P a) ⟨a,q⟩) h
theorem j8{α β:Type}:Nonempty α->Nonempty β->Nonempty (α×β):=λ⟨a⟩ ⟨b⟩=>⟨(a,b)⟩
theorem neQ{α:Type}:Nonempty (α->Prop):=⟨λz=>True⟩
theorem s7{α β:Type}:Nonempty (α->β->Prop):=⟨λz z=>True⟩
theorem gD{α:Type}:Nonempty (List α):=⟨[]⟩
theorem neO{α:Type}:Nonempty (Option α):=⟨av⟩
theorem neF{α β:Type}(n:Nonempty β):Nonempty (α->β):=n.elim λb=>⟨λz=>b⟩
theorem eO:Nonempty Nat:=⟨0⟩
theorem Q0:Nonempty Int:=⟨0⟩
section
variable {T1 T2 T3 T4 T5 T6 T7 T8 T9 T10 T11 T12 T13 T14 T15 T16:Type}(n1:Nonempty T1)(n2:Nonempty T2)(n3:Nonempty T3)(n4:Nonempty T4)(n5:Nonempty T5)(n6:Nonempty T6)(n7:Nonempty T7)(n8:Nonempty T8)(n9:Nonempty T9)(QE:Nonempty T10)(TR:Nonempty T11)(TS:Nonempty T12)(n13:Nonempty T13)(n14:Nonempty T14)(n15:Nonempty T15)(n16:Nonempty T16)
def ap2(S:T1->T2->Prop)(t:T1×T2):Prop:=S t.1 t.2
noncomputable def P8(S:T1->T2->Prop):T1×T2:=ep (j8 n1 n2) (ap2 S)
theorem Fk(S:T1->T2->Prop)(h:ap2 S (P8 n1 n2 S))(x1:T1)(x2:T2):S x1 x2:=rz h (x1,x2)
def ap4(S:T1->T2->T3->T4->Prop)(t:T1×T2×T3×T4):Prop:=S t.1 t.2.1 t.2.2.1 t.2.2.2
noncomputable def GW(S:T1->T2->T3->T4->Prop):T1×T2×T3×T4:=ep (j8 n1 (j8 n2 (j8 n3 n4))) (ap4 S)
theorem vz(S:T1->T2->T3->T4->Prop)(h:ap4 S (GW n1 n2 n3 n4 S))(x1:T1)(x2:T2)(x3:T3)(x4:T4):S x1 x2 x3 x4:=rz h (x1,x2,x3,x4)
def ap6(S:T1->T2->T3->T4->T5->T6->Prop)(t:T1×T2×T3×T4×T5×T6):Prop:=S t.1 t.2.1 t.2.2.1 t.2.2.2.1 t.2.2.2.2.1 t.2.2.2.2.2
noncomputable def Fl(S:T1->T2->T3->T4->T5->T6->Prop):T1×T2×T3×T4×T5×T6:=ep (j8 n1 (j8 n2 (j8 n3 (j8 n4 (j8 n5 n6))))) (ap6 S)
theorem uA(S:T1->T2->T3->T4->T5->T6->Prop)(h:ap6 S (Fl n1 n2 n3 n4 n5 n6 S))(x1:T1)(x2:T2)(x3:T3)(x4:T4)(x5:T5)(x6:T6):S x1 x2 x3 x4 x5 x6:=rz h (x1,x2,x3,x4,x5,x6)
def ap8(S:T1->T2->T3->T4->T5->T6->T7->T8->Prop)(t:T1×T2×T3×T4×T5×T6×T7×T8):Prop:=S t.1 t.2.1 t.2.2.1 t.2.2.2.1 t.2.2.2.2.1 t.2.2.2.2.2.1 t.2.2.2.2.2.2.1 t.2.2.2.2.2.2.2
noncomputable def Nr(S:T1->T2->T3->T4->T5->T6->T7->T8->Prop):T1×T2×T3×T4×T5×T6×T7×T8:=ep (j8 n1 (j8 n2 (j8 n3 (j8 n4 (j8 n5 (j8 n6 (j8 n7 n8))))))) (ap8 S)
theorem Bx(S:T1->T2->T3->T4->T5->T6->T7->T8->Prop)(h:ap8 S (Nr n1 n2 n3 n4 n5 n6 n7 n8 S))(x1:T1)(x2:T2)(x3:T3)(x4:T4)(x5:T5)(x6:T6)(x7:T7)(x8:T8):S x1 x2 x3 x4 x5 x6 x7 x8:=rz h (x1,x2,x3,x4,x5,x6,x7,x8)
def ap10(S:T1->T2->T3->T4->T5->T6->T7->T8->T9->T10->Prop)(t:T1×T2×T3×T4×T5×T6×T7×T8×T9×T10):Prop:=S t.1 t.2.1 t.2.2.1 t.2.2.2.1 t.2.2.2.2.1 t.2.2.2.2.2.1 t.2.2.2.2.2.2.1 t.2.2.2.2.2.2.2.1 t.2.2.2.2.2.2.2.2.1 t.2.2.2.2.2.2.2.2.2
noncomputable def zI(S:T1->T2->T3->T4->T5->T6->T7->T8->T9->T10->Prop):T1×T2×T3×T4×T5×T6×T7×T8×T9×T10:=ep (j8 n1 (j8 n2 (j8 n3 (j8 n4 (j8 n5 (j8 n6 (j8 n7 (j8 n8 (j8 n9 QE))))))))) (ap10 S)
theorem uB(S:T1->T2->T3->T4->T5->T6->T7->T8->T9->T10->Prop)(h:ap10 S (zI n1 n2 n3 n4 n5 n6 n7 n8 n9 QE S))(x1:T1)(x2:T2)(x3:T3)(x4:T4)(x5:T5)(x6:T6)(x7:T7)(x8:T8)(x9:T9)(MN:T10):S x1 x2 x3 x4 x5 x6 x7 x8 x9 MN:=rz h (x1,x2,x3,x4,x5,x6,x7,x8,x9,MN)
def ap12(S:T1->T2->T3->T4->T5->T6->T7->T8->T9->T10->T11->T12->Prop)(t:T1×T2×T3×T4×T5×T6×T7×T8×T9×T10×T11×T12):Prop:=S t.1 t.2.1 t.2.2.1 t.2.2.2.1 t.2.2.2.2.1 t.2.2.2.2.2.1 t.2.2.2.2.2.2.1 t.2.2.2.2.2.2.2.1 t.2.2.2.2.2.2.2.2.1 t.2.2.2.2.2.2.2.2.2.1 t.2.2.2.2.2.2.2.2.2.2.1 t.2.2.2.2.2.2.2.2.2.2.2
noncomputable def HS(S:T1->T2->T3->T4->T5->T6->T7->T8->T9->T10->T11->T12->Prop):T1×T2×T3×T4×T5×T6×T7×T8×T9×T10×T11×T12:=ep (j8 n1 (j8 n2 (j8 n3 (j8 n4 (j8 n5 (j8 n6 (j8 n7 (j8 n8 (j8 n9 (j8 QE (j8 TR TS))))))))))) (ap12 S)
theorem CY(S:T1->T2->T3->T4->T5->T6->T7->T8->T9->T10->T11->T12->Prop)(h:ap12 S (HS n1 n2 n3 n4 n5 n6 n7 n8 n9 QE TR TS S))(x1:T1)(x2:T2)(x3:T3)(x4:T4)(x5:T5)(x6:T6)(x7:T7)(x8:T8)(x9:T9)(MN:T10)(QF:T11)(QG:T12):S x1 x2 x3 x4 x5 x6 x7 x8 x9 MN QF QG:=rz h (x1,x2,x3,x4,x5,x6,x7,x8,x9,MN,QF,QG)
def ap14(S:T1->T2->T3->T4->T5->T6->T7->T8->T9->T10->T11->T12->T13->T14->Prop)(t:T1×T2×T3×T4×T5×T6×T7×T8×T9×T10×T11×T12×T13×T14):Prop:=S t.1 t.2.1 t.2.2.1 t.2.2.2.1 t.2.2.2.2.1 t.2.2.2.2.2.1 t.2.2.2.2.2.2.1 t.2.2.2.2.2.2.2.1 t.2.2.2.2.2.2.2.2.1 t.2.2.2.2.2.2.2.2.2.1 t.2.2.2.2.2.2.2.2.2.2.1 t.2.2.2.2.2.2.2.2.2.2.2.1 t.2.2.2.2.2.2.2.2.2.2.2.2.1 t.2.2.2.2.2.2.2.2.2.2.2.2.2
noncomputable def NT(S:T1->T2->T3->T4->T5->T6->T7->T8->T9->T10->T11->T12->T13->T14->Prop):T1×T2×T3×T4×T5×T6×T7×T8×T9×T10×T11×T12×T13×T14:=ep (j8 n1 (j8 n2 (j8 n3 (j8 n4 (j8 n5 (j8 n6 (j8 n7 (j8 n8 (j8 n9 (j8 QE (j8 TR (j8 TS (j8 n13 n14))))))))))))) (ap14 S)
theorem JW(S:T1->T2->T3->T4->T5->T6->T7->T8->T9->T10->T11->T12->T13->T14->Prop)(h:ap14 S (NT n1 n2 n3 n4 n5 n6 n7 n8 n9 QE TR TS n13 n14 S))(x1:T1)(x2:T2)(x3:T3)(x4:T4)(x5:T5)(x6:T6)(x7:T7)(x8:T8)(x9:T9)(MN:T10)(QF:T11)(QG:T12)(x13:T13)(x14:T14):S x1 x2 x3 x4 x5 x6 x7 x8 x9 MN QF QG x13 x14:=rz h (x1,x2,x3,x4,x5,x6,x7,x8,x9,MN,QF,QG,x13,x14)
def ap16(S:T1->T2->T3->T4->T5->T6->T7->T8->T9->T10->T11->T12->T13->T14->T15->T16->Prop)(t:T1×T2×T3×T4×T5×T6×T7×T8×T9×T10×T11×T12×T13×T14×T15×T16):Prop:=S t.1 t.2.1 t.2.2.1 t.2.2.2.1 t.2.2.2.2.1 t.2.2.2.2.2.1 t.2.2.2.2.2.2.1 t.2.2.2.2.2.2.2.1 t.2.2.2.2.2.2.2.2.1 t.2.2.2.2.2.2.2.2.2.1 t.2.2.2.2.2.2.2.2.2.2.1 t.2.2.2.2.2.2.2.2.2.2.2.1 t.2.2.2.2.2.2.2.2.2.2.2.2.1 t.2.2.2.2.2.2.2.2.2.2.2.2.2.1 t.2.2.2.2.2.2.2.2.2.2.2.2.2.2.1 t.2.2.2.2.2.2.2.2.2.2.2.2.2.2.2
noncomputable def Fm(S:T1->T2->T3->T4->T5->T6->T7->T8->T9->T10->T11->T12->T13->T14->T15->T16->Prop):T1×T2×T3×T4×T5×T6×T7×T8×T9×T10×T11×T12×T13×T14×T15×T16:=ep (j8 n1 (j8 n2 (j8 n3 (j8 n4 (j8 n5 (j8 n6 (j8 n7 (j8 n8 (j8 n9 (j8 QE (j8 TR (j8 TS (j8 n13 (j8 n14 (j8 n15 n16))))))))))))))) (ap16 S)
theorem Aq(S:T1->T2->T3->T4->T5->T6->T7->T8->T9->T10->T11->T12->T13->T14->T15->T16->Prop)(h:ap16 S (Fm n1 n2 n3 n4 n5 n6 n7 n8 n9 QE TR TS n13 n14 n15 n16 S))(x1:T1)(x2:T2)(x3:T3)(x4:T4)(x5:T5)(x6:T6)(x7:T7)(x8:T8)(x9:T9)(MN:T10)(QF:T11)(QG:T12)(x13:T13)(x14:T14)(x15:T15)(x16:T16):S x1 x2 x3 x4 x5 x6 x7 x8 x9 MN QF QG x13 x14 x15 x16:=rz h (x1,x2,x3,x4,x5,x6,x7,x8,x9,MN,QF,QG,x13,x14,x15,x16)
end
theorem gK{α:Type u}{a:α}{P:Prop}(h:av=ae a):P:=by cases h
theorem nomS{α:Type u}{a:α}{P:Prop}(h:ae a=av):P:=by cases h
theorem eo{α:Type u}{a:α}{P:Prop}(h:a∈([]:List α)):P:=by cases h
theorem vG{P:Prop}(h:aH=aJ):P:=by cases h
theorem JX{P:Prop}(h:aJ=aH):P:=by cases h
theorem Q1{α:Type u}{a:α}{l:List α}{P:Prop}(h:[]=a::l):P:=by cases h
theorem JY{α:Type u}{a:α}{l:List α}{P:Prop}(h:a::l=[]):P:=by cases h
@[elab_as_elim] theorem TK{P:Nat->Prop}{i:Nat}(h:i < 3)(a:P 0)(b:P 1)(c:P 2):P i:=by cases i with|zero=>exact a|succ i=>cases i with|zero=>exact b|succ i=>cases i with|zero=>exact c|succ i=>omega
theorem lt4s{P:Nat->Prop}{i:Nat}(h:i < 4)(a:P 0)(b:P 1)(c:P 2)(d:P 3):P i:=by cases i with|zero=>exact a|succ i=>exact TK (P:=λi=>P (i+1)) (by omega) b c d
@[elab_as_elim] theorem lt5{P:Nat->Prop}{i:Nat}(h:i < 5)(a:P 0)(b:P 1)(c:P 2)(d:P 3)(e:P 4):P i:=by cases i with|zero=>exact a|succ i=>exact lt4s (P:=λi=>P (i+1)) (by omega) b c d e
def aR:Lean.Syntax:= .node .none `Lean.Parser.Tactic.tacticSeq #[.node .none `Lean.Parser.Tactic.tacticSeq1Indented #[.node .none `null #[.node .none `Lean.Parser.Tactic.intros #[.atom .none "intros",.node .none `null #[]],.atom .none ";",.node .none `Lean.Parser.Tactic.tacticRfl #[.atom .none "rfl"]]]]
def aD:Lean.Syntax:= .node .none `Lean.Parser.Tactic.tacticSeq #[.node .none `Lean.Parser.Tactic.tacticSeq1Indented #[.node .none `null #[.node .none `Lean.Parser.Tactic.decide #[.atom .none "decide",.node .none `Lean.Parser.Tactic.optConfig #[.node .none `null #[]]]]]]
noncomputable def Fo:CV:={posonlyargs:=[],args:=[],vararg:=av,kwonlyargs:=[],kw_defaults:=[],kwarg:=av,defaults:=[]}
noncomputable def By:eN:={kind:= .function,names:=[],isGenerator:=aH,isCoroutine:=aH,more:=[]}
noncomputable def cN(i:Nat):ed:=Challenge.pw_kl0432_01.main.body.getD i (.Pass ⟨0,0,0,0⟩)
noncomputable def jl(i j:Nat):ed:=match cN i with
 | .ClassDef _ _ _ body .. =>body.getD j (.Pass ⟨0,0,0,0⟩)
 |_=> .Pass ⟨0,0,0,0⟩
noncomputable def md:ed->bb| .FunctionDef n .. =>n|_=>""
noncomputable def wD:ed->CV| .FunctionDef _ a .. =>a|_=>Fo
noncomputable def fR:ed->List ed| .FunctionDef _ _ b .. =>b|_=>[]
noncomputable def bk:ed->eN| .FunctionDef _ _ _ _ _ _ s .. =>s|_=>By
noncomputable def oG:List bb:=["OPTIMIZED","NEWLOCALS","VARARGS","VARKEYWORDS","NESTED","GENERATOR","NOFREE","COROUTINE","ITERABLE_COROUTINE","ASYNC_GENERATOR"]
noncomputable abbrev xx(st:ed)(pm cd doc:ai):cg:=mz (md st) (wD st) (fR st) (bk st) pm cd doc
noncomputable def eT(K:fl)(C:ay)(name:bb):Bool:=((clsIn K C).any λcd=>cd.hasDict) && fH K (.ref C) name == ae av && fH K (.ref C) "__getattribute__" == ae (ae (.builtin "object.__getattribute__"))
noncomputable def jm(K:fl)(C f:ay)(name:bb):Bool:=fH K (.ref C) "__getattribute__" == ae (ae (.builtin "object.__getattribute__")) && fH K (.ref C) "__getattr__" == ae av && fH K (.ref C) name == ae (ae (.ref f)) && typeIn K (.ref f) == ae (.type "function")
noncomputable def fh(K:fl)(C:ay)(name:bb):Bool:=fH K (.ref C) "__setattr__" == ae (ae (.builtin "object.__setattr__")) && plainOver K C && takerIn K C name == ae av && (clsIn K C).any (·.hasDict)
noncomputable abbrev Ar(st:ed)(qual:bb)(pm cd doc:ai):cg:={xx st pm cd doc with qualname:=qual}
noncomputable def su(K:fl)(C f:ay)(name:bb):Bool:=plainGet K C name && hasDictIn K C && fH K (.ref C) name == ae (ae (.ref f)) && isFn K (.ref f) && Fd K (.ref f) "__get__" == ae (ae (.builtin "function.__get__")) && Un K (.ref f) == ae aH && !copiedNames.contains name
noncomputable def Bz(K:fl)(a:ay):oY:=(K.lookup a).getD {cls:= .none,data:= .plain}
noncomputable def pmIn(K:fl)(a:ay):ai:=match (Bz K a).data with| .func fd=>fd.pyModule|_=> .none
noncomputable def dcIn(K:fl)(a:ay):ai:=match (Bz K a).data with| .func fd=>fd.doc|_=> .none
noncomputable def i6(K:fl)(cd:ai)(q:bb):Bool:=match cd with
 | .ref c=>(match (Bz K c).data with
  | .fields vs=>(match (vs[1]? :Option ai) with|some (Value.str n _)=>n == q|_=>aH)
  |_=>aH) && (K.lookup c).isSome
 |_=>aH
noncomputable def strip:Data->Data
 | .func fd=> .func {fd with pyModule:= .none,doc:= .none}
 |d=>d
noncomputable def wZ(K:fl)(a:ay):Option Data:=(K.lookup a).map λo=>strip o.data
noncomputable def BA(K:fl)(x:bb):Option ai:=match (Bz K 3).data with| .dict es _=>nsFind es x|_=>av
noncomputable def TL:Nat->List bb->List gA
 |_,[]=>[]
 |i,n::l=>⟨2 ^ i,.int (2 ^ i) (253+2*i),.str n (254+2*i)⟩::TL (i+1) l
noncomputable def JZ(K:fl)(a:ay):List gA:=match (Bz K a).data with| .dict es _=>es.toList|_=>[]
noncomputable def Q3:List (ay×ay×ed):=[(72,71,cN 4),(172,171,cN 7),(179,178,cN 8),(256,255,cN 13),(263,262,cN 14),(270,269,cN 15),(275,274,cN 17),(280,279,cN 18),(285,284,cN 19),(290,289,cN 20),(297,296,cN 21),(302,301,cN 22),(307,306,cN 23)]
noncomputable def meL:List (ay×ay×ed×bb):=[(193,192,jl 10 0,"_netrclex.__init__"),(200,199,jl 10 1,"_netrclex._read_char"),(207,206,jl 10 2,"_netrclex.get_token"),(214,213,jl 10 3,"_netrclex.push_token"),(235,234,jl 12 1,"TupleComp.__init__"),(242,241,jl 12 2,"TupleComp.compare"),(90,89,jl 5 4,"_ExceptionTableEntryBase.__new__")]
noncomputable def Q4:List (bb×ay):=[("pretty_flags",72),("COMPILER_FLAG_NAMES",65),("_ExceptionTableEntry",162),("_parse_varint",172),("_parse_exception_table",179),("_netrclex",217),("TupleComp",245),("add_func_stats",256),("add_callers",263),("count_calls",270),("_law_given",275),("_law_spelled",280),("_law_octets",285),("_law_back",290),("_law_run",297),("_law_hear",302),("law",307),("__builtins__",4)]
noncomputable def mnL:List bb:=["range","len","sum","enumerate","int","bool","list","set","sorted","hex","next","iter","ord","chr","bytes","isinstance","tuple","StopIteration","type","issubclass"]
noncomputable def gtL:List (ay×bb):=[(132,"start"),(135,"end"),(138,"target"),(141,"depth"),(144,"lasti")]
noncomputable def oA(K:fl):=(Q3.map λq=>(wZ K q.1,i6 K (.ref q.2.1) (md q.2.2)),meL.map λq=>(wZ K q.1,i6 K (.ref q.2.1) q.2.2.2),Q4.map λq=>BA K q.1,mnL.map (BA K))
noncomputable def vA:=(Q3.map λq=>(ae (M8 (mz (md q.2.2) (wD q.2.2) (fR q.2.2) (bk q.2.2) .none (.ref q.2.1) .none)),aJ),meL.map λq=>(ae (M8 (Ar q.2.2.1 q.2.2.2 .none (.ref q.2.1) .none)),aJ),Q4.map λq=>ae (cY q.2),mnL.map λz=>(av:Option ai))
noncomputable def oB(K:fl):=(K.lookup 65,K.lookup 36,wZ K 43,i6 K (.ref 42) "_tuplegetter.__get__",(K.lookup 3).isSome)
noncomputable def vB:=(ae ({cls:= .type "dict",data:= .dict (TL 0 oG).toArray 10}:oY),ae ({cls:= .type "tuple",data:= .seq #[.none] 0}:oY),ae (M8 {Ar (jl 2 1) "_tuplegetter.__get__" .none (.ref 42) .none with defaults:= .ref 36}),aJ,aJ)
noncomputable def oC(K:fl):List Bool:=[eT K 217 "pushback",eT K 217 "lineno",eT K 217 "instream",eT K 217 "whitespace",fh K 217 "pushback",fh K 217 "lineno",fh K 217 "instream",fh K 217 "whitespace",jm K 217 200 "_read_char",jm K 217 207 "get_token",jm K 217 214 "push_token",eT K 245 "comp_select_list",fh K 245 "comp_select_list",jm K 245 242 "compare",makesIn K 217,keepIn K (.ref 217),makesIn K 245,keepIn K (.ref 245),su K 217 200 "_read_char",readsIn K 162 (.type "type"),keepIn K (.ref 162),eT K 60 "index",codeHdIn K 274 272,codeHdIn K 306 304]
noncomputable def vC:List Bool:=List.replicate 24 aJ
noncomputable def oD(K:fl):=(fH K (.ref 217) "__init__",fH K (.ref 245) "__init__",fH K (.ref 162) "__getattribute__",fH K (.ref 162) "__getattr__",fH K (.ref 162) "__eq__",fH K (.ref 162) "__iter__",typeIn K (.ref 193),typeIn K (.ref 235),subIn K (.type "tuple") (.ref 162),subIn K (.ref 162) (.type "tuple"),Fe K (.ref 162) (.type "type") "__new__",recIn K 150 "staticmethod",Fe K (.type "tuple") (.type "type") "__new__",Fe K (.type "tuple") (.type "type") "__getitem__")
noncomputable def vD:=(ae (ae (cY 193)),ae (ae (cY 235)),ae (ae (iG "tuple.__getattribute__")),ae (av:Option ai),ae (ae (iG "tuple.__eq__")),ae (ae (iG "tuple.__iter__")),ae (lX "function"),ae (lX "function"),ae aH,ae aJ,ae (CFound.get (.builtin "staticmethod.__get__") (.ref 150) .none (.ref 162)),ae [cY 90],ae (CFound.val (.builtin "tuple.__new__")),ae (CFound.val (.builtin "tuple.__getitem__")))
noncomputable def oE(K:fl)(S:Setting):=(peek K S (mA (.ref 162) "__call__"),peek K S (uf (.ref 162) (.type "type")),peek K S (Bind.madeBy (.ref 162)),peek K S (mroOf (.ref 162)),(λt:ay=>peek K S (iI "tuple.__new__" {pos:=[.ref 162,.ref t]})),peek K S (Bind.madeHere "tuple.__new__" (.ref 162)),peek K S (isType (.ref 162)),peek K S (xi (.ref 162) (.type "tuple")),peek K S (xi (.ref 162) (.ref 162)),peek K S (xi (.ref 162) (.type "object")),peek K S (iQ (.ref 162) "__init__"))
noncomputable def vE(_:Setting):=(ae (ae (iG "type.__call__")),ae aJ,ae (av:Option String),ae [cY 162,.ref 149,.type "tuple",.type "object"],(λ_:ay=>ae ()),ae (),ae aJ,ae aJ,ae aJ,ae aJ,ae (ae (iG "object.__init__")))
noncomputable def J0(K:fl):Option Bool:=match K.lookup 162 with
 |some ⟨.type "type",_,.cls cd,_⟩=>ae cd.hasDel
 |_=>av
noncomputable def oF(K:fl):=(gtL.map λq=>(fH K (.ref 162) q.2,Fd K (.ref q.1) "__get__",Un K (.ref q.1),K.lookup q.1,getL "index" (JZ K (q.1 - 1)),(K.lookup (q.1 - 1)).map λo=>(o.cls,o.dict,o.slots)),J0 K)
noncomputable def vF:=((gtL.zipIdx.map λ(q:(ay×bb)×Nat)=>(ae (ae (cY q.1.1)),ae (ae (cY 43)),ae aJ,ae (Ad 60 (q.1.1 - 1)),ae (ae (jT q.2 (394+10*q.2))),ae (lX "dict",(av:Option ay),(#[]:Array (Option ai))))),ae aH)
noncomputable def Fp(K:fl):=(oA K,oB K,oC K,oD K,oE K,oF K)
noncomputable def NU:=(vA,vB,vC,vD,vE,vF)
def J1(_:ee)(h:dG):Prop:=∃K:fl,K.In h/\K.lookup 272=av/\K.lookup 304=av/\Fp K=NU/\∀P∈[272,304],h.get? P=ae (tabObj #[])
structure Cx where
 w:ee
 s:aq
 mg:bb->Option ai
def CZ(c:Cx):Prop:=∀(q:dJ) (loose:List bb) (RR:WRecords) (XP:(bb->Option ai)->dG->Prop) (s0:aq) (mb:bb->Option ai) (fa:ay) (args:List WData) (bz:List ai) (cl:bb->Option ay) (mean:ExcName->Option ai) (E:ai->aq->Prop),
 Ground q loose RR XP c.w s0 c.mg mb c.s.heap->importsNone q=aJ->J1 c.w c.s.heap->c.mg "law"=ae (.ref fa)->c.s.gens=#[]->(cQ.row.toRowW.claim).pre args=aJ->WellAll c.w.params c.s.heap bz args->
 aS (aX cQ.row.toRowW.prog c.w) callerA (Jp (.ref fa) bz) (λv s'=>GoodWG (cQ.row.toRowW.claim) cl mean args c.s (.ok (.ret v)) s') E c.s
theorem P9:Nonempty Cx:=⟨⟨⟨λz z=>0,{strHash:=λz=>0,shareClass:=λz=>0,mergeTok:=λt=>t,idOf:=λz=>0,idOfShared:=λz z=>0,followText:=λz=>aH,idOfImm:=λz=>0}⟩,{},λz=>av⟩⟩
@[irreducible] noncomputable def cx:Cx:=@Classical.epsilon Cx P9 λc=>¬CZ c
theorem J2(h:CZ cx)(c:Cx):CZ c:=bO λn=>by
 unfold cx at h;exact @Classical.epsilon_spec_aux Cx P9 (λc=>¬CZ c) ⟨c,n⟩ h
theorem zJ:Nonempty aq:=⟨{}⟩
theorem E6:Nonempty ee:=⟨cx.w⟩
theorem Fq:Nonempty bh:=⟨callerA⟩
theorem cL:Nonempty ay:=inferInstance
theorem gL:Nonempty ai:=inferInstance
theorem neE:Nonempty gP:=inferInstance
theorem sV:Nonempty dJ:=inferInstance
noncomputable def Fs:List ay:=[2,3,15,17,18,20,21,29,31,32,34,35,36,37,39,40,42,43,44,46,47,49,50,51,53,54,56,57,58,59,60,61,62,65,66,68,69,71,72,73,76,81,82,83,84,86,87,89,90,91,93,94,96,97,98,99,100,101,102,104,105,107,108,109,111,112,114,115,116,118,119,121,122,123,125,126,128,129,130,131,132,134,135,137,138,140,141,143,144,146,148,149,150,153,160,161,162,163,166,168,169,171,172,173,175,176,178,179,187,189,190,192,193,194,196,197,199,200,201,203,204,206,207,208,210,211,213,214,215,216,217,218,219,229,231,232,234,235,236,238,239,241,242,243,244,245,246,247,250,252,253,255,256,257,259,260,262,263,264,266,267,269,270,271,274,275,276,279,280,281,284,285,286,289,290,291,293,294,296,297,298,301,302,303,306,307]
noncomputable def lH(h:dG):List ay->fl
 |[]=>[]
 |a::l=>match h.get? a with
  |some o=>(a,o)::lH h l
  |none=>lH h l
theorem GX(h:dG):∀l:List ay,(lH h l).In h/\∀a,a∉l->(lH h l).lookup a=av
 |[]=>⟨(λa o e=>by exact gK e),λz z=>rfl⟩
 |b::l=>by
  refine dU (GX h l) λh1 h2=>?_;show Frag.In (match h.get? b with|some o=>(b,o)::lH h l|none=>lH h l) h/\∀a,a∉b::l->(match h.get? b with|some o=>(b,o)::lH h l|none=>lH h l).lookup a=av;cases hb:h.get? b with
  |none=>exact ⟨h1,λa ha=>h2 a λq=>ha (ab _ q)⟩
  |some o=>
   refine ⟨λa o' e=>?_,λa ha=>?_⟩
   ·rw [lh] at e;by_cases wY:a=b
    ·subst wY;rw [show (a == a)=aJ from by simp] at e
     (have lA:=aO e;clear e;subst lA);exact hb
    ·rw [show (a == b)=aH from by simpa using wY] at e;exact h1 a o' e
   ·(refine aj (lh ..) ?_;refine aj (show (a == b)=aH from by simpa using λq:a=b=>ha (q▸aa)) ?_)
    exact h2 a λq=>ha (ab _ q)
section
noncomputable def NV(p:dJ)(w:ee)(n0:Nat)(ann:Option ai):Nat->Uo->Thread->Option Uo
 |0,_,_=>av
 |n+1,s,t=>match through t with
  |true=>ae s
  |false=>match PySem.W.Fast.tw6613529449190102663 n0 ann t with
   |false=>av
   |true=>match PySem.W.Fast.tw10156331382660048174 (PySem.W.Fast.tw11892475500146522536 PySem.W.Fast.tw14364793385576792824) p w s t with
    |some (s',t')=>NV p w n0 ann n s' t'
    |none=>av
theorem As{p:dJ}{w:ee}{n0:Nat}{ann:Option ai}:∀{n:Nat} {s s':Uo} {t:Thread},NV p w n0 ann n s t=ae s'->topRun treeTable p w n0 ann n s.abs t=ae s'.abs
 |0,_,_,_,h=>by cases h
 |n+1,s,s',t,h=>by
  unfold NV at h;unfold topRun;cases ht:through t with
  |true=>rw [ht] at h;cases h;rfl
  |false=>
   rw [ht] at h;dsimp only at h ⊢;rw [<- PySem.W.Fast.te6613529449190102663] at h;cases ho:stepOk n0 ann t with
   |false=>rw [ho] at h;cases h
   |true=>
    rw [ho] at h;dsimp only at h ⊢;rw [<- PySem.W.Fast.te10156331382660048174,<- PySem.W.Fast.te11892475500146522536,<- PySem.W.Fast.te14364793385576792824] at h;cases hs:stepT (denote treeTable) p w s t with
    |none=>rw [hs] at h;cases h
    |some q=>obtain ⟨s1,t1⟩:=q;rw [hs] at h;rw [stepT_spec hs];exact As h
noncomputable def mkT:List oY->Nat->BT->BT
 |[],_,t=>t
 |o::l,n,t=>mkT l (n+1) (t.ins n o)
noncomputable def st0(w:ee)(os:vi):Uo:=⟨mkT (rr w.params).objs.toList 0 .nil,11,(rr w.params).life,#[],boot_drawn,boot_toks,os⟩
theorem NW(w:ee)(os:vi):(st0 w os).abs=⟨rr w.params,#[],boot_drawn,boot_toks,os⟩:=by kernel_rfl!
noncomputable abbrev pw:dJ:=PySem.Challenge.pw_kl0432_01
noncomputable def qV:dJ:=view pw [23]
noncomputable def xN:List bb:=["_wall","_tuplegetter","COMPILER_FLAG_NAMES","pretty_flags","_ExceptionTableEntryBase","_ExceptionTableEntry","_parse_varint","_parse_exception_table","_netrclex","TupleComp","add_func_stats","add_callers","count_calls","_law_given","_law_spelled","_law_octets","_law_back","_law_run","_law_hear"]
noncomputable def ends(w:ee)(os:vi):Option Uo:=NV pw w 11 (ae (.ref 6)) 3200 (st0 w os) (topStub pw)
noncomputable def chk(h0:dG)(s:aq):Bool:=staticsOk (PZ pw.main.body) h0 s.heap && namesBound pw s.heap && gensDone s && laidKept h0 s.heap
noncomputable def uC(t:BT)(n:Nat):List ay->fl
 |[]=>[]
 |a::l=>match Nat.blt a n with
  |true=>match t.get a with
   |some o=>match alive o with
    |some o'=>(a,o')::uC t n l
    |none=>uC t n l
   |none=>[]
  |false=>uC t n l
noncomputable def okT(t:BT)(n:Nat)(l:List ay):Bool:=l.all λa=>Nat.blt a n && (t.get a).isSome
noncomputable def Ft(t:BT)(a:ay):Option oY:=(t.get a).bind alive
theorem J3{t:BT}{n:Nat}{life:Life}{a:ay}(h1:Nat.blt a n=aJ)(h2:(t.get a).isSome=aJ):(Ff t n life).get? a=Ft t a:=by obtain ⟨o,ho⟩:=dH.mp h2;rw [abs_get (Nat.blt_eq.mp h1:a < n) ho];unfold Ft;rw [ho];rfl
theorem J4{t:BT}{n:Nat}{life:Life}:∀{l:List ay},okT t n l=aJ->lH (Ff t n life) l=uC t n l
 |[],_=>rfl
 |a::l,h=>by
  unfold okT at h;rw [M9,dQ,dQ] at h;obtain ⟨⟨h1,h2⟩,h3⟩:=h;have ih:=J4 (life:=life) (l:=l) h3;show (match (Ff t n life).get? a with|some o=>(a,o)::lH (Ff t n life) l|none=>lH (Ff t n life) l)=(match Nat.blt a n with|true=>(match t.get a with|some o=>(match alive o with|some o'=>(a,o')::uC t n l|none=>uC t n l)|none=>[])|false=>uC t n l);rw [J3 h1 h2,h1];unfold Ft;obtain ⟨o,ho⟩:=dH.mp h2;rw [ho];dsimp only [Option.bind_some];cases alive o with
  |none=>exact ih
  |some o'=>dsimp only;rw [ih]
noncomputable def obs(s:aq):=(Fp (lH s.heap Fs),[s.heap.get? 272,s.heap.get? 304])
noncomputable def bz:=(NU,[ae (tabObj #[]),ae (tabObj #[])])
theorem obs_T{s:Uo}(h:okT s.tree s.n (272::304::Fs)=aJ):obs s.abs=(Fp (uC s.tree s.n Fs),[Ft s.tree 272,Ft s.tree 304]):=by unfold okT at h;rw [M9,dQ,dQ,M9,dQ,dQ] at h;obtain ⟨⟨h1,h2⟩,⟨h3,h4⟩,h5⟩:=h;show (Fp (lH (Ff s.tree s.n s.life) Fs),[(Ff s.tree s.n s.life).get? 272,(Ff s.tree s.n s.life).get? 304])=_;rw [J4 h5,J3 h1 h2,J3 h3 h4]
noncomputable def Q5(w:ee)(os:vi):=(ends w os).map λs=>(chk (rr w.params) s.abs,PySem.W.Fast.tw4187177175401517315 qV xN (PZ pw.main.body) (λz=>aJ) aJ s.abs,okT s.tree s.n (272::304::Fs),(Fp (uC s.tree s.n Fs),[Ft s.tree 272,Ft s.tree 304]))
noncomputable def Q6:=ae (aJ,openGood qV xN,aJ,bz)
set_option maxHeartbeats 0
theorem Q7(w:ee)(os:vi):Q5 (w.withFollow "special-get-raises" aH) os=Q6:=by kernel_rfl
theorem Q8(w:ee)(os:vi):Q5 (w.withFollow "special-get-raises" aJ) os=Q6:=by kernel_rfl
end
theorem J5(w:ee)(os:vi):Q5 w os=Q6:=by
 have e:=World.withFollow_self w "special-get-raises";cases hb:w.params.followText "special-get-raises" <;> rw [hb] at e
 ·have:=Q7 w os;rwa [e] at this
 ·have:=Q8 w os;rwa [e] at this
theorem leftV:LeftO pw qV xN (λz=>aJ) obs (λz=>bz) 3200:=λw=>by
 obtain ⟨⟨h,gs,d,k,os⟩,e,e'⟩:=aL.mp (boot_open (p:=pw) (N:=3200) (by kernel_rfl!) rfl (λs=>by kernel_rfl!) w);obtain ⟨rfl,rfl,rfl,rfl⟩:h=rr w.params/\gs=Array.mk []/\d=boot_drawn/\k=boot_toks:=by simpa using e'
 refine aK (aL.mp (J5 w os)) λs' hs hv=>?_;obtain ⟨h1,h2,h3,h4⟩:_/\_/\_/\_:=by simpa only [Na] using hv
 have r:=As hs;rw [NW] at r;have z1:((rr w.params).isNs vj && (Array.mk []:Array GenState).size == 0)=aJ:=by kernel_rfl!
 have z2:(rr w.params).objs.size=11:=by kernel_rfl!
 have z3:(rr w.params).nsMap vj "__annotations__"=ae (.ref 6):=by kernel_rfl!
 unfold openEnds;rw [e];show (topFrom treeTable pw w 3200 _).map _=_;unfold topFrom;dsimp only;rw [z1,z2,z3,r];show ((match chk (rr w.params) s'.abs with|true=>ae s'.abs|false=>av).map _)=_;rw [h1];show ae (openSeen qV xN (PZ pw.main.body) (λz=>aJ) aJ s'.abs,obs s'.abs)=ae _;rw [obs_T h3,h4,PySem.W.Fast.te4187177175401517315,h2]
theorem NY(w:ee)(s:aq)(e:obs s=bz):J1 w s.heap:=by
 refine dU (sL e) λe1 e2=>dU (GX s.heap Fs) λh1 h2=>?_;simp only [GK,and_true] at e2;refine ⟨_,h1,h2 272 (by decide),h2 304 (by decide),e1,λP hP=>?_⟩;rcases aP.mp hP with h|h
 ·rw [h];exact e2.1
 ·rw [aA.mp h];exact e2.2
theorem Fu(w:ee)(h h':dG)(x:J1 w h)(k:∀b o,h.get? b=ae o->h'.get? b=ae o):J1 w h':=by refine CX x λK h1 h2 h3 h4 h5=>?_;clear x;exact ⟨K,λa o e=>k _ _ (h1 a o e),h2,h3,h4,λP hP=>k _ _ (h5 P hP)⟩
theorem saidV:cQ.wellSaid=aJ:=by rw [PySem.W.Fast.te9446332074065402090];kernel_rfl
theorem Q9(ku:∀d kwd,defOf qV "law"=ae (d,kwd)->WalkO qV xN (λz z=>True) J1 cQ.row.toRowW d kwd λf vs=>Jp f vs):cQ.Holds:=by
 refine holds_law saidV λk1=>?_;obtain ⟨⟨d,kwd⟩,hd⟩:∃x,defOf qV "law"=ae x:=dH.mp (by kernel_rfl!);refine holds_open (N:=3200) leftV NY Fu (λz z=>trivial) (λz z z z z=>trivial) hd ?hp ?hk (λs z=>?rf) rfl k1 ?ok ?hb ?hw (ku d kwd hd)
 case hp=>
  have e:pw.theDef "law"=(defOf qV "law").map λx=>(x.1.params,x.1.body,x.1.scope):=by kernel_rfl!
  exact e.trans (by rw [hd];rfl)
 case hk=>
  have e:((defOf qV "law").map λx=>kwWritten? x.1.params.kwonlyargs x.1.params.kw_defaults)=(defOf qV "law").map λx=>ae x.2:=by kernel_rfl!
  rw [hd] at e;exact aO e
 case rf=>exact recFacts_of (R:=[]) (s:=s) rfl
 case ok=>kernel_rfl
 case hb=>exact ⟨rfl,rfl,rfl,rfl,rfl,by kernel_rfl!⟩
 case hw=>exact ⟨[.list []],by decide+kernel,by decide+kernel⟩
section
variable {s:aq}{k:Nat}
inductive V where
 |none|bool (b:Bool)|int (i:Int)|str (s:bb)|bytes (b:Array UInt8)
 |tup (xs:List V)|list (xs:List V)|dict (es:List (bb×V))|ent (xs:List V)
 |ref (a:ay)|type (n:String)|bi (id:String)
theorem neV:Nonempty V:=⟨.none⟩
noncomputable abbrev bI:=ay->Option oY
def bI.le(Z Z':bI):Prop:=∀a o,Z a=ae o->Z' a=ae o
theorem bI.le_refl(Z:bI):Z.le Z:=λz z e=>e
theorem bI.le_trans{Z Z' PF:bI}(x:Z.le Z')(y:Z'.le PF):Z.le PF:=λa o e=>y a o (x a o e)
noncomputable def bI.put(Z:bI)(a:ay)(o:oY):bI:=λb=>if b=a then ae o else Z b
theorem bI.le_put{Z:bI}{a:ay}{o:oY}(h:Z a=av):Z.le (Z.put a o):=λb p e=>by
 unfold bI.put;by_cases hb:b=a
 ·subst hb;rw [h] at e;exact gK e
 ·refine aj (if_neg hb ..) ?_;exact e
theorem bI.put_self(Z:bI)(a:ay)(o:oY):Z.put a o a=ae o:=if_pos rfl
structure Gd where
 prog:dJ
 w:ee
 Z0:bI
 mg:bb->Option ai
 os:vi
 ent:ay
noncomputable def hG(w:ee)(s:aq)(mg:bb->Option ai):Gd:={prog:=cQ.row.toRowW.prog,w:=w,Z0:=λa=>if a=272\/a=304 then av else s.heap.get? a,mg:=mg,os:=s.os,ent:=162}
@[irreducible] noncomputable def G:Gd:=hG cx.w cx.s cx.mg
theorem HT:hG cx.w cx.s cx.mg=G:=by unfold G;rfl
noncomputable abbrev oH(vs:Array ai)(n:Nat):oY:={cls:= .type "list",data:= .seq vs n}
def BB(G:Gd)(o:oY)(kvs:List (bb×ai)):Prop:=
 o.ExactDict/\∃es ep,o.data= .dict es ep/\KeysOf (strKind G.prog G.w) es/\Pairs (strKind G.prog G.w) es.toList kvs/\(kvs.map (·.1)).Nodup
mutual
inductive aZ(G:Gd)(Z:bI):ai->V->Prop
 |none:aZ G Z .none .none
 |bool (b):aZ G Z (.bool b) (.bool b)
 |int (i t):aZ G Z (.int i t) (.int i)
 |str (x t):aZ G Z (.str x t) (.str x)
 |bytes (b t):aZ G Z (.bytes b t) (.bytes b)
 |type (n):aZ G Z (.type n) (.type n)
 |bi (n):aZ G Z (.builtin n) (.bi n)
 |ref (a):aZ G Z (.ref a) (.ref a)
 |tup {a o vs n xs:_}:Z a=ae o->o.cls= .type "tuple"->o.data= .seq vs n->bW G Z vs.toList xs->aZ G Z (.ref a) (.tup xs)
 |list {a vs n xs:_}:Z a=ae (oH vs n)->bW G Z vs.toList xs->aZ G Z (.ref a) (.list xs)
 |ent {a o vs n xs:_}:Z a=ae o->o.cls= .ref G.ent->o.data= .seq vs n->bW G Z vs.toList xs->aZ G Z (.ref a) (.ent xs)
 |dict {a o kvs xs:_}:(a == lY)=aH->Z a=ae o->BB G o kvs->kvs.map (·.1)=xs.map (·.1)->bW G Z (kvs.map (·.2)) (xs.map (·.2))->aZ G Z (.ref a) (.dict xs)
inductive bW(G:Gd)(Z:bI):List ai->List V->Prop
 |nil:bW G Z [] []
 |cons {v vs x xs:_}:aZ G Z v x->bW G Z vs xs->bW G Z (v::vs) (x::xs)
end
theorem bI.le.trans{Z Z' PF:bI}(x:Z.le Z')(y:Z'.le PF):Z.le PF:=λa o e=>y a o (x a o e)
theorem bI.le.rfl{Z:bI}:Z.le Z:=λz z e=>e
section
variable {Z Z':bI}{v:ai}
theorem aZ.both{P:ai->V->Prop}{Q:List ai->List V->Prop}(av:P .none .none)(bool:∀b,P (.bool b) (.bool b))(int:∀i t,P (.int i t) (.int i))(str:∀x t,P (.str x t) (.str x))(bytes:∀b t,P (.bytes b t) (.bytes b))
 (type:∀n,P (.type n) (.type n)) (bi:∀n,P (.builtin n) (.bi n)) (ref:∀a,P (.ref a) (.ref a))
 (tup:∀{a o vs n xs},Z a=ae o->o.cls= .type "tuple"->o.data= .seq vs n->Q vs.toList xs->P (.ref a) (.tup xs)) (list:∀{a vs n xs},Z a=ae (oH vs n)->Q vs.toList xs->P (.ref a) (.list xs))
 (ent:∀{a o vs n xs},Z a=ae o->o.cls= .ref G.ent->o.data= .seq vs n->Q vs.toList xs->P (.ref a) (.ent xs))
 (dict:∀{a o kvs xs},(a == lY)=aH->Z a=ae o->BB G o kvs->kvs.map (·.1)=xs.map (·.1)->Q (kvs.map (·.2)) (xs.map (·.2))->P (.ref a) (.dict xs))
 (nil:Q [] []) (cons:∀{v vs x xs},P v x->bW G Z vs xs->Q vs xs->Q (v::vs) (x::xs)):(∀{v x},aZ G Z v x->P v x)/\∀{vs xs},bW G Z vs xs->Q vs xs:=
 have f:∀{v x},(h:aZ G Z v x)->P v x:=λ{z z} h=>aZ.rec (motive_1:=λv x z=>P v x) (motive_2:=λvs xs z=>Q vs xs) av bool int str bytes type bi ref (λ{z z z z z} e c d z q=>tup e c d q) (λ{z z z z} e z q=>list e q) (λ{z z z z z} e c d z q=>ent e c d q) (λ{z z z z} s e d k z q=>dict s e d k q) nil (λ{z z z z} z r p q=>cons p r q) h
 ⟨f,λ{z z} h=>bW.rec (motive_1:=λv x z=>P v x) (motive_2:=λvs xs z=>Q vs xs) av bool int str bytes type bi ref (λ{z z z z z} e c d z q=>tup e c d q) (λ{z z z z} e z q=>list e q) (λ{z z z z z} e c d z q=>ent e c d q) (λ{z z z z} s e d k z q=>dict s e d k q) nil (λ{z z z z} z r p q=>cons p r q) h⟩
theorem aZ.monos(h:Z.le Z'):(∀{v x},aZ G Z v x->aZ G Z' v x)/\∀{vs xs},bW G Z vs xs->bW G Z' vs xs:=
 aZ.both (P:=aZ G Z') (Q:=bW G Z') .none .bool .int .str .bytes .type .bi .ref (λ{z z z z z} e=> .tup (h _ _ e)) (λ{z z z z} e=> .list (h _ _ e)) (λ{z z z z z} e=> .ent (h _ _ e)) (λ{z z z z} s e=> .dict s (h _ _ e)) .nil (λ{z z z z} p z q=> .cons p q)
theorem aZ.mono(h:Z.le Z'){x:V}(r:aZ G Z v x):aZ G Z' v x:=(aZ.monos h).1 r
theorem bW.mono(h:Z.le Z'){vs:List ai}{xs:List V}(r:bW G Z vs xs):bW G Z' vs xs:=(aZ.monos h).2 r
@[elab_as_elim] theorem bW.ind{P:List ai->List V->Prop}{vs:List ai}{xs:List V}(h:bW G Z vs xs)(nil:P [] [])(cons:∀{v vs x xs},aZ G Z v x->bW G Z vs xs->P vs xs->P (v::vs) (x::xs)):P vs xs:=
 bW.rec (motive_1:=λz z z=>True) (motive_2:=λvs xs z=>P vs xs) trivial (λz=>trivial) (λz z=>trivial) (λz z=>trivial) (λz z=>trivial) (λz=>trivial) (λz=>trivial) (λz=>trivial) (λ{z z z z z} z z z z z=>trivial) (λ{z z z z} z z z=>trivial) (λ{z z z z z} z z z z z=>trivial) (λ{z z z z} z z z z z z=>trivial) nil (λ{z z z z} a r z q=>cons a r q) h
noncomputable def aZ.by(Z:bI)(v:ai):V->Prop
 | .none=>v= .none
 | .bool b=>v= .bool b
 | .int i=>∃t,v= .int i t
 | .str x=>∃t,v= .str x t
 | .bytes b=>∃t,v= .bytes b t
 | .type n=>v= .type n
 | .bi n=>v= .builtin n
 | .ref a=>v= .ref a
 |_=>True
theorem aZ.is{x:V}(h:aZ G Z v x):aZ.by Z v x:=by cases h <;> first|rfl|exact ⟨_,rfl⟩|trivial
variable {P:ai->Prop}
@[elab_as_elim] theorem aZ.intC{i:Int}(h:aZ G Z v (.int i))(c:∀t,P (.int i t)):P v:=by obtain ⟨t,rfl⟩:=h.is;exact c t
@[elab_as_elim] theorem aZ.strC{x:bb}(h:aZ G Z v (.str x))(c:∀t,P (.str x t)):P v:=by obtain ⟨t,rfl⟩:=h.is;exact c t
theorem aZ.boolE{b:Bool}(h:aZ G Z v (.bool b)):v= .bool b:=h.is
theorem aZ.noneE(h:aZ G Z v .none):v= .none:=h.is
theorem aZ.refE{a:ay}(h:aZ G Z v (.ref a)):v= .ref a:=h.is
theorem aZ.typeE{n:String}(h:aZ G Z v (.type n)):v= .type n:=h.is
theorem aZ.biE{n:String}(h:aZ G Z v (.bi n)):v= .builtin n:=h.is
end
section
variable {Z:bI}
theorem bW.length{vs:List ai}{xs:List V}(h:bW G Z vs xs):vs.length=xs.length:=h.ind rfl λ{z z z z} z z e=>congrArg xj e
theorem bW.get{vs:List ai}{xs:List V}(h:bW G Z vs xs){i:Nat}{x:V}:xs[i]? =ae x->∃v,vs[i]? =ae v/\aZ G Z v x:=
 h.ind (P:=λvs xs=>∀(i:Nat) (x:V),xs[i]? =ae x->∃v,vs[i]? =ae v/\aZ G Z v x) (λz z e=>gK e) (λ{v vs x xs} a z ih i=>i.casesOn (λz e=>⟨v,rfl,aO e▸a⟩) λi x e=>ih i x e) i x
theorem bW.get'{vs:List ai}{xs:List V}(h:bW G Z vs xs){i:Nat}{v:ai}:vs[i]? =ae v->∃x,xs[i]? =ae x/\aZ G Z v x:=
 h.ind (P:=λvs xs=>∀(i:Nat) (v:ai),vs[i]? =ae v->∃x,xs[i]? =ae x/\aZ G Z v x) (λz z e=>gK e) (λ{v vs x xs} a z ih i=>i.casesOn (λz e=>⟨x,rfl,aO e▸a⟩) λi v e=>ih i v e) i v
theorem bW.append{vs ws:List ai}{xs ys:List V}(h:bW G Z vs xs)(k:bW G Z ws ys):bW G Z (vs++ws) (xs++ys):=h.ind k λ{z z z z} a z r=> .cons a r
theorem bW.snoc{vs:List ai}{xs:List V}{v:ai}{x:V}(h:bW G Z vs xs)(e:aZ G Z v x):bW G Z (vs++[v]) (xs++[x]):=h.append (.cons e .nil)
theorem bW.ofGets:∀{vs:List ai} {xs:List V},vs.length=xs.length->(∀(i:Nat) (v:ai) (x:V),vs[i]? =ae v->xs[i]? =ae x->aZ G Z v x)->bW G Z vs xs:=λ{vs}=>by
 induction vs with
 |nil=>intro xs hl z;cases xs with
  |nil=>exact .nil
  |cons=>cases hl
 |cons v vs ih=>intro xs hl h;cases xs with
  |nil=>cases hl
  |cons x xs=>exact .cons (h 0 v x rfl rfl) (ih (Nat.succ.inj hl) λi a b ha hb=>h (i+1) a b ha hb)
end
structure cX where
 own:List ay
 sat:bI->dG->Prop
 mono:∀Z Z' h,Z.le Z'->sat Z h->sat Z' h
 loc:∀Z h h',sat Z h->(∀b∈own,∀o,h.get? b=ae o->h'.get? b=ae o)->(∀a o,Z a=ae o->h.get? a=ae o)->(∀a o,Z a=ae o->h'.get? a=ae o)->sat Z h'
 live:∀Z h,sat Z h->∀b∈own,∃o,h.get? b=ae o
noncomputable abbrev Mu:=List (cX)
noncomputable def gU(mu:Mu):List ay:=mu.flatMap (·.own)
structure R(Z:bI)(mu:Mu)(s:aq):Prop where
 z0:G.Z0.le Z
 zin:∀a o,Z a=ae o->s.heap.get? a=ae o
 sat:∀x∈mu,x.sat Z s.heap
 nodup:(gU mu).Nodup
 sep:∀b∈gU mu,Z b=av
 gens:s.gens=#[]
 os:s.os=G.os
section
variable {Z Z':bI}{mu:Mu}{s':aq}{h':dG}{tk:Nat}
theorem R.liveAll(r:R Z mu s){b:ay}(hb:b∈gU mu):∃o,s.heap.get? b=ae o:=by exact aK (bG.mp hb) λx hx hb=>x.live _ _ (r.sat x hx) b hb
theorem R.fresh(r:R Z mu s){a:ay}(ha:s.heap.objs.size<=a):Z a=av:=by
 cases e:Z a with
 |none=>rfl
 |some o=>exact absurd (bN (r.zin a o e)) (Jq.mpr ha)
theorem R.notOwn(r:R Z mu s){a:ay}(ha:s.heap.objs.size<=a):a∉gU mu:=λhb=>by
 exact cJ (r.liveAll hb) λo ho=>absurd (bN ho) (Jq.mpr ha)
theorem R.keep(r:R Z mu s)(hk:∀b o,s.heap.get? b=ae o->h'.get? b=ae o):R Z mu {s with heap:=h',toks:=tk} where
 z0:=r.z0
 zin:=λa o e=>hk a o (r.zin a o e)
 sat:=λx hx=>x.loc _ _ _ (r.sat x hx) (λb z o e=>hk b o e) r.zin λa o e=>hk a o (r.zin a o e)
 nodup:=r.nodup
 sep:=r.sep
 gens:=r.gens
 os:=r.os
theorem R.keeps(r:R Z mu s)(hk:Keeps s s'):R Z mu s':=by refine eD hk λh tk dO k=>?_;clear hk;subst dO;exact r.keep k
theorem R.toks(r:R Z mu s):R Z mu {s with toks:=tk}:=r.keep (h':=s.heap) λz z e=>e
theorem R.grow(r:R Z mu s)(hz:Z.le Z')(qj:∀a o,Z' a=ae o->s.heap.get? a=ae o)(hs:∀b∈gU mu,Z' b=av):R Z' mu s where
 z0:=bI.le_trans r.z0 hz
 zin:=qj
 sat:=λx hx=>x.mono _ _ _ hz (r.sat x hx)
 nodup:=r.nodup
 sep:=hs
 gens:=r.gens
 os:=r.os
theorem R.freeze(r:R Z mu s){a:ay}{o:oY}(ha:s.heap.get? a=ae o)(hz:Z a=av)(ho:a∉gU mu):R (Z.put a o) mu s:=
 r.grow (bI.le_put hz) (λb p e=>by
  unfold bI.put at e;by_cases hb:b=a
  ·subst hb;rw [if_pos rfl] at e;(have lA:=aO e;clear e;subst lA);exact ha
  ·rw [if_neg hb] at e;exact r.zin b p e) λb hb=>by
  unfold bI.put;have iP:b≠a:=λe=>ho (e▸hb);exact aj (if_neg iP ..) (r.sep b hb)
theorem R.push(r:R Z mu s)(o:oY):R Z mu {s with heap:=s.heap.push o}:=
 r.keep (tk:=s.toks) λz z e=>az o e
theorem R.pushZ(r:R Z mu s){o:oY}(hf:autoParam (o.isFreed=aH) aR):R (Z.put s.heap.objs.size o) mu {s with heap:=s.heap.push o}:=
 (r.push o).freeze (aW _ hf) (r.fresh (bp _)) (r.notOwn (bp _))
theorem R.add(r:R Z mu s)(x:cX)(hx:x.sat Z s.heap)(hn:x.own.Nodup)(ho:∀b∈x.own,b∉gU mu/\Z b=av):R Z (x::mu) s where
 z0:=r.z0
 zin:=r.zin
 sat:=λy hy=>by
  rcases aP.mp hy with rfl|hy
  ·exact hx
  ·exact r.sat y hy
 nodup:=by show (x.own++gU mu).Nodup;exact gj (bP ..) (⟨hn,r.nodup,λa ha b hb e=>(ho a ha).1 (e▸hb)⟩)
 sep:=λb hb=>by
  rcases bc.mp (show b∈x.own++gU mu from hb) with hb|hb
  ·exact (ho b hb).2
  ·exact r.sep b hb
 gens:=r.gens
 os:=r.os
theorem R.drop{x:cX}(r:R Z (x::mu) s):R Z mu s where
 z0:=r.z0
 zin:=r.zin
 sat:=λy hy=>r.sat y (.tail _ hy)
 nodup:=(bP.mp (show (x.own++gU mu).Nodup from r.nodup)).2.1
 sep:=λb hb=>r.sep b (bL (as:=x.own) hb)
 gens:=r.gens
 os:=r.os
theorem oJ(a b:Mu):gU (a++b)=gU a++gU b:=Uq
theorem R.sub{nu:Mu}(r:R Z mu s)(hs:∀x∈nu,x∈mu)(hn:(gU nu).Nodup):R Z nu s where
 z0:=r.z0
 zin:=r.zin
 sat:=λy hy=>r.sat y (hs y hy)
 nodup:=hn
 sep:=λb hb=>by
  exact aK (bG.mp hb) λx hx hb=>r.sep b (bG.mpr ⟨x,hs x hx,hb⟩)
 gens:=r.gens
 os:=r.os
theorem rn{nu mu:Mu}(h:nu.Sublist mu)(hn:(gU mu).Nodup):(gU nu).Nodup:=by
 induction h with
 |slnil=>exact hn
 |cons a _ ih=>exact ih (bP.mp (show (a.own++gU _).Nodup from hn)).2.1
 |cons_cons a h ih=>have h2:=bP.mp (show (a.own++gU _).Nodup from hn);show (a.own++gU _).Nodup;refine gj (bP ..) (⟨h2.1,ih h2.2.1,λx hx y hy e=>h2.2.2 x hx y ?_ e⟩);exact aK (bG.mp hy) λz hz hy=>bG.mpr ⟨z,h.subset hz,hy⟩
theorem R.sublist{nu:Mu}(r:R Z mu s)(h:nu.Sublist mu):R Z nu s:=r.sub (λz hx=>h.subset hx) (rn h r.nodup)
theorem gh{α:Type}:∀{l:List α} {i:Nat} {x:α},l[i]? =ae x->l=l.take i++x::l.drop (i+1)
 |_::_,0,_,e=>by simp at e;subst e;rfl
 |a::l,i+1,x,e=>by
  rw [ug] at e;have:=gh e;simp only [jb,Ur,fU];refine fZ (this ..) ?_;rfl
theorem j0{α:Type}:∀{l:List α} {i:Nat} {x:α} (y:α),l[i]? =ae x->l.set i y=l.take i++y::l.drop (i+1)
 |_::_,0,_,_,e=>by rfl
 |a::l,i+1,x,y,e=>by
  rw [ug] at e;simp only [List.set_cons_succ,jb,Ur,fU];refine aj (j0 y e ..) ?_;rfl
theorem R.upd{i:Nat}{x x':cX}(r:R Z mu s)(hi:mu[i]? =ae x)(qc:x'.own=x.own)
 (hk:∀b o,b∉x.own->s.heap.get? b=ae o->h'.get? b=ae o) (hz:Z.le Z') (qj:∀a o,Z' a=ae o->h'.get? a=ae o) (hs:∀b∈gU mu,Z' b=av)
 (Gz:x'.sat Z' h'):R Z' (mu.set i x') {s with heap:=h',toks:=tk}:=by
 have e1:=gh hi;have e2:=j0 x' hi;have hn:(gU (mu.take i)++(x.own++gU (mu.drop (i+1)))).Nodup:=by have:=r.nodup;rw [e1,oJ] at this;exact this
 have ho:gU (mu.set i x')=gU mu:=by
  refine aj (e2 ..) ?_;refine aj (oJ ..) ?_
  conv=>rhs;rw [e1,oJ]
  show _++(x'.own++_)=_++(x.own++_);rw [qc]
 have hap:=bP.mp hn;have hap2:=bP.mp hap.2.1;refine ⟨bI.le_trans r.z0 hz,qj,λy hy=>?_,by rw [ho];exact r.nodup,by rw [ho];exact hs,r.gens,r.os⟩;rw [e2] at hy;have old:∀y,y∈mu->(∀b∈y.own,b∉x.own)->y.sat Z' h':=λy hy hd=>
  y.mono _ _ _ hz (y.loc _ _ _ (r.sat y hy) (λb hb o e=>hk b o (hd b hb) e) r.zin λa o e=>qj a o (hz a o e))
 rcases bc.mp hy with hy|hy
 ·refine old y (pz hy) λb hb hx=>hap.2.2 b (bG.mpr ⟨y,hy,hb⟩) b (aE _ hx) rfl
 ·rcases aP.mp hy with rfl|hy
  ·exact Gz
  ·exact old y (gn hy) λb hb hx=>hap2.2.2 b hx b (bG.mpr ⟨y,hy,hb⟩) rfl
theorem R.upd'{i:Nat}{x x':cX}(r:R Z mu s)(hi:mu[i]? =ae x)(qc:x'.own=x.own)
 (hk:∀b o,b∉x.own->s.heap.get? b=ae o->h'.get? b=ae o) (Gz:x'.sat Z h'):R Z (mu.set i x') {s with heap:=h',toks:=tk}:=
 r.upd hi qc hk (bI.le_refl Z) (λa o e=>hk a o (λhx=>by
  have:=r.sep a (bG.mpr ⟨x,ao hi,hx⟩);rw [this] at e;exact gK e) (r.zin a o e)) r.sep Gz
end
theorem R.dropUpd{Z:bI}{mu:Mu}{s:aq}{x:cX}{h':dG}{tk:Nat}(r:R Z (x::mu) s)(hk:∀b o,b∉x.own->s.heap.get? b=ae o->h'.get? b=ae o):R Z mu {s with heap:=h',toks:=tk}:=by
 have hz:∀a o,Z a=ae o->h'.get? a=ae o:=λa o e=>hk a o (λhx=>by
  have:=r.sep a (aE (gU mu) hx);rw [this] at e;exact gK e) (r.zin a o e)
 have hn:=bP.mp (show (x.own++gU mu).Nodup from r.nodup);exact {
  z0:=r.z0
  zin:=hz
  sat:=λy hy=>y.loc _ _ _ (r.sat y (.tail _ hy)) (λb hb o e=>hk b o (λhx=>hn.2.2 b hx b (bG.mpr ⟨y,hy,hb⟩) rfl) e) r.zin hz
  nodup:=hn.2.1
  sep:=λb hb=>r.sep b (bL x.own hb)
  gens:=r.gens
  os:=r.os}
theorem R.left{Z:bI}{mu fr:Mu}{s:aq}(r:R Z (mu++fr) s):R Z mu s:=r.sublist (List.sublist_append_left mu fr)
theorem R.right{Z:bI}{mu fr:Mu}{s:aq}(r:R Z (mu++fr) s):R Z fr s:=r.sublist (List.sublist_append_right mu fr)
theorem R.perm{Z:bI}{mu nu:Mu}{s:aq}(r:R Z mu s)(h:mu.Perm nu):R Z nu s:=
 r.sub (λx hx=>h.mem_iff.mpr hx) ((List.Perm.flatMap_right (λx:cX=>x.own) h).nodup_iff.mp (show (mu.flatMap λx=>x.own).Nodup from r.nodup))
structure Rm(k:Nat)(A:bh):Prop where
 hh:A.handled=av
 dep:A.depth+k<=900
 uni:A.units+10*k<=9000
theorem Rm.le{k j:Nat}{A:bh}(r:Rm k A)(h:j<=k):Rm j A:=⟨r.hh,aw (qk h _) r.dep,aw (qk (Us 10 h) _) r.uni⟩
theorem Rm.deeper{k:Nat}{A:bh}(r:Rm (k+1) A)(env:gP):Rm k (A.deeper env):=
 ⟨r.hh,by have:=r.dep;show A.depth+1+k<=900;lia,by have:=r.uni;show A.units+3+10*k<=9000;lia⟩
theorem Rm.in1{k:Nat}{A:bh}(r:Rm (k+1) A):Rm k A.in1:=
 ⟨r.hh,by have:=r.dep;show A.depth+k<=900;lia,by have:=r.uni;show A.units+1+10*k<=9000;lia⟩
theorem Rm.units{k:Nat}{A:bh}(r:Rm k A):A.units < cLine:=by have:=r.uni;show A.units < 9900;lia
theorem Rm.depth{k:Nat}{A:bh}(r:Rm k A):A.depth < recursionLimit:=by have:=r.dep;show A.depth < 1000;lia
structure WV(k:Nat)(mu:Mu)(t:oZ ai)(Φ:V->Mu->Prop):Prop where
 c:∀{A:bh} {E:ai->aq->Prop} {Z:bI} {s:aq} {fr:Mu} {Q:ai->aq->Prop},Rm k A->R Z (mu++fr) s->
  (∀{v s' Z' x nu},Z.le Z'->aZ G Z' v x->R Z' (nu++fr) s'->Φ x nu->Q v s')->aS (aX G.prog G.w) A t Q E s
structure Vw where
 p:bI->ai->Prop
 mono:∀Z Z' v,Z.le Z'->p Z v->p Z' v
theorem Ra:Nonempty bI:=⟨λz=>av⟩
theorem neVw:Nonempty (Vw):=⟨⟨λz z=>True,λz z z z z=>trivial⟩⟩
noncomputable def bZ(x:V):Vw:=⟨λZ v=>aZ G Z v x,λz z z h r=>r.mono h⟩
structure EV(k:Nat)(mu:Mu)(env:gP)(e:bH)(P:Vw):Prop where
 c:∀{A:bh} {E:ai->aq->Prop} {Z:bI} {s:aq} {fr:Mu} {Q:ai->aq->Prop},Rm k A->R Z (mu++fr) s->
  (∀{v s' Z'},Z.le Z'->P.p Z' v->R Z' (mu++fr) s'->Q v s')->aS (aX G.prog G.w) A (dW e env) Q E s
abbrev PE(k:Nat)(mu:Mu)(env:gP)(e:bH)(x:V):Prop:=EV k mu env e (bZ x)
abbrev WE(k:Nat)(mu:Mu)(env:gP)(e:bH)(Φ:V->Mu->Prop):Prop:=WV k mu (dW e env) Φ
structure WB(k:Nat)(mu:Mu){α:Type}(t:oZ α)(b:α):Prop where
 c:∀{A:bh} {E:ai->aq->Prop} {Z:bI} {s:aq} {fr:Mu} {Q:α->aq->Prop},Rm k A->R Z (mu++fr) s->
  (∀{s' Z'},Z.le Z'->R Z' (mu++fr) s'->Q b s')->aS (aX G.prog G.w) A t Q E s
abbrev PT(k:Nat)(mu:Mu)(env:gP)(e:bH)(b:Bool):Prop:=WB k mu (isTrue e env (dW e env)) b
inductive AF where
 |next|brk|cont|ret (x:V)
inductive o5(G:Gd)(Z:bI):uh->AF->Prop
 |next:o5 G Z .next .next
 |brk:o5 G Z .brk .brk
 |cont:o5 G Z .cont .cont
 |ret {v x:_}:aZ G Z v x->o5 G Z (.ret v) (.ret x)
structure WF(k:Nat)(mu:Mu)(t:oZ uh)(Φ:AF->Mu->Prop):Prop where
 c:∀{A:bh} {E:ai->aq->Prop} {Z:bI} {s:aq} {fr:Mu} {Q:uh->aq->Prop},Rm k A->R Z (mu++fr) s->
  (∀{f s' Z' a nu},Z.le Z'->o5 G Z' f a->R Z' (nu++fr) s'->Φ a nu->Q f s')->aS (aX G.prog G.w) A t Q E s
abbrev WS(k:Nat)(mu:Mu)(env:gP)(st:List ed)(Φ:AF->Mu->Prop):Prop:=WF k mu (Jr st env) Φ
abbrev WX(k:Nat)(mu:Mu)(env:gP)(st:ed)(Φ:AF->Mu->Prop):Prop:=WF k mu (exec st env) Φ
structure Wu(k:Nat)(mu:Mu){α:Type}(t:oZ α)(b:α)(Ψ:Mu->Prop):Prop where
 c:∀{A:bh} {E:ai->aq->Prop} {Z:bI} {s:aq} {fr:Mu} {Q:α->aq->Prop},Rm k A->R Z (mu++fr) s->
  (∀{s' Z' nu},Z.le Z'->R Z' (nu++fr) s'->Ψ nu->Q b s')->aS (aX G.prog G.w) A t Q E s
abbrev WU(k:Nat)(mu:Mu)(t:oZ Unit)(Ψ:Mu->Prop):Prop:=Wu k mu t () Ψ
section
variable {mu:Mu}
theorem WV.mono{t:oZ ai}{Φ Ψ:V->Mu->Prop}(h:WV k mu t Φ)(hi:∀x nu,Φ x nu->Ψ x nu):WV k mu t Ψ:=⟨λ{y y y y y y} hA r q=>h.c hA r λ{y y y y y} z a b p=>q z a b (hi _ _ p)⟩
end
variable {Z:bI}{mu:Mu}{j i:Nat}{x:bb}{env:gP}{L:ay}{y:V}{p:jB}
noncomputable abbrev zx:=List (bb×Option ay)
noncomputable abbrev d9:=List (Option V)
noncomputable def fJ(Z:bI)(h:dG)(m:bb->Option ai)(x:bb):Option ay->Option V->Prop
 |none,av=>True
 |none,ae y=>∃v,m x=ae v/\aZ G Z v y
 |some c,av=>∃ov,h.IsCell c ov
 |some c,ae y=>∃v,h.IsCell c (ae v)/\aZ G Z v y
def ea(Z:bI)(h:dG)(m:bb->Option ai)(lay:zx)(bz:d9):Prop:=∀(j:Nat) (x:bb) (c:Option ay),lay[j]? =ae (x,c)->∃o,bz[j]? =ae o/\fJ Z h m x c o
section
variable {Z':bI}{h h':dG}{m m':bb->Option ai}{lay:zx}{bz:d9}{c:Option ay}{o o':Option V}
theorem fJ.mono(hz:Z.le Z')(s:fJ Z h m x c o):fJ Z' h m x c o:=by
 cases c <;> cases o
 ·trivial
 ·obtain ⟨v,a,b⟩:=s;exact ⟨v,a,b.mono hz⟩
 ·exact s
 ·obtain ⟨v,a,b⟩:=s;exact ⟨v,a,b.mono hz⟩
theorem ea.mono(hz:Z.le Z')(s:ea Z h m lay bz):ea Z' h m lay bz:=λj x c e=>(s j x c e).imp λz q=>⟨q.1,q.2.mono hz⟩
theorem IsCell.at{c:ay}{v:Option ai}(x:h.IsCell c v)(hk:∀o,h.get? c=ae o->h'.get? c=ae o):h'.IsCell c v:=x.imp λo q=>⟨hk o q.1,q.2⟩
theorem fJ.loc(s:fJ Z h m x c o)(hk:∀b,c=ae b->∀o,h.get? b=ae o->h'.get? b=ae o)(hm:m' x=m x):fJ Z h' m' x c o:=by
 cases c <;> cases o
 ·trivial
 ·obtain ⟨v,a,b⟩:=s;exact ⟨v,hm.trans a,b⟩
 ·obtain ⟨ov,a⟩:=s;exact ⟨ov,IsCell.at a (hk _ rfl)⟩
 ·obtain ⟨v,a,b⟩:=s;exact ⟨v,IsCell.at a (hk _ rfl),b⟩
theorem C0{b:ay}(e:lay[j]? =ae (x,ae b)):b∈lay.filterMap (·.2):=fV.mpr ⟨_,ao e,rfl⟩
theorem ea.loc(s:ea Z h m lay bz)(hk:∀b∈lay.filterMap (·.2),∀o,h.get? b=ae o->h'.get? b=ae o)(hm:∀x∈lay.map (·.1),m' x=m x):ea Z h' m' lay bz:=
 λj x c e=>(s j x c e).imp λz q=>⟨q.1,q.2.loc (λb hb=>hk b (C0 (hb▸e))) (hm x (aG.mpr ⟨_,ao e,rfl⟩))⟩
theorem ea.live(s:ea Z h m lay bz)(b:ay)(hb:b∈lay.filterMap (·.2)):∃o,h.get? b=ae o:=by
 refine aK (fV.mp hb) λq h1 h2=>cJ (Th h1) λj hj=>aK (s j q.1 (ae b) (hj.trans (congrArg (λc=>ae (q.1,c)) h2))) λo z hs=>?_;cases o with
 |none=>exact hs.elim λz w=>w.imp λz q=>q.1
 |some y=>exact hs.elim λz w=>w.1.imp λz q=>q.1
theorem BC(hn:(lay.filterMap (·.2)).Nodup){i:Nat}{y:bb}{b:ay}(hi:lay[i]? =ae (x,ae b))(hj:lay[j]? =ae (y,ae b)):i=j:=by
 have key:∀{i j:Nat} {x y:bb},i < j->lay[i]? =ae (x,ae b)->lay[j]? =ae (y,ae b)->False:=λ{z z z z} hlt hi hj=>by
  exact cJ (aB.mp hi) λh1 e1=>cJ (aB.mp hj) λh2 e2=>JS.mp (List.pairwise_filterMap.mp hn) _ _ h1 h2 hlt b (by (refine aj (e1 ..) ?_;rfl)) b (by (refine aj (e2 ..) ?_;rfl)) rfl
 exact (sM i j).elim (λq=>(key q hi hj).elim) λq=>q.elim id λq=>(key q hj hi).elim
theorem BD(hn:(lay.map (·.1)).Nodup){i:Nat}{c d:Option ay}(hi:lay[i]? =ae (x,c))(hj:lay[j]? =ae (x,d)):i=j:=by
 have key:∀{i j:Nat} {c d:Option ay},i < j->lay[i]? =ae (x,c)->lay[j]? =ae (x,d)->False:=λ{z z z z} hlt hi hj=>by
  exact cJ (aB.mp hi) λh1 e1=>cJ (aB.mp hj) λh2 e2=>JS.mp (List.pairwise_map.mp hn) _ _ h1 h2 hlt (by (refine aj (e1 ..) ?_;refine aj (e2 ..) ?_;rfl))
 exact (sM i j).elim (λq=>(key q hi hj).elim) λq=>q.elim id λq=>(key q hj hi).elim
theorem C6(hv:bz[j]? =ae o):(bz.set j o')[j]? =ae o':=eA (aB.mp hv).1
theorem ea.set(s:ea Z h m lay bz)(e:lay[j]? =ae (x,c))(hs:fJ Z h' m' x c o)(hn:(lay.map (·.1)).Nodup)(hc:(lay.filterMap (·.2)).Nodup)(hm:∀y,y≠x->m' y=m y)
 (hk:∀b∈lay.filterMap (·.2),c≠ae b->∀o,h.get? b=ae o->h'.get? b=ae o):ea Z h' m' lay (bz.set j o):=λi y d q=>by
 refine aK (s i y d q) λp hv w=>?_;by_cases Bq:j=i
 ·subst Bq;cases e.symm.trans q;exact ⟨o,C6 hv,hs⟩
 ·exact ⟨p,(kI Bq).trans hv,w.loc (λb hb=>hk b (C0 (hb▸q)) λQI=>Bq (BC hc (QI▸e) (hb▸q))) (hm y λhy=>Bq (BD hn e (hy▸q)))⟩
theorem ea.weak(s:ea Z h m lay bz)(e:bz[j]? =ae o)(hi:∀x c,fJ Z h m x c o->fJ Z h m x c o'):ea Z h m lay (bz.set j o'):=λi y d q=>by
 refine aK (s i y d q) λp hv w=>?_;by_cases Bq:j=i
 ·subst Bq;cases e.symm.trans hv;exact ⟨o',C6 hv,hi _ _ w⟩
 ·exact ⟨p,(kI Bq).trans hv,w⟩
theorem ea.cons(w:fJ Z h m x c o)(s:ea Z h m lay bz):ea Z h m ((x,c)::lay) (o::bz):=λi y d q=>by
 cases i with
 |zero=>cases q;exact ⟨o,rfl,w⟩
 |succ i=>exact s i y d q
end
abbrev zx.nd(lay:zx):Prop:=(lay.map (·.1)).Nodup
noncomputable def bq(L:ay)(lay:zx)(bz:d9):cX where
 own:=L::lay.filterMap (·.2)
 sat:=λZ h=>lay.nd/\∃m,h.Ns L m/\ea Z h m lay bz
 mono:=λZ Z' h hz ⟨n,m,a,b⟩=>⟨n,m,a,b.mono hz⟩
 loc:=λZ h h' ⟨n,m,a,b⟩ hk _ _=>⟨n,m,a.at' (λo e=>hk L aa o e),b.loc (λc hc=>hk c (ab _ hc)) λz z=>rfl⟩
 live:=λZ h ⟨n,m,a,b⟩ c hc=>by
  rcases aP.mp hc with rfl|hc
  ·obtain ⟨o,_,_,ho,_⟩:=a;exact ⟨o,ho⟩
  ·exact b.live c hc
structure g7(G:Gd):Prop where
 g:∀h:dG,(∀a o,G.Z0 a=ae o->h.get? a=ae o)->h.Ns vj G.mg
 b:∀h:dG,(∀a o,G.Z0 a=ae o->h.get? a=ae o)->∃mb,h.Ns builtinsNs mb/\∀x:bb,x≠"__name__"->mb x=Js x
 lim:∀h:dG,(∀a o,G.Z0 a=ae o->h.get? a=ae o)->h.NoLimit
 sysm:∃o,G.Z0 lY=ae o
structure du(env:gP):Prop where
 kind:env.scope.kind= .function
 globals:env.globals=vj
 builtins:env.builtins=builtinsNs
section
variable {lay:zx}{bz:d9}{c:ay}
theorem R.z0in(r:R Z mu s):∀a o,G.Z0 a=ae o->s.heap.get? a=ae o:=λa o e=>r.zin a o (r.z0 a o e)
theorem R.slot{lay:zx}{c:Option ay}(r:R Z mu s)(hf:bq L lay bz∈mu)(hl:lay[j]? =ae (x,c))(hv:bz[j]? =ae (ae y)):
 ∃m,s.heap.Ns L m/\fJ Z s.heap m x c (ae y):=by
 refine mH (r.sat _ hf) λz m hn hs=>aK (hs _ _ _ hl) λo h1 h2=>?_;rw [hv] at h1;(have lA:=aO h1;clear h1;subst lA);exact ⟨m,hn,h2⟩
theorem Rb(he:du env)(hk:env.kindOf x=ae .local)(hf:bq env.locals lay bz∈mu)(hl:lay[j]? =ae (x,av))(hv:bz[j]? =ae (ae y))(hd:autoParam ((x == ("__debug__":bb))=aH) aD):
 PE k mu env (.Name x p) y:=⟨λ{A E Z s fr Q} hA r q=>by
 obtain ⟨m,hn,v,hm,hr⟩:=r.slot (aE fr hf) hl hv;exact Ti (wpAny_loadName_local he.kind hk hn hm (q .rfl hr r)) hd⟩
theorem NZ(he:du env)(hk:env.kindOf x=ae .cell)(hc:env.cells.lookup x=ae c)(hf:bq L lay bz∈mu){z:bb}(hl:lay[j]? =ae (z,ae c))(hv:bz[j]? =ae (ae y))(hd:autoParam ((x == ("__debug__":bb))=aH) aD):
 PE k mu env (.Name x p) y:=⟨λ{A E Z s fr Q} hA r q=>by
 obtain ⟨m,hn,v,hm,hr⟩:=r.slot (aE fr hf) hl hv;exact Ti (wpAny_loadName_cell he.kind hk hc hm (q .rfl hr r)) hd⟩
theorem N0(he:du env)(hk:env.kindOf x=ae .free)(hc:env.cells.lookup x=ae c)(hf:bq L lay bz∈mu){z:bb}(hl:lay[j]? =ae (z,ae c))(hv:bz[j]? =ae (ae y))(hd:autoParam ((x == ("__debug__":bb))=aH) aD)
 (hd':autoParam ((x == ("__classdict__":bb))=aH) aD):PE k mu env (.Name x p) y:=⟨λ{A E Z s fr Q} hA r q=>by
 obtain ⟨m,hn,v,hm,hr⟩:=r.slot (aE fr hf) hl hv;exact Ti (wpAny_loadName_free he.kind hk hc hm (q .rfl hr r) hd') hd⟩
theorem N1(B:g7 G)(he:du env)(hk:env.kindOf x=ae .globalImplicit){v:ai}(hm:G.mg x=ae v)(hv:aZ G G.Z0 v y)(hd:autoParam ((x == ("__debug__":bb))=aH) aD):
 PE k mu env (.Name x p) y:=⟨λ{A E Z s fr Q} hA r q=>by
 with_reducible refine Jt he.kind hk ?_ hd
 with_reducible refine loadGlobal_global (he.globals▸B.g _ r.z0in) hm ?_
 exact (q .rfl (hv.mono r.z0) r)⟩
theorem Qa(B:g7 G)(he:du env)(hk:env.kindOf x=ae .globalImplicit){v:ai}(hm:G.mg x=av)(hb:Js x=ae v)(hv:aZ G G.Z0 v y)(hn:autoParam (x≠"__name__") aD)
 (hd:autoParam ((x == ("__debug__":bb))=aH) aD):PE k mu env (.Name x p) y:=⟨λ{A E Z s fr Q} hA r q=>by
 exact aK (B.b _ r.z0in) λmb h1 h2=>Jt he.kind hk (loadGlobal_builtin (he.globals▸B.g _ r.z0in) hm (he.builtins▸h1) ((h2 x hn).trans hb) (q .rfl (hv.mono r.z0) r)) hd
⟩
theorem R.ownNodup{x:cX}(r:R Z mu s)(hi:mu[i]? =ae x):x.own.Nodup:=by
 have h1:(gU (mu.take i)++(x.own++gU (mu.drop (i+1)))).Nodup:=by have:=r.nodup;rw [gh hi,oJ] at this;exact this
 exact (bP.mp (bP.mp h1).2.1).1
theorem Rc{A:bh}{E:ai->aq->Prop}{v:ai}{Q:Unit->aq->Prop}(r:R Z mu s)(he:du env)(hk:env.kindOf x=ae .local)(hi:mu[i]? =ae (bq env.locals lay bz))(hl:lay[j]? =ae (x,av))
 (hv:aZ G Z v y) (h:∀s',R Z (mu.set i (bq env.locals lay (bz.set j (ae y)))) s'->Q () s'):aS (aX G.prog G.w) A (storeName env x v) Q E s:=by
 refine mH (r.sat _ (ao hi)) λhnd m hn hs=>?_;have qc:(env.locals::lay.filterMap (·.2)).Nodup:=r.ownNodup hi;have hc:(lay.filterMap (·.2)).Nodup:=(cj.mp qc).2;refine wpAny_storeName_local hk hn (λh' SG ua=>h _ ?_) (by refine aj (he.kind ..) ?_;rfl);refine r.upd' hi rfl (λb o hb e=>(ua.2 b λq=>hb (q▸aa)).trans e) ⟨hnd,_,SG,?_⟩;exact hs.set hl ⟨v,by simp,hv⟩ hnd hc (λz hz=>by simp [hz]) λb hb u o e=>(ua.2 b λq=>(cj.mp qc).1 (q▸hb)).trans e
theorem N2{A:bh}{E:ai->aq->Prop}{v:ai}{Q:Unit->aq->Prop}(r:R Z mu s)(he:du env)(hk:env.kindOf x=ae .cell)(hcl:env.cells.lookup x=ae c)(hi:mu[i]? =ae (bq L lay bz)){z:bb}(hl:lay[j]? =ae (z,ae c))
 (hv:aZ G Z v y) (h:∀s',R Z (mu.set i (bq L lay (bz.set j (ae y)))) s'->Q () s'):aS (aX G.prog G.w) A (storeName env x v) Q E s:=by
 obtain ⟨hnd,m,hn,hs⟩:=r.sat _ (ao hi);have qc:(L::lay.filterMap (·.2)).Nodup:=r.ownNodup hi;have hc:(lay.filterMap (·.2)).Nodup:=(cj.mp qc).2;have JP:c∈lay.filterMap (·.2):=fV.mpr ⟨_,ao hl,rfl⟩;have hLc:L≠c:=λq=>(cj.mp qc).1 (q▸JP);obtain ⟨o,h1,h2⟩:=hs _ _ _ hl;have MO:∃ov,s.heap.IsCell c ov:=by
  cases o with
  |none=>exact h2
  |some y=>obtain ⟨v,a,_⟩:=h2;exact ⟨_,a⟩
 obtain ⟨ov,MO⟩:=MO;refine wpAny_storeName_cell he.kind hk hcl MO λh' hv' ua=>h {s with heap:=h'} (r.upd' (tk:=s.toks) hi rfl (λb o hb e=>(ua.2 b λq=>hb (q▸ab _ JP)).trans e) ⟨hnd,_,hn.sameBut ua hLc,?_⟩);exact hs.set hl ⟨v,hv',hv⟩ hnd hc (λz hz=>rfl) λb hb iP o e=>(ua.2 b λq=>iP (by (refine aj (q ..) ?_;rfl))).trans e
theorem R.weak{o o':Option V}(r:R Z mu s)(hi:mu[i]? =ae (bq L lay bz))(hv:bz[j]? =ae o)(ho:∀h m x c,fJ Z h m x c o->fJ Z h m x c o'):
 R Z (mu.set i (bq L lay (bz.set j o'))) s:=by
 exact mH (r.sat _ (ao hi)) λhnd m hn hs=>r.upd' (h':=s.heap) (tk:=s.toks) hi rfl (λz z z e=>e) ⟨hnd,m,hn,hs.weak hv λx c=>ho _ _ x c⟩
theorem fJ.forget{h:dG}{m:bb->Option ai}{c:Option ay}{o:Option V}(e:fJ Z h m x c o):fJ Z h m x c av:=by
 cases c <;> cases o
 ·trivial
 ·trivial
 ·exact e
 ·obtain ⟨v,a,_⟩:=e;exact ⟨_,a⟩
theorem fJ.as{h:dG}{m:bb->Option ai}{c:Option ay}{z:V}(e:fJ Z h m x c (ae y))(hi:∀v,aZ G Z v y->aZ G Z v z):fJ Z h m x c (ae z):=by
 cases c
 ·obtain ⟨v,a,b⟩:=e;exact ⟨v,a,hi v b⟩
 ·obtain ⟨v,a,b⟩:=e;exact ⟨v,a,hi v b⟩
end
variable {P S:Vw}{e:bH}
def rh(h:dG)(Z:bI)(a:ay)(xs:List V):Prop:=∃vs n,h.get? a=ae (oH vs n)/\bW G Z vs.toList xs
def Qb(G:Gd)(h:dG)(Z:bI)(a:ay)(es:List (bb×V)):Prop:=
 (a == lY)=aH/\∃kvs,h.DictOf (strKind G.prog G.w) a kvs/\kvs.map (·.1)=es.map (·.1)/\bW G Z (kvs.map (·.2)) (es.map (·.2))
noncomputable def me(mu:Mu)(xs:List V):Vw:=
 ⟨λZ v=>∃a,v= .ref a/\∀Z' s,Z.le Z'->R Z' mu s->rh s.heap Z' a xs,λZ Z' v h=>bQ λa u=>⟨u.1,λPF s h' r=>u.2 PF s (bI.le_trans h h') r⟩⟩
noncomputable def Nu(mu:Mu)(es:List (bb×V)):Vw:=
 ⟨λZ v=>∃a,v= .ref a/\∀Z' s,Z.le Z'->R Z' mu s->Qb G s.heap Z' a es,λZ Z' v h=>bQ λa u=>⟨u.1,λPF s h' r=>u.2 PF s (bI.le_trans h h') r⟩⟩
noncomputable def bl(a:ay)(xs:List V):cX where
 own:=[a]
 sat:=λZ h=>rh h Z a xs
 mono:=λZ Z' h hz=>bQ λvs=>bQ λn u=>⟨u.1,u.2.mono hz⟩
 loc:=λZ h h' w hk z z=>w.imp λvs=>bQ λn u=>⟨hk a aa _ u.1,u.2⟩
 live:=λZ h w b hb=>w.elim λvs w=>w.elim λn u=>⟨_,aA.mp hb▸u.1⟩
noncomputable def cD(a:ay)(es:List (bb×V)):cX where
 own:=[a]
 sat:=λZ h=>Qb G h Z a es
 mono:=λZ Z' h hz w=>⟨w.1,w.2.imp λkvs u=>⟨u.1,u.2.1,u.2.2.mono hz⟩⟩
 loc:=λZ h h' w hk z z=>⟨w.1,w.2.imp λkvs u=>⟨u.1.imp λo=>bQ λes=>bQ λep v=>⟨hk a aa _ v.1,v.2⟩,u.2⟩⟩
 live:=λZ h w b hb=>w.2.elim λkvs u=>u.1.elim λo v=>v.elim λes v=>v.elim λep v=>⟨_,aA.mp hb▸v.1⟩
structure B2(k:Nat)(mu:Mu)(f:ai->ai->oZ ai)(P Q S:Vw):Prop where
 c:∀{A:bh} {E:ai->aq->Prop} {Z:bI} {s:aq} {fr:Mu} {v u:ai} {T:ai->aq->Prop},Rm k A->R Z (mu++fr) s->P.p Z v->Q.p Z u->
  (∀{w s' Z'},Z.le Z'->S.p Z' w->R Z' (mu++fr) s'->T w s')->aS (aX G.prog G.w) A (f v u) T E s
abbrev xO(k:Nat)(mu:Mu)(op:Cz)(P Q S:Vw):Prop:=B2 k mu (binaryOp op) P Q S
abbrev s8(k:Nat)(mu:Mu)(op:CmpOp)(P Q:Vw)(b:Bool):Prop:=B2 k mu (compareOp op) P Q (bZ (.bool b))
section
variable {l r:bH}{Q:Vw}{b c:Bool}{x:V}{op:Cz}{CS:CmpOp}
theorem rh.list{Z:bI}{v:ai}{xs:List V}(h:aZ G Z v (.list xs)):∃a vs n,v= .ref a/\Z a=ae (oH vs n)/\bW G Z vs.toList xs:=by cases h with|list e r=>exact ⟨_,_,_,rfl,e,r⟩
theorem BE{Z:bI}{v:ai}{xs:List V}(h:aZ G Z v (.list xs)):(me mu xs).p Z v:=
 (rh.list h).imp λ_ ⟨_,_,e,z,r⟩=>⟨e,λZ' s hz R=>⟨_,_,R.zin _ _ (hz _ _ z),r.mono hz⟩⟩
theorem N3{Z:bI}{v:ai}{es:List (bb×V)}(h:aZ G Z v (.dict es)):(Nu mu es).p Z v:=by
 cases h with
 |dict q e d f r=>refine Ao d λd1 Nx ep d2 d3 d4 d5=>?_;clear d;exact ⟨_,rfl,λZ' s hz R=>⟨q,_,⟨_,_,_,R.zin _ _ (hz _ _ e),d1,d2,d3,d4,d5⟩,f,r.mono hz⟩⟩
theorem EV.mono(h:EV k mu env e P)(hi:∀Z v,P.p Z v->Q.p Z v):EV k mu env e Q:=⟨λ{z z z z z z} hA r q=>h.c hA r λ{z z z} a b c=>q a (hi _ _ b) c⟩
theorem dD{xs:List V}(h:PE k mu env e (.list xs)):EV k mu env e (me mu xs):=EV.mono h λz z q=>BE q
theorem uD{a:ay}{xs:List V}(h:PE k mu env e (.ref a))(hm:bl a xs∈mu):EV k mu env e (me mu xs):=EV.mono h λZ v q=>⟨a,q.refE,λZ' s hz r=>r.sat _ hm⟩
theorem pK{es:List (bb×V)}(h:PE k mu env e (.dict es)):EV k mu env e (Nu mu es):=EV.mono h λz z q=>N3 q
theorem wF{a:ay}{es:List (bb×V)}(h:PE k mu env e (.ref a))(hm:cD a es∈mu):EV k mu env e (Nu mu es):=EV.mono h λZ v q=>⟨a,q.refE,λZ' s hz r=>r.sat _ hm⟩
theorem aU{i:Int}{kk}:PE k mu env (.Constant (.int i) kk p) (.int i):=⟨λ{z z z z z z} hA r q=>wpAny_Constant_int (q .rfl (aZ.int _ _) r.toks)⟩
theorem cO{t:bb}{kk}:PE k mu env (.Constant (.str t) kk p) (.str t):=⟨λ{z z z z z z} hA r q=>wpAny_Constant_str (q .rfl (aZ.str _ _) r.toks)⟩
theorem J6{b:Bool}{kk}:PE k mu env (.Constant (.bool b) kk p) (.bool b):=⟨λ{z z z z z z} hA r q=>wpAny_Constant_bool (q .rfl (aZ.bool _) r)⟩
theorem J7{kk}:PE k mu env (.Constant .none kk p) .none:=⟨λ{z z z z z z} hA r q=>wpAny_Constant_none (q .rfl aZ.none r)⟩
theorem br(hl:EV k mu env l P)(hr:EV k mu env r Q)(ho:xO k mu op P Q S):EV k mu env (.BinOp l op r p) S:=⟨λ{z z z z z z} hA R q=>by
 with_reducible refine NC ?_
 exact hl.c hA R λz1 p1 r1=>hr.c hA r1 λz2 p2 r2=>ho.c hA r2 (P.mono _ _ _ z2 p1) p2 λz3 p3 r3=>q (z1.trans (z2.trans z3)) p3 r3⟩
theorem mI(hl:EV k mu env l P)(hr:EV k mu env r Q)(ho:s8 k mu CS P Q b)(hm:wq CS r=aH:=by with_unfolding_all rfl):PE k mu env (.Compare l [CS] [r] p) (.bool b):=⟨λ{z z z z z z} hA R q=>by
 with_reducible refine wpAny_Compare1 ?_ hm
 exact hl.c hA R λz1 p1 r1=>hr.c hA r1 λz2 p2 r2=>ho.c hA r2 (P.mono _ _ _ z2 p1) p2 λz3 p3 r3=>q (z1.trans (z2.trans z3)) p3 r3⟩
theorem c9(hl:EV k mu env l P)(hr:EV k mu env r Q)(ho:s8 k mu CS P Q b)(hm:wq CS r=aH:=by with_unfolding_all rfl):PT k mu env (.Compare l [CS] [r] p) b:=⟨λ{z z z z z z} hA R q=>by
 with_reducible refine Ae ?_ hm
 exact hl.c hA R λ{z z z} z1 p1 r1=>hr.c hA r1 λ{z z z} z2 p2 r2=>ho.c hA r2 (P.mono _ _ _ z2 p1) p2 λ{z z z} z3 p3 r3=>(aZ.boolE p3)▸eV (q (z1.trans (z2.trans z3)) r3)⟩
theorem Fv(h:PT k mu env e b):PT k mu env (.UnaryOp .Not e p) (!b):=⟨λ{z z z z z z} hA R q=>wpAny_isTrue_Not (h.c hA R q)⟩
abbrev Fw(k:Nat)(mu:Mu)(env:gP)(op:Tj)(es:List bH)(b:Bool):Prop:=WB k mu (allTrue op es env) b
theorem oK{bop:Tj}{es:List bH}(h:Fw k mu env bop es b):PT k mu env (.BoolOp bop es p) b:=⟨λ{z z z z z z} hA R q=>by
 with_reducible refine wpAny_isTrue_BoolOp ?_
 exact h.c hA R q⟩
theorem BF:Fw k mu env .And [] aJ:=⟨λ{z z z z z z} hA R q=>wpAny_allTrue_And_nil (q .rfl R)⟩
theorem jn:Fw k mu env .Or [] aH:=⟨λ{z z z z z z} hA R q=>wpAny_allTrue_Or_nil (q .rfl R)⟩
theorem C7{es:List bH}(h:PT k mu env e b)(hr:b=aJ->Fw k mu env .And es c):Fw k mu env .And (e::es) (b && c):=⟨λ{z z z z z z} hA R q=>by
 with_reducible refine wpAny_allTrue_And_cons ?_
 refine h.c hA R λ{s1 Z1} z1 r1=>?_;cases b with
 |false=>exact q z1 r1
 |true=>exact (hr rfl).c hA r1 λ{z z} z2 r2=>q (z1.trans z2) r2⟩
theorem iM{es:List bH}(h:PT k mu env e b)(hr:b=aH->Fw k mu env .Or es c):Fw k mu env .Or (e::es) (b || c):=⟨λ{z z z z z z} hA R q=>by
 with_reducible refine Af ?_
 refine h.c hA R λ{s1 Z1} z1 r1=>?_;cases b with
 |true=>exact q z1 r1
 |false=>exact (hr rfl).c hA r1 λ{z z} z2 r2=>q (z1.trans z2) r2⟩
theorem uE{t a f:bH}(ht:PT k mu env t b)(ha:b=aJ->EV k mu env a P)(hf:b=aH->EV k mu env f P):EV k mu env (.IfExp t a f p) P:=⟨λ{z z z z z z} hA R q=>by
 with_reducible refine wpAny_IfExp ?_
 refine ht.c hA R λ{s1 Z1} z1 r1=>?_;cases b with
 |true=>exact (ha rfl).c hA r1 λ{z z z} z2 p2 r2=>q (z1.trans z2) p2 r2
 |false=>exact (hf rfl).c hA r1 λ{z z z} z2 p2 r2=>q (z1.trans z2) p2 r2⟩
section
variable {f:ai->ai->oZ ai}{a b:Int}{c:Bool}
theorem B2.ii{c:Int}(h:∀{A:bh} {E:ai->aq->Prop} {s:aq} {t u:HR} {T:ai->aq->Prop},T (.int c s.toks) {s with toks:=s.toks+1}->aS (aX G.prog G.w) A (f (.int a t) (.int b u)) T E s):B2 k mu f (bZ (.int a)) (bZ (.int b)) (bZ (.int c)):=
 ⟨λ{z z z z z z z z} hA R hp hq q=>aZ.intC hp λt=>aZ.intC hq λu=>h (q .rfl (.int _ _) R.toks)⟩
theorem B2.iib(h:∀{A:bh} {E:ai->aq->Prop} {s:aq} {t u:HR} {T:ai->aq->Prop},T (.bool c) s->aS (aX G.prog G.w) A (f (.int a t) (.int b u)) T E s):B2 k mu f (bZ (.int a)) (bZ (.int b)) (bZ (.bool c)):=
 ⟨λ{z z z z z z z z} hA R hp hq q=>aZ.intC hp λt=>aZ.intC hq λu=>h (q .rfl (.bool _) R)⟩
theorem B2.ssb{a b:bb}(h:∀{A:bh} {E:ai->aq->Prop} {s:aq} {t u:HR} {T:ai->aq->Prop},T (.bool c) s->aS (aX G.prog G.w) A (f (.str a t) (.str b u)) T E s):B2 k mu f (bZ (.str a)) (bZ (.str b)) (bZ (.bool c)):=
 ⟨λ{z z z z z z z z} hA R hp hq q=>aZ.strC hp λt=>aZ.strC hq λu=>h (q .rfl (.bool _) R)⟩
theorem fC:xO k mu .Add (bZ (.int a)) (bZ (.int b)) (bZ (.int (a+b))):= .ii PyProof.Rows.add_int
theorem vH:xO k mu .Sub (bZ (.int a)) (bZ (.int b)) (bZ (.int (a - b))):= .ii PyProof.Rows.sub_int
theorem J8(h:IntMulOk a b):xO k mu .Mult (bZ (.int a)) (bZ (.int b)) (bZ (.int (a*b))):= .ii λ{z z z z z z} q=>PyProof.Rows.mul_int q h
theorem Rd(h:b≠0):xO k mu .Mod (bZ (.int a)) (bZ (.int b)) (bZ (.int (a.fmod b))):= .ii (PyProof.Rows.mod_int' h)
theorem Re(h:b≠0)(hn:Builtin.divisionGoesByPylong a b=aH):xO k mu .FloorDiv (bZ (.int a)) (bZ (.int b)) (bZ (.int (a.fdiv b))):= .ii λ{z z z z z z} q=>PyProof.Rows.floordiv_int h q (.inl hn)
theorem Rf(h:0<=b)(hz:(sN a:Int)*b<=2 ^ 27):xO k mu .Pow (bZ (.int a)) (bZ (.int b)) (bZ (.int (a ^ b.toNat))):= .ii (PyProof.Rows.pow_int h hz)
theorem J9(h:0<=b)(h2:b<=1000000)(ha:a.natAbs < 2 ^ 64):xO k mu .LShift (bZ (.int a)) (bZ (.int b)) (bZ (.int (a*2 ^ b.toNat))):= .ii (PyProof.Rows.lshift_int_small h h2 ha)
theorem Rg(h:0<=b):xO k mu .RShift (bZ (.int a)) (bZ (.int b)) (bZ (.int (a.fdiv (2 ^ b.toNat)))):= .ii (PyProof.Rows.rshift_int h)
theorem qq:xO k mu .BitAnd (bZ (.int a)) (bZ (.int b)) (bZ (.int (lZ a b))):= .ii PyProof.Rows.and_int
theorem qr:s8 k mu .Eq (bZ (.int a)) (bZ (.int b)) (a == b):= .iib PyProof.Rows.eq_int
theorem Fx:s8 k mu .NotEq (bZ (.int a)) (bZ (.int b)) (a != b):= .iib PyProof.Rows.ne_int
theorem C8:s8 k mu .Lt (bZ (.int a)) (bZ (.int b)) (decide (a < b)):= .iib PyProof.Rows.lt_int
theorem GY:s8 k mu .Gt (bZ (.int a)) (bZ (.int b)) (decide (b < a)):= .iib PyProof.Rows.gt_int
theorem cm_le:s8 k mu .LtE (bZ (.int a)) (bZ (.int b)) (decide (a<=b)):= .iib PyProof.Rows.le_int
theorem o6(h:PE k mu env e (.int a)):PE k mu env (.UnaryOp .USub e p) (.int (-a)):=⟨λ{z z z z z z} hA R q=>by
 with_reducible refine wpAny_UnaryOp ?_
 exact h.c hA R λ{z z z} z1 p1 r1=>aZ.intC p1 λt=>PyProof.Rows.neg_int (q z1 (aZ.int _ _) r1.toks)⟩
end
theorem Fy{a b:bb}(h:a.length+b.length<=er):xO k mu .Add (bZ (.str a)) (bZ (.str b)) (bZ (.str (a++b))):=
 ⟨λ{z z z z z z z z} hA R hp hq q=>aZ.strC hp λt=>aZ.strC hq λu=>PyProof.Rows.add_str (λt' tk=>q .rfl (aZ.str _ _) R.toks) h⟩
theorem rA{a b:bb}:s8 k mu .Eq (bZ (.str a)) (bZ (.str b)) (a == b):= .ssb PyProof.Rows.eq_str
theorem tx{a b:bb}:s8 k mu .NotEq (bZ (.str a)) (bZ (.str b)) (a != b):= .ssb PyProof.Rows.ne_str
theorem Ka{a b:Bool}:s8 k mu .NotEq (bZ (.bool a)) (bZ (.bool b)) (a != b):=
 ⟨λ{z z z z z z z z} hA R hp hq q=>(aZ.boolE hp)▸(aZ.boolE hq)▸PyProof.Rows.ne_bool (q .rfl (.bool _) R)⟩
theorem C9{a b:bb}:s8 k mu .In (bZ (.str a)) (bZ (.str b)) (!(cZ b a 0 b.length 1).isEmpty):= .ssb PyProof.Rows.in_str
structure Tr(k:Nat)(mu:Mu)(P:Vw)(b:Bool):Prop where
 c:∀{A:bh} {E:ai->aq->Prop} {Z:bI} {s:aq} {fr:Mu} {v:ai} {T:Bool->aq->Prop},Rm k A->R Z (mu++fr) s->P.p Z v->
  (∀{s' Z'},Z.le Z'->R Z' (mu++fr) s'->T b s')->aS (aX G.prog G.w) A (truthy v) T E s
theorem xP{a:Int}:Tr k mu (bZ (.int a)) (a != 0):=⟨λ{z z z z z z z} hA R hp q=>aZ.intC hp λt=>PyProof.Rows.truthy_int (q .rfl R)⟩
theorem qt{a:Bool}:Tr k mu (bZ (.bool a)) a:=⟨λ{z z z z z z z} hA R hp q=>(aZ.boolE hp)▸eV (q .rfl R)⟩
theorem GZ{xs:List V}(hl:xs.length < 2 ^ 60):Tr k mu (me mu xs) (!xs.isEmpty):=⟨λ{A E Z s fr v T} hA R ⟨a,e,w⟩ q=>by
 subst e;refine eD (w Z s .rfl R.left) λvs n h1 h2=>?_;have SH:vs.size=xs.length:=eK.symm.trans h2.length;have hL:s.heap.IsList a vs:=⟨_,h1,rfl,n,rfl⟩;have hb:(!vs.isEmpty)= !xs.isEmpty:=by unfold Array.isEmpty;refine aj (SH ..) ?_;cases xs <;> rfl
 with_reducible refine wpAny_truthy_list hL (by refine aj (SH ..) ?_;lia) ?_
 first|exact hb▸q .rfl R.toks|(rw [hb];exact q .rfl R.toks)⟩
theorem kU(h:EV k mu env e P)(ht:Tr k mu P b)(he:autoParam (isTrue e env (dW e env)=(do let v <- dW e env;iE e.pos;eW [v] (truthy v))) aR):PT k mu env e b:=⟨λ{z z z z z z} hA R q=>by
 with_reducible refine wpAny_isTrue_value ?_ he
 exact h.c hA R λ{z z z} z1 p1 r1=>ht.c hA r1 p1 λ{z z} z2 r2=>q (z1.trans z2) r2⟩
end
inductive Sl(env:gP)(L:ay)(lay:zx)(x:bb)(j:Nat):Prop
 |loc (h1:autoParam (env.kindOf x=ae .local) aR) (h2:autoParam (L=env.locals) aR) (h3:autoParam (lay[j]? =ae (x,av)) aR) (h4:autoParam ((x == ("__debug__":bb))=aH) aR):Sl env L lay x j
 |cell (c:ay) (z:bb) (h1:autoParam (env.kindOf x=ae .cell) aR) (h2:autoParam (env.cells.lookup x=ae c) aR) (h3:autoParam (lay[j]? =ae (z,ae c)) aR) (h4:autoParam ((x == ("__debug__":bb))=aH) aR):Sl env L lay x j
 |free (c:ay) (z:bb):env.kindOf x=ae .free->env.cells.lookup x=ae c->lay[j]? =ae (z,ae c)->(x == ("__debug__":bb))=aH->(x == ("__classdict__":bb))=aH->Sl env L lay x j
section
variable {lay:zx}{bz:d9}{Φ:AF->Mu->Prop}
theorem ah(he:du env)(sl:Sl env L lay x j)(hf:bq L lay bz∈mu)(hv:bz[j]? =ae (ae y)):PE k mu env (.Name x p) y:=by
 cases sl with
 |loc hk hL hl hd=>subst hL;exact Rb he hk hf hl hv hd
 |cell c z hk hc hl hd=>exact NZ he hk hc hf hl hv hd
 |free c z hk hc hl hd hd'=>exact N0 he hk hc hf hl hv hd hd'
theorem cG{α:Type}{l fr:List α}{i:Nat}{x:α}(h:l[i]? =ae x):(l++fr)[i]? =ae x:=by refine aj (eE (aB.mp h).1 ..) ?_;exact h
theorem gE{α:Type}{l fr:List α}{i:Nat}{x y:α}(h:l[i]? =ae x):(l++fr).set i y=l.set i y++fr:=
 List.set_append_left i y (aB.mp h).1
theorem xQ{A:bh}{E:ai->aq->Prop}{v:ai}{Q:Unit->aq->Prop}{fr:Mu}(r:R Z (mu++fr) s)(he:du env)(sl:Sl env L lay x j)(hi:mu[i]? =ae (bq L lay bz))
 (Cw:env.kindOf x≠ae .free) (hv:aZ G Z v y) (h:∀s',R Z (mu.set i (bq L lay (bz.set j (ae y)))++fr) s'->Q () s'):aS (aX G.prog G.w) A (storeName env x v) Q E s:=by
 cases sl with
 |loc hk hL hl hd=>subst hL;exact Rc r he hk (cG hi) hl hv λs' r'=>h s' (by refine fZ (gE hi ..) ?_;exact r')
 |cell c z hk hc hl hd=>exact N2 r he hk hc (cG hi) hl hv λs' r'=>h s' (by refine fZ (gE hi ..) ?_;exact r')
 |free c z hk hc hl hd hd'=>exact absurd hk Cw
end
structure mJ(k:Nat)(mu:Mu)(env:gP)(t:bH)(x:V)(Ψ:Mu->Prop):Prop where
 c:∀{A:bh} {E:ai->aq->Prop} {Z:bI} {s:aq} {fr:Mu} {v:ai} {Q:Unit->aq->Prop},Rm k A->R Z (mu++fr) s->aZ G Z v x->
  (∀{s' Z' nu},Z.le Z'->R Z' (nu++fr) s'->Ψ nu->Q () s')->aS (aX G.prog G.w) A (wu t env v) Q E s
structure HU(k:Nat)(mu:Mu)(env:gP)(ts:List bH)(xs:List V)(Ψ:Mu->Prop):Prop where
 len:ts.length=xs.length
 plain:(jC ts env).all (λq=>!q.1)=aJ
 c:∀{A:bh} {E:ai->aq->Prop} {Z:bI} {s:aq} {fr:Mu} {vs:List ai} {Q:Unit->aq->Prop},Rm k A->R Z (mu++fr) s->bW G Z vs xs->
  (∀{s' Z' nu},Z.le Z'->R Z' (nu++fr) s'->Ψ nu->Q () s')->aS (aX G.prog G.w) A (assignInOrder ((jC ts env).map (·.2)) vs) Q E s
section
variable {nu:Mu}{lay:zx}{bz:d9}{Φ:AF->Mu->Prop}{Ψ:Mu->Prop}{b:Bool}
theorem aQ(he:du env)(sl:Sl env L lay x j)(hi:mu[i]? =ae (bq L lay bz))(h:Ψ (mu.set i (bq L lay (bz.set j (ae y)))))(Cw:autoParam ((env.kindOf x == ae .free)=aH) aR):mJ k mu env (.Name x p) y Ψ:=
 ⟨λ{z z z z z z z} hA r hv q=>wpAny_assign_Name (xQ r he sl hi (beq_eq_false_iff_ne.mp Cw) hv λs' r'=>q .rfl r' h)⟩
theorem bW.nil_inv{vs:List ai}(h:bW G Z vs []):vs=[]:=pA h.length
theorem bW.cons_inv{vs:List ai}{y:V}{ys:List V}(h:bW G Z vs (y::ys)):∃v rp,vs=v::rp/\aZ G Z v y/\bW G Z rp ys:=by cases h with|cons a b=>exact ⟨_,_,rfl,a,b⟩
theorem bW.uncons{v:ai}{vs:List ai}{y:V}{ys:List V}(h:bW G Z (v::vs) (y::ys)):aZ G Z v y/\bW G Z vs ys:=by cases h with|cons a b=>exact ⟨a,b⟩
theorem iX(h:Ψ mu):HU k mu env [] [] Ψ:=⟨rfl,rfl,λ{z z z z z z z} hA r hv q=>hv.nil_inv▸ar (q .rfl r h)⟩
theorem wG{t:bH}{ts:List bH}(hs:∀a p,t≠ .Starred a p):jC (t::ts) env=(aH,wu t env)::jC ts env:=by cases t <;> first|rfl|exact absurd rfl (hs _ _)
theorem cv{t:bH}{ts:List bH}{xs:List V}(hl:ts.length=xs.length)(hp:(jC ts env).all (λq=>!q.1)=aJ)(h:mJ k mu env t y λnu=>HU k nu env ts xs Ψ)(hs:∀a p,t≠ .Starred a p:=by intro z z h;cases h):HU k mu env (t::ts) (y::xs) Ψ:=
 ⟨congrArg xj hl,by refine aj (wG hs ..) ?_;exact hp,λ{z z z z z z z} hA r hv q=>by
  refine aj (wG hs ..) ?_;obtain ⟨v,vs,rfl,hv,hr⟩:=hv.cons_inv;exact ag (bE (h.c hA r hv λ{z z z} z1 r1 w=>w.c hA r1 (hr.mono z1) λ{z z z} z2=>q (z1.trans z2)))⟩
theorem o7{l:List (Bool×(ai->oZ Unit))}(h:l.all (λq=>!q.1)=aJ):l.findIdx? (·.1)=av:=
 List.findIdx?_eq_none_iff.mpr λx hx=>by have:=fW.mp h x hx;simpa using this
theorem nA{env:gP}(ts:List bH):(jC ts env).length=ts.length:=by
 induction ts with
 |nil=>rfl
 |cons t ts ih=>cases t <;> exact congrArg xj ih
theorem aZ.tup_inv{v:ai}{xs:List V}(h:aZ G Z v (.tup xs)):∃a o vs n,v= .ref a/\Z a=ae o/\o.cls= .type "tuple"/\o.data= .seq vs n/\bW G Z vs.toList xs:=by cases h with|tup e c d r=>exact ⟨_,_,_,_,rfl,e,c,d,r⟩
theorem aZ.ent_inv{v:ai}{xs:List V}(h:aZ G Z v (.ent xs)):∃a o vs n,v= .ref a/\Z a=ae o/\o.cls= .ref G.ent/\o.data= .seq vs n/\bW G Z vs.toList xs:=by cases h with|ent e c d r=>exact ⟨_,_,_,_,rfl,e,c,d,r⟩
theorem i7{ts:List bH}{kk:Nat}{xs:List V}(h:HU k mu env ts xs Ψ):mJ k mu env (.Tuple ts kk p) (.tup xs) Ψ:=⟨λ{A E Z s fr v Q} hA r hv q=>by
 refine dK (hv.tup_inv) λa o vs n eU e hc hd hr=>?_;subst eU;have hT:s.heap.IsTuple a vs:=⟨_,r.zin _ _ e,hc,_,hd⟩;have hn:(jC ts env).length=vs.size:=(nA ts).trans (h.len.trans hr.length.symm);exact wpAny_assign_Tuple hA.hh hT hn (o7 h.plain) λh' hx=>h.c hA (r.keep (tk:=s.toks) λb o e=>hx b o (c8 (bN e)) e) hr q⟩
theorem bC(h:Φ .next mu):WS k mu env [] Φ:=⟨λ{z z z z z z} hA r q=>wpAny_execs_nil (q .rfl .next r h)⟩
noncomputable def thenS(k:Nat)(env:gP)(rest:List ed)(Φ:AF->Mu->Prop):AF->Mu->Prop
 | .next,nu=>WS k nu env rest Φ
 |f,nu=>Φ f nu
@[elab_as_elim] theorem o5.by{P:uh->AF->Prop}{f:uh}{a:AF}(h:o5 G Z f a)(n:P .next .next)(b:P .brk .brk)(c:P .cont .cont)(r:∀v x,aZ G Z v x->P (.ret v) (.ret x)):P f a:=
 o5.rec (motive:=λf a z=>P f a) n b c (λ{v x} h=>r v x h) h
theorem aC{st:ed}{rest:List ed}(h:WX k mu env st (thenS k env rest Φ)):WS k mu env (st::rest) Φ:=⟨λ{z z z z z z} hA r q=>by
 with_reducible refine q7 ?_
 refine h.c hA r λ{f s1 Z1 a nu} z1 f1 r1 w=>?_
 revert w
 exact o5.by f1 (λw=>WF.c (show WS k nu env rest Φ from w) hA r1 λ{z z z z z} z2=>q (z1.trans z2)) (q z1 .brk r1) (q z1 .cont r1) λv x hv=>q z1 (.ret hv) r1⟩
theorem cf{Θ:V->Mu->Prop}(h:PE k mu env e y)(hΘ:Θ y mu):WE k mu env e Θ:=⟨λ{z z z z z z} hA r q=>h.c hA r λ{z z z} a b c=>q a b c hΘ⟩
theorem b4{pos:jB}{t:bH}(hv:WE k mu env e λy nu=>mJ k nu env t y (Φ .next))(hs:wx [t] e pos.line env=dg aH)(hw:wy [t] e env=dg av)
 (ht:autoParam (jC [t] env=[(aH,wu t env)]) aR):WX k mu env (.Assign [t] e pos) Φ:=⟨λ{z z z z z z} hA r q=>by
 with_reducible refine ES ?_ hs hw
 refine aj (ht ..) ?_;exact hv.c hA r λ{z z z z z} z1 q1 r1 w=>w.c hA r1 q1 λ{z z z} z2=>q (z1.trans z2) .next⟩
theorem bX{pos:jB}{t:bH}(hv:PE k mu env e y)(ha:mJ k mu env t y (Φ .next))(hs:wx [t] e pos.line env=dg aH)(hw:wy [t] e env=dg av)
 (ht:autoParam (jC [t] env=[(aH,wu t env)]) aR):WX k mu env (.Assign [t] e pos) Φ:=b4 (cf hv ha) hs hw ht
theorem ig{pos:jB}(h:WE k mu env e λz nu=>Φ .next nu)(hi:autoParam (interactive env=aH) aR)(hs:autoParam (xk e av pos.line env=dg aH) aR):WX k mu env (.Expr e pos) Φ:=⟨λ{z z z z z z} hA r q=>by
 with_reducible refine wpAny_Expr_any ?_ hi hs
 exact h.c hA r λ{z z z z z} z1 z=>q z1 .next⟩
theorem gw{pos:jB}(h:WE k mu env e λy nu=>Φ (.ret y) nu):WX k mu env (.Return (ae e) pos) Φ:=⟨λ{z z z z z z} hA r q=>by
 with_reducible refine wpAny_Return_some ?_
 exact h.c hA r λ{z z z z z} z1 q1=>q z1 (.ret q1)⟩
theorem Rh{pos:jB}(h:Φ .brk mu):WX k mu env (.Break pos) Φ:=⟨λ{z z z z z z} hA r q=>wpAny_Break (q .rfl .brk r h)⟩
theorem G0{pos:jB}(h:Φ .cont mu):WX k mu env (.Continue pos) Φ:=⟨λ{z z z z z z} hA r q=>wpAny_Continue (q .rfl .cont r h)⟩
structure Wt(k:Nat)(mu:Mu)(t:oZ Bool)(Θ:Bool->Mu->Prop):Prop where
 c:∀{A:bh} {E:ai->aq->Prop} {Z:bI} {s:aq} {fr:Mu} {Q:Bool->aq->Prop},Rm k A->R Z (mu++fr) s->
  (∀{b s' Z' nu},Z.le Z'->R Z' (nu++fr) s'->Θ b nu->Q b s')->aS (aX G.prog G.w) A t Q E s
abbrev WT(k:Nat)(mu:Mu)(env:gP)(e:bH)(Θ:Bool->Mu->Prop):Prop:=Wt k mu (isTrue e env (dW e env)) Θ
theorem PT.wt{Θ:Bool->Mu->Prop}(h:PT k mu env e b)(hΘ:Θ b mu):WT k mu env e Θ:=⟨λ{z z z z z z} hA r q=>h.c hA r λ{z z} z1 r1=>q z1 r1 hΘ⟩
noncomputable def brP:Bool->Prop->Prop->Prop
 |true,p,_=>p
 |false,_,q=>q
theorem xR{pos:jB}{body orelse:List ed}(h:WT k mu env e λc nu=>brP c (WS k nu env body Φ) (WS k nu env orelse Φ)):WX k mu env (.If e body orelse pos) Φ:=⟨λ{z z z z z z} hA r q=>by
 with_reducible refine wpAny_If ?_
 refine h.c hA r λ{c s1 Z1 nu} z1 r1 w=>?_;cases c with
 |true=>exact WF.c (show WS k nu env body Φ from w) hA r1 λ{z z z z z} z2=>q (z1.trans z2)
 |false=>exact WF.c (show WS k nu env orelse Φ from w) hA r1 λ{z z z z z} z2=>q (z1.trans z2)⟩
theorem iY{pos:jB}{body orelse:List ed}(h:PT k mu env e b)(h1:b=aJ->WS k mu env body Φ)(h2:b=aH->WS k mu env orelse Φ):WX k mu env (.If e body orelse pos) Φ:=
 xR (h.wt (by cases b;exact h2 rfl;exact h1 rfl))
structure CQ(I:ay)(ctx:Mu)(t:bH)(xs:List V)(it:Nat->cX):Prop where
 item:∀(i:Nat) (x:V),xs[i]? =ae x->∀{A:bh} {E:ai->aq->Prop} {Z:bI} {s:aq} {fr:Mu} {Q:Option ai->aq->Prop},Rm 1 A->(∀o∈ctx,o∈fr)->R Z (it i::fr) s->
  (∀{v s1},(∀{E:ai->aq->Prop} {T:Unit->aq->Prop},(∀{s2 Z'},Z.le Z'->aZ G Z' v x->R Z' (it (i+1)::fr) s2->T () s2)->aS (aX G.prog G.w) A (kJ t (.ref I) v) T E s1)->Q (ae v) s1)->
  wpAny (aX G.prog G.w) A (l0 (.ref I)) Q E s
 done:∀{A:bh} {E:ai->aq->Prop} {Z:bI} {s:aq} {fr:Mu} {Q:Option ai->aq->Prop},Rm 1 A->(∀o∈ctx,o∈fr)->R Z (it xs.length::fr) s->
  (∀{s1 Z'},Z.le Z'->R Z' fr s1->Q av s1)->aS (aX G.prog G.w) A (l0 (.ref I)) Q E s
 self:∀(i:Nat) {A:bh} {E:ai->aq->Prop} {Z:bI} {s:aq} {fr:Mu} {Q:ai->aq->Prop},Rm 1 A->R Z (it i::fr) s->
  (∀{s1},R Z (it i::fr) s1->Q (.ref I) s1)->aS (aX G.prog G.w) A (q8 (.ref I)) Q E s
structure o8(k:Nat)(mu:Mu)(env:gP)(e t:bH)(ctx:Mu)(xs:List V):Prop where
 has:∀o∈ctx,o∈mu
 c:∀{A:bh} {E:ai->aq->Prop} {Z:bI} {s:aq} {fr:Mu} {Q:ai->aq->Prop},Rm k A->R Z (mu++fr) s->
  (∀{I it s' Z'},CQ I ctx t xs it->Z.le Z'->R Z' (it 0::(mu++fr)) s'->Q (.ref I) s')->
  wpAny (aX G.prog G.w) A (dW e env) (λx s1=>aS (aX G.prog G.w) A (q8 x) Q E s1) E s
noncomputable def kW(Inv:Mu->Prop)(Φ:AF->Mu->Prop):AF->Mu->Prop
 | .next,nu=>Inv nu
 | .cont,nu=>Inv nu
 | .brk,nu=>Φ .next nu
 | .ret y,nu=>Φ (.ret y) nu
noncomputable def oL(T:uh->aq->Prop)(P:aq->Prop):uh->aq->Prop
 | .next,s=>P s
 | .cont,s=>P s
 | .brk,s=>T .next s
 | .ret v,s=>T (.ret v) s
theorem oL.of{T:uh->aq->Prop}{P:aq->Prop}{fr:Mu}{Inv:Mu->Prop}{f:uh}{a:AF}(h:o5 G Z f a)(w:kW Inv Φ a nu)(hn:Inv nu->P s)(hq:∀{g c},o5 G Z g c->Φ c nu->T g s):oL T P f s:=by
 revert w
 exact o5.by h hn (hq .next) hn λv x hv=>hq (.ret hv)
structure ForT(prog:dJ)(w:ee)(A:bh)(env:gP)(target:bH)(body orelse:List ed)(it:ai)(T:uh->aq->Prop)(P:aq->Prop)(s:aq):Prop where
 c:∀{E:ai->aq->Prop} {Q:Option ai->aq->Prop},(∀{s1},(∀{E:ai->aq->Prop},aS (aX prog w) A (Jr orelse env) T E s1)->Q av s1)->
  (∀{v s1},(∀{E:ai->aq->Prop},aS (aX prog w) A (kJ target it v) (λz s2=>aS (aX prog w) A (wu target env v) (λz s3=>aS (aX prog w) A (Jr body env) (oL T P) E s3) E s2) E s1)->Q (ae v) s1)->
  wpAny (aX prog w) A (l0 it) Q E s
theorem BG{prog:dJ}{w:ee}{A:bh}{E:ai->aq->Prop}{target:bH}{body orelse:List ed}{it:ai}{T:uh->aq->Prop}(I:Nat->aq->Prop)
 (turn:∀n s,I n s->ForT prog w A env target body orelse it T (λs'=>∃m,m < n/\I m s') s) (n:Nat) (h:I n s):
 iV (aX prog w) A (.forLoop target it body orelse env) (λr s'=>match r with| .ok f=>T f s'| .error e=>GL (aX prog w) A env E e s') s:=
 codeAny_forLoop_any I (λn s hI=>(turn n s hI).c (λ{z} h=>h) λ{v s1} h=>eS h (λz s2 h=>eS h (λz s3 h=>eS h (λf s4 h=>by cases f <;> exact h) λz z e=>e) λz z e=>e) λz z e=>e) n h
structure BI(Z:bI)(Inv:Nat->Mu->Prop)(m:Nat)(it:Nat->cX)(fr:Mu)(n:Nat)(s':aq):Prop where
 ex:∃i Z' nu,n=m+1 - i/\i<=m/\Z.le Z'/\R Z' (it i::(nu++fr)) s'/\Inv i nu
theorem BI.lt{Inv:Nat->Mu->Prop}{m:Nat}{it:Nat->cX}{fr:Mu}{s':aq}{i:Nat}{Z':bI}(hi:i < m)(z:Z.le Z')(r:R Z' (nu++(it (i+1)::fr)) s')(h:Inv (i+1) nu):∃n,n < m+1 - i/\BI Z Inv m it fr n s':=
 ⟨m+1 - (i+1),Nat.sub_lt_sub_left (cI hi) (jf _),⟨i+1,Z',nu,rfl,hi,z,r.perm cu,h⟩⟩
@[elab_as_elim] theorem BI.by{P:Nat->Prop}{Inv:Nat->Mu->Prop}{m:Nat}{it:Nat->cX}{fr:Mu}{n:Nat}{s':aq}(h:BI Z Inv m it fr n s')(item:∀{i Z' nu},i < m->Z.le Z'->R Z' (it i::(nu++fr)) s'->Inv i nu->P (m+1 - i))
 (done:∀{Z' nu},Z.le Z'->R Z' (it m::(nu++fr)) s'->Inv m nu->P (m+1 - m)):P n:=by
 refine g6 (h.ex) λi Z' nu gi hi z r inv=>?_;subst gi;rcases Nat.lt_or_eq_of_le hi with h|rfl
 ·exact item h z r inv
 ·exact done z r inv
theorem G1{A:bh}{E:ai->aq->Prop}{I:ay}{it:Nat->cX}{fr:Mu}{Z1:bI}{Q:uh->aq->Prop}{t:bH}{body orelse:List ed}{ctx:Mu}{xs:List V}(Inv:Nat->Mu->Prop)(hit:CQ I ctx t xs it)(hk:1<=k)(h0:Inv 0 mu)(qX:∀i nu,Inv i nu->∀o∈ctx,o∈nu)
 (step:∀i x nu,xs[i]? =ae x->Inv i nu->mJ k nu env t x λrq=>WS k rq env body (kW (Inv (i+1)) Φ)) (fin:∀nu,Inv xs.length nu->WS k nu env orelse Φ) (hA:Rm k A) (z1:Z.le Z1) (r:R Z1 (it 0::(mu++fr)) s)
 (q:∀{f s' Z' a nu},Z.le Z'->o5 G Z' f a->R Z' (nu++fr) s'->Φ a nu->Q f s'):iV (aX G.prog G.w) A (.forLoop t (.ref I) body orelse env) (λr s'=>match r with| .ok f=>Q f s'| .error e=>GL (aX G.prog G.w) A env E e s') s:=by
 refine BG (BI Z Inv xs.length it fr) (λn s' h=>h.by ?_ ?_) (xs.length+1) ⟨0,Z1,mu,rfl,gp _,z1,r,h0⟩
 ·intro i Z' nu hi z r inv;refine ⟨λ{y y} hn hs=>hit.item i _ (bJ hi) (hA.le hk) (λo ho=>aE _ (qX i nu inv o ho)) r λ{v s3} h3=>hs (h3 λ{s4 Z4} z4 hv r4=>?_)⟩;refine (step i _ nu (bJ hi) inv).c hA (r4.perm cu.symm) hv λ{s5 Z5 nu5} z5 r5 w5=>w5.c hA r5 λ{f s6 Z6 a nu6} z6 f6 r6 w6=>oL.of (fr:=fr) f6 w6 (BI.lt hi (z.trans (z4.trans (z5.trans z6))) r6) λ{y y} hg=>q (z.trans (z4.trans (z5.trans z6))) hg (R.drop (r6.perm cu))
 ·intro Z' nu z r inv;exact ⟨λ{y y} hn hs=>hit.done (hA.le hk) (λo ho=>aE _ (qX _ nu inv o ho)) r λ{y y} z3 r3=>hn ((fin nu inv).c hA r3 λ{y y y y y} z4=>q (z.trans (z3.trans z4)))⟩
theorem jO{pos:jB}{t:bH}{body orelse:List ed}{ctx:Mu}{xs:List V}(Inv:Nat->Mu->Prop)(src:o8 k mu env e t ctx xs)(hk:1<=k)(h0:Inv 0 mu)(qX:∀i nu,Inv i nu->∀o∈ctx,o∈nu)
 (step:∀i x nu,xs[i]? =ae x->Inv i nu->mJ k nu env t x λrq=>WS k rq env body (kW (Inv (i+1)) Φ))
 (fin:∀nu,Inv xs.length nu->WS k nu env orelse Φ) (hf:autoParam (∀x,bw e env x=dg x) aR):WX k mu env (.For t e body orelse pos) Φ:=⟨λ{A E Z s fr Q} hA r q=>by
 with_reducible refine wpAny_For ?_ hf
 exact src.c hA r λ{z z z z} hit z2 r2=>G1 Inv hit hk h0 qX step fin hA z2 r2 q⟩
structure WhI(Z:bI)(Inv:Nat->Mu->Prop)(fr:Mu)(n:Nat)(s':aq):Prop where
 ex:∃Z' nu,Z.le Z'/\R Z' (nu++fr) s'/\Inv n nu
theorem HV{prog:dJ}{w:ee}{A:bh}{E:ai->aq->Prop}{test:bH}{body orelse:List ed}{T:uh->aq->Prop}(I:Nat->aq->Prop)
 (turn:∀n s,I n s->∀{E:ai->aq->Prop} {Q:Bool->aq->Prop},(∀{s1},(∀{E:ai->aq->Prop},aS (aX prog w) A (Jr body env) (oL T λs'=>∃m,m < n/\I m s') E s1)->Q aJ s1)->
  (∀{s1},(∀{E:ai->aq->Prop},aS (aX prog w) A (Jr orelse env) T E s1)->Q aH s1)->aS (aX prog w) A (isTrue test env (dW test env)) Q E s) (n:Nat) (h:I n s):
 iV (aX prog w) A (.whileLoop test body orelse env) (λr s'=>match r with| .ok f=>T f s'| .error e=>GL (aX prog w) A env E e s') s:=
 codeAny_whileLoop I (λn s hI=>turn n s hI (λ{z} h=>(if_pos rfl).symm▸eS h (λf s4 h=>by cases f <;> exact h) λz z e=>e) λ{z} h=>(if_neg cF).symm▸h) n h
theorem xS{pos:jB}{body orelse:List ed}(Inv:Nat->Mu->Prop)(n:Nat)(h0:Inv n mu)
 (turn:∀n nu,Inv n nu->WT k nu env e λc rq=>brP c (WS k rq env body (kW (λub=>∃m,m < n/\Inv m ub) Φ)) (WS k rq env orelse Φ)):WX k mu env (.While e body orelse pos) Φ:=⟨λ{A E Z s fr Q} hA r q=>by
 with_reducible refine wpAny_While ?_
 refine HV (WhI Z Inv fr) (λn s' h=>?_) n ⟨Z,mu,.rfl,r,h0⟩;intro E Q2 ht hf;refine cC (h.ex) λZ' nu z r inv=>(turn n nu inv).c hA r λ{c s1 Z1 rq} z1 r1 w1=>?_;cases c with
 |true=>exact ht (WF.c (show WS k rq env body _ from w1) hA r1 λ{f s2 Z2 a ub} z2 f2 r2 w2=>oL.of (fr:=fr) f2 w2 (λ⟨m,hm,hi⟩=>⟨m,hm,⟨Z2,ub,z.trans (z1.trans z2),r2,hi⟩⟩) λ{y y} hg=>q (z.trans (z1.trans z2)) hg r2)
 |false=>exact hf (WF.c (show WS k rq env orelse Φ from w1) hA r1 λ{y y y y y} z2=>q (z.trans (z1.trans z2)))⟩
end
variable {t:bH}{xs:List V}
noncomputable def BJ:List String:=["enumerate","zip","dict_itemiterator","dict_reverseitemiterator","odict_iterator","itertools.zip_longest","itertools.pairwise"]
theorem Fz{M:xl}{A:bh}{E:ai->aq->Prop}{s:aq}{t:bH}{x:bb}{p:jB}{I:ay}{v:ai}{Q:Unit->aq->Prop}(h:Q () s):aS M A (kJ (.Name x p) (.ref I) v) Q E s:=ar h
theorem wH{M:xl}{A:bh}{E:ai->aq->Prop}{s:aq}{t:bH}{I:ay}{v:ai}{n:String}{o:oY}{Q:Unit->aq->Prop}(ho:s.heap.get? I=ae o)(hc:o.cls= .type n)
 (hn:BJ.contains n=aH) (h:Q () s):aS M A (kJ t (.ref I) v) Q E s:=by
 have key:∀a:ay,aS M A (do
  let o <- load I
  match o.cls,o.data with
  | .type n,.fields vs=>
   if BJ.contains n && vs[0]? == ae (pB a) then
    rule "for.unpacks-the-owned-tuple"
    updateField I 0 .none
  |_,_=>dg ():oZ Unit) Q E s:=λa=>by
  refine ag (Tn ho ?_);obtain ⟨cls,d,data,sl⟩:=o;subst hc;cases data <;> first|exact ar h|(simp only [hn,Bool.false_and,dj,if_false];exact ar h)
 unfold kJ;cases t <;> first|exact ar h|(cases v <;> first|exact ar h|exact key _)
noncomputable def itW(I:ay)(fp:List ay)(Zf:bI)(Fb:∀b∈fp,b≠I->∃o,Zf b=ae o)(St:dG->Prop)
 (GA:∀h h',St h->(∀b∈fp,∀o,h.get? b=ae o->h'.get? b=ae o)->St h') (hl:∀h,St h->∃o,h.get? I=ae o):cX where
 own:=[I]
 sat:=λZ h=>Zf.le Z/\St h
 mono:=λZ Z' h hz ⟨a,b⟩=>⟨bI.le_trans a hz,b⟩
 loc:=λZ h h' ⟨a,b⟩ hk hz MP=>⟨a,GA h h' b λc hc o e=>by
  by_cases hI:c=I
  ·subst hI;exact hk c aa o e
  ·refine cJ (Fb c hc hI) λo' TT=>?_;have h1:=hz c o' (a _ _ TT);rw [e] at h1;(have lA:=aO h1;clear h1;subst lA);exact MP c _ (a _ _ TT)⟩
 live:=λZ h ⟨a,b⟩ c hc=>by simp at hc;subst hc;exact hl h b
theorem CQ.ofWalks{I:ay}{fp:List ay}{n:Nat}{P:Nat->ai->Prop}{St:Nat->dG->Prop}{Zf:bI}{c:String}(W:∀A:bh,A.handled=av->Walks G.prog G.w A I fp [I] n P St)(hn:xs.length=n)
 (Fb:∀b∈fp,b≠I->∃o,Zf b=ae o) (hP:∀i v x,xs[i]? =ae x->P i v->aZ G Zf v x) (hc:∀i h,St i h->∃o,h.get? I=ae o/\o.cls= .type c) (hcn:BJ.contains c=aH):
 CQ I [] t xs λi=>itW I fp Zf Fb (St i) ((W {} rfl).frame i) λh s=>(hc i h s).imp λz q=>q.1 where
 item:=λi x hx {A E Z s fr Q} hA z r q=>by
  have hs:=r.sat _ aa;exact (W A hA.hh).item i s _ E (hn▸(aB.mp hx).1) hs.2 λv h' tk hp hst' hk=>q λ{E T} p=>aK (hc _ _ hst') λo ho hcl=>wH (s:={s with heap:=h',toks:=tk}) ho hcl hcn (p .rfl ((hP i v x hx hp).mono hs.1) (r.upd' (x':=itW I fp Zf Fb (St (i+1)) ((W {} rfl).frame _) _) (i:=0) (h':=h') (tk:=tk) rfl rfl hk ⟨hs.1,hst'⟩))
 done:=λ{A E Z s fr Q} hA z r q=>by
  have hs:=r.sat _ aa;rw [hn] at hs;exact (W A hA.hh).done s _ E hs.2 λh' tk hk=>q .rfl (r.dropUpd hk)
 self:=λi {A E Z s fr Q} hA r q=>(W A hA.hh).self i s _ E (r.sat _ aa).2 (q r)
inductive j3(Z:bI):List ai->List (Vw)->Prop
 |nil:j3 Z [] []
 |cons {v vs P Ps:_}:P.p Z v->j3 Z vs Ps->j3 Z (v::vs) (P::Ps)
section
variable {vs:List ai}{Q:Vw}{Ps:List (Vw)}
theorem j3.cons_inv(h:j3 Z vs (P::Ps)):∃v rp,vs=v::rp/\P.p Z v/\j3 Z rp Ps:=by cases h with|cons a r=>exact ⟨_,_,rfl,a,r⟩
theorem j3.none(h:j3 Z vs ([]:List (Vw))):vs=[]:=by cases h;rfl
theorem j3.one(h:j3 Z vs [P]):∃v,vs=[v]/\P.p Z v:=
 h.cons_inv.imp λv w=>w.elim λz w=>⟨w.2.2.none▸w.1,w.2.1⟩
theorem j3.two(h:j3 Z vs [P,Q]):∃v u,vs=[v,u]/\P.p Z v/\Q.p Z u:=
 by obtain ⟨v,_,rfl,a,r⟩:=h.cons_inv;obtain ⟨u,rfl,b⟩:=r.one;exact ⟨v,u,rfl,a,b⟩
theorem j3.three(h:j3 Z vs [P,Q,S]):∃v u w,vs=[v,u,w]/\P.p Z v/\Q.p Z u/\S.p Z w:=
 by obtain ⟨v,_,rfl,a,r⟩:=h.cons_inv;obtain ⟨u,w,rfl,b,c⟩:=r.two;exact ⟨v,u,w,rfl,a,b,c⟩
end
theorem gF{Z:bI}{v:ai}{i:Int}(h:(bZ (.int i):Vw).p Z v):∃t,v= .int i t:=aZ.is h
theorem gV{Z:bI}{v:ai}{x:bb}(h:(bZ (.str x):Vw).p Z v):∃t,v= .str x t:=aZ.is h
structure tA(k:Nat)(mu:Mu)(env:gP)(es:List bH)(Ps:List (Vw)):Prop where
 len:es.length=Ps.length
 plain:∀pos,(lj pos (fo es env)).any (·.1)=aH
 c:∀{A:bh} {E:ai->aq->Prop} {Z:bI} {s:aq} {fr:Mu} {pos:jB} {Q:List ai->aq->Prop},Rm k A->R Z (mu++fr) s->
  (∀{vs s' Z'},Z.le Z'->j3 Z' vs Ps->R Z' (mu++fr) s'->Q vs s')->aS (aX G.prog G.w) A (spliced (lj pos (fo es env))) Q E s
structure Fn(k:Nat)(mu:Mu)(f:ai)(Ps:List (Vw))(S:Vw):Prop where
 c:∀{A:bh} {E:ai->aq->Prop} {Z:bI} {s:aq} {fr:Mu} {vs:List ai} {Q:ai->aq->Prop},Rm k A->R Z (mu++fr) s->j3 Z vs Ps->
  (∀{w s' Z'},Z.le Z'->S.p Z' w->R Z' (mu++fr) s'->Q w s')->aS (aX G.prog G.w) A (ku f vs) Q E s
section
variable {p' pos:jB}{o:bH}{es:List bH}{Ps:List (Vw)}{A:bh}{E:ai->aq->Prop}{fr:Mu}{Q:ai->aq->Prop}
theorem aT:tA k mu env [] []:=⟨rfl,λz=>rfl,λ{z z z z z z z} hA r q=>ar (q .rfl .nil r)⟩
theorem et(hs:∀a p,e≠ .Starred a p):fo (e::es) env=(aH,dW e env)::fo es env:=by cases e <;> first|rfl|exact absurd rfl (hs _ _)
theorem au(h:EV k mu env e P)(hr:tA k mu env es Ps)(hs:∀a p,e≠ .Starred a p:=by intro z z h;cases h):tA k mu env (e::es) (P::Ps):=
 ⟨congrArg xj hr.len,λpos=>by
  refine aj (et hs ..) ?_;exact hr.plain pos,λ{A E Z s fr pos Q} hA r q=>by
  refine aj (et hs ..) ?_;show aS _ A (dW e env >>=λv=>eW [v] (spliced (lj pos (fo es env))) >>=λr=>dg ([v]++r)) Q E s;exact ag (h.c hA r λ{z z z} z1 p1 r1=>ag (bE (hr.c hA r1 λ{z z z} z2 p2 r2=>ar (q (z1.trans z2) (.cons (P.mono _ _ _ z2 p1) p2) r2))))⟩
theorem tA.any(ha:tA k mu env (e::es) Ps)(hs:∀a p,e≠ .Starred a p):(lj pos ((aH,dW e env)::fo es env)).any (·.1)=aH:=et hs▸ha.plain pos
theorem BK{id:String}(hf:PE k mu env (.Name x p) (.bi id))(ha:tA k mu env (e::es) Ps)(hs:∀a p,e≠ .Starred a p)(hA:Rm k A)(r:R Z (mu++fr) s)
 (h:∀{vs s' Z'},Z.le Z'->j3 Z' vs Ps->R Z' (mu++fr) s'->aS (aX G.prog G.w) A (ku (.builtin id) vs) Q E s'):aS (aX G.prog G.w) A (dW (.Call (.Name x p) (e::es) [] pos) env) Q E s:=by
 with_reducible refine gB ?_
 exact hf.c hA r λ{f s1 Z1} z1 q1 r1=>aj (aZ.biE q1 ..) (ET (ha.c hA r1 λ{z z z} z2 q2 r2=>h (z1.trans z2) q2 r2) (et hs) (ha.any hs))
theorem sv{T:String}(hf:PE k mu env (.Name x p) (.type T))(ha:tA k mu env (e::es) Ps)(hs:∀a p,e≠ .Starred a p)(hA:Rm k A)(r:R Z (mu++fr) s)
 (h:∀{vs s' Z'},Z.le Z'->j3 Z' vs Ps->R Z' (mu++fr) s'->aS (aX G.prog G.w) A (ku (.type T) vs) Q E s'):aS (aX G.prog G.w) A (dW (.Call (.Name x p) (e::es) [] pos) env) Q E s:=by
 with_reducible refine gB ?_
 exact hf.c hA r λ{f s1 Z1} z1 q1 r1=>aj (aZ.typeE q1 ..) (PyProof.Rows.callWith_type1 (ha.c hA r1 λ{z z z} z2 q2 r2=>h (z1.trans z2) q2 r2) (et hs) (ha.any hs))
theorem N4{a:ay}{ob:oY}{fd:cg}(hf:PE k mu env (.Name x p) (.ref a))(h0:G.Z0 a=ae ob)(hd:ob.data= .func fd)(ha:tA k mu env (e::es) Ps)(hs:∀a p,e≠ .Starred a p)(hA:Rm k A)(r:R Z (mu++fr) s)
 (h:∀{vs s' Z'},Z.le Z'->j3 Z' vs Ps->R Z' (mu++fr) s'->aS (aX G.prog G.w) A (ku (.ref a) vs) Q E s'):aS (aX G.prog G.w) A (dW (.Call (.Name x p) (e::es) [] pos) env) Q E s:=by
 with_reducible refine gB ?_
 exact hf.c hA r λ{f s1 Z1} z1 q1 r1=>aj (aZ.refE q1 ..) (iJ hd (ha.c hA r1 λ{z z z} z2 q2 r2=>⟨r2.z0in _ _ h0,h (z1.trans z2) q2 r2⟩) (et hs))
theorem ek{id:String}(hf:PE k mu env (.Name x p) (.bi id))(ha:tA k mu env (e::es) Ps)(hF:Fn k mu (.builtin id) Ps S)(hs:∀a p,e≠ .Starred a p:=by intro z z h;cases h):
 EV k mu env (.Call (.Name x p) (e::es) [] pos) S:=⟨λ{z z z z z z} hA r q=>BK hf ha hs hA r λ{z z z} z2 q2 r2=>hF.c hA r2 q2 λ{z z z} z3=>q (z2.trans z3)⟩
theorem iZ{T:String}(hf:PE k mu env (.Name x p) (.type T))(ha:tA k mu env (e::es) Ps)(hF:Fn k mu (.type T) Ps S)(hs:∀a p,e≠ .Starred a p:=by intro z z h;cases h):
 EV k mu env (.Call (.Name x p) (e::es) [] pos) S:=⟨λ{z z z z z z} hA r q=>sv hf ha hs hA r λ{z z z} z2 q2 r2=>hF.c hA r2 q2 λ{z z z} z3=>q (z2.trans z3)⟩
theorem Kb{a:ay}{ob:oY}{fd:cg}(hf:PE k mu env (.Name x p) (.ref a))(h0:G.Z0 a=ae ob)(hd:ob.data= .func fd)(ha:tA k mu env (e::es) Ps)(hF:Fn k mu (.ref a) Ps S)(hs:∀a p,e≠ .Starred a p:=by intro z z h;cases h):
 EV k mu env (.Call (.Name x p) (e::es) [] pos) S:=⟨λ{z z z z z z} hA r q=>N4 hf h0 hd ha hs hA r λ{z z z} z2 q2 r2=>hF.c hA r2 q2 λ{z z z} z3=>q (z2.trans z3)⟩
structure Ty(mu:Mu)(P:Vw)(T:String):Prop where
 run:∀(Z:bI) (s:aq) (fr:Mu) (v:ai),R Z (mu++fr) s->P.p Z v->s.TypeIs v T/\∀a,v= .ref a->∃ob,s.heap.get? a=ae ob/\ob.dict=av
theorem mK{a:bb}:Ty mu (bZ (.str a)) "str":=⟨λZ s fr v r h=>aZ.strC h λz=>⟨rfl,λa e=>nomatch e⟩⟩
theorem Ty.at{T:String}{a:ay}{o:oY}(ho:s.heap.get? a=ae o)(hc:o.cls= .type T)(hd:o.dict=av):s.TypeIs (.ref a) T/\∀b,cY a= .ref b->∃ob,s.heap.get? b=ae ob/\ob.dict=av:=
 ⟨⟨_,ho,hc⟩,λb e=>⟨o,Value.ref.inj e▸ho,hd⟩⟩
theorem G2:Ty mu (me mu xs) "list":=⟨λZ s fr v r ⟨a,e,q⟩=>by
 exact eD (q Z s .rfl r.left) λvs n h1 h2=>e▸Ty.at h1 rfl rfl⟩
theorem tA.unstar(ha:tA k mu env (e::es) Ps):∀a p,e≠ .Starred a p:=λa p he=>by
 subst he;exact EU (ha.plain ⟨0,0,0,0⟩)
theorem BL{id T:String}{name:bb}{apos:jB}(ho:EV k mu env o P)(ht:Ty mu P T)(hpl:(lj pos (fo es env)).any (·.1)=aH)(pa:zq T)(slot:Slot T name id)
 (MQ:jU (.builtin id)=dg (.type "method_descriptor")) (hl:(apos.endLine == pos.line)=aJ) (hsz:es.length < 29) (sj:rl o name env (dW o env)=dW o env) (hA:Rm k A) (r:R Z (mu++fr) s)
 (h:∀{v s' Z'},Z.le Z'->P.p Z' v->R Z' (mu++fr) s'->aS (aX G.prog G.w) A (pC pos (.builtin id) [v] (lj pos (fo es env)) []) Q E s'):aS (aX G.prog G.w) A (dW (.Call (.Attribute o name apos) es [] pos) env) Q E s:=by
 with_reducible refine wpAny_Call_method sj ?_ hl pa slot MQ ?_
 ·refine aj (show (lj pos (fo es env)).all (λx=>!x.1)=aJ from fW.mpr λq hq=>by rw [CA,Bool.eq_false_iff];exact λh=>List.any_eq_false.mp hpl q hq h) ?_;exact decide_eq_true (show es.length+0+0 < 30 from cI hsz)
 exact ho.c hA r λ{ov s1 Z1} z1 q1 r1=>⟨(ht.run Z1 s1 fr ov r1 q1).1,(ht.run Z1 s1 fr ov r1 q1).2,h z1 q1 r1⟩
theorem Kc{id T:String}{name:bb}{apos:jB}(ho:EV k mu env o P)(ht:Ty mu P T)(ha:tA k mu env es Ps)(pa:zq T)(slot:Slot T name id)
 (MQ:jU (.builtin id)=dg (.type "method_descriptor")) (hl:(apos.endLine == pos.line)=aJ) (hsz:es.length < 29) (sj:rl o name env (dW o env)=dW o env) (hA:Rm k A) (r:R Z (mu++fr) s)
 (h:∀{v vs s' Z'},Z.le Z'->j3 Z' (v::vs) (P::Ps)->R Z' (mu++fr) s'->aS (aX G.prog G.w) A (ku (.builtin id) (v::vs)) Q E s'):aS (aX G.prog G.w) A (dW (.Call (.Attribute o name apos) es [] pos) env) Q E s:=by
 refine BL ho ht (ha.plain pos) pa slot MQ hl hsz sj hA r λ{ov s1 Z1} z1 q1 r1=>callWith_builtin (ha.plain pos) ?_;have fin:∀{vs s2 Z2},Z1.le Z2->j3 Z2 vs Ps->R Z2 (mu++fr) s2->aS (aX G.prog G.w) A (ku (.builtin id) ([ov]++vs) []) Q E s2:=λ{z z z} z2 q2 r2=>h (z1.trans z2) (.cons (P.mono _ _ _ z2 q1) q2) r2;have hr:=ha.c (E:=E) (pos:=pos) hA r1 fin;cases es with
 |nil=>exact Ut (fin .rfl (pA ha.len.symm▸.nil) r1)
 |cons e es=>rw [et ha.unstar] at hr ⊢;exact Ju hr
theorem f7{id T:String}{name:bb}{apos:jB}(ho:EV k mu env o P)(ht:Ty mu P T)(ha:tA k mu env es Ps)(hF:Fn k mu (.builtin id) (P::Ps) S)(pa:zq T)(slot:Slot T name id)
 (MQ:jU (.builtin id)=dg (.type "method_descriptor")) (hl:(apos.endLine == pos.line)=aJ) (hsz:autoParam (es.length < 29) aD) (sj:autoParam (rl o name env (dW o env)=dW o env) aR):
 EV k mu env (.Call (.Attribute o name apos) es [] pos) S:=⟨λ{z z z z z z} hA r q=>Kc ho ht ha pa slot MQ hl hsz sj hA r λ{z z z z} z1 q1 r1=>hF.c hA r1 q1 λ{z z z} z2=>q (z1.trans z2)⟩
end
section
variable {pos:jB}
noncomputable def itWT(wr fp:List ay)(Zf:bI)(Fb:∀b∈fp,b∉wr->∃o,Zf b=ae o)(St:dG->Prop)
 (GA:∀h h',St h->(∀b∈fp,∀o,h.get? b=ae o->h'.get? b=ae o)->St h') (hl:∀h,St h->∀b∈wr,∃o,h.get? b=ae o):cX where
 own:=wr
 sat:=λZ h=>Zf.le Z/\St h
 mono:=λZ Z' h hz ⟨a,b⟩=>⟨bI.le_trans a hz,b⟩
 loc:=λZ h h' ⟨a,b⟩ hk hz MP=>⟨a,GA h h' b λc hc o e=>by
  by_cases hI:c∈wr
  ·exact hk c hI o e
  ·refine cJ (Fb c hc hI) λo' TT=>?_;have h1:=hz c o' (a _ _ TT);rw [e] at h1;(have lA:=aO h1;clear h1;subst lA);exact MP c _ (a _ _ TT)⟩
 live:=λZ h ⟨a,b⟩ c hc=>hl h b c hc
theorem CQ.ofWalksT{I:ay}{wr fp:List ay}{n:Nat}{Pt:Nat->Array ai->Prop}{St:Nat->dG->Prop}{Mid:Nat->ay->dG->Prop}{Zf:bI}{elts:List bH}{kk:Nat}
 (W:∀A:bh,A.handled=av->WalksT G.prog G.w A I fp wr n Pt St Mid) (hn:xs.length=n)
 (Fb:∀b∈fp,b∉wr->∃o,Zf b=ae o) (hP:∀i bz x,xs[i]? =ae x->Pt i bz->∃ys,x= .tup ys/\bW G Zf bz.toList ys)
 (hl:∀i h,St i h->∀b∈wr,∃o,h.get? b=ae o):
 CQ I [] (.Tuple elts kk p) xs λi=>itWT wr fp Zf Fb (St i) ((W {} rfl).frame i) (hl i) where
 item:=λi x hx {A E Z s fr Q} hA z r q=>by
  have hs:=r.sat _ aa;refine (W A hA.hh).item i s _ E (hn▸(aB.mp hx).1) hs.2 λT bz h' tk hp hT hTup hMid hk=>q λ{E2 T2} p=>(W A hA.hh).go elts kk _ i T {s with heap:=h',toks:=tk} _ E2 hMid λh'' hst'' hk''=>aK (hP i bz x hx hp) λys dO hys=>?_;subst dO;obtain ⟨o,ho,hc,m,hd⟩:=hTup;exact p (bI.le_put (r.fresh hT)) (.tup (bI.put_self ..) hc hd (hys.mono (hs.1.trans (bI.le_put (r.fresh hT)))))
   (R.freeze (r.upd' (x':=itWT wr fp Zf Fb (St (i+1)) ((W {} rfl).frame _) (hl _)) (i:=0) (h':=h'') (tk:=tk) rfl rfl (λb o hb e=>hk'' b o hb (hk b o hb e)) ⟨hs.1,hst''⟩) (hk'' T o ((W A hA.hh).apart i T h' hMid) ho) (r.fresh hT) (r.notOwn hT))
 done:=λ{A E Z s fr Q} hA z r q=>by
  have hs:=r.sat _ aa;rw [hn] at hs;exact (W A hA.hh).done s _ E hs.2 λh' tk hk=>q .rfl (r.dropUpd hk)
 self:=λi {A E Z s fr Q} hA r q=>(W A hA.hh).self i s _ E (r.sat _ aa).2 (q r)
theorem R.addNew{Z:bI}{s:aq}{mu:Mu}{h':dG}{tk:Nat}(r:R Z mu s)(x:cX)(hk:∀b o,s.heap.get? b=ae o->h'.get? b=ae o)(hx:x.sat Z h')(hn:x.own.Nodup)(ho:∀b∈x.own,s.heap.objs.size<=b):
 R Z (x::mu) {s with heap:=h',toks:=tk}:=(r.keep hk).add x hx hn λb hb=>⟨r.notOwn (ho b hb),r.fresh (ho b hb)⟩
theorem R.swap{Z:bI}{s:aq}{mu:Mu}{h':dG}{tk i:Nat}{a:cX}(r:R Z mu s)(hi:mu[i]? =ae a)(x:cX)(hk:∀b o,b∉a.own->s.heap.get? b=ae o->h'.get? b=ae o)(hx:x.sat Z h')(hn:x.own.Nodup)(ho:∀b∈x.own,b∈a.own\/s.heap.objs.size<=b):
 R Z (mu.set i x) {s with heap:=h',toks:=tk}:=by
 have r1:R Z (a::(mu.take i++mu.drop (i+1))) s:=R.perm (gh hi▸r) cu;refine aj (j0 _ hi ..) (((r1.dropUpd hk).add x hx hn λb hb=>(ho b hb).elim (λh=>⟨λh2=>?_,r1.sep b (aE (gU _) h)⟩) λh=>⟨λh2=>r1.notOwn h (bL a.own h2),r1.fresh h⟩).perm cu.symm);exact (bP.mp (show (a.own++gU (mu.take i++mu.drop (i+1))).Nodup from r1.nodup)).2.2 b h b h2 rfl
theorem eh{a:ay}:[a].Nodup:=cj.mpr ⟨e7,.nil⟩
theorem kX{a b:ay}(h:b∈[a]):a<=b:=ll (aA.mp h).symm
theorem pL{Z:bI}{s:aq}{nu:Mu}{n:Nat}{P:Nat->ai->Prop}{St:Nat->dG->Prop}{c:String}{fp:List ay}{T:Prop}(r:R Z nu s)(W:∀A:bh,A.handled=av->Walks G.prog G.w A s.heap.objs.size fp [s.heap.objs.size] n P St)(hn:xs.length=n)
 (Fb:∀b∈fp,b≠s.heap.objs.size->∃o,Z b=ae o) (hP:∀i v x,xs[i]? =ae x->P i v->aZ G Z v x) (hc:∀i h,St i h->∃o,h.get? s.heap.objs.size=ae o/\o.cls= .type c) (hcn:BJ.contains c=aH)
 {h':dG} (hk:∀b o,s.heap.get? b=ae o->h'.get? b=ae o) (h0:St 0 h') (q:∀{it:Nat->cX},CQ s.heap.objs.size [] t xs it->R Z (it 0::nu) {s with heap:=h'}->T):T:=
 q (CQ.ofWalks (Zf:=Z) W hn Fb hP hc hcn) (r.addNew (tk:=s.toks) _ hk ⟨.rfl,h0⟩ eh λz h=>kX h)
theorem vI{Z:bI}{I a:ay}{o:oY}(e:Z a=ae o):∀b∈[I,a],b≠I->∃o,Z b=ae o:=λb hb hn=>
 (aP.mp hb).elim (λq=>absurd q hn) λq=>⟨o,aA.mp q▸e⟩
theorem nB{Z:bI}{vs:Array ai}{i:Nat}{v:ai}{x:V}(hr:bW G Z vs.toList xs)(hx:xs[i]? =ae x)(hp:vs[i]? =ae v):aZ G Z v x:=by refine aK (hr.get hx) λv' h1 h2=>?_;cases hp.symm.trans (bV.symm.trans h1);exact h2
theorem b9{Z:bI}{vs:Array ai}(hr:bW G Z vs.toList xs):xs.length=vs.size:=hr.length.symm.trans eK
theorem Au{Z:bI}{s:aq}{nu:Mu}{v:ai}{A:bh}{E Q:ai->aq->Prop}(r:R Z nu s)(h:aZ G Z v (.list xs))(q:∀{I it s'},CQ I [] t xs it->R Z (it 0::nu) s'->Q (.ref I) s'):aS (aX G.prog G.w) A (q8 v) Q E s:=by
 refine cE (rh.list h) λa vs n eU e1 hr=>?_;subst eU;have hL:s.heap.IsList a vs:=⟨_,r.zin _ _ e1,rfl,n,rfl⟩;exact lr hL (pL (c:="list_iterator") r (λA hh=>Walks.list hh s.heap.objs.size a (c8 (bN (r.zin _ _ e1))) vs) (b9 hr) (vI e1) (λi v x=>nB hr) (λi h hs=>hs.1.imp λz w=>⟨w.1,w.2.1⟩) (by decide)
  (λb o e=>az _ e) ⟨⟨_,aW _ rfl,rfl,rfl⟩,hL.at λo e=>az _ e⟩ q)
theorem dA(h:PE k mu env e (.list xs)):o8 k mu env e t [] xs:=⟨λz h=>(eo h),λ{z z z z z z} hA r q=>h.c hA r λ{z z z} z1 q1 r1=>Au r1 q1 λ{z z z} hit=>q hit z1⟩
theorem IsTuple.at{h h':dG}{a:ay}{vs:Array ai}(x:h.IsTuple a vs)(hk:∀o,h.get? a=ae o->h'.get? a=ae o):h'.IsTuple a vs:=x.imp λo w=>⟨hk o w.1,w.2⟩
theorem xy(h:PE k mu env e (.tup xs)):o8 k mu env e t [] xs:=⟨λz h=>(eo h),λ{A E Z s fr Q} hA r q=>by
 refine h.c hA r λ{x s1 Z1} z1 q1 r1=>dK (aZ.tup_inv q1) λa o vs n gi e1 hc hd hr=>?_;subst gi;have hL:s1.heap.IsTuple a vs:=⟨_,r1.zin _ _ e1,hc,n,hd⟩;exact ui hL (pL (c:="tuple_iterator") r1 (λA hh=>Walks.tuple hh s1.heap.objs.size a (c8 (bN (r1.zin _ _ e1))) vs) (b9 hr) (vI e1) (λi v x=>nB hr) (λi h hs=>hs.1.imp λz w=>⟨w.1,w.2.1⟩) (by decide)
  (λb o e=>az _ e) ⟨⟨_,aW _ rfl,rfl,rfl⟩,IsTuple.at hL λo e=>az _ e⟩ λ{z} hit r'=>q hit z1 r')⟩
noncomputable def rB(a b:Int):List V:=(aN (b - a).toNat).map λ(i:Nat)=> .int (a+i)
theorem s9(a b:Int):Builtin.Range.rangeSize a b 1=((b - a).toNat:Int):=by
 unfold Builtin.Range.rangeSize;refine aj (if_pos (by decide) ..) ?_
 split
 ·refine aj (Int.ediv_one ..) ?_;lia
 ·lia
theorem wI{a b:Int}(h1: -(2 ^ 60) < a)(h2:a < 2 ^ 60)(h3: -(2 ^ 60) < b)(h4:b < 2 ^ 60):EW a b 1=aJ:=by unfold EW;refine aj (s9 ..) ?_;simp only [Builtin.Range.rangeFitsLong,dQ,jV,decide_eq_true_eq,beq_iff_eq];refine ⟨⟨⟨⟨⟨by lia,by exact rt (by assumption) (by decide)⟩,by lia,by exact rt (by assumption) (by decide)⟩,by lia,by lia⟩,by lia,by lia⟩,.inr ?_⟩;refine aj (if_pos (by decide) ..) ?_;simp only [dQ,decide_eq_true_eq];lia
theorem N5{I:ay}(a:Int)(n:Nat)(hl:xs.length=n)(hx:∀(i:Nat) (x:V),xs[i]? =ae x->x=V.int (a+i)){Zf:bI}:∃it:Nat->cX,CQ I [] t xs it/\(it 0).own=[I]/\
 ∀(h:dG) (Z:bI),Zf.le Z->IsRangeIter h I a n 1->(it 0).sat Z h:=by
 refine ⟨_,CQ.ofWalks (Zf:=Zf) (c:="range_iterator") (λA hh=>Walks.range hh I a 1 n) hl (λb hb hn=>absurd (aA.mp hb) hn) (λi v x h1 h2=>by
  refine cJ h2 λtk iC=>?_;clear h2;subst iC;(refine aj (hx i x h1 ..) ?_;refine aj (Int.mul_one ..) ?_);exact aZ.int _ _) (λi h hs=>⟨_,hs,rfl⟩) (by decide),rfl,λh Z hz hi=>⟨hz,?_⟩⟩
 show IsRangeIter h I (a+((0:Nat):Int)*1) ((n:Int) - ((0:Nat):Int)) 1;refine aj (show a+((0:Nat):Int)*1=a from P0 a) ?_;refine aj (show (n:Int) - ((0:Nat):Int)=n from Int.sub_zero _) ?_;exact hi
theorem FA(a b:Int):(rB a b).length=(b - a).toNat:=by exact (ak ..).trans fq
theorem FB(a b:Int):∀(i:Nat) (x:V),(rB a b)[i]? =ae x->x=V.int (a+i):=λi x h=>by
 unfold rB at h;rw [aI] at h;refine aK (aL.mp h) λj hj kG=>?_;subst kG;have h2:=(aB.mp hj).2;simp at h2;subst h2;rfl
theorem xT{Z:bI}{s:aq}{nu:Mu}{a b:Int}{ob:oY}{A:bh}{E Q:ai->aq->Prop}{t1 t2 t3:HR}{tk:Nat}(r:R Z nu s)(ho:ob={cls:= .type "range",data:= .fields #[.int a t1,.int b t2,.int 1 t3]})
 (hs:EW a b 1=aJ) (q:∀{I it s'},CQ I [] t (rB a b) it->R Z (it 0::nu) s'->Q (.ref I) s'):aS (aX G.prog G.w) A (q8 (.ref s.heap.objs.size)) Q E {s with heap:=s.heap.push ob,toks:=tk}:=by
 subst ho;refine wpAny_pyIter_range (aW _ rfl) hs (aj (s9 ..) ?_);refine eg (N5 (t:=t) (I:=(s.heap.push {cls:= .type "range",data:= .fields #[.int a t1,.int b t2,.int 1 t3]}).objs.size) a (b - a).toNat (FA a b) (FB a b) (Zf:=Z)) λit hit qc Gz=>q hit (r.addNew (it 0) (λb o e=>az _ (az _ e)) (Gz _ _ .rfl (aW _ rfl)) (qc▸eh) λb hb=>?_);rw [qc] at hb;(refine aj (aA.mp hb ..) ?_;refine aj (fN ..) ?_);exact jD _
theorem qu{e1 e2:bH}{x:bb}{a b:Int}(hf:PE k mu env (.Name x p) (.type "range"))(h1:PE k mu env e1 (.int a))(h2:PE k mu env e2 (.int b))(ha: -(2 ^ 60) < a/\a < 2 ^ 60)(hb: -(2 ^ 60) < b/\b < 2 ^ 60)
 (zh:∀a p,e1≠ .Starred a p:=by intro z z h;cases h) (GB:∀a p,e2≠ .Starred a p:=by intro z z h;cases h):
 o8 k mu env (.Call (.Name x p) [e1,e2] [] pos) t [] (rB a b):=⟨λz h=>(eo h),λ{A E Z s fr Q} hA r q=>by
 refine sv hf (au h1 (au h2 aT GB) zh) zh hA r λ{vs s2 Z2} z2 q2 r2=>cC (q2.two) λv1 v2 ma q5 q6=>?_;subst ma;refine aZ.intC q5 λt1=>aZ.intC q6 λt2=>?_
 with_reducible refine call_range_2 ?_
 exact xT r2 rfl (wI ha.1 ha.2 hb.1 hb.2) λ{z z z} hit=>q hit z2⟩
theorem FD{e1:bH}{x:bb}{b:Int}(hf:PE k mu env (.Name x p) (.type "range"))(h1:PE k mu env e1 (.int b))(hb: -(2 ^ 60) < b/\b < 2 ^ 60)
 (zh:∀a p,e1≠ .Starred a p:=by intro z z h;cases h):o8 k mu env (.Call (.Name x p) [e1] [] pos) t [] (rB 0 b):=⟨λz h=>(eo h),λ{A E Z s fr Q} hA r q=>by
 refine sv hf (au h1 aT zh) zh hA r λ{vs s2 Z2} z2 q2 r2=>aK (q2.one) λv1 mE q5=>?_;subst mE;refine aZ.intC q5 λt1=>?_
 with_reducible refine call_range_1 ?_
 exact xT r2 rfl (wI (by decide) (by decide) hb.1 hb.2) λ{z z z} hit=>q hit z2⟩
theorem fK{e1:bH}{x:bb}{b:Int}{n:Nat}(hf:PE k mu env (.Name x p) (.type "range"))(h1:PE k mu env e1 (.int b))(hn:b=n)(hb:n < 2 ^ 60)
 (zh:∀a p,e1≠ .Starred a p:=by intro z z h;cases h):o8 k mu env (.Call (.Name x p) [e1] [] pos) t [] ((aN n).map λ(i:Nat)=>V.int i):=by
 have:=FD (t:=t) (pos:=pos) hf h1 (by lia) zh;subst hn;unfold rB at this;simpa using this
noncomputable def nC(x:bb):List V:=x.cps.toList.map λc=> .str ⟨#[c]⟩
theorem qv(x:bb):(x.cps.all (· < 128)=aJ/\vk x="str_ascii_iterator")\/(x.cps.all (· < 128)=aH/\vk x="str_iterator"):=by
 unfold vk;cases h:x.cps.all (· < 128)
 ·exact .inr ⟨rfl,by rfl⟩
 ·exact .inl ⟨rfl,by rfl⟩
theorem Kd{A:bh}(hh:A.handled=av)(I:ay)(x:bb)(tk:HR):Walks G.prog G.w A I [I] [I] x.cps.size (SignAt x) (λi h=>h.IsStrIter I (vk x) x tk i):=by
 rcases qv x with ⟨_,e⟩|⟨_,e⟩ <;> refine aj (e ..) ?_
 ·exact Walks.strAscii hh I x tk
 ·exact Walks.strWide hh I x tk
theorem tB(x:bb){i:Nat}{y:V}{v:ai}{Z:bI}(h:(nC x)[i]? =ae y)(hs:SignAt x i v):aZ G Z v y:=by refine eD hs λc u hc qY=>?_;clear hs;subst qY;unfold nC at h;rw [aI,bV,hc] at h;simp at h;subst h;exact aZ.str _ _
theorem N6{x:bb}(h:PE k mu env e (.str x)):o8 k mu env e t [] (nC x):=⟨λz h=>(eo h),λ{A E Z s fr Q} hA r q=>by
 exact h.c hA r λ{v s1 Z1} z1 q1 r1=>aZ.strC q1 λtk=>wpAny_pyIter_strU (pL (c:=vk x) r1 (λA hh=>Kd hh s1.heap.objs.size x tk) (by exact ak ..) (λb hb hn=>absurd (aA.mp hb) hn) (λi v y=>tB x)
  (λi h hs=>hs.imp λz w=>⟨w.1,w.2.1⟩) (by rcases qv x with ⟨_,e⟩|⟨_,e⟩ <;> refine aj (e ..) ?_ <;> decide) (λb o e=>az _ e) ⟨_,aW _ rfl,rfl,rfl⟩ λ{z} hit r'=>q hit z1 r')⟩
end
end
section
variable {k:Nat}{mu:Mu}{env:gP}{p pos:jB}{e t:bH}{xs:List V}
section
variable {tp:jB}{x:bb}{kk:Nat}{elts:List bH}
noncomputable def rC(xs:List V):List V:=xs.mapIdx λi x=> .tup [.int (i:Nat),x]
theorem HW(xs:List V):(rC xs).length=xs.length:=by simp [rC]
theorem HX(xs:List V){i:Nat}{y:V}(h:(rC xs)[i]? =ae y):∃x,xs[i]? =ae x/\y= .tup [.int (i:Nat),x]:=by unfold rC at h;rw [To] at h;exact aK (aL.mp h) λx h1 h2=>⟨x,h1,h2.symm⟩
def tC.S0(e0 it:ay)(fp:List ay)(St:Nat->dG->Prop)(Zf:bI)(_:Nat):Prop:=∀{tp:jB} {xs:List V} {kk:Nat} {elts:List bH} {n:Nat} {P:Nat->ai->Prop} (iP:e0≠it) (hfe:e0∉fp) (hif:it∈fp) (D:∀A:bh,A.handled=av->Draws G.prog G.w A it fp n P St) (hn:xs.length=n) (Fb:∀b∈fp,b≠it->∃o,Zf b=ae o) (hP:∀i v x,xs[i]? =ae x->P i v->aZ G Zf v x),∃I:Nat->cX,CQ e0 [] (.Tuple elts kk tp) (rC xs) I/\(I 0).own=[e0,it]/\∀(h:dG) (Z:bI),Zf.le Z->IsEnum h e0 it 0 .none->St 0 h->(I 0).sat Z h
namespace tC
@[irreducible] def e0:=Fl cL cL gD s7 Ra eO S0
def e0_:=e0.1
def sx:=e0.2.1
def fp_:=e0.2.2.1
def St_:=e0.2.2.2.1
def Zf_:=e0.2.2.2.2.1
theorem T0:S0 e0_ sx fp_ St_ Zf_ e0.2.2.2.2.2:=by
 intro tp xs kk elts n P iP hfe hif D hn Fb hP;refine ⟨_,CQ.ofWalksT (p:=tp) (elts:=elts) (kk:=kk) (Zf:=Zf_) (λA hh=>WalksT.enumerateD (D A.in1 hh) e0_ iP hfe hif) ((HW xs).trans hn) (λb hb hn=>?_) (λi bz x hx hp=>?_) (λi h hs b hb=>?_),rfl,λh Z hz h1 h2=>⟨hz,⟨_,h1⟩,h2⟩⟩
 ·rcases aP.mp hb with rfl|hb
  ·exact absurd aa hn
  ·exact Fb b hb λq=>hn (q▸ab _ aa)
 ·refine aK (HX xs hx) λy h1 dO=>?_;subst dO;refine eD hp λtk v hv eU=>?_;clear hp;subst eU;exact ⟨_,rfl,.cons (.int _ _) (.cons (hP i v y h1 hv) .nil)⟩
 ·rcases aP.mp hb with rfl|hb
  ·exact hs.1.elim λz ho=>⟨_,ho⟩
  ·exact aA.mp hb▸(D {} rfl).live i h hs.2
end tC
theorem tC{e0 it:ay}{fp:List ay}{St:Nat->dG->Prop}{Zf:bI}:tC.S0 e0 it fp St Zf 0:=by with_unfolding_all exact uA _ _ _ _ _ _ tC.S0 @tC.T0 e0 it fp St Zf 0
theorem vJ{Z:bI}{s:aq}{nu:Mu}{fp:List ay}{n:Nat}{P:Nat->ai->Prop}{St:Nat->dG->Prop}{A:bh}{E Q:ai->aq->Prop}(r:R Z nu s)(D:∀A:bh,A.handled=av->Draws G.prog G.w A s.heap.objs.size fp n P St)
 (hfe:s.heap.objs.size+1∉fp) (hif:s.heap.objs.size∈fp) (hn:xs.length=n) (Fb:∀b∈fp,b≠s.heap.objs.size->∃o,Z b=ae o) (hP:∀i v x,xs[i]? =ae x->P i v->aZ G Z v x)
 {h':dG} (he:IsEnum h' (s.heap.objs.size+1) s.heap.objs.size 0 .none) (h0:St 0 h') (hk:∀b o,s.heap.get? b=ae o->h'.get? b=ae o)
 (q:∀{I it s'},CQ I [] (.Tuple elts kk tp) (rC xs) it->R Z (it 0::nu) s'->Q (.ref I) s'):aS (aX G.prog G.w) A (q8 (.ref (s.heap.objs.size+1))) Q E {s with heap:=h'}:=by
 with_reducible refine wpAny_pyIter_enum he ?_
 refine eg (tC (xs:=xs) (Zf:=Z) (elts:=elts) (kk:=kk) (tp:=tp) (ot _) hfe hif D hn Fb hP) λit hit qc Gz=>q hit (r.addNew (tk:=s.toks) (it 0) hk (Gz _ _ .rfl he h0) ?_ λb hb=>?_)
 ·refine aj (qc ..) ?_;exact cj.mpr ⟨λh=>ot _ (aA.mp h),eh⟩
 ·rw [qc] at hb;rcases aP.mp hb with q|hb
  ·refine aj (q ..) ?_;exact jD _
  ·exact kX hb
theorem G3{I a:ay}(h:a < I):I+1∉[I,a]:=λq=>(aP.mp q).elim (ot _) λq=>jJ (cI h) (aA.mp q)
theorem HY{e1:bH}(hf:PE k mu env (.Name x p) (.type "enumerate"))(h1:PE k mu env e1 (.list xs))(zh:∀a p,e1≠ .Starred a p:=by intro z z h;cases h):
 o8 k mu env (.Call (.Name x p) [e1] [] pos) (.Tuple elts kk tp) [] (rC xs):=⟨λz h=>(eo h),λ{A E Z s fr Q} hA r q=>by
 refine sv hf (au h1 aT zh) zh hA r λ{vs s2 Z2} z2 q2 r2=>aK (q2.one) λv1 gi q5=>?_;subst gi;refine cE (rh.list q5) λa vs n iC e1 hr=>?_;subst iC;have hL:s2.heap.IsList a vs:=⟨_,r2.zin _ _ e1,rfl,n,rfl⟩;have SI:=bN (r2.zin _ _ e1);exact call_enumerate_list hL λh' he TU hsz hk=>vJ r2 (λA hh=>Draws.list hh s2.heap.objs.size a (c8 SI) vs) (G3 SI) aa (b9 hr) (vI e1) (λi v x=>nB hr) he ⟨TU,hL.at λo e=>hk _ _ e⟩ hk λ{z z z} hit=>q hit z2⟩
theorem Ke{A:bh}(hh:A.handled=av)(I:ay)(x:bb)(tk:HR):Draws G.prog G.w A I [I] x.cps.size (λi v=>∃c u,x.cps[i]? =ae c/\v= .str ⟨#[c]⟩ u) (λi h=>h.IsStrIter I (vk x) x tk i):=by
 rcases qv x with ⟨_,e⟩|⟨_,e⟩ <;> refine aj (e ..) ?_
 ·exact Draws.strAscii hh I x tk
 ·exact Draws.strWide hh I x tk
theorem HZ{e1:bH}{y:bb}(hf:PE k mu env (.Name x p) (.type "enumerate"))(h1:PE k mu env e1 (.str y))(zh:∀a p,e1≠ .Starred a p:=by intro z z h;cases h):
 o8 k mu env (.Call (.Name x p) [e1] [] pos) (.Tuple elts kk tp) [] (rC (nC y)):=⟨λz h=>(eo h),λ{A E Z s fr Q} hA r q=>by
 refine sv hf (au h1 aT zh) zh hA r λ{vs s2 Z2} z2 q2 r2=>aK (q2.one) λv1 kG q5=>?_;subst kG;exact aZ.strC q5 λtk=>call_enumerate_str λh' he TU hsz hk=>vJ r2 (λA hh=>Ke hh s2.heap.objs.size y tk) (λh=>ot _ (aA.mp h)) aa (by exact ak ..) (λb hb hn=>absurd (aA.mp hb) hn) (λi v x=>tB y) he TU hk λ{z z z} hit=>q hit z2⟩
theorem Av{α:Type}(l:List α)(inj:α->V):rC (l.map inj)=l.zipIdx.map λq=>V.tup [.int (q.2:Nat),inj q.1]:=by refine List.ext_getElem? λi=>?_;unfold rC;refine aj (To ..) ?_;refine aj (aI ..) ?_;refine aj (aI ..) ?_;refine aj (Tp ..) ?_;cases l[i]? <;> simp
theorem sy{α:Type}{e1:bH}{l:List α}{inj:α->V}(hf:PE k mu env (.Name x p) (.type "enumerate"))(h1:PE k mu env e1 (.list (l.map inj)))(zh:∀a p,e1≠ .Starred a p:=by intro z z h;cases h):
 o8 k mu env (.Call (.Name x p) [e1] [] pos) (.Tuple elts kk tp) [] (l.zipIdx.map λq=>V.tup [.int (q.2:Nat),inj q.1]):=by
 refine fZ (Av ..) ?_;exact HY hf h1 zh
theorem H1{e1:bH}{y:bb}(hf:PE k mu env (.Name x p) (.type "enumerate"))(h1:PE k mu env e1 (.str y))(zh:∀a p,e1≠ .Starred a p:=by intro z z h;cases h):
 o8 k mu env (.Call (.Name x p) [e1] [] pos) (.Tuple elts kk tp) [] (y.cps.toList.zipIdx.map λq=>V.tup [.int (q.2:Nat),.str ⟨#[q.1]⟩]):=by
 have:=HZ (elts:=elts) (kk:=kk) (tp:=tp) (pos:=pos) hf h1 zh;unfold nC at this
 rwa [Av] at this
def aZ.dict_inv.S0(Z:bI)(es:List (bb×V)):Prop:=∀{v:ai} (h:aZ G Z v (.dict es)),∃a o kvs,v= .ref a/\(a == lY)=aH/\Z a=ae o/\BB G o kvs/\kvs.map (·.1)=es.map (·.1)/\bW G Z (kvs.map (·.2)) (es.map (·.2))
namespace aZ.dict_inv
@[irreducible] def e0:=P8 Ra gD S0
def Z_:=e0.1
def es_:=e0.2
theorem T0:S0 Z_ es_:=by intro v h;cases h with|dict s e d k r=>exact ⟨_,_,_,rfl,s,e,d,k,r⟩
end aZ.dict_inv
theorem aZ.dict_inv{Z:bI}{es:List (bb×V)}:aZ.dict_inv.S0 Z es:=by with_unfolding_all exact Fk _ _ aZ.dict_inv.S0 @aZ.dict_inv.T0 Z es
theorem Kf{es:List (bb×V)}(h:PE k mu env e (.dict es)):o8 k mu env e t [] (es.map λq=> .str q.1):=⟨λz h=>(eo h),λ{A E Z s fr Q} hA r q=>by
 refine h.c hA r λ{x s1 Z1} z1 q1 r1=>wC (aZ.dict_inv q1) λa o kvs ma hq e1 mE hk hr=>?_;subst ma;refine Ao mE λd1 Nx ep d2 d3 d4 d5=>?_;clear mE;have ho:=r1.zin _ _ e1;refine wpAny_pyIter_dict hq (⟨o,Nx,ho,d1,d2,d3,d4,d5⟩:s1.heap.DictAt (strKind G.prog G.w) a kvs ep) (pL (c:="dict_keyiterator") r1 (λA hh=>Walks.dictKeys (knd:=strKind G.prog G.w) hh s1.heap.objs.size a (c8 (bN ho)) kvs ep) ?_ (vI e1) (λi v x hx hp=>?_)
  (λi h hs=>hs.1.imp λz w=>⟨w.1,w.2.1⟩) (by decide) (λb o e=>az _ e) ⟨⟨_,aW _ rfl,rfl,rfl⟩,o,Nx,az _ ho,d1,d2,d3,d4,d5⟩ λ{z} hit r'=>q hit z1 r')
 ·(refine aj (ak ..) ?_;refine fZ (ak (f:=(·.1)) ..) ?_;refine fZ (hk ..) ?_;refine aj (ak ..) ?_;rfl)
 ·refine eD hp λkey val h1 h2=>?_;clear hp;refine cJ (EX (show Value.isStrOf key v=aJ from h2)) λtk qY=>?_;subst qY;have h3:(es.map (·.1))[i]? =ae key:=by (refine fZ (hk ..) ?_;refine aj (aI ..) ?_;refine aj (h1 ..) ?_);rfl
  rw [aI] at h3 hx;refine aK (aL.mp h3) λq hq uc=>?_;subst uc;rw [hq] at hx
  (have lA:=aO hx;clear hx;subst lA)
  exact aZ.str _ _⟩
noncomputable def Kg(I a:ay)(i:Nat):cX where
 own:=[I]
 sat:=λZ h=>h.IsListIter I a i
 mono:=λZ Z' h hz s=>s
 loc:=λZ h h' hs hk z z=>hs.at λo e=>hk I aa o e
 live:=λZ h ⟨o,ho,_⟩ c hc=>by simp at hc;subst hc;exact ⟨o,ho⟩
theorem xU{I a:ay}(iP:a≠I):CQ I [bl a xs] t xs (Kg I a) where
 item:=λi x hx {A E Z s fr Q} hA hc r q=>by
  exact eD (r.sat _ (ab _ (hc _ aa))) λvs n h1 h2=>aK (h2.get hx) λv h3 h4=>zr (show s.heap.IsListIter I a i from r.sat _ aa) (⟨_,h1,rfl,n,rfl⟩:s.heap.IsList a vs) (bV.symm.trans h3) λh' hit hsb=>q λ{E T} p=>eg (id hit) λo ho hcl z=>wH (s:={s with heap:=h'}) ho hcl (by decide) (p .rfl h4 (r.upd' (x':=Kg I a (i+1)) (i:=0) (h':=h') (tk:=s.toks) rfl rfl (λb o hb e=>hsb.extBut b o (λq=>hb (q▸aa)) e) hit))
 done:=λ{A E Z s fr Q} hA hc r q=>by
  exact eD (r.sat _ (ab _ (hc _ aa))) λvs n h1 h2=>Ag hA.hh (show s.heap.IsListIter I a xs.length from r.sat _ aa) (⟨_,h1,rfl,n,rfl⟩:s.heap.IsList a vs) (P1 (ll (b9 h2).symm)) λh' hx=>q .rfl (r.dropUpd (tk:=s.toks) λb o hb e=>hx b o (λq=>hb (q▸aa)) e)
 self:=λi {A E Z s fr Q} hA r q=>wpAny_pyIter_listiter (r.sat _ aa) (q r)
theorem G4{a:ay}{A:bh}{E:ai->aq->Prop}{Z:bI}{s:aq}{fr:Mu}{Q:ai->aq->Prop}(h:PE k mu env e (.ref a))(hm:bl a xs∈mu)(hA:Rm k A)(r:R Z (mu++fr) s)
 (q:∀{I s' Z'},a≠I->Z.le Z'->R Z' (Kg I a 0::(mu++fr)) s'->Q (.ref I) s'):aS (aX G.prog G.w) A (dW e env) (λx s1=>aS (aX G.prog G.w) A (q8 x) Q E s1) E s:=by
 refine h.c hA r λ{x s1 Z1} z1 q1 r1=>aj (aZ.refE q1 ..) (eD (r1.sat _ (aE fr hm)) λvs n h1 h2=>?_);exact lr (⟨_,h1,rfl,n,rfl⟩:s1.heap.IsList a vs) (q (c8 (bN h1)) z1 (r1.addNew (tk:=s1.toks) (Kg s1.heap.objs.size a 0) (λb o e=>az _ e) (⟨_,aW _ rfl,rfl,rfl⟩:(s1.heap.push _).IsListIter s1.heap.objs.size a 0) eh λz h=>kX h))
theorem Aw{a:ay}(h:PE k mu env e (.ref a))(hm:bl a xs∈mu):o8 k mu env e t [bl a xs] xs:=⟨λo ho=>aA.mp ho▸hm,λ{z z z z z z} hA r q=>G4 h hm hA r λ{z z z} iP=>q (xU iP)⟩
end
variable {b:Bool}
noncomputable def Da(target:bH)(ip:jB)(ifs:List bH)(nh fin:oZ Fin)(it:ai)(env:gP):oZ Fin:=do
 iE ip
 match <- l0 it with
 |none=>dg (.done .next)
 |some v=>
  kJ target it v
  wu target env v
  let mut ok:=aJ
  for c in ifs do
   if ok then ok <- isTrue c env (dW c env)
  if ok then nh else fin
noncomputable def G5(elt:bH)(acc:ai)(env:gP):oZ Unit:=do let _ <- ku (.builtin "list.append") [acc,<- dW elt env]
noncomputable def Kh(ke ve:bH)(acc:ai)(env:gP):oZ Unit:=do
 let kv <- dW ke env
 let vv <- eW [kv] (dW ve env)
 match acc with
 | .ref d=>do
  iE {ke.pos with endLine:=ve.pos.endLine,endCol:=ve.pos.endCol}
  eW [kv,vv] (dictSet d kv vv)
 |_=>unsupported "internal:dictcomp"
noncomputable def Qd(e iter:bH)(acc:ai)(env:gP)(fin:oZ Fin):oZ Fin:=do
 let x <- dW iter env
 iE iter.pos
 let x <- bw iter env x
 let _ <- runOwn (.compStart e 1 (<- eW [x] (q8 x)) acc env) env
 fin
noncomputable def uF(e:bH)(d:Nat)(acc:ai)(env:gP)(em:oZ Unit)(it:ai):oZ Fin:=em >>=λz=>ND (.compLoop e d it acc env)
noncomputable def vK(e iter:bH)(acc:ai)(env:gP)(it:ai):oZ Fin:=Qd e iter acc env (ND (.compLoop e 0 it acc env))
structure TM(env:gP)(e:bH)(d:Nat)(acc:ai)(t:bH)(ip:jB)(ifs:List bH)(nh:ai->oZ Fin):Prop where
 tree:∀it,compTurn e d it acc env=Da t ip ifs (nh it) (ND (.compLoop e d it acc env)) it env
 fr:∀it,(Tq e d it acc env).isFrame=aH/\(Fg e d it acc env).isFrame=aH
 q:∀it,(Fg e d it acc env).quiet=aJ
 u:∀(A:bh) it,A.under (.compStart e d it acc env)=A/\A.under (.compLoop e d it acc env)=A
theorem Ki{elt target iter:bH}{ifs:List bH}{scope:eN}{pos:jB}{acc:ai}{env:gP}:TM env (.ListComp elt [⟨target,iter,ifs,0⟩] scope pos) 0 acc target iter.pos ifs (uF (.ListComp elt [⟨target,iter,ifs,0⟩] scope pos) 0 acc env (G5 elt acc env)):=
 ⟨λz=>by rfl,λz=>⟨rfl,rfl⟩,λz=>rfl,λz z=>⟨rfl,rfl⟩⟩
theorem N7{elt target iter sJ fc:bH}{ifs oa:List bH}{scope:eN}{pos:jB}{acc:ai}{env:gP}:TM env (.ListComp elt [⟨target,iter,ifs,0⟩,⟨sJ,fc,oa,0⟩] scope pos) 0 acc target iter.pos ifs (vK (.ListComp elt [⟨target,iter,ifs,0⟩,⟨sJ,fc,oa,0⟩] scope pos) fc acc env):=
 ⟨λz=>by rfl,λz=>⟨rfl,rfl⟩,λz=>rfl,λz z=>⟨rfl,rfl⟩⟩
theorem N8{elt target iter sJ fc:bH}{ifs oa:List bH}{scope:eN}{pos:jB}{acc:ai}{env:gP}:TM env (.ListComp elt [⟨target,iter,ifs,0⟩,⟨sJ,fc,oa,0⟩] scope pos) 1 acc sJ fc.pos oa (uF (.ListComp elt [⟨target,iter,ifs,0⟩,⟨sJ,fc,oa,0⟩] scope pos) 1 acc env (G5 elt acc env)):=
 ⟨λz=>by rfl,λz=>⟨rfl,rfl⟩,λz=>rfl,λz z=>⟨rfl,rfl⟩⟩
theorem Ri{ke ve target iter:bH}{ifs:List bH}{scope:eN}{pos:jB}{acc:ai}{env:gP}:TM env (.DictComp ke ve [⟨target,iter,ifs,0⟩] scope pos) 0 acc target iter.pos ifs (uF (.DictComp ke ve [⟨target,iter,ifs,0⟩] scope pos) 0 acc env (Kh ke ve acc env)):=
 ⟨λz=>by rfl,λz=>⟨rfl,rfl⟩,λz=>rfl,λz z=>⟨rfl,rfl⟩⟩
noncomputable def Qe(env:gP)(ifs:List bH):oZ Bool:=forIn ifs aJ λc r=>if r=aJ then do let ok <- isTrue c env (dW c env);dg (GM ok) else dg (GM r)
abbrev w0(k:Nat)(mu:Mu)(env:gP)(ifs:List bH)(b:Bool):Prop:=WB k mu (Qe env ifs) b
theorem dk:w0 k mu env [] aJ:=⟨λ{z z z z z z} hA r q=>wpAny_tests_nil (q .rfl r)⟩
theorem fS{c:bH}(h:PT k mu env c b):w0 k mu env [c] b:=⟨λ{z z z z z z} hA r q=>wpAny_tests_one (h.c hA r q)⟩
structure JL(k:Nat)(mu:Mu)(env:gP)(e:bH)(d:Nat)(acc:ai)(t:bH)(ctx:Mu)(xs:List V)(Ψ:Mu->Prop):Prop where
 c:∀{A:bh} {Z:bI} {s:aq} {fr:Mu} {I:ay} {it:Nat->cX} {T:wz->aq->Prop},Rm k A->CQ I ctx t xs it->(∀o∈ctx,o∈mu++fr)->R Z (it 0::(mu++fr)) s->
  (∀{s' Z' nu},Z.le Z'->R Z' (nu++fr) s'->Ψ nu->T (.ok .next) s')->iV (aX G.prog G.w) A (.compStart e d (.ref I) acc env) T s
theorem FE{prog:dJ}{w:ee}{A:bh}{R:wz->aq->Prop}{s:aq}{e:bH}{d:Nat}{it acc:ai}{env:gP}{g:kS}(hg:(Nb e)[d]? =ae g)(ha:(g.is_async != 0)=aH)(iD:(Tq e d it acc env).isFrame=aH)
 (h0:iV (aX prog w) A (.compLoop e d it acc env) R s) (h:∀E,aS (aX prog w) A (q8 it) (λit' s'=>iV (aX prog w) A (.compLoop e d it' acc env) R s') E s) (hq:∀it',(Fg e d it' acc env).quiet=aJ)
 (hu:A.under (.compStart e d it acc env)=A):iV (aX prog w) A (.compStart e d it acc env) R s:=by
 refine kK (aj (hu ..) ?_);show aS _ _ (if (Tq e d it acc env).isFrame then (tv e d it acc env).onRaise (Jv env) else (tv e d it acc env).onRaise (λx=>do noteFrame x env;iE theWindowsPlace)) _ _ s;refine aj (iD ..) ?_;refine aj (if_neg cF ..) ?_;refine wpAny_notedAt ?_;unfold tv;refine aj (hg ..) ?_;refine aj (if_neg (show ¬(_=aJ) from λe=>absurd (ha.symm.trans e) cF) ..) ?_;show aS _ _ (ask >>=_) _ _ s;refine ag (gC (wpAny_ite ?_))
 split
 ·first
   |exact ag (ar (ar (NG (hq _) h0)))
   |exact ar (NG (hq _) h0)
 ·refine ag (oh ?_);refine ag (iH ?_);exact ag (eS (h _) (λit' s' h'=>ar (NG (hq _) h')) λz z x=>x)
abbrev WBf(k:Nat)(mu:Mu)(bf:oZ Fin)(c:Code)(Ψ:Mu->Prop):Prop:=Wu k mu bf (.again c) Ψ
theorem WU.bf{d:Nat}{acc it:ai}{t:oZ Unit}{Ψ:Mu->Prop}(h:WU k mu t Ψ):WBf k mu (uF e d acc env t it) (.compLoop e d it acc env) Ψ:=⟨λ{y y y y y y} hA r q=>ag (h.c hA r λ{y y y} z r w=>ar (q z r w))⟩
def Le(nu nu':Mu):Prop:=∀Z s fr,R Z (nu++fr) s->R Z (nu'++fr) s
theorem H2{prog:dJ}{w:ee}{A:bh}{T:wz->aq->Prop}{s:aq}{d:Nat}{acc it:ai}{ip:jB}{ifs:List bH}{nh:ai->oZ Fin}(K:TM env e d acc t ip ifs nh)(I:Nat->aq->Prop)
 (turn:∀n s,I n s->∀{E:ai->aq->Prop} {Q:Option ai->aq->Prop},(∀{s1},T (.ok .next) s1->Q av s1)->
  (∀{v s1},(∀{E:ai->aq->Prop} {F:Bool->aq->Prop},(∀{s2},aS (aX prog w) A (nh it) (λfin s3=>fin= .again (.compLoop e d it acc env)/\∃m,m < n/\I m s3) E s2->F aJ s2)->(∀{s2},(∃m,m < n/\I m s2)->F aH s2)->
   aS (aX prog w) A (kJ t it v) (λz s2=>aS (aX prog w) A (wu t env v) (λz s3=>aS (aX prog w) A (Qe env ifs) F E s3) E s2) E s1)->Q (ae v) s1)->
  aS (aX prog w) A (l0 it) Q E s) (n:Nat) (h:I n s):iV (aX prog w) A (.compLoop e d it acc env) T s:=by
 refine codeAny_loop (K.q _) I (λn s h=>?_) n h;refine aj ((K.u A _).2) ?_;show aS _ A (if (Fg e d it acc env).isFrame then (compTurn e d it acc env).onRaise (Jv env) else (compTurn e d it acc env).onRaise (λx=>do noteFrame x env;theTreesLotGoes x)) _ _ s;refine aj ((K.fr _).2) ?_;refine aj (if_neg cF ..) ?_;refine wpAny_noted (aj (K.tree ..) ?_);unfold Da;refine ag (iH (ag (turn n s h (λ{z} h=>ar h) λ{v s1} h=>ag (eS (h (λ{s2} h=>?_) λ{s2} h=>?_) (λz s2 h=>ag (eS h (λz s3 h=>ag h) λz z e=>e)) λz z e=>e))))
 ·exact eS h (λfin s3 h=>h.1▸⟨rfl,h.2⟩) λz z e=>e
 ·exact ar ⟨rfl,h⟩
theorem rD{d:Nat}{acc:ai}{ip:jB}{ifs:List bH}{g:kS}{ctx:Mu}{Ψ:Mu->Prop}{nh:ai->oZ Fin}(K:TM env e d acc t ip ifs nh)(hk:1<=k)(hg:(Nb e)[d]? =ae g)(ha:(g.is_async != 0)=aH)
 (Inv:Nat->Mu->Prop) (h0:Inv 0 mu) (qX:∀i nu,Inv i nu->∀o∈ctx,o∈nu)
 (step:∀i x nu,xs[i]? =ae x->Inv i nu->mJ k nu env t x λrq=>∃b,w0 k rq env ifs b/\(b=aH->∃ub,Le rq ub/\Inv (i+1) ub)/\(b=aJ->∀it,WBf k rq (nh it) (.compLoop e d it acc env) (Inv (i+1))))
 (fin:∀nu,Inv xs.length nu->Ψ nu):JL k mu env e d acc t ctx xs Ψ:=⟨λ{A Z s fr I it T} hA hit hc r q=>by
 have loop:∀{s},R Z (it 0::(mu++fr)) s->iV (aX G.prog G.w) A (.compLoop e d (.ref I) acc env) T s:=λ{y} r=>by
  refine H2 K (BI Z Inv xs.length it fr) (λn s' h {E Q} hn hs=>?_) (xs.length+1) ⟨0,Z,mu,rfl,gp _,.rfl,r,h0⟩
  revert hs
  refine h.by ?_ ?_
  ·intro i Z' nu hi z r inv hs;refine hit.item i _ (bJ hi) (hA.le hk) (λo ho=>aE _ (qX i nu inv o ho)) r λ{v s3} h3=>hs λ{E F} ft ff=>h3 λ{s4 Z4} z4 hv r4=>(step i _ nu (bJ hi) inv).c hA (r4.perm cu.symm) hv λ{s5 Z5 nu5} z5 r5 w5=>eg w5 λb hifs hf ht=>?_;clear w5;refine hifs.c hA r5 λ{s6 Z6} z6 r6=>?_;have zz:=z.trans (z4.trans (z5.trans z6));cases b with
   |false=>exact aK (hf rfl) λnu6 hle hf=>ff (BI.lt hi zz (hle _ _ _ r6) hf)
   |true=>exact ft ((ht rfl (.ref I)).c hA r6 λ{y y y} z7 r7 w7=>⟨rfl,BI.lt hi (zz.trans z7) r7 w7⟩)
  ·intro Z' nu z r inv y;exact hit.done (hA.le hk) (λo ho=>aE _ (qX _ nu inv o ho)) r λ{y y} z3 r3=>hn (q (z.trans z3) r3 (fin nu inv))
 exact FE hg ha (K.fr _).1 (loop r) (λE'=>hit.self 0 (hA.le hk) r λ{y} r1=>loop r1) K.q (K.u A _).1⟩
theorem Ax{A:bh}{E:ai->aq->Prop}{Z:bI}{s:aq}{fr nu:Mu}{v:ai}{a:ay}{ys:List V}{i:Nat}{y:V}{Q:ai->aq->Prop}(r:R Z (nu++fr) s)(hi:nu[i]? =ae (bl a ys))(hl:ys.length < 2 ^ 22)(hv:aZ G Z v y)
 (q:∀{s'},R Z (nu.set i (bl a (ys++[y]))++fr) s'->Q .none s'):aS (aX G.prog G.w) A (ku (.builtin "list.append") [.ref a,v]) Q E s:=by
 have hi':=cG (fr:=fr) hi;obtain ⟨vs,n,h2,h3⟩:=r.sat _ (ao hi');have hsz:vs.size<=er:=by refine fZ (b9 h3 ..) ?_;show _<=2 ^ 24;exact aw (eB (by assumption)) (by decide)
 refine wpAny_list_append_plain (⟨n,h2⟩:s.heap.PlainList a vs) (λh' hp hs=>q ?_) hsz;obtain ⟨m,hp⟩:=hp;exact fZ (gE hi ..) (r.upd' (tk:=s.toks) hi' rfl (λb o hb e=>hs.extBut b o (λq=>hb (q▸aa)) e) ⟨_,m,hp,by refine aj (CB ..) ?_;exact h3.snoc hv⟩)
theorem vL{a:ay}{ys:List V}{i:Nat}{elt:bH}{Ψ:Mu->Prop}(h:WE k mu env elt λy nu=>nu[i]? =ae (bl a ys)/\ys.length < 2 ^ 22/\Ψ (nu.set i (bl a (ys++[y])))):WU k mu (G5 elt (.ref a) env) Ψ:=⟨λ{A E Z s fr Q} hA r q=>by
 unfold G5;exact ag (h.c hA r λ{z z z z z} z1 q1 r1 w=>ag (Ax r1 w.1 w.2.1 q1 λ{z} r2=>ar (q z1 r2 w.2.2)))⟩
variable {Z:bI}{s:aq}
noncomputable def aM:Nat->List (bb×CC)->zx
 |_,[]=>[]
 |n,(x,.cell)::r=>(x,ae n)::aM (n+1) r
 |n,(x,.local)::r=>(x,av)::aM n r
 |n,(_,_)::r=>aM n r
noncomputable def nones(lay:zx):d9:=lay.map λz=>av
theorem mW(n:Nat)(x:bb)(kd:CC)(r:List (bb×CC)):aM n ((x,kd)::r)=if kd= .cell then (x,ae n)::aM (n+1) r else if kd= .local then (x,av)::aM n r else aM n r:=by cases kd <;> rfl
theorem tD(names:List (bb×CC)):∀(n:Nat),∀b∈(aM n names).filterMap (·.2),n<=b:=by
 induction names with
 |nil=>exact λz z h=>eo h
 |cons q r ih=>
  intro n b h;rw [mW] at h
  split at h
  ·rcases aP.mp (show b∈n::(aM (n+1) r).filterMap (·.2) from h) with rfl|h'
   ·exact bp _
   ·exact ni (ih (n+1) b h')
  ·split at h
   ·exact ih n b h
   ·exact ih n b h
theorem zK(names:List (bb×CC)):∀(n:Nat),((aM n names).filterMap (·.2)).Nodup:=by
 induction names with
 |nil=>exact λz=> .nil
 |cons q r ih=>
  intro n;refine aj (mW ..) ?_
  split
  ·exact cj.mpr ⟨λh=>Ts n (tD r (n+1) n h),ih (n+1)⟩
  ·split
   ·exact ih n
   ·exact ih n
theorem zL(names:List (bb×CC)):∀n m:Nat,(aM n names).map (·.1)=(aM m names).map (·.1):=by
 induction names with
 |nil=>exact λz z=>rfl
 |cons q r ih=>
  intro n m;refine aj (mW ..) ?_;refine aj (mW ..) ?_
  split
  ·exact congrArg (List.cons q.1) (ih _ _)
  ·split
   ·exact congrArg (List.cons q.1) (ih _ _)
   ·exact ih n m
theorem zM{Z:bI}{m:bb->Option ai}(names:List (bb×CC)):∀(h:dG),ea Z (pushCells h names) m (aM h.objs.size names) (nones (aM h.objs.size names)):=by
 induction names with
 |nil=>exact λz z z z e=>gK e
 |cons q r ih=>
  intro h;obtain ⟨x,kd⟩:=q;cases kd
  case cell=>show ea Z (pushCells (h.push {cls:= .type "cell",data:= .cell av}) r) m ((x,ae h.objs.size)::aM (h.objs.size+1) r) (av::nones (aM (h.objs.size+1) r));have ih:=ih (h.push {cls:= .type "cell",data:= .cell av});rw [fN] at ih;exact .cons ⟨av,_,P2 r _ _ _ (aW _ rfl),rfl⟩ ih
  case «local»=>exact .cons (c:=av) (o:=av) trivial (ih h)
  all_goals exact ih h
section
variable {M:xl}{A:bh}{E:ai->aq->Prop}
theorem Ay{scope:eN}{cls:String}(r:R Z mu s)(hnd:(aM 0 scope.names).nd):
 R Z (bq s.heap.objs.size (aM (s.heap.objs.size+1) scope.names) (nones (aM (s.heap.objs.size+1) scope.names))::mu)
  {s with heap:=pushCells (s.heap.push {cls:= .type cls,data:= .dict #[]}) scope.names}:=by
 have hsz:(s.heap.push {cls:= .type cls,data:= .dict #[]}).objs.size=s.heap.objs.size+1:=fN ..;refine r.addNew (tk:=s.toks) _ (λb o e=>P2 _ _ b o (az _ e)) ⟨?_,λz=>av,(Heap.Ns.new s.heap (.type cls)).keeps (P2 _ _),?_⟩ ?_ ?_
 ·unfold zx.nd;refine aj (zL _ _ 0 ..) ?_;exact hnd
 ·have:=zM (Z:=Z) (m:=λz=>av) scope.names (s.heap.push {cls:= .type cls,data:= .dict #[]});rw [hsz] at this;exact this
 ·refine cj.mpr ⟨λh=>?_,zK _ _⟩;exact Ts _ (tD _ _ _ h)
 ·intro b hb;rcases aP.mp hb with rfl|hb
  ·exact bp _
  ·exact ni (tD _ _ _ hb)
theorem H3{scope:eN}{globals:ay}{cl:List (bb×ay)}{qual:bb}{env:gP}{Q:gP->aq->Prop}(r:R Z mu s)(hnd:(aM 0 scope.names).nd)
 (h:∀s',s'.toks=s.toks->R Z (bq s.heap.objs.size (aM (s.heap.objs.size+1) scope.names) (nones (aM (s.heap.objs.size+1) scope.names))::mu) s'->
  Q (newEnv scope s.heap.objs.size globals (xm (s.heap.objs.size+1) scope.names cl) qual av .none (ae env) builtinsNs) s'):
 aS M A (CD scope globals cl [] qual av .none (ae env)) Q E s:=by
 simp only [CD,Option.isSome_some,if_true];refine ag (vm ?_);refine ag (wpAny_layCells _ (λname kind cells=>by cases hkc:kind == NameKind.cell <;> simp [hkc]) _ _ _ _ ?_);refine aj (show ({s with heap:=s.heap.push {cls:= .type "dict",data:= .dict #[]}}:aq).heap.objs.size=s.heap.objs.size+1 from fN ..) (ag ?_);exact aj (List.forIn_nil ..) (ar (ar (h _ rfl (Ay r hnd))))
inductive i9(env:gP)(L:ay)(lay:zx):List bb->List V->d9->d9->Prop
 |nil {bz:_}:i9 env L lay [] [] bz bz
 |cons {x j y xs ys bz vals':_}:Sl env L lay x j->(env.kindOf x == ae .free)=aH->i9 env L lay xs ys (bz.set j (ae y)) vals'->i9 env L lay (x::xs) (y::ys) bz vals'
theorem FF{L:ay}{lay:zx}(he:du env)(f:bb×ai->PUnit->oZ (ForInStep PUnit))(hf:∀n v u,f (n,v) u=(do storeName env n v;dg (.yield ⟨⟩))){xs:List bb}{ys:List V}{bz vals':d9}{vs:List ai}{s:aq}{Q:PUnit->aq->Prop}
 (b:i9 env L lay xs ys bz vals') (hv:bW G Z vs ys) (r:R Z (bq L lay bz::mu) s) (h:∀s',R Z (bq L lay vals'::mu) s'->Q ⟨⟩ s'):aS (aX G.prog G.w) A (forIn (xs.zip vs) ⟨⟩ f) Q E s:=by
 induction b generalizing vs s with
 |nil=>refine aj (hv.nil_inv ..) ?_;show aS _ _ (forIn [] _ _) _ _ _;refine aj (List.forIn_nil ..) ?_;exact ar (h s r)
 |@cons x j y xs ys bz vals' sl Cw b ih=>obtain ⟨v,vs,rfl,hv,hr⟩:=hv.cons_inv;have Cw:env.kindOf x≠ae .free:=beq_eq_false_iff_ne.mp Cw;show aS _ _ (forIn ((x,v)::xs.zip vs) _ _) _ _ _;refine aj (List.forIn_cons ..) ?_;refine aj (hf ..) ?_;exact ag (ag (xQ (fr:=mu) (i:=0) (mu:=[bq L lay _]) r he sl rfl Cw hv λs' r'=>ar (ih hr r' h)))
theorem pM{scope:eN}{globals:ay}{cl:List (bb×ay)}{qual:bb}{func:Option ay}{code:ai}{builtins:ay}{Q:gP->aq->Prop}{xs:List bb}{ys:List V}{vals':d9}{vs:List ai}(r:R Z mu s)(hnd:(aM 0 scope.names).nd)
 (he:du (newEnv scope s.heap.objs.size globals (xm (s.heap.objs.size+1) scope.names cl) qual func code av builtins)) (hv:bW G Z vs ys)
 (hb:i9 (newEnv scope s.heap.objs.size globals (xm (s.heap.objs.size+1) scope.names cl) qual func code av builtins) s.heap.objs.size (aM (s.heap.objs.size+1) scope.names) xs ys (nones (aM (s.heap.objs.size+1) scope.names)) vals')
 (h:∀s',R Z (bq s.heap.objs.size (aM (s.heap.objs.size+1) scope.names) vals'::mu) s'->
  Q (newEnv scope s.heap.objs.size globals (xm (s.heap.objs.size+1) scope.names cl) qual func code av builtins) s'):
 aS (aX G.prog G.w) A (CD scope globals cl (xs.zip vs) qual func code av builtins) Q E s:=by
 simp only [CD,Ah,dj,if_false];refine ag (vm ?_);refine ag (wpAny_layCells _ (λname kind cells=>by cases hkc:kind == NameKind.cell <;> simp [hkc]) _ _ _ _ ?_);exact aj (show ({s with heap:=s.heap.push {cls:= .type "frame",data:= .dict #[]}}:aq).heap.objs.size=s.heap.objs.size+1 from fN ..) (ag (FF (env:=newEnv scope s.heap.objs.size globals (xm (s.heap.objs.size+1) scope.names cl) qual func code av builtins) he _ (λz z z=>rfl) hb hv (Ay r hnd) λs' r'=>ar (h s' r')))
end
variable {nu:Mu}{D:ay}{Θ:V->Mu->Prop}
structure fL(D:ay)(nu:Mu)(Θ:V->Mu->Prop):Prop where
 c:∀{Z:bI} {s:aq} {fr:Mu} {T:Prop},R Z (nu++fr) s->(∀{Z' y nu'},Z.le Z'->aZ G Z' (.ref D) y->R Z' (nu'++fr) s->Θ y nu'->T)->T
theorem fL.ref(h:Θ (.ref D) nu):fL D nu Θ:=⟨λ{z z z z} r q=>q .rfl (.ref D) r h⟩
theorem R.freezeHd{x:cX}{o:oY}(r:R Z (x::mu) s)(ha:s.heap.get? D=ae o)(hD:D∈x.own):R (Z.put D o) mu s/\Z.le (Z.put D o):=by have hz:Z D=av:=r.sep D (aE (gU mu) hD);refine ⟨r.drop.freeze ha hz λh=>?_,bI.le_put hz⟩;exact (bP.mp (show (x.own++gU mu).Nodup from r.nodup)).2.2 D hD D h rfl
theorem fL.list{ys:List V}(h:Θ (.list ys) mu):fL D (bl D ys::mu) Θ:=⟨λ{Z s fr T} r q=>by
 exact eD (r.sat _ aa) λvs n h1 h2=>dU (R.freezeHd (show R Z (bl D ys::(mu++fr)) s from r) h1 aa) λr' z'=>q z' (.list (bI.put_self ..) (h2.mono z')) r' h⟩
theorem fL.dict{es:List (bb×V)}(h:Θ (.dict es) mu):fL D (cD D es::mu) Θ:=⟨λ{Z s fr T} r q=>by
 refine qo (r.sat _ aa) λw kvs dO f g=>cE dO λo Nx ep h1 d1 d=>?_;clear dO;exact dU (R.freezeHd (show R Z (cD D es::(mu++fr)) s from r) h1 aa) λr' z'=>q z' (.dict w (bI.put_self ..) ⟨d1,_,_,d⟩ f (g.mono z')) r' h⟩
noncomputable abbrev o9(scope:eN)(cl:List (bb×ay))(C:ay)(env:gP):gP:=compEnvC scope (xm (C+1) scope.names cl) C env
noncomputable abbrev nD(scope:eN)(C:ay)(bz:d9):cX:=bq C (aM (C+1) scope.names) bz
noncomputable abbrev uG(scope:eN)(C:ay):cX:=nD scope C (nones (aM (C+1) scope.names))
structure Acc(pv:oZ ai)(z9:ay->cX):Prop where
 c:∀{A:bh} {E:ai->aq->Prop} {Z:bI} {s:aq} {mu:Mu} {Q:ai->aq->Prop},R Z mu s->(∀{D s'},R Z (z9 D::mu) s'->Q (.ref D) s')->aS (aX G.prog G.w) A pv Q E s
theorem uH:Acc (newList []) (λD=>bl D []):=⟨λ{A E Z s mu Q} r q=>
 jg (q (r.addNew (tk:=s.toks) _ (λb o e=>az _ e) ⟨#[],0,aW _ rfl,.nil⟩ eh λz h=>kX h))⟩
structure E7(scope:eN)(env:gP)(cl:List (bb×ay)):Prop where
 clos:closureFor scope env=dg cl
 kind:scope.kind= .function
 names:∀x∈scope.names,x.2= .local->scope.names.lookup x.1=ae .local
 nd:(aM 0 scope.names).nd
theorem Dc{A:bh}{E:ai->aq->Prop}{fr:Mu}{scope:eN}{cl:List (bb×ay)}{g:kS}{gs:List kS}{pv:oZ ai}{z9:ay->cX}{ctx:Mu}{use:Option (ai->oZ Unit)}{Q:ai->aq->Prop}{Ψ:ay->Mu->Prop}
 (hcl:Nb e=g::gs) (hs:∀x,bw g.iter env x=dg x) (sc:E7 scope env cl) (EM:Acc pv z9) (src:o8 k mu env g.iter t ctx xs)
 (body:∀C D,JL k (uG scope C::z9 D::mu) (o9 scope cl C env) e 0 (.ref D) t ctx xs λnu=>∃bz nu',nu=nD scope C bz::nu'/\Ψ D nu')
 (hA:Rm k A) (r:R Z (mu++fr) s)
 (fin:∀{C D Z' bz nu' s'},Z.le Z'->Ψ D nu'->R Z' (nD scope C bz::(nu'++fr)) s'->compPost (aX G.prog G.w) A E use Q (.ref D) C (.ok .next) s'):
 aS (aX G.prog G.w) A (comprehension e scope env pos pv aH (dW g.iter env) use) Q E s:=by
 refine wpAny_comprehension_free hcl hs sc.clos sc.kind sc.names (src.c hA r λ{I it s2 Z2} hit z2 r2=>EM.c r2 λ{D s3} r3=>H3 r3 sc.nd λs4 z r4=>?_);refine (body s3.heap.objs.size D).c hA hit (λo ho=>aE fr (ab _ (ab _ (src.has o ho)))) (r4.perm (((jh _ _ _).cons _).trans (jh _ _ _))) λ{s5 Z5 nu} z5 r5 w5=>eD w5 λbz nu' eU w=>?_;clear w5;subst eU;have:=fin (z2.trans z5) w r5;cases use <;> exact this
theorem Kj{scope:eN}{C:ay}{bz:d9}(r:R Z (nD scope C bz::mu) s):∃m,s.heap.Ns C m:=(r.sat _ aa).2.imp λz w=>w.1
theorem Dd{scope:eN}{C:ay}{bz:d9}{h':dG}(r:R Z (nD scope C bz::mu) s)(hs:ji C s.heap h'):R Z mu {s with heap:=h'}:=
 r.dropUpd (tk:=s.toks) λb o hb e=>hs.extBut b o (λq=>hb (q▸aa)) e
theorem xA{scope:eN}{cl:List (bb×ay)}{g:kS}{gs:List kS}{pv:oZ ai}{z9:ay->cX}{ctx:Mu}
 (hcl:Nb e=g::gs) (hs:∀x,bw g.iter env x=dg x) (sc:E7 scope env cl) (EM:Acc pv z9) (src:o8 k mu env g.iter t ctx xs)
 (body:∀C D,JL k (uG scope C::z9 D::mu) (o9 scope cl C env) e 0 (.ref D) t ctx xs λnu=>∃bz nu',nu=nD scope C bz::nu'/\fL D nu' Θ):
 WV k mu (comprehension e scope env pos pv aH (dW g.iter env)) Θ:=⟨λ{A E Z s fr Q} hA r q=>
 Dc (use:=av) hcl hs sc EM src body hA r λ{C D Z' bz nu' s'} z' w r'=>by
  exact cJ (Kj r') λm hm=>⟨m,hm,λh' ua=>w.c (Dd r' ua) λ{z z z} z2=>q (z'.trans z2)⟩⟩
theorem G6{scope:eN}{cl:List (bb×ay)}{g:kS}{gs:List kS}{pv:oZ ai}{z9:ay->cX}{ctx:Mu}{y:bb}{py spos:jB}{Φ:AF->Mu->Prop}
 (SJ:xk e (ae (.Name y py)) spos.line env=dg aJ)
 (hev:∀u,evalThenUse e env u=(do let _ <- comprehension e scope env pos pv aH (dW g.iter env) (ae u)))
 (hcl:Nb e=g::gs) (hs:∀x,bw g.iter env x=dg x) (sc:E7 scope env cl) (EM:Acc pv z9) (src:o8 k mu env g.iter t ctx xs)
 (body:∀C D,JL k (uG scope C::z9 D::mu) (o9 scope cl C env) e 0 (.ref D) t ctx xs λnu=>∃bz nu',nu=nD scope C bz::nu'/\fL D nu' λv nu=>mJ k nu env (.Name y py) v (Φ .next)):
 WX k mu env (.Assign [.Name y py] e spos) Φ:=⟨λ{A E Z s fr Q} hA r q=>by
 refine aj (exec_Assign_Name_used _ _ _ _ SJ ..) (ag (iH (ag ?_)));refine aj (hev ..) (ag (Dc (use:=ae (wu (.Name y py) env)) hcl hs sc EM src body hA r λ{C D Z' bz nu' s'} z' w r'=>?_));refine w.c (r'.perm cu.symm) λ{Z2 v ub} z2 q2 r2 w2=>w2.c hA r2 q2 λ{s3 Z3 TV} z3 r3 w3=>?_;have r3':=r3.perm cu;exact cJ (Kj r3') λm hm=>⟨m,hm,λh' ua=>ar (ar (q (z'.trans (z2.trans z3)) .next (Dd r3' ua) w3))⟩⟩
theorem Wu.weak{α:Type}{bf:oZ α}{c:α}{Ψ Ψ':Mu->Prop}(h:Wu k mu bf c Ψ)(hi:∀nu,Ψ nu->∃nu',Le nu nu'/\Ψ' nu'):Wu k mu bf c Ψ':=⟨λ{y y y y y y} hA r q=>h.c hA r λ{y y y} z r w=>(hi _ w).elim λy l=>q z (l.1 _ _ _ r) l.2⟩
theorem ea.nones{h:dG}{m:bb->Option ai}{lay:zx}{bz:d9}(s:ea Z h m lay bz):ea Z h m lay (nones lay):=λj x c e=>(s j x c e).elim λz w=>⟨av,by unfold Mine.Internal.nones;(refine aj (aI ..) ?_;refine aj (e ..) ?_);rfl,w.2.forget⟩
theorem Le.forget{L:ay}{lay:zx}{bz:d9}:Le (bq L lay bz::mu) (bq L lay (nones lay)::mu):=λZ s fr r=>by
 exact mH (r.sat _ aa) λhnd m hn hs=>r.upd' (x':=bq L lay (nones lay)) (i:=0) (h':=s.heap) (tk:=s.toks) rfl rfl (λz z z e=>e) ⟨hnd,m,hn,hs.nones⟩
theorem mJ.mono{x:V}{Ψ Ψ':Mu->Prop}(h:mJ k mu env t x Ψ)(hi:∀nu,Ψ nu->Ψ' nu):mJ k mu env t x Ψ':=⟨λ{y y y y y y y} hA r v q=>h.c hA r v λ{y y y} z r w=>q z r (hi _ w)⟩
theorem ta{a b:cX}{fr:Mu}:List.Perm (a::b::mu++fr) (a::mu++(b::fr)):=(cu.symm).cons a
theorem WB.mid{a d:cX}{α:Type}{t:oZ α}{b:α}(h:WB k (a::mu) t b):WB k (a::d::mu) t b:=⟨λ{y y y y y y} hA r q=>h.c hA (r.perm ta) λ{y y} z r=>q z (r.perm ta.symm)⟩
theorem EV.mid{a d:cX}{P:Vw}(h:EV k (a::mu) env e P):EV k (a::d::mu) env e P:=⟨λ{y y y y y y} hA r q=>h.c hA (r.perm ta) λ{y y y} z v r=>q z v (r.perm ta.symm)⟩
theorem mJ.mid{a d:cX}{x:V}{Ψ:Mu->Prop}(h:mJ k (a::mu) env t x λnu=>∃a',nu=a'::mu/\Ψ (a'::d::mu)):mJ k (a::d::mu) env t x Ψ:=
 ⟨λ{y y y y y y y} hA r v q=>h.c hA (r.perm ta) v λ{y y y} z r w=>w.elim λy w=>q z (R.perm (w.1▸r) ta.symm) w.2⟩
structure zN(k:Nat)(mu:Mu)(scope:eN)(C:ay)(env:gP)(t:bH)(ifs:List bH)(elt:bH)(x:V)(b:Bool)(y:V):Prop where
 go:∃bz,mJ k (uG scope C::mu) env t x (λnu=>nu=nD scope C bz::mu)/\w0 k (nD scope C bz::mu) env ifs b/\(b=aJ->PE k (nD scope C bz::mu) env elt y)
theorem gk{α β:Type}{as:List α}{p:α->Bool}{g:α->β}{i:Nat}{a:α}(h:as[i]? =ae a):((as.take (i+1)).filter p).map g=((as.take i).filter p).map g++(if p a then [g a] else []):=by
 refine aj (dE ..) ?_;refine aj (h ..) ?_;simp [fX,hZ]
 split <;> simp
theorem De{α:Type}{scope:eN}{C:ay}{elt iter:bH}{ifs:List bH}{spos:jB}{ctx:Mu}{di:gP}(as:List α)(inj:α->V)(pp:α->Bool)(g:α->V)(hx:xs=as.map inj)(hk:1<=k)(hsz:as.length<=2 ^ 21)(qX:∀o∈ctx,o∈mu)
 (turn:∀a∈as,zN k mu scope C di t ifs elt (inj a) (pp a) (g a)):
 JL k (uG scope C::bl D []::mu) di (.ListComp elt [⟨t,iter,ifs,0⟩] scope spos) 0 (.ref D) t ctx xs λnu=>∃bz nu',nu=nD scope C bz::nu'/\nu'=bl D ((as.filter pp).map g)::mu:=by
 subst hx;refine rD Ki hk rfl rfl
  (λi nu=>nu=uG scope C::bl D (((as.take i).filter pp).map g)::mu) rfl (λi nu h o ho=>h▸ab _ (ab _ (qX o ho))) (λi x nu hx h=>?_) (λnu h=>⟨_,_,h,by (refine aj (ak ..) ?_;refine aj (cK ..) ?_;rfl)⟩)
 subst h;rw [aI] at hx;refine aK (aL.mp hx) λa ha gi=>?_;subst gi;refine eg ((turn a (ao ha)).go) λbz h1 h2 h3=>mJ.mid (h1.mono λnu e=>⟨_,e,?_⟩);refine ⟨pp a,h2.mid,λhb=>⟨_,Le.forget,?_⟩,λhb it=>?_⟩
 ·(refine aj (gk ha ..) ?_;refine aj (hb ..) ?_);exact congrArg (λl=>_::bl D l::mu) (cy _).symm
 ·refine Wu.weak (Ψ:=λnu=>nu=nD scope C bz::bl D (((as.take (i+1)).filter pp).map g)::mu) (WU.bf (vL (i:=1) (cf (h3 hb).mid ⟨rfl,?_,?_⟩))) λnu h=>⟨_,h▸Le.forget,rfl⟩
  ·exact aj (ak ..) (b7 (aw (bu _ _) (aw (kL _ _) hsz)) (show 2 ^ 21 < 2 ^ 22 by decide))
  ·(refine aj (gk ha ..) ?_;refine aj (hb ..) ?_);rfl
variable {ctx:Mu}
theorem JL.mono{d:Nat}{acc:ai}{Ψ Ψ':Mu->Prop}(h:JL k mu env e d acc t ctx xs Ψ)(hi:∀nu,Ψ nu->Ψ' nu):JL k mu env e d acc t ctx xs Ψ':=⟨λ{y y y y y y y} hA hit hc r q=>h.c hA hit hc r λ{y y y} z r w=>q z r (hi _ w)⟩
theorem WV.pe{y:V}(h:WV k mu (dW e env) λv nu=>v=y/\nu=mu):PE k mu env e y:=⟨λ{z z z z z z} hA r q=>h.c hA r λ{z z z z z} a b c w=>q a (w.1▸b) (w.2▸c)⟩
theorem Qf{α:Type}{scope:eN}{cl:List (bb×ay)}{elt iter:bH}{ifs:List bH}{spos:jB}(as:List α)(inj:α->V)(pp:α->Bool)(g:α->V)(sc:E7 scope env cl)(src:o8 k mu env iter t ctx (as.map inj))(hk:1<=k)(hsz:as.length<=2 ^ 21)
 (turn:∀C a,a∈as->zN k mu scope C (o9 scope cl C env) t ifs elt (inj a) (pp a) (g a)) (hΘ:∀D,fL D (bl D ((as.filter pp).map g)::mu) Θ) (hs:autoParam (∀x,bw iter env x=dg x) aR):
 WE k mu env (.ListComp elt [⟨t,iter,ifs,0⟩] scope spos) Θ:=by
 show WV k mu (dW _ _) Θ;exact aj (eval_ListComp ..) (xA (g:=⟨t,iter,ifs,0⟩) rfl hs sc uH src λC D=>(De as inj pp g rfl hk hsz src.has (turn C)).mono λnu=>bQ λbz=>bQ λnu' w=>⟨w.1,w.2▸hΘ D⟩)
theorem nE{α:Type}{scope:eN}{cl:List (bb×ay)}{elt iter:bH}{ifs:List bH}{spos:jB}(as:List α)(inj:α->V)(pp:α->Bool)(g:α->V)(sc:E7 scope env cl)(src:o8 k mu env iter t ctx (as.map inj))(hk:1<=k)(hsz:as.length<=2 ^ 21)
 (turn:∀C a,a∈as->zN k mu scope C (o9 scope cl C env) t ifs elt (inj a) (pp a) (g a)) (hs:autoParam (∀x,bw iter env x=dg x) aR):
 PE k mu env (.ListComp elt [⟨t,iter,ifs,0⟩] scope spos) (.list ((as.filter pp).map g)):=
 WV.pe (Qf as inj pp g sc src hk hsz turn (λD=>fL.list ⟨rfl,rfl⟩) hs)
theorem Qg{α:Type}{scope:eN}{cl:List (bb×ay)}{elt iter:bH}{ifs:List bH}{spos apos py:jB}{y:bb}{Φ:AF->Mu->Prop}(as:List α)(inj:α->V)(pp:α->Bool)(g:α->V)(sc:E7 scope env cl)(src:o8 k mu env iter t ctx (as.map inj))(hk:1<=k)(hsz:as.length<=2 ^ 21)
 (turn:∀C a,a∈as->zN k mu scope C (o9 scope cl C env) t ifs elt (inj a) (pp a) (g a))
 (SJ:xk (.ListComp elt [⟨t,iter,ifs,0⟩] scope spos) (ae (.Name y py)) apos.line env=dg aJ)
 (hΘ:∀D,fL D (bl D ((as.filter pp).map g)::mu) λv nu=>mJ k nu env (.Name y py) v (Φ .next)) (hs:autoParam (∀x,bw iter env x=dg x) aR):
 WX k mu env (.Assign [.Name y py] (.ListComp elt [⟨t,iter,ifs,0⟩] scope spos) apos) Φ:=
 G6 (g:=⟨t,iter,ifs,0⟩) (pos:=firstIterPos [⟨t,iter,ifs,0⟩] spos) SJ (λu=>rfl) rfl hs sc uH src λC D=>(De as inj pp g rfl hk hsz src.has (turn C)).mono λnu=>bQ λbz=>bQ λnu' w=>⟨w.1,w.2▸hΘ D⟩
theorem H4{it:ai}{fc t2:bH}{acc:ai}{Cy:Mu}{xs2:List V}{Ψ:Mu->Prop}(src:o8 k mu env fc t2 Cy xs2)(w:JL k mu env e 1 acc t2 Cy xs2 Ψ)(hs:autoParam (∀x,bw fc env x=dg x) aR):
 WBf k mu (vK e fc acc env it) (.compLoop e 0 it acc env) Ψ:=⟨λ{A E Z s fr Q} hA r q=>by
 delta vK Qd;refine ag (eS (src.c hA r λ{I it s2 Z2} hit z2 r2=>?_) (λx s1 h1=>ag (iH (ag (cM (hs x) (ag (bE h1)))))) λz z e=>e);exact ag (wpAny_runOwn (w.c (A:=A.mark av) hA hit (λo ho=>aE fr (src.has o ho)) r2 λ{z z z} z3 r3 w3=>ar (q (z2.trans z3) r3 w3)))⟩
structure Qh(k:Nat)(mu:Mu)(scope:eN)(C:ay)(bz:d9)(env:gP)(t:bH)(ifs:List bH)(elt:bH)(x:V)(b:Bool)(y:V):Prop where
 go:∃vals',mJ k (nD scope C bz::mu) env t x (λnu=>nu=nD scope C vals'::mu)/\w0 k (nD scope C vals'::mu) env ifs b/\(b=aJ->PE k (nD scope C vals'::mu) env elt y)/\
  Le (nD scope C vals'::mu) (nD scope C bz::mu)
theorem Le.mid{a a' d:cX}(h:Le (a::mu) (a'::mu)):Le (a::d::mu) (a'::d::mu):=λZ s fr r=>(h Z s (d::fr) (r.perm ta)).perm ta.symm
theorem H5{β:Type}{scope:eN}{C:ay}{elt iter fc t2:bH}{ifs oa:List bH}{spos:jB}{Cy:Mu}{di:gP}{bz:d9}(ys:List V)(bs:List β)(inj:β->V)(pp:β->Bool)(g:β->V)(hx:xs=bs.map inj)(hk:1<=k)(hsz:ys.length+bs.length<=2 ^ 21)(qX:∀o∈Cy,o∈mu)
 (turn:∀a∈bs,Qh k mu scope C bz di t2 oa elt (inj a) (pp a) (g a)):
 JL k (nD scope C bz::bl D ys::mu) di (.ListComp elt [⟨t,iter,ifs,0⟩,⟨t2,fc,oa,0⟩] scope spos) 1 (.ref D) t2 Cy xs λnu=>nu=nD scope C bz::bl D (ys++(bs.filter pp).map g)::mu:=by
 subst hx;refine rD N8 hk rfl rfl
  (λi nu=>nu=nD scope C bz::bl D (ys++((bs.take i).filter pp).map g)::mu) (by refine aj (xn ..) ?_;first|rfl|((refine aj (qd ..) ?_;refine aj (u7 ..) ?_;refine aj (cy ..) ?_;rfl))) (λi nu h o ho=>h▸ab _ (ab _ (qX o ho))) (λi x nu hx h=>?_) (λnu h=>by (refine aj (h ..) ?_;refine aj (ak ..) ?_;refine aj (cK ..) ?_;rfl))
 subst h;rw [aI] at hx;refine aK (aL.mp hx) λa ha dO=>?_;subst dO;refine Bw ((turn a (ao ha)).go) λvals' h1 h2 h3 h4=>mJ.mid (h1.mono λnu e=>⟨_,e,?_⟩);refine ⟨pp a,h2.mid,λhb=>⟨_,h4.mid,?_⟩,λhb it=>?_⟩
 ·(refine aj (gk ha ..) ?_;refine aj (hb ..) ?_);exact congrArg (λl=>_::bl D (_++l)::mu) (cy _).symm
 ·refine Wu.weak (Ψ:=λnu=>nu=nD scope C vals'::bl D (ys++((bs.take (i+1)).filter pp).map g)::mu) (WU.bf (vL (i:=1) (cf (h3 hb).mid ⟨rfl,?_,?_⟩))) λnu h=>⟨_,h▸h4.mid,rfl⟩
  ·(refine aj (ba ..) ?_;refine aj (ak ..) ?_)
   exact b7 (aw (qk (aw (bu _ _) (kL _ _)) _) hsz) (show 2 ^ 21 < 2 ^ 22 by decide)
  ·(refine aj (gk ha ..) ?_;refine aj (hb ..) ?_);exact congrArg (λl=>_::bl D l::mu) (bU ..)
structure Az(k:Nat)(mu:Mu)(scope:eN)(C:ay)(env:gP)(t elt fc t2:bH)(oa:List bH)(x:V){β:Type}(bs:List β)(inj:β->V)(pp:β->Bool)(g:β->V):Prop where
 go:∃bz Cy,mJ k (uG scope C::mu) env t x (λnu=>nu=nD scope C bz::mu)/\o8 k (nD scope C bz::mu) env fc t2 Cy (bs.map inj)/\(∀o∈Cy,o∈mu)/\
  ∀b∈bs,Qh k mu scope C bz env t2 oa elt (inj b) (pp b) (g b)
theorem o8.mid{a d:cX}(h:o8 k (a::mu) env e t ctx xs):o8 k (a::d::mu) env e t ctx xs:=
 ⟨λo ho=>(aP.mp (h.has o ho)).elim (λq=>q▸aa) λq=>ab _ (ab _ q),λ{y y y y y y} hA r q=>h.c hA (r.perm ta) λ{y y y y} hit z r=>q hit z (r.perm (ta.symm.cons _))⟩
theorem H7{α β:Type}{scope:eN}{C:ay}{elt iter fc t2:bH}{oa:List bH}{spos:jB}{di:gP}(as:List α)(inj:α->V)(bs:α->List β)(zi:β->V)(pp:α->β->Bool)(g:α->β->V)(hx:xs=as.map inj)(hk:1<=k)
 (hsz:(as.flatMap bs).length<=2 ^ 21) (qX:∀o∈ctx,o∈mu) (turn:∀a∈as,Az k mu scope C di t elt fc t2 oa (inj a) (bs a) zi (pp a) (g a)) (GB:∀x,bw fc di x=dg x):
 JL k (uG scope C::bl D []::mu) di (.ListComp elt [⟨t,iter,[],0⟩,⟨t2,fc,oa,0⟩] scope spos) 0 (.ref D) t ctx xs λnu=>∃bz nu',nu=nD scope C bz::nu'/\nu'=bl D (as.flatMap λa=>((bs a).filter (pp a)).map (g a))::mu:=by
 subst hx;refine rD N7 hk rfl rfl
  (λi nu=>nu=uG scope C::bl D ((as.take i).flatMap λa=>((bs a).filter (pp a)).map (g a))::mu) (by refine aj (xn ..) ?_;first|rfl|(rw [qd,u7,cy])) (λi nu h o ho=>h▸ab _ (ab _ (qX o ho))) (λi x nu hx h=>?_) (λnu h=>⟨_,_,h,by (refine aj (ak ..) ?_;refine aj (cK ..) ?_;rfl)⟩)
 subst h;rw [aI] at hx;refine aK (aL.mp hx) λa ha eU=>?_;subst eU;refine ir ((turn a (ao ha)).go) λbz Cy h1 h2 h3 h4=>mJ.mid (h1.mono λnu e=>⟨_,e,?_⟩);refine ⟨aJ,dk,λhb=>(JX hb),λhb it=>?_⟩;have hlen:((as.take i).flatMap λa=>((bs a).filter (pp a)).map (g a)).length+(bs a).length<=2 ^ 21:=by
  have e1:as.flatMap bs=(as.take i).flatMap bs++(bs a++(as.drop (i+1)).flatMap bs):=by
   conv=>lhs;rw [gh ha]
   simp
  have e2:((as.take i).flatMap λa=>((bs a).filter (pp a)).map (g a)).length<=((as.take i).flatMap bs).length:=by
   generalize as.take i=l;induction l with
   |nil=>simp
   |cons x l ih=>
    simp only [dF,ba,ak];have:=bu (pp x) (bs x)
    with_reducible exact Nat.add_le_add (by assumption) (by assumption)
  rw [e1] at hsz;simp only [ba] at hsz;lia
 refine Wu.weak (Ψ:=λnu=>nu=nD scope C bz::bl D ((as.take (i+1)).flatMap λa=>((bs a).filter (pp a)).map (g a))::mu) (H4 h2.mid ((H5 _ (bs a) zi (pp a) (g a) rfl hk hlen h3 h4).mono λnu e=>?_) GB) λnu h=>⟨_,h▸Le.forget,rfl⟩
 rw [e,dE,ha];simp
theorem Rj{α β:Type}{scope:eN}{cl:List (bb×ay)}{elt iter fc t2:bH}{oa:List bH}{spos:jB}(as:List α)(inj:α->V)(bs:α->List β)(zi:β->V)(pp:α->β->Bool)(g:α->β->V)(sc:E7 scope env cl)(src:o8 k mu env iter t ctx (as.map inj))(hk:1<=k)(hsz:(as.flatMap bs).length<=2 ^ 21)
 (turn:∀C a,a∈as->Az k mu scope C (o9 scope cl C env) t elt fc t2 oa (inj a) (bs a) zi (pp a) (g a)) (hΘ:∀D,fL D (bl D (as.flatMap λa=>((bs a).filter (pp a)).map (g a))::mu) Θ) (hs:autoParam (∀x,bw iter env x=dg x) aR)
 (GB:autoParam (∀C x,bw fc (o9 scope cl C env) x=dg x) aR):
 WE k mu env (.ListComp elt [⟨t,iter,[],0⟩,⟨t2,fc,oa,0⟩] scope spos) Θ:=by
 show WV k mu (dW _ _) Θ;exact aj (eval_ListComp ..) (xA (g:=⟨t,iter,[],0⟩) rfl hs sc uH src λC D=>(H7 as inj bs zi pp g rfl hk hsz src.has (turn C) (GB C)).mono λnu=>bQ λbz=>bQ λnu' w=>⟨w.1,w.2▸hΘ D⟩)
theorem Kk{α β:Type}{scope:eN}{cl:List (bb×ay)}{elt iter fc t2:bH}{oa:List bH}{spos:jB}(as:List α)(inj:α->V)(bs:α->List β)(zi:β->V)(pp:α->β->Bool)(g:α->β->V)(sc:E7 scope env cl)(src:o8 k mu env iter t ctx (as.map inj))(hk:1<=k)(hsz:(as.flatMap bs).length<=2 ^ 21)
 (turn:∀C a,a∈as->Az k mu scope C (o9 scope cl C env) t elt fc t2 oa (inj a) (bs a) zi (pp a) (g a)) (hs:autoParam (∀x,bw iter env x=dg x) aR)
 (GB:autoParam (∀C x,bw fc (o9 scope cl C env) x=dg x) aR):
 PE k mu env (.ListComp elt [⟨t,iter,[],0⟩,⟨t2,fc,oa,0⟩] scope spos) (.list (as.flatMap λa=>((bs a).filter (pp a)).map (g a))):=
 WV.pe (Rj as inj bs zi pp g sc src hk hsz turn (λD=>fL.list ⟨rfl,rfl⟩) hs GB)
noncomputable def jF(es:List (bb×V))(x:bb)(y:V):List (bb×V):=
 if es.any (λkv=>kv.1=x) then es.map (λkv=>if kv.1=x then (kv.1,y) else kv) else es++[(x,y)]
theorem Kl{α:Type}(x:bb){l:List (bb×α)}{r:List (bb×V)}(h:l.map (·.1)=r.map (·.1)):l.any (λkv=>kv.1=x)=r.any (λkv=>kv.1=x):=by
 have e:∀{β:Type} (l:List (bb×β)),l.any (λkv=>kv.1=x)=(l.map (·.1)).any (λy=>y=x):=λ{z} l=>by refine aj (CE ..) ?_;rfl
 refine aj (e ..) ?_;refine aj (h ..) ?_;refine fZ (e ..) ?_;rfl
theorem Df{α:Type}(x:bb)(v:α)(l:List (bb×α)):(l.map (λkv=>if kv.1=x then (kv.1,v) else kv)).map (·.1)=l.map (·.1):=by refine aj (a0 ..) ?_;exact b5 λa z=>by show (if a.1=x then (a.1,v) else a).1=a.1;split <;> rfl
theorem Dg{P:List (bb×ai)->List (bb×V)->Prop}(nil:P [] [])(cons:∀{x v y l r},aZ G Z v y->P l r->P ((x,v)::l) ((x,y)::r)){l:List (bb×ai)}:∀{r:List (bb×V)},l.map (·.1)=r.map (·.1)->bW G Z (l.map (·.2)) (r.map (·.2))->P l r:=by
 induction l with
 |nil=>intro r h z;cases r with
  |nil=>exact nil
  |cons=>exact Q1 h
 |cons a l ih=>intro r h w;cases r with
  |nil=>exact JY h
  |cons c r=>obtain ⟨x,v⟩:=a;obtain ⟨y,u⟩:=c;refine dU (sY h) λh1 h2=>?_;subst h1;exact cons w.uncons.1 (ih h2 w.uncons.2)
theorem Dh{kvs:List (bb×ai)}{es:List (bb×V)}{x:bb}{v:ai}{y:V}(hk:kvs.map (·.1)=es.map (·.1))(hr:bW G Z (kvs.map (·.2)) (es.map (·.2)))(hv:aZ G Z v y):
 (stored kvs x v).map (·.1)=(jF es x y).map (·.1)/\bW G Z ((stored kvs x v).map (·.2)) ((jF es x y).map (·.2)):=by
 delta stored jF;refine aj (Kl x hk ..) ?_
 split
 ·refine ⟨by (refine aj (Df ..) ?_;refine aj (Df ..) ?_;refine aj (hk ..) ?_;rfl),Dg (P:=λl r=>bW G Z ((l.map (λkv=>if kv.1=x then (kv.1,v) else kv)).map (·.2)) ((r.map (λkv=>if kv.1=x then (kv.1,y) else kv)).map (·.2))) .nil (λ{z u w l r} h1 ih=>?_) hk hr⟩;rw [bB,bB,bB,bB];refine .cons ?_ ih;by_cases hx:z=x
  ·rw [if_pos hx,if_pos hx];exact hv
  ·rw [if_neg hx,if_neg hx];exact h1
 ·(refine aj (bj ..) ?_;refine aj (bj ..) ?_;refine aj (bj ..) ?_;refine aj (bj ..) ?_)
  exact ⟨congrArg (·++[x]) hk,hr.append (.cons hv .nil)⟩
theorem Di{A:bh}{E:ai->aq->Prop}{Q:Unit->aq->Prop}{a:ay}{es:List (bb×V)}{i:Nat}{x:bb}{tk:HR}{v:ai}{y:V}(r:R Z mu s)(hi:mu[i]? =ae (cD a es))(hl:es.length<=er)(hv:aZ G Z v y)
 (h:∀s',R Z (mu.set i (cD a (jF es x y))) s'->Q () s'):aS (aX G.prog G.w) A (dictSet a (.str x tk) v) Q E s:=by
 refine qo (r.sat _ (ao hi)) λq kvs h1 h2 h3=>?_;have hlen:kvs.length=es.length:=by (refine fZ (ak (f:=(·.1)) ..) ?_;refine aj (h2 ..) ?_;refine aj (ak ..) ?_;rfl)
 refine wpAny_dictSet_pairs (knd:=strKind G.prog G.w) (k:=x) (zt G.prog G.w x tk) h1 (λh' hd hs=>h _ ?_) (hlen▸hl);exact r.upd' (x':=cD a (jF es x y)) hi rfl (λb o hb e=>hs.extBut b o (λq=>hb (q▸aa)) e) ⟨q,_,hd,Dh (x:=x) h2 h3 hv⟩
theorem N9{a:ay}{es:List (bb×V)}{i:Nat}{ke ve:bH}{x:bb}{y:V}{Ψ:Mu->Prop}(h1:PE k mu env ke (.str x))(h2:PE k mu env ve y)(hi:mu[i]? =ae (cD a es))(hl:es.length<=er)(h:Ψ (mu.set i (cD a (jF es x y)))):
 WU k mu (Kh ke ve (.ref a) env) Ψ:=⟨λ{A E Z s fr Q} hA r q=>by
 delta Kh;refine ag (h1.c hA r λ{kv s1 Z1} z1 q1 r1=>ag (bE (h2.c hA r1 λ{vv s2 Z2} z2 q2 r2=>?_)));refine cJ (gV q1) λtk dO=>?_;subst dO;exact ag (iH (bE (Di r2 (cG hi) hl q2 λs' r'=>q (z1.trans z2) (gE hi▸r') h)))⟩
theorem Oa(B:g7 G)(r:R Z mu s):(s.heap.objs.size == lY)=aH:=by exact cJ (B.sysm) λo ho=>beq_eq_false_iff_ne.mpr (jJ (bN (r.z0in _ _ ho)))
theorem vM(B:g7 G){tk:Nat}(r:R Z mu s):R Z (cD s.heap.objs.size []::mu) {s with heap:=s.heap.push {cls:= .type "dict",data:= .dict #[]},toks:=tk}:=
 r.addNew (tk:=tk) _ (λb o e=>az _ e) ⟨Oa B r,[],Heap.DictOf.new s.heap,rfl,.nil⟩ eh λz h=>kX h
theorem Dj(B:g7 G):Acc newDict (λD=>cD D []):=⟨λ{A E Z s mu Q} r q=>jg (q (vM B r))⟩
structure AA(k:Nat)(mu:Mu)(scope:eN)(C:ay)(env:gP)(t:bH)(ifs:List bH)(ke ve:bH)(x:V)(b:Bool)(kx:bb)(y:V):Prop where
 go:∃bz,mJ k (uG scope C::mu) env t x (λnu=>nu=nD scope C bz::mu)/\w0 k (nD scope C bz::mu) env ifs b/\(b=aJ->PE k (nD scope C bz::mu) env ke (.str kx)/\PE k (nD scope C bz::mu) env ve y)
noncomputable def rE(ps:List (bb×V)):List (bb×V):=ps.foldl (λes q=>jF es q.1 q.2) []
theorem Km(es:List (bb×V))(x:bb)(y:V):(jF es x y).length<=es.length+1:=by
 delta jF
 split
 ·refine aj (ak ..) ?_;exact jD _
 ·refine aj (ba ..) ?_;exact bp _
theorem H8(ps:List (bb×V)):(rE ps).length<=ps.length:=by
 have:∀(ps es:List (bb×V)),(ps.foldl (λes q=>jF es q.1 q.2) es).length<=es.length+ps.length:=by
  intro ps;induction ps with
  |nil=>intro es;exact bp _
  |cons q ps ih=>intro es;refine aw (ih (jF es q.1 q.2)) ?_;refine aj (bK ..) ?_;refine aj (Nat.add_comm ps.length ..) ?_;refine fZ (l5 ..) ?_;exact Tt (Km es q.1 q.2) _
 exact aw (this ps []) (ll (eC _))
theorem xV(ps:List (bb×V))(q:bb×V):rE (ps++[q])=jF (rE ps) q.1 q.2:=fu
theorem AB{α:Type}{scope:eN}{C:ay}{ke ve iter:bH}{ifs:List bH}{spos:jB}{di:gP}(as:List α)(inj:α->V)(pp:α->Bool)(g:α->bb×V)(hx:xs=as.map inj)(hk:1<=k)(hsz:as.length<=2 ^ 21)(qX:∀o∈ctx,o∈mu)
 (turn:∀a∈as,AA k mu scope C di t ifs ke ve (inj a) (pp a) (g a).1 (g a).2):
 JL k (uG scope C::cD D []::mu) di (.DictComp ke ve [⟨t,iter,ifs,0⟩] scope spos) 0 (.ref D) t ctx xs λnu=>∃bz nu',nu=nD scope C bz::nu'/\nu'=cD D (rE ((as.filter pp).map g))::mu:=by
 subst hx;refine rD Ri hk rfl rfl
  (λi nu=>nu=uG scope C::cD D (rE (((as.take i).filter pp).map g))::mu) rfl (λi nu h o ho=>h▸ab _ (ab _ (qX o ho))) (λi x nu hx h=>?_) (λnu h=>⟨_,_,h,by (refine aj (ak ..) ?_;refine aj (cK ..) ?_;rfl)⟩)
 subst h;rw [aI] at hx;refine aK (aL.mp hx) λa ha eU=>?_;subst eU;refine eg ((turn a (ao ha)).go) λbz h1 h2 h3=>mJ.mid (h1.mono λnu e=>⟨_,e,?_⟩);refine ⟨pp a,h2.mid,λhb=>⟨_,Le.forget,?_⟩,λhb it=>?_⟩
 ·(refine aj (gk ha ..) ?_;refine aj (hb ..) ?_);exact congrArg (λl=>_::cD D (rE l)::mu) (cy _).symm
 ·refine Wu.weak (Ψ:=λnu=>nu=nD scope C bz::cD D (rE (((as.take (i+1)).filter pp).map g))::mu) (WU.bf (N9 (i:=1) (h3 hb).1.mid (h3 hb).2.mid rfl ?_ ?_)) λnu h=>⟨_,h▸Le.forget,rfl⟩
  ·refine aw (H8 _) (aj (ak ..) ?_);exact aw (bu _ _) (aw (kL _ _) (aw hsz (show 2 ^ 21<=2 ^ 24 by decide)))
  ·(refine aj (gk ha ..) ?_;refine aj (hb ..) ?_;refine aj (if_pos rfl ..) ?_;refine aj (xV ..) ?_);rfl
theorem WE_dc{α:Type}{scope:eN}{cl:List (bb×ay)}{ke ve iter:bH}{ifs:List bH}{spos:jB}(B:g7 G)(as:List α)(inj:α->V)(pp:α->Bool)(g:α->bb×V)(sc:E7 scope env cl)(src:o8 k mu env iter t ctx (as.map inj))(hk:1<=k)(hsz:as.length<=2 ^ 21)
 (turn:∀C a,a∈as->AA k mu scope C (o9 scope cl C env) t ifs ke ve (inj a) (pp a) (g a).1 (g a).2) (hΘ:∀D,fL D (cD D (rE ((as.filter pp).map g))::mu) Θ) (hs:autoParam (∀x,bw iter env x=dg x) aR):
 WE k mu env (.DictComp ke ve [⟨t,iter,ifs,0⟩] scope spos) Θ:=by
 show WV k mu (dW _ _) Θ;exact aj (arm_eval_DictComp ..) (xA (g:=⟨t,iter,ifs,0⟩) rfl hs sc (Dj B) src λC D=>(AB as inj pp g rfl hk hsz src.has (turn C)).mono λnu=>bQ λbz=>bQ λnu' w=>⟨w.1,w.2▸hΘ D⟩)
theorem WX_dc{α:Type}{scope:eN}{cl:List (bb×ay)}{ke ve iter:bH}{ifs:List bH}{spos apos py:jB}{y:bb}{Φ:AF->Mu->Prop}(B:g7 G)(as:List α)(inj:α->V)(pp:α->Bool)(g:α->bb×V)(sc:E7 scope env cl)(src:o8 k mu env iter t ctx (as.map inj))(hk:1<=k)(hsz:as.length<=2 ^ 21)
 (turn:∀C a,a∈as->AA k mu scope C (o9 scope cl C env) t ifs ke ve (inj a) (pp a) (g a).1 (g a).2)
 (SJ:xk (.DictComp ke ve [⟨t,iter,ifs,0⟩] scope spos) (ae (.Name y py)) apos.line env=dg aJ)
 (hΘ:∀D,fL D (cD D (rE ((as.filter pp).map g))::mu) λv nu=>mJ k nu env (.Name y py) v (Φ .next)) (hs:autoParam (∀x,bw iter env x=dg x) aR):
 WX k mu env (.Assign [.Name y py] (.DictComp ke ve [⟨t,iter,ifs,0⟩] scope spos) apos) Φ:=
 G6 (g:=⟨t,iter,ifs,0⟩) (pos:=firstIterPos [⟨t,iter,ifs,0⟩] spos) SJ (λu=>rfl) rfl hs sc (Dj B) src λC D=>(AB as inj pp g rfl hk hsz src.has (turn C)).mono λnu=>bQ λbz=>bQ λnu' w=>⟨w.1,w.2▸hΘ D⟩
variable {x y:V}{P Q S:Vw}
structure Gi(k:Nat)(mu:Mu)(P Q S:Vw):Prop where
 c:∀{A:bh} {E:ai->aq->Prop} {Z:bI} {s:aq} {fr:Mu} {v u:ai} {T:ai->aq->Prop},Rm k A->R Z (mu++fr) s->P.p Z v->Q.p Z u->(∀{w s' Z'},Z.le Z'->S.p Z' w->R Z' (mu++fr) s'->T w s')->
  (∃T id,iQ (.type T) "__getitem__"=dg (ae (.builtin id))/\s.TypeIs v T)/\aS (aX G.prog G.w) A (Jw v u) T E s
noncomputable def Rk(lo hi st:Option Int):Vw:=
 ⟨λZ v=>∃a vl vu vs o,v= .ref a/\Z a=ae o/\o.cls= .type "slice"/\o.data= .fields #[vl,vu,vs]/\IsPart vl lo/\IsPart vu hi/\IsPart vs st,
  λZ Z' v h=>bQ λa=>bQ λvl=>bQ λvu=>bQ λvs=>bQ λo w=>⟨w.1,h _ _ w.2.1,w.2.2⟩⟩
theorem Ko{A:bh}{E T:ai->aq->Prop}{o i:bH}(hs:∀a b,∃ops,NI i aH a b=operate ops (Jw a b))(he:aS (aX G.prog G.w) A (dW o env) (λv s1=>aS (aX G.prog G.w) A (dW i env) (λu s2=>∀(T':ai->aq->Prop),(∀{w s'},T w s'->T' w s')->
 (∃U id,iQ (.type U) "__getitem__"=dg (ae (.builtin id))/\s2.TypeIs v U)/\aS (aX G.prog G.w) A (Jw v u) T' E s2) E s1) E s):aS (aX G.prog G.w) A (dW (.Subscript o i p) env) T E s:=by
 with_reducible refine PyProof.Rows.Subscript_ ?_
 refine eS he (λv s1 h1=>eS h1 (λu s2 h2=>?_) λz z e=>e) λz z e=>e;refine dU (h2 (λw s3=>aS (aX G.prog G.w) A (pD o v w >>=λz=>dg w) T E s3) λ{z z} h=>ag (wpAny_letTemporaryGo (ar h))) λdO hg=>eD dO λU id hl hT=>?_;clear dO;refine cJ (hs v u) λops hs=>?_;unfold PyProof.Rows.subscriptTail;refine ag (aj (getitemInPython_of_ne hT.not_modules ..) ?_);refine ag (h8 hT hl ?_)
 first
  |exact ar (ag (hs▸Tu hg))
  |exact ag (ar (ag (hs▸Tu hg)))
  |exact ag (hs▸Tu hg)
theorem bF{o i:bH}(ho:EV k mu env o P)(hi:EV k mu env i Q)(g:Gi k mu P Q S)(hs:∀a b,∃ops,NI i aH a b=operate ops (Jw a b):=by intro a b;exact ⟨_,rfl⟩):
 EV k mu env (.Subscript o i p) S:=⟨λ{z z z z z z} hA r q=>Ko hs (ho.c hA r λ{z z z} z1 q1 r1=>hi.c hA r1 λ{z z z} z2 q2 r2 T' t=>g.c hA r2 (P.mono _ _ _ z2 q1) q2 λ{z z z} z3 q3 r3=>t (q (z1.trans (z2.trans z3)) q3 r3))⟩
theorem me.at{v:ai}{fr:Mu}(h:(me mu xs).p Z v)(r:R Z (mu++fr) s):∃a vs n,v= .ref a/\s.heap.get? a=ae (oH vs n)/\bW G Z vs.toList xs:=
 h.imp λa w=>(w.2 Z s .rfl r.left).imp λvs=>bQ λn u=>⟨w.1,u⟩
noncomputable def j9(n:Nat)(i:Int):Nat:=if i < 0 then (i+n).toNat else i.toNat
theorem AC{n:Nat}{i:Int}(SK: -(n:Int)<=i)(hlt:j9 n i < n):Nc i n=ae (j9 n i):=by
 unfold Nc j9;unfold j9 at hlt
 split <;> rename_i hneg
 ·rw [if_pos hneg] at hlt;refine aj (if_pos (by simp;lia) ..) ?_;rfl
 ·rw [if_neg hneg] at hlt;refine aj (if_pos (by simp;lia) ..) ?_;rfl
theorem Rl{i:Int}(hx:xs[j9 xs.length i]? =ae y)(SK: -(xs.length:Int)<=i)(hhi:i < 2 ^ 62)(hn:xs.length < 2 ^ 62):Gi k mu (me mu xs) (bZ (.int i)) (bZ y):=⟨λ{A E Z s fr v u T} hA r hp hq q=>by
 refine cE (me.at hp r) λa vs n eU h1 h2=>?_;subst eU;refine cJ (gF hq) λtk gi=>?_;subst gi;have hL:s.heap.IsList a vs:=⟨_,h1,rfl,n,rfl⟩;refine aK (h2.get hx) λw h3 h4=>?_;rw [b9 h2] at h3 SK hn;rw [bV] at h3;refine ⟨⟨"list",_,EY,hL.typeIs⟩,?_⟩;unfold j9 at h3
 split at h3
 ·exact wpAny_getItem_list_neg hL ‹_› SK (by lia) h3 (q .rfl h4 r)
 ·exact wpAny_getItem_list hL (by exact Int.le_of_not_gt (by assumption)) (by exact rt (by assumption) (by decide)) h3 (q .rfl h4 r)⟩
theorem Kp{i:Int}(hx:xs[j9 xs.length i]? =ae y)(SK: -(xs.length:Int)<=i)(hhi:i < 2 ^ 62)(hn:xs.length < 2 ^ 62):Gi k mu (bZ (.tup xs)) (bZ (.int i)) (bZ y):=⟨λ{A E Z s fr v u T} hA r hp hq q=>by
 refine dK (aZ.tup_inv hp) λa o vs n iC e1 hc hd h2=>?_;subst iC;refine cJ (gF hq) λtk kG=>?_;subst kG;have hL:IsTup s.heap a vs:=⟨_,r.zin _ _ e1,hc,n,hd⟩;have hlt:=(aB.mp hx).1;refine aK (h2.get hx) λw h3 h4=>?_;rw [bV] at h3;exact ⟨⟨"tuple",_,PyProof.Rows.slot_tuple_getitem.lookup,hL.typeIs⟩,PyProof.Rows.getItem_tuple hL (by lia) (by exact rt (by assumption) (by decide)) (b9 h2▸AC SK hlt) h3 (q .rfl h4 r)⟩⟩
theorem gi_s{x:bb}{i:Int}{c:Nat}(hx:x.cps[j9 x.length i]? =ae c)(SK: -(x.length:Int)<=i)(hhi:i < 2 ^ 62)(hn:x.length < 2 ^ 62):Gi k mu (bZ (.str x)) (bZ (.int i)) (bZ (.str ⟨#[c]⟩)):=⟨λ{A E Z s fr v u T} hA r hp hq q=>by
 refine cJ (gV hp) λtk ma=>?_;subst ma;refine cJ (gF hq) λnx mE=>?_;subst mE;refine ⟨⟨"str",_,PyProof.Rows.slot_str_getitem.lookup,rfl⟩,PyProof.Rows.getItem_str (c:=c) ?_ ?_ (q .rfl (aZ.str _ _) r.toks)⟩
 ·simp;lia
 ·refine aj (AC SK (ru.mp hx).1 ..) ?_;exact hx⟩
noncomputable def mf(es:List (bb×V))(x:bb):Option V:=(es.find? λkv=>kv.1=x).map (·.2)
theorem uI{x:bb}{l:List (bb×ai)}{r:List (bb×V)}(h:l.map (·.1)=r.map (·.1))(hr:bW G Z (l.map (·.2)) (r.map (·.2))){y:V}:mf r x=ae y->∃v,vn l x=ae v/\aZ G Z v y:=by
 refine Dg (P:=λl r=>mf r x=ae y->∃v,vn l x=ae v/\aZ G Z v y) (λe=>gK e) (λ{z u w l r} h1 ih hy=>?_) h hr;unfold mf at hy;unfold vn;rw [jW] at hy ⊢;by_cases hx:z=x
 ·rw [show decide (z=x)=aJ from decide_eq_true hx] at hy ⊢;exact ⟨u,rfl,aO hy▸h1⟩
 ·rw [show decide (z=x)=aH from decide_eq_false hx] at hy ⊢;exact ih hy
theorem te{x:bb}{l:List (bb×ai)}{r:List (bb×V)}(h:l.map (·.1)=r.map (·.1))(hy:mf r x=av):vn l x=av:=by unfold mf at hy;unfold vn;rw [P3,Ai] at hy ⊢;intro a ha;exact aK (aG.mp (h▸aG.mpr ⟨a,ha,rfl⟩:a.1∈r.map (·.1))) λc hc e=>e▸hy c hc
theorem Nu.at{v:ai}{fr:Mu}{es:List (bb×V)}(h:(Nu mu es).p Z v)(r:R Z (mu++fr) s):∃a kvs,v= .ref a/\(a == lY)=aH/\s.heap.DictOf (strKind G.prog G.w) a kvs/\kvs.map (·.1)=es.map (·.1)/\bW G Z (kvs.map (·.2)) (es.map (·.2)):=
 h.imp λa w=>(w.2 Z s .rfl r.left).2.imp λkvs u=>⟨w.1,(w.2 Z s .rfl r.left).1,u⟩
theorem mh{es:List (bb×V)}{x:bb}(hx:mf es x=ae y):Gi k mu (Nu mu es) (bZ (.str x)) (bZ y):=⟨λ{A E Z s fr v u T} hA r hp hq q=>by
 refine Ap (Nu.at hp r) λa kvs qY EN h1 h2 h3=>?_;subst qY;refine cJ (gV hq) λtk uc=>?_;subst uc;exact aK (uI h2 h3 hx) λw h4 h5=>⟨⟨"dict",_,PySem.slot_dict_getitem.lookup,h1.typeIs⟩,wpAny_getItem_of (knd:=strKind G.prog G.w) (k:=x) (zt G.prog G.w x tk) h1.mapOf h4 (q .rfl h5 r.toks)⟩⟩
structure Dk(k:Nat)(mu:Mu)(env:gP)(oe:Option bH)(x:Option Int):Prop where
 c:∀{A:bh} {E:ai->aq->Prop} {Z:bI} {s:aq} {fr:Mu} {T:ai->aq->Prop},Rm k A->R Z (mu++fr) s->(∀{v s' Z'},IsPart v x->Z.le Z'->R Z' (mu++fr) s'->T v s')->aS (aX G.prog G.w) A (evalPart oe env) T E s
theorem dM:Dk k mu env av av:=⟨λ{z z z z z z} hA r q=>by refine aj (evalPart_none ..) ?_;exact ar (q .none .rfl r)⟩
theorem eQ{i:Int}(h:PE k mu env e (.int i)):Dk k mu env (ae e) (ae i):=⟨λ{z z z z z z} hA r q=>by
 refine aj (evalPart_some ..) ?_;exact h.c hA r λ{z z z} z1 q1 r1=>q ((gF q1).elim λz e=>e▸.int _ _) z1 r1⟩
theorem jo{lo hi st:Option bH}{l h c:Option Int}(h1:Dk k mu env lo l)(h2:Dk k mu env hi h)(h3:Dk k mu env st c):EV k mu env (.Slice lo hi st p) (Rk l h c):=⟨λ{A E Z s fr T} hA r q=>by
 with_reducible refine wpAny_Slice ?_
 exact h1.c hA r λ{z z z} q1 z1 r1=>h2.c hA r1 λ{z z z} q2 z2 r2=>h3.c hA r2 λ{v3 s3 Z3} q3 z3 r3=>q (z1.trans (z2.trans (z3.trans (bI.le_put (r3.fresh (bp _)))))) ⟨_,_,_,v3,_,rfl,bI.put_self ..,rfl,rfl,q1,q2,q3⟩ r3.pushZ⟩
noncomputable def jq{α:Type}(xs:List α)(lo hi st:Option Int):List α:=
 (zu (c7 lo hi st xs.length).1 (c7 lo hi st xs.length).2.1 (c7 lo hi st xs.length).2.2).filterMap (xs[·]?)
theorem bW.picks{vs:List ai}{xs:List V}(h:bW G Z vs xs)(l:List Nat):bW G Z (l.filterMap (vs[·]?)) (l.filterMap (xs[·]?)):=by
 induction l with
 |nil=>exact .nil
 |cons i l ih=>
  refine aj (ql ..) ?_;refine aj (ql ..) ?_;cases hi:xs[i]? with
  |none=>refine aj (sq.mpr (h.length▸sq.mp hi) ..) ?_;exact ih
  |some x=>refine aK (h.get hi) λv h1 h2=>?_;refine aj (h1 ..) ?_;exact .cons h2 ih
theorem jr{α β:Type}(f:α->β)(xs:List α)(lo hi st:Option Int):jq (xs.map f) lo hi st=(jq xs lo hi st).map f:=by unfold jq;refine aj (ak ..) ?_;refine aj (List.map_filterMap ..) ?_;exact congrArg (List.filterMap · _) (funext λi=>aI)
theorem AD{vs:Array ai}{lo hi st:Option Int}(h:bW G Z vs.toList xs):bW G Z (xo vs lo hi st).toList (jq xs lo hi st):=by have:=h.picks (zu (c7 lo hi st vs.size).1 (c7 lo hi st vs.size).2.1 (c7 lo hi st vs.size).2.2);refine aj (show (xo vs lo hi st).toList=(zu (c7 lo hi st vs.size).1 (c7 lo hi st vs.size).2.1 (c7 lo hi st vs.size).2.2).filterMap (vs.toList[·]?) from by unfold xo;simp) ?_;unfold jq;exact aj (b9 h ..) (this)
theorem pd{lo hi st:Option Int}(h0:st≠ae 0)(hn:xs.length<=2 ^ 23):Gi k mu (me mu xs) (Rk lo hi st) (bZ (.list (jq xs lo hi st))):=⟨λ{A E Z s fr v u T} hA r hp hq q=>by
 refine cE (me.at hp r) λa vs n mO h1 h2=>?_;subst mO;obtain ⟨b,vl,vu,vst,o,rfl,hz,hc,hd,p1,p2,p3⟩:=hq;have hL:s.heap.IsList a vs:=⟨_,h1,rfl,n,rfl⟩;have hlen:=b9 h2;refine ⟨⟨"list",_,EY,hL.typeIs⟩,?_⟩;refine wpAny_getItem_list_slice hL ⟨o,r.zin _ _ hz,hc,hd⟩ p1 p2 p3 h0 ?_ (hlen▸aw hn (show 2 ^ 23<=2 ^ 24 by decide));have zz:Z.le (Z.put s.heap.objs.size {cls:= .type "list",data:= .seq (xo vs lo hi st)}):=bI.le_put (r.fresh (bp _));exact q zz (aZ.list (n:=0) (vs:=xo vs lo hi st) (bI.put_self ..) (AD (h2.mono zz))) r.pushZ⟩
variable {ys:List V}
theorem j3.vrels{vs:List ai}(h:j3 Z vs (xs.map bZ:List (Vw))):bW G Z vs xs:=by
 induction xs generalizing vs with
 |nil=>cases h.none;exact .nil
 |cons x xs ih=>refine cC (h.cons_inv) λv vs dO a r=>?_;subst dO;exact .cons a (ih r)
theorem j3.len{vs:List ai}{Ps:List (Vw)}(h:j3 Z vs Ps):vs.length=Ps.length:=by
 induction h with
 |nil=>rfl
 |cons _ _ ih=>exact congrArg xj ih
theorem j3.size{vs:List ai}(h:j3 Z vs (xs.map bZ:List (Vw)))(hl:xs.length<=2 ^ 20):vs.length<=er:=by (refine aj (h.len ..) ?_;refine aj (ak ..) ?_);exact aw hl (show 2 ^ 20<=2 ^ 24 by decide)
theorem xW{vs:Array ai}{n tk:Nat}{T:Prop}(r:R Z mu s)(hr:bW G Z vs.toList xs)(q:∀{Z'},Z.le Z'->aZ G Z' (.ref s.heap.objs.size) (.list xs)->R Z' mu {s with heap:=s.heap.push {cls:= .type "list",data:= .seq vs n},toks:=tk}->T):T:=
 q (bI.le_put (r.fresh (bp _))) (aZ.list (vs:=vs) (n:=n) (bI.put_self ..) (hr.mono (bI.le_put (r.fresh (bp _))))) r.pushZ.toks
theorem f9{es:List bH}{kk:Nat}(h:tA k mu env es (xs.map bZ))(hl:xs.length<=2 ^ 20):PE k mu env (.Tuple es kk pos) (.tup xs):=⟨λ{A E Z s fr Q} hA r q=>by
 with_reducible refine EZ ?_
 refine h.c hA r λ{vs s1 Z1} z1 q1 r1=>⟨q1.size hl,?_⟩
 have z2:=bI.le_put (o:={cls:= .type "tuple",data:= .seq vs.toArray}) (r1.fresh (bp _));exact q (z1.trans z2) (aZ.tup (vs:=vs.toArray) (n:=0) (bI.put_self ..) rfl rfl (q1.vrels.mono z2)) r1.pushZ⟩
theorem ij{es:List bH}(h:tA k mu env es (xs.map bZ))(hl:xs.length<=2 ^ 20):PE k mu env (.List es pos) (.list xs):=⟨λ{A E Z s fr Q} hA r q=>by
 with_reducible refine wpAny_List_spliced ?_
 exact h.c hA r λ{z z z} z1 q1 r1=>⟨q1.size hl,xW r1 q1.vrels λ{z} z2=>q (z1.trans z2)⟩⟩
theorem sA{es:List bH}(h:tA k mu env es (xs.map bZ))(hl:xs.length<=2 ^ 20)(hΘ:∀D,fL D (bl D xs::mu) Θ):WE k mu env (.List es pos) Θ:=⟨λ{A E Z s fr Q} hA r q=>by
 with_reducible refine wpAny_List_spliced ?_
 exact h.c hA r λ{vs s1 Z1} z1 q1 r1=>⟨q1.size hl,(hΘ s1.heap.objs.size).c (r1.addNew (tk:=s1.toks) (bl s1.heap.objs.size xs) (λb o e=>az _ e) ⟨vs.toArray,0,aW _ rfl,q1.vrels⟩ eh λz h=>kX h) λ{z z z} z2=>q (z1.trans z2)⟩⟩
theorem xX(B:g7 G)(hΘ:∀D,fL D (cD D []::mu) Θ):WE k mu env (.Dict [] [] pos) Θ:=⟨λ{A E Z s fr Q} hA r q=>by
 with_reducible refine wpAny_Dict_empty ?_
 exact (hΘ s.heap.objs.size).c (fr:=fr) (vM B r) q⟩
theorem uJ(hl:xs.length+ys.length<=2 ^ 23):xO k mu .Add (me mu xs) (me mu ys) (bZ (.list (xs++ys))):=⟨λ{A E Z s fr v u T} hA r hp hq q=>by
 refine cE (me.at hp r) λa vs n eU h1 h2=>?_;subst eU;refine cE (me.at hq r) λb ws m gi h3 h4=>?_;subst gi;refine PySem.P.add_list (n:=n) (n2:=m) (items:=vs) (items2:=ws) h1 h3 ?_ (by (refine fZ (b9 h2 ..) ?_;refine fZ (b9 h4 ..) ?_);exact aw hl (show 2 ^ 23<=2 ^ 24 by decide));exact xW (tk:=s.toks) r (by refine aj (lB ..) ?_;exact h2.append h4) q⟩
theorem mi(hl:xs.length<=2 ^ 40):Fn k mu (.builtin "len") [me mu xs] (bZ (.int xs.length)):=⟨λ{A E Z s fr vs Q} hA r hq q=>by
 refine aK (hq.one) λv iC hp=>?_;subst iC;refine cE (me.at hp r) λa vs n kG h1 h2=>?_;subst kG;have l1:=b9 h2;exact call_len_list (⟨_,h1,rfl,n,rfl⟩:s.heap.IsList a vs) (by refine fZ (l1 ..) ?_;lia) (l1▸q .rfl (aZ.int _ _) r.toks)⟩
theorem AE(ns:List Int):∀n,n<=ns.length->preSum (λi=>ns.getD i 0) n=(ns.take n).sum:=by
 intro n;induction n with
 |zero=>intro z;rfl
 |succ n ih=>
  intro h;have h1:n < ns.length:=h
  (rewrite [preSum];refine aj (ih (by exact eB (by assumption)) ..) ?_)
  refine aj (dE ..) ?_;refine aj (bJ h1 ..) ?_;refine aj (vo ..) ?_;simp only [bR,bJ h1,Option.getD_some,Aj,da,List.sum_nil,P0]
theorem Kq{ns:List Int}:Fn k mu (.builtin "sum") [me mu (ns.map .int)] (bZ (.int ns.sum)):=⟨λ{A E Z s fr vs Q} hA r hq q=>by
 refine aK (hq.one) λv ma hp=>?_;subst ma;refine cE (me.at hp r) λa vs n mE h1 h2=>?_;subst mE;have l1:ns.length=vs.size:=by (refine fZ (b9 h2 ..) ?_;refine aj (ak ..) ?_;rfl)
 have hL:s.heap.IsList a vs:=⟨_,h1,rfl,n,rfl⟩;refine call_sum_walkG (lr hL ?_);refine ⟨s.heap.objs.size,[s.heap.objs.size,a],[s.heap.objs.size],vs.size,_,_,λi=>ns.getD i 0,rfl,Walks.list (A:=A.in1) hA.hh s.heap.objs.size a (c8 (bN h1)) vs,⟨⟨_,aW _ rfl,rfl,rfl⟩,hL.at λo e=>az _ e⟩,?_,?_,?_⟩
 ·intro b hb;refine aj (fN ..) ?_;rcases aP.mp hb with rfl|hb
  ·exact jf _
  ·refine aj (aA.mp hb ..) ?_;exact cI (bN h1)
 ·intro i v hv;refine aK (h2.get' (bV.trans hv)) λx h3 h4=>?_;rw [aI] at h3;refine aK (aL.mp h3) λm h5 qY=>?_;subst qY;refine cJ (gF h4) λtk uc=>?_;subst uc;exact ⟨tk,by show jT m tk=jT (ns.getD i 0) tk;(refine aj (bR ..) ?_;refine aj (h5 ..) ?_);rfl⟩
 ·intro h' tk t' hk;refine fZ (l1 ..) ?_;refine aj (AE ns _ (bp _) ..) ?_;refine aj (cK ..) ?_;exact q .rfl (aZ.int _ _) (r.keep (tk:=tk) λb o e=>hk b o (λh=>c8 (bN e) (aA.mp h)) (az _ e))⟩
theorem Fn.ix{f:ai}{i:Int}{S:Vw}(h:∀{A:bh} {E:ai->aq->Prop} {Z:bI} {s:aq} {t:HR} {fr:Mu} {Q:ai->aq->Prop},R Z (mu++fr) s->(∀{w s'},S.p Z w->R Z (mu++fr) s'->Q w s')->aS (aX G.prog G.w) A (ku f [.int i t]) Q E s):Fn k mu f [bZ (.int i)] S:=
 ⟨λ{z z z z z z z} hA r hq q=>by obtain ⟨v,rfl,p⟩:=hq.one;exact aZ.intC p λt=>h r (q .rfl)⟩
theorem rF{c:Bool}:Fn k mu (.type "int") [bZ (.bool c)] (bZ (.int (if c then 1 else 0))):=⟨λ{z z z z z z z} hA r hq q=>by
 refine aK (hq.one) λv mO p=>?_;subst mO;refine aj (aZ.boolE p ..) ?_;exact call_int_bool (q .rfl (aZ.int _ _) r.toks)⟩
theorem H9{i:Int}:Fn k mu (.type "bool") [bZ (.int i)] (bZ (.bool (i != 0))):= .ix λ{z z z z z z z} r q=>call_bool_int (q (aZ.bool _) r)
theorem Rn{i:Int}(h0:0<=i)(h1:i<=1114111):Fn k mu (.builtin "chr") [bZ (.int i)] (bZ (.str ⟨#[i.toNat]⟩)):= .ix λ{z z z z z z z} r q=>PyProof.Rows.chr_of_range h0 h1 (q (aZ.str _ _) r.toks)
theorem Ro{c:Nat}:Fn k mu (.builtin "ord") [bZ (.str ⟨#[c]⟩)] (bZ (.int c)):=⟨λ{z z z z z z z} hA r hq q=>by
 refine aK (hq.one) λv sk p=>?_;subst sk;exact aZ.strC p λt=>PySem.P.ord_of_char (q .rfl (aZ.int _ _) r.toks)⟩
theorem Kr{i:Int}(h:(Jx "0x" 16 i).length<=er):Fn k mu (.builtin "hex") [bZ (.int i)] (bZ (.str (Jx "0x" 16 i))):= .ix λ{z z z z z z z} r q=>PySem.P.hex_of_int (q (aZ.str _ _) r.toks) h
theorem Ib{x:bb}(hl:x.cps.size<=er):Fn k mu (.type "list") [bZ (.str x)] (bZ (.list (nC x))):=⟨λ{A E Z s fr vs Q} hA r hq q=>by
 refine aK (hq.one) λv zj p=>?_;subst zj;refine cJ (gV p) λtk EO=>?_;subst EO;refine call_list_str hA.hh x tk (λh' nx SL c' hk hg hi=>?_) hl;have hz:=r.fresh (bp s.heap.objs.size);refine q (bI.le_put hz) (aZ.list (vs:=SL) (n:=c') (bI.put_self ..) (bW.ofGets ?_ λi v y hv hy=>?_)) (R.freeze (r.keep (tk:=nx) hk) hg hz (r.notOwn (bp _)))
 ·have:=hi.1;simp [nC];with_reducible assumption
 ·exact tB x hy (hi.2 i v (bV.symm.trans hv))⟩
mutual
noncomputable def Ks:V->Option wA
 | .none=>ae .none
 | .bool b=>ae (.bool b)
 | .int i=>ae (.int i)
 | .str x=>if pE x then ae (.str x) else av
 | .list xs=>(pf xs).map .list
 | .tup xs=>(pf xs).map .tuple
 |_=>av
noncomputable def pf:List V->Option (List wA)
 |[]=>ae []
 |x::xs=>(Ks x).bind λd=>(pf xs).map (d::·)
end
theorem xY(hz:∀a o,Z a=ae o->s.heap.get? a=ae o):(∀{v x},aZ G Z v x->∀d,Ks x=ae d->(∃as,Reads s.heap v d as)/\d.canLay0=aJ)/\∀{vs xs},bW G Z vs xs->∀ds,pf xs=ae ds->(∃as,ReadsAll s.heap vs ds as)/\Jy ds=aJ:=
 aZ.both (P:=λv x=>∀d,Ks x=ae d->(∃as,Reads s.heap v d as)/\d.canLay0=aJ) (Q:=λvs xs=>∀ds,pf xs=ae ds->(∃as,ReadsAll s.heap vs ds as)/\Jy ds=aJ)
  (λd e=>aO e▸⟨⟨_,.none⟩,rfl⟩) (λb d e=>aO e▸⟨⟨_,.bool b⟩,rfl⟩) (λi t d e=>aO e▸⟨⟨_,.int i _⟩,rfl⟩)
  (λx t d e=>by
   have e:(if pE x then ae (PyData.str x) else av)=ae d:=e;by_cases hs:pE x
   ·exact aO ((if_pos hs).symm.trans e)▸⟨⟨_,.str x _⟩,hs⟩
   ·exact gK ((if_neg hs).symm.trans e))
  (λz z z e=>gK e) (λz z e=>gK e) (λz z e=>gK e) (λz z e=>gK e)
  (λ{a o vs n xs} e1 hc hd ih d e=>by
   refine aK (aL.mp e) λds h1 dO=>?_;subst dO;refine dU (ih ds h1) λeU h3=>cJ eU λas h2=>?_;clear eU;exact ⟨⟨_,.tuple (hz _ _ e1) hc hd h2⟩,h3⟩)
  (λ{a vs n xs} e1 ih d e=>by
   refine aK (aL.mp e) λds h1 gi=>?_;subst gi;refine dU (ih ds h1) λiC h3=>cJ iC λas h2=>?_;clear iC;exact ⟨⟨_,.list (hz _ _ e1) rfl rfl h2⟩,h3⟩)
  (λ{z z z z z} z z z z z e=>gK e) (λ{z z z z} z z z z z z e=>gK e)
  (λds e=>aO e▸⟨⟨_,.nil⟩,rfl⟩)
  (λ{v vs x xs} ih z ihs ds e=>by
   refine aK (dq.mp e) λd h1 h2=>aK (aL.mp h2) λds h3 kG=>?_;subst kG;refine dU (ih d h1) λma h5=>cJ ma λas h4=>?_;clear ma;refine dU (ihs ds h3) λmE h7=>cJ mE λbs h6=>?_;clear mE;exact ⟨⟨_,.cons h4 h6⟩,cn.mpr ⟨h5,h7⟩⟩)
theorem rG(hz:∀a o,Z a=ae o->s.heap.get? a=ae o)(x:V){v:ai}{d:wA}(h:aZ G Z v x)(e:Ks x=ae d):(∃as,Reads s.heap v d as)/\d.canLay0=aJ:=(xY hz).1 h d e
theorem wJ(hz:∀a o,Z a=ae o->s.heap.get? a=ae o)(xs:List V){vs:List ai}{ds:List wA}(h:bW G Z vs xs)(e:pf xs=ae ds):(∃as,ReadsAll s.heap vs ds as)/\Jy ds=aJ:=(xY hz).2 h ds e
theorem Rm.eq{A:bh}(hA:Rm k A){n:Nat}(h:n<=100):A.units+n < 9900:=by have:=hA.uni;lia
theorem Rp{dx dy:wA}(hx:Ks x=ae dx)(hy:Ks y=ae dy)(hd:min dx.depth dy.depth<=100):s8 k mu .Eq (bZ x) (bZ y) (PyData.eqv dx dy):=⟨λ{A E Z s fr v u T} hA r hp hq q=>by
 refine dU (rG (s:=s) r.zin x hp hx) λqY h2=>cJ qY λas h1=>?_;clear qY;refine dU (rG (s:=s) r.zin y hq hy) λuc h4=>cJ uc λbs h3=>?_;clear uc;exact SeqAt.compareEq_reads h1 h3 h2 h4 (hA.eq hd) (q .rfl (.bool _) r)⟩
theorem Kt{dx dy:wA}(hx:Ks x=ae dx)(hy:Ks y=ae dy)(hd:min dx.depth dy.depth<=100):s8 k mu .NotEq (bZ x) (bZ y) (!PyData.eqv dx dy):=⟨λ{A E Z s fr v u T} hA r hp hq q=>by
 refine dU (rG (s:=s) r.zin x hp hx) λmO h2=>cJ mO λas h1=>?_;clear mO;refine dU (rG (s:=s) r.zin y hq hy) λsk h4=>cJ sk λbs h3=>?_;clear sk;exact SeqAt.compareNe_reads h1 h3 h2 h4 (hA.eq hd) (q .rfl (.bool _) r)⟩
theorem G7(ds:List wA):PyData.eqv (.list ds) (.list [])=ds.isEmpty:=by cases ds <;> rfl
theorem Dl{ds:List wA}(e:pf xs=ae ds):ds.length=xs.length:=by
 induction xs generalizing ds with
 |nil=>exact aO e▸rfl
 |cons x xs ih=>refine aK (dq.mp e) λd h1 h2=>aK (aL.mp h2) λds h3 zj=>?_;subst zj;exact congrArg xj (ih h3)
theorem xZ{ds:List wA}(e:pf xs=ae ds):ds.isEmpty=xs.isEmpty:=by have:=Dl e;cases xs <;> cases ds <;> first|rfl|cases this
theorem Dm{ds:List wA}(e:pf xs=ae ds):Ks (.list xs)=ae (.list ds):=congrArg (Option.map PyData.list) e
theorem AG{d:wA}:min d.depth (PyData.list []).depth<=100:=aw (ou _ _) (by decide)
theorem FG(h:(pf xs).isSome=aJ):s8 k mu .Eq (bZ (.list xs)) (bZ (.list [])) xs.isEmpty:=by
 refine cJ (dH.mp h) λds hd=>?_;have:=Rp (k:=k) (mu:=mu) (y:= .list []) (Dm hd) rfl AG
 rwa [G7,xZ hd] at this
theorem BM(h:(pf xs).isSome=aJ):s8 k mu .NotEq (bZ (.list xs)) (bZ (.list [])) (!xs.isEmpty):=by
 refine cJ (dH.mp h) λds hd=>?_;have:=Kt (k:=k) (mu:=mu) (y:= .list []) (Dm hd) rfl AG
 rwa [G7,xZ hd] at this
theorem tE{vs:List ai}{ns:List Int}(h:bW G Z vs (ns.map .int)):uj vs ns:=by
 induction ns generalizing vs with
 |nil=>cases h.nil_inv;exact .nil
 |cons n ns ih=>refine cC (h.cons_inv) λv vs EO a r=>?_;subst EO;exact aZ.intC (P:=λv=>uj (v::vs) (n::ns)) a λt=> .cons _ _ (ih r)
theorem tF{vs:List ai}{ns:List bb}(h:bW G Z vs (ns.map .str)):StrsAre vs ns:=by
 induction ns generalizing vs with
 |nil=>cases h.nil_inv;exact .nil
 |cons n ns ih=>refine cC (h.cons_inv) λv vs MR a r=>?_;subst MR;exact aZ.strC (P:=λv=>StrsAre (v::vs) (n::ns)) a λt=> .cons _ _ (ih r)
theorem Ku{f:ai->ai->oZ ai}{i:Int}{ns:List Int}{b:Bool}(h:∀{A:bh} {E:ai->aq->Prop} {s:aq} {t:HR} {a:ay} {vs:List ai} {T:ai->aq->Prop},s.heap.IsList a vs.toArray->uj vs ns->T (.bool b) s->aS (aX G.prog G.w) A (f (.int i t) (.ref a)) T E s):B2 k mu f (bZ (.int i)) (me mu (ns.map .int)) (bZ (.bool b)):=⟨λ{A E Z s fr v u T} hA r hp hq q=>by
 refine cJ (gF hp) λtk SM=>?_;subst SM;refine cE (me.at hq r) λa vs n SN h1 h2=>?_;subst SN;exact h (vs:=vs.toList) ⟨_,h1,rfl,n,rfl⟩ (tE h2) (q .rfl (.bool _) r)⟩
theorem Kv{f:ai->ai->oZ ai}{i:bb}{ns:List bb}{b:Bool}(h:∀{A:bh} {E:ai->aq->Prop} {s:aq} {t:HR} {a:ay} {vs:List ai} {T:ai->aq->Prop},s.heap.IsList a vs.toArray->StrsAre vs ns->T (.bool b) s->aS (aX G.prog G.w) A (f (.str i t) (.ref a)) T E s):B2 k mu f (bZ (.str i)) (me mu (ns.map .str)) (bZ (.bool b)):=⟨λ{A E Z s fr v u T} hA r hp hq q=>by
 refine cJ (gV hp) λtk PG=>?_;subst PG;refine cE (me.at hq r) λa vs n SO h1 h2=>?_;subst SO;exact h (vs:=vs.toList) ⟨_,h1,rfl,n,rfl⟩ (tF h2) (q .rfl (.bool _) r)⟩
theorem Rq{i:Int}{ns:List Int}:s8 k mu .In (bZ (.int i)) (me mu (ns.map .int)) (ns.any (· == i)):=Ku λ{z z z z z z z} a b q=>PyProof.Rows.in_list_ints a b q
theorem Ob{i:Int}{ns:List Int}:s8 k mu .NotIn (bZ (.int i)) (me mu (ns.map .int)) (!ns.any (· == i)):=Ku λ{z z z z z z z} a b q=>PyProof.Rows.notin_list_ints a b q
theorem FH{i:bb}{ns:List bb}:s8 k mu .In (bZ (.str i)) (me mu (ns.map .str)) (ns.any (· == i)):=Kv λ{z z z z z z z} a b q=>PyProof.Rows.in_list_strs a b q
theorem BN{i:bb}{ns:List bb}:s8 k mu .NotIn (bZ (.str i)) (me mu (ns.map .str)) (!ns.any (· == i)):=Kv λ{z z z z z z z} a b q=>PyProof.Rows.notin_list_strs a b q
theorem zO{x:bb}{l:List (bb×ai)}{r:List (bb×V)}(h:l.map (·.1)=r.map (·.1))(hr:bW G Z (l.map (·.2)) (r.map (·.2))):(vn l x).isSome=(mf r x).isSome:=by
 cases hd:mf r x with
 |none=>refine aj (te h hd ..) ?_;rfl
 |some y=>obtain ⟨v,hv,_⟩:=uI h hr hd;refine aj (hv ..) ?_;rfl
theorem Kw{i:bb}{es:List (bb×V)}:s8 k mu .In (bZ (.str i)) (Nu mu es) (mf es i).isSome:=⟨λ{A E Z s fr v u T} hA r hp hq q=>by
 refine cJ (gV hp) λtk q19z=>?_;subst q19z;refine Ap (Nu.at hq r) λa kvs q20z EN h1 h2 h3=>?_;subst q20z;exact wpAny_in_of (zt G.prog G.w i tk) EN h1.mapOf (zO h2 h3▸q .rfl (.bool _) r.toks)⟩
theorem Od{l:List (bb×HR)}:bW G Z (strValues l) ((l.map (·.1)).map .str):=by
 induction l with
 |nil=>exact .nil
 |cons a l ih=>exact .cons (aZ.str _ _) ih
theorem Ic{vs:List ai}{ts:List bb}(h:StrsAre vs ts):∃l:List (bb×HR),vs=strValues l/\l.map (·.1)=ts:=by
 induction h with
 |nil=>exact ⟨[],rfl,rfl⟩
 |cons y t _ ih=>obtain ⟨l,h3,h4⟩:=ih;exact ⟨(y,t)::l,by refine aj (h3 ..) ?_;rfl,congrArg (List.cons y) h4⟩
theorem G8{sep:bb}{ts:List bb}(hok:Nd sep ts=aJ):Fn k mu (.builtin "str.join") [bZ (.str sep),me mu (ts.map .str)] (bZ (.str (fO sep ts))):=⟨λ{A E Z s fr vs Q} hA r hq q=>by
 refine cC (hq.two) λv u q21z q1 q2=>?_;subst q21z;refine cJ (gV q1) λtk q22z=>?_;subst q22z;refine cE (me.at q2 r) λa vs n q23z h1 h2=>?_;subst q23z;exact aK (Ic (tF h2)) λl hl ht=>SC.join (⟨_,h1,rfl,n,by (refine fZ (hl ..) ?_;rfl)⟩:s.heap.IsList a (strValues l).toArray) ht hok λt' k'=>q .rfl (aZ.str _ _) r.toks⟩
theorem rH{l:List (bb×HR)}{ts:List bb}{tk:Nat}{T:Prop}(r:R Z mu s)(e:l.map (·.1)=ts)(q:∀{Z'},Z.le Z'->aZ G Z' (.ref s.heap.objs.size) (.list (ts.map .str))->R Z' mu {s with heap:=s.heap.push {cls:= .type "list",data:= .seq (strValues l).toArray},toks:=tk}->T):T:=
 xW r (e▸Od (l:=l)) q
theorem Ie{x:bb}(h1:x.length<=er)(h2:(Builtin.Str.spaceWords x (x.length+1)).length<=er):Fn k mu (.builtin "str.split") [bZ (.str x)] (bZ (.list ((Txt.words x).map .str))):=⟨λ{A E Z s fr vs Q} hA r hq q=>by
 refine aK (hq.one) λv q24z q1=>?_;subst q24z;refine cJ (gV q1) λtk q25z=>?_;subst q25z;refine l6 jX (Tv _ _ _) vp (F.args_str_split_1 _) (meets_str_split_space x tk h1 h2) ?_;unfold Txt.words at q;cases hw:Builtin.Str.spaceWords x (x.length+1) == [(0,x.length)]
 ·simp only [hw,dj,if_false] at q ⊢;exact aj (strsFrom_eq ..) (rH r (numbered_texts ..) q)
 ·simp only [hw,if_true] at q ⊢;exact rH (l:=[(x,tk)]) r rfl q⟩
def ky.S0(x y:bb):Prop:=∀{k:Nat} {mu:Mu} (hy:(y.length == 0)=aH) (hx1:x.length<=er) (PH:(Builtin.Str.partsBetween x (cZ x y 0 x.length (x.length+1)) y.length).length<=er),Fn k mu (.builtin "str.split") [bZ (.str x),bZ (.str y)] (bZ (.list ((Nf x y).map .str)))
namespace ky
@[irreducible] def e0:=P8 inferInstance inferInstance S0
def x_:=e0.1
def y_:=e0.2
theorem T0:S0 x_ y_:=λ{k} {mu} hy hx1 PH=>⟨λ{A E Z s fr vs Q} hA r hq q=>by
 refine cC (hq.two) λv u q26z q1 q2=>?_;subst q26z;refine cJ (gV q1) λtk q27z=>?_;subst q27z;refine cJ (gV q2) λnx q28z=>?_;subst q28z;unfold Nf at q;cases h1:(decide (x_.length < y_.length) || decide (mQ x_ < mQ y_))
 ·cases hf:(cZ x_ y_ 0 x_.length (x_.length+1)).isEmpty
  ·refine l6 jX (Tv _ _ _) vp (GN _ _) (meets_str_split_sep x_ y_ tk nx h1 hy hf hx1 PH) ?_;simp only [h1,hf,dj,if_false] at q;exact aj (strsFrom_eq ..) (rH r (numbered_texts ..) q)
  ·refine l6 jX (Tv _ _ _) vp (GN _ _) (meets_str_split_not_found x_ y_ tk nx h1 hy hf) ?_;simp only [h1,hf,dj,if_false,if_true] at q;exact rH (l:=[(x_,tk)]) r rfl q
 ·refine l6 jX (Tv _ _ _) vp (GN _ _) (meets_str_split_cannot_occur x_ y_ tk nx h1) ?_;simp only [h1,if_true] at q;exact rH (l:=[(x_,tk)]) r rfl q⟩
end ky
theorem ky{x y:bb}:ky.S0 x y:=by with_unfolding_all exact Fk _ _ ky.S0 @ky.T0 x y
theorem rI{x y:bb}:Fn k mu (.builtin "str.count") [bZ (.str x),bZ (.str y)] (bZ (.int (Ng x y))):=⟨λ{z z z z z z z} hA r hq q=>by
 refine cC (hq.two) λv u q29z q1 q2=>?_;subst q29z;exact aZ.strC q1 λz=>aZ.strC q2 λz=>SC.count (q .rfl (aZ.int _ _) r.toks)⟩
theorem Dn(x:Int){vs:List ai}{ns:List Int}(h:uj vs ns):vs.countP (isInt x)=ns.countP (· == x):=by
 induction h with
 |nil=>rfl
 |cons n t _ ih=>(refine aj (List.countP_cons ..) ?_;refine aj (List.countP_cons ..) ?_;refine aj (ih ..) ?_);rfl
theorem Do{x:Int}{ns:List Int}:Fn k mu (.builtin "list.count") [me mu (ns.map .int),bZ (.int x)] (bZ (.int (ns.countP (· == x):Nat))):=⟨λ{A E Z s fr vs Q} hA r hq q=>by
 refine cC (hq.two) λv u q30z q1 q2=>?_;subst q30z;refine cE (me.at q1 r) λa ws n q31z h1 h2=>?_;subst q31z;refine cJ (gF q2) λnx q32z=>?_;subst q32z;have hi:=tE h2;exact l6 F.slot_list_count (⟨_,h1,rfl⟩:s.TypeIs (.ref a) "list") F.entry_list_count (F.args_list_count_2 _ _) (MeetsSeq.list_count a ws n (.int x nx) (isInt x) (λy hy=>eq_isInt x nx hi y (pF.mpr hy)))
  ⟨h1,by refine aj (Dn x hi ..) ?_;exact q .rfl (aZ.int _ _) r.toks⟩⟩
theorem Dp{x:Int}{ns:List Int}{j:Nat}(hj:ns[j]? =ae x)(Br:∀m,m < j->ns[m]? ≠ae x)(hl:ns.length<=2 ^ 40):Fn k mu (.builtin "list.index") [me mu (ns.map .int),bZ (.int x)] (bZ (.int j)):=⟨λ{A E Z s fr vs Q} hA r hq q=>by
 refine cC (hq.two) λv u q33z q1 q2=>?_;subst q33z;refine cE (me.at q1 r) λa ws n q34z h1 h2=>?_;subst q34z;refine cJ (gF q2) λnx q35z=>?_;subst q35z;have hlen:ws.size=ns.length:=by (refine fZ (b9 h2 ..) ?_;refine aj (ak ..) ?_;rfl)
 have hjl:=(aB.mp hj).1;have key:∀(m:Nat) (hm:m < ws.size),isInt x ws[m]=decide (ns[m]? =ae x):=by intro m hm;refine aK (h2.get' (bV.trans (dY hm))) λy h4 h5=>?_;rw [aI] at h4;refine aK (aL.mp h4) λc h6 q36z=>?_;subst q36z;refine cJ (gF h5) λtk h7=>?_;refine aj (h7 ..) ?_;refine aj (h6 ..) ?_;show decide (c=x)=_;refine gj (decide_eq_decide ..) ?_;exact ⟨λe=>e▸rfl,aO⟩
 have hi:=tE h2;exact l6 F.slot_list_index (⟨_,h1,rfl⟩:s.TypeIs (.ref a) "list") F.entry_list_index (F.args_list_index_2 _ _) (MeetsSeq.list_index a ws n (.int x nx) (isInt x) (λy hy=>eq_isInt x nx hi y (pF.mpr hy)) j (hlen▸hjl) (by lia) (by (refine aj (key _ (hlen▸hjl) ..) ?_;refine aj (hj ..) ?_);exact decide_eq_true rfl) (λm hm hlt=>by refine aj (key ..) ?_;exact decide_eq_false (Br m hlt)))
  ⟨h1,q .rfl (aZ.int _ _) r.toks⟩⟩
variable {Φ:V->Mu->Prop}
structure FW(k:Nat)(mu:Mu)(f:ai)(xs:List V)(Φ:V->Mu->Prop):Prop where
 c:∀{A:bh} {E:ai->aq->Prop} {Z:bI} {s:aq} {fr:Mu} {vs:List ai} {Q:ai->aq->Prop},Rm k A->R Z (mu++fr) s->bW G Z vs xs->
  (∀{w s' Z' y nu},Z.le Z'->aZ G Z' w y->R Z' (nu++fr) s'->Φ y nu->Q w s')->aS (aX G.prog G.w) A (ku f vs) Q E s
structure FC(k:Nat)(mu:Mu)(f:ai)(xs:List V)(Φ:V->Mu->Prop):Prop where
 c:∀{A:bh} {E:ai->aq->Prop} {Z:bI} {s:aq} {fr:Mu} {vs:List ai} {Q:ai->aq->Prop},Rm k A->R Z (mu++fr) s->bW G Z vs xs->
  (∀{w s' Z' y nu},Z.le Z'->aZ G Z' w y->R Z' (nu++fr) s'->Φ y nu->Q w s')->iV (aX G.prog G.w) A (.call f ⟨vs,[]⟩) (λr s'=>match r with| .ok (.ret v)=>Q v s'| .ok _=>False| .error e=>E e s') s
theorem FC.fw{k:Nat}{mu:Mu}{f:ai}{xs:List V}{Φ:V->Mu->Prop}(h:FC k mu f xs Φ):FW k mu f xs Φ:=⟨λ{z z z z z z z} hA r hv q=>eF (h.c hA r hv q)⟩
structure jK(y:V)(nu:Mu)(Φ:V->Mu->Prop):Prop where
 c:∀{Z:bI} {s:aq} {fr:Mu} {v:ai} {T:Prop},R Z (nu++fr) s->aZ G Z v y->(∀{Z' y' nu'},Z.le Z'->aZ G Z' v y'->R Z' (nu'++fr) s->Φ y' nu'->T)->T
noncomputable def lE(Φ:V->Mu->Prop):AF->Mu->Prop
 | .ret y,nu=>jK y nu Φ
 | .next,nu=>jK .none nu Φ
 |_,_=>False
def Kn(mu:Mu)(p:dG->Prop):Prop:=∀Z s,R Z mu s->p s.heap
noncomputable def mj(a:ay)(o:oY):cX where
 own:=[a]
 sat:=λZ h=>h.get? a=ae o
 mono:=λz z z z e=>e
 loc:=λZ h h' e hk z z=>hk a aa _ e
 live:=λZ h e b hb=>⟨_,aA.mp hb▸e⟩
noncomputable abbrev dT(fd:cg)(a L:ay):gP:=newEnv fd.scope L fd.globals (xm (L+1) fd.scope.names fd.closure) (fd.qualname++".<locals>.") (ae a) fd.code av fd.builtins
noncomputable abbrev vN(fd:cg)(L:ay)(bz:d9):cX:=bq L (aM (L+1) fd.scope.names) bz
section
variable {es:List bH}
theorem Kn.app{q:dG->Prop}(h:Kn mu q)(r:R Z (mu++nu) s):q s.heap:=h Z s r.left
theorem Kn.z0{a:ay}{o:oY}(h:G.Z0 a=ae o):Kn mu λhp=>hp.get? a=ae o:=λZ s r=>r.z0in _ _ h
theorem Kn.obj{a:ay}{o:oY}(h:mj a o∈mu):Kn mu λhp=>hp.get? a=ae o:=λZ s r=>r.sat _ h
theorem Kn.sub{q:dG->Prop}(h:Kn mu q)(hs:mu.Sublist nu):Kn nu q:=λZ s r=>h Z s (r.sublist hs)
theorem jK.keep(h:Φ y nu):jK y nu Φ:=⟨λ{z z z z z} r v q=>q .rfl v r h⟩
theorem jK.sub{nu':Mu}(hs:nu'.Sublist nu)(h:jK y nu' Φ):jK y nu Φ:=⟨λ{Z s fr v T} r w q=>h.c (r.sublist (hs.append (sO fr))) w q⟩
theorem jK.tail{a:cX}(h:jK y nu Φ):jK y (a::nu) Φ:=jK.sub (gW _ _) h
theorem Qi(B:g7 G){fd:cg}{a:ay}{ob:oY}{body:List ed}{names:List bb}{vals':ay->d9}(Bs:Kn mu λhp=>hp.get? a=ae ob)(hd:ob.data= .func fd)(hcd:Kn mu λhp=>hp.CodeRec fd.code fd.qualname)(so:fd.body= .stmts body)
 (i0:∀vs,vs.length=xs.length->pG fd ⟨vs,[]⟩=dg (names.zip vs)) (hnd:(aM 0 fd.scope.names).nd) (he:∀L,du (dT fd a L))
 (hb:∀L,i9 (dT fd a L) L (aM (L+1) fd.scope.names) names xs (nones (aM (L+1) fd.scope.names)) (vals' L))
 (h:∀L,WS k (vN fd L (vals' L)::mu) (dT fd a L) body (lE Φ)) (wm:autoParam (fd.scope.isCoroutine=aH) aR) (mP:autoParam (fd.scope.isGenerator=aH) aR):FC (k+1) mu (.ref a) xs Φ:=⟨λ{A E Z s fr vs Q} hA r hv q=>by
 refine qm hA.depth (Bs.app r) hd wm mP so (hcd.app r) (aj (i0 vs hv.length ..) ?_);refine ar (pM (vals':=vals' s.heap.objs.size) r hnd (he _) hv (hb _) λs' r'=>⟨B.lim _ r'.z0in,Jz ?_⟩);refine (h s.heap.objs.size).c (hA.deeper _) r' λ{f s2 Z2 af ub} z2 f2 r2 w2=>?_
 revert w2
 exact o5.by f2 (λw=>jK.c (show jK .none ub Φ from w) r2 .none λ{z z z} z3=>q (z2.trans z3)) (λw=>w.elim) (λw=>w.elim) λv x hv w=>jK.c (show jK x ub Φ from w) r2 hv λ{z z z} z3=>q (z2.trans z3)⟩
theorem Kx(B:g7 G){fd:cg}{a:ay}{ob:oY}{body:List ed}{names:List bb}{vals':ay->d9}(Bs:Kn mu λhp=>hp.get? a=ae ob)(hd:ob.data= .func fd)(hcd:Kn mu λhp=>hp.CodeRec fd.code fd.qualname)(so:fd.body= .stmts body)
 (i0:∀vs,vs.length=xs.length->pG fd ⟨vs,[]⟩=dg (names.zip vs)) (hnd:(aM 0 fd.scope.names).nd) (he:∀L,du (dT fd a L))
 (hb:∀L,i9 (dT fd a L) L (aM (L+1) fd.scope.names) names xs (nones (aM (L+1) fd.scope.names)) (vals' L))
 (h:∀L,WS k (vN fd L (vals' L)::mu) (dT fd a L) body (lE Φ)) (wm:autoParam (fd.scope.isCoroutine=aH) aR) (mP:autoParam (fd.scope.isGenerator=aH) aR):FW (k+1) mu (.ref a) xs Φ:=(Qi B Bs hd hcd so i0 hnd he hb h wm mP).fw
theorem FI(B:g7 G){fd:cg}{a:ay}{ob:oY}{body:bH}{names:List bb}{vals':ay->d9}(Bs:Kn mu λhp=>hp.get? a=ae ob)(hd:ob.data= .func fd)(hcd:Kn mu λhp=>hp.CodeRec fd.code fd.qualname)(so:fd.body= .expr body)
 (i0:∀vs,vs.length=xs.length->pG fd ⟨vs,[]⟩=dg (names.zip vs)) (hnd:(aM 0 fd.scope.names).nd) (he:∀L,du (dT fd a L))
 (hb:∀L,i9 (dT fd a L) L (aM (L+1) fd.scope.names) names xs (nones (aM (L+1) fd.scope.names)) (vals' L))
 (h:∀L,WE k (vN fd L (vals' L)::mu) (dT fd a L) body λy nu=>jK y nu Φ) (wm:autoParam (fd.scope.isCoroutine=aH) aR) (mP:autoParam (fd.scope.isGenerator=aH) aR):FW (k+1) mu (.ref a) xs Φ:=⟨λ{A E Z s fr vs Q} hA r hv q=>by
 refine eF (kla_callFunE hA.depth (Bs.app r) hd wm mP so (hcd.app r) ?_);refine aj (i0 vs hv.length ..) (ar (pM (vals':=vals' s.heap.objs.size) r hnd (he _) hv (hb _) λs' r'=>⟨B.lim _ r'.z0in,kla_codeExpr ?_⟩));exact (h s.heap.objs.size).c (hA.deeper _) r' λ{z z z z z} z2 f2 r2 w2=>w2.c r2 f2 λ{z z z} z3=>q (z2.trans z3)⟩
structure Dq(k:Nat)(mu:Mu)(env:gP)(es:List bH)(Ψ:List V->Mu->Prop):Prop where
 c:∀{A:bh} {E:ai->aq->Prop} {Z:bI} {s:aq} {fr:Mu} {pos:jB} {Q:List ai->aq->Prop},Rm k A->R Z (mu++fr) s->
  (∀{vs s' Z' ys nu},Z.le Z'->bW G Z' vs ys->R Z' (nu++fr) s'->Ψ ys nu->Q vs s')->aS (aX G.prog G.w) A (spliced (lj pos (fo es env))) Q E s
noncomputable def kh:List bH->Bool
 |[]=>aJ
 | .Starred _ _::_=>aH
 |_::r=>kh r
theorem jt(h:kh (e::es)=aJ):(∀a p,e≠ .Starred a p)/\kh es=aJ:=by cases e <;> first|(refine ⟨λz z h=>(nomatch h),?_⟩;exact h)|exact (vG h)
theorem kY(h:kh es=aJ)(pos:jB):(lj pos (fo es env)).any (·.1)=aH:=by
 induction es with
 |nil=>rfl
 |cons e es ih=>exact dU (jt h) λh1 h2=>aj (et h1 ..) (ih h2)
theorem e9{Ψ:List V->Mu->Prop}(h:Ψ [] mu):Dq k mu env [] Ψ:=⟨λ{z z z z z z z} hA r q=>ar (q .rfl .nil r h)⟩
theorem cA{Ψ:List V->Mu->Prop}(h:WE k mu env e λy nu=>Dq k nu env es λys nu'=>Ψ (y::ys) nu')(hs:∀a p,e≠ .Starred a p:=by intro z z h;cases h):Dq k mu env (e::es) Ψ:=⟨λ{A E Z s fr pos Q} hA r q=>by
 refine aj (et hs ..) ?_;show aS _ A (dW e env >>=λv=>eW [v] (spliced (lj pos (fo es env))) >>=λr=>dg ([v]++r)) Q E s;exact ag (h.c hA r λ{z z z z z} z1 q1 r1 w1=>ag (bE (w1.c hA r1 λ{z z z z z} z2 q2 r2 w2=>ar (q (z1.trans z2) (.cons (q1.mono z2) q2) r2 w2))))⟩
theorem tA.war{Ψ:List V->Mu->Prop}(h:tA k mu env es (ys.map bZ))(hΨ:Ψ ys mu):Dq k mu env es Ψ:=⟨λ{z z z z z z z} hA r q=>h.c hA r λ{z z z} z1 q1 r1=>q z1 q1.vrels r1 hΨ⟩
theorem G9{A:bh}{E:ai->aq->Prop}{fr:Mu}{Q:ai->aq->Prop}{Ψ:List V->Mu->Prop}{a:ay}{ob:oY}{fd:cg}{first:List ai}(ha:Dq k mu env (e::es) Ψ)(wo:kh (e::es)=aJ)(hA:Rm k A)(r:R Z (mu++fr) s)
 (h:∀{vs s' Z' ys nu},Z.le Z'->bW G Z' vs ys->R Z' (nu++fr) s'->Ψ ys nu->(s'.heap.get? a=ae ob/\ob.data= .func fd)/\aS (aX G.prog G.w) A (ku (.ref a) (first++vs) []) Q E s'):aS (aX G.prog G.w) A (pC pos (.ref a) first (lj pos (fo (e::es) env)) []) Q E s:=by
 refine callWith_function (o:=ob) (fd:=fd) ?_;have hr:=ha.c (E:=E) (pos:=pos) hA r h;rw [et (jt wo).1] at hr ⊢;exact Ju hr
theorem Ha{A:bh}{E:ai->aq->Prop}{fr:Mu}{Q:ai->aq->Prop}{id:String}{Ps:List (Vw)}{first:List ai}(ha:tA k mu env (e::es) Ps)(hA:Rm k A)(r:R Z (mu++fr) s)
 (h:∀{vs s' Z'},Z.le Z'->j3 Z' vs Ps->R Z' (mu++fr) s'->aS (aX G.prog G.w) A (ku (.builtin id) (first++vs) []) Q E s'):aS (aX G.prog G.w) A (pC pos (.builtin id) first (lj pos (fo (e::es) env)) []) Q E s:=by
 refine callWith_builtin (ha.plain pos) ?_;have hr:=ha.c (E:=E) (pos:=pos) hA r h;rw [et ha.unstar] at hr ⊢;exact Ju hr
theorem Hb{A:bh}{E:ai->aq->Prop}{fr:Mu}{Q:ai->aq->Prop}{Ψ:List V->Mu->Prop}{id:String}{first:List ai}(ha:Dq k mu env (e::es) Ψ)(wo:kh (e::es)=aJ)(hA:Rm k A)(r:R Z (mu++fr) s)
 (h:∀{vs s' Z' ys nu},Z.le Z'->bW G Z' vs ys->R Z' (nu++fr) s'->Ψ ys nu->aS (aX G.prog G.w) A (ku (.builtin id) (first++vs) []) Q E s'):aS (aX G.prog G.w) A (pC pos (.builtin id) first (lj pos (fo (e::es) env)) []) Q E s:=by
 refine callWith_builtin (kY wo pos) ?_;have hr:=ha.c (E:=E) (pos:=pos) hA r h;rw [et (jt wo).1] at hr ⊢;exact Ju hr
theorem ml{f:bb}{a:ay}{ob:oY}{fd:cg}(hf:PE k mu env (.Name f p) (.ref a))(h0:G.Z0 a=ae ob)(hd:ob.data= .func fd)(ha:Dq k mu env (e::es) λys nu=>FW k nu (.ref a) ys Φ)(hs:∀a p,e≠ .Starred a p:=by intro z z h;cases h):
 WE k mu env (.Call (.Name f p) (e::es) [] pos) Φ:=⟨λ{A E Z s fr Q} hA r q=>by
 with_reducible refine gB ?_
 refine hf.c hA r λ{f s1 Z1} z1 q1 r1=>aj (aZ.refE q1 ..) ?_;exact iJ hd (ha.c hA r1 λ{z z z z z} z2 q2 r2 w2=>⟨r2.z0in _ _ h0,w2.c hA r2 q2 λ{z z z z z} z3=>q (z1.trans (z2.trans z3))⟩) (et hs)⟩
end
structure rJ(G:Gd)(a:ay)(st:ed):Prop where
 go:∃ob pm cd doc,G.Z0 a=ae ob/\ob.data= .func (mz (md st) (wD st) (fR st) (bk st) pm cd doc)/\∀h:dG,(∀a o,G.Z0 a=ae o->h.get? a=ae o)->h.CodeRec cd (md st)
noncomputable def qw:List (Int×ai):=oG.mapIdx λi n=>((2:Int) ^ i,.str n (254+2*i))
def Hy(G:Gd):Prop:=
 (g7 G)/\
 (G.mg "pretty_flags"=ae (.ref 72))/\
 (G.mg "COMPILER_FLAG_NAMES"=ae (.ref 65))/\
 (G.mg "_ExceptionTableEntry"=ae (.ref 162))/\
 (G.mg "_parse_varint"=ae (.ref 172))/\
 (G.mg "_parse_exception_table"=ae (.ref 179))/\
 (G.mg "_netrclex"=ae (.ref 217))/\
 (G.mg "TupleComp"=ae (.ref 245))/\
 (G.mg "add_func_stats"=ae (.ref 256))/\
 (G.mg "add_callers"=ae (.ref 263))/\
 (G.mg "count_calls"=ae (.ref 270))/\
 (G.mg "_law_given"=ae (.ref 275))/\
 (G.mg "_law_spelled"=ae (.ref 280))/\
 (G.mg "_law_octets"=ae (.ref 285))/\
 (G.mg "_law_back"=ae (.ref 290))/\
 (G.mg "_law_run"=ae (.ref 297))/\
 (G.mg "_law_hear"=ae (.ref 302))/\
 (G.mg "range"=av)/\
 (G.mg "len"=av)/\
 (G.mg "sum"=av)/\
 (G.mg "enumerate"=av)/\
 (G.mg "int"=av)/\
 (G.mg "bool"=av)/\
 (G.mg "list"=av)/\
 (G.mg "set"=av)/\
 (G.mg "sorted"=av)/\
 (G.mg "hex"=av)/\
 (G.mg "next"=av)/\
 (G.mg "iter"=av)/\
 (G.mg "ord"=av)/\
 (G.mg "chr"=av)/\
 (G.mg "bytes"=av)/\
 (G.mg "isinstance"=av)/\
 (G.mg "tuple"=av)/\
 (G.mg "StopIteration"=av)/\
 ((65 == lY)=aH/\∀h:dG,(∀a o,G.Z0 a=ae o->h.get? a=ae o)->h.DictOf (lu G.prog G.w) 65 qw)/\
 (rJ G 72 (cN 4))/\
 (rJ G 172 (cN 7))/\
 (rJ G 179 (cN 8))/\
 (rJ G 256 (cN 13))/\
 (rJ G 263 (cN 14))/\
 (rJ G 270 (cN 15))/\
 (rJ G 275 (cN 17))/\
 (rJ G 280 (cN 18))/\
 (rJ G 285 (cN 19))/\
 (rJ G 290 (cN 20))/\
 (rJ G 297 (cN 21))/\
 rJ G 302 (cN 22)
section
variable {G:Gd}(h:Hy G)
def Hy.B:=@h.1
def Hy.m_flags:=@h.2.1
def Hy.m_names:=@h.2.2.1
def Hy.m_entry:=@h.2.2.2.1
def Hy.m_varint:=@h.2.2.2.2.1
def Hy.m_table:=@h.2.2.2.2.2.1
def Hy.m_lex:=@h.2.2.2.2.2.2.1
def Hy.m_comp:=@h.2.2.2.2.2.2.2.1
def Hy.m_stats:=@h.2.2.2.2.2.2.2.2.1
def Hy.m_callers:=@h.2.2.2.2.2.2.2.2.2.1
def Hy.m_count:=@h.2.2.2.2.2.2.2.2.2.2.1
def Hy.m_given:=@h.2.2.2.2.2.2.2.2.2.2.2.1
def Hy.m_spelled:=@h.2.2.2.2.2.2.2.2.2.2.2.2.1
def Hy.m_octets:=@h.2.2.2.2.2.2.2.2.2.2.2.2.2.1
def Hy.m_back:=@h.2.2.2.2.2.2.2.2.2.2.2.2.2.2.1
def Hy.m_run:=@h.2.2.2.2.2.2.2.2.2.2.2.2.2.2.2.1
def Hy.m_hear:=@h.2.2.2.2.2.2.2.2.2.2.2.2.2.2.2.2.1
def Hy.b_range:=@h.2.2.2.2.2.2.2.2.2.2.2.2.2.2.2.2.2.1
def Hy.b_len:=@h.2.2.2.2.2.2.2.2.2.2.2.2.2.2.2.2.2.2.1
def Hy.b_sum:=@h.2.2.2.2.2.2.2.2.2.2.2.2.2.2.2.2.2.2.2.1
def Hy.b_enumerate:=@h.2.2.2.2.2.2.2.2.2.2.2.2.2.2.2.2.2.2.2.2.1
def Hy.b_int:=@h.2.2.2.2.2.2.2.2.2.2.2.2.2.2.2.2.2.2.2.2.2.1
def Hy.b_bool:=@h.2.2.2.2.2.2.2.2.2.2.2.2.2.2.2.2.2.2.2.2.2.2.1
def Hy.b_list:=@h.2.2.2.2.2.2.2.2.2.2.2.2.2.2.2.2.2.2.2.2.2.2.2.1
def Hy.b_set:=@h.2.2.2.2.2.2.2.2.2.2.2.2.2.2.2.2.2.2.2.2.2.2.2.2.1
def Hy.b_sorted:=@h.2.2.2.2.2.2.2.2.2.2.2.2.2.2.2.2.2.2.2.2.2.2.2.2.2.1
def Hy.b_hex:=@h.2.2.2.2.2.2.2.2.2.2.2.2.2.2.2.2.2.2.2.2.2.2.2.2.2.2.1
def Hy.b_next:=@h.2.2.2.2.2.2.2.2.2.2.2.2.2.2.2.2.2.2.2.2.2.2.2.2.2.2.2.1
def Hy.b_iter:=@h.2.2.2.2.2.2.2.2.2.2.2.2.2.2.2.2.2.2.2.2.2.2.2.2.2.2.2.2.1
def Hy.b_ord:=@h.2.2.2.2.2.2.2.2.2.2.2.2.2.2.2.2.2.2.2.2.2.2.2.2.2.2.2.2.2.1
def Hy.b_chr:=@h.2.2.2.2.2.2.2.2.2.2.2.2.2.2.2.2.2.2.2.2.2.2.2.2.2.2.2.2.2.2.1
def Hy.b_bytes:=@h.2.2.2.2.2.2.2.2.2.2.2.2.2.2.2.2.2.2.2.2.2.2.2.2.2.2.2.2.2.2.2.1
def Hy.b_isinstance:=@h.2.2.2.2.2.2.2.2.2.2.2.2.2.2.2.2.2.2.2.2.2.2.2.2.2.2.2.2.2.2.2.2.1
def Hy.b_tuple:=@h.2.2.2.2.2.2.2.2.2.2.2.2.2.2.2.2.2.2.2.2.2.2.2.2.2.2.2.2.2.2.2.2.2.1
def Hy.b_stop:=@h.2.2.2.2.2.2.2.2.2.2.2.2.2.2.2.2.2.2.2.2.2.2.2.2.2.2.2.2.2.2.2.2.2.2.1
def Hy.flagD:=@h.2.2.2.2.2.2.2.2.2.2.2.2.2.2.2.2.2.2.2.2.2.2.2.2.2.2.2.2.2.2.2.2.2.2.2.1
def Hy.f72:=@h.2.2.2.2.2.2.2.2.2.2.2.2.2.2.2.2.2.2.2.2.2.2.2.2.2.2.2.2.2.2.2.2.2.2.2.2.1
def Hy.f172:=@h.2.2.2.2.2.2.2.2.2.2.2.2.2.2.2.2.2.2.2.2.2.2.2.2.2.2.2.2.2.2.2.2.2.2.2.2.2.1
def Hy.f179:=@h.2.2.2.2.2.2.2.2.2.2.2.2.2.2.2.2.2.2.2.2.2.2.2.2.2.2.2.2.2.2.2.2.2.2.2.2.2.2.1
def Hy.f256:=@h.2.2.2.2.2.2.2.2.2.2.2.2.2.2.2.2.2.2.2.2.2.2.2.2.2.2.2.2.2.2.2.2.2.2.2.2.2.2.2.1
def Hy.f263:=@h.2.2.2.2.2.2.2.2.2.2.2.2.2.2.2.2.2.2.2.2.2.2.2.2.2.2.2.2.2.2.2.2.2.2.2.2.2.2.2.2.1
def Hy.f270:=@h.2.2.2.2.2.2.2.2.2.2.2.2.2.2.2.2.2.2.2.2.2.2.2.2.2.2.2.2.2.2.2.2.2.2.2.2.2.2.2.2.2.1
def Hy.f275:=@h.2.2.2.2.2.2.2.2.2.2.2.2.2.2.2.2.2.2.2.2.2.2.2.2.2.2.2.2.2.2.2.2.2.2.2.2.2.2.2.2.2.2.1
def Hy.f280:=@h.2.2.2.2.2.2.2.2.2.2.2.2.2.2.2.2.2.2.2.2.2.2.2.2.2.2.2.2.2.2.2.2.2.2.2.2.2.2.2.2.2.2.2.1
def Hy.f285:=@h.2.2.2.2.2.2.2.2.2.2.2.2.2.2.2.2.2.2.2.2.2.2.2.2.2.2.2.2.2.2.2.2.2.2.2.2.2.2.2.2.2.2.2.2.1
def Hy.f290:=@h.2.2.2.2.2.2.2.2.2.2.2.2.2.2.2.2.2.2.2.2.2.2.2.2.2.2.2.2.2.2.2.2.2.2.2.2.2.2.2.2.2.2.2.2.2.1
def Hy.f297:=@h.2.2.2.2.2.2.2.2.2.2.2.2.2.2.2.2.2.2.2.2.2.2.2.2.2.2.2.2.2.2.2.2.2.2.2.2.2.2.2.2.2.2.2.2.2.2.1
def Hy.f302:=@h.2.2.2.2.2.2.2.2.2.2.2.2.2.2.2.2.2.2.2.2.2.2.2.2.2.2.2.2.2.2.2.2.2.2.2.2.2.2.2.2.2.2.2.2.2.2.2
end
theorem tf(H:Hy G){a:ay}{st:ed}(F:rJ G a st){names:List bb}{vals':ay->d9}
 (i0:∀pm cd doc vs,vs.length=xs.length->pG (xx st pm cd doc) ⟨vs,[]⟩=dg (names.zip vs)) (hnd:(aM 0 (bk st).names).nd) (hk:(bk st).kind= .function)
 (hb:∀pm cd doc L,i9 (dT (xx st pm cd doc) a L) L (aM (L+1) (bk st).names) names xs (nones (aM (L+1) (bk st).names)) (vals' L))
 (h:∀pm cd doc L,du (dT (xx st pm cd doc) a L)->WS k (bq L (aM (L+1) (bk st).names) (vals' L)::mu) (dT (xx st pm cd doc) a L) (fR st) (lE Φ)) (wm:autoParam ((bk st).isCoroutine=aH) aR) (mP:autoParam ((bk st).isGenerator=aH) aR):
 FW (k+1) mu (.ref a) xs Φ:=by
 exact cq (F.go) λob pm cd doc h0 hd hcd=>Kx H.B (names:=names) (vals':=vals') (Kn.z0 h0) hd (λZ s r=>hcd _ r.z0in) rfl (i0 pm cd doc) hnd (λL=>⟨hk,rfl,rfl⟩) (hb pm cd doc) (λL=>h pm cd doc L ⟨hk,rfl,rfl⟩) wm mP
theorem iN(H:Hy G)(he:du env){x:bb}{n:String}(hm:G.mg x=av)(hk:env.kindOf x=ae .globalImplicit)(hb:autoParam (Js x=ae (.type n)) aR)(hn:autoParam (x≠"__name__") aD)(hd:autoParam ((x == ("__debug__":bb))=aH) aD):PE k mu env (.Name x p) (.type n):=
 Qa H.B he hk hm hb (aZ.type n) hn hd
theorem j4(H:Hy G)(he:du env){x:bb}{n:String}(hm:G.mg x=av)(hk:env.kindOf x=ae .globalImplicit)(hb:autoParam (Js x=ae (.builtin n)) aR)(hn:autoParam (x≠"__name__") aD)(hd:autoParam ((x == ("__debug__":bb))=aH) aD):PE k mu env (.Name x p) (.bi n):=
 Qa H.B he hk hm hb (aZ.bi n) hn hd
theorem mn(H:Hy G)(he:du env){x:bb}{a:ay}(hm:G.mg x=ae (.ref a))(hk:env.kindOf x=ae .globalImplicit)(hd:autoParam ((x == ("__debug__":bb))=aH) aD):PE k mu env (.Name x p) (.ref a):=
 N1 H.B he hk hm (aZ.ref a) hd
section
variable {v:V}{scope:eN}{C:ay}{cl:List (bb×ay)}
theorem du.comp(h:du env)(hk:autoParam (scope.kind= .function) aR):du (o9 scope cl C env):=⟨hk,h.globals,h.builtins⟩
theorem bM(h:PE k mu env e x)(e1:x=y):PE k mu env e y:=e1▸h
noncomputable abbrev TN(scope:eN)(C:ay)(j:Nat)(v:V):cX:=nD scope C ((nones (aM (C+1) scope.names)).set j (ae v))
noncomputable abbrev Rt(scope:eN)(C:ay)(i j:Nat)(v u:V):cX:=nD scope C (((nones (aM (C+1) scope.names)).set i (ae v)).set j (ae u))
theorem qx{di:gP}{t:bb}{j:Nat}{bz:d9}(he:du di)(sl:Sl di C (aM (C+1) scope.names) t j)(hf:autoParam ((di.kindOf t == ae .free)=aH) aR):
 mJ k (nD scope C bz::mu) di (.Name t p) v λnu=>nu=nD scope C (bz.set j (ae v))::mu:=aQ (i:=0) he sl rfl rfl hf
theorem xB{di:gP}{t u:bb}{i j kk:Nat}{p1 p2:jB}{bz:d9}(he:du di)(s1:Sl di C (aM (C+1) scope.names) t i)(s2:Sl di C (aM (C+1) scope.names) u j)
 (hf:autoParam ((di.kindOf t == ae .free)=aH) aR) (hf':autoParam ((di.kindOf u == ae .free)=aH) aR):
 mJ k (nD scope C bz::mu) di (.Tuple [.Name t p1,.Name u p2] kk p) (.tup [v,x]) λnu=>nu=nD scope C ((bz.set i (ae v)).set j (ae x))::mu:=
 i7 (cv rfl rfl (aQ (i:=0) he s1 rfl (cv rfl rfl (aQ (i:=0) he s2 rfl (iX rfl) hf')) hf))
theorem iu{di:gP}{t:bb}{ifs:List bH}{elt:bH}(j:Nat)(he:du di)(sl:Sl di C (aM (C+1) scope.names) t j)(hi:w0 k (TN scope C j v::mu) di ifs b)(h:b=aJ->PE k (TN scope C j v::mu) di elt y)
 (hf:autoParam ((di.kindOf t == ae .free)=aH) aR):zN k mu scope C di (.Name t p) ifs elt v b y:=⟨_,qx he sl hf,hi,h⟩
theorem tG{di:gP}{t u:bb}{ifs:List bH}{elt:bH}{kk:Nat}{p1 p2:jB}(i j:Nat)(he:du di)(s1:Sl di C (aM (C+1) scope.names) t i)(s2:Sl di C (aM (C+1) scope.names) u j)
 (hi:w0 k (Rt scope C i j v x::mu) di ifs b) (h:b=aJ->PE k (Rt scope C i j v x::mu) di elt y)
 (hf:autoParam ((di.kindOf t == ae .free)=aH) aR) (hf':autoParam ((di.kindOf u == ae .free)=aH) aR):zN k mu scope C di (.Tuple [.Name t p1,.Name u p2] kk p) ifs elt (.tup [v,x]) b y:=⟨_,xB he s1 s2 hf hf',hi,h⟩
theorem BO{di:gP}{t:bb}{ifs:List bH}{ke ve:bH}{kx:bb}(j:Nat)(he:du di)(sl:Sl di C (aM (C+1) scope.names) t j)(hi:w0 k (TN scope C j v::mu) di ifs b)(h1:b=aJ->PE k (TN scope C j v::mu) di ke (.str kx))(h2:b=aJ->PE k (TN scope C j v::mu) di ve y)
 (hf:autoParam ((di.kindOf t == ae .free)=aH) aR):AA k mu scope C di (.Name t p) ifs ke ve v b kx y:=⟨_,qx he sl hf,hi,λh=>⟨h1 h,h2 h⟩⟩
theorem Ky{di:gP}{t u:bb}{ifs:List bH}{ke ve:bH}{kx:bb}{kk:Nat}{p1 p2:jB}(i j:Nat)(he:du di)(s1:Sl di C (aM (C+1) scope.names) t i)(s2:Sl di C (aM (C+1) scope.names) u j)
 (hi:w0 k (Rt scope C i j v x::mu) di ifs b) (h1:b=aJ->PE k (Rt scope C i j v x::mu) di ke (.str kx)) (h2:b=aJ->PE k (Rt scope C i j v x::mu) di ve y)
 (hf:autoParam ((di.kindOf t == ae .free)=aH) aR) (hf':autoParam ((di.kindOf u == ae .free)=aH) aR):AA k mu scope C di (.Tuple [.Name t p1,.Name u p2] kk p) ifs ke ve (.tup [v,x]) b kx y:=⟨_,xB he s1 s2 hf hf',hi,λh=>⟨h1 h,h2 h⟩⟩
theorem kz{α:Type}(as:List α):as.filter (λz=>aJ)=as:=by
 induction as with
 |nil=>rfl
 |cons a l ih=>(refine aj (hZ ..) ?_;refine aj (if_pos rfl ..) ?_;refine aj (ih ..) ?_;rfl)
theorem jP{α:Type}{elt iter t:bH}{spos:jB}(as:List α)(inj g:α->V)(sc:E7 scope env cl)(src:o8 k mu env iter t ctx (as.map inj))(hk:1<=k)(hsz:as.length<=2 ^ 21)
 (turn:∀C a,a∈as->zN k mu scope C (o9 scope cl C env) t [] elt (inj a) aJ (g a)) (hs:autoParam (∀x,bw iter env x=dg x) aR):
 PE k mu env (.ListComp elt [⟨t,iter,[],0⟩] scope spos) (.list (as.map g)):=by
 have:=nE (spos:=spos) as inj (λz=>aJ) g sc src hk hsz turn hs
 rwa [kz] at this
theorem Ru{α:Type}{elt iter t:bH}{spos:jB}(as:List α)(inj g:α->V)(sc:E7 scope env cl)(src:o8 k mu env iter t ctx (as.map inj))(hk:1<=k)(hsz:as.length<=2 ^ 21)
 (turn:∀C a,a∈as->zN k mu scope C (o9 scope cl C env) t [] elt (inj a) aJ (g a)) (hΘ:∀D,fL D (bl D (as.map g)::mu) Φ) (hs:autoParam (∀x,bw iter env x=dg x) aR):
 WE k mu env (.ListComp elt [⟨t,iter,[],0⟩] scope spos) Φ:=
 Qf (spos:=spos) as inj (λz=>aJ) g sc src hk hsz turn (λD=>by refine aj (kz ..) ?_;exact hΘ D) hs
theorem FJ{α:Type}{elt iter t:bH}{spos apos py:jB}{z:bb}{Ψ:AF->Mu->Prop}(as:List α)(inj g:α->V)(sc:E7 scope env cl)(src:o8 k mu env iter t ctx (as.map inj))(hk:1<=k)(hsz:as.length<=2 ^ 21)
 (turn:∀C a,a∈as->zN k mu scope C (o9 scope cl C env) t [] elt (inj a) aJ (g a))
 (SJ:xk (.ListComp elt [⟨t,iter,[],0⟩] scope spos) (ae (.Name z py)) apos.line env=dg aJ)
 (hΘ:∀D,fL D (bl D (as.map g)::mu) λv nu=>mJ k nu env (.Name z py) v (Ψ .next)) (hs:autoParam (∀x,bw iter env x=dg x) aR):
 WX k mu env (.Assign [.Name z py] (.ListComp elt [⟨t,iter,[],0⟩] scope spos) apos) Ψ:=
 Qg (spos:=spos) as inj (λy=>aJ) g sc src hk hsz turn SJ (λD=>by refine aj (kz ..) ?_;exact hΘ D) hs
noncomputable def vw(mu:Mu):V->Vw
 | .list xs=>me mu xs
 | .dict es=>Nu mu es
 |y=>bZ y
theorem cP(h:PE k mu env e y):EV k mu env e (vw mu y):=by cases y <;> first|exact h|exact dD h|exact pK h
theorem tH{a:Int}(h:a.natAbs < 2 ^ 64):sN a<=64:=by
 unfold sN
 split
 ·with_reducible exact gp _
 ·rename_i h0;have h0':a≠0:=by simpa using h0
  have:a.natAbs.log2 < 64:=(Nat.log2_lt (by lia)).mpr h;lia
theorem mX{a c:Int}(h: -(2 ^ 63) < a/\a < 2 ^ 63):xO k mu .Mult (bZ (.int a)) (bZ (.int c)) (bZ (.int (a*c))):=J8 (IntMulOk.of_left (tH (by lia)))
theorem sC{a c:Int}(h: -(2 ^ 63) < c/\c < 2 ^ 63):xO k mu .Mult (bZ (.int a)) (bZ (.int c)) (bZ (.int (a*c))):=J8 (IntMulOk.of_right (tH (by lia)))
theorem l9{a c:Int}(h:0 < c/\c < 2 ^ 30):xO k mu .FloorDiv (bZ (.int a)) (bZ (.int c)) (bZ (.int (a / c))):=by
 have:=Re (k:=k) (mu:=mu) (a:=a) (b:=c) (by lia) (PyProof.noPylong_small (by lia))
 rwa [JA _ (by lia)] at this
theorem fk{a c:Int}(h:0 < c):xO k mu .Mod (bZ (.int a)) (bZ (.int c)) (bZ (.int (a % c))):=by
 have:=Rd (k:=k) (mu:=mu) (a:=a) (b:=c) (by lia)
 rwa [Int.fmod_eq_emod_of_nonneg _ (by exact Int.le_of_lt (by assumption))] at this
theorem Hc{a c:Int}(h:0<=c):xO k mu .RShift (bZ (.int a)) (bZ (.int c)) (bZ (.int (a / 2 ^ c.toNat))):=by
 have:=Rg (k:=k) (mu:=mu) (a:=a) (b:=c) h
 rwa [JA _ (Int.pow_nonneg (by decide))] at this
theorem BP{a c:Int}(ha:0<=a/\a < 2 ^ 63)(h:0<=c/\c<=1000):xO k mu .Pow (bZ (.int a)) (bZ (.int c)) (bZ (.int (a ^ c.toNat))):=Rf h.1 (by
 have:=tH (a:=a) (by lia);have h2:(sN a:Int)*c<=64*1000:=Int.mul_le_mul (by lia) h.2 h.1 (by lia);have:(64*1000:Int)<=2 ^ 27:=by decide
 with_reducible exact Int.le_trans (by assumption) (by decide))
theorem Rv{t a f:bH}{i j:Int}(ht:PT k mu env t b)(ha:b=aJ->PE k mu env a (.int i))(hf:b=aH->PE k mu env f (.int j)):PE k mu env (.IfExp t a f p) (.int (if b then i else j)):=
 uE ht (λh=>by refine aj (if_pos h ..) ?_;exact ha h) (λh=>by refine aj (if_neg (by rw [h];decide) ..) ?_;exact hf h)
theorem BQ{t a f:bH}{i j:bb}(ht:PT k mu env t b)(ha:b=aJ->PE k mu env a (.str i))(hf:b=aH->PE k mu env f (.str j)):PE k mu env (.IfExp t a f p) (.str (if b then i else j)):=
 uE ht (λh=>by refine aj (if_pos h ..) ?_;exact ha h) (λh=>by refine aj (if_neg (by rw [h];decide) ..) ?_;exact hf h)
theorem rK{α:Type}{l:List α}{f:α->bb}{sep:bb}(hok:Nd sep (l.map f)=aJ):Fn k mu (.builtin "str.join") [bZ (.str sep),me mu (l.map λa=>V.str (f a))] (bZ (.str (fO sep (l.map f)))):=by
 have:=G8 (k:=k) (mu:=mu) (sep:=sep) (ts:=l.map f) hok
 rwa [a0] at this
theorem uK{α:Type}{l:List α}{f:α->Int}:Fn k mu (.builtin "sum") [me mu (l.map λa=>V.int (f a))] (bZ (.int (l.map f).sum)):=by
 have:=Kq (k:=k) (mu:=mu) (ns:=l.map f)
 rwa [a0] at this
theorem Kz(c:Nat):(⟨#[c]⟩:bb).length<=2 ^ 22:=by show 1<=2 ^ 22;decide
theorem uL{a c:bb}(h1:a.length<=2 ^ 22)(h2:c.length<=2 ^ 22):xO k mu .Add (bZ (.str a)) (bZ (.str c)) (bZ (.str (a++c))):=Fy (by show _<=2 ^ 24;lia)
theorem Qj{i:Int}(h0:0<=i)(h1:i < (xs.length:Int))(hn:xs.length < 2 ^ 60):Gi k mu (bZ (.tup xs)) (bZ (.int i)) (bZ (xs.getD i.toNat .none)):=
 Kp (by unfold j9;refine aj (if_neg (by exact Int.not_lt.mpr (by assumption)) ..) ?_;refine aj (bR ..) ?_;refine aj (bJ (by lia) ..) ?_;rfl) (by lia) (by lia) (by exact cb (by assumption) (by decide))
theorem ki{y:V}{a:cX}(h:Φ y mu):lE Φ (.ret y) (a::mu):=jK.tail (jK.keep h)
end
section
variable {α:Type}{M:List α->Prop}{vs:List α}
@[elab_as_elim] theorem uM(h:vs.length=1)(f:∀a,M [a]):M vs:=by obtain ⟨a,rfl⟩:=List.length_eq_one_iff.mp h;exact f a
theorem rL{n:Nat}(h:vs.length=n+1)(f:∀a t,t.length=n->M (a::t)):M vs:=by
 cases vs with
 |nil=>cases h
 |cons a t=>exact f a t (Nat.succ.inj h)
@[elab_as_elim] theorem zP(h:vs.length=2)(f:∀a b,M [a,b]):M vs:=rL h λa t h=>uM (M:=λt=>M (a::t)) h (f a)
@[elab_as_elim] theorem Oe(h:vs.length=3)(f:∀a b c,M [a,b,c]):M vs:=rL h λa t h=>zP (M:=λt=>M (a::t)) h (f a)
@[elab_as_elim] theorem Rx(h:vs.length=4)(f:∀a b c d,M [a,b,c,d]):M vs:=rL h λa t h=>Oe (M:=λt=>M (a::t)) h (f a)
@[elab_as_elim] theorem len5(h:vs.length=5)(f:∀a b c d e,M [a,b,c,d,e]):M vs:=rL h λa t h=>Rx (M:=λt=>M (a::t)) h (f a)
@[elab_as_elim] theorem len6(h:vs.length=6)(f:∀a b c d e g,M [a,b,c,d,e,g]):M vs:=rL h λa t h=>len5 (M:=λt=>M (a::t)) h (f a)
end
structure BR(k:Nat)(mu:Mu)(f:ai)(Ps:List (Vw))(Φ:V->Mu->Prop):Prop where
 c:∀{A:bh} {E:ai->aq->Prop} {Z:bI} {s:aq} {fr:Mu} {vs:List ai} {Q:ai->aq->Prop},Rm k A->R Z (mu++fr) s->j3 Z vs Ps->
  (∀{w s' Z' y nu},Z.le Z'->aZ G Z' w y->R Z' (nu++fr) s'->Φ y nu->Q w s')->aS (aX G.prog G.w) A (ku f vs) Q E s
section
variable {o:bH}{es:List bH}{Ps:List (Vw)}{i:Nat}
theorem j5(hm:bl D xs∈mu):Ty mu (bZ (.ref D)) "list":=⟨λZ s fr v r h=>by
 refine eD (r.sat _ (aE fr hm)) λvs n h1 h2=>aj (aZ.refE h ..) ?_;exact Ty.at h1 rfl rfl⟩
theorem mY{id T:String}{name:bb}{apos:jB}(ho:EV k mu env o P)(ht:Ty mu P T)(ha:tA k mu env (e::es) Ps)(hF:BR k mu (.builtin id) (P::Ps) Φ)(pa:zq T)(slot:Slot T name id)
 (MQ:jU (.builtin id)=dg (.type "method_descriptor")) (hl:(apos.endLine == pos.line)=aJ) (wo:autoParam (kh (e::es)=aJ) aR) (hsz:autoParam ((e::es).length < 29) aD) (sj:autoParam (rl o name env (dW o env)=dW o env) aR):
 WE k mu env (.Call (.Attribute o name apos) (e::es) [] pos) Φ:=⟨λ{z z z z z z} hA r q=>Kc ho ht ha pa slot MQ hl hsz sj hA r λ{z z z z} z1 q1 r1=>hF.c hA r1 q1 λ{z z z z z} z2=>q (z1.trans z2)⟩
theorem kA(hi:mu[i]? =ae (bl D xs))(hl:xs.length < 2 ^ 22)(h:Φ .none (mu.set i (bl D (xs++[y])))):BR k mu (.builtin "list.append") [bZ (.ref D),bZ y] Φ:=⟨λ{z z z z z z z} hA r hq q=>by
 refine cC (hq.two) λv u dO q1 q2=>?_;subst dO;refine aj (aZ.refE q1 ..) ?_;exact Ax r hi hl q2 λ{z} r2=>q .rfl .none r2 h⟩
theorem ya{fr:Mu}{h':dG}{vs:Array ai}{n tk:Nat}{ys:List V}(r:R Z (mu++fr) s)(hi:mu[i]? =ae (bl D xs))(hk:∀b o,b≠D->s.heap.get? b=ae o->h'.get? b=ae o)(h:h'.get? D=ae (oH vs n))(hr:bW G Z vs.toList ys):
 R Z (mu.set i (bl D ys)++fr) {s with heap:=h',toks:=tk}:=
 gE hi▸r.upd' (tk:=tk) (cG (fr:=fr) hi) rfl (λb o hb e=>hk b o (λq=>hb (q▸aa)) e) ⟨_,_,h,hr⟩
theorem wK{a b:Nat}(h:a+b < 2 ^ 22):wB (a+b)=aH:=by unfold wB;have:er=2 ^ 24:=rfl;simp;exact aw (eB (by assumption)) (by decide)
theorem Ig(hi:mu[i]? =ae (bl D xs))(hl:xs.length+ys.length < 2 ^ 22)(h:Φ .none (mu.set i (bl D (xs++ys)))):BR k mu (.builtin "list.extend") [bZ (.ref D),bZ (.list ys)] Φ:=⟨λ{A E Z s fr vs Q} hA r hq q=>by
 refine cC (hq.two) λv u eU q1 q2=>?_;subst eU;refine aj (aZ.refE q1 ..) (cE (rh.list q2) λb ws m gi e1 hr=>?_);subst gi;refine eD (r.sat _ (ao (cG (fr:=fr) hi))) λvs n h2 h3=>?_;have l1:=b9 h3;have l2:=b9 hr;rw [l1,l2] at hl;refine l6 F.slot_list_extend (⟨_,h2,rfl⟩:s.TypeIs (.ref D) "list") F.entry_list_extend (F.args_list_extend_2 _ _) (AutoSeq1.list_extend_list_list_0 D vs n b ws m ?_ (by show _<=2 ^ 24;lia) (by show _<=2 ^ 24+1;exact aw (eB (by assumption)) (by decide))) ⟨h2,r.zin _ _ e1,?_⟩
 ·refine aj (wK hl ..) ?_;simp
 ·have hm:=NJ vs ws n av #[];exact q .rfl .none (ya r hi (λc o hb e=>(bY ..).extBut c o hb e) ((bS _ h2 (by refine aj (hm ..) ?_;rfl)).trans (congrArg ae hm)) (by refine aj (lB ..) ?_;exact h3.append hr)) h⟩
theorem Of(hi:mu[i]? =ae (bl D (y::xs)))(hl:xs.length < 2 ^ 22)(h:Φ y (mu.set i (bl D xs))):BR k mu (.builtin "list.pop") [bZ (.ref D),bZ (.int 0)] Φ:=⟨λ{A E Z s fr vs Q} hA r hq q=>by
 refine cC (hq.two) λv u iC q1 q2=>?_;subst iC;refine aj (aZ.refE q1 ..) (cJ (gF q2) λtk kG=>?_);subst kG;refine eD (r.sat _ (ao (cG (fr:=fr) hi))) λvs n h2 h3=>?_;have l1:xs.length+1=vs.size:=b9 h3;refine cC (h3.cons_inv) λw ws h6 h5 hr=>?_;have h4':vs[0]? =ae w:=bV.symm.trans (by refine aj (h6 ..) ?_;rfl);refine l6 F.slot_list_pop (⟨_,h2,rfl⟩:s.TypeIs (.ref D) "list") F.entry_list_pop (F.args_list_pop_2 _ _) (MeetsSeq.list_pop_at D vs n 0 tk 0 w (by decide) (by unfold Nc;refine fZ (l1 ..) ?_;simp) h4' (by refine fZ (l1 ..) ?_;show _<=2 ^ 24;lia)) ⟨h2,?_⟩;have hm:=PyProof.Rows.mapSeq_erase vs n 0 (by refine fZ (l1 ..) ?_;exact Nat.succ_pos _);exact q .rfl h5 (ya r hi (λc o hb e=>(bY ..).extBut c o hb e) ((bS _ h2 (by refine aj (hm ..) ?_;rfl)).trans (congrArg ae hm)) (by (refine aj (gQ ..) ?_;refine aj (h6 ..) ?_);exact hr)) h⟩
structure ForM(Z:bI)(Inv:Nat->Nat->List V->Mu->Prop)(it:Nat->cX)(fr:Mu)(m:Nat)(s':aq):Prop where
 ex:∃i xs Z' nu,Z.le Z'/\R Z' (it i::(nu++fr)) s'/\Inv m i xs nu
theorem Hd{zk:jB}{body orelse:List ed}{Ψ:AF->Mu->Prop}(Inv:Nat->Nat->List V->Mu->Prop)(he:PE k mu env e (.ref D))(hk:1<=k)(m0:Nat)(xs0:List V)(h0:Inv m0 0 xs0 mu)(qj:∀m i xs nu,Inv m i xs nu->bl D xs∈nu)
 (step:∀m i xs nu x,Inv m i xs nu->xs[i]? =ae x->mJ k nu env t x λrq=>WS k rq env body (kW (λub=>∃m' TX,m' < m/\Inv m' (i+1) TX ub) Ψ))
 (fin:∀m i xs nu,Inv m i xs nu->xs.length=i->WS k nu env orelse Ψ) (hlen:∀m i xs nu,Inv m i xs nu->i<=xs.length) (hf:autoParam (∀x,bw e env x=dg x) aR):WX k mu env (.For t e body orelse zk) Ψ:=⟨λ{A E Z s fr Q} hA r q=>by
 with_reducible refine wpAny_For ?_ hf
 refine G4 he (qj m0 0 xs0 mu h0) hA r λ{I s1 Z1} iP z1 r1=>BG (ForM Z Inv (Kg I D) fr) (λm s' h=>?_) m0 ⟨0,xs0,Z1,mu,z1,r1,h0⟩;refine cq (h.ex) λi xs Z' nu z r inv=>?_;have hc:∀o∈[bl D xs],o∈nu++fr:=λo ho=>aA.mp ho▸aE fr (qj m i xs nu inv);rcases Nat.lt_or_eq_of_le (hlen m i xs nu inv) with hi|rfl
 ·refine ⟨λ{y y} hn hs=>(xU iP).item i _ (bJ hi) (hA.le hk) hc r λ{v s3} h3=>hs (h3 λ{s4 Z4} z4 hv r4=>?_)⟩;exact (step m i xs nu _ inv (bJ hi)).c hA (r4.perm cu.symm) hv λ{s5 Z5 nu5} z5 r5 w5=>w5.c hA r5 λ{f s6 Z6 a nu6} z6 f6 r6 w6=>oL.of (fr:=fr) f6 w6 (λ⟨m',TX,w7,w8⟩=>⟨m',w7,i+1,TX,Z6,nu6,z.trans (z4.trans (z5.trans z6)),r6.perm cu,w8⟩) λ{y y} hg=>q (z.trans (z4.trans (z5.trans z6))) hg (R.drop (r6.perm cu))
 ·exact ⟨λ{y y} hn hs=>(xU (t:=t) iP).done (hA.le hk) hc r λ{y y} z3 r3=>hn ((fin m _ xs nu inv rfl).c hA r3 λ{y y y y y} z4=>q (z.trans (z3.trans z4)))⟩⟩
noncomputable abbrev nV(n:Nat):V:= .int n
theorem Ds(l:List Nat):(l.map nV)=(l.map fB).map V.int:=by refine aj (a0 ..) ?_;rfl
theorem He(l:List Nat)(n:Nat):(l.map fB).any (· == (n:Int))=decide (n∈l):=by
 refine gj (cm ..) ?_;simp only [cS,aG,beq_iff_eq,decide_eq_true_eq];constructor
 ·intro ma;refine aK ma λz mE h=>?_;clear ma;refine aK mE λa ha qY=>?_;clear mE;subst qY;have:a=n:=Nh h;exact this▸ha
 ·exact λh=>⟨_,⟨n,h,rfl⟩,rfl⟩
theorem KA{n:Nat}{l:List Nat}:s8 k mu .In (bZ (.int n)) (me mu (l.map nV)) (decide (n∈l)):=by
 have:=Rq (k:=k) (mu:=mu) (i:=(n:Int)) (ns:=l.map fB)
 rwa [He,<- Ds] at this
theorem Hf{n:Nat}{l:List Nat}:s8 k mu .NotIn (bZ (.int n)) (me mu (l.map nV)) (!decide (n∈l)):=by
 have:=Ob (k:=k) (mu:=mu) (i:=(n:Int)) (ns:=l.map fB)
 rwa [He,<- Ds] at this
theorem ew{α:Type}{as:List α}{inj:α->V}{j:Nat}{a:α}(h:as[j]? =ae a)(hn:as.length < 2 ^ 60):Gi k mu (me mu (as.map inj)) (bZ (.int (j:Nat))) (bZ (inj a)):=
 have hj:=(aB.mp h).1
 Rl (by unfold j9;refine aj (if_neg (by lia) ..) ?_;refine aj (aI ..) ?_;show as[((j:Nat):Int).toNat]?.map inj=_;(refine aj (b8 ..) ?_;refine aj (h ..) ?_);rfl) (by lia) (by lia) (by simp;exact cb (by assumption) (by decide))
theorem xC{α:Type}{as:List α}{inj:α->V}{a:α}(h:as.getLast? =ae a)(hn:as.length < 2 ^ 60):Gi k mu (me mu (as.map inj)) (bZ (.int (-1))) (bZ (inj a)):=by
 have iP:as≠[]:=by intro e;subst e;simp at h
 have hp:0 < as.length:=zv.mpr iP;refine Rl ?_ (by simp;lia) (by decide) (by simp;exact cb (by assumption) (by decide));unfold j9;refine aj (if_pos (by decide) ..) ?_;refine aj (ak ..) ?_;refine aj (aI ..) ?_;refine aj (show ((-1:Int)+(as.length:Nat)).toNat=as.length - 1 by lia) ?_;refine fZ (List.getLast?_eq_getElem? ..) ?_;refine aj (h ..) ?_;rfl
theorem FW.fn{f:ai}(h:FW k mu f xs λv nu=>v=y/\nu=mu):Fn k mu f (xs.map bZ) (bZ y):=⟨λ{x x x x x x x} hA r hq q=>h.c hA r hq.vrels λ{x x x x x} z w r e=>q z (e.1▸w) (e.2▸r)⟩
theorem FW.mono{Ψ:V->Mu->Prop}{f:ai}(h:FW k mu f xs Φ)(hi:∀y nu,Φ y nu->Ψ y nu):FW k mu f xs Ψ:=⟨λ{x x x x x x x} hA r hv q=>h.c hA r hv λ{x x x x x} z w r u=>q z w r (hi _ _ u)⟩
theorem FW.le{j:Nat}{f:ai}(h:FW j mu f xs Φ)(hj:j<=k):FW k mu f xs Φ:=⟨λ{z z z z z z z} hA=>h.c (hA.le hj)⟩
theorem jK.tell{nu':Mu}(h:fL D nu λy nu=>nu'.Sublist nu/\Φ y nu'):jK (.ref D) nu Φ:=⟨λ{x x x x x} r v q=>h.c r λ{x x x} z w r e=>q z ((aZ.refE v).symm▸w) (r.sublist (e.1.append (sO _))) e.2⟩
theorem jK.list{nu':Mu}(hs:nu'.Sublist mu)(h:Φ (.list xs) nu'):jK (.ref D) (bl D xs::mu) Φ:=jK.tell (fL.list ⟨hs,h⟩)
theorem jK.dict{nu':Mu}{es:List (bb×V)}(hs:nu'.Sublist mu)(h:Φ (.dict es) nu'):jK (.ref D) (cD D es::mu) Φ:=jK.tell (fL.dict ⟨hs,h⟩)
end
end
section
variable {k i j:Nat}{mu nu:Mu}{env:gP}{p pos tp:jB}{e t o:bH}{xs ys:List V}{b:Bool}{Z:bI}{s:aq}{y:V}{P S:Vw}{D:ay}
noncomputable def Ih(cl:String)(es:List (bb×V)):Vw:=
 ⟨λZ v=>∃a d o,v= .ref a/\Z a=ae o/\o.cls= .type cl/\o.data= .fields #[.ref d]/\aZ G Z (.ref d) (.dict es),
  λZ Z' v h=>bQ λa=>bQ λd=>bQ λo w=>⟨w.1,h _ _ w.2.1,w.2.2.1,w.2.2.2.1,w.2.2.2.2.mono h⟩⟩
theorem yb:xp table "dict_itemiterator.__iter__"=ae Builtin.«dict_keyiterator.__iter__»:=
 CF (id':="dict_keyiterator.__iter__") (by kernel_rfl) rfl (by decide+kernel) (by kernel_rfl)
section
variable {es:List (bb×V)}{x:bb}{Φ:AF->Mu->Prop}{elts:List bH}{kk:Nat}
theorem mZ{v:ai}(r:R Z mu s)(h:aZ G Z v (.dict es)):∃d kvs ep,v= .ref d/\(d == lY)=aH/\s.heap.DictAt (strKind G.prog G.w) d kvs ep/\s.heap.DictOf (strKind G.prog G.w) d kvs/\kvs.map (·.1)=es.map (·.1)/\bW G Z (kvs.map (·.2)) (es.map (·.2))/\(∃o,Z d=ae o)/\
 (∀h:dG,(∀a o,Z a=ae o->h.get? a=ae o)->h.DictAt (strKind G.prog G.w) d kvs ep):=by
 refine wC (aZ.dict_inv h) λa o kvs dO hq e1 eU hk hr=>?_;subst dO;refine vy eU λd1 Nx ep d=>?_;clear eU;have ho:=r.zin _ _ e1;exact ⟨a,kvs,ep,rfl,hq,⟨o,Nx,ho,d1,d⟩,⟨o,Nx,ep,ho,d1,d⟩,hk,hr,⟨_,e1⟩,λh hz=>⟨o,Nx,hz _ _ e1,d1,d⟩⟩
theorem rM:Ty mu (bZ (.dict es)) "dict":=⟨λZ s fr v r h=>by
 refine g6 (aZ.dict_inv h) λa o kvs gi hq e1 d z=>?_;subst gi;exact Ty.at (r.zin _ _ e1) d.1.1 d.1.2.1⟩
theorem Dt{d:ay}{cl:String}{T:Prop}(r:R Z mu s)(h:aZ G Z (.ref d) (.dict es))(q:∀{Z'},Z.le Z'->(Ih cl es:Vw).p Z' (.ref s.heap.objs.size)->R Z' mu {s with heap:=s.heap.push {cls:= .type cl,data:= .fields #[.ref d]}}->T):T:=
 have z:=bI.le_put (o:={cls:= .type cl,data:= .fields #[.ref d]}) (r.fresh (bp _))
 q z ⟨_,d,_,rfl,bI.put_self ..,rfl,rfl,h.mono z⟩ r.pushZ
theorem AH:Fn k mu (.builtin "dict.values") [bZ (.dict es)] (Ih "dict_values" es):=⟨λ{A E Z s fr vs Q} hA r hq q=>by
 refine aK (hq.one) λv iC p=>?_;subst iC;refine g6 (mZ r p) λd kvs ep kG hs hD hO z=>?_;subst kG;exact JB F.slot_dict_values hO.typeIs F.entry_dict_values (F.args_dict_values_1 _) (meets_dict_values (strKind G.prog G.w) d hs) ⟨⟨_,hO⟩,Dt r p q⟩⟩
theorem Dv:Fn k mu (.builtin "dict.items") [bZ (.dict es)] (Ih "dict_items" es):=⟨λ{A E Z s fr vs Q} hA r hq q=>by
 refine aK (hq.one) λv ma p=>?_;subst ma;refine g6 (mZ r p) λd kvs ep mE hs hD hO z=>?_;subst mE;exact JB JC hO.typeIs F.entry_dict_items (F.args_dict_items_1 _) (meets_dict_items (strKind G.prog G.w) d hs) ⟨⟨_,hO⟩,Dt r p q⟩⟩
theorem KB(h:EV k mu env e (Ih "dict_values" es)):o8 k mu env e t [] (es.map (·.2)):=⟨λz h=>(eo h),λ{A E Z s fr Q} hA r q=>by
 refine h.c hA r λ{v s1 Z1} z1 q1 r1=>g6 q1 λa d o qY hz hc hd p=>?_;clear q1;subst qY;refine jZ (mZ r1 p) λd' kvs ep e1 hs hD hO hk hr uc PJ=>cJ uc λod hod=>?_;clear uc;cases e1;refine wpAny_pyIter_values (⟨o,r1.zin _ _ hz,hc,hd⟩:s1.heap.IsValuesView a d) hD (pL (c:="dict_valueiterator") r1 (λA hh=>Walks.dictValues (knd:=strKind G.prog G.w) hh s1.heap.objs.size d (c8 (bN (r1.zin _ _ hod))) kvs ep) ?_ (vI hod) (λi v x hx hp=>?_)
  (λi h hs=>hs.1.imp λz w=>⟨w.1,w.2.1⟩) (by decide) (λb o e=>az _ e) ⟨⟨_,aW _ rfl,rfl,rfl⟩,PJ _ λa o e=>az _ (r1.zin _ _ e)⟩ λ{z} hit r'=>q hit z1 r')
 ·(refine aj (ak ..) ?_;refine fZ (ak (f:=(·.1)) ..) ?_;refine fZ (hk ..) ?_;refine aj (ak ..) ?_;rfl)
 ·refine cJ hp λkey h1=>?_;clear hp;obtain ⟨x',h3,h4⟩:=hr.get' (show (kvs.map (·.2))[i]? =ae v by (refine aj (aI ..) ?_;refine aj (h1 ..) ?_);rfl);cases h3.symm.trans hx;exact h4⟩
end
variable {op:Cz}
noncomputable def Hg(I d:ay)(Zf:bI)(n ep i:Nat):cX where
 own:=[I]
 sat:=λZ h=>Zf.le Z/\∃ok ov,IsItemIter h I d i n ep ok ov
 mono:=λZ Z' h hz w=>⟨w.1.trans hz,w.2⟩
 loc:=λZ h h' w hk z z=>⟨w.1,w.2.imp λz=>bQ λz b=>hk I aa _ b⟩
 live:=λZ h w c hc=>w.2.elim λz w=>w.elim λz b=>⟨_,aA.mp hc▸b⟩
abbrev Nv(k:Nat)(mu:Mu)(op:Cz)(P Q S:Vw):Prop:=B2 k mu (inplaceOp op) P Q S
section
variable {es:List (bb×V)}{x:bb}{Φ:AF->Mu->Prop}{L:ay}{elts:List bH}{kk:Nat}{lay:zx}{bz:d9}
theorem Ii{I d:ay}{kvs:List (bb×ai)}{ep:Nat}{Zf:bI}(hk:kvs.map (·.1)=es.map (·.1))(hr:bW G Zf (kvs.map (·.2)) (es.map (·.2)))
 (PJ:∀h:dG,(∀a o,Zf a=ae o->h.get? a=ae o)->h.DictAt (strKind G.prog G.w) d kvs ep):CQ I [] (.Tuple elts kk tp) (es.map λq=> .tup [.str q.1,q.2]) (Hg I d Zf kvs.length ep) where
 item:=λi x hx {A E Z s fr Q} hA z r q=>by
  refine vy (r.sat _ aa) λhz ok ov hit=>?_;rw [aI] at hx;refine aK (aL.mp hx) λw hq dO=>?_;subst dO;obtain ⟨v,h3,h4⟩:=hr.get (show (es.map (·.2))[i]? =ae w.2 by (refine aj (aI ..) ?_;refine aj (hq ..) ?_);rfl);have h1:(es.map (·.1))[i]? =ae w.1:=by (refine aj (aI ..) ?_;refine aj (hq ..) ?_);rfl
  rw [<- hk,aI] at h1;refine aK (aL.mp h1) λkv h5 h6=>?_;rw [aI,h5] at h3
  (have lA:=aO h3;clear h3;subst lA)
  refine wpAny_pyNext_items_item (knd:=strKind G.prog G.w) (k:=kv.1) (v:=kv.2) hit (PJ _ λa o e=>r.zin _ _ (hz _ _ e)) h5 λkey h' hkey GC htup hsz hkeep=>q λ{E T} p=>wpAny_letOwnedTupleGo_items (s:={s with heap:=h'}) GC λh'' hit'' hsame=>cJ (EX (show Value.isStrOf kv.1 key=aJ from hkey)) λtk eU=>?_;subst eU;have iD:=r.fresh (bp s.heap.objs.size);exact p (bI.le_put iD) (aZ.tup (bI.put_self ..) rfl rfl (.cons (h6▸aZ.str _ _) (.cons ((h4.mono hz).mono (bI.le_put iD)) .nil)))
   (R.freeze (r.upd' (x':=Hg I d Zf kvs.length ep (i+1)) (i:=0) (h':=h'') (tk:=s.toks) rfl rfl (λc o hc e=>have hc:c≠I:=λq=>hc (q▸aa);hsame.extBut c o hc (hkeep c o hc e)) ⟨hz,_,_,hit''⟩) (hsame.extBut _ _ (jJ (bN hit)) htup) iD (r.notOwn (bp _)))
 done:=λ{A E Z s fr Q} hA z r q=>by
  rw [show (es.map λq=>V.tup [.str q.1,q.2]).length=kvs.length by (refine aj (ak ..) ?_;refine fZ (ak (f:=(·.1)) ..) ?_;refine fZ (hk ..) ?_;refine aj (ak ..) ?_;rfl)] at r;exact vy (r.sat _ aa) λhz ok ov hit=>wpAny_pyNext_items_end (knd:=strKind G.prog G.w) hA.hh hit (PJ _ λa o e=>r.zin _ _ (hz _ _ e)) (il (bp _)) λh' he=>q .rfl (r.dropUpd (tk:=s.toks) λc o hc e=>he c o (λq=>hc (q▸aa)) e)
 self:=λi {A E Z s fr Q} hA r q=>by
  refine vy (r.sat _ aa) λhz ok ov hit=>?_;have hT:s.TypeIs (.ref I) "dict_itemiterator":=⟨_,hit,rfl⟩;refine vq hT NK (dp NK hT yb ?_ (F.args_dict_itemiterator_iter_1 _));show aS _ _ (vh (.ref I)) _ _ s;exact ar ⟨_,rfl,"dict_itemiterator",_,hT,F.slot_dict_itemiterator_next.lookup,q r⟩
theorem AI(h:EV k mu env e (Ih "dict_items" es)):o8 k mu env e (.Tuple elts kk tp) [] (es.map λq=> .tup [.str q.1,q.2]):=⟨λz h=>(eo h),λ{A E Z s fr Q} hA r q=>by
 refine h.c hA r λ{v s1 Z1} z1 q1 r1=>g6 q1 λa d o gi hz hc hd p=>?_;clear q1;subst gi;refine jZ (mZ r1 p) λd' kvs ep e1 hs hD hO hk hr hzd PJ=>?_;cases e1;exact wpAny_pyIter_items (⟨o,r1.zin _ _ hz,hc,hd⟩:s1.heap.IsItemsView a d) hD (q (Ii hk hr PJ) z1 (r1.addNew (tk:=s1.toks) _ (λb o e=>az _ e) ⟨.rfl,_,_,aW _ rfl⟩ eh λz h=>kX h))⟩
theorem FK{A:bh}{E Q:ai->aq->Prop}(he:du env)(sl:Sl env L lay x j)(hf:bq L lay bz∈mu)(GD:bz[j]? =ae (ae y))(r:R Z mu s)(q:∀{v},aZ G Z v y->Q v s):aS (aX G.prog G.w) A (loadName env x) Q E s:=by
 cases sl with
 |loc hk hL hl hd=>subst hL;obtain ⟨m,hn,w,hw,hr⟩:=r.slot hf hl GD;exact wpAny_loadName_local he.kind hk hn hw (q hr)
 |cell c z hk hc hl hd=>obtain ⟨m,hn,w,hw,hr⟩:=r.slot hf hl GD;exact wpAny_loadName_cell he.kind hk hc hw (q hr)
 |free c z hk hc hl hd hd'=>obtain ⟨m,hn,w,hw,hr⟩:=r.slot hf hl GD;exact wpAny_loadName_free he.kind hk hc hw (q hr) hd'
theorem rN{v:bH}(he:du env)(sl:Sl env L lay x j)(hi:mu[i]? =ae (bq L lay bz))(GD:bz[j]? =ae (ae y))(hv:EV k mu env v P){y':V}(ho:Nv k mu op (bZ y) P (bZ y'))(h:Φ .next (mu.set i (bq L lay (bz.set j (ae y')))))(Cw:autoParam ((env.kindOf x == ae .free)=aH) aR):
 WX k mu env (.AugAssign (.Name x p) op v pos) Φ:=⟨λ{A E Z s fr Q} hA r q=>by
 with_reducible refine wpAny_AugAssign_Name ?_
 exact FK he sl (aE fr (ao hi)) GD r λ{z} q1=>hv.c hA r λ{z z z} z2 q2 r2=>ho.c hA r2 (q1.mono z2) q2 λ{z z z} z3 q3 r3=>xQ r3 he sl hi (beq_eq_false_iff_ne.mp Cw) q3 λs' r'=>q (z2.trans z3) .next r' h⟩
section
variable {a b:Int}
theorem FL:Nv k mu .Add (bZ (.int a)) (bZ (.int b)) (bZ (.int (a+b))):= .ii PyProof.Rows.iadd_int
theorem Qk:Nv k mu .BitOr (bZ (.int a)) (bZ (.int b)) (bZ (.int (Builtin.bitOr a b))):= .ii PyProof.Rows.ior_int
theorem Ry:Nv k mu .BitXor (bZ (.int a)) (bZ (.int b)) (bZ (.int (Builtin.bitXor a b))):= .ii PyProof.Rows.ixor_int
theorem Rz(h:0<=b)(h2:b<=1000000)(ha:a.natAbs < 2 ^ 64):Nv k mu .LShift (bZ (.int a)) (bZ (.int b)) (bZ (.int (a*2 ^ b.toNat))):= .ii (PyProof.Rows.ilshift_int_small h h2 ha)
end
theorem RA{a b:bb}(h:a.length+b.length<=er):Nv k mu .Add (bZ (.str a)) (bZ (.str b)) (bZ (.str (a++b))):=
 ⟨λ{z z z z z z z z} hA R hp hq q=>aZ.strC hp λt=>aZ.strC hq λu=>PyProof.Rows.iadd_str (λt' tk=>q .rfl (aZ.str _ _) R.toks) h⟩
end
section
variable {ie v:bH}{es:List (bb×V)}{x:bb}{Φ:AF->Mu->Prop}{L:ay}
theorem wL{A:bh}{E:ai->aq->Prop}{Q:Unit->aq->Prop}{tk:HR}{w:ai}(r:R Z mu s)(hi:mu[i]? =ae (cD D es))(hl:es.length<=er)(hv:aZ G Z w y)
 (h:∀s',R Z (mu.set i (cD D (jF es x y))) s'->Q () s'):aS (aX G.prog G.w) A (setItem (.ref D) (.str x tk) w) Q E s:=by
 refine qo (r.sat _ (ao hi)) λq kvs h1 h2 h3=>?_;have hlen:kvs.length=es.length:=by (refine fZ (ak (f:=(·.1)) ..) ?_;refine aj (h2 ..) ?_;refine aj (ak ..) ?_;rfl)
 exact wpAny_setItem_pairs (knd:=strKind G.prog G.w) (k:=x) (zt G.prog G.w x tk) h1 (λh' hd hs=>h _ (r.upd' (x':=cD D (jF es x y)) hi rfl (λb o hb e=>hs.extBut b o (λq=>hb (q▸aa)) e) ⟨q,_,hd,Dh (x:=x) h2 h3 hv⟩)) (hlen▸hl)
theorem KC{Θ:V->Mu->Prop}(hv:WE k mu env v λy nu=>∃i D es x,PE k nu env o (.ref D)/\PE k nu env ie (.str x)/\nu[i]? =ae (cD D es)/\es.length<=er/\Φ .next (nu.set i (cD D (jF es x y))))
 (hs:autoParam (xk v (ae (.Subscript o ie p)) pos.line env=dg aH) aR):WX k mu env (.Assign [.Subscript o ie p] v pos) Φ:=⟨λ{A E Z s fr Q} hA r q=>by
 with_reducible refine wpAny_Assign_Subscript ?_ hs
 refine hv.c hA r λ{w s1 Z1 y nu} z1 q1 r1 u=>dK u λi D es x ho hx hi hl h=>?_;clear u;refine ho.c hA r1 λ{ov s2 Z2} z2 q2 r2=>hx.c hA r2 λ{iv s3 Z3} z3 q3 r3=>aj (aZ.refE q2 ..) ?_;exact aZ.strC q3 λtk=>wL r3 (cG hi) hl (q1.mono (z2.trans z3)) λs' r'=>q (z1.trans (z2.trans z3)) .next (gE hi▸r') h⟩
theorem qz(hv:PE k mu env v y)(ho:PE k mu env o (.ref D))(hx:PE k mu env ie (.str x))(hi:mu[i]? =ae (cD D es))(hl:es.length<=er)(h:Φ .next (mu.set i (cD D (jF es x y))))
 (hs:autoParam (xk v (ae (.Subscript o ie p)) pos.line env=dg aH) aR):WX k mu env (.Assign [.Subscript o ie p] v pos) Φ:=
 KC (Θ:=λz z=>True) (cf hv ⟨i,D,es,x,ho,hx,hi,hl,h⟩) hs
theorem Og{y0 y1:V}(ho:PE k mu env o (.ref D))(hx:PE k mu env ie (.str x))(hi:mu[i]? =ae (cD D es))(hg:mf es x=ae y0)(hv:EV k mu env v P)(hop:Nv k mu op (bZ y0) P (bZ y1))(hl:es.length<=er)(h:Φ .next (mu.set i (cD D (jF es x y1))))
 (hau:autoParam (∀ov iv new,augStore ie ov iv new=(do eW [new,ov,iv] (setItem ov iv new);release [new,ov,iv] [];dg .next)) aR):WX k mu env (.AugAssign (.Subscript o ie p) op v pos) Φ:=⟨λ{A E Z s fr Q} hA r q=>by
 with_reducible refine wpAny_AugAssign_SubscriptAny ?_ hau
 refine ho.c hA r λ{ov s1 Z1} z1 q1 r1=>hx.c hA r1 λ{iv s2 Z2} z2 q2 r2=>aj (aZ.refE q1 ..) (((mh (k:=k) (mu:=mu) hg).c hA r2 ⟨D,rfl,λZ' s' hz r'=>r'.sat _ (ao hi)⟩ q2 λ{z z z} z3 q3 r3=>hv.c hA r3 λ{z z z} z4 q4 r4=>hop.c hA r4 (q3.mono z4) q4 λ{w s5 Z5} z5 q5 r5=>?_).2);exact aZ.strC q2 λtk=>wL r5 (cG hi) hl q5 λs' r'=>q (z1.trans (z2.trans (z3.trans (z4.trans z5)))) .next (gE hi▸r') h⟩
theorem BS{n:Int}:Fn k mu (.builtin "isinstance") [bZ (.int n),bZ (.type "tuple")] (bZ (.bool aH)):=⟨λ{A E Z s fr vs Q} hA r hq q=>by
 refine cC (hq.two) λv u dO q1 q2=>?_;subst dO;refine aj (aZ.typeE q2 ..) ?_;exact aZ.intC q1 λtk=>call_isinstance (isinstance_false_int (by decide) (by rfl) (by refine aj (iR ..) ?_;kernel_rfl)) (q .rfl (aZ.bool _) r.toks)⟩
theorem BU{c:Bool}:Fn k mu (.builtin "isinstance") [bZ (.bool c),bZ (.type "bool")] (bZ (.bool aJ)):=⟨λ{A E Z s fr vs Q} hA r hq q=>by
 refine cC (hq.two) λv u eU q1 q2=>?_;subst eU;refine aj (aZ.typeE q2 ..) ?_;refine aj (aZ.boolE q1 ..) ?_;exact call_isinstance_yes (Tx:="bool") rfl (by rfl) (by refine aj (iR ..) ?_;kernel_rfl) (q .rfl (aZ.bool _) r)⟩
end
variable {x:V}{Φ:V->Mu->Prop}
noncomputable abbrev cV(c:List (bb×Int)):V:= .dict (c.map λq=>(q.1,V.int q.2))
theorem Oh(c:List (bb×Int)):(c.map λq=>(q.1,V.int q.2)).map (·.2)=(c.map (·.2)).map V.int:=by (refine aj (a0 ..) ?_;refine aj (a0 ..) ?_);rfl
theorem Hh(H:Hy G){c:List (bb×Int)}:FW (k+2) mu (.ref 270) [cV c] λy nu=>nu=mu/\y= .int (c.map (·.2)).sum:=by
 refine tf H H.f270 (names:=["callers"]) (vals':=λL=>[ae (cV c),av,av]) (λpm cd doc vs h=>?_) (by decide+kernel) rfl (λpm cd doc L=>?_) (λpm cd doc L he=>?_)
 ·exact uM h λa=>rfl
 ·exact .cons (j:=0) .loc rfl .nil
 refine aC (ig (cf cO ?_));refine aC (bX aU (aQ (i:=0) (j:=1) he .loc rfl ?_) rfl rfl);refine aC (jO (ctx:=[]) (xs:=(c.map (·.2)).map V.int) (λi nu=>∃o,nu=bq L (aM (L+1) (bk (cN 15)).names) [ae (cV c),ae (.int ((c.map (·.2)).take i).sum),o]::mu)
  (by refine fZ (Oh ..) ?_;exact KB (f7 (ah (j:=0) he .loc aa rfl) rM aT AH (by exact vr) (by exact F.slot_dict_values) (by exact F.type_dict_values) rfl)) (by lia) ⟨av,rfl⟩ (λi nu h o ho=>(eo ho)) ?_ ?_)
 ·intro i x nu hx dO;refine cJ dO λo eU=>?_;clear dO;subst eU;rw [aI] at hx;refine aK (aL.mp hx) λn hn gi=>?_;subst gi;refine aQ (i:=0) (j:=2) he .loc rfl (aC (rN (i:=0) (j:=1) he .loc rfl rfl (ah (j:=2) he .loc aa rfl) FL ?_));refine bC ⟨ae (.int n),?_⟩;have e1:((c.map (·.2)).take (i+1)).sum=((c.map (·.2)).take i).sum+n:=by
   refine aj (dE ..) ?_;refine aj (hn ..) ?_;refine aj (vo ..) ?_;simp only [Aj,da,List.sum_nil,P0]
  refine aj (e1 ..) ?_;rfl
 ·intro nu iC;refine cJ iC λo kG=>?_;clear iC;subst kG;refine bC (aC (gw (cf (bM (ah (j:=1) he .loc aa rfl) (by (refine aj (ak ..) ?_;refine aj (cK ..) ?_;rfl))) (ki ⟨rfl,rfl⟩))))
noncomputable def uN(c:List (bb×Int))(q:bb×Int):List (bb×Int):=
 if c.any (λp=>p.1=q.1) then c.map (λp=>if p.1=q.1 then (p.1,p.2+q.2) else p) else c++[q]
theorem Dw{c:List (bb×Int)}{x:bb}{n:Int}(h:x∉c.map (·.1)):jF (c.map λq=>(q.1,V.int q.2)) x (.int n)=(c++[(x,n)]).map λq=>(q.1,V.int q.2):=by
 delta jF;rw [if_neg]
 ·simp
 ·intro h2;rw [cS] at h2;refine aK h2 λq hq hx=>?_;clear h2;refine aK (aG.mp hq) λp hp ma=>?_;subst ma;exact h (aG.mpr ⟨p,hp,by simpa using hx⟩)
theorem BV{c:List (bb×Int)}{x:bb}:mf (c.map λq=>(q.1,V.int q.2)) x=(c.find? λp=>p.1=x).map λp=>V.int p.2:=by
 delta mf;induction c with
 |nil=>rfl
 |cons a c ih=>
  refine aj (bB ..) ?_;refine aj (jW ..) ?_;refine aj (jW ..) ?_;by_cases h:a.1=x
  ·simp [h]
  ·simp only [h,decide_false];exact ih
noncomputable def oM(a b:List (bb×Int)):List (bb×Int):=b.foldl uN a
theorem Ij(c:List (bb×Int))(q:bb×Int):(uN c q).map (·.1)=if c.any (λp=>p.1=q.1) then c.map (·.1) else c.map (·.1)++[q.1]:=by
 delta uN
 split
 ·refine aj (a0 ..) ?_;congr 1;funext p;simp only [l7]
  split <;> rfl
 ·simp
theorem FM{c:List (bb×Int)}{q:bb×Int}(h:(c.map (·.1)).Nodup):((uN c q).map (·.1)).Nodup:=by
 refine aj (Ij ..) ?_
 split
 ·exact h
 ·rename_i hn;refine gj (bP ..) (⟨h,by simp,λa ha b hb e=>?_⟩);rw [aA.mp hb] at e;exact aK (aG.mp ha) λp hp hp2=>hn (cS.mpr ⟨p,hp,by simp [hp2,e]⟩)
theorem KD{c:List (bb×Int)}{q p0:bb×Int}(hn:(c.map (·.1)).Nodup)(hf:c.find? (λp=>p.1=q.1)=ae p0):jF (c.map λq=>(q.1,V.int q.2)) q.1 (.int (p0.2+q.2))=(uN c q).map λq=>(q.1,V.int q.2):=by
 have GE:c.any (λp=>p.1=q.1)=aJ:=cS.mpr ⟨p0,List.mem_of_find?_eq_some hf,by have:=List.find?_some hf;exact this⟩;delta jF uN;refine aj (if_pos GE ..) ?_;refine aj (if_pos (by rw [CE];exact GE) ..) ?_;refine aj (a0 ..) ?_;refine aj (a0 ..) ?_;refine b5 λp hp=>?_;simp only [l7];by_cases h:p.1=q.1
 ·(refine aj (if_pos h ..) ?_;refine aj (if_pos h ..) ?_)
  have:p=p0:=by
   have h0:=List.find?_some hf;simp at h0;clear GE;induction c with
   |nil=>exact eo hp
   |cons a c ih=>
    simp only [bB,cj] at hn;rw [jW] at hf;by_cases ha:a.1=q.1
    ·simp [ha] at hf;subst hf;rcases aP.mp hp with rfl|hp
     ·rfl
     ·exact absurd (aG.mpr ⟨p,hp,h.trans ha.symm⟩) hn.1
    ·simp [ha] at hf;rcases aP.mp hp with rfl|hp
     ·exact absurd h ha
     ·exact ih hn.2 hf hp
  refine aj (this ..) ?_;rfl
 ·(refine aj (if_neg h ..) ?_;refine aj (if_neg h ..) ?_;rfl)
theorem KF(c:List (bb×Int))(q:bb×Int):(uN c q).length<=c.length+1:=by
 delta uN
 split <;> simp
theorem Ik(a b:List (bb×Int)):(oM a b).length<=a.length+b.length:=by
 delta oM;induction b generalizing a with
 |nil=>simp
 |cons q b ih=>have h1:=ih (uN a q);have h2:=KF a q;simp only [fF,bK];lia
theorem Dx{a b:List (bb×Int)}(h:(a.map (·.1)).Nodup):((oM a b).map (·.1)).Nodup:=by
 delta oM;induction b generalizing a with
 |nil=>exact h
 |cons q b ih=>exact ih (FM h)
def lI.S0(k:Nat)(mu:Mu)(a b:List (bb×Int)):Prop:=∀(H:Hy G) (ha:(a.map (·.1)).Nodup) (SI:a.length<=1000) (hlb:b.length<=1000),FW (k+2) mu (.ref 263) [cV a,cV b] λy nu=>nu=mu/\y=cV (oM a b)
namespace lI
@[irreducible] def e0:=GW eO gD gD gD S0
def k_:=e0.1
def fb:=e0.2.1
def a_:=e0.2.2.1
def b_:=e0.2.2.2
theorem T0:S0 k_ fb a_ b_:=by
 intro H ha SI hlb;refine tf H H.f263 (names:=["target","source"]) (vals':=λL=>[ae (cV a_),ae (cV b_),av,av,av]) (λpm cd doc vs h=>?_) (by decide+kernel) rfl (λpm cd doc L=>?_) (λpm cd doc L he=>?_)
 ·exact zP h λa_ b_=>rfl
 ·exact .cons (j:=0) .loc rfl (.cons (j:=1) .loc rfl .nil)
 refine aC (ig (cf cO ?_));refine aC (b4 (xX H.B (λD=>fL.ref (aQ (i:=1) (j:=2) he .loc rfl ?_))) rfl rfl);have SP:∀n,n<=4000->n<=er:=λn h=>by show _<=2 ^ 24;exact aw (by assumption) (by decide)
 refine aC (jO (ctx:=[]) (xs:=(a_.map λq=>(q.1,V.int q.2)).map λq=> .tup [.str q.1,q.2]) (λi nu=>∃o1 o2,nu=cD D ((a_.take i).map λq=>(q.1,V.int q.2))::bq L (aM (L+1) (bk (cN 14)).names) [ae (cV a_),ae (cV b_),ae (.ref D),o1,o2]::fb)
  (AI (f7 (ah (j:=0) he .loc (ab _ aa) rfl) rM aT Dv (by exact vr) (by exact JC) (by exact F.type_dict_items) rfl)) (by lia) ⟨av,av,rfl⟩ (λi nu h o ho=>(eo ho)) ?_ ?_)
 ·intro i x nu hx mE;refine oy mE λo1 o2 qY=>?_;clear mE;subst qY;rw [aI,aI] at hx;refine aK (aL.mp hx) λq' EN uc=>?_;subst uc;refine aK (aL.mp EN) λq hq mO=>?_;subst mO;refine i7 (cv rfl rfl (aQ (i:=1) (j:=3) he .loc rfl (cv rfl rfl (aQ (i:=1) (j:=4) he .loc rfl (iX ?_)))));have PK:q.1∉(a_.take i).map (·.1):=λh=>by
   have e1:a_=a_.take i++q::a_.drop (i+1):=gh hq;rw [e1,bj,bB,bP] at ha;exact ha.2.2 _ h _ aa rfl
  refine aC (qz (i:=0) (ah (j:=4) he .loc (ab _ aa) rfl) (ah (j:=2) he .loc (ab _ aa) rfl) (ah (j:=3) he .loc (ab _ aa) rfl) rfl (SP _ (by simp;lia)) ?_);refine bC ⟨ae (.str q.1),ae (.int q.2),?_⟩;refine aj (Dw PK ..) ?_;refine aj (dE ..) ?_;refine aj (hq ..) ?_;rfl
 ·intro nu sk;refine oy sk λo1 o2 zj=>?_;clear sk;subst zj;refine bC ?_;refine aj (ak ..) ?_;refine aj (ak ..) ?_;refine aj (cK ..) ?_;refine aC (jO (ctx:=[]) (xs:=(b_.map λq=>(q.1,V.int q.2)).map λq=> .tup [.str q.1,q.2]) (λi nu=>∃o1 o2,nu=cD D ((oM a_ (b_.take i)).map λq=>(q.1,V.int q.2))::bq L (aM (L+1) (bk (cN 14)).names) [ae (cV a_),ae (cV b_),ae (.ref D),o1,o2]::fb)
   (AI (f7 (ah (j:=1) he .loc (ab _ aa) rfl) rM aT Dv (by exact vr) (by exact JC) (by exact F.type_dict_items) rfl)) (by lia) ⟨o1,o2,rfl⟩ (λi nu h o ho=>(eo ho)) ?_ ?_)
  ·intro i x nu hx EO;refine oy EO λo1 o2 MR=>?_;clear EO;subst MR;rw [aI,aI] at hx;refine aK (aL.mp hx) λq' EN SM=>?_;subst SM;refine aK (aL.mp EN) λq hq SN=>?_;subst SN;have hlc:(oM a_ (b_.take i)).length<=2000:=by
    have:=Ik a_ (b_.take i);have h3:(b_.take i).length<=b_.length:=by refine aj (dR ..) ?_;exact ou _ _
    lia
   have hnd:=Dx (b:=b_.take i) ha;have MS:oM a_ (b_.take (i+1))=uN (oM a_ (b_.take i)) q:=by (refine aj (dE ..) ?_;refine aj (hq ..) ?_);simp [oM]
   generalize oM a_ (b_.take i)=c at hlc hnd MS ⊢;refine i7 (cv rfl rfl (aQ (i:=1) (j:=3) he .loc rfl (cv rfl rfl (aQ (i:=1) (j:=4) he .loc rfl (iX ?_)))));refine aC (iY (c9 (ah (j:=3) he .loc (ab _ aa) rfl) (wF (ah (j:=2) he .loc (ab _ aa) rfl) aa) Kw) (λh=>?_) λh=>?_)
   ·rw [BV] at h;obtain ⟨p0,JQ⟩:∃p0,c.find? (λp=>p.1=q.1)=ae p0:=by
     cases hc:c.find? (λp=>p.1=q.1) with
     |none=>rw [hc] at h;exact vG h
     |some p0=>exact ⟨p0,rfl⟩
    refine aC (iY (kU (ek (j4 H he H.b_isinstance rfl) (au (ah (j:=4) he .loc (ab _ aa) rfl) (au (iN H he H.b_tuple rfl) aT)) BS) qt) (λh=>(vG h)) λz=>?_);refine aC (Og (i:=0) (y0:= .int p0.2) (ah (j:=2) he .loc (ab _ aa) rfl) (ah (j:=3) he .loc (ab _ aa) rfl) rfl (by (refine aj (BV ..) ?_;refine aj (JQ ..) ?_);rfl) (ah (j:=4) he .loc (ab _ aa) rfl) FL (SP _ (by simp;exact aw (by assumption) (by decide))) ?_);refine bC (bC (bC ⟨ae (.str q.1),ae (.int q.2),?_⟩));refine aj (KD hnd JQ ..) ?_;refine aj (MS ..) ?_;rfl
   ·rw [BV] at h;have hnone:c.find? (λp=>p.1=q.1)=av:=by
     cases hc:c.find? (λp=>p.1=q.1) with
     |none=>rfl
     |some p0=>rw [hc] at h;exact JX h
    refine aC (qz (i:=0) (ah (j:=4) he .loc (ab _ aa) rfl) (ah (j:=2) he .loc (ab _ aa) rfl) (ah (j:=3) he .loc (ab _ aa) rfl) rfl (SP _ (by simp;exact aw (by assumption) (by decide))) ?_);refine bC (bC ⟨ae (.str q.1),ae (.int q.2),?_⟩);have hnot:q.1∉c.map (·.1):=λh=>by
     refine aK (aG.mp h) λp hp hp2=>?_;have:=Ai.mp hnone p hp;simp [hp2] at this
    refine aj (Dw hnot ..) ?_;refine aj (MS ..) ?_;have:uN c q=c++[q]:=by delta uN;rw [if_neg];intro h;exact aK (cS.mp h) λp hp hp2=>hnot (aG.mpr ⟨p,hp,by simpa using hp2⟩)
    refine aj (this ..) ?_;rfl
  ·intro nu PG;refine oy PG λo1 o2 SO=>?_;clear PG;subst SO;refine bC ?_;refine aj (ak ..) ?_;refine aj (ak ..) ?_;refine aj (cK ..) ?_;refine aC (gw (cf (ah (j:=2) he .loc (ab _ aa) rfl) ?_));exact jK.dict (gW _ _) ⟨rfl,rfl⟩
end lI
theorem lI{a b:List (bb×Int)}:lI.S0 k mu a b:=by with_unfolding_all exact vz _ _ _ _ lI.S0 @lI.T0 k mu a b
variable {es:List bH}
theorem ju{f:bb}{a:ay}{ob:oY}{fd:cg}(hf:PE k mu env (.Name f p) (.ref a))(h0:G.Z0 a=ae ob)(hd:ob.data= .func fd)(ha:tA k mu env (e::es) (ys.map bZ))(hF:FW k mu (.ref a) ys λv nu=>v=y/\nu=mu)(hs:∀a p,e≠ .Starred a p:=by intro z z h;cases h):
 PE k mu env (.Call (.Name f p) (e::es) [] pos) y:=Kb hf h0 hd ha hF.fn hs
noncomputable abbrev Ql(a b c d:Int)(q:List (bb×Int)):V:= .tup [.int a,.int b,.int c,.int d,cV q]
theorem Oi(H:Hy G){a b c d a' b' c' d':Int}{q q':List (bb×Int)}(hn:(q.map (·.1)).Nodup)(hl:q.length<=1000)(hl':q'.length<=1000):
 FW (k+3) mu (.ref 256) [Ql a b c d q,Ql a' b' c' d' q'] λy nu=>y=Ql (a'+a) (b'+b) (c'+c) (d'+d) (oM q q')/\nu=mu:=by
 refine tf H H.f256 (names:=["target","source"]) (vals':=λL=>[ae (Ql a b c d q),ae (Ql a' b' c' d' q'),av,av,av,av,av,av,av,av,av,av]) (λpm cd doc vs h=>?_) (by decide+kernel) rfl (λpm cd doc L=>?_) (λpm cd doc L he=>?_)
 ·exact zP h λa b=>rfl
 ·exact .cons (j:=0) .loc rfl (.cons (j:=1) .loc rfl .nil)
 refine aC (ig (cf cO ?_));refine aC (bX (ah (j:=1) he .loc aa rfl) (i7 (cv rfl rfl (aQ (i:=0) (j:=2) he .loc rfl (cv rfl rfl (aQ (i:=0) (j:=3) he .loc rfl (cv rfl rfl (aQ (i:=0) (j:=4) he .loc rfl (cv rfl rfl (aQ (i:=0) (j:=5) he .loc rfl (cv rfl rfl (aQ (i:=0) (j:=6) he .loc rfl (iX ?_)))))))))))) rfl rfl);refine aC (bX (ah (j:=0) he .loc aa rfl) (i7 (cv rfl rfl (aQ (i:=0) (j:=7) he .loc rfl (cv rfl rfl (aQ (i:=0) (j:=8) he .loc rfl (cv rfl rfl (aQ (i:=0) (j:=9) he .loc rfl (cv rfl rfl (aQ (i:=0) (j:=10) he .loc rfl (cv rfl rfl (aQ (i:=0) (j:=11) he .loc rfl (iX ?_)))))))))))) rfl rfl);refine cq (H.f263.go) λob TY cd' Jk h0 hd z=>aC (gw (cf (f9 (xs:=[.int (a'+a),.int (b'+b),.int (c'+c),.int (d'+d),cV (oM q q')]) (au (br (cP (ah (j:=2) he .loc aa rfl)) (cP (ah (j:=7) he .loc aa rfl)) (by exact fC)) (au (br (cP (ah (j:=3) he .loc aa rfl)) (cP (ah (j:=8) he .loc aa rfl)) (by exact fC)) (au (br (cP (ah (j:=4) he .loc aa rfl)) (cP (ah (j:=9) he .loc aa rfl)) (by exact fC)) (au (br (cP (ah (j:=5) he .loc aa rfl)) (cP (ah (j:=10) he .loc aa rfl)) (by exact fC)) (au (ju (ys:=[cV q,cV q']) (mn H he H.m_callers rfl) h0 hd (au (ah (j:=11) he .loc aa rfl) (au (ah (j:=6) he .loc aa rfl) aT)) ((lI H hn hl hl').mono λy nu h=>⟨h.2,h.1⟩)) aT))))) (bg rfl)) (ki ⟨rfl,rfl⟩)))
noncomputable def nF(m:Nat):List Nat:=(aN 33).filter m.testBit
noncomputable def iw(m i:Nat):List Nat:=(aN i).filter m.testBit
noncomputable def lF(m i:Nat):Nat:=m / 2 ^ i*2 ^ i
theorem FN(m:Nat):lF m 0=m:=by simp [lF]
theorem Dy(m i:Nat):m / 2 ^ i=2*(m / 2 ^ (i+1))+(m.testBit i).toNat:=by
 have h1:m / 2 ^ (i+1)=m / 2 ^ i / 2:=by rw [CG,Nat.div_div_eq_div_mul]
 have h2:(m.testBit i).toNat=m / 2 ^ i % 2:=by rw [fx];have:=JD (m / 2 ^ i);rcases this with h|h <;> simp [h]
 rw [h1,h2];lia
theorem yc(m i:Nat):lF m i=lF m (i+1)+(m.testBit i).toNat*2 ^ i:=by unfold lF;rw [Dy m i,iS,CG];congr 1;rw [q9 2,jY,q9 2]
theorem KG(a i:Nat):a &&& 2 ^ i=(a.testBit i).toNat*2 ^ i:=by
 apply xq;intro j;rw [GO,lC];by_cases Bq:i=j
 ·subst Bq;cases h:a.testBit i
  ·simp
  ·simp [lC]
 ·cases h:a.testBit i
  ·simp [Bq]
  ·simp [Bq,lC]
theorem Il(m i:Nat):lF m i &&& 2 ^ i=(m.testBit i).toNat*2 ^ i:=by rw [KG];congr 2;unfold lF;rw [q9,NL];simp;rw [fx]
theorem oN(m i:Nat):iw m (i+1)=iw m i++(if m.testBit i then [i] else []):=by
 unfold iw;rw [qe,fX];congr 1;rw [hZ]
 split <;> simp
theorem Dz{m i:Nat}(hi:i<=33)(h:m / 2 ^ i=0):iw m i=nF m:=by
 have:∀n,iw m (i+n)=iw m i:=by
  intro n;induction n with
  |zero=>rfl
  |succ n ih=>
   have hz:m.testBit (i+n)=aH:=by
    rw [fx];have:m < 2 ^ i:=by
     rcases gX m (2 ^ i) with h'|h'
     ·exact h'
     ·have:=Nat.div_pos h' (qf i);lia
    have h2:m / 2 ^ (i+n)=0:=Nat.div_eq_of_lt (cb this (e8 (by decide) (by exact dC _ _)));simp [h2]
   rw [<- l5,oN,hz,ih];simp
 have h2:=this (33 - i);rw [show i+(33 - i)=33 by lia] at h2;exact h2.symm
noncomputable def cB(i:Nat):bb:=if i < 10 then oG.getD i "" else Jx "0x" 16 ((2 ^ i:Nat):Int)
noncomputable def rO(m:Nat):bb:=fO ", " ((nF m).map cB)
theorem BX:∀i,i < 33->(cB i).length<=20:=by decide+kernel
theorem FO:∀i,i < 33->(vn qw ((1:Int)*2 ^ ((i:Nat):Int).toNat)).isSome=decide (i < 10)/\(i < 10->vn qw ((1:Int)*2 ^ ((i:Nat):Int).toNat)=ae (.str (cB i) (254+2*i))):=by decide+kernel
theorem RB(i:Nat)(h:¬i < 10):Jx "0x" 16 ((1:Int)*2 ^ ((i:Nat):Int).toNat)=cB i:=by
 unfold cB;refine aj (if_neg h ..) ?_;refine aj (sQ ..) ?_;refine aj (b8 ..) ?_
 norm_cast
theorem RC(i:Nat)(h:i < 32):(Jx "0x" 16 ((1:Int)*2 ^ ((i:Nat):Int).toNat)).length<=er:=by
 have:∀i,i < 32->(Jx "0x" 16 ((1:Int)*2 ^ ((i:Nat):Int).toNat)).length<=20:=by decide+kernel
 exact aw (this i h) (by show _<=2 ^ 24;decide)
theorem BY(m:Nat):Nd ", " ((nF m).map cB)=aJ:=by
 refine joinOk_of ?_;have h1:∀l:List Nat,(∀i∈l,i < 33)->((l.map cB).map (·.length)).sum<=l.length*20:=by
  intro l;induction l with
  |nil=>intro z;simp
  |cons a l ih=>intro h;have:=ih λi hi=>h i (ab _ hi);have:=BX a (h a aa);simp only [bB,da,bK];lia
 have h2:=h1 (nF m) λi hi=>aY.mp (bo.mp hi).1;have h3:(nF m).length<=33:=by have:=bu m.testBit (aN 33);exact this
 have h4:(", ":bb).length=2:=rfl;refine aj (ak ..) ?_;refine aj (h4 ..) ?_;lia
theorem FP(H:Hy G){i:Nat}(hi:i < 32){d:bb}(hd:¬i < 10->d=cB i):Fn k mu (.builtin "dict.get") [bZ (.ref 65),bZ (.int (1*2 ^ ((i:Nat):Int).toNat)),bZ (.str d)] (bZ (.str (cB i))):=⟨λ{A E Z s fr vs Q} hA r hq q=>by
 refine lG (hq.three) λv u w dO q1 q2 q3=>?_;subst dO;refine aj (aZ.refE q1 ..) (cJ (gF q2) λtk eU=>?_);subst eU;refine cJ (gV q3) λnx gi=>?_;subst gi;have hD:=H.flagD.2 s.heap r.z0in;refine JB F.slot_dict_get hD.typeIs F.entry_dict_get (F.args_dict_get_3 _ _ _) (meets_dict_get_default (knd:=lu G.prog G.w) (d:=65) (hkey:=GP G.prog G.w _ tk) (hd:=H.flagD.1) (dflt:=_)) ⟨_,hD.mapOf,?_⟩;refine dU (FO i (cI hi)) λh1 h2=>?_;by_cases h:i < 10
 ·exact aj (h2 h ..) (q .rfl (aZ.str _ _) r.toks)
 ·have:vn qw ((1:Int)*2 ^ ((i:Nat):Int).toNat)=av:=by
   cases hv:vn qw ((1:Int)*2 ^ ((i:Nat):Int).toNat) with
   |none=>rfl
   |some _=>rw [hv] at h1;exact absurd (of_decide_eq_true h1.symm) h
  refine aj (this ..) ?_;refine aj (hd h ..) ?_;exact q .rfl (aZ.str _ _) r.toks⟩
theorem KH(H:Hy G):Ty mu (bZ (.ref 65)) "dict":=⟨λZ s fr v r h=>by
 exact cE (H.flagD.2 s.heap r.z0in) λo es ep h1 h2 z=>aZ.refE h▸Ty.at h1 h2.1 h2.2.1⟩
theorem yd(m i:Nat):lZ ((lF m i:Nat):Int) (1*2 ^ ((i:Nat):Int).toNat)=(((m.testBit i).toNat*2 ^ i:Nat):Int):=by
 have h:(1:Int)*2 ^ ((i:Nat):Int).toNat=((2 ^ i:Nat):Int):=by (refine aj (sQ ..) ?_;refine aj (b8 ..) ?_);norm_cast
 refine aj (h ..) ?_;refine aj (bitAnd_pp (dI _) (dI _) ..) ?_;refine aj (b8 ..) ?_;refine aj (b8 ..) ?_;refine aj (Il ..) ?_;rfl
theorem KI{m i:Nat}(h:m.testBit i=aJ):Builtin.bitXor ((lF m i:Nat):Int) (1*2 ^ ((i:Nat):Int).toNat)=((lF m (i+1):Nat):Int):=by
 refine aj (bitXor_and ..) ?_;refine aj (yd ..) ?_;refine aj (h ..) ?_;have h2:(1:Int)*2 ^ ((i:Nat):Int).toNat=((2 ^ i:Nat):Int):=by (refine aj (sQ ..) ?_;refine aj (b8 ..) ?_);norm_cast
 have h3:=yc m i;rw [h] at h3;refine aj (h2 ..) ?_;simp only [GQ,xr] at h3 ⊢;lia
noncomputable abbrev pfFr(L:ay)(f:Int)(D:ay)(o1 o2:Option V):cX:=bq L (aM (L+1) (bk (cN 4)).names) [ae (.int f),ae (.ref D),o1,o2]
noncomputable abbrev Im(l:List Nat):List V:=l.map λi=>V.str (cB i)
def oO.S0(k:Nat)(mu:Mu)(m _:Nat):Prop:=∀(H:Hy G) (h0:m≠0) (hm:m < 2 ^ 33),FW (k+2) mu (.ref 72) [nV m] λy nu=>y= .str (rO m)/\nu=mu
namespace oO
@[irreducible] def e0:=GW eO gD eO eO S0
def k_:=e0.1
def fb:=e0.2.1
def m_:=e0.2.2.1
theorem T0:S0 k_ fb m_ e0.2.2.2:=by
 intro H h0 hm;refine tf H H.f72 (names:=["flags"]) (vals':=λL=>[ae (nV m_),av,av,av]) (λpm cd doc vs h=>?_) (by decide+kernel) rfl (λpm cd doc L=>?_) (λpm cd doc L he=>?_)
 ·exact uM h λa=>rfl
 ·exact .cons (j:=0) .loc rfl .nil
 have fm:∀{a b:cX} {l:Mu},b∈a::b::l:=ab _ aa;have fin:∀D f o1 o2,WS (k_+1) (bl D (Im (nF m_))::pfFr L f D o1 o2::fb) (dT (xx (cN 4) pm cd doc) 72 L) ((fR (cN 4)).drop 3) (lE λy nu=>y= .str (rO m_)/\nu=fb):=λD f o1 o2=>by
  refine aC (gw (cf (y:= .str (rO m_)) (f7 (cP cO) (by exact mK) (au (uD (ah (j:=1) he .loc fm rfl) aa) aT) (by exact rK (f:=cB) (BY m_)) (by exact eM) (by exact ny) (by exact nz) rfl) ?_));exact jK.tail (jK.tail (jK.keep ⟨rfl,rfl⟩))
 refine aC (ig (cf cO ?_));refine aC (b4 (sA (xs:=[]) aT (bg rfl) (λD=>fL.ref (aQ (i:=1) (j:=1) he .loc rfl ?_))) rfl rfl);refine aC (jO (ctx:=[]) (xs:=(aN 32).map λ(i:Nat)=>V.int i) (λi nu=>m_ / 2 ^ i≠0/\∃o1 o2,nu=bl D (Im (iw m_ i))::pfFr L (lF m_ i:Nat) D o1 o2::fb)
  (fK (iN H he H.b_range rfl) aU rfl (by decide)) (by lia) ⟨by simpa using h0,av,av,by refine aj (FN ..) ?_;rfl⟩ (λi nu h o ho=>(eo ho)) ?_ ?_)
 ·intro i x nu hx iC;refine vy iC λhnz o1 o2 kG=>?_;clear iC;subst kG;rw [aI] at hx;refine aK (aL.mp hx) λi' hi' ma=>?_;subst ma;refine cJ (aB.mp hi') λhlt he2=>?_;have hii:i'=i:=by refine fZ (he2 ..) ?_;simp
  subst hii;have hi32:i' < 32:=by exact hlt
  have hlb:(iw m_ i').length<=32:=by have:=bu m_.testBit (aN i');simp [iw] at this ⊢;lia
  refine aQ (i:=1) (j:=2) he .loc rfl (aC (bX (br (cP aU) (cP (ah (j:=2) he .loc fm rfl)) (by exact J9 (by exact dI _) (by lia) (by decide))) (aQ (i:=1) (j:=3) he .loc rfl ?_) rfl rfl));refine aC (iY (kU (cP (br (cP (ah (j:=0) he .loc fm rfl)) (cP (ah (j:=3) he .loc fm rfl)) (by exact qq))) (by exact xP)) (λh=>?_) λh=>?_)
  ·rw [yd] at h;have hb:m_.testBit i'=aJ:=by
    cases hb:m_.testBit i'
    ·rw [hb] at h;simp at h
    ·rfl
   refine aC (ig (mY (ah (j:=1) he .loc fm rfl) (j5 (xs:=Im (iw m_ i')) aa) (au (f7 (mn H he H.m_names rfl) (KH H) (au (ah (j:=3) he .loc fm rfl) (au (ek (j4 H he H.b_hex rfl) (au (ah (j:=3) he .loc fm rfl) aT) (by exact Kr (RC i' hi32))) aT)) (by exact FP H hi32 (λh=>RB i' h)) (by exact vr) (by exact F.slot_dict_get) (by exact F.type_dict_get) rfl) aT) (kA (i:=0) (y:= .str (cB i')) rfl (by simp;exact b7 (by assumption) (by decide)) ?_) (by exact fP) (by exact iT) (by exact iU) rfl));refine aC (rN (i:=1) (j:=0) he .loc rfl rfl (ah (j:=3) he .loc fm rfl) Ry ?_);refine aj (KI hb ..) ?_;have TZ:iw m_ (i'+1)=iw m_ i'++[i']:=by (refine aj (oN ..) ?_;refine aj (hb ..) ?_);rfl
   have hdv:m_ / 2 ^ (i'+1)=0↔lF m_ (i'+1)=0:=by
    unfold lF;have:=qf (i'+1);constructor
    ·intro h;refine aj (h ..) ?_;simp
    ·intro h;rcases Nat.mul_eq_zero.mp h with h|h
     ·exact h
     ·lia
   refine aC (iY (Fv (kU (ah (j:=0) he .loc fm rfl) xP)) (λh2=>?_) λh2=>?_)
   ·have hz:lF m_ (i'+1)=0:=by simpa using h2
    refine aC (Rh ?_);have hb2:=Dz (m:=m_) (i:=i'+1) (by lia) (hdv.mpr hz);show WS (k_+1) (bl D (Im (iw m_ i')++[.str (cB i')])::_::fb) _ _ _;refine aj (show Im (iw m_ i')++[.str (cB i')]=Im (nF m_) by rw [<- hb2,TZ];simp [Im]) ?_;exact fin D _ _ _
   ·refine bC (bC (bC ⟨λh3=>?_,ae (.int i'),ae (.int (1*2 ^ ((i':Nat):Int).toNat)),?_⟩))
    ·have:=hdv.mp h3;rw [this] at h2;simp at h2
    ·refine aj (TZ ..) ?_;simp only [Im,bj];rfl
  ·rw [yd] at h;have hb:m_.testBit i'=aH:=by
    cases hb:m_.testBit i'
    ·rfl
    ·rw [hb] at h;have h4:=qf i';simp only [GQ,xr,bne_eq_false_iff_eq] at h;have h5:=Int.natCast_eq_zero.mp h;lia
   have hr:=yc m_ i';have hd:=Dy m_ i';rw [hb] at hr hd;refine bC (bC ⟨λh3=>hnz (by (refine aj (hd ..) ?_;refine aj (h3 ..) ?_);rfl),ae (.int i'),ae (.int (1*2 ^ ((i':Nat):Int).toNat)),?_⟩);refine aj (oN ..) ?_;refine aj (hb ..) ?_;refine aj (show lF m_ (i'+1)=lF m_ i' by simpa using hr.symm) ?_;simp only [dj,if_false,cy];rfl
 ·intro nu mE;refine vy mE λhnz o1 o2 qY=>?_;clear mE;subst qY;have hlen:((aN 32).map λ(i:Nat)=>V.int i).length=32:=by rfl
  rw [hlen] at hnz ⊢;have h1:m_ / 2 ^ 32=1:=by have:m_ / 2 ^ 32 < 2:=Nat.div_lt_of_lt_mul (by assumption);lia
  have hrm:lF m_ 32=2 ^ 32:=by unfold lF;(refine aj (h1 ..) ?_;rfl)
  have hb:m_.testBit 32=aJ:=by (refine aj (fx ..) ?_;refine aj (h1 ..) ?_);rfl
  have TZ:nF m_=iw m_ 32++[32]:=by show iw m_ 33=_;(refine aj (oN ..) ?_;refine aj (hb ..) ?_);rfl
  have hlb:(iw m_ 32).length<=32:=by have:=bu m_.testBit (aN 32);exact this
  refine aj (hrm ..) (aC (ig (mY (ah (j:=1) he .loc fm rfl) (j5 (xs:=Im (iw m_ 32)) aa) (au (ek (j4 H he H.b_hex rfl) (au (ah (j:=0) he .loc fm rfl) aT) (by exact Kr (by decide+kernel))) aT) (kA (i:=0) (y:= .str (cB 32)) rfl (by simp;exact b7 (by assumption) (by decide)) ?_) (by exact fP) (by exact iT) (by exact iU) rfl)));refine bC ?_;show WS (k_+1) (bl D (Im (iw m_ 32)++[.str (cB 32)])::_::fb) _ _ _;refine aj (show Im (iw m_ 32)++[.str (cB 32)]=Im (nF m_) by rw [TZ];simp [Im]) ?_;exact fin D _ _ _
end oO
theorem oO{m:Nat}:oO.S0 k mu m 0:=by with_unfolding_all exact vz _ _ _ _ oO.S0 @oO.T0 k mu m 0
section
open PySem.StrLaws
noncomputable def glue:List (List Nat)->List Nat
 |[]=>[]
 |[t]=>t
 |t::u::r=>t++[44,32]++glue (u::r)
theorem ye(sep:List Nat):∀(ts:List (List Nat)) (acc:List Nat),ts.foldl (λacc p=>acc++sep++p) acc=acc++(ts.flatMap λp=>sep++p)
 |[],acc=>by simp
 |t::ts,acc=>by (refine aj (fF ..) ?_;refine aj (ye sep ts ..) ?_);simp
theorem Hi:∀(t:List Nat) (ts:List (List Nat)),glue (t::ts)=t++(ts.flatMap λp=>[44,32]++p)
 |t,[]=>(cy t).symm
 |t,u::r=>by
  show t++[44,32]++glue (u::r)=_;refine aj (Hi u r ..) ?_;exact (bU ..).trans (congrArg (t++·) (bU [44,32] u _).symm)
theorem yf(t:bb)(ts:List bb):(fO ", " (t::ts)).cps.toList=glue ((t::ts).map (·.cps.toList)):=by
 have h:∀(ts:List bb) (acc:Array Nat),(ts.foldl (λacc p=>acc++(", ":bb).cps++p.cps) acc).toList=(ts.map (·.cps.toList)).foldl (λacc p=>acc++[44,32]++p) acc.toList:=by
  intro ts;induction ts with
  |nil=>intro acc;rfl
  |cons u ts ih=>
   intro acc;refine aj (fF ..) ?_;refine aj (ih ..) ?_;refine aj (bB ..) ?_;refine aj (fF ..) ?_;have:(acc++(", ":bb).cps++u.cps).toList=acc.toList++[44,32]++u.cps.toList:=by simp;rfl
   refine aj (this ..) ?_;rfl
 show ((ts.foldl (λacc p=>acc++(", ":bb).cps++p.cps) t.cps).toList)=_;refine aj (h ..) ?_;refine aj (ye ..) ?_;refine aj (bB ..) ?_;refine aj (Hi ..) ?_;rfl
theorem DA{x:bb}{i:Nat}(h:At x ", " x.length i):x.cps.toList[i]? =ae 44:=by
 refine dU h λh1 h2=>?_;clear h;have hl:(", ":bb).length=2:=rfl;unfold Builtin.Str.subAt at h2;have h3:=jE h2;rw [hl] at h3 h1;have h4:(x.cps.extract i (i+2))[0]? =ae 44:=by refine aj (h3 ..) ?_;rfl
 rw [Array.getElem?_extract] at h4
 split at h4
 ·simpa using h4
 ·exact gK h4
theorem at_of{x:bb}{i:Nat}{r:List Nat}(h:x.cps.toList.drop i=44::32::r):At x ", " x.length i:=by
 have hl:(", ":bb).length=2:=rfl;have hlen:x.length=x.cps.toList.length:=rfl;have h0:=congrArg kM h;rw [fY] at h0;simp only [bK] at h0;refine ⟨by (refine aj (hl ..) ?_;refine aj (hlen ..) ?_);lia,?_⟩;unfold Builtin.Str.subAt;refine aj (hl ..) ?_;have:(x.cps.extract i (i+2)).toList=[44,32]:=by refine aj (xt ..) ?_;simp only [JT];refine aj (h ..) (aj (show i+2 - i=2 by lia) ?_);rfl
 exact gj (beq_iff_eq ..) (uk.mp (this.trans rfl))
theorem rP(x:bb)(a c:Nat):(fj x a c).cps.toList=(x.cps.toList.drop a).take (c - a):=by unfold fj;refine aj (xt ..) ?_;refine aj (JT ..) ?_;rfl
theorem yg(x:bb):∀(ts:List bb) (a:Nat) (Jl:List Nat) (f:Nat),ts≠[]->(∀t∈ts,44∉t.cps.toList)->a<=x.length->x.cps.toList.drop a=glue (ts.map (·.cps.toList))->
 ChainG x ", " x.length a Jl f->(∀k,f<=k->¬At x ", " x.length k)->partsFrom x 2 a Jl=ts
 |[],_,_,_,h,_,_,_,_,_=>absurd rfl h
 |[t],a,Jl,f,_,hc,ha,hd,QJ,hf=>by
  have Br:∀k,a<=k->¬At x ", " x.length k:=λk hk hA=>by
   have h1:=DA hA;have h2:(x.cps.toList.drop a)[k - a]? =ae 44:=by (refine aj (Ak ..) ?_;refine aj (show a+(k - a)=k by lia) ?_);exact h1
   rw [hd] at h2;exact hc t aa (ao h2)
  cases Jl with
  |cons c r=>exact absurd QJ.2.1 (Br c QJ.1)
  |nil=>
   show [fj x a x.length]=[t];congr 1;have:(fj x a x.length).cps.toList=t.cps.toList:=by refine aj (rP ..) ?_;refine aj (hd ..) ?_;show t.cps.toList.take _=_;refine d6 ?_;have h0:=congrArg kM hd;rw [fY] at h0;have h9:x.length=x.cps.toList.length:=rfl;have h0:_=t.cps.toList.length:=h0;lia
   cases t;exact congrArg Str.mk (uk.mp this)
 |t::u::ts,a,Jl,f,_,hc,ha,hd,QJ,hf=>by
  have hxl:x.length=x.cps.toList.length:=rfl;have hd':x.cps.toList.drop a=t.cps.toList++(44::32::glue ((u::ts).map (·.cps.toList))):=by exact hd.trans (bU ..)
  have hd2:x.cps.toList.drop (a+t.cps.toList.length)=44::32::glue ((u::ts).map (·.cps.toList)):=by refine fZ (JE ..) ?_;refine aj (hd' ..) ?_;refine aj (List.drop_left ..) ?_;rfl
  have hA:=at_of hd2;have Br:∀k,a<=k->k < a+t.cps.toList.length->¬At x ", " x.length k:=λk h1 h2 hA=>by
   have h3:=DA hA;have h4:(x.cps.toList.drop a)[k - a]? =ae 44:=by (refine aj (Ak ..) ?_;refine aj (show a+(k - a)=k by lia) ?_);exact h3
   rw [hd',eE (by lia)] at h4;exact hc t aa (ao h4)
  cases Jl with
  |nil=>have:f=a:=QJ;exact absurd hA (hf _ (by lia))
  |cons c r=>
   have hca:c=a+t.cps.toList.length:=by
    rcases sM c (a+t.cps.toList.length) with h|h|h
    ·exact absurd QJ.2.1 (Br c QJ.1 h)
    ·exact h
    ·exact absurd hA (QJ.2.2.1 _ (by exact dC _ _) h)
   subst hca;have hd3:x.cps.toList.drop (a+t.cps.toList.length+2)=glue ((u::ts).map (·.cps.toList)):=by (refine fZ (JE ..) ?_;refine aj (hd2 ..) ?_);rfl
   have hle:a+t.cps.toList.length+2<=x.length:=hA.1;show fj x a (a+t.cps.toList.length)::partsFrom x 2 (a+t.cps.toList.length+2) r=t::u::ts;refine aj (yg x (u::ts) _ r f (by simp) (λv hv=>hc v (ab _ hv)) hle hd3 QJ.2.2.2 hf ..) ?_;congr 1;have:(fj x a (a+t.cps.toList.length)).cps.toList=t.cps.toList:=by refine aj (rP ..) ?_;refine aj (hd' ..) ?_;refine aj (show a+t.cps.toList.length - a=t.cps.toList.length by lia) ?_;refine aj (List.take_left ..) ?_;rfl
   cases t;exact congrArg Str.mk (uk.mp this)
theorem vO{ts:List bb}(h0:ts≠[])(hc:∀t∈ts,44∉t.cps.toList):Nf (fO ", " ts) ", "=ts:=by
 obtain ⟨t,PL,rfl⟩:∃t PL,ts=t::PL:=by cases ts with|nil=>exact absurd rfl h0|cons t PL=>exact ⟨t,PL,rfl⟩
 refine aK (occ_tight (fO ", " (t::PL)) ", " (by decide)) λf h1 h2=>?_;have h3:=yg (fO ", " (t::PL)) (t::PL) 0 _ f h0 hc (gp _) (by (refine aj (fy ..) ?_;refine aj (yf ..) ?_;rfl)) h1 h2;generalize fO ", " (t::PL)=x at h1 h2 h3 ⊢;have whole:fj x 0 x.length=x:=by
  have:(fj x 0 x.length).cps.toList=x.cps.toList:=by refine aj (rP ..) ?_;exact d6 (bp _)
  cases x;exact congrArg Str.mk (uk.mp this)
 unfold Nf;have MT:(cZ x ", " 0 x.length (x.length+1))=[]->[x]=t::PL:=λh=>by
  rw [h] at h3;refine fZ (h3 ..) ?_;show [x]=[fj x 0 x.length];refine aj (whole ..) ?_;rfl
 split
 ·rename_i hk;refine MT ?_;cases hcut:cZ x ", " 0 x.length (x.length+1) with
  |nil=>rfl
  |cons c r=>
   rw [hcut] at h1;have h4:=h1.2.1.1;have hl:(", ":bb).length=2:=rfl;have hs:mQ (", ":bb)=1:=by decide+kernel
   have hx1:¬mQ x < 1:=by unfold mQ;split <;> (try split) <;> lia
   rw [hl] at h4;rw [hl,hs] at hk;simp only [jV,decide_eq_true_eq] at hk;lia
 ·split
  ·rename_i hk;exact MT (by simpa using hk)
  ·refine aj (partsBetween_eq ..) ?_;exact h3
end
theorem qA:∀i,i < 33->∀j,j < 33->cB i=cB j->i=j:=by decide+kernel
theorem Io:∀i,i < 33->44∉(cB i).cps.toList:=by decide+kernel
noncomputable def eZ(S:Nat):List Nat:=(aN 6).filter S.testBit
noncomputable def iy(low S:Nat):bb:=fO ", " ((eZ S).map λb=>cB (low+b))
noncomputable def AJ(p:Nat->Bool):Nat:=(p 0).toNat+(p 1).toNat*2+(p 2).toNat*4+(p 3).toNat*8+(p 4).toNat*16+(p 5).toNat*32
theorem DB:∀a b c d e f:Bool,((a.toNat+b.toNat*2+c.toNat*4+d.toNat*8+e.toNat*16+f.toNat*32).testBit 0=a/\(a.toNat+b.toNat*2+c.toNat*4+d.toNat*8+e.toNat*16+f.toNat*32).testBit 1=b/\(a.toNat+b.toNat*2+c.toNat*4+d.toNat*8+e.toNat*16+f.toNat*32).testBit 2=c/\
 (a.toNat+b.toNat*2+c.toNat*4+d.toNat*8+e.toNat*16+f.toNat*32).testBit 3=d/\(a.toNat+b.toNat*2+c.toNat*4+d.toNat*8+e.toNat*16+f.toNat*32).testBit 4=e/\(a.toNat+b.toNat*2+c.toNat*4+d.toNat*8+e.toNat*16+f.toNat*32).testBit 5=f)/\
 a.toNat+b.toNat*2+c.toNat*4+d.toNat*8+e.toNat*16+f.toNat*32 < 64:=by decide
def kB.S0(p:Nat->Bool)(_:Nat):Prop:=∀{b:Nat} (h:b < 6),(AJ p).testBit b=p b
namespace kB
@[irreducible] def e0:=P8 inferInstance eO S0
def p_:=e0.1
theorem T0:S0 p_ e0.2:=by intro b h;refine dU (DB (p_ 0) (p_ 1) (p_ 2) (p_ 3) (p_ 4) (p_ 5)) λdO z=>JV dO λh0 h1 h2 h3 h4 h5=>?_;clear dO;delta AJ;rcases (show b=0\/b=1\/b=2\/b=3\/b=4\/b=5 by lia) with rfl|rfl|rfl|rfl|rfl|rfl <;> assumption
end kB
theorem kB(p:Nat->Bool):kB.S0 p 0:=by with_unfolding_all exact Fk _ _ kB.S0 @kB.T0 p 0
theorem DC(p:Nat->Bool):AJ p < 64:=(DB (p 0) (p 1) (p 2) (p 3) (p 4) (p 5)).2
theorem DD(p:Nat->Bool)(f:Nat->Nat):∀l:List Nat,((l.filter p).map f).sum=(l.map λb=>(p b).toNat*f b).sum
 |[]=>rfl
 |a::l=>by
  refine aj (hZ ..) ?_;refine aj (bB ..) ?_;refine aj (da ..) ?_;refine fZ (DD p f l ..) ?_;cases p a
  ·(refine aj (if_neg cF ..) ?_;refine aj (Bool.toNat_false ..) ?_;refine aj (ra ..) ?_;refine aj (eC ..) ?_;rfl)
  ·(refine aj (if_pos rfl ..) ?_;refine aj (bB ..) ?_;refine aj (da ..) ?_;refine aj (GQ ..) ?_;refine aj (xr ..) ?_;rfl)
theorem Ip(p:Nat->Bool)(low:Nat):(((aN 6).filter p).map λb=>2 ^ (low+b)).sum=AJ p*2 ^ low:=by
 refine aj (DD ..) ?_;delta AJ;show (p 0).toNat*2 ^ (low+0)+((p 1).toNat*2 ^ (low+1)+((p 2).toNat*2 ^ (low+2)+((p 3).toNat*2 ^ (low+3)+((p 4).toNat*2 ^ (low+4)+((p 5).toNat*2 ^ (low+5)+0)))))=_;have e:∀i,2 ^ (low+i)=2 ^ i*2 ^ low:=λi=>by (refine aj (Nat.pow_add ..) ?_;refine aj (q9 ..) ?_;rfl)
 rw [e,e,e,e,e,e,<- jY,<- jY,<- jY,<- jY,<- jY,<- jY,Nat.add_zero,<- iS,<- iS,<- iS,<- iS,<- iS];refine congrArg (·*2 ^ low) ?_;show (p 0).toNat*1+((p 1).toNat*2+((p 2).toNat*4+((p 3).toNat*8+((p 4).toNat*16+(p 5).toNat*32))))=_;rw [Nat.mul_one,<- l5,<- l5,<- l5,<- l5]
theorem BZ{S low:Nat}(hS:S < 64)(hl:low < 28):nF (S*2 ^ low)=(eZ S).map (low+·):=by
 delta nF eZ;have h33:(33:Nat)=low+(6+(27 - low)):=by lia
 have QK:∀i,(S*2 ^ low).testBit i=(decide (low<=i) && S.testBit (i - low)):=λi=>by (refine aj (q9 ..) ?_;refine aj (NL ..) ?_;rfl)
 refine aj (h33 ..) ?_;refine aj (List.range_add ..) ?_;refine aj (List.range_add ..) ?_;refine aj (bj ..) ?_;refine aj (fX ..) ?_;refine aj (fX ..) ?_;have h1:(aN low).filter (S*2 ^ low).testBit=[]:=by refine gj (gY ..) ?_;intro i hi;refine aj (QK ..) ?_;refine aj (decide_eq_false (by have:=aY.mp hi;exact Nat.not_le.mpr (by assumption)) ..) ?_;simp
 have h3:(((aN (27 - low)).map (6+·)).map (low+·)).filter (S*2 ^ low).testBit=[]:=by refine gj (gY ..) ?_;intro i hi;refine aK (aG.mp hi) λj hj eU=>?_;subst eU;refine aK (aG.mp hj) λj' z gi=>?_;subst gi;refine aj (QK ..) ?_;refine aj (show low+(6+j') - low=6+j' by lia) ?_;have:S.testBit (6+j')=aH:=u9 (cb hS (by refine aj (show (64:Nat)=2 ^ 6 from rfl) ?_;exact e8 (by decide) (by exact dC _ _)));refine aj (this ..) ?_;simp
 refine aj (h1 ..) ?_;refine aj (h3 ..) ?_;refine aj (qg ..) ?_;refine aj (cy ..) ?_;refine aj (List.filter_map ..) ?_;congr 1;refine fz λb hb=>?_;simp only [l7];refine aj (QK ..) ?_;refine aj (show low+b - low=b by lia) ?_;simp
theorem rQ{S low:Nat}(hS:S < 64)(hl:low < 28):rO (S*2 ^ low)=iy low S:=by delta rO iy;refine aj (BZ hS hl ..) ?_;refine aj (a0 ..) ?_;rfl
theorem vP{S b:Nat}(h:b∈eZ S):b < 6:=aY.mp (bo.mp h).1
theorem B1{S:Nat}(hS:S < 64)(h0:S≠0):eZ S≠[]:=by
 have:∀S,S < 64->S≠0->eZ S≠[]:=by decide+kernel
 exact this S hS h0
theorem oP{S low:Nat}(hS:S < 64)(h0:S≠0)(hl:low < 28):Nf (iy low S) ", "=(eZ S).map λb=>cB (low+b):=by
 refine vO ?_ ?_
 ·intro h;exact B1 hS h0 (jc.mp h)
 ·intro t ht;refine aK (aG.mp ht) λb hb iC=>?_;subst iC;exact Io _ (by have:=vP hb;lia)
theorem DE:∀ts:List (List Nat),(glue ts).length<=(ts.map (·.length)).sum+2*ts.length
 |[]=>by decide
 |[t]=>by simp [glue]
 |t::u::r=>by
  have:=DE (u::r);rw [glue];simp only [ba,bK,GR,bB,da] at this ⊢;lia
theorem KJ:∀ts:List bb,(fO ", " ts).length<=(ts.map (·.length)).sum+2*ts.length
 |[]=>by show (0:Nat)<=_;exact gp _
 |t::ts=>by
  have h1:=DE ((t::ts).map (·.cps.toList));rw [<- yf] at h1;rw [a0,ak] at h1;exact h1
theorem vQ{S low:Nat}(hl:low < 28):(iy low S).length<=200:=by
 delta iy;have h1:=KJ ((eZ S).map λb=>cB (low+b));have h2:∀l:List Nat,(∀b∈l,b < 6)->((l.map λb=>cB (low+b)).map (·.length)).sum<=l.length*20:=by
  intro l;induction l with
  |nil=>intro z;simp
  |cons a l ih=>intro h;have:=ih λi hi=>h i (ab _ hi);have:=BX (low+a) (by have:=h a aa;lia);simp only [bB,da,bK];lia
 have h3:=h2 (eZ S) λb hb=>vP hb;have h4:(eZ S).length<=6:=by have:=bu S.testBit (aN 6);exact this
 rw [ak] at h1;lia
noncomputable def bD(low:Nat)(l:List Nat)(f:Nat->V):List (bb×V):=l.map λb=>(cB (low+b),f b)
theorem gb{low:Nat}{l:List Nat}{f:Nat->V}{b:Nat}(hl:low < 28)(h6:∀c∈l,c < 6)(hb:b∈l):mf (bD low l f) (cB (low+b))=ae (f b):=by
 delta mf bD;induction l with
 |nil=>exact eo hb
 |cons c l ih=>
  refine aj (bB ..) ?_;refine aj (jW ..) ?_;by_cases hc:c=b
  ·subst hc;simp
  ·have iP:cB (low+c)≠cB (low+b):=λe=>by
    have h1:=h6 c aa;have h2:=h6 b hb;have:=qA (low+c) (by lia) (low+b) (by lia) e;lia
   simp only [iP,decide_false];exact ih (λc hc=>h6 c (ab _ hc)) (by rcases aP.mp hb with h|h;exact absurd h.symm hc;exact h)
theorem FQ{low:Nat}{l:List Nat}{f:Nat->V}{b:Nat}{v:V}(hl:low < 28)(h6:∀c∈l,c < 6)(hb:b∈l):jF (bD low l f) (cB (low+b)) v=bD low l λc=>if c=b then v else f c:=by
 delta jF bD;refine aj (if_pos (by rw [CE,cS];exact ⟨b,hb,by simp⟩) ..) ?_;refine aj (a0 ..) ?_;refine b5 λc hc=>?_;simp only [l7];by_cases h:c=b
 ·subst h;simp
 ·have iP:cB (low+c)≠cB (low+b):=λe=>by
   have h1:=h6 c hc;have h2:=h6 b hb;have:=qA (low+c) (by lia) (low+b) (by lia) e;lia
  refine aj (if_neg iP ..) ?_;refine aj (if_neg h ..) ?_;rfl
theorem KL(low:Nat)(l:List Nat)(f:Nat->V):(bD low l f).length=l.length:=by exact ak ..
theorem pN{α:Type}{l:List α}{f:α->bb×V}(h:PE k mu env e (.dict (l.map f))):o8 k mu env e t [] (l.map λa=> .str (f a).1):=by
 have:=Kf (t:=t) h
 rwa [a0] at this
theorem nj{α:Type}(l:List α)(f:α->Int):(pf (l.map λa=>V.int (f a))).isSome=aJ:=by
 induction l with
 |nil=>rfl
 |cons a l ih=>show (Option.map (PyData.int (f a)::·) (pf (l.map λa=>V.int (f a)))).isSome=aJ;exact (Option.isSome_map ..).trans ih
noncomputable abbrev Cs:=List (Nat×Int)
noncomputable def FR(low:Nat)(c:Cs):V:= .dict (c.map λq=>(cB (low+q.1),V.int q.2))
structure Rw where
 a:Nat->Int
 b:Nat->Int
 c:Nat->Int
 d:Nat->Int
 cs:Nat->Cs
theorem RD:Nonempty Rw:=⟨⟨λz=>0,λz=>0,λz=>0,λz=>0,λz=>[]⟩⟩
noncomputable abbrev ro(low:Nat)(B:Rw)(b:Nat):V:= .tup [.int (B.a b),.int (B.b b),.int (B.c b),.int (B.d b),FR low (B.cs b)]
noncomputable def fT(low:Nat)(B:Rw):List (bb×V):=bD low [1,2,3,4,5] (ro low B)
noncomputable def qB(low:Nat):List (bb×V):=bD low (aN 6) λb=>nV (2 ^ (low+b))
noncomputable def oq(low:Nat)(S:Nat->Nat):List (bb×V):=bD low (aN 6) λb=> .str (iy low (S b))
noncomputable def cU(S:Nat->Nat)(cs:Nat->Cs)(j:Nat):Nat:=AJ λo=>o == j || (cs j).all λc=>(S c.1).testBit o
theorem Oj:∀S,S < 64->∀S',S' < 64->eZ S=eZ S'->S=S':=by decide+kernel
theorem Iq{low S S':Nat}(hl:low < 28)(h:S < 64/\S≠0)(h':S' < 64/\S'≠0)(e:iy low S=iy low S'):S=S':=by
 have e1:=oP h.1 h.2 hl;rw [e,oP h'.1 h'.2 hl] at e1;refine Oj S h.1 S' h'.1 ?_;have key:∀l m:List Nat,(∀b∈l,b < 6)->(∀b∈m,b < 6)->(l.map λb=>cB (low+b))=(m.map λb=>cB (low+b))->l=m:=by
  intro l;induction l with
  |nil=>intro m z z h;exact (jc.mp h.symm).symm
  |cons a l ih=>
   intro m h1 h2 h3;cases m with
   |nil=>exact JY h3
   |cons c m=>simp only [bB,GK] at h3;have ha:=h1 a aa;have hc:=h2 c aa;have:=qA (low+a) (by lia) (low+c) (by lia) h3.1;refine aj (ih m (λb hb=>h1 b (ab _ hb)) (λb hb=>h2 b (ab _ hb)) h3.2 ..) ?_;congr 1;lia
 exact key _ _ (λb hb=>vP hb) (λb hb=>vP hb) e1.symm
theorem DF(S:Nat->Nat)(cs:Nat->Cs){j:Nat}(hj:j < 6):cU S cs j≠0:=by intro h;have:=kB (λo=>o == j || (cs j).all λc=>(S c.1).testBit o) hj;unfold cU at h;rw [h] at this;simp at this
theorem vR{low S o:Nat}(hl:low < 28)(ho:o < 6):((eZ S).map λb=>cB (low+b)).any (· == cB (low+o))=S.testBit o:=by
 refine gj (cm ..) ?_;refine gj (cS ..) ?_;constructor
 ·intro dO;refine aK dO λz h1 h2=>?_;clear dO;refine aK (aG.mp h1) λb hb eU=>?_;subst eU;have h6:=vP hb;have:=qA (low+b) (by lia) (low+o) (by lia) (by simpa using h2);have hbo:b=o:=by lia
  subst hbo;exact (bo.mp hb).2
 ·intro h;exact ⟨cB (low+o),aG.mpr ⟨o,bo.mpr ⟨aY.mpr ho,h⟩,rfl⟩,by simp⟩
theorem rR{low a b:Nat}(hl:low < 28)(ha:a < 6)(hb:b < 6):(cB (low+a) == cB (low+b))=(a == b):=by
 refine gj (cm ..) ?_;simp only [beq_iff_eq];constructor
 ·intro h;have:=qA (low+a) (by lia) (low+b) (by lia) h;lia
 ·rintro rfl;rfl
theorem yh{low S:Nat}(hl:low < 28):(Builtin.Str.partsBetween (iy low S) (cZ (iy low S) ", " 0 (iy low S).length ((iy low S).length+1)) (", ":bb).length).length<=er:=by refine aj (length_partsBetween ..) ?_;have h1:=StrLaws.occ_length_le (iy low S) ", " 0 (iy low S).length ((iy low S).length+1);have h2:=vQ (S:=S) hl;show _<=2 ^ 24;lia
theorem tI{a b c d e:V}:Gi k mu (bZ (.tup [a,b,c,d,e])) (bZ (.int 4)) (bZ e):=Kp rfl (by show -((5:Nat):Int)<=4;decide) (by decide) (by show 5 < 2 ^ 62;decide)
def tJ.S0(k:Nat)(mu:Mu)(low:Nat)(T:ay)(i:Nat)(S:Nat->Nat)(B:Rw)(j:Nat):Prop:=∀(H:Hy G) (hl:low < 28) (hi:mu[i]? =ae (cD T (oq low S))) (hS:∀b,S b < 64/\S b≠0) (QL:∀b,∀c∈B.cs b,c.1 < 6) (hlen:∀b,(B.cs b).length<=1000) (hj:j∈[1,2,3,4,5]),FW (k+4) mu (.ref 302) [.dict (fT low B),.ref T,.dict (qB low),.str (cB (low+j))] λy nu=>
 (cU S B.cs j=S j/\y= .list []/\nu=mu)\/(cU S B.cs j≠S j/\y= .list (([1,2,3,4,5].filter λo=>(B.cs o).any λc=>c.1 == j).map λo=> .str (cB (low+o)))/\nu=mu.set i (cD T (oq low λb=>if b=j then cU S B.cs j else S b)))
namespace tJ
@[irreducible] def e0:=Nr eO gD eO cL eO inferInstance RD eO S0
def k_:=e0.1
def fb:=e0.2.1
def gc:=e0.2.2.1
def T_:=e0.2.2.2.1
def i_:=e0.2.2.2.2.1
def S_:=e0.2.2.2.2.2.1
def B_:=e0.2.2.2.2.2.2.1
def j_:=e0.2.2.2.2.2.2.2
theorem T0:S0 k_ fb gc T_ i_ S_ B_ j_:=by
 intro H hl hi hS QL hlen hj;refine tf H H.f302 (names:=["book","table","flags","name"]) (vals':=λL=>[ae (.dict (fT gc B_)),ae (.ref T_),ae (.dict (qB gc)),ae (.str (cB (gc+j_))),av,av]) (λpm cd doc vs h=>?_) (by decide+kernel) rfl (λpm cd doc L=>?_) (λpm cd doc L he=>?_)
 ·exact Rx h λa b c d=>rfl
 ·exact .cons (j:=0) (.cell (L+1) "book") rfl (.cons (j:=1) (.cell (L+2) "table") rfl (.cons (j:=2) (.cell (L+3) "flags") rfl (.cons (j:=3) (.cell (L+4) "name") rfl .nil)))
 have h56:∀c∈[1,2,3,4,5],c < 6:=by decide
 have CT:∀c∈aN 6,c < 6:=λc hc=>aY.mp hc;have HN:j_ < 6:=h56 j_ hj;have hbk:∀o∈[1,2,3,4,5],mf (fT gc B_) (cB (gc+o))=ae (ro gc B_ o):=λo ho=>gb hl h56 ho;have QK:∀o,o < 6->mf (oq gc S_) (cB (gc+o))=ae (.str (iy gc (S_ o))):=λo ho=>gb hl CT (aY.mpr ho);have PM:∀o,o < 6->mf (qB gc) (cB (gc+o))=ae (nV (2 ^ (gc+o))):=λo ho=>gb hl CT (aY.mpr ho);have hT:=ao hi;refine aC (bX (y:= .list ((B_.cs j_).map λc=> .list ((eZ (S_ c.1)).map λb=> .str (cB (gc+b))))) (jP _ _ _ ⟨rfl,rfl,by decide+kernel,by decide+kernel⟩ (pN (l:=B_.cs j_) (f:=λq=>(cB (gc+q.1),V.int q.2)) (bF (bF (pK (ah (j:=0) he (.cell (L+1) "book") aa rfl)) (ah (j:=3) he (.cell (L+4) "name") aa rfl) (mh (hbk j_ hj))) aU tI)) (by lia) (by have:=hlen j_;exact aw (by assumption) (by decide))
  (λC1 a ha=>iu 1 he.comp .loc dk (λhb=>bM (f7 (bF (wF (ah (j:=1) he.comp (.cell (L+2) "table") (ab _ aa) rfl) (ab _ (ab _ hT))) (ah (j:=1) he.comp .loc aa rfl) (mh (QK a.1 (QL j_ a ha)))) mK (au cO aT) (ky rfl (by have:=vQ (S:=S_ a.1) hl;show _<=2 ^ 24;exact aw (by assumption) (by decide)) (yh hl)) (by exact eM) (by exact jX) (by exact Ni) rfl)
   (by (refine aj (oP (hS a.1).1 (hS a.1).2 hl ..) ?_;refine aj (a0 ..) ?_);rfl)))) (aQ (i:=0) (j:=4) he (.cell (L+5) "words") rfl ?_) rfl rfl)
 have SQ:((((aN 6).filter λo=>o == j_ || (B_.cs j_).all λc=>(S_ c.1).testBit o).map λb=>((2 ^ (gc+b):Nat):Int)).sum)=((cU S_ B_.cs j_*2 ^ gc:Nat):Int):=by
  unfold cU;refine fZ (Ip ..) ?_;generalize (aN 6).filter _=l;induction l with
  |nil=>rfl
  |cons a l ih=>(refine aj (bB ..) ?_;refine aj (da ..) ?_;refine aj (ih ..) ?_;refine aj (bB ..) ?_;refine aj (da ..) ?_;refine aj (Int.natCast_add ..) ?_;rfl)
 have SR:cU S_ B_.cs j_ < 64:=DC _;have MU:=DF S_ B_.cs HN;have h33:cU S_ B_.cs j_*2 ^ gc < 2 ^ 33:=by
  have h1:2 ^ gc<=2 ^ 27:=e8 (by decide) (by exact CH (by assumption));have h2:=JF (show cU S_ B_.cs j_<=63 by exact CH (by assumption)) h1
  with_reducible exact b7 (by assumption) (by decide)
 have hne0:cU S_ B_.cs j_*2 ^ gc≠0:=by have:=qf gc;exact Nat.mul_ne_zero MU (by exact jJ (by assumption))
 refine cq (H.f72.go) λob TY cd' Jk h0 hd z=>?_;have MV:∀nu:Mu,FW (k_+3) nu (.ref 72) [nV (cU S_ B_.cs j_*2 ^ gc)] λy nu'=>y= .str (iy gc (cU S_ B_.cs j_))/\nu'=nu:=λnu=>by
  have:=oO (k:=k_+1) (mu:=nu) H hne0 h33
  rwa [rQ SR hl] at this
 have htest:∀o,o < 6->((o == j_) || ((((B_.cs j_).filter λc=>!((eZ (S_ c.1)).map λb=>cB (gc+b)).any (· == cB (gc+o))).map λz=>V.int 1).isEmpty || false))=(o == j_ || (B_.cs j_).all λc=>(S_ c.1).testBit o):=λo ho=>by
  congr 1;refine aj (zE ..) ?_;refine aj (List.isEmpty_map ..) ?_;refine gj (cm ..) ?_;refine gj (um ..) ?_;refine gj (gY ..) ?_;refine gj (fW ..) ?_;constructor
  ·intro h c hc;have:=h c hc;rw [vR hl ho] at this;simpa using this
  ·intro h c hc;refine aj (vR hl ho ..) ?_;refine aj (h c hc ..) ?_;decide
 refine aC (bX (y:= .str (iy gc (cU S_ B_.cs j_))) (ju (ys:=[nV (cU S_ B_.cs j_*2 ^ gc)]) (mn H he H.m_flags rfl) h0 hd (au (bM (ek (j4 H he H.b_sum rfl) (au (dD (nE (aN 6) (λb=>V.str (cB (gc+b))) (λo=>o == j_ || (B_.cs j_).all λc=>(S_ c.1).testBit o) (λb=>V.int ((2 ^ (gc+b):Nat):Int)) ⟨rfl,rfl,by decide+kernel,by decide+kernel⟩ (pN (l:=aN 6) (f:=λb=>(cB (gc+b),nV (2 ^ (gc+b)))) (ah (j:=2) he (.cell (L+3) "flags") aa rfl)) (by lia) (by decide)
  (λC2 a ha=>by
   have PN:=aY.mp ha;refine fZ (htest a PN ..) ?_;refine iu 1 he.comp (.cell (C2+1) "other") (fS (oK (iM ?_ (λh=>(iM (c9 (nE (B_.cs j_) (λc=>V.list ((eZ (S_ c.1)).map λb=> .str (cB (gc+b)))) (λc=>!((eZ (S_ c.1)).map λb=>cB (gc+b)).any (· == cB (gc+a))) (λz=>V.int 1) ⟨rfl,rfl,by decide+kernel,by decide+kernel⟩ (dA (ah (j:=4) he.comp (.cell (L+5) "words") (ab _ aa) rfl)) (by lia) (by have:=hlen j_;exact aw (by assumption) (by decide)) (λC3 c hc=>iu 1 he.comp.comp .loc (fS (c9 (ah (j:=1) he.comp.comp (.cell (C2+1) "other") (ab _ aa) rfl) (dD (bM (ah (j:=1) he.comp.comp .loc aa rfl) (by refine aj (a0 ..) ?_;rfl))) BN)) (λhb=>aU))) (ij (xs:=[]) aT (bg rfl)) (FG (nj _ _))) (λh=>jn)))))) (λhb=>bF (pK (ah (j:=2) he.comp (.cell (L+3) "flags") (ab _ aa) rfl)) (ah (j:=1) he.comp (.cell (C2+1) "other") aa rfl) (mh (PM a PN)));refine fZ (rR hl PN HN ..) ?_;exact c9 (ah (j:=1) he.comp (.cell (C2+1) "other") aa rfl) (ah (j:=3) he.comp (.cell (L+4) "name") (ab _ aa) rfl) rA))) aT) uK) (congrArg V.int SQ)) aT) (MV _)) (aQ (i:=0) (j:=5) he .loc rfl ?_) rfl rfl)
 refine aC (iY (c9 (ah (j:=5) he .loc aa rfl) (bF (wF (ah (j:=1) he (.cell (L+2) "table") aa rfl) (ab _ hT)) (ah (j:=3) he (.cell (L+4) "name") aa rfl) (mh (QK j_ HN))) rA) (λh=>?_) λh=>?_)
 ·have h2:cU S_ B_.cs j_=S_ j_:=Iq hl ⟨SR,MU⟩ (hS j_) (by simpa using h);exact aC (gw (cf (ij (xs:=[]) aT (bg rfl)) (ki (.inl ⟨h2,rfl,rfl⟩))))
 ·have h2:cU S_ B_.cs j_≠S_ j_:=λe=>by rw [e] at h;simp at h
  refine bC ?_;refine aC (qz (i:=i_+1) (ah (j:=5) he .loc aa rfl) (ah (j:=1) he (.cell (L+2) "table") aa rfl) (ah (j:=3) he (.cell (L+4) "name") aa rfl) (es:=oq gc S_) hi (by show (oq gc S_).length<=2 ^ 24;unfold oq;refine aj (KL ..) ?_;decide) ?_);have SS:jF (oq gc S_) (cB (gc+j_)) (.str (iy gc (cU S_ B_.cs j_)))=oq gc λb=>if b=j_ then cU S_ B_.cs j_ else S_ b:=by unfold oq;refine aj (FQ hl CT (aY.mpr HN) ..) ?_;unfold bD;refine b5 λc hc=>?_;by_cases hcj:c=j_ <;> simp [hcj]
  refine aj (SS ..) ?_;refine aC (gw (cf (nE [1,2,3,4,5] (λb=>V.str (cB (gc+b))) (λo=>(B_.cs o).any λc=>c.1 == j_) (λo=>V.str (cB (gc+o))) ⟨rfl,rfl,by decide+kernel,by decide+kernel⟩ (pN (l:=[1,2,3,4,5]) (f:=λb=>(cB (gc+b),ro gc B_ b)) (ah (j:=0) he (.cell (L+1) "book") aa rfl)) (by lia) (by decide) (λC4 a ha=>?_)) (ki (.inr ⟨h2,rfl,rfl⟩))));have hhas:(mf ((B_.cs a).map λq=>(cB (gc+q.1),V.int q.2)) (cB (gc+j_))).isSome=(B_.cs a).any λc=>c.1 == j_:=by
   refine gj (cm ..) ?_;unfold mf;refine aj (Option.isSome_map ..) ?_;refine gj (List.find?_isSome ..) ?_;refine gj (cS ..) ?_;constructor
   ·intro gi;refine aK gi λq hq PP=>?_;clear gi;refine aK (aG.mp hq) λc hc iC=>?_;subst iC;refine ⟨c,hc,?_⟩;refine fZ (rR hl (QL a c hc) HN ..) ?_;exact PP
   ·intro kG;refine aK kG λc hc hc2=>?_;clear kG;refine ⟨_,aG.mpr ⟨c,hc,rfl⟩,?_⟩;rw [<- rR hl (QL a c hc) HN] at hc2;exact hc2
  refine fZ (hhas ..) ?_;exact iu 1 he.comp .loc (fS (c9 (ah (j:=3) he.comp (.cell (L+4) "name") (ab _ aa) rfl) (pK (bF (bF (pK (ah (j:=0) he.comp (.cell (L+1) "book") (ab _ aa) rfl)) (ah (j:=1) he.comp .loc aa rfl) (mh (hbk a ha))) aU tI)) Kw)) (λhb=>ah (j:=1) he.comp .loc aa rfl)
end tJ
theorem tJ{low:Nat}{T:ay}{i:Nat}{S:Nat->Nat}{B:Rw}{j:Nat}:tJ.S0 k mu low T i S B j:=by with_unfolding_all exact Bx _ _ _ _ _ _ _ _ tJ.S0 @tJ.T0 k mu low T i S B j
variable {K:fl}
structure FS(G:Gd)(K:fl):Prop where
 inn:∀h:dG,(∀a o,G.Z0 a=ae o->h.get? a=ae o)->K.In h
noncomputable def gM(Z:bI):List gA->List (bb×V)->Prop
 |[],[]=>True
 |e::es,q::fs=>(∃t,e.key= .str q.1 t)/\aZ G Z e.val q.2/\gM Z es fs
 |_,_=>False
@[elab_as_elim] theorem gM.ind{Z:bI}{P:List gA->List (bb×V)->Prop}{es:List gA}{fs:List (bb×V)}(h:gM Z es fs)(nil:P [] [])
 (cons:∀{e es q fs},e.refKey=aH->(∃t,e.key= .str q.1 t)->aZ G Z e.val q.2->P es fs->P (e::es) (q::fs)):P es fs:=by
 induction es generalizing fs with
 |nil=>cases fs with
  |nil=>exact nil
  |cons=>exact h.elim
 |cons e es ih=>cases fs with
  |nil=>exact h.elim
  |cons q fs=>exact cons (h.1.elim λt w=>by unfold DictEntry.refKey;(refine aj (w ..) ?_;rfl)) h.1 h.2.1 (ih h.2.2)
theorem gM.mono{Z Z':bI}(hz:Z.le Z'){es:List gA}{fs:List (bb×V)}(h:gM Z es fs):gM Z' es fs:=h.ind trivial λ{z z z z} z k v r=>⟨k,v.mono hz,r⟩
noncomputable def gH(x C dx:ay)(fs:List (bb×V)):cX where
 own:=[x,dx]
 sat:=λZ h=>h.get? x=ae (Ad C dx)/\∃es n,h.get? dx=ae (i3 es n)/\gM Z es fs
 mono:=λZ Z' h hz w=>⟨w.1,w.2.imp λz=>bQ λz u=>⟨u.1,u.2.mono hz⟩⟩
 loc:=λZ h h' w hk z z=>⟨hk x aa _ w.1,w.2.imp λz=>bQ λz u=>⟨hk dx (ab _ aa) _ u.1,u.2⟩⟩
 live:=λZ h w y hy=>(aP.mp hy).elim (λe=>⟨_,e▸w.1⟩) λe=>w.2.elim λz u=>u.elim λz u=>⟨_,aA.mp e▸u.1⟩
noncomputable def zQ:List (bb×V)->bb->V->List (bb×V)
 |[],x,y=>[(x,y)]
 |q::fs,x,y=>if q.1=x then (x,y)::fs else q::zQ fs x y
theorem AK{e:gA}{x name:bb}(h:∃t,e.key= .str x t):e.key.isStr name=decide (x=name):=by obtain ⟨t,h⟩:=h;refine aj (h ..) ?_;show (x == name)=_;exact cm.mpr (beq_iff_eq.trans decide_eq_true_iff.symm)
section
variable {name:bb}{es:List gA}{fs:List (bb×V)}
theorem AL{e:gA}{x:bb}(hr:e.refKey=aH)(hk:∃t,e.key= .str x t):getL name (e::es)=if x=name then ae (ae e.val) else getL name es:=by
 unfold getL;refine aj (jW ..) ?_;refine aj (AK hk ..) ?_;refine aj (zF ..) ?_;refine aj (hr ..) ?_;refine aj (Bool.false_or ..) ?_;by_cases hx:x=name
 ·(refine aj (decide_eq_true hx ..) ?_;refine aj (if_pos hx ..) ?_;rfl)
 ·(refine aj (decide_eq_false hx ..) ?_;refine aj (if_neg hx ..) ?_;rfl)
theorem gM.none(h:gM Z es fs):name∉fs.map (·.1)->getL name es=ae av:=
 h.ind (λz=>rfl) λ{e es q fs} hr hk z ih hn=>by
  refine aj (AL hr hk ..) ?_;refine aj (if_neg λw:q.1=name=>hn (w▸aa) ..) ?_;exact ih λhm=>hn (ab _ hm)
theorem gM.some(h:gM Z es fs):(fs.map (·.1)).Nodup->(name,y)∈fs->∃v,getL name es=ae (ae v)/\aZ G Z v y:=
 h.ind (λz hm=>eo hm) λ{e es q fs} hr hk hv ih hnd hm=>by
  rw [bB,cj] at hnd;refine aj (AL hr hk ..) ?_;by_cases hq:q.1=name
  ·refine aj (if_pos hq ..) ?_;rcases aP.mp hm with rfl|hm
   ·exact ⟨e.val,rfl,hv⟩
   ·exact absurd (aG.mpr ⟨_,hm,hq.symm⟩) hnd.1
  ·refine aj (if_neg hq ..) ?_;rcases aP.mp hm with rfl|hm
   ·exact absurd rfl hq
   ·exact ih hnd.2 hm
theorem gM.put{v:ai}{vg:Int}{tk:HR}(hv:aZ G Z v y)(h:gM Z es fs):gM Z (putL name vg (.str name tk) v es) (zQ fs name y):=by
 have:=(h.ind (P:=λes fs=>gM Z es fs/\gM Z (putL name vg (.str name tk) v es) (zQ fs name y)) ⟨trivial,⟨tk,rfl⟩,hv,trivial⟩ λ{e es q fs} hr hk GD ih=>?_).2
 ·exact this
 ·refine ⟨⟨hk,GD,ih.1⟩,?_⟩;unfold putL zQ;refine aj (AK hk ..) ?_;by_cases hq:q.1=name
  ·(refine aj (decide_eq_true hq ..) ?_;refine aj (if_pos rfl ..) ?_;refine aj (if_pos hq ..) ?_)
   exact ⟨hq▸hk,hv,ih.1⟩
  ·(refine aj (decide_eq_false hq ..) ?_;refine aj (if_neg cF ..) ?_;refine aj (if_neg hq ..) ?_)
   exact ⟨hk,GD,ih.2⟩
theorem gM.len(h:gM Z es fs):es.length=fs.length:=h.ind rfl λ{z z z z} z z z ih=>congrArg xj ih
theorem gM.noRef(h:gM Z es fs):es.any (·.refKey)=aH:=h.ind rfl λ{z z z z} hr z z ih=>by (refine aj (zF ..) ?_;refine aj (hr ..) ?_;refine aj (ih ..) ?_);rfl
end
section
variable {apos:jB}{x C dx f:ay}{fs:List (bb×V)}{name:bb}
theorem xD(r:R Z mu s)(hm:gH x C dx fs∈mu):∃es n,InstAt s.heap x (Ad C dx) C (ae (i3 es n))/\s.heap.get? dx=ae (i3 es n)/\gM Z es fs:=by exact uz (r.sat _ hm) λa es n b c=>⟨es,n,⟨a,rfl,rfl,b⟩,b,c⟩
theorem m7{v:ai}(h:aZ G Z v y)(hy:∀n,y≠ .bi n):handedIn v=aJ:=by cases v <;> first|rfl|(cases h;exact absurd rfl (hy _))
theorem DG{cd:ClassData}{es:List gA}{n:Nat}{v:ai}(hcd:clsIn K C=ae cd)(h2:fH K (.ref C) name=ae av)(EP:cd.hasDict=aJ)(hv:getL name es=ae (ae v)):findObj K C (ae (i3 es n)) name=ae (.value v):=by delta findObj;refine aj (hcd ..) ?_;refine aj (h2 ..) ?_;show (W.ownOf cd (ae (i3 es n)) name).bind _=_;refine aj (show W.ownOf cd (ae (i3 es n)) name=ae (ae v) from (if_pos EP).trans ((QS ..).trans hv)) ?_;rfl
theorem Hj{A:bh}{E Q:ai->aq->Prop}{b:Bool}(KO:FS G K)(hp:eT K C name=aJ)(r:R Z mu s)(hm:gH x C dx fs∈mu)(hnd:(fs.map (·.1)).Nodup)(hq:(name,y)∈fs)(hy:∀n,y≠ .bi n)
 (q:∀{v tk},aZ G Z v y->R Z mu {s with toks:=tk}->Q v {s with toks:=tk}):aS (aX G.prog G.w) A (sZ (.ref x) name b) Q E s:=by
 refine cC (xD r hm) λes n I z he=>aK (he.some hnd hq) λv hv hr=>dU (cn.mp hp) λSU h3=>dU (cn.mp SU) λh1 h2=>aK (any_some h1) λcd hcd EP=>get_value (KO.inn _ r.z0in) I (jE h3) ?_ (m7 hr hy) (q hr r.toks);exact DG hcd (jE h2) EP hv
theorem oQ(KO:FS G K)(hp:eT K C name=aJ)(ho:PE k mu env o (.ref x))(hm:gH x C dx fs∈mu)(hnd:(fs.map (·.1)).Nodup)(hq:(name,y)∈fs)(hy:∀n,y≠ .bi n)
 (he:autoParam (dW (.Attribute o name p) env=(do let ov <- dW o env;iE p.atName;let r <- eW [ov] (sZ ov name aJ);pD o ov r;dg r)) aR):PE k mu env (.Attribute o name p) y:=⟨λ{A E Z s fr Q} hA r q=>by
 refine gZ ?_ he;refine ho.c hA r λ{ov s1 Z1} z1 q1 r1=>aj (aZ.refE q1 ..) ?_;exact Hj KO hp r1 (aE fr hm) hnd hq hy λ{z z} hr r2=>q z1 hr r2⟩
theorem yi{A:bh}{E:ai->aq->Prop}{Q:ai×List ai->aq->Prop}{pl:oZ Bool}(KO:FS G K)(hp:jm K C f name=aJ)(r:R Z mu s)(hm:gH x C dx fs∈mu)(hn:name∉fs.map (·.1))(h:Q (.ref f,[.ref x]) s):aS (aX G.prog G.w) A (mB (.ref x) name pl) Q E s:=by exact cC (xD r hm) λes n I z he=>dU (cn.mp hp) λSV h4=>dU (cn.mp SV) λSU h3=>dU (cn.mp SU) λh1 h2=>method_fn (KO.inn _ r.z0in) I (jE h1) (jE h2) (jE h3) (jE h4) (by show (lookIn name (i3 es n)).map (·.isSome)=ae aH;(refine aj (QS ..) ?_;refine aj (he.none hn ..) ?_);rfl) h
theorem pO{ob:oY}{fd:cg}{pl:oZ Bool}(KO:FS G K)(hp:jm K C f name=aJ)(ho:PE k mu env o (.ref x))(hm:gH x C dx fs∈mu)(hn:name∉fs.map (·.1))(h0:G.Z0 f=ae ob)(hd:ob.data= .func fd)
 (hF:FW k mu (.ref f) [.ref x] Φ)
 (he:autoParam (dW (.Call (.Attribute o name apos) [] [] pos) env=(do let ov <- dW o env;iE apos.atName;let (f,first) <- eW [ov] (mB ov name pl);pC pos f first (lj pos (fo [] env)) [])) aR):
 WE k mu env (.Call (.Attribute o name apos) [] [] pos) Φ:=⟨λ{A E Z s fr Q} hA r q=>by
 refine i5 (pl:=pl) ?_ he;refine ho.c hA r λ{ov s1 Z1} z1 q1 r1=>aj (aZ.refE q1 ..) ?_;refine yi KO hp r1 (aE fr hm) hn ?_;refine callWith_function (o:=ob) (fd:=fd) ?_;exact Ut ⟨⟨r1.z0in _ _ h0,hd⟩,hF.c hA r1 (.cons (.ref x) .nil) λ{z z z z z} z3=>q (z1.trans z3)⟩⟩
theorem B3{a:bH}{rest:List bH}{ob:oY}{fd:cg}{pl:oZ Bool}(KO:FS G K)(hp:jm K C f name=aJ)(ho:PE k mu env o (.ref x))(hm:gH x C dx fs∈mu)(hn:name∉fs.map (·.1))(h0:G.Z0 f=ae ob)(hd:ob.data= .func fd)
 (ha:Dq k mu env (a::rest) λys nu=>FW k nu (.ref f) (.ref x::ys) Φ) (wo:autoParam (kh (a::rest)=aJ) aR)
 (he:autoParam (dW (.Call (.Attribute o name apos) (a::rest) [] pos) env=(do let ov <- dW o env;iE apos.atName;let (f,first) <- eW [ov] (mB ov name pl);pC pos f first (lj pos (fo (a::rest) env)) [])) aR):
 WE k mu env (.Call (.Attribute o name apos) (a::rest) [] pos) Φ:=⟨λ{A E Z s fr Q} hA r q=>by
 refine i5 (pl:=pl) ?_ he;refine ho.c hA r λ{ov s1 Z1} z1 q1 r1=>aj (aZ.refE q1 ..) (yi KO hp r1 (aE fr hm) hn ?_);exact G9 (ob:=ob) (fd:=fd) ha wo hA r1 λ{z z z z z} z2 q2 r2 w2=>⟨⟨r2.z0in _ _ h0,hd⟩,w2.c hA r2 (.cons (.ref x) q2) λ{z z z z z} z3=>q (z1.trans (z2.trans z3))⟩⟩
theorem KM(name:bb)(vg:Int)(key v:ai)(l:List gA):(putL name vg key v l).length<=l.length+1:=by
 induction l with
 |nil=>exact bp _
 |cons a l ih=>
  unfold putL
  split
  ·exact jD _
  ·exact E0 ih
def qC.S0(x C dx:ay)(name:bb)(s:aq)(A:bh)(Rr:wz->aq->Prop)(v:ai)(de:List gA)(_:Nat):Prop:=∀{K:fl} {tk:HR} {n:Nat} (X:K.In s.heap) (I:InstAt s.heap x (Ad C dx) C (ae (i3 de n))) (D:s.heap.get? dx=ae (i3 de n)) (h2:plainOver K C=aJ) (h3:takerIn K C name=ae av) (h4:(clsIn K C).any (·.hasDict)=aJ) (hr:(de.any (·.refKey))=aH) (hz:de.length<=500) (h:∀(vg:Int) nx,Rr (.ok (.ret .none)) {s with heap:=s.heap.update dx (oj name vg (.str name nx) v),toks:=s.toks+1}),iV (aX G.prog G.w) A (.call (.builtin "object.__setattr__") ⟨[.ref x,.str name tk,v],[]⟩) Rr s
namespace qC
@[irreducible] def e0:=zI cL cL cL inferInstance zJ Fq s7 gL gD eO S0
def x_:=e0.1
def C_:=e0.2.1
def dx_:=e0.2.2.1
def iz:=e0.2.2.2.1
def s_:=e0.2.2.2.2.1
def A_:=e0.2.2.2.2.2.1
def Rr_:=e0.2.2.2.2.2.2.1
def v_:=e0.2.2.2.2.2.2.2.1
def Ol:=e0.2.2.2.2.2.2.2.2.1
theorem T0:S0 x_ C_ dx_ iz s_ A_ Rr_ v_ Ol e0.2.2.2.2.2.2.2.2.2:=by
 intro K tk n X I D h2 h3 h4 hr hz h;refine osa_open X I h2 h3 λb=>aK (any_some h4) λcd hc hd'=>?_;have hx:=I.at_;refine ag (ar (ag (ag (pH hx (ag ((looks_clsIn X hc).here ?_))))));refine aj (hd' ..) (ar (a:=ae dx_) (ag (ar (ag ?_))));unfold nsSet;refine ag (ag (gC (ar (ag (JG (ag (pH D ?_)))))));show aS _ _ (if sR iz Ol.toArray=aJ then _ else _) _ _ _;have c:sR iz Ol.toArray=aH:=by refine aj (aRefKeyMayBeTheName_at ..) ?_;refine fZ (uo ..) ?_;refine fZ (uo ..) ?_;show (_ && Ol.any (·.refKey))=aH;refine aj (hr ..) ?_;refine aj (kN ..) ?_;rfl
 refine aj (c ..) ?_;refine aj (if_neg (by decide) ..) ?_;refine wpAny_updatePart D ?_;have hm:∀vg nx,oj iz vg (.str iz nx) v_ (i3 Ol n)=i3 (putL iz vg (.str iz nx) v_ Ol) (putN iz Ol n):=λvg nx=>mR ..;refine ag (wpAny_lookBehind (o:=i3 (putL iz _ (.str iz _) v_ Ol) (putN iz Ol n)) ((bS _ D (by refine aj (hm ..) ?_;rfl)).trans (congrArg ae (hm _ _))) (pastItsLine_dict ?_) ?_)
 ·exact aj (sS ..) (aw (KM ..) (E0 (aw hz (show 500<=2 ^ 24 by decide))))
 ·exact ar (h _ _)
end qC
theorem qC{A:bh}{Rr:wz->aq->Prop}{v:ai}{de:List gA}:qC.S0 x C dx name s A Rr v de 0:=by with_unfolding_all exact uB _ _ _ _ _ _ _ _ _ _ qC.S0 @qC.T0 x C dx name s A Rr v de 0
theorem wM{A:bh}{E:ai->aq->Prop}{Q:Unit->aq->Prop}{v:ai}(KO:FS G K)(hp:fh K C name=aJ)(r:R Z mu s)(hi:mu[i]? =ae (gH x C dx fs))(hl:fs.length<=500)(hv:aZ G Z v y)
 (h:∀s',R Z (mu.set i (gH x C dx (zQ fs name y))) s'->Q () s'):aS (aX G.prog G.w) A (setAttr (.ref x) name v) Q E s:=by
 refine cC (xD r (ao hi)) λde n I D he=>?_;have hx:=I.at_;refine dU (cn.mp hp) λSV h4=>dU (cn.mp SV) λSU h3=>dU (cn.mp SU) λh1 h2=>set_plain (KO.inn _ r.z0in) I (jE h1) ?_;have iP:x≠dx:=by exact λe=>(cj.mp (r.ownNodup hi)).1 (aA.mpr e)
 refine qC (s:={s with toks:=s.toks+1}) (KO.inn _ r.z0in) I D h2 (jE h3) h4 he.noRef (he.len▸hl) λvg nx=>h _ ?_;have hs:=bY s.heap dx (oj name vg (.str name nx) v);refine r.upd' (x':=gH x C dx (zQ fs name y)) hi rfl (λb o hb e=>hs.extBut b o (λq=>hb (q▸ab _ aa)) e) ⟨hs.extBut _ _ iP hx,_,_,(bS _ D (by refine aj (mR ..) ?_;rfl)).trans (congrArg ae (mR ..)),he.put hv⟩
theorem rS(KO:FS G K)(hp:fh K C name=aJ)(ho:PE k mu env o (.ref x))(hi:mu[i]? =ae (gH x C dx fs))(hl:fs.length<=500){Ψ:Mu->Prop}(h:Ψ (mu.set i (gH x C dx (zQ fs name y))))
 (he:autoParam (∀v,wu (.Attribute o name p) env v=(do let ov <- eW [v] (dW o env);iE p.atName;eW [v,ov] (setAttr ov name v);release [v,ov] [])) aR):mJ k mu env (.Attribute o name p) y Ψ:=⟨λ{A E Z s fr v Q} hA r hv q=>by
 refine aj (he ..) ?_;refine ag (bE (ho.c hA r λ{ov s1 Z1} z1 q1 r1=>?_));refine aj (aZ.refE q1 ..) ?_;exact ag (iH (ag (bE (wM KO hp r1 (cG hi) hl (hv.mono z1) λs' r'=>wpAny_release (q z1 (gE hi▸r') h)))))⟩
end
section
variable {v:bH}{Ψ:AF->Mu->Prop}{y':V}
structure nG(G:Gd)(a:ay)(st:ed)(qual:bb):Prop where
 go:∃ob pm cd doc,G.Z0 a=ae ob/\ob.data= .func (Ar st qual pm cd doc)/\∀h:dG,(∀a o,G.Z0 a=ae o->h.get? a=ae o)->h.CodeRec cd qual
theorem DH(H:Hy G){a:ay}{st:ed}{qual:bb}(F:nG G a st qual){names:List bb}{vals':ay->d9}
 (i0:∀pm cd doc vs,vs.length=xs.length->pG (Ar st qual pm cd doc) ⟨vs,[]⟩=dg (names.zip vs)) (hnd:(aM 0 (bk st).names).nd) (hk:(bk st).kind= .function)
 (hb:∀pm cd doc L,i9 (dT (Ar st qual pm cd doc) a L) L (aM (L+1) (bk st).names) names xs (nones (aM (L+1) (bk st).names)) (vals' L))
 (h:∀pm cd doc L,du (dT (Ar st qual pm cd doc) a L)->WS k (bq L (aM (L+1) (bk st).names) (vals' L)::mu) (dT (Ar st qual pm cd doc) a L) (fR st) (lE Φ)) (wm:autoParam ((bk st).isCoroutine=aH) aR) (mP:autoParam ((bk st).isGenerator=aH) aR):
 FW (k+1) mu (.ref a) xs Φ:=by
 exact cq (F.go) λob pm cd doc h0 hd hcd=>Kx H.B (names:=names) (vals':=vals') (Kn.z0 h0) hd (λZ s r=>hcd _ r.z0in) rfl (i0 pm cd doc) hnd (λL=>⟨hk,rfl,rfl⟩) (hb pm cd doc) (λL=>h pm cd doc L ⟨hk,rfl,rfl⟩) wm mP
theorem Om{lx C dx:ay}{fs:List (bb×V)}{name:bb}(KO:FS G K)(hp:eT K C name=aJ)(hs:fh K C name=aJ)(ho:PE k mu env o (.ref lx))(hi:mu[i]? =ae (gH lx C dx fs))(hnd:(fs.map (·.1)).Nodup)(hq:(name,y)∈fs)(hy:∀n,y≠ .bi n)(hl:fs.length<=500)
 (hv:EV k mu env v P) (hop:Nv k mu op (bZ y) P (bZ y')) (h:Ψ .next (mu.set i (gH lx C dx (zQ fs name y')))):WX k mu env (.AugAssign (.Attribute o name p) op v pos) Ψ:=⟨λ{A E Z s fr Q} hA r q=>by
 refine wpAny_AugAssign_AttributeAny ?_;refine ho.c hA r λ{ov s1 Z1} z1 q1 r1=>aj (aZ.refE q1 ..) ?_;exact Hj KO hp r1 (aE fr (ao hi)) hnd hq hy λ{z z} hr r2=>hv.c hA r2 λ{z z z} z2 q2 r2=>hop.c hA r2 (hr.mono z2) q2 λ{z z z} z3 q3 r3=>wM KO hs r3 (cG hi) hl q3 λs' r'=>q (z1.trans (z2.trans z3)) .next (gE hi▸r') h⟩
def fM(G:Gd)(K:fl):Prop:=
 (FS G K)/\
 (eT K 217 "pushback"=aJ)/\
 (eT K 217 "lineno"=aJ)/\
 (eT K 217 "instream"=aJ)/\
 (eT K 217 "whitespace"=aJ)/\
 (fh K 217 "pushback"=aJ)/\
 (fh K 217 "lineno"=aJ)/\
 (fh K 217 "instream"=aJ)/\
 (fh K 217 "whitespace"=aJ)/\
 (jm K 217 200 "_read_char"=aJ)/\
 (jm K 217 207 "get_token"=aJ)/\
 (jm K 217 214 "push_token"=aJ)/\
 (nG G 193 (jl 10 0) "_netrclex.__init__")/\
 (nG G 200 (jl 10 1) "_netrclex._read_char")/\
 (nG G 207 (jl 10 2) "_netrclex.get_token")/\
 (nG G 214 (jl 10 3) "_netrclex.push_token")/\
 (eT K 245 "comp_select_list"=aJ)/\
 (fh K 245 "comp_select_list"=aJ)/\
 (jm K 245 242 "compare"=aJ)/\
 (nG G 235 (jl 12 1) "TupleComp.__init__")/\
 nG G 242 (jl 12 2) "TupleComp.compare"
section
variable {G:Gd}(h:fM G K)
def fM.KO:=@h.1
def fM.p_push:=@h.2.1
def fM.p_line:=@h.2.2.1
def fM.p_in:=@h.2.2.2.1
def fM.p_ws:=@h.2.2.2.2.1
def fM.s_push:=@h.2.2.2.2.2.1
def fM.s_line:=@h.2.2.2.2.2.2.1
def fM.s_in:=@h.2.2.2.2.2.2.2.1
def fM.s_ws:=@h.2.2.2.2.2.2.2.2.1
def fM.m_read:=@h.2.2.2.2.2.2.2.2.2.1
def fM.m_get:=@h.2.2.2.2.2.2.2.2.2.2.1
def fM.m_put:=@h.2.2.2.2.2.2.2.2.2.2.2.1
def fM.f193:=@h.2.2.2.2.2.2.2.2.2.2.2.2.1
def fM.f200:=@h.2.2.2.2.2.2.2.2.2.2.2.2.2.1
def fM.f207:=@h.2.2.2.2.2.2.2.2.2.2.2.2.2.2.1
def fM.f214:=@h.2.2.2.2.2.2.2.2.2.2.2.2.2.2.2.1
def fM.p_comp:=@h.2.2.2.2.2.2.2.2.2.2.2.2.2.2.2.2.1
def fM.s_comp:=@h.2.2.2.2.2.2.2.2.2.2.2.2.2.2.2.2.2.1
def fM.m_comp:=@h.2.2.2.2.2.2.2.2.2.2.2.2.2.2.2.2.2.2.1
def fM.f235:=@h.2.2.2.2.2.2.2.2.2.2.2.2.2.2.2.2.2.2.2.1
def fM.f242:=@h.2.2.2.2.2.2.2.2.2.2.2.2.2.2.2.2.2.2.2.2
end
theorem RF(H:Hy G)(LH:fM G K){lx dx pb:ay}{fs:List (bb×V)}(hm:gH lx 217 dx fs∈mu)(hnd:(fs.map (·.1)).Nodup)(hq:(("pushback":bb),V.ref pb)∈fs)(hi:mu[i]? =ae (bl pb xs))(hl:xs.length < 2 ^ 20):
 FW (k+2) mu (.ref 214) [.ref lx,y] λr nu=>r= .none/\nu=mu.set i (bl pb (xs++[y])):=by
 refine DH H LH.f214 (names:=["self","token"]) (vals':=λL=>[ae (.ref lx),ae y]) (λpm cd doc vs h=>?_) (by decide+kernel) rfl (λpm cd doc L=>?_) (λpm cd doc L he=>?_)
 ·exact zP h λa b=>rfl
 ·exact .cons (j:=0) .loc rfl (.cons (j:=1) .loc rfl .nil)
 refine aC (ig (mY (oQ LH.KO LH.p_push (ah (j:=0) he .loc aa rfl) (ab _ hm) hnd hq (λn e=>by cases e)) (j5 (xs:=xs) (ab _ (ao hi))) (au (ah (j:=1) he .loc aa rfl) aT) (kA (i:=i+1) hi (by exact cb (by assumption) (by decide)) ?_) (by exact fP) (by exact iT) (by exact iU) rfl));exact bC (jK.tail (jK.keep ⟨rfl,rfl⟩))
end
variable {z z':V}
noncomputable def DI:V:= .list [.tup [.int 0,.int (-1)],.tup [.int 1,.int (-2)],.tup [.int 2,.int (-3)]]
noncomputable def vS(a b:Nat->Int):Int:=if a 0 < b 0 then 1 else if b 0 < a 0 then -1 else if a 1 < b 1 then 2 else if b 1 < a 1 then -2 else if a 2 < b 2 then 3 else if b 2 < a 2 then -3 else 0
theorem On{a b:Nat->Int}{i:Nat}(h3:i < 3)(heq:∀c,c < i->a c=b c)(d:Int):(a i < b i->d=1+(i:Nat)->d=vS a b)/\(b i < a i->d= -1 - (i:Nat)->d=vS a b):=by
 refine TK (P:=λi=>(∀c,c < i->a c=b c)->(a i < b i->d=1+(i:Nat)->d=vS a b)/\(b i < a i->d= -1 - (i:Nat)->d=vS a b)) h3 (λheq=>?_) (λheq=>?_) (λheq=>?_) heq
 ·unfold vS;exact ⟨λh e=>by refine aj (if_pos h ..) ?_;lia,λh e=>by (refine aj (if_neg (by lia) ..) ?_;refine aj (if_pos h ..) ?_);lia⟩
 ·unfold vS;have h0:=heq 0 (by decide);exact ⟨λh e=>by (refine aj (if_neg (by lia) ..) ?_;refine aj (if_neg (by lia) ..) ?_;refine aj (if_pos h ..) ?_);lia,λh e=>by (refine aj (if_neg (by lia) ..) ?_;refine aj (if_neg (by lia) ..) ?_;refine aj (if_neg (by lia) ..) ?_;refine aj (if_pos h ..) ?_);lia⟩
 ·unfold vS;have h0:=heq 0 (by decide);have h1:=heq 1 (by decide);exact ⟨λh e=>by (refine aj (if_neg (by lia) ..) ?_;refine aj (if_neg (by lia) ..) ?_;refine aj (if_neg (by lia) ..) ?_;refine aj (if_neg (by lia) ..) ?_;refine aj (if_pos h ..) ?_);lia,λh e=>by (refine aj (if_neg (by lia) ..) ?_;refine aj (if_neg (by lia) ..) ?_;refine aj (if_neg (by lia) ..) ?_;refine aj (if_neg (by lia) ..) ?_;refine aj (if_neg (by lia) ..) ?_;refine aj (if_pos h ..) ?_);lia⟩
def lJ.S0(k:Nat)(mu:Mu)(z z':V)(cx:ay)(a b:Nat->Int)(_:Nat):Prop:=∀{K:fl} {dx:ay} {fs:List (bb×V)} (H:Hy G) (LH:fM G K) (hm:gH cx 245 dx fs∈mu) (hnd:(fs.map (·.1)).Nodup) (hq:(("comp_select_list":bb),DI)∈fs),FW (k+2) mu (.ref 242) [.ref cx,.tup [.int (a 0),.int (a 1),.int (a 2),z],.tup [.int (b 0),.int (b 1),.int (b 2),z']] λr nu=>r= .int (vS a b)/\nu=mu
namespace lJ
@[irreducible] def e0:=Nr eO gD neV neV cL inferInstance inferInstance eO S0
def k_:=e0.1
def fb:=e0.2.1
def z_:=e0.2.2.1
def z'_:=e0.2.2.2.1
def vT:=e0.2.2.2.2.1
def a_:=e0.2.2.2.2.2.1
def b_:=e0.2.2.2.2.2.2.1
theorem T0:S0 k_ fb z_ z'_ vT a_ b_ e0.2.2.2.2.2.2.2:=by
 intro K dx fs H LH hm hnd hq;refine DH H LH.f242 (names:=["self","left","right"]) (vals':=λL=>[ae (.ref vT),ae (.tup [.int (a_ 0),.int (a_ 1),.int (a_ 2),z_]),ae (.tup [.int (b_ 0),.int (b_ 1),.int (b_ 2),z'_]),av,av,av,av]) (λpm cd doc vs h=>?_) (by decide+kernel) rfl (λpm cd doc L=>?_) (λpm cd doc L he=>?_)
 ·exact Oe h λa_ b_ c=>rfl
 ·exact .cons (j:=0) .loc rfl (.cons (j:=1) .loc rfl (.cons (j:=2) .loc rfl .nil))
 refine aC (jO (ctx:=[]) (xs:=[.tup [.int 0,.int (-1)],.tup [.int 1,.int (-2)],.tup [.int 2,.int (-3)]]) (λi nu=>(∀c,c < i->a_ c=b_ c)/\∃o1 o2 o3 o4,nu=bq L (aM (L+1) (bk (jl 12 2)).names) [ae (.ref vT),ae (.tup [.int (a_ 0),.int (a_ 1),.int (a_ 2),z_]),ae (.tup [.int (b_ 0),.int (b_ 1),.int (b_ 2),z'_]),o1,o2,o3,o4]::fb)
  (dA (oQ LH.KO LH.p_comp (ah (j:=0) he .loc aa rfl) (ab _ hm) hnd hq (λn e=>by cases e))) (by lia) ⟨λc h=>absurd h (GS _),av,av,av,av,rfl⟩ (λi nu h o ho=>(eo ho)) ?_ ?_)
 ·intro i x nu hx dO;refine CW dO λheq o1 o2 o3 o4 eU=>?_;clear dO;subst eU;have hi3:i < 3:=(aB.mp hx).1;have hxe:x= .tup [.int (i:Nat),.int (-((i:Nat):Int) - 1)]:=by
   exact TK (P:=λi=>([V.tup [.int 0,.int (-1)],.tup [.int 1,.int (-2)],.tup [.int 2,.int (-3)]]:List V)[i]? =ae x->x= .tup [.int (i:Nat),.int (-((i:Nat):Int) - 1)]) hi3 (λe=>(aO e).symm) (λe=>(aO e).symm) (λe=>(aO e).symm) hx
  subst hxe;have gl:Gi (k_+1) (bq L (aM (L+1) (bk (jl 12 2)).names) [ae (.ref vT),ae (.tup [.int (a_ 0),.int (a_ 1),.int (a_ 2),z_]),ae (.tup [.int (b_ 0),.int (b_ 1),.int (b_ 2),z'_]),ae (.int (i:Nat)),ae (.int (-((i:Nat):Int) - 1)),o3,o4]::fb) (bZ (.tup [.int (a_ 0),.int (a_ 1),.int (a_ 2),z_])) (bZ (.int (i:Nat))) (bZ (.int (a_ i))):=Kp (by exact TK hi3 rfl rfl rfl) (by show -((4:Nat):Int)<=_;lia) (by lia) (by show 4 < 2 ^ 62;decide)
  have gr:∀l',Gi (k_+1) l' (bZ (.tup [.int (b_ 0),.int (b_ 1),.int (b_ 2),z'_])) (bZ (.int (i:Nat))) (bZ (.int (b_ i))):=λl'=>Kp (by exact TK hi3 rfl rfl rfl) (by show -((4:Nat):Int)<=_;lia) (by lia) (by show 4 < 2 ^ 62;decide)
  have res:=λd=>On hi3 heq d;refine i7 (cv rfl rfl (aQ (i:=0) (j:=3) he .loc rfl (cv rfl rfl (aQ (i:=0) (j:=4) he .loc rfl (iX ?_)))));refine aC (bX (bF (ah (j:=1) he .loc aa rfl) (ah (j:=3) he .loc aa rfl) gl) (aQ (i:=0) (j:=5) he .loc rfl ?_) rfl rfl);refine aC (bX (bF (ah (j:=2) he .loc aa rfl) (ah (j:=3) he .loc aa rfl) (gr _)) (aQ (i:=0) (j:=6) he .loc rfl ?_) rfl rfl);refine aC (iY (c9 (ah (j:=5) he .loc aa rfl) (ah (j:=6) he .loc aa rfl) C8) (λh=>?_) λh=>?_)
  ·have h':=of_decide_eq_true h;exact aC (gw (cf (o6 (ah (j:=4) he .loc aa rfl)) (ki ⟨congrArg V.int ((res _).1 h' (by lia)),rfl⟩)))
  refine bC ?_;have h1:=of_decide_eq_false h;refine aC (iY (c9 (ah (j:=5) he .loc aa rfl) (ah (j:=6) he .loc aa rfl) GY) (λh=>?_) λh=>?_)
  ·have h':=of_decide_eq_true h;exact aC (gw (cf (ah (j:=4) he .loc aa rfl) (ki ⟨congrArg V.int ((res _).2 h' (by lia)),rfl⟩)))
  have h2:=of_decide_eq_false h;refine bC (bC ⟨λc hc=>?_,ae (.int (i:Nat)),ae (.int (-((i:Nat):Int) - 1)),ae (.int (a_ i)),ae (.int (b_ i)),rfl⟩);rcases gX c i with h3|h3
  ·exact heq c h3
  ·have:c=i:=by lia
   subst this;lia
 ·intro nu gi;refine CW gi λheq o1 o2 o3 o4 iC=>?_;clear gi;subst iC;have h0:=heq 0 (by decide);have h1:=heq 1 (by decide);have h2:=heq 2 (by decide);refine bC (aC (gw (cf aU (ki ⟨?_,rfl⟩))));unfold vS;refine aj (if_neg (by lia) ..) ?_;refine aj (if_neg (by lia) ..) ?_;refine aj (if_neg (by lia) ..) ?_;refine aj (if_neg (by lia) ..) ?_;refine aj (if_neg (by lia) ..) ?_;refine aj (if_neg (by lia) ..) ?_;rfl
end lJ
theorem lJ{cx:ay}{a b:Nat->Int}:lJ.S0 k mu z z' cx a b 0:=by with_unfolding_all exact Bx _ _ _ _ _ _ _ _ lJ.S0 @lJ.T0 k mu z z' cx a b 0
theorem RG(H:Hy G)(LH:fM G K){lx dx pb:ay}{fs:List (bb×V)}(hm:gH lx 217 dx fs∈mu)(hnd:(fs.map (·.1)).Nodup)(hq:(("pushback":bb),V.ref pb)∈fs)(hi:mu[i]? =ae (bl pb (y::xs)))(hl:xs.length < 2 ^ 20):
 FW (k+2) mu (.ref 207) [.ref lx] λr nu=>r=y/\nu=mu.set i (bl pb xs):=by
 refine DH H LH.f207 (names:=["self"]) (vals':=λL=>[ae (.ref lx),av,av,av]) (λpm cd doc vs h=>?_) (by decide+kernel) rfl (λpm cd doc L=>?_) (λpm cd doc L he=>?_)
 ·exact uM h λa=>rfl
 ·exact .cons (j:=0) .loc rfl .nil
 have hL:=ao hi;refine aC (iY (kU (uD (oQ LH.KO LH.p_push (ah (j:=0) he .loc aa rfl) (ab _ hm) hnd hq (λn e=>by cases e)) (ab _ hL)) (GZ (by simp;lia))) (λh=>?_) λh=>(JX h));refine aC (gw (mY (oQ LH.KO LH.p_push (ah (j:=0) he .loc aa rfl) (ab _ hm) hnd hq (λn e=>by cases e)) (j5 (xs:=y::xs) (ab _ hL)) (au aU aT) (Of (i:=i+1) hi (by exact cb (by assumption) (by decide)) ?_) (by exact fP) (by exact F.slot_list_pop) (by exact F.type_list_pop) rfl));exact jK.tail (jK.keep ⟨rfl,rfl⟩)
section
variable {Ψ:AF->Mu->Prop}
theorem Oo{zk:jB}{body orelse:List ed}(hk:1<=k)
 (he:WE k mu env e λy nu=>∃(xs:List V) (Inv:Nat->Mu->Prop),y= .list xs/\Inv 0 nu/\(∀i x nu,xs[i]? =ae x->Inv i nu->mJ k nu env t x λrq=>WS k rq env body (kW (Inv (i+1)) Ψ))/\∀nu,Inv xs.length nu->WS k nu env orelse Ψ)
 (hf:autoParam (∀x,bw e env x=dg x) aR):WX k mu env (.For t e body orelse zk) Ψ:=⟨λ{A E Z s fr Q} hA r q=>by
 with_reducible refine wpAny_For ?_ hf
 refine he.c hA r λ{v s1 Z1 y nu} z1 q1 r1 w=>ir w λxs Inv dO h0 step fin=>?_;clear w;subst dO;exact Au r1 q1 λ{z z z} hit r2=>G1 Inv hit hk h0 (λz z z z ho=>eo ho) step fin hA z1 r2 q⟩
theorem KN{f:bb}{a:ay}{ob:oY}{fd:cg}(hf:PE k mu env (.Name f p) (.ref a))(hd:ob.data= .func fd)(ha:Dq k mu env (e::es) λys nu=>(Kn nu λhp=>hp.get? a=ae ob)/\FW k nu (.ref a) ys Φ)(hs:∀a p,e≠ .Starred a p:=by intro z z h;cases h):
 WE k mu env (.Call (.Name f p) (e::es) [] pos) Φ:=⟨λ{A E Z s fr Q} hA r q=>by
 with_reducible refine gB ?_
 refine hf.c hA r λ{f s1 Z1} z1 q1 r1=>?_;rw [aZ.refE q1];exact iJ hd (ha.c hA r1 λ{z z z z z} z2 q2 r2 w=>⟨w.1.app r2,w.2.c hA r2 q2 λ{z z z z z} z3=>q (z1.trans (z2.trans z3))⟩) (et hs)⟩
end
end
section
variable {k i:Nat}{mu nu:Mu}{env:gP}{e t:bH}{es:List bH}{p pos:jB}{xs ys:List V}{Φ:V->Mu->Prop}{x y z z':V}{K:fl}{lx dx W fd L:ay}{fs:List (bb×V)}{ob:oY}
section
variable {l r:bH}{Ψ:AF->Mu->Prop}{CS:CmpOp}
theorem FW.cons{f:ai}(a:cX)(h:FW k mu f xs Φ):FW k (a::mu) f xs λy nu=>∃nu',nu=a::nu'/\Φ y nu':=⟨λ{x x x x x x x} hA r hv q=>h.c hA (r.perm cu.symm) hv λ{x x x x x} z v r w=>q z v (r.perm cu) ⟨_,rfl,w⟩⟩
theorem FW.up{f:ai}{a:cX}(h:FW k mu f xs λy nu=>Φ y (a::nu)):FW k (a::mu) f xs Φ:=⟨λ{x x x x x x x} hA r hv q=>h.c hA (r.perm cu.symm) hv λ{x x x x x} z v r w=>q z v (r.perm cu) w⟩
theorem Oq{β:Type}{S:Nat->β->Mu}{b0:β}{zk:jB}{ctx:Mu}{body orelse:List ed}(I:Nat->β->Prop)(h0:I 0 b0)(src:o8 k (S 0 b0) env e t ctx xs)(hk:1<=k)(qX:∀i b,∀o∈ctx,o∈S i b)
 (step:∀T i x b,xs[i]? =ae x->I i b->(∀b',I (i+1) b'->T (S (i+1) b'))->mJ k (S i b) env t x λrq=>WS k rq env body (kW T Ψ))
 (fin:∀b,I xs.length b->WS k (S xs.length b) env orelse Ψ) (hf:autoParam (∀x,bw e env x=dg x) aR):WX k (S 0 b0) env (.For t e body orelse zk) Ψ:=
 jO (λi nu=>∃b,nu=S i b/\I i b) src hk ⟨b0,rfl,h0⟩ (λi nu h o ho=>by obtain ⟨b,rfl,_⟩:=h;exact qX i b o ho) (λi x nu hx h=>by obtain ⟨b,rfl,h⟩:=h;exact step _ i x b hx h λb' h=>⟨b',rfl,h⟩) (λnu h=>by obtain ⟨b,rfl,h⟩:=h;exact fin b h) hf
theorem KP{β:Type}{zk:jB}{body orelse:List ed}(hk:1<=k)
 (he:WE k mu env e λy nu=>∃(xs:List V) (S:Nat->β->Mu) (b0:β),y= .list xs/\nu=S 0 b0/\(∀T i x b,xs[i]? =ae x->(∀b',T (S (i+1) b'))->mJ k (S i b) env t x λrq=>WS k rq env body (kW T Ψ))/\∀b,WS k (S xs.length b) env orelse Ψ)
 (hf:autoParam (∀x,bw e env x=dg x) aR):WX k mu env (.For t e body orelse zk) Ψ:=
 Oo hk ⟨λ{u u u u u u} hA r q=>he.c hA r λ{u u u u u} z v r w=>by
  refine lG w λxs S b0 e1 e2 h1 h2=>?_;clear w;exact q z v r ⟨xs,λi nu=>∃b,nu=S i b,e1,⟨b0,e2⟩,λi x nu hx h=>by obtain ⟨b,rfl⟩:=h;exact h1 _ i x b hx λb'=>⟨b',rfl⟩,λnu h=>by obtain ⟨b,rfl⟩:=h;exact h2 b⟩⟩ hf
theorem KQ{A B C D:Type}{S:Nat->A->B->C->D->Mu}{X:C->List V}{m0:Nat}{Q:ay}{zk:jB}{body orelse:List ed}(I:Nat->Nat->C->D->Prop){a:A}{b:B}{c:C}{d:D}(h0:I m0 0 c d)(he:PE k (S 0 a b c d) env e (.ref Q))(hk:1<=k)(qj:∀{i a b c d},bl Q (X c)∈S i a b c d)(hlen:∀m i c d,I m i c d->i<=(X c).length)
 (step:∀T m i a b c d x,I m i c d->(X c)[i]? =ae x->(∀m' a b c d,m' < m->I m' (i+1) c d->T (S (i+1) a b c d))->mJ k (S i a b c d) env t x λrq=>WS k rq env body (kW T Ψ))
 (fin:∀m a b c d,I m (X c).length c d->WS k (S (X c).length a b c d) env orelse Ψ) (hf:autoParam (∀x,bw e env x=dg x) aR):WX k (S 0 a b c d) env (.For t e body orelse zk) Ψ:=
 Hd (λm i xs nu=>∃a b c d,xs=X c/\nu=S i a b c d/\I m i c d) he hk m0 (X c) ⟨a,b,c,d,rfl,rfl,h0⟩ (λm i xs nu h=>by obtain ⟨a,b,c,d,rfl,rfl,_⟩:=h;exact qj)
  (λm i xs nu x h hx=>by obtain ⟨a,b,c,d,rfl,rfl,h⟩:=h;exact step _ m i a b c d x h hx λm' a b c d hm h=>⟨m',X c,hm,a,b,c,d,rfl,rfl,h⟩)
  (λm i xs nu h hx=>by obtain ⟨a,b,c,d,rfl,rfl,h⟩:=h;subst hx;exact fin m a b c d h) (λm i xs nu h=>by obtain ⟨a,b,c,d,rfl,rfl,h⟩:=h;exact hlen m i c d h) hf
theorem Hk(h:WE k mu env l λy nu=>∃(Q:Vw) (b:Bool),EV k nu env r Q/\s8 k nu CS (bZ y) Q b/\Φ (.bool b) nu)(hm:wq CS r=aH:=by with_unfolding_all rfl):WE k mu env (.Compare l [CS] [r] p) Φ:=⟨λ{z z z z z z} hA R q=>by
 with_reducible refine wpAny_Compare1 ?_ hm
 exact h.c hA R λz1 q1 r1 ⟨Q,b,hr,ho,w⟩=>hr.c hA r1 λ{z z z} z2 p2 r2=>ho.c hA r2 (q1.mono z2) p2 λ{z z z} z3 p3 r3=>q (z1.trans (z2.trans z3)) p3 r3 w⟩
theorem Hl{Θ:Bool->Mu->Prop}(h:WE k mu env l λy nu=>∃(Q:Vw) (b:Bool),EV k nu env r Q/\s8 k nu CS (bZ y) Q b/\Θ b nu)(hm:wq CS r=aH:=by with_unfolding_all rfl):WT k mu env (.Compare l [CS] [r] p) Θ:=⟨λ{z z z z z z} hA R q=>by
 with_reducible refine Ae ?_ hm
 exact h.c hA R λz1 q1 r1 ⟨Q,b,hr,ho,w⟩=>hr.c hA r1 λ{z z z} z2 p2 r2=>ho.c hA r2 (q1.mono z2) p2 λ{z z z} z3 p3 r3=>(aZ.boolE p3)▸eV (q (z1.trans (z2.trans z3)) r3 w)⟩
def rU(k:Nat){α σ:Type}(nm:α->bb)(lx dx pb W fd:ay)(fs:List (bb×V))(ob:oY)(MW:cg)(ρ:σ->Mu)(out:σ->List α->α->σ×List α)(J:Nat->Nat->List α->σ->Prop)(fin:bb->Mu->List α->σ->Prop):Prop:=
 (∀s:σ,gH lx 217 dx fs∈ρ s)/\
 ((fs.map (·.1)).Nodup)/\
 ((("pushback":bb),V.ref pb)∈fs)/\
 (("get_token":bb)∉fs.map (·.1))/\
 (("push_token":bb)∉fs.map (·.1))/\
 (ob.data= .func MW)/\
 (∀(s:σ) (ws q:List α),Kn (bl W (ws.map λw=>V.str (nm w))::bl pb (q.map λw=>V.str (nm w))::ρ s) λhp=>hp.get? fd=ae ob)/\
 (∀m i (ws:List α) (s:σ),J m i ws s->ws.length<=2000/\i<=ws.length)/\
 (∀m i (ws:List α) (s:σ) (w:α),J m i ws s->ws[i]? =ae w->FW (k+3) (bl W (ws.map λw=>V.str (nm w))::bl pb ((ws.drop (i+1)).map λw=>V.str (nm w))::ρ s) (.ref fd) [.str (nm w)] λy nu=>
  y= .list ((out s ws w).2.map λw=>V.str (nm w))/\nu=bl W (ws.map λw=>V.str (nm w))::bl pb ((ws.drop (i+1)).map λw=>V.str (nm w))::ρ (out s ws w).1)/\
 (∀m i (ws:List α) (s:σ) (w:α),J m i ws s->ws[i]? =ae w->∃m',m' < m/\J m' (i+1) (ws++(out s ws w).2) (out s ws w).1)/\
 ∀m (ws:List α) (s:σ),J m ws.length ws s->FW (k+3) (bl W (ws.map λw=>V.str (nm w))::bl pb []::ρ s) (.ref 207) [.ref lx] λy nu=>∃c,y= .str c/\fin c nu ws s
section
variable {α σ:Type}{nm:α->bb}{pb:ay}{MW:cg}{ρ:σ->Mu}{out:σ->List α->α->σ×List α}{J:Nat->Nat->List α->σ->Prop}{fin:bb->Mu->List α->σ->Prop}(h:rU k nm lx dx pb W fd fs ob MW ρ out J fin)
def rU.lex:=@h.1
def rU.nd:=@h.2.1
def rU.hpb:=@h.2.2.1
def rU.ng:=@h.2.2.2.1
def rU.np:=@h.2.2.2.2.1
def rU.fn:=@h.2.2.2.2.2.1
def rU.kn:=@h.2.2.2.2.2.2.1
def rU.len:=@h.2.2.2.2.2.2.2.1
def rU.deed:=@h.2.2.2.2.2.2.2.2.1
def rU.step:=@h.2.2.2.2.2.2.2.2.2.1
def rU.last:=@h.2.2.2.2.2.2.2.2.2.2
end
noncomputable abbrev rnFr(L lx W fd:ay)(close:bb)(o1 o2:Option V):cX:=bq L (aM (L+1) (bk (cN 21)).names) [ae (.ref lx),ae (.ref W),ae (.str close),ae (.ref fd),o1,o2]
noncomputable abbrev tg(pm cd doc:ai)(L:ay):gP:=dT (xx (cN 21) pm cd doc) 297 L
noncomputable abbrev RI{α σ:Type}(nm:α->bb)(L lx W fd pb:ay)(close:bb)(ρ:σ->Mu)(o1 o2:Option V)(ws q:List α)(s:σ):Mu:=rnFr L lx W fd close o1 o2::bl W (ws.map λw=>V.str (nm w))::bl pb (q.map λw=>V.str (nm w))::ρ s
def CR(k:Nat){α σ:Type}(nm:α->bb)(lx dx W fd:ay)(fs:List (bb×V))(ob:oY)(out:σ->List α->α->σ×List α)(J:Nat->Nat->List α->σ->Prop)(Φ:V->Mu->Prop)(st:Option V->Option V->List α->List α->σ->Mu)(pm cd doc:ai)(L:ay):Prop:=
 (∀{o1 o2 ws q s p},PE (k+3) (st o1 o2 ws q s) (tg pm cd doc L) (.Name "lexer" p) (.ref lx))/\
 (∀{o1 o2 ws q s p},PE (k+3) (st o1 o2 ws q s) (tg pm cd doc L) (.Name "line" p) (.ref W))/\
 (∀{o1 o2 ws q s p},PE (k+3) (st o1 o2 ws q s) (tg pm cd doc L) (.Name "deed" p) (.ref fd))/\
 (∀{v o2 ws q s p},PE (k+3) (st (ae v) o2 ws q s) (tg pm cd doc L) (.Name "name" p) v)/\
 (∀{v o1 ws q s p},PE (k+3) (st o1 (ae v) ws q s) (tg pm cd doc L) (.Name "other" p) v)/\
 (∀{v o1 o2 ws q s p} {Ψ:Mu->Prop},Ψ (st (ae v) o2 ws q s)->mJ (k+3) (st o1 o2 ws q s) (tg pm cd doc L) (.Name "name" p) v Ψ)/\
 (∀{v o1 o2 ws q s p} {Ψ:Mu->Prop},Ψ (st o1 (ae v) ws q s)->mJ (k+3) (st o1 o2 ws q s) (tg pm cd doc L) (.Name "other" p) v Ψ)/\
 (∀{o1 o2 ws q s},gH lx 217 dx fs∈st o1 o2 ws q s)/\
 (∀{o1 o2 ws q s},bl W (ws.map λw=>V.str (nm w))∈st o1 o2 ws q s)/\
 (∀{o1 o2 ws q s},Kn (st o1 o2 ws q s) λhp=>hp.get? fd=ae ob)/\
 (∀{o1 o2 ws q s w} {Ψ:V->Mu->Prop},q.length<=4000->Ψ .none (st o1 o2 ws (q++[w]) s)->FW (k+3) (st o1 o2 ws q s) (.ref 214) [.ref lx,.str (nm w)] Ψ)/\
 (∀{o1 o2 ws q s w} {Ψ:V->Mu->Prop},q.length<=4000->Ψ (.str (nm w)) (st o1 o2 ws q s)->FW (k+3) (st o1 o2 ws (w::q) s) (.ref 207) [.ref lx] Ψ)/\
 (∀{o1 o2 ws q s w} {Ψ:V->Mu->Prop},ws.length<=4000->Ψ .none (st o1 o2 (ws++[w]) q s)->BR (k+3) (st o1 o2 ws q s) (.builtin "list.append") [bZ (.ref W),bZ (.str (nm w))] Ψ)/\
 (∀{m i o1 o2 ws s w} {Ψ:V->Mu->Prop},J m i ws s->ws[i]? =ae w->Ψ (.list ((out s ws w).2.map λw=>V.str (nm w))) (st o1 o2 ws (ws.drop (i+1)) (out s ws w).1)->FW (k+3) (st o1 o2 ws (ws.drop (i+1)) s) (.ref fd) [.str (nm w)] Ψ)/\
 ∀{m o1 o2 ws s},J m ws.length ws s->WS (k+3) (st o1 o2 ws [] s) (tg pm cd doc L) ((fR (cN 21)).drop 2) (lE Φ)
section
variable {α σ:Type}{nm:α->bb}{out:σ->List α->α->σ×List α}{J:Nat->Nat->List α->σ->Prop}{st:Option V->Option V->List α->List α->σ->Mu}{pm cd doc:ai}(h:CR k nm lx dx W fd fs ob out J Φ st pm cd doc L)
def CR.vl:=@h.1
def CR.vw:=@h.2.1
def CR.vd:=@h.2.2.1
def CR.n1:=@h.2.2.2.1
def CR.n2:=@h.2.2.2.2.1
def CR.a1:=@h.2.2.2.2.2.1
def CR.a2:=@h.2.2.2.2.2.2.1
def CR.im:=@h.2.2.2.2.2.2.2.1
def CR.lm:=@h.2.2.2.2.2.2.2.2.1
def CR.kn:=@h.2.2.2.2.2.2.2.2.2.1
def CR.push:=@h.2.2.2.2.2.2.2.2.2.2.1
def CR.take:=@h.2.2.2.2.2.2.2.2.2.2.2.1
def CR.app:=@h.2.2.2.2.2.2.2.2.2.2.2.2.1
def CR.deed:=@h.2.2.2.2.2.2.2.2.2.2.2.2.2.1
def CR.last:=@h.2.2.2.2.2.2.2.2.2.2.2.2.2.2
end
section
variable {α σ:Type}{nm:α->bb}{pb:ay}{MW:cg}{ρ:σ->Mu}{out:σ->List α->α->σ×List α}{J:Nat->Nat->List α->σ->Prop}{fin:bb->Mu->List α->σ->Prop}{close:bb}{m0:Nat}{Ny:List α}{s0:σ}{pm cd doc:ai}{st:Option V->Option V->List α->List α->σ->Mu}
theorem rn_ok(H:Hy G)(LH:fM G K)(RH:rU k nm lx dx pb W fd fs ob MW ρ out J fin)(he:du (tg pm cd doc L))(hΦ:∀m ws s c nu,J m ws.length ws s->fin c nu ws s->Φ (.bool (c == close)) nu):CR k nm lx dx W fd fs ob out J Φ (RI nm L lx W fd pb close ρ) pm cd doc L:=by
 have im:∀{a b c:cX} {s},gH lx 217 dx fs∈a::b::c::ρ s:=ab _ (ab _ (ab _ (RH.lex _)));refine ⟨?_,?_,?_,?_,?_,?_,?_,?_,?_,?_,?_,?_,?_,?_,?_⟩
 ·intro o1 o2 ws q s p;exact ah (j:=0) he .loc aa rfl
 ·intro o1 o2 ws q s p;exact ah (j:=1) he .loc aa rfl
 ·intro o1 o2 ws q s p;exact ah (j:=3) he .loc aa rfl
 ·intro v o2 ws q s p;exact ah (j:=4) he .loc aa rfl
 ·intro v o2 ws q s p;exact ah (j:=5) he .loc aa rfl
 ·intro v o1 o2 ws q s p Ψ h;exact aQ (i:=0) (j:=4) he .loc rfl h
 ·intro v o1 o2 ws q s p Ψ h;exact aQ (i:=0) (j:=5) he .loc rfl h
 ·intro o1 o2 ws q s;exact im
 ·intro o1 o2 ws q s;exact ab _ aa
 ·intro o1 o2 ws q s;exact (RH.kn s ws q).sub (gW _ _)
 ·intro o1 o2 ws q s w Ψ hq h;refine ((RF (k:=k) (i:=2) (y:= .str (nm w)) H LH im RH.nd RH.hpb rfl (by refine aj (ak ..) ?_;exact b7 (by assumption) (by decide))).le (jD _)).mono λr nu e=>?_;refine aj (e.1 ..) ?_;refine aj (e.2 ..) ?_;unfold RI at h;rw [bj] at h;exact h
 ·intro o1 o2 ws q s w Ψ hq h;refine ((RG (k:=k) (i:=2) (y:= .str (nm w)) (xs:=q.map λw=>V.str (nm w)) H LH im RH.nd RH.hpb rfl (by refine aj (ak ..) ?_;exact b7 (by assumption) (by decide))).le (jD _)).mono λr nu e=>?_;refine aj (e.1 ..) ?_;refine aj (e.2 ..) ?_;exact h
 ·intro o1 o2 ws q s w Ψ hq h;refine kA (i:=1) rfl (by refine aj (ak ..) ?_;show _ < 2 ^ 22;exact b7 (by assumption) (by decide)) ?_;unfold RI at h;rw [bj] at h;exact h
 ·intro m i o1 o2 ws s w Ψ hJ hw h;refine FW.up ((RH.deed m i ws s w hJ hw).mono λy nu e=>?_);refine aj (e.1 ..) ?_;refine aj (e.2 ..) ?_;exact h
 ·intro m o1 o2 ws s hJ;refine cq (LH.f207.go) λobg pmg cdg docg PQ SW z=>aC (gw (Hk (pO LH.KO LH.m_get (ah (j:=0) he .loc aa rfl) im RH.ng PQ SW (FW.up ((RH.last m ws s hJ).mono λy nu hq=>?_)))));refine aK hq λc e2 e3=>?_;clear hq;exact aj (e2 ..) (⟨bZ (.str close),(c == close),ah (j:=2) he .loc aa rfl,rA,ki (hΦ m ws s c nu hJ e3)⟩)
def qD.S0(k:Nat)(Φ:V->Mu->Prop)(pm cd doc:ai)(L:ay):Prop:=∀{K:fl} {α σ:Type} {nm:α->bb} {lx dx pb W fd:ay} {fs:List (bb×V)} {ob:oY} {MW:cg} {ρ:σ->Mu} {out:σ->List α->α->σ×List α} {J:Nat->Nat->List α->σ->Prop} {fin:bb->Mu->List α->σ->Prop} {m0:Nat} {Ny:List α} {s0:σ} {st:Option V->Option V->List α->List α->σ->Mu} (LH:fM G K) (RH:rU k nm lx dx pb W fd fs ob MW ρ out J fin) (T:CR k nm lx dx W fd fs ob out J Φ st pm cd doc L) (h0:J m0 0 Ny s0),WS (k+3) (st av av Ny [] s0) (tg pm cd doc L) (fR (cN 21)) (lE Φ)
namespace qD
@[irreducible] def e0:=Fl eO s7 gL gL gL cL S0
def k_:=e0.1
def Φ_:=e0.2.1
def pg:=e0.2.2.1
def cd_:=e0.2.2.2.1
def g8:=e0.2.2.2.2.1
def L_:=e0.2.2.2.2.2
theorem T0:S0 k_ Φ_ pg cd_ g8 L_:=by
 intro K α σ nm lx dx pb W fd fs ob MW ρ out J fin m0 Ny s0 st LH RH T h0;refine cq (LH.f214.go) λobp pmp cdp docp JQ hpd z=>cq (LH.f207.go) λobg pmg cdg docg PQ SW z=>?_;have hk:1<=k_+3:=Nat.le_add_left 1 (k_+2);have tl:∀{l:List α} {j n:Nat},l.length+n<=4000->(l.take j).length+n<=4000:=λ{z z z} h=>aw (Tt (kL ..) _) h;refine aC (Oq (S:=λj o=>st o av Ny (Ny.take j) s0) (b0:=av) (xs:=Ny.map λw=>V.str (nm w)) (λz z=>True) trivial (Aw T.vw T.lm) hk (λi b o ho=>aA.mp ho▸T.lm) (λI i x b hx z hI=>?_) λb z=>?_)
 ·rw [aI] at hx;refine aK (aL.mp hx) λw hw dO=>?_;subst dO;have hI:=hI (ae (.str (nm w))) trivial;rw [dE,hw] at hI;exact T.a1 (aC (ig (B3 LH.KO LH.m_put T.vl T.im RH.np JQ hpd (cA (cf T.n1 (e9 (T.push (tl (n:=0) (aw (RH.len _ _ _ _ h0).1 (by decide))) (bC hI))))))))
 refine aj (ak ..) ?_;refine aj (cK ..) ?_;refine bC (aC (KQ (S:=λi o1 o2 ws s=>st o1 o2 ws (ws.drop i) s) (X:=λws=>ws.map λw=>V.str (nm w)) (a:=b) (b:=av) (c:=Ny) (d:=s0) J h0 T.vw hk T.lm (λm i ws s h=>by refine aj (ak ..) ?_;exact (RH.len _ _ _ _ h).2) (λI m i o1 o2 ws s x hJ hx hI=>?_) λm o1 o2 ws s hJ=>?_))
 ·rw [aI] at hx;refine aK (aL.mp hx) λw hw eU=>?_;subst eU;have hlt:i < ws.length:=(aB.mp hw).1;have SH:=(RH.len _ _ _ _ hJ).1;refine T.a1 (aj (show ws.drop i=w::ws.drop (i+1) by rw [dZ hlt,(aB.mp hw).2]) ?_);have Fc:(ws.drop (i+1)).length<=2000:=by refine aj (fY ..) ?_;lia
  refine aC (xR (Hl (pO LH.KO LH.m_get T.vl T.im RH.ng PQ SW (T.take (aw Fc (by decide)) ⟨bZ (.str (nm w)),(nm w != nm w),T.n1,tx,?_⟩))));refine aj (show (nm w != nm w)=aH by simp) (bC ?_);refine aK (RH.step m i ws s w hJ hw) λm' hm' Ua=>?_;have hl':=(RH.len _ _ _ _ Ua).1;rw [ba] at hl';refine aC (KP hk (KN T.vd RH.fn (cA (cf T.n1 (e9 ⟨T.kn,T.deed hJ hw ⟨_,λj o2=>st (ae (.str (nm w))) o2 (ws++(out s ws w).2.take j) (ws.drop (i+1)++(out s ws w).2.take j) (out s ws w).1,o2,rfl,?_,λI' j x o2 hx hI'=>?_,λo2=>?_⟩⟩)))))
  ·dsimp only;refine aj (xn ..) ?_;refine aj (cy ..) ?_;refine aj (cy ..) ?_;rfl
  ·rw [aI] at hx;refine aK (aL.mp hx) λu hu gi=>?_;subst gi;have hI':=hI' (ae (.str (nm u)));dsimp only at hI';rw [dE,hu,Aj,<- bU,<- bU] at hI';have htk:((out s ws w).2.take j).length<=(out s ws w).2.length:=kL ..;exact T.a2 (aC (ig (B3 LH.KO LH.m_put T.vl T.im RH.np JQ hpd (cA (cf T.n2 (e9 (T.push (by refine aj (ba ..) ?_;lia) (aC (ig (mY T.vw (j5 T.lm) (au T.n2 aT) (T.app (by refine aj (ba ..) ?_;lia) (bC hI')) (by exact fP) (by exact iT) (by exact iU) rfl))))))))))
  ·have hI:=hI m' (ae (.str (nm w))) o2 _ _ hm' Ua;rw [gq hlt] at hI;dsimp only;refine aj (ak ..) ?_;refine aj (cK ..) ?_;exact bC (bC hI)
 ·rw [ak] at hJ ⊢;refine bC (aj (ow ..) ?_);exact T.last hJ
end qD
theorem qD:qD.S0 k Φ pm cd doc L:=by with_unfolding_all exact uA _ _ _ _ _ _ qD.S0 @qD.T0 k Φ pm cd doc L
theorem Qm(H:Hy G)(LH:fM G K)(RH:rU k nm lx dx pb W fd fs ob MW ρ out J fin)(h0:J m0 0 Ny s0)(hΦ:∀m ws s c nu,J m ws.length ws s->fin c nu ws s->Φ (.bool (c == close)) nu):
 FW (k+4) (bl W (Ny.map λw=>V.str (nm w))::bl pb []::ρ s0) (.ref 297) [.ref lx,.ref W,.str close,.ref fd] Φ:=
 tf H H.f297 (names:=["lexer","line","close","deed"]) (vals':=λL=>[ae (.ref lx),ae (.ref W),ae (.str close),ae (.ref fd),av,av]) (λpm cd doc vs h=>Rx h λa b c d=>rfl) (by decide+kernel) rfl
  (λpm cd doc L=> .cons (j:=0) .loc rfl (.cons (j:=1) .loc rfl (.cons (j:=2) .loc rfl (.cons (j:=3) .loc rfl .nil)))) (λpm cd doc L he=>qD LH RH (rn_ok H LH RH he hΦ) h0)
end
end
variable {o:bH}
section
variable {v:bH}{Ψ:AF->Mu->Prop}{P:Vw}{y':V}{C:ay}
theorem KR(H:Hy G){a:ay}{st:ed}{qual:bb}(F:nG G a st qual){names:List bb}{vals':ay->d9}
 (i0:∀pm cd doc vs,vs.length=xs.length->pG (Ar st qual pm cd doc) ⟨vs,[]⟩=dg (names.zip vs)) (hnd:(aM 0 (bk st).names).nd) (hk:(bk st).kind= .function)
 (hb:∀pm cd doc L,i9 (dT (Ar st qual pm cd doc) a L) L (aM (L+1) (bk st).names) names xs (nones (aM (L+1) (bk st).names)) (vals' L))
 (h:∀pm cd doc L,du (dT (Ar st qual pm cd doc) a L)->WS k (bq L (aM (L+1) (bk st).names) (vals' L)::mu) (dT (Ar st qual pm cd doc) a L) (fR st) (lE Φ)) (wm:autoParam ((bk st).isCoroutine=aH) aR) (mP:autoParam ((bk st).isGenerator=aH) aR):
 FC (k+1) mu (.ref a) xs Φ:=by
 exact cq (F.go) λob pm cd doc h0 hd hcd=>Qi H.B (names:=names) (vals':=vals') (Kn.z0 h0) hd (λZ s r=>hcd _ r.z0in) rfl (i0 pm cd doc) hnd (λL=>⟨hk,rfl,rfl⟩) (hb pm cd doc) (λL=>h pm cd doc L ⟨hk,rfl,rfl⟩) wm mP
theorem KU{fI:ay}(KO:FS G K)(hm:makesIn K C=aJ)(hi:fH K (.ref C) "__init__"=ae (ae (.ref fI)))(hf:typeIn K (.ref fI)=ae (.type "function"))
 (h:∀x dx,FC k (gH x C dx []::mu) (.ref fI) (.ref x::xs) λy nu=>y= .none/\Φ (.ref x) nu):FW (k+1) mu (.ref C) xs Φ:=⟨λ{A E Z s fr vs Q} hA r hv q=>by
 obtain ⟨hh,g,d,t,os⟩:=s;have X:K.In hh:=KO.inn _ r.z0in;refine eF (make_core (makes_of X hm) (mS X hi) (λself=>bind_fn X self hf) (.inl rfl) ?_);have r2:R Z (gH (hh.objs.size+1) C hh.objs.size []::(mu++fr)) ⟨(hh.push emptyDict).push (Ad C hh.objs.size),g,d,t,os⟩:=r.addNew (tk:=t) _ (λb o e=>az _ (az _ e)) ⟨by heap_get,[],0,by heap_get,trivial⟩ (cj.mpr ⟨λhm=>absurd (aA.mp hm) (ot _),eh⟩) λb hb=>(aP.mp hb).elim (λe=>e▸jD _) λhb=>kX hb;have hA':Rm k (A.under (.builtin "type.__call__" ⟨.ref C::vs,[]⟩)):=⟨hA.hh,by have:=hA.dep;show A.depth+1+k<=900;lia,by have:=hA.uni;show A.units+1+10*k<=9000;lia⟩;refine codeAny_mono ((h _ _).c (E:=E) (Q:=λw s'=>w= .none/\Q (.ref (hh.objs.size+1)) s') hA' r2 (.cons (.ref _) hv) λ{u u u u u} z hy r' w=>⟨aZ.noneE (w.1▸hy),q z (.ref _) r' w.2⟩) λres s' z=>?_;rcases res with e|(v|_|_|_) <;> first|exact z|exact (show False from z).elim⟩
theorem B4{f:bb}(KO:FS G K)(hk:keepIn K (.ref C)=aJ)(hf:PE k mu env (.Name f p) (.ref C))(ha:Dq k mu env (e::es) λys nu=>FW k nu (.ref C) ys Φ)(hs:autoParam (kh (e::es)=aJ) aR):
 WE k mu env (.Call (.Name f p) (e::es) [] pos) Φ:=⟨λ{A E Z s fr Q} hA r q=>by
 with_reducible refine gB ?_
 refine hf.c hA r λ{f s1 Z1} z1 q1 r1=>?_;rw [aZ.refE q1];exact callWith_K (KO.inn _ r1.z0in) hk (ha.c hA r1 λ{z z z z z} z2 q2 r2 w2=>⟨KO.inn _ r2.z0in,w2.c hA r2 q2 λ{z z z z z} z3=>q (z1.trans (z2.trans z3))⟩) (et (jt hs).1) (kY (jt hs).2 pos)⟩
end
def uO(K:fl):Prop:=
 (makesIn K 217=aJ)/\
 (fH K (.ref 217) "__init__"=ae (ae (.ref 193)))/\
 (typeIn K (.ref 193)=ae (.type "function"))/\
 (keepIn K (.ref 217)=aJ)/\
 (makesIn K 245=aJ)/\
 (fH K (.ref 245) "__init__"=ae (ae (.ref 235)))/\
 (typeIn K (.ref 235)=ae (.type "function"))/\
 keepIn K (.ref 245)=aJ
section
variable (h:uO K)
def uO.mk217:=@h.1
def uO.i217:=@h.2.1
def uO.t193:=@h.2.2.1
def uO.k217:=@h.2.2.2.1
def uO.mk245:=@h.2.2.2.2.1
def uO.i245:=@h.2.2.2.2.2.1
def uO.t235:=@h.2.2.2.2.2.2.1
def uO.k245:=@h.2.2.2.2.2.2.2
end
noncomputable def th(n:Int)(fp:V)(pb:ay):List (bb×V):=[("lineno",.int n),("instream",fp),("whitespace",.str "\n\t\r "),("pushback",.ref pb)]
def RK(fp:V)(mu:Mu)(y:V)(nu:Mu):Prop:=∃lx dx pb,y= .ref lx/\nu=bl pb []::gH lx 217 dx (th 1 fp pb)::mu
theorem KV(H:Hy G)(LH:fM G K)(NH:uO K):FW (k+3) mu (.ref 217) [x] (RK x mu):=by
 refine KU LH.KO NH.mk217 NH.i217 NH.t193 λlx dx=>KR H LH.f193 (names:=["self","fp"]) (vals':=λL=>[ae (.ref lx),ae x]) (λpm cd doc vs h=>?_) (by decide+kernel) rfl (λpm cd doc L=>?_) (λpm cd doc L he=>?_)
 ·exact zP h λa b=>rfl
 ·exact .cons (j:=0) .loc rfl (.cons (j:=1) .loc rfl .nil)
 refine aC (bX aU (rS LH.KO LH.s_line (ah (j:=0) he .loc aa rfl) (i:=1) rfl (by decide) ?_) rfl rfl);refine aC (bX (ah (j:=1) he .loc aa rfl) (rS LH.KO LH.s_in (ah (j:=0) he .loc aa rfl) (i:=1) rfl (bg rfl) ?_) rfl rfl);refine aC (bX cO (rS LH.KO LH.s_ws (ah (j:=0) he .loc aa rfl) (i:=1) rfl (bg rfl) ?_) rfl rfl);refine aC (b4 (sA (xs:=[]) aT (bg rfl) (λT=>fL.ref (rS LH.KO LH.s_push (ah (j:=0) he .loc (ab _ aa) rfl) (i:=2) rfl (bg rfl) ?_))) rfl rfl);refine bC (jK.sub (nu':=bl T []::gH lx 217 dx (th 1 x T)::mu) ?_ (jK.keep ⟨rfl,lx,dx,T,rfl,rfl⟩));exact .cons_cons _ (.cons _ (.refl (gH lx 217 dx (th 1 x T)::mu)))
def Os(x:V)(mu:Mu)(y:V)(nu:Mu):Prop:=∃ax dx,y= .ref ax/\nu=gH ax 245 dx [("comp_select_list",x)]::mu
theorem Ir(H:Hy G)(LH:fM G K)(NH:uO K):FW (k+3) mu (.ref 245) [x] (Os x mu):=by
 refine KU LH.KO NH.mk245 NH.i245 NH.t235 λlx dx=>KR H LH.f235 (names:=["self","comp_select_list"]) (vals':=λL=>[ae (.ref lx),ae x]) (λpm cd doc vs h=>?_) (by decide+kernel) rfl (λpm cd doc L=>?_) (λpm cd doc L he=>?_)
 ·exact zP h λa b=>rfl
 ·exact .cons (j:=0) .loc rfl (.cons (j:=1) .loc rfl .nil)
 refine aC (bX (ah (j:=1) he .loc aa rfl) (rS LH.KO LH.s_comp (ah (j:=0) he .loc aa rfl) (i:=1) rfl (by decide) ?_) rfl rfl);exact bC (jK.tail (jK.keep ⟨rfl,lx,dx,rfl,rfl⟩))
variable {prog:dJ}{w:ee}{A:bh}{E:ai->aq->Prop}{s:aq}
section
variable {Q:ai->aq->Prop}
theorem FT{it l:ay}{i:Nat}{items:Array ai}{x d:ai}(hit:s.heap.IsListIter it l i)(hl:s.heap.IsList l items)(hx:items[i]? =ae x)(hQ:∀h',h'.IsListIter it l (i+1)->ji it s.heap h'->Q x {s with heap:=h'}):
 aS (aX prog w) A (ku (.builtin "next") [.ref it,d]) Q E s:=by
 refine gv (by decide+kernel) (by decide+kernel) E1 (kdk_args_next2 _ _) ?_;unfold Builtin.«next»
 refine ag (m:=CI "next" 1 2 _) (cM (a:=[cY it,d]) (by first|rfl|kernel_rfl!) ?_);dsimp only;refine ag (h8 (name:=fQ "__next__") hit.typeIs slot_listiter_next.lookup ?_);refine f5 (λwY=>absurd wY (by decide)) (λz=>?_);refine ag (zr hit hl hx λh' h1 h2=>?_);exact ar ⟨_,rfl,hQ h' h1 h2⟩
theorem It{it l:ay}{i:Nat}{items:Array ai}{d:ai}(hh:A.handled=av)(hit:s.heap.IsListIter it l i)(hl:s.heap.IsList l items)(hx:items[i]? =av)(hQ:∀h',rv it s.heap h'->Q d {s with heap:=h'}):
 aS (aX prog w) A (ku (.builtin "next") [.ref it,d]) Q E s:=by
 refine gv (by decide+kernel) (by decide+kernel) E1 (kdk_args_next2 _ _) ?_;unfold Builtin.«next»
 refine ag (m:=CI "next" 1 2 _) (cM (a:=[cY it,d]) (by first|rfl|kernel_rfl!) ?_);dsimp only;refine ag (h8 (name:=fQ "__next__") hit.typeIs slot_listiter_next.lookup ?_);refine f5 (λwY=>absurd wY (by decide)) (λz=>?_);refine ag (Ag hh hit hl hx λh' h1=>?_);exact ar ⟨_,rfl,hQ h' h1⟩
structure B5(h h':dG)(e:ay):Prop where
 keeps:∀b o,h.get? b=ae o->h'.get? b=ae o
 new:h.get? e=av
 there:∃t,h'.get? e=ae {cls:= .type "StopIteration",data:= .fields (#[.ref t,.none,.none,.none,.bool aH,.none]++ownMembersOf (.type "StopIteration") [])}/\h.get? t=av/\h'.get? t=ae {cls:= .type "tuple",data:= .seq #[]}
noncomputable abbrev tup0:oY:={cls:= .type "tuple",data:= .seq #[]}
noncomputable abbrev stopO(t:ay):oY:={cls:= .type "StopIteration",data:= .fields (#[.ref t,.none,.none,.none,.bool aH,.none]++ownMembersOf (.type "StopIteration") [])}
theorem nH{α:Type}{prog:dJ}{w:ee}{A:bh}{Q:α->aq->Prop}{E:ai->aq->Prop}{s:aq}(hh:A.handled=av)
 (h:E (.ref (s.heap.push tup0).objs.size) {s with heap:=(s.heap.push tup0).push (stopO s.heap.objs.size)}):aS (aX prog w) A (Tw (.type "StopIteration") [] >>=raiseNew) Q E s:=by
 refine ag ?_;delta Tw newTuple;refine ag (jg ?_ (by size_fits));refine ag (m:=firstArgMember _ _) (cM (a:=eG) rfl ?_);refine jg ?_ (by size_fits);delta raiseNew;refine ag (wpAny_handled ?_);refine aj (hh ..) ?_;exact ag (ar (wpAny_throw h))
theorem FU{it:ay}{b:Array UInt8}{t:HR}{i:Nat}{c:UInt8}(hit:Bu s.heap it b t i)(hx:b[i]? =ae c)
 (hQ:∀h',Bu h' it b t (i+1)->ji it s.heap h'->Q (.int (c.toNat:Int) s.toks) {s with heap:=h',toks:=s.toks+1}):aS (aX prog w) A (ku (.builtin "next") [.ref it]) Q E s:=by
 refine gv (by decide+kernel) (by decide+kernel) E1 (kdk_args_next _) ?_;unfold Builtin.«next»
 refine ag (m:=CI "next" 1 2 _) (cM (a:=[cY it]) (by first|rfl|kernel_rfl!) ?_);dsimp only;refine ag (h8 (name:=fQ "__next__") (om hit) ry.lookup ?_);refine f5 (λwY=>absurd wY (by decide)) (λz=>?_);refine eg (id hit) λo ho hc hd=>ag (dX (name:=Al "__next__") (om hit) ry
  (dp ry (om hit) KBw.entry_next ?_ (KBw.args_next _)))
 show aS _ _ (vt (.ref it) 0 >>=_) _ _ s;refine ag (dS ho hd (x:= .bytes b t) rfl ?_);show aS _ _ (if (CJ b t == eG)=aJ then _ else _) _ _ s;refine aj (if_neg (show ¬((CJ b t == eG)=aJ) from cF)) ?_;show aS _ _ (vt (.ref it) 1 >>=_) _ _ s;refine ag (dS ho hd (x:= .int i 0) rfl ?_);refine ag (cM (a:=b) rfl ?_);simp only [b8,hx];refine ag (eH ho hd (by exact bp _) (ag (wpAny_mkInt (ar ⟨_,rfl,ar ⟨_,rfl,hQ _ ?_ (bY ..)⟩⟩))));exact ⟨_,bS _ ho (iW (dP hd _)),(pI ..).trans hc,by refine aj (dP hd ..) ?_;simp [pB]⟩
theorem Iu{it:ay}{b:Array UInt8}{t:HR}{i:Nat}(hh:A.handled=av)(hit:Bu s.heap it b t i)(hx:b[i]? =av)
 (hE:∀h1 h' e,rv it s.heap h1->B5 h1 h' e->E (.ref e) {s with heap:=h'}):aS (aX prog w) A (ku (.builtin "next") [.ref it]) Q E s:=by
 refine gv (by decide+kernel) (by decide+kernel) E1 (kdk_args_next _) ?_;unfold Builtin.«next»
 refine ag (m:=CI "next" 1 2 _) (cM (a:=[cY it]) (by first|rfl|kernel_rfl!) ?_);dsimp only;refine ag (h8 (name:=fQ "__next__") (om hit) ry.lookup ?_);refine f5 (λwY=>absurd wY (by decide)) (λz=>?_);refine eg (id hit) λo ho hc hd=>ag (dX (name:=Al "__next__") (om hit) ry
  (dp ry (om hit) KBw.entry_next ?_ (KBw.args_next _)))
 show aS _ _ (vt (.ref it) 0 >>=_) _ _ s;refine ag (dS ho hd (x:= .bytes b t) rfl ?_);show aS _ _ (if (CJ b t == eG)=aJ then _ else _) _ _ s;refine aj (if_neg (show ¬((CJ b t == eG)=aJ) from cF)) ?_;show aS _ _ (vt (.ref it) 1 >>=_) _ _ s;refine ag (dS ho hd (x:= .int i 0) rfl ?_);refine ag (cM (a:=b) rfl ?_);simp only [b8,hx];refine ag (oh (ag (eH ho hd (by simp) ?_)));show aS _ _ (Tw (.type "StopIteration") [] >>=_) _ _ _;refine nH hh ?_;refine hE (s.heap.update it _) _ _ (bY ..).extBut ⟨λb o e=>az _ (az _ e),Heap.get?_none_of_le (by refine aj (fN ..) ?_;exact jD _),(s.heap.update it _).objs.size,aW _ rfl,Heap.get?_none_of_le (bp _),az _ (aW _ rfl)⟩
end
theorem B5.made{h h':dG}{e:ay}(S:B5 h h' e):Tz h h' e (.type "StopIteration") []:=
 ⟨S.keeps,S.new,let ⟨t,h1,h2,h3⟩:=S.there;⟨t,h1,h2,h3⟩⟩
variable {it:ay}
section
variable {c:Nat}{bs:List Nat}
noncomputable def jL(it:ay)(bs:List Nat):cX where
 own:=[it]
 sat:=λZ h=>∃b t i,Bu h it b t i/\(b.toList.drop i).map pJ=bs
 mono:=λZ Z' h hz a=>a
 loc:=λZ h h' w hk z z=>w.imp λb=>bQ λt=>bQ λi u=>⟨u.1.imp λo v=>⟨hk it aa o v.1,v.2⟩,u.2⟩
 live:=λZ h w a ha=>w.elim λb w=>w.elim λt w=>w.elim λi u=>u.1.elim λo v=>⟨o,aA.mp ha▸v.1⟩
theorem AM{α:Type}{l:List α}{j:Nat}{a:α}{r:List α}(h:l.drop j=a::r):l[j]? =ae a/\l.drop (j+1)=r:=
 ⟨by (refine fZ (List.head?_drop ..) ?_;refine aj (h ..) ?_);rfl,by (refine fZ (JE ..) ?_;refine aj (h ..) ?_);rfl⟩
theorem DJ{α:Type}{l:Array α}{j:Nat}(h:l.toList.drop j=[]):l[j]? =av:=P1 (eK▸List.drop_eq_nil_iff.mp h)
theorem uP(hi:mu[i]? =ae (jL it (c::bs)))(h:Φ (.int c) (mu.set i (jL it bs))):BR k mu (.builtin "next") [bZ (.ref it)] Φ:=⟨λ{A E Z s fr vs Q} hA r hq q=>by
 refine aK (hq.one) λv dO q1=>?_;subst dO;refine aj (aZ.refE q1 ..) ?_;have hi':=cG (fr:=fr) hi;refine oz (r.sat _ (ao hi')) λb t j I e=>?_;cases hd:b.toList.drop j with
 |nil=>rw [hd] at e;exact Q1 e
 |cons u l=>
 rw [hd] at e;exact dU (sY e) λe1 e2=>dU (AM hd) λhx hd=>FU I (bV.symm.trans hx) λh' I' hs=>q .rfl (e1▸aZ.int _ _) (gE hi▸r.upd' hi' rfl (λa o hb e=>hs.extBut a o (λq=>hb (q▸aa)) e) ⟨b,t,j+1,I',hd▸e2⟩) h⟩
noncomputable def mT(it:ay)(xs:List V):cX where
 own:=[it]
 sat:=λZ h=>∃l vs n i,h.IsListIter it l i/\Z l=ae (oH vs n)/\bW G Z (vs.toList.drop i) xs
 mono:=λZ Z' h hz w=>w.imp λl=>bQ λvs=>bQ λn=>bQ λi u=>⟨u.1,hz _ _ u.2.1,u.2.2.mono hz⟩
 loc:=λZ h h' w hk z z=>w.imp λl=>bQ λvs=>bQ λn=>bQ λi u=>⟨u.1.imp λo v=>⟨hk it aa o v.1,v.2⟩,u.2⟩
 live:=λZ h w a ha=>w.elim λl w=>w.elim λvs w=>w.elim λn w=>w.elim λi u=>u.1.elim λo v=>⟨o,aA.mp ha▸v.1⟩
theorem KW(hi:mu[i]? =ae (mT it (x::xs)))(h:Φ x (mu.set i (mT it xs))):BR k mu (.builtin "next") [bZ (.ref it),bZ y] Φ:=⟨λ{A E Z s fr vs Q} hA r hq q=>by
 refine cC (hq.two) λv u eU q1 q2=>?_;subst eU;refine aj (aZ.refE q1 ..) ?_;have hi':=cG (fr:=fr) hi;exact cq (r.sat _ (ao hi')) λl vs n j I hl hr=>cC (hr.cons_inv) λw ws hd h1 h2=>dU (AM hd) λhx hd=>FT I (⟨_,r.zin _ _ hl,rfl,n,rfl⟩:s.heap.IsList l vs) (bV.symm.trans hx) λh' I' hs=>q .rfl h1 (gE hi▸r.upd' (tk:=s.toks) hi' rfl (λa o hb e=>hs.extBut a o (λq=>hb (q▸aa)) e) ⟨l,vs,n,j+1,I',hl,hd▸h2⟩) h⟩
end
noncomputable def pP:cX where
 own:=[]
 sat:=λz z=>True
 mono:=λz z z z z=>trivial
 loc:=λz z z z z z z=>trivial
 live:=λz z z z hb=>eo hb
theorem R.dead{Z:bI}{s:aq}{h':dG}{tk:Nat}{a:cX}(r:R Z mu s)(hi:mu[i]? =ae a)(hk:∀b o,b∉a.own->s.heap.get? b=ae o->h'.get? b=ae o):R Z (mu.set i (pP)) {s with heap:=h',toks:=tk}:=r.swap hi (pP) hk trivial .nil λb hb=>eo hb
theorem Iv(hi:mu[i]? =ae (mT it []))(h:Φ y (mu.set i (pP))):BR k mu (.builtin "next") [bZ (.ref it),bZ y] Φ:=⟨λ{A E Z s fr vs Q} hA r hq q=>by
 refine cC (hq.two) λv u gi q1 q2=>?_;subst gi;refine aj (aZ.refE q1 ..) ?_;have hi':=cG (fr:=fr) hi;exact cq (r.sat _ (ao hi')) λl vs n j I hl hr=>It hA.hh I (⟨_,r.zin _ _ hl,rfl,n,rfl⟩:s.heap.IsList l vs) (DJ hr.nil_inv) λh' hs=>q .rfl q2 (gE hi▸R.dead (tk:=s.toks) r hi' λa o hb e=>hs a o (λq=>hb (q▸aa)) e) h⟩
variable {v:ai}
section
variable {Z Z':bI}{fr:Mu}{l outer:List gP}
theorem DK{x y:cX}{b:ay}{mu:Mu}(hn:(gU mu).Nodup)(hx:x∈mu)(hy:y∈mu)(bx:b∈x.own)(by':b∈y.own):x=y:=by
 induction mu with
 |nil=>exact eo hx
 |cons z mu ih=>
  have SG:=bP.mp (show (z.own++gU mu).Nodup from hn);have qj:∀w:cX,w∈mu->b∈w.own->b∈gU mu:=λw hw hb=>bG.mpr ⟨w,hw,hb⟩;rcases aP.mp hx with h1|h1 <;> rcases aP.mp hy with h2|h2
  ·exact h1.trans h2.symm
  ·exact absurd rfl (SG.2.2 b (h1▸bx) b (qj _ h2 by'))
  ·exact absurd rfl (SG.2.2 b (h2▸by') b (qj _ h1 bx))
  ·exact ih SG.2.1 h1 h2
def zR(env:gP)(mu:Mu):Prop:=∃lay bz,bq env.locals lay bz∈mu
structure FrOK(env:gP)(mu:Mu):Prop where
 kind:env.scope.kind≠ .module
 frame:env.frame=ae env.locals
 has:zR env mu
def ia(l:List gP)(mu:Mu):Prop:=∀env∈l,FrOK env mu
theorem zR.mono(h:zR env mu)(hs:∀x∈mu,x∈nu):zR env nu:=let ⟨a,b,c⟩:=h;⟨a,b,hs _ c⟩
theorem ia.mono(h:ia l mu)(hs:∀x∈mu,x∈nu):ia l nu:=λe he=>⟨(h e he).kind,(h e he).frame,(h e he).has.mono hs⟩
theorem ia.right(h:ia l fr):ia l (nu++fr):=h.mono λx hx=>bL _ hx
theorem ia.cons(h:ia l mu)(he:FrOK env mu):ia (env::l) mu:=λe hm=>by
 rcases aP.mp hm with rfl|hm
 ·exact he
 ·exact h e hm
theorem ia.tail(h:ia (env::l) mu):ia l mu:=λe hm=>h e (ab _ hm)
structure Up(l:List gP)(Z:bI)(mu:Mu)(base h0 h:dG):Prop where
 keepZ:∀a o,Z a=ae o->base.get? a=ae o
 keepO:∀b∈gU mu,b∉l.filterMap (·.frame)->∀o,h0.get? b=ae o->base.get? b=ae o
 up:h0.UpToSlots h
theorem Up.on{base h0 h h':dG}(U:Up l Z mu base h0 h)(hu:h.UpToSlots h'):Up l Z mu base h0 h':=⟨U.keepZ,U.keepO,U.up.trans hu⟩
theorem R.reslot{h0 base:dG}{tu:Nat}(r:R Z mu {s with heap:=h0,toks:=tu})(U:Up l Z mu base h0 s.heap)(GA:base.StaysIn s.heap)(hf:ia l mu):R Z mu s where
 z0:=r.z0
 zin:=λa o e=>GA a o (U.keepZ a o e)
 sat:=λx hx=>by
  have hz:∀a o,Z a=ae o->s.heap.get? a=ae o:=λa o e=>GA a o (U.keepZ a o e);by_cases hm:∃b∈x.own,b∈l.filterMap (·.frame)
  ·refine aK hm λb hb hl=>?_;clear hm;refine aK (fV.mp hl) λenv he hb'=>?_;obtain ⟨_,h2,lay,bz,h3⟩:=hf env he;rw [h2] at hb';injection hb' with hb'
   have hxe:x=bq env.locals lay bz:=DK r.nodup hx h3 hb (by refine fZ (hb' ..) ?_;exact aa);subst hxe;refine mH (r.sat _ hx) λnd m hn hs=>⟨nd,m,U.up.ns hn,hs.loc (λc hc o ho=>?_) λz z=>rfl⟩
   have qc:(env.locals::lay.filterMap (·.2)).Nodup:=by exact cJ (Th hx) λi hi=>r.ownNodup hi
   have wm:c∈gU mu:=bG.mpr ⟨_,hx,ab _ hc⟩;refine GA c o (U.keepO c wm (λQM=>?_) o ho);refine aK (fV.mp QM) λMX he2 hc2=>?_;obtain ⟨_,h5,SX,vals2,h6⟩:=hf MX he2;rw [h5] at hc2;injection hc2 with hc2
   have hxe2:bq env.locals lay bz=bq MX.locals SX vals2:=DK r.nodup hx h6 (ab _ hc) (by refine fZ (hc2 ..) ?_;exact aa);have hoo:(bq env.locals lay bz).own=(bq MX.locals SX vals2).own:=by (refine aj (hxe2 ..) ?_;rfl)
   have hL:env.locals=MX.locals:=(sY (show env.locals::lay.filterMap (·.2)=MX.locals::SX.filterMap (·.2) from hoo)).1;exact (cj.mp qc).1 (by (refine aj (hL ..) ?_;refine aj (hc2 ..) ?_);exact hc)
  ·refine x.loc _ _ _ (r.sat x hx) (λb hb o ho=>GA b o (U.keepO b (bG.mpr ⟨x,hx,hb⟩) (λhl=>hm ⟨b,hb,hl⟩) o ho)) r.zin hz
 nodup:=r.nodup
 sep:=r.sep
 gens:=r.gens
 os:=r.os
noncomputable abbrev KY:ai:= .type "StopIteration"
def Qn(Z:bI)(mu:Mu)(v:ai)(s:aq):Prop:=∃e h0 tu,v= .ref e/\R Z mu {s with heap:=h0,toks:=tu}/\Tz h0 s.heap e KY []
def Iw(l:List gP)(L:ay)(Z:bI)(mu:Mu)(v:ai)(s:aq):Prop:=∃e t base h0 tu,v= .ref e/\R Z mu {s with heap:=h0,toks:=tu}/\Up l Z mu base h0 s.heap/\Heap.HeldW base l e KY (.ref t) L s.heap
def jQ(l:List gP)(Z:bI)(mu:Mu)(v:ai)(s:aq):Prop:=∃e t base h0 tu,v= .ref e/\R Z mu {s with heap:=h0,toks:=tu}/\Up l Z mu base h0 s.heap/\Heap.FlyingW base l e KY (.ref t) s.heap
def Exn(l:List gP)(L:ay)(Z:bI)(mu:Mu)(v:ai)(s:aq):Prop:=Qn Z mu v s\/Iw l L Z mu v s\/jQ l Z mu v s
theorem R.funs{h0:dG}{tu:Nat}(r:R Z mu {s with heap:=h0,toks:=tu}){l:List gP}(hf:ia l mu)(as:List ay)(qj:∀e∈l,∀a,e.frame=ae a->a∈as):h0.FunFrames (Uu h0 as) l:=by
 induction l with
 |nil=>trivial
 |cons env l ih=>obtain ⟨h1,h2,lay,bz,h3⟩:=hf env aa;refine mH (r.sat _ h3) λnd m hn hs=>cE hn λo es ep ho hd z=>?_;clear hn;exact ⟨h1,⟨env.locals,o,h2,hideAll_none _ (qj env aa _ h2),ho,λvs q=>by rw [hd] at q;cases q⟩,ih hf.tail λe he=>qj e (ab _ he)⟩
theorem R.up0{h0:dG}{tu:Nat}(r:R Z mu {s with heap:=h0,toks:=tu})(hf:ia l mu):Up l Z mu (Uu h0 (l.filterMap (·.frame))) h0 h0 where
 keepZ:=λa o e=>hideAll_get _ (r.zin a o e) λhm=>by
  refine aK (fV.mp hm) λenv he hf'=>?_;obtain ⟨_,h2,lay,bz,h3⟩:=hf env he;rw [h2] at hf';injection hf' with hf'
  have:=r.sep a (bG.mpr ⟨_,h3,by refine fZ (hf' ..) ?_;exact aa⟩);rw [this] at e;exact gK e
 keepO:=λb hb hn o ho=>hideAll_get _ ho hn
 up:=Heap.UpToSlots.refl _
section
variable {M:xl}{Q:Unit->aq->Prop}
theorem KZ{h h':dG}{e:ay}{cls:ai}{args:List ai}(x:Tz h h' e cls args):∃t,h'.get? e=ae {cls:=cls,data:= .fields #[.ref t,.none,.none,.none,.bool aH,.none]}/\h.get? t=av/\h'.get? t=ae {cls:= .type "tuple",data:= .seq args.toArray}:=x.there
theorem Up.leave{base h0 h:dG}(iD:env.frame=ae env.locals)(U:Up (env::l) Z mu base h0 h)(hs:nu.Sublist mu)(hL:env.locals∉gU nu){h':dG}(hu:h0.UpToSlots h'):Up l Z nu base h0 h':=
 ⟨U.keepZ,λb hb hn o ho=>U.keepO b (bG.mpr ((bG.mp hb).imp λx w=>⟨hs.subset w.1,w.2⟩)) (λhm=>by
  rw [ql,iD] at hm;exact (aP.mp hm).elim (λe=>hL (e▸hb)) hn) o ho,hu⟩
theorem DL(hA:A.frames=ae (env::l))(hf:ia (env::l) mu)(h:Qn Z mu v s)(hs:nu.Sublist mu)(hL:env.locals∉gU nu)(hQ:∀s',jQ l Z nu v s'->Q () s'):aS M A (Jv env v) Q E s:=by
 refine cE h λe h0 tu dO r x=>?_;clear h;subst dO;have iD:=(hf env aa).frame;have U:=r.up0 hf;exact wpAny_leaves_madeW (base:=Uu h0 ((env::l).filterMap (·.frame))) hA iD (λb o q=>of_hideAll _ q) (r.funs hf _ λe he a ha=>fV.mpr ⟨e,he,ha⟩) x λh' t f1 f2 f3 f4=>hQ _
  ⟨e,t,_,h0,tu,rfl,r.sublist hs,U.leave iD hs hL ((Heap.UpToSlots.of_keeps x.keeps).trans f4),f1⟩
theorem FV(hA:A.frames=ae (env::l))(iD:env.frame=ae env.locals)(h:Iw (env::l) env.locals Z mu v s)(hs:nu.Sublist mu)(hL:env.locals∉gU nu)(hQ:∀s',jQ l Z nu v s'->Q () s'):aS M A (Jv env v) Q E s:=by refine iK h λe t base h0 tu eU r U x=>?_;clear h;subst eU;unfold Jv;refine ag (wpAny_noteFrame_againW iD x.2.2.2 ?_);exact wpAny_landsW x λh' PM hup=>hQ _ ⟨e,t,base,h0,tu,rfl,r.sublist hs,U.leave iD hs hL (U.up.trans hup),PM.1,PM.2.1,PM.2.2.1.2.2,PM.2.2.2⟩
theorem B6(hA:A.frames=ae (env::l))(iD:env.frame=ae env.locals)(h:jQ (env::l) Z mu v s)(hs:nu.Sublist mu)(hL:env.locals∉gU nu)(hQ:∀s',jQ l Z nu v s'->Q () s'):aS M A (Jv env v) Q E s:=by refine iK h λe t base h0 tu gi r U x=>?_;clear h;subst gi;exact wpAny_leaves_onW hA iD x λh' PM hup=>hQ _ ⟨e,t,base,h0,tu,rfl,r.sublist hs,U.leave iD hs hL (U.up.trans hup),PM⟩
theorem Iy(hA:A.frames=ae (env::l))(hf:ia (env::l) mu)(h:Exn (env::l) env.locals Z mu v s)(hs:nu.Sublist mu)(hL:env.locals∉gU nu)(hQ:∀s',jQ l Z nu v s'->Q () s'):aS M A (Jv env v) Q E s:=by
 have iD:=(hf env aa).frame;rcases h with h|h|h
 ·exact DL hA hf h hs hL hQ
 ·exact FV hA iD h hs hL hQ
 ·exact B6 hA iD h hs hL hQ
def mr.S0(Z:bI)(mu:Mu)(s:aq)(l:List gP)(env:gP)(_:Nat):Prop:=∀{v:ai} {M:xl} {A:bh} {E:ai->aq->Prop} {Q:Unit->aq->Prop} (hA:A.frames=ae (env::l)) (hf:ia (env::l) mu) (h:Exn (env::l) env.locals Z mu v s) (hQ:∀s',Iw (env::l) env.locals Z mu v s'->Q () s'),aS M A (noteFrame v env) Q E s
namespace mr
@[irreducible] def e0:=Fl Ra gD zJ gD neE eO S0
def Z_:=e0.1
def fb:=e0.2.1
def s_:=e0.2.2.1
def l_:=e0.2.2.2.1
def K0:=e0.2.2.2.2.1
theorem T0:S0 Z_ fb s_ l_ K0 e0.2.2.2.2.2:=by
 intro v M A E Q hA hf h hQ;have iD:=(hf K0 aa).frame;rcases h with h|h|h
 ·refine cE h λe h0 tu iC r x=>?_;clear h;subst iC;have U:=r.up0 hf;refine eg (KZ x) λt he htn ht=>?_;have zl:∀b,h0.get? b=av->(Uu h0 ((K0::l_).filterMap (·.frame))).get? b=av:=λb hb=>by
   cases hq:(Uu h0 ((K0::l_).filterMap (·.frame))).get? b with
   |none=>rfl
   |some o=>have:=of_hideAll _ hq;rw [hb] at this;exact gK this
  unfold noteFrame;simp only [iD];refine ag (dS he rfl (x:= .none) rfl ?_);refine aj (if_neg (by decide) ..) (wpAny_entryW (base:=Uu h0 ((K0::l_).filterMap (·.frame))) hA ((r.funs hf _ λe he a ha=>fV.mpr ⟨e,he,ha⟩).of_keeps λb o hb z=>⟨o,x.keeps b o hb,rfl⟩) iD he (λb o q=>x.keeps b o (of_hideAll _ q)) (zl e x.new) rfl (by show 1 < 6;decide) rfl λh' hN=>hQ _ ?_);refine QZ hN λk1 k2 k3 k4=>?_;clear hN;exact ⟨e,t,_,h0,tu,rfl,r,⟨U.keepZ,U.keepO,(Heap.UpToSlots.of_keeps x.keeps).trans k4⟩,k1,zl e x.new,k2,k3⟩
 ·refine iK h λe t base h0 tu kG r U x=>?_;clear h;subst kG;exact wpAny_noteFrame_againW iD x.2.2.2 (hQ _ ⟨e,t,base,h0,tu,rfl,r,U,x⟩)
 ·refine iK h λe t base h0 tu ma r U x=>?_;clear h;subst ma;exact wpAny_looks_onW hA iD x λh' hh hu=>hQ _ ⟨e,t,base,h0,tu,rfl,r,U.on hu,hh⟩
end mr
theorem mr:mr.S0 Z mu s l env 0:=by with_unfolding_all exact uA _ _ _ _ _ _ mr.S0 @mr.T0 Z mu s l env 0
theorem Iz(h:Iw l L Z mu v s)(hQ:∀s',jQ l Z mu v s'->Q () s'):aS M A (setFlight v av) Q E s:=by refine iK h λe t base h0 tu mE r U x=>?_;clear h;subst mE;exact wpAny_landsW x λh' hh hu=>hQ _ ⟨e,t,base,h0,tu,rfl,r,U.on hu,hh⟩
theorem DM(h:jQ l Z mu v s)(hQ:∀s',jQ l Z mu v s'->Q () s'):aS M A (setFlight v av) Q E s:=by refine iK h λe t base h0 tu qY r U x=>?_;clear h;subst qY;exact lands_againW x λh' hh hu=>hQ _ ⟨e,t,base,h0,tu,rfl,r,U.on hu,hh⟩
theorem IA{E':ai->aq->Prop}(iD:env.frame=ae L)(h:Iw l L Z mu v s)(hQ:∀s',Iw l L Z mu v s'->E' v s'):GL M A env E' v s:=by
 obtain ⟨e,t,base,h0,tu,rfl,r,U,x1,x2,x3,oe,vs,T,oT,ts,he,hc,hd,h1,hnT,hTe,hT,hdT,h3⟩:=h;unfold GL;refine aj (iD ..) (ag (dS he hd h1 ?_));refine aj (if_neg (by simp) ..) ?_;unfold setFlight;refine ag (dS he hd h1 ?_);refine aj (if_pos (show (cY T != eG)=aJ from by rfl)) ?_;have hsz3:3 < ts.size:=(ru.mp h3).1;refine eH hT hdT hsz3 (hQ _ ?_);have other:∀b,b≠T->(s.heap.update T (Fh (·.setIfInBounds 3 ((ae L).elim eG λf=>pB f)))).get? b=s.heap.get? b:=λb hb=>iF _ _ (gf hb);have ER:∀b o,s.heap.get? b=ae o->(∀vs,o.data≠ .fields vs)->b≠T:=λb o hb Cw q=>by
  rw [q,hT] at hb;injection hb with hb;subst hb;exact Cw ts hdT
 refine ⟨e,t,base,h0,tu,rfl,r,U.on λb o hb hn=>⟨o.slots,(other b (ER b o hb hn)).trans hb⟩,λb o hbo=>(other b λq=>by rw [q,hnT] at hbo;exact gK hbo).trans (x1 b o hbo),x2,x3.of_keeps λb o hb Cw=>⟨o,(other b (ER b o hb Cw)).trans hb,rfl⟩,?_⟩;exact ⟨oe,vs,T,_,_,(other e (gf hTe)).trans he,hc,hd,h1,hnT,hTe,bS _ hT (iW (dP hdT _)),dP hdT _,by simp [hsz3]⟩
theorem jQ.now(h:jQ l Z mu v s)(hf:ia l mu):∃e,v= .ref e/\R Z mu s/\s.TypeIs (.ref e) "StopIteration":=by refine iK h λe t base h0 tu mO r U x=>?_;clear h;subst mO;refine ⟨e,rfl,r.reslot U x.1 hf,?_⟩;exact aK (x.there) λob h1 h2=>⟨ob,h1,h2⟩
end
end
section
variable {fr:Mu}{Θ:AF->Mu->Prop}{Ψ:Mu->Prop}{j:Nat}{Z:bI}{lay:zx}{bz:d9}
theorem Exn.nodup{l:List gP}{v:ai}(h:Exn l L Z mu v s):(gU mu).Nodup:=by rcases h with ⟨_,_,_,_,r,_⟩|⟨_,_,_,_,_,_,r,_⟩|⟨_,_,_,_,_,_,r,_⟩ <;> exact r.nodup
theorem jQ.perm{l:List gP}{v:ai}(h:jQ l Z mu v s)(hp:mu.Perm nu):jQ l Z nu v s:=by
 refine iK h λe t base h0 tu dO r U x=>?_;clear h;subst dO;exact ⟨e,t,base,h0,tu,rfl,r.perm hp,⟨U.keepZ,λb hb=>U.keepO b (by exact aK (bG.mp hb) λy hy hb=>bG.mpr ⟨y,hp.mem_iff.mpr hy,hb⟩),U.up⟩,x⟩
structure RT(k:Nat)(mu:Mu)(env:gP){α:Type}(t:oZ α)(Ψ:Mu->Prop):Prop where
 c:∀{A:bh} {Z:bI} {s:aq} {fr:Mu} {outer:List gP} {F:α->aq->Prop} {T:ai->aq->Prop},Rm k A->A.frames=ae (env::outer)->ia outer fr->R Z (mu++fr) s->
  (∀{v s' Z' nu},Z.le Z'->zR env nu->Exn (env::outer) env.locals Z' (nu++fr) v s'->Ψ nu->T v s')->aS (aX G.prog G.w) A t F T s
structure RFW(k:Nat)(mu:Mu)(f:ai)(xs:List V)(Ψ:Mu->Prop):Prop where
 c:∀{A:bh} {Z:bI} {s:aq} {fr:Mu} {l:List gP} {vs:List ai} {F T:ai->aq->Prop},Rm k A->A.frames=ae l->ia l fr->R Z (mu++fr) s->bW G Z vs xs->
  (∀{v s' Z' nu},Z.le Z'->jQ l Z' (nu++fr) v s'->Ψ nu->T v s')->aS (aX G.prog G.w) A (ku f vs) F T s
structure Wf(k:Nat)(mu:Mu)(env:gP)(t:oZ uh)(Θ:AF->Mu->Prop):Prop where
 c:∀{A:bh} {E:ai->aq->Prop} {Z:bI} {s:aq} {fr:Mu} {outer:List gP} {Q:uh->aq->Prop},Rm k A->A.frames=ae (env::outer)->ia outer fr->R Z (mu++fr) s->
  (∀{f s' Z' a nu},Z.le Z'->o5 G Z' f a->R Z' (nu++fr) s'->Θ a nu->Q f s')->aS (aX G.prog G.w) A t Q E s
structure WVf(k:Nat)(mu:Mu)(env:gP)(t:oZ ai)(Φ:V->Mu->Prop):Prop where
 c:∀{A:bh} {E:ai->aq->Prop} {Z:bI} {s:aq} {fr:Mu} {outer:List gP} {Q:ai->aq->Prop},Rm k A->A.frames=ae (env::outer)->ia outer fr->R Z (mu++fr) s->
  (∀{v s' Z' x nu},Z.le Z'->aZ G Z' v x->R Z' (nu++fr) s'->Φ x nu->Q v s')->aS (aX G.prog G.w) A t Q E s
structure JM(k:Nat)(mu:Mu)(f:ai)(xs:List V)(Φ:V->Mu->Prop):Prop where
 c:∀{A:bh} {E:ai->aq->Prop} {Z:bI} {s:aq} {fr:Mu} {l:List gP} {vs:List ai} {Q:ai->aq->Prop},Rm k A->A.frames=ae l->ia l fr->R Z (mu++fr) s->bW G Z vs xs->
  (∀{w s' Z' y nu},Z.le Z'->aZ G Z' w y->R Z' (nu++fr) s'->Φ y nu->Q w s')->aS (aX G.prog G.w) A (ku f vs) Q E s
abbrev yj(k:Nat)(mu:Mu)(env:gP)(st:List ed)(Θ:AF->Mu->Prop):Prop:=Wf k mu env (Jr st env) Θ
abbrev WXf(k:Nat)(mu:Mu)(env:gP)(st:ed)(Θ:AF->Mu->Prop):Prop:=Wf k mu env (exec st env) Θ
abbrev RE(k:Nat)(mu:Mu)(env:gP)(e:bH)(Ψ:Mu->Prop):Prop:=RT k mu env (dW e env) Ψ
abbrev RX(k:Nat)(mu:Mu)(env:gP)(st:ed)(Ψ:Mu->Prop):Prop:=RT k mu env (exec st env) Ψ
abbrev RS(k:Nat)(mu:Mu)(env:gP)(st:List ed)(Ψ:Mu->Prop):Prop:=RT k mu env (Jr st env) Ψ
structure vU(env:gP):Prop where
 kind:env.scope.kind≠ .module
 frame:env.frame=ae env.locals
theorem zR.frs{l:List gP}(hk:vU env)(h:zR env mu)(iD:ia l fr):ia (env::l) (mu++fr):=ia.cons iD.right ⟨hk.kind,hk.frame,h.mono λx hx=>aE _ hx⟩
theorem WF.f{t:oZ uh}(h:WF k mu t Θ):Wf k mu env t Θ:=⟨λ{z z z z z z z} hA z z=>h.c hA⟩
noncomputable def K1(k:Nat)(env:gP)(rest:List ed)(Θ:AF->Mu->Prop):AF->Mu->Prop
 | .next,nu=>yj k nu env rest Θ
 |f,nu=>Θ f nu
theorem nI{st:ed}{rest:List ed}(h:WXf k mu env st (K1 k env rest Θ)):yj k mu env (st::rest) Θ:=⟨λ{z z z z z z z} hA hf iD r q=>by
 with_reducible refine q7 ?_
 refine h.c hA hf iD r λ{f s1 Z1 a nu} z1 f1 r1 w=>?_
 revert w
 exact o5.by f1 (λw=>Wf.c (show yj k nu env rest Θ from w) hA hf iD r1 λ{z z z z z} z2=>q (z1.trans z2)) (q z1 .brk r1) (q z1 .cont r1) λv x hv=>q z1 (.ret hv) r1⟩
theorem Ot(h:Θ .next mu):yj k mu env [] Θ:=(bC h).f
theorem FX{pos:jB}{t:bH}(hv:WVf k mu env (dW e env) λy nu=>mJ k nu env t y (Θ .next))(hs:wx [t] e pos.line env=dg aH)(hw:wy [t] e env=dg av)
 (ht:autoParam (jC [t] env=[(aH,wu t env)]) aR):WXf k mu env (.Assign [t] e pos) Θ:=⟨λ{z z z z z z z} hA hf iD r q=>by
 with_reducible refine ES ?_ hs hw
 refine aj (ht ..) ?_;exact hv.c hA hf iD r λ{z z z z z} z1 q1 r1 w=>w.c hA r1 q1 λ{z z z} z2=>q (z1.trans z2) .next⟩
theorem R.split{Nz rest:Mu}(r:R Z (nu++fr) s)(hp:nu.Perm (Nz++rest)):R Z (Nz++(rest++fr)) s:=bU .. ▸r.perm (hp.append_right fr)
theorem AN{f:bb}{a:ay}{ob:oY}{fd:cg}(hk:vU env)(hf:PE k mu env (.Name f p) (.ref a))(h0:G.Z0 a=ae ob)(hd:ob.data= .func fd)(ha:Dq k mu env (e::es) λys nu=>∃Nz rest,nu.Perm (Nz++rest)/\zR env rest/\JM k Nz (.ref a) ys λy nu'=>∃xh,(nu'++rest).Perm xh/\Φ y xh)(hs:∀a p,e≠ .Starred a p:=by intro z z h;cases h):
 WVf k mu env (dW (.Call (.Name f p) (e::es) [] pos) env) Φ:=⟨λ{A E Z s fr outer Q} hA zm iD r q=>by
 with_reducible refine gB ?_
 refine hf.c hA r λ{f s1 Z1} z1 q1 r1=>aj (aZ.refE q1 ..) (iJ hd (ha.c hA r1 λ{vs s2 Z2 ys ub} z2 q2 r2 w=>⟨r2.z0in _ _ h0,?_⟩) (et hs));refine cC w λNz rest hp hH w2=>?_;clear w;refine w2.c hA zm (hH.frs hk iD) (r2.split hp) q2 λ{w s3 Z3 y TV} z3 q3 r3 u=>aK u λnu4 hp4 w3=>?_;clear u;exact q (z1.trans (z2.trans z3)) q3 (R.perm (bU .. ▸r3) (hp4.append_right fr)) w3⟩
theorem K2{f:bb}{a:ay}{ob:oY}{fd:cg}(hk:vU env)(hf:PE k mu env (.Name f p) (.ref a))(h0:G.Z0 a=ae ob)(hd:ob.data= .func fd)(ha:Dq k mu env (e::es) λys nu=>∃Nz rest,nu.Perm (Nz++rest)/\zR env rest/\RFW k Nz (.ref a) ys λnu'=>∃xh,(nu'++rest).Perm xh/\Ψ xh)(hs:∀a p,e≠ .Starred a p:=by intro z z h;cases h):
 RE k mu env (.Call (.Name f p) (e::es) [] pos) Ψ:=⟨λ{A Z s fr outer F T} hA zm iD r q=>by
 with_reducible refine gB ?_
 refine hf.c hA r λ{f s1 Z1} z1 q1 r1=>aj (aZ.refE q1 ..) (iJ hd (ha.c hA r1 λ{vs s2 Z2 ys ub} z2 q2 r2 w=>⟨r2.z0in _ _ h0,?_⟩) (et hs));refine cC w λNz rest hp hH w2=>?_;clear w;refine w2.c hA zm (hH.frs hk iD) (r2.split hp) q2 λ{v s3 Z3 TV} z3 q3 u=>aK u λnu4 hp4 w3=>?_;clear u;exact q (z1.trans (z2.trans z3)) (hH.mono λx hx=>hp4.mem_iff.mp (bL _ hx)) (.inr (.inr (jQ.perm (bU .. ▸q3) (hp4.append_right fr)))) w3⟩
theorem B7{l r:bH}{op:Cz}(h:RE k mu env l Ψ):RE k mu env (.BinOp l op r p) Ψ:=⟨λ{z z z z z z z} hA zm iD r q=>by
 with_reducible refine NC ?_
 exact h.c hA zm iD r q⟩
theorem nk{pos:jB}{t:bH}(h:RE k mu env e Ψ)(hs:wx [t] e pos.line env=dg aH)(hw:wy [t] e env=dg av):RX k mu env (.Assign [t] e pos) Ψ:=⟨λ{z z z z z z z} hA zm iD r q=>by
 with_reducible refine ES ?_ hs hw
 exact h.c hA zm iD r q⟩
theorem oR{st:ed}{rest:List ed}(h:RX k mu env st Ψ):RS k mu env (st::rest) Ψ:=⟨λ{z z z z z z z} hA zm iD r q=>by
 with_reducible refine q7 ?_
 exact h.c hA zm iD r q⟩
noncomputable def thenR(k:Nat)(env:gP)(rest:List ed)(Ψ:Mu->Prop):AF->Mu->Prop
 | .next,nu=>RS k nu env rest Ψ
 |_,_=>False
theorem qE{st:ed}{rest:List ed}(h:WX k mu env st (thenR k env rest Ψ)):RS k mu env (st::rest) Ψ:=⟨λ{z z z z z z z} hA zm iD r q=>by
 with_reducible refine q7 ?_
 refine h.c hA r λ{f s1 Z1 a nu} z1 f1 r1 w=>?_
 revert w
 exact o5.by f1 (λw=>RT.c (show RS k nu env rest Ψ from w) hA zm iD r1 λ{z z z z} z2=>q (z1.trans z2)) (λw=>w.elim) (λw=>w.elim) λv x hv w=>w.elim⟩
theorem DN{pos:jB}{body orelse:List ed}(hk:vU env)(Inv:Nat->Mu->Prop)(n:Nat)(h0:Inv n mu)
 (turn:∀n nu,Inv n nu->WT k nu env e λc rq=>c=aJ/\(RS k rq env body Ψ\/WS k rq env body λf ub=>(f= .next\/f= .cont)/\∃m,m < n/\Inv m ub)):RX k mu env (.While e body orelse pos) Ψ:=⟨λ{A Z s fr outer F T} hA zm iD r q=>by
 with_reducible refine wpAny_While ?_
 refine codeAny_whileLoop (WhI Z Inv fr) (λn s' h=>?_) n ⟨Z,mu,.rfl,r,h0⟩;refine cC (h.ex) λZ' nu z' r' inv=>(turn n nu inv).c hA r' λ{c s1 Z1 rq} z1 r1 w=>dU w λeU w1=>?_;clear w;subst eU;refine aj (if_pos rfl ..) ?_;rcases w1 with w1|w1
 ·exact w1.c hA zm iD r1 λ{z z z z} z2 hH hx hΨ=>mr zm (hH.frs hk iD) hx λs3 Ub=>IA hk.frame Ub λs4 hx4=>q (z'.trans (z1.trans z2)) hH (.inr (.inl hx4)) hΨ
 ·refine w1.c hA r1 λ{f s2 Z2 a ub} z2 f2 r2 w=>mH w λha m hm hi=>?_;clear w;have fin:∃m,m < n/\WhI Z Inv fr m s2:=⟨m,hm,⟨Z2,ub,z'.trans (z1.trans z2),r2,hi⟩⟩
  revert ha
  exact o5.by f2 (λz=>fin) (λh=>by rcases h with h|h <;> cases h) (λz=>fin) λv x hv h=>by rcases h with h|h <;> cases h⟩
theorem RL(B:g7 G){fd:cg}{a:ay}{ob:oY}{body:List ed}{names:List bb}{vals':ay->d9}(Bs:Kn mu λhp=>hp.get? a=ae ob)(hd:ob.data= .func fd)(hcd:Kn mu λhp=>hp.CodeRec fd.code fd.qualname)(so:fd.body= .stmts body)
 (i0:∀vs,vs.length=xs.length->pG fd ⟨vs,[]⟩=dg (names.zip vs)) (hnd:(aM 0 fd.scope.names).nd) (he:∀L,du (dT fd a L))
 (hb:∀L,i9 (dT fd a L) L (aM (L+1) fd.scope.names) names xs (nones (aM (L+1) fd.scope.names)) (vals' L))
 (h:∀L,RS k (vN fd L (vals' L)::mu) (dT fd a L) body λnu=>∃bz nu',nu=vN fd L bz::nu'/\Ψ nu') (wm:autoParam (fd.scope.isCoroutine=aH) aR) (mP:autoParam (fd.scope.isGenerator=aH) aR):RFW (k+1) mu (.ref a) xs Ψ:=⟨λ{A Z s fr l vs F T} hA zm iD r hv q=>by
 refine eF (qm hA.depth (Bs.app r) hd wm mP so (hcd.app r) ?_);refine aj (i0 vs hv.length ..) (ar (pM (vals':=vals' s.heap.objs.size) r hnd (he _) hv (hb _) λs' r'=>⟨B.lim _ r'.z0in,Jz ?_⟩));refine (h s.heap.objs.size).c (hA.deeper _) (CL zm) iD r' λ{v s2 Z2 ub} z2 hH hx w=>?_;obtain ⟨bz,nu',rfl,hΨ⟩:=w;exact Iy (CL zm) (hH.frs ⟨by refine aj ((he _).kind) ?_;decide,rfl⟩ iD) hx (gW _ _) (λhb=>(bP.mp (show ((vN fd s.heap.objs.size bz).own++gU (nu'++fr)).Nodup from hx.nodup)).2.2 _ aa _ hb rfl) λs3 Ub=>q z2 Ub hΨ⟩
theorem K3(B:g7 G){fd:cg}{a:ay}{ob:oY}{body:List ed}{names:List bb}{vals':ay->d9}(Bs:Kn mu λhp=>hp.get? a=ae ob)(hd:ob.data= .func fd)(hcd:Kn mu λhp=>hp.CodeRec fd.code fd.qualname)(so:fd.body= .stmts body)
 (i0:∀vs,vs.length=xs.length->pG fd ⟨vs,[]⟩=dg (names.zip vs)) (hnd:(aM 0 fd.scope.names).nd) (he:∀L,du (dT fd a L))
 (hb:∀L,i9 (dT fd a L) L (aM (L+1) fd.scope.names) names xs (nones (aM (L+1) fd.scope.names)) (vals' L))
 (h:∀L,yj k (vN fd L (vals' L)::mu) (dT fd a L) body (lE Φ)) (wm:autoParam (fd.scope.isCoroutine=aH) aR) (mP:autoParam (fd.scope.isGenerator=aH) aR):JM (k+1) mu (.ref a) xs Φ:=⟨λ{A E Z s fr l vs Q} hA zm iD r hv q=>by
 refine eF (qm hA.depth (Bs.app r) hd wm mP so (hcd.app r) ?_);refine aj (i0 vs hv.length ..) (ar (pM (vals':=vals' s.heap.objs.size) r hnd (he _) hv (hb _) λs' r'=>⟨B.lim _ r'.z0in,Jz ?_⟩));refine (h s.heap.objs.size).c (hA.deeper _) (CL zm) iD r' λ{f s2 Z2 af ub} z2 f2 r2 w2=>?_
 revert w2
 exact o5.by f2 (λw=>jK.c (show jK .none ub Φ from w) r2 .none λ{z z z} z3=>q (z2.trans z3)) (λw=>w.elim) (λw=>w.elim) λv x hv w=>jK.c (show jK x ub Φ from w) r2 hv λ{z z z} z3=>q (z2.trans z3)⟩
theorem RM(H:Hy G){a:ay}{st:ed}(F:rJ G a st){names:List bb}{vals':ay->d9}
 (i0:∀pm cd doc vs,vs.length=xs.length->pG (xx st pm cd doc) ⟨vs,[]⟩=dg (names.zip vs)) (hnd:(aM 0 (bk st).names).nd) (hk:(bk st).kind= .function)
 (hb:∀pm cd doc L,i9 (dT (xx st pm cd doc) a L) L (aM (L+1) (bk st).names) names xs (nones (aM (L+1) (bk st).names)) (vals' L))
 (h:∀pm cd doc L,du (dT (xx st pm cd doc) a L)->vU (dT (xx st pm cd doc) a L)->yj k (bq L (aM (L+1) (bk st).names) (vals' L)::mu) (dT (xx st pm cd doc) a L) (fR st) (lE Φ)) (wm:autoParam ((bk st).isCoroutine=aH) aR) (mP:autoParam ((bk st).isGenerator=aH) aR):
 JM (k+1) mu (.ref a) xs Φ:=by
 exact cq (F.go) λob pm cd doc h0 hd hcd=>K3 H.B (names:=names) (vals':=vals') (Kn.z0 h0) hd (λZ s r=>hcd _ r.z0in) rfl (i0 pm cd doc) hnd (λL=>⟨hk,rfl,rfl⟩) (hb pm cd doc) (λL=>h pm cd doc L ⟨hk,rfl,rfl⟩ ⟨by show (bk st).kind≠_;refine aj (hk ..) ?_;decide,rfl⟩) wm mP
theorem RN(H:Hy G){a:ay}{st:ed}(F:rJ G a st){names:List bb}{vals':ay->d9}
 (i0:∀pm cd doc vs,vs.length=xs.length->pG (xx st pm cd doc) ⟨vs,[]⟩=dg (names.zip vs)) (hnd:(aM 0 (bk st).names).nd) (hk:(bk st).kind= .function)
 (hb:∀pm cd doc L,i9 (dT (xx st pm cd doc) a L) L (aM (L+1) (bk st).names) names xs (nones (aM (L+1) (bk st).names)) (vals' L))
 (h:∀pm cd doc L,du (dT (xx st pm cd doc) a L)->vU (dT (xx st pm cd doc) a L)->RS k (bq L (aM (L+1) (bk st).names) (vals' L)::mu) (dT (xx st pm cd doc) a L) (fR st) λnu=>∃bz nu',nu=bq L (aM (L+1) (bk st).names) bz::nu'/\Ψ nu')
 (wm:autoParam ((bk st).isCoroutine=aH) aR) (mP:autoParam ((bk st).isGenerator=aH) aR):RFW (k+1) mu (.ref a) xs Ψ:=by
 exact cq (F.go) λob pm cd doc h0 hd hcd=>RL H.B (names:=names) (vals':=vals') (Kn.z0 h0) hd (λZ s r=>hcd _ r.z0in) rfl (i0 pm cd doc) hnd (λL=>⟨hk,rfl,rfl⟩) (hb pm cd doc) (λL=>h pm cd doc L ⟨hk,rfl,rfl⟩ ⟨by show (bk st).kind≠_;refine aj (hk ..) ?_;decide,rfl⟩) wm mP
theorem Hn{f:bb}(hf:PE k mu env (.Name f p) (.bi "next"))(ha:PE k mu env e (.ref it))(hi:mu[i]? =ae (jL it []))(hF:zR env (mu.set i (pP)))(h:Ψ (mu.set i (pP)))(hs:∀a p,e≠ .Starred a p:=by intro z z h;cases h):
 RE k mu env (.Call (.Name f p) [e] [] pos) Ψ:=⟨λ{A Z s fr outer F T} hA zm iD r q=>by
 refine BK hf (au (Ps:=[]) ha aT hs) hs hA r λ{vs s2 Z2} z2 q2 r2=>aK (q2.one) λv gi q3=>?_;subst gi;refine aj (aZ.refE q3 ..) ?_;have hi':=cG (fr:=fr) hi;exact oz (r2.sat _ (ao hi')) λb t j I e=>Iu hA.hh I (DJ (jc.mp e)) λh1 h' ev hb S=>q z2 hF (.inl ⟨ev,h1,s2.toks,rfl,gE hi▸R.dead (s:=s2) (h':=h1) (tk:=s2.toks) r2 hi' λa o hb' e=>hb a o (λq=>hb' (q▸aa)) e,S.made⟩) h⟩
theorem DO(B:g7 G){body:List ed}{MY rpos npos MU xpos:jB}{z:bb}(he:du env)(hk:vU env)(hm:G.mg "StopIteration"=av)(hkn:env.kindOf "StopIteration"=ae .globalImplicit)(sl:Sl env L lay z j)
 (hb:RS k mu env body λnu=>∃bz y,bq L lay bz∈nu/\bz[j]? =ae (ae y)/\Θ (.ret y) nu) (hd:autoParam ((z == ("__debug__":bb))=aH) aD):
 WXf k mu env (.Try body [.ExceptHandler (ae (.Name "StopIteration" npos)) av [.Return (ae (.Name z xpos)) rpos] MU] [] [] MY) Θ:=⟨λ{A E Z s fr outer Q} hA zm iD r q=>by
 refine wpAny_Try_except (hb.c hA zm iD r λ{v s1 Z1 nu} z1 hH hx w=>?_);obtain ⟨bz,y,hv1,hv2,hΘ⟩:=w;have hfs:=hH.frs hk iD;refine mr zm hfs hx λs2 PH=>Iz PH λs3 Ub=>eg (Ub.now hfs) λe iC r3 ty3=>?_;subst iC;refine wpAny_handleBy_builtin (X:="StopIteration") (T:="StopIteration") (b:=aJ) owsi_raise.isExc (by kernel_rfl) owsi_facts.sub (aK (B.b _ r3.z0in) λmb h1 h2=>?_);refine Jt he.kind hkn (loadGlobal_builtin (he.globals▸B.g _ r3.z0in) hm (he.builtins▸h1) ((h2 "StopIteration" (by decide)).trans (by rfl)) ⟨rfl,ty3,?_⟩) (by decide);refine aj (if_pos rfl ..) (DM Ub λs4 hx4=>?_);refine eg (hx4.now hfs) λx x r4 x=>?_
 with_reducible refine q7 (wpAny_Return_some ?_)
 exact Ti (FK he sl (aE fr hv1) hv2 r4 λ{x} hw=>q z1 (.ret hw) r4 hΘ) hd⟩
end
noncomputable def jv:Nat->List Nat->Option (Nat×List Nat)
 |_,[]=>av
 |v,b::bs=>if b / 64 % 2=1 then jv (v*64+b % 64) bs else ae (v*64+b % 64,bs)
noncomputable def mL(bs:List Nat):Option (Nat×List Nat):=jv 0 bs
structure uQ(b d:Nat)(more:Bool):Prop where
 low:b % 64=d
 bit:b / 64 % 2=if more then 1 else 0
theorem kj:∀{bs:List Nat} {v n:Nat} {rs:List Nat},jv v bs=ae (n,rs)->rs.length < bs.length
 |[],_,_,_,h=>gK h
 |b::bs,v,n,rs,h=>by
  have h:(if b / 64 % 2=1 then jv (v*64+b % 64) bs else ae (v*64+b % 64,bs))=ae (n,rs):=h;by_cases hb:b / 64 % 2=1
  ·exact cI (kj ((if_pos hb).symm.trans h))
  ·exact (sL (aO ((if_neg hb).symm.trans h))).2▸jf _
theorem B8{v b d:Nat}{bs:List Nat}(h:uQ b d aJ):jv v (b::bs)=jv (v*64+d) bs:=(if_pos h.bit).trans (h.low▸rfl)
theorem yk{v b d:Nat}{bs:List Nat}(h:uQ b d aH):jv v (b::bs)=ae (v*64+d,bs):=(if_neg (λe=>absurd (h.bit.symm.trans e) (by decide))).trans (h.low▸rfl)
theorem vint1{b0 d0:Nat}{rs:List Nat}(h0:uQ b0 d0 aH):mL (b0::rs)=ae (d0,rs):=by exact (yk h0).trans (aj (ra 64) (aj (eC d0) rfl))
theorem vint2{b0 b1 d0 d1:Nat}{rs:List Nat}(h1:uQ b1 d1 aJ)(h0:uQ b0 d0 aH):mL (b1::b0::rs)=ae (d1*64+d0,rs):=by exact (B8 h1).trans ((yk h0).trans (aj (ra 64) (aj (eC d1) rfl)))
theorem vint3{b0 b1 b2 d0 d1 d2:Nat}{rs:List Nat}(h2:uQ b2 d2 aJ)(h1:uQ b1 d1 aJ)(h0:uQ b0 d0 aH):mL (b2::b1::b0::rs)=ae ((d2*64+d1)*64+d0,rs):=by exact (B8 h2).trans ((B8 h1).trans ((yk h0).trans (aj (ra 64) (aj (eC d2) rfl))))
noncomputable def yl(bs:List Nat):Option ((Nat×Nat×Nat×Nat)×List Nat):=
 (mL bs).bind λa=>(mL a.2).bind λb=>(mL b.2).bind λc=>(mL c.2).bind λd=>ae ((a.1,b.1,c.1,d.1),d.2)
theorem DP{bs:List Nat}(h:bs.length < 4):yl bs=av:=by refine el.mpr λa h1=>el.mpr λb h2=>el.mpr λc h3=>el.mpr λd h4=>?_;have l1:=kj h1;have l2:=kj h2;have l3:=kj h3;have l4:=kj h4;omega
section
theorem Ho(b:Nat):lZ (b:Int) 63=((b % 64:Nat):Int):=by refine aj (bitAnd_pp (dI _) (by decide) ..) ?_;refine aj (b8 ..) ?_;exact congrArg _ (E3 b 6)
theorem Qo(b:Nat):(lZ (b:Int) 64 != 0)=decide (b / 64 % 2=1):=by
 refine aj (bitAnd_pp (dI _) (by decide) ..) ?_;refine aj (b8 ..) ?_;have h:b &&& (64:Int).toNat=(b.testBit 6).toNat*64:=by
  apply xq;intro i;refine aj (GO ..) ?_;refine aj (show (64:Int).toNat=2 ^ 6 from rfl) ?_;refine aj (lC ..) ?_;refine aj (show (b.testBit 6).toNat*64=(b.testBit 6).toNat*2 ^ 6 from rfl) ?_;refine aj (NM ..) ?_;by_cases hi:6=i
  ·subst hi;cases b.testBit 6 <;> rfl
  ·(refine aj (decide_eq_false hi ..) ?_;refine aj (kN ..) ?_)
   cases b.testBit 6 with
   |false=>simp
   |true=>
    by_cases h6:6<=i
    ·have:i - 6≠0:=by lia
     refine cJ (Nat.exists_eq_succ_of_ne_zero this) λm hm=>aj (hm ..) ?_;simp [h6,Nat.testBit_succ]
    ·simp [h6]
 refine aj (h ..) ?_;refine aj (fx ..) ?_;by_cases h2:b / 2 ^ 6 % 2=1
 ·have h3:b / 64 % 2=1:=h2;simp [h2,h3]
 ·have h3:¬b / 64 % 2=1:=h2;simp [h2,h3]
theorem or63(v b:Nat):Builtin.bitOr ((v*64:Nat):Int) ((b % 64:Nat):Int)=((v*64+b % 64:Nat):Int):=by
 have hd:b % 64 < 2 ^ 6:=ef _ (by decide);generalize b % 64=d at*;refine aj (bitOr_and ..) ?_;refine aj (bitAnd_pp (dI _) (dI _) ..) ?_;refine aj (b8 ..) ?_;refine aj (b8 ..) ?_;have h:(v*64) &&& d=0:=by
  apply xq;intro i;refine aj (GO ..) ?_;refine aj (Nat.zero_testBit ..) ?_;refine aj (show v*64=v*2 ^ 6 from rfl) ?_;refine aj (NM ..) ?_;by_cases hi:6<=i
  ·(refine aj (u9 (cb hd (e8 (by decide) hi)) ..) ?_;refine aj (kN ..) ?_;rfl)
  ·simp [hi]
 refine aj (h ..) ?_;simp
theorem AO:∀{bs:List Nat} {v n:Nat} {rs:List Nat},jv v bs=ae (n,rs)->v*64<=n
 |b::bs,v,n,rs,h=>by
  unfold jv at h
  split at h
  ·have:=AO h;lia
  ·cases h;exact dC _ _
variable {Ps:List (Vw)}{Ψ:Mu->Prop}{bs rs:List Nat}{n:Nat}
theorem nJ{f:bb}{id:String}(hf:PE k mu env (.Name f p) (.bi id))(ha:tA k mu env (e::es) Ps)(hF:BR k mu (.builtin id) Ps Φ)(hs:∀a p,e≠ .Starred a p:=by intro z z h;cases h):WE k mu env (.Call (.Name f p) (e::es) [] pos) Φ:=⟨λ{z z z z z z} hA r q=>BK hf ha hs hA r λ{z z z} z2 q2 r2=>hF.c hA r2 q2 λ{z z z z z} z3=>q (z2.trans z3)⟩
theorem oS{b c:Bool}(h:PT k mu env e b)(e1:b=c):PT k mu env e c:=e1▸h
noncomputable abbrev Ou(L it:ay)(b v:V):cX:=bq L (aM (L+1) (bk (cN 7)).names) [ae (.ref it),ae b,ae v]
theorem B9{v:Nat}(h:v < 2 ^ 60):Nv k mu .LShift (bZ (.int v)) (bZ (.int 6)) (bZ (.int (v*64:Nat))):=by
 have:=Rz (k:=k) (mu:=mu) (a:=(v:Int)) (b:=6) (by decide) (by decide) (by omega);have e:(v:Int)*2 ^ (6:Int).toNat=((v*64:Nat):Int):=by rfl
 rwa [e] at this
def nK.S0(k:Nat)(mu:Mu)(i:Nat)(it:ay)(rs:List Nat)(n:Nat):Prop:=∀{bs:List Nat} (H:Hy G) (hi:mu[i]? =ae (jL it bs)) (hv:mL bs=ae (n,rs)) (hn:n < 2 ^ 60),FW (k+2) mu (.ref 172) [.ref it] λy nu=>y= .int n/\nu=mu.set i (jL it rs)
namespace nK
@[irreducible] def e0:=Fl eO gD eO cL gD eO S0
def k_:=e0.1
def fb:=e0.2.1
def i_:=e0.2.2.1
def sx:=e0.2.2.2.1
def rs_:=e0.2.2.2.2.1
def n_:=e0.2.2.2.2.2
theorem T0:S0 k_ fb i_ sx rs_ n_:=by
 intro bs H hi hv hn;refine tf H H.f172 (names:=["iterator"]) (vals':=λL=>[ae (.ref sx),av,av]) (λpm cd doc vs h=>?_) (by decide+kernel) rfl (λpm cd doc L=>?_) (λpm cd doc L he=>?_)
 ·exact uM h λa=>rfl
 ·exact .cons (j:=0) .loc rfl .nil
 cases bs with
 |nil=>exact gK hv
 |cons b bs=>
 unfold mL jv at hv;rw [ra,eC] at hv;refine aC (b4 (nJ (j4 H he H.b_next rfl) (au (ah (j:=0) he .loc aa rfl) aT) (uP (i:=i_+1) hi (aQ (i:=0) (j:=1) he .loc rfl ?_))) rfl rfl);refine aC (bX (br (ah (j:=1) he .loc aa rfl) aU (qq)) (aQ (i:=0) (j:=2) he .loc rfl ?_) rfl rfl);refine aj (Ho ..) (aC (xS (λm nu=>∃b v CU,CU.length=m/\nu=Ou L sx (.int (b:Nat)) (.int (v:Nat))::fb.set i_ (jL sx CU)/\(if b / 64 % 2=1 then jv v CU else ae (v,CU))=ae (n_,rs_)) bs.length ⟨b,b % 64,bs,rfl,rfl,hv⟩ ?_));intro m nu dO;refine cE dO λb v CU eU gi hg=>?_;clear dO;subst eU;subst gi;refine (oS (kU (br (ah (j:=1) he .loc aa rfl) aU qq) xP) (Qo b)).wt ?_;by_cases hb:b / 64 % 2=1
 ·refine aj (decide_eq_true hb ..) ?_;rw [if_pos hb] at hg;have hi':(fb.set i_ (jL sx CU))[i_]? =ae (jL sx CU):=by (refine aj (eA (aB.mp hi).1 ..) ?_;rfl)
  have hge:=AO hg;cases CU with
  |nil=>exact gK hg
  |cons c cs=>
  unfold jv at hg;refine aC (rN (i:=0) (j:=2) he .loc rfl rfl aU (B9 (by lia)) ?_);refine aC (b4 (nJ (j4 H he H.b_next rfl) (au (ah (j:=0) he .loc aa rfl) aT) (uP (i:=i_+1) hi' (aQ (i:=0) (j:=1) he .loc rfl ?_))) rfl rfl);refine aC (rN (i:=0) (j:=2) he .loc rfl rfl (br (ah (j:=1) he .loc aa rfl) aU qq) (by refine aj (Ho ..) ?_;exact Qk) ?_);refine aj (or63 ..) (bC ⟨cs.length,by exact bp _,c,v*64+c % 64,cs,rfl,?_,hg⟩);show Ou L sx (.int (c:Nat)) (.int ((v*64+c % 64:Nat):Int))::(fb.set i_ (jL sx (c::cs))).set i_ (jL sx cs)=_;refine aj (vb ..) ?_;rfl
 ·refine aj (decide_eq_false hb ..) ?_;rw [if_neg hb] at hg;cases hg;refine bC (aC (gw (cf (ah (j:=2) he .loc aa rfl) (ki ⟨rfl,rfl⟩))))
end nK
theorem nK:nK.S0 k mu i it rs n:=by with_unfolding_all exact uA _ _ _ _ _ _ nK.S0 @nK.T0 k mu i it rs n
def nL.S0(k:Nat)(mu:Mu)(i:Nat)(it:ay):Prop:=∀{bs:List Nat} (H:Hy G) (hi:mu[i]? =ae (jL it bs)) (hv:mL bs=av) (hn:bs.length<=8),RFW (k+2) mu (.ref 172) [.ref it] λnu=>nu=mu.set i (pP)
namespace nL
@[irreducible] def e0:=GW eO gD eO cL S0
def k_:=e0.1
def fb:=e0.2.1
def i_:=e0.2.2.1
def sx:=e0.2.2.2
theorem T0:S0 k_ fb i_ sx:=by
 intro bs H hi hv hn;refine RN H H.f172 (names:=["iterator"]) (vals':=λL=>[ae (.ref sx),av,av]) (λpm cd doc vs h=>?_) (by decide+kernel) rfl (λpm cd doc L=>?_) (λpm cd doc L he hk=>?_)
 ·exact uM h λa=>rfl
 ·exact .cons (j:=0) .loc rfl .nil
 cases bs with
 |nil=>exact oR (nk (Hn (i:=i_+1) (j4 H he H.b_next rfl) (ah (j:=0) he .loc aa rfl) hi ⟨_,_,aa⟩ ⟨_,_,rfl,rfl⟩) rfl rfl)
 |cons b bs=>
 unfold mL jv at hv;rw [ra,eC] at hv;have hb63:b % 64 < 64:=ef _ (by decide);refine qE (b4 (nJ (j4 H he H.b_next rfl) (au (ah (j:=0) he .loc aa rfl) aT) (uP (i:=i_+1) hi (aQ (i:=0) (j:=1) he .loc rfl ?_))) rfl rfl);refine qE (bX (br (ah (j:=1) he .loc aa rfl) aU (qq)) (aQ (i:=0) (j:=2) he .loc rfl ?_) rfl rfl);refine aj (Ho ..) ?_;simp only [bK] at hn;refine oR (DN hk (λm nu=>∃b v CU d,CU.length=m/\CU.length+d=7/\v < 64 ^ (d+1)/\nu=Ou L sx (.int (b:Nat)) (.int (v:Nat))::fb.set i_ (jL sx CU)/\(if b / 64 % 2=1 then jv v CU else ae (v,CU))=av) bs.length ⟨b,b % 64,bs,7 - bs.length,rfl,by lia,cb hb63 (Nat.le_self_pow (by lia) 64),rfl,hv⟩ ?_);intro m nu iC;refine dK iC λb v CU d kG hd hlt ma hg=>?_;clear iC;subst kG;subst ma;refine (oS (kU (br (ah (j:=1) he .loc aa rfl) aU qq) xP) (Qo b)).wt ?_;by_cases hb:b / 64 % 2=1
 ·refine ⟨decide_eq_true hb,?_⟩;rw [if_pos hb] at hg;have hi':(fb.set i_ (jL sx CU))[i_]? =ae (jL sx CU):=by (refine aj (eA (aB.mp hi).1 ..) ?_;rfl)
  have hv60:v < 2 ^ 60:=cb hlt (aw (e8 (by decide) (show d+1<=8 by lia)) (by decide));cases CU with
  |nil=>refine .inl (qE (rN (i:=0) (j:=2) he .loc rfl rfl aU (B9 hv60) ?_));refine oR (nk (Hn (i:=i_+1) (j4 H he H.b_next rfl) (ah (j:=0) he .loc aa rfl) hi' ⟨_,_,aa⟩ ⟨[ae (.ref sx),ae (.int (b:Nat)),ae (.int ((v*64:Nat):Int))],(fb.set i_ (jL sx [])).set i_ (pP),rfl,?_⟩) rfl rfl);refine aj (vb ..) ?_;rfl
  |cons c cs=>
   refine .inr ?_;simp only [bK] at hd;unfold jv at hg;refine aC (rN (i:=0) (j:=2) he .loc rfl rfl aU (B9 hv60) ?_);refine aC (b4 (nJ (j4 H he H.b_next rfl) (au (ah (j:=0) he .loc aa rfl) aT) (uP (i:=i_+1) hi' (aQ (i:=0) (j:=1) he .loc rfl ?_))) rfl rfl);refine aC (rN (i:=0) (j:=2) he .loc rfl rfl (br (ah (j:=1) he .loc aa rfl) aU qq) (by refine aj (Ho ..) ?_;exact Qk) ?_);refine aj (or63 ..) (bC ⟨.inl rfl,cs.length,by exact bp _,c,v*64+c % 64,cs,d+1,rfl,by lia,?_,?_,hg⟩)
   ·have:v*64+c % 64 < (v+1)*64:=by have:=ef c (show 0 < 64 by decide);lia
    exact cb this (by refine aj (CG ..) ?_;exact xu _ hlt)
   ·show Ou L sx (.int (c:Nat)) (.int ((v*64+c % 64:Nat):Int))::(fb.set i_ (jL sx (c::cs))).set i_ (jL sx cs)=_;refine aj (vb ..) ?_;rfl
 ·rw [if_neg hb] at hg;exact nomS hg
end nL
theorem nL:nL.S0 k mu i it:=by with_unfolding_all exact vz _ _ _ _ nL.S0 @nL.T0 k mu i it
end
variable {apos:jB}
section
open Builtin Builtin.ObjectAttr Builtin.Getset_descriptor Builtin.Tuple
noncomputable abbrev pk(G:Gd){α:Type}(K:fl)(t:oZ α):Option α:=peek K ⟨G.prog,G.w.params⟩ t
def gN(G:Gd)(K:fl):Prop:=
 (FS G K)/\
 (G.ent=162)/\
 (pk G K (mA (.ref 162) "__call__")=ae (ae (.builtin "type.__call__")))/\
 (pk G K (uf (.ref 162) (.type "type"))=ae aJ)/\
 (pk G K (Bind.madeBy (.ref 162))=ae av)/\
 (pk G K (mroOf (.ref 162))=ae [.ref 162,.ref 149,.type "tuple",.type "object"])/\
 (readsIn K 162 (.type "type")=aJ)/\
 (Fe K (.ref 162) (.type "type") "__new__"=ae (.get (.builtin "staticmethod.__get__") (.ref 150) .none (.ref 162)))/\
 (recIn K 150 "staticmethod"=ae [.ref 90])/\
 (∀t,pk G K (iI "tuple.__new__" ⟨[.ref 162,.ref t],[]⟩)=ae ())/\
 (pk G K (Bind.madeHere "tuple.__new__" (.ref 162))=ae ())/\
 (pk G K (isType (.ref 162))=ae aJ)/\
 (pk G K (xi (.ref 162) (.type "tuple"))=ae aJ)/\
 (pk G K (xi (.ref 162) (.ref 162))=ae aJ)/\
 (pk G K (xi (.ref 162) (.type "object"))=ae aJ)/\
 (pk G K (iQ (.ref 162) "__init__")=ae (ae (.builtin "object.__init__")))/\
 (∃od cd sl,K.lookup 162=ae ⟨.type "type",od,.cls cd,sl⟩/\cd.hasDel=aH)/\
 (keepIn K (.ref 162)=aJ)/\
 (nG G 90 (jl 5 4) "_ExceptionTableEntryBase.__new__")/\
 Fe K (.type "tuple") (.type "type") "__new__"=ae (.val (.builtin "tuple.__new__"))
section
variable {G:Gd}(h:gN G K)
def gN.KO:=@h.1
def gN.ent:=@h.2.1
def gN.call:=@h.2.2.1
def gN.typ:=@h.2.2.2.1
def gN.made:=@h.2.2.2.2.1
def gN.mro:=@h.2.2.2.2.2.1
def gN.reads:=@h.2.2.2.2.2.2.1
def gN.new:=@h.2.2.2.2.2.2.2.1
def gN.stat:=@h.2.2.2.2.2.2.2.2.1
def gN.check:=@h.2.2.2.2.2.2.2.2.2.1
def gN.here:=@h.2.2.2.2.2.2.2.2.2.2.1
def gN.isT:=@h.2.2.2.2.2.2.2.2.2.2.2.1
def gN.subT:=@h.2.2.2.2.2.2.2.2.2.2.2.2.1
def gN.self:=@h.2.2.2.2.2.2.2.2.2.2.2.2.2.1
def gN.subO:=@h.2.2.2.2.2.2.2.2.2.2.2.2.2.2.1
def gN.init:=@h.2.2.2.2.2.2.2.2.2.2.2.2.2.2.2.1
def gN.obj:=@h.2.2.2.2.2.2.2.2.2.2.2.2.2.2.2.2.1
def gN.keep:=@h.2.2.2.2.2.2.2.2.2.2.2.2.2.2.2.2.2.1
def gN.f90:=@h.2.2.2.2.2.2.2.2.2.2.2.2.2.2.2.2.2.2.1
def gN.tnew:=@h.2.2.2.2.2.2.2.2.2.2.2.2.2.2.2.2.2.2.2
end
def DQ(p:Prop):Prop:=p
section
variable {M:xl}
theorem fD{α:Type}{h:dG}{t:oZ α}{r:α}(X:K.In h)(e:pk G K t=ae r):iL (aX G.prog G.w) h t r:=Looks.of_peek X e
theorem K4(a v1 v2 v3 v4 v5:ai):rb "object.__init__" ⟨[a,v1,v2,v3,v4,v5],[]⟩:=by delta rb;kernel_rfl
theorem K5(EH:gN G K){x1 x2 x3 x4 x5:V}(h:FW k mu (.ref 90) [.ref 162,x1,x2,x3,x4,x5] λy nu=>y= .ent [x1,x2,x3,x4,x5]/\nu=mu):FW (k+1) mu (.ref 162) [x1,x2,x3,x4,x5] λy nu=>y= .ent [x1,x2,x3,x4,x5]/\nu=mu:=⟨λ{A E Z s fr vs Q} hA r hv q=>by
 obtain ⟨hh,g,d,t,os⟩:=s;have X:K.In hh:=EH.KO.inn _ r.z0in;obtain ⟨v1,v2,v3,v4,v5,rfl⟩:∃v1 v2 v3 v4 v5,vs=[v1,v2,v3,v4,v5]:=len5 hv.length λa b c d e=>⟨a,b,c,d,e,rfl⟩
 refine oz (EH.obj) λod cd sl hl z=>?_;have hC:hh.get? 162=ae ⟨.type "type",od,.cls cd,sl⟩:=X _ _ hl;have ku:=fD X EH.call;have typ:=fD X EH.typ;have made:=fD X EH.made;have mro:=fD X EH.mro;refine eF (kK ?_);show aS _ _ (callAny (.ref 162) _) _ _ _;refine nd_load hC ?_;show aS _ _ (callAny.viaDunder (.ref 162) _) _ _ _;delta callAny.viaDunder;refine ag (ku.at ?_);dsimp only;refine aj (tc_bind ..) (ag (ar (ag (ar ?_))));refine ar (a:=Fin.again (.call (.builtin "type.__call__") ⟨.ref 162::[v1,v2,v3,v4,v5],[]⟩)) (NG rfl ?_);refine codeAny_call_builtin_at (Code.quiet_builtin _ (by decide+kernel)) entry_typeCall (@rx (aX G.prog G.w) _ _ ⟨hh,g,d,t,os⟩ "type.__call__" "type" "__call__" (.ref 162) [v1,v2,v3,v4,v5] [] _ tc_kind tc_split typ (tc_args _ _ _) ?_);have ga:∀A' Q E',DQ (Q (cY 90) ⟨hh,g,d,t+1,os⟩)->aS (aX G.prog G.w) A' (sZ (.ref 162) "__new__") Q E' ⟨hh,g,d,t,os⟩:=λA' Q E' q=>by
  refine cls_bind X EH.reads EH.new (eF (sm_get X EH.stat ?_));exact handed_on rfl q
 have hA':Rm k (A.under (.builtin "type.__call__" ⟨.ref 162::[v1,v2,v3,v4,v5],[]⟩)):=⟨hA.hh,by have:=hA.dep;show A.depth+1+k<=900;lia,by have:=hA.uni;show A.units+1+10*k<=9000;lia⟩;have cl:∀Q E' (as:List ai) (kw:List (bb×ai)),as=[.ref 162,v1,v2,v3,v4,v5]->kw=[]->(∀(Z':bI) (x:ay) (o:oY) (h':dG) (g':Array GenState) (d':Drawn) (t':Nat) (PR:vi),Z.le Z'->R Z' (mu++fr) ⟨h',g',d',t',PR⟩->aZ G Z' (.ref x) (.ent [x1,x2,x3,x4,x5])->h'.get? x=ae o->o.cls= .ref 162->Q (cY x) ⟨h',g',d',t',PR⟩)->
  aS (aX G.prog G.w) (A.under (.builtin "type.__call__" ⟨.ref 162::[v1,v2,v3,v4,v5],[]⟩)) (Jp (.ref 90) as kw) Q E' ⟨hh,g,d,t+1,os⟩:=λQ E' as kw e1 e2 q=>by
  subst e1 e2;refine h.c (fr:=fr) hA' r.toks (.cons (.ref 162) hv) λ{w s' Z' y nu} z' hy r' u=>dU u λe1 e2=>?_;clear u;subst e1 e2;obtain ⟨h',g',d',t',PR⟩:=s';refine tw (aZ.ent_inv hy) λa o rp n' dO z1 z2 z=>?_;subst dO;exact q Z' a o h' g' d' t' PR z' r' hy (r'.zin _ _ z1) (z2.trans (by (refine aj (EH.ent ..) ?_;rfl)))
 have oi:∀(A':bh) Q E' (x:ay) (o:oY) (h':dG) (g':Array GenState) (d':Drawn) (t':Nat) (PR:vi),h'.get? x=ae o->o.cls= .ref 162->K.In h'->∀(as:List ai) (kw:List (bb×ai)),as=[.ref x,v1,v2,v3,v4,v5]->kw=[]->DQ (Q eG ⟨h',g',d',t',PR⟩)->aS (aX G.prog G.w) A' (Jp (.builtin "object.__init__") as kw) Q E' ⟨h',g',d',t',PR⟩:=λA' Q E' x o h' g' d' t' PR hx PS X' as kw e1 e2 q=>by
  subst e1 e2;have t1:iL (aX G.prog G.w) h' (jU (.ref x)) (.ref 162):=by refine fZ (PS ..) ?_;exact (sr hx).andThen .now
  have i1:=fD X' EH.init;have m1:=fD X' EH.made;refine eF (jj oi_plain entry_oi (@rx (aX G.prog G.w) _ _ _ "object.__init__" "object" "__init__" (.ref x) [v1,v2,v3,v4,v5] [] _ oi_kind oi_split (t1.andThen (fD X' EH.subO)) (K4 _ _ _ _ _ _) ?_));unfold Builtin.«object.__init__»
  repeat lk
  exact q
 unfold Builtin.«type.__call__»;unfold uf callSpecial? mA
 repeat (first|refine aj (if_neg (show ¬(List.isEmpty (_::_)=aJ) from cF) ..) ?_|with_reducible refine ga _ _ _ ?_|lk)
 unfold DQ;refine ag (bE (cl _ _ _ _ rfl rfl ?_));intro Z' x o h' g' d' t' PR z' r' hy hx PS;have X':K.In h':=EH.KO.inn _ r'.z0in;have t1:iL (aX G.prog G.w) h' (jU (.ref x)) (.ref 162):=by refine fZ (PS ..) ?_;exact (sr hx).andThen .now
 have s1:=fD X' EH.self;have i1:=fD X' EH.init;have b1:iL (aX G.prog G.w) h' (bindSpecial (.builtin "object.__init__") (.ref x)) (.builtin "object.__init__",[.ref x]):=fe (oi_bind _)
 repeat (first|(with_reducible refine oi _ _ _ _ _ _ _ _ _ _ hx PS X' _ _ ?_ ?_ ?_)|lk)
 ·rfl
 ·rfl
 unfold DQ
 repeat lk
 exact q z' hy r' ⟨rfl,rfl⟩⟩
end
section
variable {Ps:List (Vw)}{S:Vw}
theorem IB(EH:gN G K)(hl:xs.length<=1000):Fn k mu (.builtin "tuple.__new__") [bZ (.ref 162),bZ (.tup xs)] (bZ (.ent xs)):=⟨λ{A E Z s fr vs Q} hA r hq q=>by
 refine cC (hq.two) λv u eU q1 q2=>?_;subst eU;refine aj (aZ.refE q1 ..) (dK (aZ.tup_inv q2) λt o ws n gi z1 z2 z3 z4=>?_);subst gi;obtain ⟨hh,g,d,tk,os⟩:=s;have X:K.In hh:=EH.KO.inn _ r.z0in;refine oz (EH.obj) λod cd sl hlk hdel=>?_;have hC:hh.get? 162=ae ⟨.type "type",od,.cls cd,sl⟩:=X _ _ hlk;have ck:=fD X (EH.check t);have he:=fD X EH.here;have hi:=fD X EH.isT;have hs:=fD X EH.subT;have hn:=fD X EH.init;have ht:hh.get? t=ae o:=r.zin _ _ z1;have hsz:ws.size<=er:=b9 z4▸aw hl (show 1000<=2 ^ 24 by decide);have co:∀(A':bh) Q E',(∀h',(∀b o',hh.get? b=ae o'->h'.get? b=ae o')->DQ (Q ws.toList ⟨h',g,d,tk,os⟩))->aS (aX G.prog G.w) A' (collect (.ref t)) Q E' ⟨hh,g,d,tk,os⟩:=λA' Q E' q=>
  wpAny_collect_seq t (.inr rfl) ht z2 z3 (λh' hk=>q h' hk) hsz
 refine eF (kK ?_);show aS _ A.in1 (do iI "tuple.__new__" ⟨[.ref 162,.ref t],[]⟩;ND (.builtin "tuple.__new__" ⟨[.ref 162,.ref t],[]⟩)) _ _ _;refine ag (ck.at (ar ⟨rm NN _,kO PySem.F.entry_tuple_new ?_⟩));refine aj (gR NN _ ..) ?_;unfold Builtin.«tuple.__new__»
 repeat (first|(with_reducible refine co _ _ _ ?_)|lk)
 intro h' hk;unfold DQ;have hC':=hk _ _ hC;have r1:R Z (mu++fr) ⟨h',g,d,tk,os⟩:=r.keep (tk:=tk) λb o e=>hk b o e;refine ag (ar (ag (vm (ag ?_))));refine aj (show ws.toList.toArray=ws from by rfl) ?_;show aS _ _ (if ws.size > er then unsupported "sequence:memory" >>=λz=>newObjAsIs (.ref 162) (.seq ws) (ae h'.objs.size) else newObjAsIs (.ref 162) (.seq ws) (ae h'.objs.size)) _ _ _;refine aj (if_neg (Jq.mpr hsz) ..) ?_;unfold newObjAsIs classHasDel;refine ag (vm (ag (ag (Tn (az _ (az _ hC')) (ar ?_)))));show aS _ _ (if cd.hasDel=aJ then _ else _) _ _ _;refine aj (hdel ..) (ar (ar ?_));have r2:=r1.push {cls:= .type "dict",data:= .dict #[]};have hz:=r2.fresh (bp _);have r3:=r2.pushZ (o:={cls:= .ref 162,dict:=ae h'.objs.size,data:= .seq ws}) (by rfl);exact q (bI.le_put hz) (aZ.ent (bI.put_self ..) (by (refine aj (EH.ent ..) ?_;rfl)) rfl (z4.mono (bI.le_put hz))) r3⟩
theorem Ov:handedIn (.builtin "tuple.__new__")=aJ:=by kernel_rfl!
theorem DR:Manifest.isStub "tuple"=aH:=by kernel_rfl!
theorem DS:jU (.type "tuple")=dg (.type "type"):=by kernel_rfl!
theorem uR{A:bh}{E:ai->aq->Prop}{s:aq}{T:String}{name:bb}{v:ai}{pl:oZ Bool}{Q:ai×List ai->aq->Prop}(X:K.In s.heap)(ht:jU (.type T)=dg (.type "type"))(hs:Manifest.isStub T=aH)
 (e:Fe K (.type T) (.type "type") name=ae (.val v)) (hh:handedIn v=aJ) (h:Q (v,[]) {s with toks:=s.toks+1}):aS (aX G.prog G.w) A (mB (.type T) name pl) Q E s:=by
 have hstub:Nj (.type T)=dg av:=by delta Nj;dsimp only;refine aj (hs ..) ?_;rfl
 have L0:iL (aX G.prog G.w) s.heap (jU (.type T)) (.type "type"):=fe ht;have hg:fH K (.type "type") "__getattribute__"=ae (ae (.builtin "type.__getattribute__")):=type_tga;delta mB mA;refine ag (ag (L0.here ((mS X hg).here ?_)));dsimp only;refine aj (if_pos canon_tga ..) (ag (eS (Q:=λv=>Q (v,[])) (E:=E) ?_ (λy y z=>ar z) λy y z=>z));have LO:iL (aX G.prog G.w) s.heap (Nj (.type T)) av:=fe hstub;refine cls_open X LO L0 hg (looks_hook X (r:=av) (by rfl)) (by show subIn K _ _=_;rfl) e
  (ar (by show aS _ _ (handedOut v) _ _ _;refine aj (handedOut_of hh ..) ?_;exact ar h))
theorem IC{f:bb}{fp:jB}{pl:oZ Bool}(EH:gN G K)(hf:PE k mu env (.Name f fp) (.type "tuple"))(ha:tA k mu env (e::es) Ps)(hF:Fn k mu (.builtin "tuple.__new__") Ps S)(wo:autoParam (kh (e::es)=aJ) aR)
 (he:autoParam (dW (.Call (.Attribute (.Name f fp) "__new__" apos) (e::es) [] pos) env=(do let ov <- dW (.Name f fp) env;iE apos.atName;let (f,first) <- eW [ov] (mB ov "__new__" pl);pC pos f first (lj pos (fo (e::es) env)) [])) aR):
 EV k mu env (.Call (.Attribute (.Name f fp) "__new__" apos) (e::es) [] pos) S:=⟨λ{A E Z s fr Q} hA r q=>by
 refine i5 (pl:=pl) ?_ he;refine hf.c hA r λ{ov s1 Z1} z1 q1 r1=>aj (aZ.typeE q1 ..) (uR (T:="tuple") (v:= .builtin "tuple.__new__") (pl:=pl) (EH.KO.inn _ r1.z0in) DS DR EH.tnew Ov ?_);exact Ha ha hA r1.toks λ{z z z} z2 q2 r2=>hF.c hA r2 q2 λ{z z z} z3=>q (z1.trans (z2.trans z3))⟩
theorem K6(H:Hy G)(EH:gN G K){x1 x2 x3 x4 x5:V}:FW (k+2) mu (.ref 90) [.ref 162,x1,x2,x3,x4,x5] λy nu=>y= .ent [x1,x2,x3,x4,x5]/\nu=mu:=by
 refine DH H EH.f90 (names:=["_cls","start","end","target","depth","lasti"]) (vals':=λL=>[ae (.ref 162),ae x1,ae x2,ae x3,ae x4,ae x5]) (λpm cd doc vs h=>?_) (by decide+kernel) rfl (λpm cd doc L=>?_) (λpm cd doc L he=>?_)
 ·exact len6 h λa b c d e f=>rfl
 ·exact .cons (j:=0) .loc rfl (.cons (j:=1) .loc rfl (.cons (j:=2) .loc rfl (.cons (j:=3) .loc rfl (.cons (j:=4) .loc rfl (.cons (j:=5) .loc rfl .nil)))))
 refine aC (ig (cf cO ?_));refine aC (gw (cf (IC EH (iN H he H.b_tuple rfl) (au (ah (j:=0) he .loc aa rfl) (au (f9 (xs:=[x1,x2,x3,x4,x5]) (au (ah (j:=1) he .loc aa rfl) (au (ah (j:=2) he .loc aa rfl) (au (ah (j:=3) he .loc aa rfl) (au (ah (j:=4) he .loc aa rfl) (au (ah (j:=5) he .loc aa rfl) aT))))) (by show 5<=2 ^ 20;decide)) aT)) (IB EH (by show 5<=1000;decide))) (ki ⟨rfl,rfl⟩)))
theorem Ow(H:Hy G)(EH:gN G K){x1 x2 x3 x4 x5:V}:FW (k+3) mu (.ref 162) [x1,x2,x3,x4,x5] λy nu=>y= .ent [x1,x2,x3,x4,x5]/\nu=mu:=K5 EH (K6 H EH)
end
end
variable {name:bb}
section
open Builtin Builtin.ObjectAttr Builtin.Getset_descriptor Builtin.Tuple
noncomputable abbrev ei(fd:cg)(d:Option ay):oY:={cls:= .type "function",dict:=d,data:= .func fd}
theorem K7{M:xl}{h:dG}:iL M h (iQ (.type "function") "__getattribute__") (ae (.builtin "object.__getattribute__")):=fe (by (refine aj (fg ..) ?_;refine aj (dB ..) ?_);kernel_rfl)
theorem RO{M:xl}{h:dG}:iL M h (iQ (.type "function") "__setattr__") (ae (.builtin "object.__setattr__")):=fe (by (refine aj (fg ..) ?_;refine aj (dB ..) ?_);kernel_rfl)
theorem RP{M:xl}{h:dG}:iL M h (iQ (.type "function") "__getattr__") av:=fe (by (refine aj (fg ..) ?_;refine aj (dB ..) ?_);kernel_rfl)
theorem K8{M:xl}{h:dG}:iL M h (xi (.type "function") (.type "object")) aJ:=fe (by refine aj (iR ..) ?_;kernel_rfl)
def kc(name:bb):Prop:=iQ (.type "function") name=dg av
theorem qF:kc "read":=by delta kc;(refine aj (fg ..) ?_;refine aj (dB ..) ?_);kernel_rfl
theorem wN:kc "co_exceptiontable":=by delta kc;(refine aj (fg ..) ?_;refine aj (dB ..) ?_);kernel_rfl
theorem ID:xp table "object.__getattribute__"=ae Builtin.«object.__getattribute__»:=Nk (by kernel_rfl)
theorem IE:plainId "object.__getattribute__"=aJ:=by decide+kernel
theorem K9:CM "object.__getattribute__"=ae .slot:=by decide+kernel
theorem IF:QT "object.__getattribute__"=ae ("object","__getattribute__"):=by decide+kernel
theorem Lb(a b:ai):rb "object.__getattribute__" ⟨[a,b],[]⟩:=by delta rb;kernel_rfl
theorem Lc(self:ai):bindSpecial (.builtin "object.__getattribute__") self=dg (.builtin "object.__getattribute__",[self]):=
 (Slot.of (T:="object") (name:="__getattribute__") (owner:="object") (n:="__getattribute__") (by (refine aj (fg ..) ?_;refine aj (dB ..) ?_);kernel_rfl) (by decide+kernel) (by decide+kernel) (by decide+kernel)
  (.inl (by decide+kernel)) (by refine aj (iR ..) ?_;kernel_rfl)).bind self
section
variable {f:ay}{fd:cg}{es:List gA}{n:Nat}{Q:ai->aq->Prop}
def mv.S0(prog:dJ)(w:ee)(f dx:ay)(fd:cg)(name:bb):Prop:=∀{A:bh} {E:ai->aq->Prop} {s:aq} {es:List gA} {n:Nat} {v:ai} {Q:ai->aq->Prop} {expr:Bool} (hx:s.heap.get? f=ae (ei fd (ae dx))) (D:s.heap.get? dx=ae (i3 es n)) (hv:getL name es=ae (ae v)) (hn:kc name) (hh:handedIn v=aJ) (h:Q v {s with toks:=s.toks+1}),aS (aX prog w) A (sZ (.ref f) name expr) Q E s
namespace mv
@[irreducible] def e0:=Fl sV E6 cL cL inferInstance inferInstance S0
def cT:=e0.1
def w_:=e0.2.1
def f_:=e0.2.2.1
def dx_:=e0.2.2.2.1
def fd_:=e0.2.2.2.2.1
def iz:=e0.2.2.2.2.2
theorem T0:S0 cT w_ f_ dx_ fd_ iz:=by
 intro A E s es n v Q expr hx D hv hn hh h;obtain ⟨hp,g,d,t,os⟩:=s;have t1:iL (aX cT w_) hp (jU (.ref f_)) (.type "function"):=(sr hx).andThen .now;have lg:=K7 (M:=aX cT w_) (h:=hp);have ln:iL (aX cT w_) hp (iQ (.type "function") iz) av:=fe hn;have nl:iL (aX cT w_) hp (nsGet dx_ iz) (ae v):=λA Q E s k q=>by
  delta nsGet;refine ag (pH (k _ _ D) ?_);refine aj (nsLook_of (r:=ae v) (by rw [QS];exact hv) ..) ?_;exact ar q
 have co:∀(A':bh) Q' E',DQ (Q' v ⟨hp,g,d,t+1,os⟩)->aS (aX cT w_) A' (TA (.builtin "object.__getattribute__") (.ref f_) (.str iz t)) Q' E' ⟨hp,g,d,t+1,os⟩:=λA' Q' E' q=>by
  delta TA;refine aj (Lc ..) (ag (ar (eF ?_)));refine jj IE ID (@rx (aX cT w_) _ _ ⟨hp,g,d,t+1,os⟩ "object.__getattribute__" "object" "__getattribute__" (.ref f_) [.str iz t] [] _ K9 IF (t1.andThen K8) (Lb _ _) ?_);unfold Builtin.«object.__getattribute__»
  repeat lk
  exact q
 unfold sZ getAttrBy
 repeat (first|(with_reducible refine kT ?_)|lk)
 refine aj (show (expr && onTheHeap (iG "object.__getattribute__"))=aH from kN _) ?_;refine aj (if_neg (by decide) ..) ?_;refine co _ _ _ ?_;unfold DQ;show aS _ _ (handedOut v) _ _ _;exact aj (handedOut_of hh ..) (ar h)
end mv
theorem mv:mv.S0 prog w f dx fd name:=by with_unfolding_all exact uA _ _ _ _ _ _ mv.S0 @mv.T0 prog w f dx fd name
theorem Ox{M:xl}{h:dG}:iL M h (mroOf (.type "function")) [.type "function",.type "object"]:=fe (by refine aj (mroOf_type ..) ?_;kernel_rfl)
theorem Hp{tk:HR}{Q:Fin->aq->Prop}(D:s.heap.get? dx=ae (i3 es n))(hr:es.any (·.refKey)=aH)(hz:es.length<=500)
 (h:∀(vg:Int) nx,Q (.done (.ret .none)) {s with heap:=s.heap.update dx (oj name vg (.str name nx) v),toks:=s.toks+1}):
 aS (aX prog w) A (storeInDict dx (.str name tk) name v) Q E s:=by
 unfold storeInDict;refine ag (ar (ag ?_));unfold nsSet;refine ag (ag (gC (ar (ag (JG (ag (pH D ?_)))))));show aS _ _ (if sR name es.toArray=aJ then _ else _) _ _ _;have c:sR name es.toArray=aH:=by refine aj (aRefKeyMayBeTheName_at ..) ?_;refine fZ (uo ..) ?_;refine fZ (uo ..) ?_;show (_ && es.any (·.refKey))=aH;refine aj (hr ..) ?_;refine aj (kN ..) ?_;rfl
 refine aj (c ..) ?_;refine aj (if_neg (by decide) ..) ?_;refine wpAny_updatePart D ?_;have hm:∀vg nx,oj name vg (.str name nx) v (i3 es n)=i3 (putL name vg (.str name nx) v es) (putN name es n):=λvg nx=>mR ..;refine ag (wpAny_lookBehind (o:=i3 (putL name _ (.str name _) v es) (putN name es n)) ((bS _ D (by refine aj (hm ..) ?_;rfl)).trans (congrArg ae (hm _ _))) (pastItsLine_dict ?_) ?_)
 ·have hlen:∀vg key (l:List gA),(putL name vg key v l).length<=l.length+1:=by
   intro vg key l;induction l with
   |nil=>simp [putL]
   |cons a l ih=>unfold putL;split <;> simp <;> omega
  refine aj (sS ..) (aw (hlen _ _ _) ?_);show _<=2 ^ 24+1;omega
 ·exact ar (h _ _)
def kC.S0(prog:dJ)(w:ee)(A:bh)(f:ay)(name:bb)(v:ai)(tk:HR)(R:wz->aq->Prop):Prop:=∀{s:aq} {fd:cg} {o:Option ay} (hx:s.heap.get? f=ae (ei fd o)) (hn:kc name) (h:aS (aX prog w) A.in1 (instanceDict f aJ) (λo s1=>aS (aX prog w) A.in1 (match o with|some d=>storeInDict d (.str name tk) name v|none=>noDictFor (.ref f) (.type "function") name aH)
 (λfin s'=>match fin with| .done f=>R (.ok f) s'| .again c'=>c'.quiet=aJ/\iV (aX prog w) A c' R s') (λe s'=>R (.error e) s') s1) (λe s'=>R (.error e) s') s),iV (aX prog w) A (.call (.builtin "object.__setattr__") ⟨[.ref f,.str name tk,v],[]⟩) R s
namespace kC
@[irreducible] def e0:=Nr sV E6 Fq cL inferInstance gL inferInstance s7 S0
def cT:=e0.1
def w_:=e0.2.1
def A_:=e0.2.2.1
def f_:=e0.2.2.2.1
def iz:=e0.2.2.2.2.1
def v_:=e0.2.2.2.2.2.1
def tk_:=e0.2.2.2.2.2.2.1
def R_:=e0.2.2.2.2.2.2.2
theorem T0:S0 cT w_ A_ f_ iz v_ tk_ R_:=by
 intro s fd o hx hn h;have SF:=TB;obtain ⟨hp,g,d,t,os⟩:=s;have t1:iL (aX cT w_) hp (jU (.ref f_)) (.type "function"):=(sr hx).andThen .now;have ln:iL (aX cT w_) hp (iQ (.type "function") iz) av:=fe hn;have lm:=Ox (M:=aX cT w_) (h:=hp);refine jj SF.slot.plain SF.entry (@rx (aX cT w_) _ _ ⟨hp,g,d,t,os⟩ "object.__setattr__" "object" "__setattr__" (.ref f_) [.str iz tk_,v_] [] _ SF.kind SF.split (t1.andThen K8) (SF.args (.ref f_) (.str iz tk_) v_) ?_);refine aj (osa_eq ..) ?_;have rf:iL (aX cT w_) hp (refuseIfOverridden (.ref f_) "__setattr__") ():=by refine aj (refuse_eq ..) (t1.andThen (lm.andThen ?_));refine fe ?_;kernel_rfl
 have st:iL (aX cT w_) hp (storeTaker? av) av:= .now;refine ag (rf.at (ag (t1.at (ag (ln.at (ag (st.at ?_)))))));dsimp only;show aS _ _ (do ownStreamTells (.ref f_) (.type "function");if ((lX "function" == .type "module")=aJ) then _ else _) _ _ _;refine ag (ar ?_);exact aj (if_neg (by decide) ..) (ag h)
end kC
theorem kC{tk:HR}{R:wz->aq->Prop}:kC.S0 prog w A f name v tk R:=by with_unfolding_all exact Bx _ _ _ _ _ _ _ _ kC.S0 @kC.T0 prog w A f name v tk R
theorem Ld{tk:HR}{R:wz->aq->Prop}(hx:s.heap.get? f=ae (ei fd (ae dx)))(D:s.heap.get? dx=ae (i3 es n))(hn:kc name)(hr:es.any (·.refKey)=aH)(hz:es.length<=500)
 (h:∀(vg:Int) nx,R (.ok (.ret .none)) {s with heap:=s.heap.update dx (oj name vg (.str name nx) v),toks:=s.toks+1}):
 iV (aX prog w) A (.call (.builtin "object.__setattr__") ⟨[.ref f,.str name tk,v],[]⟩) R s:=by
 refine kC hx hn ?_;delta instanceDict;refine ag (pH hx ?_);exact ar (Hp D hr hz h)
theorem IG{tk:HR}{R:wz->aq->Prop}(hx:s.heap.get? f=ae (ei fd av))(hn:kc name)
 (h:∀h' e,h'.get? f=ae (ei fd (ae s.heap.objs.size))->(∃n,h'.get? s.heap.objs.size=ae (i3 [e] n))->(∃nx,e.key= .str name nx)->e.val=v->(∀b o,b≠f->s.heap.get? b=ae o->h'.get? b=ae o)->R (.ok (.ret .none)) {s with heap:=h',toks:=s.toks+1}):
 iV (aX prog w) A (.call (.builtin "object.__setattr__") ⟨[.ref f,.str name tk,v],[]⟩) R s:=by
 refine kC hx hn ?_;delta instanceDict;refine ag (pH hx ?_);dsimp only;refine aj (show (!aJ || !typeHasDict (.type "function"))=aH from by decide+kernel) ?_;refine aj (if_neg (by decide) ..) ?_;refine ag (vm (ag ?_));have hx1:=az {cls:= .type "dict",data:= .dict #[]} hx;have iP:s.heap.objs.size≠f:=jJ (bN hx);refine wpAny_update hx1 ?_;have PH:((s.heap.push {cls:= .type "dict",data:= .dict #[]}).update f λo=>{o with dict:=ae s.heap.objs.size}).get? f=ae (ei fd (ae s.heap.objs.size)):=bS _ hx1 rfl;have hd2:((s.heap.push {cls:= .type "dict",data:= .dict #[]}).update f λo=>{o with dict:=ae s.heap.objs.size}).get? s.heap.objs.size=ae (i3 [] 0):=(iF _ _ (gf iP)).trans (aW _ rfl);delta dictMade;dsimp only;refine aj (show finalisedInACycleAlone "function"=aH from by decide+kernel) ?_;refine aj (if_neg (by decide) ..) ?_;refine ar (Hp (s:={s with heap:=(s.heap.push {cls:= .type "dict",data:= .dict #[]}).update f λo=>{o with dict:=ae s.heap.objs.size}}) hd2 rfl (by decide) λvg nx=>?_);have hs:=bY ((s.heap.push {cls:= .type "dict",data:= .dict #[]}).update f λo=>{o with dict:=ae s.heap.objs.size}) s.heap.objs.size (oj name vg (.str name nx) v);refine h _ ⟨vg,.str name nx,v⟩ (hs.extBut _ _ (gf iP) PH) ⟨_,(bS _ hd2 (by refine aj (mR ..) ?_;rfl)).trans (congrArg ae (mR ..))⟩ ⟨nx,rfl⟩ rfl λb o hb hk=>?_;have TZ:b≠s.heap.objs.size:=λe=>by rw [e] at hk;exact absurd (bN hk) (zG _)
 exact hs.extBut _ _ TZ ((iF _ _ (gf hb)).trans (az _ hk))
end
section
variable {f:ay}{fd:cg}
theorem ym{o:Option ay}{Q:Unit->aq->Prop}(hx:s.heap.get? f=ae (ei fd o))
 (h:iV (aX prog w) A (.call (.builtin "object.__setattr__") ⟨[.ref f,.str name s.toks,v],[]⟩) (λr s'=>match r with| .ok (.ret _)=>Q () s'| .ok _=>False| .error e=>E e s') {s with toks:=s.toks+1}):
 aS (aX prog w) A (setAttr (.ref f) name v) Q E s:=by
 have t1:iL (aX prog w) s.heap (jU (.ref f)) (.type "function"):=(sr hx).andThen .now;have hs:=RO (M:=aX prog w) (h:=s.heap);refine ag (JG (ag (ag (ag (t1 _ _ _ _ (λy y e=>e) (hs _ _ _ _ (λy y e=>e) (bE ?_)))))));refine aj (TB.slot.bind ..) (ag (ar (ag (eF (codeAny_mono h λr s' z=>?_)))));rcases r with e|(v|_|_|_) <;> first|exact z|exact ar (ar z)
end
noncomputable def tK(f dx:ay)(fd:cg)(fs:List (bb×V)):cX where
 own:=[f,dx]
 sat:=λZ h=>h.get? f=ae (ei fd (ae dx))/\∃es n,h.get? dx=ae (i3 es n)/\gM Z es fs
 mono:=λZ Z' h hz ⟨a,es,n,b,c⟩=>⟨a,es,n,b,c.mono hz⟩
 loc:=λZ h h' ⟨a,es,n,b,c⟩ hk _ _=>⟨hk f (by exact aa) _ a,es,n,hk dx (by exact ab _ aa) _ b,c⟩
 live:=λZ h ⟨a,es,n,b,c⟩ y hy=>by
  simp at hy;rcases hy with rfl|rfl
  ·exact ⟨_,a⟩
  ·exact ⟨_,b⟩
section
variable {a:bH}{f:ay}{fd:cg}
theorem Lf(hn:kc name)(ho:PE k mu env o (.ref f))(hm:tK f dx fd fs∈mu)(hnd:(fs.map (·.1)).Nodup)(hq:(name,y)∈fs)(hy:∀n,y≠ .bi n)
 (he:autoParam (dW (.Attribute o name p) env=(do let ov <- dW o env;iE p.atName;let r <- eW [ov] (sZ ov name aJ);pD o ov r;dg r)) aR):PE k mu env (.Attribute o name p) y:=⟨λ{A E Z s fr Q} hA r q=>by
 refine gZ ?_ he;refine ho.c hA r λ{ov s1 Z1} z1 q1 r1=>aj (aZ.refE q1 ..) (uz (r1.sat _ (aE fr hm)) λhx es n D he=>?_);exact aK (he.some hnd hq) λv hv hr=>mv hx D hv hn (m7 hr hy) (q z1 hr r1.toks)⟩
theorem yn(hn:kc name)(ho:PE k mu env o (.ref f))(hi:mu[i]? =ae (mj f (ei fd av))){Ψ:Mu->Prop}(h:∀dx,Ψ (mu.set i (tK f dx fd [(name,y)])))
 (he:autoParam (∀v,wu (.Attribute o name p) env v=(do let ov <- eW [v] (dW o env);iE p.atName;eW [v,ov] (setAttr ov name v);release [v,ov] [])) aR):mJ k mu env (.Attribute o name p) y Ψ:=⟨λ{A E Z s fr v Q} hA r hv q=>by
 refine aj (he ..) (ag (bE (ho.c hA r λ{ov s1 Z1} z1 q1 r1=>?_)));refine aj (aZ.refE q1 ..) (ag (iH (ag (bE ?_))));have hi':=cG (fr:=fr) hi;have hx:s1.heap.get? f=ae (ei fd av):=r1.sat _ (ao hi');refine ym hx (IG (s:={s1 with toks:=s1.toks+1}) hx hn λh' e h1 ⟨n,h2⟩ ⟨nx,h3⟩ h4 h5=>?_);refine wpAny_release (q z1 (gE hi▸r1.swap (tk:=s1.toks+1+1) hi' (tK f s1.heap.objs.size fd [(name,y)]) (λb o hb e=>h5 b o (λq=>hb (q▸aa)) e) ⟨h1,[e],n,h2,⟨nx,h3⟩,by refine aj (h4 ..) ?_;exact hv.mono z1,trivial⟩ ?_ ?_) (h s1.heap.objs.size))
 ·exact cj.mpr ⟨λhm=>c8 (bN hx) (aA.mp hm),eh⟩
 ·exact λb hb=>(aP.mp hb).elim (λe=> .inl (e▸aa)) λhb=> .inr (kX hb)⟩
theorem II(hn:kc name)(ho:PE k mu env o (.ref f))(hi:mu[i]? =ae (tK f dx fd fs))(hl:fs.length<=500){Ψ:Mu->Prop}(h:Ψ (mu.set i (tK f dx fd (zQ fs name y))))
 (he:autoParam (∀v,wu (.Attribute o name p) env v=(do let ov <- eW [v] (dW o env);iE p.atName;eW [v,ov] (setAttr ov name v);release [v,ov] [])) aR):mJ k mu env (.Attribute o name p) y Ψ:=⟨λ{A E Z s fr v Q} hA r hv q=>by
 refine aj (he ..) (ag (bE (ho.c hA r λ{ov s1 Z1} z1 q1 r1=>?_)));refine aj (aZ.refE q1 ..) (ag (iH (ag (bE ?_))));have hi':=cG (fr:=fr) hi;refine uz (r1.sat _ (ao hi')) λhx de n D GF=>?_;have iP:f≠dx:=λe=>(cj.mp (r1.ownNodup hi')).1 (aA.mpr e);refine ym hx (Ld (s:={s1 with toks:=s1.toks+1}) hx D hn GF.noRef (GF.len▸hl) λvg nx=>?_);have hs:=bY s1.heap dx (oj name vg (.str name nx) v);exact wpAny_release (q z1 (gE hi▸r1.upd' (x':=tK f dx fd (zQ fs name y)) hi' rfl (λb o hb e=>hs.extBut b o (λq=>hb (q▸ab _ aa)) e) ⟨hs.extBut _ _ iP hx,_,_,(bS _ D (by refine aj (mR ..) ?_;rfl)).trans (congrArg ae (mR ..)),GF.put (hv.mono z1)⟩) h)⟩
theorem Lg{fd':cg}{lam:ay}{ob:oY}{pl:oZ Bool}(hn:kc name)(ho:PE k mu env o (.ref f))(hm:tK f dx fd fs∈mu)(hnd:(fs.map (·.1)).Nodup)(hq:(name,V.ref lam)∈fs)
 (ha:Dq k mu env (a::es) λys nu=>(Kn nu λhp=>hp.get? lam=ae ob)/\ob.data= .func fd'/\FW k nu (.ref lam) ys Φ) (wo:autoParam (kh (a::es)=aJ) aR)
 (he:autoParam (dW (.Call (.Attribute o name apos) (a::es) [] pos) env=(do let ov <- dW o env;iE apos.atName;let (f,first) <- eW [ov] (mB ov name pl);pC pos f first (lj pos (fo (a::es) env)) [])) aR):
 WE k mu env (.Call (.Attribute o name apos) (a::es) [] pos) Φ:=⟨λ{A E Z s fr Q} hA r q=>by
 refine i5 (pl:=pl) ?_ he;refine ho.c hA r λ{ov s1 Z1} z1 q1 r1=>aj (aZ.refE q1 ..) (uz (r1.sat _ (aE fr hm)) λhx de n D GF=>?_);refine aK (GF.some hnd hq) λv hv hr=>?_;rw [aZ.refE hr] at hv;have t1:iL (aX G.prog G.w) s1.heap (jU (.ref f)) (.type "function"):=(sr hx).andThen .now;delta mB mA;refine ag (ag (t1.here (K7.here ?_)));dsimp only;refine aj (PySem.F.canon_object_ga ..) ?_;refine aj (if_neg (by decide) ..) ?_;refine ag (ag (t1.here (RP.here ?_)));refine ag (ag (t1.here ((fe hn).here ?_)));refine ag (mv hx D hv hn rfl (ar ?_));exact G9 (ob:=ob) (fd:=fd') (first:=[]) ha wo hA r1.toks λ{z z z z z} z2 q2 r2 w=>⟨⟨w.1.app r2,w.2.1⟩,w.2.2.c hA r2 q2 λ{z z z z z} z3=>q (z1.trans (z2.trans z3))⟩⟩
end
end
section
open Builtin
structure DT(G:Gd)(c P:ay):Prop where
 hd:∀h:dG,(∀a o,G.Z0 a=ae o->h.get? a=ae o)->CodeHd h c P
 bt:∀h:dG,(∀a o,G.Z0 a=ae o->h.get? a=ae o)->h.BuiltinsAt G.mg P
 ne:vj≠P
noncomputable abbrev zS:=Nat×Nat×ay×bb
noncomputable def ri:List zS->List ai
 |[]=>[]
 |(a,b,c,_)::l=>pB a::pB b:: .ref c::ri l
theorem AP:∀(l m:List zS),ri (l++m)=ri l++ri m
 |[],_=>rfl
 |(a,b,c,_)::l,m=>by simp [ri,AP l m]
theorem yo:∀l:List zS,TriplesOk (ri l)
 |[]=>trivial
 |(a,b,c,_)::l=>yo l
theorem CodeRec.at{h h':dG}{c:ay}{q:bb}(x:h.CodeRec (.ref c) q)(hk:∀o,h.get? c=ae o->h'.get? c=ae o):h'.CodeRec (.ref c) q:=by refine cq x λc' oc vs t hc h1 h2=>?_;clear x;cases hc;exact ⟨c,oc,vs,t,rfl,hk _ h1,h2⟩
theorem CodeRec.live{h:dG}{c:ay}{q:bb}(x:h.CodeRec (.ref c) q):∃o,h.get? c=ae o:=by refine cq x λc' oc vs t hc h1 h2=>?_;clear x;cases hc;exact ⟨_,h1⟩
noncomputable def gG(P:ay)(l:List zS):cX where
 own:=P::l.map (·.2.2.1)
 sat:=λZ h=>h.get? P=ae (tabObj (ri l).toArray)/\∀q∈l,h.CodeRec (.ref q.2.2.1) q.2.2.2
 mono:=λz z z z a=>a
 loc:=λZ h h' ⟨a,b⟩ hk _ _=>⟨hk P aa _ a,λq hq=>CodeRec.at (b q hq) λo ho=>hk _ (ab _ (aG.mpr ⟨q,hq,rfl⟩)) o ho⟩
 live:=λZ h ⟨a,b⟩ c hc=>by
  rcases aP.mp hc with rfl|hc
  ·exact ⟨_,a⟩
  ·refine aK (aG.mp hc) λq hq dO=>?_;subst dO;exact CodeRec.live (b q hq)
noncomputable abbrev yp(qual:bb)(params:CV)(body:bH)(scope:eN)(clos:List (bb×ay))(c:ay)(ct:ai):cg:=kla_fn "<lambda>" qual params body scope clos ((G.mg "__name__").getD .none) (.ref c) ct
section
variable {c P:ay}{params:CV}{body:bH}{scope:eN}{clos:List (bb×ay)}{l:List zS}
theorem Kn.code{q:zS}(h:gG P l∈mu)(hq:q∈l):Kn mu λhp=>hp.CodeRec (.ref q.2.2.1) q.2.2.2:=λZ s r=>(r.sat _ h).2 q hq
theorem DU(hn:defaultsOf params env=([],[])):dW (.Lambda params body scope pos) env=makeFunction "<lambda>" (env.qual++"<lambda>") params (.expr body) scope env [] [] [] pos pos.line:=by (refine aj (arm_eval_Lambda ..) ?_;refine aj (hn ..) ?_);rfl
theorem Ca(he:du env)(hc:env.code= .ref c)(LA:DT G c P)(B:g7 G)(hi:mu[i]? =ae (gG P l))(Cw:codeAmong pos (ri l)=av)(hcl:closureFor scope env=dg clos)(hn:defaultsOf params env=([],[]))
 (h:∀f c' ct,Φ (.ref f) (mj f (ei (yp (env.qual++"<lambda>") params body scope clos c' ct) av)::mu.set i (gG P (l++[(pos.line,pos.col,c',env.qual++"<lambda>")])))):WE k mu env (.Lambda params body scope pos) Φ:=⟨λ{A E Z s fr Q} hA r q=>by
 refine aj (DU hn ..) ?_;have hi':=cG (fr:=fr) hi;refine dU (r.sat _ (ao hi')) λhP QL=>kla_makeFunction (mg:=G.mg) hcl he.globals (B.g _ r.z0in) hc (LA.hd _ r.z0in) hP (by refine aj (gQ ..) ?_;exact yo l) (by refine aj (gQ ..) ?_;exact Cw) LA.ne (LA.bt _ r.z0in) λc' ctv h' tk hx hge hlt hrec QK=>?_;have qc:(P::l.map (·.2.2.1)).Nodup:=r.ownNodup hi';have PK:∀b∈P::l.map (·.2.2.1),b < s.heap.objs.size:=λb hb=>(aP.mp hb).elim (λe=>e▸bN hP) λhb=>by
  refine aK (aG.mp hb) λq hq eU=>?_;subst eU;exact (CodeRec.live (QL q hq)).elim λz ho=>bN ho
 have SY:∀b o,b≠P->s.heap.get? b=ae o->(h'.push (kla_obj "<lambda>" (env.qual++"<lambda>") params body scope clos ((G.mg "__name__").getD .none) c' ctv)).get? b=ae o:=λb o hb e=>az _ (hx b o hb e);have hnd:(P::(l++[(pos.line,pos.col,c',env.qual++"<lambda>")]).map (·.2.2.1))=(P::l.map (·.2.2.1))++[c']:=by refine aj (bj ..) ?_;rfl
 have rc:=r.swap (tk:=tk) hi' (gG P (l++[(pos.line,pos.col,c',env.qual++"<lambda>")])) (λb o hb e=>SY b o (λq=>hb (q▸aa)) e) ⟨az _ (QK.trans (by refine aj (AP ..) ?_;simp [ri])),λq hq=>?_⟩ ?_ λb hb=>?_
 ·have hsz:s.heap.objs.size < h'.objs.size:=b7 hge hlt;rw [gE hi] at rc;refine q .rfl (.ref _) (rc.add (mj h'.objs.size (ei (yp (env.qual++"<lambda>") params body scope clos c' ctv) av)) (aW _ rfl) eh λb hb=>?_) (h h'.objs.size c' ctv);refine aj (aA.mp hb ..) (⟨λhm=>?_,r.fresh (eB hsz)⟩);refine aK (bG.mp hm) λx hx1 PH=>?_;rw [<- gE (fr:=fr) hi] at hx1;rcases List.mem_or_eq_of_mem_set hx1 with hx1|rfl
  ·exact r.notOwn (eB hsz) (bG.mpr ⟨x,hx1,PH⟩)
  ·rcases bc.mp (show h'.objs.size∈(P::l.map (·.2.2.1))++[c'] from hnd▸PH) with hm|hm
   ·exact Nat.lt_asymm hsz (PK _ hm)
   ·exact zG _ (aA.mp hm▸hlt)
 ·rcases bc.mp hq with hq|hq
  ·exact CodeRec.at (QL q hq) λo ho=>SY _ o (λe=>(cj.mp qc).1 (e▸aG.mpr ⟨q,hq,rfl⟩)) ho
  ·exact aj (aA.mp hq ..) (CodeRec.at hrec λo ho=>az _ ho)
 ·show (P::(l++[(pos.line,pos.col,c',env.qual++"<lambda>")]).map (·.2.2.1)).Nodup;refine aj (hnd ..) ?_;refine gj (bP ..) ?_;exact ⟨qc,eh,λa ha b hb e=>Jq.mpr hge ((e.trans (aA.mp hb))▸PK a ha)⟩
 ·exact (bc.mp (show b∈(P::l.map (·.2.2.1))++[c'] from hnd▸hb)).elim .inl λh=> .inr (aA.mp h▸hge)⟩
theorem AQ{c':ay}(he:du env)(hc:env.code= .ref c)(LA:DT G c P)(B:g7 G)(hi:gG P l∈mu)(hf:codeAmong pos (ri l)=ae (.ref c'))(hcl:closureFor scope env=dg clos)(hn:defaultsOf params env=([],[]))
 (h:∀f ct,Φ (.ref f) (mj f (ei (yp (env.qual++"<lambda>") params body scope clos c' ct) av)::mu)):WE k mu env (.Lambda params body scope pos) Φ:=⟨λ{A E Z s fr Q} hA r q=>by
 refine aj (DU hn ..) (dU (r.sat _ (aE fr hi)) λhP QL=>?_);refine kla_makeFunctionHit (mg:=G.mg) hcl he.globals (B.g _ r.z0in) hc (LA.hd _ r.z0in) hP (by refine aj (gQ ..) ?_;exact yo l) (by refine aj (gQ ..) ?_;exact hf) (LA.bt _ r.z0in) λctv h' tk hk hsz=>?_;exact q .rfl (.ref _) (r.addNew (tk:=tk) _ (λb o e=>az _ (hk b o e)) (aW _ rfl) eh λb hb=>by refine aj (aA.mp hb ..) ?_;exact hsz) (h h'.objs.size ctv)⟩
end
end
section
variable {ctx:Mu}{D:ay}
theorem Lh{scope:eN}{cl:List (bb×ay)}{elt iter:bH}{spos:jB}(J:Nat->List V->Mu->Prop)(sc:E7 scope env cl)(src:o8 k mu env iter t ctx xs)(hk:1<=k)(hsz:xs.length<=2 ^ 21)(h0:J 0 [] mu)(qX:∀i ys nu,J i ys nu->∀o∈ctx,o∈nu)(hlen:∀i ys nu,J i ys nu->ys.length=i)
 (turn:∀C D i x ys nu,xs[i]? =ae x->J i ys nu->∃bz,mJ k (uG scope C::nu) (o9 scope cl C env) t x (λrq=>rq=nD scope C bz::nu)/\
  WE k (nD scope C bz::bl D ys::nu) (o9 scope cl C env) elt λy rq=>∃nu',rq=nD scope C bz::bl D ys::nu'/\J (i+1) (ys++[y]) nu')
 (fin:∀D ys nu,J xs.length ys nu->fL D (bl D ys::nu) Φ) (hs:autoParam (∀x,bw iter env x=dg x) aR):WE k mu env (.ListComp elt [⟨t,iter,[],0⟩] scope spos) Φ:=by
 show WV k mu (dW _ _) Φ;refine aj (eval_ListComp ..) (xA (g:=⟨t,iter,[],0⟩) rfl hs sc uH src λC D=>?_);refine rD Ki hk rfl rfl
  (λi nu=>∃ys nu',nu=uG scope C::bl D ys::nu'/\J i ys nu') ⟨[],mu,rfl,h0⟩ (λi nu ⟨ys,nu',e1,hJ⟩ o ho=>by refine aj (e1 ..) ?_;exact ab _ (ab _ (qX i ys nu' hJ o ho))) (λi x nu hx ⟨ys,nu',e1,hJ⟩=>?_) (λnu ⟨ys,nu',e1,hJ⟩=>⟨_,_,e1,fin D ys nu' hJ⟩)
 subst e1;refine aK (turn C D i x ys nu' hx hJ) λbz h1 h2=>mJ.mid (h1.mono λnu e=>⟨_,e,?_⟩);refine ⟨aJ,dk,λhb=>(JX hb),λz it=>?_⟩;refine Wu.weak (Ψ:=λnu=>∃y xh,nu=nD scope C bz::bl D (ys++[y])::xh/\J (i+1) (ys++[y]) xh) (WU.bf (vL (i:=1) (ys:=ys) (h2.mono λy rq ⟨xh,e1,Ua⟩=>?_))) λnu ⟨y,xh,e1,Ua⟩=>⟨_,e1▸Le.forget,ys++[y],xh,rfl,Ua⟩
 subst e1;refine ⟨rfl,?_,y,xh,rfl,Ua⟩;have:=hlen i ys nu' hJ;have hi:=(aB.mp hx).1;lia
theorem Li(h:∀I,Φ (.ref I) (mT I xs::mu)):BR k mu (.builtin "iter") [bZ (.list xs)] Φ:=⟨λ{A E Z s fr vs Q} hA r hq q=>by
 refine aK (hq.one) λv dO q1=>?_;subst dO;refine cE (rh.list q1) λa ws n eU e1 hr=>?_;subst eU;refine gv (by decide+kernel) (by decide+kernel) kdk_entry_iter (kdk_args_iter _) ?_;unfold Builtin.«iter»;refine ag (m:=CI "iter" 1 2 _) (cM (a:=[cY a]) (by first|rfl|kernel_rfl!) ?_);show aS _ _ (q8 (.ref a) >>=_) _ _ s;refine ag (lr (⟨_,r.zin _ _ e1,rfl,n,rfl⟩:s.heap.IsList a ws) ?_);exact ar ⟨_,rfl,q .rfl (.ref _) (r.addNew (tk:=s.toks) (mT s.heap.objs.size xs) (λb o e=>az _ e) ⟨a,ws,n,0,⟨_,aW _ rfl,rfl,rfl⟩,e1,hr⟩ eh λz h=>kX h) (h _)⟩⟩
theorem Lj{b:Array UInt8}(h:∀I,Φ (.ref I) (jL I (b.toList.map pJ)::mu)):BR k mu (.builtin "iter") [bZ (.bytes b)] Φ:=⟨λ{A E Z s fr vs Q} hA r hq q=>by
 refine aK (hq.one) λv gi q1=>?_;subst gi;refine cJ (aZ.is q1) λt iC=>?_;subst iC;refine gv (by decide+kernel) (by decide+kernel) kdk_entry_iter (kdk_args_iter _) ?_;unfold Builtin.«iter»;refine ag (m:=CI "iter" 1 2 _) (cM (a:=[CJ b t]) (by first|rfl|kernel_rfl!) ?_);show aS _ _ (q8 (.bytes b t) >>=_) _ _ s;refine ag (KBw.pyIter_bytes ?_);exact ar ⟨_,rfl,q .rfl (.ref _) (r.addNew (tk:=s.toks) (jL s.heap.objs.size (b.toList.map pJ)) (λb o e=>az _ e) ⟨b,t,0,⟨_,aW _ rfl,rfl,rfl⟩,rfl⟩ eh λz h=>kX h) (h _)⟩⟩
theorem Lk{Z:bI}{vs:List ai}{ns:List Int}(h:bW G Z vs (ns.map V.int)):uj vs ns:=by
 induction ns generalizing vs with
 |nil=>cases h;exact .nil
 |cons n ns ih=>
  cases h with
  |cons a r=>exact aZ.intC a λt=> .cons _ _ (ih r)
theorem Ll{ns:List Int}(hr:∀n∈ns,0<=n/\n < 256)(hl:ns.length<=2 ^ 20):Fn k mu (.type "bytes") [me mu (ns.map V.int)] (bZ (.bytes (JH ns))):=⟨λ{A E Z s fr vs Q} hA r hq q=>by
 refine aK (hq.one) λv kG q1=>?_;subst kG;refine cE (me.at q1 r) λa ws n ma h1 h2=>?_;subst ma;exact call_bytes_ints (vs:=ws.toList) (⟨_,h1,rfl,n,rfl⟩:s.heap.IsList a ws.toList.toArray) (Lk h2) hr (by (refine aj (h2.length ..) ?_;refine aj (ak ..) ?_);exact aw hl (show 2 ^ 20<=2 ^ 24 by decide)) hA.hh λh' t k' hk=>q .rfl (.bytes _ _) (r.keep (tk:=k') hk)⟩
end
section
variable {P:Vw}{ctx:Mu}{D:ay}
structure DV(G:Gd)(a c:ay)(st:ed):Prop where
 go:∃ob pm doc,G.Z0 a=ae ob/\ob.data= .func (mz (md st) (wD st) (fR st) (bk st) pm (.ref c) doc)/\∀h:dG,(∀a o,G.Z0 a=ae o->h.get? a=ae o)->h.CodeRec (.ref c) (md st)
theorem RQ(H:Hy G){a c:ay}{st:ed}(F:DV G a c st){names:List bb}{vals':ay->d9}
 (i0:∀pm cd doc vs,vs.length=xs.length->pG (xx st pm cd doc) ⟨vs,[]⟩=dg (names.zip vs)) (hnd:(aM 0 (bk st).names).nd) (hk:(bk st).kind= .function)
 (hb:∀pm cd doc L,i9 (dT (xx st pm cd doc) a L) L (aM (L+1) (bk st).names) names xs (nones (aM (L+1) (bk st).names)) (vals' L))
 (h:∀pm doc L,du (dT (xx st pm (.ref c) doc) a L)->WS k (bq L (aM (L+1) (bk st).names) (vals' L)::mu) (dT (xx st pm (.ref c) doc) a L) (fR st) (lE Φ)) (wm:autoParam ((bk st).isCoroutine=aH) aR) (mP:autoParam ((bk st).isGenerator=aH) aR):
 FW (k+1) mu (.ref a) xs Φ:=by
 exact cE (F.go) λob pm doc h0 hd hcd=>Kx H.B (names:=names) (vals':=vals') (Kn.z0 h0) hd (λZ s r=>hcd _ r.z0in) rfl (i0 pm _ doc) hnd (λL=>⟨hk,rfl,rfl⟩) (hb pm _ doc) (λL=>h pm doc L ⟨hk,rfl,rfl⟩) wm mP
theorem DW{id T:String}{name:bb}(ho:EV k mu env o P)(ht:Ty mu P T)(ha:Dq k mu env (e::es) λys nu=>∃Ps y,(∀Z vs,bW G Z vs ys->j3 Z vs Ps)/\Fn k nu (.builtin id) (P::Ps) (bZ y)/\Φ y nu)(pa:zq T)(slot:Slot T name id)
 (MQ:jU (.builtin id)=dg (.type "method_descriptor")) (hl:(apos.endLine == pos.line)=aJ) (wo:autoParam (kh (e::es)=aJ) aR) (hsz:autoParam ((e::es).length < 29) aD) (sj:autoParam (rl o name env (dW o env)=dW o env) aR):
 WE k mu env (.Call (.Attribute o name apos) (e::es) [] pos) Φ:=⟨λ{z z z z z z} hA r q=>
 BL ho ht (kY wo pos) pa slot MQ hl hsz sj hA r λ{z z z} z1 q1 r1=>Hb ha wo hA r1 λz2 q2 r2 ⟨Ps,y,hc,hF,hΦ⟩=>hF.c hA r2 (.cons (P.mono _ _ _ z2 q1) (hc _ _ q2)) λ{z z z} z3 q3 r3=>q (z1.trans (z2.trans z3)) q3 r3 hΦ⟩
theorem BR.mono{f:ai}{Ps:List (Vw)}{Ψ:V->Mu->Prop}(h:BR k mu f Ps Φ)(hi:∀y nu,Φ y nu->Ψ y nu):BR k mu f Ps Ψ:=⟨λ{x x x x x x x} hA r v q=>h.c hA r v λ{x x x x x} z w r u=>q z w r (hi _ _ u)⟩
noncomputable def FY:bb:=md (cN 17)++".<locals>."++"<lambda>"
noncomputable def zT:Option (ay×ay)->List zS
 |none=>[]
 |some (a,b)=>[(200,12,a,FY),(201,17,b,FY)]
structure Lm(G:Gd):Prop where
 la:DT G 274 272
 f275:DV G 275 274 (cN 17)
noncomputable abbrev AR(L:ay)(text:bb)(f it:ay):cX:=bq L (aM (L+1) (bk (cN 17)).names) [ae (.str text),ae (.ref f),ae (.ref it)]
def FZ(lam it L f:ay)(text:bb)(ld:cg)(a b:ay):Prop:=
 ∀(k:Nat) (mu:Mu) (i:Nat),AR L text f it∈mu->mj lam (ei ld av)∈mu->gG 272 (zT (ae (a,b)))∈mu->
  (∀c xs,mu[i]? =ae (mT it (.str ⟨#[c]⟩::xs))->FW (k+2) mu (.ref lam) [.int 1] λy nu=>y= .str ⟨#[c]⟩/\nu=mu.set i (mT it xs))/\
  (mu[i]? =ae (mT it [])->FW (k+2) mu (.ref lam) [.int 1] λy nu=>y= .str ""/\nu=mu.set i (pP))
theorem IJ(c:Nat):fO "" [⟨#[c]⟩]=⟨#[c]⟩:=by rfl
noncomputable def ti(x:bb):List Int:=x.cps.toList.map fB
noncomputable def lamA:ed->CV
 | .Assign _ (.Lambda a _ _ _) _=>a
 |_=>Fo
noncomputable def lamB:ed->bH
 | .Assign _ (.Lambda _ b _ _) _=>b
 |_=> .Constant .none 0 ⟨0,0,0,0⟩
noncomputable def RU:ed->eN
 | .Assign _ (.Lambda _ _ s _) _=>s
 |_=>By
noncomputable def RV:ed:=(fR (cN 17)).getD 1 (.Pass ⟨0,0,0,0⟩)
noncomputable abbrev Qp(a:ay)(ct:ai):cg:=yp FY (lamA RV) (lamB RV) (RU RV) [] a ct
noncomputable def Oy:ed:=(fR (cN 17)).getD 2 (.Pass ⟨0,0,0,0⟩)
noncomputable abbrev rV(L b:ay)(ct:ai):cg:=yp FY (lamA Oy) (lamB Oy) (RU Oy) [("signs",L+1)] b ct
def jw.S0(L b:ay)(ct:ai)(_:Nat):Prop:=∀{it f lam a:ay} {text:bb} (H:Hy G),FZ lam it L f text (rV L b ct) a b
namespace jw
@[irreducible] def e0:=GW cL cL gL eO S0
def L_:=e0.1
def b_:=e0.2.1
def Nw:=e0.2.2.1
theorem T0:S0 L_ b_ Nw e0.2.2.2:=λ{it} {f} {lam} {a} {text} H=>λk mu i h1 h2 h3=>by
 have go:∀(y:V) (o:cX) (r:bb),(∀(HO:Mu),BR (k+1) (HO++mu) (.builtin "next") [bZ (.ref it),bZ (.str "")] λz nu=>z= .str r/\nu=HO++mu.set i o)->fO "" [r]=r->Nd "" [r]=aJ->FW (k+2) mu (.ref lam) [.int 1] λy nu=>y= .str r/\nu=mu.set i o:=λy o r hnx hj hok=>by
  refine FI H.B (names:=["size"]) (vals':=λw=>[ae (.int 1)]) (Kn.obj h2) rfl (Kn.code h3 (q:=(201,17,b_,FY)) (by exact ab _ aa)) rfl (λvs h=>?_) (by show (aM 0 (RU Oy).names).nd;decide+kernel) (λL_=>⟨rfl,rfl,rfl⟩) (λL2=>?_) (λL2=>?_)
  ·exact uM h λa=>rfl
  ·exact .cons (j:=0) .loc rfl .nil
  have he:du (dT (rV L_ b_ Nw) lam L2):=⟨rfl,rfl,rfl⟩;refine DW cO mK (cA (Lh (ctx:=[]) (xs:=[V.int 0]) (λj ys nu=>(j=0/\ys=[]/\nu=vN (rV L_ b_ Nw) L2 [ae (.int 1)]::mu)\/(j=1/\ys=[V.str r]/\nu=vN (rV L_ b_ Nw) L2 [ae (.int 1)]::mu.set i o))
   ⟨rfl,rfl,by decide+kernel,by decide+kernel⟩ (fK (n:=1) (iN H he H.b_range rfl) (ah (j:=0) he .loc aa rfl) rfl (by decide)) (by lia) (by decide) (.inl ⟨rfl,rfl,rfl⟩) (λw w w w o ho=>eo ho)
   (λj ys nu h=>by rcases h with ⟨rfl,rfl,_⟩|⟨rfl,rfl,_⟩ <;> rfl) (λC D j x ys nu hx hJ=>?_) (λD ys nu hJ=>?_))) (by exact eM) (by exact ny) (by exact nz) rfl
  ·rcases hJ with ⟨rfl,rfl,rfl⟩|⟨rfl,_,_⟩
   ·refine ⟨_,qx (j:=1) he.comp .loc,?_⟩;refine nJ (j4 H he.comp H.b_next rfl) (au (ah (j:=2) (L:=L_) (lay:=aM (L_+1) (bk (cN 17)).names) he.comp (.free (L_+1) "signs" rfl rfl rfl rfl rfl) (ab _ (ab _ (ab _ h1))) rfl) (au cO aT)) ((hnx [_,_,_]).mono λz nu ⟨e1,e2⟩=>?_);subst e1;exact ⟨_,e2,.inr ⟨rfl,rfl,rfl⟩⟩
   ·exact gK hx
  ·rcases hJ with ⟨h,_⟩|⟨_,rfl,rfl⟩
   ·cases h
   ·refine fL.list (e9 ⟨[me (vN (rV L_ b_ Nw) L2 [ae (.int 1)]::mu.set i o) [V.str r]],.str r,λZ vs hv=>?_,?_,?_⟩)
    ·cases hv with
     |cons a b_=>cases b_;exact .cons (BE a) .nil
    ·have:=G8 (k:=k+1) (mu:=vN (rV L_ b_ Nw) L2 [ae (.int 1)]::mu.set i o) (sep:="") (ts:=[r]) hok;rw [hj] at this;exact this
    ·exact jK.tail (jK.keep ⟨rfl,rfl⟩)
 refine ⟨λc xs hi=>go (.str ⟨#[c]⟩) (mT it xs) _ (λHO=>?_) (IJ c) rfl,λhi=>go (.str "") (pP) "" (λHO=>?_) rfl (by decide+kernel)⟩
 ·have hi':(HO++mu)[HO.length+i]? =ae (mT it (V.str ⟨#[c]⟩::xs)):=by (refine aj (JI (dC _ _) ..) ?_;refine aj (mF ..) ?_);exact hi
  refine KW (i:=HO.length+i) hi' ⟨rfl,?_⟩;refine aj (QU _ _ (dC _ _) ..) ?_;refine aj (mF ..) ?_;rfl
 ·have hi':(HO++mu)[HO.length+i]? =ae (mT it []):=by (refine aj (JI (dC _ _) ..) ?_;refine aj (mF ..) ?_);exact hi
  refine Iv (i:=HO.length+i) hi' ⟨rfl,?_⟩;refine aj (QU _ _ (dC _ _) ..) ?_;refine aj (mF ..) ?_;rfl
end jw
theorem jw{L b:ay}{ct:ai}:jw.S0 L b ct 0:=by with_unfolding_all exact vz _ _ _ _ jw.S0 @jw.T0 L b ct 0
noncomputable abbrev Ln(pm doc:ai)(L:ay):gP:=dT (xx (cN 17) pm (.ref 274) doc) 275 L
theorem yq(H:Hy G){pm doc:ai}{L f dx lam:ay}{gd ld:cg}{text:bb}(he:du (Ln pm doc L))(hs:∀c∈text.cps.toList,c < 256)(hl:text.cps.size<=2 ^ 20){Φ:V->Mu->Prop}
 (hΦ:Φ (.ref f) (mj lam (ei ld av)::tK f dx gd [("read",.ref lam),("co_exceptiontable",.bytes (JH (ti text)))]::mT it (nC text)::AR L text f it::mu)):
 WS (k+1) (mj lam (ei ld av)::tK f dx gd [("read",.ref lam)]::mT it (nC text)::AR L text f it::mu) (Ln pm doc L) ((fR (cN 17)).drop 3) (lE Φ):=by
 have h3:∀{a b c d:cX} {l:Mu},d∈a::b::c::d::l:=ab _ (ab _ (ab _ aa));refine aC (bX (iZ (S:=bZ (.bytes (JH (ti text)))) (iN H he H.b_bytes rfl) (au (dD (jP text.cps.toList (λc=> .str ⟨#[c]⟩) (λ(c:Nat)=> .int (c:Int)) ⟨rfl,rfl,by decide+kernel,by decide+kernel⟩ (N6 (ah (j:=0) he .loc h3 rfl)) (by lia) (by exact aw hl (by decide)) (λC1 a ha=>iu 1 he.comp .loc dk (λhb=>(ek (j4 H he.comp H.b_ord rfl) (au (ah (j:=1) he.comp .loc aa rfl) aT) Ro))))) aT) ?_)
  (II (i:=1) wN (ah (j:=1) he .loc h3 rfl) rfl (by show 1<=500;decide) ?_) rfl rfl)
 ·have:=Ll (k:=k+1) (mu:=mj lam (ei ld av)::tK f dx gd [("read",.ref lam)]::mT it (nC text)::AR L text f it::mu) (ns:=ti text) (λn hn=>by
   refine aK (aG.mp hn) λc hc dO=>?_;subst dO;have:=hs c hc;exact ⟨dI _,by show (c:Int) < 256;lia⟩) (by unfold ti;simpa using hl)
  rw [show (ti text).map V.int=text.cps.toList.map λ(c:Nat)=>V.int (c:Int) from by unfold ti;refine aj (a0 ..) ?_;rfl] at this;exact this
 ·refine aC (gw (cf (ah (j:=1) he .loc h3 rfl) (jK.keep hΦ)))
def m8.S0(k:Nat)(mu:Mu)(i:Nat)(text:bb):Prop:=∀{o:Option (ay×ay)} (H:Hy G) (GH:Lm G) (hi:mu[i]? =ae (gG 272 (zT o))) (hs:∀c∈text.cps.toList,c < 256) (hl:text.cps.size<=2 ^ 20),FW (k+2) mu (.ref 275) [.str text] λy nu=>∃f dx lam it L gd ld a b,y= .ref f/\(∀q,o=ae q->q=(a,b))/\FZ lam it L f text ld a b/\
 nu=mj lam (ei ld av)::tK f dx gd [("read",.ref lam),("co_exceptiontable",.bytes (JH (ti text)))]::mT it (nC text)::AR L text f it::mu.set i (gG 272 (zT (ae (a,b))))
namespace m8
@[irreducible] def e0:=GW eO gD eO inferInstance S0
def k_:=e0.1
def fb:=e0.2.1
def i_:=e0.2.2.1
def Qq:=e0.2.2.2
theorem T0:S0 k_ fb i_ Qq:=by
 intro o H GH hi hs hl;refine RQ H GH.f275 (names:=["text"]) (vals':=λL=>[ae (.str Qq),av,av]) (λpm cd doc vs h=>?_) (by decide+kernel) rfl (λpm cd doc L=>?_) (λpm doc L he=>?_)
 ·exact uM h λa=>rfl
 ·exact .cons (j:=0) .loc rfl .nil
 refine aC (b4 (nJ (j4 H he H.b_iter rfl) (au (iZ (iN H he H.b_list rfl) (au (ah (j:=0) he .loc aa rfl) aT) (Ib (by show _<=2 ^ 24;exact aw (by assumption) (by decide)))) aT) (Li λI=>aQ (i:=1) (j:=2) he (.cell (L+1) "signs") rfl ?_)) rfl rfl);cases o with
 |none=>
  refine aC (b4 (Ca (i:=i_+2) he rfl GH.la H.B hi rfl rfl rfl λf c' ct=>aQ (i:=2) (j:=1) he .loc rfl ?_) rfl rfl);have Uc:(fb.set i_ (gG 272 (zT av++[(200,12,c',FY)])))[i_]? =ae (gG 272 [(200,12,c',FY)]):=by refine aj (eA (aB.mp hi).1 ..) ?_;rfl
  refine aC (b4 (Ca (i:=i_+3) he rfl GH.la H.B Uc rfl rfl rfl λlam c2 ct2=>yn (i:=1) qF (ah (j:=1) he .loc (ab _ (ab _ (ab _ aa))) rfl) rfl λdx=>?_) rfl rfl);refine yq H he hs hl ⟨f,dx,lam,I,L,Qp c' ct,rV L c2 ct2,c',c2,rfl,(λq e=>gK e),jw H,?_⟩;show _::_::_::_::(fb.set i_ _).set i_ _=_;refine aj (vb ..) ?_;rfl
 |some q=>
  obtain ⟨a,b⟩:=q;have hm:=ao hi;have m2:∀{x y:cX},gG 272 (zT (ae (a,b)))∈x::y::fb:=ab _ (ab _ hm);have m3:∀{x y z:cX},gG 272 (zT (ae (a,b)))∈x::y::z::fb:=ab _ m2;refine aC (b4 (AQ he rfl GH.la H.B m2 rfl rfl rfl λf ct=>aQ (i:=2) (j:=1) he .loc rfl ?_) rfl rfl);refine aC (b4 (AQ he rfl GH.la H.B m3 rfl rfl rfl λlam ct2=>yn (i:=1) qF (ah (j:=1) he .loc (ab _ (ab _ (ab _ aa))) rfl) rfl λdx=>?_) rfl rfl);refine yq H he hs hl ⟨f,dx,lam,I,L,Qp a ct,rV L b ct2,a,b,rfl,(λq e=>by (have lA:=aO e;clear e;subst lA);rfl),jw H,?_⟩;have e1:fb.set i_ (gG 272 (zT (ae (a,b))))=fb:=by refine aj (j0 _ hi ..) ?_;refine fZ (gh hi ..) ?_;rfl
  refine aj (e1 ..) ?_;rfl
end m8
theorem m8{text:bb}:m8.S0 k mu i text:=by with_unfolding_all exact vz _ _ _ _ m8.S0 @m8.T0 k mu i text
end
end
section
variable {k i:Nat}{mu nu:Mu}{env:gP}{e t o l r:bH}{p pos:jB}{xs ys:List V}{Φ:V->Mu->Prop}{x y:V}{D L I:ay}{K:fl}{pm cd doc:ai}
section
variable {es:List bH}{apos:jB}{P:Vw}{it:ay}{op:Cz}
theorem sD(hl:WE k mu env l λy nu=>∃Q z,EV k nu env r Q/\xO k nu op (bZ y) Q (bZ z)/\Φ z nu):WE k mu env (.BinOp l op r p) Φ:=⟨λ{x x x x x x} hA R q=>by
 with_reducible refine NC ?_
 exact hl.c hA R λz1 q1 r1 ⟨Q,z,hr,ho,hΦ⟩=>hr.c hA r1 λ{x x x} z2 p2 r2=>ho.c hA r2 (q1.mono z2) p2 λ{x x x} z3 p3 r3=>q (z1.trans (z2.trans z3)) p3 r3 hΦ⟩
theorem IK{id T:String}{name:bb}(ho:EV k mu env o P)(ht:Ty mu P T)(ha:Dq k mu env (e::es) λys nu=>∃Ps,(∀Z vs,bW G Z vs ys->j3 Z vs Ps)/\BR k nu (.builtin id) (P::Ps) Φ)(pa:zq T)(slot:Slot T name id)
 (MQ:jU (.builtin id)=dg (.type "method_descriptor")) (hl:(apos.endLine == pos.line)=aJ) (wo:autoParam (kh (e::es)=aJ) aR) (hsz:autoParam ((e::es).length < 29) aD) (sj:autoParam (rl o name env (dW o env)=dW o env) aR):
 WE k mu env (.Call (.Attribute o name apos) (e::es) [] pos) Φ:=⟨λ{z z z z z z} hA r q=>
 BL ho ht (kY wo pos) pa slot MQ hl hsz sj hA r λ{z z z} z1 q1 r1=>Hb ha wo hA r1 λz2 q2 r2 ⟨Ps,hc,hF⟩=>hF.c hA r2 (.cons (P.mono _ _ _ z2 q1) (hc _ _ q2)) λ{z z z z z} z3=>q (z1.trans (z2.trans z3))⟩
theorem Lo{a b:cX}(h:Φ (.list xs) mu):jK (.ref D) (a::bl D xs::b::mu) Φ:=jK.tail (jK.list (gW _ _) h)
theorem RT.mono{α:Type}{t:oZ α}{Ψ Ψ':Mu->Prop}(h:RT k mu env t Ψ)(hi:∀nu,Ψ nu->Ψ' nu):RT k mu env t Ψ':=⟨λ{y y y y y y y} hA hf iD r q=>h.c hA hf iD r λ{y y y y} z hH hx w=>q z hH hx (hi _ w)⟩
inductive DX:List Nat->List (Nat×Nat×Nat×Nat)->Prop
 |stop {bs:_}:yl bs=av->bs.length<=8->DX bs []
 |more {bs q rs qs:_}:yl bs=ae (q,rs)->q.1 < 2 ^ 60->q.2.1 < 2 ^ 60->q.2.2.1 < 2 ^ 60->q.2.2.2 < 2 ^ 60->DX rs qs->DX bs (q::qs)
noncomputable def DY(q:Nat×Nat×Nat×Nat):V:= .ent [.int (q.1*2),.int (q.1*2+q.2.1*2),.int (q.2.2.1*2),.int (q.2.2.2 / 2),.bool (decide (q.2.2.2 % 2=1))]
theorem uS:∀{bs:List Nat} {v n:Nat} {rs:List Nat},jv v bs=ae (n,rs)->n < (v+1)*64 ^ bs.length
 |b::bs,v,n,rs,h=>by
  have hb:b % 64 < 64:=ef _ (by decide);unfold jv at h;refine aj (bK ..) ?_;refine aj (CG ..) ?_
  split at h
  ·have:=uS h;refine cb this ?_;have:(v*64+b % 64+1)<=(v+1)*64:=by lia
   calc (v*64+b % 64+1)*64 ^ bs.length<=((v+1)*64)*64 ^ bs.length:=xu _ this
    _=(v+1)*(64 ^ bs.length*64):=by (refine aj (jY ..) ?_;refine aj (q9 64 ..) ?_;rfl)
  ·cases h;have h1:v*64+b % 64 < (v+1)*64:=by lia
   have h2:0 < 64 ^ bs.length:=Nat.pow_pos (by decide)
   calc v*64+b % 64 < (v+1)*64:=h1
    _<=(v+1)*(64 ^ bs.length*64):=Us _ (by lia)
theorem F0{bs rs:List Nat}{n:Nat}(h:mL bs=ae (n,rs))(hl:bs.length<=8):n < 2 ^ 60:=by
 have:=uS h;have h2:(0+1)*64 ^ bs.length<=64 ^ 8:=by (refine aj (eC ..) ?_;refine aj (xr ..) ?_);exact e8 (by decide) hl
 have h3:(64:Nat) ^ 8<=2 ^ 60:=by decide
 lia
theorem and1(b:Nat):(lZ (b:Int) 1 != 0)=decide (b % 2=1):=by
 have h:lZ (b:Int) 1=((b % 2:Nat):Int):=by refine aj (bitAnd_pp (dI _) (by decide) ..) ?_;refine aj (b8 ..) ?_;exact congrArg _ (E3 b 1)
 refine aj (h ..) ?_;rcases JD b with h2|h2 <;> refine aj (h2 ..) ?_ <;> rfl
noncomputable abbrev RW(L f I D:ay)(w:d9):cX:=bq L (aM (L+1) (bk (cN 8)).names) (ae (.ref f)::ae (.ref I)::ae (.ref D)::w)
noncomputable abbrev jM(pm cd doc:ai)(L:ay):gP:=dT (xx (cN 8) pm cd doc) 179 L
noncomputable abbrev tbSt(L f I D:ay)(mu:Mu)(es:List V)(bs:List Nat)(v3 v4 v5 v6 v7 v8 v9:Option V):Mu:=bl D es::jL I bs::RW L f I D [v3,v4,v5,v6,v7,v8,v9]::mu
def zy(k:Nat)(st:List V->List Nat->Option V->Option V->Option V->Option V->Option V->Option V->Option V->Mu)(pm cd doc:ai)(L D:ay)(Ok:List V->Prop)(Xp:Mu->Prop):Prop:=
 (∀{es bs rs n v3 v4 v5 v6 v7 v8 v9 p1 p2 p3} {Ψ:V->Mu->Prop},mL bs=ae (n,rs)->n < 2 ^ 60->Ψ (.int n) (st es rs v3 v4 v5 v6 v7 v8 v9)->WE (k+3) (st es bs v3 v4 v5 v6 v7 v8 v9) (jM pm cd doc L) (.Call (.Name "_parse_varint" p1) [.Name "iterator" p2] [] p3) Ψ)/\
 (∀{es bs v3 v4 v5 v6 v7 v8 v9 p1 p2 p3},mL bs=av->bs.length<=8->Ok es->RE (k+3) (st es bs v3 v4 v5 v6 v7 v8 v9) (jM pm cd doc L) (.Call (.Name "_parse_varint" p1) [.Name "iterator" p2] [] p3) Xp)/\
 (∀{es bs v4 v5 v6 v7 v8 v9 v p},PE (k+3) (st es bs (ae v) v4 v5 v6 v7 v8 v9) (jM pm cd doc L) (.Name "start" p) v)/\
 (∀{es bs v3 v4 v5 v6 v7 v8 v9 v p} {Ψ:Mu->Prop},Ψ (st es bs (ae v) v4 v5 v6 v7 v8 v9)->mJ (k+3) (st es bs v3 v4 v5 v6 v7 v8 v9) (jM pm cd doc L) (.Name "start" p) v Ψ)/\
 (∀{es bs v3 v5 v6 v7 v8 v9 v p},PE (k+3) (st es bs v3 (ae v) v5 v6 v7 v8 v9) (jM pm cd doc L) (.Name "length" p) v)/\
 (∀{es bs v3 v4 v5 v6 v7 v8 v9 v p} {Ψ:Mu->Prop},Ψ (st es bs v3 (ae v) v5 v6 v7 v8 v9)->mJ (k+3) (st es bs v3 v4 v5 v6 v7 v8 v9) (jM pm cd doc L) (.Name "length" p) v Ψ)/\
 (∀{es bs v3 v4 v6 v7 v8 v9 v p},PE (k+3) (st es bs v3 v4 (ae v) v6 v7 v8 v9) (jM pm cd doc L) (.Name "end" p) v)/\
 (∀{es bs v3 v4 v5 v6 v7 v8 v9 v p} {Ψ:Mu->Prop},Ψ (st es bs v3 v4 (ae v) v6 v7 v8 v9)->mJ (k+3) (st es bs v3 v4 v5 v6 v7 v8 v9) (jM pm cd doc L) (.Name "end" p) v Ψ)/\
 (∀{es bs v3 v4 v5 v7 v8 v9 v p},PE (k+3) (st es bs v3 v4 v5 (ae v) v7 v8 v9) (jM pm cd doc L) (.Name "target" p) v)/\
 (∀{es bs v3 v4 v5 v6 v7 v8 v9 v p} {Ψ:Mu->Prop},Ψ (st es bs v3 v4 v5 (ae v) v7 v8 v9)->mJ (k+3) (st es bs v3 v4 v5 v6 v7 v8 v9) (jM pm cd doc L) (.Name "target" p) v Ψ)/\
 (∀{es bs v3 v4 v5 v6 v8 v9 v p},PE (k+3) (st es bs v3 v4 v5 v6 (ae v) v8 v9) (jM pm cd doc L) (.Name "dl" p) v)/\
 (∀{es bs v3 v4 v5 v6 v7 v8 v9 v p} {Ψ:Mu->Prop},Ψ (st es bs v3 v4 v5 v6 (ae v) v8 v9)->mJ (k+3) (st es bs v3 v4 v5 v6 v7 v8 v9) (jM pm cd doc L) (.Name "dl" p) v Ψ)/\
 (∀{es bs v3 v4 v5 v6 v7 v9 v p},PE (k+3) (st es bs v3 v4 v5 v6 v7 (ae v) v9) (jM pm cd doc L) (.Name "depth" p) v)/\
 (∀{es bs v3 v4 v5 v6 v7 v8 v9 v p} {Ψ:Mu->Prop},Ψ (st es bs v3 v4 v5 v6 v7 (ae v) v9)->mJ (k+3) (st es bs v3 v4 v5 v6 v7 v8 v9) (jM pm cd doc L) (.Name "depth" p) v Ψ)/\
 (∀{es bs v3 v4 v5 v6 v7 v8 v p},PE (k+3) (st es bs v3 v4 v5 v6 v7 v8 (ae v)) (jM pm cd doc L) (.Name "lasti" p) v)/\
 (∀{es bs v3 v4 v5 v6 v7 v8 v9 v p} {Ψ:Mu->Prop},Ψ (st es bs v3 v4 v5 v6 v7 v8 (ae v))->mJ (k+3) (st es bs v3 v4 v5 v6 v7 v8 v9) (jM pm cd doc L) (.Name "lasti" p) v Ψ)/\
 (∀{es bs v3 v4 v5 v6 v7 v8 v9 p},PE (k+3) (st es bs v3 v4 v5 v6 v7 v8 v9) (jM pm cd doc L) (.Name "entries" p) (.ref D))/\
 (∀{es bs v3 v4 v5 v6 v7 v8 v9},bl D es∈st es bs v3 v4 v5 v6 v7 v8 v9)/\
 ∀{es bs y v3 v4 v5 v6 v7 v8 v9} {Ψ:V->Mu->Prop},es.length < 2 ^ 22->Ψ .none (st (es++[y]) bs v3 v4 v5 v6 v7 v8 v9)->BR (k+3) (st es bs v3 v4 v5 v6 v7 v8 v9) (.builtin "list.append") [bZ (.ref D),bZ y] Ψ
section
variable {st:List V->List Nat->Option V->Option V->Option V->Option V->Option V->Option V->Option V->Mu}{Ok:List V->Prop}{Xp:Mu->Prop}(h:zy k st pm cd doc L D Ok Xp)
def zy.num:=@h.1
def zy.bad:=@h.2.1
def zy.p3:=@h.2.2.1
def zy.a3:=@h.2.2.2.1
def zy.p4:=@h.2.2.2.2.1
def zy.a4:=@h.2.2.2.2.2.1
def zy.p5:=@h.2.2.2.2.2.2.1
def zy.a5:=@h.2.2.2.2.2.2.2.1
def zy.p6:=@h.2.2.2.2.2.2.2.2.1
def zy.a6:=@h.2.2.2.2.2.2.2.2.2.1
def zy.p7:=@h.2.2.2.2.2.2.2.2.2.2.1
def zy.a7:=@h.2.2.2.2.2.2.2.2.2.2.2.1
def zy.p8:=@h.2.2.2.2.2.2.2.2.2.2.2.2.1
def zy.a8:=@h.2.2.2.2.2.2.2.2.2.2.2.2.2.1
def zy.p9:=@h.2.2.2.2.2.2.2.2.2.2.2.2.2.2.1
def zy.a9:=@h.2.2.2.2.2.2.2.2.2.2.2.2.2.2.2.1
def zy.p2:=@h.2.2.2.2.2.2.2.2.2.2.2.2.2.2.2.2.1
def zy.lm:=@h.2.2.2.2.2.2.2.2.2.2.2.2.2.2.2.2.2.1
def zy.app:=@h.2.2.2.2.2.2.2.2.2.2.2.2.2.2.2.2.2.2
end
def okTo(T:Mu->Prop)(f:AF)(nu:Mu):Prop:=(f= .next\/f= .cont)/\T nu
theorem Lp{st:List V->List Nat->Option V->Option V->Option V->Option V->Option V->Option V->Option V->Mu}{pos cp:jB}{kk n:Nat}{body orelse:List ed}{es:List V}{bs:List Nat}{v3 v4 v5 v6 v7 v8 v9:Option V}{Ψ:Mu->Prop}(hk:vU env)(I:Nat->List V->List Nat->Prop)(h0:I n es bs)
 (turn:∀T n es bs v3 v4 v5 v6 v7 v8 v9,I n es bs->(∀m es bs v3 v4 v5 v6 v7 v8 v9,m < n->I m es bs->T (st es bs v3 v4 v5 v6 v7 v8 v9))->RS k (st es bs v3 v4 v5 v6 v7 v8 v9) env body Ψ\/WS k (st es bs v3 v4 v5 v6 v7 v8 v9) env body (okTo T)):
 RX k (st es bs v3 v4 v5 v6 v7 v8 v9) env (.While (.Constant (.bool aJ) kk cp) body orelse pos) Ψ:=by
 refine DN hk (λm nu=>∃es bs v3 v4 v5 v6 v7 v8 v9,nu=st es bs v3 v4 v5 v6 v7 v8 v9/\I m es bs) n ⟨es,bs,v3,v4,v5,v6,v7,v8,v9,rfl,h0⟩ λn nu h=>?_;obtain ⟨es,bs,v3,v4,v5,v6,v7,v8,v9,rfl,h⟩:=h;exact (kU J6 qt).wt ⟨rfl,turn _ n es bs v3 v4 v5 v6 v7 v8 v9 h λm es bs v3 v4 v5 v6 v7 v8 v9 hm h=>⟨m,hm,es,bs,v3,v4,v5,v6,v7,v8,v9,rfl,h⟩⟩
theorem F1{bs rs:List Nat}{q:Nat×Nat×Nat×Nat}(h:yl bs=ae (q,rs)):∃b1 b2 b3,mL bs=ae (q.1,b1)/\mL b1=ae (q.2.1,b2)/\mL b2=ae (q.2.2.1,b3)/\mL b3=ae (q.2.2.2,rs):=by refine aK (dq.mp h) λa h1 h=>aK (dq.mp h) λb h2 h=>aK (dq.mp h) λc h3 h=>aK (dq.mp h) λd h4 h=>?_;cases h;exact ⟨_,_,_,h1,h2,h3,h4⟩
def Brk(bs:List Nat)(P:Nat->List Nat->Prop):Prop:=mL bs=av\/∃n b,mL bs=ae (n,b)/\n < 2 ^ 60/\b.length<=8/\P n b
theorem brk{bs:List Nat}{P:Nat->List Nat->Prop}(hl:bs.length<=8)(h:∀p:Nat×List Nat,mL bs=ae p->p.2.length<=8->P p.1 p.2):Brk bs P:=by
 cases e:mL bs with
 |none=>exact .inl e
 |some p=>exact .inr ⟨p.1,p.2,e,F0 e hl,aw (eB (kj e)) hl,h p e (aw (eB (kj e)) hl)⟩
theorem F2{bs:List Nat}(h:yl bs=av)(hl:bs.length<=8):Brk bs λz b1=>Brk b1 λz b2=>Brk b2 λz b3=>mL b3=av:=
 brk hl λa h1 l=>brk l λb h2 l=>brk l λc h3 l=>by
  have h:=el.mp (el.mp (el.mp h a h1) b h2) c h3;cases e:mL c.2 with
  |none=>rfl
  |some d=>exact nomS (el.mp h d e)
noncomputable def Oz:ed:=match (fR (cN 8)).getD 2 (.Pass ⟨0,0,0,0⟩) with
 | .Try (s::_) _ _ _ _=>s
 |s=>s
section
variable {st:List V->List Nat->Option V->Option V->Option V->Option V->Option V->Option V->Option V->Mu}{f:ay}{Ok:List V->Prop}{Xp:Mu->Prop}
theorem tb_ok(H:Hy G)(he:du (jM pm cd doc L))(hk:vU (jM pm cd doc L))(hX:∀es,Ok es->∀w,Xp (RW L f I D w::bl D es::pP::mu)):zy k (tbSt L f I D mu) pm cd doc L D Ok Xp:=by
 refine cq (H.f172.go) λobv pmv cdv docv GD hvd z=>?_;have f2:∀{a b c:cX} {l:Mu},c∈a::b::c::l:=ao (i:=2) rfl;refine ⟨?_,?_,?_,?_,?_,?_,?_,?_,?_,?_,?_,?_,?_,?_,?_,?_,?_,?_,?_⟩
 ·intro es bs rs n v3 v4 v5 v6 v7 v8 v9 p1 p2 p3 Ψ hv hn h;refine ml (mn H he H.m_varint rfl) GD hvd (tA.war (ys:=[V.ref I]) (au (ah (j:=1) he .loc f2 rfl) aT) ?_);exact ((nK (k:=k+1) (i:=1) H rfl hv hn).mono λy nu e=>by (refine aj (e.1 ..) ?_;refine aj (e.2 ..) ?_);exact h)
 ·intro es bs v3 v4 v5 v6 v7 v8 v9 p1 p2 p3 hv hlen ho;refine K2 hk (mn H he H.m_varint rfl) GD hvd (tA.war (ys:=[V.ref I]) (au (ah (j:=1) he .loc f2 rfl) aT) ?_);refine ⟨bl D es::jL I bs::mu,[RW L f I D [v3,v4,v5,v6,v7,v8,v9]],?_,⟨_,_,aa⟩,?_⟩
  ·show List.Perm (_::_::_::mu) (_::_::(mu++[_]));exact ((JJ _ mu).symm.cons _).cons _
  ·obtain ⟨run⟩:=nL (k:=k+1) (i:=1) (mu:=bl D es::jL I bs::mu) H rfl hv hlen;refine ⟨λ{z z z z z z z z} hA hf iD r hq q=>run hA hf iD r hq λ{z z z z} z' hx e1=>q z' hx ?_⟩;subst e1;exact ⟨_,((JJ _ mu).cons _).cons _ |>.trans (((jh _ _ _).cons _).trans (jh _ _ _)),hX es ho _⟩
 ·intro es bs v4 v5 v6 v7 v8 v9 v p;exact ah (j:=3) he .loc f2 rfl
 ·intro es bs v3 v4 v5 v6 v7 v8 v9 v p Ψ h;exact aQ (i:=2) (j:=3) he .loc rfl h
 ·intro es bs v3 v5 v6 v7 v8 v9 v p;exact ah (j:=4) he .loc f2 rfl
 ·intro es bs v3 v4 v5 v6 v7 v8 v9 v p Ψ h;exact aQ (i:=2) (j:=4) he .loc rfl h
 ·intro es bs v3 v4 v6 v7 v8 v9 v p;exact ah (j:=5) he .loc f2 rfl
 ·intro es bs v3 v4 v5 v6 v7 v8 v9 v p Ψ h;exact aQ (i:=2) (j:=5) he .loc rfl h
 ·intro es bs v3 v4 v5 v7 v8 v9 v p;exact ah (j:=6) he .loc f2 rfl
 ·intro es bs v3 v4 v5 v6 v7 v8 v9 v p Ψ h;exact aQ (i:=2) (j:=6) he .loc rfl h
 ·intro es bs v3 v4 v5 v6 v8 v9 v p;exact ah (j:=7) he .loc f2 rfl
 ·intro es bs v3 v4 v5 v6 v7 v8 v9 v p Ψ h;exact aQ (i:=2) (j:=7) he .loc rfl h
 ·intro es bs v3 v4 v5 v6 v7 v9 v p;exact ah (j:=8) he .loc f2 rfl
 ·intro es bs v3 v4 v5 v6 v7 v8 v9 v p Ψ h;exact aQ (i:=2) (j:=8) he .loc rfl h
 ·intro es bs v3 v4 v5 v6 v7 v8 v p;exact ah (j:=9) he .loc f2 rfl
 ·intro es bs v3 v4 v5 v6 v7 v8 v9 v p Ψ h;exact aQ (i:=2) (j:=9) he .loc rfl h
 ·intro es bs v3 v4 v5 v6 v7 v8 v9 p;exact ah (j:=2) he .loc f2 rfl
 ·intro es bs v3 v4 v5 v6 v7 v8 v9;exact aa
 ·intro es bs y v3 v4 v5 v6 v7 v8 v9 Ψ hl h;exact kA (i:=0) rfl hl h
theorem RY(H:Hy G)(EH:gN G K){dx:ay}{gd:cg}{fs:List (bb×V)}{b:Array UInt8}(hm:tK f dx gd fs∈mu)(hnd:(fs.map (·.1)).Nodup)(hq:(("co_exceptiontable":bb),V.bytes b)∈fs)
 (h:∀st pm cd doc L D Xp,du (jM pm cd doc L)->vU (jM pm cd doc L)->zy k st pm cd doc L D (λes=>Φ (.list es) mu) Xp->RX (k+3) (st [] (b.toList.map pJ) av av av av av av av) (jM pm cd doc L) Oz Xp):JM (k+4) mu (.ref 179) [.ref f] Φ:=by
 refine RM H H.f179 (names:=["code"]) (vals':=λL=>[ae (.ref f),av,av,av,av,av,av,av,av,av]) (λpm cd doc vs h=>uM h λa=>rfl) (by decide+kernel) rfl (λpm cd doc L=> .cons (j:=0) .loc rfl .nil) (λpm cd doc L he hk=>?_);refine nI (WF.f (b4 (nJ (j4 H he H.b_iter rfl) (au (Lf wN (ah (j:=0) he .loc aa rfl) (ab _ hm) hnd hq (λn e=>by cases e)) aT) (Lj λI=>aQ (i:=1) (j:=1) he .loc rfl ?_)) rfl rfl));refine nI (WF.f (b4 (sA (xs:=[]) aT (by show 0<=2 ^ 20;decide) λD=>fL.ref (aQ (i:=2) (j:=2) he .loc rfl ?_)) rfl rfl));exact nI (DO (lay:=aM (L+1) (bk (cN 8)).names) (L:=L) (j:=2) H.B he hk H.b_stop rfl .loc (oR (h _ pm cd doc L D _ he hk (tb_ok (f:=f) (I:=I) H he hk λes ho w=>⟨_,.ref D,aa,rfl,Lo ho⟩))))
theorem Lq(H:Hy G)(EH:gN G K){dx:ay}{gd:cg}{fs:List (bb×V)}{b:Array UInt8}{qs:List (Nat×Nat×Nat×Nat)}(hm:tK f dx gd fs∈mu)(hnd:(fs.map (·.1)).Nodup)(hq:(("co_exceptiontable":bb),V.bytes b)∈fs)(hE:DX (b.toList.map pJ) qs)(hl:qs.length<=2 ^ 20)(hΦ:Φ (.list (qs.map DY)) mu):
 JM (k+4) mu (.ref 179) [.ref f] Φ:=by
 refine RY H EH hm hnd hq λst pm cd doc L D Xp he hk T=>Lp (n:=qs.length) hk (λm es bs=>∃qs',qs'.length=m/\es++qs'.map DY=qs.map DY/\DX bs qs') ⟨qs,rfl,rfl,hE⟩ λT' n es bs v3 v4 v5 v6 v7 v8 v9 hI hT=>eg hI λqs' eU hes hEn=>?_;clear hI;subst eU;cases hEn with
 |stop hn hlen=>
  have ho:Φ (.list es) mu:=by rw [<- hes,u7,cy] at hΦ;exact hΦ
  refine .inl ?_;rcases F2 hn hlen with h|⟨n1,b1,h1,m1,l1,h⟩
  ·exact oR (nk (B7 (T.bad h hlen ho)) rfl rfl)
  refine qE (b4 (sD (T.num h1 m1 ⟨_,_,aU,sC (by decide),T.a3 ?_⟩)) rfl rfl);rcases h with h|⟨n2,b2,h2,m2,l2,h⟩
  ·exact oR (nk (B7 (T.bad h l1 ho)) rfl rfl)
  refine qE (b4 (sD (T.num h2 m2 ⟨_,_,aU,sC (by decide),T.a4 ?_⟩)) rfl rfl);refine qE (bX (br T.p3 T.p4 fC) (T.a5 ?_) rfl rfl);rcases h with h|⟨n3,b3,h3,m3,l3,h⟩
  ·exact oR (nk (B7 (T.bad h l2 ho)) rfl rfl)
  refine qE (b4 (sD (T.num h3 m3 ⟨_,_,aU,sC (by decide),T.a6 ?_⟩)) rfl rfl);exact oR (nk (T.bad h l3 ho) rfl rfl)
 |@more _ q rs qs2 SZ k1 k2 k3 k4 hrest=>
  refine .inr (lG (F1 SZ) λb1 b2 b3 h1 h2 h3 h4=>?_);refine aC (b4 (sD (T.num h1 k1 ⟨_,_,aU,sC (by decide),T.a3 ?_⟩)) rfl rfl);refine aC (b4 (sD (T.num h2 k2 ⟨_,_,aU,sC (by decide),T.a4 ?_⟩)) rfl rfl);refine aC (bX (br T.p3 T.p4 fC) (T.a5 ?_) rfl rfl);refine aC (b4 (sD (T.num h3 k3 ⟨_,_,aU,sC (by decide),T.a6 ?_⟩)) rfl rfl);refine aC (b4 (T.num h4 k4 (T.a7 ?_)) rfl rfl);refine aC (bX (br T.p7 aU (Hc (by decide))) (T.a8 ?_) rfl rfl);refine aC (bX (iZ (iN H he H.b_bool rfl) (au (br T.p7 aU qq) aT) H9) (T.a9 ?_) rfl rfl);refine aj (and1 ..) (aC (ig (IK T.p2 (j5 T.lm) (cA (B4 EH.KO EH.keep (mn H he H.m_entry rfl) (tA.war (ys:=[.int (q.1*2),.int (q.1*2+q.2.1*2),.int (q.2.2.1*2),.int (q.2.2.2 / 2 ^ (1:Int).toNat),.bool (decide (q.2.2.2 % 2=1))]) (au T.p3 (au T.p5 (au T.p6 (au T.p8 (au T.p9 aT))))) ((Ow (k:=k) H EH).mono λy nu e=>?_)))) (by exact fP) (by exact iT) (by exact iU) rfl)));refine aj (e.1 ..) ?_;refine aj (e.2 ..) ?_;refine e9 ⟨[bZ (DY q)],λZ vs hv=>?_,T.app ?_ (bC ⟨.inl rfl,hT _ _ _ _ _ _ _ _ _ _ (jf _) ⟨qs2,rfl,?_,hrest⟩⟩)⟩
  ·cases hv with
   |cons a b=>cases b;exact .cons a .nil
  ·have h5:=congrArg kM hes;simp only [ba,ak,bK] at h5;lia
  ·refine aj (bU ..) ?_;exact hes
theorem Hq(H:Hy G)(EH:gN G K){dx:ay}{gd:cg}{fs:List (bb×V)}{b:Array UInt8}{qs:List (Nat×Nat×Nat×Nat)}(hm:tK f dx gd fs∈mu)(hnd:(fs.map (·.1)).Nodup)(hq:(("co_exceptiontable":bb),V.bytes b)∈fs)(hE:DX (b.toList.map pJ) qs)(hl:qs.length<=2 ^ 20):
 JM (k+4) mu (.ref 179) [.ref f] λy nu=>y= .list (qs.map DY)/\nu=mu:=Lq H EH hm hnd hq hE hl ⟨rfl,rfl⟩
end
end
variable {C:ay}{Θ:AF->Mu->Prop}
section
open Builtin
section
theorem tL:Slot "callable_iterator" "__next__" "callable_iterator.__next__":=
 .of (owner:="callable_iterator") (n:="__next__") (by (refine aj (fg ..) ?_;refine aj (dB ..) ?_);kernel_rfl) (by decide+kernel) (by decide+kernel) (by decide+kernel)
  (by first|exact .inl (by decide+kernel)|exact .inr (by decide+kernel)) (by refine aj (iR ..) ?_;kernel_rfl)
theorem yr:Slot "callable_iterator" "__iter__" "callable_iterator.__iter__":=
 .of (owner:="callable_iterator") (n:="__iter__") (by (refine aj (fg ..) ?_;refine aj (dB ..) ?_);kernel_rfl) (by decide+kernel) (by decide+kernel) (by decide+kernel)
  (by first|exact .inl (by decide+kernel)|exact .inr (by decide+kernel)) (by refine aj (iR ..) ?_;kernel_rfl)
theorem DZ:xp table "callable_iterator.__next__"=ae Builtin.«callable_iterator.__next__»:=Nk (by kernel_rfl)
theorem D2:xp table "callable_iterator.__iter__"=ae Builtin.«dict_keyiterator.__iter__»:=CF (id':="dict_keyiterator.__iter__") (by kernel_rfl) rfl (by decide+kernel) (by kernel_rfl)
theorem F3(a:ai):rb "callable_iterator.__next__" ⟨[a],[]⟩:=by unfold rb;kernel_rfl
theorem F4(a:ai):rb "callable_iterator.__iter__" ⟨[a],[]⟩:=by unfold rb;kernel_rfl
noncomputable abbrev Lr(m:ay)(t:HR):oY:={cls:= .type "callable_iterator",data:= .fields #[.ref m,.str "" t,.bool aH]}
noncomputable def TO(I m f x:ay):cX where
 own:=[I,m]
 sat:=λZ h=>(∃t,h.get? I=ae (Lr m t))/\h.get? m=ae (Fi (.ref f) (.ref x))
 mono:=λz z z z a=>a
 loc:=λZ h h' w hk z z=>⟨w.1.imp λz a=>hk I aa _ a,hk m (ab _ aa) _ w.2⟩
 live:=λZ h w y hy=>(aP.mp hy).elim (λe=>w.1.elim λz a=>⟨_,e▸a⟩) λe=>⟨_,aA.mp e▸w.2⟩
variable {m f x:ay}
theorem vV{A:bh}{E:ai->aq->Prop}{s:aq}{fv:ai}{pos:List ai}{Q:ai->aq->Prop}{M:xl}
 (hc:iV M A (.call fv ⟨pos,[]⟩) (λr s'=>match r with| .ok (.ret v)=>Q v s'| .ok _=>False| .error e=>E e s') s):aS M A (callBorrowed fv pos) Q E s:=λΓ p hΓ=>by
 unfold callBorrowed;show wpCode M (Γ.enter _ av p) _ p s;refine wpCode_mono (λr s' h=>?_) (hc _ p rfl (hΓ.enter _ av p (by intro x;exact gK x)));rcases r with e|(v|_|_|_) <;> first|exact h|exact h.elim
structure NX(k:Nat)(mu:Mu)(I:ay)(Φs:V->Mu->Prop)(Φn:Mu->Prop):Prop where
 c:∀{A:bh} {E:ai->aq->Prop} {Z:bI} {s:aq} {fr:Mu} {Q:Option ai->aq->Prop},Rm k A->R Z (mu++fr) s->(∀{v s' Z' x nu},Z.le Z'->aZ G Z' v x->R Z' (nu++fr) s'->Φs x nu->Q (ae v) s')->
  (∀{s' Z' nu},Z.le Z'->R Z' (nu++fr) s'->Φn nu->Q av s')->aS (aX G.prog G.w) A (l0 (.ref I)) Q E s
theorem yt{A:bh}{E:ai->aq->Prop}{s:aq}{ob:oY}{fd:cg}{Q:Bool->aq->Prop}{M:xl}(hm:s.heap.get? m=ae (Fi (.ref f) (.ref x)))(hf:s.heap.get? f=ae ob)(hd:ob.data= .func fd)(h:Q aJ s):aS M A (borrowsExactly (.ref m)) Q E s:=by obtain ⟨hp,g,d,t,os⟩:=s;unfold borrowsExactly;refine ag (Tn hm ?_);dsimp only;refine aj (if_pos (by decide) ..) (ag (Tn hf ?_));exact aj (hd ..) (ar h)
def oU.S0(I m f x:ay):Prop:=∀{k:Nat} {mu:Mu} {i:Nat} {ob:oY} {fd:cg} {Φs:V->Mu->Prop} {Φn:Mu->Prop} (h0:G.Z0 f=ae ob) (hd:ob.data= .func fd) (hi:mu[i]? =ae (TO I m f x)) (hF:FC k mu (.ref f) [.ref x] λy nu=>∃c,y= .str c/\nu[i]? =ae (TO I m f x)/\(c≠""->Φs (.str c) nu)/\(c=""->Φn (nu.set i (pP)))),NX (k+1) mu I Φs Φn
namespace oU
@[irreducible] def e0:=GW cL cL cL cL S0
def I_:=e0.1
def m_:=e0.2.1
def f_:=e0.2.2.1
def x_:=e0.2.2.2
theorem T0:S0 I_ m_ f_ x_:=λ{k} {mu} {i} {ob} {fd} {Φs} {Φn} h0 hd hi hF=>⟨λ{A E Z s fr Q} hA r qs qn=>by
 have hi':=cG (fr:=fr) hi;refine dU (r.sat _ (ao hi')) λdO hm=>cJ dO λt ho=>?_;clear dO;have hT:s.TypeIs (.ref I_) "callable_iterator":=⟨_,ho,rfl⟩;unfold l0;refine ag (kT (dX (name:=Al "__next__") hT tL
  (dp tL hT DZ ?_ (F3 _))))
 show aS _ _ (vt (.ref I_) 2 >>=_) _ _ s;refine ag (dS ho rfl (x:= .bool aH) rfl ?_);show aS _ _ (if (TC aH == TC aJ)=aJ then _ else _) _ _ s;refine aj (if_neg (by decide) ..) ?_;show aS _ _ (vt (.ref I_) 0 >>=_) _ _ s;refine ag (dS ho rfl (x:= .ref m_) rfl ?_);refine ag (kT ?_);unfold callOutOfASlot;refine ag (yt hm (r.z0in _ _ h0) hd ?_);refine aj (if_pos rfl ..) (vV (method_call hm (hF.c hA.in1 r (.cons (.ref x_) .nil) λ{w s1 Z' y nu} z' hy r' u=>?_)));refine Bw u λc e1 Uc hs hn=>?_;clear u;subst e1;refine cJ (gV hy) λtk eU=>?_;subst eU;have hi2':=cG (fr:=fr) Uc;refine dU (r'.sat _ (ao hi2')) λgi hm2=>cJ gi λt2 NA=>?_;clear gi;show aS _ _ (vt (.ref I_) 2 >>=_) _ _ s1;refine ag (dS NA rfl (x:= .bool aH) rfl ?_);show aS _ _ (if (TC aH == TC aJ)=aJ then _ else _) _ _ s1;refine aj (if_neg (by decide) ..) (ag (dS NA rfl (x:= .str "" t2) rfl ?_));refine ag (bE (wpAny_eqBool_str ?_));by_cases hc:c=""
 ·subst hc;refine aj (show decide ((fQ "")=fQ "")=aJ from decide_eq_true rfl) (aj (if_neg (by decide) ..) ?_);refine ag (oh (ag ?_));show aS _ _ (vt (.ref I_) 0 >>=_) _ _ s1;refine ag (dS NA rfl (x:= .ref m_) rfl ?_);refine ag ?_;unfold slotLetsGo;refine ag (yt hm2 (r'.z0in _ _ h0) hd ?_);refine aj (if_pos rfl ..) (ar ?_);refine ag (eH NA rfl (by show 0 < 3;decide) ?_);have h1:=bS (Fh (·.setIfInBounds 0 (eG))) NA rfl;refine ag (eH h1 rfl (by show 1 < 3;decide) ?_);have h2:=bS (Fh (·.setIfInBounds 1 (eG))) h1 rfl;refine eH h2 rfl (by show 2 < 3;decide) ?_;show aS _ _ (Tw (.type "StopIteration") [] >>=_) _ _ _;refine nH hA.hh ?_;refine ag (xv (T:="StopIteration") (b:=aJ) ⟨_,aW _ rfl,rfl⟩ TF ?_);refine ar (qn z' (gE Uc▸R.dead (s:=s1) (tk:=s1.toks) r' hi2' λb o hb e=>?_) (hn rfl));have hb':b≠I_:=λq=>hb (q▸aa);exact az _ (az _ ((iF _ _ (gf hb')).trans ((iF _ _ (gf hb')).trans ((iF _ _ (gf hb')).trans e))))
 ·(refine aj (show decide ((fQ "")=c)=aH from decide_eq_false λe=>hc e.symm) ?_;refine aj (if_pos (by decide) ..) ?_);exact ar ⟨_,rfl,ar (qs z' (.str _ _) r' (hs hc))⟩⟩
end oU
theorem oU:oU.S0 I m f x:=by with_unfolding_all exact vz _ _ _ _ oU.S0 @oU.T0 I m f x
end
section
theorem OA:iQ (.type "method") "__call__"=dg (ae (.builtin "method.__call__")):=by (refine aj (fg ..) ?_;refine aj (dB ..) ?_);kernel_rfl
theorem F5(a b:ai):rb "iter" ⟨[a,b],[]⟩:=by unfold rb;kernel_rfl
variable {m f x dx:ay}{fs:List (bb×V)}{name:bb}
theorem Ls(KO:FS G K)(hp:su K C f name=aJ)(ho:PE k mu env o (.ref x))(hm:gH x C dx fs∈mu)(hn:name∉fs.map (·.1))(h:∀q,Φ (.ref q) (mj q (Fi (.ref f) (.ref x))::mu))
 (he:autoParam (dW (.Attribute o name p) env=(do let ov <- dW o env;iE p.atName;let r <- eW [ov] (sZ ov name aJ);pD o ov r;dg r)) aR):WE k mu env (.Attribute o name p) Φ:=⟨λ{A E Z s fr Q} hA r q=>by
 refine gZ ?_ he;refine ho.c hA r λ{ov s1 Z1} z1 q1 r1=>aj (aZ.refE q1 ..) (cC (xD r1 (aE fr hm)) λes n Ia z GF=>?_);unfold su at hp;simp only [dQ,beq_iff_eq,CA] at hp;refine dU hp λiC p7=>?_;clear hp;refine dU iC λkG p6=>?_;clear iC;refine dU kG λma p5=>?_;clear kG;refine dU ma λmE p4=>?_;clear ma;refine dU mE λqY p3=>?_;clear mE;refine dU qY λp1 p2=>?_;clear qY;have X:=KO.inn _ r1.z0in;exact get_bind X Ia (plainGet_of p1).1 (findObj_fn p2 p3 p5 p6 p7 (by show lookIn name (i3 es n)=_;(refine aj (QS ..) ?_;refine aj (GF.none hn ..) ?_;rfl))) (plainGet_of p1).2 (eF (fn_get (s:={s1 with toks:=s1.toks+1}) X (beq_iff_eq.mp p4) (handed_on rfl
  (q z1 (.ref _) (r1.addNew (tk:=s1.toks+1) _ (λb o e=>az _ e) (aW _ rfl) eh λz h=>kX h) (h s1.heap.objs.size)))))⟩
theorem Lu(h:∀I,Φ (.ref I) (TO I m f x::mu)):BR k (mj m (Fi (.ref f) (.ref x))::mu) (.builtin "iter") [bZ (.ref m),bZ (.str "")] Φ:=⟨λ{A E Z s fr vs Q} hA r hq q=>by
 refine cC (hq.two) λv u uc q1 q2=>?_;subst uc;refine aj (aZ.refE q1 ..) (cJ (gV q2) λtk mO=>?_);subst mO;have hm:s.heap.get? m=ae (Fi (.ref f) (.ref x)):=r.sat _ aa;refine gv (by decide+kernel) (by decide+kernel) kdk_entry_iter (F5 _ _) ?_;unfold Builtin.«iter»;refine ag (m:=CI "iter" 1 2 _) (cM (a:=[cY m,Value.str "" tk]) (by first|rfl|kernel_rfl!) ?_);have t1:iL (aX G.prog G.w) s.heap (mA (.ref m) "__call__") (ae (.builtin "method.__call__")):=((sr hm).andThen .now).andThen (fe OA);refine ag (t1.here ?_);show aS _ _ (rule _ >>=_) _ _ s;refine ag (oh (ag (jg ?_ (by size_fits))));refine ar ⟨_,rfl,q .rfl (.ref _) (R.swap (tk:=s.toks) (mu:=mj m (Fi (.ref f) (.ref x))::(mu++fr)) (i:=0) r rfl (TO s.heap.objs.size m f x) (λz z z e=>az _ e) ⟨⟨tk,aW _ rfl⟩,az _ hm⟩ ?_ ?_) (h s.heap.objs.size)⟩
 ·exact cj.mpr ⟨λh=>jJ (bN hm) (aA.mp h),eh⟩
 ·exact λb hb=>(aP.mp hb).elim (λe=> .inr (ll e.symm)) .inl⟩
theorem IL{A:bh}{E:ai->aq->Prop}{s:aq}{t:HR}{Q:ai->aq->Prop}(ho:s.heap.get? I=ae (Lr m t))(h:Q (.ref I) s):aS (aX G.prog G.w) A (q8 (.ref I)) Q E s:=by have hT:s.TypeIs (.ref I) "callable_iterator":=⟨_,ho,rfl⟩;refine vq hT yr (dp yr hT D2 ?_ (F4 _));show aS _ _ (vh (.ref I)) _ _ s;exact ar ⟨_,rfl,"callable_iterator",_,hT,tL.lookup,h⟩
theorem OB{zk tp:jB}{t:bb}{body orelse:List ed}(he:PE k mu env e (.ref I))(hi:TO I m f x∈mu)(Inv:Nat->Mu->Prop)(n:Nat)(h0:Inv n mu)
 (turn:∀n nu,Inv n nu->NX k nu I (λx rq=>mJ k rq env (.Name t tp) x λub=>WS k ub env body (kW (λTV=>∃m,m < n/\Inv m TV) Θ)) (λrq=>WS k rq env orelse Θ))
 (hf:autoParam (∀x,bw e env x=dg x) aR):WX k mu env (.For (.Name t tp) e body orelse zk) Θ:=⟨λ{A E Z s fr Q} hA r q=>by
 with_reducible refine wpAny_For ?_ hf
 refine he.c hA r λ{x s1 Z1} z1 q1 r1=>aj (aZ.refE q1 ..) (dU (r1.sat _ (aE fr hi)) λsk z=>?_);refine cJ sk λtk ho=>?_;clear sk;refine IL ho (BG (WhI Z Inv fr) (λn s' h=>⟨λ{z z} hn hs=>?_⟩) n ⟨Z1,mu,z1,r1,h0⟩);refine cC (h.ex) λZ' nu z' r' inv=>(turn n nu inv).c hA r' (λ{v s3 Z3 y TV} z3 hv r3 w3=>hs (Fz (t:= .Name t tp) (w3.c hA r3 hv λ{s5 Z5 nu5} z5 r5 w5=>w5.c hA r5 λ{f s6 Z6 a nu6} z6 f6 r6 w6=>?_))) λ{s3 Z3 TV} z3 r3 w3=>hn (w3.c hA r3 λ{z z z z z} z4=>q (z'.trans (z3.trans z4)));have zz:=z'.trans (z3.trans (z5.trans z6));exact oL.of (fr:=fr) f6 w6 (λ⟨m',w7,w8⟩=>⟨m',w7,⟨Z6,nu6,zz,r6,w8⟩⟩) λ{z z} hg=>q zz hg r6⟩
end
end
noncomputable def xE(c:Nat):Bool:=decide (c∈[10,9,13,32])
noncomputable def sW:List Nat->List Nat->Option (List Nat×List Nat)
 |_,[]=>av
 |acc,c::cs=>if xE c then ae (acc,cs) else if c=92 then (match cs with|[]=>av|d::ds=>sW (acc++[d]) ds) else sW (acc++[c]) cs
noncomputable def uT:List Nat->List Nat->Option (List Nat×List Nat)
 |_,[]=>av
 |acc,c::cs=>if c=34 then ae (acc,cs) else if c=92 then (match cs with|[]=>av|d::ds=>uT (acc++[d]) ds) else uT (acc++[c]) cs
noncomputable def yu:List Nat->Option (List Nat×List Nat)
 |[]=>av
 |c::cs=>if xE c then yu cs else if c=34 then uT [] cs else sW [] (c::cs)
section
variable {es:List bH}
theorem IM{f:bb}{id:String}(hf:PE k mu env (.Name f p) (.bi id))(ha:Dq k mu env (e::es) λys nu=>∃Ps,(∀Z vs,bW G Z vs ys->j3 Z vs Ps)/\BR k nu (.builtin id) Ps Φ)(hs:autoParam (kh (e::es)=aJ) aR):WE k mu env (.Call (.Name f p) (e::es) [] pos) Φ:=⟨λ{A E Z s fr Q} hA r q=>by
 with_reducible refine gB ?_
 refine hf.c hA r λ{f s1 Z1} z1 q1 r1=>aj (aZ.biE q1 ..) ?_;exact ET (ha.c hA r1 λz2 q2 r2 ⟨Ps,hc,hF⟩=>hF.c hA r2 (hc _ _ q2) λ{z z z z z} z3=>q (z1.trans (z2.trans z3))) (et (jt hs).1) (kY (jt hs).2 pos)⟩
theorem FC.up{f:ai}{a:cX}(h:FC k mu f xs λy nu=>Φ y (a::nu)):FC k (a::mu) f xs Φ:=⟨λ{x x x x x x x} hA r hv q=>h.c hA (r.perm cu.symm) hv λ{x x x x x} z v r w=>q z v (r.perm cu) w⟩
structure ib where
 (lx dx pb f fdx it L lam a b:ay)
 gd:cg
 ld:cg
 text:bb
theorem IP:Nonempty ib:=⟨⟨rg,rg,rg,rg,rg,rg,rg,rg,rg,rg,rg,rg,rg⟩⟩
noncomputable abbrev E8(c:Nat):V:= .str ⟨#[c]⟩
noncomputable def itO(it:ay):Option (List Nat)->cX
 |some cs=>mT it (cs.map E8)
 |none=>pP
noncomputable def yv(P:ib)(q:List V)(n:Int)(cs:Option (List Nat)):Mu:=
 [bl P.pb q,gH P.lx 217 P.dx (th n (.ref P.f) P.pb),mj P.lam (ei P.ld av),tK P.f P.fdx P.gd [("read",.ref P.lam),("co_exceptiontable",.bytes (JH (ti P.text)))],itO P.it cs,AR P.L P.text P.f P.it,gG 272 (zT (ae (P.a,P.b)))]
structure mU(P:ib):Prop where
 read:FZ P.lam P.it P.L P.f P.text P.ld P.a P.b
noncomputable abbrev j6(P:ib)(q:List V)(N:Int)(cs:List Nat):Mu:=yv P q (N - (cs.count 10:Nat)) (ae cs)
theorem nM(n:Int)(fp:V)(pb:ay):((th n fp pb).map (·.1)).Nodup:=by show (["lineno","instream","whitespace","pushback"]:List bb).Nodup;decide
theorem AS(H:Hy G)(LH:fM G K){P:ib}{q:List V}{n:Int}{cs cs':Option (List Nat)}{c:bb}(hr:∀{Φ},Φ (.str c) (yv P q n cs')->FW (k+2) (yv P q n cs) (.ref P.lam) [.int 1] Φ)(hΦ:Φ (.str c) (yv P q (if c == "\n" then n+1 else n) cs')):
 FC (k+3) (yv P q n cs) (.ref 200) [.ref P.lx] Φ:=by
 refine KR H LH.f200 (names:=["self"]) (vals':=λL=>[ae (.ref P.lx),av]) (λpm cd doc vs h=>?_) (by decide+kernel) rfl (λpm cd doc L=>?_) (λpm cd doc L he=>?_)
 ·exact uM h λa=>rfl
 ·exact .cons (j:=0) .loc rfl .nil
 have m2:∀{a b c:cX} {l:Mu},c∈a::b::c::l:=ab _ (ab _ aa);have m4:∀{a b c d e:cX} {l:Mu},e∈a::b::c::d::e::l:=ab _ (ab _ m2);refine aC (b4 (Lg (name:="read") qF (oQ LH.KO LH.p_in (ah (j:=0) he .loc aa rfl) m2 (nM ..) (y:= .ref P.f) (.tail _ (.head _)) (λn e=>by cases e)) m4 (by show (["read","co_exceptiontable"]:List bb).Nodup;decide) (lam:=P.lam) (.head _) (tA.war (ys:=[.int 1]) (au aU aT) ⟨Kn.obj (o:=ei P.ld av) (.tail _ (.tail _ (.tail _ (.head _)))),rfl,FW.up (hr ?_)⟩)) rfl rfl);refine aQ (i:=0) (j:=1) he .loc rfl (aC (iY (c9 (ah (j:=1) he .loc aa rfl) cO rA) (λh=>?_) λh=>?_))
 ·refine aC (Om LH.KO LH.p_line LH.s_line (ah (j:=0) he .loc aa rfl) (i:=2) rfl (nM ..) (y:= .int n) (.head _) (λn e=>by cases e) (by show 4<=500;decide) aU FL ?_);refine bC (aC (gw (cf (ah (j:=1) he .loc aa rfl) (ki ?_))));rw [h] at hΦ;exact hΦ
 ·refine bC (aC (gw (cf (ah (j:=1) he .loc aa rfl) (ki ?_))));rw [h] at hΦ;exact hΦ
theorem Lv(H:Hy G)(LH:fM G K){P:ib}(PO:mU P){q:List V}{N:Int}{c:Nat}{cs:List Nat}(hΦ:Φ (E8 c) (j6 P q N cs)):FC (k+3) (j6 P q N (c::cs)) (.ref 200) [.ref P.lx] Φ:=by
 have h1:=(PO.read k (j6 P q N (c::cs)) 4 (.tail _ (.tail _ (.tail _ (.tail _ (.tail _ (.head _)))))) (.tail _ (.tail _ (.head _))) (.tail _ (.tail _ (.tail _ (.tail _ (.tail _ (.tail _ (.head _)))))))).1 c (cs.map E8) rfl;refine AS (cs':=ae cs) (c:=⟨#[c]⟩) H LH (λ{z} h=>h1.mono λy nu e=>by (refine aj (e.1 ..) ?_;refine aj (e.2 ..) ?_);exact h) ?_;have:(if (⟨#[c]⟩:bb) == "\n" then N - ((c::cs).count 10:Nat)+1 else N - ((c::cs).count 10:Nat))=N - (cs.count 10:Nat):=by
  by_cases hc:c=10
  ·subst hc;refine aj (if_pos (by decide) ..) ?_;refine aj (List.count_cons_self ..) ?_;lia
  ·have:¬((⟨#[c]⟩:bb) == "\n")=aJ:=by
    intro h;have h2:(⟨#[c]⟩:bb)="\n":=by simpa using h
    have h3:(⟨#[c]⟩:bb).cps.toList=[10]:=by refine aj (h2 ..) ?_;rfl
    exact hc (by simpa using h3)
   refine aj (if_neg this ..) ?_;refine aj (List.count_cons_of_ne (by exact hc) ..) ?_;rfl
 exact aj (this ..) (hΦ)
theorem OC(H:Hy G)(LH:fM G K){P:ib}(PO:mU P){q:List V}{N:Int}(hΦ:Φ (.str "") (yv P q N av)):FC (k+3) (j6 P q N []) (.ref 200) [.ref P.lx] Φ:=by have h1:=(PO.read k (j6 P q N []) 4 (.tail _ (.tail _ (.tail _ (.tail _ (.tail _ (.head _)))))) (.tail _ (.tail _ (.head _))) (.tail _ (.tail _ (.tail _ (.tail _ (.tail _ (.tail _ (.head _)))))))).2 rfl;refine AS (cs':=av) (c:="") H LH (λ{z} h=>h1.mono λy nu e=>by (refine aj (e.1 ..) ?_;refine aj (e.2 ..) ?_);exact h) ?_;refine aj (if_neg (by decide) ..) ?_;refine aj (show N - (Am 10 ([]:List Nat):Int)=N from Int.sub_zero N) ?_;exact hΦ
noncomputable abbrev gtFr(L lx:ay)(tok fit ch:Option V):cX:=bq L (aM (L+1) (bk (jl 10 2)).names) [ae (.ref lx),tok,fit,ch]
noncomputable abbrev IQ(acc:List Nat):V:= .str ⟨acc.toArray⟩
theorem OD(acc:List Nat)(c:Nat):(⟨acc.toArray⟩:bb)++(⟨#[c]⟩:bb)=⟨(acc++[c]).toArray⟩:=by show (⟨acc.toArray++#[c]⟩:bb)=_;simp
theorem RZ(c:Nat):(!(cZ ("\n\t\r ":bb) ⟨#[c]⟩ 0 ("\n\t\r ":bb).length 1).isEmpty)=xE c:=by refine aj (PySem.StrLaws.found_one ..) ?_;rfl
theorem eq_ch(c d:Nat):((⟨#[c]⟩:bb) == (⟨#[d]⟩:bb))=decide (c=d):=by
 by_cases h:c=d
 ·subst h;simp
 ·refine aj (decide_eq_false h ..) ?_;apply beq_eq_false_iff_ne.mpr;intro e;have h3:(⟨#[c]⟩:bb).cps.toList=(⟨#[d]⟩:bb).cps.toList:=by (refine aj (e ..) ?_;rfl)
  exact h (by simpa using h3)
noncomputable abbrev D3(P:ib)(N:Int)(L I m:ay)(acc:List Nat)(ch:Option V)(cs:List Nat):Mu:=TO I m 200 P.lx::gtFr L P.lx (ae (IQ acc)) (ae (.ref I)) ch::j6 P [] N cs
noncomputable abbrev kD(pm cd doc:ai)(L:ay):gP:=dT (Ar (jl 10 2) "_netrclex.get_token" pm cd doc) 207 L
theorem m1{a b:cX}{l:Mu}:b∈a::b::l:=ab _ aa
theorem ch_ne(c:Nat):(⟨#[c]⟩:bb)≠"":=λe=>by
 have h3:(⟨#[c]⟩:bb).cps.toList=[]:=by refine aj (e ..) ?_;rfl
 simp at h3
theorem OE(H:Hy G)(LH:fM G K){P:ib}(PO:mU P){N:Int}{L I m:ay}{acc:List Nat}{ch:Option V}{c:Nat}{cs:List Nat}{Φs:V->Mu->Prop}{Φn:Mu->Prop}(h:Φs (E8 c) (D3 P N L I m acc ch cs)):NX (k+4) (D3 P N L I m acc ch (c::cs)) I Φs Φn:=by exact cq (LH.f200.go) λob pm cd doc h0 hd z=>oU (i:=0) h0 hd rfl (FC.up (FC.up (Lv (k:=k) (q:=[]) (N:=N) (c:=c) (cs:=cs) H LH PO ⟨_,rfl,rfl,λz=>h,λe=>absurd e (ch_ne c)⟩)))
theorem OF(H:Hy G)(LH:fM G K){P:ib}(PO:mU P){N:Int}{L I m:ay}{acc:List Nat}{ch:Option V}{c:Nat}{cs:List Nat}(h:Φ (E8 c) (D3 P N L I m acc ch cs)):
 FW (k+4) (D3 P N L I m acc ch (c::cs)) (.ref 200) [.ref P.lx] Φ:=by
 exact FW.le (FC.fw (FC.up (FC.up (Lv (k:=k) (q:=[]) (N:=N) (c:=c) (cs:=cs) H LH PO h)))) (jD _)
theorem io_tk{acc:List Nat}{c:Nat}(h:acc.length<=2 ^ 22):Nv k mu .Add (bZ (IQ acc)) (bZ (E8 c)) (bZ (IQ (acc++[c]))):=by have:=RA (k:=k) (mu:=mu) (a:=⟨acc.toArray⟩) (b:=⟨#[c]⟩) (by show acc.toArray.size+1<=2 ^ 24;simp;exact aw (by assumption) (by decide));rw [OD] at this;exact this
structure yw(K:fl):Prop where
 b_read:su K 217 200 "_read_char"=aJ
noncomputable abbrev gtS0(P:ib)(N:Int)(L I:ay)(acc:List Nat)(ch:Option V):Mu:=pP::gtFr L P.lx (ae (IQ acc)) (ae (.ref I)) ch::yv P [] N av
def Lw(k:Nat)(P:ib)(N:Int)(st:List Nat->Option V->List Nat->Mu)(s0:List Nat->Option V->Mu)(pm cd doc:ai)(L:ay)(Φ:V->Mu->Prop):Prop:=
 (∀{acc c d cs p p2 p3 s kk},s=⟨#[d]⟩->PT (k+4) (st acc (ae (E8 c)) cs) (kD pm cd doc L) (.Compare (.Name "ch" p) [.Eq] [.Constant (.str s) kk p2] p3) (decide (c=d)))/\
 (∀{acc c cs p p2 p3 p4},PT (k+4) (st acc (ae (E8 c)) cs) (kD pm cd doc L) (.Compare (.Name "ch" p) [.In] [.Attribute (.Name "self" p2) "whitespace" p3] p4) (xE c))/\
 (∀{acc c cs p p2 p3 Ψ},acc.length<=2 ^ 22->Ψ .next (st (acc++[c]) (ae (E8 c)) cs)->WX (k+4) (st acc (ae (E8 c)) cs) (kD pm cd doc L) (.AugAssign (.Name "token" p) .Add (.Name "ch" p2) p3) Ψ)/\
 (∀{acc ch c cs p p2 p3 p4 p5 pl Ψ},dW (.Call (.Attribute (.Name "self" p2) "_read_char" p3) [] [] p4) (kD pm cd doc L)=(do let ov <- dW (.Name "self" p2) (kD pm cd doc L);iE p3.atName;let (f,first) <- eW [ov] (mB ov "_read_char" pl);pC p4 f first (lj p4 (fo [] (kD pm cd doc L))) [])->Ψ .next (st acc (ae (E8 c)) cs)->WX (k+4) (st acc ch (c::cs)) (kD pm cd doc L) (.Assign [.Name "ch" p] (.Call (.Attribute (.Name "self" p2) "_read_char" p3) [] [] p4) p5) Ψ)/\
 (∀{acc ch cs p p2 p3 body orelse Ψ} (I:List Nat->List Nat->Prop),I acc cs->(∀a b,I a []->WS (k+4) (s0 a b) (kD pm cd doc L) orelse Ψ)->
  (∀J a c cs,I a (c::cs)->(∀a' b cs',cs'.length<=cs.length->I a' cs'->J (st a' b cs'))->WS (k+4) (st a (ae (E8 c)) cs) (kD pm cd doc L) body (kW J Ψ))->
  WX (k+4) (st acc ch cs) (kD pm cd doc L) (.For (.Name "ch" p) (.Name "fiter" p2) body orelse p3) Ψ)/\
 (∀{acc ch cs p p2 Ψ},Φ (IQ acc) (j6 P [] N cs)->(jK (IQ acc) (st acc ch cs) Φ->Ψ (.ret (IQ acc)) (st acc ch cs))->WX (k+4) (st acc ch cs) (kD pm cd doc L) (.Return (ae (.Name "token" p)) p2) Ψ)/\
 ∀{acc ch p p2 Ψ},Φ (IQ acc) (yv P [] N av)->(jK (IQ acc) (s0 acc ch) Φ->Ψ (.ret (IQ acc)) (s0 acc ch))->WX (k+4) (s0 acc ch) (kD pm cd doc L) (.Return (ae (.Name "token" p)) p2) Ψ
section
variable {P:ib}{N:Int}{st:List Nat->Option V->List Nat->Mu}{s0:List Nat->Option V->Mu}(h:Lw k P N st s0 pm cd doc L Φ)
def Lw.eq:=@h.1
def Lw.ws:=@h.2.1
def Lw.aug:=@h.2.2.1
def Lw.rd:=@h.2.2.2.1
def Lw.loop:=@h.2.2.2.2.1
def Lw.ret:=@h.2.2.2.2.2.1
def Lw.ret0:=@h.2.2.2.2.2.2
end
def yx.S0(k:Nat)(P:ib)(N:Int)(L I q:ay)(pm cd doc:ai)(_:Nat):Prop:=∀{Φ:V->Mu->Prop} {K:fl} (H:Hy G) (LH:fM G K) (PO:mU P) (he:du (kD pm cd doc L)),Lw k P N (D3 P N L I q) (gtS0 P N L I) pm cd doc L Φ
namespace yx
@[irreducible] def e0:=zI eO IP Q0 cL cL cL gL gL gL eO S0
def k_:=e0.1
def P_:=e0.2.1
def N_:=e0.2.2.1
def L_:=e0.2.2.2.1
def I_:=e0.2.2.2.2.1
def q_:=e0.2.2.2.2.2.1
def pg:=e0.2.2.2.2.2.2.1
def cd_:=e0.2.2.2.2.2.2.2.1
def g8:=e0.2.2.2.2.2.2.2.2.1
theorem T0:S0 k_ P_ N_ L_ I_ q_ pg cd_ g8 e0.2.2.2.2.2.2.2.2.2:=by
 intro Φ K H LH PO he;obtain ⟨ob,_,_,_,h0,hd,_⟩:=LH.f200.go;have m3:∀{a b c d:cX} {l:Mu},d∈a::b::c::d::l:=ao (i:=3) rfl;have p0:∀{acc:List Nat} {ch:Option V} {cs:List Nat} {p:jB},PE (k_+4) (D3 P_ N_ L_ I_ q_ acc ch cs) (kD pg cd_ g8 L_) (.Name "self" p) (.ref P_.lx):=ah (j:=0) he .loc m1 rfl;have p3:∀{acc:List Nat} {c:Nat} {cs:List Nat} {p:jB},PE (k_+4) (D3 P_ N_ L_ I_ q_ acc (ae (E8 c)) cs) (kD pg cd_ g8 L_) (.Name "ch" p) (E8 c):=ah (j:=3) he .loc m1 rfl;have nr:∀n,("_read_char":bb)∉(th n (.ref P_.f) P_.pb).map (·.1):=λn=>by show ("_read_char":bb)∉(["lineno","instream","whitespace","pushback"]:List bb);decide
 refine ⟨?_,?_,?_,?_,?_,?_,?_⟩
 ·intro acc c d cs p p2 p3' s kk e;subst e;exact oS (c9 p3 cO rA) (eq_ch c d)
 ·intro acc c cs p p2 p3' p4;exact oS (c9 p3 (oQ LH.KO LH.p_ws p0 m3 (nM ..) (y:= .str "\n\t\r ") (.tail _ (.tail _ (.head _))) (λn e=>by cases e)) C9) (RZ c)
 ·intro acc c cs p p2 p3' Ψ h w;exact rN (i:=1) (j:=1) he .loc rfl rfl p3 (io_tk h) w
 ·intro acc ch c cs p p2 p3' p4 p5 pl Ψ ev w;exact b4 (pO LH.KO LH.m_read p0 m3 (nr _) h0 hd (OF H LH PO (aQ (i:=1) (j:=3) he .loc rfl w)) ev) rfl rfl
 ·intro acc ch cs p p2 p3' body orelse Ψ I' h hn ht;refine OB (ah (j:=2) he .loc m1 rfl) aa (λn nu=>∃a b cs,cs.length=n/\I' a cs/\nu=D3 P_ N_ L_ I_ q_ a b cs) cs.length ⟨acc,ch,cs,rfl,h,rfl⟩ λn nu hI=>?_;obtain ⟨a,b,cs,rfl,hI,rfl⟩:=hI;cases cs with
  |nil=>exact oU (i:=0) h0 hd rfl (FC.up (FC.up (OC (k:=k_) (q:=[]) (N:=N_) H LH PO ⟨_,rfl,rfl,λh=>absurd rfl h,λz=>hn a b hI⟩)))
  |cons c cs=>exact OE H LH PO (aQ (i:=1) (j:=3) he .loc rfl (ht _ a c cs hI λa' b cs' hl hI=>⟨cs'.length,Nat.lt_succ_of_le hl,a',b,cs',rfl,hI,rfl⟩))
 ·intro acc ch cs p p2 Ψ h o;exact gw (cf (ah (j:=1) he .loc m1 rfl) (o (jK.tail (jK.tail (jK.keep h)))))
 ·intro acc ch p p2 Ψ h o;exact gw (cf (ah (j:=1) he .loc m1 rfl) (o (jK.tail (jK.tail (jK.keep h)))))
end yx
theorem yx{P:ib}{N:Int}{L I q:ay}{pm cd doc:ai}:yx.S0 k P N L I q pm cd doc 0:=by with_unfolding_all exact uB _ _ _ _ _ _ _ _ _ _ yx.S0 @yx.T0 k P N L I q pm cd doc 0
theorem Lx(H:Hy G)(LH:fM G K)(BH:yw K){P:ib}(PO:mU P){N:Int}{cs:List Nat}(h:∀st s0 pm cd doc L,Lw k P N st s0 pm cd doc L Φ->WS (k+4) (st [] av cs) (kD pm cd doc L) ((fR (jl 10 2)).drop 3) (lE Φ)):
 FW (k+5) (j6 P [] N cs) (.ref 207) [.ref P.lx] Φ:=by
 refine DH H LH.f207 (names:=["self"]) (vals':=λL=>[ae (.ref P.lx),av,av,av]) (λpm cd doc vs h=>uM h λa=>rfl) (by decide+kernel) rfl (λpm cd doc L=> .cons (j:=0) .loc rfl .nil) (λpm cd doc L he=>?_);have m2:∀{a b c:cX} {l:Mu},c∈a::b::c::l:=ao (i:=2) rfl;have nr:∀n,("_read_char":bb)∉(th n (.ref P.f) P.pb).map (·.1):=λn=>by show ("_read_char":bb)∉(["lineno","instream","whitespace","pushback"]:List bb);decide
 refine aC (iY (kU (uD (oQ LH.KO LH.p_push (ah (j:=0) he .loc aa rfl) m2 (nM ..) (y:= .ref P.pb) (.tail _ (.tail _ (.tail _ (.head _)))) (λn e=>by cases e)) m1) (GZ (by show 0 < 2 ^ 60;decide))) (λh=>(vG h)) λz=>?_);refine bC (aC (bX cO (aQ (i:=0) (j:=1) he .loc rfl ?_) rfl rfl));refine aC (b4 (IM (j4 H he H.b_iter rfl) (cA (Ls LH.KO BH.b_read (ah (j:=0) he .loc aa rfl) m2 (nr _) λq=>cA (cf cO (e9 ⟨[bZ (.ref q),bZ (.str "")],λZ vs hv=>?_,Lu λI=>aQ (i:=1) (j:=2) he .loc rfl (h _ _ pm cd doc L (yx H LH PO he))⟩))))) rfl rfl);cases hv with
 |cons a r=>cases r with
  |cons b r=>cases r;exact .cons a (.cons b .nil)
theorem Qr{a cs:List Nat}{c:Nat}(h:a.length+(c::cs).length<=2 ^ 20):a.length<=2 ^ 22:=aw (dC _ _) (aw h (by decide))
theorem Ly{a cs ds:List Nat}{c d:Nat}(h:a.length+(c::cs).length<=2 ^ 20)(hl:ds.length<=cs.length):(a++[d]).length+ds.length<=2 ^ 20:=by refine aj (ba ..) ?_;refine aj (l5 ..) ?_;refine aj (Nat.add_comm [d].length ..) ?_;exact aw (qk (E0 hl) _) h
theorem F6{P:ib}{N:Int}{st:List Nat->Option V->List Nat->Mu}{s0:List Nat->Option V->Mu}{pm cd doc:ai}{L:ay}{tk:List Nat->List Nat->Option (List Nat×List Nat)}{r:List Nat×List Nat}{a cs:List Nat}{c:Nat}{s:bb}{kk:Nat}{p1 p2 p3 p4 p5 p6 p7 p8 p9:jB}{pl:oZ Bool}
 (T:Lw k P N st s0 pm cd doc L Φ) (ht:(if c=92 then (match cs with|[]=>av|d::ds=>tk (a++[d]) ds) else tk (a++[c]) cs)=ae r) (h:∀d ds,ds.length<=cs.length->tk (a++[d]) ds=ae r->Θ .next (st a (ae (E8 d)) ds)) (hs:autoParam (s=⟨#[92]⟩) aR) (he:autoParam (dW (.Call (.Attribute (.Name "self" p5) "_read_char" p6) [] [] p7) (kD pm cd doc L)=(do let ov <- dW (.Name "self" p5) (kD pm cd doc L);iE p6.atName;let (f,first) <- eW [ov] (mB ov "_read_char" pl);pC p7 f first (lj p7 (fo [] (kD pm cd doc L))) [])) aR):
 WX (k+4) (st a (ae (E8 c)) cs) (kD pm cd doc L) (.If (.Compare (.Name "ch" p1) [.Eq] [.Constant (.str s) kk p2] p3) [.Assign [.Name "ch" p4] (.Call (.Attribute (.Name "self" p5) "_read_char" p6) [] [] p7) p8] [] p9) Θ:=by
 refine iY (T.eq hs) (λe=>?_) λe=>?_
 ·rw [if_pos (of_decide_eq_true e)] at ht;cases cs with
  |nil=>exact gK ht
  |cons d ds=>exact aC (T.rd he (bC (h d ds (jD _) ht)))
 ·rw [if_neg (of_decide_eq_false e)] at ht;exact bC (h c cs (bp _) ht)
def nN.S0(k:Nat)(Φ:V->Mu->Prop)(w rest:List Nat):Prop:=∀{K:fl} {P:ib} {N:Int} {cs:List Nat} (H:Hy G) (LH:fM G K) (BH:yw K) (PO:mU P) (ht:yu cs=ae (w,rest)) (hB:cs.length<=2 ^ 20) (hΦ:Φ (IQ w) (j6 P [] N rest)),FW (k+5) (j6 P [] N cs) (.ref 207) [.ref P.lx] Φ
namespace nN
@[irreducible] def e0:=GW eO s7 gD gD S0
def k_:=e0.1
def Φ_:=e0.2.1
def w_:=e0.2.2.1
def Hr:=e0.2.2.2
theorem T0:S0 k_ Φ_ w_ Hr:=by
 intro K P N cs H LH BH PO ht hB hΦ;refine Lx H LH BH PO λst s0 pm cd doc L T=>aC (T.loop (λa cs=>a=[]/\cs.length<=2 ^ 20/\yu cs=ae (w_,Hr)) ⟨rfl,hB,ht⟩ (λa b h=>by exact gK h.2.2) λJ a c cs hI hJ=>?_);refine GV hI λgi hB ht=>?_;clear hI;subst gi;unfold yu at ht;refine aC (iY T.ws (λh=>?_) λh=>?_)
 ·rw [if_pos h] at ht;exact aC (G0 (hJ _ _ _ (bp _) ⟨rfl,ni hB,ht⟩))
 rw [if_neg (by refine aj (h ..) ?_;decide)] at ht;refine bC (aC (iY (T.eq (d:=34) rfl) (λh2=>?_) λh2=>?_))
 ·rw [if_pos (of_decide_eq_true h2)] at ht;refine aC (T.loop (λa cs=>a.length+cs.length<=2 ^ 20/\uT a cs=ae (w_,Hr)) ⟨aw (ll (eC _)) (ni hB),ht⟩ (λa b h=>by exact gK h.2) λJ a c cs hI hJ=>?_);refine dU hI λhB ht=>?_;clear hI;unfold uT at ht;refine aC (iY (T.eq (d:=34) rfl) (λh3=>?_) λh3=>?_)
  ·rw [if_pos (of_decide_eq_true h3)] at ht;cases ht;exact aC (T.ret hΦ λh=>h)
  ·rw [if_neg (of_decide_eq_false h3)] at ht;exact aC (F6 T ht λd ds hl ht=>bC (aC (T.aug (Qr hB) (bC (hJ _ _ _ hl ⟨Ly hB hl,ht⟩)))))
 ·rw [if_neg (of_decide_eq_false h2)] at ht;unfold sW at ht;rw [if_neg (by refine aj (h ..) ?_;decide)] at ht;refine aC (F6 (a:=[]) T ht λd ds hl ht=>aC (T.aug (by decide) (aC (T.loop (λa cs=>a.length+cs.length<=2 ^ 20/\sW a cs=ae (w_,Hr)) ⟨Ly (a:=[]) (c:=c) (cs:=cs) (aw (ll (eC _)) hB) hl,ht⟩ (λa b h=>by exact gK h.2) λJ a c cs hI hJ=>?_))));refine dU hI λhB ht=>?_;clear hI;unfold sW at ht;refine aC (iY T.ws (λh3=>?_) λh3=>?_)
  ·rw [if_pos h3] at ht;cases ht;exact aC (T.ret hΦ λh=>h)
  ·rw [if_neg (by refine aj (h3 ..) ?_;decide)] at ht;exact aC (F6 T ht λd ds hl ht=>bC (aC (T.aug (Qr hB) (bC (hJ _ _ _ hl ⟨Ly hB hl,ht⟩)))))
end nN
theorem nN{w rest:List Nat}:nN.S0 k Φ w rest:=by with_unfolding_all exact vz _ _ _ _ nN.S0 @nN.T0 k Φ w rest
theorem xF(H:Hy G)(LH:fM G K)(BH:yw K){P:ib}(PO:mU P){N:Int}{w rest cs:List Nat}(ht:yu cs=ae (w,rest))(hB:cs.length<=2 ^ 20):
 FW (k+5) (j6 P [] N cs) (.ref 207) [.ref P.lx] λy nu=>y=IQ w/\nu=j6 P [] N rest:=nN H LH BH PO ht hB ⟨rfl,rfl⟩
theorem IR(H:Hy G)(LH:fM G K)(BH:yw K){P:ib}(PO:mU P){N:Int}{cs:List Nat}(hw:∀c∈cs,xE c=aJ)(hΦ:Φ (.str "") (yv P [] N av)):
 FW (k+5) (j6 P [] N cs) (.ref 207) [.ref P.lx] Φ:=by
 refine Lx H LH BH PO λst s0 pm cd doc L T=>aC (T.loop (λa cs=>a=[]/\∀c∈cs,xE c=aJ) ⟨rfl,hw⟩ (λa b h=>?_) λJ a c cs hI hJ=>?_)
 ·refine dU h λiC z=>?_;clear h;subst iC;exact bC (aC (T.ret0 hΦ λh=>h))
 ·refine aC (iY T.ws (λh=>?_) λh=>?_)
  ·exact aC (G0 (hJ _ _ _ (bp _) ⟨hI.1,λd hd=>hI.2 d (ab _ hd)⟩))
  ·rw [hI.2 c aa] at h;exact JX h
theorem Lz(H:Hy G)(LH:fM G K)(BH:yw K){P:ib}(PO:mU P){N:Int}{cs:List Nat}(hw:∀c∈cs,xE c=aJ):
 FW (k+5) (j6 P [] N cs) (.ref 207) [.ref P.lx] λy nu=>y= .str ""/\nu=yv P [] N av:=IR H LH BH PO hw ⟨rfl,rfl⟩
end
variable {vs:d9}{S:List (Nat×V)}
section
variable {prog:dJ}{w:ee}{A:bh}{E:ai->aq->Prop}{s:aq}
open Builtin in
theorem w9{it t:ay}{i:Nat}{items:Array ai}{x:ai}{Q:ai->aq->Prop}(hit:s.heap.IsTupleIter it t i)(ht:s.heap.IsTuple t items)(hx:items[i]? =ae x)
 (hQ:∀h',h'.IsTupleIter it t (i+1)->ji it s.heap h'->Q x {s with heap:=h'}):aS (aX prog w) A (mG (.ref it)) Q E s:=by
 refine eg (id hit) λo ho hc hd=>?_;obtain ⟨ol,MZ,_,nl,Fc⟩:=ht;unfold mG;refine ag (dX (name:=fQ "__next__") hit.typeIs l8
  (dp l8 hit.typeIs QV ?_ (P4 _)))
 show aS _ _ (vt (.ref it) 0 >>=_) _ _ s;refine ag (dS ho hd (x:= .ref t) rfl ?_);show aS _ _ (if (cY t == eG)=aJ then _ else _) _ _ s;refine aj (if_neg (show ¬((cY t == eG)=aJ) from cF)) ?_;show aS _ _ (vt (.ref it) 1 >>=_) _ _ s;refine ag (dS ho hd (x:= .int i 0) rfl ?_);show aS _ _ (seqItems? (.ref t) >>=_) _ _ s;refine ag (CN MZ Fc ?_);simp only [b8,hx];refine ag (eH ho hd (by exact bp _) (ar ⟨x,rfl,ar (hQ _ ?_ (bY ..))⟩));exact ⟨_,bS _ ho (iW (dP hd _)),(pI ..).trans hc,by refine aj (dP hd ..) ?_;simp [pB]⟩
theorem yy{it t:ay}{i:Nat}{items:Array ai}{Q:ai->aq->Prop}(hh:A.handled=av)(hit:s.heap.IsTupleIter it t i)(ht:s.heap.IsTuple t items)(hx:items[i]? =av)
 (hE:∀h' e,rv it s.heap h'->(∃o,h'.get? e=ae o/\o.cls= .type "StopIteration")->E (.ref e) {s with heap:=h'}):aS (aX prog w) A (mG (.ref it)) Q E s:=by
 refine eg (id hit) λo ho hc hd=>?_;obtain ⟨ol,MZ,_,nl,Fc⟩:=ht;unfold mG;refine ag (dX (name:=fQ "__next__") hit.typeIs l8
  (dp l8 hit.typeIs QV ?_ (P4 _)))
 show aS _ _ (vt (.ref it) 0 >>=_) _ _ s;refine ag (dS ho hd (x:= .ref t) rfl ?_);show aS _ _ (if (cY t == eG)=aJ then _ else _) _ _ s;refine aj (if_neg (show ¬((cY t == eG)=aJ) from cF)) ?_;show aS _ _ (vt (.ref it) 1 >>=_) _ _ s;refine ag (dS ho hd (x:= .int i 0) rfl ?_);show aS _ _ (seqItems? (.ref t) >>=_) _ _ s;refine ag (CN MZ Fc ?_);simp only [b8,hx];refine ag (oh (ag (eH ho hd (by simp) ?_)));show aS _ _ (Tw (.type "StopIteration") [] >>=_) _ _ _;refine nH hh ?_;exact hE _ _ (((bY ..).extBut.push _).push _) ⟨_,aW _ rfl,rfl⟩
theorem LB(hh:A.handled=av)(it t:ay)(iP:t≠it)(items:Array ai):
 Draws prog w A it [it,t] items.size (λi v=>items[i]? =ae v) (λi h=>h.IsTupleIter it t i/\h.IsTuple t items) where
 live:=λz z st=>let ⟨o,ho,_⟩:=st.1;⟨o,ho⟩
 frame:=λz z z st hk=>⟨let ⟨o,ho,q⟩:=st.1;⟨o,hk it (by exact aa) o ho,q⟩,IsTuple.at st.2 λo e=>hk t (by exact ab _ aa) o e⟩
 item:=λi s Q E hi st hQ=>by
  exact w9 st.1 st.2 (x:=items[i]) (by simp [hi]) λh' S1 ua=>hQ _ h' s.toks (by simp [hi]) ⟨S1,IsTuple.at st.2 λo e=>ua.extBut t o iP e⟩ ua
 done:=λs Q E st hE=>yy hh st.1 st.2 (by simp) hE
open AutoSeq1 (wpAny_loadPart') in
set_option tactic.hygienic true in
theorem rW(l:ay)(o:oY)(hc:o.cls= .type "tuple")(items:Array ai)(n:Nat)(hd:o.data= .seq items n):
 Meets (Builtin.«enumerate.__new__» ⟨[.type "enumerate",.ref l],[]⟩) (λ_ R s=>s.heap.get? l=ae o/\
  R (.ok (.ret (.ref (s.heap.push {cls:= .type "tuple_iterator",data:= .fields #[.ref l,.int 0 0]}).objs.size)))
   {s with heap:=(s.heap.push {cls:= .type "tuple_iterator",data:= .fields #[.ref l,.int 0 0]}).push {cls:= .type "enumerate",data:= .fields #[.none,.bool aH,.ref s.heap.objs.size,pB 0,.none,.none]}}):=
 .of_wp λprog w A R s h=>by
  obtain ⟨hp,g,d,tk,os⟩:=s;obtain ⟨hl,h⟩:=h;have qZ:=sub_enumerate;have hL:Heap.IsTuple (Shared.heap ⟨hp,g,d,tk,os⟩) l items:=⟨_,hl,hc,n,hd⟩
  wp_walk using kP hl
  refine wpAny_stack_any λst=>ar ?_
  split
  ·rename_i c _ _ _ _ _;cases (c == lX "enumerate")
   ·wp_walk using kP hl,ui hL
    exact ⟨_,rfl,h⟩
   ·wp_walk using kP hl,ui hL
    exact ⟨_,rfl,h⟩
  ·wp_walk using kP hl,ui hL
   exact ⟨_,rfl,h⟩
theorem tM{l:ay}{items:Array ai}{Q:ai->aq->Prop}(hL:s.heap.IsTuple l items)
 (h:∀h',IsEnum h' (s.heap.objs.size+1) s.heap.objs.size 0 .none->h'.IsTupleIter s.heap.objs.size l 0->h'.objs.size=s.heap.objs.size+2->
  (∀b o,s.heap.get? b=ae o->h'.get? b=ae o)->Q (.ref (s.heap.objs.size+1)) {s with heap:=h'}):
 aS (aX prog w) A (ku (.type "enumerate") [.ref l]) Q E s:=by
 obtain ⟨o,hl,hc,n,hd⟩:=hL;refine callType_new F.called_enumerate (by decide) (F.typeCall_enumerate_1 _) (F.newCall_enumerate_1 _) (λobj=>F.args_object_init_2 obj _) F.entry_enumerate_new
  (rW l o hc items n hd) ⟨hl,?_⟩
 have hz:(s.heap.push {cls:= .type "tuple_iterator",data:= .fields #[.ref l,.int 0 0]}).objs.size=s.heap.objs.size+1:=fN ..;show _/\_;refine aj (hz ..) ?_;have he:IsEnum ((s.heap.push {cls:= .type "tuple_iterator",data:= .fields #[.ref l,.int 0 0]}).push
  {cls:= .type "enumerate",data:= .fields #[.none,.bool aH,.ref s.heap.objs.size,pB 0,.none,.none]}) (s.heap.objs.size+1) s.heap.objs.size 0 .none:=by
  have:=aW (s.heap.push {cls:= .type "tuple_iterator",data:= .fields #[.ref l,.int 0 0]})
   (o:={cls:= .type "enumerate",data:= .fields #[.none,.bool aH,.ref s.heap.objs.size,pB 0,.none,.none]}) rfl
  rw [hz] at this;exact this
 refine ⟨⟨_,he,rfl⟩,h _ he ⟨_,az _ (aW _ rfl),rfl,rfl⟩ (by (refine aj (fN ..) ?_;refine aj (hz ..) ?_;rfl)) λb o x=>az _ (az _ x)⟩
end
section
variable {tp:jB}{x:bb}{kk:Nat}{elts:List bH}
theorem IS{e1:bH}(hf:PE k mu env (.Name x p) (.type "enumerate"))(h1:PE k mu env e1 (.tup xs))(zh:∀a p,e1≠ .Starred a p:=by intro z z h;cases h):
 o8 k mu env (.Call (.Name x p) [e1] [] pos) (.Tuple elts kk tp) [] (rC xs):=⟨λz h=>(eo h),λ{A E Z s fr Q} hA r q=>by
 refine sv hf (au h1 aT zh) zh hA r λ{vs s2 Z2} z2 q2 r2=>aK (q2.one) λv1 dO q5=>?_;subst dO;refine dK (aZ.tup_inv q5) λa o vs n eU e1 hc hd hr=>?_;subst eU;have hL:s2.heap.IsTuple a vs:=⟨_,r2.zin _ _ e1,hc,n,hd⟩;have SI:=bN (r2.zin _ _ e1);exact tM hL λh' he TU hsz hk=>vJ r2 (λA hh=>LB hh s2.heap.objs.size a (c8 SI) vs) (G3 SI) aa (b9 hr) (vI e1) (λi v x=>nB hr) he ⟨TU,IsTuple.at hL λo e=>hk _ _ e⟩ hk λ{z z z} hit=>q hit z2⟩
structure Sv(vs:d9)(S:List (Nat×V)):Prop where
 len:vs.length=47
 at':∀j y,S.lookup j=ae y->vs[j]? =ae (ae y)
variable {j:Nat}
theorem Sv.get(h:Sv vs S)(e:S.lookup j=ae y):vs[j]? =ae (ae y):=h.at' j y e
theorem Sv.set(h:Sv vs S)(hj:autoParam (j < 47) aD):Sv (vs.set j (ae y)) ((j,y)::S):=⟨by refine aj (List.length_set ..) ?_;exact h.len,λi z e=>by
 rw [lh] at e;by_cases Bq:i=j
 ·subst Bq;rw [show (i == i)=aJ from by simp] at e
  (have lA:=aO e;clear e;subst lA)
  refine aj (eA (by rw [h.len];exact hj) ..) ?_;rfl
 ·rw [show (i == j)=aH from by simpa using Bq] at e;refine aj (kI (λq=>Bq q.symm) ..) ?_;exact h.at' i z e⟩
theorem Sv.drop(h:Sv vs ((j,y)::S))(e:S.lookup j=av):Sv vs S:=⟨h.len,λi z e2=>h.at' i z (by
 refine aj (lh ..) ?_;by_cases Bq:i=j
 ·subst Bq;rw [e] at e2;exact gK e2
 ·refine aj (show (i == j)=aH from by simpa using Bq) ?_;exact e2)⟩
noncomputable abbrev cw(L:ay)(vs:d9):cX:=bq L (aM (L+1) (bk (cN 23)).names) vs
noncomputable abbrev bT(pm doc:ai)(L:ay):gP:=dT (xx (cN 23) pm (.ref 306) doc) 307 L
noncomputable def mw(n:Nat):List ed:=((fR (cN 23)).take 15).drop n
noncomputable def je(n:Nat):List ed:=(fR (cN 23)).drop n
end
variable {ctx:Mu}{p2:jB}{v:V}
section
variable {lay:zx}{bz:d9}{scope:eN}{cl:List (bb×ay)}{j:Nat}
theorem Le.unset(h:bz[j]? =ae av):Le (bq L lay (bz.set j (ae y))::mu) (bq L lay bz::mu):=λZ s fr r=>by
 refine mH (r.sat _ aa) λhnd m hn hs=>?_;have hj:=(aB.mp h).1;have hw:=hs.weak (o:=ae y) (o':=av) (j:=j) (by (refine aj (eA hj ..) ?_;rfl)) (λx c e=>e.forget);rw [vb,show bz.set j av=bz from by
  refine List.ext_getElem? λn=>?_;by_cases hn:j=n
  ·subst hn;(refine aj (eA hj ..) ?_;refine aj (h ..) ?_;rfl)
  ·(refine aj (kI hn ..) ?_;rfl)] at hw
 exact r.upd' (x':=bq L lay bz) (i:=0) (h':=s.heap) (tk:=s.toks) rfl rfl (λz z z e=>e) ⟨hnd,m,hn,hw⟩
theorem LC{β:Type}{di:gP}{t u:bb}{elt fc:bH}{bs:List β}{inj g:β->V}(i j:Nat)(he:du di)(s1:Sl di C (aM (C+1) scope.names) t i)(s2:Sl di C (aM (C+1) scope.names) u j)(hj:((nones (aM (C+1) scope.names)).set i (ae v))[j]? =ae av)
 (src:o8 k (TN scope C i v::mu) di fc (.Name u p2) [] (bs.map inj)) (h:∀b∈bs,PE k (Rt scope C i j v (inj b)::mu) di elt (g b))
 (hf:autoParam ((di.kindOf t == ae .free)=aH) aR) (hf':autoParam ((di.kindOf u == ae .free)=aH) aR):Az k mu scope C di (.Name t p) elt fc (.Name u p2) [] v bs inj (λz=>aJ) g:=
 ⟨_,[],qx he s1 hf,src,(λz h=>eo h),λb hb=>⟨_,qx he s2 hf',dk,λz=>h b hb,Le.unset hj⟩⟩
theorem Hs{α β:Type}{elt iter fc t2:bH}{spos:jB}(as:List α)(inj:α->V)(bs:α->List β)(zi:β->V)(g:α->β->V)(sc:E7 scope env cl)(src:o8 k mu env iter t ctx (as.map inj))(hk:1<=k)(hsz:(as.flatMap bs).length<=2 ^ 21)
 (turn:∀C a,a∈as->Az k mu scope C (o9 scope cl C env) t elt fc t2 [] (inj a) (bs a) zi (λz=>aJ) (g a)) (hs:autoParam (∀x,bw iter env x=dg x) aR)
 (GB:autoParam (∀C x,bw fc (o9 scope cl C env) x=dg x) aR):
 PE k mu env (.ListComp elt [⟨t,iter,[],0⟩,⟨t2,fc,[],0⟩] scope spos) (.list (as.flatMap λa=>(bs a).map (g a))):=by
 have:=Kk (spos:=spos) as inj bs zi (λz z=>aJ) g sc src hk hsz turn hs GB;simpa only [kz] using this
theorem pQ{ys:List V}(h:o8 k mu env e t ctx xs)(e1:xs=ys):o8 k mu env e t ctx ys:=e1▸h
noncomputable def Qs:List Int:=[871261,18183,223382,230704,2030521,1350021,8139969]
noncomputable def LD(sc:List Int)(q:Nat×Int):Int:=(q.2+((jq (jq sc av (ae 60) av) (ae (q.1:Int)) av (ae 7)).map λn=>n % 12960000).sum) % 12960000
noncomputable def own7:List (Nat×Int):=Qs.zipIdx.map λq=>(q.2,q.1)
noncomputable def jR(sc:List Int):List Int:=own7.map (LD sc)
noncomputable def uU(ns:List Int):List Int:=ns.flatMap λn=>(aN 4).map λ(p:Nat)=>n / 60 ^ p % 60
theorem uV{α:Type}(xs:List α)(lo hi st:Option Int):(jq xs lo hi st).length<=xs.length:=by
 unfold jq;refine aw (List.length_filterMap_le _ _) (sliceRange_length_le _ _ _ _ (λh=>?_) (λh=>?_))
 ·unfold c7 at h ⊢;simp only at h ⊢;refine aj (if_pos h ..) ?_;refine aj (if_pos h ..) ?_;constructor
  ·cases lo with
   |none=>simp
   |some i=>simp only [h,if_true];omega
  ·cases hi with
   |none=>simp
   |some i=>simp only [h,if_true];omega
 ·unfold c7 at h ⊢;simp only at h ⊢;refine aj (if_neg h ..) ?_;refine aj (if_neg h ..) ?_;constructor
  ·cases lo with
   |none=>simp
   |some i=>simp only [h,if_false];omega
  ·cases hi with
   |none=>simp
   |some i=>simp only [h,if_false];omega
theorem pR(a n:Nat):zu (a:Int) ((a+n:Nat):Int) 1=(aN n).map (a+·):=by
 unfold zu;refine aj (if_pos (by decide) ..) ?_;by_cases h:0 < n
 ·refine aj (if_pos (by lia) ..) ?_;have:(((a+n:Nat):Int) - (a:Int)+1 - 1) / 1=n:=by simp;lia
  simp only [this,b8];refine b5 λk z=>?_;simp only [sQ];lia
 ·have:n=0:=by lia
  subst this;refine aj (if_neg (by simp) ..) ?_;rfl
theorem pS{α:Type}(xs:List α)(a n:Nat):((aN n).map (a+·)).filterMap (xs[·]?)=(xs.drop a).take n:=by
 induction n with
 |zero=>simp
 |succ n ih=>
  refine aj (qe ..) ?_;refine aj (bj ..) ?_;refine aj (List.filterMap_append ..) ?_;refine aj (ih ..) ?_;refine aj (dE ..) ?_;congr 1;refine aj (Ak ..) ?_;cases h:xs[a+n]? with
  |none=>simp [h]
  |some y=>simp [h]
theorem LF{α:Type}{xs:List α}{a b:Nat}(wY:a<=b)(hb:b<=xs.length):jq xs (ae (a:Int)) (ae (b:Int)) av=(xs.drop a).take (b - a):=by
 have e:c7 (ae (a:Int)) (ae (b:Int)) av xs.length=((a:Int),((a+(b - a):Nat):Int),1):=by
  unfold c7;have h1:¬(a:Int) < 0:=by lia
  have h2:¬(b:Int) < 0:=by lia
  simp only [Option.getD_none,h1,h2,if_false,show (1:Int) > 0 from by decide,if_true];refine TG ?_ (TG ?_ rfl) <;> simp only <;> lia
 unfold jq;refine aj (e ..) ?_;simp only;refine aj (pR ..) ?_;refine aj (pS ..) ?_;rfl
theorem OG{α:Type}{xs:List α}{b:Nat}:jq xs av (ae (b:Int)) av=xs.take b:=by
 have e:c7 av (ae (b:Int)) av xs.length=(((0:Nat):Int),((0+min b xs.length:Nat):Int),1):=by
  unfold c7;have h2:¬(b:Int) < 0:=by omega
  simp only [Option.getD_none,h2,if_false,show (1:Int) > 0 from by decide,if_true];refine TG ?_ (TG ?_ rfl) <;> simp only <;> omega
 unfold jq;refine aj (e ..) ?_;simp only;refine aj (pR ..) ?_;refine aj (pS ..) ?_;refine aj (fy ..) ?_;by_cases h:b<=xs.length
 ·(refine aj (Nat.min_eq_left h ..) ?_;rfl)
 ·(refine aj (Nat.min_eq_right (by omega) ..) ?_;refine aj (d6 (bp _) ..) ?_;refine aj (d6 (by omega) ..) ?_;rfl)
theorem law_0(H:Hy G){pm doc:ai}(he:du (bT pm doc L)){sc:List Int}(Ud:sc.length<=63)(hS:Sv vs [(0,.list (sc.map .int))])
 (next:∀vs,Sv vs [(4,.list ((uU (jR sc)).map .int)),(3,.list ((jR sc).map .int)),(0,.list (sc.map .int))]->WS (k+8) (cw L vs::mu) (bT pm doc L) (mw 2) Θ):
 WS (k+8) (cw L vs::mu) (bT pm doc L) (mw 0) Θ:=by
 have hf:∀{vs},bq L (aM (L+1) (bk (cN 23)).names) vs∈cw L vs::mu:=aa;refine aC (bX (y:= .list ((jR sc).map .int)) (bM (jP own7 (λq=> .tup [.int (q.1:Nat),.int q.2]) (λq=> .int (LD sc q)) ⟨rfl,rfl,by decide+kernel,by decide+kernel⟩ (pQ (IS (iN H he H.b_enumerate rfl) (f9 (xs:=Qs.map .int) (au aU (au aU (au aU (au aU (au aU (au aU (au aU aT))))))) (by decide))) rfl) (by lia) (by decide) (λC1 a ha=>tG 1 2 he.comp .loc .loc dk (λhb=>(br (br (ah (j:=2) he.comp .loc aa rfl) (ek (j4 H he.comp H.b_sum rfl) (au (cP (jP (jq (jq sc av (ae 60) av) (ae (a.1:Int)) av (ae 7)) .int (λn=> .int (n % 12960000)) ⟨rfl,rfl,by decide+kernel,by decide+kernel⟩ (pQ (dA (bF (dD (bF (dD (ah (j:=0) he.comp (.cell (L+1) "script") (ab _ hf) (hS.get rfl))) (jo dM (eQ aU) dM) (pd (by decide) (by simp;exact aw (by assumption) (by decide))))) (jo (eQ (ah (j:=1) he.comp .loc aa rfl)) dM (eQ aU)) (pd (by decide) (by have:=uV (sc.map V.int) av (ae 60) av;simp at this;lia)))) (by rw [jr,jr])) (by lia) (by have:=uV (jq sc av (ae 60) av) (ae (a.1:Int)) av (ae 7);have:=uV sc av (ae 60) av;lia) (λC2 a ha=>iu 1 he.comp.comp .loc dk (λhb=>(br (ah (j:=1) he.comp.comp .loc aa rfl) aU (fk (by decide))))))) aT) uK) fC) aU (fk (by decide)))))) (by rw [jR,a0];rfl)) (aQ (i:=0) (j:=3) he (.cell (L+2) "numbers") rfl ?_) rfl rfl);have hS1:=hS.set (j:=3) (y:= .list ((jR sc).map .int));refine aC (bX (y:= .list ((uU (jR sc)).map .int)) (bM (Hs (jR sc) .int (λz=>aN 4) nV (λn (p:Nat)=> .int (n / 60 ^ p % 60)) ⟨rfl,rfl,by decide+kernel,by decide+kernel⟩ (dA (ah (j:=3) he (.cell (L+2) "numbers") hf (hS1.get rfl))) (by lia) (aw (ll (show ((jR sc).flatMap λz=>aN 4).length=28 from rfl)) (by decide)) (λC a ha=>LC 1 2 he.comp .loc .loc rfl (fK (n:=4) (iN H he.comp H.b_range rfl) aU rfl (by decide)) (λb hb=>br (br (ah (j:=1) he.comp .loc aa rfl) (br aU (ah (j:=2) he.comp .loc aa rfl) (BP (by decide) (by have:=aY.mp hb;lia))) (l9 ?_)) aU (fk (by decide))))) (by unfold uU;rw [uq];simp only [a0];rfl)) (aQ (i:=0) (j:=4) he (.cell (L+3) "draws") rfl ?_) rfl rfl)
 ·have:=aY.mp hb;rcases (by lia:b=0\/b=1\/b=2\/b=3) with rfl|rfl|rfl|rfl <;> decide
 ·exact next _ hS1.set
end
section
variable {P Q:Vw}
theorem R0{x:bb}{n:Int}(h:MulOk x n):xO k mu .Mult (bZ (.str x)) (bZ (.int n)) (bZ (.str (Txt.mul x n))):=⟨λ{z z z z z z z z} hA R hp hq q=>aZ.strC hp λt=>aZ.intC hq λu=>SB.mul h λt' k=>q .rfl (aZ.str _ _) R.toks⟩
theorem OH(hl:EV k mu env l (me mu xs))(hr:EV k mu env r (me mu ys))(hz:xs.length+ys.length<=2 ^ 23)(hΦ:∀D,fL D (bl D (xs++ys)::mu) Φ):WE k mu env (.BinOp l .Add r p) Φ:=⟨λ{A E Z s fr Q} hA r0 q=>by
 with_reducible refine NC ?_
 refine hl.c hA r0 λ{v s1 Z1} z1 p1 r1=>hr.c hA r1 λ{u s2 Z2} z2 p2 r2=>cE (me.at ((me mu xs).mono _ _ _ z2 p1) r2) λa vs n dO h1 h2=>?_;subst dO;refine cE (me.at p2 r2) λb ws m eU h3 h4=>?_;subst eU;refine PySem.P.add_list (n:=n) (n2:=m) (items:=vs) (items2:=ws) h1 h3 ?_ (by (refine fZ (b9 h2 ..) ?_;refine fZ (b9 h4 ..) ?_);exact aw hz (show 2 ^ 23<=2 ^ 24 by decide));exact (hΦ s2.heap.objs.size).c (fr:=fr) (r2.addNew (tk:=s2.toks) (bl s2.heap.objs.size (xs++ys)) (λb o e=>az _ e) ⟨vs++ws,0,aW _ rfl,by refine aj (lB ..) ?_;exact h2.append h4⟩ eh λz h=>kX h) λ{z z z} z3=>q (z1.trans (z2.trans z3))⟩
structure Dr(ds:List Nat)(ns:List Int)(n6:Nat):Prop where
 len:ds.length=28
 lt:∀d∈ds,d < 60
 nlen:ns.length=7
 six:ns[6]? =ae (n6:Int)
 nlt:n6 < 12960000
noncomputable def dr(ds:List Nat)(i:Nat):Nat:=ds.getD i 0
variable {ds:List Nat}{ns:List Int}{n6:Nat}
theorem Dr.at(h:Dr ds ns n6){i:Nat}(hi:i < 28):ds[i]? =ae (dr ds i):=by unfold dr;refine aj (bR ..) ?_;refine aj (bJ (by rw [h.len];exact hi) ..) ?_;rfl
theorem Dr.dlt(h:Dr ds ns n6)(i:Nat):dr ds i < 60:=by
 unfold dr;refine aj (bR ..) ?_;cases e:ds[i]? with
 |none=>decide
 |some d=>exact h.lt d (ao e)
noncomputable def aF(ds:List Nat):Nat:=dr ds 24 % 28
theorem eI(ds:List Nat):aF ds < 28:=ef _ (by decide)
noncomputable def LG(ds:List Nat):List (Nat×Nat):=[2,3,4,5].map λb=>(dr ds (b - 2) % b,b)
noncomputable def LI(ds:List Nat):List (Nat×Nat):=[4,6,8].map λq=>(dr ds q % 6,1+dr ds (q+1) % 5)
noncomputable def dm(ds:List Nat):List (Nat×Nat):=[(0,1)]++LG ds++LI ds
noncomputable abbrev kH(q:Nat×Nat):V:= .tup [nV q.1,nV q.2]
noncomputable def cc(ds:List Nat)(b:Nat):Nat:=((ds.drop 18).take b).sum+b
noncomputable def rX(low:Nat):V:= .list ((aN 6).map λb=> .str (cB (low+b)))
theorem OI:∀i,i < 33->i < 10->oG.getD i ""=cB i:=by decide+kernel
theorem OJ:∀i,i < 33->¬i < 10->(("0x":bb)++⟨#[[49,50,52,56].getD (i % 4) 0]⟩)++Txt.mul "0" ((i / 4:Nat):Int)=cB i:=by decide+kernel
noncomputable def LJ:bb:="OPTIMIZED NEWLOCALS VARARGS VARKEYWORDS NESTED GENERATOR NOFREE COROUTINE ITERABLE_COROUTINE ASYNC_GENERATOR"
theorem D4:Txt.words LJ=oG:=by decide+kernel
theorem R1:∀i,i < 33->MulOk "0" ((i / 4:Nat):Int):=λi hi=>by
 have h:i / 4<=8:=by lia
 generalize i / 4=j at h;refine ⟨by refine gj (Bool.or_eq_false_iff ..) ?_;constructor <;> (apply decide_eq_false;lia),λh1 z=>?_,λh1 z=>?_⟩
 ·rcases (by lia:j=1\/j=2\/j=3\/j=4\/j=5\/j=6\/j=7\/j=8) with rfl|rfl|rfl|rfl|rfl|rfl|rfl|rfl <;> decide
 ·rcases (by lia:j=1\/j=2\/j=3\/j=4\/j=5\/j=6\/j=7\/j=8) with rfl|rfl|rfl|rfl|rfl|rfl|rfl|rfl <;> decide
theorem OK:∀i,i < 33->(Txt.mul "0" ((i / 4:Nat):Int)).length<=8:=by decide+kernel
noncomputable def D5(S:List (Nat×V)):List (Nat×V)->Prop
 |[]=>True
 |q::r=>S.lookup q.1=ae q.2/\D5 S r
theorem D5.at{S:List (Nat×V)}:∀{S':List (Nat×V)},D5 S S'->∀j y,S'.lookup j=ae y->S.lookup j=ae y
 |[],_,j,y,e=>by exact gK e
 |q::r,h,j,y,e=>by
  rw [lh] at e;by_cases hj:j=q.1
  ·subst hj;rw [show (q.1 == q.1)=aJ from by simp] at e
   (have lA:=aO e;clear e;subst lA)
   exact h.1
  ·rw [show (j == q.1)=aH from by simpa using hj] at e;exact D5.at h.2 j y e
theorem Sv.sub{S':List (Nat×V)}(h:Sv vs S)(hs:D5 S S'):Sv vs S':=⟨h.len,λj y e=>h.at' j y (hs.at j y e)⟩
def yz.S0(k:Nat)(mu:Mu)(vs:d9)(L:ay)(ds:List Nat)(ns:List Int)(pm doc:ai):Prop:=∀{Θ:AF->Mu->Prop} {n6:Nat} (H:Hy G) (he:du (bT pm doc L)) (hD:Dr ds ns n6) (hS:Sv vs [(4,.list (ds.map nV)),(3,.list (ns.map .int))]) (next:∀vs,Sv vs [(7,rX (aF ds)),(5,nV (aF ds)),(4,.list (ds.map nV)),(3,.list (ns.map .int))]->WS (k+8) (cw L vs::mu) (bT pm doc L) (mw 4) Θ),WS (k+8) (cw L vs::mu) (bT pm doc L) (mw 2) Θ
namespace yz
@[irreducible] def e0:=Nr eO gD gD cL gD gD gL gL S0
def k_:=e0.1
def fb:=e0.2.1
def kR:=e0.2.2.1
def L_:=e0.2.2.2.1
def aV:=e0.2.2.2.2.1
def Ht:=e0.2.2.2.2.2.1
def pg:=e0.2.2.2.2.2.2.1
def g8:=e0.2.2.2.2.2.2.2
theorem T0:S0 k_ fb kR L_ aV Ht pg g8:=by
 intro Θ n6 H he hD hS next
 have hf:∀{kR},bq L_ (aM (L_+1) (bk (cN 23)).names) kR∈cw L_ kR::fb:=aa;have d7:=eI aV;refine aC (bX (y:= .tup [nV (aF aV),.list (oG.map .str)]) (f9 (xs:=[nV (aF aV),.list (oG.map .str)]) (au (br (bF (dD (ah (j:=4) he (.cell (L_+3) "draws") hf (hS.get rfl))) aU (ew (hD.at (i:=24) (by decide)) (by refine aj (hD.len ..) ?_;decide))) aU (fk (by decide))) (au (bM (f7 cO mK aT (Ie (x:=LJ) (by decide+kernel) (by decide+kernel)) (by exact eM) (by exact jX) (by exact Ni) rfl) (by (refine aj (D4 ..) ?_;rfl))) aT)) (by show 2<=2 ^ 20;decide)) (i7 (cv rfl rfl (aQ (i:=0) (j:=5) he (.cell (L_+4) "low") rfl (cv rfl rfl (aQ (i:=0) (j:=6) he (.cell (L_+5) "known") rfl (iX ?_)))))) rfl rfl);have hS2:=(hS.set (j:=5) (y:=nV (aF aV))).set (j:=6) (y:= .list (oG.map .str));refine aC (bX (y:=rX (aF aV)) (jP (aN 6) (λb=> .int ((aF aV:Int)+(b:Nat))) (λb=> .str (cB (aF aV+b))) ⟨rfl,rfl,by decide+kernel,by decide+kernel⟩ (pQ (qu (iN H he H.b_range rfl) (ah (j:=5) he (.cell (L_+4) "low") hf (hS2.get rfl)) (br (ah (j:=5) he (.cell (L_+4) "low") hf (hS2.get rfl)) aU fC) (by lia) (by lia)) (by unfold rB;(refine aj (show ((aF aV:Int)+6 - (aF aV:Int)).toNat=6 by lia) ?_;rfl))) (by lia) (by decide) (λC1 a ha=>by
  have PN:=aY.mp ha;have h33:aF aV+a < 33:=by lia
  have ec:(aF aV:Int)+(a:Nat)=((aF aV+a:Nat):Int):=by lia
  refine aj (ec ..) ?_;generalize aF aV+a=i at h33;refine iu 1 he.comp .loc dk (λhb=>?_);have h10:decide ((i:Int) < 10)=decide (i < 10):=by
   by_cases h:i < 10
   ·(refine aj (decide_eq_true h ..) ?_;refine aj (decide_eq_true (by lia) ..) ?_;rfl)
   ·(refine aj (decide_eq_false h ..) ?_;refine aj (decide_eq_false (by lia) ..) ?_;rfl)
  refine uE (b:=decide (i < 10)) (oS (c9 (ah (j:=1) he.comp .loc aa rfl) aU C8) h10) (λh=>?_) (λh=>?_)
  ·have hi:=of_decide_eq_true h;exact fZ (OI i h33 hi ..) (bF (dD (ah (j:=6) he.comp (.cell (L_+5) "known") (ab _ hf) (hS2.get rfl))) (ah (j:=1) he.comp .loc aa rfl) (ew (a:=oG.getD i "") (by (refine aj (bR ..) ?_;refine aj (bJ (show i < oG.length from hi)) ?_);rfl) (by decide)))
  ·have hi:=of_decide_eq_false h;refine fZ (OJ i h33 hi ..) (br (br cO (bF cO (br (ah (j:=1) he.comp .loc aa rfl) aU (fk (by decide))) (gi_s (c:=[49,50,52,56].getD (i % 4) 0) ?_ ?_ ?_ (by decide))) (Fy (by show 2+1<=2 ^ 24;decide))) (br cO (br (ah (j:=1) he.comp .loc aa rfl) aU (l9 (by decide))) (R0 (R1 i h33))) (Fy ?_))
   ·have e2:((i:Int) % 4)=((i % 4:Nat):Int):=by lia
    refine aj (e2 ..) ?_;have h4:i % 4 < 4:=ef _ (by decide);generalize i % 4=m at h4;rcases (by lia:m=0\/m=1\/m=2\/m=3) with rfl|rfl|rfl|rfl <;> rfl
   ·show -(4:Int)<=_;lia
   ·lia
   ·have:=OK i h33;show 3+_<=2 ^ 24;have e3:((i:Int) / 4)=((i / 4:Nat):Int):=by lia
    refine aj (e3 ..) ?_;lia)) (aQ (i:=0) (j:=7) he (.cell (L_+6) "names") rfl ?_) rfl rfl)
 have hS3:=hS2.set (j:=7) (y:=rX (aF aV));exact next _ (hS3.sub ⟨rfl,rfl,rfl,rfl,trivial⟩)
end yz
theorem yz{pm doc:ai}:yz.S0 k mu vs L ds ns pm doc:=by with_unfolding_all exact Bx _ _ _ _ _ _ _ _ yz.S0 @yz.T0 k mu vs L ds ns pm doc
end
section
variable {ds:List Nat}{ns:List Int}{n6:Nat}{scope:eN}{cl:List (bb×ay)}
theorem OL{op:Cz}{P Q:Vw}{z z':V}(h:xO k mu op P Q (bZ z))(e:z=z'):xO k mu op P Q (bZ z'):=e▸h
theorem F7{es:List (bb×V)}{x:bb}(h:x∉es.map (·.1)):jF es x y=es++[(x,y)]:=by unfold jF;rw [if_neg];intro h2;rw [cS] at h2;refine aK h2 λq hq hx=>?_;clear h2;exact h (aG.mpr ⟨q,hq,by simpa using hx⟩)
theorem D6:∀(ps es:List (bb×V)),((es++ps).map (·.1)).Nodup->ps.foldl (λes q=>jF es q.1 q.2) es=es++ps
 |[],es,_=>by simp
 |q::ps,es,h=>by
  have hq:q.1∉es.map (·.1):=λhm=>by
   rw [bj,bP] at h;exact h.2.2 _ hm _ aa rfl
  refine aj (fF ..) ?_;refine aj (F7 hq ..) ?_;refine aj (D6 ps (es++[(q.1,q.2)]) (by simpa using h) ..) ?_;simp
theorem D7{ps:List (bb×V)}(h:(ps.map (·.1)).Nodup):rE ps=ps:=by have:=D6 ps [] (by exact h);exact this
theorem yA{α:Type}{ke ve iter:bH}{spos:jB}(B:g7 G)(as:List α)(inj:α->V)(g:α->bb×V)(sc:E7 scope env cl)(src:o8 k mu env iter t ctx (as.map inj))(hk:1<=k)(hsz:as.length<=2 ^ 21)
 (turn:∀C a,a∈as->AA k mu scope C (o9 scope cl C env) t [] ke ve (inj a) aJ (g a).1 (g a).2) (hnd:(as.map λa=>(g a).1).Nodup) (hΘ:∀D,fL D (cD D (as.map g)::mu) Φ) (hs:autoParam (∀x,bw iter env x=dg x) aR):
 WE k mu env (.DictComp ke ve [⟨t,iter,[],0⟩] scope spos) Φ:=
 WE_dc B as inj (λz=>aJ) g sc src hk hsz turn (λD=>by
  refine aj (kz ..) ?_;refine aj (D7 (by rw [a0];exact hnd) ..) ?_;exact hΘ D) hs
theorem jx{low:Nat}(hl:low < 28):∀l:List Nat,(∀b∈l,b < 6)->l.Nodup->(l.map λb=>cB (low+b)).Nodup
 |[],_,_=>by simp
 |a::l,h6,hn=>by
  refine aj (bB ..) ?_;refine gj (cj ..) ?_;rw [cj] at hn;refine ⟨λhm=>?_,jx hl l (λb hb=>h6 b (ab _ hb)) hn.2⟩;refine aK (aG.mp hm) λb hb e=>?_;have h1:=h6 b (ab _ hb);have h2:=h6 a aa;have:=qA (low+b) (by lia) (low+a) (by lia) e;have:b=a:=by lia
  subst this;exact hn.1 hb
theorem zip6:(aN 6).zipIdx=(aN 6).map λb=>(b,b):=rfl
def yB.S0(k:Nat)(mu:Mu)(vs:d9)(L:ay)(ds:List Nat)(ns:List Int)(pm doc:ai):Prop:=∀{Θ:AF->Mu->Prop} {n6:Nat} (H:Hy G) (he:du (bT pm doc L)) (hD:Dr ds ns n6) (hS:Sv vs [(7,rX (aF ds)),(5,nV (aF ds)),(4,.list (ds.map nV)),(3,.list (ns.map .int))]) (next:∀vs A,Sv vs [(11,.list ((aN 7).map λb=>nV (cc ds b))),(10,.ref A),(42,.dict (qB (aF ds))),(7,rX (aF ds)),(5,nV (aF ds)),(4,.list (ds.map nV)),(3,.list (ns.map .int))]->WS (k+8) (bl A ((dm ds).map kH)::cw L vs::mu) (bT pm doc L) (mw 7) Θ),WS (k+8) (cw L vs::mu) (bT pm doc L) (mw 4) Θ
namespace yB
@[irreducible] def e0:=Nr eO gD gD cL gD gD gL gL S0
def k_:=e0.1
def fb:=e0.2.1
def kR:=e0.2.2.1
def L_:=e0.2.2.2.1
def aV:=e0.2.2.2.2.1
def Ht:=e0.2.2.2.2.2.1
def pg:=e0.2.2.2.2.2.2.1
def g8:=e0.2.2.2.2.2.2.2
theorem T0:S0 k_ fb kR L_ aV Ht pg g8:=by
 intro Θ n6 H he hD hS next
 have hf:∀{kR},bq L_ (aM (L_+1) (bk (cN 23)).names) kR∈cw L_ kR::fb:=aa;have d7:=eI aV;refine aC (b4 (yA H.B ((aN 6).zipIdx) (λq=> .tup [.int (q.2:Nat),.str (cB (aF aV+q.1))]) (λq=>(cB (aF aV+q.1),nV (2 ^ (aF aV+q.2)))) ⟨rfl,rfl,by decide+kernel,by decide+kernel⟩ (sy (iN H he H.b_enumerate rfl) (ah (j:=7) he (.cell (L_+6) "names") hf (hS.get rfl))) (by lia) (by decide) (λC2 a ha=>Ky 1 2 he.comp .loc .loc dk (λhb=>(ah (j:=2) he.comp .loc aa rfl)) (λhb=>bM (br aU (br (ah (j:=5) he.comp (.cell (L_+4) "low") (ab _ hf) (hS.get rfl)) (ah (j:=1) he.comp .loc aa rfl) fC) (J9 ?_ ?_ (by decide))) ?_)) ?_ (λD=>fL.dict (aQ (i:=0) (j:=42) he (.cell (L_+16) "flags") rfl ?_))) rfl rfl)
 ·have:=dI (n:=aF aV);have:=dI (n:=a.2);lia
 ·rw [zip6] at ha;refine aK (aG.mp ha) λb hb dO=>?_;subst dO;have:=aY.mp hb;show (aF aV:Int)+(b:Int)<=_;lia
 ·show V.int (1*2 ^ ((aF aV:Int)+(a.2:Int)).toNat)=nV (2 ^ (aF aV+a.2));refine aj (show ((aF aV:Int)+(a.2:Int)).toNat=aF aV+a.2 by lia) ?_;refine aj (sQ ..) ?_;refine congrArg V.int ?_;simp
 ·(refine aj (zip6 ..) ?_;refine aj (a0 ..) ?_)
  exact jx d7 (aN 6) (λb hb=>aY.mp hb) lp
 have hS1:=hS.set (j:=42) (y:= .dict (qB (aF aV)));have dw:∀{C:ay} {scope:eN} {rp:d9},bq L_ (aM (L_+1) (bk (cN 23)).names) rp∈nD scope C kR::cw L_ rp::fb:=ab _ aa;refine aC (b4 (OH (xs:=([(0,1)]++LG aV).map kH) (ys:=(LI aV).map kH) (dD (bM (br (dD (ij (xs:=[kH (0,1)]) (au (f9 (xs:=[nV 0,nV 1]) (au aU (au aU aT)) (by show 2<=2 ^ 20;decide)) aT) (by show 1<=2 ^ 20;decide))) (dD (jP [2,3,4,5] nV (λb=>kH (dr aV (b - 2) % b,b)) ⟨rfl,rfl,by decide+kernel,by decide+kernel⟩ (pQ (qu (iN H he H.b_range rfl) aU aU (by decide) (by decide)) rfl) (by lia) (by decide) (λC3 a ha=>iu 1 he.comp .loc dk (λhb=>?_)))) (uJ ?_)) ?_)) (dD (jP [4,6,8] nV (λq=>kH (dr aV q % 6,1+dr aV (q+1) % 5)) ⟨rfl,rfl,by decide+kernel,by decide+kernel⟩ (xy (f9 (xs:=[nV 4,nV 6,nV 8]) (au aU (au aU (au aU aT))) (by show 3<=2 ^ 20;decide))) (by lia) (by decide) (λC4 a ha=>iu 1 he.comp .loc dk (λhb=>?_)))) ?_ (λA=>fL.ref (aQ (i:=1) (j:=10) he (.cell (L_+9) "arms") rfl ?_))) rfl rfl)
 ·have h25:2<=a/\a < 6:=by simp at ha;lia
  refine f9 (xs:=[nV (dr aV (a - 2) % a),nV a]) (au (bM (br (bF (dD (ah (j:=4) he.comp (.cell (L_+3) "draws") (ab _ aa) (hS1.get rfl))) (bM (br (ah (j:=1) he.comp .loc aa rfl) aU vH) (show V.int ((a:Int) - 2)=nV (a - 2) from congrArg V.int (by lia))) (ew (hD.at (i:=a - 2) (by lia)) (by refine aj (hD.len ..) ?_;decide))) (ah (j:=1) he.comp .loc aa rfl) (fk (by lia))) (by show V.int _=V.int _;congr 1)) (au (ah (j:=1) he.comp .loc aa rfl) aT)) (by show 2<=2 ^ 20;decide)
 ·show 1+4<=2 ^ 23;decide
 ·rfl
 ·have h9:a < 9:=by simp at ha;lia
  refine f9 (xs:=[nV (dr aV a % 6),nV (1+dr aV (a+1) % 5)]) (au (br (bF (dD (ah (j:=4) he.comp (.cell (L_+3) "draws") (ab _ aa) (hS1.get rfl))) (ah (j:=1) he.comp .loc aa rfl) (ew (hD.at (i:=a) (by exact cb (by assumption) (by decide))) (by refine aj (hD.len ..) ?_;decide))) aU (fk (by decide))) (au (br aU (br (bF (dD (ah (j:=4) he.comp (.cell (L_+3) "draws") (ab _ aa) (hS1.get rfl))) (br (ah (j:=1) he.comp .loc aa rfl) aU fC) (ew (hD.at (i:=a+1) (by lia)) (by refine aj (hD.len ..) ?_;decide))) aU (fk (by decide))) fC) aT)) (by show 2<=2 ^ 20;decide)
 ·show 5+3<=2 ^ 23;decide
 have hS2:=hS1.set (j:=10) (y:= .ref A);refine fZ (bj ..) (aC (FJ (aN 7) nV (λb=>nV (cc aV b)) ⟨rfl,rfl,by decide+kernel,by decide+kernel⟩ (fK (n:=7) (iN H he H.b_range rfl) aU rfl (by decide)) (by lia) (by decide) (λC5 a ha=>iu 1 he.comp .loc dk (λhb=>?_)) rfl (λD=>fL.list (aQ (i:=1) (j:=11) he .loc rfl (next _ A ((hS2.set (j:=11)).sub ⟨rfl,rfl,rfl,rfl,rfl,rfl,rfl,trivial⟩))))));have h7:=aY.mp ha;refine br (ek (j4 H he.comp H.b_sum rfl) (au (dD (bM (bF (dD (ah (j:=4) he.comp (.cell (L_+3) "draws") (ab _ (ab _ aa)) (hS2.get rfl))) (jo (eQ aU) (eQ (br aU (ah (j:=1) he.comp .loc aa rfl) fC)) dM) (pd (by decide) (by simp [hD.len]))) (y:= .list (((aV.drop 18).take a).map nV)) ?_)) aT) (uK (l:=(aV.drop 18).take a) (f:=λ(n:Nat)=>(n:Int)))) (ah (j:=1) he.comp .loc aa rfl) ?_
 ·refine aj (jr ..) ?_;have:=LF (xs:=aV) (a:=18) (b:=18+a) (by exact dC _ _) (by refine aj (hD.len ..) ?_;lia);rw [show (((18+a:Nat):Int))=18+(a:Int) from by lia,show 18+a - 18=a by lia] at this;refine fZ (this ..) ?_;rfl
 ·have e:(((aV.drop 18).take a).map λ(n:Nat)=>(n:Int)).sum+(a:Int)=((cc aV a:Nat):Int):=by
   unfold cc;have:∀l:List Nat,(l.map λ(n:Nat)=>(n:Int)).sum=((l.sum:Nat):Int):=λl=>by
    induction l with
    |nil=>rfl
    |cons b l ih=>simp only [bB,da,ih];lia
   refine aj (this ..) ?_;lia
  exact OL fC (congrArg V.int e)
end yB
theorem yB{pm doc:ai}:yB.S0 k mu vs L ds ns pm doc:=by with_unfolding_all exact Bx _ _ _ _ _ _ _ _ yB.S0 @yB.T0 k mu vs L ds ns pm doc
end
noncomputable def mM(n w:Int):Nat:=if w % 3 == 0 then 3 else 1+(if decide (63 < n) then 1 else 0)
noncomputable def pT(n w:Int)(i:Nat):Int:=n / 64 ^ i % 64+64*(if decide ((0:Int) < i) then 1 else 0)+128*(w / ((i:Int)+1) % 2)
noncomputable def gm(n w:Int):List Int:=jq ((aN (mM n w)).map (pT n w)) av av (ae (-1))
theorem kZ(n w:Int):mM n w=3\/mM n w=1\/mM n w=2:=by
 unfold mM;split
 ·exact .inl rfl
 ·split
  ·exact .inr (.inr rfl)
  ·exact .inr (.inl rfl)
theorem pow64{a:Nat}(h:a < 3):(0:Int) < 64 ^ a/\(64:Int) ^ a < 2 ^ 30:=by exact TK h (by decide) (by decide) (by decide)
theorem LK(H:Hy G){n w:Int}:FW (k+2) mu (.ref 285) [.int n,.int w] λy nu=>y= .list ((gm n w).map .int)/\nu=mu:=by
 refine tf H H.f285 (names:=["number","way"]) (vals':=λL=>[ae (.int n),ae (.int w)]) (λpm cd doc vs h=>?_) (by decide+kernel) rfl (λpm cd doc L=>?_) (λpm cd doc L he=>?_)
 ·exact zP h λa b=>rfl
 ·exact .cons (j:=0) (.cell (L+1) "number") rfl (.cons (j:=1) (.cell (L+2) "way") rfl .nil)
 have hc:=kZ n w;have hcc:(if w % 3 == 0 then (3:Int) else 1+(if decide (63 < n) then 1 else 0))=(mM n w:Nat):=by unfold mM;split <;> first|rfl|(split <;> rfl)
 refine aC (gw (cf (y:= .list ((gm n w).map .int)) (bM
  (bF (cP (jP _ _ _ ⟨rfl,rfl,by decide+kernel,by decide+kernel⟩ (fK (iN H he H.b_range rfl) (Rv (c9 (cP (br (cP (ah (j:=1) he (.cell (L+2) "way") aa rfl)) (cP aU) (by exact fk (by decide)))) (cP aU) (by exact qr)) (λh=>aU) (λh=>(br (cP aU) (cP (iZ (iN H he H.b_int rfl) (au (cP (mI (cP (ah (j:=0) he (.cell (L+1) "number") aa rfl)) (cP aU) (by exact GY))) aT) (by exact rF))) (by exact fC)))) hcc (by lia)) (by lia) (by (simp only [ak,fq,eX,ba] <;> lia)) (λC1 a ha=>iu 1 he.comp .loc dk (λhb=>(br (cP (br (cP (br (cP (br (cP (ah (j:=0) he.comp (.cell (L+1) "number") (ab _ aa) rfl)) (cP (br (cP aU) (cP (ah (j:=1) he.comp .loc aa rfl)) (BP (by decide) ?a1))) (l9 ?a2))) (cP aU) (by exact fk (by decide)))) (cP (br (cP aU) (cP (iZ (iN H he.comp H.b_int rfl) (au (cP (mI (cP (ah (j:=1) he.comp .loc aa rfl)) (cP aU) (by exact GY))) aT) (by exact rF))) (by exact mX (by decide)))) (by exact fC))) (cP (br (cP aU) (cP (br (cP (br (cP (ah (j:=1) he.comp (.cell (L+2) "way") (ab _ aa) rfl)) (cP (br (cP (ah (j:=1) he.comp .loc aa rfl)) (cP aU) (by exact fC))) (l9 ?a3))) (cP aU) (by exact fk (by decide)))) (by exact mX (by decide)))) (by exact fC)))))) (jo dM dM (eQ (o6 aU))) (by exact pd (by decide) (by (simp only [ak,fq,eX,ba] <;> lia))))
  ?a6) (ki ⟨rfl,rfl⟩)))
 case a1=>have:=aY.mp ha;omega
 case a2=>exact pow64 (by have:=aY.mp ha;omega)
 case a3=>have:=aY.mp ha;omega
 case a6=>unfold gm;rw [<- jr,a0];rfl
theorem tN{n w:Int}(h:mM n w=3):gm n w=[pT n w 2,pT n w 1,pT n w 0]:=by unfold gm;rw [h,jr,show jq (aN 3) av av (ae (-1))=[2,1,0] from by decide+kernel];rfl
theorem yC{n w:Int}(h:mM n w=2):gm n w=[pT n w 1,pT n w 0]:=by unfold gm;rw [h,jr,show jq (aN 2) av av (ae (-1))=[1,0] from by decide+kernel];rfl
theorem yD{n w:Int}(h:mM n w=1):gm n w=[pT n w 0]:=by unfold gm;rw [h,jr,show jq (aN 1) av av (ae (-1))=[0] from by decide+kernel];rfl
theorem vW(n:Nat)(w:Int)(i:Nat):uQ (pT n w i).toNat (n / 64 ^ i % 64) (decide (0 < i)):=by
 have e:(n:Int) / 64 ^ i % 64=((n / 64 ^ i % 64:Nat):Int):=by simp
 have hb:n / 64 ^ i % 64 < 64:=ef _ (by decide);unfold pT;rw [e];generalize n / 64 ^ i % 64=d at*;have h2:=Int.emod_two_eq (w / ((i:Int)+1));constructor
 ·rcases h2 with h|h <;> rw [h] <;> split <;> lia
 ·by_cases hi:0 < i
  ·have:(0:Int) < i:=by lia
   rcases h2 with h|h <;> rw [h] <;> simp [hi] <;> lia
  ·have:¬(0:Int) < i:=by lia
   rcases h2 with h|h <;> rw [h] <;> simp [hi] <;> lia
theorem sE{n:Nat}{w:Int}(hn:n < 4096)(rs:List Nat):mL ((gm n w).map ur++rs)=ae (n,rs):=by
 have o0:=vW n w 0;have o1:=vW n w 1;have o2:=vW n w 2;simp only [show decide (0 < 0)=aH from rfl,show decide (0 < 1)=aJ from rfl,show decide (0 < 2)=aJ from rfl] at o0 o1 o2;rcases kZ n w with h|h|h
 ·rw [tN h];refine (vint3 o2 o1 o0).trans ?_;have:(n / 64 ^ 2 % 64*64+n / 64 ^ 1 % 64)*64+n / 64 ^ 0 % 64=n:=by lia
  rw [this];rfl
 ·rw [yD h];refine (vint1 o0).trans ?_;have h63:n < 64:=by
   unfold mM at h
   split at h
   ·exact absurd h (by decide)
   ·split at h
    ·exact absurd h (by decide)
    ·rename_i hd;simp at hd;lia
  have:n / 64 ^ 0 % 64=n:=by lia
  rw [this];rfl
 ·rw [yC h];refine (vint2 o1 o0).trans ?_;have:n / 64 ^ 1 % 64*64+n / 64 ^ 0 % 64=n:=by lia
  rw [this];rfl
section
set_option tactic.hygienic true
inductive BW(hs:List (List Nat))(block:Nat)(marks:List Nat):List Nat->Prop
 |one {c:_}:c∈hs.getD block []->BW hs block marks [c]
 |ext {w c d:_}:BW hs block marks w->w.getLast? =ae c->c∉marks->c≠block->d∈hs.getD c []->d∉w->BW hs block marks (w++[d])
structure zU(hs:List (List Nat)):Prop where
 len:hs.length=6
 lt:∀b,∀c∈hs.getD b [],c < 6
 nd:∀b,(hs.getD b []).Nodup
noncomputable def mN:Nat->Nat
 |0=>1
 |m+1=>1+(m+1)*mN m
noncomputable def xa(w:List Nat):Nat:=mN (6 - w.length)
structure WOk(w:List Nat):Prop where
 nd:w.Nodup
 lt:∀c∈w,c < 6
 ne:w≠[]
theorem tj:∀{l m:List Nat},l.Nodup->(∀a∈l,a∈m)->l.length<=m.length
 |[],_,_,_=>gp _
 |a::l,m,hn,hs=>by
  have ha:=hs a aa;refine dU (cj.mp hn) λh1 h2=>?_;have ih:=tj (m:=m.erase a) h2 λb hb=>(List.mem_erase_of_ne (show b≠a from λe=>h1 (e▸hb))).mpr (hs b (ab _ hb));rw [List.length_erase_of_mem ha] at ih;have:=List.length_pos_of_mem ha;simp only [bK];lia
theorem ez{w:List Nat}(nd:w.Nodup)(lt:∀c∈w,c < 6):w.length<=6:=by have h:w.length<=(aN 6).length:=tj nd λc hc=>aY.mpr (lt c hc);exact h
theorem BW.ok{hs:List (List Nat)}{block:Nat}{marks w:List Nat}(H:zU hs)(h:BW hs block marks w):WOk w:=by
 induction h with
 |one hc=>exact ⟨by simp,λc zo=>by refine aj (aA.mp zo ..) ?_;exact H.lt _ _ hc,by simp⟩
 |ext _ _ _ _ hd hn ih=>exact ⟨by
  refine gj (bP ..) ?_;exact ⟨ih.nd,by simp,λa ha b hb e=>by rw [aA.mp hb] at e;exact hn (e▸ha)⟩,λc hc=>by
  rcases bc.mp hc with h|h
  ·exact ih.lt c h
  ·refine aj (aA.mp h ..) ?_;exact H.lt _ _ hd,by simp⟩
noncomputable def j7(hs:List (List Nat))(block:Nat)(marks w:List Nat):List (List Nat):=
 match w.getLast? with
 |none=>[]
 |some c=>if c∈marks then [] else if c=block then [] else ((hs.getD c []).filter λd=>!decide (d∈w)).map λd=>w++[d]
theorem qG:∀m,0 < mN m
 |0=>by decide
 |m+1=>by unfold mN;lia
set_option tactic.hygienic true in
theorem IT{hs:List (List Nat)}{block:Nat}{marks w:List Nat}(H:zU hs)(hw:WOk w):((j7 hs block marks w).map xa).sum < xa w:=by
 unfold j7
 split
 ·simp [xa,qG]
 ·rename_i c hc
  split
  ·simp [xa,qG]
  split
  ·simp [xa,qG]
  ·generalize hl:(hs.getD c []).filter (λd=>!decide (d∈w))=l;have SH:l.length+w.length<=6:=by
    have h1:(l++w).Nodup:=by refine gj (bP ..) (⟨hl▸(H.nd c).filter _,hw.nd,λa ha b hb e=>?_⟩);rw [<- hl] at ha;have:=(bo.mp ha).2;simp at this;exact this (e▸hb)
    have:=ez h1 λa ha=>by
     rcases bc.mp ha with h|h
     ·rw [<- hl] at h;exact H.lt _ _ (bo.mp h).1
     ·exact hw.lt a h
    simpa using this
   have SQ:((l.map λd=>w++[d]).map xa).sum=l.length*mN (6 - (w.length+1)):=by
    clear hl SH;induction l with
    |nil=>simp
    |cons a l ih=>
     simp only [bB,da,bK,ih];have:xa (w++[a])=mN (6 - (w.length+1)):=by simp [xa]
     (refine aj (this ..) ?_;refine aj (iS ..) ?_);lia
   refine aj (SQ ..) ?_;unfold xa;by_cases h6:w.length=6
   ·have:l.length=0:=by lia
    (refine aj (this ..) ?_;refine aj (h6 ..) ?_);simp [mN]
   ·have PU:w.length < 6:=by lia
    obtain ⟨m,hm⟩:∃m,6 - w.length=m+1:=⟨5 - w.length,by lia⟩;have hm':6 - (w.length+1)=m:=by lia
    refine aj (hm ..) ?_;refine aj (hm' ..) ?_;rewrite [mN];have:l.length<=m+1:=by lia
    have:=xu (mN m) this;lia
structure nO(hs:List (List Nat))(block:Nat)(marks:List Nat)(i:Nat)(ws:List (List Nat)):Prop where
 ok:∀w∈ws,BW hs block marks w
 init:∀c∈hs.getD block [],[c]∈ws
 step:∀j w,j < i->ws[j]? =ae w->∀v∈j7 hs block marks w,v∈ws
 le:i<=ws.length
 room:i+((ws.drop i).map xa).sum<=2000
theorem nO.len{hs:List (List Nat)}{block:Nat}{marks:List Nat}{i:Nat}{ws:List (List Nat)}(h:nO hs block marks i ws):ws.length<=2000:=by
 have h1:(ws.drop i).length<=((ws.drop i).map xa).sum:=by
  generalize ws.drop i=l;induction l with
  |nil=>simp
  |cons a l ih=>simp only [bK,bB,da];have:=qG (6 - a.length);unfold xa at*;lia
 have:=h.room;have h2:=h.le;rw [fY] at h1;lia
theorem nO.start{hs:List (List Nat)}{block:Nat}{marks:List Nat}(H:zU hs):nO hs block marks 0 ((hs.getD block []).map λc=>[c]) where
 ok:=λw hw=>by obtain ⟨c,hc,rfl⟩:=aG.mp hw;exact .one hc
 init:=λc hc=>aG.mpr ⟨c,hc,rfl⟩
 step:=λj w hj=>absurd hj (GS _)
 le:=gp _
 room:=by
  have h1:(((hs.getD block []).map λc=>[c]).map xa).sum=(hs.getD block []).length*mN 5:=by
   generalize hs.getD block []=l;induction l with
   |nil=>simp
   |cons a l ih=>simp only [bB,da,bK,ih];have:xa [a]=mN 5:=rfl;(refine aj (this ..) ?_;refine aj (iS ..) ?_);lia
  have h2:=ez (H.nd block) (H.lt block);refine aj (fy ..) ?_;refine aj (h1 ..) ?_;have:mN 5=326:=by decide
  refine aj (this ..) ?_;lia
def nO.turn.S0(hs:List (List Nat))(block:Nat)(marks:List Nat)(i:Nat)(ws:List (List Nat))(w:List Nat):Prop:=∀(H:zU hs) (h:nO hs block marks i ws) (hw:ws[i]? =ae w),nO hs block marks (i+1) (ws++j7 hs block marks w)/\(((ws++j7 hs block marks w).drop (i+1)).map xa).sum < ((ws.drop i).map xa).sum
namespace nO.turn
@[irreducible] def e0:=Fl gD eO gD eO gD gD S0
def kE:=e0.1
def eL:=e0.2.1
def dz:=e0.2.2.1
def i_:=e0.2.2.2.1
def qH:=e0.2.2.2.2.1
def w_:=e0.2.2.2.2.2
theorem T0:S0 kE eL dz i_ qH w_:=by
 intro H h hw;have hlt:i_ < qH.length:=(aB.mp hw).1;have M0:=h.ok w_ (ao hw);have hp:=IT (block:=eL) (marks:=dz) H (M0.ok H);have HP:(qH++j7 kE eL dz w_).drop (i_+1)=qH.drop (i_+1)++j7 kE eL dz w_:=by refine aj (gq (by lia) ..) ?_;rfl
 have hd:qH.drop i_=w_::qH.drop (i_+1):=by refine aj (dZ hlt ..) ?_;congr 1;exact (aB.mp hw).2
 have zh:((qH.drop i_).map xa).sum=xa w_+((qH.drop (i_+1)).map xa).sum:=by refine aj (hd ..) ?_;simp
 have GB:(((qH++j7 kE eL dz w_).drop (i_+1)).map xa).sum=((qH.drop (i_+1)).map xa).sum+((j7 kE eL dz w_).map xa).sum:=by refine aj (HP ..) ?_;simp
 refine ⟨⟨λv hv=>?_,λc hc=>aE _ (h.init c hc),λj v hj hv=>?_,by simp;lia,?_⟩,by lia⟩
 ·rcases bc.mp hv with hv|hv
  ·exact h.ok v hv
  ·unfold j7 at hv
   split at hv
   ·simp at hv
   ·rename_i c hc
    split at hv
    ·simp at hv
    split at hv
    ·simp at hv
    ·refine aK (aG.mp hv) λd hd dO=>?_;subst dO;have:=(bo.mp hd).2;simp at this;exact .ext M0 hc ‹_› ‹_› (bo.mp hd).1 this
 ·intro u hu;by_cases Ue:j=i_
  ·subst Ue;rw [eE hlt,hw] at hv
   (have lA:=aO hv;clear hv;subst lA)
   exact bL _ hu
  ·have hj':j < i_:=by lia
   rw [eE (by exact CO (by assumption) (by assumption))] at hv;exact aE _ (h.step j v hj' hv u hu)
 ·have:=h.room;lia
end nO.turn
theorem nO.turn{hs:List (List Nat)}{block:Nat}{marks:List Nat}{i:Nat}{ws:List (List Nat)}{w:List Nat}:nO.turn.S0 hs block marks i ws w:=by with_unfolding_all exact uA _ _ _ _ _ _ nO.turn.S0 @nO.turn.T0 hs block marks i ws w
theorem nO.done{hs:List (List Nat)}{block:Nat}{marks:List Nat}{ws:List (List Nat)}(h:nO hs block marks ws.length ws)(w:List Nat):w∈ws↔BW hs block marks w:=by
 refine ⟨h.ok w,λhw=>?_⟩;induction hw with
 |one hc=>exact h.init _ hc
 |ext _ hc hm hb hd hn ih=>refine cJ (iq.mp ih) λj hj=>h.step j _ (aB.mp hj).1 hj _ ?_;unfold j7;refine aj (hc ..) ?_;simp only [if_neg hm,if_neg hb];exact aG.mpr ⟨_,bo.mpr ⟨hd,by simpa using hn⟩,rfl⟩
end
theorem dn{α:Type _}(u:List α){v:List α}(h:v≠[]):(u++v).getLast? =v.getLast? :=by (refine aj (TI ..) ?_;refine aj (gu h ..) ?_);rfl
noncomputable def ej(hs:List (List Nat)):Nat->List Nat->Prop
 |_,[]=>True
 |b,c::w=>c∈hs.getD b []/\ej hs c w
theorem ej.append{hs:List (List Nat)}:∀{b:Nat} {u v:List Nat},ej hs b (u++v)↔ej hs b u/\ej hs ((b::u).getLast (by simp)) v
 |b,[],v=>(and_iff_right trivial).symm
 |b,c::u,v=>by
  refine aj (fU ..) ?_;show (_/\ej hs c (u++v))↔(_/\ej hs c u)/\_;refine gj (ej.append ..) ?_;refine gj (and_assoc ..) ?_;simp
theorem BW.back{hs:List (List Nat)}{b:Nat}{marks w:List Nat}(h:BW hs b marks w):ej hs b w:=by
 induction h with
 |one hc=>exact ⟨hc,trivial⟩
 |@ext w c d hw hl hm hb hd hn ih=>
  refine gj (ej.append ..) (⟨ih,?_,trivial⟩);have:(b::w).getLast (by simp)=c:=by
   cases w with
   |nil=>simp at hl
   |cons a w=>refine aj (kg (by simp) ..) ?_;rw [gu (by simp)] at hl;exact aO hl
  refine aj (this ..) ?_;exact hd
theorem Cb{hs:List (List Nat)}{b:Nat}{marks:List Nat}{U:Nat->Prop}{n:Nat}
 (S2:∀v,ej hs b v->(∀c∈v,U c)->(∃c,v.getLast? =ae c/\c∈marks)->n<=v.length) {w:List Nat} (hlen:w.length=n) (hw:ej hs b w) (hU:∀c∈w,U c) (hl:∃c,w.getLast? =ae c/\c∈marks):
 ∀u v,w=u++v->u≠[]->BW hs b marks u:=by
 intro u
 suffices H:∀k u v,u.length=k->w=u++v->u≠[]->BW hs b marks u from λv=>H u.length u v rfl
 intro k;induction k with
 |zero=>intro u v h1 z h3;exact absurd (NO.mp h1) h3
 |succ k ih=>
  intro u v h1 h2 h3;obtain ⟨u',d,rfl⟩:∃u' d,u=u'++[d]:=⟨u.dropLast,u.getLast h3,(GT h3).symm⟩;have hk:u'.length=k:=by simpa using h1
  by_cases QN:u'=[]
  ·subst QN;have:ej hs b (d::v):=by rw [h2] at hw;exact hw
   exact .one this.1
  ·have hb':=ih u' (d::v) hk (by refine aj (h2 ..) ?_;simp) QN;have hwb:ej hs b (u'++(d::v)):=by rw [h2] at hw;simpa using hw
   rw [ej.append] at hwb;have hcl:u'.getLast? =ae (u'.getLast QN):=gu QN;have Bt:(b::u').getLast (by simp)=u'.getLast QN:=kg QN;rw [Bt] at hwb;have hmemu:u'.getLast QN∈w:=by refine aj (h2 ..) ?_;simp
   refine .ext hb' hcl ?_ ?_ hwb.2.1 ?_
   ·intro hm;have:=S2 u' hwb.1 (λc hc=>hU c (by refine aj (h2 ..) ?_;simp [hc])) ⟨_,hcl,hm⟩;rw [<- hlen,h2] at this;simp at this;lia
   ·intro hbk;have hlv:∃c,(d::v).getLast? =ae c/\c∈marks:=by
     refine aK hl λc h4 h5=>?_;clear hl;refine ⟨c,?_,h5⟩;rw [h2] at h4;rw [bU,dn _ (by simp)] at h4;exact h4
    have:=S2 (d::v) (by have:=hwb.2;rw [hbk] at this;exact this) (λc hc=>hU c (by refine aj (h2 ..) ?_;simp at hc ⊢;rcases hc with h|h <;> simp [h])) hlv;rw [<- hlen,h2] at this;have iP:u'.length≠0:=λh=>QN (NO.mp h);simp only [ba,bK,GR] at this;lia
   ·intro hd;refine oy (eY hd) λp q PV=>?_;have hback:ej hs b ((p++[d])++v):=by
     have h6:ej hs b ((p++[d])++(q++(d::v))):=by
      have:w=(p++[d])++(q++(d::v)):=by (refine aj (h2 ..) ?_;refine aj (PV ..) ?_);simp
      rw [this] at hw;exact hw
     have h7:ej hs b ((p++d::q)++([d]++v)):=by
      have:w=(p++d::q)++([d]++v):=by (refine aj (h2 ..) ?_;refine aj (PV ..) ?_);simp
      rw [this] at hw;exact hw
     rw [ej.append] at h6;rw [<- bU,ej.append] at h7;refine gj (ej.append ..) (⟨h6.1,?_⟩);have e0:∀(l:List Nat) (hh:(b::(l++[d]))≠[]),(b::(l++[d])).getLast hh=d:=λl hh=>by
      refine aj (kg (by simp) ..) ?_;simp
     have e1:=e0 p (by simp);have e2:=e0 (p++d::q) (by simp);refine aj (e1 ..) ?_;have:=h7.2;rw [e2] at this;exact this
    have hlv:∃c,((p++[d])++v).getLast? =ae c/\c∈marks:=by
     refine aK hl λc h4 h5=>?_;clear hl;refine ⟨c,?_,h5⟩;rw [h2] at h4;cases v with
     |nil=>simpa using h4
     |cons x v=>rw [dn _ (by simp)] at h4 ⊢;exact h4
    have:=S2 _ hback (λc hc=>hU c (by (refine aj (h2 ..) ?_;refine aj (PV ..) ?_);simp at hc ⊢;rcases hc with h|h|h <;> simp [h])) hlv;rw [<- hlen,h2,PV] at this;simp at this;lia
def k0.S0(hs:List (List Nat))(b:Nat)(marks w:List Nat):Prop:=∀(hw:ej hs b w) (hl:∃c,w.getLast? =ae c/\c∈marks),∃v,BW hs b marks v/\(∃c,v.getLast? =ae c/\c∈marks)/\∀c∈v,c∈w
namespace k0
@[irreducible] def e0:=GW gD eO gD gD S0
def kE:=e0.1
def b_:=e0.2.1
def dz:=e0.2.2.1
def w_:=e0.2.2.2
theorem T0:S0 kE b_ dz w_:=by
 intro hw hl;have ex:∃n,∃v,v.length=n/\ej kE b_ v/\(∀c∈v,c∈w_)/\∃c,v.getLast? =ae c/\c∈dz:=⟨_,w_,rfl,hw,λz h=>h,hl⟩;have key:∀n,(∃v,v.length=n/\ej kE b_ v/\(∀c∈v,c∈w_)/\∃c,v.getLast? =ae c/\c∈dz)->∃m,(∃v,v.length=m/\ej kE b_ v/\(∀c∈v,c∈w_)/\∃c,v.getLast? =ae c/\c∈dz)/\∀k,k < m->¬∃v,v.length=k/\ej kE b_ v/\(∀c∈v,c∈w_)/\∃c,v.getLast? =ae c/\c∈dz:=by
  intro n;induction n using vx with
  |ind n ih=>
   intro h;by_cases hk:∃k,k < n/\∃v,v.length=k/\ej kE b_ v/\(∀c∈v,c∈w_)/\∃c,v.getLast? =ae c/\c∈dz
   ·refine aK hk λk h1 h2=>?_;clear hk;exact ih k h1 h2
   ·exact ⟨n,h,λk h1 h2=>hk ⟨k,h1,h2⟩⟩
 refine cJ ex λn hn=>?_;clear ex;refine aK (key n hn) λm dO h5=>Bw dO λv h1 h2 h3 h4=>?_;clear dO;have hv:v≠[]:=by rintro rfl;obtain ⟨c,hc,_⟩:=h4;simp at hc
 refine ⟨v,Cb (U:=(·∈w_)) (n:=m) (λu hu hU hl=>?_) h1 h2 h3 h4 v [] (by simp) hv,h4,h3⟩;rcases gX u.length m with h|h
 ·exact absurd ⟨u,rfl,hu,hU,hl⟩ (h5 _ h)
 ·exact h
end k0
theorem k0{hs:List (List Nat)}{b:Nat}{marks w:List Nat}:k0.S0 hs b marks w:=by with_unfolding_all exact vz _ _ _ _ k0.S0 @k0.T0 hs b marks w
def vX(hs:List (List Nat))(b:Nat)(marks w:List Nat):Prop:=BW hs b marks w/\∃c,w.getLast? =ae c/\c∈marks
def gI(hs:List (List Nat))(b o:Nat):Prop:=o=b\/(b≠0/\∀w,vX hs b [0] w->o∈w)
theorem gI.self{hs:List (List Nat)}{b:Nat}:gI hs b b:= .inl rfl
theorem gI.step{hs:List (List Nat)}{b o:Nat}(h:gI hs b o):o=b\/∀c∈hs.getD b [],gI hs c o:=by
 rcases h with h|⟨_,h⟩
 ·exact .inl h
 ·refine .inr λc hc=>?_;by_cases hoc:o=c
  ·exact .inl hoc
  ·refine .inr ⟨λe=>?_,λw hw=>?_⟩
   ·subst e;have:=h [0] ⟨.one hc,0,rfl,by simp⟩;exact hoc (by simpa using this)
   have hb:ej hs b (c::w):=⟨hc,hw.1.back⟩;have iP:w≠[]:=by rintro rfl;refine aK (hw.2) λd hd z=>?_;simp at hd
   have hl:∃d,(c::w).getLast? =ae d/\d∈[0]:=by exact aK (hw.2) λd hd hm=>⟨d,by rw [show c::w=[c]++w from rfl,dn _ iP];exact hd,hm⟩
   refine eg (k0 hb hl) λv hv M1 qZ=>?_;rcases aP.mp (qZ o (h v ⟨hv,M1⟩)) with e|e
   ·exact absurd e hoc
   ·exact e
theorem D8{hs:List (List Nat)}{D:Nat->Nat->Prop}(h0:∀o,D 0 o->o=0)(GA:∀b o,b≠0->D b o->o=b\/∀c∈hs.getD b [],D c o):
 ∀{w:List Nat} {b o:Nat},ej hs b w->w.getLast? =ae 0->b≠0->D b o->o=b\/o∈w
 |[],b,o,_,h,_,_=>by simp at h
 |c::w,b,o,hb,hl,hn,hD=>by
  rcases GA b o hn hD with e|e
  ·exact .inl e
  ·have hc:=e c hb.1;by_cases zC:c=0
   ·subst zC;exact .inr (by rw [h0 o hc];exact aa)
   ·have iP:w≠[]:=by
     rintro rfl;simp at hl;exact zC hl
    have hl':w.getLast? =ae 0:=by rw [<- hl,show c::w=[c]++w from rfl,dn _ iP]
    rcases D8 h0 GA hb.2 hl' zC hc with e|e
    ·exact .inr (by rw [e];exact aa)
    ·exact .inr (ab _ e)
theorem LM{hs:List (List Nat)}{D:Nat->Nat->Prop}(h0:∀o,D 0 o->o=0)(GA:∀b o,b≠0->D b o->o=b\/∀c∈hs.getD b [],D c o)(qj:∀b o,b≠0->gI hs b o->D b o){b o:Nat}(hn:b≠0):D b o↔gI hs b o:=by
 refine ⟨λh=>?_,qj b o hn⟩;by_cases Bs:o=b
 ·exact .inl Bs
 ·refine .inr ⟨hn,λw hw=>?_⟩;refine aK (hw.2) λc hc hm=>?_;have:c=0:=by simpa using hm
  subst this;rcases D8 h0 GA hw.1.back hc hn h with e|e
  ·exact absurd e Bs
  ·exact e
end
section
variable {k:Nat}{mu nu:Mu}{env:gP}{e:bH}{p pos:jB}{xs:List V}{Φ:V->Mu->Prop}{x y:V}
noncomputable abbrev wV(w:List Nat):V:= .list (w.map nV)
noncomputable abbrev LN(L:ay)(hs:List (List Nat))(block:Nat)(marks:List Nat)(T W:ay)(o:Option V):cX:=
 bq L (aM (L+1) (bk (cN 20)).names) [ae (.list (hs.map wV)),ae (nV block),ae (wV marks),ae (.ref T),ae (.ref W),o]
noncomputable def tO(marks w:List Nat):Bool:=match w.getLast? with
 |some c=>decide (c∈marks)
 |none=>aH
theorem yE{marks w:List Nat}:tO marks w=aJ↔∃c,w.getLast? =ae c/\c∈marks:=by
 delta tO;cases w.getLast? with
 |none=>exact ⟨λh=>vG h,λh=>aK h λc h z=>gK h⟩
 |some c=>exact ⟨λh=>⟨c,rfl,of_decide_eq_true h⟩,λh=>aK h λd e h=>decide_eq_true (aO e▸h)⟩
section
noncomputable def k5(hs:List (List Nat))(block:Nat)(marks:List Nat):Nat->List (List Nat)
 |0=>(hs.getD block []).map λc=>[c]
 |i+1=>match (k5 hs block marks i)[i]? with
  |some w=>k5 hs block marks i++j7 hs block marks w
  |none=>k5 hs block marks i
variable {hs:List (List Nat)}{block:Nat}{marks:List Nat}
theorem AU{i:Nat}{w:List Nat}(h:(k5 hs block marks i)[i]? =ae w):k5 hs block marks (i+1)=k5 hs block marks i++j7 hs block marks w:=by show (match (k5 hs block marks i)[i]? with|some w=>k5 hs block marks i++j7 hs block marks w|none=>k5 hs block marks i)=_;refine aj (h ..) ?_;rfl
theorem AV{i:Nat}(h:(k5 hs block marks i).length=i):∀j,k5 hs block marks (i+j)=k5 hs block marks i
 |0=>rfl
 |j+1=>by
  have ih:=AV h j;show k5 hs block marks (i+j+1)=_;show (match (k5 hs block marks (i+j))[i+j]? with|some w=>k5 hs block marks (i+j)++j7 hs block marks w|none=>k5 hs block marks (i+j))=_;(refine aj (ih ..) ?_;refine aj (il (by lia) ..) ?_);rfl
theorem IU(H:zU hs):∀(m i:Nat),(((k5 hs block marks i).drop i).map xa).sum=m->nO hs block marks i (k5 hs block marks i)->∃n,nO hs block marks n (k5 hs block marks n)/\(k5 hs block marks n).length=n:=by
 intro m;induction m using vx with
 |ind m ih=>
  intro i hm ua;by_cases hl:(k5 hs block marks i).length=i
  ·exact ⟨i,ua,hl⟩
  ·have hlt:i < (k5 hs block marks i).length:=by have:=ua.le;lia
   have hw:=bJ hlt;refine dU (ua.turn H hw) λt1 t2=>?_;rw [<- AU hw] at t1 t2;exact ih _ (hm▸t2) (i+1) rfl t1
noncomputable def gJ(hs:List (List Nat))(block:Nat)(marks:List Nat):List (List Nat):=(k5 hs block marks 2000).filter (tO marks)
theorem AW{n:Nat}(h:nO hs block marks n (k5 hs block marks n))(hl:(k5 hs block marks n).length=n):k5 hs block marks 2000=k5 hs block marks n:=by
 have h1:=h.len;have:=AV hl (2000 - n)
 rwa [show n+(2000 - n)=2000 by lia] at this
theorem rY(H:zU hs):(gJ hs block marks).length<=2000/\∀w,w∈gJ hs block marks↔vX hs block marks w:=by refine aK (IU (block:=block) (marks:=marks) H _ 0 rfl (nO.start H)) λn h hl=>?_;unfold gJ;refine aj (AW h hl ..) (⟨aw (bu _ _) h.len,λw=>?_⟩);refine gj (bo ..) ?_;refine gj (yE ..) ?_;exact and_congr_left λz=>nO.done (by refine aj (hl ..) ?_;exact h) w
end
def m9.S0(k:Nat)(mu:Mu)(hs:List (List Nat))(block:Nat)(marks:List Nat)(_:Nat):Prop:=∀(H:Hy G) (hh:zU hs) (hb:block < 6) (hm:marks.length<=100),FW (k+2) mu (.ref 290) [.list (hs.map wV),nV block,wV marks] λy nu=>y= .list ((gJ hs block marks).map wV)/\nu=mu
namespace m9
@[irreducible] def e0:=Fl eO gD gD eO gD eO S0
def k_:=e0.1
def fb:=e0.2.1
def kE:=e0.2.2.1
def eL:=e0.2.2.2.1
def dz:=e0.2.2.2.2.1
theorem T0:S0 k_ fb kE eL dz e0.2.2.2.2.2:=by
 intro H hh hb hm;refine tf H H.f290 (names:=["heads","block","marks"]) (vals':=λL=>[ae (.list (kE.map wV)),ae (nV eL),ae (wV dz),av,av,av]) (λpm cd doc vs h=>?_) (by decide+kernel) rfl (λpm cd doc L=>?_) (λpm cd doc L he=>?_)
 ·exact Oe h λa b c=>rfl
 ·exact .cons (j:=0) .loc rfl (.cons (j:=1) .loc rfl (.cons (j:=2) .loc rfl .nil))
 have hbl:kE.length=6:=hh.len;have hget:∀b,b < 6->kE[b]? =ae (kE.getD b []):=λb hb=>by
  (refine aj (bR ..) ?_;refine aj (bJ (by lia) ..) ?_);rfl
 refine aC (b4 (sA (xs:=[]) aT (bg rfl) (λT=>fL.ref (aQ (i:=1) (j:=3) he .loc rfl ?_))) rfl rfl);refine aC (FJ (kE.getD eL []) nV (λc=>wV [c]) ⟨rfl,rfl,by decide+kernel,by decide+kernel⟩ (dA (bF (cP (ah (j:=0) he .loc (ab _ aa) rfl)) (cP (ah (j:=1) he .loc (ab _ aa) rfl)) (by exact ew (inj:=wV) (hget eL hb) (by lia)))) (by lia) ?sz (λC1 a ha=>iu 1 he.comp .loc dk (λhb=>(ij (xs:=[_]) (au (ah (j:=1) he.comp .loc aa rfl) aT) (bg rfl)))) rfl (λW=>fL.ref (aQ (i:=2) (j:=4) he .loc rfl ?_)))
 case sz=>have:=ez (hh.nd eL) (hh.lt eL);exact aw (by assumption) (by decide)
 show WS (k_+1) (bl W ((kE.getD eL []).map λc=>wV [c])::bl T []::LN L kE eL dz T W av::fb) _ _ _;have fill:∀(i:Nat) (ws:List (List Nat)) (w:List Nat),ws[i]? =ae w->((ws.take (i+1)).filter (tO dz))=((ws.take i).filter (tO dz))++(if tO dz w then [w] else []):=λi ws w h=>by
  (refine aj (dE ..) ?_;refine aj (h ..) ?_);simp [fX,hZ]
 refine aC (Hd (λm i xs nu=>∃ws o,xs=ws.map wV/\m=((ws.drop i).map xa).sum/\(nO kE eL dz i ws/\ws=k5 kE eL dz i)/\nu=bl W xs::bl T (((ws.take i).filter (tO dz)).map wV)::LN L kE eL dz T W o::fb)
  (ah (j:=4) he .loc (ab _ (ab _ aa)) rfl) (by lia) _ _ ⟨(kE.getD eL []).map λc=>[c],av,by (refine aj (a0 ..) ?_;rfl) <;> rfl,rfl,⟨nO.start hh,rfl⟩,by refine aj (xn ..) ?_;rfl⟩
  (λm i xs nu ⟨ws,o,e1,e2,e3,e4⟩=>by refine aj (e4 ..) ?_;exact aa) ?step ?fin (λm i xs nu ⟨ws,o,e1,e2,e3,e4⟩=>by (refine aj (e1 ..) ?_;refine aj (ak ..) ?_);exact e3.1.le))
 case fin=>
  intro m i xs nu dO hi;refine ir dO λws o e1 e2 e3 e4=>?_;clear dO;refine bC ?_;subst e4;refine aC (gw (cf (ah (j:=3) he .loc (ab _ (ab _ aa)) rfl) ?_));have hi':i=ws.length:=by (refine fZ (hi ..) ?_;refine aj (e1 ..) ?_;refine aj (ak ..) ?_;rfl)
  subst hi';refine jK.tail (jK.list (gW _ _) ⟨?_,rfl⟩);unfold gJ;refine aj (AW (n:=ws.length) (by rw [<- e3.2];exact e3.1) (by rw [<- e3.2]) ..) ?_;refine fZ (e3.2 ..) ?_;refine aj (cK ..) ?_;rfl
 case step=>
  intro m i xs nu x eU hx;refine ir eU λws o e1 e2 e3 e4=>?_;clear eU;subst e1 e4;rw [aI] at hx;refine aK (aL.mp hx) λw hw gi=>?_;subst gi;have M0:=e3.1.ok w (ao hw);have hok:=M0.ok hh;obtain ⟨c,hc⟩:∃c,w.getLast? =ae c:=by
   cases h:w.getLast? with
   |none=>exact absurd (List.getLast?_eq_none_iff.mp h) hok.ne
   |some c=>exact ⟨c,rfl⟩
  have ud:c < 6:=hok.lt c (df hc);have hwl:w.length<=6:=ez hok.nd hok.lt;refine dU (e3.1.turn (w:=w) hh hw) λt1 t2=>?_;have t3:=(AU (hs:=kE) (block:=eL) (marks:=dz) (i:=i) (w:=w) (by refine fZ (e3.2 ..) ?_;exact hw)).symm;rw [<- e3.2] at t3;have hlen:=e3.1.len;refine aQ (i:=2) (j:=5) he (.cell (L+1) "way") rfl ?_;show WS (k_+1) (bl W (ws.map wV)::bl T (((ws.take i).filter (tO dz)).map wV)::LN L kE eL dz T W (ae (wV w))::fb) _ _ _;refine aC (iY (c9 (cP (bF (cP (ah (j:=5) he (.cell (L+1) "way") (ab _ (ab _ aa)) rfl)) (cP (o6 aU)) (by exact xC hc (by exact b7 (by assumption) (by decide))))) (cP (ah (j:=2) he .loc (ab _ (ab _ aa)) rfl)) (by exact KA)) (λh=>?_) λh=>?_)
  ·have JP:c∈dz:=of_decide_eq_true h;have qj:tO dz w=aJ:=yE.mpr ⟨c,hc,JP⟩;have GC:j7 kE eL dz w=[]:=by unfold j7;refine aj (hc ..) ?_;simp [JP]
   rw [GC,cy] at t1 t2 t3;refine aC (ig (mY (ah (j:=3) he .loc (ab _ (ab _ aa)) rfl) (j5 (xs:=((ws.take i).filter (tO dz)).map wV) (ab _ aa)) (au (ah (j:=5) he (.cell (L+1) "way") (ab _ (ab _ aa)) rfl) aT) (kA (i:=1) rfl ?a1 ?a2) (by exact fP) (by exact iT) (by exact iU) rfl))
   case a1=>
    have q1:=bu (tO dz) (ws.take i);have q2:(ws.take i).length<=ws.length:=by refine aj (dR ..) ?_;exact ou _ _
    exact aj (ak ..) (b7 (aw q1 (aw q2 hlen)) (by decide))
   case a2=>refine bC (bC ?_);refine ⟨_,_,e2▸t2,ws,ae (wV w),rfl,rfl,⟨t1,t3⟩,?_⟩;refine aj (fill i ws w hw ..) ?_;refine aj (if_pos qj ..) ?_;simp only [bj];rfl
  ·have JP:c∉dz:=of_decide_eq_false h;have qj:tO dz w=aH:=by
    cases h:tO dz w
    ·rfl
    ·refine aK (yE.mp h) λc' h1 h2=>?_;rw [hc] at h1;(have lA:=aO h1;clear h1;subst lA);exact absurd h2 JP
   have keep:j7 kE eL dz w=[]->∃m' TX,m' < m/\∃Ug o,TX=Ug.map wV/\m'=((Ug.drop (i+1)).map xa).sum/\(nO kE eL dz (i+1) Ug/\Ug=k5 kE eL dz (i+1))/\bl W (ws.map wV)::bl T (((ws.take i).filter (tO dz)).map wV)::LN L kE eL dz T W (ae (wV w))::fb=bl W TX::bl T (((Ug.take (i+1)).filter (tO dz)).map wV)::LN L kE eL dz T W o::fb:=λGC=>by
    rw [GC,cy] at t1 t2 t3;refine ⟨_,_,e2▸t2,ws,ae (wV w),rfl,rfl,⟨t1,t3⟩,?_⟩;refine aj (fill i ws w hw ..) ?_;refine aj (if_neg (by rw [qj];decide) ..) ?_;refine aj (cy ..) ?_;rfl
   refine aC (iY (c9 (cP (bF (cP (ah (j:=5) he (.cell (L+1) "way") (ab _ (ab _ aa)) rfl)) (cP (o6 aU)) (by exact xC hc (by exact b7 (by assumption) (by decide))))) (cP (ah (j:=1) he .loc (ab _ (ab _ aa)) rfl)) (by exact Fx)) (λh2=>?_) λh2=>?_)
   ·have QI:c≠eL:=by rintro rfl;simp at h2
    have hcl:(kE.getD c []).length<=6:=ez (hh.nd c) (hh.lt c);have GC:j7 kE eL dz w=((kE.getD c []).filter λd=>!decide (d∈w)).map λd=>w++[d]:=by unfold j7;refine aj (hc ..) ?_;simp only [if_neg JP,if_neg QI]
    have PM:=bu (λd=>!decide (d∈w)) (kE.getD c []);refine aC (ig (mY (ah (j:=4) he .loc (ab _ (ab _ aa)) rfl) (j5 (xs:=ws.map wV) aa)
     (au (nE (kE.getD c []) nV (λd=>!decide (d∈w)) (λd=>wV (w++[d])) ⟨rfl,rfl,by decide+kernel,by decide+kernel⟩
      (dA (bF (cP (ah (j:=0) he .loc (ab _ (ab _ aa)) rfl)) (cP (bF (cP (ah (j:=5) he (.cell (L+1) "way") (ab _ (ab _ aa)) rfl)) (cP (o6 aU)) (by exact xC hc (by exact b7 (by assumption) (by decide))))) (by exact ew (inj:=wV) (hget c ud) (by lia)))) (by lia) (by exact aw (by assumption) (by decide))
      (λC2 a ha=>iu 1 he.comp .loc (fS (c9 (cP (ah (j:=1) he.comp .loc aa rfl)) (cP (ah (j:=5) he.comp (.cell (L+1) "way") (ab _ (ab _ (ab _ aa))) rfl)) (by exact Hf)))
       (λhb=>bM (br (cP (ah (j:=5) he.comp (.cell (L+1) "way") (ab _ (ab _ (ab _ aa))) rfl)) (cP (ij (xs:=[_]) (au (ah (j:=1) he.comp .loc aa rfl) aT) (bg rfl))) (by exact uJ (by refine aj (ak ..) ?_;show w.length+1<=_;lia))) (by simp [wV])))) aT)
     (Ig (i:=0) rfl ?a3 ?a4) (by exact fP) (by exact F.slot_list_extend) (by exact F.type_list_extend) rfl))
    case a3=>(refine aj (ak ..) ?_;refine aj (ak ..) ?_);lia
    case a4=>refine bC (bC (bC ?_));rw [GC] at t1 t2 t3;refine ⟨_,_,e2▸t2,_,ae (wV w),rfl,rfl,⟨t1,t3⟩,?_⟩;refine aj (fill i _ w (by rw [eE (aB.mp hw).1];exact hw) ..) ?_;refine aj (if_neg (by rw [qj];decide) ..) ?_;refine aj (cy ..) ?_;refine aj (Fj e3.1.le ..) ?_;simp only [bj,a0];rfl
   ·have QI:c=eL:=Nh (by simpa using h2);refine bC (bC (bC (keep ?_)));unfold j7;refine aj (hc ..) ?_;simp only [if_neg JP,if_pos QI]
end m9
theorem m9{hs:List (List Nat)}{block:Nat}{marks:List Nat}:m9.S0 k mu hs block marks 0:=by with_unfolding_all exact uA _ _ _ _ _ _ m9.S0 @m9.T0 k mu hs block marks 0
theorem R2(H:Hy G){hs:List (List Nat)}{block:Nat}{marks:List Nat}(hh:zU hs)(hb:block < 6)(hm:marks.length<=100):
 FW (k+2) mu (.ref 290) [.list (hs.map wV),nV block,wV marks] λy nu=>nu=mu/\∃W:List (List Nat),y= .list (W.map wV)/\W.length<=2000/\∀w,w∈W↔BW hs block marks w/\∃c,w.getLast? =ae c/\c∈marks:=
 (m9 H hh hb hm).mono λy nu e=>⟨e.2,_,e.1,(rY hh).1,(rY hh).2⟩
noncomputable def pU(w:Int):bb:=if decide (w % 4 < 2) then "\\\"" else "\\\n\t\r "
noncomputable def lK(w:Int)(q:Nat×Nat):bb:=
 if (w % 2 == 1) || ((!(cZ (pU w) ⟨#[q.1]⟩ 0 (pU w).length 1).isEmpty) || (((⟨#[q.1]⟩:bb) == "\"" && ((((q.2:Nat):Int) == 0) && aJ)) || false)) then "\\"++(⟨#[q.1]⟩:bb) else ⟨#[q.1]⟩
noncomputable def qI(x:bb)(w:Int):bb:=fO "" (x.cps.toList.zipIdx.map (lK w))
noncomputable def jN(w:Int):bb:=(["\n","\t","\r"," ",if decide (w % 4 < 2) then "" else " \n"]:List bb).getD (w / 4 % 5).toNat ""
noncomputable def ik(x:bb)(w:Int):bb:=if decide (w % 4 < 2) then "\""++qI x w++"\""++jN w else qI x w++jN w
theorem LP(w:Int):([V.str "\n",.str "\t",.str "\r",.str " ",.str (if decide (w % 4 < 2) then "" else " \n")]:List V).getD (w / 4 % 5).toNat .none= .str (jN w):=by
 unfold jN;have h:(w / 4 % 5).toNat < 5:=by lia
 generalize (w / 4 % 5).toNat=n at h;exact lt5 h rfl rfl rfl rfl rfl
theorem AX(w:Int):(jN w).length<=2 ^ 22:=by
 unfold jN;have h:(w / 4 % 5).toNat < 5:=by lia
 generalize (w / 4 % 5).toNat=n at h
 match n,h with
 |0,_=>exact bg rfl
 |1,_=>exact bg rfl
 |2,_=>exact bg rfl
 |3,_=>exact bg rfl
 |4,_=>
  show (if decide (w % 4 < 2)=aJ then ("":bb) else " \n").length<=_
  split <;> decide
theorem qJ(a b:bb):(a++b).length=a.length+b.length:=by show (a.cps++b.cps).size=_;refine aj (Array.size_append ..) ?_;rfl
def lL.S0(k:Nat)(x:bb)(w:Int)(_:Nat):Prop:=∀{mu:Mu} (H:Hy G) (hx:x.length<=1000) (hsz:(qI x w).length<=100000) (hj:Nd "" (x.cps.toList.zipIdx.map (lK w))=aJ),FW (k+2) mu (.ref 280) [.str x,.int w] λy nu=>y= .str (ik x w)/\nu=mu
namespace lL
@[irreducible] def e0:=GW eO inferInstance Q0 eO S0
def k_:=e0.1
def x_:=e0.2.1
def w_:=e0.2.2.1
theorem T0:S0 k_ x_ w_ e0.2.2.2:=by
 intro mu H hx hsz hj;refine tf H H.f280 (names:=["word","way"]) (vals':=λL=>[ae (.str x_),ae (.int w_),av,av,av,av]) (λpm cd doc vs h=>?_) (by decide+kernel) rfl (λpm cd doc L=>?_) (λpm cd doc L he=>?_)
 ·exact zP h λa b=>rfl
 ·exact .cons (j:=0) .loc rfl (.cons (j:=1) (.cell (L+1) "way") rfl .nil)
 have hx':x_.cps.toList.zipIdx.length<=2 ^ 21:=by have:x_.cps.toList.length=x_.length:=rfl;simp only [eX];lia
 refine aC (bX (mI (cP (br (cP (ah (j:=1) he (.cell (L+1) "way") aa rfl)) (cP aU) (by exact fk (by decide)))) (cP aU) (by exact C8)) (aQ (i:=0) (j:=2) he .loc rfl ?_) rfl rfl);refine aC (bX (y:= .str (pU w_)) (BQ (kU (cP (ah (j:=2) he .loc aa rfl)) (by exact qt)) (λh=>cO) (λh=>cO)) (aQ (i:=0) (j:=3) he (.cell (L+2) "marked") rfl ?_) rfl rfl);refine aC (bX (y:= .str (qI x_ w_)) (f7 (cP cO) (by exact mK) (au (cP (jP (g:=λq=>V.str (lK w_ q)) _ _ ⟨rfl,rfl,by decide+kernel,by decide+kernel⟩ (H1 (iN H he H.b_enumerate rfl) (ah (j:=0) he .loc aa rfl)) (by lia) (by assumption) (λC1 a ha=>tG 1 2 he.comp .loc .loc dk (λhb=>(BQ (oK (iM (c9 (cP (br (cP (ah (j:=1) he.comp (.cell (L+1) "way") (ab _ aa) rfl)) (cP aU) (by exact fk (by decide)))) (cP aU) (by exact qr)) (λh=>(iM (c9 (cP (ah (j:=2) he.comp .loc aa rfl)) (cP (ah (j:=3) he.comp (.cell (L+2) "marked") (ab _ aa) rfl)) (by exact C9)) (λh=>(iM (oK (C7 (c9 (cP (ah (j:=2) he.comp .loc aa rfl)) (cP cO) (by exact rA)) (λh=>(C7 (c9 (cP (ah (j:=1) he.comp .loc aa rfl)) (cP aU) (by exact qr)) (λh=>BF))))) (λh=>jn))))))) (λh=>(br (cP cO) (cP (ah (j:=2) he.comp .loc aa rfl)) (by exact uL (by exact Kz _) (by exact Kz _)))) (λh=>(ah (j:=2) he.comp .loc aa rfl))))))) aT) (rK (f:=lK w_) hj) (by exact eM) (by exact ny) (by exact nz) rfl) (aQ (i:=0) (j:=4) he .loc rfl ?_) rfl rfl);refine aC (bX (y:= .str (jN w_)) (bM (bF (cP (f9 (xs:=[_,_,_,_,_]) (au cO (au cO (au cO (au cO (au (BQ (kU (cP (ah (j:=2) he .loc aa rfl)) (by exact qt)) (λh=>cO) (λh=>cO)) aT))))) (bg rfl))) (cP (br (cP (br (cP (ah (j:=1) he (.cell (L+1) "way") aa rfl)) (cP aU) (by exact l9 (by decide)))) (cP aU) (by exact fk (by decide)))) (by refine Qj ?_ ?_ (bg rfl) <;> first|lia|(simp;lia))) (LP w_)) (aQ (i:=0) (j:=5) he .loc rfl ?_) rfl rfl);refine aC (gw (cf (y:= .str (ik x_ w_)) (bM (BQ (kU (cP (ah (j:=2) he .loc aa rfl)) (by exact qt)) (λh=>(br (cP (br (cP (br (cP cO) (cP (ah (j:=4) he .loc aa rfl)) (by exact uL (by decide) (by exact aw (by assumption) (by decide))))) (cP cO) (by exact uL (by refine aj (qJ ..) ?_;have:("\"":bb).length=1:=rfl;lia) (by decide)))) (cP (ah (j:=5) he .loc aa rfl)) (by exact uL (by (refine aj (qJ ..) ?_;refine aj (qJ ..) ?_);have:("\"":bb).length=1:=rfl;lia) (AX w_)))) (λh=>(br (cP (ah (j:=4) he .loc aa rfl)) (cP (ah (j:=5) he .loc aa rfl)) (by exact uL (by exact aw (by assumption) (by decide)) (AX w_))))) (by unfold ik;split <;> rfl)) (ki ⟨rfl,rfl⟩)))
end lL
theorem lL{x:bb}{w:Int}:lL.S0 k x w 0:=by with_unfolding_all exact vz _ _ _ _ lL.S0 @lL.T0 k x w 0
variable {ctx:Mu}{p2:jB}{vs bz:d9}{S:List (Nat×V)}{Θ Ψ:AF->Mu->Prop}{L C D:ay}{ds:List Nat}{ns:List Int}{n6:Nat}
section
variable {t l r:bH}{es:List bH}{ys:List V}{v:V}{scope:eN}{cl:List (bb×ay)}{lay:zx}{i j m:Nat}
set_option maxRecDepth 100000 in
theorem zV:seqSlot? (.type "list") (dunderI "add")=dg (ae (.builtin "list.__iadd__")):=PySem.seqSlot_of vc.lookup (by decide+kernel)
def iO.S0(l b:ay):Prop:=∀{prog:dJ} {w:ee} {A:bh} {E:ai->aq->Prop} {s:aq} {items items2:Array ai} {n n2:Nat} {Q:ai->aq->Prop} (hl:IsL s.heap l items n) (hb:IsL s.heap b items2 n2) (h:Q (.ref l) {s with heap:=s.heap.update l (Obj.mapSeq λx=>x++items2)}) (Uh:¬(!items.isEmpty && wB (items.size+items2.size))=aJ) (hsz:items.size<=er) (GB:items.size+items2.size<=er+1),aS (aX prog w) A (inplaceOp .Add (.ref l) (.ref b)) Q E s
namespace iO
@[irreducible] def e0:=P8 cL cL S0
def l_:=e0.1
def b_:=e0.2
theorem T0:S0 l_ b_:=by
 intro prog w A E s items items2 n n2 Q hl hb h Uh hsz GB;unfold inplaceOp;refine bE ?_;have ha:s.TypeIs (.ref l_) "list":=⟨_,hl,rfl⟩;have hbt:s.TypeIs (.ref b_) "list":=⟨_,hb,rfl⟩;have hfi:fillsInplaceSlot (.type "list") "add" (Operator.Add == .Add)=dg aH:=by
  unfold fillsInplaceSlot;show (iQ (.type "list") (dunderI "add") >>=λfi=>dg (fi.isSome && !isSeqSlot fi))=dg aH;refine aj (vc.lookup ..) ?_;refine aj (pure_bind ..) ?_;have:isSeqSlot (ae (.builtin "list.__iadd__"))=aJ:=by decide+kernel
  refine aj (this ..) ?_;rfl
 refine ag (wpAny_typeOf ha (ag (cM hfi ?_)));show aS _ A (if aH=aJ then _ else _) Q E s;refine aj (if_neg cF ..) (ag (wpAny_binaryOp1_none (nm:="add") ha hbt noFill_list_add ?_));refine ag (cM zV ?_);exact ag (oh (l6 vc ha PySem.F.entry_list_iadd (PySem.F.args_list_iadd_2 _ _) (AutoSeq1.list___iadd___list_list_0 l_ items n b_ items2 n2 Uh hsz GB) ⟨hl,hb,h⟩))
end iO
theorem iO{l b:ay}:iO.S0 l b:=by with_unfolding_all exact Fk _ _ iO.S0 @iO.T0 l b
theorem OM{x:bb}{e:bH}(he:du env)(sl:Sl env L lay x j)(hi:mu[i]? =ae (bq L lay bz))(GD:bz[j]? =ae (ae (.ref D)))(hm:mu[m]? =ae (bl D xs))(hv:PE k mu env e (.list ys))(hl:xs.length+ys.length < 2 ^ 22)(hmi:m≠i)
 (h:Ψ .next ((mu.set m (bl D (xs++ys))).set i (bq L lay (bz.set j (ae (.ref D)))))) (Cw:autoParam ((env.kindOf x == ae .free)=aH) aR):
 WX k mu env (.AugAssign (.Name x p) .Add e pos) Ψ:=⟨λ{A E Z s fr Q} hA r q=>by
 with_reducible refine wpAny_AugAssign_Name ?_
 refine FK he sl (aE fr (ao hi)) GD r λ{old} q1=>hv.c hA r λ{u s2 Z2} z2 q2 r2=>aj (aZ.refE q1 ..) (cE (rh.list q2) λb ws n2 dO e1 hr=>?_);subst dO;refine eD (r2.sat _ (ao (cG (fr:=fr) hm))) λvs n h2 h3=>?_;have l1:=b9 h3;have l2:=b9 hr;rw [l1,l2] at hl;refine iO h2 (r2.zin _ _ e1) ?_ (by refine aj (wK hl ..) ?_;simp) (by show _<=2 ^ 24;lia) (by show _<=2 ^ 24+1;exact aw (eB (by assumption)) (by decide));have hmm:=NJ vs ws n av #[];have r3:R Z2 ((mu.set m (bl D (xs++ys)))++fr) {s2 with heap:=s2.heap.update D (Obj.mapSeq λx=>x++ws)}:=ya (tk:=s2.toks) r2 hm (λc o hb e=>(bY ..).extBut c o hb e) ((bS _ h2 (by refine aj (hmm ..) ?_;rfl)).trans (congrArg ae hmm)) (by refine aj (lB ..) ?_;exact h3.append hr);exact xQ r3 he sl (by refine aj (kI hmi ..) ?_;exact hi) (beq_eq_false_iff_ne.mp Cw) (aZ.ref _) λs' r'=>q z2 .next r' h⟩
theorem Cc{kk:Nat}(h:Dq k mu env es λys nu=>ys.length<=2 ^ 20/\Φ (.tup ys) nu):WE k mu env (.Tuple es kk pos) Φ:=⟨λ{A E Z s fr Q} hA r q=>by
 with_reducible refine EZ ?_
 refine h.c hA r λ{vs s1 Z1 ys nu} z1 q1 r1 w=>⟨q1.length▸aw w.1 (show 2 ^ 20<=2 ^ 24 by decide),?_⟩
 have z2:=bI.le_put (o:={cls:= .type "tuple",data:= .seq vs.toArray}) (r1.fresh (bp _));exact q (z1.trans z2) (aZ.tup (vs:=vs.toArray) (n:=0) (bI.put_self ..) rfl rfl (q1.mono z2)) r1.pushZ w.2⟩
noncomputable def sP(ds:List Nat)(p:Nat):Nat:=dr ds p % 6
noncomputable def eP(ds:List Nat)(p:Nat):Nat:=sP ds p+1+dr ds (p+1) % (6 - sP ds p)
noncomputable def tP(ds:List Nat)(p:Nat):Nat:=1+dr ds (p+2) % 5
noncomputable def lP(ds:List Nat)(p:Nat):Nat:=dr ds (p+3)
theorem Hu(p:Nat):sP ds p < 6:=ef _ (by decide)
theorem LQ(p:Nat):sP ds p < eP ds p/\eP ds p<=6:=by have h:=Hu (ds:=ds) p;have:=ef (dr ds (p+1)) (show 0 < 6 - sP ds p by lia);unfold eP;lia
theorem Hv(p:Nat):1<=tP ds p/\tP ds p < 6:=by have:=ef (dr ds (p+2)) (show 0 < 5 by decide);unfold tP;lia
noncomputable def uW(ds:List Nat)(p:Nat):V:= .tup [nV (2*cc ds (sP ds p)),nV (2*cc ds (eP ds p)),nV (2*cc ds (tP ds p)),nV (lP ds p / 2),.bool (decide (lP ds p % 2=1))]
noncomputable def jy(ds:List Nat)(p:Nat):List Nat:=[cc ds (sP ds p),cc ds (eP ds p) - cc ds (sP ds p),cc ds (tP ds p),lP ds p]
noncomputable def iA(n6:Nat)(xs:List Int)(l:List Nat):List Int:=l.foldl (λ(xs:List Int) (n:Nat)=>xs++gm n ((n6:Int) / ((xs.length:Int)+1))) xs
theorem D9(n w:Int):(gm n w).length<=3:=by have h:=uV ((aN (mM n w)).map (pT n w)) av av (ae (-1));have:=kZ n w;unfold gm;simp only [ak,fq] at h;lia
theorem vY:∀(l:List Nat) (xs:List Int),(iA n6 xs l).length<=xs.length+3*l.length
 |[],xs=>by exact bp _
 |n::l,xs=>by
  have h:=vY l (xs++gm n ((n6:Int) / ((xs.length:Int)+1)));have:=D9 n ((n6:Int) / ((xs.length:Int)+1));rw [ba] at h;show (iA n6 (xs++gm n ((n6:Int) / ((xs.length:Int)+1))) l).length<=_;refine aj (bK ..) ?_;lia
theorem F8(l:List Nat)(n:Nat)(xs:List Int):iA n6 xs (l++[n])=iA n6 xs l++gm n ((n6:Int) / (((iA n6 xs l).length:Int)+1)):=by unfold iA;refine aj (fu ..) ?_;rfl
theorem Ea(h:Dr ds ns n6)(b:Nat)(hb:b<=6):cc ds b<=366:=by
 unfold cc;have:∀l:List Nat,(∀d∈l,d < 60)->l.sum<=60*l.length:=λl=>by
  induction l with
  |nil=>intro z;simp
  |cons a l ih=>intro h;have:=ih λd hd=>h d (ab _ hd);have:=h a aa;simp only [da,bK];lia
 have h2:=this ((ds.drop 18).take b) λd hd=>h.lt d (gn (pz hd));have h3:((ds.drop 18).take b).length<=b:=by refine aj (dR ..) ?_;exact Nat.min_le_left _ _
 lia
theorem nP{a b:Nat}(h:a<=b):cc ds a<=cc ds b:=by
 unfold cc;have:∀(l:List Nat) (a b:Nat),a<=b->(l.take a).sum<=(l.take b).sum:=λl=>by
  induction l with
  |nil=>intro a b z;simp
  |cons x l ih=>
   intro a b h;cases a with
   |zero=>simp
   |succ a=>
    cases b with
    |zero=>with_reducible exact absurd (by assumption) (TJ _)
    |succ b=>have:=ih a b (by exact P5 (by assumption));simp only [jb,da];lia
 have:=this (ds.drop 18) a b h
 with_reducible exact Nat.add_le_add (by assumption) (by assumption)
structure ON(k:Nat)(mu:Mu)(env:gP)(nms:List bb)(xs:List V)(Ψ:Mu->Prop):Prop where
 c:∀{A:bh} {E:ai->aq->Prop} {Z:bI} {s:aq} {fr:Mu} {vs:List ai} {Q:Unit->aq->Prop},Rm k A->R Z (mu++fr) s->bW G Z vs xs->(∀{s' Z' nu},Z.le Z'->R Z' (nu++fr) s'->Ψ nu->Q () s')->aS (aX G.prog G.w) A (assignInOrder (nms.map λn=>bindName env n) vs) Q E s
theorem Eb{Ψ:Mu->Prop}(h:Ψ mu):ON k mu env [] [] Ψ:=⟨λ{z z z z z z z} hA r hv q=>hv.nil_inv▸ar (q .rfl r h)⟩
theorem pV{Ψ:Mu->Prop}{x:bb}{nms:List bb}(he:du env)(sl:Sl env L lay x j)(hi:mu[i]? =ae (bq L lay bz))(h:ON k (mu.set i (bq L lay (bz.set j (ae y)))) env nms xs Ψ)(Cw:autoParam ((env.kindOf x == ae .free)=aH) aR):
 ON k mu env (x::nms) (y::xs) Ψ:=⟨λ{A E Z s fr vs Q} hA r hv q=>by
 obtain ⟨v,vs,rfl,hv,hr⟩:=hv.cons_inv;exact ag (bE (wpAny_bindName (xQ r he sl hi (beq_eq_false_iff_ne.mp Cw) hv λs' r'=>h.c hA r' hr q)))⟩
theorem bW.rev{Z:bI}{vs:List ai}{xs:List V}(h:bW G Z vs xs):bW G Z vs.reverse xs.reverse:=h.ind .nil λ{z z z z} hv z ih=>by (refine aj (CP ..) ?_;refine aj (CP ..) ?_);exact ih.append (.cons hv .nil)
theorem Hw{kk:Nat}{elts:List bH}{MY:jB}{nms:List bb}{e:bH}{Ψ:AF->Mu->Prop}(hv:WE k mu env e λy nu=>∃xs,y= .tup xs/\xs.length=nms.length/\ON k nu env nms.reverse xs.reverse (Ψ .next))(hs:wx [.Tuple elts kk MY] e pos.line env=dg aH)(hw:wy [.Tuple elts kk MY] e env=dg (ae nms)):
 WX k mu env (.Assign [.Tuple elts kk MY] e pos) Ψ:=⟨λ{A E Z s fr Q} hA r q=>by
 refine PyProof.Rows.Assign_Tuple_swapped ?_ hs hw;refine hv.c hA r λ{v s1 Z1 y nu} z1 q1 r1 w=>?_;obtain ⟨xs,rfl,hl,w⟩:=w;obtain ⟨a,o,vs,n,rfl,e1,hc,hd,hr⟩:=aZ.tup_inv q1;refine fZ (hl ..) ?_;refine aj (b9 hr ..) ?_;exact wpAny_unpackItems_tuple hA.hh (⟨_,r1.zin _ _ e1,hc,n,hd⟩:s1.heap.IsTuple a vs) λh' hx=>w.c hA (r1.keep (tk:=s1.toks) λb o e=>hx b o (c8 (bN e)) e) hr.rev λ{z z z} z2=>q (z1.trans z2) .next⟩
end
variable {A:ay}
theorem OO{a:Int}{n:Nat}(h:a=(n:Nat)):V.int a=nV n:=congrArg V.int h
noncomputable abbrev S4(ds:List Nat)(ns:List Int)(A:ay):List (Nat×V):=[(11,.list ((aN 7).map λb=>nV (cc ds b))),(10,.ref A),(42,.dict (qB (aF ds))),(7,rX (aF ds)),(5,nV (aF ds)),(4,.list (ds.map nV)),(3,.list (ns.map .int))]
noncomputable abbrev S7(ds:List Nat)(ns:List Int)(A Du Oc:ay):List (Nat×V):=(13,.ref Oc)::(12,.ref Du)::S4 ds ns A
noncomputable def eR(ds:List Nat)(n6:Nat)(ps:List Nat):List Int:=ps.foldl (λ(xs:List Int) (p:Nat)=>iA n6 xs (jy ds p)) []
theorem Cd(ps:List Nat)(p:Nat):eR ds n6 (ps++[p])=iA n6 (eR ds n6 ps) (jy ds p):=by unfold eR;refine aj (fu ..) ?_;rfl
theorem rZ:∀ps:List Nat,(eR ds n6 ps).length<=12*ps.length:=λps=>by
 have:∀(ps:List Nat) (xs:List Int),(ps.foldl (λ(xs:List Int) (p:Nat)=>iA n6 xs (jy ds p)) xs).length<=xs.length+12*ps.length:=λps=>by
  induction ps with
  |nil=>intro xs;simp
  |cons p ps ih=>intro xs;have h:=ih (iA n6 xs (jy ds p));have h2:=vY (n6:=n6) (jy ds p) xs;have h3:(jy ds p).length=4:=rfl;simp only [fF,bK];lia
 have h:=this ps [];simpa [eR] using h
theorem S7.again{vs:d9}{Du Oc:ay}{j:Nat}{y:V}(h:Sv vs ((j,y)::S7 ds ns A Du Oc))(hj:(S7 ds ns A Du Oc).lookup j=av):Sv vs (S7 ds ns A Du Oc):=h.drop hj
theorem lM{α:Type}{xs:List α}{i:Nat}{a:α}(h:xs[i]? =ae a):xs.take (i+1)=xs.take i++[a]:=by (refine aj (dE ..) ?_;refine aj (h ..) ?_);rfl
def yF.S0(k:Nat)(mu:Mu)(Θ:AF->Mu->Prop)(L A:ay)(ds:List Nat)(ns:List Int)(n6:Nat)(pm doc:ai):Prop:=∀{vs:d9} (H:Hy G) (he:du (bT pm doc L)) (hD:Dr ds ns n6) (hS:Sv vs (S4 ds ns A)) (next:∀vs Oc Du,Sv vs (S7 ds ns A Du Oc)->WS (k+8) (bl Oc ((eR ds n6 [10,14]).map .int)::bl Du ([10,14].map (uW ds))::bl A ((dm ds).map kH)::cw L vs::mu) (bT pm doc L) (mw 9) Θ),WS (k+8) (bl A ((dm ds).map kH)::cw L vs::mu) (bT pm doc L) (mw 7) Θ
namespace yF
@[irreducible] def e0:=zI eO gD s7 cL cL gD gD eO gL gL S0
def k_:=e0.1
def fb:=e0.2.1
def Θ_:=e0.2.2.1
def L_:=e0.2.2.2.1
def A_:=e0.2.2.2.2.1
def aV:=e0.2.2.2.2.2.1
def Ht:=e0.2.2.2.2.2.2.1
def gO:=e0.2.2.2.2.2.2.2.1
def pg:=e0.2.2.2.2.2.2.2.2.1
def g8:=e0.2.2.2.2.2.2.2.2.2
theorem T0:S0 k_ fb Θ_ L_ A_ aV Ht gO pg g8:=by
 intro vs H he hD hS next
 refine aC (Hw (nms:=["due","octets"]) (Cc (cA (sA (xs:=[]) aT (by show 0<=2 ^ 20;decide) (λDu=>fL.ref (cA (sA (xs:=[]) aT (by show 0<=2 ^ 20;decide) (λOc=>fL.ref (e9 ⟨by show 2<=2 ^ 20;decide,_,rfl,rfl,pV (i:=3) (j:=13) he .loc rfl (pV (i:=3) (j:=12) he .loc rfl (Eb ?_))⟩)))))))) rfl rfl);have hS1:Sv _ (S7 aV Ht A_ Du Oc):=((hS.set (j:=13) (y:= .ref Oc)).set (j:=12) (y:= .ref Du)).sub ⟨rfl,rfl,rfl,rfl,rfl,rfl,rfl,rfl,rfl,trivial⟩;refine aC (jO (ctx:=[]) (xs:=[10,14].map nV) (λi nu=>∃rp,nu=bl Oc ((eR aV gO ([10,14].take i)).map .int)::bl Du (([10,14].take i).map (uW aV))::bl A_ ((dm aV).map kH)::cw L_ rp::fb/\Sv rp (S7 aV Ht A_ Du Oc))
  (xy (f9 (xs:=[nV 10,nV 14]) (au aU (au aU aT)) (by show 2<=2 ^ 20;decide))) (by lia) ⟨_,rfl,hS1⟩ (λi nu h o ho=>(eo ho)) ?_ ?_)
 ·intro i x nu hx dO;refine aK dO λrp eU hS=>?_;clear dO;subst eU;rw [aI] at hx;refine aK (aL.mp hx) λq hq gi=>?_;subst gi;have Uc:i < 2:=(aB.mp hq).1;have hq14:q<=14:=by have:=ao hq;simp at this;lia
  have hf:∀{x y z:cX} {rp},bq L_ (aM (L_+1) (bk (cN 23)).names) rp∈x::y::z::cw L_ rp::fb:=ab _ (ab _ (ab _ aa));refine aQ (i:=3) (j:=1) he .loc rfl ?_;have hS2:=hS.set (j:=1) (y:=nV q);have hs6:=Hu (ds:=aV) q;have he6:=LQ (ds:=aV) q;have ht6:=Hv (ds:=aV) q;refine aC (Hw (nms:=["start","target","last"]) (cf (y:= .tup [nV (sP aV q),nV (tP aV q),nV (lP aV q)]) (f9 (xs:=[nV (sP aV q),nV (tP aV q),nV (lP aV q)]) (au (bM (br (bF (dD (ah (j:=4) he (.cell (L_+3) "draws") hf (hS2.get rfl))) (ah (j:=1) he .loc hf (hS2.get rfl)) (ew (hD.at (i:=q) (by exact b7 (by assumption) (by decide))) (by refine aj (hD.len ..) ?_;decide))) aU (fk (by decide))) (OO (by unfold sP;lia))) (au (bM (br aU (br (bF (dD (ah (j:=4) he (.cell (L_+3) "draws") hf (hS2.get rfl))) (br (ah (j:=1) he .loc hf (hS2.get rfl)) aU fC) (ew (hD.at (i:=q+2) (by lia)) (by refine aj (hD.len ..) ?_;decide))) aU (fk (by decide))) fC) (OO (by unfold tP;lia))) (au (bF (dD (ah (j:=4) he (.cell (L_+3) "draws") hf (hS2.get rfl))) (br (ah (j:=1) he .loc hf (hS2.get rfl)) aU fC) (ew (hD.at (i:=q+3) (by lia)) (by refine aj (hD.len ..) ?_;decide))) aT))) (by show 3<=2 ^ 20;decide)) ⟨_,rfl,rfl,pV (i:=3) (j:=16) he .loc rfl (pV (i:=3) (j:=15) he .loc rfl (pV (i:=3) (j:=14) he .loc rfl (Eb ?_)))⟩) rfl rfl);have hS3:=((hS2.set (j:=16) (y:=nV (lP aV q))).set (j:=15) (y:=nV (tP aV q))).set (j:=14) (y:=nV (sP aV q));refine aC (bX (y:=nV (eP aV q)) (bM (br (br (ah (j:=14) he .loc hf (hS3.get rfl)) aU fC) (br (bF (dD (ah (j:=4) he (.cell (L_+3) "draws") hf (hS3.get rfl))) (br (ah (j:=1) he .loc hf (hS3.get rfl)) aU fC) (ew (hD.at (i:=q+1) (by lia)) (by refine aj (hD.len ..) ?_;decide))) (bM (br aU (ah (j:=14) he .loc hf (hS3.get rfl)) vH) (OO (n:=6 - sP aV q) (by lia))) (fk (by lia))) fC) (OO (by unfold eP;lia))) (aQ (i:=3) (j:=17) he .loc rfl ?_) rfl rfl);have Aa:=hS3.set (j:=17) (y:=nV (eP aV q));have S3:∀{b:Nat},b < 7->(aN 7)[b]? =ae b:=λ{w} h=>bA h;refine aC (ig (mY (ah (j:=12) he .loc hf (Aa.get rfl)) (j5 (xs:=([10,14].take i).map (uW aV)) (ab _ aa)) (au (P:=bZ (uW aV q)) (f9 (xs:=[nV (2*cc aV (sP aV q)),nV (2*cc aV (eP aV q)),nV (2*cc aV (tP aV q)),nV (lP aV q / 2),.bool (decide (lP aV q % 2=1))]) (au (bM (br aU (bF (dD (ah (j:=11) he .loc hf (Aa.get rfl))) (ah (j:=14) he .loc hf (Aa.get rfl)) (ew (S3 (by exact cI (by assumption))) (by decide))) (mX (by decide))) (OO (by lia))) (au (bM (br aU (bF (dD (ah (j:=11) he .loc hf (Aa.get rfl))) (ah (j:=17) he .loc hf (Aa.get rfl)) (ew (S3 (by lia)) (by decide))) (mX (by decide))) (OO (by lia))) (au (bM (br aU (bF (dD (ah (j:=11) he .loc hf (Aa.get rfl))) (ah (j:=15) he .loc hf (Aa.get rfl)) (ew (S3 (by lia)) (by decide))) (mX (by decide))) (OO (by lia))) (au (bM (br (ah (j:=16) he .loc hf (Aa.get rfl)) aU (l9 (by decide))) (OO (by lia))) (au (bM (mI (br (ah (j:=16) he .loc hf (Aa.get rfl)) aU (fk (by decide))) aU qr) ?_) aT))))) (by show 5<=2 ^ 20;decide)) aT) (kA (i:=1) rfl (by (refine aj (ak ..) ?_;refine aj (dR ..) ?_);show min i 2 < 2 ^ 22;lia) ?_) (by exact fP) (by exact iT) (by exact iU) rfl))
  ·refine congrArg V.bool ?_;by_cases h:lP aV q % 2=1
   ·(refine aj (decide_eq_true h ..) ?_;refine gj (beq_iff_eq ..) ?_);lia
   ·(refine aj (decide_eq_false h ..) ?_;refine gj (beq_eq_false_iff_ne ..) ?_);lia
  have hX:=rZ (ds:=aV) (n6:=gO) ([10,14].take i);have hT:([10,14].take i).length<=2:=by refine aj (dR ..) ?_;exact ou _ _
  generalize hXe:eR aV gO ([10,14].take i)=X at hX ⊢;refine cq (H.f285.go) λob TY cd' Jk h0 hd w=>?_;have hS5:Sv _ (S7 aV Ht A_ Du Oc):=Aa.sub ⟨rfl,rfl,rfl,rfl,rfl,rfl,rfl,rfl,rfl,trivial⟩;refine aC (jO (ctx:=[]) (xs:=(jy aV q).map nV) (λj nu=>∃rp,nu=bl Oc ((iA gO X ((jy aV q).take j)).map .int)::bl Du (([10,14].take i).map (uW aV)++[uW aV q])::bl A_ ((dm aV).map kH)::cw L_ rp::fb/\Sv rp (S7 aV Ht A_ Du Oc))
   (xy (f9 (xs:=(jy aV q).map nV) (au (bF (dD (ah (j:=11) he .loc hf (Aa.get rfl))) (ah (j:=14) he .loc hf (Aa.get rfl)) (ew (S3 (by exact cI (by assumption))) (by decide))) (au (bM (br (bF (dD (ah (j:=11) he .loc hf (Aa.get rfl))) (ah (j:=17) he .loc hf (Aa.get rfl)) (ew (S3 (by lia)) (by decide))) (bF (dD (ah (j:=11) he .loc hf (Aa.get rfl))) (ah (j:=14) he .loc hf (Aa.get rfl)) (ew (S3 (by exact cI (by assumption))) (by decide))) vH) ?_) (au (bF (dD (ah (j:=11) he .loc hf (Aa.get rfl))) (ah (j:=15) he .loc hf (Aa.get rfl)) (ew (S3 (by lia)) (by decide))) (au (ah (j:=16) he .loc hf (Aa.get rfl)) aT)))) (by show 4<=2 ^ 20;decide))) (by lia) ⟨_,rfl,hS5⟩ (λi nu h o ho=>(eo ho)) ?_ ?_)
  ·have:cc aV (sP aV q)<=cc aV (eP aV q):=nP (by lia);exact OO (by lia)
  ·intro j x nu hx iC;refine aK iC λrp kG hS=>?_;clear iC;subst kG;rw [aI] at hx;refine aK (aL.mp hx) λn hn ma=>?_;subst ma;have hj4:j < 4:=(aB.mp hn).1;refine aQ (i:=3) (j:=2) he .loc rfl ?_;have hS6:=hS.set (j:=2) (y:=nV n);have hY:=vY (n6:=gO) ((jy aV q).take j) X;have hTj:((jy aV q).take j).length<=4:=by refine aj (dR ..) ?_;exact ou _ _
   have hoc:=D9 n ((gO:Int) / (((iA gO X ((jy aV q).take j)).length:Int)+1));have hsn:=F8 (n6:=gO) ((jy aV q).take j) n X;refine aj (lM hn ..) ?_;refine aj (hsn ..) ?_;generalize iA gO X ((jy aV q).take j)=Y at hY hoc ⊢;refine aC (OM (i:=3) (j:=13) (m:=0) (xs:=Y.map .int) (ys:=(gm n ((gO:Int) / ((Y.length:Int)+1))).map .int) he .loc rfl (hS6.get rfl) rfl (ju (ys:=[nV n,.int ((gO:Int) / ((Y.length:Int)+1))]) (mn H he H.m_octets rfl) h0 hd (au (ah (j:=2) he .loc hf (hS6.get rfl)) (au (br (bF (dD (ah (j:=3) he (.cell (L_+2) "numbers") hf (hS6.get rfl))) aU (ew (j:=6) hD.six (by refine aj (hD.nlen ..) ?_;decide))) (br (bM (ek (j4 H he H.b_len rfl) (au (uD (ah (j:=13) he .loc hf (hS6.get rfl)) aa) aT) (mi (by refine aj (ak ..) ?_;lia))) (by (refine aj (ak ..) ?_;rfl))) aU fC) (l9 (by lia))) aT)) (LK H)) (by (refine aj (ak ..) ?_;refine aj (ak ..) ?_);lia) (by decide) ?_);refine bC ⟨_,by refine fZ (bj ..) ?_;rfl,(hS6.set (j:=13)).sub ⟨rfl,rfl,rfl,rfl,rfl,rfl,rfl,rfl,rfl,trivial⟩⟩
  ·intro nu mE;refine aK mE λrp qY hS=>?_;clear mE;subst qY;refine bC (bC ⟨rp,?_,hS⟩);rw [lM hq,Cd,hXe,bj,ak,cK];rfl
 ·intro nu uc;refine aK uc λrp mO hS=>?_;clear uc;subst mO;exact bC (next _ _ _ hS)
end yF
theorem yF{pm doc:ai}:yF.S0 k mu Θ L A ds ns n6 pm doc:=by with_unfolding_all exact uB _ _ _ _ _ _ _ _ _ _ yF.S0 @yF.T0 k mu Θ L A ds ns n6 pm doc
variable {Du Oc:ay}
noncomputable def xG:List bb:=["a","b c","\"d","\\e","#\t","\n\r"]
noncomputable def tQ(ds:List Nat)(n6:Nat):List Int:=eR ds n6 [10,14]++(eR ds n6 [10,14]).take (n6 % 4)
noncomputable def qK(ds:List Nat)(n6:Nat):bb:=fO "" ((tQ ds n6).map λo=>⟨#[o.toNat]⟩)
noncomputable def d8(ds:List Nat)(n6:Nat):List bb:=((dm ds).flatMap λq=>[q.1,q.2].map λb=>xG.getD b "")++[qK ds n6,"done","end"]
noncomputable def g9(ds:List Nat)(n6:Nat):bb:=fO "" ((d8 ds n6).zipIdx.map λq=>ik q.1 ((n6:Int) / ((q.2:Int)+1)))
theorem nc{sep:bb}{l:List bb}{B:Nat}(hb:∀t∈l,t.length<=B)(h:l.length*(B+sep.length)<=2 ^ 20):Nd sep l=aJ:=by
 refine joinOk_of ?_;have h1:∀l:List bb,(∀t∈l,t.length<=B)->(l.map (·.length)).sum<=l.length*B:=by
  intro l;induction l with
  |nil=>intro z;simp
  |cons a l ih=>intro h;have:=ih λi hi=>h i (ab _ hi);have:=h a aa;simp only [bB,da,bK];refine aj (iS ..) ?_;lia
 have h2:=h1 l hb;rw [Nat.mul_add] at h;have:(2:Nat) ^ 20<=er:=by show 2 ^ 20<=2 ^ 24;decide
 lia
theorem vZ{l:List bb}{B:Nat}(hb:∀t∈l,t.length<=B):(fO "" l).length<=l.length*B:=by
 have h:(fO "" l).length<=(l.map (·.length)).sum:=by have h0:("":bb).length=0:=rfl;have e:(fO "" l).length=(l.map (·.length)).sum+(l.length - 1)*("":bb).length:=size_glued "" l;(refine aj (e ..) ?_;refine aj (h0 ..) ?_);lia
 have h1:∀l:List bb,(∀t∈l,t.length<=B)->(l.map (·.length)).sum<=l.length*B:=by
  intro l;induction l with
  |nil=>intro z;simp
  |cons a l ih=>intro h;have:=ih λi hi=>h i (ab _ hi);have:=h a aa;simp only [bB,da,bK];refine aj (iS ..) ?_;lia
 have h2:=h1 l hb;exact aw h h2
theorem wa(n:Nat)(w:Int)(i:Nat):0<=pT n w i/\pT n w i < 256:=by
 unfold pT;have h1:0<=(n:Int) / 64 ^ i % 64/\(n:Int) / 64 ^ i % 64 < 64:=⟨Int.emod_nonneg _ (by decide),Int.emod_lt_of_pos _ (by decide)⟩;have h2:0<=w / ((i:Int)+1) % 2/\w / ((i:Int)+1) % 2 < 2:=⟨Int.emod_nonneg _ (by decide),Int.emod_lt_of_pos _ (by decide)⟩
 split <;> omega
theorem LR(n:Nat)(w:Int):∀o∈gm n w,0<=o/\o < 256:=by
 intro o ho;have h0:=wa n w 0;have h1:=wa n w 1;have h2:=wa n w 2;rcases kZ n w with h|h|h
 ·rw [tN h] at ho;simp at ho;rcases ho with rfl|rfl|rfl <;> assumption
 ·rw [yD h] at ho;simp at ho;rcases ho with rfl;assumption
 ·rw [yC h] at ho;simp at ho;rcases ho with rfl|rfl <;> assumption
theorem wb:∀(l:List Nat) (xs:List Int),(∀o∈xs,0<=o/\o < 256)->∀o∈iA n6 xs l,0<=o/\o < 256
 |[],xs,h=>h
 |n::l,xs,h=>wb l _ λo ho=>by
  rcases bc.mp ho with h'|h'
  ·exact h o h'
  ·exact LR n _ o h'
theorem wO:∀o∈eR ds n6 [10,14],0<=o/\o < 256:=by unfold eR;simp only [fF,List.foldl_nil];exact wb _ _ (wb _ _ λo ho=>eo ho)
theorem uX:∀o∈tQ ds n6,0<=o/\o < 256:=λo ho=>by
 rcases bc.mp ho with h|h
 ·exact wO o h
 ·exact wO o (pz h)
theorem yG:(tQ ds n6).length<=27:=by delta tQ;have:=rZ (ds:=ds) (n6:=n6) [10,14];have h2:[10,14].length=2:=rfl;have h3:=List.length_take_le (n6 % 4) (eR ds n6 [10,14]);refine aj (ba ..) ?_;lia
def kf.S0(ds:List Nat)(_:Nat):Prop:=∀q∈dm ds,q.1 < 6/\1<=q.2/\q.2 < 6
namespace kf
@[irreducible] def e0:=P8 gD eO S0
def aV:=e0.1
theorem T0:S0 aV e0.2:=by
 unfold S0;intro q hq;unfold dm LG LI at hq;have m6:∀n,n % 6 < 6:=λn=>ef _ (by decide);have m5:∀n,n % 5 < 5:=λn=>ef _ (by decide);simp only [bB,u7,fU,qg,aP,uu,or_false] at hq;have a1:=ef (dr aV (2 - 2)) (show 0 < 2 by decide);have a2:=ef (dr aV (3 - 2)) (show 0 < 3 by decide);have a3:=ef (dr aV (4 - 2)) (show 0 < 4 by decide);have a4:=ef (dr aV (5 - 2)) (show 0 < 5 by decide);rcases hq with rfl|rfl|rfl|rfl|rfl|rfl|rfl|rfl
 ·exact ⟨by decide,by decide,by decide⟩
 ·exact ⟨by show _ < 6;exact cb (by assumption) (by decide),by show 1<=2;decide,by show 2 < 6;decide⟩
 ·exact ⟨by show _ < 6;exact cb (by assumption) (by decide),by show 1<=3;decide,by show 3 < 6;decide⟩
 ·exact ⟨by show _ < 6;exact cb (by assumption) (by decide),by show 1<=4;decide,by show 4 < 6;decide⟩
 ·exact ⟨by show _ < 6;exact cI (by assumption),by show 1<=5;decide,by show 5 < 6;decide⟩
 ·exact ⟨m6 _,by show 1<=1+_;exact dC _ _,by have:=m5 (dr aV (4+1));show 1+_ < 6;lia⟩
 ·exact ⟨m6 _,by show 1<=1+_;exact dC _ _,by have:=m5 (dr aV (6+1));show 1+_ < 6;lia⟩
 ·exact ⟨m6 _,by show 1<=1+_;exact dC _ _,by have:=m5 (dr aV (8+1));show 1+_ < 6;lia⟩
end kf
theorem kf(ds:List Nat):kf.S0 ds 0:=by with_unfolding_all exact Fk _ _ kf.S0 @kf.T0 ds 0
theorem OP(b:Nat):(xG.getD b "").length<=27:=by
 rcases gX b 6 with h|h
 ·rcases (by lia:b=0\/b=1\/b=2\/b=3\/b=4\/b=5) with rfl|rfl|rfl|rfl|rfl|rfl <;> decide
 ·(refine aj (bR ..) ?_;refine aj (il (by exact h) ..) ?_);decide
theorem yH:(qK ds n6).length<=27:=by refine aw (vZ (B:=1) λt ht=>?_) (by refine aj (ak ..) ?_;have:=yG (ds:=ds) (n6:=n6);lia);refine aK (aG.mp ht) λo z dO=>?_;subst dO;exact bp 1
theorem wc:∀w∈d8 ds n6,w.length<=27:=by
 intro w hw;rcases bc.mp hw with h|h
 ·refine aK (bG.mp h) λq z h2=>aK (aG.mp h2) λb z eU=>?_;subst eU;exact OP b
 ·simp only [aP,uu,or_false] at h;rcases h with rfl|rfl|rfl
  ·exact yH
  ·decide
  ·decide
theorem LS:(dm ds).length=8:=rfl
theorem pW:(d8 ds n6).length=19:=rfl
theorem F9(w:Int)(q:Nat×Nat):(lK w q).length<=2:=by
 unfold lK
 split
 ·exact bp 2
 ·show 1<=2;decide
theorem wd{x:bb}(w:Int)(hx:x.length<=1000):(qI x w).length<=2*x.length/\Nd "" (x.cps.toList.zipIdx.map (lK w))=aJ:=by
 have hl:(x.cps.toList.zipIdx.map (lK w)).length=x.length:=by simp [Str.length]
 have hb:∀t∈x.cps.toList.zipIdx.map (lK w),t.length<=2:=λt ht=>by
  refine aK (aG.mp ht) λq z gi=>?_;subst gi;exact F9 w q
 have h0:("":bb).length=0:=rfl;refine ⟨?_,nc hb (by (refine aj (hl ..) ?_;refine aj (h0 ..) ?_);show _<=1048576;lia)⟩;have:=vZ hb;rw [hl] at this;unfold qI;lia
theorem wQ{x:bb}(w:Int)(hx:x.length<=27):(ik x w).length<=60:=by
 have h:=(wd w (x:=x) (by exact aw (by assumption) (by decide))).1;have hg:(jN w).length<=2:=by
  unfold jN;have h:(w / 4 % 5).toNat < 5:=by lia
  generalize (w / 4 % 5).toNat=n at h
  match n,h with
  |0,_=>exact bg rfl
  |1,_=>exact bg rfl
  |2,_=>exact bg rfl
  |3,_=>exact bg rfl
  |4,_=>
   show (if decide (w % 4 < 2)=aJ then ("":bb) else " \n").length<=_
   split <;> decide
 have h1:("\"":bb).length=1:=rfl;unfold ik
 split
 ·(refine aj (qJ ..) ?_;refine aj (qJ ..) ?_;refine aj (qJ ..) ?_;refine aj (h1 ..) ?_);lia
 ·refine aj (qJ ..) ?_;lia
theorem IV:Nd "" ((d8 ds n6).zipIdx.map λq=>ik q.1 ((n6:Int) / ((q.2:Int)+1)))=aJ:=by
 refine nc (B:=60) (λt ht=>?_) (by (refine aj (ak ..) ?_;refine aj (eX ..) ?_;refine aj (pW ..) ?_);decide);refine aK (aG.mp ht) λq hq iC=>?_;subst iC;have EN:q.1∈d8 ds n6:=by
  have:=gS (f:=uv) hq
  rwa [jd] at this
 exact wQ _ (wc _ EN)
theorem Ec:(g9 ds n6).length<=1200:=by
 refine aw (vZ (B:=60) λt ht=>?_) (by (refine aj (ak ..) ?_;refine aj (eX ..) ?_;refine aj (pW ..) ?_);decide);refine aK (aG.mp ht) λq hq kG=>?_;subst kG;have EN:q.1∈d8 ds n6:=by
  have:=gS (f:=uv) hq
  rwa [jd] at this
 exact wQ _ (wc _ EN)
noncomputable def qL:List Nat->Mu->Mu
 |[],nu=>nu
 |j::js,nu=>match nu[j]? with
  |some a=>a::qL js (nu.eraseIdx j)
  |none=>nu
theorem yI:∀{nu:Mu} {j:Nat} {a:cX},nu[j]? =ae a->nu.Perm (a::nu.eraseIdx j)
 |b::nu,0,a,h=>by (have lA:=aO h;clear h;subst lA);exact ic _
 |b::nu,j+1,a,h=>((yI (nu:=nu) (j:=j) h).cons b).trans (jh a b _)
theorem nf:∀(js:List Nat) (nu:Mu),nu.Perm (qL js nu)
 |[],nu=>ic _
 |j::js,nu=>by
  show nu.Perm (match nu[j]? with|some a=>a::qL js (nu.eraseIdx j)|none=>nu);cases h:nu[j]? with
  |none=>exact ic _
  |some a=>exact (yI h).trans ((nf js _).cons a)
theorem WF.to{nu:Mu}{t:oZ uh}(js:List Nat)(h:WF k (qL js nu) t Θ):WF k nu t Θ:=⟨λ{A E Z s fr Q} hA r=>h.c hA (r.perm ((nf js nu).append_right fr))⟩
noncomputable def yJ(a:ay)(xs:List V):cX where
 own:=[]
 sat:=λZ h=>∃o vs n,Z a=ae o/\o.cls= .type "tuple"/\o.data= .seq vs n/\o.dict=av/\bW G Z vs.toList xs
 mono:=λZ Z' h hz=>bQ λo=>bQ λvs=>bQ λn u=>⟨hz _ _ u.1,u.2.1,u.2.2.1,u.2.2.2.1,u.2.2.2.2.mono hz⟩
 loc:=λZ h h' q z z z=>q
 live:=λZ h q c hc=>eo hc
theorem PE_tk{e:bH}{a:ay}{xs:List V}(h:PE k mu env e (.ref a))(hm:yJ a xs∈mu):PE k mu env e (.tup xs):=⟨λ{A E Z s fr Q} hA r q=>h.c hA r λ{v s1 Z1} z1 q1 r1=>by
 refine aj (aZ.refE q1 ..) (g6 (r1.sat _ (aE fr hm)) λo vs n h1 h2 h3 z h5=>?_);exact q z1 (aZ.tup h1 h2 h3 h5) r1⟩
theorem ty_tk{a:ay}{xs:List V}(hm:yJ a xs∈mu):Ty mu (bZ (.ref a)) "tuple":=⟨λZ s fr v r h=>by
 exact g6 (r.sat _ (aE fr hm)) λo vs n h1 h2 h3 h4 h5=>aZ.refE h▸Ty.at (r.zin _ _ h1) h2 h4⟩
theorem OQ{es:List bH}{kk:Nat}{xs:List V}(h:tA k mu env es (xs.map bZ))(hl:xs.length<=2 ^ 20)(hΦ:∀a,Φ (.ref a) (yJ a xs::mu)):WE k mu env (.Tuple es kk pos) Φ:=⟨λ{A E Z s fr Q} hA r q=>by
 with_reducible refine EZ ?_
 refine h.c hA r λ{vs s1 Z1} z1 q1 r1=>⟨q1.size hl,?_⟩
 have z2:=bI.le_put (o:={cls:= .type "tuple",data:= .seq vs.toArray}) (r1.fresh (bp _));exact q (z1.trans z2) (aZ.ref _) (r1.pushZ.addNew (tk:=s1.toks) (h':=s1.heap.push {cls:= .type "tuple",data:= .seq vs.toArray}) (yJ s1.heap.objs.size xs) (λb o e=>e) ⟨_,vs.toArray,0,bI.put_self ..,rfl,rfl,rfl,q1.vrels.mono z2⟩ kQ (λb hb=>eo hb)) (hΦ _)⟩
noncomputable abbrev S9(ds:List Nat)(ns:List Int)(n6:Nat)(A Du Oc Sg:ay):List (Nat×V):=(20,.str (g9 ds n6))::(19,.list ((d8 ds n6).map .str))::(18,.ref Sg)::S7 ds ns A Du Oc
def yK.S0(k:Nat)(L A Du Oc:ay)(ds:List Nat)(ns:List Int)(n6:Nat)(pm doc:ai):Prop:=∀{mu:Mu} {vs:d9} {Θ:AF->Mu->Prop} (H:Hy G) (he:du (bT pm doc L)) (hD:Dr ds ns n6) (hS:Sv vs (S7 ds ns A Du Oc)) (next:∀vs Sg,Sv vs (S9 ds ns n6 A Du Oc Sg)->WS (k+8) (bl Oc ((eR ds n6 [10,14]).map .int)::bl Du ([10,14].map (uW ds))::bl A ((dm ds).map kH)::cw L vs::yJ Sg (xG.map .str)::mu) (bT pm doc L) (mw 12) Θ),WS (k+8) (bl Oc ((eR ds n6 [10,14]).map .int)::bl Du ([10,14].map (uW ds))::bl A ((dm ds).map kH)::cw L vs::mu) (bT pm doc L) (mw 9) Θ
namespace yK
@[irreducible] def e0:=zI eO cL cL cL cL gD gD eO gL gL S0
def k_:=e0.1
def L_:=e0.2.1
def A_:=e0.2.2.1
def JN:=e0.2.2.2.1
def R3:=e0.2.2.2.2.1
def aV:=e0.2.2.2.2.2.1
def Ht:=e0.2.2.2.2.2.2.1
def gO:=e0.2.2.2.2.2.2.2.1
def pg:=e0.2.2.2.2.2.2.2.2.1
def g8:=e0.2.2.2.2.2.2.2.2.2
theorem T0:S0 k_ L_ A_ JN R3 aV Ht gO pg g8:=by
 intro mu vs Θ H he hD hS next
 have hf:∀{x y z:cX} {rp} {mu:Mu},bq L_ (aM (L_+1) (bk (cN 23)).names) rp∈x::y::z::cw L_ rp::mu:=ab _ (ab _ (ab _ aa));have hX:=rZ (ds:=aV) (n6:=gO) [10,14];have h2:[10,14].length=2:=rfl;refine aC (b4 (OQ (xs:=xG.map .str) (au cO (au cO (au cO (au cO (au cO (au cO aT)))))) (by show 6<=2 ^ 20;decide) (λSg=>aQ (i:=4) (j:=18) he (.cell (L_+10) "signs") rfl ?_)) rfl rfl);refine WF.to [1,1,1,1] ?_;show WS (k_+8) (bl R3 ((eR aV gO [10,14]).map .int)::bl JN ([10,14].map (uW aV))::bl A_ ((dm aV).map kH)::cw L_ (vs.set 18 (ae (.ref Sg)))::yJ Sg (xG.map .str)::mu) _ _ _;have hS1:=hS.set (j:=18) (y:= .ref Sg);have hK:∀{x y z w:cX} {mu:Mu},yJ Sg (xG.map .str)∈x::y::z::w::yJ Sg (xG.map .str)::mu:=ao (i:=4) rfl;refine aC (bX (y:= .list ((d8 aV gO).map .str)) (bM (br (dD (Hs (dm aV) kH (λq=>[q.1,q.2]) nV (λq b=> .str (xG.getD b "")) ⟨rfl,rfl,by decide+kernel,by decide+kernel⟩ (Aw (ah (j:=10) he (.cell (L_+9) "arms") hf (hS1.get rfl)) (ab _ (ab _ aa))) (by lia) (by show 16<=2 ^ 21;decide) (λC a ha=>LC 1 2 he.comp .loc .loc rfl (xy (ah (j:=1) he.comp .loc aa rfl)) (λb hb=>bM (bF (PE_tk (ah (j:=18) he.comp (.cell (L_+10) "signs") (ab _ hf) (hS1.get rfl)) (ab _ hK)) (ah (j:=2) he.comp .loc aa rfl) (Qj (by exact dI _) ?_ (by show 6 < 2 ^ 60;decide))) ?_)))) (dD (ij (xs:=[V.str (qK aV gO),.str "done",.str "end"]) (au (f7 cO mK (au (dD (jP (tQ aV gO) .int (λo=> .str ⟨#[o.toNat]⟩) ⟨rfl,rfl,by decide+kernel,by decide+kernel⟩ (dA (bM (br (uD (ah (j:=13) he .loc hf (hS1.get rfl)) aa) (dD (bF (uD (ah (j:=13) he .loc hf (hS1.get rfl)) aa) (jo dM (eQ (br (bF (dD (ah (j:=3) he (.cell (L_+2) "numbers") hf (hS1.get rfl))) aU (ew (j:=6) hD.six (by refine aj (hD.nlen ..) ?_;decide))) aU (fk (by decide)))) dM) (pd (by decide) (by refine aj (ak ..) ?_;show _<=8388608;exact aw (by assumption) (by decide))))) (uJ ?_)) ?_)) (by lia) (aw yG (by decide)) (λC2 a ha=>iu 1 he.comp .loc dk (λhb=>ek (j4 H he.comp H.b_chr rfl) (au (ah (j:=1) he.comp .loc aa rfl) aT) (Rn (uX a ha).1 (by have:=(uX a ha).2;lia)))))) aT) (rK ?_) (by exact eM) (by exact ny) (by exact nz) rfl) (au cO (au cO aT))) (by show 3<=2 ^ 20;decide))) (uJ ?_)) ?_) (aQ (i:=3) (j:=19) he .loc rfl ?_) rfl rfl)
 ·have:=kf aV a ha;have:b < 6:=by simp at hb;lia
  show (b:Int) < 6;lia
 ·refine aj (b8 ..) ?_;have:=kf aV a ha;have:b < 6:=by simp at hb;lia
  rcases (by lia:b=0\/b=1\/b=2\/b=3\/b=4\/b=5) with rfl|rfl|rfl|rfl|rfl|rfl <;> rfl
 ·have:=uV ((eR aV gO [10,14]).map V.int) av (ae ((gO:Int) % 4)) av;rw [ak] at this ⊢;show _<=8388608;lia
 ·rw [show ((gO:Int) % 4)=((gO % 4:Nat):Int) by lia,OG,tQ,bj,List.map_take]
 ·refine nc (B:=1) (λt ht=>?_) (by refine aj (ak ..) ?_;have:=yG (ds:=aV) (n6:=gO);have h0:("":bb).length=0:=rfl;refine aj (h0 ..) ?_;show _<=1048576;lia);refine aK (aG.mp ht) λo v ma=>?_;subst ma;exact bp 1
 ·show 16+3<=2 ^ 23;decide
 ·unfold d8;rw [bj,uq];simp only [a0];rfl
 have hS2:=hS1.set (j:=19) (y:= .list ((d8 aV gO).map .str));refine cq (H.f280.go) λob TY cd' Jk h0 hd v=>aC (bX (y:= .str (g9 aV gO)) (f7 cO mK (au (dD (jP ((d8 aV gO).zipIdx) (λq=> .tup [.int (q.2:Nat),.str q.1]) (λq=> .str (ik q.1 ((gO:Int) / ((q.2:Int)+1)))) ⟨rfl,rfl,by decide+kernel,by decide+kernel⟩ (sy (iN H he H.b_enumerate rfl) (ah (j:=19) he .loc hf (hS2.get rfl))) (by lia) (by rw [eX,pW];decide) (λC3 a ha=>tG 1 2 he.comp .loc .loc dk (λhb=>ju (ys:=[.str a.1,.int ((gO:Int) / ((a.2:Int)+1))]) (mn H he.comp H.m_spelled rfl) h0 hd (au (ah (j:=2) he.comp .loc aa rfl) (au (br (bF (dD (ah (j:=3) he.comp (.cell (L_+2) "numbers") (ab _ hf) (hS2.get rfl))) aU (ew (j:=6) hD.six (by rw [hD.nlen];decide))) (br (ah (j:=1) he.comp .loc aa rfl) aU fC) (l9 ?_)) aT)) (lL H ?_ ?_ ?_))))) aT) (rK IV) (by exact eM) (by exact ny) (by exact nz) rfl) (aQ (i:=3) (j:=20) he .loc rfl (next _ Sg (hS2.set (j:=20)))) rfl rfl)
 all_goals (have hm:a.1∈d8 aV gO:=by
  {have:=gS (f:=uv) ha
   rwa [jd] at this})
 all_goals have hw:=wc _ hm
 ·have:=List.snd_lt_of_mem_zipIdx ha;rw [pW] at this;lia
 ·with_reducible exact aw (by assumption) (by decide)
 ·have:=(wd ((gO:Int) / ((a.2:Int)+1)) (x:=a.1) (by exact aw (by assumption) (by decide))).1;lia
 ·exact (wd _ (x:=a.1) (by exact aw (by assumption) (by decide))).2
end yK
theorem yK{pm doc:ai}:yK.S0 k L A Du Oc ds ns n6 pm doc:=by with_unfolding_all exact uB _ _ _ _ _ _ _ _ _ _ yK.S0 @yK.T0 k L A Du Oc ds ns n6 pm doc
section
variable {ke ve:bH}{x:bb}
theorem LU(B:g7 G)(hk:PE k mu env ke (.str x))(hv:PE k mu env ve y):PE k mu env (.Dict [ae ke] [ve] pos) (.dict [(x,y)]):=⟨λ{A E Z s fr Q} hA r q=>by
 with_reducible refine wpAny_Dict_walk (knd:=strKind G.prog G.w) rfl rfl (by simp) (by simp) ?_
 refine pairTrees_cons_walk (hk.c (fr:=cD s.heap.objs.size []::fr) hA ((vM B r).perm cu.symm) λ{kv s1 Z1} z1 q1 r1=>hv.c hA r1 λ{vv s3 Z3} z3 q3 r3=>pairTrees_nil_walk ?_);refine cJ (gV q1) λtk dO=>?_;subst dO;have r4:R Z3 (cD s.heap.objs.size []::(mu++fr)) s3:=r3.perm cu;refine qo (r4.sat _ aa) λhq kvs hD SY hr1=>?_;cases jc.mp SY;exact ⟨[(x,vv)],⟨zt G.prog G.w x tk,rfl,trivial⟩,hD,λh' hD' ua=>(fL.dict (D:=s.heap.objs.size) (es:=[(x,y)]) (mu:=mu) (Θ:=λz nu=>z= .dict [(x,y)]/\nu=mu) ⟨rfl,rfl⟩).c (fr:=fr)
  (r4.upd' (x':=cD s.heap.objs.size [(x,y)]) (i:=0) (h':=h') (tk:=s3.toks+1) rfl rfl (λc o hb e=>ua.extBut c o (λq=>hb (q▸aa)) e) ⟨hq,[(x,vv)],hD',rfl,.cons q3 .nil⟩) λ{v v v} z6 q6 r6 u=>q (z1.trans (z3.trans z6)) (u.1▸q6) (u.2▸r6)⟩⟩
theorem WF.drop1{t:oZ uh}{a:cX}(h:WF k nu t Θ):WF k (a::nu) t Θ:=⟨λ{A E Z s fr Q} hA r=>h.c hA (r.sublist (.cons _ (sO _)))⟩
theorem FW.app{f:ai}{xs:List V}(more:Mu)(h:FW k mu f xs Φ):FW k (mu++more) f xs λy nu=>∃nu',nu=nu'++more/\Φ y nu':=⟨λ{A E Z s fr vs Q} hA r hv q=>h.c (fr:=more++fr) hA (bU .. ▸r) hv λ{x x x x x} z w r u=>q z w ((bU ..).symm▸r) ⟨_,rfl,u⟩⟩
theorem FW.to{f:ai}{xs:List V}(js:List Nat)(h:FW k (qL js nu) f xs Φ):FW k nu f xs Φ:=⟨λ{A E Z s fr vs Q} hA r hv=>h.c hA (r.perm ((nf js nu).append_right fr)) hv⟩
theorem WF.from{t:oZ uh}(js:List Nat){X:Mu}(e:qL js nu=X)(h:WF k X t Θ):WF k nu t Θ:=WF.to js (e▸h)
end
variable {Sg:ay}{K:fl}
theorem sF(l:List bb):(fO "" l).cps.toList=l.flatMap (·.cps.toList):=by
 cases l with
 |nil=>rfl
 |cons t ts=>
  have h:∀(ts:List bb) (acc:Array Nat),(ts.foldl (λacc p=>acc++("":bb).cps++p.cps) acc).toList=acc.toList++ts.flatMap (·.cps.toList):=λts=>by
   induction ts with
   |nil=>intro acc;simp
   |cons u ts ih=>
    intro acc;refine aj (fF ..) ?_;refine aj (ih ..) ?_;refine aj (dF ..) ?_;have:(acc++("":bb).cps++u.cps).toList=acc.toList++u.cps.toList:=by have:("":bb).cps=#[]:=rfl;refine aj (this ..) ?_;simp
    refine aj (this ..) ?_;simp
  show ((ts.foldl (λacc p=>acc++("":bb).cps++p.cps) t.cps).toList)=_;refine aj (h ..) ?_;refine aj (dF ..) ?_;rfl
theorem sG(a b:bb):(a++b).cps.toList=a.cps.toList++b.cps.toList:=by show (a.cps++b.cps).toList=_;simp
abbrev jz(x:bb):Prop:=∀c∈x.cps.toList,c < 256
theorem jz.cat{a b:bb}(ha:jz a)(hb:jz b):jz (a++b):=λc hc=>by
 rw [sG] at hc;rcases bc.mp hc with h|h
 ·exact ha c h
 ·exact hb c h
theorem jz.join{l:List bb}(h:∀t∈l,jz t):jz (fO "" l):=λc hc=>by
 rw [sF] at hc;exact aK (bG.mp hc) λt ht h2=>h t ht c h2
theorem Ee(w:Int):jz (jN w):=by
 unfold jN;have h:(w / 4 % 5).toNat < 5:=by lia
 generalize (w / 4 % 5).toNat=n at h;have:∀x∈([["\n","\t","\r"," ",""],["\n","\t","\r"," "," \n"]]:List (List bb)),∀n,n < 5->jz (x.getD n ""):=by decide
 split
 ·exact this _ (.head _) n h
 ·exact this _ (.tail _ (.head _)) n h
theorem Ga{x:bb}(w:Int)(hx:jz x):jz (ik x w):=by
 have h1:jz (qI x w):=jz.join λt ht=>by
  refine aK (aG.mp ht) λq hq dO=>?_;subst dO;have hm:q.1∈x.cps.toList:=by
   have:=gS (f:=uv) hq
   rwa [jd] at this
  have h0:jz (⟨#[q.1]⟩:bb):=λc hc=>by
   have:c=q.1:=by simpa using hc
   subst this;exact hx _ hm
  unfold lK
  split
  ·exact jz.cat (by decide) h0
  ·exact h0
 have h2:jz ("\"":bb):=by decide
 unfold ik
 split
 ·exact ((h2.cat h1).cat h2).cat (Ee w)
 ·exact h1.cat (Ee w)
theorem tR:(qK ds n6).cps.toList=(tQ ds n6).map ur:=by
 unfold qK;refine aj (sF ..) ?_;induction tQ ds n6 with
 |nil=>rfl
 |cons a l ih=>(refine aj (bB ..) ?_;refine aj (dF ..) ?_;refine aj (ih ..) ?_);rfl
theorem AY:jz (qK ds n6):=λc hc=>by
 rw [tR] at hc;refine aK (aG.mp hc) λo ho eU=>?_;subst eU;have:=uX o ho;lia
theorem Ef:∀w∈d8 ds n6,jz w:=by
 intro w hw;have h6:∀n,n < 6->jz (xG.getD n ""):=by decide
 rcases bc.mp hw with h|h
 ·refine aK (bG.mp h) λq hq h2=>aK (aG.mp h2) λb hb gi=>?_;subst gi;have:=kf ds q hq;exact h6 b (by simp at hb;lia)
 ·simp only [aP,uu,or_false] at h;rcases h with rfl|rfl|rfl
  ·exact AY
  ·decide
  ·decide
theorem OR:jz (g9 ds n6):=jz.join λt ht=>by
 refine aK (aG.mp ht) λq hq iC=>?_;subst iC;have EN:q.1∈d8 ds n6:=by
  have:=gS (f:=uv) hq
  rwa [jd] at this
 exact Ga _ (Ef _ EN)
noncomputable def LV(low:Nat):List (bb×V):=bD low (aN 6) λb=>cV [(cB (low+b),1)]
noncomputable abbrev S12(ds:List Nat)(ns:List Int)(n6:Nat)(A Du Oc Sg lx:ay):List (Nat×V):=(23,.dict (LV (aF ds)))::(22,.dict [])::(21,.ref lx)::S9 ds ns n6 A Du Oc Sg
def tS.S0(k:Nat)(mu:Mu)(vs:d9)(Θ:AF->Mu->Prop)(L A Du Oc:ay)(ds:List Nat)(n6:Nat)(pm doc:ai):Prop:=∀{Sg:ay} {ns:List Int} {K:fl} (H:Hy G) (LH:fM G K) (NH:uO K) (GH:Lm G) (he:du (bT pm doc L)) (hD:Dr ds ns n6) (hS:Sv vs (S9 ds ns n6 A Du Oc Sg)) (next:∀vs P,mU P->P.text=g9 ds n6->Sv vs (S12 ds ns n6 A Du Oc Sg P.lx)->WS (k+8) (cw L vs::(j6 P [] (1+((g9 ds n6).cps.toList.count 10:Nat)) (g9 ds n6).cps.toList++(bl A ((dm ds).map kH)::bl Du ([10,14].map (uW ds))::gG 304 []::bl Oc ((eR ds n6 [10,14]).map .int)::mu))) (bT pm doc L) (mw 13) Θ),WS (k+8) (bl Oc ((eR ds n6 [10,14]).map .int)::bl Du ([10,14].map (uW ds))::bl A ((dm ds).map kH)::cw L vs::gG 272 (zT av)::gG 304 []::mu) (bT pm doc L) (mw 12) Θ
namespace tS
@[irreducible] def e0:=HS eO gD gD s7 cL cL cL cL gD eO gL gL S0
def k_:=e0.1
def fb:=e0.2.1
def kR:=e0.2.2.1
def Θ_:=e0.2.2.2.1
def L_:=e0.2.2.2.2.1
def A_:=e0.2.2.2.2.2.1
def JN:=e0.2.2.2.2.2.2.1
def R3:=e0.2.2.2.2.2.2.2.1
def aV:=e0.2.2.2.2.2.2.2.2.1
def gO:=e0.2.2.2.2.2.2.2.2.2.1
def pg:=e0.2.2.2.2.2.2.2.2.2.2.1
def g8:=e0.2.2.2.2.2.2.2.2.2.2.2
theorem T0:S0 k_ fb kR Θ_ L_ A_ JN R3 aV gO pg g8:=by
 intro Sg ns K H LH NH GH he hD hS next
 have hf:∀{x y z:cX} {rp HO},bq L_ (aM (L_+1) (bk (cN 23)).names) rp∈x::y::z::cw L_ rp::HO:=ab _ (ab _ (ab _ aa));have d7:=eI aV;refine cE (GH.f275.go) λob TY Jk h0 hd w=>aC (b4 (Cc (cA (B4 LH.KO NH.k217 (mn H he H.m_lex rfl) (cA (ml (mn H he H.m_given rfl) h0 hd (cA (cf (ah (j:=20) he .loc hf (hS.get rfl)) (e9 (FW.mono (m8 (i:=4) H GH rfl OR (aw Ec (by decide))) λy nu hy=>?_))))))))) rfl rfl);obtain ⟨f,dx,lam,it,L1,gd,ld,a,b,e1,_,hR,e2⟩:=hy;refine e9 (FW.mono (KV H LH NH) λy2 ub hy=>?_);refine oz hy λlx dx2 pb e3 e4=>?_;clear hy;subst e1 e2 e3 e4
 let P:ib:={lx:=lx,dx:=dx2,pb:=pb,f:=f,fdx:=dx,it:=it,L:=L1,lam:=lam,a:=a,b:=b,gd:=gd,ld:=ld,text:=g9 aV gO}
 have hf9:∀{x0 x1 x2 x3 x4 x5 x6 x7 x8:cX} {rp HO},bq L_ (aM (L_+1) (bk (cN 23)).names) rp∈x0::x1::x2::x3::x4::x5::x6::x7::x8::cw L_ rp::HO:=ao (i:=9) rfl;refine cA (xX H.B (λD0=>fL.dict (cA (yA H.B (aN 6) (λb=> .str (cB (aF aV+b))) (λb=>(cB (aF aV+b),cV [(cB (aF aV+b),1)])) ⟨rfl,rfl,by decide+kernel,by decide+kernel⟩ (dA (ah (j:=7) he (.cell (L_+6) "names") hf9 (hS.get rfl))) (by lia) (by decide) (λC4 a ha=>BO 1 he.comp .loc dk (λhb=>(ah (j:=1) he.comp .loc aa rfl)) (λhb=>LU H.B (ah (j:=1) he.comp .loc aa rfl) aU)) (jx d7 (aN 6) (λb hb=>aY.mp hb) lp) (λD1=>fL.dict (e9 ⟨by show 3<=2 ^ 20;decide,i7 (cv rfl rfl (aQ (i:=9) (j:=21) he (.cell (L_+11) "lexer") rfl (cv rfl rfl (aQ (i:=9) (j:=22) he (.cell (L_+12) "none") rfl (cv rfl rfl (aQ (i:=9) (j:=23) he .loc rfl (iX ?_)))))))⟩))))));refine WF.from [9,0,0,0,0,0,0,3,2,1,1] rfl ?_;have hn:=next _ P ⟨hR⟩ rfl (((hS.set (j:=21) (y:= .ref lx)).set (j:=22) (y:= .dict [])).set (j:=23) (y:= .dict (LV (aF aV))))
 have e1:(1+((g9 aV gO).cps.toList.count 10:Nat):Int) - ((g9 aV gO).cps.toList.count 10:Nat)=1:=by lia
 unfold j6 at hn;rw [e1] at hn;exact hn
end tS
theorem tS{pm doc:ai}:tS.S0 k mu vs Θ L A Du Oc ds n6 pm doc:=by with_unfolding_all exact CY _ _ _ _ _ _ _ _ _ _ _ _ tS.S0 @tS.T0 k mu vs Θ L A Du Oc ds n6 pm doc
noncomputable def IW(w:Int)(q:Nat×Nat):Bool:=(w % 2 == 1) || (decide (q.1∈(if decide (w % 4 < 2) then [92,34] else [92,10,9,13,32])) || (decide (q.1=34) && decide (q.2=0)))
noncomputable def Hx(w:Int)(q:Nat×Nat):List Nat:=if IW w q then [92,q.1] else [q.1]
theorem LW:∀c,c < 256->(!(cZ ("\\\"":bb) ⟨#[c]⟩ 0 ("\\\"":bb).length 1).isEmpty)=decide (c∈[92,34]):=by decide+kernel
theorem LX:∀c,c < 256->(!(cZ ("\\\n\t\r ":bb) ⟨#[c]⟩ 0 ("\\\n\t\r ":bb).length 1).isEmpty)=decide (c∈[92,10,9,13,32]):=by decide+kernel
theorem LY:∀c,c < 256->((⟨#[c]⟩:bb) == "\"")=decide (c=34):=by decide+kernel
theorem Gb{w:Int}{q:Nat×Nat}(hc:q.1 < 256):(lK w q).cps.toList=Hx w q:=by
 have hb:((w % 2 == 1) || ((!(cZ (pU w) ⟨#[q.1]⟩ 0 (pU w).length 1).isEmpty) || (((⟨#[q.1]⟩:bb) == "\"" && ((((q.2:Nat):Int) == 0) && aJ)) || false)))=IW w q:=by
  delta IW pU;refine aj (LY _ hc ..) ?_;refine aj (zE ..) ?_;refine aj (Bool.and_true ..) ?_;have e0:(((q.2:Nat):Int) == 0)=decide (q.2=0):=by
   by_cases h:q.2=0
   ·refine aj (h ..) ?_;rfl
   ·(refine aj (decide_eq_false h ..) ?_;refine gj (beq_eq_false_iff_ne ..) ?_);lia
  refine aj (e0 ..) ?_
  split
  ·(refine aj (LW _ hc ..) ?_;rfl)
  ·(refine aj (LX _ hc ..) ?_;rfl)
 delta lK Hx;refine aj (hb ..) ?_
 split
 ·refine aj (sG ..) ?_;rfl
 ·rfl
theorem yL{x:bb}{w:Int}(hx:jz x):(qI x w).cps.toList=x.cps.toList.zipIdx.flatMap (Hx w):=by
 delta qI;refine aj (sF ..) ?_;have:∀l:List (Nat×Nat),(∀q∈l,q.1 < 256)->(l.map (lK w)).flatMap (·.cps.toList)=l.flatMap (Hx w):=λl=>by
  induction l with
  |nil=>intro z;rfl
  |cons q l ih=>intro h;refine aj (bB ..) ?_;refine aj (dF ..) ?_;refine aj (dF ..) ?_;refine aj (ih λq hq=>h q (ab _ hq) ..) ?_;refine aj (Gb (h q aa) ..) ?_;rfl
 refine this _ λq hq=>hx _ ?_;have:=gS (f:=uv) hq
 rwa [jd] at this
set_option tactic.hygienic true in
theorem Eg{w:Int}(hw:w % 4 < 2)(rest:List Nat):∀(l:List Nat) (i:Nat) (acc:List Nat),uT acc ((l.zipIdx i).flatMap (Hx w)++34::rest)=ae (acc++l,rest)
 |[],i,acc=>by
  show uT acc (34::rest)=_;unfold uT;simp
 |c::l,i,acc=>by
  refine aj (ox ..) ?_;refine aj (dF ..) ?_;have ih:=Eg hw rest l (i+1) (acc++[c]);unfold Hx
  split
  ·rename_i h;show uT acc (92::c::(((l.zipIdx (i+1)).flatMap (Hx w))++34::rest))=_;unfold uT;refine aj (if_neg (by decide) ..) ?_;refine aj (if_pos rfl ..) ?_;show uT (acc++[c]) _=_;refine aj (ih ..) ?_;simp
  ·rename_i h;show uT acc (c::(((l.zipIdx (i+1)).flatMap (Hx w))++34::rest))=_;unfold IW at h;rw [decide_eq_true hw,if_pos rfl] at h;simp at h;refine GV h λ_ h1 _=>?_;clear h;unfold uT;(refine aj (if_neg h1.2 ..) ?_;refine aj (if_neg h1.1 ..) ?_;refine aj (ih ..) ?_);simp
set_option tactic.hygienic true in
theorem Eh{w:Int}(hw:¬w % 4 < 2){g:Nat}(hg:xE g=aJ)(rest:List Nat):∀(l:List Nat) (i:Nat) (acc:List Nat),sW acc ((l.zipIdx i).flatMap (Hx w)++g::rest)=ae (acc++l,rest)
 |[],i,acc=>by
  show sW acc (g::rest)=_;unfold sW;refine aj (if_pos hg ..) ?_;simp
 |c::l,i,acc=>by
  refine aj (ox ..) ?_;refine aj (dF ..) ?_;have ih:=Eh hw hg rest l (i+1) (acc++[c]);unfold Hx
  split
  ·rename_i h;show sW acc (92::c::(((l.zipIdx (i+1)).flatMap (Hx w))++g::rest))=_;unfold sW;refine aj (if_neg (by decide) ..) ?_;refine aj (if_pos rfl ..) ?_;show sW (acc++[c]) _=_;refine aj (ih ..) ?_;simp
  ·rename_i h;show sW acc (c::(((l.zipIdx (i+1)).flatMap (Hx w))++g::rest))=_;unfold IW at h;rw [decide_eq_false hw,if_neg (by decide)] at h;simp at h;have hws:xE c=aH:=by
    unfold xE;simp;lia
   unfold sW;(refine aj (hws ..) ?_;refine aj (if_neg (by decide) ..) ?_;refine aj (if_neg (by lia) ..) ?_;refine aj (ih ..) ?_);simp
theorem Ei:∀(pre l:List Nat),(∀c∈pre,xE c=aJ)->yu (pre++l)=yu l
 |[],l,_=>rfl
 |c::pre,l,h=>by
  refine aj (fU ..) ?_;show (if xE c then yu (pre++l) else _)=_;exact aj (if_pos (h c aa) ..) (Ei pre l λc hc=>h c (ab _ hc))
theorem AZ(w:Int):∀c∈(jN w).cps.toList,xE c=aJ:=by
 delta jN;have h:(w / 4 % 5).toNat < 5:=by lia
 generalize (w / 4 % 5).toNat=n at h;have:∀x∈([["\n","\t","\r"," ",""],["\n","\t","\r"," "," \n"]]:List (List bb)),∀n,n < 5->∀c∈(x.getD n "").cps.toList,xE c=aJ:=by decide
 split
 ·exact this _ (.head _) n h
 ·exact this _ (.tail _ (.head _)) n h
theorem A0(w:Int):(jN w).cps.toList.length<=2:=by
 delta jN;have h:(w / 4 % 5).toNat < 5:=by lia
 generalize (w / 4 % 5).toNat=n at h;have:∀x∈([["\n","\t","\r"," ",""],["\n","\t","\r"," "," \n"]]:List (List bb)),∀n,n < 5->(x.getD n "").cps.toList.length<=2:=by decide
 split
 ·exact this _ (.head _) n h
 ·exact this _ (.tail _ (.head _)) n h
theorem Gc{w:Int}(hw:¬w % 4 < 2):∃g pre,(jN w).cps.toList=g::pre/\xE g=aJ/\∀c∈pre,xE c=aJ:=by
 have h1:=AZ w;have h2:(jN w).cps.toList≠[]:=by
  delta jN;refine aj (decide_eq_false hw ..) ?_;have h:(w / 4 % 5).toNat < 5:=by lia
  generalize (w / 4 % 5).toNat=n at h;have:∀n,n < 5->((["\n","\t","\r"," "," \n"]:List bb).getD n "").cps.toList≠[]:=by decide
  exact this n h
 cases e:(jN w).cps.toList with
 |nil=>exact absurd e h2
 |cons g pre=>exact ⟨g,pre,rfl,h1 g (by refine aj (e ..) ?_;exact aa),λc hc=>h1 c (by refine aj (e ..) ?_;exact ab _ hc)⟩
set_option tactic.hygienic true in
theorem LZ{x:bb}{w:Int}(hx:jz x)(iP:x.cps.toList≠[])(rest:List Nat):∃pre,(∀c∈pre,xE c=aJ)/\pre.length<=2/\yu ((ik x w).cps.toList++rest)=ae (x.cps.toList,pre++rest):=by
 by_cases hw:w % 4 < 2
 ·refine ⟨(jN w).cps.toList,AZ w,A0 w,?_⟩;delta ik;refine aj (decide_eq_true hw ..) ?_;refine aj (if_pos rfl ..) ?_;refine aj (sG ..) ?_;refine aj (sG ..) ?_;refine aj (sG ..) ?_;refine aj (yL hx ..) ?_;have e:("\"":bb).cps.toList=[34]:=rfl;refine aj (e ..) ?_;show yu (34::(x.cps.toList.zipIdx.flatMap (Hx w))++[34]++(jN w).cps.toList++rest)=_;have:=Eg hw ((jN w).cps.toList++rest) x.cps.toList 0 [];simp only [fU,bU,qg] at this ⊢;show (if xE 34 then _ else if 34=34 then uT [] _ else _)=_;refine aj (if_neg (by decide) ..) ?_;refine aj (if_pos rfl ..) ?_;exact this
 ·refine cC (Gc hw) λg pre e hg hp=>⟨pre,hp,by have:=A0 w;rw [e,bK] at this;exact ni (by assumption),?_⟩
  delta ik;refine aj (decide_eq_false hw ..) ?_;refine aj (if_neg (by decide) ..) ?_;refine aj (sG ..) ?_;refine aj (yL hx ..) ?_;refine aj (e ..) ?_;have:=Eh hw hg (pre++rest) x.cps.toList 0 [];simp only [fU,bU,qg] at this ⊢;refine fZ (this ..) ?_;cases hxl:x.cps.toList with
  |nil=>exact absurd hxl iP
  |cons c l=>
   refine aj (ox ..) ?_;refine aj (dF ..) ?_;delta Hx
   split
   ·show (if xE 92 then _ else if 92=34 then _ else sW [] _)=_;refine aj (if_neg (by decide) ..) ?_;refine aj (if_neg (by decide) ..) ?_;rfl
   ·rename_i h;unfold IW at h;rw [decide_eq_false hw,if_neg (by decide)] at h;simp at h;have hws:xE c=aH:=by
     delta xE;simp;lia
    show (if xE c then _ else if c=34 then _ else sW [] _)=_;refine aj (hws ..) ?_;refine aj (if_neg (by decide) ..) ?_;refine aj (if_neg (by lia) ..) ?_;rfl
noncomputable def tl(ds:List Nat)(n6 i:Nat):List Nat:=((d8 ds n6).zipIdx.drop i).flatMap λq=>(ik q.1 ((n6:Int) / ((q.2:Int)+1))).cps.toList
theorem Hz:(g9 ds n6).cps.toList=tl ds n6 0:=by delta g9 tl;refine aj (sF ..) ?_;refine aj (fy ..) ?_;refine aj (List.flatMap_map ..) ?_;rfl
theorem L6(n w:Int):1<=(gm n w).length:=by
 rcases kZ n w with h|h|h
 ·refine aj (tN h ..) ?_;simp
 ·refine aj (yD h ..) ?_;simp
 ·refine aj (yC h ..) ?_;simp
theorem A5:∀(l:List Nat) (xs:List Int),xs.length+l.length<=(iA n6 xs l).length
 |[],xs=>by simp [iA]
 |n::l,xs=>by
  have h:=A5 l (xs++gm n ((n6:Int) / ((xs.length:Int)+1)));have:=L6 n ((n6:Int) / ((xs.length:Int)+1));rw [ba] at h;show _<=(iA n6 (xs++gm n ((n6:Int) / ((xs.length:Int)+1))) l).length;refine aj (bK ..) ?_;lia
theorem L7:4<=(tQ ds n6).length:=by
 delta tQ;refine aj (ba ..) ?_;have:4<=(eR ds n6 [10,14]).length:=by delta eR;simp only [fF,List.foldl_nil];have:=A5 (n6:=n6) (jy ds 14) (iA n6 [] (jy ds 10));have h4:(jy ds 14).length=4:=rfl;lia
 lia
theorem L8:∀w∈d8 ds n6,w.cps.toList≠[]:=by
 intro w hw;have h6:∀n,n < 6->(xG.getD n "").cps.toList≠[]:=by decide
 rcases bc.mp hw with h|h
 ·refine aK (bG.mp h) λq hq h2=>aK (aG.mp h2) λb hb dO=>?_;subst dO;have:=kf ds q hq;exact h6 b (by simp at hb;lia)
 ·simp only [aP,uu,or_false] at h;rcases h with rfl|rfl|rfl
  ·intro e;rw [tR] at e;have:=L7 (ds:=ds) (n6:=n6);have e2:=congrArg kM e;rw [ak,GR] at e2;lia
  ·decide
  ·decide
def ph(ds:List Nat)(n6 i:Nat)(cs:List Nat):Prop:=∃pre,(∀c∈pre,xE c=aJ)/\pre.length<=2/\cs=pre++tl ds n6 i
theorem ph.start:ph ds n6 0 (g9 ds n6).cps.toList:=⟨[],(λz h=>eo h),by simp,by refine aj (Hz ..) ?_;rfl⟩
theorem R4(i:Nat):(tl ds n6 i).length<=1200:=by
 have h:(tl ds n6 i).length<=(tl ds n6 0).length:=by delta tl;rw [fy];have e:(d8 ds n6).zipIdx=(d8 ds n6).zipIdx.take i++(d8 ds n6).zipIdx.drop i:=(oo i _).symm;have e2:=congrArg (λl=>(l.flatMap λq=>(ik q.1 ((n6:Int) / ((q.2:Int)+1))).cps.toList).length) e;simp only [Uq,ba] at e2;lia
 rw [<- Hz] at h;exact aw h (Ec (ds:=ds) (n6:=n6))
theorem ph.len{i:Nat}{cs:List Nat}(h:ph ds n6 i cs):cs.length<=2 ^ 20:=by refine eg h λpre z h2 eU=>?_;clear h;subst eU;have:=R4 (ds:=ds) (n6:=n6) i;refine aj (ba ..) ?_;show _<=1048576;lia
theorem ph.tok{i:Nat}{cs:List Nat}{x:bb}(h:ph ds n6 i cs)(hx:(d8 ds n6)[i]? =ae x):∃cs',yu cs=ae (x.cps.toList,cs')/\ph ds n6 (i+1) cs':=by
 refine eg h λpre h1 h2 gi=>?_;clear h;subst gi;have hi:=(aB.mp hx).1;have hd:(d8 ds n6).zipIdx.drop i=(x,i)::(d8 ds n6).zipIdx.drop (i+1):=by refine aj (dZ (by rw [eX];exact hi) ..) ?_;congr 1;refine aj (List.getElem_zipIdx ..) ?_;have:=(aB.mp hx).2;refine aj (this ..) ?_;simp
 have e:tl ds n6 i=(ik x ((n6:Int) / ((i:Int)+1))).cps.toList++tl ds n6 (i+1):=by delta tl;refine aj (hd ..) ?_;refine aj (dF ..) ?_;rfl
 have hm:=ao hx;obtain ⟨pre',h3,h4,h5⟩:=LZ (w:=(n6:Int) / ((i:Int)+1)) (Ef x hm) (L8 x hm) (tl ds n6 (i+1));exact ⟨_,by (refine aj (Ei pre _ h1 ..) ?_;refine aj (e ..) ?_);exact h5,pre',h3,h4,rfl⟩
theorem ph.end_{cs:List Nat}(h:ph ds n6 19 cs):∀c∈cs,xE c=aJ:=by
 refine eg h λpre h1 z iC=>?_;clear h;subst iC;have:tl ds n6 19=[]:=by delta tl;refine aj (List.drop_eq_nil_of_le (by rw [eX,pW];exact bp _) ..) ?_;rfl
 (refine aj (this ..) ?_;refine aj (cy ..) ?_);exact h1
theorem OS{p:Nat}(hp:p < 8):(d8 ds n6)[2*p]? =ae (xG.getD ((dm ds).getD p (0,0)).1 "")/\(d8 ds n6)[2*p+1]? =ae (xG.getD ((dm ds).getD p (0,0)).2 ""):=by rcases (by lia:p=0\/p=1\/p=2\/p=3\/p=4\/p=5\/p=6\/p=7) with rfl|rfl|rfl|rfl|rfl|rfl|rfl|rfl <;> exact ⟨rfl,rfl⟩
theorem OT:(d8 ds n6)[16]? =ae (qK ds n6):=rfl
theorem OU:(d8 ds n6)[17]? =ae ("done":bb):=rfl
theorem OV:(d8 ds n6)[18]? =ae ("end":bb):=rfl
section
variable {prog:dJ}{w:ee}{A:bh}{E:ai->aq->Prop}{s:aq}
theorem Ej{items:Array ai}{x:ai}{e:ai->Bool}(he:∀y,y∈items->MeetsSeq.EqGives y x (e y)){j:Nat}(hj:j < items.size)(hit:e items[j]=aJ)(Br:∀m (hm:m < items.size),m < j->e items[m]=aH){Q:Option NP×Unit->aq->Prop}(hQ:Q (ae (.done (.ret (.int j s.toks))),()) {s with toks:=s.toks+1})
 {f:Nat->Option NP×Unit->oZ (ForInStep (Option NP×Unit))} (hf:∀i y r,items[i]? =ae y->f i r=(do
  let b <- eqBool y x
  if b=aJ then do
   let q <- retInt i
   dg (ForInStep.done (ae q,()))
  else dg (GM (av,())))):
 ∀(n i:Nat),i<=j->j < i+n->aS (aX prog w) A (forIn (List.range' i n 1) ((av,()):Option NP×Unit) f) Q E s
 |0,i,h1,h2=>by lia
 |n+1,i,h1,h2=>by
  refine aj (List.range'_succ ..) ?_;refine aj (List.forIn_cons ..) ?_;have hi:i < items.size:=by exact b7 (by assumption) (by assumption)
  refine ag (aj (hf i _ _ (dY hi) ..) ?_);refine ag (he _ (Array.getElem_mem hi) prog w _ _ _ _ ?_);by_cases Bq:i=j
  ·subst Bq;refine aj (hit ..) ?_;refine aj (if_pos rfl ..) ?_;refine ag ?_
   wp_walk
   exact hQ
  ·(refine aj (Br i hi (by exact Nat.lt_of_le_of_ne (by assumption) (by assumption)) ..) ?_;refine aj (if_neg cF ..) ?_)
   exact ar (Ej he hj hit Br hQ hf n (i+1) (by lia) (by lia))
theorem Ek(l:ay)(o:oY)(hc:o.cls= .type "tuple")(items:Array ai)(n:Nat)(hd:o.data= .seq items n)(x:ai)(e:ai->Bool)(he:∀y,y∈items->MeetsSeq.EqGives y x (e y))(j:Nat)(hj:j < items.size)
 (hit:e items[j]=aJ) (Br:∀m (hm:m < items.size),m < j->e items[m]=aH):
 Meets (Builtin.«tuple.index» ⟨[.ref l,x],[]⟩) (λz R s=>s.heap.get? l=ae o/\R (.ok (.ret (.int j s.toks))) {s with toks:=s.toks+1}):=
 .of_wp λprog w A R s h=>by
  obtain ⟨hp,g,d,tk,os⟩:=s;obtain ⟨hl,h⟩:=h;show aS _ _ (selfAndSome "tuple.index" "index" 1 3 ⟨[.ref l,x],[]⟩ >>=_) _ _ _;refine ag (cM (a:=(.ref l,[x])) (by rfl) ?_);show aS _ _ (Builtin.Tuple.tupleItemsOf (.ref l) >>=_) _ _ _;refine ag (wpAny_tupleItemsOf hl hd ?_);refine ag (ar (ag (ar (ag ?_))));refine aj (Std.Legacy.Range.forIn_eq_forIn_range' ..) ?_;have hsz:(min items.size items.size - 0+1 - 1) / 1=min items.size items.size:=by lia
  refine eS (Q:=λr s'=>r=(ae (.done (.ret (.int j tk))),())/\s'=⟨hp,g,d,tk+1,os⟩) ?_ (λr s' ⟨e1,e2⟩=>?_) λz z e=>e
  ·show aS _ _ (forIn (List.range' 0 ((min items.size items.size - 0+1 - 1) / 1) 1) _ _) _ _ _;refine aj (hsz ..) (Ej he hj hit Br ⟨rfl,rfl⟩ (λi y r h=>?_) _ 0 (gp _) (by lia));simp only [h]
  ·subst e1 e2;exact ar ⟨_,rfl,h⟩
theorem rj{it t:ay}{items:Array ai}(iP:t≠it):∀(n i:Nat) (s:aq) (Q:List ai->aq->Prop),s.heap.IsListIter it t i->s.heap.IsList t items->i+n<=items.size->
 (∀h',h'.IsListIter it t (i+n)->ji it s.heap h'->Q ((items.toList.drop i).take n) {s with heap:=h'})->aS (aX prog w) A (draw (.ref it) n) Q E s
 |0,i,s,Q,hit,_,_,hQ=>by
  show aS _ _ (dg []) Q E s;exact ar (by exact hQ s.heap hit (JK ..))
 |n+1,i,s,Q,hit,ht,hle,hQ=>by
  have hlt:i < items.size:=by lia
  show aS _ _ (l0 (.ref it) >>=_) Q E s;refine ag (zr hit ht (x:=items[i]) (by simp [hlt]) λh₁ GG M3=>?_);have ht₁:h₁.IsList t items:=by refine aK ht λo h1 h2=>?_;clear ht;exact ⟨o,M3.extBut t o iP h1,h2⟩
  refine ag (bE (rj iP n (i+1) _ _ GG ht₁ (by lia) λh₂ S5 hs₂=>ar ?_));have hd:items.toList.drop i=items[i]::items.toList.drop (i+1):=by simp [dZ,hlt]
  have:=hQ h₂ (by refine aj (show i+(n+1)=i+1+n by lia) ?_;exact S5) (M3.trans hs₂);rw [hd,jb] at this;exact this
def dN.S0(prog:dJ)(w:ee)(s:aq)(t:ay)(items:Array ai)(_:Nat):Prop:=∀{A:bh} {E:ai->aq->Prop} {Q:List ai->aq->Prop} (hh:A.handled=av) (ht:s.heap.IsList t items) (hQ:∀h',rv s.heap.objs.size s.heap h'->Q items.toList {s with heap:=h'}),aS (aX prog w) A (NQ (.ref t) items.size av) Q E s
namespace dN
@[irreducible] def e0:=Fl sV E6 zJ cL inferInstance eO S0
def cT:=e0.1
def w_:=e0.2.1
def s_:=e0.2.2.1
def t_:=e0.2.2.2.1
def k6:=e0.2.2.2.2.1
theorem T0:S0 cT w_ s_ t_ k6 e0.2.2.2.2.2:=by
 intro A E Q hh ht hQ;have hlt:t_≠s_.heap.objs.size:=by obtain ⟨o,ho,_⟩:=ht;exact c8 (bN ho)
 have hT:s_.TypeIs (.ref t_) "list":=by obtain ⟨o,ho,hc,_⟩:=ht;exact ⟨o,ho,hc⟩
 unfold NQ;refine ag ?_
 ·unfold notIterableAtAll;refine ag (h8 hT PySem.F.slot_list_iter.lookup ?_);refine ar ?_;simp only [dj,if_false];refine ag (bE (lr ht ?_));have PW:(s_.heap.push {cls:= .type "list_iterator",data:= .fields #[.ref t_,.int 0 0]}).IsList t_ k6:=by
   refine aK ht λo h1 h2=>?_;clear ht;exact ⟨o,az _ h1,h2⟩
  refine ag (bE (rj hlt k6.size 0 _ _ ⟨_,aW _ rfl,rfl,rfl⟩ PW (by lia) λh₁ GG M3=>?_));have zp:List.take k6.size (List.drop 0 k6.toList)=k6.toList:=by refine aj (fy ..) ?_;exact d6 (by exact bp _)
  refine aj (zp ..) (aj (if_neg (by simp) ..) ?_);have ht₁:h₁.IsList t_ k6:=by refine aK PW λo h1 h2=>?_;clear PW;exact ⟨o,M3.extBut t_ o hlt h1,h2⟩
  refine ag (bE (Ag hh GG ht₁ (by simp) λh₂ he₂=>?_));simp only [Ah,dj,if_false];refine ar (hQ h₂ λb o hb e=>he₂ b o hb (M3.extBut b o hb (az _ e)))
end dN
theorem dN{t:ay}{items:Array ai}:dN.S0 prog w s t items 0:=by with_unfolding_all exact uA _ _ _ _ _ _ dN.S0 @dN.T0 prog w s t items 0
end
section
variable {Ψ:Mu->Prop}{x:bb}{ns:List bb}{j:Nat}
theorem Ge{ts:List bH}{kk:Nat}(h:HU k mu env ts xs Ψ):mJ k mu env (.Tuple ts kk p) (.list xs) Ψ:=⟨λ{A E Z s fr v Q} hA r hv q=>by
 refine cE (rh.list hv) λa vs n dO e1 hr=>?_;subst dO;have hn:(jC ts env).length=vs.toList.length:=(nA ts).trans (h.len.trans hr.length.symm);refine aj (arm_assign_Tuple ..) ?_;refine ag (iH ?_);unfold unpack;refine aj (hn ..) ?_;refine aj (o7 h.plain ..) ?_;refine ag (bE ?_);refine aj (eK ..) ?_;exact dN hA.hh (⟨_,r.zin _ _ e1,rfl,n,rfl⟩:s.heap.IsList a vs) λh' hx=>h.c hA (r.keep (tk:=s.toks) λb o e=>hx b o (c8 (bN e)) e) hr q⟩
theorem El(hj:ns[j]? =ae x)(Br:∀m,m < j->ns[m]? ≠ae x):Fn k mu (.builtin "tuple.index") [bZ (.tup (ns.map .str)),bZ (.str x)] (bZ (.int j)):=⟨λ{A E Z s fr vs Q} hA r hq q=>by
 refine cC (hq.two) λv u eU q1 q2=>?_;subst eU;refine dK (aZ.tup_inv q1) λa o ws n gi e1 hc hd hr=>?_;subst gi;refine cJ (gV q2) λnx iC=>?_;subst iC;have hlen:ws.size=ns.length:=by (refine fZ (b9 hr ..) ?_;refine aj (ak ..) ?_;rfl)
 have hjl:=(aB.mp hj).1;have key:∀(m:Nat) (hm:m < ws.size),isStrOf x ws[m]=decide (ns[m]? =ae x):=by intro m hm;refine aK (hr.get' (bV.trans (dY hm))) λy h4 h5=>?_;rw [aI] at h4;refine aK (aL.mp h4) λc h6 kG=>?_;subst kG;refine cJ (gV h5) λtk h7=>?_;refine aj (h7 ..) ?_;refine aj (h6 ..) ?_;simp [isStrOf];refine gj (cm ..) ?_;simp
 have hi:=tF hr;exact l6 Nl (⟨_,r.zin _ _ e1,hc⟩:s.TypeIs (.ref a) "tuple") PySem.F.entry_tuple_index (PySem.F.args_tuple_index_2 _ _) (Ek a o hc ws n hd (.str x nx) (isStrOf x) (λy hy=>eq_isStrOf x nx hi y (pF.mpr hy)) j (hlen▸hjl) (by (refine aj (key _ (hlen▸hjl) ..) ?_;refine aj (hj ..) ?_);exact decide_eq_true rfl) (λm hm h=>by refine aj (key ..) ?_;exact decide_eq_false (Br m h)))
  ⟨r.zin _ _ e1,q .rfl (aZ.int _ _) r.toks⟩⟩
end
section
variable {o i:bH}
theorem OW(ho:PE k mu env o (.list xs))(hi:WE k mu env i λy nu=>∃z,Gi k nu (me nu xs) (bZ y) (bZ z)/\Φ z nu)(hs:∀a b,∃ops,NI i aH a b=operate ops (Jw a b):=by intro a b;exact ⟨_,rfl⟩):
 WE k mu env (.Subscript o i p) Φ:=⟨λ{x x x x x x} hA r q=>Ko hs (ho.c hA r λ{x x x} z1 q1 r1=>hi.c hA r1 λz2 q2 r2 ⟨z,g,w⟩ T' t=>g.c hA r2 (BE (aZ.mono z2 q1)) q2 λ{x x x} z3 q3 r3=>t (q (z1.trans (z2.trans z3)) q3 r3 w))⟩
end
noncomputable def k7(c:Cs)(a:Nat):Cs:=if c.any (λp=>p.1=a) then c.map (λp=>if p.1=a then (p.1,p.2+1) else p) else c++[(a,1)]
noncomputable abbrev Em(low:Nat)(c:Cs):List (bb×Int):=c.map λq=>(cB (low+q.1),q.2)
theorem Ce(low:Nat)(c:Cs):FR low c=cV (Em low c):=by delta FR cV Em;refine aj (a0 ..) ?_;rfl
theorem wR{low a b:Nat}(hl:low < 28)(ha:a < 6)(hb:b < 6):(cB (low+a)=cB (low+b))↔a=b:=⟨λh=>by have:=qA (low+a) (by lia) (low+b) (by lia) h;lia,λh=>by (refine aj (h ..) ?_;rfl)⟩
theorem IX{low a:Nat}{c:Cs}(hl:low < 28)(ha:a < 6)(hc:∀q∈c,q.1 < 6):oM (Em low c) [(cB (low+a),1)]=Em low (k7 c a):=by
 show uN (Em low c) (cB (low+a),1)=_;delta uN k7;have e:(Em low c).any (λp=>p.1=cB (low+a))=c.any (λp=>p.1=a):=by
  delta Em;refine aj (CE ..) ?_;induction c with
  |nil=>rfl
  |cons q c ih=>refine aj (zF ..) ?_;refine aj (zF ..) ?_;refine aj (ih λq hq=>hc q (ab _ hq) ..) ?_;congr 1;show decide (cB (low+q.1)=cB (low+a))=_;exact gj (decide_eq_decide ..) (wR hl (hc q aa) ha)
 refine aj (e ..) ?_
 split
 ·delta Em;refine aj (a0 ..) ?_;refine aj (a0 ..) ?_;apply b5;intro q hq;show (if cB (low+q.1)=cB (low+a) then (cB (low+q.1),q.2+1) else (cB (low+q.1),q.2))=(cB (low+(if q.1=a then (q.1,q.2+1) else q).1),(if q.1=a then (q.1,q.2+1) else q).2);by_cases h:q.1=a
  ·(refine aj (if_pos ((wR hl (hc q hq) ha).mpr h) ..) ?_;refine aj (if_pos h ..) ?_;rfl)
  ·(refine aj (if_neg (λe=>h ((wR hl (hc q hq) ha).mp e)) ..) ?_;refine aj (if_neg h ..) ?_;rfl)
 ·delta Em;refine aj (bj ..) ?_;rfl
theorem oV(c:Cs)(a:Nat):(k7 c a).map (·.1)=if a∈c.map (·.1) then c.map (·.1) else c.map (·.1)++[a]:=by
 delta k7;have e:c.any (λp=>p.1=a)=decide (a∈c.map (·.1)):=by
  refine gj (cm ..) ?_;refine gj (cS ..) ?_;refine aj (decide_eq_true_eq ..) ?_;constructor
  ·intro dO;refine aK dO λq hq h=>?_;clear dO;exact aG.mpr ⟨q,hq,by simpa using h⟩
  ·intro h;exact aK (aG.mp h) λq hq h=>⟨q,hq,by simpa using h⟩
 refine aj (e ..) ?_;by_cases h:a∈c.map (·.1)
 ·(refine aj (decide_eq_true h ..) ?_;refine aj (if_pos rfl ..) ?_;refine aj (if_pos h ..) ?_;refine aj (a0 ..) ?_)
  apply b5;intro q z;show (if q.1=a then (q.1,q.2+1) else q).1=q.1
  split <;> rfl
 ·(refine aj (decide_eq_false h ..) ?_;refine aj (if_neg (by decide) ..) ?_;refine aj (if_neg h ..) ?_;refine aj (bj ..) ?_);rfl
noncomputable def kl(B:Rw)(pl:Nat)(q:Nat×Nat):Rw where
 a:=λb=>if b=q.2 then (if q.1=q.2 then 0 else 1)+B.a b else B.a b
 b:=λb=>if b=q.2 then 1+B.b b else B.b b
 c:=λb=>if b=q.2 then (pl:Int)+B.c b else B.c b
 d:=λb=>if b=q.2 then (pl:Int)*pl+B.d b else B.d b
 cs:=λb=>if b=q.2 then k7 (B.cs b) q.1 else B.cs b
noncomputable def B0:Rw:=⟨λz=>0,λz=>0,λz=>0,λz=>0,λz=>[]⟩
noncomputable def fG(B:Rw)(i:Nat)(l:List (Nat×Nat)):Rw:=(l.zipIdx i).foldl (λB q=>kl B q.2 q.1) B
structure E9(B:Rw)(n:Nat):Prop where
 lt:∀b,∀c∈B.cs b,c.1 < 6
 nd:∀b,((B.cs b).map (·.1)).Nodup
 len:∀b,(B.cs b).length<=n
theorem E9.zero:E9 B0 0:=⟨λz z h=>(eo h),λz=>kQ,λz=>bp _⟩
set_option tactic.hygienic true in
theorem E9.step{B:Rw}{n pl:Nat}{q:Nat×Nat}(h:E9 B n)(hq:q.1 < 6):E9 (kl B pl q) (n+1):=by
 refine ⟨λb c hc=>?_,λb=>?_,λb=>?_⟩
 ·unfold kl at hc;simp only at hc
  split at hc
  ·have:c.1∈(k7 (B.cs b) q.1).map (·.1):=gS hc;rw [oV] at this;have old:∀x∈(B.cs b).map (·.1),x < 6:=λx hx=>by
    refine aK (aG.mp hx) λy hy eU=>?_;subst eU;exact h.lt b y hy
   split at this
   ·exact old _ this
   ·rcases bc.mp this with h'|h'
    ·exact old _ h'
    ·refine aj (aA.mp h' ..) ?_;exact hq
  ·exact h.lt b c hc
 ·delta kl;simp only
  split
  ·refine aj (oV ..) ?_
   split
   ·exact h.nd b
   ·rename_i hn;exact gj (bP ..) (⟨h.nd b,by simp,λx hx y hy=>by refine aj (aA.mp hy ..) ?_;exact λe=>hn (e▸hx)⟩)
  ·exact h.nd b
 ·delta kl;simp only
  split
  ·have:=congrArg kM (oV (B.cs b) q.1);rw [ak] at this;refine aj (this ..) ?_;have:=h.len b
   split
   ·refine aj (ak ..) ?_;exact Nat.le_succ_of_le (by assumption)
   ·(refine aj (ba ..) ?_;refine aj (ak ..) ?_);simp;with_reducible assumption
  ·have:=h.len b;exact Nat.le_succ_of_le (by assumption)
theorem L9{low:Nat}{l:List Nat}{f g:Nat->V}(h:∀b∈l,f b=g b):bD low l f=bD low l g:=by delta bD;exact b5 λb hb=>by (refine aj (h b hb ..) ?_;rfl)
set_option tactic.hygienic true in
theorem En{low:Nat}{B:Rw}{pl:Nat}{q:Nat×Nat}(hl:low < 28)(hj:q.2∈[1,2,3,4,5]):jF (fT low B) (cB (low+q.2)) (ro low (kl B pl q) q.2)=fT low (kl B pl q):=by
 delta fT;refine aj (FQ hl (by decide) hj ..) (L9 λb hb=>?_)
 split
 ·rename_i h;(refine aj (h ..) ?_;rfl)
 ·rename_i h;simp only [ro,kl,if_neg h]
theorem kF(B:Rw)(i:Nat)(l:List (Nat×Nat))(q:Nat×Nat):fG B i (l++[q])=kl (fG B i l) (i+l.length) q:=by delta fG;refine aj (List.zipIdx_append ..) ?_;refine aj (fu ..) ?_;rfl
noncomputable abbrev Qt(ds:List Nat)(ns:List Int)(n6:Nat)(A Du Oc Sg lx Bk:ay):List (Nat×V):=(41,.ref Bk)::S12 ds ns n6 A Du Oc Sg lx
noncomputable abbrev pj(P:ib)(N:Int)(cs:List Nat)(A:ay)(arms:List (Nat×Nat))(ds:List Nat)(Du:ay)(mu:Mu):Mu:=j6 P [] N cs++(bl A (arms.map kH)::bl Du ([10,14].map (uW ds))::gG 304 []::mu)
theorem R5(H:Hy G){pm doc:ai}(he:du (bT pm doc L)){P:ib}{N:Int}{cs:List Nat}(hS:Sv vs (S12 ds ns n6 A Du Oc Sg P.lx))
 (next:∀vs Bk,Sv vs (Qt ds ns n6 A Du Oc Sg P.lx Bk)->WS (k+8) (cw L vs::cD Bk (fT (aF ds) B0)::pj P N cs A (dm ds) ds Du mu) (bT pm doc L) (mw 14) Θ):
 WS (k+8) (cw L vs::pj P N cs A (dm ds) ds Du mu) (bT pm doc L) (mw 13) Θ:=by
 have d7:=eI ds;refine aC (b4 (yA H.B [1,2,3,4,5] (λb=> .str (cB (aF ds+b))) (λb=>(cB (aF ds+b),ro (aF ds) B0 b)) ⟨rfl,rfl,by decide+kernel,by decide+kernel⟩ (dA (bM (bF (dD (ah (j:=7) he (.cell (L+6) "names") aa (hS.get rfl))) (jo (eQ aU) dM dM) (pd (by decide) (by show 6<=2 ^ 23;decide))) ?_)) (by lia) (by decide) (λC5 a ha=>BO 1 he.comp .loc dk (λhb=>(ah (j:=1) he.comp .loc aa rfl)) (λhb=>f9 (xs:=[.int 0,.int 0,.int 0,.int 0,.dict []]) (au aU (au aU (au aU (au aU (au (ah (j:=22) he.comp (.cell (L+12) "none") (ab _ aa) (hS.get rfl)) aT))))) (by show 5<=2 ^ 20;decide))) (jx d7 [1,2,3,4,5] (by decide) (by decide)) (λD=>fL.ref (aQ (i:=1) (j:=41) he (.cell (L+15) "book") rfl ?_))) rfl rfl)
 ·(refine aj (jr ..) ?_;refine aj (show jq (aN 6) (ae 1) av av=[1,2,3,4,5] from by decide+kernel) ?_;rfl)
 ·exact WF.to [1] (next _ D (hS.set (j:=41)))
section
variable {Bk:ay}
theorem Eo{x:bb}{ts:List bb}{j:Nat}(hm:yJ Sg (ts.map .str)∈mu)(hj:ts[j]? =ae x)(Br:∀m,m < j->ts[m]? ≠ae x):Fn k mu (.builtin "tuple.index") [bZ (.ref Sg),bZ (.str x)] (bZ (.int j)):=⟨λ{A E Z s fr vs Q} hA r hq q=>by
 refine cC (hq.two) λv u dO q1 q2=>?_;subst dO;refine aj (aZ.refE q1 ..) (g6 (r.sat _ (aE fr hm)) λo vs n h1 h2 h3 z h5=>?_);exact (El (k:=k) (mu:=mu) hj Br).c hA r (.cons (aZ.tup h1 h2 h3 h5) (.cons q2 .nil)) q⟩
theorem yM(n:Int)(fp:V)(pb:ay):("get_token":bb)∉(th n fp pb).map (·.1):=by show ("get_token":bb)∉(["lineno","instream","whitespace","pushback"]:List bb);decide
theorem Ep{b:Nat}(hb:b < 6):xG[b]? =ae (xG.getD b "")/\∀m,m < b->xG[m]? ≠ae (xG.getD b ""):=by
 have:∀b,b < 6->xG[b]? =ae (xG.getD b "")/\∀m,m < b->xG[m]? ≠ae (xG.getD b ""):=by decide
 exact this b hb
theorem Ma{low b:Nat}(hb:b < 6):((aN 6).map λb=>V.str (cB (low+b)))[b]? =ae (V.str (cB (low+b))):=by (refine aj (aI ..) ?_;refine aj (bA hb ..) ?_);rfl
theorem nme{low a b:Nat}(hl:low < 28)(ha:a < 6)(hb:b < 6):(if (cB (low+a) != cB (low+b))=aJ then (1:Int) else 0)=if a=b then 0 else 1:=by
 by_cases h:a=b
 ·subst h;simp
 ·have:cB (low+a)≠cB (low+b):=λe=>h ((wR hl ha hb).mp e);refine aj (if_neg h ..) ?_;refine aj (if_pos (by simpa using this) ..) ?_;rfl
theorem Er{low:Nat}(hl:low < 28){c:Cs}(h6:∀q∈c,q.1 < 6)(hn:(c.map (·.1)).Nodup):((Em low c).map (·.1)).Nodup:=by have:=jx hl (c.map (·.1)) (λb hb=>by obtain ⟨q,hq,rfl⟩:=aG.mp hb;exact h6 q hq) hn;rw [a0] at this;delta Em;exact aj (a0 ..) (this)
theorem A6(H:Hy G){low:Nat}{B:Rw}{n pl:Nat}{q:Nat×Nat}(hl:low < 28)(hB:E9 B n)(hn:n<=100)(h1:q.1 < 6):FW (k+3) mu (.ref 256) [ro low B q.2,.tup [.int (if q.1=q.2 then 0 else 1),.int 1,.int pl,.int ((pl:Int)*pl),cV [(cB (low+q.1),1)]]] λy nu=>y=ro low (kl B pl q) q.2/\nu=mu:=by
 have h:=Oi (k:=k) (mu:=mu) (a:=B.a q.2) (b:=B.b q.2) (c:=B.c q.2) (d:=B.d q.2) (a':=if q.1=q.2 then 0 else 1) (b':=1) (c':=pl) (d':=(pl:Int)*pl) (q:=Em low (B.cs q.2)) (q':=[(cB (low+q.1),1)]) H (Er hl (hB.lt q.2) (hB.nd q.2)) (by refine aj (ak ..) ?_;have:=hB.len q.2;lia) (by show 1<=1000;decide);rw [IX hl h1 (hB.lt q.2)] at h;refine aj (show ro low B q.2=Ql (B.a q.2) (B.b q.2) (B.c q.2) (B.d q.2) (Em low (B.cs q.2)) by delta ro Ql;rw [Ce]) ?_;refine h.mono λy nu ⟨e1,e2⟩=>⟨e1.trans ?_,e2⟩
 simp only [ro,Ql,kl,if_pos,Ce]
def tT.S0(k:Nat)(mu:Mu)(L A Du Oc Bk Sg:ay)(ds:List Nat)(ns:List Int)(n6:Nat)(pm doc:ai)(P:ib)(N:Int)(_:Nat):Prop:=∀{vs:d9} {Θ:AF->Mu->Prop} {K:fl} {cs:List Nat} (H:Hy G) (LH:fM G K) (BH:yw K) (he:du (bT pm doc L)) (PO:mU P) (hS:Sv vs (Qt ds ns n6 A Du Oc Sg P.lx Bk)) (hR:ph ds n6 0 cs) (hK:yJ Sg (xG.map .str)∈mu) (next:∀vs cs,Sv vs (Qt ds ns n6 A Du Oc Sg P.lx Bk)->ph ds n6 16 cs->E9 (fG B0 0 (dm ds)) 8->WS (k+8) (cw L vs::cD Bk (fT (aF ds) (fG B0 0 (dm ds)))::pj P N cs A (dm ds) ds Du mu) (bT pm doc L) (mw 15) Θ),WS (k+8) (cw L vs::cD Bk (fT (aF ds) B0)::pj P N cs A (dm ds) ds Du mu) (bT pm doc L) (mw 14) Θ
namespace tT
@[irreducible] def e0:=Fm eO gD cL cL cL cL cL cL gD gD eO gL gL IP Q0 eO S0
def k_:=e0.1
def fb:=e0.2.1
def L_:=e0.2.2.1
def A_:=e0.2.2.2.1
def JN:=e0.2.2.2.2.1
def R3:=e0.2.2.2.2.2.1
def we:=e0.2.2.2.2.2.2.1
def Sg_:=e0.2.2.2.2.2.2.2.1
def aV:=e0.2.2.2.2.2.2.2.2.1
def Ht:=e0.2.2.2.2.2.2.2.2.2.1
def gO:=e0.2.2.2.2.2.2.2.2.2.2.1
def pg:=e0.2.2.2.2.2.2.2.2.2.2.2.1
def g8:=e0.2.2.2.2.2.2.2.2.2.2.2.2.1
def P_:=e0.2.2.2.2.2.2.2.2.2.2.2.2.2.1
def N_:=e0.2.2.2.2.2.2.2.2.2.2.2.2.2.2.1
theorem T0:S0 k_ fb L_ A_ JN R3 we Sg_ aV Ht gO pg g8 P_ N_ e0.2.2.2.2.2.2.2.2.2.2.2.2.2.2.2:=by
 intro vs Θ K cs H LH BH he PO hS hR hK next
 have d7:=eI aV;have hKm:∀{cs} (a b c d:cX),yJ Sg_ (xG.map .str)∈a::b::c::d::pj P_ N_ cs A_ (dm aV) aV JN fb:=λ{z} a b c d=> .tail _ (.tail _ (.tail _ (.tail _ (bL _ (.tail _ (.tail _ (.tail _ hK)))))));refine aC (jO (ctx:=[]) (xs:=(aN 8).map nV) (λi nu=>∃vs cs,nu=cw L_ vs::cD we (fT (aF aV) (fG B0 0 ((dm aV).take i)))::pj P_ N_ cs A_ (dm aV) aV JN fb/\Sv vs (Qt aV Ht gO A_ JN R3 Sg_ P_.lx we)/\ph aV gO (2*i) cs/\E9 (fG B0 0 ((dm aV).take i)) i)
  (fK (n:=8) (iN H he H.b_range rfl) aU rfl (by decide)) (by lia) ⟨vs,cs,rfl,hS,hR,E9.zero⟩ (λi nu h o ho=>(eo ho)) ?_ ?_)
 ·intro i x nu hx eU;refine ir eU λvs cs gi hS hR hB=>?_;clear eU;subst gi;rw [aI] at hx;refine aK (aL.mp hx) λi' hi' iC=>?_;subst iC;have hi8:i < 8:=by have:=(aB.mp hi').1;exact this
  have:i'=i:=by rw [bA hi8] at hi';exact (aO hi').symm
  subst this;refine aQ (i:=0) (j:=1) he .loc rfl ?_;have hS1:=hS.set (j:=1) (y:=nV i');obtain ⟨q,hq⟩:∃q,(dm aV)[i']? =ae q:=⟨_,bJ (show i' < (dm aV).length from hi8)⟩;have hqD:(dm aV).getD i' (0,0)=q:=by (refine aj (bR ..) ?_;refine aj (hq ..) ?_);rfl
  have Jm:=kf aV q (ao hq);have hw:=OS (ds:=aV) (n6:=gO) hi8;rw [hqD] at hw;refine cq (LH.f207.go) λob z z z PQ SW z=>cq (H.f256.go) λob2 z z z Uh GI z=>?_
  let qn:Nat->Nat:=λm=>if m=0 then q.1 else q.2
  refine aC (b4 (Lh (ctx:=[]) (xs:=(aN 2).map nV) (λm ys nu=>m<=2/\∃cs,nu=cw L_ (vs.set 1 (ae (nV i')))::cD we (fT (aF aV) (fG B0 0 ((dm aV).take i')))::pj P_ N_ cs A_ (dm aV) aV JN fb/\ph aV gO (2*i'+m) cs/\ys=(aN m).map λm=>V.str (cB (aF aV+qn m)))
   ⟨rfl,rfl,by decide+kernel,by decide+kernel⟩ (fK (n:=2) (iN H he H.b_range rfl) aU rfl (by decide)) (by lia) (by decide) ⟨gp _,cs,rfl,hR,rfl⟩ (λz z z z o ho=>eo ho) (λm ys nu ⟨_,_,_,_,e⟩=>by refine aj (e ..) ?_;simp) (λC D m x ys nu hx hJ=>?_) (λD ys nu hJ=>?_)) rfl rfl)
  ·refine qo hJ λz cs kG hR ma=>?_;clear hJ;subst kG;subst ma;have hm2:m < 2:=by have:=(aB.mp hx).1;exact this
   refine ⟨_,qx (j:=1) he.comp .loc,?_⟩;have hwm:(d8 aV gO)[2*i'+m]? =ae (xG.getD (qn m) ""):=by
    rcases (by lia:m=0\/m=1) with rfl|rfl
    ·exact hw.1
    ·exact hw.2
   have hqm:qn m < 6:=by
    rcases (by lia:m=0\/m=1) with rfl|rfl
    ·exact Jm.1
    ·exact Jm.2.2
   refine aK (hR.tok hwm) λcs' ht S6=>OW (xs:=(aN 6).map λb=>V.str (cB (aF aV+b))) (ah (j:=7) he.comp (.cell (L_+6) "names") (ab _ (ab _ aa)) (hS1.get rfl)) (DW (ah (j:=18) he.comp (.cell (L_+10) "signs") (ab _ (ab _ aa)) (hS1.get rfl)) (ty_tk (hKm _ _ _ _)) (cA (pO LH.KO LH.m_get (ah (j:=21) he.comp (.cell (L_+11) "lexer") (ab _ (ab _ aa)) (hS1.get rfl)) (ao (i:=5) rfl) (yM _ _ _) PQ SW (FW.mono (FW.cons _ (FW.cons _ (FW.cons _ (FW.cons _ (FW.app _ (xF (k:=k_+3) H LH BH PO ht hR.len)))))) λy nu hy=>?_))) PySem.F.plainAttrs_tuple Nl PySem.F.type_tuple_index rfl);obtain ⟨_,e1,_,e2,_,e3,_,e4,_,e5,ey,e6⟩:=hy;subst e6 e5 e4 e3 e2 e1 ey;refine e9 ⟨[bZ (.str (xG.getD (qn m) ""))],.int (qn m:Nat),λZ vs hv=>?_,Eo (hKm _ _ _ _) (Ep hqm).1 (Ep hqm).2,V.str (cB (aF aV+qn m)),Rl (by delta j9;(refine aj (if_neg (by lia) ..) ?_;refine aj (b8 ..) ?_);exact Ma hqm) (by show -(6:Int)<=_;lia) (by lia) (by show 6 < 2 ^ 62;decide),_,rfl,by lia,cs',rfl,S6,?_⟩
   ·cases hv with
    |cons a b=>cases b;exact .cons a .nil
   ·(refine aj (qe ..) ?_;refine aj (bj ..) ?_);rfl
  ·refine qo hJ λz cs mE hR qY=>?_;clear hJ;subst mE;subst qY;refine fL.list (Ge (cv rfl rfl (aQ (i:=0) (j:=24) he .loc rfl (cv rfl rfl (aQ (i:=0) (j:=25) he .loc rfl (iX ?_))))));have hS2:=(hS1.set (j:=24) (y:= .str (cB (aF aV+q.1)))).set (j:=25) (y:= .str (cB (aF aV+q.2)));have hq5:q.2∈[1,2,3,4,5]:=by
    have h1:=Jm.2.1;have h2:=Jm.2.2;rcases (by lia:q.2=1\/q.2=2\/q.2=3\/q.2=4\/q.2=5) with h|h|h|h|h <;> refine aj (h ..) ?_ <;> decide
   refine aC (qz (i:=1) (D:=we) (x:=cB (aF aV+q.2)) (y:=ro (aF aV) (kl (fG B0 0 ((dm aV).take i')) i' q) q.2) (ju (ys:=[ro (aF aV) (fG B0 0 ((dm aV).take i')) q.2,.tup [.int (if q.1=q.2 then 0 else 1),.int 1,.int i',.int ((i':Int)*i'),cV [(cB (aF aV+q.1),1)]]]) (mn H he H.m_stats rfl) Uh GI (au (bF (wF (ah (j:=41) he (.cell (L_+15) "book") aa (hS2.get rfl)) (ab _ aa)) (ah (j:=25) he .loc aa (hS2.get rfl)) (mh (gb d7 (by decide) hq5))) (au (f9 (xs:=[.int (if q.1=q.2 then 0 else 1),.int 1,.int i',.int ((i':Int)*i'),cV [(cB (aF aV+q.1),1)]]) (au (bM (iZ (iN H he H.b_int rfl) (au (mI (ah (j:=24) he .loc aa (hS2.get rfl)) (ah (j:=25) he .loc aa (hS2.get rfl)) tx) aT) rF) (congrArg V.int (nme d7 Jm.1 Jm.2.2))) (au aU (au (ah (j:=1) he .loc aa (hS2.get rfl)) (au (br (ah (j:=1) he .loc aa (hS2.get rfl)) (ah (j:=1) he .loc aa (hS2.get rfl)) (mX (by lia))) (au (bF (pK (ah (j:=23) he .loc aa (hS2.get rfl))) (ah (j:=24) he .loc aa (hS2.get rfl)) (mh (gb d7 (by decide) (aY.mpr Jm.1)))) aT))))) (by show 5<=2 ^ 20;decide)) aT)) (FW.mono (A6 (k:=k_+5) H d7 hB (by exact aw (eB (by assumption)) (by decide)) Jm.1) λy nu h=>h)) (ah (j:=41) he (.cell (L_+15) "book") aa (hS2.get rfl)) (ah (j:=25) he .loc aa (hS2.get rfl)) rfl (by show 5<=2 ^ 24;decide) ?_);refine bC ⟨_,cs,?_,hS2.sub ⟨rfl,rfl,rfl,rfl,rfl,rfl,rfl,rfl,rfl,rfl,rfl,rfl,rfl,rfl,rfl,rfl,trivial⟩,?_,?_⟩
   ·(refine aj (lM hq ..) ?_;refine aj (kF ..) ?_;refine aj (dR ..) ?_;refine aj (Nat.min_eq_left (eB (show i' < (dm aV).length from hi8))) ?_;refine aj (eC ..) ?_)
    show _::cD we (jF (fT (aF aV) _) _ _)::_=_;refine aj (En d7 hq5 ..) ?_;rfl
   ·have e:2*i'+((aN 2).map nV).length=2*(i'+1):=by simp;lia
    refine fZ (e ..) ?_;exact hR
   ·(refine aj (lM hq ..) ?_;refine aj (kF ..) ?_)
    exact hB.step Jm.1
 ·intro nu uc;refine ir uc λvs cs mO hS hR hB=>?_;clear uc;subst mO;refine bC (next vs cs hS hR ?_);exact hB
end tT
theorem tT{pm doc:ai}{P:ib}{N:Int}:tT.S0 k mu L A Du Oc Bk Sg ds ns n6 pm doc P N 0:=by with_unfolding_all exact Aq _ _ _ _ _ _ _ _ _ _ _ _ _ _ _ _ tT.S0 @tT.T0 k mu L A Du Oc Bk Sg ds ns n6 pm doc P N 0
end
theorem A7:∀(l1 l2:List ed) (env:gP),Jr (l1++l2) env=(Jr l1 env >>=λf=>match f with
 | .next=>Jr l2 env
 |f=>dg f)
 |[],l2,env=>by
  show Jr l2 env=((dg Flow.next:oZ uh) >>=_);rw [pure_bind]
 |st::l1,l2,env=>by
  rw [fU,execs_cons,execs_cons,bind_assoc];congr 1;funext f;cases f with
  |next=>exact A7 l1 l2 env
  |_=>exact (pure_bind ..).symm
theorem OX{l1 l2:List ed}(h:WS k mu env l1 (K1 k env l2 Θ)):yj k mu env (l1++l2) Θ:=⟨λ{A E Z s fr outer Q} hA hf iD r q=>by
 rw [A7];refine ag (h.c hA r λ{f s1 Z1 a nu} z1 f1 r1 w=>?_)
 revert w
 exact o5.by f1 (λw=>Wf.c (show yj k nu env l2 Θ from w) hA hf iD r1 λ{z z z z z} z2=>q (z1.trans z2)) (λw=>ar (q z1 .brk r1 w)) (λw=>ar (q z1 .cont r1 w)) λv x hv w=>ar (q z1 (.ret hv) r1 w)⟩
theorem IY:fR (cN 23)=mw 0++je 15:=(oo 15 _).symm
end
section
variable {ds:List Nat}{ns:List Int}{n6:Nat}
theorem Cf{a:Nat}{l:List Nat}{xs:List Int}:∃w:Int,iA n6 xs (a::l)=iA n6 (xs++gm a w) l:=⟨_,rfl⟩
theorem Mb{a b c d:Nat}{xs:List Int}:∃w1 w2 w3 w4:Int,iA n6 xs [a,b,c,d]=xs++(gm a w1++gm b w2++gm c w3++gm d w4):=by
 refine cJ (Cf (n6:=n6) (a:=a) (l:=[b,c,d]) (xs:=xs)) λw1 e1=>cJ (Cf (n6:=n6) (a:=b) (l:=[c,d]) (xs:=xs++gm a w1)) λw2 e2=>cJ (Cf (n6:=n6) (a:=c) (l:=[d]) (xs:=xs++gm a w1++gm b w2)) λw3 e3=>cJ (Cf (n6:=n6) (a:=d) (l:=[]) (xs:=xs++gm a w1++gm b w2++gm c w3)) λw4 e4=>⟨w1,w2,w3,w4,?_⟩
 rw [e1,e2,e3,e4];show xs++gm a w1++gm b w2++gm c w3++gm d w4=_;simp only [bU]
theorem yN{a b c d:Nat}{w1 w2 w3 w4:Int}(ha:a < 4096)(hb:b < 4096)(hc:c < 4096)(hd:d < 4096)(rs:List Nat):
 yl ((gm a w1++gm b w2++gm c w3++gm d w4).map ur++rs)=ae ((a,b,c,d),rs):=by
 simp only [bj,bU];delta yl;exact dq.mpr ⟨_,sE ha _,dq.mpr ⟨_,sE hb _,dq.mpr ⟨_,sE hc _,dq.mpr ⟨_,sE hd _,rfl⟩⟩⟩⟩
noncomputable def Qu(ds:List Nat)(p:Nat):Nat×Nat×Nat×Nat:=(cc ds (sP ds p),cc ds (eP ds p) - cc ds (sP ds p),cc ds (tP ds p),lP ds p)
def lN.S0(ds:List Nat)(n6:Nat):Prop:=∀{ns:List Int} (h:Dr ds ns n6),DX ((tQ ds n6).map ur) [Qu ds 10,Qu ds 14]
namespace lN
@[irreducible] def e0:=P8 gD eO S0
def aV:=e0.1
def gO:=e0.2
theorem T0:S0 aV gO:=by
 intro ns h;have hb:∀b,b<=6->cc aV b < 4096:=λb hb=>by have:=Ea h b hb;exact b7 (by assumption) (by decide)
 have hl:∀p,lP aV p < 4096:=λp=>by have:=h.dlt (p+3);delta lP;exact cb (by assumption) (by decide)
 obtain ⟨w1,w2,w3,w4,e1⟩:=Mb (n6:=gO) (a:=cc aV (sP aV 10)) (b:=cc aV (eP aV 10) - cc aV (sP aV 10)) (c:=cc aV (tP aV 10)) (d:=lP aV 10) (xs:=[]);obtain ⟨w1',w2',w3',w4',e2⟩:=Mb (n6:=gO) (a:=cc aV (sP aV 14)) (b:=cc aV (eP aV 14) - cc aV (sP aV 14)) (c:=cc aV (tP aV 14)) (d:=lP aV 14) (xs:=iA gO [] (jy aV 10));have e:eR aV gO [10,14]=(gm (cc aV (sP aV 10)) w1++gm (cc aV (eP aV 10) - cc aV (sP aV 10):Nat) w2++gm (cc aV (tP aV 10)) w3++gm (lP aV 10) w4)++(gm (cc aV (sP aV 14)) w1'++gm (cc aV (eP aV 14) - cc aV (sP aV 14):Nat) w2'++gm (cc aV (tP aV 14)) w3'++gm (lP aV 14) w4'):=by show iA gO (iA gO [] (jy aV 10)) (jy aV 14)=_;rw [show iA gO (iA gO [] (jy aV 10)) (jy aV 14)=_ from e2,show iA gO [] (jy aV 10)=_ from e1,qg]
 have h6:∀p,sP aV p<=6:=λp=>eB (Hu p);have t6:∀p,tP aV p<=6:=λp=>eB (Hv p).2;have k1:∀p,cc aV (eP aV p) - cc aV (sP aV p) < 4096:=λp=>by have:=hb _ (LQ (ds:=aV) p).2;lia
 have sm:∀{n},n < 4096->n < 2 ^ 60:=λ{z} h=>by exact cb (by assumption) (by decide)
 delta tQ;generalize ht:(eR aV gO [10,14]).take (gO % 4)=tail;have htl:tail.length<=3:=by rw [<- ht,dR];have:=ef gO (show 0 < 4 by decide);lia
 rw [e,bU,bj];refine .more (yN (hb _ (h6 10)) (k1 10) (hb _ (t6 10)) (hl 10) _) (sm (hb _ (h6 10))) (sm (k1 10)) (sm (hb _ (t6 10))) (sm (hl 10)) ?_;rw [bj];exact .more (yN (hb _ (h6 14)) (k1 14) (hb _ (t6 14)) (hl 14) _) (sm (hb _ (h6 14))) (sm (k1 14)) (sm (hb _ (t6 14))) (sm (hl 14)) (.stop (DP (by rw [ak];exact Nat.lt_succ_of_le (by assumption))) (by rw [ak];exact aw (by assumption) (by decide)))
end lN
theorem lN:lN.S0 ds n6:=by with_unfolding_all exact Fk _ _ lN.S0 @lN.T0 ds n6
theorem Cg:(JH (ti (qK ds n6))).toList.map pJ=(tQ ds n6).map ur:=by
 have hlt:∀c∈(tQ ds n6).map ur,c < 256:=λc hc=>by
  refine aK (aG.mp hc) λo ho dO=>?_;subst dO;have:=uX o ho;lia
 delta JH ti;rw [tR];generalize (tQ ds n6).map ur=l at hlt;simp only [a0];refine (b5 λc hc=>?_).trans (xw l);show ((fB c).toNat.toUInt8).toNat=c;show c % 256=c;exact Nat.mod_eq_of_lt (hlt c hc)
variable {k:Nat}{mu nu:Mu}{env:gP}{p pos:jB}{Θ:AF->Mu->Prop}{L C:ay}{K:fl}
section
variable {ctx:Mu}{p2:jB}{vs bz:d9}{S:List (Nat×V)}{Φ:V->Mu->Prop}{Ψ:AF->Mu->Prop}{D A Du Oc Bk Sg:ay}
theorem Wf.drop1{t:oZ uh}{a:cX}(h:Wf k nu env t Θ):Wf k (a::nu) env t Θ:=⟨λ{A E Z s fr outer Q} hA hf iD r=>h.c hA hf iD (r.sublist (.cons _ (sO _)))⟩
theorem Wf.to{t:oZ uh}(js:List Nat)(h:Wf k (qL js nu) env t Θ):Wf k nu env t Θ:=⟨λ{A E Z s fr outer Q} hA hf iD r=>h.c hA hf iD (r.perm ((nf js nu).append_right fr))⟩
theorem JM.mono{f:ai}{xs:List V}{Φ':V->Mu->Prop}(h:JM k mu f xs Φ)(hi:∀y nu,Φ y nu->Φ' y nu):JM k mu f xs Φ':=⟨λ{x x x x x x x x} hA hf iD r hv q=>h.c hA hf iD r hv λ{x x x x x} z w r u=>q z w r (hi _ _ u)⟩
noncomputable def Mc(ds:List Nat):V:= .list ([Qu ds 10,Qu ds 14].map DY)
noncomputable abbrev S15(ds:List Nat)(ns:List Int)(n6:Nat)(A Du Oc Sg lx Bk:ay):List (Nat×V):=(26,Mc ds)::Qt ds ns n6 A Du Oc Sg lx Bk
theorem Ci(x:bb):IQ x.cps.toList= .str x:=by
 cases x with
 |mk c=>cases c;rfl
def tU.S0(k:Nat)(mu:Mu)(vs:d9)(Θ:AF->Mu->Prop)(L A Du Bk:ay)(ds:List Nat)(n6:Nat)(pm doc:ai)(P:ib)(N:Int)(cs:List Nat)(B:Rw):Prop:=∀{Oc Sg:ay} {ns:List Int} {K:fl} (H:Hy G) (LH:fM G K) (BH:yw K) (GH:Lm G) (EH:gN G K) (he:du (bT pm doc L)) (hk:vU (bT pm doc L)) (hD:Dr ds ns n6) (PO:mU P) (hS:Sv vs (Qt ds ns n6 A Du Oc Sg P.lx Bk)) (hR:ph ds n6 16 cs) (next:∀vs cs,Sv vs (S15 ds ns n6 A Du Oc Sg P.lx Bk)->ph ds n6 17 cs->yj (k+8) (cw L vs::cD Bk (fT (aF ds) B)::pj P N cs A (dm ds) ds Du mu) (bT pm doc L) (je 16) Θ),yj (k+8) (cw L vs::cD Bk (fT (aF ds) B)::pj P N cs A (dm ds) ds Du mu) (bT pm doc L) (je 15) Θ
namespace tU
@[irreducible] def e0:=Fm eO gD gD s7 cL cL cL cL gD eO gL gL IP Q0 gD RD S0
def k_:=e0.1
def fb:=e0.2.1
def kR:=e0.2.2.1
def Θ_:=e0.2.2.2.1
def L_:=e0.2.2.2.2.1
def A_:=e0.2.2.2.2.2.1
def JN:=e0.2.2.2.2.2.2.1
def we:=e0.2.2.2.2.2.2.2.1
def aV:=e0.2.2.2.2.2.2.2.2.1
def gO:=e0.2.2.2.2.2.2.2.2.2.1
def pg:=e0.2.2.2.2.2.2.2.2.2.2.1
def g8:=e0.2.2.2.2.2.2.2.2.2.2.2.1
def P_:=e0.2.2.2.2.2.2.2.2.2.2.2.2.1
def N_:=e0.2.2.2.2.2.2.2.2.2.2.2.2.2.1
def qM:=e0.2.2.2.2.2.2.2.2.2.2.2.2.2.2.1
def B_:=e0.2.2.2.2.2.2.2.2.2.2.2.2.2.2.2
theorem T0:S0 k_ fb kR Θ_ L_ A_ JN we aV gO pg g8 P_ N_ qM B_:=by
 intro Oc Sg ns K H LH BH GH EH he hk hD PO hS hR next
 refine aK (hR.tok OT) λcs' ht S6=>cq (LH.f207.go) λob z z z PQ SW z=>cE (GH.f275.go) λob2 z z g0 gd0 z=>cq (H.f179.go) λob3 z z z t0 td z=>nI (FX (AN hk (mn H he H.m_table rfl) t0 td (cA (ml (mn H he H.m_given rfl) g0 gd0 (cA (pO LH.KO LH.m_get (ah (j:=21) he (.cell (L_+11) "lexer") aa (hS.get rfl)) (ao (i:=3) rfl) (yM _ _ _) PQ SW (FW.mono (FW.cons _ (FW.cons _ (FW.app _ (xF (k:=k_+3) H LH BH PO ht hR.len)))) λy nu hq=>?_)))))) rfl rfl);obtain ⟨_,e1,_,e2,_,e3,ey,e4⟩:=hq;subst e4 e3 e2 e1 ey;rw [Ci];refine e9 (FW.mono (m8 (k:=k_+6) (i:=8) (text:=qK aV gO) (o:=ae (P_.a,P_.b)) H GH rfl AY (aw yH (by decide))) λy nu hq=>?_);obtain ⟨f,dx,lam,it,L1,gd,ld,a,b,e1,wY,hRd,e2⟩:=hq;cases wY _ rfl;subst e1 e2;refine e9 ⟨[_,_,_,_],_,ic _,⟨_,_,aa⟩,JM.mono (Hq (k:=k_+4) (qs:=[Qu aV 10,Qu aV 14]) H EH (.tail _ (.head _)) (by show (["read","co_exceptiontable"]:List bb).Nodup;decide) (.tail _ (.head _)) (by rw [Cg];exact lN hD) (by show 2<=2 ^ 20;decide)) λy nu hq=>?_⟩;refine dU hq λe1 e2=>?_;clear hq;subst e1 e2;refine ⟨_,ic _,aQ (i:=4) (j:=26) he .loc rfl ?_⟩;refine Wf.drop1 (Wf.drop1 (Wf.drop1 (Wf.drop1 (next _ cs' (hS.set (j:=26)) S6))))
end tU
theorem tU{pm doc:ai}{P:ib}{N:Int}{cs:List Nat}{B:Rw}:tU.S0 k mu vs Θ L A Du Bk ds n6 pm doc P N cs B:=by with_unfolding_all exact Aq _ _ _ _ _ _ _ _ _ _ _ _ _ _ _ _ tU.S0 @tU.T0 k mu vs Θ L A Du Bk ds n6 pm doc P N cs B
end
variable {A:bh}{prog:dJ}{w:ee}{E:ai->aq->Prop}{s:aq}{name:bb}{e:bH}{es:List bH}{xs:List V}{y:V}
section
open Builtin Builtin.ObjectAttr Builtin.Getset_descriptor Builtin.Tuple
section
variable {x:ay}{expr:Bool}{Q:ai->aq->Prop}
theorem IZ{M:xl}{h:dG}{a g:ai}(X:K.In h)(ha:fH K (.ref C) name=ae (ae a))(hg:Fd K a "__get__"=ae (ae g))(ht:Un K a=ae aJ):iL M h (find (.ref x) (.ref C) name) (.bind g a):=by have L1:=mS (M:=M) X ha;have L2:iL M h (getOf (ae a)) (ae g):=looks_specialIn X hg;have L3:=looks_takesIn (M:=M) X ht;exact L1.andThen (L2.andThen ((show iL M h (dataDescriptor? (ae a) (ae g)) (ae (g,a)) from L3.andThen .now).andThen (Looks.tag .now)))
theorem Md:xp table "tuple.__getattribute__"=ae Builtin.«object.__getattribute__»:=F.entry_tuple_ga
theorem OY:CM "tuple.__getattribute__"=ae .slot:=by kernel_rfl
theorem Me:QT "tuple.__getattribute__"=ae ("tuple","__getattribute__"):=by kernel_rfl
theorem ga_ne:(iG "tuple.__getattribute__" == iG "object.__getattribute__")=aH:=by decide+kernel
def lO.S0(prog:dJ)(w:ee)(A:bh)(E:ai->aq->Prop)(x C:ay)(name:bb)(Q:ai->aq->Prop):Prop:=∀{s:aq} {K:fl} {a g:ai} (X:K.In s.heap) (L0:∀M,iL M s.heap (jU (.ref x)) (.ref C)) (LT:iL (aX prog w) s.heap (uf (.ref x) (.type "tuple")) aJ) (hga:fH K (.ref C) "__getattribute__"=ae (ae (.builtin "tuple.__getattribute__"))) (ha:fH K (.ref C) name=ae (ae a)) (hg:Fd K a "__get__"=ae (ae g)) (ht:Un K a=ae aJ) (hk:fH K (.ref C) "__getattr__"=ae av) (h:∀E2,aS (aX prog w) A.in1 (ku g [a,.ref x,.ref C]) (λv s'=>aS (aX prog w) A (handedOut v) Q E s') E2 {s with toks:=s.toks+1}),aS (aX prog w) A (sZ (.ref x) name aJ) Q E s
namespace lO
@[irreducible] def e0:=Nr sV E6 Fq s7 cL cL inferInstance s7 S0
def cT:=e0.1
def w_:=e0.2.1
def A_:=e0.2.2.1
def E_:=e0.2.2.2.1
def x_:=e0.2.2.2.2.1
def C_:=e0.2.2.2.2.2.1
def iz:=e0.2.2.2.2.2.2.1
def Q_:=e0.2.2.2.2.2.2.2
theorem T0:S0 cT w_ A_ E_ x_ C_ iz Q_:=by intro s K a g X L0 LT hga ha hg ht hk h;obtain ⟨hh,gg,d,t,os⟩:=s;have L1:=mS (M:=aX cT w_) X hga;have L3:=mS (M:=aX cT w_) X hk;have L2:=IZ (M:=aX cT w_) (x:=x_) X ha hg ht;delta sZ getAttrBy;refine ag (JG (bE (ag ((L0 _).at (ag (L1.at ?_))))));show aS _ _ (if (onTheHeap (.ref C_) && (iG "tuple.__getattribute__" == iG "object.__getattribute__"))=aJ then _ else _) _ _ _;refine aj (ga_ne ..) ?_;refine aj (kN ..) ?_;refine aj (if_neg (by decide) ..) ?_;show aS _ _ (hookBefore (.ref C_) >>=_) _ _ _;delta hookBefore;refine aj (if_pos (by rfl) ..) (ag (L3.at (ag (kT (bE ?_)))));delta callGetattribute;refine aj (if_neg (by decide) ..) ?_;delta TA;refine aj (vf.bind (.ref x_) ..) (ag (ar ?_));refine eF (codeAny_call_builtin_at (rm vf.plain _) Md ?_);refine aj (gR vf.plain _ ..) (@rx (aX cT w_) _ _ ⟨hh,gg,d,t+1,os⟩ "tuple.__getattribute__" "tuple" "__getattribute__" (.ref x_) [.str iz t] [] _ OY Me LT (F.args_tuple_getattribute_2 _ _) ?_);unfold Builtin.«object.__getattribute__»;refine ag (cM (a:=(cY x_,[Value.str iz t])) (by rfl) ?_);dsimp only;refine ag (cM (a:=iz) (by rfl) ?_);refine ag ((L0 _).at (ag (L2.at ?_)));show aS _ _ (eW [a] (ku g [a,.ref x_,.ref C_]) >>=vh) _ _ _;refine ag (bE (eS (h _) (λv s' z=>ar ?_) λy y z=>z));exact z
end lO
theorem lO:lO.S0 prog w A E x C name Q:=by with_unfolding_all exact Bx _ _ _ _ _ _ _ _ lO.S0 @lO.T0 prog w A E x C name Q
end
section
variable {apos:jB}
theorem uY(l:ay)(o:oY)(items:Array ai)(n:Nat)(hd:o.data= .seq items n)(i:Nat)(u:HR)(y:ai)(hy:items[i]? =ae y)(hi:i < 2 ^ 62):
 Meets (Builtin.«tuple.__getitem__» ⟨[.ref l,.int i u],[]⟩) (λz R s=>s.heap.get? l=ae o/\R (.ok (.ret y)) s):=
 .of_wp λprog w A R s h=>by
  obtain ⟨hp,g,d,tk,os⟩:=s;obtain ⟨hl,h⟩:=h;have hlt:=(ru.mp hy).1;have hk:Nc (i:Int) items.size=ae i:=by unfold Nc;simp;lia
  unfold Builtin.«tuple.__getitem__»;refine ag (cM (a:=(cY l,[jT i u])) (by rfl) ?_);dsimp only;refine ag (wpAny_tupleItemsOf hl hd ?_);refine ag (cM (a:=lX "int") (by rfl) ?_);refine aj (if_neg (by decide) ..) (ag (h8 (typeIs_int _ _ _) F.slot_int_index.lookup ?_));refine aj (if_neg (by decide) ..) (ag (cM (a:=(i:Int)) (by rfl) ?_));refine aj (if_neg (by simp;lia) ..) ?_;refine aj (hk ..) ?_;refine aj (Option.bind_some ..) ?_;refine aj (hy ..) ?_;exact ar ⟨_,rfl,h⟩
theorem wg{Z:bI}{s:aq}(EH:gN G K){v:ai}(r:R Z mu s)(h:aZ G Z v (.ent xs)):∃a o vs n,v= .ref a/\s.heap.get? a=ae o/\o.cls= .ref 162/\o.data= .seq vs n/\bW G Z vs.toList xs:=
 (aZ.ent_inv h).imp λa=>bQ λo=>bQ λvs=>bQ λn w=>⟨w.1,r.zin _ _ w.2.1,by (refine aj (w.2.2.1 ..) ?_;refine aj (EH.ent ..) ?_;rfl),w.2.2.2⟩
theorem sH{M:xl}{h:dG}{a:ay}{o:oY}(he:h.get? a=ae o)(hc:o.cls= .ref 162):iL M h (jU (.ref a)) (.ref 162):=hc▸(sr he).andThen .now
theorem yO(EH:gN G K){h:dG}(X:K.In h){a:ay}{o:oY}(he:h.get? a=ae o)(hc:o.cls= .ref 162):iL (aX G.prog G.w) h (uf (.ref a) (.type "tuple")) aJ:=(sH he hc).andThen (fD X EH.subT)
theorem Gf(EH:gN G K):s8 k mu .Is (bZ (.ent xs)) (bZ .none) aH:=⟨λ{A E Z s fr v u T} hA r hp hq q=>by
 refine dK (wg EH r.left hp) λa o vs n dO h1 h2 h3 h4=>?_;subst dO;refine aj (aZ.noneE hq ..) ?_;exact is_none (q .rfl (.bool _) r)⟩
theorem Mf(EH:gN G K):Fn k mu (.type "type") [bZ (.ent xs)] (bZ (.ref 162)):=⟨λ{A E Z s fr vs Q} hA r hq q=>by
 refine aK (hq.one) λv eU q1=>?_;subst eU;refine dK (wg EH r.left q1) λa o vs n gi h1 h2 h3 h4=>?_;subst gi;refine PyProof.Rows.call_type_obj h1 (by refine aj (h2 ..) ?_;rfl) ?_;refine aj (h2 ..) ?_;exact q .rfl (aZ.ref _) r⟩
theorem I0(EH:gN G K):Fn k mu (.builtin "issubclass") [bZ (.ref 162),bZ (.type "tuple")] (bZ (.bool aJ)):=⟨λ{A E Z s fr vs Q} hA r hq q=>by
 refine cC (hq.two) λv u iC q1 q2=>?_;subst iC;refine aj (aZ.refE q1 ..) ?_;refine aj (aZ.typeE q2 ..) ?_;have X:K.In s.heap:=EH.KO.inn _ r.z0in;have hs:=fD X EH.subT;have hi:=fD X EH.isT;refine eF (kK ?_);have ck:iI "issubclass" ⟨[.ref 162,.type "tuple"],[]⟩=dg ():=by have h1:rb "issubclass" ⟨[.ref 162,.type "tuple"],[]⟩:=F.args_issubclass_2 _ _;delta iI;exact aj (F.kind_issubclass ..) (h1)
 show aS _ A.in1 (do iI "issubclass" ⟨[.ref 162,.type "tuple"],[]⟩;ND (.builtin "issubclass" ⟨[.ref 162,.type "tuple"],[]⟩)) _ _ _;refine aj (ck ..) (ag (ar (ar ⟨rm F.plain_issubclass _,kO F.entry_issubclass ?_⟩)));refine aj (gR F.plain_issubclass _ ..) (PyProof.Rows.issubclass_outer ?_);unfold Builtin.«issubclass.nested»;dsimp only;refine ag (cM (a:=lX "type") (by kernel_rfl) ?_);show aS _ _ ((isType (.ref 162) >>=_) >>=_) _ _ _;refine ag (ag (hi.here (ag (cM (a:=aJ) (by kernel_rfl) ?_))));refine aj (if_pos (by rfl) ..) (hs.here ?_);exact ar (q .rfl (aZ.bool _) r)⟩
theorem OZ:CM "tuple.__getitem__"=ae .slot:=by kernel_rfl
theorem Mg:QT "tuple.__getitem__"=ae ("tuple","__getitem__"):=by kernel_rfl
theorem Gg(EH:gN G K){i:Nat}(hx:xs[i]? =ae y)(hl:xs.length<=1000):Fn k mu (.builtin "tuple.__getitem__") [bZ (.ent xs),bZ (.int i)] (bZ y):=⟨λ{A E Z s fr vs Q} hA r hq q=>by
 refine cC (hq.two) λv u kG q1 q2=>?_;subst kG;refine dK (wg EH r.left q1) λa o ws n ma h1 h2 h3 h4=>?_;subst ma;refine cJ (gF q2) λtk mE=>?_;subst mE;have X:K.In s.heap:=EH.KO.inn _ r.z0in;refine aK (h4.get hx) λw h5 h6=>?_;have hi:i < xs.length:=(aB.mp hx).1;refine eF ?_;refine kK ?_;show aS _ A.in1 (do iI "tuple.__getitem__" ⟨[.ref a,.int i tk],[]⟩;ND (.builtin "tuple.__getitem__" ⟨[.ref a,.int i tk],[]⟩)) _ _ _;refine ag (@rx (aX G.prog G.w) _ _ s "tuple.__getitem__" "tuple" "__getitem__" (.ref a) [.int i tk] [] _ OZ Mg (yO EH X h1 h2) (F.args_tuple_getitem_2 _ _) ?_);refine ar ⟨rm F.slot_tuple_getitem.plain _,kO F.entry_tuple_getitem ?_⟩;refine aj (gR F.slot_tuple_getitem.plain _ ..) ?_;exact (uY a o ws n h3 i tk w (bV.symm.trans h5) (by lia)) G.prog G.w A (wants Q E) s ⟨h1,q .rfl h6 r⟩⟩
end
end
section
variable {o:bH}{apos:jB}{x dx:ay}{Ps:List (Vw)}{S:Vw}
theorem R6{k:Nat}{mu:Mu}{xs:List V}{Φ:V->Mu->Prop}(B:g7 G){fd:cg}{a:ay}{ob:oY}{body:List ed}{names:List bb}{vals':ay->d9}(Bs:Kn mu λhp=>hp.get? a=ae ob)(hd:ob.data= .func fd)(hcd:Kn mu λhp=>hp.CodeRec fd.code fd.qualname)(so:fd.body= .stmts body)
 (i0:∀(s:aq) vs,(∀a o,G.Z0 a=ae o->s.heap.get? a=ae o)->vs.length=xs.length->BindsTo s fd ⟨vs,[]⟩ (names.zip vs)) (hnd:(aM 0 fd.scope.names).nd) (he:∀L,du (dT fd a L))
 (hb:∀L,i9 (dT fd a L) L (aM (L+1) fd.scope.names) names xs (nones (aM (L+1) fd.scope.names)) (vals' L))
 (h:∀L,WS k (vN fd L (vals' L)::mu) (dT fd a L) body (lE Φ)) (wm:autoParam (fd.scope.isCoroutine=aH) aR) (mP:autoParam (fd.scope.isGenerator=aH) aR):FW (k+1) mu (.ref a) xs Φ:=⟨λ{A E Z s fr vs Q} hA r hv q=>by
 refine eF (qm hA.depth (Bs.app r) hd wm mP so (hcd.app r) ?_);refine i0 s vs r.z0in hv.length _ _ _ _ (pM (vals':=vals' s.heap.objs.size) r hnd (he _) hv (hb _) λs' r'=>⟨B.lim _ r'.z0in,Jz ?_⟩);refine (h s.heap.objs.size).c (hA.deeper _) r' λ{f s2 Z2 af ub} z2 f2 r2 w2=>?_
 revert w2
 exact o5.by f2 (λw=>jK.c (show jK .none ub Φ from w) r2 .none λ{z z z} z3=>q (z2.trans z3)) (λw=>w.elim) (λw=>w.elim) λv x hv w=>jK.c (show jK x ub Φ from w) r2 hv λ{z z z} z3=>q (z2.trans z3)⟩
structure Cj(G:Gd)(a:ay)(st:ed)(qual:bb):Prop where
 go:∃ob pm cd doc T o n,G.Z0 a=ae ob/\ob.data= .func {Ar st qual pm cd doc with defaults:= .ref T}/\G.Z0 T=ae o/\o.data= .seq #[.none] n/\∀h:dG,(∀a o,G.Z0 a=ae o->h.get? a=ae o)->h.CodeRec cd qual
theorem R7{k:Nat}{mu:Mu}{xs:List V}{Φ:V->Mu->Prop}(H:Hy G){a:ay}{st:ed}{qual:bb}(F:Cj G a st qual){names:List bb}{vals':ay->d9}
 (i0:∀pm cd doc T (s:aq) o n vs,s.heap.get? T=ae o->o.data= .seq #[.none] n->vs.length=xs.length->BindsTo s {Ar st qual pm cd doc with defaults:= .ref T} ⟨vs,[]⟩ (names.zip vs)) (hnd:(aM 0 (bk st).names).nd) (hk:(bk st).kind= .function)
 (hb:∀pm cd doc T L,i9 (dT {Ar st qual pm cd doc with defaults:= .ref T} a L) L (aM (L+1) (bk st).names) names xs (nones (aM (L+1) (bk st).names)) (vals' L))
 (h:∀pm cd doc T L,du (dT {Ar st qual pm cd doc with defaults:= .ref T} a L)->WS k (bq L (aM (L+1) (bk st).names) (vals' L)::mu) (dT {Ar st qual pm cd doc with defaults:= .ref T} a L) (fR st) (lE Φ)) (wm:autoParam ((bk st).isCoroutine=aH) aR) (mP:autoParam ((bk st).isGenerator=aH) aR):
 FW (k+1) mu (.ref a) xs Φ:=by
 obtain ⟨ob,pm,cd,doc,T,o,n,h0,hd,hT,hn,hcd⟩:=F.go;exact R6 H.B (names:=names) (vals':=vals') (Kn.z0 h0) hd (λZ s r=>hcd _ r.z0in) rfl (λs vs hz hl=>i0 pm cd doc T s o n vs (hz T o hT) hn hl) hnd (λL=>⟨hk,rfl,rfl⟩) (hb pm cd doc T) (λL=>h pm cd doc T L ⟨hk,rfl,rfl⟩) wm mP
structure wU(K:fl)(name:bb)(g:ay)(i:Nat):Prop where
 find:fH K (.ref 162) name=ae (ae (.ref g))
 spec:Fd K (.ref g) "__get__"=ae (ae (.ref 43))
 takes:Un K (.ref g)=ae aJ
 inst:∃d,K.lookup g=ae (Ad 60 d)/\∃es n t,K.lookup d=ae (i3 es n)/\getL "index" es=ae (ae (.int i t))
def r8(G:Gd)(K:fl):Prop:=
 (Cj G 43 (jl 2 1) "_tuplegetter.__get__")/\
 (eT K 60 "index"=aJ)/\
 (fH K (.ref 162) "__getattribute__"=ae (ae (.builtin "tuple.__getattribute__")))/\
 (fH K (.ref 162) "__getattr__"=ae av)/\
 (Fe K (.type "tuple") (.type "type") "__getitem__"=ae (.val (.builtin "tuple.__getitem__")))/\
 (G.mg "type"=av)/\
 (G.mg "issubclass"=av)/\
 (∃g,wU K "start" g 0)/\
 (∃g,wU K "end" g 1)/\
 (∃g,wU K "target" g 2)/\
 (∃g,wU K "depth" g 3)/\
 ∃g,wU K "lasti" g 4
section
variable {G:Gd}(h:r8 G K)
def r8.f43:=@h.1
def r8.p60:=@h.2.1
def r8.ga:=@h.2.2.1
def r8.gx:=@h.2.2.2.1
def r8.titem:=@h.2.2.2.2.1
def r8.b_type:=@h.2.2.2.2.2.1
def r8.b_issub:=@h.2.2.2.2.2.2.1
def r8.g0:=@h.2.2.2.2.2.2.2.1
def r8.g1:=@h.2.2.2.2.2.2.2.2.1
def r8.g2:=@h.2.2.2.2.2.2.2.2.2.1
def r8.g3:=@h.2.2.2.2.2.2.2.2.2.2.1
def r8.g4:=@h.2.2.2.2.2.2.2.2.2.2.2
end
theorem Mh{de:List gA}{n:Nat}{v:ai}(KO:FS G K)(hp:eT K C name=aJ)(ho:PE k mu env o (.ref x))(hx:K.lookup x=ae (Ad C dx))(hd:K.lookup dx=ae (i3 de n))(hv:getL name de=ae (ae v))(hr:aZ G G.Z0 v y)(hy:∀n,y≠ .bi n)
 (he:autoParam (dW (.Attribute o name p) env=(do let ov <- dW o env;iE p.atName;let r <- eW [ov] (sZ ov name aJ);pD o ov r;dg r)) aR):PE k mu env (.Attribute o name p) y:=⟨λ{A E Z s fr Q} hA r q=>by
 refine gZ ?_ he;refine ho.c hA r λ{ov s1 Z1} z1 q1 r1=>aj (aZ.refE q1 ..) ?_;have X:K.In s1.heap:=KO.inn _ r1.z0in;refine dU (cn.mp hp) λSU h3=>dU (cn.mp SU) λh1 h2=>aK (any_some h1) λcd hcd EP=>get_value X (⟨X _ _ hx,rfl,rfl,X _ _ hd⟩:InstAt s1.heap x (Ad C dx) C (ae (i3 de n))) (jE h3) ?_ (m7 hr hy) (q z1 (hr.mono r1.z0) r1.toks);exact DG hcd (jE h2) EP hv⟩
theorem Gh{f name:bb}{id:String}{fp:jB}{pl:oZ Bool}(EH:gN G K)(hn:Fe K (.type "tuple") (.type "type") name=ae (.val (.builtin id)))(hf:PE k mu env (.Name f fp) (.type "tuple"))(ha:tA k mu env (e::es) Ps)(hF:Fn k mu (.builtin id) Ps S)(hh:handedIn (.builtin id)=aJ:=by kernel_rfl!)(wo:autoParam (kh (e::es)=aJ) aR)
 (he:autoParam (dW (.Call (.Attribute (.Name f fp) name apos) (e::es) [] pos) env=(do let ov <- dW (.Name f fp) env;iE apos.atName;let (f,first) <- eW [ov] (mB ov name pl);pC pos f first (lj pos (fo (e::es) env)) [])) aR):
 EV k mu env (.Call (.Attribute (.Name f fp) name apos) (e::es) [] pos) S:=⟨λ{A E Z s fr Q} hA r q=>by
 refine i5 (pl:=pl) ?_ he;refine hf.c hA r λ{ov s1 Z1} z1 q1 r1=>aj (aZ.typeE q1 ..) (uR (T:="tuple") (v:= .builtin id) (pl:=pl) (EH.KO.inn _ r1.z0in) DS DR hn hh ?_);exact Ha ha hA r1.toks λ{z z z} z2 q2 r2=>hF.c hA r2 q2 λ{z z z} z3=>q (z1.trans (z2.trans z3))⟩
theorem Mi(H:Hy G)(EH:gN G K)(TH:r8 G K){g:ay}{i:Nat}(hg:wU K name g i)(hx:xs[i]? =ae y)(hl:xs.length<=1000):FW (k+2) mu (.ref 43) [.ref g,.ent xs,.ref 162] λr nu=>r=y/\nu=mu:=by
 refine R7 H TH.f43 (names:=["self","obj","objtype"]) (vals':=λL=>[ae (.ref g),ae (.ent xs),ae (.ref 162)]) (λpm cd doc T s o n vs ho hs h=>?_) (by decide+kernel) rfl (λpm cd doc dv L=>?_) (λpm cd doc dv L he=>?_)
 ·exact Oe h λa b c=>BindsTo.of_defaults rfl ho hs rfl rfl
 ·exact .cons (j:=0) .loc rfl (.cons (j:=1) .loc rfl (.cons (j:=2) .loc rfl .nil))
 obtain ⟨d,hi,de,n,t,hd,hv⟩:=hg.inst;refine aC (iY (c9 (ah (j:=1) he .loc aa rfl) J7 (Gf EH)) (λh=>vG h) λz=>?_);refine bC (aC (iY (Fv (kU (ek (j4 H he TH.b_issub rfl) (au (iZ (iN H he TH.b_type rfl) (au (ah (j:=1) he .loc aa rfl) aT) (Mf EH)) (au (iN H he H.b_tuple rfl) aT)) (I0 EH)) qt)) (λh=>vG h) λz=>?_));refine bC (aC (gw (cf (Gh EH TH.titem (iN H he H.b_tuple rfl) (au (ah (j:=1) he .loc aa rfl) (au (Mh (y:= .int i) EH.KO TH.p60 (ah (j:=0) he .loc aa rfl) hi hd hv (aZ.int _ _) (λn e=>by cases e)) aT)) (Gg EH hx hl)) (ki ⟨rfl,rfl⟩))))
theorem nQ(H:Hy G)(EH:gN G K)(TH:r8 G K){g:ay}{i:Nat}(hg:wU K name g i)(ho:PE (k+3) mu env o (.ent xs))(hx:xs[i]? =ae y)(hl:xs.length<=1000)(hy:∀n,y≠ .bi n)
 (he:autoParam (dW (.Attribute o name p) env=(do let ov <- dW o env;iE p.atName;let r <- eW [ov] (sZ ov name aJ);pD o ov r;dg r)) aR):PE (k+3) mu env (.Attribute o name p) y:=⟨λ{A E Z s fr Q} hA r q=>by
 refine gZ ?_ he;refine ho.c hA r λ{ov s1 Z1} z1 q1 r1=>dK (wg EH r1.left q1) λa ob vs n dO h1 h2 h3 h4=>?_;subst dO;have X:K.In s1.heap:=EH.KO.inn _ r1.z0in;refine lO X (λM=>sH h1 h2) (yO EH X h1 h2) TH.ga hg.find hg.spec hg.takes TH.gx λE2=>(Mi (k:=k) (mu:=mu) H EH TH hg hx hl).c hA.in1 r1.toks (.cons (.ref _) (.cons q1 (.cons (.ref _) .nil))) λ{w s2 Z2 y' ub} z2 q2 r2 u=>dU u λe1 e2=>?_;clear u;subst e1 e2;refine aj (handedOut_of (m7 q2 hy) ..) ?_;exact ar (q (z1.trans z2) q2 r2)⟩
end
open Builtin AutoSeq1 SeqAt in
theorem Es(l b:ay)(items items2:Array ai)(n n2:Nat)(C:ai)(dd dd2:Option ay)(sl sl2:Array (Option ai))(hs:items.size=items2.size):
 Meets (Builtin.«tuple.__eq__» ⟨[.ref l,.ref b],[]⟩) (λA R s=>s.heap.get? l=ae {cls:=C,dict:=dd,data:= .seq items n,slots:=sl}/\s.heap.get? b=ae {cls:= .type "tuple",dict:=dd2,data:= .seq items2 n2,slots:=sl2}/\
  (∀j (h1:j < items.size) (h2:j < items2.size),EqAt A.in1 s items[j] items2[j] aJ)/\R (.ok (.ret (.bool aJ))) s):=
 .of_wp λprog w A R s h=>by
  obtain ⟨hp,g,d,tk,os⟩:=s;obtain ⟨hl,hb,he,h⟩:=h;have f2:=AutoSeq1.sub_tuple_tuple
  wp_walk using kP hl,kP hb,wpAny_forIn_list _ (λrest acc s'=>acc.1=av/\s'=⟨hp,g,d,tk,os⟩/\∃i,rest=(items.toList.zip items2.toList).drop i) _
  case turn=>
   rintro ⟨u,v⟩ rest acc s' ⟨ha,rfl,i,hz⟩;have hlt:i < (items.toList.zip items2.toList).length:=uw λq=>by rw [P6 q] at hz;exact JY hz
   have M4:i < items.size/\i < items2.size:=by simp at hlt;omega
   rw [dZ hlt] at hz;obtain ⟨e1,e2⟩:=sY hz;have hu:u=items[i]:=by have:=congrArg uv e1;simpa using this
   have hv:v=items2[i]:=by have:=congrArg Prod.snd e1;simpa using this
   subst hu hv;refine ag (he i M4.1 M4.2 prog w _ _ ?_)
   wp_walk
   exact ⟨rfl,rfl,i+1,e2⟩
  case fin=>
   rintro ⟨acc1,acc2⟩ s' ⟨ha,rfl,i,hz⟩;simp only at ha;subst ha
   wp_walk
   exact ⟨_,rfl,by simpa [qh,hs] using h⟩
  case h=>exact ⟨rfl,rfl,0,rfl⟩
theorem Mj:CM "tuple.__eq__"=ae .slot:=by kernel_rfl
theorem I1:QT "tuple.__eq__"=ae ("tuple","__eq__"):=by kernel_rfl
structure Qv(K:fl):Prop where
 sub:subIn K (.type "tuple") (.ref 162)=ae aH
 eq:fH K (.ref 162) "__eq__"=ae (ae (.builtin "tuple.__eq__"))
 up:subIn K (.ref 162) (.type "tuple")=ae aJ
open SeqAt in
theorem Mk{K:fl}{A:bh}{s:aq}{l b:ay}{items items2:Array ai}{n:Nat}{o:oY}(X:K.In s.heap)(QH:Qv K)(h1:s.heap.get? l=ae o)(hc:o.cls= .ref 162)(hd:o.data= .seq items n)(h2:s.heap.IsTuple b items2)(hs:items.size=items2.size)(hu:A.units < cLine)
 (he:∀j (h1:j < items.size) (h2:j < items2.size),EqAt A.in1 s items[j] items2[j] aJ):RcAt A s (.ref l) (.ref b) aJ:=λprog w E Q hq=>by
 obtain ⟨cls,dd,data,sl⟩:=o;obtain ⟨⟨cls2,dd2,data2,sl2⟩,NA,hc2,n2,hd2⟩:=id h2;simp only at hc hd hc2 hd2;subst hc hd hc2 hd2;obtain ⟨hp,g,d,t,os⟩:=s;have L1:iL (aX prog w) hp (jU (.ref l)) (.ref 162):=(sr h1).andThen .now;have L2:iL (aX prog w) hp (jU (.ref b)) (.type "tuple"):=(sr NA).andThen .now;have L3:=looks_subIn (M:=aX prog w) X QH.sub;have L4:=mS (M:=aX prog w) X QH.eq;have L5:iL (aX prog w) hp (uf (.ref l) (.type "tuple")) aJ:=L1.andThen (looks_subIn X QH.up);unfold richCompare;refine bE (ag (wpAny_cRoomFor_or (.inr hu) ?_));show aS _ _ (jU (.ref l) >>=_) _ _ _;refine ag (L1.at (ag (L2.at (ag ?_))));have tc:∀(Qc:Option ai->aq->Prop) (E':ai->aq->Prop),Qc (ae (.bool aJ)) ⟨hp,g,d,t,os⟩->aS (aX prog w) A (tryCompare (.ref l) "__eq__" (.ref b)) Qc E' ⟨hp,g,d,t,os⟩:=λQc E' hQ=>by
  have fin:∀E':ai->aq->Prop,aS (aX prog w) A (ku (.builtin "tuple.__eq__") ([.ref l]++[.ref b])) (λv s'=>v= .bool aJ/\s'=⟨hp,g,d,t,os⟩) E' ⟨hp,g,d,t,os⟩:=λE'=>by
   refine eF (jj P7.plain F.entry_tuple_eq (@rx (aX prog w) _ _ ⟨hp,g,d,t,os⟩ "tuple.__eq__" "tuple" "__eq__" (.ref l) [.ref b] [] _ Mj I1 L5 (F.args_tuple_eq_2 _ _) ?_));exact (Es l b items items2 n n2 (.ref 162) dd dd2 sl sl2 hs) prog w A (wants _ E') _ ⟨h1,NA,he,rfl,rfl⟩
  unfold tryCompare callSpecialIfBound? bindSpecialIfBound? mA;refine ag (bE (ag (ag (ag (L1.at (L4.at ?_))))));refine ag (gC (wpAny_ite ?_))
  split
  ·refine ag (cM (P7.bind _) (ar (ag (eS (fin _) (λv s' ⟨e1,e2⟩=>?_) λy y z=>z))));subst e1 e2;exact ar (ar hQ)
  ·refine wpAny_tryCatch (ag (cM (P7.bind _) (ar (ag (eS (fin _) (λv s' ⟨e1,e2⟩=>?_) λy y z=>z)))));subst e1 e2;exact ar (ar hQ)
 refine L3.at (ag (tc _ _ ?_));exact ar hq
section
variable {l r:bH}{ys:List V}{x:V}{D:ay}{lay:zx}{bz:d9}{j:Nat}{Z:bI}{Φ:V->Mu->Prop}{Ξ:Bool->Mu->Prop}{b:Bool}{CS:CmpOp}
theorem I2(EH:gN G K)(QH:Qv K){rows:List (List V)}(hr:∀row∈rows,∃ds,pf row=ae ds/\zH ds=0):s8 k mu .NotEq (bZ (.list (rows.map .ent))) (bZ (.list (rows.map .tup))) aH:=⟨λ{A E Z s fr v u T} hA R hp hq q=>by
 have X:K.In s.heap:=EH.KO.inn _ R.z0in;have hu:=hA.uni;refine cE (rh.list hp) λa vs n qY e1 r1=>?_;subst qY;refine cE (rh.list hq) λa' rp n' uc e2 r2=>?_;subst uc;have hl1:rows.length=vs.size:=by (refine fZ (b9 r1 ..) ?_;refine aj (ak ..) ?_;rfl)
 have QM:rows.length=rp.size:=by (refine fZ (b9 r2 ..) ?_;refine aj (ak ..) ?_;rfl)
 have he:∀j (j1:j < vs.size) (j2:j < rp.size),SeqAt.EqAt A.in1 s vs[j] rp[j] aJ:=λj j1 j2=>by
  obtain ⟨row,M5⟩:∃row,rows[j]? =ae row:=⟨_,bJ (hl1▸j1)⟩;have q1:=nB r1 (i:=j) (x:= .ent row) (by (refine aj (aI ..) ?_;refine aj (M5 ..) ?_);rfl) (dY j1);have q2:=nB r2 (i:=j) (x:= .tup row) (by (refine aj (aI ..) ?_;refine aj (M5 ..) ?_);rfl) (dY j2);refine dK (wg EH R.left q1) λc o ws m h1 g1 g2 g3 g4=>dK (aZ.tup_inv q2) λc' o' Ug m' h2 z1 z2 z3 z4=>?_;refine aj (h1 ..) ?_;refine aj (h2 ..) ?_;have g5:=R.zin _ _ z1;refine aK (hr row (ao M5)) λds hds hdd=>SeqAt.EqAt.of_refs (λe=>?_) (Mk X QH g1 g2 g3 ⟨o',g5,z2,m',z3⟩ ((b9 g4).symm.trans (b9 z4)) (by show _ < 9900;have:A.in1.units=A.units+1:=rfl;lia) λi i1 i2=>?_)
  ·subst e;rw [g1] at g5;(have lA:=aO g5;clear g5;subst lA);rw [g2] at z2;cases z2
  ·refine dU (wJ (s:=s) R.zin row g4 hds) λmO h4=>cJ mO λas h3=>?_;clear mO;refine dU (wJ (s:=s) R.zin row z4 hds) λsk z=>cJ sk λbs h5=>?_;clear sk;have:=SeqAt.eqAt_readsAll ds ds A.in1.in1 s _ _ _ _ h3 h5 h4 h4 (by refine aj (hdd ..) ?_;show _ < 9900;have:A.in1.in1.units=A.units+1+1:=rfl;lia) i (eK▸i1) (eK▸i2);have h6:SeqAt.pairEq ds ds i=aJ:=by
    have h7:=SeqAt.eqvAll_eq ds ds;rw [SeqAt.eqvAll_refl ds h4,Nat.min_self] at h7;exact fW.mp (cn.mp h7).1 i (aY.mpr (by (refine aj (Dl hds ..) ?_;refine aj (b9 g4 ..) ?_);exact i1))
   rw [h6] at this;exact this
 have:=SeqAt.RcNeAt.lists (A:=A) (s:=s) (l:=a) (b:=a') (e:=λz=>aJ) ⟨_,R.zin _ _ e1,rfl,n,rfl⟩ ⟨_,R.zin _ _ e2,rfl,n',rfl⟩ (hl1.symm.trans QM) (by show _ < 9900;lia) he;rw [show (!(aN vs.size).all λz=>aJ)=aH by simp] at this;exact this G.prog G.w E _ (q .rfl (.bool _) R)⟩
theorem A8{d:wA}(hx:Ks x=ae d)(hd:d.depth<=100):s8 k mu .NotEq (bZ x) (bZ x) aH:=⟨λ{A E Z s fr v u T} hA r hp hq q=>by
 exact dU (rG (s:=s) r.zin x hp hx) λz h2=>(Kt (k:=k) (mu:=mu) hx hx (aw (Nat.min_le_left _ _) hd)).c hA r hp hq (by refine aj (SeqAt.eqv_refl d h2 ..) ?_;exact q)⟩
theorem R.frzL(r:R Z (bq L lay bz::bl D xs::mu) s)(hv:bz[j]? =ae (ae (.ref D))):∃Z',Z.le Z'/\R Z' (bq L lay (bz.set j (ae (.list xs)))::mu) s:=by
 have r1:=r.perm (jh _ _ _);refine eD (r1.sat _ aa) λvs n h1 h2=>dU (R.freezeHd r1 h1 aa) λr' z'=>⟨_,z',?_⟩
 exact mH (r'.sat _ aa) λhnd m hn hs=>r'.upd' (i:=0) (h':=s.heap) (tk:=s.toks) rfl rfl (λz z z e=>e) ⟨hnd,m,hn,hs.weak hv λx c q=>q.as λv q=>by
  cases q;exact .list (bI.put_self ..) (h2.mono z')⟩
theorem R.frzD{es:List (bb×V)}(r:R Z (bq L lay bz::cD D es::mu) s)(hv:bz[j]? =ae (ae (.ref D))):∃Z',Z.le Z'/\R Z' (bq L lay (bz.set j (ae (.dict es)))::mu) s:=by
 have r1:=r.perm (jh _ _ _);refine qo (r1.sat _ aa) λq0 kvs zj h1 h2=>oz zj λo Nx ep ho hd=>?_;clear zj;refine dU (R.freezeHd r1 ho aa) λr' z'=>⟨_,z',?_⟩
 exact mH (r'.sat _ aa) λhnd m hn hs=>r'.upd' (i:=0) (h':=s.heap) (tk:=s.toks) rfl rfl (λz z z e=>e) ⟨hnd,m,hn,hs.weak hv λx c q=>q.as λv q=>by
  cases q;exact .dict q0 (bI.put_self ..) ⟨hd.1,Nx,ep,hd.2⟩ h1 (h2.mono z')⟩
theorem Wf.frzL{t:oZ uh}(hv:bz[j]? =ae (ae (.ref D)))(h:Wf k (bq L lay (bz.set j (ae (.list xs)))::mu) env t Θ):Wf k (bq L lay bz::bl D xs::mu) env t Θ:=⟨λ{A E Z s fr outer Q} hA hf iD r q=>by
 exact aK (R.frzL (mu:=mu++fr) r hv) λZ1 z1 r1=>h.c (fr:=fr) hA hf iD r1 λ{z z z z z} z'=>q (z1.trans z')⟩
theorem WF.frzL{t:oZ uh}(hv:bz[j]? =ae (ae (.ref D)))(h:WF k (bq L lay (bz.set j (ae (.list xs)))::mu) t Θ):WF k (bq L lay bz::bl D xs::mu) t Θ:=⟨λ{A E Z s fr Q} hA r q=>by
 exact aK (R.frzL (mu:=mu++fr) r hv) λZ1 z1 r1=>h.c (fr:=fr) hA r1 λ{z z z z z} z'=>q (z1.trans z')⟩
theorem WF.frzD{es:List (bb×V)}{t:oZ uh}(hv:bz[j]? =ae (ae (.ref D)))(h:WF k (bq L lay (bz.set j (ae (.dict es)))::mu) t Θ):WF k (bq L lay bz::cD D es::mu) t Θ:=⟨λ{A E Z s fr Q} hA r q=>by
 exact aK (R.frzD (mu:=mu++fr) r hv) λZ1 z1 r1=>h.c (fr:=fr) hA r1 λ{z z z z z} z'=>q (z1.trans z')⟩
structure Qw(k:Nat)(mu:Mu)(env:gP)(t:oZ Bool)(Ξ:Bool->Mu->Prop):Prop where
 c:∀{A:bh} {E:ai->aq->Prop} {Z:bI} {s:aq} {fr:Mu} {outer:List gP} {Q:Bool->aq->Prop},Rm k A->A.frames=ae (env::outer)->ia outer fr->R Z (mu++fr) s->
  (∀{b s' Z' nu},Z.le Z'->R Z' (nu++fr) s'->Ξ b nu->Q b s')->aS (aX G.prog G.w) A t Q E s
theorem R8{body orelse:List ed}(h:Qw k mu env (isTrue e env (dW e env)) λc nu=>brP c (yj k nu env body Θ) (yj k nu env orelse Θ)):WXf k mu env (.If e body orelse pos) Θ:=⟨λ{z z z z z z z} hA hf iD r q=>by
 with_reducible refine wpAny_If ?_
 refine h.c hA hf iD r λ{c s1 Z1 nu} z1 r1 w=>?_;cases c with
 |true=>exact Wf.c (show yj k nu env body Θ from w) hA hf iD r1 λ{z z z z z} z2=>q (z1.trans z2)
 |false=>exact Wf.c (show yj k nu env orelse Θ from w) hA hf iD r1 λ{z z z z z} z2=>q (z1.trans z2)⟩
theorem R9(h:Qw k mu env (allTrue .Or es env) Ξ):Qw k mu env (isTrue (.BoolOp .Or es p) env (dW (.BoolOp .Or es p) env)) Ξ:=⟨λ{z z z z z z z} hA hf iD R q=>by
 with_reducible refine wpAny_isTrue_BoolOp ?_
 exact h.c hA hf iD R q⟩
theorem Ck(h:PT k mu env e aH)(hr:Qw k mu env (allTrue .Or es env) Ξ):Qw k mu env (allTrue .Or (e::es) env) Ξ:=⟨λ{z z z z z z z} hA hf iD R q=>by
 with_reducible refine Af ?_
 exact h.c hA R λ{z z} z1 r1=>hr.c hA hf iD r1 λ{z z z z} z2=>q (z1.trans z2)⟩
theorem O0(h:Qw k mu env (isTrue e env (dW e env)) Ξ):Qw k mu env (allTrue .Or [e] env) Ξ:=⟨λ{z z z z z z z} hA hf iD R q=>by
 with_reducible refine Af ?_
 refine h.c hA hf iD R λ{d s1 Z1 nu} z1 r1 w=>?_;cases d with
 |true=>exact q z1 r1 w
 |false=>refine aj (if_neg cF ..) ?_;(with_reducible refine wpAny_allTrue_Or_nil ?_);exact q z1 r1 w⟩
theorem Ml(h:WVf k mu env (dW l env) λy nu=>∃(Q:Vw) (b:Bool),EV k nu env r Q/\s8 k nu CS (bZ y) Q b/\Ξ b nu)(hm:wq CS r=aH:=by with_unfolding_all rfl):Qw k mu env (isTrue (.Compare l [CS] [r] p) env (dW (.Compare l [CS] [r] p) env)) Ξ:=⟨λ{z z z z z z z} hA hf iD R q=>by
 with_reducible refine Ae ?_ hm
 exact h.c hA hf iD R λz1 q1 r1 ⟨Q,b,hr,ho,w⟩=>hr.c hA r1 λ{z z z} z2 p2 r2=>ho.c hA r2 (q1.mono z2) p2 λ{z z z} z3 p3 r3=>(aZ.boolE p3)▸eV (q (z1.trans (z2.trans z3)) r3 w)⟩
end
noncomputable def k8(S:Nat)(v:Nat->ai):Array (Int×ai):=((eZ S).map λ(k:Nat)=>((k:Int),v k)).toArray
noncomputable def I3(S T:Nat)(led:Bool):SetTable:={mask:=if 5<=(eZ T).length then 31 else 7,place:=(eZ S).toArray,dummies:=#[],finger:=0,led:=led,moves:=if 5<=(eZ T).length then 1 else 0,plain:=aJ}
noncomputable abbrev Et(S:Nat)(led:Bool):SetTable:=I3 S S led
theorem O1:∀S,S < 64->∀k:Nat,k < 6->S.testBit k=aH->∀led,((Et S led).freeSlot (fB k) == ae (k,aH))=aJ:=by decide+kernel
theorem Sa:∀S,S < 64->∀k:Nat,k < 6->S.testBit k=aH->∀led,(Et S led).put k=(I3 (S+2 ^ k) S led,((eZ S).filter (· < k)).length):=by decide+kernel
theorem Gj:∀S,S < 64->∀k:Nat,k < 6->S.testBit k=aH->(eZ S).take ((eZ S).filter (· < k)).length++k::(eZ S).drop ((eZ S).filter (· < k)).length=eZ (S+2 ^ k)/\S+2 ^ k < 64:=by decide+kernel
theorem O2:∀S,S < 64->∀k:Nat,k < 6->S.testBit k=aH->∀led,(I3 (S+2 ^ k) S led).tooFull=decide ((eZ S).length=4):=by decide+kernel
theorem O3:∀S,S < 64->∀k:Nat,k < 6->S.testBit k=aH->(eZ S).length≠4->∀led,I3 (S+2 ^ k) S led=Et (S+2 ^ k) led:=by decide+kernel
theorem I4:∀S,S < 64->∀k:Nat,k < 6->S.testBit k=aH->(eZ S).length=4->∀led,((I3 (S+2 ^ k) S led).relaid ((eZ (S+2 ^ k)).map λ(j:Nat)=>(j:Int)).toArray 20 == ae (Et (S+2 ^ k) led,#[0,1,2,3,4]))=aJ:=by decide+kernel
theorem Eu:∀S,S < 64->∀i,i < (eZ S).length+1->SetTable.below (eZ S).toArray (if i=0 then 0 else (eZ S).getD (i - 1) 0+1)=i:=by decide+kernel
noncomputable def HC(v:Nat->ai)(k:Nat)(x:ai):Nat->ai:=λj=>if j=k then x else v j
theorem jG(S:Nat)(v:Nat->ai):(k8 S v).size=(eZ S).length:=by exact ak ..
theorem Sb{S k:Nat}{v:Nat->ai}{x:ai}(hS:S < 64)(hk:k < 6)(hn:S.testBit k=aH):SetTable.insertAt (k8 S v) ((eZ S).filter (· < k)).length ((k:Int),x)=k8 (S+2 ^ k) (HC v k x):=by
 have h1:=(Gj S hS k hk hn).1;have hkb:k∉eZ S:=λh=>by have:=(bo.mp h).2;rw [hn] at this;exact vG this
 have hm:∀l:List Nat,k∉l->l.map (λ(j:Nat)=>((j:Int),v j))=l.map λ(j:Nat)=>((j:Int),HC v k x j):=λl hl=>
  b5 λj hj=>by delta HC;(refine aj (if_neg (λe:j=k=>hl (e▸hj)) ..) ?_;rfl)
 generalize ((eZ S).filter (· < k)).length=p at h1;delta SetTable.insertAt;apply Array.ext';have hx:HC v k x k=x:=by delta HC;(refine aj (if_pos rfl ..) ?_;rfl)
 simp only [k8,lB,CB,xt,List.extract_eq_take_drop,sS,fy,Nat.sub_zero];refine fZ (h1 ..) ?_;simp only [bj,bB,List.map_take,Nm,bU,List.singleton_append,hx];refine aj (hm (eZ S) hkb ..) ?_;congr 3;refine aj (d6 (by simp) ..) ?_;rfl
theorem uZ(S T:Nat)(led:Bool):(I3 S T led).fits (eZ S).length=aJ:=by
 have h:(eZ S).length<=6:=by have:=bu S.testBit (aN 6);exact this
 delta SetTable.fits SetTable.fill I3;simp only [sS,beq_self_eq_true,Nn]
 split <;> simp <;> lia
theorem Sd{S k:Nat}{v:Nat->ai}{x:ai}{led:Bool}(hS:S < 64)(hk:k < 6)(hn:S.testBit k=aH):layNew (Et S led) (k8 S v) k x=(k8 (S+2 ^ k) (HC v k x),I3 (S+2 ^ k) S led,aH,aH):=by have h1:=jE (O1 S hS k hk hn led);have h2:=Sa S hS k hk hn led;delta layNew;refine aj (show (k:Int)=fB k from rfl) ?_;refine aj (h1 ..) ?_;simp only;refine aj (h2 ..) ?_;simp only;refine aj (show fB k=(k:Int) from rfl) ?_;refine aj (Sb hS hk hn ..) ?_;refine aj (jG ..) ?_;delta SetTable.orStandIn;refine aj (if_pos (uZ _ _ _) ..) ?_;refine aj (uZ ..) ?_;rfl
theorem xb{α:Type}(a:Array α):(Array.range a.size).filterMap (a[·]?)=a:=by
 apply Array.ext';simp only [Array.toList_filterMap,Array.toList_range];have:∀l:List α,(aN l.length).filterMap (l[·]?)=l:=by
  intro l;induction l with
  |nil=>rfl
  |cons x l ih=>refine aj (bK ..) ?_;refine aj (List.range_succ_eq_map ..) ?_;refine aj (ql ..) ?_;simp only [List.getElem?_cons_zero,List.filterMap_map];congr 1
 have h:=this a.toList;simpa using h
theorem Mm{S k:Nat}{v:Nat->ai}{led:Bool}(hS:S < 64)(hk:k < 6)(hn:S.testBit k=aH)(h4:(eZ S).length=4):relayAll (I3 (S+2 ^ k) S led) (k8 (S+2 ^ k) v) (SetTable.grown (k8 (S+2 ^ k) v).size)=(k8 (S+2 ^ k) v,Et (S+2 ^ k) led,aH):=by
 have h1:=(Gj S hS k hk hn).1;have hl:(eZ (S+2 ^ k)).length=5:=by refine fZ (h1 ..) ?_;simp only [ba,bK,dR,fY];have:=bu (λj=>decide (j < k)) (eZ S);lia
 have h2:=jE (I4 S hS k hk hn h4 led);have hz:(k8 (S+2 ^ k) v).size=5:=by (refine aj (jG ..) ?_;refine aj (hl ..) ?_;rfl)
 have hh:(k8 (S+2 ^ k) v).map (·.1)=((eZ (S+2 ^ k)).map λ(j:Nat)=>(j:Int)).toArray:=by apply Array.ext';simp [k8]
 delta relayAll;refine aj (hz ..) ?_;refine aj (hh ..) ?_;refine aj (show SetTable.grown 5=20 from rfl) ?_;refine aj (h2 ..) ?_;simp only;have he:(#[0,1,2,3,4]:Array Nat).filterMap (λi=>(k8 (S+2 ^ k) v)[i]?)=k8 (S+2 ^ k) v:=by have:=xb (k8 (S+2 ^ k) v);rw [hz] at this;exact this
 refine aj (he ..) ?_;refine aj (hz ..) ?_;have hf:=uZ (S+2 ^ k) (S+2 ^ k) led;rw [hl] at hf;refine aj (if_pos (by rw [hf];decide) ..) ?_;rfl
structure zW(h:dG)(a:ay)(S:Nat)(led:Bool):Prop where
 go:∃v ep,h.get? a=ae {cls:= .type "set",dict:=av,data:= .set (k8 S v) ep (Et S led)}/\(∀k:Nat,∃t,v k= .int k t)/\S < 64
theorem Mn:∀k:Nat,k < 6->hashInt (k:Int)=(k:Int):=by decide
theorem Mo{S:Nat}{v:Nat->ai}(hv:∀k:Nat,∃t,v k= .int k t):ElemsOf (lu prog w) (k8 S v).toList:=λe he=>by
 simp only [k8,aG] at he;refine aK he λk hk dO=>?_;clear he;subst dO;refine cJ (hv k) λt ht=>?_;have h6:k < 6:=aY.mp (bo.mp hk).1;simp only [ht];exact ⟨⟨k,GP _ _ _ _,(Mn k h6).symm⟩,rfl⟩
theorem Se(a b:Int)(t:HR):(lu prog w).is a (.int b t)=decide (a=b):=by
 by_cases h:a=b
 ·subst h;refine aj (GP ..) ?_;simp
 ·refine aj (decide_eq_false h ..) ?_;cases hq:(lu prog w).is a (.int b t)
  ·rfl
  ·exact absurd ((lu prog w).inj _ _ _ (GP prog w b t) hq) (λe=>h (by first|exact e|exact e.symm))
theorem O4{S k:Nat}{v:Nat->ai}(hv:∀k:Nat,∃t,v k= .int k t)(hk:k < 6):((k8 S v).toList.findIdx? λe=>(lu prog w).is (k:Int) e.2).isSome=S.testBit k:=by
 refine gj (cm ..) ?_;refine aj (List.findIdx?_isSome ..) ?_;refine gj (cS ..) ?_;have qj:∀j:Nat,(lu prog w).is (k:Int) (v j)=decide (k=j):=λj=>by
  refine cJ (hv j) λt ht=>?_;refine aj (ht ..) ?_;refine aj (Se ..) ?_;refine gj (cm ..) ?_;simp only [decide_eq_true_eq];lia
 constructor
 ·intro eU;refine aK eU λe he h=>?_;clear eU;simp only [k8,aG] at he;refine aK he λj hj gi=>?_;clear he;subst gi;rw [qj] at h;have:=of_decide_eq_true h;subst this;exact (bo.mp hj).2
 ·intro h;refine ⟨((k:Int),v k),?_,by refine aj (qj ..) ?_;simp⟩;simp only [k8,aG];exact ⟨k,bo.mpr ⟨aY.mpr hk,h⟩,rfl⟩
def nR.S0(prog:dJ)(w:ee)(A:bh)(E:ai->aq->Prop)(s:aq)(a:ay)(S k:Nat)(led:Bool)(t:HR)(Q:Bool->aq->Prop)(_:Nat):Prop:=∀(hS:zW s.heap a S led) (hk:k < 6) (h:∀h' tk,ji a s.heap h'->zW h' a (S ||| 2 ^ k) led->∀b,Q b {s with heap:=h',toks:=tk}),aS (aX prog w) A (setAdd a (.int k t)) Q E s
namespace nR
@[irreducible] def e0:=HS sV E6 Fq s7 zJ cL eO eO inferInstance inferInstance s7 eO S0
def cT:=e0.1
def w_:=e0.2.1
def A_:=e0.2.2.1
def E_:=e0.2.2.2.1
def s_:=e0.2.2.2.2.1
def a_:=e0.2.2.2.2.2.1
def S_:=e0.2.2.2.2.2.2.1
def k_:=e0.2.2.2.2.2.2.2.1
def xc:=e0.2.2.2.2.2.2.2.2.1
def t_:=e0.2.2.2.2.2.2.2.2.2.1
def Q_:=e0.2.2.2.2.2.2.2.2.2.2.1
theorem T0:S0 cT w_ A_ E_ s_ a_ S_ k_ xc t_ Q_ e0.2.2.2.2.2.2.2.2.2.2.2:=by
 intro hS hk h;obtain ⟨v,ep,ho,hv,ue⟩:=hS;have hel:=Mo (prog:=cT) (w:=w_) (S:=S_) hv;have hf:(Et S_ xc).fits (k8 S_ v).size=aJ:=by refine aj (jG ..) ?_;exact uZ S_ S_ xc
 have JR:(k8 S_ v).size<=6:=by refine aj (jG ..) ?_;have:=bu S_.testBit (aN 6);exact this
 have hz:(k8 S_ v).size < scanBound:=by show _ < 4096;exact b7 (by assumption) (by decide)
 have hkey:(lu cT w_).is (k_:Int) (.int k_ t_)=aJ:=GP _ _ _ _;have hgw:∀(b:Bool) {s₁:aq} {Q':Unit->aq->Prop},Q' () s₁->aS (aX cT w_) A_ (match b with|true=>rule "set.scan.the-table-gave-way"|false=>dg ()) Q' E_ s₁:=
  λb s₁ Q' hq=>by cases b <;> first|exact ar hq|exact oh hq
 delta setAdd;refine bE (ag ((lu cT w_).pyHash hkey ?_));refine aj (show (lu cT w_).hash (k_:Int)=(k_:Int) from Mn k_ hk) ?_;delta setAddHashed setAddHashedIn;refine bE (ag (ly (o:={cls:= .type "set",dict:=av,data:= .set (k8 S_ v) ep (Et S_ xc)}) ho rfl hf ?_));dsimp only;refine aj (byScan_of rfl hz hel ..) ?_;refine aj (if_pos rfl ..) ?_;delta setAddByScan;refine ag (ag (oh ?_));have sc:∀(Q':ScanMet->aq->Prop),Q' (match (k8 S_ v).toList.findIdx? (λe=>(lu cT w_).is (k_:Int) e.2) with|some j=> .found (0+j)|none=> .absent) {s_ with toks:=s_.toks+1}->aS (aX cT w_) A_ (setScan a_ (.int k_ t_) (k_:Int) aJ (k8 S_ v)) Q' E_ {s_ with toks:=s_.toks+1}:=λQ' hq=>by
  have:=wpAny_setScan_of (A:=A_) (E:=E_) (s:={s_ with toks:=s_.toks+1}) (adding:=aJ) (k:=(k_:Int)) hkey (o:={cls:= .type "set",dict:=av,data:= .set (k8 S_ v) ep (Et S_ xc)}) ho rfl hf hel hq;rw [show (lu cT w_).hash (k_:Int)=(k_:Int) from Mn k_ hk] at this;exact this
 refine ag (sc _ ?_);have hfi:=O4 (prog:=cT) (w:=w_) (S:=S_) hv hk;cases hr:(k8 S_ v).toList.findIdx? (λe=>(lu cT w_).is (k_:Int) e.2) with
 |some j=>
  rw [hr] at hfi;have hb:S_.testBit k_=aJ:=hfi.symm;dsimp only;refine ar (ar ?_);have hor:∀S_,S_ < 64->∀k_:Nat,k_ < 6->S_.testBit k_=aJ->S_ ||| 2 ^ k_=S_:=by decide+kernel
  refine h s_.heap _ (JK a_ s_.heap) ?_ _;exact aj (hor S_ ue k_ hk hb ..) (⟨v,ep,ho,hv,ue⟩)
 |none=>
  rw [hr] at hfi;have hb:S_.testBit k_=aH:=hfi.symm;have hor:∀S_,S_ < 64->∀k_:Nat,k_ < 6->S_.testBit k_=aH->S_ ||| 2 ^ k_=S_+2 ^ k_:=by decide+kernel
  dsimp only;refine aj (Sd ue hk hb ..) ?_;dsimp only;have SR:=(Gj S_ ue k_ hk hb).2;have hv':∀j:Nat,∃t',HC v k_ (.int k_ t_) j= .int j t':=λj=>by
   delta HC;by_cases e:j=k_
   ·subst e;exact ⟨t_,by (refine aj (if_pos rfl ..) ?_;rfl)⟩
   ·refine aj (if_neg e ..) ?_;exact hv j
  have hz1:(k8 (S_+2 ^ k_) (HC v k_ (.int k_ t_))).size<=er:=by refine aj (jG ..) ?_;have:=bu (S_+2 ^ k_).testBit (aN 6);simp [eZ] at this ⊢;show _<=2 ^ 24;exact aw (by assumption) (by decide)
  refine ag (ar ?_);simp only [show (I3 (S_+2 ^ k_) S_ xc).plain=aJ from rfl,↓reduceIte,Bool.not_false,Nn];refine aj (hashByValue_scannable 8 (show (jT (k_:Int) t_).scannable=aJ from rfl)) (ag (ar ?_));simp only [show plainKind (jT (k_:Int) t_)=aJ from rfl,↓reduceIte];refine aj (O2 S_ ue k_ hk hb ..) (ag (wpAny_storeSet_of (o:={cls:= .type "set",dict:=av,data:= .set (k8 S_ v) ep (Et S_ xc)}) ho rfl ?_ hz1));have fin:∀h',ji a_ s_.heap h'->(∃ep',h'.get? a_=ae {cls:= .type "set",dict:=av,data:= .set (k8 (S_+2 ^ k_) (HC v k_ (.int k_ t_))) ep' (Et (S_+2 ^ k_) xc)})->Q_ aJ {s_ with heap:=h',toks:=s_.toks+1}:=λh' hs ⟨ep',e⟩=>by
   refine h h' _ hs ?_ _;exact aj (hor S_ ue k_ hk hb ..) (⟨_,ep',e,hv',SR⟩)
  have hg1:(s_.heap.update a_ (Obj.putSet (k8 (S_+2 ^ k_) (HC v k_ (.int k_ t_))) (I3 (S_+2 ^ k_) S_ xc))).get? a_=ae {cls:= .type "set",dict:=av,data:= .set (k8 (S_+2 ^ k_) (HC v k_ (.int k_ t_))) (ep+1) (I3 (S_+2 ^ k_) S_ xc)}:=
   bS (Obj.putSet (k8 (S_+2 ^ k_) (HC v k_ (.int k_ t_))) (I3 (S_+2 ^ k_) S_ xc)) ho rfl
  by_cases h4:(eZ S_).length=4
  ·(refine aj (decide_eq_true h4 ..) ?_;refine aj (if_pos rfl ..) ?_;refine aj (Mm ue hk hb h4 ..) ?_)
   refine ag (ar ?_);refine ag (wpAny_storeSet_of hg1 rfl ?_ hz1);refine ar (ar (fin _ ((bY _ a_ _).trans (bY _ a_ _)) ⟨ep+1+1,?_⟩));exact bS (Obj.putSet (k8 (S_+2 ^ k_) (HC v k_ (.int k_ t_))) (Et (S_+2 ^ k_) xc)) hg1 rfl
  ·(refine aj (decide_eq_false h4 ..) ?_;refine aj (if_neg (by decide) ..) ?_)
   refine ar (ar (fin _ (bY _ a_ _) ⟨ep+1,?_⟩));exact fZ (O3 S_ ue k_ hk hb h4 ..) (hg1)
end nR
theorem nR{a:ay}{S k:Nat}{led:Bool}{t:HR}{Q:Bool->aq->Prop}:nR.S0 prog w A E s a S k led t Q 0:=by with_unfolding_all exact CY _ _ _ _ _ _ _ _ _ _ _ _ nR.S0 @nR.T0 prog w A E s a S k led t Q 0
noncomputable def nS(ns:List Nat):Nat:=ns.foldl (λS k=>S ||| 2 ^ k) 0
theorem zW.at{h h':dG}{a:ay}{S:Nat}{led:Bool}(x:zW h a S led)(hk:∀o,h.get? a=ae o->h'.get? a=ae o):zW h' a S led:=let ⟨v,ep,e,r⟩:=x;⟨v,ep,hk _ e,r⟩
theorem Mp{a I l:ay}{items:Array ai}{ns:List Nat}{led:Bool}{Rr:wz->aq->Prop}(hh:A.handled=av)(iP:l≠I)(ha:a≠I/\a≠l)(hi:∀(j:Nat) (v:ai),items[j]? =ae v->∃(k:Nat) (t:HR),ns[j]? =ae k/\k < 6/\v=jT (k:Int) t)(hlen:ns.length=items.size)
 (base:dG) (hR:∀h' tk,zW h' a (nS ns) led->(∀b o,b≠a->b≠I->base.get? b=ae o->h'.get? b=ae o)->Rr (.ok (.ret .none)) {s with heap:=h',toks:=tk}):
 ∀(n i:Nat) (h:dG) (tk:Nat),items.size - i=n->i<=items.size->h.IsListIter I l i->h.IsList l items->zW h a (nS (ns.take i)) led->(∀b o,b≠a->b≠I->base.get? b=ae o->h.get? b=ae o)->
  iV (aX prog w) A (.builtin "set.update.loop" ⟨[.ref a,.ref I],[]⟩) Rr {s with heap:=h,toks:=tk}:=by
 have W:Walks prog w A.in1 I [I,l] [I] items.size (λi v=>items[i]? =ae v) (λi h=>h.IsListIter I l i/\h.IsList l items):=Walks.list (by simp [hh]) I l iP items;intro n;induction n with
 |zero=>
  intro i h tk hn hi' hit hl hS hk;have qj:i=items.size:=by lia
  subst qj;refine kO zw (aj (gR lD _ ..) ?_);show aS _ A.in1 (l0 (.ref I) >>=_) _ _ _;refine ag (W.done _ _ _ ⟨hit,hl⟩ λh' nx S8=>?_);show aS _ A.in1 (vh eG) _ _ _;rw [d6 (by exact ll (by assumption))] at hS;exact ar (hR h' nx (hS.at λo e=>S8 _ _ (by simp [ha.1]) e) λb o h1 h2 e=>S8 b o (by simp [h2]) (hk b o h1 h2 e))
 |succ n ih=>
  intro i h tk hn hi' hit hl hS hk;have hlt:i < items.size:=by lia
  refine kO zw (aj (gR lD _ ..) ?_);show aS _ A.in1 (l0 (.ref I) >>=_) _ _ _;refine ag (W.item i _ _ _ hlt ⟨hit,hl⟩ λv h' nx hv ⟨S1,hl'⟩ S8=>?_);refine cC (hi i v hv) λk t hnk hk6 iC=>?_;subst iC;show aS _ A.in1 (eW [jT (k:Int) t] (setAdd a (.int (k:Int) t)) >>=_) _ _ _;refine ag (bE (nR (s:={s with heap:=h',toks:=nx}) (hS.at λo e=>S8 _ _ (by simp [ha.1]) e) hk6 λh2 tk2 hsb hS2 b=>?_));refine ar ⟨rm lD _,ih (i+1) h2 tk2 (by lia) hlt ?_ ?_ ?_ ?_⟩
  ·exact S1.at λo e=>(hsb.2 I (gf ha.1)).trans e
  ·obtain ⟨o,ho,q⟩:=hl';exact ⟨o,(hsb.2 l (gf ha.2)).trans ho,q⟩
  ·have:nS (ns.take (i+1))=nS (ns.take i) ||| 2 ^ k:=by
    (refine aj (dE ..) ?_;refine aj (hnk ..) ?_);delta nS;simp
   refine aj (this ..) ?_;exact hS2
  ·exact λb o h1 h2 e=>(hsb.2 b h1).trans (S8 b o (by simp [h2]) (hk b o h1 h2 e))
theorem yP{h:dG}{l:ay}:(h.push {cls:= .type "list_iterator",data:= .fields #[.ref l,.int 0 0]}).IsListIter h.objs.size l 0:=⟨_,aW _ rfl,rfl,rfl⟩
def qN.S0(prog:dJ)(w:ee)(A:bh)(a l:ay)(Rr:wz->aq->Prop):Prop:=∀{s:aq} {items:Array ai} {ns:List Nat} {led:Bool} (hh:A.handled=av) (ha:a≠l) (hS:zW s.heap a 0 led) (hl:s.heap.IsList l items) (hi:∀(j:Nat) (v:ai),items[j]? =ae v->∃(k:Nat) (t:HR),ns[j]? =ae k/\k < 6/\v=jT (k:Int) t) (hlen:ns.length=items.size) (hR:∀h' tk,zW h' a (nS ns) led->(∀b o,b≠a->s.heap.get? b=ae o->h'.get? b=ae o)->Rr (.ok (.ret .none)) {s with heap:=h',toks:=tk}),iV (aX prog w) A (.call (.builtin "set.__init__") ⟨[.ref a,.ref l],[]⟩) Rr s
namespace qN
@[irreducible] def e0:=Fl sV E6 Fq cL cL s7 S0
def cT:=e0.1
def w_:=e0.2.1
def A_:=e0.2.2.1
def a_:=e0.2.2.2.1
def l_:=e0.2.2.2.2.1
def Rr_:=e0.2.2.2.2.2
theorem T0:S0 cT w_ A_ a_ l_ Rr_:=by
 intro s items ns led hh ha hS hl hi hlen hR;obtain ⟨v,ep,ho,hv,ue⟩:=id hS;have hT:s.TypeIs (.ref a_) "set":=⟨_,ho,rfl⟩;refine jj mC.init.plain F.entry_set_init (check_set_init_1 hT ?_);obtain ⟨ol,MZ,hcl,nl,Fc⟩:=id hl;obtain ⟨ocls,odict,odata,oslots⟩:=ol;simp only at hcl Fc;subst hcl;subst Fc;have hsls:=F.sub_list_set;have hslf:=F.sub_list_frozenset;have iP:(lX "list" == lX "dict")=aH:=by decide
 obtain ⟨hp,g,d,tk,os⟩:=s;have TT:hp.get? a_=ae {cls:= .type "set",dict:=av,data:= .set #[] ep (.fresh 0 0 led),slots:=#[]}:=ho;unfold Builtin.«set.__init__» noKeywords Builtin.Frozenset.updateFrom;generalize hPI:q8=PI
 wp_walk
 subst hPI;have hl1:hp.IsList l_ items:=hl;have ha1:a_ < hp.objs.size:=bN ho;have QM:l_ < hp.objs.size:=bN MZ;refine lr hl1 (ag (wpAny_runValue ?_));refine Mp (s:=⟨hp,g,d,tk,os⟩) (a:=a_) (I:=hp.objs.size) (l:=l_) (items:=items) (ns:=ns) (led:=led) (by simp [hh]) (c8 QM) ⟨c8 ha1,ha⟩ hi hlen hp (λh' nx h1 h2=>?_) items.size 0 _ tk rfl (gp _) yP (hl1.push _) ?_ (λb o h1 h2 e=>az _ e)
 ·show aS _ _ _ _ _ _;refine ar (ar ?_);exact hR h' nx h1 λb o hb e=>h2 b o hb (c8 (bN e)) e
 ·exact hS.at λo e=>az _ e
end qN
theorem qN{a l:ay}{Rr:wz->aq->Prop}:qN.S0 prog w A a l Rr:=by with_unfolding_all exact uA _ _ _ _ _ _ qN.S0 @qN.T0 prog w A a l Rr
def lQ.S0(prog:dJ)(w:ee)(A:bh)(E:ai->aq->Prop)(a:ai)(Q₁:ai->aq->Prop):Prop:=∀{s:aq} (h:Q₁ (.ref s.heap.objs.size) {s with heap:=s.heap.push {cls:= .type "set",dict:=av,data:= .set #[] 0 (.fresh 0 0 (!(w.params.followText "set-order")))}}),iV (aX prog w) A (.call (.builtin "set.__new__") ⟨[.type "set",a],[]⟩) (wants Q₁ E) s
namespace lQ
@[irreducible] def e0:=Fl sV E6 Fq s7 gL s7 S0
def cT:=e0.1
def w_:=e0.2.1
def A_:=e0.2.2.1
def E_:=e0.2.2.2.1
def a_:=e0.2.2.2.2.1
def Q₁_:=e0.2.2.2.2.2
theorem T0:S0 cT w_ A_ E_ a_ Q₁_:=by
 intro s h;refine kK ?_;show aS _ A_.in1 (do iI "set.__new__" ⟨[.type "set",a_],[]⟩;ND (.builtin "set.__new__" ⟨[.type "set",a_],[]⟩)) _ _ s;refine ag (cM (F.newCall_set_1 a_) (ar ⟨rm F.plain_set_new _,kO F.entry_set_new ?_⟩));refine aj (gR F.plain_set_new _ ..) ?_;unfold Builtin.«set.__new__» Builtin.Frozenset.newClass;have qZ:=sub_set_self;obtain ⟨hp,g,d,tk,os⟩:=s;dsimp only
 wp_walk
 refine gC (ar ?_);dsimp only;delta newObj;refine ag (vm (ar ?_));exact ar h
end lQ
theorem lQ(a:ai){Q₁:ai->aq->Prop}:lQ.S0 prog w A E a Q₁:=by with_unfolding_all exact uA _ _ _ _ _ _ lQ.S0 @lQ.T0 prog w A E a Q₁
def lR.S0(prog:dJ)(w:ee)(A:bh)(E:ai->aq->Prop)(s:aq)(l:ay)(Q:ai->aq->Prop)(_:Nat):Prop:=∀{items:Array ai} {ns:List Nat} (hh:A.handled=av) (hl:s.heap.IsList l items) (hi:∀(j:Nat) (v:ai),items[j]? =ae v->∃(k:Nat) (t:HR),ns[j]? =ae k/\k < 6/\v=jT (k:Int) t) (hlen:ns.length=items.size) (h:∀(h':dG) (tk:Nat) (led:Bool),led= !(w.params.followText "set-order")->zW h' s.heap.objs.size (nS ns) led->(∀b o,s.heap.get? b=ae o->h'.get? b=ae o)->Q (.ref s.heap.objs.size) {s with heap:=h',toks:=tk}),aS (aX prog w) A (ku (.type "set") [.ref l]) Q E s
namespace lR
@[irreducible] def e0:=Nr sV E6 Fq s7 zJ cL s7 eO S0
def cT:=e0.1
def w_:=e0.2.1
def A_:=e0.2.2.1
def E_:=e0.2.2.2.1
def s_:=e0.2.2.2.2.1
def l_:=e0.2.2.2.2.2.1
def Q_:=e0.2.2.2.2.2.2.1
theorem T0:S0 cT w_ A_ E_ s_ l_ Q_ e0.2.2.2.2.2.2.2:=by
 intro items ns hh hl hi hlen h;have hmade:=mC.made;have qZ:=mC.sub;refine oy (mC.mro) λc tl hmro=>?_;have h1:=mC.notType;have h2:=mC.canCreate;have hct:=F.typeCall_set_1 (.ref l_);refine eF (kK ?_);show aS _ _ (callAny (.type "set") _) _ _ _;refine ar ⟨Code.quiet_builtin _ (by decide+kernel),kO F.entry_type_call ?_⟩;refine aj (Around.under_plain (weight_type_call_type "set" [.ref l_] []) rfl ..) ?_
 repeat (any_goals (first|assumption|wp_step))
 refine codeAny_mono (lQ (.ref l_) (E:=E_) (Q₁:=λobj s₁=>obj= .ref s_.heap.objs.size/\s₁={s_ with heap:=s_.heap.push {cls:= .type "set",dict:=av,data:= .set #[] 0 (.fresh 0 0 (!(w_.params.followText "set-order")))}}) ⟨rfl,rfl⟩) λr s₁ hr=>?_;rcases r with e|(_|_|_|obj)
 ·exact hr
 ·exact hr.elim
 ·exact hr.elim
 ·exact hr.elim
 refine dU hr λkG ma=>?_;clear hr;subst kG;subst ma;have hS:(s_.heap.push {cls:= .type "set",dict:=av,data:= .set #[] 0 (.fresh 0 0 (!(w_.params.followText "set-order")))}).get? s_.heap.objs.size=ae {cls:= .type "set",dict:=av,data:= .set #[] 0 (.fresh 0 0 (!(w_.params.followText "set-order")))}:=aW _ rfl;have hT:Shared.TypeIs {s_ with heap:=s_.heap.push {cls:= .type "set",dict:=av,data:= .set #[] 0 (.fresh 0 0 (!(w_.params.followText "set-order")))}} (.ref s_.heap.objs.size) "set":=⟨_,hS,rfl⟩;have TU:=mC.init.lookup;have hbi:=mC.init.bind (.ref s_.heap.objs.size)
 repeat (any_goals (first|assumption|wp_step))
 have hl':(s_.heap.push {cls:= .type "set",dict:=av,data:= .set #[] 0 (.fresh 0 0 (!(w_.params.followText "set-order")))}).IsList l_ items:=hl.push _;refine aK (id hl) λol MZ z=>qN (a:=s_.heap.objs.size) (l:=l_) (items:=items) (ns:=ns) (led:= !(w_.params.followText "set-order")) (by simp [hh]) (jJ (bN MZ)) ⟨λk=> .int k 0,0,hS,λk=>⟨0,rfl⟩,by decide⟩ hl' hi hlen λh' tk h3 h4=>ar (ar ?_);exact h h' tk _ rfl h3 λb o e=>h4 b o (c8 (bN e)) (az _ e)
end lR
theorem lR{l:ay}{Q:ai->aq->Prop}:lR.S0 prog w A E s l Q 0:=by with_unfolding_all exact Bx _ _ _ _ _ _ _ _ lR.S0 @lR.T0 prog w A E s l Q 0
variable {S ep:Nat}{a:ay}{v:Nat->ai}
theorem yQ{α:Type}:∀{l:List α} {i:Nat} {x:α},l[i]? =ae x->(x::l.eraseIdx i).Perm l
 |a::l,0,x,h=>by simp at h;subst h;exact ic _
 |a::l,i+1,x,h=>by
  rw [ug] at h;exact aj (List.eraseIdx_cons_succ ..) ((jh _ _ _).trans ((yQ h).cons a))
theorem A9{α:Type}(next:Nat->Nat):∀(fuel k:Nat) (l:List α) (out:Array α),l.length<=fuel->(pickOrder.go next fuel k l out).toList.Perm (out.toList++l)
 |0,k,l,out,h=>by
  have:l=[]:=pA (by lia);subst this;exact GU (cy _).symm
 |fuel+1,k,l,out,h=>by
  show (match l[next k % l.length]? with|some x=>pickOrder.go next fuel (k+1) (l.eraseIdx (next k % l.length)) (out.push x)|none=>out).toList.Perm _;cases hx:l[next k % l.length]? with
  |none=>
   cases l with
   |nil=>exact GU (cy _).symm
   |cons a l=>exact absurd (sq.mp hx) (Nat.not_le.mpr (ef _ (Nat.succ_pos _)))
  |some x=>
   have hi:next k % l.length < l.length:=(aB.mp hx).1
   have hl:(l.eraseIdx (next k % l.length)).length<=fuel:=by refine aj (List.length_eraseIdx_of_lt hi ..) ?_;lia
   refine (A9 next fuel (k+1) _ _ hl).trans ?_;refine aj (CB ..) ?_;refine aj (bU ..) ?_;exact List.Perm.append_left _ (yQ hx)
noncomputable def tV(w:ee)(a:ay)(ep:Nat)(es:Array (Int×ai)):Array (Int×ai):=if w.params.followText "set-order" then pickOrder (w.params.setOrder a ep) es else es
theorem r9(w:ee)(a:ay)(ep:Nat)(es:Array (Int×ai)):(tV w a ep es).toList.Perm es.toList:=by
 unfold tV
 split
 ·have:=A9 (w.params.setOrder a ep) es.size 0 es.toList #[] (by exact bp _);exact this
 ·exact ic _
theorem i8:Slot "set_iterator" "__next__" "set_iterator.__next__":=
 .of (owner:="set_iterator") (n:="__next__") (by (refine aj (fg ..) ?_;refine aj (dB ..) ?_);kernel_rfl) (by decide+kernel) (by decide+kernel) (by decide+kernel) (by first|exact .inl (by decide+kernel)|exact .inr (by decide+kernel)) (by refine aj (iR ..) ?_;kernel_rfl)
theorem sa:xp table "set_iterator.__next__"=ae Builtin.«set_iterator.__next__»:=Nk (by kernel_rfl)
theorem yR:xp table "set.__iter__"=ae Builtin.«frozenset.__iter__»:=CF (id':="frozenset.__iter__") (by kernel_rfl) rfl (by decide+kernel) (by kernel_rfl)
theorem tm(a:ai):rb "set_iterator.__next__" ⟨[a],[]⟩:=by unfold rb;kernel_rfl
noncomputable def sb(w:ee)(S i:Nat):Nat:=if w.params.followText "set-order" then 0 else if i=0 then 0 else (eZ S).getD (i - 1) 0+1
noncomputable abbrev yS(w:ee)(S:Nat)(v:Nat->ai)(ep:Nat):oY:={cls:= .type "set",dict:=av,data:= .set (k8 S v) ep (Et S (!(w.params.followText "set-order")))}
structure TP(w:ee)(it a:ay)(S:Nat)(v:Nat->ai)(ep i:Nat)(h:dG):Prop where
 it:∃o,h.get? it=ae o/\o.cls= .type "set_iterator"/\o.data= .fields #[.int (sb w S i) 0,.int i 0,.ref a,.int (eZ S).length 0,.int ep 0]
 at':h.get? a=ae (yS w S v ep)
section
variable {it:ay}{i:Nat}
theorem k9(b:Bool):(Et S b).fits (k8 S v).size=aJ:=by refine aj (jG ..) ?_;exact uZ S S b
theorem nT{Q:Bool->aq->Prop}(h:Q (w.params.followText "set-order") s):aS (aX prog w) A setsByText Q E s:=by unfold setsByText;exact ag (gC (ar h))
def lS.S0(prog:dJ)(w:ee)(A:bh)(E:ai->aq->Prop)(a:ay)(S ep i:Nat)(v:Nat->ai)(_:Nat):Prop:=∀{s:aq} {Q:Option (ai×Nat)->aq->Prop} (ue:S < 64) (hs:s.heap.get? a=ae (yS w S v ep)) (hi:i < (eZ S).length) (h:∀x,(∃hh,(tV w a ep (k8 S v))[i]? =ae (hh,x))->Q (ae (x,sb w S (i+1))) s),aS (aX prog w) A (setNext a (sb w S i) i ep) Q E s
namespace lS
@[irreducible] def e0:=zI sV E6 Fq s7 cL eO eO eO inferInstance eO S0
def cT:=e0.1
def w_:=e0.2.1
def A_:=e0.2.2.1
def E_:=e0.2.2.2.1
def a_:=e0.2.2.2.2.1
def S_:=e0.2.2.2.2.2.1
def Ew:=e0.2.2.2.2.2.2.1
def i_:=e0.2.2.2.2.2.2.2.1
def v_:=e0.2.2.2.2.2.2.2.2.1
theorem T0:S0 cT w_ A_ E_ a_ S_ Ew i_ v_ e0.2.2.2.2.2.2.2.2.2:=by
 intro s Q ue hs hi h;have hz:(tV w_ a_ Ew (k8 S_ v_)).size=(eZ S_).length:=by have:=(r9 w_ a_ Ew (k8 S_ v_)).length_eq;simp at this;(refine aj (this ..) ?_;refine aj (jG ..) ?_;rfl)
 obtain ⟨⟨hh,x⟩,hx⟩:∃e,(tV w_ a_ Ew (k8 S_ v_))[i_]? =ae e:=⟨_,dY (by lia)⟩;have:=h x ⟨hh,hx⟩;unfold setNext;refine ag (ly hs rfl (k9 _) ?_);dsimp only;refine ag (nT ?_);cases hb:w_.params.followText "set-order" with
 |true=>refine aj (if_pos rfl ..) ?_;refine aj (if_neg (by simp) ..) (ag ?_);unfold setWalk;refine ag (ly hs rfl (k9 _) ?_);dsimp only;refine ag (nT ?_);refine aj (hb ..) ?_;refine aj (if_pos rfl ..) ?_;refine ag (gC (ar ?_));refine ar ?_;unfold tV at hx;rw [hb,if_pos rfl] at hx;unfold sb at this ⊢;rw [hb,if_pos rfl] at this ⊢;show Q ((pickOrder (w_.params.setOrder a_ Ew) (k8 S_ v_))[i_]?.map λe=>(e.2,0)) s;refine aj (hx ..) ?_;exact this
 |false=>
  simp only [dj,if_false];unfold tV at hx;rw [hb,if_neg (by decide)] at hx;simp only [sb,hb,dj,if_false] at this ⊢;refine f5 (λhd=>EU (show aH=aJ from hd)) λz=>ag (ar (ar ?_));have hp:(Et S_ (!aH)).place=(eZ S_).toArray:=rfl;refine aj (hp ..) ?_;refine aj (Eu S_ ue i_ (by exact cI (by assumption)) ..) ?_;refine aj (hx ..) ?_;refine aj (show (eZ S_).toArray[i_]? =ae ((eZ S_)[i_]) by simp [hi]) ?_;have e:(eZ S_).getD (i_+1 - 1) 0=(eZ S_)[i_]:=by (refine aj (Nat.add_sub_cancel ..) ?_;refine aj (bR ..) ?_;refine aj (bJ hi ..) ?_);rfl
  rw [if_neg (by lia),e] at this;exact this
end lS
theorem lS:lS.S0 prog w A E a S ep i v 0:=by with_unfolding_all exact uB _ _ _ _ _ _ _ _ _ _ lS.S0 @lS.T0 prog w A E a S ep i v 0
theorem TP.typeIs(x:TP w it a S v ep i s.heap):s.TypeIs (.ref it) "set_iterator":=let ⟨o,h1,h2,_⟩:=x.it;⟨o,h1,h2⟩
def jA.S0(prog:dJ)(w:ee)(A:bh)(E:ai->aq->Prop)(s:aq)(it a:ay)(S ep i:Nat)(Q:Option ai->aq->Prop)(_:Nat):Prop:=∀{v:Nat->ai} (ue:S < 64) (iP:it≠a) (x:TP w it a S v ep i s.heap) (hi:i < (eZ S).length) (hQ:∀u h',(∃hh,(tV w a ep (k8 S v))[i]? =ae (hh,u))->TP w it a S v ep (i+1) h'->ji it s.heap h'->Q (ae u) {s with heap:=h'}),aS (aX prog w) A (l0 (.ref it)) Q E s
namespace jA
@[irreducible] def e0:=HS sV E6 Fq s7 zJ cL cL eO eO eO s7 eO S0
def cT:=e0.1
def w_:=e0.2.1
def A_:=e0.2.2.1
def E_:=e0.2.2.2.1
def s_:=e0.2.2.2.2.1
def sx:=e0.2.2.2.2.2.1
def a_:=e0.2.2.2.2.2.2.1
def S_:=e0.2.2.2.2.2.2.2.1
def Ew:=e0.2.2.2.2.2.2.2.2.1
def i_:=e0.2.2.2.2.2.2.2.2.2.1
def Q_:=e0.2.2.2.2.2.2.2.2.2.2.1
theorem T0:S0 cT w_ A_ E_ s_ sx a_ S_ Ew i_ Q_ e0.2.2.2.2.2.2.2.2.2.2.2:=by
 intro v ue iP x hi hQ;refine eg (x.it) λo ho hc hd=>?_;unfold l0;refine ag (kT (dX (name:=fQ "__next__") x.typeIs i8 (dp i8 x.typeIs sa ?_ (tm _))));unfold Builtin.«set_iterator.__next__»;refine ag (ar ?_);refine ag (wpAny_fieldsOf ho hd ?_);dsimp only;refine ag (E4 x.at' rfl (k9 _) ?_);refine aj (if_neg (by rw [jG];simp) ..) ?_;refine ag (lS ue x.at' hi λu hu=>?_);show aS _ _ (setField (.ref sx) 0 (pB (sb w_ S_ (i_+1))) >>=λz=>setField (.ref sx) 1 (pB ((i_:Int)+1)) >>=λz=>vh u) _ _ _;refine ag (eH ho hd (by decide) ?_);have ho1:=bS (Fh (·.setIfInBounds 0 (pB (sb w_ S_ (i_+1))))) ho (iW (dP hd _));have hd1:=dP hd (·.setIfInBounds 0 (pB (sb w_ S_ (i_+1))));refine ag (eH ho1 hd1 (by decide) ?_);refine ar ⟨_,rfl,ar (hQ u _ hu ⟨⟨_,bS _ ho1 (iW (dP hd1 _)),?_,?_⟩,?_⟩ ((bY ..).trans (bY ..)))⟩
 ·(refine aj (pI ..) ?_;refine aj (pI ..) ?_);exact hc
 ·refine aj (dP hd1 ..) ?_;simp [pB]
 ·refine aj (((bY ..).trans (bY ..)).2 a_ (gf iP)) ?_;exact x.at'
end jA
theorem jA{Q:Option ai->aq->Prop}:jA.S0 prog w A E s it a S ep i Q 0:=by with_unfolding_all exact CY _ _ _ _ _ _ _ _ _ _ _ _ jA.S0 @jA.T0 prog w A E s it a S ep i Q 0
def hV.S0(prog:dJ)(w:ee)(A:bh)(a:ay)(S ep:Nat)(v:Nat->ai)(_:Nat):Prop:=∀{E:ai->aq->Prop} {s:aq} {Q:Option (ai×Nat)->aq->Prop} (ue:S < 64) (hs:s.heap.get? a=ae (yS w S v ep)) (h:Q av s),aS (aX prog w) A (setNext a (sb w S (eZ S).length) (eZ S).length ep) Q E s
namespace hV
@[irreducible] def e0:=Nr sV E6 Fq cL eO eO inferInstance eO S0
def cT:=e0.1
def w_:=e0.2.1
def A_:=e0.2.2.1
def a_:=e0.2.2.2.1
def S_:=e0.2.2.2.2.1
def Ew:=e0.2.2.2.2.2.1
def v_:=e0.2.2.2.2.2.2.1
theorem T0:S0 cT w_ A_ a_ S_ Ew v_ e0.2.2.2.2.2.2.2:=by
 intro E s Q ue hs h;have hz:(tV w_ a_ Ew (k8 S_ v_)).size=(eZ S_).length:=by have:=(r9 w_ a_ Ew (k8 S_ v_)).length_eq;simp at this;(refine aj (this ..) ?_;refine aj (jG ..) ?_;rfl)
 have hx:(tV w_ a_ Ew (k8 S_ v_))[(eZ S_).length]? =av:=by simp [hz]
 unfold setNext;refine ag (ly hs rfl (k9 _) ?_);dsimp only;refine ag (nT ?_);cases hb:w_.params.followText "set-order" with
 |true=>refine aj (if_pos rfl ..) ?_;refine aj (if_neg (by simp) ..) (ag ?_);unfold setWalk;refine ag (ly hs rfl (k9 _) ?_);dsimp only;refine ag (nT ?_);refine aj (hb ..) ?_;refine aj (if_pos rfl ..) ?_;refine ag (gC (ar ?_));refine ar ?_;unfold tV at hx;rw [hb,if_pos rfl] at hx;show Q ((pickOrder (w_.params.setOrder a_ Ew) (k8 S_ v_))[(eZ S_).length]?.map λe=>(e.2,_)) s;refine aj (hx ..) ?_;exact h
 |false=>simp only [dj,if_false,sb,hb];refine f5 (λhd=>EU (show aH=aJ from hd)) λz=>ag (ar (ar ?_));have hp:(Et S_ (!aH)).place=(eZ S_).toArray:=rfl;refine aj (hp ..) ?_;refine aj (Eu S_ ue (eZ S_).length (by exact jf _) ..) ?_;refine aj (show (k8 S_ v_)[(eZ S_).length]? =av by simp [jG]) ?_;exact h
end hV
theorem hV:hV.S0 prog w A a S ep v 0:=by with_unfolding_all exact Bx _ _ _ _ _ _ _ _ hV.S0 @hV.T0 prog w A a S ep v 0
def km.S0(prog:dJ)(w:ee)(A:bh)(E:ai->aq->Prop)(s:aq)(it a:ay)(S ep:Nat)(Q:Option ai->aq->Prop):Prop:=∀{v:Nat->ai} (hh:A.handled=av) (ue:S < 64) (x:TP w it a S v ep (eZ S).length s.heap) (hQ:∀h',rv it s.heap h'->Q av {s with heap:=h'}),aS (aX prog w) A (l0 (.ref it)) Q E s
namespace km
@[irreducible] def e0:=zI sV E6 Fq s7 zJ cL cL eO eO s7 S0
def cT:=e0.1
def w_:=e0.2.1
def A_:=e0.2.2.1
def E_:=e0.2.2.2.1
def s_:=e0.2.2.2.2.1
def sx:=e0.2.2.2.2.2.1
def a_:=e0.2.2.2.2.2.2.1
def S_:=e0.2.2.2.2.2.2.2.1
def Ew:=e0.2.2.2.2.2.2.2.2.1
def Q_:=e0.2.2.2.2.2.2.2.2.2
theorem T0:S0 cT w_ A_ E_ s_ sx a_ S_ Ew Q_:=by intro v hh ue x hQ;refine eg (x.it) λo ho hc hd=>?_;unfold l0;refine ag (kT (dX (name:=fQ "__next__") x.typeIs i8 (dp i8 x.typeIs sa ?_ (tm _))));unfold Builtin.«set_iterator.__next__»;refine ag (ar ?_);refine ag (wpAny_fieldsOf ho hd ?_);dsimp only;refine ag (E4 x.at' rfl (k9 _) ?_);refine aj (if_neg (by rw [jG];simp) ..) ?_;refine ag (hV ue x.at' ?_);show aS _ _ (setField (.ref sx) 2 .none >>=_) _ _ _;refine ag (eH ho hd (by decide) ?_);show aS _ _ (Tw (.type "StopIteration") [] >>=_) _ _ _;refine nH hh ?_;refine ag (xv (T:="StopIteration") (b:=aJ) ⟨_,aW _ rfl,rfl⟩ TF ?_);exact ar (hQ _ (((bY ..).extBut.push _).push _))
end km
theorem km{Q:Option ai->aq->Prop}:km.S0 prog w A E s it a S ep Q:=by with_unfolding_all exact uB _ _ _ _ _ _ _ _ _ _ km.S0 @km.T0 prog w A E s it a S ep Q
def tW.S0(prog:dJ)(w:ee)(A:bh)(s:aq)(a:ay)(S ep:Nat)(v:Nat->ai)(Q:ai->aq->Prop)(_:Nat):Prop:=∀{E:ai->aq->Prop} (hs:s.heap.get? a=ae (yS w S v ep)) (hQ:Q (.ref s.heap.objs.size) {s with heap:=s.heap.push {cls:= .type "set_iterator",data:= .fields #[.int 0 0,.int 0 0,.ref a,.int (eZ S).length 0,.int ep 0]}}),aS (aX prog w) A (q8 (.ref a)) Q E s
namespace tW
@[irreducible] def e0:=zI sV E6 Fq zJ cL eO eO inferInstance s7 eO S0
def cT:=e0.1
def w_:=e0.2.1
def A_:=e0.2.2.1
def s_:=e0.2.2.2.1
def a_:=e0.2.2.2.2.1
def S_:=e0.2.2.2.2.2.1
def Ew:=e0.2.2.2.2.2.2.1
def v_:=e0.2.2.2.2.2.2.2.1
def Q_:=e0.2.2.2.2.2.2.2.2.1
theorem T0:S0 cT w_ A_ s_ a_ S_ Ew v_ Q_ e0.2.2.2.2.2.2.2.2.2:=by
 intro E hs hQ;have hT:s_.TypeIs (.ref a_) "set":=⟨_,hs,rfl⟩;refine vq hT F.slot_set_iter (dp F.slot_set_iter hT yR ?_ (F.args_set_iter_1 _));unfold Builtin.«frozenset.__iter__»;refine ag (ar ?_);unfold Builtin.Frozenset.sizeOf;refine ag (ag (E4 hs rfl (k9 _) (ar ?_)));refine ag ?_;unfold setDrawn;refine ag (ly hs rfl (k9 _) ?_);dsimp only;refine ag (nT (ar ?_));refine f5 (λhd=>?_) λz=>?_
 ·have hd':(!(w_.params.followText "set-order") && aH)=aJ:=hd;rw [kN] at hd';exact vG hd'
 refine ag (ar ?_);refine ag (wpAny_setEpoch_of hs rfl (k9 _) ?_);refine ag (jg (ar ⟨_,rfl,"set_iterator",_,⟨_,aW _ rfl,rfl⟩,i8.lookup,?_⟩));exact aj (jG ..) (hQ)
end tW
theorem tW{Q:ai->aq->Prop}:tW.S0 prog w A s a S ep v Q 0:=by with_unfolding_all exact uB _ _ _ _ _ _ _ _ _ _ tW.S0 @tW.T0 prog w A s a S ep v Q 0
def tX.S0(r:ay)(_:Nat):Prop:=∀{prog:dJ} {w:ee} {A:bh} {E:ai->aq->Prop} {s:aq} {Q:Bool->aq->Prop} (hT:s.TypeIs (.ref r) "set") (h:Q aH s),aS (aX prog w) A (QW (.ref r)) Q E s
namespace tX
@[irreducible] def e0:=P8 cL eO S0
def r_:=e0.1
theorem T0:S0 r_ e0.2:=by
 intro prog w A E s Q hT h;unfold QW;refine ag (h8 hT F.slot_set_len.lookup ?_);generalize hid:("set.__len__":String)=id0
 wp_delta
 refine aj (show QT id0=ae ("set","__len__") from by subst hid;decide+kernel) ?_;subst hid;refine ag (xv (T:="set") (b:=aJ) hT (by refine aj (iR ..) ?_;kernel_rfl) ?_);refine f5 (λwY=>absurd wY (by decide)) (λz=>?_);refine f5 (λz=>?_) (λwY=>absurd (by decide+kernel) wY);refine ag (wpAny_typeOf hT ?_);exact ar h
end tX
theorem tX{r:ay}:tX.S0 r 0:=by with_unfolding_all exact Fk _ _ tX.S0 @tX.T0 r 0
end
theorem tn:Slot "set_iterator" "__iter__" "set_iterator.__iter__":=
 .of (owner:="set_iterator") (n:="__iter__") (by (refine aj (fg ..) ?_;refine aj (dB ..) ?_);kernel_rfl) (by decide+kernel) (by decide+kernel) (by decide+kernel) (by first|exact .inl (by decide+kernel)|exact .inr (by decide+kernel)) (by refine aj (iR ..) ?_;kernel_rfl)
theorem yT:xp table "set_iterator.__iter__"=ae Builtin.«dict_keyiterator.__iter__»:=CF (id':="dict_keyiterator.__iter__") (by kernel_rfl) rfl (by decide+kernel) (by kernel_rfl)
theorem zX(a:ai):rb "set_iterator.__iter__" ⟨[a],[]⟩:=by unfold rb;kernel_rfl
theorem O5(ue:S < 64):KdlSrc prog w "set" a a (eZ S).length (λi u=>∃hh,(tV w a ep (k8 S v))[i]? =ae (hh,u)) (λh=>h.get? a=ae (yS w S v ep)) where
 type:=λs h=>⟨_,h,rfl⟩
 there:=λh e=>⟨bN e,bN e⟩
 keep:=λh h' e hk=>hk a (.inl rfl) _ e
 notList:=by decide
 notTuple:=by decide
 hint:=λA E s Q e hq=>tX ⟨_,e,rfl⟩ hq
 iter:=λA s hh e=>by
  have hlt:=bN e;refine ⟨_,λi h=>TP w s.heap.objs.size a S v ep i h,λE Q hq=>tW e hq,⟨λb hb=>by simp at hb;simp [hb],λi h h' st hk=>⟨?_,hk a (by exact ab _ aa) _ st.at'⟩,λi s Q E hi st hQ=>jA ue (jJ hlt) st hi λu h' hu st' hs=>hQ u h' s.toks hu st' λb o hb e=>hs.extBut b o (λq=>hb (by simp [q])) e,λs Q E st hQ=>km hh ue st λh' he=>hQ h' s.toks λb o hb e=>he b o (λq=>hb (by simp [q])) e,λi s Q E st hQ=>?_⟩,?_⟩
  ·exact eg (st.it) λo h1 h2 h3=>⟨o,hk _ (by exact aa) _ h1,h2,h3⟩
  ·have hT:=st.typeIs;refine vq hT tn (dp tn hT yT ?_ (zX _));show aS _ _ (vh _) _ _ s;exact ar ⟨_,rfl,"set_iterator",_,hT,i8.lookup,hQ⟩
  ·refine ⟨⟨_,aW _ rfl,rfl,?_⟩,az _ e⟩;simp [sb]
theorem uj.of_vals:∀{vs:List ai} {ns:List Int},vs.length=ns.length->(∀(j:Nat) (u:ai) (n:Int),vs[j]? =ae u->ns[j]? =ae n->∃t,u= .int n t)->uj vs ns
 |[],[],_,_=> .nil
 |u::vs,n::ns,hl,h=>by
  refine cJ (h 0 u n rfl rfl) λt dO=>?_;subst dO;exact .cons n t (uj.of_vals (by simpa using hl) λj u n hu hn=>h (j+1) u n hu hn)
 |[],_::_,hl,_=>by simp at hl
 |_::_,[],hl,_=>by simp at hl
theorem Gk{Q:ai->aq->Prop}(hh:A.handled=av)(ue:S < 64)(hv:∀k:Nat,∃t,v k= .int k t)(hs:s.heap.get? a=ae (yS w S v ep))
 (h:∀(D:ay) (h':dG) (tk:Nat) (out:Array ai) (n:Nat),(∀b o,s.heap.get? b=ae o->h'.get? b=ae o)->s.heap.get? D=av->h'.get? D=ae (oH out n)->uj out.toList ((eZ S).map fB)->Q (.ref D) {s with heap:=h',toks:=tk}):
 aS (aX prog w) A (ku (.builtin "sorted") [.ref a]) Q E s:=by
 have hz:(tV w a ep (k8 S v)).size=(eZ S).length:=by have:=(r9 w a ep (k8 S v)).length_eq;simp at this;(refine aj (this ..) ?_;refine aj (jG ..) ?_;rfl)
 have Ab:(eZ S).length<=6:=by have:=bu S.testBit (aN 6);exact this
 refine gv kind_sorted plain_sorted entry_sorted (args_sorted1 _) ?_;unfold Builtin.«sorted»;refine ag (m:=checkCount "sorted" 1 1 _) (ar ?_);refine ag (kdu_collect (A:=A.in1) (O5 ue) hh hs (by show _<=2 ^ 24;exact aw (by assumption) (by decide)) λh' tk acc hk EM=>?_);have hl:acc.toList.length=(eZ S).length:=by refine aj (eK ..) ?_;exact EM.1
 refine ag (wpAny_newList ?_ (by refine aj (hl ..) ?_;show _<=2 ^ 24;exact aw (by assumption) (by decide)));have hoL:(h'.push {cls:= .type "list",data:= .seq acc.toList.toArray}).get? h'.objs.size=ae (seqObj "list" acc.toList.toArray 0):=aW _ rfl;have hI:uj acc.toList ((tV w a ep (k8 S v)).toList.map (·.1)):=by refine uj.of_vals (by (refine aj (hl ..) ?_;refine aj (ak ..) ?_;refine aj (eK ..) ?_);exact hz.symm) λj u n hu hn=>?_;refine cJ (EM.2 j u (by refine fZ (bV ..) ?_;exact hu)) λhh' hj=>?_;rw [aI,bV,hj] at hn;have hm:(hh',u)∈(k8 S v).toList:=(r9 w a ep (k8 S v)).mem_iff.mp (by refine gj (pF ..) ?_;exact Array.mem_of_getElem? hj);simp only [k8,aG] at hm;refine aK hm λk z e=>?_;clear hm;refine cJ (hv k) λt ht=>?_;have e1:hh'=(k:Int):=(sL e).1.symm;have e2:u= .int k t:=(sL e).2.symm.trans ht;have e3:n=hh':=(aO hn).symm;exact ⟨t,by (refine aj (e2 ..) ?_;refine aj (e3 ..) ?_;refine aj (e1 ..) ?_;rfl)⟩
 have hp:((tV w a ep (k8 S v)).toList.map (·.1)).Perm ((eZ S).map fB):=by have:=(r9 w a ep (k8 S v)).map (·.1);refine this.trans (GU ?_);simp only [k8,a0];rfl
 have hR:(eZ S).map fB=((eZ S).map fB):=rfl;have hsrt:((eZ S).map fB).Pairwise (·<=·):=by
  have:∀S,S < 64->(eZ S).Pairwise (·<=·):=by decide+kernel
  exact List.pairwise_map.mpr ((this S ue).imp λ{a b} h=>Int.ofNat_le.mpr h)
 show aS _ _ _ _ _ {s with heap:=h'.push (seqObj "list" acc.toList.toArray 0),toks:=tk};refine ag (bE (dp slot_list_sort ⟨_,hoL,rfl⟩ entry_list_sort (list_sort_tree hoL hI (by lia) λout ns' a1 a2 a3=>⟨_,rfl,?_⟩) (args_list_sort _)));have wo:ns'=(eZ S).map fB:=List.Perm.eq_of_pairwise (λa b z z h1 h2=>Int.le_antisymm h1 h2) a3 hsrt (a2.trans hp);subst wo;exact cJ (sortedHeap_at (out:=out) hoL) λe he=>ar ⟨_,rfl,h _ _ _ out e (λb o eb=>by
  have hbl:=bN (hk b o eb);refine aj (sortedHeap_old (c8 hbl) (by rw [fN];exact cI hbl) ..) ?_;exact az _ (hk b o eb)) (by
   cases hq:s.heap.get? h'.objs.size with
   |none=>rfl
   |some o=>exact absurd (bN (hk _ _ hq)) (zG _)) he a1⟩
noncomputable def Mq(S:Nat):Vw:=⟨λZ v=>∃a u ep,v= .ref a/\Z a=ae (yS G.w S u ep)/\(∀k:Nat,∃t,u k= .int k t)/\S < 64,λZ Z' v h ⟨a,u,ep,e,z,r⟩=>⟨a,u,ep,e,h _ _ z,r⟩⟩
theorem O6{ns:List Nat}(h6:∀n∈ns,n < 6):Fn k mu (.type "set") [me mu (ns.map nV)] (Mq (nS ns)):=⟨λ{A E Z s fr vs Q} hA r hq q=>by
 refine aK (hq.one) λv eU p=>?_;subst eU;refine cE (me.at p r) λa ws n gi h1 h2=>?_;subst gi;have hl:ns.length=ws.size:=by (refine fZ (b9 h2 ..) ?_;refine aj (ak ..) ?_;rfl)
 refine lR (ns:=ns) hA.hh ⟨_,h1,rfl,n,rfl⟩ (λj u hu=>?_) hl λh' tk led hled hS hk=>?_
 ·refine aK (h2.get' (bV.trans hu)) λx hx hr=>?_;rw [aI] at hx;refine aK (aL.mp hx) λm hm iC=>?_;subst iC;refine cJ (gF hr) λt kG=>?_;subst kG;exact ⟨m,t,hm,h6 m (ao hm),rfl⟩
 ·obtain ⟨u,ep,ho,hu,ue⟩:=hS;subst hled;have hz:=r.fresh (bp _);exact q (bI.le_put hz) ⟨_,u,ep,rfl,bI.put_self ..,hu,ue⟩ (R.freeze (r.keep (tk:=tk) hk) ho hz (r.notOwn (bp _)))⟩
theorem yU{Z:bI}:∀{vs:List ai} {ns:List Nat},uj vs (ns.map fB)->bW G Z vs (ns.map nV)
 |[],[],_=> .nil
 |v::vs,n::ns,h=>by cases h with|cons _ t hr=>exact .cons (.int _ _) (yU hr)
 |[],_::_,h=>by cases h
 |_::_,[],h=>by cases h
theorem Gl{S:Nat}:Fn k mu (.builtin "sorted") [Mq S] (bZ (.list ((eZ S).map nV))):=⟨λ{A E Z s fr vs Q} hA r hq q=>by
 obtain ⟨v,rfl,a,u,ep,rfl,hz,hu,ue⟩:=hq.one;refine Gk hA.hh ue hu (r.zin _ _ hz) λD h' tk out n hk hD hl hI=>?_;have hzD:Z D=av:=by
  cases e:Z D with
  |none=>rfl
  |some o=>have:=r.zin _ _ e;rw [hD] at this;exact gK this
 exact q (bI.le_put hzD) (aZ.list (bI.put_self ..) (yU hI)) (R.freeze (r.keep (tk:=tk) hk) hl hzD λhb=>by obtain ⟨o,ho⟩:=r.liveAll hb;rw [hD] at ho;exact gK ho)⟩
theorem Gm(ns:List Nat)(b:Nat):(nS ns).testBit b=decide (b∈ns):=by
 have:∀(ns:List Nat) (S:Nat),(ns.foldl (λS k=>S ||| 2 ^ k) S).testBit b=(S.testBit b || decide (b∈ns)):=by
  intro ns;induction ns with
  |nil=>intro S;simp
  |cons n ns ih=>
   intro S;refine aj (fF ..) ?_;refine aj (ih ..) ?_;refine aj (Nat.testBit_or ..) ?_;refine aj (lC ..) ?_;refine gj (cm ..) ?_;simp only [jV,decide_eq_true_eq,aP];constructor
   ·rintro ((h|h)|h)
    ·exact .inl h
    ·exact .inr (.inl h.symm)
    ·exact .inr (.inr h)
   ·rintro (h|h|h)
    ·exact .inl (.inl h)
    ·exact .inl (.inr h.symm)
    ·exact .inr h
 unfold nS;refine aj (this ..) ?_;simp
section
variable {vs:d9}{A Du Oc Bk Sg:ay}
noncomputable def rT(ds:List Nat)(p:Nat):List V:=[nV (2*cc ds (sP ds p)),nV (2*cc ds (eP ds p)),nV (2*cc ds (tP ds p)),nV (lP ds p / 2),.bool (decide (lP ds p % 2=1))]
theorem Sf(p:Nat):DY (Qu ds p)= .ent (rT ds p):=by
 have h:cc ds (sP ds p)<=cc ds (eP ds p):=nP (by unfold eP;lia);have e1:((cc ds (sP ds p):Nat):Int)*2=((2*cc ds (sP ds p):Nat):Int):=by lia
 have e2:((2*cc ds (sP ds p):Nat):Int)+((cc ds (eP ds p) - cc ds (sP ds p):Nat):Int)*2=((2*cc ds (eP ds p):Nat):Int):=by lia
 have e3:((cc ds (tP ds p):Nat):Int)*2=((2*cc ds (tP ds p):Nat):Int):=by lia
 have e4:((lP ds p:Nat):Int) / 2=((lP ds p / 2:Nat):Int):=by lia
 simp only [DY,Qu,rT,e1,e2,e3,e4];rfl
theorem O7:Mc ds= .list ([10,14].map λp=>V.ent (rT ds p)):=by unfold Mc;simp only [bB,u7,Sf]
theorem O8(p:Nat):∃dd,pf (rT ds p)=ae dd/\zH dd=0:=⟨[.int _,.int _,.int _,.int _,.bool _],rfl,rfl⟩
noncomputable abbrev S16(ds:List Nat)(ns:List Int)(n6:Nat)(A Du Oc Sg lx Bk:ay):List (Nat×V):=(27,.list ([10,14].map λp=>V.tup (rT ds p)))::(26,.list ([10,14].map λp=>V.ent (rT ds p)))::Qt ds ns n6 A Du Oc Sg lx Bk
theorem Sh(H:Hy G)(EH:gN G K)(TH:r8 G K){pm doc:ai}(he:du (bT pm doc L)){P:ib}{N:Int}{cs:List Nat}{B:Rw}(hS:Sv vs (S15 ds ns n6 A Du Oc Sg P.lx Bk))
 (next:∀vs,Sv vs (S16 ds ns n6 A Du Oc Sg P.lx Bk)->yj (k+8) (cw L vs::mu) (bT pm doc L) (je 17) Θ):
 yj (k+8) (cw L vs::mu) (bT pm doc L) (je 16) Θ:=by
 have hf:∀{vs},bq L (aM (L+1) (bk (cN 23)).names) vs∈cw L vs::mu:=aa;refine cJ (TH.g0) λg0 PQ=>cJ (TH.g1) λg1 hg1=>cJ (TH.g2) λg2 hg2=>cJ (TH.g3) λg3 hg3=>cJ (TH.g4) λg4 hg4=>?_;have SR:Sv vs ((26,.list ([10,14].map λp=>V.ent (rT ds p)))::Qt ds ns n6 A Du Oc Sg P.lx Bk):=by refine fZ (O7 ..) ?_;exact hS
 have Jn:∀p:Nat,(rT ds p).length<=1000:=λp=>by show 5<=1000;decide
 refine nI (WF.f (bX (y:= .list ([10,14].map λp=>V.tup (rT ds p))) (jP [10,14] (λp=>V.ent (rT ds p)) (λp=>V.tup (rT ds p)) ⟨rfl,rfl,by decide+kernel,by decide+kernel⟩ (dA (ah (j:=26) he .loc hf (SR.get rfl))) (by lia) (by decide) (λC1 a ha=>iu 1 he.comp .loc dk (λhb=>(f9 (xs:=rT ds a)
  (au (nQ (k:=k+5) (i:=0) H EH TH PQ (ah (j:=1) he.comp .loc aa rfl) rfl (Jn a) (λn e=>by cases e))
  (au (nQ (k:=k+5) (i:=1) H EH TH hg1 (ah (j:=1) he.comp .loc aa rfl) rfl (Jn a) (λn e=>by cases e))
  (au (nQ (k:=k+5) (i:=2) H EH TH hg2 (ah (j:=1) he.comp .loc aa rfl) rfl (Jn a) (λn e=>by cases e))
  (au (nQ (k:=k+5) (i:=3) H EH TH hg3 (ah (j:=1) he.comp .loc aa rfl) rfl (Jn a) (λn e=>by cases e))
  (au (nQ (k:=k+5) (i:=4) H EH TH hg4 (ah (j:=1) he.comp .loc aa rfl) rfl (Jn a) (λn e=>by cases e)) aT))))) (by show 5<=2 ^ 20;decide))))) (aQ (i:=0) (j:=27) he (.cell (L+13) "told") rfl ?_) rfl rfl))
 exact next _ (SR.set (j:=27))
noncomputable abbrev lb(P:ib)(N:Int)(cs:List Nat)(A:ay)(arms:List (Nat×Nat))(mu:Mu):Mu:=j6 P [] N cs++(bl A (arms.map kH)::gG 304 []::mu)
noncomputable abbrev Si(ds:List Nat)(n6:Nat)(A lx Bk:ay):List (Nat×V):=[(26,.list ([10,14].map λp=>V.ent (rT ds p))),(41,.ref Bk),(23,.dict (LV (aF ds))),(21,.ref lx),(20,.str (g9 ds n6)),(11,.list ((aN 7).map λb=>nV (cc ds b))),(10,.ref A),(42,.dict (qB (aF ds))),(7,rX (aF ds)),(4,.list (ds.map nV))]
def tY.S0(k:Nat)(mu:Mu)(vs:d9)(Θ:AF->Mu->Prop)(L A Bk:ay)(ds:List Nat)(pm doc:ai)(P:ib)(N:Int)(cs:List Nat)(B:Rw):Prop:=∀{Du Oc Sg:ay} {ns:List Int} {n6:Nat} {K:fl} (H:Hy G) (EH:gN G K) (QH:Qv K) (GH:Lm G) (he:du (bT pm doc L)) (hk:vU (bT pm doc L)) (hS:Sv vs (S16 ds ns n6 A Du Oc Sg P.lx Bk)) (next:∀vs,Sv vs (Si ds n6 A P.lx Bk)->yj (k+8) (cw L vs::cD Bk (fT (aF ds) B)::lb P N cs A (dm ds) mu) (bT pm doc L) (je 18) Θ),yj (k+8) (cw L vs::cD Bk (fT (aF ds) B)::pj P N cs A (dm ds) ds Du mu) (bT pm doc L) (je 17) Θ
namespace tY
@[irreducible] def e0:=NT eO gD gD s7 cL cL cL gD gL gL IP Q0 gD RD S0
def k_:=e0.1
def fb:=e0.2.1
def kR:=e0.2.2.1
def Θ_:=e0.2.2.2.1
def L_:=e0.2.2.2.2.1
def A_:=e0.2.2.2.2.2.1
def we:=e0.2.2.2.2.2.2.1
def aV:=e0.2.2.2.2.2.2.2.1
def pg:=e0.2.2.2.2.2.2.2.2.1
def g8:=e0.2.2.2.2.2.2.2.2.2.1
def P_:=e0.2.2.2.2.2.2.2.2.2.2.1
def N_:=e0.2.2.2.2.2.2.2.2.2.2.2.1
def qM:=e0.2.2.2.2.2.2.2.2.2.2.2.2.1
def B_:=e0.2.2.2.2.2.2.2.2.2.2.2.2.2
theorem T0:S0 k_ fb kR Θ_ L_ A_ we aV pg g8 P_ N_ qM B_:=by
 intro Du Oc Sg ns n6 K H EH QH GH he hk hS next
 refine Wf.to [0,9] (Wf.frzL (j:=12) (hS.get rfl) ?_);have hS1:Sv (kR.set 12 (ae (.list ([10,14].map (uW aV))))) ((12,.list ([10,14].map λp=>V.tup (rT aV p)))::S16 aV ns n6 A_ Du Oc Sg P_.lx we):=hS.set (j:=12);generalize kR.set 12 (ae (.list ([10,14].map (uW aV))))=kR at hS1;show yj (k_+8) (cw L_ kR::cD we (fT (aF aV) B_)::lb P_ N_ qM A_ (dm aV) fb) (bT pg g8 L_) (je 17) Θ_;refine cE (GH.f275.go) λob2 z z g0 gd0 z=>cq (H.f179.go) λob3 z z z t0 td z=>?_;have hf:∀{l:Mu},bq L_ (aM (L_+1) (bk (cN 23)).names) kR∈cw L_ kR::l:=aa;have Jn:∀p:Nat,∃a b c d,rT aV p=[a,b,c,d,.bool (decide (lP aV p % 2=1))]:=λp=>⟨_,_,_,_,rfl⟩
 refine nI (R8 (R9 ?_));refine Ck (c9 (ah (j:=26) he .loc hf (hS1.get rfl)) (ah (j:=12) he .loc hf (hS1.get rfl)) (I2 (rows:=[10,14].map (rT aV)) EH QH ?_)) ?_
 ·intro row M5;refine aK (aG.mp M5) λp z dO=>?_;subst dO;exact O8 p
 refine Ck (c9 (ah (j:=27) he (.cell (L_+13) "told") hf (hS1.get rfl)) (ah (j:=12) he .loc hf (hS1.get rfl)) (A8 (d:= .list ([10,14].map λp=> .tuple [.int (2*cc aV (sP aV p):Nat),.int (2*cc aV (eP aV p):Nat),.int (2*cc aV (tP aV p):Nat),.int (lP aV p / 2:Nat),.bool (decide (lP aV p % 2=1))])) rfl (by decide))) (Ck (oS (c9 (nE [10,14] (λp=>V.tup (rT aV p)) (λz=>aH) (λz=>V.int 1) ⟨rfl,rfl,by decide+kernel,by decide+kernel⟩ (dA (ah (j:=27) he (.cell (L_+13) "told") hf (hS1.get rfl))) (by lia) (by decide) (λC2 a ha=>iu 1 he.comp .loc (fS (Fv (b:=aJ) (kU (ek (j4 H he.comp H.b_isinstance rfl) (au (bF (ah (j:=1) he.comp .loc aa rfl) aU (tI (e:= .bool (decide (lP aV a % 2=1))))) (au (iN H he.comp H.b_bool rfl) aT)) BU) qt))) (λhb=>aU))) (ij (xs:=[]) aT (bg rfl)) (BM (nj _ _))) rfl) ?_);refine O0 (Ml (AN hk (mn H he H.m_table rfl) t0 td (cA (ml (mn H he H.m_given rfl) g0 gd0 (cA (cf cO (e9 (FW.mono (m8 (k:=k_+6) (i:=8) (text:="") (o:=ae (P_.a,P_.b)) H GH rfl (λc hc=>eo hc) (by decide)) λy nu hy=>?_))))))));obtain ⟨f,dx,lam,it,L1,gd,ld,a,b,e1,wY,hRd,e2⟩:=hy;cases wY _ rfl;subst e1 e2;refine e9 ⟨[_,_,_,_],_,ic _,⟨_,_,aa⟩,JM.mono (Hq (k:=k_+4) (qs:=[]) H EH (.tail _ (.head _)) (by show (["read","co_exceptiontable"]:List bb).Nodup;decide) (.tail _ (.head _)) (DX.stop rfl (by decide)) (by decide)) λy nu e=>?_⟩;refine dU e λe1 e2=>?_;clear e;subst e1 e2;refine ⟨_,ic _,bZ (.list []),aH,ij (xs:=[]) aT (bg rfl),BM (xs:=[]) rfl,?_⟩;exact Ot (Wf.drop1 (Wf.drop1 (Wf.drop1 (Wf.drop1 (next _ (hS1.sub ⟨rfl,rfl,rfl,rfl,rfl,rfl,rfl,rfl,rfl,rfl,trivial⟩))))))
end tY
theorem tY{pm doc:ai}{P:ib}{N:Int}{cs:List Nat}{B:Rw}:tY.S0 k mu vs Θ L A Bk ds pm doc P N cs B:=by with_unfolding_all exact JW _ _ _ _ _ _ _ _ _ _ _ _ _ _ tY.S0 @tY.T0 k mu vs Θ L A Bk ds pm doc P N cs B
end
def yV(h:dG)(t:ay)(items:Array ai):Prop:=∃o n,h.get? t=ae o/\o.data= .seq items n
theorem yV.at{h h':dG}{t:ay}{items:Array ai}(x:yV h t items)(hk:∀o,h.get? t=ae o->h'.get? t=ae o):yV h' t items:=let ⟨o,n,e,d⟩:=x;⟨o,n,hk o e,d⟩
theorem Mr:CM "tuple.__iter__"=ae .slot:=by kernel_rfl
theorem I5:QT "tuple.__iter__"=ae ("tuple","__iter__"):=by kernel_rfl
section
variable {it t:ay}{i:Nat}{items:Array ai}{x:ai}
theorem xd{Q:Option ai->aq->Prop}(hit:s.heap.IsTupleIter it t i)(ht:yV s.heap t items)(hx:items[i]? =ae x)
 (hQ:∀h',h'.IsTupleIter it t (i+1)->ji it s.heap h'->Q (ae x) {s with heap:=h'}):aS (aX prog w) A (l0 (.ref it)) Q E s:=by
 refine eg (id hit) λo ho hc hd=>eD ht λol nl MZ Fc=>?_;clear ht;delta l0;refine ag (kT (dX (name:=fQ "__next__") hit.typeIs fA (dp fA hit.typeIs Bv ?_ (An _))));show aS _ _ (vt (.ref it) 0 >>=_) _ _ s;refine ag (dS ho hd (x:= .ref t) rfl ?_);show aS _ _ (if (cY t == eG)=aJ then _ else _) _ _ s;refine aj (if_neg (show ¬((cY t == eG)=aJ) from cF)) ?_;show aS _ _ (vt (.ref it) 1 >>=_) _ _ s;refine ag (dS ho hd (x:= .int i 0) rfl ?_);show aS _ _ (seqItems? (.ref t) >>=_) _ _ s;refine ag (CN MZ Fc ?_);simp only [b8,hx];refine ag (eH ho hd (by exact bp _) (ar ⟨x,rfl,ar (hQ _ ?_ (bY ..))⟩));exact ⟨_,bS _ ho (iW (dP hd _)),(pI ..).trans hc,by refine aj (dP hd ..) ?_;simp [pB]⟩
def gy.S0(prog:dJ)(w:ee)(A:bh)(E:ai->aq->Prop)(s:aq)(it t:ay)(i:Nat)(Q:Option ai->aq->Prop)(_:Nat):Prop:=∀{items:Array ai} (hh:A.handled=av) (hit:s.heap.IsTupleIter it t i) (ht:yV s.heap t items) (hx:items[i]? =av) (hQ:∀h',rv it s.heap h'->Q av {s with heap:=h'}),aS (aX prog w) A (l0 (.ref it)) Q E s
namespace gy
@[irreducible] def e0:=zI sV E6 Fq s7 zJ cL cL eO s7 eO S0
def cT:=e0.1
def w_:=e0.2.1
def A_:=e0.2.2.1
def E_:=e0.2.2.2.1
def s_:=e0.2.2.2.2.1
def sx:=e0.2.2.2.2.2.1
def t_:=e0.2.2.2.2.2.2.1
def i_:=e0.2.2.2.2.2.2.2.1
def Q_:=e0.2.2.2.2.2.2.2.2.1
theorem T0:S0 cT w_ A_ E_ s_ sx t_ i_ Q_ e0.2.2.2.2.2.2.2.2.2:=by intro items hh hit ht hx hQ;refine eg (id hit) λo ho hc hd=>eD ht λol nl MZ Fc=>?_;clear ht;delta l0;refine ag (kT (dX (name:=fQ "__next__") hit.typeIs fA (dp fA hit.typeIs Bv ?_ (An _))));show aS _ _ (vt (.ref sx) 0 >>=_) _ _ s_;refine ag (dS ho hd (x:= .ref t_) rfl ?_);show aS _ _ (if (cY t_ == eG)=aJ then _ else _) _ _ s_;refine aj (if_neg (show ¬((cY t_ == eG)=aJ) from cF)) ?_;show aS _ _ (vt (.ref sx) 1 >>=_) _ _ s_;refine ag (dS ho hd (x:= .int i_ 0) rfl ?_);show aS _ _ (seqItems? (.ref t_) >>=_) _ _ s_;refine ag (CN MZ Fc ?_);simp only [b8,hx];refine ag (oh (ag (eH ho hd (by decide) ?_)));show aS _ _ (Tw (.type "StopIteration") [] >>=_) _ _ _;refine nH hh ?_;refine ag (xv (T:="StopIteration") (b:=aJ) ⟨_,aW _ rfl,rfl⟩ TF ?_);exact ar (hQ _ (((bY ..).extBut.push _).push _))
end gy
theorem gy{Q:Option ai->aq->Prop}:gy.S0 prog w A E s it t i Q 0:=by with_unfolding_all exact uB _ _ _ _ _ _ _ _ _ _ gy.S0 @gy.T0 prog w A E s it t i Q 0
theorem Ex(iP:t≠it):∀(n i:Nat) (s:aq) (Q:List ai->aq->Prop),s.heap.IsTupleIter it t i->yV s.heap t items->i+n<=items.size->
 (∀h',h'.IsTupleIter it t (i+n)->ji it s.heap h'->Q ((items.toList.drop i).take n) {s with heap:=h'})->aS (aX prog w) A (draw (.ref it) n) Q E s
 |0,i,s,Q,hit,_,_,hQ=>by
  show aS _ _ (dg []) Q E s;exact ar (by exact hQ s.heap hit (JK ..))
 |n+1,i,s,Q,hit,ht,hle,hQ=>by
  have hlt:i < items.size:=by lia
  show aS _ _ (l0 (.ref it) >>=_) Q E s;refine ag (xd hit ht (x:=items[i]) (by simp [hlt]) λh₁ GG M3=>?_);refine ag (bE (Ex iP n (i+1) _ _ GG (ht.at λo e=>M3.extBut t o iP e) (by lia) λh₂ S5 hs₂=>ar ?_));have hd:items.toList.drop i=items[i]::items.toList.drop (i+1):=by simp [dZ,hlt]
  have:=hQ h₂ (by refine aj (show i+(n+1)=i+1+n by lia) ?_;exact S5) (M3.trans hs₂);rw [hd,jb] at this;exact this
def nU.S0(prog:dJ)(w:ee)(A:bh)(E:ai->aq->Prop)(t:ay)(Q:ai->aq->Prop):Prop:=∀{s:aq} {K:fl} {o:oY} (X:K.In s.heap) (QH:Qv K) (hI:fH K (.ref 162) "__iter__"=ae (ae (.builtin "tuple.__iter__"))) (ho:s.heap.get? t=ae o) (hc:o.cls= .ref 162) (hQ:Q (.ref s.heap.objs.size) {s with heap:=s.heap.push {cls:= .type "tuple_iterator",data:= .fields #[.ref t,.int 0 0]}}),aS (aX prog w) A (q8 (.ref t)) Q E s
namespace nU
@[irreducible] def e0:=Fl sV E6 Fq s7 cL s7 S0
def cT:=e0.1
def w_:=e0.2.1
def A_:=e0.2.2.1
def E_:=e0.2.2.2.1
def t_:=e0.2.2.2.2.1
def Q_:=e0.2.2.2.2.2
theorem T0:S0 cT w_ A_ E_ t_ Q_:=by
 intro s K o X QH hI ho hc hQ;obtain ⟨hp,g,d,tk,os⟩:=s;have L1:iL (aX cT w_) hp (jU (.ref t_)) (.ref 162):=sH ho hc;have L2:=mS (M:=aX cT w_) X hI;have L5:iL (aX cT w_) hp (uf (.ref t_) (.type "tuple")) aJ:=L1.andThen (looks_subIn X QH.up);have fin:∀E':ai->aq->Prop,aS (aX cT w_) A_ (ku (.builtin "tuple.__iter__") [.ref t_]) (λv s'=>v= .ref hp.objs.size/\s'=⟨hp.push {cls:= .type "tuple_iterator",data:= .fields #[.ref t_,.int 0 0]},g,d,tk,os⟩) E' ⟨hp,g,d,tk,os⟩:=λE'=>by
  refine eF (jj ux.plain PySem.F.entry_tuple_iter (@rx (aX cT w_) _ _ ⟨hp,g,d,tk,os⟩ "tuple.__iter__" "tuple" "__iter__" (.ref t_) [] [] _ Mr I5 L5 (PySem.F.args_tuple_iter_1 _) ?_));show aS _ _ (do vh (<- newFields "tuple_iterator" [.ref t_,pB 0])) _ _ _;exact ag (jg (ar ⟨rfl,rfl⟩))
 have tail:aS (aX cT w_) A_ (do
  match <- mA (.ref hp.objs.size) "__next__" with
  |none=>rule "iter.non-iterator";raiseError "TypeError" s!"iter() returned non-iterator of type '{<- PySem.typeNameOf (.ref hp.objs.size)}'"
  |some _=>dg (.ref hp.objs.size)) Q_ E_ ⟨hp.push {cls:= .type "tuple_iterator",data:= .fields #[.ref t_,.int 0 0]},g,d,tk,os⟩:=
  ag (h8 (T:="tuple_iterator") ⟨_,aW _ rfl,rfl⟩ fA.lookup (ar hQ))
 delta q8 mA;refine ag (ag (L1.at (L2.at ?_)));dsimp only;refine ag ?_;unfold callSpecialIfBoundUnlessNone? bindSpecialIfBound? mA;refine bE (ag (ag (ag (L1.at (L2.at ?_)))));refine ag (gC (wpAny_ite ?_))
 split
 ·refine ag (cM (ux.bind _) (ar ?_));dsimp only;refine aj (if_neg (by decide) ..) (ag (eS (fin _) (λv s' ⟨e1,e2⟩=>?_) λy y z=>z));subst e1 e2;exact ar tail
 ·refine wpAny_tryCatch (ag (cM (ux.bind _) (ar ?_)));dsimp only;refine aj (if_neg (by decide) ..) (ag (eS (fin _) (λv s' ⟨e1,e2⟩=>?_) λy y z=>z));subst e1 e2;exact ar tail
end nU
theorem nU{Q:ai->aq->Prop}:nU.S0 prog w A E t Q:=by with_unfolding_all exact uA _ _ _ _ _ _ nU.S0 @nU.T0 prog w A E t Q
def kp.S0(prog:dJ)(w:ee)(A:bh)(s:aq)(t:ay)(items:Array ai):Prop:=∀{E:ai->aq->Prop} {K:fl} {Q:List ai->aq->Prop} {o:oY} {n:Nat} (hh:A.handled=av) (X:K.In s.heap) (QH:Qv K) (hI:fH K (.ref 162) "__iter__"=ae (ae (.builtin "tuple.__iter__"))) (ho:s.heap.get? t=ae o) (hc:o.cls= .ref 162) (hd:o.data= .seq items n) (hQ:∀h',rv s.heap.objs.size s.heap h'->Q items.toList {s with heap:=h'}),aS (aX prog w) A (NQ (.ref t) items.size av) Q E s
namespace kp
@[irreducible] def e0:=Fl sV E6 Fq zJ cL inferInstance S0
def cT:=e0.1
def w_:=e0.2.1
def A_:=e0.2.2.1
def s_:=e0.2.2.2.1
def t_:=e0.2.2.2.2.1
def k6:=e0.2.2.2.2.2
theorem T0:S0 cT w_ A_ s_ t_ k6:=by
 intro E K Q o n hh X QH hI ho hc hd hQ;have hlt:t_≠s_.heap.objs.size:=c8 (bN ho);have ht:yV s_.heap t_ k6:=⟨o,n,ho,hd⟩;have L1:iL (aX cT w_) s_.heap (jU (.ref t_)) (.ref 162):=sH ho hc;have L2:=mS (M:=aX cT w_) X hI;delta NQ;refine ag ?_;delta notIterableAtAll mA;refine ag (ag (L1.here (L2.here ?_)));refine ar ?_;simp only [dj,if_false];refine ag (bE (nU X QH hI ho hc ?_));have PW:=ht.at (h':=s_.heap.push {cls:= .type "tuple_iterator",data:= .fields #[.ref t_,.int 0 0]}) λo e=>az _ e;refine ag (bE (Ex hlt k6.size 0 _ _ ⟨_,aW _ rfl,rfl,rfl⟩ PW (by lia) λh₁ GG M3=>?_));have zp:List.take k6.size (List.drop 0 k6.toList)=k6.toList:=by refine aj (fy ..) ?_;exact d6 (by exact bp _)
 refine aj (zp ..) ?_;refine aj (if_neg (by simp) ..) ?_;refine ag (bE (gy hh GG (PW.at λo e=>M3.extBut t_ o hlt e) (by simp) λh₂ he₂=>?_));simp only [Ah,dj,if_false];exact ar (hQ h₂ λb o hb e=>he₂ b o hb (M3.extBut b o hb (az _ e)))
end kp
theorem kp:kp.S0 prog w A s t items:=by with_unfolding_all exact uA _ _ _ _ _ _ kp.S0 @kp.T0 prog w A s t items
end
section
variable {Ψ:Mu->Prop}{l m r:bH}{P Q S:Vw}{b c:Bool}{o1 o2:CmpOp}
theorem Gn(EH:gN G K)(QH:Qv K)(hI:fH K (.ref 162) "__iter__"=ae (ae (.builtin "tuple.__iter__"))){ts:List bH}{kk:Nat}(h:HU k mu env ts xs Ψ):mJ k mu env (.Tuple ts kk p) (.ent xs) Ψ:=⟨λ{A E Z s fr v Q} hA r hv q=>by
 refine dK (wg EH r hv) λa o vs n dO h1 h2 h3 h4=>?_;subst dO;have hn:(jC ts env).length=vs.toList.length:=(nA ts).trans (h.len.trans h4.length.symm);refine aj (arm_assign_Tuple ..) ?_;refine ag (iH ?_);delta unpack;refine aj (hn ..) ?_;refine aj (o7 h.plain ..) ?_;refine ag (bE ?_);refine aj (eK ..) ?_;exact kp hA.hh (EH.KO.inn _ r.z0in) QH hI h1 h2 h3 λh' hx=>h.c hA (r.keep (tk:=s.toks) λb o e=>hx b o (c8 (bN e)) e) h4 q⟩
end
end
section
variable {k n6:Nat}{mu nu:Mu}{env:gP}{p pos:jB}{vs:d9}{Θ:AF->Mu->Prop}{L A Bk:ay}{ds:List Nat}{ns:List Int}{K:fl}{e:bH}
section
variable {l m r:bH}{P Q S:Vw}{b c:Bool}{o1 o2:CmpOp}
theorem Ms(hl:EV k mu env l P)(hm:EV k mu env m Q)(hr:EV k mu env r S)(h1:s8 k mu o1 P Q b)(h2:s8 k mu o2 Q S c)(hk:lastMarks [o1,o2] [m,r]=aH:=by with_unfolding_all rfl):PT k mu env (.Compare l [o1,o2] [m,r] p) (b && c):=⟨λ{z z z z z z} hA R q=>by
 with_reducible refine isTrue_chain ?_ hk
 refine hl.c hA R λ{v s1 Z1} z1 p1 r1=>test_link (hm.c hA r1 λ{u s2 Z2} z2 p2 r2=>h1.c hA r2 (P.mono _ _ _ z2 p1) p2 λ{w s3 Z3} z3 p3 r3=>?_);refine aj (aZ.boolE p3 ..) ?_;refine eV ?_;cases b with
 |false=>exact q (z1.trans (z2.trans z3)) r3
 |true=>refine aj (if_pos rfl ..) ?_;exact test_last (hr.c hA r3 λ{w s4 Z4} z4 p4 r4=>h2.c hA r4 (Q.mono _ _ _ (z3.trans z4) p2) p4 λ{z z z} z5 p5 r5=>(aZ.boolE p5)▸eV (q (z1.trans (z2.trans (z3.trans (z4.trans z5)))) r5))⟩
structure ItH(K:fl):Prop where
 iter:fH K (.ref 162) "__iter__"=ae (ae (.builtin "tuple.__iter__"))
noncomputable def mV(ds:List Nat)(p j:Nat):List (Nat×Nat):=((aN j).filter λb=>decide (sP ds p<=b) && decide (b < eP ds p)).map λb=>(b,tP ds p)
noncomputable def qO(ds:List Nat)(p:Nat):List (Nat×Nat):=mV ds p 6
noncomputable def gz(ds:List Nat)(i:Nat):List (Nat×Nat):=dm ds++([10,14].take i).flatMap (qO ds)
noncomputable abbrev cW(ds:List Nat):List (Nat×Nat):=gz ds 2
theorem yW{a b:Nat}(h:a < b):cc ds a < cc ds b:=by
 have:=nP (ds:=ds) (show a<=b by exact eB (by assumption));have h2:∀(l:List Nat) (a b:Nat),a<=b->(l.take a).sum<=(l.take b).sum:=by
  intro l;induction l with
  |nil=>intro a b z;simp
  |cons x l ih=>
   intro a b h;cases a with
   |zero=>simp
   |succ a=>
    cases b with
    |zero=>with_reducible exact absurd (by assumption) (TJ _)
    |succ b=>simp only [jb,da];have:=ih a b (by exact P5 (by assumption));lia
 unfold cc at*;have:=h2 (ds.drop 18) a b (by exact eB (by assumption));lia
theorem Cm{a b:Nat}:cc ds a<=cc ds b↔a<=b:=by
 constructor
 ·intro h;rcases gX b a with q|q
  ·have:=yW (ds:=ds) q;lia
  ·exact q
 ·exact nP
theorem Cn{a b:Nat}:cc ds a < cc ds b↔a < b:=by
 constructor
 ·intro h;rcases gX a b with q|q
  ·exact q
  ·have:=nP (ds:=ds) q;lia
 ·exact yW
theorem qP(p j:Nat):mV ds p (j+1)=mV ds p j++(if (decide (sP ds p<=j) && decide (j < eP ds p))=aJ then [(j,tP ds p)] else []):=by
 unfold mV;refine aj (qe ..) ?_;refine aj (fX ..) ?_;refine aj (bj ..) ?_;congr 1;refine aj (hZ ..) ?_;refine aj (qd ..) ?_
 split <;> rfl
theorem wh(p j:Nat):(mV ds p j).length<=j:=by unfold mV;exact aj (ak ..) (aw (bu _ _) (by simp))
theorem lT(i:Nat):(gz ds i).length<=20:=by
 unfold gz;refine aj (ba ..) ?_;refine aj (LS ..) ?_;have h10:=wh (ds:=ds) 10 6;have h14:=wh (ds:=ds) 14 6;have:(([10,14].take i).flatMap (qO ds)).length<=12:=by
  rcases i with _|_|i
  ·simp
  ·show (List.flatMap (qO ds) [10]).length<=12;simp only [dF,List.flatMap_nil,cy];unfold qO;exact aw (by assumption) (by decide)
  ·refine aj (show ([10,14]:List Nat).take (i+1+1)=[10,14] by simp) ?_;simp only [dF,List.flatMap_nil,cy,ba];unfold qO;lia
 lia
theorem wW{i p:Nat}(h:[10,14][i]? =ae p):gz ds (i+1)=gz ds i++qO ds p:=by unfold gz;refine aj (dE ..) ?_;refine aj (h ..) ?_;simp
def tZ.S0(k:Nat)(mu:Mu)(Θ:AF->Mu->Prop)(L A Bk:ay)(ds:List Nat)(n6:Nat)(pm doc:ai)(P:ib)(N:Int)(cs:List Nat)(_:Nat):Prop:=∀{vs:d9} {ns:List Int} {K:fl} (H:Hy G) (EH:gN G K) (QH:Qv K) (IH:ItH K) (he:du (bT pm doc L)) (hD:Dr ds ns n6) (hS:Sv vs (Si ds n6 A P.lx Bk)) (hB:E9 (fG B0 0 (dm ds)) 8) (next:∀vs,Sv vs (Si ds n6 A P.lx Bk)->E9 (fG B0 0 (cW ds)) 20->yj (k+8) (cw L vs::cD Bk (fT (aF ds) (fG B0 0 (cW ds)))::lb P N cs A (cW ds) mu) (bT pm doc L) (je 19) Θ),yj (k+8) (cw L vs::cD Bk (fT (aF ds) (fG B0 0 (dm ds)))::lb P N cs A (dm ds) mu) (bT pm doc L) (je 18) Θ
namespace tZ
@[irreducible] def e0:=NT eO gD s7 cL cL cL gD eO gL gL IP Q0 gD eO S0
def k_:=e0.1
def fb:=e0.2.1
def Θ_:=e0.2.2.1
def L_:=e0.2.2.2.1
def A_:=e0.2.2.2.2.1
def we:=e0.2.2.2.2.2.1
def aV:=e0.2.2.2.2.2.2.1
def gO:=e0.2.2.2.2.2.2.2.1
def pg:=e0.2.2.2.2.2.2.2.2.1
def g8:=e0.2.2.2.2.2.2.2.2.2.1
def P_:=e0.2.2.2.2.2.2.2.2.2.2.1
def N_:=e0.2.2.2.2.2.2.2.2.2.2.2.1
def qM:=e0.2.2.2.2.2.2.2.2.2.2.2.2.1
theorem T0:S0 k_ fb Θ_ L_ A_ we aV gO pg g8 P_ N_ qM e0.2.2.2.2.2.2.2.2.2.2.2.2.2:=by
 intro vs ns K H EH QH IH he hD hS hB next
 have d7:=eI aV;refine nI (WF.f (jO (ctx:=[]) (xs:=[10,14].map λp=>V.ent (rT aV p)) (λi nu=>∃vs n,nu=cw L_ vs::cD we (fT (aF aV) (fG B0 0 (gz aV i)))::lb P_ N_ qM A_ (gz aV i) fb/\Sv vs (Si aV gO A_ P_.lx we)/\E9 (fG B0 0 (gz aV i)) n/\n<=8+6*i)
  (dA (ah (j:=26) he .loc aa (hS.get rfl))) (by lia) ⟨vs,8,by rfl,hS,by exact hB,by exact bp _⟩ (λi nu h o ho=>(eo ho)) ?_ ?_))
 ·intro i x nu hx dO;refine ir dO λvs n eU hS hB hn=>?_;clear dO;subst eU;rw [aI] at hx;refine aK (aL.mp hx) λp hp gi=>?_;subst gi;have Uc:i < 2:=by have:=(aB.mp hp).1;exact this
  refine Gn EH QH IH.iter (cv rfl rfl ?_);refine aQ (i:=0) (j:=14) he .loc rfl (cv rfl rfl ?_);refine aQ (i:=0) (j:=17) he .loc rfl (cv rfl rfl ?_);refine aQ (i:=0) (j:=29) he .loc rfl (cv rfl rfl ?_);refine aQ (i:=0) (j:=30) he .loc rfl (cv rfl rfl ?_);refine aQ (i:=0) (j:=31) he .loc rfl (iX ?_);have hS1:=((((hS.set (j:=14) (y:=nV (2*cc aV (sP aV p)))).set (j:=17) (y:=nV (2*cc aV (eP aV p)))).set (j:=29) (y:=nV (2*cc aV (tP aV p)))).set (j:=30) (y:=nV (lP aV p / 2))).set (j:=31) (y:= .bool (decide (lP aV p % 2=1)));have hf:∀{vs} {l:Mu},bq L_ (aM (L_+1) (bk (cN 23)).names) vs∈cw L_ vs::l:=aa;have PW:=Hv (ds:=aV) p;have hsp:=Hu (ds:=aV) p;have hep:=LQ (ds:=aV) p;have b6:∀b,b<=6->cc aV b<=366:=λb hb=>Ea hD b hb;generalize ((((vs.set 14 (ae (nV (2*cc aV (sP aV p))))).set 17 (ae (nV (2*cc aV (eP aV p))))).set 29 (ae (nV (2*cc aV (tP aV p))))).set 30 (ae (nV (lP aV p / 2)))).set 31 (ae (.bool (decide (lP aV p % 2=1))))=NB at hS1 ⊢;show WS (k_+8) (cw L_ NB::cD we (fT (aF aV) (fG B0 0 (gz aV i)))::lb P_ N_ qM A_ (gz aV i) fb) _ _ _;refine aC (bX (y:=nV (tP aV p)) (f7 (dD (ah (j:=11) he .loc hf (hS1.get rfl))) G2 (au (bM (y:=nV (cc aV (tP aV p))) (br (ah (j:=29) he .loc hf (hS1.get rfl)) aU (l9 (by decide))) (congrArg V.int (by lia))) aT) ?idx uy PySem.F.slot_list_index PySem.F.type_list_index rfl) (aQ (i:=0) (j:=15) he .loc rfl ?_) rfl rfl)
  case idx=>
   have:=Dp (k:=k_+8) (mu:=cw L_ NB::cD we (fT (aF aV) (fG B0 0 (gz aV i)))::lb P_ N_ qM A_ (gz aV i) fb) (x:=(cc aV (tP aV p):Nat)) (ns:=(aN 7).map λb=>((cc aV b:Nat):Int)) (j:=tP aV p) (by (refine aj (aI ..) ?_;refine aj (bA (by lia) ..) ?_);rfl) (λm hm h=>by
    rw [aI,bA (by lia)] at h;have h1:=Nh (aO h);have:=yW (ds:=aV) hm;lia) (by decide)
   rw [a0] at this;exact this
  have hS2:=hS1.set (j:=15) (y:=nV (tP aV p));generalize NB.set 15 (ae (nV (tP aV p)))=vs2 at hS2;have hns2:=hS2.sub (S':=(15,nV (tP aV p))::(17,nV (2*cc aV (eP aV p)))::(14,nV (2*cc aV (sP aV p)))::Si aV gO A_ P_.lx we) ⟨rfl,rfl,rfl,rfl,rfl,rfl,rfl,rfl,rfl,rfl,rfl,rfl,rfl,trivial⟩;show WS (k_+8) (cw L_ vs2::cD we (fT (aF aV) (fG B0 0 (gz aV i)))::lb P_ N_ qM A_ (gz aV i) fb) _ _ _;refine cq (H.f256.go) λob2 z z z Uh GI z=>?_;have M6:=lT (ds:=aV) i;refine aC (jO (ctx:=[]) (xs:=(aN 6).map nV) (λj nu=>∃vs n,nu=cw L_ vs::cD we (fT (aF aV) (fG B0 0 (gz aV i++mV aV p j)))::lb P_ N_ qM A_ (gz aV i++mV aV p j) fb/\Sv vs ((15,nV (tP aV p))::(17,nV (2*cc aV (eP aV p)))::(14,nV (2*cc aV (sP aV p)))::Si aV gO A_ P_.lx we)/\E9 (fG B0 0 (gz aV i++mV aV p j)) n/\n<=8+6*i+j)
   (fK (n:=6) (iN H he H.b_range rfl) aU rfl (by decide)) (by lia) ⟨vs2,n,by simp [mV],hns2,by simpa [mV] using hB,by lia⟩ (λi nu h o ho=>(eo ho)) ?_ ?_)
  ·intro j x nu hx iC;refine ir iC λvs n kG hS hB hn=>?_;clear iC;subst kG;rw [aI] at hx;refine aK (aL.mp hx) λj' hj' ma=>?_;subst ma;have HN:j < 6:=by have:=(aB.mp hj').1;exact this
   have:j'=j:=by rw [bA HN] at hj';exact (aO hj').symm
   subst this;refine aQ (i:=0) (j:=9) he (.cell (L_+8) "block") rfl ?_;have hS3:=hS.set (j:=9) (y:=nV j');generalize vs.set 9 (ae (nV j'))=Ui at hS3 ⊢;show WS (k_+8) (cw L_ Ui::cD we (fT (aF aV) (fG B0 0 (gz aV i++mV aV p j')))::lb P_ N_ qM A_ (gz aV i++mV aV p j') fb) _ _ _;have hlen:(gz aV i++mV aV p j').length<=100:=by refine aj (ba ..) ?_;have:=wh (ds:=aV) p j';lia
   have hT:(decide ((2*cc aV (sP aV p):Nat)<=(2*(cc aV j':Int))) && decide (2*(cc aV j':Int) < (2*cc aV (eP aV p):Nat)))=(decide (sP aV p<=j') && decide (j' < eP aV p)):=by have h1:=Cm (ds:=aV) (a:=sP aV p) (b:=j');have h2:=Cn (ds:=aV) (a:=j') (b:=eP aV p);refine gj (cm ..) ?_;simp only [dQ,decide_eq_true_eq];lia
   have hb7:((aN 7).map λb=>nV (cc aV b))[j']? =ae (nV (cc aV j')):=by (refine aj (aI ..) ?_;refine aj (bA (by exact cI (by assumption)) ..) ?_);rfl
   refine aC (iY (oS (Ms (ah (j:=14) he .loc hf (hS3.get rfl)) (br aU (bF (dD (ah (j:=11) he .loc hf (hS3.get rfl))) (ah (j:=9) he (.cell (L_+8) "block") hf (hS3.get rfl)) (ew (inj:=λb=>nV (cc aV b)) (bA (show j' < 7 by exact cI (by assumption))) (by decide))) (mX (by decide))) (ah (j:=17) he .loc hf (hS3.get rfl)) cm_le C8) hT) (λh=>?_) λh=>?_)
   ·have hq:∀b:Nat,b < 6->(aN 6)[b]? =ae b:=λb hb=>bA hb;have hq5:tP aV p∈[1,2,3,4,5]:=by
     rcases (by lia:tP aV p=1\/tP aV p=2\/tP aV p=3\/tP aV p=4\/tP aV p=5) with h|h|h|h|h <;> refine aj (h ..) ?_ <;> decide
    generalize hLa:gz aV i++mV aV p j'=La at hlen hB ⊢;have hA:bl A_ (La.map kH)∈cw L_ Ui::cD we (fT (aF aV) (fG B0 0 La))::lb P_ N_ qM A_ La fb:=ao (i:=9) rfl;have GA:=A6 (k:=k_+5) (mu:=cw L_ Ui::cD we (fT (aF aV) (fG B0 0 La))::lb P_ N_ qM A_ La fb) (pl:=La.length) (q:=(j',tP aV p)) H d7 hB (by lia) HN;refine aC (qz (i:=1) (D:=we) (x:=cB (aF aV+tP aV p)) (y:=ro (aF aV) (kl (fG B0 0 La) La.length (j',tP aV p)) (tP aV p)) (ju (ys:=[ro (aF aV) (fG B0 0 La) (tP aV p),.tup [.int (if j'=tP aV p then 0 else 1),.int 1,.int La.length,.int ((La.length:Int)*La.length),cV [(cB (aF aV+j'),1)]]]) (mn H he H.m_stats rfl) Uh GI (au (bF (wF (ah (j:=41) he (.cell (L_+15) "book") hf (hS3.get rfl)) (ab _ aa)) (bF (dD (ah (j:=7) he (.cell (L_+6) "names") hf (hS3.get rfl))) (ah (j:=15) he .loc hf (hS3.get rfl)) (ew (inj:=λb=>V.str (cB (aF aV+b))) (hq (tP aV p) PW.2) (by decide))) (mh (gb d7 (by decide) hq5))) (au (f9 (xs:=[.int (if j'=tP aV p then 0 else 1),.int 1,.int La.length,.int ((La.length:Int)*La.length),cV [(cB (aF aV+j'),1)]]) (au (bM (iZ (iN H he H.b_int rfl) (au (mI (ah (j:=9) he (.cell (L_+8) "block") hf (hS3.get rfl)) (ah (j:=15) he .loc hf (hS3.get rfl)) Fx) aT) rF) ?c1) (au aU (au (bM (ek (j4 H he H.b_len rfl) (au (uD (ah (j:=10) he (.cell (L_+9) "arms") hf (hS3.get rfl)) hA) aT) (mi (by refine aj (ak ..) ?_;exact aw (by assumption) (by decide)))) ?c2) (au (bM (br (ek (j4 H he H.b_len rfl) (au (uD (ah (j:=10) he (.cell (L_+9) "arms") hf (hS3.get rfl)) hA) aT) (mi (by refine aj (ak ..) ?_;exact aw (by assumption) (by decide)))) aU (BP ?c3 (by decide))) ?c4) (au (bF (pK (ah (j:=23) he .loc hf (hS3.get rfl))) (bF (dD (ah (j:=7) he (.cell (L_+6) "names") hf (hS3.get rfl))) (ah (j:=9) he (.cell (L_+8) "block") hf (hS3.get rfl)) (ew (inj:=λb=>V.str (cB (aF aV+b))) (hq j' HN) (by decide))) (mh (gb d7 (by decide) (aY.mpr HN)))) aT))))) (by show 5<=2 ^ 20;decide)) aT)) (FW.mono GA λy nu h=>h)) (ah (j:=41) he (.cell (L_+15) "book") hf (hS3.get rfl)) (bF (dD (ah (j:=7) he (.cell (L_+6) "names") hf (hS3.get rfl))) (ah (j:=15) he .loc hf (hS3.get rfl)) (ew (inj:=λb=>V.str (cB (aF aV+b))) (hq (tP aV p) PW.2) (by decide))) rfl (by show 5<=2 ^ 24;decide) ?_)
    case c1=>
     refine congrArg V.int ?_;by_cases e:j'=tP aV p
     ·refine aj (e ..) ?_;simp
     ·(refine aj (if_neg e ..) ?_;refine aj (if_pos (by simp;lia) ..) ?_;rfl)
    case c2=>(refine aj (ak ..) ?_;rfl)
    case c3=>refine aj (ak ..) ?_;lia
    case c4=>refine aj (ak ..) ?_;show V.int ((La.length:Int) ^ 2)=_;refine aj (Int.pow_succ ..) ?_;refine aj (Int.pow_succ ..) ?_;refine aj (Int.pow_zero ..) ?_;refine aj (sQ ..) ?_;rfl
    rw [show (j',tP aV p).2=tP aV p from rfl] at*;have SS:=En (low:=aF aV) (B:=fG B0 0 La) (pl:=La.length) (q:=(j',tP aV p)) d7 hq5;show WS (k_+8) (cw L_ Ui::cD we (jF (fT (aF aV) (fG B0 0 La)) (cB (aF aV+tP aV p)) (ro (aF aV) (kl (fG B0 0 La) La.length (j',tP aV p)) (tP aV p)))::lb P_ N_ qM A_ La fb) _ _ _;refine aj (SS ..) (aC (ig (mY (ah (j:=10) he (.cell (L_+9) "arms") hf (hS3.get rfl)) (j5 (xs:=La.map kH) (ao (i:=9) rfl)) (au (f9 (xs:=[nV j',nV (tP aV p)]) (au (ah (j:=9) he (.cell (L_+8) "block") hf (hS3.get rfl)) (au (ah (j:=15) he .loc hf (hS3.get rfl)) aT)) (by show 2<=2 ^ 20;decide)) aT) (kA (i:=9) rfl (by refine aj (ak ..) ?_;exact b7 (by assumption) (by decide)) ?_) uy PySem.F.slot_list_append PySem.F.type_list_append rfl)));have hgo:fG B0 0 (La++[(j',tP aV p)])=kl (fG B0 0 La) La.length (j',tP aV p):=by (refine aj (kF ..) ?_;refine aj (eC ..) ?_;rfl)
    refine bC (bC ⟨Ui,n+1,?_,hS3.sub ⟨rfl,rfl,rfl,rfl,rfl,rfl,rfl,rfl,rfl,rfl,rfl,rfl,rfl,trivial⟩,?_,by lia⟩)
    ·(refine aj (qP ..) ?_;refine aj (h ..) ?_;refine aj (if_pos rfl ..) ?_;refine fZ (bU ..) ?_;refine aj (hLa ..) ?_;refine aj (hgo ..) ?_)
     show _::_::(j6 P_ [] N_ qM++(bl A_ (La.map kH++[kH (j',tP aV p)])::gG 304 []::fb))=_;refine aj (show La.map kH++[kH (j',tP aV p)]=(La++[(j',tP aV p)]).map kH by simp) ?_;rfl
    ·(refine aj (qP ..) ?_;refine aj (h ..) ?_;refine aj (if_pos rfl ..) ?_;refine fZ (bU ..) ?_;refine aj (hLa ..) ?_;refine aj (hgo ..) ?_)
     exact hB.step HN
   ·refine bC (bC ⟨Ui,n,?_,hS3.sub ⟨rfl,rfl,rfl,rfl,rfl,rfl,rfl,rfl,rfl,rfl,rfl,rfl,rfl,trivial⟩,?_,by lia⟩)
    ·(refine aj (qP ..) ?_;refine aj (h ..) ?_);simp
    ·(refine aj (qP ..) ?_;refine aj (h ..) ?_);simpa using hB
  ·intro nu mE;refine ir mE λvs n qY hS hB hn=>?_;clear mE;subst qY;refine bC (bC ⟨vs,n,?_,hS.sub ⟨rfl,rfl,rfl,rfl,rfl,rfl,rfl,rfl,rfl,rfl,trivial⟩,?_,?_⟩)
   ·(refine aj (wW hp ..) ?_;refine aj (ak ..) ?_;refine aj (fq ..) ?_);rfl
   ·refine aj (wW hp ..) ?_;rw [ak,fq] at hB;exact hB
   ·rw [ak,fq] at hn;lia
 ·intro nu uc;refine ir uc λvs n mO hS hB hn=>?_;clear uc;subst mO;exact bC (next vs hS ⟨hB.lt,hB.nd,λb=>aw (hB.len b) hn⟩)
end tZ
theorem tZ{pm doc:ai}{P:ib}{N:Int}{cs:List Nat}:tZ.S0 k mu Θ L A Bk ds n6 pm doc P N cs 0:=by with_unfolding_all exact JW _ _ _ _ _ _ _ _ _ _ _ _ _ _ tZ.S0 @tZ.T0 k mu Θ L A Bk ds n6 pm doc P N cs 0
end
section
variable {es:List (bb×V)}
theorem Mt{is:List Int}(he:es.map (·.2)=is.map .int):Fn k mu (.builtin "sum") [Ih "dict_values" es] (bZ (.int is.sum)):=⟨λ{A E Z s fr vs Q} hA r hq q=>by
 obtain ⟨v,rfl,a,d,o,rfl,hz,hc,hd,p⟩:=hq.one;refine jZ (mZ r p) λd' kvs ep e1 hs hD hO hk hr hzd PJ=>?_;cases e1;have KS:=kdl_values (prog:=G.prog) (w:=G.w) (knd:=strKind G.prog G.w) (r:=a) (d:=d) (kvs:=kvs) (ep:=ep);have hok:s.heap.IsValuesView a d/\s.heap.DictAt (strKind G.prog G.w) d kvs ep:=⟨⟨o,r.zin _ _ hz,hc,hd⟩,hD⟩;have SH:kvs.length=is.length:=by (refine fZ (ak (f:=(·.1)) ..) ?_;refine aj (hk ..) ?_;refine aj (ak ..) ?_;refine fZ (ak (f:=(·.2)) ..) ?_;refine aj (he ..) ?_;refine aj (ak ..) ?_;rfl)
 refine PySem.call_sum_walkAnyS (cC (KS.iter A.in1 s hA.hh hok) λoI St hit W st=>?_);refine hit _ _ ⟨s.heap.objs.size,_,_,_,kvs.length,_,_,(λi=>is.getD i 0),rfl,W.toS,st,λb hb=>?_,λi u hu=>?_,λs' t' hm=>?_⟩
 ·show b < (s.heap.push oI).objs.size;refine aj (fN ..) ?_;rcases aP.mp hb with e|hb
  ·refine aj (e ..) ?_;exact jf _
  ·refine aj (aA.mp hb ..) ?_;exact cI (KS.there _ hok).2
 ·refine cJ hu λkey hx=>?_;clear hu;have h2:(kvs.map (·.2))[i]? =ae u:=by (refine aj (aI ..) ?_;refine aj (hx ..) ?_);rfl
  refine aK (hr.get' h2) λx' h3 h4=>?_;rw [he,aI] at h3;refine aK (aL.mp h3) λn hn gi=>?_;subst gi;refine cJ (gF h4) λt iC=>?_;subst iC;exact ⟨t,by show jT n t=jT (is.getD i 0) t;(refine aj (bR ..) ?_;refine aj (hn ..) ?_);rfl⟩
 ·have hk2:∀b o,s.heap.get? b=ae o->s'.heap.get? b=ae o:=λb o e=>
   hm.heap b o (λhI=>absurd (bN e) (by refine aj (aA.mp hI ..) ?_;exact zG _)) (az _ e)
  refine aj (Moved.eq_with hm ..) ?_;refine aj (SH ..) ?_;refine aj (AE is is.length (bp _) ..) ?_;refine aj (cK ..) ?_;exact q .rfl (aZ.int _ _) (r.keep (tk:=s'.toks) hk2)⟩
noncomputable def gT(arms:List (Nat×Nat))(b:Nat):List Nat:=(arms.filter λq=>q.2 == b).map (·.1)
noncomputable def sI(arms:List (Nat×Nat))(b:Nat):List Nat:=eZ (nS (gT arms b))
noncomputable abbrev dh(ds:List Nat):List (List Nat):=(aN 6).map (sI (cW ds))
noncomputable abbrev lU(ds:List Nat):Rw:=fG B0 0 (cW ds)
theorem qQ:∀q∈cW ds,q.1 < 6/\1<=q.2/\q.2 < 6:=λq hq=>by
 unfold cW gz at hq;rcases bc.mp hq with h|h
 ·exact kf ds q h
 ·refine aK (bG.mp h) λp z hp=>?_;unfold qO mV at hp;refine aK (aG.mp hp) λb hb kG=>?_;subst kG;have h1:=Hv (ds:=ds) p;exact ⟨aY.mp (bo.mp hb).1,h1.1,h1.2⟩
noncomputable abbrev Gp(P:ib)(N:Int)(cs:List Nat)(mu:Mu):Mu:=j6 P [] N cs++(gG 304 []::mu)
noncomputable abbrev S19(ds:List Nat)(n6:Nat)(lx:ay):List (Nat×V):=[(32,.list ((dh ds).map wV)),(41,.dict (fT (aF ds) (lU ds))),(10,.list ((cW ds).map kH)),(21,.ref lx),(20,.str (g9 ds n6)),(42,.dict (qB (aF ds))),(7,rX (aF ds)),(4,.list (ds.map nV))]
theorem Sj(H:Hy G){pm doc:ai}(he:du (bT pm doc L)){P:ib}{N:Int}{cs:List Nat}(hS:Sv vs (Si ds n6 A P.lx Bk))
 (next:∀vs,Sv vs (S19 ds n6 P.lx)->WS (k+8) (cw L vs::Gp P N cs mu) (bT pm doc L) (je 20) Θ):
 WS (k+8) (cw L vs::cD Bk (fT (aF ds) (lU ds))::lb P N cs A (cW ds) mu) (bT pm doc L) (je 19) Θ:=by
 refine WF.frzD (j:=41) (hS.get rfl) (WF.to [0,7] (WF.frzL (j:=10) ((hS.set (j:=41) (y:= .dict (fT (aF ds) (lU ds)))).get rfl) ?_));have hS1:=(hS.set (j:=41) (y:= .dict (fT (aF ds) (lU ds)))).set (j:=10) (y:= .list ((cW ds).map kH));generalize (vs.set 41 (ae (.dict (fT (aF ds) (lU ds))))).set 10 (ae (.list ((cW ds).map kH)))=NB at hS1 ⊢;show WS (k+8) (cw L NB::Gp P N cs mu) (bT pm doc L) (je 19) Θ;have hf:∀{vs} {l:Mu},bq L (aM (L+1) (bk (cN 23)).names) vs∈cw L vs::l:=aa;have M6:=lT (ds:=ds) 2;refine aC (FJ (aN 6) nV (λb=>wV (sI (cW ds) b)) ⟨rfl,rfl,by decide+kernel,by decide+kernel⟩ (fK (n:=6) (iN H he H.b_range rfl) aU rfl (by decide)) (by lia) (by decide) (λC3 b hb=>iu 1 he.comp (.cell (C3+1) "block") dk (λz=>(ek (j4 H he.comp H.b_sorted rfl) (au (iZ (iN H he.comp H.b_set rfl) (au (dD (bM (nE (cW ds) kH (λq=>((q.2:Int) == (b:Int))) (λq=>nV q.1) ⟨rfl,rfl,by decide+kernel,by decide+kernel⟩ (dA (ah (j:=10) he.comp (.cell (L+9) "arms") (ab _ hf) (hS1.get rfl))) (by lia) (aw M6 (by decide)) (λC4 q hq=>tG 1 2 he.comp.comp .loc .loc (fS (c9 (ah (j:=2) he.comp.comp .loc aa rfl) (ah (j:=1) he.comp.comp (.cell (C3+1) "block") (ab _ aa) rfl) qr)) (λhb=>(ah (j:=1) he.comp.comp .loc aa rfl)))) ?c1)) aT) (O6 (ns:=gT (cW ds) b) ?c2)) aT) Gl))) rfl (λD=>fL.list (aQ (i:=0) (j:=32) he .loc rfl ?_)))
 case c1=>
  delta gT;refine aj (a0 ..) (congrArg V.list ?_);have:(cW ds).filter (λq=>((q.2:Int) == (b:Int)))=(cW ds).filter λq=>q.2 == b:=fz λq z=>by
   refine gj (cm ..) ?_;simp only [beq_iff_eq];lia
  refine aj (this ..) ?_;rfl
 case c2=>intro n hn;refine aK (aG.mp hn) λq hq ma=>?_;subst ma;exact (qQ q (bo.mp hq).1).1
 have e:V.list ((aN 6).map λb=>wV (sI (cW ds) b))= .list ((dh ds).map wV):=by refine aj (a0 ..) ?_;rfl
 exact next _ ((hS1.set (j:=32)).sub ⟨congrArg ae e,rfl,rfl,rfl,rfl,rfl,rfl,rfl,trivial⟩)
noncomputable def T0(b:Nat):Nat:=if b=0 then 1 else 63
noncomputable abbrev S20(ds:List Nat)(n6:Nat)(lx T:ay):List (Nat×V):=(46,.ref T)::S19 ds n6 lx
theorem Sk(H:Hy G){pm doc:ai}(he:du (bT pm doc L))(hS:Sv vs (S19 ds n6 A))
 (next:∀vs T,Sv vs (S20 ds n6 A T)->WS (k+8) (cD T (oq (aF ds) T0)::cw L vs::mu) (bT pm doc L) (je 21) Θ):
 WS (k+8) (cw L vs::mu) (bT pm doc L) (je 20) Θ:=by
 have d7:=eI ds;have hf:∀{vs} {l:Mu},bq L (aM (L+1) (bk (cN 23)).names) vs∈cw L vs::l:=aa;refine cq (H.f72.go) λob TY cd' Jk h0 hd z=>aC (b4 (yA H.B (aN 6) (λb=>V.str (cB (aF ds+b))) (λb=>(cB (aF ds+b),V.str (iy (aF ds) (T0 b)))) ⟨rfl,rfl,by decide+kernel,by decide+kernel⟩ (dA (ah (j:=7) he (.cell (L+6) "names") hf (hS.get rfl))) (by lia) (by decide) (λC5 b hb=>BO 1 he.comp .loc dk (λz=>(ah (j:=1) he.comp .loc aa rfl)) (λz=>(ju (ys:=[nV (T0 b*2 ^ aF ds)]) (mn H he.comp H.m_flags rfl) h0 hd (au (uE (b:=decide (b=0)) (oS (c9 (ah (j:=1) he.comp .loc aa rfl) (bF (dD (ah (j:=7) he.comp (.cell (L+6) "names") (ab _ hf) (hS.get rfl))) aU (ew (j:=0) (a:=0) (inj:=λb=>V.str (cB (aF ds+b))) rfl (by decide))) rA) ?c1) (λh=>bM (bF (pK (ah (j:=42) he.comp (.cell (L+16) "flags") (ab _ hf) (hS.get rfl))) (ah (j:=1) he.comp .loc aa rfl) (mh (gb d7 (λc hc=>aY.mp hc) hb))) ?c2) (λh=>bM (ek (j4 H he.comp H.b_sum rfl) (au (f7 (ah (j:=42) he.comp (.cell (L+16) "flags") (ab _ hf) (hS.get rfl)) rM aT AH NR PySem.F.slot_dict_values PySem.F.type_dict_values rfl) aT) (Mt (is:=(aN 6).map λb=>((2 ^ (aF ds+b):Nat):Int)) ?c3)) ?c4)) aT) ?c5))) ?c6 (λT=>fL.ref (aQ (i:=1) (j:=46) he (.cell (L+20) "table") rfl ?_))) rfl rfl)
 case c1=>exact (rR d7 (aY.mp hb) (show 0 < 6 by decide)).trans (by cases b <;> rfl)
 case c2=>have:=of_decide_eq_true h;subst this;show nV (2 ^ (aF ds+0))=_;simp [T0]
 case c3=>delta qB bD;rw [a0,a0];rfl
 case c4=>
  have zl:=of_decide_eq_false h;have e:((aN 6).map λb=>((2 ^ (aF ds+b):Nat):Int)).sum=((63*2 ^ aF ds:Nat):Int):=by simp only [Nat.pow_add];show ((2 ^ aF ds*2 ^ 0:Nat):Int)+(((2 ^ aF ds*2 ^ 1:Nat):Int)+(((2 ^ aF ds*2 ^ 2:Nat):Int)+(((2 ^ aF ds*2 ^ 3:Nat):Int)+(((2 ^ aF ds*2 ^ 4:Nat):Int)+(((2 ^ aF ds*2 ^ 5:Nat):Int)+0)))))=_;generalize 2 ^ aF ds=X;lia
  refine aj (e ..) ?_;delta T0;refine aj (if_neg zl ..) ?_;rfl
 case c5=>
  have hT:T0 b < 64/\T0 b≠0:=by delta T0;split <;> decide
  have MU:=qf (aF ds);have h33:T0 b*2 ^ aF ds < 2 ^ 33:=by
   have h1:2 ^ aF ds<=2 ^ 27:=e8 (by decide) (by exact CH (by assumption));have h2:T0 b*2 ^ aF ds<=63*2 ^ 27:=JF (by lia) h1
   with_reducible exact b7 (by assumption) (by decide)
  have MV:∀nu:Mu,FW (k+8) nu (.ref 72) [nV (T0 b*2 ^ aF ds)] λy nu'=>y= .str (iy (aF ds) (T0 b))/\nu'=nu:=λnu=>by
   have:=oO (k:=k+6) (mu:=nu) H (Nat.mul_ne_zero hT.2 (by exact jJ (by assumption))) h33
   rwa [rQ hT.1 d7] at this
  exact MV _
 case c6=>exact jx d7 (aN 6) (λb hb=>aY.mp hb) lp
 exact next _ T (hS.set (j:=46))
end
variable {xs:List V}
section
variable {o i:bH}{Φ:V->Mu->Prop}{P Q S:Vw}{Θ:Bool->Mu->Prop}
structure GiE(k:Nat)(mu:Mu)(P Q:Vw)(Φ:V->Mu->Prop):Prop where
 c:∀{A:bh} {E:ai->aq->Prop} {Z:bI} {s:aq} {fr:Mu} {v u:ai} {T:ai->aq->Prop},Rm k A->R Z (mu++fr) s->P.p Z v->Q.p Z u->(∀{w s' Z' y nu},Z.le Z'->aZ G Z' w y->R Z' (nu++fr) s'->Φ y nu->T w s')->
  (∃U id,iQ (.type U) "__getitem__"=dg (ae (.builtin id))/\s.TypeIs v U)/\aS (aX G.prog G.w) A (Jw v u) T E s
theorem O9(ho:EV k mu env o P)(hi:EV k mu env i Q)(g:GiE k mu P Q Φ)(hs:∀a b,∃ops,NI i aH a b=operate ops (Jw a b):=by intro a b;exact ⟨_,rfl⟩):
 WE k mu env (.Subscript o i p) Φ:=⟨λ{z z z z z z} hA r q=>Ko hs (ho.c hA r λ{z z z} z1 q1 r1=>hi.c hA r1 λ{z z z} z2 q2 r2 T' t=>g.c hA r2 (P.mono _ _ _ z2 q1) q2 λ{z z z z z} z3 q3 r3 w=>t (q (z1.trans (z2.trans z3)) q3 r3 w))⟩
theorem Pa{lo hi st:Option Int}(h0:st≠ae 0)(hn:xs.length<=2 ^ 23)(hΦ:∀D,fL D (bl D (jq xs lo hi st)::mu) Φ):GiE k mu (me mu xs) (Rk lo hi st) Φ:=⟨λ{A E Z s fr v u T} hA r hp hq q=>by
 refine cE (me.at hp r) λa vs n dO h1 h2=>?_;subst dO;obtain ⟨b,vl,vu,vst,o,rfl,hz,hc,hd,p1,p2,p3⟩:=hq;have hL:s.heap.IsList a vs:=⟨_,h1,rfl,n,rfl⟩;refine ⟨⟨"list",_,EY,hL.typeIs⟩,?_⟩;refine wpAny_getItem_list_slice hL ⟨o,r.zin _ _ hz,hc,hd⟩ p1 p2 p3 h0 ?_ (b9 h2▸aw hn (show 2 ^ 23<=2 ^ 24 by decide));exact (hΦ s.heap.objs.size).c (fr:=fr) (r.addNew (tk:=s.toks) (h':=s.heap.push {cls:= .type "list",data:= .seq (xo vs lo hi st)}) (bl s.heap.objs.size (jq xs lo hi st)) (λb o e=>az _ e) ⟨xo vs lo hi st,0,aW _ rfl,AD h2⟩ eh λz h=>kX h) q⟩
theorem Mv{ps:jB}(h:WT k mu env e λb nu=>Θ (!b) nu):WT k mu env (.UnaryOp .Not e ps) Θ:=⟨λ{z z z z z z} hA R q=>wpAny_isTrue_Not (h.c hA R q)⟩
theorem HD(h:WE k mu env e λy nu=>∃b,y= .bool b/\Θ b nu)(he:autoParam (isTrue e env (dW e env)=(do let v <- dW e env;iE e.pos;eW [v] (truthy v))) aR):WT k mu env e Θ:=⟨λ{z z z z z z} hA R q=>by
 with_reducible refine wpAny_isTrue_value ?_ he
 exact h.c hA R λz1 q1 r1 ⟨b,e1,w⟩=>(aZ.boolE (e1▸q1))▸eV (q z1 r1 w)⟩
theorem I6:jq (aN 6) av (ae 0) (ae (-1))=[5,4,3,2,1]:=by decide
end
theorem Ey{a a':Nat}:∀{w:List Nat},a∈w->∃p x q,w=p++x::q/\(x=a\/x=a')/\a∉p/\a'∉p
 |c::w,h=>by
  by_cases hc:c=a\/c=a'
  ·exact ⟨[],c,w,rfl,hc,by simp,by simp⟩
  ·have hca:c≠a:=λe=>hc (.inl e);have hca':c≠a':=λe=>hc (.inr e);refine lG (Ey (a':=a') (w:=w) (by rcases aP.mp h with e|e;exact absurd e.symm hca;exact e)) λp x q e hx h1 h2=>?_;exact ⟨c::p,x,q,by rw [e];rfl,hx,by simp [h1,gf hca],by simp [h2,gf hca']⟩
theorem ej.join{hs:List (List Nat)}{b x:Nat}{p q u:List Nat}(h:ej hs b (p++x::q))(hu:ej hs x u):ej hs b (p++x::u):=by
 have h1:ej hs b ((p++[x])++q):=by simpa using h
 rw [ej.append] at h1;have e:(b::(p++[x])).getLast (by simp)=x:=by rw [kg (by simp)];simp
 have h2:ej hs b ((p++[x])++u):=by rw [ej.append,e];exact ⟨h1.1,hu⟩
 simpa using h2
theorem gI.through{hs:List (List Nat)}{b a x:Nat}{p q:List Nat}(hw:ej hs b (p++x::q))(hp:a∉p)(wY:a≠b)(hd:gI hs b a):gI hs x a:=by
 by_cases hax:a=x
 ·exact .inl hax
 ·have hd':∀v,vX hs b [0] v->a∈v:=by
   rcases hd with e|⟨_,e⟩
   ·exact absurd e wY
   ·exact e
  refine .inr ⟨λe0=>?_,λu hu=>?_⟩
  ·subst e0;have hb:=hw.join (u:=[]) trivial;obtain ⟨v,hv,M1,qZ⟩:=k0 hb ⟨0,by rw [dn _ (List.cons_ne_nil 0 [])];rfl,aA.mpr rfl⟩;rcases bc.mp (qZ a (hd' v ⟨hv,M1⟩)) with h|h
   ·exact hp h
   ·exact hax (by simpa using h)
  refine aK (hu.2) λc hc hm=>?_;have iP:u≠[]:=by rintro rfl;simp at hc
  have hb:=hw.join hu.1.back;have hl:∃d,(p++x::u).getLast? =ae d/\d∈[0]:=⟨c,by rw [dn _ (by simp),show x::u=[x]++u from rfl,dn _ iP];exact hc,hm⟩;refine eg (k0 hb hl) λv hv M1 qZ=>?_;rcases bc.mp (qZ a (hd' v ⟨hv,M1⟩)) with h|h
  ·exact absurd h hp
  ·rcases aP.mp h with h|h
   ·exact absurd h hax
   ·exact h
theorem I7{hs:List (List Nat)}{b a a':Nat}(hr:∃w,vX hs b [0] w)(h:gI hs b a)(h':gI hs b a')(hn:a≠b)(SG:a'≠b):gI hs a a'\/gI hs a' a:=by
 refine cJ hr λw hw=>?_;clear hr;have ha:a∈w:=by
  rcases h with e|⟨_,e⟩
  ·exact absurd e hn
  ·exact e w hw
 refine lG (Ey (a':=a') ha) λp x q e hx h1 h2=>?_;have hb:=hw.1.back;rw [e] at hb;rcases hx with rfl|rfl
 ·exact .inl (gI.through hb h2 SG h')
 ·exact .inr (gI.through hb h1 hn h)
theorem gI.trans{hs:List (List Nat)}{a b c:Nat}(h:gI hs b a)(h':gI hs c b):gI hs c a:=by
 by_cases QI:b=c
 ·subst QI;exact h
 by_cases wY:a=b
 ·subst wY;exact h'
 rcases h' with e|⟨zC,e⟩
 ·exact absurd e QI
 rcases h with e1|⟨zl,e1⟩
 ·exact absurd e1 wY
 refine .inr ⟨zC,λw hw=>?_⟩;have M0:=e w hw;refine oy (eY M0) λp q PV=>?_;have hb:=hw.1.back;rw [PV] at hb;refine aK (hw.2) λd hd hm=>?_;by_cases hq:q=[]
 ·subst hq;have:d=b:=by rw [PV,dn _ (by simp)] at hd;simpa using hd.symm
  have Jo:d=0:=by simpa using hm
  exact absurd (this.symm.trans Jo) zl
 ·have EN:ej hs b q:=by
   have h1:ej hs c ((p++[b])++q):=by simpa using hb
   rw [ej.append] at h1;have e:(c::(p++[b])).getLast (by simp)=b:=by rw [kg (by simp)];simp
   rw [e] at h1;exact h1.2
  have hl:∃d,q.getLast? =ae d/\d∈[0]:=by refine ⟨d,?_,hm⟩;rw [PV,dn _ (by simp),show b::q=[b]++q from rfl,dn _ hq] at hd;exact hd
  refine eg (k0 EN hl) λv hv M1 qZ=>?_;rw [PV];exact bL _ (ab _ (qZ a (e1 v ⟨hv,M1⟩)))
noncomputable abbrev Ed:=List (Nat×Nat)
noncomputable def se(E:Ed):List Nat->Prop
 |a::b::p=>(a,b)∈E/\se E (b::p)
 |_=>True
structure sX(E:Ed)(A B:Nat->Prop)(p:List Nat):Prop where
 ch:se E p
 st:∃a,p.head? =ae a/\A a
 en:∃b,p.getLast? =ae b/\B b
theorem se.mono{E E':Ed}(h:∀x∈E,x∈E'):∀{p:List Nat},se E p->se E' p
 |[],_=>trivial
 |[_],_=>trivial
 |_::_::_,hc=>⟨h _ hc.1,hc.2.mono h⟩
theorem sX.mono{E E':Ed}{A B:Nat->Prop}{p:List Nat}(h:∀x∈E,x∈E')(hp:sX E A B p):sX E' A B p:=⟨hp.ch.mono h,hp.st,hp.en⟩
theorem se.left{E:Ed}:∀{u v:List Nat},se E (u++v)->se E u
 |[],_,_=>trivial
 |[_],_,_=>trivial
 |_::_::_,_,h=>⟨h.1,se.left (u:=_::_) h.2⟩
theorem se.right{E:Ed}:∀{u v:List Nat},se E (u++v)->se E v
 |[],_,h=>h
 |[_],[],_=>trivial
 |[_],_::_,h=>h.2
 |_::b::u,v,h=>se.right (u:=b::u) h.2
theorem se.glue{E:Ed}:∀{u v:List Nat} {z:Nat},se E (u++[z])->se E (z::v)->se E (u++z::v)
 |[],_,_,_,h=>h
 |[a],_,_,h,h'=>⟨h.1,h'⟩
 |a::b::u,v,z,h,h'=>⟨h.1,se.glue (u:=b::u) h.2 h'⟩
theorem se.uses{x y:Nat}{E:Ed}:∀{p:List Nat},se ((x,y)::E) p->se E p\/∃u v,p=u++x::y::v/\se E (u++[x])
 |[],_=> .inl trivial
 |[_],_=> .inl trivial
 |a::b::p,h=>by
  rcases aP.mp h.1 with e|e
  ·injection e with e1 e2
   subst e1;subst e2;exact .inr ⟨[],p,rfl,trivial⟩
  ·rcases se.uses h.2 with h'|⟨u,v,e',h'⟩
   ·exact .inl ⟨e,h'⟩
   ·refine .inr ⟨a::u,v,by refine aj (e' ..) ?_;rfl,?_⟩;cases u with
    |nil=>
     have:b=x:=by injection e'
     subst this;exact ⟨e,trivial⟩
    |cons c u=>
     have:b=c:=by injection e'
     subst this;exact ⟨e,h'⟩
theorem se.uses'{x y:Nat}{E:Ed}:∀{p:List Nat},se ((x,y)::E) p->se E p\/∃u v,p=u++x::y::v/\se E (y::v)
 |[],_=> .inl trivial
 |[_],_=> .inl trivial
 |a::b::p,h=>by
  rcases se.uses' h.2 with h'|⟨u,v,e',h'⟩
  ·rcases aP.mp h.1 with e|e
   ·injection e with e1 e2
    subst e1;subst e2;exact .inr ⟨[],p,rfl,h'⟩
   ·exact .inl ⟨e,h'⟩
  ·exact .inr ⟨a::u,v,by refine aj (e' ..) ?_;rfl,h'⟩
theorem pX{s:Nat}:∀{p:List Nat},s∈p->∃u v,p=u++s::v/\s∉u
 |a::p,h=>by
  by_cases e:a=s
  ·exact ⟨[],p,by refine aj (e ..) ?_;rfl,by simp⟩
  ·refine eD (pX (p:=p) (by rcases aP.mp h with h|h;exact absurd h.symm e;exact h)) λu v h1 h2=>?_;exact ⟨a::u,v,by refine aj (h1 ..) ?_;rfl,by simp [h2,gf e]⟩
theorem Co{s:Nat}:∀{p:List Nat},s∈p->∃u v,p=u++s::v/\s∉v
 |a::p,h=>by
  by_cases e:s∈p
  ·exact eD (Co e) λu v h1 h2=>⟨a::u,v,by refine aj (h1 ..) ?_;rfl,h2⟩
  ·rcases aP.mp h with h|h
   ·exact ⟨[],p,by refine aj (h ..) ?_;rfl,e⟩
   ·exact absurd h e
theorem sf{α:Type _}(u:List α){v:List α}(h:v≠[]):(u++v).getLast? =v.getLast? :=by (refine aj (TI ..) ?_;refine aj (gu h ..) ?_);rfl
theorem u0{u v:List Nat}{z:Nat}:(u++z::v).head? =(u++[z]).head? :=by cases u <;> rfl
theorem sX.pre{E:Ed}{A B C:Nat->Prop}{u v:List Nat}{z:Nat}(h:sX E A B (u++z::v))(hz:C z):sX E A C (u++[z]):=
 ⟨se.left (v:=v) (by simpa using h.ch),by refine fZ (u0 (v:=v) ..) ?_;exact h.st,z,by simp,hz⟩
theorem sX.suf{E:Ed}{A B C:Nat->Prop}{u v:List Nat}{z:Nat}(h:sX E A B (u++z::v))(hz:C z):sX E C B (z::v):=
 ⟨h.ch.right,⟨z,rfl,hz⟩,by refine fZ (sf u (by simp) ..) ?_;exact h.en⟩
theorem sX.join{E:Ed}{A B C D:Nat->Prop}{u v p q:List Nat}{z:Nat}(h:sX E A B (u++z::p))(h':sX E C D (v++z::q)):sX E A D (u++z::q):=
 ⟨se.glue (se.left (v:=p) (by simpa using h.ch)) h'.ch.right,by (refine aj (u0 ..) ?_;refine fZ (u0 (v:=p) ..) ?_);exact h.st,by (refine aj (sf _ (by simp) ..) ?_;refine fZ (sf v (by simp) ..) ?_);exact h'.en⟩
theorem HE{u v:List Nat}{z c:Nat}(h:c∈u++[z]):c∈u++z::v:=by
 rcases bc.mp h with h|h
 ·exact aE _ h
 ·exact bL _ (by refine aj (aA.mp h ..) ?_;exact aa)
def Sm(p q:List Nat):Prop:=∀z∈p,z∉q
theorem xH:∀(E:Ed) (A B:Nat->Prop),(∀c,∃p,sX E A B p/\c∉p)->∃p q,sX E A B p/\sX E A B q/\Sm p q
 |[],A,B,H=>by
  have one:∀{p:List Nat},sX [] A B p->∃a,p=[a]/\A a/\B a:=by
   intro p hp;obtain ⟨ch,⟨a,ha,hA⟩,b,hb,hB⟩:=hp
   match p,ch,ha,hb with
   |[c],_,ha,hb=>simp at ha hb;subst ha;subst hb;exact ⟨_,rfl,hA,hB⟩
   |_::_::_,ch,_,_=>exact absurd ch.1 (by simp)
  refine aK (H 0) λp hp w=>aK (one hp) λa eU w=>?_;subst eU;exact aK (H a) λq hq hn=>⟨[a],q,hp,hq,λz hz=>by refine aj (aA.mp hz ..) ?_;exact hn⟩
 |(x,y)::E,A,B,H=>by
  have up:∀z∈E,z∈(x,y)::E:=λz hz=>ab _ hz;by_cases h1:∀c,∃p,sX E A B p/\c∉p
  ·exact cC (xH E A B h1) λp q hp hq hs=>⟨p,q,hp.mono up,hq.mono up,hs⟩
  ·refine cJ (Classical.not_forall.mp h1) λs hs=>?_;have cut:∀p,sX E A B p->s∈p:=λp hp=>bO λhn=>hs ⟨p,hp,hn⟩;have HA:∀c,∃p,sX E A (λz=>z=s\/z=x) p/\c∉p:=by
    intro c;refine aK (H c) λp hp hc=>?_;rcases hp.ch.uses with h|⟨u,v,e,h⟩
    ·refine eD (pX (cut p ⟨h,hp.st,hp.en⟩)) λu v e w=>?_;have hp':sX E A B (u++s::v):=e▸⟨h,hp.st,hp.en⟩;exact ⟨u++[s],hp'.pre (.inl rfl),λhm=>hc (by refine aj (e ..) ?_;exact HE hm)⟩
    ·refine ⟨u++[x],⟨h,?_,x,by simp,.inr rfl⟩,λhm=>hc (by refine aj (e ..) ?_;exact HE hm)⟩;have:=hp.st;rw [e,u0] at this;exact this
   have HB:∀c,∃p,sX E (λz=>z=s\/z=y) B p/\c∉p:=by
    intro c;refine aK (H c) λp hp hc=>?_;rcases hp.ch.uses' with h|⟨u,v,e,h⟩
    ·refine eD (pX (cut p ⟨h,hp.st,hp.en⟩)) λu v e w=>?_;have hp':sX E A B (u++s::v):=e▸⟨h,hp.st,hp.en⟩;exact ⟨s::v,hp'.suf (.inl rfl),λhm=>hc (by refine aj (e ..) ?_;exact bL _ hm)⟩
    ·refine ⟨y::v,⟨h,⟨y,rfl,.inr rfl⟩,?_⟩,λhm=>hc (by refine aj (e ..) ?_;exact bL _ (ab _ hm))⟩;have:=hp.en;rw [e,show u++x::y::v=(u++[x])++y::v by simp,sf _ (by simp)] at this;exact this
   refine cC (xH E A _ HA) λp1 p2 hp1 hp2 hps=>cC (xH E _ B HB) λq1 q2 SZ PP hqs=>?_;obtain ⟨ps,px,Ta,HQ,hpd⟩:∃ps px,sX E A (·=s) ps/\sX E A (·=x) px/\Sm ps px:=by
    refine aK (hp1.en) λb1 e1 o1=>aK (hp2.en) λb2 e2 o2=>?_;have m1:=df e1;have m2:=df e2;have iP:b1≠b2:=λe=>hps b1 m1 (e▸m2);rcases o1 with rfl|rfl <;> rcases o2 with rfl|rfl
    ·exact absurd rfl iP
    ·exact ⟨p1,p2,⟨hp1.ch,hp1.st,_,e1,rfl⟩,⟨hp2.ch,hp2.st,_,e2,rfl⟩,hps⟩
    ·exact ⟨p2,p1,⟨hp2.ch,hp2.st,_,e2,rfl⟩,⟨hp1.ch,hp1.st,_,e1,rfl⟩,λz h h'=>hps z h' h⟩
    ·exact absurd rfl iP
   obtain ⟨qs,qy,Tb,hqy,hqd⟩:∃qs qy,sX E (·=s) B qs/\sX E (·=y) B qy/\Sm qs qy:=by
    refine aK (SZ.st) λb1 e1 o1=>aK (PP.st) λb2 e2 o2=>?_;have m1:=sT e1;have m2:=sT e2;have iP:b1≠b2:=λe=>hqs b1 m1 (e▸m2);rcases o1 with rfl|rfl <;> rcases o2 with rfl|rfl
    ·exact absurd rfl iP
    ·exact ⟨q1,q2,⟨SZ.ch,⟨_,e1,rfl⟩,SZ.en⟩,⟨PP.ch,⟨_,e2,rfl⟩,PP.en⟩,hqs⟩
    ·exact ⟨q2,q1,⟨PP.ch,⟨_,e2,rfl⟩,PP.en⟩,⟨SZ.ch,⟨_,e1,rfl⟩,SZ.en⟩,λz h h'=>hqs z h' h⟩
    ·exact absurd rfl iP
   have ms:s∈ps:=by obtain ⟨b,e,rfl⟩:=Ta.en;exact df e
   have mq:s∈qs:=by obtain ⟨b,e,rfl⟩:=Tb.st;exact sT e
   refine eD (pX ms) λu u' eu hu=>eD (Co mq) λv' v ev hv=>?_;have spx:s∉px:=hpd s ms;have sqy:s∉qy:=hqd s mq;subst eu;subst ev;have mx:x∈px:=by obtain ⟨b,e,rfl⟩:=HQ.en;exact df e
   have my:y∈qy:=by obtain ⟨b,e,rfl⟩:=hqy.st;exact sT e
   have noc:∀{C D:Nat->Prop} {l1 r1 l2 r2:List Nat} {z:Nat},sX E A C (l1++z::r1)->sX E D B (l2++z::r2)->s∉l1->z≠s->s∉r2->False:=by
    intro C D l1 r1 l2 r2 z ha hb n1 n2 n3;have:=cut _ (ha.join hb);simp at this;rcases this with h|h|h
    ·exact n1 h
    ·exact n2 h.symm
    ·exact n3 h
   refine ⟨u++s::v,px++qy,(Ta.join Tb).mono up,?_,?_⟩
   ·refine aK (HQ.en) λb e hb=>aK (hqy.st) λa e' ha=>?_;have hb':b=x:=hb;have ha':a=y:=ha;subst hb';subst ha';obtain ⟨p0,rfl⟩:∃p0,px=p0++[b]:=by
     have iP:px≠[]:=by rintro rfl;exact gK e
     refine ⟨px.dropLast,?_⟩;have h1:=GT iP;rw [gu iP] at e;rw [aO e] at h1;exact h1.symm
    obtain ⟨q0,rfl⟩:∃q0,qy=a::q0:=by
     cases qy with
     |nil=>exact gK e'
     |cons c l=>exact ⟨l,by (refine aj (aO e' ..) ?_;rfl)⟩
    refine ⟨?_,?_,?_⟩
    ·have h1:se ((b,a)::E) (p0++b::(a::q0)):=se.glue (HQ.ch.mono up) ⟨aa,hqy.ch.mono up⟩;simpa using h1
    ·refine aK (HQ.st) λc hc hA=>⟨c,?_,hA⟩
     refine fZ (hc ..) ?_;cases p0 <;> rfl
    ·exact aK (hqy.en) λc hc hB=>⟨c,by refine aj (sf _ (by simp) ..) ?_;exact hc,hB⟩
   ·intro z hz MP;rcases bc.mp hz with h|h
    ·rcases bc.mp MP with h'|h'
     ·exact hpd z (aE _ h) h'
     ·refine oy (eY h) λl1 r1 e1=>oy (eY h') λl2 r2 e2=>?_;subst e1;subst e2;have ha:sX E A (·=s) (l1++z::(r1++s::u')):=by simpa using Ta
      exact noc ha hqy (λhm=>hu (aE _ hm)) (λe=>hu (by refine fZ (e ..) ?_;simp)) λhm=>sqy (by simp [hm])
    ·rcases aP.mp h with h|h
     ·subst h;rcases bc.mp MP with h'|h'
      ·exact spx h'
      ·exact sqy h'
     ·rcases bc.mp MP with h'|h'
      ·refine oy (eY h') λl1 r1 e1=>oy (eY h) λl2 r2 e2=>?_;subst e1;subst e2;have hb:sX E (·=s) B ((v'++s::l2)++z::r2):=by simpa using Tb
       exact noc HQ hb (λhm=>spx (by simp [hm])) (λe=>hv (by refine fZ (e ..) ?_;simp)) λhm=>hv (by simp [hm])
      ·exact hqd z (by simp [h]) h'
def wi(hs:List (List Nat))(b o:Nat):Prop:=gI hs b o/\o≠b
def Gq(hs:List (List Nat))(x z:Nat):Prop:=∃p∈hs.getD z [],gI hs p x/\¬wi hs z x
inductive iB(hs:List (List Nat))(S:List Nat):Nat->Prop
 |set {x z:_}:x∈S->Gq hs x z->iB hs S z
 |next {x z:_}:iB hs S x->Gq hs x z->iB hs S z
def zA(hs:List (List Nat))(S:List Nat)(x:Nat):Prop:=x∈S\/iB hs S x
theorem iB.of{hs:List (List Nat)}{S:List Nat}{x z:Nat}(h:zA hs S x)(hf:Gq hs x z):iB hs S z:=by
 rcases h with h|h
 ·exact .set h hf
 ·exact .next h hf
structure Gr(hs:List (List Nat)):Prop where
 reach:∀b,b≠0->(∃c,b∈hs.getD c []\/c∈hs.getD b [])->∃w,vX hs b [0] w
 entry:hs.getD 0 []=[]
theorem gI.zero{hs:List (List Nat)}{o:Nat}(h:gI hs 0 o):o=0:=by
 rcases h with h|⟨h,_⟩
 ·exact h
 ·exact absurd rfl h
theorem Ba{hs:List (List Nat)}{S:List Nat}{x p z:Nat}(hx:zA hs S x)(hp:p∈hs.getD z [])(hd:gI hs p x)(hn:¬iB hs S z):wi hs z x:=
 bO λh=>hn (iB.of hx ⟨p,hp,hd,h⟩)
theorem Bb{hs:List (List Nat)}{S:List Nat}{x:Nat}(hx:zA hs S x):∀{w:List Nat} {z:Nat},ej hs z (w++[x])->(∀c∈w,¬zA hs S c)->¬iB hs S z->wi hs z x
 |[],z,hb,_,hn=>Ba hx hb.1 gI.self hn
 |c::w,z,hb,hw,hn=>by
  have hc:=hw c aa;have:=Bb hx hb.2 (λd hd=>hw d (ab _ hd)) (λh=>hc (.inr h));exact Ba hx hb.1 this.1 hn
def Cut(hs:List (List Nat))(S:List Nat)(c y:Nat):Prop:=y=c\/(y∉S/\∀w,ej hs y w->(∃d,w.getLast? =ae d/\d∈S)->c∈w)
theorem Cut.head{hs:List (List Nat)}{S:List Nat}{c y p:Nat}(h:∀w,ej hs y w->(∃d,w.getLast? =ae d/\d∈S)->c∈w)(hp:p∈hs.getD y []):Cut hs S c p:=by
 by_cases e:p=c
 ·exact .inl e
 ·refine .inr ⟨λua=>?_,λw hw hl=>?_⟩
  ·have:=h [p] ⟨hp,trivial⟩ ⟨p,rfl,ua⟩;exact e (aA.mp this).symm
  ·have iP:w≠[]:=by
    rintro rfl;refine aK hl λd hd z=>?_;clear hl;simp at hd
   refine aK hl λd hd hm=>?_;clear hl;have:=h (p::w) ⟨hp,hw⟩ ⟨d,by (refine aj (show p::w=[p]++w from rfl) ?_;refine aj (dn _ iP ..) ?_);exact hd,hm⟩;rcases aP.mp this with e'|e'
   ·exact absurd e'.symm e
   ·exact e'
theorem gI.walk{hs:List (List Nat)}{b a:Nat}(h:gI hs b a)(hn:a≠b){w:List Nat}(hw:ej hs b w)(hl:w.getLast? =ae 0):a∈w:=by
 refine eg (k0 (marks:=[0]) hw ⟨0,hl,by decide⟩) λv hv M1 qZ=>?_;rcases h with e|⟨_,e⟩
 ·exact absurd e hn
 ·exact qZ a (e v ⟨hv,M1⟩)
theorem yX{hs:List (List Nat)}{b a:Nat}{p q:List Nat}(h:ej hs b (p++a::q)):ej hs a q:=by
 have h1:ej hs b ((p++[a])++q):=by simpa using h
 rw [ej.append] at h1;have e:(b::(p++[a])).getLast (by simp)=a:=by refine aj (kg (by simp) ..) ?_;simp
 rw [e] at h1;exact h1.2
theorem yY{p q:List Nat}{a:Nat}(ha:a≠0)(h:(p++a::q).getLast? =ae 0):q.getLast? =ae 0:=by
 rw [dn _ (by simp)] at h;cases q with
 |nil=>exact absurd (aO h) ha
 |cons c q=>refine fZ (h ..) ?_;rfl
theorem gI.anti{hs:List (List Nat)}{a b:Nat}(hr:b≠0->∃w,vX hs b [0] w)(h:gI hs b a)(h':gI hs a b):a=b:=by
 by_cases hb:b=0
 ·subst hb;exact h.zero
 by_cases ha:a=0
 ·subst ha;exact h'.zero.symm
 apply bO;intro hn;have key:∀n,∀w,w.length=n->ej hs b w->w.getLast? =ae 0->False:=by
  intro n;induction n using vx with
  |ind n ih=>intro w hlen hw hl;refine oy (eY (h.walk hn hw hl)) λp q e=>?_;subst e;have hq:=yX hw;have hql:=yY ha hl;refine oy (eY (h'.walk (gf hn) hq hql)) λp' q' e'=>?_;subst e';refine ih q'.length ?_ q' rfl (yX hq) (yY hb hql);refine fZ (hlen ..) ?_;simp only [ba,bK];lia
 obtain ⟨w,hw,c,hc,hm⟩:=hr hb;have:c=0:=by simpa using hm
 subst this;exact key _ w rfl hw.back hc
theorem ej.lt{hs:List (List Nat)}(lt:∀b,∀c∈hs.getD b [],c < 6):∀{w:List Nat} {b:Nat},ej hs b w->∀c∈w,c < 6
 |[],_,_,_,h=>eo h
 |d::w,b,hw,c,h=>by
  rcases aP.mp h with e|e
  ·refine aj (e ..) ?_;exact lt b d hw.1
  ·exact ej.lt lt hw.2 c e
theorem u3{hs:List (List Nat)}{S:List Nat}{c x z:Nat}(h0:0∈S)(he:hs.getD 0 []=[])(lt:∀b,∀c∈hs.getD b [],c < 6)(hr:∀y,y≠0->y < 6->∃w,vX hs y [0] w)(ih:Cut hs S c x->x=c)(hf:Gq hs x z)(zp:∀w,ej hs z w->(∃d,w.getLast? =ae d/\d∈S)->c∈w):z=c:=by
 apply bO;intro hn;refine eg hf λp hp HQ wo=>?_;clear hf;have M7:z≠0:=by rintro rfl;rw [he] at hp;exact eo hp
 have hdc:gI hs z c:= .inr ⟨M7,λw hw=>zp w hw.1.back (by
  refine aK (hw.2) λd hd hm=>?_;exact ⟨d,hd,by
   have:d=0:=by simpa using hm
   refine aj (this ..) ?_;exact h0⟩)⟩
 have ud:c < 6:=by
  by_cases JQ:p=0
  ·subst JQ;have:=zp [0] ⟨hp,trivial⟩ ⟨0,rfl,h0⟩;refine aj (aA.mp this ..) ?_;decide
  ·obtain ⟨w,hw,d,hd,hm⟩:=hr p JQ (lt z p hp);have Jo:d=0:=by simpa using hm
   have iP:w≠[]:=by rintro rfl;simp at hd
   have hb:ej hs z (p::w):=⟨hp,hw.back⟩;exact hb.lt lt c (zp _ hb ⟨d,by (refine aj (show p::w=[p]++w from rfl) ?_;refine aj (dn _ iP ..) ?_);exact hd,Jo▸h0⟩)
 have PS:x≠c:=λe=>wo (e▸⟨hdc,gf hn⟩);have bad:gI hs c x->False:=λh=>by
  by_cases hxz:x=z
  ·subst hxz;exact hn (gI.anti (λhc=>hr c hc ud) h hdc)
  ·exact wo ⟨h.trans hdc,hxz⟩
 have hcp:=Cut.head zp hp;rcases hcp with e|⟨hpS,hpw⟩
 ·exact bad (e▸HQ)
 by_cases QO:x=p
 ·exact PS (ih (QO▸.inr ⟨hpS,hpw⟩))
 have JQ:p≠0:=λe=>hpS (e▸h0);obtain ⟨w,hw,d,hd,hm⟩:=hr p JQ (lt z p hp);have Jo:d=0:=by simpa using hm
 subst Jo;refine eD (pX (HQ.walk QO hw.back hd)) λu v e hu=>?_;have hb:=hw.back;rw [e] at hb;have hcu:c∉u:=λhm=>by
  refine oy (eY hm) λu1 u2 e1=>?_;rw [e1] at hb hu;exact bad (gI.through (p:=u1) (q:=u2++x::v) (by simpa using hb) (λh=>hu (by simp [h])) QO HQ)
 refine PS (ih (.inr ⟨λhxS=>?_,λw' hw' hl=>?_⟩))
 ·have:=hpw (u++[x]) (hb.join (u:=[]) trivial) ⟨x,by simp,hxS⟩;rcases bc.mp this with h|h
  ·exact hcu h
  ·exact PS (aA.mp h).symm
 ·refine aK hl λd hd hm=>?_;clear hl;have iP:w'≠[]:=by rintro rfl;simp at hd
  have:=hpw (u++x::w') (hb.join hw') ⟨d,by (refine aj (dn _ (by simp) ..) ?_;refine aj (show x::w'=[x]++w' from rfl) ?_;refine aj (dn _ iP ..) ?_);exact hd,hm⟩;rcases bc.mp this with h|h
  ·exact absurd h hcu
  ·rcases aP.mp h with h|h
   ·exact absurd h.symm PS
   ·exact h
theorem Pb{hs:List (List Nat)}{S:List Nat}{c x:Nat}(h0:0∈S)(he:hs.getD 0 []=[])(lt:∀b,∀c∈hs.getD b [],c < 6)(hr:∀y,y≠0->y < 6->∃w,vX hs y [0] w)(hx:iB hs S x):Cut hs S c x->x=c:=by
 induction hx with
 |set ua hf=>exact λh=>h.elim id λh=>u3 h0 he lt hr (λh=>h.elim id λh=>absurd ua h.1) hf h.2
 |next _ hf ih=>exact λh=>h.elim id λh=>u3 h0 he lt hr ih hf h.2
theorem Mw{hs:List (List Nat)}{S:List Nat}{c x:Nat}(h0:0∈S)(he:hs.getD 0 []=[])(lt:∀b,∀c∈hs.getD b [],c < 6)(hr:∀y,y≠0->y < 6->∃w,vX hs y [0] w)(hx:iB hs S x)(zp:∀w,ej hs x w->(∃d,w.getLast? =ae d/\d∈S)->c∈w):x=c:=by
 cases hx with
 |set ua hf=>exact u3 h0 he lt hr (λh=>h.elim id λh=>absurd ua h.1) hf zp
 |next h hf=>exact u3 h0 he lt hr (Pb h0 he lt hr h) hf zp
def kq.S0(hs:List (List Nat))(S:List Nat)(z _:Nat):Prop:=∀(h0:0∈S) (lt:∀b,∀c∈hs.getD b [],c < 6) (hr:∀y,y≠0->y < 6->∃w,vX hs y [0] w) (hz:iB hs S z),∃w y,ej hs z (w++[y])/\zA hs S y/\¬wi hs z y/\∀c∈w,¬zA hs S c
namespace kq
@[irreducible] def e0:=GW gD gD eO eO S0
def kE:=e0.1
def S_:=e0.2.1
def z_:=e0.2.2.1
theorem T0:S0 kE S_ z_ e0.2.2.2:=by
 intro h0 lt hr hz;obtain ⟨x,hx,p,hp,HQ,wo⟩:∃x,zA kE S_ x/\Gq kE x z_:=by
  cases hz with
  |set h hf=>exact ⟨_,.inl h,hf⟩
  |next h hf=>exact ⟨_,.inr h,hf⟩
 obtain ⟨u,hu,hxu⟩:∃u,ej kE z_ (u++[x])/\∀u1 y u2,u=u1++y::u2->gI kE y x:=by
  by_cases QO:x=p
  ·exact ⟨[],⟨QO▸hp,trivial⟩,λu1 y u2 e=>by simp at e⟩
  ·have JQ:p≠0:=λe=>by subst e;exact QO HQ.zero
   obtain ⟨w,hw,d,hd,hm⟩:=hr p JQ (lt z_ p hp);have Jo:d=0:=by simpa using hm
   subst Jo;refine eD (pX (HQ.walk QO hw.back hd)) λu v e hxu=>?_;have hb:=hw.back;rw [e] at hb;refine ⟨p::u,⟨hp,hb.join (u:=[]) trivial⟩,λu1 y u2 e'=>?_⟩;cases u1 with
   |nil=>injection e' with e1 e2;refine fZ (e1 ..) ?_;exact HQ
   |cons a u1=>
    injection e' with e1 e2
    rw [e2] at hb hxu;exact gI.through (p:=u1) (q:=u2++x::v) (by simpa using hb) (λh=>hxu (by simp [h])) QO HQ
 by_cases hM:∃c∈u,zA kE S_ c
 ·
  have first:∀{l:List Nat},(∃c∈l,zA kE S_ c)->∃u1 y u2,l=u1++y::u2/\zA kE S_ y/\∀c∈u1,¬zA kE S_ c:=by
   intro l;induction l with
   |nil=>rintro ⟨c,hc,_⟩;exact eo hc
   |cons a l ih=>
    intro h;by_cases ha:zA kE S_ a
    ·exact ⟨[],a,l,rfl,ha,λc hc=>eo hc⟩
    ·obtain ⟨u1,y,u2,e,h1,h2⟩:=ih (by
      refine aK h λc hc hm=>?_;clear h;rcases aP.mp hc with e|e
      ·exact absurd (e▸hm) ha
      ·exact ⟨c,e,hm⟩)
     exact ⟨a::u1,y,u2,by refine aj (e ..) ?_;rfl,h1,λc hc=>by
      rcases aP.mp hc with e|e
      ·exact e▸ha
      ·exact h2 c e⟩
  refine cE (first hM) λu1 y u2 e hy h1=>?_;have hd:=hxu u1 y u2 e;refine ⟨u1,y,?_,hy,λua=>?_,h1⟩
  ·rw [e] at hu;exact ej.join (q:=u2++[x]) (u:=[]) (by simpa using hu) trivial
  ·by_cases hxz:x=z_
   ·subst hxz;have Uj:y < 6:=by rw [e] at hu;exact hu.lt lt y (by simp)
    exact ua.2 (gI.anti (λhy0=>hr y hy0 Uj) hd ua.1).symm
   ·exact wo ⟨hd.trans ua.1,hxz⟩
 ·exact ⟨u,x,hu,hx,wo,λc hc hm=>hM ⟨c,hc,hm⟩⟩
end kq
theorem kq{hs:List (List Nat)}{S:List Nat}{z:Nat}:kq.S0 hs S z 0:=by with_unfolding_all exact vz _ _ _ _ kq.S0 @kq.T0 hs S z 0
noncomputable def Bc(hs:List (List Nat)):Ed:=(aN hs.length).flatMap λb=>(hs.getD b []).map λc=>(b,c)
theorem Pc{hs:List (List Nat)}{b c:Nat}:(b,c)∈Bc hs↔c∈hs.getD b []:=by
 unfold Bc;refine gj (bG ..) ?_;constructor
 ·intro dO;refine aK dO λd z h=>?_;clear dO;refine aK (aG.mp h) λe h1 h2=>?_;injection h2 with h3 h4
  subst h3;subst h4;exact h1
 ·intro h;refine ⟨b,?_,aG.mpr ⟨c,h,rfl⟩⟩;refine gj (aY ..) ?_;rcases gX b hs.length with h'|h'
  ·exact h'
  ·rw [bR,il h'] at h;exact eo h
theorem yZ{hs:List (List Nat)}:∀{w:List Nat} {b:Nat},se (Bc hs) (b::w)↔ej hs b w
 |[],_=>⟨λz=>trivial,λz=>trivial⟩
 |c::w,b=>by
  show (_/\se (Bc hs) (c::w))↔(_/\ej hs c w);refine gj (Pc ..) ?_;refine gj (yZ ..) ?_;rfl
def nW.S0(hs:List (List Nat))(S:List Nat)(z _:Nat):Prop:=∀(h0:0∈S) (he:hs.getD 0 []=[]) (lt:∀b,∀c∈hs.getD b [],c < 6) (hr:∀y,y≠0->y < 6->∃w,vX hs y [0] w) (hz:iB hs S z) (M7:z≠0) (JR:z < 6),∃w1 w2,vX hs z S w1/\vX hs z S w2/\Sm w1 w2
namespace nW
@[irreducible] def e0:=GW gD gD eO eO S0
def kE:=e0.1
def S_:=e0.2.1
def z_:=e0.2.2.1
theorem T0:S0 kE S_ z_ e0.2.2.2:=by
 intro h0 he lt hr hz M7 JR;have H:∀c,∃p,sX (Bc kE) (λa=>a∈kE.getD z_ []) (λa=>a∈S_) p/\c∉p:=by
  intro c;obtain ⟨w,hw,hl,hc⟩:∃w,ej kE z_ w/\(∃d,w.getLast? =ae d/\d∈S_)/\c∉w:=by
   by_cases PX:z_=c
   ·obtain ⟨w,hw,d,hd,hm⟩:=hr z_ M7 JR;have Jo:d=0:=by simpa using hm
    subst Jo;by_cases hzw:z_∈w
    ·refine eD (Co hzw) λu v e hv=>?_;have hb:=hw.back;rw [e] at hb hd;exact ⟨v,yX hb,⟨0,yY M7 hd,h0⟩,PX▸hv⟩
    ·exact ⟨w,hw.back,⟨0,hd,h0⟩,PX▸hzw⟩
   ·apply bO;intro Br;have all:∀w,ej kE z_ w->(∃d,w.getLast? =ae d/\d∈S_)->c∈w:=λw h1 h2=>bO λh3=>Br ⟨w,h1,h2,h3⟩;exact PX (Mw h0 he lt hr hz all)
  refine aK hl λd hd hm=>?_;clear hl;cases w with
  |nil=>simp at hd
  |cons a w=>exact ⟨a::w,⟨yZ.mpr hw.2,⟨a,rfl,hw.1⟩,d,hd,hm⟩,hc⟩
 refine cC (xH _ _ _ H) λp q hp hq ua=>?_;have mk:∀{p:List Nat},sX (Bc kE) (λa=>a∈kE.getD z_ []) (λa=>a∈S_) p->∃v,vX kE z_ S_ v/\∀c∈v,c∈p:=by
  intro p hp;obtain ⟨ch,⟨a,ha,hA⟩,d,hd,hm⟩:=hp;cases p with
  |nil=>exact gK ha
  |cons b p=>have:b=a:=aO ha;subst this;exact eg (k0 (b:=z_) (marks:=S_) (w:=b::p) ⟨hA,yZ.mp ch⟩ ⟨d,hd,hm⟩) λv hv M1 qZ=>⟨v,⟨hv,M1⟩,qZ⟩
 exact aK (mk hp) λv1 h1 s1=>aK (mk hq) λv2 h2 s2=>⟨v1,v2,h1,h2,λz_ hz MP=>ua z_ (s1 z_ hz) (s2 z_ MP)⟩
end nW
theorem nW{hs:List (List Nat)}{S:List Nat}{z:Nat}:nW.S0 hs S z 0:=by with_unfolding_all exact vz _ _ _ _ nW.S0 @nW.T0 hs S z 0
structure I8(hs:List (List Nat))(S:List Nat)(z v:Nat):Prop where
 mem:zA hs S v
 sd:wi hs z v
 near:∀y,zA hs S y->wi hs z y->gI hs v y
theorem Cp{hs:List (List Nat)}{y v:Nat}(h:¬gI hs y v)(hy:y≠0):∃u,ej hs y u/\u.getLast? =ae 0/\v∉u:=by
 apply bO;intro Br;refine h (.inr ⟨hy,λw hw=>bO λhv=>Br ⟨w,hw.1.back,?_,hv⟩⟩);refine aK (hw.2) λd hd hm=>?_;have Jo:d=0:=by simpa using hm
 exact Jo▸hd
theorem tq{hs:List (List Nat)}{S:List Nat}{z v y:Nat}{w:List Nat}(hr:∀y,y≠0->y < 6->∃w,vX hs y [0] w)(lt:∀b,∀c∈hs.getD b [],c < 6)(hn:¬iB hs S z)(nv:I8 hs S z v)
 (hw:ej hs z (w++[y])) (hy:zA hs S y) (hu:∀c∈w,¬zA hs S c):y=v:=by
 have GI:=Bb hy hw hu hn;have hd:=nv.near y hy GI;have Uj:y < 6:=hw.lt lt y (by exact bL _ aa);apply bO;intro iP;by_cases hy0:y=0
 ·subst hy0;have h1:=nv.sd.1.walk nv.sd.2 hw (by simp);rcases bc.mp h1 with h|h
  ·exact hu v h nv.mem
  ·exact iP (aA.mp h).symm
 ·have hnd:¬gI hs y v:=λh=>iP (by
   by_cases GD:v=0
   ·subst GD;exact hd.zero
   ·exact (gI.anti (λx=>hr y hy0 Uj) h hd).symm)
  refine eg (Cp hnd hy0) λu hu1 hu2 hu3=>?_;have hne':u≠[]:=by rintro rfl;simp at hu2
  have h1:=nv.sd.1.walk nv.sd.2 (w:=w++y::u) (ej.join (q:=[]) hw hu1) (by (refine aj (dn _ (by simp) ..) ?_;refine aj (show y::u=[y]++u from rfl) ?_;refine aj (dn _ hne' ..) ?_);exact hu2);rcases bc.mp h1 with h|h
  ·exact hu v h nv.mem
  ·rcases aP.mp h with h|h
   ·exact iP h.symm
   ·exact hu3 h
section
variable {hs:List (List Nat)}{cs:Nat->Cs}{S S':Nat->Nat}{m i j w:Nat}{ws:List Nat}
theorem Qx{S o:Nat}(h:S < 64)(hb:S.testBit o=aJ):o < 6:=by
 rcases gX o 6 with q|q
 ·exact q
 ·have:S.testBit o=aH:=u9 (cb h (by refine aj (show (64:Nat)=2 ^ 6 from rfl) ?_;exact e8 (by decide) q));rw [this] at hb;exact vG hb
theorem xI:cU S cs j < 64:=DC _
theorem y5{o:Nat}(ho:o < 6):(cU S cs j).testBit o=(o == j || (cs j).all λc=>(S c.1).testBit o):=kB _ ho
theorem I9(h:∀b o,(S' b).testBit o=aJ->(S b).testBit o=aJ){o:Nat}(hb:(cU S' cs j).testBit o=aJ):(cU S cs j).testBit o=aJ:=by
 have ho:=Qx xI hb;rw [y5 ho] at hb ⊢;rw [jV] at hb ⊢;rcases hb with hb|hb
 ·exact .inl hb
 ·rw [fW] at hb ⊢;exact .inr λc hc=>h _ _ (hb c hc)
theorem Gs(h:∀c∈cs j,S' c.1=S c.1):cU S' cs j=cU S cs j:=by unfold cU;congr 1;funext o;congr 1;refine gj (cm ..) ?_;refine gj (fW ..) ?_;refine gj (fW ..) ?_;exact ⟨λq c hc=>by refine fZ (h c hc ..) ?_;exact q c hc,λq c hc=>by refine aj (h c hc ..) ?_;exact q c hc⟩
theorem Sn:∀S,S < 64->∀S',S' < 64->(∀o,o < 6->S'.testBit o=aJ->S.testBit o=aJ)->S'≠S->(eZ S').length < (eZ S).length:=by decide+kernel
noncomputable def Cq(S:Nat->Nat):Nat:=(eZ (S 1)).length+(eZ (S 2)).length+(eZ (S 3)).length+(eZ (S 4)).length+(eZ (S 5)).length
theorem Pd(hw:w∈[1,2,3,4,5])(h0:∀b,b≠w->S' b=S b)(h:(eZ (S' w)).length < (eZ (S w)).length):Cq S' < Cq S:=by
 unfold Cq;simp only [aP,e7,or_false] at hw;rcases hw with rfl|rfl|rfl|rfl|rfl
 ·(refine aj (h0 2 (by decide) ..) ?_;refine aj (h0 3 (by decide) ..) ?_;refine aj (h0 4 (by decide) ..) ?_;refine aj (h0 5 (by decide) ..) ?_);lia
 ·(refine aj (h0 1 (by decide) ..) ?_;refine aj (h0 3 (by decide) ..) ?_;refine aj (h0 4 (by decide) ..) ?_;refine aj (h0 5 (by decide) ..) ?_);lia
 ·(refine aj (h0 2 (by decide) ..) ?_;refine aj (h0 1 (by decide) ..) ?_;refine aj (h0 4 (by decide) ..) ?_;refine aj (h0 5 (by decide) ..) ?_);lia
 ·(refine aj (h0 2 (by decide) ..) ?_;refine aj (h0 3 (by decide) ..) ?_;refine aj (h0 1 (by decide) ..) ?_;refine aj (h0 5 (by decide) ..) ?_);lia
 ·(refine aj (h0 2 (by decide) ..) ?_;refine aj (h0 3 (by decide) ..) ?_;refine aj (h0 4 (by decide) ..) ?_;refine aj (h0 1 (by decide) ..) ?_);lia
noncomputable def oW(cs:Nat->Cs)(S:Nat->Nat)(w:Nat):Nat->Nat:=λb=>if b=w then cU S cs w else S b
noncomputable def pY(cs:Nat->Cs)(w:Nat):List Nat:=[1,2,3,4,5].filter λo=>(cs o).any λc=>c.1 == w
noncomputable def qR(cs:Nat->Cs)(S:Nat->Nat)(ws:List Nat)(w:Nat):(Nat->Nat)×List Nat:=(oW cs S w,if cU S cs w=S w then [] else pY cs w)
structure So(hs:List (List Nat))(cs:Nat->Cs):Prop where
 lt:∀j,∀c∈cs j,c.1 < 6
 mem:∀j,j∈[1,2,3,4,5]->∀c,c∈hs.getD j []↔c∈(cs j).map (·.1)
structure HJ(hs:List (List Nat))(cs:Nat->Cs)(m i:Nat)(ws:List Nat)(S:Nat->Nat):Prop where
 in5:∀w∈ws,w∈[1,2,3,4,5]
 ok:∀b,S b < 64/\S b≠0
 z:S 0=1
 dec:∀j∈[1,2,3,4,5],∀o,(cU S cs j).testBit o=aJ->(S j).testBit o=aJ
 don:∀j∈[1,2,3,4,5],cU S cs j=S j\/j∈ws.drop i
 dom:∀j∈[1,2,3,4,5],∀o,o < 6->gI hs j o->(S j).testBit o=aJ
 le:i<=ws.length
 len:ws.length+5*Cq S<=200
 ms:m=6*Cq S+(ws.length - i)
theorem HJ.start:HJ hs cs 185 0 [5,4,3,2,1] T0 where
 in5:=by decide
 ok:=λb=>by unfold T0;split <;> decide
 z:=rfl
 dec:=λj hj o ho=>by
  have h6:=Qx xI ho;have:T0 j=63:=by unfold T0;rw [if_neg];rintro rfl;revert hj;decide
  refine aj (this ..) ?_;have:∀o,o < 6->(63:Nat).testBit o=aJ:=by decide
  exact this o h6
 don:=λj hj=> .inr (by revert hj;simp only [fy,aP,e7,or_false];lia)
 dom:=λj hj o ho y=>by
  have:T0 j=63:=by unfold T0;rw [if_neg];rintro rfl;revert hj;decide
  refine aj (this ..) ?_;have:∀o,o < 6->(63:Nat).testBit o=aJ:=by decide
  exact this o ho
 le:=gp _
 len:=by decide
 ms:=by decide
def HJ.step.S0(hs:List (List Nat))(cs:Nat->Cs)(S:Nat->Nat)(m i:Nat)(ws:List Nat):Prop:=∀{w:Nat} (C:So hs cs) (h:HJ hs cs m i ws S) (hw:ws[i]? =ae w),∃m',m' < m/\HJ hs cs m' (i+1) (ws++(qR cs S ws w).2) (qR cs S ws w).1
namespace HJ.step
@[irreducible] def e0:=Fl gD inferInstance inferInstance eO eO gD S0
def kE:=e0.1
def qM:=e0.2.1
def S_:=e0.2.2.1
def m_:=e0.2.2.2.1
def i_:=e0.2.2.2.2.1
def qH:=e0.2.2.2.2.2
theorem T0:S0 kE qM S_ m_ i_ qH:=by
 intro w C h hw;have hlt:i_ < qH.length:=(aB.mp hw).1;have QP:=h.in5 w (ao hw);have hw0:w≠0:=by rintro rfl;revert QP;decide
 have HP:qH.drop i_=w::qH.drop (i_+1):=by refine aj (dZ hlt ..) ?_;congr 1;exact (aB.mp hw).2
 unfold qR;by_cases he:cU S_ qM w=S_ w
 ·have hT:oW qM S_ w=S_:=by
   funext b;unfold oW;by_cases hb:b=w
   ·(refine aj (if_pos hb ..) ?_;refine aj (he ..) ?_;refine aj (hb ..) ?_;rfl)
   ·(refine aj (if_neg hb ..) ?_;rfl)
  refine aj (if_pos he ..) ?_;refine aj (hT ..) ?_;simp only [cy];refine ⟨6*Cq S_+(qH.length - (i_+1)),by refine aj (h.ms ..) ?_;lia,h.in5,h.ok,h.z,h.dec,λj hj=>?_,h.dom,hlt,h.len,rfl⟩;rcases h.don j hj with q|q
  ·exact .inl q
  ·rw [HP] at q;rcases aP.mp q with rfl|q
   ·exact .inl he
   ·exact .inr q
 ·refine aj (if_neg he ..) ?_;simp only;have h0:∀b,b≠w->oW qM S_ w b=S_ b:=λb hb=>if_neg hb;have Uk:oW qM S_ w w=cU S_ qM w:=if_pos rfl;have qZ:∀b o,(oW qM S_ w b).testBit o=aJ->(S_ b).testBit o=aJ:=λb o hb=>by
   by_cases e:b=w
   ·rw [e,Uk] at hb;refine aj (e ..) ?_;exact h.dec w QP o hb
   ·rw [h0 b e] at hb;exact hb
  have hpop:Cq (oW qM S_ w) < Cq S_:=Pd QP h0 (by refine aj (Uk ..) ?_;exact Sn _ (h.ok w).1 _ xI (λo y q=>h.dec w QP o q) he);have hcl:(pY qM w).length<=5:=bu _ _;refine ⟨6*Cq (oW qM S_ w)+((qH++pY qM w).length - (i_+1)),by (refine aj (h.ms ..) ?_;refine aj (ba ..) ?_);lia,λx hx=>?_,λb=>?_,by refine aj (h0 0 (gf hw0) ..) ?_;exact h.z,λj hj o ho=>?_,λj hj=>?_,λj hj o ho hd=>?_,by refine aj (ba ..) ?_;lia,by refine aj (ba ..) ?_;have:=h.len;lia,rfl⟩
  ·rcases bc.mp hx with q|q
   ·exact h.in5 x q
   ·exact (bo.mp q).1
  ·by_cases e:b=w
   ·(refine aj (e ..) ?_;refine aj (Uk ..) ?_);exact ⟨xI,DF S_ qM (by revert QP;simp only [aP,e7,or_false];lia)⟩
   ·refine aj (h0 b e ..) ?_;exact h.ok b
  ·have h1:=I9 qZ ho;by_cases e:j=w
   ·(refine aj (e ..) ?_;refine aj (Uk ..) ?_);rw [e] at h1;exact h1
   ·refine aj (h0 j e ..) ?_;exact h.dec j hj o h1
  ·by_cases hc:∃c∈qM j,c.1=w
   ·right
    refine aj (gq (by lia) ..) (bL _ (bo.mpr ⟨hj,?_⟩));refine aK hc λc Ul hc2=>?_;clear hc;exact gj (cS ..) (⟨c,Ul,by refine aj (hc2 ..) ?_;exact beq_self_eq_true w⟩)
   ·have hcg:cU (oW qM S_ w) qM j=cU S_ qM j:=Gs λc Ul=>h0 _ λe=>hc ⟨c,Ul,e⟩;refine aj (hcg ..) ?_;by_cases e:j=w
    ·left;(refine aj (e ..) ?_;refine aj (Uk ..) ?_;rfl)
    ·rcases h.don j hj with q|q
     ·left;(refine aj (q ..) ?_;refine aj (h0 j e ..) ?_;rfl)
     ·right
      rw [HP] at q;rcases aP.mp q with q|q
      ·exact absurd q e
      ·exact aj (gq (by lia) ..) (aE _ q)
  ·by_cases e:j=w
   ·(refine aj (e ..) ?_;refine aj (Uk ..) ?_;refine aj (y5 ho ..) ?_)
    rw [e] at hd;rcases hd.step with q|q
    ·refine aj (q ..) ?_;simp
    ·refine aj (jV ..) ?_
     right
     refine gj (fW ..) ?_;intro c hc;have hcd:=q c.1 ((C.mem w QP c.1).mpr (aG.mpr ⟨c,hc,rfl⟩));have ud:=C.lt w c hc;by_cases zC:c.1=0
     ·rw [zC] at hcd ⊢;(refine aj (h.z ..) ?_;refine aj (hcd.zero ..) ?_);rfl
     ·exact h.dom c.1 (by simp only [aP,e7,or_false];lia) o ho hcd
   ·refine aj (h0 j e ..) ?_;exact h.dom j hj o ho hd
end HJ.step
theorem HJ.step:HJ.step.S0 hs cs S m i ws:=by with_unfolding_all exact uA _ _ _ _ _ _ HJ.step.S0 @HJ.step.T0 hs cs S m i ws
theorem HJ.fin(C:So hs cs)(h:HJ hs cs m ws.length ws S):∀j∈[1,2,3,4,5],∀o,o < 6->((S j).testBit o=aJ↔gI hs j o):=by
 have fixd:∀j∈[1,2,3,4,5],cU S cs j=S j:=λj hj=>(h.don j hj).elim id λq=>by rw [ow] at q;exact eo q
 have in5:∀b,b≠0->b < 6->b∈[1,2,3,4,5]:=λb h0 h6=>by simp only [aP,e7,or_false];lia
 intro j hj o ho;have hj0:j≠0:=by rintro rfl;revert hj;decide
 have HN:j < 6:=by revert hj;simp only [aP,e7,or_false];lia
 have key:=LM (hs:=hs) (D:=λb o=>gI hs b o\/(b < 6/\o < 6/\(S b).testBit o=aJ)) (λo q=>by
  rcases q with q|⟨_,h6,q⟩
  ·exact q.zero
  ·rw [h.z] at q;have:∀o,o < 6->(1:Nat).testBit o=aJ->o=0:=by decide
   exact this o h6 q) (λb o hb q=>by
  rcases q with q|⟨q6,h6,q⟩
  ·rcases q.step with e|e
   ·exact .inl e
   ·exact .inr λc hc=> .inl (e c hc)
  ·have zD:=in5 b hb q6;rw [<- fixd b zD,y5 h6,jV] at q;rcases q with q|q
   ·exact .inl (by simpa using q)
   ·refine .inr λc hc=>aK (aG.mp ((C.mem b zD c).mp hc)) λc' zo dO=>?_;subst dO;rw [fW] at q;exact .inr ⟨C.lt b c' zo,h6,q c' zo⟩) (λb o y hd=> .inl hd) (b:=j) (o:=o) hj0
 exact ⟨λq=>key.mp (.inr ⟨HN,ho,q⟩),h.dom j hj o ho⟩
end
theorem jH{α:Type}{p:List α->Prop}(h0:p [])(h1:∀l a,p l->p (l++[a])):∀l,p l:=λl=>by
 have:∀r:List α,p r.reverse:=λr=>by
  induction r with
  |nil=>exact h0
  |cons a r ih=>refine aj (CP ..) ?_;exact h1 _ _ ih
 have:=this l.reverse
 rwa [List.reverse_reverse] at this
noncomputable def cR(l:List Nat):Cs:=l.foldl k7 []
theorem qS(arms:List (Nat×Nat))(q:Nat×Nat)(b:Nat):gT (arms++[q]) b=gT arms b++(if q.2=b then [q.1] else []):=by
 delta gT;refine aj (fX ..) ?_;refine aj (bj ..) ?_;refine aj (hZ ..) ?_;refine aj (qd ..) ?_;by_cases h:q.2=b
 ·simp [h]
 ·simp [h]
theorem Bd(arms:List (Nat×Nat))(b:Nat):(fG B0 0 arms).cs b=cR (gT arms b):=by
 induction arms using jH with
 |h0=>rfl
 |h1 l q ih=>
  refine aj (kF ..) ?_;refine aj (qS ..) ?_;show (if b=q.2 then k7 ((fG B0 0 l).cs b) q.1 else (fG B0 0 l).cs b)=_;unfold cR at*;refine aj (fu ..) ?_;refine fZ (ih ..) ?_;by_cases h:b=q.2
  ·(refine aj (if_pos h ..) ?_;refine aj (if_pos h.symm ..) ?_);rfl
  ·(refine aj (if_neg h ..) ?_;refine aj (if_neg (gf h) ..) ?_);rfl
set_option tactic.hygienic true in
theorem pZ(l:List Nat)(c:Nat):c∈(cR l).map (·.1)↔c∈l:=by
 induction l using jH with
 |h0=>simp [cR]
 |h1 l a ih=>
  unfold cR at*;refine aj (fu ..) ?_;show c∈(k7 _ a).map (·.1)↔_;refine aj (oV ..) ?_;refine gj (bc ..) ?_;refine gj (aA ..) ?_
  split
  ·rename_i h;refine gj (ih ..) (⟨.inl,λq=>q.elim id λe=>?_⟩);subst e;exact ih.mp h
  ·(refine gj (bc ..) ?_;refine gj (ih ..) ?_;refine gj (aA ..) ?_;rfl)
theorem nq(arms:List (Nat×Nat))(b c:Nat):c∈sI arms b↔c < 6/\c∈gT arms b:=by delta sI eZ;refine gj (bo ..) ?_;refine gj (aY ..) ?_;refine aj (Gm ..) ?_;refine aj (decide_eq_true_eq ..) ?_;rfl
theorem kr{b c:Nat}(h:c∈gT (cW ds) b):c < 6:=by refine aK (aG.mp h) λq hq dO=>?_;subst dO;exact (qQ q (bo.mp hq).1).1
theorem t4{b:Nat}(h:b < 6):(dh ds).getD b []=sI (cW ds) b:=by (refine aj (bR ..) ?_;refine aj (aI ..) ?_;refine aj (bA h ..) ?_);rfl
theorem Mx{b:Nat}(h:6<=b):(dh ds).getD b []=[]:=by (refine aj (bR ..) ?_;refine aj (il (by exact h) ..) ?_);rfl
theorem Pe(hB:E9 (lU ds) 20):So (dh ds) (lU ds).cs where
 lt:=λj c hc=>hB.lt j c hc
 mem:=λj hj c=>by
  have h6:j < 6:=by revert hj;simp only [aP,e7,or_false];lia
  refine aj (t4 h6 ..) ?_;refine gj (nq ..) ?_;refine aj (Bd ..) ?_;refine gj (pZ ..) ?_;exact ⟨λq=>q.2,λq=>⟨kr q,q⟩⟩
theorem sg:zU (dh ds) where
 len:=by rfl
 lt:=λb c hc=>by
  rcases gX b 6 with h|h
  ·rw [t4 h,nq] at hc;exact hc.1
  ·rw [Mx h] at hc;exact eo hc
 nd:=λb=>by
  rcases gX b 6 with h|h
  ·refine aj (t4 h ..) ?_;exact lp.filter _
  ·refine aj (Mx h ..) ?_;exact kQ
noncomputable def exA:bH->CV| .Lambda a _ _ _=>a|_=>Fo
noncomputable def exB:bH->bH| .Lambda _ b _ _=>b|_=> .Constant .none 0 ⟨0,0,0,0⟩
noncomputable def exS:bH->eN| .Lambda _ _ s _=>s|_=>By
noncomputable def Qy:ed->bH| .If (.UnaryOp _ (.Call _ args _ _) _) _ _ _=>args.getD 3 (.Constant .none 0 ⟨0,0,0,0⟩)|_=> .Constant .none 0 ⟨0,0,0,0⟩
noncomputable def lz:bb:=md (cN 23)++".<locals>."++"<lambda>"
noncomputable def HF:bH:=Qy ((fR (cN 23)).getD 21 (.Pass ⟨0,0,0,0⟩))
noncomputable abbrev pn(L c:ay)(ct:ai):cg:=yp lz (exA HF) (exB HF) (exS HF) [("table",L+20),("flags",L+16),("book",L+15)] c ct
structure Sp(G:Gd):Prop where
 la:DT G 306 304
section
variable {T W fd:ay}
def lV.S0(mu:Mu)(L T:ay)(ds:List Nat)(c':ay)(ct:ai)(ws:List Nat)(S:Nat->Nat)(w i4:Nat):Prop:=∀{k:Nat} {vs:d9} {fd:ay} {n6 m i:Nat} {lx:ay} (H:Hy G) (hB:E9 (lU ds) 20) (hS:Sv vs (S20 ds n6 lx T)) (hJ:HJ (dh ds) (lU ds).cs m i ws S) (hw:ws[i]? =ae w) (h1:cw L vs∈mu) (h2:mj fd (ei (pn L c' ct) av)∈mu) (h3:gG 304 [(273,49,c',lz)]∈mu) (h4:mu[i4]? =ae (cD T (oq (aF ds) S))),FW (k+5) mu (.ref fd) [.str (cB (aF ds+w))] λy nu=>y= .list ((qR (lU ds).cs S ws w).2.map λw=>V.str (cB (aF ds+w)))/\nu=mu.set i4 (cD T (oq (aF ds) (qR (lU ds).cs S ws w).1))
namespace lV
@[irreducible] def e0:=zI gD cL cL gD cL gL gD inferInstance eO eO S0
def fb:=e0.1
def L_:=e0.2.1
def T_:=e0.2.2.1
def aV:=e0.2.2.2.1
def c'_:=e0.2.2.2.2.1
def Nw:=e0.2.2.2.2.2.1
def qH:=e0.2.2.2.2.2.2.1
def S_:=e0.2.2.2.2.2.2.2.1
def w_:=e0.2.2.2.2.2.2.2.2.1
def i4_:=e0.2.2.2.2.2.2.2.2.2
theorem T0:S0 fb L_ T_ aV c'_ Nw qH S_ w_ i4_:=by
 intro k vs fd n6 m i lx H hB hS hJ hw h1 h2 h3 h4;have d7:=eI aV;refine FI H.B (names:=["name"]) (vals':=λz=>[ae (.str (cB (aF aV+w_)))]) (Kn.obj h2) rfl (Kn.code h3 (q:=(273,49,c'_,lz)) aa) rfl (λvs h=>?_) (by show (aM 0 (exS HF).names).nd;decide+kernel) (λL_=>⟨rfl,rfl,rfl⟩) (λL2=>?_) (λL2=>?_)
 ·exact uM h λa=>rfl
 ·exact .cons (j:=0) .loc rfl .nil
 have he:du (dT (pn L_ c'_ Nw) fd L2):=⟨rfl,rfl,rfl⟩;refine cq (H.f302.go) λob TY cd' Jk h0 hd z=>?_;have QP:=hJ.in5 w_ (ao hw);refine ml (mn H he H.m_hear rfl) h0 hd (cA (cf (ah (j:=41) (L:=L_) (lay:=aM (L_+1) (bk (cN 23)).names) he (.free (L_+15) "book" rfl rfl rfl rfl rfl) (ab _ h1) (hS.get rfl)) (cA (cf (ah (j:=46) (L:=L_) (lay:=aM (L_+1) (bk (cN 23)).names) he (.free (L_+20) "table" rfl rfl rfl rfl rfl) (ab _ h1) (hS.get rfl)) (cA (cf (ah (j:=42) (L:=L_) (lay:=aM (L_+1) (bk (cN 23)).names) he (.free (L_+16) "flags" rfl rfl rfl rfl rfl) (ab _ h1) (hS.get rfl)) (cA (cf (ah (j:=0) he .loc aa rfl) (e9 ?_)))))))));refine (tJ (k:=k) (i:=i4_+1) (T:=T_) (S:=S_) (B:=lU aV) (j:=w_) H d7 h4 hJ.ok (λb c hc=>hB.lt b c hc) (λb=>aw (hB.len b) (by decide)) QP).mono λy nu hy=>?_;delta qR;have key:nu=vN (pn L_ c'_ Nw) L2 [ae (.str (cB (aF aV+w_)))]::fb.set i4_ (cD T_ (oq (aF aV) (oW (lU aV).cs S_ w_)))->y= .list ((if cU S_ (lU aV).cs w_=S_ w_ then [] else pY (lU aV).cs w_).map λw_=>V.str (cB (aF aV+w_)))->jK y nu (λy nu=>y= .list ((oW (lU aV).cs S_ w_,if cU S_ (lU aV).cs w_=S_ w_ then [] else pY (lU aV).cs w_).2.map λw_=>V.str (cB (aF aV+w_)))/\nu=fb.set i4_ (cD T_ (oq (aF aV) (oW (lU aV).cs S_ w_,if cU S_ (lU aV).cs w_=S_ w_ then [] else pY (lU aV).cs w_).1))):=λe1 e2=>by
  refine aj (e1 ..) ?_;exact jK.tail (jK.keep ⟨e2,rfl⟩)
 rcases hy with ⟨q1,q2,q3⟩|⟨q1,q2,q3⟩
 ·have hT:oW (lU aV).cs S_ w_=S_:=by
   funext b;delta oW;by_cases hb:b=w_
   ·(refine aj (if_pos hb ..) ?_;refine aj (q1 ..) ?_;refine aj (hb ..) ?_;rfl)
   ·(refine aj (if_neg hb ..) ?_;rfl)
  refine key ?_ (by (refine aj (q2 ..) ?_;refine aj (if_pos q1 ..) ?_);rfl);refine aj (q3 ..) ?_;refine aj (hT ..) ?_;refine aj (j0 _ h4 ..) ?_;refine fZ (gh h4 ..) ?_;rfl
 ·refine key ?_ (by (refine aj (q2 ..) ?_;refine aj (if_neg q1 ..) ?_);rfl);refine aj (q3 ..) ?_;rfl
end lV
theorem lV{c':ay}{ct:ai}{ws:List Nat}{S:Nat->Nat}{w i4:Nat}:lV.S0 mu L T ds c' ct ws S w i4:=by with_unfolding_all exact uB _ _ _ _ _ _ _ _ _ _ lV.S0 @lV.T0 mu L T ds c' ct ws S w i4
end
section
variable {T W fd:ay}
noncomputable abbrev S21(ds:List Nat)(n6:Nat)(lx:ay)(S:Nat->Nat):List (Nat×V):=(46,.dict (oq (aF ds) S))::S19 ds n6 lx
structure sh(hs:List (List Nat))(S:Nat->Nat):Prop where
 fin:∀j∈[1,2,3,4,5],∀o,o < 6->((S j).testBit o=aJ↔gI hs j o)
 ok:∀b,S b < 64/\S b≠0
 z:S 0=1
noncomputable abbrev Qz(P:ib)(N:Int)(cs:List Nat)(L fd T c':ay)(ct:ai)(vs:d9)(low:Nat)(mu:Mu)(S:Nat->Nat):Mu:=mj fd (ei (pn L c' ct) av)::cD T (oq low S)::cw L vs::((j6 P [] N cs).drop 1++(gG 304 [(273,49,c',lz)]::mu))
theorem Sq(H:Hy G)(LH:fM G K)(BH:yw K)(LL:Sp G){pm doc:ai}(he:du (bT pm doc L)){P:ib}(PO:mU P){N:Int}{cs:List Nat}(hS:Sv vs (S20 ds n6 P.lx T))(hR:ph ds n6 17 cs)(hB:E9 (lU ds) 20)
 (next:∀vs cs' S c',Sv vs (S21 ds n6 P.lx S)->ph ds n6 18 cs'->sh (dh ds) S->WS (k+8) (cw L vs::(j6 P [] N cs'++(gG 304 [(273,49,c',lz)]::mu))) (bT pm doc L) (je 22) Θ):
 WS (k+8) (cD T (oq (aF ds) T0)::cw L vs::Gp P N cs mu) (bT pm doc L) (je 21) Θ:=by
 have hf:∀{vs} {l:Mu} {a:cX},bq L (aM (L+1) (bk (cN 23)).names) vs∈a::cw L vs::l:=ab _ aa;have hf2:∀{vs} {l:Mu} {a b:cX},bq L (aM (L+1) (bk (cN 23)).names) vs∈a::b::cw L vs::l:=ab _ (ab _ aa);refine cq (H.f297.go) λob2 x x x r0 rd x=>aK (hR.tok OU) λcs' ht S6=>aC (xR (Mv (HD (ml (mn H he H.m_run rfl) r0 rd (cA (cf (ah (j:=21) he (.cell (L+11) "lexer") hf (hS.get rfl)) (cA (O9 (dD (ah (j:=7) he (.cell (L+6) "names") hf (hS.get rfl))) (jo dM (eQ aU) (eQ (o6 aU))) (Pa (by decide) (by simp) λW=>?_)))))))));refine aj (jr ..) ?_;refine aj (show jq (aN 6) av (ae 0) (ae (-1))=[5,4,3,2,1] from I6) ?_;refine fL.ref (cA (cf cO (cA (Ca (i:=10) he rfl LL.la H.B rfl rfl rfl rfl λfd c' ct=>e9 ?_))));have CK:=Pe hB;show FW (k+8) (mj fd (ei (pn L c' ct) av)::bl W ([5,4,3,2,1].map λb=>V.str (cB (aF ds+b)))::cD T (oq (aF ds) T0)::cw L vs::(j6 P [] N cs++(gG 304 [(273,49,c',lz)]::mu))) (.ref 297) [.ref P.lx,.ref W,.str "done",.ref fd] _;refine FW.to [1,3] ?_;show FW (k+8) (bl W ([5,4,3,2,1].map λb=>V.str (cB (aF ds+b)))::bl P.pb []::Qz P N cs L fd T c' ct vs (aF ds) mu T0) (.ref 297) [.ref P.lx,.ref W,.str "done",.ref fd] _;have RH:rU (k+4) (λb=>cB (aF ds+b)) P.lx P.dx P.pb W fd (th (N - (cs.count 10:Nat)) (.ref P.f) P.pb) (ei (pn L c' ct) av) (pn L c' ct) (Qz P N cs L fd T c' ct vs (aF ds) mu) (qR (lU ds).cs) (HJ (dh ds) (lU ds).cs) (λc nu ws S=>c="done"/\nu=j6 P [] N cs'++(bl W (ws.map λb=>V.str (cB (aF ds+b)))::mj fd (ei (pn L c' ct) av)::cD T (oq (aF ds) S)::cw L vs::gG 304 [(273,49,c',lz)]::mu)):=⟨
  λS=>ao (i:=3) rfl,
  nM _ _ _,
  ab _ (ab _ (ab _ aa)),
  yM _ _ _,
  by show ("push_token":bb)∉(["lineno","instream","whitespace","pushback"]:List bb);decide,
  rfl,
  λS ws q=>Kn.obj (ao (i:=2) rfl),
  λm i ws S h=>⟨by have:=h.len;lia,h.le⟩,
  λm i ws S w h hw=>((lV (k:=k+2) (i4:=3) H hB hS h hw (ao (i:=4) rfl) (ao (i:=2) rfl) (ao (i:=11) rfl) rfl).mono λy nu e=>⟨e.1,by refine aj (e.2 ..) ?_;rfl⟩),
  λm i ws S w h hw=>h.step CK hw,
  λm ws S h=>by
   refine FW.to [1,4,4,4,4,4,4] (FW.mono (FW.app (bl W (ws.map λb=>V.str (cB (aF ds+b)))::mj fd (ei (pn L c' ct) av)::cD T (oq (aF ds) S)::cw L vs::gG 304 [(273,49,c',lz)]::mu) (xF (k:=k+2) H LH BH PO ht hR.len)) λy nu he=>?_);refine eg he λnu' e1 e2 e3=>?_;clear he;subst e1 e3;exact ⟨"done",by (refine aj (e2 ..) ?_;refine aj (Ci ..) ?_;rfl),rfl,rfl⟩⟩
 refine Qm (k:=k+4) H LH RH HJ.start λm ws S c nu hJ hf=>dU hf λe2 e3=>?_;clear hf;subst e2 e3;refine ⟨aJ,by rfl,?_⟩;show WS (k+8) _ (bT pm doc L) [] _;refine bC ?_;show WS (k+8) (j6 P [] N cs'++(bl W (ws.map λb=>V.str (cB (aF ds+b)))::mj fd (ei (pn L c' ct) av)::cD T (oq (aF ds) S)::cw L vs::gG 304 [(273,49,c',lz)]::mu)) (bT pm doc L) (je 22) Θ;refine WF.to [7,7] (WF.drop1 (WF.drop1 (WF.to [8,7] (WF.frzD (j:=46) (hS.get rfl) ?_))));exact next _ cs' S c' (((hS.set (j:=46) (y:= .dict (oq (aF ds) S))).sub ⟨rfl,rfl,rfl,rfl,rfl,rfl,rfl,rfl,rfl,trivial⟩)) S6 ⟨hJ.fin CK,hJ.ok,hJ.z⟩
end
section
variable {Hm Nt cx dc lx:ay}{S:Nat->Nat}
noncomputable abbrev Gu(low:Nat)(l:List Nat):V:= .list (l.map λo=>V.str (cB (low+o)))
noncomputable def qT(low:Nat)(F:Nat->List Nat):List (bb×V):=bD low (aN 6) λb=>Gu low (F b)
noncomputable def qa(low n:Nat)(h:Nat->Nat):List (bb×V):=bD low ((aN n).map (·+1)) λb=> .str (cB (low+h b))
noncomputable abbrev Ja(ds:List Nat)(n6:Nat)(lx:ay)(S:Nat->Nat)(Hm Nt cx:ay):List (Nat×V):=(34,.ref cx)::(44,.ref Nt)::(33,.ref Hm)::S21 ds n6 lx S
theorem Sr(H:Hy G)(LH:fM G K)(NH:uO K){pm doc:ai}(he:du (bT pm doc L))(hS:Sv vs (S21 ds n6 lx S))
 (next:∀vs Hm Nt cx dc,Sv vs (Ja ds n6 lx S Hm Nt cx)->WS (k+8) (cw L vs::cD Hm (qa (aF ds) 0 λz=>0)::cD Nt (qT (aF ds) λz=>[])::gH cx 245 dc [("comp_select_list",DI)]::mu) (bT pm doc L) (je 23) Θ):
 WS (k+8) (cw L vs::mu) (bT pm doc L) (je 22) Θ:=by
 have d7:=eI ds;refine aC (b4 (Cc (cA (xX H.B λHm=>fL.ref (cA (yA H.B (aN 6) (λb=> .str (cB (aF ds+b))) (λb=>(cB (aF ds+b),Gu (aF ds) [])) ⟨rfl,rfl,by decide+kernel,by decide+kernel⟩ (dA (ah (j:=7) he (.cell (L+6) "names") (ao (i:=1) rfl) (hS.get rfl))) (by lia) (by decide) (λC4 a ha=>BO 1 he.comp .loc dk (λhb=>(ah (j:=1) he.comp .loc aa rfl)) (λhb=>ij (xs:=[]) aT (bg rfl))) (jx d7 (aN 6) (λb hb=>aY.mp hb) lp) (λNt=>fL.ref (cA (B4 LH.KO NH.k245 (mn H he H.m_comp rfl) (cA (cf (y:=DI) (ij (au (f9 (xs:=[.int 0,.int (-1)]) (au aU (au (o6 aU) aT)) (by show 2<=2 ^ 20;decide)) (au (f9 (xs:=[.int 1,.int (-2)]) (au aU (au (o6 aU) aT)) (by show 2<=2 ^ 20;decide)) (au (f9 (xs:=[.int 2,.int (-3)]) (au aU (au (o6 aU) aT)) (by show 2<=2 ^ 20;decide)) aT))) (by show 3<=2 ^ 20;decide)) (e9 (FW.mono (Ir H LH NH) λy2 ub hy=>?_)))))))))))) rfl rfl);refine eD hy λcx dc e3 e4=>?_;clear hy;subst e3 e4;refine e9 ⟨by show 3<=2 ^ 20;decide,i7 (cv rfl rfl ?_)⟩;refine aQ (i:=3) (j:=33) he .loc rfl (cv rfl rfl ?_);refine aQ (i:=3) (j:=44) he (.cell (L+18) "noted") rfl (cv rfl rfl ?_);refine aQ (i:=3) (j:=34) he .loc rfl (iX ?_);exact WF.from [3,2,1,0] rfl (next _ Hm Nt cx dc (((hS.set (j:=33) (y:= .ref Hm)).set (j:=44) (y:= .ref Nt)).set (j:=34) (y:= .ref cx)))
end
section
variable {x y:bH}{es:List (bb×V)}{b c:Bool}{scope:eN}{C:ay}{v1 v2 v3 z:V}
theorem Pf(h1:PE k mu env x (.bool b))(h2:b=aJ->PE k mu env y (.bool c)):PE k mu env (.BoolOp .And [x,y] pos) (.bool (b && c)):=⟨λ{z z z z z z} hA r q=>by
 refine wpAny_And2 (h1.c hA r λ{v s1 Z1} z1 q1 r1=>?_);refine aj (aZ.boolE q1 ..) (eV ?_);cases b with
 |false=>exact q z1 (.bool _) r1
 |true=>exact (h2 rfl).c hA r1 λ{z z z} z2=>q (z1.trans z2)⟩
theorem Be(hl:es.length<=1000):Fn k mu (.type "list") [bZ (.dict es)] (bZ (.list (es.map λq=> .str q.1))):=⟨λ{A E Z s fr vs Q} hA r hq q=>by
 refine aK (hq.one) λv dO p=>?_;subst dO;refine jZ (mZ r p) λd kvs ep eU hs hD hO hk hr hzd PJ=>?_;subst eU;have hlen:kvs.length=es.length:=by (refine fZ (ak (f:=(·.1)) ..) ?_;refine aj (hk ..) ?_;refine aj (ak ..) ?_;rfl)
 refine kdl_call (kdl_dict (prog:=G.prog) (w:=G.w) (knd:=strKind G.prog G.w) (kvs:=kvs) (ep:=ep) hs) hA.hh hD (by show _<=2 ^ 24;lia) λh' tk SL c' S8 hg hi=>?_;have hz:=r.fresh (bp s.heap.objs.size);refine q (bI.le_put hz) (aZ.list (vs:=SL) (n:=c') (bI.put_self ..) (bW.ofGets ?_ λi v y hv hy=>?_)) (R.freeze (r.keep (tk:=tk) S8) hg hz (r.notOwn (bp _)))
 ·have:=hi.1;simp;lia
 ·refine eD (hi.2 i v (bV.symm.trans hv)) λkey x h1 h2=>?_;have h3:(es.map (·.1))[i]? =ae key:=by (refine fZ (hk ..) ?_;refine aj (aI ..) ?_;refine aj (h1 ..) ?_);rfl
  rw [aI] at h3 hy;refine aK (aL.mp h3) λq h4 gi=>?_;subst gi;rw [h4] at hy
  (have lA:=aO hy;clear hy;subst lA)
  refine cJ (EX (show Value.isStrOf q.1 v=aJ from h2)) λt iC=>?_;subst iC;exact .str _ _⟩
theorem Pg{x:bb}{d:V}:Fn k mu (.builtin "dict.get") [bZ (.dict es),bZ (.str x),bZ d] (bZ ((mf es x).getD d)):=⟨λ{A E Z s fr vs Q} hA r hq q=>by
 refine lG (hq.three) λv u w kG q1 q2 q3=>?_;subst kG;refine jZ (mZ r q1) λdd kvs ep ma hs hD hO hk hr hzd PJ=>?_;subst ma;refine cJ (gV q2) λtk mE=>?_;subst mE;refine JB QX hO.typeIs PySem.F.entry_dict_get (PySem.F.args_dict_get_3 _ _ _) (meets_dict_get_default (knd:=strKind G.prog G.w) (d:=dd) (hkey:=zt G.prog G.w _ tk) (hd:=hs) (dflt:=_)) ⟨_,hO.mapOf,?_⟩;cases hg:mf es x with
 |none=>rw [hg] at q;refine aj (te hk hg ..) ?_;exact q .rfl q3 r.toks
 |some y=>rw [hg] at q;refine aK (uI hk hr hg) λv' h1 h2=>aj (h1 ..) ?_;exact q .rfl h2 r.toks⟩
theorem Ss{di:gP}{t u m:bb}{ifs:List bH}{elt:bH}{kk kk2:Nat}{p1 p2 p3 p4:jB}(i j l:Nat)(he:du di)(s1:Sl di C (aM (C+1) scope.names) t i)(s2:Sl di C (aM (C+1) scope.names) u j)(s3:Sl di C (aM (C+1) scope.names) m l)
 (hi:w0 k (nD scope C ((((nones (aM (C+1) scope.names)).set i (ae v1)).set j (ae v2)).set l (ae v3))::mu) di ifs b) (h:b=aJ->PE k (nD scope C ((((nones (aM (C+1) scope.names)).set i (ae v1)).set j (ae v2)).set l (ae v3))::mu) di elt z)
 (hf1:autoParam ((di.kindOf t == ae .free)=aH) aR) (hf2:autoParam ((di.kindOf u == ae .free)=aH) aR) (hf3:autoParam ((di.kindOf m == ae .free)=aH) aR):
 zN k mu scope C di (.Tuple [.Name t p1,.Tuple [.Name u p2,.Name m p3] kk2 p4] kk p) ifs elt (.tup [v1,.tup [v2,v3]]) b z:=
 ⟨_,i7 (cv rfl rfl (aQ (i:=0) he s1 rfl (cv rfl rfl (xB he s2 s3 hf2 hf3 |>.mono λnu e=>by subst e;exact iX rfl)) hf1)),hi,h⟩
theorem Bf{α:Type}{as:List α}:jq as av av (ae 1)=as/\(as.length=6->jq as av av (ae (-1))=as.reverse):=by
 constructor
 ·have e:c7 av av (ae 1) as.length=(((0:Nat):Int),((0+as.length:Nat):Int),1):=by
   unfold c7;simp
  unfold jq;refine aj (e ..) ?_;simp only;refine aj (pR ..) ?_;refine aj (pS ..) ?_;refine aj (fy ..) ?_;refine aj (cK ..) ?_;rfl
 ·intro h;unfold jq;refine aj (h ..) ?_;refine aj (show zu (c7 av av (ae (-1)) 6).1 (c7 av av (ae (-1)) 6).2.1 (c7 av av (ae (-1)) 6).2.2=[5,4,3,2,1,0] from by decide) ?_;exact len6 h λa b c d e f=>rfl
theorem HG{A:bh}{s:aq}{Z:bI}{kb:List (bb×ai)}{es:List (bb×Int)}(hkb:kb.map (·.1)=(es.map λq=>(q.1,V.int q.2)).map (·.1))(hrb:bW G Z (kb.map (·.2)) ((es.map λq=>(q.1,V.int q.2)).map (·.2)))(hnd:(es.map (·.1)).Nodup):
 ∀{fs:List (bb×Int)} {ka:List (bb×ai)},(∀q∈fs,q∈es)->ka.map (·.1)=fs.map (·.1)->bW G Z (ka.map (·.2)) (fs.map λq=>V.int q.2)->KeqHits A s kb ka aJ
 |[],[],_,_,_=> .nil
 |[],_::_,_,h,_=>by exact JY h
 |_::_,[],_,h,_=>by exact Q1 h
 |q::fs,(key,v)::ka,qj,h1,h2=>by
  simp only [bB,GK] at h1;refine dU h1 λh1a h1b=>?_;clear h1;have h1a:key=q.1:=h1a;subst h1a;cases h2 with
  |cons hv hr=>
  have hg:mf (es.map λq=>(q.1,V.int q.2)) q.1=ae (.int q.2):=by
   have hq:=qj q aa;clear qj h1b hkb hrb hr;induction es with
   |nil=>exact eo hq
   |cons a es ih=>
    rw [bB,cj] at hnd;unfold mf at ih ⊢;refine aj (bB ..) ?_;refine aj (jW ..) ?_;rcases aP.mp hq with e|e
    ·subst e;simp
    ·have iP:a.1≠q.1:=λe2=>hnd.1 (e2▸aG.mpr ⟨q,e,rfl⟩);simp only [iP,decide_false];exact ih hnd.2 e
  refine aK (uI hkb hrb hg) λy h3 h4=>cJ (gF hv) λt1 qY=>?_;subst qY;refine cJ (gF h4) λt2 uc=>?_;subst uc;have he:=SeqAt.EqAt.int_int (A:=A) (s:=s) q.2 t1 q.2 t2;rw [beq_self_eq_true] at he;exact .hit h3 he (HG hkb hrb hnd (λr hr=>qj r (ab _ hr)) h1b hr)
theorem Ez{A:bh}{E:ai->aq->Prop}{s:aq}{Z:bI}{v u:ai}{es:List (bb×Int)}{Q:Bool->aq->Prop}(r:R Z mu s)(hu:A.units < 9900)(hnd:(es.map (·.1)).Nodup)(h1:aZ G Z v (.dict (es.map λq=>(q.1,V.int q.2))))(h2:aZ G Z u (.dict (es.map λq=>(q.1,V.int q.2))))(h:Q aJ s):
 aS (aX G.prog G.w) A (eqBool v u) Q E s:=by
 refine qp (mZ r h1) λd1 k1 ep1 mO zh z hO1 SY hr1 z=>?_;subst mO;refine qp (mZ r h2) λd2 k2 ep2 sk GB z hO2 hk2 hr2 z=>?_;subst sk;by_cases hd:d1=d2
 ·subst hd;exact SeqAt.EqAt.same _ G.prog G.w E Q h
 ·unfold eqBool;refine bE (f5 (λwY=>absurd (by have:=jE wY;injection this) hd) (λz=>?_));have hl:k1.length=k2.length:=by have a:=congrArg kM SY;have b:=congrArg kM hk2;simp at a b;lia
  refine ag (keq_eq zh GB hO1 hO2 hu (λz=>HG hk2 hr2 hnd (λq hq=>hq) (SY.trans (by refine aj (a0 ..) ?_;rfl)) (by rw [a0] at hr1;exact hr1)) ?_);refine aj (hl ..) ?_;refine aj (beq_self_eq_true ..) ?_;refine aj (Nn ..) ?_;exact eV h
theorem My{A:bh}{E:ai->aq->Prop}{s:aq}{l b:ay}{items items2:Array ai}{Q:ai->aq->Prop}(hl:s.heap.IsTuple l items)(hb:s.heap.IsTuple b items2)(hs:items.size=items2.size)(hu:A.units < 9900)
 (he:∀j (h1:j < items.size) (h2:j < items2.size) (E:ai->aq->Prop) (Q:Bool->aq->Prop),Q aJ s->aS (aX G.prog G.w) A.in1 (eqBool items[j] items2[j]) Q E s) (h:Q (.bool aH) s):aS (aX G.prog G.w) A (compareOp .NotEq (.ref l) (.ref b)) Q E s:=by
 obtain ⟨⟨cls,dd,data,sl⟩,ho,hc,n,hd⟩:=id hl;obtain ⟨⟨cls2,dd2,data2,sl2⟩,NA,hc2,n2,hd2⟩:=id hb;simp only at hc hd hc2 hd2;subst hc hd hc2 hd2;refine wpAny_richCompare_same_room (op:= .NotEq) hl.typeIs hb.typeIs QY (dp QY hl.typeIs PySem.F.entry_tuple_ne ?_ (PySem.F.args_tuple_ne_2 _ _)) hu;obtain ⟨hp,g,d,tk,os⟩:=s;have f2:=AutoSeq1.sub_tuple_tuple
 wp_walk using AutoSeq1.wpAny_loadPart' ho,AutoSeq1.wpAny_loadPart' NA,wpAny_forIn_list _ (λrest acc s'=>acc.1=av/\s'=⟨hp,g,d,tk,os⟩/\∃i,rest=(items.toList.zip items2.toList).drop i) _
 case turn=>
  rintro ⟨u,v⟩ rest acc s' ⟨ha,rfl,i,hz⟩;have hlt:i < (items.toList.zip items2.toList).length:=uw λq=>by rw [P6 q] at hz;exact JY hz
  have M4:i < items.size/\i < items2.size:=by simp at hlt;omega
  rw [dZ hlt] at hz;refine dU (sY hz) λe1 e2=>?_;have hu:u=items[i]:=by have:=congrArg uv e1;simpa using this
  have hv:v=items2[i]:=by have:=congrArg Prod.snd e1;simpa using this
  subst hu hv;refine ag (he i M4.1 M4.2 _ _ ?_)
  wp_walk
  exact ⟨rfl,rfl,i+1,e2⟩
 case fin=>
  rintro ⟨acc1,acc2⟩ s' ⟨ha,rfl,i,hz⟩;simp only at ha;subst ha
  wp_walk
  refine ⟨_,rfl,?_,?_⟩
  ·simp [qh]
  ·simpa [qh,hs] using h
 case h=>exact ⟨rfl,rfl,0,rfl⟩
end
def okEq(x:V):Prop:=(∃i,x= .int i)\/∃es:List (bb×Int),(es.map (·.1)).Nodup/\x= .dict (es.map λq=>(q.1,V.int q.2))
theorem Mz(h:∀x∈xs,okEq x):s8 k mu .NotEq (bZ (.tup xs)) (bZ (.tup xs)) aH:=⟨λ{A E Z s fr v u T} hA r hp hq q=>by
 have hu:=hA.uni;refine dK (aZ.tup_inv hp) λa o vs n dO z1 z2 z3 z4=>?_;subst dO;refine dK (aZ.tup_inv hq) λa' o' rp n' eU y1 y2 y3 y4=>?_;subst eU;refine My ⟨o,r.zin _ _ z1,z2,n,z3⟩ ⟨o',r.zin _ _ y1,y2,n',y3⟩ ((b9 z4).symm.trans (b9 y4)) (by lia) (λj h1 h2 E Q hQ=>?_) (q .rfl (.bool _) r);refine aK (z4.get' (bV.trans (dY h1))) λx hx hr1=>?_;have hr2:=nB y4 hx (dY h2);rcases h x (ao hx) with ⟨i,rfl⟩|⟨es,hnd,rfl⟩
 ·refine cJ (gF hr1) λt1 e1=>cJ (gF hr2) λt2 e2=>?_;have he:=SeqAt.EqAt.int_int (A:=A.in1) (s:=s) i t1 i t2;rw [beq_self_eq_true] at he;refine aj (e1 ..) ?_;refine aj (e2 ..) ?_;exact he G.prog G.w E Q hQ
 ·exact Ez r (by have:A.in1.units=A.units+1:=rfl;lia) hnd hr1 hr2 hQ⟩
noncomputable def ja(arms:List (Nat×Nat))(b:Nat):List ((Nat×Nat)×Nat):=arms.zipIdx.filter λq=>q.1.2 == b
theorem qb(arms:List (Nat×Nat))(q:Nat×Nat)(b:Nat):ja (arms++[q]) b=ja arms b++(if q.2=b then [(q,arms.length)] else []):=by unfold ja;refine aj (List.zipIdx_append ..) ?_;refine aj (fX ..) ?_;congr 1;simp only [ox,List.zipIdx_nil,eC,hZ,qd];by_cases h:q.2=b <;> simp [h]
theorem jI(arms:List (Nat×Nat))(b:Nat):(ja arms b).map (·.1.1)=gT arms b:=by
 induction arms using jH with
 |h0=>rfl
 |h1 l q ih=>
  refine aj (qb ..) ?_;refine aj (qS ..) ?_;refine aj (bj ..) ?_;refine aj (ih ..) ?_
  split <;> rfl
theorem EA(arms:List (Nat×Nat))(b:Nat):(ja arms b).length<=arms.length:=by unfold ja;exact aw (bu _ _) (by simp)
theorem Ph(arms:List (Nat×Nat))(b:Nat):∀q∈ja arms b,q.2 < arms.length:=λq hq=>by
 have:=List.mem_zipIdx (bo.mp hq).1;omega
theorem bk_b(arms:List (Nat×Nat))(b:Nat):(fG B0 0 arms).b b=((ja arms b).length:Nat):=by
 induction arms using jH with
 |h0=>rfl
 |h1 l q ih=>
  refine aj (kF ..) ?_;refine aj (qb ..) ?_;refine aj (ba ..) ?_;show (if b=q.2 then 1+(fG B0 0 l).b b else (fG B0 0 l).b b)=_;refine aj (ih ..) ?_;by_cases h:b=q.2
  ·(refine aj (if_pos h ..) ?_;refine aj (if_pos h.symm ..) ?_);simp;lia
  ·(refine aj (if_neg h ..) ?_;refine aj (if_neg (gf h) ..) ?_);simp
theorem bk_c(arms:List (Nat×Nat))(b:Nat):(fG B0 0 arms).c b=((ja arms b).map λq=>((q.2:Nat):Int)).sum:=by
 induction arms using jH with
 |h0=>rfl
 |h1 l q ih=>
  refine aj (kF ..) ?_;refine aj (qb ..) ?_;refine aj (bj ..) ?_;refine aj (vo ..) ?_;show (if b=q.2 then ((0+l.length:Nat):Int)+(fG B0 0 l).c b else (fG B0 0 l).c b)=_;refine aj (ih ..) ?_;by_cases h:b=q.2
  ·(refine aj (if_pos h ..) ?_;refine aj (if_pos h.symm ..) ?_);simp;lia
  ·(refine aj (if_neg h ..) ?_;refine aj (if_neg (gf h) ..) ?_);simp
theorem bk_d(arms:List (Nat×Nat))(b:Nat):(fG B0 0 arms).d b=((ja arms b).map λq=>((q.2:Nat):Int)*q.2).sum:=by
 induction arms using jH with
 |h0=>rfl
 |h1 l q ih=>
  refine aj (kF ..) ?_;refine aj (qb ..) ?_;refine aj (bj ..) ?_;refine aj (vo ..) ?_;show (if b=q.2 then ((0+l.length:Nat):Int)*((0+l.length:Nat):Int)+(fG B0 0 l).d b else (fG B0 0 l).d b)=_;refine aj (ih ..) ?_;refine aj (eC ..) ?_;by_cases h:b=q.2
  ·(refine aj (if_pos h ..) ?_;refine aj (if_pos h.symm ..) ?_);simp;lia
  ·(refine aj (if_neg h ..) ?_;refine aj (if_neg (gf h) ..) ?_);simp
theorem bk_a(arms:List (Nat×Nat))(b:Nat):(fG B0 0 arms).a b=((ja arms b).length:Nat) - ((gT arms b).count b:Nat):=by
 induction arms using jH with
 |h0=>rfl
 |h1 l q ih=>
  refine aj (kF ..) ?_;refine aj (qb ..) ?_;refine aj (qS ..) ?_;refine aj (ba ..) ?_;refine aj (sU ..) ?_;show (if b=q.2 then (if q.1=q.2 then (0:Int) else 1)+(fG B0 0 l).a b else (fG B0 0 l).a b)=_;refine aj (ih ..) ?_;by_cases h:b=q.2
  ·(refine aj (if_pos h ..) ?_;refine aj (if_pos h.symm ..) ?_;refine aj (if_pos h.symm ..) ?_)
   by_cases e:q.1=q.2
   ·(refine aj (if_pos e ..) ?_;refine aj (h ..) ?_;refine aj (e ..) ?_);simp;lia
   ·refine aj (if_neg e ..) ?_;have:Am b [q.1]=0:=by refine gj (mD ..) ?_;intro hm;rw [aA] at hm;exact e (by refine fZ (hm ..) ?_;exact h)
    refine aj (this ..) ?_;simp;lia
  ·(refine aj (if_neg h ..) ?_;refine aj (if_neg (gf h) ..) ?_;refine aj (if_neg (gf h) ..) ?_);simp
noncomputable def fE(l:List Nat):List Nat:=l.foldl (λacc c=>if c∈acc then acc else acc++[c]) []
theorem nX(l:List Nat)(a:Nat):fE (l++[a])=if a∈fE l then fE l else fE l++[a]:=by unfold fE;refine aj (fu ..) ?_;rfl
set_option tactic.hygienic true in
theorem nt(l:List Nat)(c:Nat):c∈fE l↔c∈l:=by
 induction l using jH with
 |h0=>simp [fE]
 |h1 l a ih=>
  refine aj (nX ..) ?_;refine gj (bc ..) ?_;refine gj (aA ..) ?_
  split
  ·rename_i h;refine gj (ih ..) (⟨.inl,λq=>q.elim id λe=>?_⟩);subst e;exact ih.mp h
  ·(refine gj (bc ..) ?_;refine gj (ih ..) ?_;refine gj (aA ..) ?_;rfl)
set_option tactic.hygienic true in
theorem wX(l:List Nat):(fE l).Nodup:=by
 induction l using jH with
 |h0=>exact kQ
 |h1 l a ih=>
  refine aj (nX ..) ?_
  split
  ·exact ih
  ·rename_i h;exact gj (bP ..) (⟨ih,by simp,λx hx y hy e=>by rw [aA] at hy;subst hy;subst e;exact h hx⟩)
theorem si(l:List Nat):cR l=(fE l).map λc=>(c,((l.count c:Nat):Int)):=by
 induction l using jH with
 |h0=>rfl
 |h1 l a ih=>
  have e1:cR (l++[a])=k7 (cR l) a:=by unfold cR;refine aj (fu ..) ?_;rfl
  refine aj (e1 ..) ?_;refine aj (ih ..) ?_;refine aj (nX ..) ?_;unfold k7;have GE:((fE l).map λc=>(c,((l.count c:Nat):Int))).any (λp=>p.1=a)=decide (a∈fE l):=by
   refine gj (cm ..) ?_;refine gj (cS ..) ?_;refine aj (decide_eq_true_eq ..) ?_;constructor
   ·intro gi;refine aK gi λq hq h=>?_;clear gi;refine aK (aG.mp hq) λc hc iC=>?_;subst iC;have:c=a:=by simpa using h
    exact this▸hc
   ·intro h;exact ⟨_,aG.mpr ⟨a,h,rfl⟩,by simp⟩
  refine aj (GE ..) ?_;by_cases h:a∈fE l
  ·(refine aj (decide_eq_true h ..) ?_;refine aj (if_pos rfl ..) ?_;refine aj (if_pos h ..) ?_;refine aj (a0 ..) ?_)
   refine b5 λc hc=>?_;simp only [l7];by_cases e:c=a
   ·subst e;simp
   ·(refine aj (if_neg e ..) ?_;refine aj (sU ..) ?_;refine aj (show Am c [a]=0 from mD.mpr (by simp [e])) ?_);simp
  ·(refine aj (decide_eq_false h ..) ?_;refine aj (if_neg (by decide) ..) ?_;refine aj (if_neg h ..) ?_;refine aj (bj ..) ?_)
   have h0:a∉l:=λq=>h ((nt l a).mpr q);congr 1
   ·refine b5 λc hc=>?_;have e:c≠a:=λe=>h (e▸hc);(refine aj (sU ..) ?_;refine aj (show Am c [a]=0 from mD.mpr (by simp [e])) ?_);simp
   ·(refine aj (List.map_singleton ..) ?_;refine aj (sU ..) ?_;refine aj (mD.mpr h0 ..) ?_);simp
theorem MA{nm:Nat->bb}{g:Nat->V}:∀l:List Nat,(∀a∈l,∀b∈l,nm a=nm b->a=b)->rE (l.map λc=>(nm c,g c))=(fE l).map λc=>(nm c,g c):=by
 intro l;induction l using jH with
 |h0=>intro z;rfl
 |h1 l a ih=>
  intro Tc;have hi:∀x∈l,∀y∈l,nm x=nm y->x=y:=λx hx y hy=>Tc x (aE _ hx) y (aE _ hy);refine aj (bj ..) ?_;refine aj (List.map_singleton ..) ?_;refine aj (xV ..) ?_;refine aj (ih hi ..) ?_;refine aj (nX ..) ?_;have GE:((fE l).map λc=>(nm c,g c)).any (λkv=>kv.1=nm a)=decide (a∈fE l):=by
   refine gj (cm ..) ?_;refine gj (cS ..) ?_;refine aj (decide_eq_true_eq ..) ?_;constructor
   ·intro kG;refine aK kG λq hq h=>?_;clear kG;refine aK (aG.mp hq) λc hc ma=>?_;subst ma;have zo:=(nt l c).mp hc;have:c=a:=Tc c (aE _ zo) a (by exact bL _ aa) (by simpa using h);exact this▸hc
   ·intro h;exact ⟨_,aG.mpr ⟨a,h,rfl⟩,by simp⟩
  unfold jF;refine aj (GE ..) ?_;by_cases h:a∈fE l
  ·(refine aj (decide_eq_true h ..) ?_;refine aj (if_pos rfl ..) ?_;refine aj (if_pos h ..) ?_;refine aj (a0 ..) ?_)
   refine b5 λc hc=>?_;simp only [l7];have zo:=(nt l c).mp hc;by_cases e:nm c=nm a
   ·have:c=a:=Tc c (aE _ zo) a (by exact bL _ aa) e;subst this;simp
   ·(refine aj (if_neg e ..) ?_;rfl)
  ·(refine aj (decide_eq_false h ..) ?_;refine aj (if_neg (by decide) ..) ?_;refine aj (if_neg h ..) ?_;refine aj (bj ..) ?_);rfl
theorem EB:∀i,i < 33->cnt 44 (cB i).cps.toList=0:=by decide+kernel
theorem Cr(c:Nat):∀l m:List Nat,cnt c (l++m)=cnt c l+cnt c m
 |[],m=>by simp [cnt_nil]
 |a::l,m=>by (refine aj (fU ..) ?_;refine aj (cnt_cons ..) ?_;refine aj (cnt_cons ..) ?_;refine aj (Cr c l m ..) ?_);lia
theorem EC:∀ts:List (List Nat),(∀t∈ts,cnt 44 t=0)->ts≠[]->cnt 44 (glue ts)=(ts.length:Int) - 1
 |[],_,h=>absurd rfl h
 |[t],h,_=>by (rewrite [glue];refine aj (h t aa ..) ?_);simp
 |t::u::r,h,_=>by
  (rewrite [glue];refine aj (Cr ..) ?_;refine aj (Cr ..) ?_;refine aj (h t aa ..) ?_;refine aj (EC (u::r) (λx hx=>h x (ab _ hx)) (by simp) ..) ?_;refine aj (cnt_cons ..) ?_;refine aj (cnt_cons ..) ?_;refine aj (cnt_nil ..) ?_;refine aj (if_pos rfl ..) ?_;refine aj (if_neg (show ¬(32:Nat)=44 by decide) ..) ?_)
  simp only [bK];lia
theorem u4{low S:Nat}(hl:low < 28)(hS:S < 64/\S≠0):Ng (iy low S) ","=((eZ S).length - 1:Nat):=by
 have iP:=B1 hS.1 hS.2;show Ng (iy low S) ⟨#[44]⟩=_;rw [count_cnt];unfold iy;cases hb:eZ S with
 |nil=>exact absurd hb iP
 |cons a l=>
  rw [bB,yf,EC _ (λt ht=>?_) (by simp)]
  ·simp
  ·rw [<- bB (f:=λb=>cB (low+b)),<- hb,a0] at ht;refine aK (aG.mp ht) λb hbm mE=>?_;subst mE;exact EB _ (by have:=vP hbm;lia)
end
section
variable {k n6 b:Nat}{mu nu:Mu}{vs:d9}{Θ:AF->Mu->Prop}{L Hm Nt cx dc lx:ay}{ds:List Nat}{K:fl}{S:Nat->Nat}
noncomputable def HH:ed->List ed| .For _ _ b _ _=>b|_=>[]
noncomputable def y6(n:Nat):List ed:=(HH ((fR (cN 23)).getD 23 (.Pass ⟨0,0,0,0⟩))).drop n
noncomputable abbrev QA(q:(Nat×Nat)×Nat):V:= .tup [nV q.2,nV q.1.1]
noncomputable abbrev zB(ds:List Nat)(b:Nat):List ((Nat×Nat)×Nat):=ja (cW ds) b
noncomputable abbrev cls(ds:List Nat)(b:Nat):List Nat:=gT (cW ds) b
noncomputable abbrev S23(ds:List Nat)(n6:Nat)(lx:ay)(S:Nat->Nat)(Hm Nt cx:ay)(b:Nat):List (Nat×V):=(9,nV b)::Ja ds n6 lx S Hm Nt cx
noncomputable abbrev Pi(ds:List Nat)(n6:Nat)(lx:ay)(S:Nat->Nat)(Hm Nt cx:ay)(b:Nat)(W:List (List Nat)):List (Nat×V):=(36,.list (W.map wV))::(35,FR (aF ds) (cR (cls ds b)))::(27,.list ((zB ds b).map QA))::S23 ds n6 lx S Hm Nt cx b
theorem Pj:(cls ds b).length<=20:=by refine aj (show cls ds b=(ja (cW ds) b).map (·.1.1) from (jI _ _).symm) ?_;refine aj (ak ..) ?_;exact aw (EA _ _) (lT 2)
theorem qU:(zB ds b).length<=20:=aw (EA _ _) (lT 2)
theorem ED(l:List Nat)(c:Nat):(l.map fB).countP (· == (c:Int))=l.count c:=by refine aj (List.countP_map ..) ?_;delta Am;congr 1;funext x;refine gj (cm ..) ?_;simp only [l7,beq_iff_eq];exact Np
def y7.S0(k:Nat)(mu:Mu)(vs:d9)(Θ:AF->Mu->Prop)(L Hm Nt:ay)(ds:List Nat)(b:Nat)(pm doc:ai)(_:Nat):Prop:=∀{cx lx:ay} {n6:Nat} {S:Nat->Nat} (H:Hy G) (he:du (bT pm doc L)) (hb:b < 6) (hS:Sv vs (S23 ds n6 lx S Hm Nt cx b)) (next:∀vs W,Sv vs (Pi ds n6 lx S Hm Nt cx b W)->W.length<=2000->(∀w,w∈W↔vX (dh ds) b [0] w)->WS (k+8) (cw L vs::mu) (bT pm doc L) (y6 3) Θ),WS (k+8) (cw L vs::mu) (bT pm doc L) (y6 0) Θ
namespace y7
@[irreducible] def e0:=HS eO gD gD s7 cL cL cL gD eO gL gL eO S0
def k_:=e0.1
def fb:=e0.2.1
def kR:=e0.2.2.1
def Θ_:=e0.2.2.2.1
def L_:=e0.2.2.2.2.1
def xJ:=e0.2.2.2.2.2.1
def xe:=e0.2.2.2.2.2.2.1
def aV:=e0.2.2.2.2.2.2.2.1
def b_:=e0.2.2.2.2.2.2.2.2.1
def pg:=e0.2.2.2.2.2.2.2.2.2.1
def g8:=e0.2.2.2.2.2.2.2.2.2.2.1
theorem T0:S0 k_ fb kR Θ_ L_ xJ xe aV b_ pg g8 e0.2.2.2.2.2.2.2.2.2.2.2:=by
 intro cx lx n6 S H he hb hS next
 have d7:=eI aV;have hf:∀{kR} {l:Mu},bq L_ (aM (L_+1) (bk (cN 23)).names) kR∈cw L_ kR::l:=aa;have M6:=lT (ds:=aV) 2;refine aC (bX (y:= .list ((zB aV b_).map QA)) (bM (nE (cW aV).zipIdx (λq=>V.tup [.int (q.2:Nat),kH q.1]) (λq=>((q.1.2:Int) == (b_:Int))) QA ⟨rfl,rfl,by decide+kernel,by decide+kernel⟩ (sy (iN H he H.b_enumerate rfl) (ah (j:=10) he (.cell (L_+9) "arms") hf (hS.get rfl))) (by lia) (by refine aj (eX ..) ?_;exact aw M6 (by decide)) (λC1 q hq=>Ss 1 2 3 he.comp .loc .loc .loc (fS (c9 (ah (j:=3) he.comp .loc aa rfl) (ah (j:=9) he.comp (.cell (L_+8) "block") (ab _ hf) (hS.get rfl)) qr)) (λz=>f9 (xs:=[nV q.2,nV q.1.1]) (au (ah (j:=1) he.comp .loc aa rfl) (au (ah (j:=2) he.comp .loc aa rfl) aT)) (by show 2<=2 ^ 20;decide)))) ?c1) (aQ (i:=0) (j:=27) he (.cell (L_+13) "told") rfl ?_) rfl rfl)
 case c1=>refine congrArg V.list ?_;congr 1;delta zB ja;refine fz λq z=>?_;refine gj (cm ..) ?_;simp only [beq_iff_eq];exact Np
 have hS1:=hS.set (j:=27) (y:= .list ((zB aV b_).map QA));have ud:∀q∈zB aV b_,q.1.1 < 6:=λq hq=>by
  have:q.1.1∈cls aV b_:=by refine aj (show cls aV b_=(ja (cW aV) b_).map (·.1.1) from (jI _ _).symm) ?_;exact aG.mpr ⟨q,hq,rfl⟩
  exact kr this
 refine aC (WX_dc H.B (zB aV b_) QA (λz=>aJ) (λq=>(cB (aF aV+q.1.1),V.int ((cls aV b_).count q.1.1:Nat))) ⟨rfl,rfl,by decide+kernel,by decide+kernel⟩ (dA (ah (j:=27) he (.cell (L_+13) "told") hf (hS1.get rfl))) (by lia) (aw qU (by decide)) (λC1 q hq=>Ky 1 2 he.comp .loc .loc dk (λz=>(bF (dD (ah (j:=7) he.comp (.cell (L_+6) "names") (ab _ hf) (hS1.get rfl))) (ah (j:=2) he.comp .loc aa rfl) (ew (j:=q.1.1) (inj:=λb_=>V.str (cB (aF aV+b_))) (bA (ud q hq)) (by decide)))) (λz=>bM (f7 (dD (bM (jP (zB aV b_) QA (λq=>nV q.1.1) ⟨rfl,rfl,by decide+kernel,by decide+kernel⟩ (dA (ah (j:=27) he.comp (.cell (L_+13) "told") (ab _ hf) (hS1.get rfl))) (by lia) (aw qU (by decide)) (λC2 r hr=>tG 1 2 he.comp.comp .loc .loc dk (λz=>(ah (j:=2) he.comp.comp .loc aa rfl)))) (y:= .list (((cls aV b_).map fB).map .int)) ?c1)) G2 (au (ah (j:=2) he.comp .loc aa rfl) aT) Do uy PySem.F.slot_list_count PySem.F.type_list_count rfl) ?c2)) rfl (λD=>?_))
 case c1=>refine congrArg V.list ?_;refine aj (show cls aV b_=(ja (cW aV) b_).map (·.1.1) from (jI _ _).symm) ?_;refine aj (a0 ..) ?_;refine aj (a0 ..) ?_;rfl
 case c2=>(refine aj (ED ..) ?_;rfl)
 rw [kz,show ((zB aV b_).map λq=>(cB (aF aV+q.1.1),V.int ((cls aV b_).count q.1.1:Nat)))=(cls aV b_).map (λc=>(cB (aF aV+c),V.int ((cls aV b_).count c:Nat))) by
  conv=>rhs;rw [show cls aV b_=(ja (cW aV) b_).map (·.1.1) from (jI _ _).symm,a0]
  rw [jI];rfl,MA (nm:=λc=>cB (aF aV+c)) (g:=λc=>V.int ((cls aV b_).count c:Nat)) (cls aV b_) (λx hx y hy e=>(wR d7 (kr hx) (kr hy)).mp e),show ((fE (cls aV b_)).map λc=>(cB (aF aV+c),V.int ((cls aV b_).count c:Nat)))=(cR (cls aV b_)).map (λq=>(cB (aF aV+q.1),V.int q.2)) by rw [si,a0];rfl]
 refine fL.dict (aQ (i:=0) (j:=35) he .loc rfl ?_);have hS2:=hS1.set (j:=35) (y:=FR (aF aV) (cR (cls aV b_)));refine cq (H.f290.go) λob z z z h0 hd z=>aC (b4 (ml (mn H he H.m_back rfl) h0 hd (cA (cf (ah (j:=32) he .loc hf (hS2.get rfl)) (cA (cf (ah (j:=9) he (.cell (L_+8) "block") hf (hS2.get rfl)) (cA (cf (ij (xs:=[.int 0]) (au aU aT) (by show 1<=2 ^ 20;decide)) (e9 (FW.mono (R2 (k:=k_+6) (hs:=dh aV) (block:=b_) (marks:=[0]) H sg hb (by decide)) λy nu ⟨e1,W,e2,hl,hw⟩=>?_))))))))) rfl rfl);subst e1 e2;exact aQ (i:=0) (j:=36) he (.cell (L_+14) "ways") rfl (next _ W (hS2.set (j:=36) (y:= .list (W.map wV))) hl hw)
end y7
theorem y7{pm doc:ai}:y7.S0 k mu vs Θ L Hm Nt ds b pm doc 0:=by with_unfolding_all exact CY _ _ _ _ _ _ _ _ _ _ _ _ y7.S0 @y7.T0 k mu vs Θ L Hm Nt ds b pm doc 0
theorem Gv{low:Nat}(hl:low < 28)(l:List Nat)(h6:∀c∈l,c < 6)(hb:b < 6):(mf ((cR l).map λq=>(cB (low+q.1),V.int q.2)) (cB (low+b))).getD (.int 0)= .int (l.count b:Nat):=by
 refine aj (si ..) ?_;refine aj (a0 ..) ?_;by_cases h:b∈l
 ·have:=gb (low:=low) (l:=fE l) (f:=λc=>V.int (l.count c:Nat)) hl (λc hc=>h6 c ((nt l c).mp hc)) ((nt l b).mpr h);unfold bD at this;refine aj (show ((fE l).map ((λq:Nat×Int=>(cB (low+q.1),V.int q.2))∘λc=>(c,((l.count c:Nat):Int))))=(fE l).map λb=>(cB (low+b),V.int (l.count b:Nat)) from rfl) ?_;refine aj (this ..) ?_;rfl
 ·have hc:l.count b=0:=mD.mpr h;refine aj (hc ..) ?_;have:mf ((fE l).map ((λq:Nat×Int=>(cB (low+q.1),V.int q.2))∘λc=>(c,((l.count c:Nat):Int)))) (cB (low+b))=av:=by
   delta mf;refine gj (P3 ..) ?_;refine gj (Ai ..) ?_;intro q hq;refine aK (aG.mp hq) λc hc dO=>?_;subst dO;intro e;have zo:=(nt l c).mp hc;have:c=b:=(wR hl (h6 c zo) hb).mp (by simpa using e);exact h (this▸zo)
  refine aj (this ..) ?_;rfl
theorem Su(b:Nat):ro (aF ds) (lU ds) b= .tup [.int (((zB ds b).length:Nat) - ((cls ds b).count b:Nat)),.int ((zB ds b).length:Nat),.int ((zB ds b).map λq=>((q.2:Nat):Int)).sum,.int ((zB ds b).map λq=>((q.2:Nat):Int)*q.2).sum,FR (aF ds) (cR (cls ds b))]:=by show V.tup [.int ((fG B0 0 (cW ds)).a b),.int ((fG B0 0 (cW ds)).b b),.int ((fG B0 0 (cW ds)).c b),.int ((fG B0 0 (cW ds)).d b),FR (aF ds) ((fG B0 0 (cW ds)).cs b)]=_;refine aj (bk_a ..) ?_;refine aj (bk_b ..) ?_;refine aj (bk_c ..) ?_;refine aj (bk_d ..) ?_;refine aj (Bd ..) ?_;rfl
theorem MB:∀i,i < 33->pE (cB i)=aJ:=by decide+kernel
theorem Bg:∀{l:List bb},(∀x∈l,pE x=aJ)->pf (l.map .str)=ae (l.map .str)/\zH (l.map PyData.str)=0
 |[],_=>⟨rfl,rfl⟩
 |x::l,h=>by
  refine dU (Bg λy hy=>h y (ab _ hy)) λh1 h2=>⟨?_,?_⟩
  ·show (if pE x then ae (PyData.str x) else av).bind (λd=>(pf (l.map .str)).map (d::·))=_;rw [h1,if_pos (h x aa)];rfl
  ·simp [zH,PyData.depth] at h2 ⊢;exact h2
theorem Jb{l:List bb}(h:∀x∈l,pE x=aJ):s8 k mu .NotEq (bZ (.list (l.map .str))) (bZ (.list (l.map .str))) aH:=by exact dU (Bg h) λh1 h2=>A8 (d:= .list (l.map .str)) (congrArg (Option.map PyData.list) h1) (by simp [PyData.depth,h2])
theorem Jc(l:List Nat):(fE l).length<=l.length:=by
 induction l using jH with
 |h0=>exact bp _
 |h1 l a ih=>
  refine aj (nX ..) ?_;refine aj (ba ..) ?_
  split
  ·exact aw ih (dC _ _)
  ·refine aj (ba ..) ?_;simpa using ih
theorem EE:∀q∈cR (cls ds b),q.1 < 6:=λq hq=>kr ((pZ _ _).mp (aG.mpr ⟨q,hq,rfl⟩))
theorem MC:((cR (cls ds b)).map (·.1)).Nodup:=by refine aj (si ..) ?_;refine aj (a0 ..) ?_;exact aj (show ((fE (cls ds b)).map ((λx:Nat×Int=>x.1)∘λc=>(c,(((cls ds b).count c:Nat):Int))))=fE (cls ds b) from xw _) (wX _)
def y8.S0(k:Nat)(mu:Mu)(vs:d9)(L:ay)(ds:List Nat)(b:Nat)(pm doc:ai):Prop:=∀{Θ:AF->Mu->Prop} {Hm Nt cx lx:ay} {n6:Nat} {S:Nat->Nat} {W:List (List Nat)} (H:Hy G) (he:du (bT pm doc L)) (hb:b < 6) (zD:b∈[1,2,3,4,5]) (hS:Sv vs (Pi ds n6 lx S Hm Nt cx b W)) (next:WS (k+8) (cw L vs::mu) (bT pm doc L) (y6 4) Θ),WS (k+8) (cw L vs::mu) (bT pm doc L) (y6 3) Θ
namespace y8
@[irreducible] def e0:=Nr eO gD gD cL gD eO gL gL S0
def k_:=e0.1
def fb:=e0.2.1
def kR:=e0.2.2.1
def L_:=e0.2.2.2.1
def aV:=e0.2.2.2.2.1
def b_:=e0.2.2.2.2.2.1
def pg:=e0.2.2.2.2.2.2.1
def g8:=e0.2.2.2.2.2.2.2
theorem T0:S0 k_ fb kR L_ aV b_ pg g8:=by
 intro Θ Hm Nt cx lx n6 S W H he hb zD hS next
 have d7:=eI aV;have hf:∀{kR} {l:Mu},bq L_ (aM (L_+1) (bk (cN 23)).names) kR∈cw L_ kR::l:=aa;have M6:(cW aV).length<=20:=lT (ds:=aV) 2;have hnd:=Er d7 (c:=cR (cls aV b_)) EE MC;refine aC (iY (b:=aH || (aH || false)) (oK (iM ?t1 λz=>iM ?t2 λz=>jn)) (λh=>by exact vG h) λz=>bC next)
 case t1=>
  refine c9 (bM (bF (pK (ah (j:=41) he (.cell (L_+15) "book") hf (hS.get rfl))) (bF (dD (ah (j:=7) he (.cell (L_+6) "names") hf (hS.get rfl))) (ah (j:=9) he (.cell (L_+8) "block") hf (hS.get rfl)) (ew (j:=b_) (inj:=λb_=>V.str (cB (aF aV+b_))) (bA hb) (by decide))) (mh (gb d7 (by decide) zD))) (Su b_)) (f9 (xs:=[.int (((zB aV b_).length:Nat) - ((cls aV b_).count b_:Nat)),.int ((zB aV b_).length:Nat),.int ((zB aV b_).map λq=>((q.2:Nat):Int)).sum,.int ((zB aV b_).map λq=>((q.2:Nat):Int)*q.2).sum,FR (aF aV) (cR (cls aV b_))]) (au (br (bM (ek (j4 H he H.b_len rfl) (au (dD (ah (j:=27) he (.cell (L_+13) "told") hf (hS.get rfl))) aT) (mi (by refine aj (ak ..) ?_;exact aw qU (by decide)))) (congrArg (λn:Nat=>V.int n) (ak _))) (bM (f7 (ah (j:=35) he .loc hf (hS.get rfl)) rM (au (bF (dD (ah (j:=7) he (.cell (L_+6) "names") hf (hS.get rfl))) (ah (j:=9) he (.cell (L_+8) "block") hf (hS.get rfl)) (ew (j:=b_) (inj:=λb_=>V.str (cB (aF aV+b_))) (bA hb) (by decide))) (au aU aT)) Pg NR QX PySem.F.type_dict_get rfl) (Gv d7 (cls aV b_) (λc hc=>kr hc) hb)) vH) (au (bM (ek (j4 H he H.b_len rfl) (au (dD (ah (j:=27) he (.cell (L_+13) "told") hf (hS.get rfl))) aT) (mi (by refine aj (ak ..) ?_;exact aw qU (by decide)))) (congrArg (λn:Nat=>V.int n) (ak _))) (au (ek (j4 H he H.b_sum rfl) (au (dD (jP (zB aV b_) QA (λq=>nV q.2) ⟨rfl,rfl,by decide+kernel,by decide+kernel⟩ (dA (ah (j:=27) he (.cell (L_+13) "told") hf (hS.get rfl))) (by lia) (aw qU (by decide)) (λC2 r hr=>tG 1 2 he.comp .loc .loc dk (λz=>(ah (j:=1) he.comp .loc aa rfl))))) aT) (uK (f:=λq:(Nat×Nat)×Nat=>((q.2:Nat):Int)))) (au (ek (j4 H he H.b_sum rfl) (au (dD (jP (zB aV b_) QA (λq=>V.int (((q.2:Nat):Int)*q.2)) ⟨rfl,rfl,by decide+kernel,by decide+kernel⟩ (dA (ah (j:=27) he (.cell (L_+13) "told") hf (hS.get rfl))) (by lia) (aw qU (by decide)) (λC2 r hr=>tG 1 2 he.comp .loc .loc dk (λz=>br (ah (j:=1) he.comp .loc aa rfl) (ah (j:=1) he.comp .loc aa rfl) (mX (by have:=Ph _ _ r hr;lia)))))) aT) (uK (f:=λq:(Nat×Nat)×Nat=>((q.2:Nat):Int)*q.2))) (au (ah (j:=35) he .loc hf (hS.get rfl)) aT))))) (by show 5<=2 ^ 20;decide)) ?cmp
  case cmp=>
   refine Mz λx hx=>?_;simp only [aP,e7,or_false] at hx;rcases hx with rfl|rfl|rfl|rfl|rfl
   ·exact .inl ⟨_,rfl⟩
   ·exact .inl ⟨_,rfl⟩
   ·exact .inl ⟨_,rfl⟩
   ·exact .inl ⟨_,rfl⟩
   ·refine .inr ⟨Em (aF aV) (cR (cls aV b_)),hnd,?_⟩;delta FR Em;refine aj (a0 ..) ?_;rfl
 case t2=>
  have QM:(cR (cls aV b_)).length<=1000:=by (refine aj (si ..) ?_;refine aj (ak ..) ?_);exact aw (Jc _) (aw Pj (by decide))
  refine c9 (iZ (iN H he H.b_list rfl) (au (bM (bF (bF (pK (ah (j:=41) he (.cell (L_+15) "book") hf (hS.get rfl))) (bF (dD (ah (j:=7) he (.cell (L_+6) "names") hf (hS.get rfl))) (ah (j:=9) he (.cell (L_+8) "block") hf (hS.get rfl)) (ew (j:=b_) (inj:=λb_=>V.str (cB (aF aV+b_))) (bA hb) (by decide))) (mh (gb d7 (by decide) zD))) aU tI) (congrArg (FR (aF aV)) (Bd (cW aV) b_))) aT) (Be ?len)) (iZ (iN H he H.b_list rfl) (au (ah (j:=35) he .loc hf (hS.get rfl)) aT) (Be ?zP)) ?cmp2
  case len=>refine aj (ak ..) ?_;exact QM
  case zP=>refine aj (ak ..) ?_;exact QM
  case cmp2=>
   refine aj (a0 ..) ?_;have:=Jb (k:=k_+8) (mu:=cw L_ kR::fb) (l:=(cR (cls aV b_)).map λq=>cB (aF aV+q.1)) (λx hx=>by
    refine aK (aG.mp hx) λq hq eU=>?_;subst eU;exact MB _ (by have:=EE q hq;lia))
   rw [a0] at this;exact this
end y8
theorem y8{pm doc:ai}:y8.S0 k mu vs L ds b pm doc:=by with_unfolding_all exact Bx _ _ _ _ _ _ _ _ y8.S0 @y8.T0 k mu vs L ds b pm doc
theorem Gw(c:Cs)(a:Nat):((k7 c a).map (·.2)).sum=(c.map (·.2)).sum+1\/¬(c.map (·.1)).Nodup:=by
 by_cases hnd:(c.map (·.1)).Nodup
 ·left
  unfold k7;by_cases h:c.any (λp=>p.1=a)
  ·refine aj (if_pos h ..) ?_;induction c with
   |nil=>simp at h
   |cons q c ih=>
    rw [bB,cj] at hnd;simp only [bB,da];by_cases e:q.1=a
    ·have Br:∀p∈c,p.1≠a:=λp hp e2=>hnd.1 (by (refine aj (e ..) ?_;refine fZ (e2 ..) ?_);exact aG.mpr ⟨p,hp,rfl⟩);have:(c.map λp=>if p.1=a then (p.1,p.2+1) else p)=c:=by
      conv=>rhs;rw [<- xw c]
      exact b5 λp hp=>by simp [Br p hp]
     rw [this];simp [e];lia
    ·have h':c.any (λp=>p.1=a)=aJ:=by simpa [e] using h
     have:=ih hnd.2 h';rw [this];simp [e];lia
  ·rw [if_neg h];simp
 ·exact .inr hnd
theorem Bh(l:List Nat):((cR l).map (·.2)).sum=(l.length:Nat):=by
 have key:∀l:List Nat,((cR l).map (·.1)).Nodup:=λl=>by
  refine aj (si ..) ?_;refine aj (a0 ..) ?_;exact aj (show ((fE l).map ((λx:Nat×Int=>x.1)∘λc=>(c,((l.count c:Nat):Int))))=fE l from xw _) (wX _)
 induction l using jH with
 |h0=>rfl
 |h1 l a ih=>
  have e1:cR (l++[a])=k7 (cR l) a:=by unfold cR;refine aj (fu ..) ?_;rfl
  refine aj (e1 ..) ?_;rcases Gw (cR l) a with h|h
  ·(refine aj (h ..) ?_;refine aj (ih ..) ?_);simp
  ·exact absurd (key l) h
theorem Pk{hs W:List (List Nat)}(zD:b∈[1,2,3,4,5])(hT:sh hs S)(hW:∀w,w∈W↔vX hs b [0] w):(aN 6).filter (λo:Nat=>((o:Int) == (b:Int)) || (((W.filter λw=>!decide (o∈w)).map λz=>V.int 1).isEmpty || false))=eZ (S b):=by
 unfold eZ;refine fz λo ho=>?_;have ho6:=aY.mp ho;refine gj (cm ..) ?_;refine gj (hT.fin b zD o ho6 ..) ?_;have zl:b≠0:=by rintro rfl;revert zD;decide
 simp only [jV,beq_iff_eq,zE,um,jc,gY];constructor
 ·rintro (h|h)
  ·exact .inl (Np.mp h)
  ·exact .inr ⟨zl,λw hw=>by simpa using h w ((hW w).mpr hw)⟩
 ·rintro (h|⟨_,h⟩)
  ·exact .inl (by (refine aj (h ..) ?_;rfl))
  ·exact .inr λw hw=>by simpa using h w ((hW w).mp hw)
def za.S0(k:Nat)(mu:Mu)(vs:d9)(L Hm Nt cx lx:ay)(ds:List Nat)(n6 b:Nat)(S:Nat->Nat)(pm doc:ai)(W:List (List Nat))(_:Nat):Prop:=∀{Θ:AF->Mu->Prop} (H:Hy G) (he:du (bT pm doc L)) (hb:b < 6) (zD:b∈[1,2,3,4,5]) (hS:Sv vs (Pi ds n6 lx S Hm Nt cx b W)) (hT:sh (dh ds) S) (QQ:W.length<=2000) (hW:∀w,w∈W↔vX (dh ds) b [0] w) (next:WS (k+8) (cw L vs::mu) (bT pm doc L) (y6 5) Θ),WS (k+8) (cw L vs::mu) (bT pm doc L) (y6 4) Θ
namespace za
@[irreducible] def e0:=Fm eO gD gD cL cL cL cL cL gD eO eO inferInstance gL gL gD eO S0
def k_:=e0.1
def fb:=e0.2.1
def kR:=e0.2.2.1
def L_:=e0.2.2.2.1
def xJ:=e0.2.2.2.2.1
def xe:=e0.2.2.2.2.2.1
def vT:=e0.2.2.2.2.2.2.1
def y9:=e0.2.2.2.2.2.2.2.1
def aV:=e0.2.2.2.2.2.2.2.2.1
def gO:=e0.2.2.2.2.2.2.2.2.2.1
def b_:=e0.2.2.2.2.2.2.2.2.2.2.1
def S_:=e0.2.2.2.2.2.2.2.2.2.2.2.1
def pg:=e0.2.2.2.2.2.2.2.2.2.2.2.2.1
def g8:=e0.2.2.2.2.2.2.2.2.2.2.2.2.2.1
def W_:=e0.2.2.2.2.2.2.2.2.2.2.2.2.2.2.1
theorem T0:S0 k_ fb kR L_ xJ xe vT y9 aV gO b_ S_ pg g8 W_ e0.2.2.2.2.2.2.2.2.2.2.2.2.2.2.2:=by
 intro Θ H he hb zD hS hT QQ hW next
 have d7:=eI aV;have hf:∀{kR} {l:Mu},bq L_ (aM (L_+1) (bk (cN 23)).names) kR∈cw L_ kR::l:=aa;have CT:∀c∈aN 6,c < 6:=λc hc=>aY.mp hc;refine cq (H.f270.go) λob z z z h0 hd z=>?_;have hsm:((Em (aF aV) (cR (cls aV b_))).map (·.2)).sum=((zB aV b_).length:Nat):=by refine aj (a0 ..) ?_;refine aj (show ((cR (cls aV b_)).map ((λx:bb×Int=>x.2)∘λq=>(cB (aF aV+q.1),q.2)))=(cR (cls aV b_)).map (·.2) from rfl) ?_;refine aj (Bh ..) ?_;refine aj (show cls aV b_=(ja (cW aV) b_).map (·.1.1) from (jI _ _).symm) ?_;refine aj (ak ..) ?_;rfl
 refine aC (iY (b:=(((zB aV b_).length:Nat):Int) != ((zB aV b_).length:Nat) || ((iy (aF aV) (S_ b_) != iy (aF aV) (S_ b_)) || false)) (oK (iM ?t1 λz=>iM ?t2 λz=>jn)) (λh=>by simp at h) λz=>bC next)
 case t1=>exact c9 (ju (ys:=[FR (aF aV) (cR (cls aV b_))]) (mn H he H.m_count rfl) h0 hd (au (bM (bF (bF (pK (ah (j:=41) he (.cell (L_+15) "book") hf (hS.get rfl))) (bF (dD (ah (j:=7) he (.cell (L_+6) "names") hf (hS.get rfl))) (ah (j:=9) he (.cell (L_+8) "block") hf (hS.get rfl)) (ew (j:=b_) (inj:=λb_=>V.str (cB (aF aV+b_))) (bA hb) (by decide))) (mh (gb d7 (by decide) zD))) aU tI) (congrArg (FR (aF aV)) (Bd (cW aV) b_))) aT) (by refine aj (Ce ..) ?_;exact FW.mono (Hh (k:=k_+6) H) λy nu h=>⟨h.2.trans (congrArg V.int hsm),h.1⟩)) (bM (ek (j4 H he H.b_len rfl) (au (dD (ah (j:=27) he (.cell (L_+13) "told") hf (hS.get rfl))) aT) (mi (by refine aj (ak ..) ?_;exact aw qU (by decide)))) (congrArg (λn:Nat=>V.int n) (ak _))) Fx
 case t2=>
  have hjn:iy (aF aV) (S_ b_)=fO ", " (((aN 6).filter (λo:Nat=>((o:Int) == (b_:Int)) || (((W_.filter λw=>!decide (o∈w)).map λz=>V.int 1).isEmpty || false))).map λo=>cB (aF aV+o)):=by refine aj (Pk zD hT hW ..) ?_;rfl
  refine c9 (bF (pK (ah (j:=46) he (.cell (L_+20) "table") hf (hS.get rfl))) (bF (dD (ah (j:=7) he (.cell (L_+6) "names") hf (hS.get rfl))) (ah (j:=9) he (.cell (L_+8) "block") hf (hS.get rfl)) (ew (j:=b_) (inj:=λb_=>V.str (cB (aF aV+b_))) (bA hb) (by decide))) (mh (gb d7 CT (aY.mpr hb)))) (bM (f7 cO mK (au (dD (nE (aN 6) nV (λo:Nat=>((o:Int) == (b_:Int)) || (((W_.filter λw=>!decide (o∈w)).map λz=>V.int 1).isEmpty || false)) (λo=>V.str (cB (aF aV+o))) ⟨rfl,rfl,by decide+kernel,by decide+kernel⟩ (fK (n:=6) (iN H he H.b_range rfl) aU rfl (by decide)) (by lia) (by decide) (λC2 a ha=>iu 1 he.comp (.cell (C2+1) "other") (fS (oK (iM (c9 (ah (j:=1) he.comp (.cell (C2+1) "other") aa rfl) (ah (j:=9) he.comp (.cell (L_+8) "block") (ab _ hf) (hS.get rfl)) qr) (λz=>iM (c9 (nE W_ wV (λw=>!decide (a∈w)) (λz=>V.int 1) ⟨rfl,rfl,by decide+kernel,by decide+kernel⟩ (dA (ah (j:=36) he.comp (.cell (L_+14) "ways") (ab _ hf) (hS.get rfl))) (by lia) (aw QQ (by decide)) (λC3 w hw=>iu 1 he.comp.comp .loc (fS (c9 (ah (j:=1) he.comp.comp (.cell (C2+1) "other") (ab _ aa) rfl) (dD (ah (j:=1) he.comp.comp .loc aa rfl)) Hf)) (λhb=>aU))) (ij (xs:=[]) aT (bg rfl)) (FG (nj _ _))) (λz=>jn))))) (λz=>(bF (dD (ah (j:=7) he.comp (.cell (L_+6) "names") (ab _ hf) (hS.get rfl))) (ah (j:=1) he.comp (.cell (C2+1) "other") aa rfl) (ew (j:=a) (inj:=λb_=>V.str (cB (aF aV+b_))) (bA (CT a ha)) (by decide))))))) aT) (rK (f:=λo=>cB (aF aV+o)) ?hok) (by exact eM) (by exact ny) (by exact nz) rfl) (congrArg V.str hjn.symm)) tx
  case hok=>
   refine nc (B:=20) (λt ht=>?_) ?_
   ·refine aK (aG.mp ht) λo ho dO=>?_;subst dO;have h6:=CT o (bo.mp ho).1;exact BX _ (by lia)
   ·refine aj (ak ..) ?_;have h1:=bu (λo:Nat=>((o:Int) == (b_:Int)) || (((W_.filter λw=>!decide (o∈w)).map λz=>V.int 1).isEmpty || false)) (aN 6);rw [fq] at h1;have h2:(", ":bb).length=2:=rfl;refine aj (h2 ..) ?_;lia
end za
theorem za{pm doc:ai}{W:List (List Nat)}:za.S0 k mu vs L Hm Nt cx lx ds n6 b S pm doc W 0:=by with_unfolding_all exact Aq _ _ _ _ _ _ _ _ _ _ _ _ _ _ _ _ za.S0 @za.T0 k mu vs L Hm Nt cx lx ds n6 b S pm doc W 0
noncomputable def zY(S:Nat->Nat)(o:Nat):Nat:=(eZ (S o)).length - 1
noncomputable def jS(S:Nat->Nat)(b o:Nat):Nat->Int
 |0=>if (o != b && (S b).testBit o) then 1 else 0
 |1=>(zY S o:Nat) / 2
 |_=>(zY S o:Nat) % 2
theorem QB{S:Nat->Nat}{b o:Nat}:jS S b o 0=0\/jS S b o 0=1:=by
 show (if (o != b && (S b).testBit o) then (1:Int) else 0)=0\/(if (o != b && (S b).testBit o) then (1:Int) else 0)=1
 split
 ·exact .inr rfl
 ·exact .inl rfl
noncomputable abbrev xf(low:Nat)(S:Nat->Nat)(b o:Nat):V:= .tup [.int (jS S b o 0),.int (jS S b o 1),.int (jS S b o 2),.str (cB (low+o))]
noncomputable def zb(S:Nat->Nat)(b o:Nat):Int:=6*jS S b o 0+(zY S o:Nat)
theorem Ct(S:Nat->Nat)(o:Nat):zY S o < 6:=by
 delta zY;have:(eZ (S o)).length<=6:=by delta eZ;exact aw (bu _ _) (by decide)
 omega
def oX.S0(S:Nat->Nat)(b r x:Nat):Prop:=(vS (jS S b r) (jS S b x) < 0)↔zb S b x < zb S b r
namespace oX
@[irreducible] def e0:=GW inferInstance eO eO eO S0
def S_:=e0.1
def b_:=e0.2.1
def r_:=e0.2.2.1
def x_:=e0.2.2.2
theorem T0:S0 S_ b_ r_ x_:=by
 delta S0;have h1:=Ct S_ r_;have h2:=Ct S_ x_;delta vS zb;have a1:jS S_ b_ r_ 1=(zY S_ r_:Nat) / 2:=rfl;have a2:jS S_ b_ x_ 1=(zY S_ x_:Nat) / 2:=rfl;have a3:jS S_ b_ r_ 2=(zY S_ r_:Nat) % 2:=rfl;have a4:jS S_ b_ x_ 2=(zY S_ x_:Nat) % 2:=rfl;have a5:jS S_ b_ r_ 0=0\/jS S_ b_ r_ 0=1:=QB;have a6:jS S_ b_ x_ 0=0\/jS S_ b_ x_ 0=1:=QB;generalize jS S_ b_ r_ 0=p at*;generalize jS S_ b_ x_ 0=q at*;generalize jS S_ b_ r_ 1=p1 at*;generalize jS S_ b_ x_ 1=q1 at*;generalize jS S_ b_ r_ 2=p2 at*;generalize jS S_ b_ x_ 2=q2 at*
 repeat' split
 all_goals lia
end oX
theorem oX(S:Nat->Nat)(b r x:Nat):oX.S0 S b r x:=by with_unfolding_all exact vz _ _ _ _ oX.S0 @oX.T0 S b r x
noncomputable def xg(b:Nat):List Nat:=if b % 2=1 then (aN 6).reverse else aN 6
set_option tactic.hygienic true in
theorem Jd(b:Nat):jq (aN 6) av av (ae (1 - 2*((b:Int) % 2)))=xg b:=by
 delta xg
 split
 ·rename_i h;exact aj (show (1:Int) - 2*((b:Int) % 2)= -1 by lia) (Bf.2 (by rfl))
 ·exact aj (show (1:Int) - 2*((b:Int) % 2)=1 by lia) (Bf.1)
theorem zc{b o:Nat}:o∈xg b↔o < 6:=by
 delta xg
 split <;> simp
theorem EF(b:Nat):(xg b).length=6:=by
 delta xg
 split <;> simp
noncomputable abbrev EG(ds:List Nat)(n6:Nat)(lx:ay)(S:Nat->Nat)(Hm Nt cx:ay)(b x:Nat):List (Nat×V):=(38,xf (aF ds) S b x)::(37,.list ((xg b).map (xf (aF ds) S b)))::S23 ds n6 lx S Hm Nt cx b
theorem b23_d(H:Hy G){pm doc:ai}(he:du (bT pm doc L))(hb:b < 6){W:List (List Nat)}(hS:Sv vs (Pi ds n6 lx S Hm Nt cx b W))(hT:sh (dh ds) S)
 (next:∀vs x,x < 6->Sv vs (EG ds n6 lx S Hm Nt cx b x)->WS (k+8) (cw L vs::mu) (bT pm doc L) (y6 7) Θ):
 WS (k+8) (cw L vs::mu) (bT pm doc L) (y6 5) Θ:=by
 have d7:=eI ds;have hf:∀{vs} {l:Mu},bq L (aM (L+1) (bk (cN 23)).names) vs∈cw L vs::l:=aa;have CT:∀c∈aN 6,c < 6:=λc hc=>aY.mp hc;refine aC (bX (y:= .list ((xg b).map (xf (aF ds) S b))) (bM (bF (dD (jP (aN 6) (λo=>V.str (cB (aF ds+o))) (xf (aF ds) S b) ⟨rfl,rfl,by decide+kernel,by decide+kernel⟩ (dA (ah (j:=7) he (.cell (L+6) "names") hf (hS.get rfl))) (by lia) (by decide) (λC1 a ha=>?turn))) (jo dM dM (eQ (br aU (br aU (br (ah (j:=9) he (.cell (L+8) "block") hf (hS.get rfl)) aU (fk (by decide))) (mX (by decide))) vH))) (pd (λh=>by have:=aO h;lia) (by refine aj (ak ..) ?_;decide))) (by (refine aj (jr ..) ?_;refine aj (Jd ..) ?_;rfl))) (aQ (i:=0) (j:=37) he .loc rfl ?_) rfl rfl)
 case turn=>
  have PN:=aY.mp ha;refine iu 1 he.comp .loc dk (λz=>f9 (xs:=[.int (jS S b a 0),.int (jS S b a 1),.int (jS S b a 2),.str (cB (aF ds+a))]) (au ?c0 (au (br (bM (f7 (bF (pK (ah (j:=46) he.comp (.cell (L+20) "table") (ab _ hf) (hS.get rfl))) (ah (j:=1) he.comp .loc aa rfl) (mh (gb d7 CT (aY.mpr PN)))) mK (au cO aT) rI (by exact eM) (by exact F.slot_str_count) (by exact F.type_str_count) rfl) (congrArg V.int (u4 d7 (hT.ok a)))) aU (l9 (by decide))) (au (br (bM (f7 (bF (pK (ah (j:=46) he.comp (.cell (L+20) "table") (ab _ hf) (hS.get rfl))) (ah (j:=1) he.comp .loc aa rfl) (mh (gb d7 CT (aY.mpr PN)))) mK (au cO aT) rI (by exact eM) (by exact F.slot_str_count) (by exact F.type_str_count) rfl) (congrArg V.int (u4 d7 (hT.ok a)))) aU (fk (by decide))) (au (ah (j:=1) he.comp .loc aa rfl) aT)))) (by show 4<=2 ^ 20;decide))
  case c0=>refine bM (iZ (iN H he.comp H.b_int rfl) (au (Pf (mI (ah (j:=1) he.comp .loc aa rfl) (bF (dD (ah (j:=7) he.comp (.cell (L+6) "names") (ab _ hf) (hS.get rfl))) (ah (j:=9) he.comp (.cell (L+8) "block") (ab _ hf) (hS.get rfl)) (ew (j:=b) (inj:=λb=>V.str (cB (aF ds+b))) (bA hb) (by decide))) tx) (λz=>mI (ah (j:=1) he.comp .loc aa rfl) (dD (bM (f7 (bF (pK (ah (j:=46) he.comp (.cell (L+20) "table") (ab _ hf) (hS.get rfl))) (bF (dD (ah (j:=7) he.comp (.cell (L+6) "names") (ab _ hf) (hS.get rfl))) (ah (j:=9) he.comp (.cell (L+8) "block") (ab _ hf) (hS.get rfl)) (ew (j:=b) (inj:=λb=>V.str (cB (aF ds+b))) (bA hb) (by decide))) (mh (gb d7 CT (aY.mpr hb)))) mK (au cO aT) (ky rfl (by have:=vQ (S:=S b) d7;show _<=2 ^ 24;exact aw (by assumption) (by decide)) (yh d7)) (by exact eM) (by exact jX) (by exact Ni) rfl) (y:= .list (((eZ (S b)).map λo=>cB (aF ds+o)).map .str)) (by (refine aj (oP (hT.ok b).1 (hT.ok b).2 d7 ..) ?_;rfl)))) FH)) aT) rF) ?_;refine aj (vR d7 PN ..) ?_;show V.int _=V.int (if (a != b && (S b).testBit a) then 1 else 0);refine aj (show (cB (aF ds+a) != cB (aF ds+b))=(a != b) from congrArg not (rR d7 PN hb)) ?_;rfl
 obtain ⟨x,hx⟩:∃x,(xg b)[0]? =ae x:=⟨_,bJ (by refine aj (EF ..) ?_;decide)⟩;have hx6:x < 6:=zc.mp (ao hx);have hS1:=hS.set (j:=37) (y:= .list ((xg b).map (xf (aF ds) S b)));refine aC (bX (y:=xf (aF ds) S b x) (bF (dD (ah (j:=37) he .loc hf (hS1.get rfl))) aU (ew (j:=0) (inj:=xf (aF ds) S b) hx (by refine aj (EF ..) ?_;decide))) (aQ (i:=0) (j:=38) he .loc rfl ?_) rfl rfl);exact next _ x hx6 ((hS1.set (j:=38) (y:=xf (aF ds) S b x)).sub ⟨rfl,rfl,rfl,rfl,rfl,rfl,rfl,rfl,rfl,rfl,rfl,rfl,rfl,rfl,rfl,trivial⟩)
def zd.S0(k:Nat)(mu:Mu)(L Hm Nt cx lx:ay)(ds:List Nat)(n6 b:Nat)(S:Nat->Nat)(pm doc:ai)(_:Nat):Prop:=∀{vs:d9} {Θ:AF->Mu->Prop} {dc:ay} {K:fl} {x0:Nat} (H:Hy G) (LH:fM G K) (he:du (bT pm doc L)) (hx0:x0 < 6) (Ac:Sv vs (EG ds n6 lx S Hm Nt cx b x0)) (hcx:gH cx 245 dc [("comp_select_list",DI)]∈mu) (next:∀vs x,x < 6->(∀o,o < 6->zb S b o<=zb S b x)->Sv vs (EG ds n6 lx S Hm Nt cx b x)->WS (k+8) (cw L vs::mu) (bT pm doc L) (y6 8) Θ),WS (k+8) (cw L vs::mu) (bT pm doc L) (y6 7) Θ
namespace zd
@[irreducible] def e0:=NT eO gD cL cL cL cL cL gD eO eO inferInstance gL gL eO S0
def k_:=e0.1
def fb:=e0.2.1
def L_:=e0.2.2.1
def xJ:=e0.2.2.2.1
def xe:=e0.2.2.2.2.1
def vT:=e0.2.2.2.2.2.1
def y9:=e0.2.2.2.2.2.2.1
def aV:=e0.2.2.2.2.2.2.2.1
def gO:=e0.2.2.2.2.2.2.2.2.1
def b_:=e0.2.2.2.2.2.2.2.2.2.1
def S_:=e0.2.2.2.2.2.2.2.2.2.2.1
def pg:=e0.2.2.2.2.2.2.2.2.2.2.2.1
def g8:=e0.2.2.2.2.2.2.2.2.2.2.2.2.1
theorem T0:S0 k_ fb L_ xJ xe vT y9 aV gO b_ S_ pg g8 e0.2.2.2.2.2.2.2.2.2.2.2.2.2:=by
 intro vs Θ dc K x0 H LH he hx0 Ac hcx next
 refine cq (LH.f242.go) λob z z z h0 hd z=>?_;have hf:∀{vs} {l:Mu},bq L_ (aM (L_+1) (bk (cN 23)).names) vs∈cw L_ vs::l:=aa;refine aC (jO (ctx:=[]) (xs:=(xg b_).map (xf (aF aV) S_ b_)) (λi nu=>∃vs x,nu=cw L_ vs::fb/\Sv vs (EG aV gO y9 S_ xJ xe vT b_ x)/\x < 6/\∀o∈(xg b_).take i,zb S_ b_ o<=zb S_ b_ x) (dA (ah (j:=37) he .loc hf (Ac.get rfl))) (by lia) ⟨vs,x0,rfl,Ac,hx0,by simp⟩ (λi nu h o ho=>(eo ho)) ?step ?fin)
 case step=>
  intro i y nu hy dO;refine ir dO λvs x eU hS hx hk=>?_;clear dO;subst eU;rw [aI] at hy;refine aK (aL.mp hy) λr hr gi=>?_;subst gi;refine aQ (i:=0) (j:=28) he .loc rfl ?_;have hS1:=hS.set (j:=28) (y:=xf (aF aV) S_ b_ r);have Ul:=ab (cw L_ (vs.set 28 (ae (xf (aF aV) S_ b_ r)))) hcx;refine aC (xR (Hl (B3 LH.KO LH.m_comp (ah (j:=34) he .loc hf (hS1.get rfl)) Ul (by show ("compare":bb)∉(["comp_select_list"]:List bb);decide) h0 hd (cA (cf (ah (j:=28) he .loc hf (hS1.get rfl)) (cA (cf (ah (j:=38) he .loc hf (hS1.get rfl)) (e9 (FW.mono (lJ (k:=k_+6) (a:=jS S_ b_ r) (b:=jS S_ b_ x) H LH Ul (by decide) (by exact aa)) λy nu hy=>?_)))))))));refine dU hy λe1 e2=>?_;clear hy;subst e1 e2;refine ⟨bZ (.int 0),decide (vS (jS S_ b_ r) (jS S_ b_ x) < 0),aU,C8,?_⟩;have qZ:∀{vs x},Sv vs (EG aV gO y9 S_ xJ xe vT b_ x)->Sv vs (EG aV gO y9 S_ xJ xe vT b_ x):=λ{z z} h=>h;by_cases hc:vS (jS S_ b_ r) (jS S_ b_ x) < 0
  ·refine aj (decide_eq_true hc ..) ?_;have hkey:=(oX S_ b_ r x).mp hc;refine aC (bX (ah (j:=28) he .loc hf (hS1.get rfl)) (aQ (i:=0) (j:=38) he .loc rfl ?_) rfl rfl);have hS2:=hS1.set (j:=38) (y:=xf (aF aV) S_ b_ r);refine bC (bC ⟨_,r,rfl,hS2.sub ⟨rfl,rfl,rfl,rfl,rfl,rfl,rfl,rfl,rfl,rfl,rfl,rfl,rfl,rfl,rfl,trivial⟩,zc.mp (ao hr),λo ho=>?_⟩);rw [lM hr] at ho;rcases bc.mp ho with h|h
   ·have:=hk o h;lia
   ·refine aj (aA.mp h ..) ?_;exact Int.le_refl _
  ·refine aj (decide_eq_false hc ..) (bC (bC ⟨_,x,rfl,hS1.sub ⟨rfl,rfl,rfl,rfl,rfl,rfl,rfl,rfl,rfl,rfl,rfl,rfl,rfl,rfl,rfl,trivial⟩,hx,λo ho=>?_⟩));rw [lM hr] at ho;rcases bc.mp ho with h|h
   ·exact hk o h
   ·refine aj (aA.mp h ..) ?_;have:=mt (oX S_ b_ r x).mpr hc
    with_reducible exact Int.le_of_not_gt (by assumption)
 case fin=>intro nu iC;refine ir iC λvs x kG hS hx hk=>?_;clear iC;subst kG;refine bC (next _ x hx (λo ho=>hk o ?_) hS);refine aj (ak ..) ?_;refine aj (cK ..) ?_;exact zc.mpr ho
end zd
theorem zd{pm doc:ai}:zd.S0 k mu L Hm Nt cx lx ds n6 b S pm doc 0:=by with_unfolding_all exact JW _ _ _ _ _ _ _ _ _ _ _ _ _ _ zd.S0 @zd.T0 k mu L Hm Nt cx lx ds n6 b S pm doc 0
def nY.S0(low n x:Nat)(h:Nat->Nat):Prop:=∀(hl:low < 28) (hn:n+1 < 6),jF (qa low n h) (cB (low+(n+1))) (.str (cB (low+x)))=qa low (n+1) (λc=>if c=n+1 then x else h c)
namespace nY
@[irreducible] def e0:=GW eO eO eO inferInstance S0
def gc:=e0.1
def n_:=e0.2.1
def x_:=e0.2.2.1
def h_:=e0.2.2.2
theorem T0:S0 gc n_ x_ h_:=by
 intro hl hn;delta jF qa bD;rw [if_neg]
 ·(refine aj (qe ..) ?_;refine aj (bj ..) ?_;refine aj (bj ..) ?_)
  congr 1
  ·refine b5 λc hc=>aK (aG.mp hc) λd hd ma=>?_;subst ma;have:=aY.mp hd;show _=(_,V.str (cB (gc+if d+1=n_+1 then x_ else h_ (d+1))));refine aj (if_neg (by lia) ..) ?_;rfl
  ·simp
 ·intro h_;refine aK (cS.mp h_) λq hq e=>aK (aG.mp hq) λc hc mE=>?_;subst mE;refine aK (aG.mp hc) λd hd qY=>?_;subst qY;have h1:=aY.mp hd;have:=(wR hl (show d+1 < 6 by lia) hn).mp (by simpa using e);lia
end nY
theorem nY{low n x:Nat}{h:Nat->Nat}:nY.S0 low n x h:=by with_unfolding_all exact vz _ _ _ _ nY.S0 @nY.T0 low n x h
theorem Je(low n:Nat)(h:Nat->Nat):(qa low n h).length=n:=by simp [qa,bD]
theorem b23_f(H:Hy G){pm doc:ai}(he:du (bT pm doc L)){n x:Nat}{h:Nat->Nat}(hn:n+1 < 6)(hS:Sv vs (EG ds n6 lx S Hm Nt cx (n+1) x))
 (next:Sv vs (EG ds n6 lx S Hm Nt cx (n+1) x)->WS (k+8) (cw L vs::cD Hm (qa (aF ds) (n+1) (λc=>if c=n+1 then x else h c))::mu) (bT pm doc L) [] Θ):
 WS (k+8) (cw L vs::cD Hm (qa (aF ds) n h)::mu) (bT pm doc L) (y6 8) Θ:=by
 have d7:=eI ds;have hf:∀{vs} {l:Mu},bq L (aM (L+1) (bk (cN 23)).names) vs∈cw L vs::l:=aa;refine aC (qz (i:=1) (D:=Hm) (x:=cB (aF ds+(n+1))) (y:= .str (cB (aF ds+x))) (bF (ah (j:=38) he .loc hf (hS.get rfl)) aU (Kp rfl (by show -((4:Nat):Int)<=3;decide) (by decide) (by show 4 < 2 ^ 62;decide))) (ah (j:=33) he .loc hf (hS.get rfl)) (bF (dD (ah (j:=7) he (.cell (L+6) "names") hf (hS.get rfl))) (ah (j:=9) he (.cell (L+8) "block") hf (hS.get rfl)) (ew (j:=(n+1)) (inj:=λb=>V.str (cB (aF ds+b))) (bA hn) (by decide))) rfl (by refine aj (Je ..) ?_;show n<=2 ^ 24;lia) ?_);exact aj (nY d7 hn ..) (next hS)
structure pq(hs:List (List Nat))(b h:Nat):Prop where
 lt:h < 6
 sd:wi hs b h
 near:∀o,o < 6->wi hs b o->gI hs h o
theorem HI{S S':Nat}(h:∀c,c < 6->S.testBit c=aJ->S'.testBit c=aJ)(hl:(eZ S').length<=(eZ S).length):∀c,c < 6->S'.testBit c=aJ->S.testBit c=aJ:=by
 have e:(eZ S').filter S.testBit=eZ S:=by unfold eZ;refine aj (List.filter_filter ..) (fz λc hc=>?_);have:=h c (aY.mp hc);cases h1:S.testBit c <;> simp_all
 have hs:(eZ S).Sublist (eZ S'):=e▸List.filter_sublist;have heq:=hs.eq_of_length_le hl;intro c hc h2;have:c∈eZ S':=bo.mpr ⟨aY.mpr hc,h2⟩;rw [<- heq] at this;exact (bo.mp this).2
theorem back6:∀n y,y=n->y≠0->y < 6->∃w,ej (dh ds) y w/\w.getLast? =ae 0:=by
 intro n;induction n using vx with
 |ind n ih=>
  rintro y rfl h0 h6;obtain ⟨c,hc,hm⟩:∃c,c < y/\(c,y)∈cW ds:=by
   by_cases h1:y=1
   ·subst h1;exact ⟨0,by decide,aE _ (aE _ (aE _ (by decide)))⟩
   ·refine ⟨dr ds (y - 2) % y,ef _ (by exact Nat.pos_of_ne_zero (by assumption)),aE _ (aE _ (bL _ (aG.mpr ⟨y,?_,rfl⟩)))⟩;rcases (by lia:y=2\/y=3\/y=4\/y=5) with h|h|h|h <;> refine aj (h ..) ?_ <;> decide
  have qj:c∈(dh ds).getD y []:=by refine aj (t4 h6 ..) ?_;refine gj (nq ..) ?_;exact ⟨by exact CO (by assumption) (by assumption),aG.mpr ⟨(c,y),bo.mpr ⟨hm,by simp⟩,rfl⟩⟩
  by_cases zC:c=0
  ·subst zC;exact ⟨[0],⟨qj,trivial⟩,rfl⟩
  ·refine aK (ih c hc c rfl zC (by exact CO (by assumption) (by assumption))) λw hw hl=>⟨c::w,⟨qj,hw⟩,?_⟩
   cases w with
   |nil=>simp at hl
   |cons d w=>refine fZ (hl ..) ?_;rfl
theorem qW:∀y,y≠0->y < 6->∃w,vX (dh ds) y [0] w:=λy h0 h6=>by
 exact aK (back6 (ds:=ds) y y rfl h0 h6) λw hw hl=>eg (k0 (marks:=[0]) hw ⟨0,hl,by decide⟩) λv hv hl z=>⟨v,hv,hl⟩
theorem zZ{hs:List (List Nat)}(hT:sh hs S){j o:Nat}(hj:j < 6)(ho:o < 6):(S j).testBit o=aJ↔gI hs j o:=by
 by_cases h:j=0
 ·subst h;have h1:∀o,o < 6->(Nat.testBit 1 o=aJ↔o=0):=by decide
  refine aj (hT.z ..) ?_;refine gj (h1 o ho ..) ?_;exact ⟨λh=> .inl h,λh=>h.zero⟩
 ·exact hT.fin j (by rcases (by lia:j=1\/j=2\/j=3\/j=4\/j=5) with h|h|h|h|h <;> refine aj (h ..) ?_ <;> decide) o ho
theorem dom0{hs:List (List Nat)}{b:Nat}(hb:b≠0):gI hs b 0:= .inr ⟨hb,λw hw=>by
 refine aK (hw.2) λc hc hm=>?_;have:c=0:=by simpa using hm
 subst this;exact df hc⟩
theorem Pm(Ab:b < 6)(zl:b≠0)(hT:sh (dh ds) S){x:Nat}(hx:x < 6)(PY:∀o,o < 6->zb S b o<=zb S b x):pq (dh ds) b x:=by
 have Td:∀{o},o < 6->wi (dh ds) b o->jS S b o 0=1:=λ{z} ho h=>by
  refine if_pos ?_;exact aj (dQ ..) (⟨by simpa using h.2,(zZ hT Ab ho).mpr h.1⟩)
 have h0:=PY 0 (by decide);have c0:=Td (o:=0) (by decide) ⟨dom0 zl,zl.symm⟩;have cx:=Ct S x;have GI:wi (dh ds) b x:=by
  apply bO;intro hn;have:jS S b x 0=0:=by refine if_neg λh=>?_;rw [dQ] at h;exact hn ⟨(zZ hT Ab hx).mp h.2,by simpa using h.1⟩
  unfold zb at h0;rw [c0,this] at h0;lia
 refine ⟨hx,GI,λo ho hso=>?_⟩;rcases I7 (qW b zl Ab) GI.1 hso.1 GI.2 hso.2 with h|h
 ·exact h
 ·have hk:=PY o ho;unfold zb at hk;rw [Td ho hso,Td hx GI] at hk;have e1:1<=(eZ (S o)).length:=zv.mpr (B1 (hT.ok o).1 (hT.ok o).2);have e2:1<=(eZ (S x)).length:=zv.mpr (B1 (hT.ok x).1 (hT.ok x).2);have hl:(eZ (S o)).length<=(eZ (S x)).length:=by unfold zY at hk;lia
  refine (zZ hT hx ho).mp (HI (S:=S x) (S':=S o) (λc hc h1=>?_) hl o ho ((zZ hT ho ho).mpr gI.self));exact (zZ hT ho hc).mpr (gI.trans ((zZ hT hx hc).mp h1) h)
noncomputable abbrev z8(L Hm Nt cx dc:ay)(vs:d9)(low n:Nat)(h:Nat->Nat)(F:Nat->List Nat)(mu:Mu):Mu:=cw L vs::cD Hm (qa low n h)::cD Nt (qT low F)::gH cx 245 dc [("comp_select_list",DI)]::mu
def t5.S0(k:Nat)(L Hm Nt cx dc lx:ay)(ds:List Nat)(n6:Nat)(S:Nat->Nat)(pm doc:ai):Prop:=∀{mu:Mu} {vs:d9} {Θ:AF->Mu->Prop} {K:fl} (H:Hy G) (LH:fM G K) (he:du (bT pm doc L)) (Ac:Sv vs (Ja ds n6 lx S Hm Nt cx)) (hT:sh (dh ds) S) (next:∀vs h,Sv vs (Ja ds n6 lx S Hm Nt cx)->(∀b,b≠0->b < 6->pq (dh ds) b (h b))->WS (k+8) (z8 L Hm Nt cx dc vs (aF ds) 5 h (λz=>[]) mu) (bT pm doc L) (je 24) Θ),WS (k+8) (z8 L Hm Nt cx dc vs (aF ds) 0 (λz=>0) (λz=>[]) mu) (bT pm doc L) (je 23) Θ
namespace t5
@[irreducible] def e0:=HS eO cL cL cL cL cL cL gD eO inferInstance gL gL S0
def k_:=e0.1
def L_:=e0.2.1
def xJ:=e0.2.2.1
def xe:=e0.2.2.2.1
def vT:=e0.2.2.2.2.1
def QC:=e0.2.2.2.2.2.1
def y9:=e0.2.2.2.2.2.2.1
def aV:=e0.2.2.2.2.2.2.2.1
def gO:=e0.2.2.2.2.2.2.2.2.1
def S_:=e0.2.2.2.2.2.2.2.2.2.1
def pg:=e0.2.2.2.2.2.2.2.2.2.2.1
def g8:=e0.2.2.2.2.2.2.2.2.2.2.2
theorem T0:S0 k_ L_ xJ xe vT QC y9 aV gO S_ pg g8:=by
 intro mu vs Θ K H LH he Ac hT next
 refine aC (jO (ctx:=[]) (xs:=[1,2,3,4,5].map nV) (λi nu=>∃vs h,nu=z8 L_ xJ xe vT QC vs (aF aV) i h (λz=>[]) mu/\Sv vs (Ja aV gO y9 S_ xJ xe vT)/\∀b,b≠0->b < i+1->pq (dh aV) b (h b)) (pQ (qu (iN H he H.b_range rfl) aU aU (by decide) (by decide)) rfl) (by lia) ⟨vs,_,rfl,Ac,λb h0 h1=>by lia⟩ (λi nu h o ho=>(eo ho)) ?step ?fin)
 case step=>
  intro i y nu hy dO;refine cC dO λvs h eU hS hh=>?_;clear dO;subst eU;have hi5:i < 5:=by have:=(aB.mp hy).1;exact this
  have hye:y=nV (i+1):=by
   match i,hi5 with
   |0,_=>(have lA:=aO hy;clear hy;subst lA);rfl
   |1,_=>(have lA:=aO hy;clear hy;subst lA);rfl
   |2,_=>(have lA:=aO hy;clear hy;subst lA);rfl
   |3,_=>(have lA:=aO hy;clear hy;subst lA);rfl
   |4,_=>(have lA:=aO hy;clear hy;subst lA);rfl
  subst hye;have zD:i+1∈[1,2,3,4,5]:=by rcases (by lia:i=0\/i=1\/i=2\/i=3\/i=4) with h|h|h|h|h <;> refine aj (h ..) ?_ <;> decide
  refine aQ (i:=0) (j:=9) he (.cell (L_+8) "block") rfl ?_;have hS1:Sv (vs.set 9 (ae (nV (i+1)))) (S23 aV gO y9 S_ xJ xe vT (i+1)):=hS.set (j:=9) (y:=nV (i+1));refine y7 H he (by exact jk (by assumption)) hS1 λvs W hS2 QQ hW=>y8 H he (by exact jk (by assumption)) zD hS2 (za H he (by exact jk (by assumption)) zD hS2 hT QQ hW ?_);refine b23_d H he (by exact jk (by assumption)) hS2 hT λvs x hx hS3=>zd H LH he hx hS3 (ao (i:=2) rfl) λvs x hx PY Aa=>b23_f H he (by exact jk (by assumption)) Aa λhS5=>bC ⟨_,_,rfl,hS5.sub ⟨rfl,rfl,rfl,rfl,rfl,rfl,rfl,rfl,rfl,rfl,rfl,rfl,trivial⟩,λb h0 h1=>?_⟩;show pq _ b (if b=i+1 then x else h b);by_cases e:b=i+1
  ·subst e;refine aj (if_pos rfl ..) ?_;exact Pm (by exact jk (by assumption)) (by assumption) hT hx PY
  ·refine aj (if_neg e ..) ?_;exact hh b h0 (by lia)
 case fin=>intro nu gi;refine cC gi λvs h iC hS hh=>?_;clear gi;subst iC;exact bC (next _ h hS hh)
end t5
theorem t5{pm doc:ai}:t5.S0 k L Hm Nt cx dc lx ds n6 S pm doc:=by with_unfolding_all exact CY _ _ _ _ _ _ _ _ _ _ _ _ t5.S0 @t5.T0 k L Hm Nt cx dc lx ds n6 S pm doc
variable {F:Nat->List Nat}{h:Nat->Nat}{hs:List (List Nat)}
section
variable {P Q:Nat->Nat->Prop}
structure NF(F:Nat->List Nat)(P:Nat->Nat->Prop):Prop where
 nd:∀c,c < 6->(F c).Nodup
 iff:∀c,c < 6->∀y,y∈F c↔P c y
theorem NF.to(h:NF F P)(e:∀c,c < 6->∀y,P c y↔Q c y):NF F Q:=⟨h.nd,λc hc y=>(h.iff c hc y).trans (e c hc y)⟩
noncomputable def JO(F:Nat->List Nat)(c z:Nat):Nat->List Nat:=λc'=>if c'=c then (F c).filter (λy=>y != z)++[z] else F c'
set_option tactic.hygienic true in
theorem NF.up{c z:Nat}(h:NF F P):NF (JO F c z) λc' y=>P c' y\/(y=z/\c'=c):=⟨λc' hc=>by
 unfold JO
 split
 ·rename_i e;subst e;rw [bP];exact ⟨(h.nd c' hc).filter _,by simp,λa ha b hb e=>by
   rw [aA] at hb;have:=(bo.mp ha).2;rw [e,hb] at this;simp at this⟩
 ·exact h.nd c' hc,λc' hc y=>by
 unfold JO
 split
 ·rename_i e;subst e;rw [bc,bo,aA,h.iff c' hc y];by_cases e:y=z <;> simp [e]
 ·rename_i e;rw [h.iff c' hc y];simp [e]⟩
theorem gI.antiH(hr:∀y,y≠0->y < 6->∃w,vX hs y [0] w){a b:Nat}(hb:b < 6)(h:gI hs b a)(h':gI hs a b):a=b:=gI.anti (λh0=>hr b h0 hb) h h'
theorem Gx(hr:∀y,y≠0->y < 6->∃w,vX hs y [0] w)(hh:∀b,b≠0->b < 6->pq hs b (h b)){p c t:Nat}(ud:c < 6)(ht:t < 6)(hpc:gI hs p c)(hct:gI hs c t)(iP:c≠t):
 c≠0/\h c < 6/\gI hs p (h c)/\gI hs (h c) t/\∀c',c' < 6->((gI hs p c'/\¬gI hs (h c) c')↔((gI hs p c'/\¬gI hs c c')\/c'=c)):=by
 have zC:c≠0:=by rintro rfl;exact iP hct.zero.symm
 have ho:=hh c zC ud;refine ⟨zC,ho.lt,gI.trans ho.sd.1 hpc,?_,λc' zo=>?_⟩
 ·exact ho.near t ht ⟨hct,iP.symm⟩
 ·constructor
  ·intro dO;refine dU dO λh1 h2=>?_;clear dO;by_cases hcc:gI hs c c'
   ·right
    exact bO λhn=>h2 (ho.near c' zo ⟨hcc,hn⟩)
   ·exact .inl ⟨h1,hcc⟩
  ·rintro (⟨h1,h2⟩|rfl)
   ·exact ⟨h1,λh3=>h2 (gI.trans h3 ho.sd.1)⟩
   ·exact ⟨hpc,λh3=>ho.sd.2 ((gI.antiH hr ho.lt h3 ho.sd.1).symm)⟩
theorem wj(hr:∀y,y≠0->y < 6->∃w,vX hs y [0] w)(hh:∀b,b≠0->b < 6->pq hs b (h b)){z p:Nat}(M7:z≠0)(hz:z < 6)(hp:p∈hs.getD z []):gI hs p (h z)/\∀c',c' < 6->((gI hs p c'/\¬gI hs (h z) c')↔(gI hs p c'/\¬wi hs z c')):=by have ho:=hh z M7 hz;refine ⟨(ho.sd.1.step.resolve_left ho.sd.2) p hp,λc' zo=>?_⟩;refine and_congr_right λx=>not_congr ⟨λh1=>⟨gI.trans h1 ho.sd.1,λe=>?_⟩,λh1=>ho.near c' zo h1⟩;subst e;exact ho.sd.2 (gI.antiH hr ho.lt h1 ho.sd.1).symm
theorem Bi{b:Nat}(hb:∀q∈hs.getD b [],q=b):∀{w:List Nat},ej hs b w->∀x∈w,x=b
 |[],_,_,hx=>eo hx
 |c::w,hw,x,hx=>by
  have hc:c=b:=hb c hw.1;subst hc;rcases aP.mp hx with e|e
  ·exact e
  ·exact Bi hb hw.2 x e
theorem Pn(hr:∀y,y≠0->y < 6->∃w,vX hs y [0] w){z p c':Nat}(M7:z≠0)(hz:z < 6)(hp6:p < 6)(h1:∀q∈hs.getD z [],q=p):¬Gq hs c' z:=by
 intro eU;refine eg eU λq hq hd hn=>?_;clear eU;have:=h1 q hq;subst this;refine cJ (hr z M7 hz) λw hw=>?_;have hzq:q≠z:=by
  rintro rfl;refine aK (hw.2) λd hd hm=>?_;have Jo:d=0:=by simpa using hm
  have:=Bi h1 hw.1.back d (df hd);exact M7 (by rw [<- this,Jo])
 have hdq:gI hs z q:= .inr ⟨M7,λv hv=>by
  have hb:=hv.1.back;refine aK (hv.2) λd hd x=>?_
  match v,hb,hd with
  |c::v,hb,_=>rw [h1 c hb.1];exact aa⟩
 refine hn ⟨gI.trans hd hdq,λe=>?_⟩;subst e;exact hzq (gI.antiH hr hz hdq hd)
end
theorem Bj(hT:sh (dh ds) S)(hh:∀b,b≠0->b < 6->pq (dh ds) b (h b)){c:Nat}(hc:c < 6)(zC:c≠0):(eZ (S (h c))).length < (eZ (S c)).length:=by have ho:=hh c zC hc;refine uw λhl=>?_;have:=HI (S:=S (h c)) (S':=S c) (λx hx h1=>(zZ hT hc hx).mpr (gI.trans ((zZ hT ho.lt hx).mp h1) ho.sd.1)) hl c hc ((zZ hT hc hc).mpr gI.self);exact ho.sd.2 (gI.antiH qW ho.lt ((zZ hT ho.lt hc).mp this) ho.sd.1).symm
theorem Po:∀z,z < 6->z≠0->z∈(aN 5).map (·+1):=by decide
theorem Pp:∀c∈(aN 5).map (·+1),c < 6:=by decide
theorem Jf{low c z:Nat}{F:Nat->List Nat}(hl:low < 28)(hc:c < 6):jF (qT low F) (cB (low+c)) (Gu low (JO F c z c))=qT low (JO F c z):=by
 unfold qT;refine aj (FQ hl (λc hc=>aY.mp hc) (aY.mpr hc) ..) ?_;unfold bD;refine b5 λb y=>?_;show (_,(if b=c then Gu low (JO F c z c) else Gu low (F b)))=(_,Gu low (JO F c z b));by_cases e:b=c
 ·subst e;(refine aj (if_pos rfl ..) ?_;rfl)
 ·refine aj (if_neg e ..) ?_;unfold JO;(refine aj (if_neg e ..) ?_;rfl)
def t7.S0(k:Nat)(mu:Mu)(Θ:AF->Mu->Prop)(L Hm Nt cx dc lx:ay)(ds:List Nat)(n6:Nat)(S h:Nat->Nat)(pm doc:ai)(_:Nat):Prop:=∀{vs:d9} (H:Hy G) (he:du (bT pm doc L)) (Ac:Sv vs (Ja ds n6 lx S Hm Nt cx)) (hT:sh (dh ds) S) (hh:∀b,b≠0->b < 6->pq (dh ds) b (h b)) (next:∀vs F,Sv vs (Ja ds n6 lx S Hm Nt cx)->NF F (λc z=>z≠0/\z < 6/\Gq (dh ds) c z)->WS (k+8) (z8 L Hm Nt cx dc vs (aF ds) 5 h F mu) (bT pm doc L) (je 25) Θ),WS (k+8) (z8 L Hm Nt cx dc vs (aF ds) 5 h (λy=>[]) mu) (bT pm doc L) (je 24) Θ
namespace t7
@[irreducible] def e0:=Fm eO gD s7 cL cL cL cL cL cL gD eO inferInstance inferInstance gL gL eO S0
def k_:=e0.1
def fb:=e0.2.1
def Θ_:=e0.2.2.1
def L_:=e0.2.2.2.1
def xJ:=e0.2.2.2.2.1
def xe:=e0.2.2.2.2.2.1
def vT:=e0.2.2.2.2.2.2.1
def QC:=e0.2.2.2.2.2.2.2.1
def y9:=e0.2.2.2.2.2.2.2.2.1
def aV:=e0.2.2.2.2.2.2.2.2.2.1
def gO:=e0.2.2.2.2.2.2.2.2.2.2.1
def S_:=e0.2.2.2.2.2.2.2.2.2.2.2.1
def h_:=e0.2.2.2.2.2.2.2.2.2.2.2.2.1
def pg:=e0.2.2.2.2.2.2.2.2.2.2.2.2.2.1
def g8:=e0.2.2.2.2.2.2.2.2.2.2.2.2.2.2.1
theorem T0:S0 k_ fb Θ_ L_ xJ xe vT QC y9 aV gO S_ h_ pg g8 e0.2.2.2.2.2.2.2.2.2.2.2.2.2.2.2:=by
 intro vs H he Ac hT hh next
 have d7:=eI aV;have CT:∀c∈aN 6,c < 6:=λc hc=>aY.mp hc;have hf:∀{vs} {l:Mu},bq L_ (aM (L_+1) (bk (cN 23)).names) vs∈cw L_ vs::l:=aa;refine cq (H.f270.go) λob w w w h0 hd w=>aC (jO (ctx:=[]) (xs:=[1,2,3,4,5].map λb=>V.str (cB (aF aV+b))) (λi nu=>∃vs F,nu=z8 L_ xJ xe vT QC vs (aF aV) 5 h_ F fb/\Sv vs (Ja aV gO y9 S_ xJ xe vT)/\NF F (λc z=>z≠0/\z < i+1/\Gq (dh aV) c z)) (pN (l:=[1,2,3,4,5]) (f:=λb=>(cB (aF aV+b),ro (aF aV) (lU aV) b)) (ah (j:=41) he (.cell (L_+15) "book") hf (Ac.get rfl))) (by lia) ⟨vs,_,rfl,Ac,⟨λw w=>kQ,λc w y=>⟨λh_=>absurd h_ e7,λh_=>by lia⟩⟩⟩ (λi nu h_ o ho=>(eo ho)) ?step ?fin)
 case fin=>intro nu dO;refine cC dO λvs F eU hS hF=>?_;clear dO;subst eU;exact bC (next _ F hS hF)
 case step=>
  intro i y nu hy gi;refine cC gi λvs F iC hS hF=>?_;clear gi;subst iC;have hi5:i < 5:=by have:=(aB.mp hy).1;exact this
  have hye:y= .str (cB (aF aV+(i+1))):=by
   match i,hi5 with
   |0,_=>(have lA:=aO hy;clear hy;subst lA);rfl
   |1,_=>(have lA:=aO hy;clear hy;subst lA);rfl
   |2,_=>(have lA:=aO hy;clear hy;subst lA);rfl
   |3,_=>(have lA:=aO hy;clear hy;subst lA);rfl
   |4,_=>(have lA:=aO hy;clear hy;subst lA);rfl
  subst hye;have zD:i+1∈[1,2,3,4,5]:=by rcases (by lia:i=0\/i=1\/i=2\/i=3\/i=4) with h_|h_|h_|h_|h_ <;> refine aj (h_ ..) ?_ <;> decide
  have JR:i+1 < 6:=by exact jk (by assumption)
  refine aQ (i:=0) (j:=8) he (.cell (L_+7) "name") rfl ?_;have hS1:Sv (vs.set 8 (ae (.str (cB (aF aV+(i+1)))))) ((8,.str (cB (aF aV+(i+1))))::Ja aV gO y9 S_ xJ xe vT):=hS.set (j:=8) (y:= .str (cB (aF aV+(i+1))));have hsm:((Em (aF aV) (cR (cls aV (i+1)))).map (·.2)).sum=((cls aV (i+1)).length:Nat):=by refine aj (a0 ..) ?_;refine aj (show ((cR (cls aV (i+1))).map ((λx:bb×Int=>x.2)∘λq=>(cB (aF aV+q.1),q.2)))=(cR (cls aV (i+1))).map (·.2) from rfl) ?_;refine aj (Bh ..) ?_;rfl
  have qj:∀q,q∈(dh aV).getD (i+1) []↔q∈cls aV (i+1):=λq=>by
   (refine aj (t4 JR ..) ?_;refine gj (nq ..) ?_);exact ⟨λh_=>h_.2,λh_=>⟨kr h_,h_⟩⟩
  refine aC (iY (b:=decide ((1:Int) < ((cls aV (i+1)).length:Nat))) (c9 (ju (ys:=[FR (aF aV) (cR (cls aV (i+1)))]) (mn H he H.m_count rfl) h0 hd (au (bM (bF (bF (pK (ah (j:=41) he (.cell (L_+15) "book") hf (hS1.get rfl))) (ah (j:=8) he (.cell (L_+7) "name") hf (hS1.get rfl)) (mh (gb d7 (by decide) zD))) aU tI) (congrArg (FR (aF aV)) (Bd (cW aV) (i+1)))) aT) (by refine aj (Ce ..) ?_;exact FW.mono (Hh (k:=k_+6) H) λy nu h_=>⟨h_.2.trans (congrArg V.int hsm),h_.1⟩)) aU GY) (λhc=>?many) λhc=>?few)
  case few=>
   have hc:=of_decide_eq_false hc;refine bC (bC ⟨_,F,rfl,hS1.sub ⟨rfl,rfl,rfl,rfl,rfl,rfl,rfl,rfl,rfl,rfl,rfl,rfl,trivial⟩,hF.to λc ud y=>⟨λh_=>⟨h_.1,by lia,h_.2.2⟩,λh_=>⟨h_.1,?_,h_.2.2⟩⟩⟩);refine Nat.lt_of_le_of_ne (by lia) λe=>?_;subst e;obtain ⟨p,hp⟩:∃p,∀q∈cls aV (i+1),q=p:=by
    match hcl:cls aV (i+1) with
    |[]=>exact ⟨0,λq hq=>eo hq⟩
    |[p]=>exact ⟨p,λq hq=>aA.mp hq⟩
    |a::b::l=>rw [hcl] at hc;simp at hc;lia
   have iP:=h_.2.2;refine aK iP λq hq w=>?_;clear iP;have hqp:=hp q ((qj q).mp hq);exact Pn qW h_.1 JR (p:=p) (by refine fZ (hqp ..) ?_;exact sg.lt _ _ hq) (λr hr=>hp r ((qj r).mp hr)) h_.2.2
  case many=>
   refine aC (jO (ctx:=[]) (xs:=(cR (cls aV (i+1))).map λq=>V.str (cB (aF aV+q.1))) (λj nu=>∃vs F,nu=z8 L_ xJ xe vT QC vs (aF aV) 5 h_ F fb/\Sv vs ((8,.str (cB (aF aV+(i+1))))::Ja aV gO y9 S_ xJ xe vT)/\NF F (λc' y=>(y≠0/\y < i+1/\Gq (dh aV) c' y)\/(y=i+1/\∃q∈(cR (cls aV (i+1))).take j,gI (dh aV) q.1 c'/\¬gI (dh aV) (h_ (i+1)) c'))) (pN (l:=cR (cls aV (i+1))) (f:=λq=>(cB (aF aV+q.1),V.int q.2)) (bM (bF (bF (pK (ah (j:=41) he (.cell (L_+15) "book") hf (hS1.get rfl))) (ah (j:=8) he (.cell (L_+7) "name") hf (hS1.get rfl)) (mh (gb d7 (by decide) zD))) aU tI) (congrArg (FR (aF aV)) (Bd (cW aV) (i+1))))) (by lia) ⟨_,F,rfl,hS1,hF.to λc w y=>⟨λh_=> .inl h_,λh_=>h_.resolve_right λh_=>by simp at h_⟩⟩ (λi nu h_ o ho=>(eo ho)) ?step2 ?fin2)
   case fin2=>
    intro nu kG;refine cC kG λvs F ma hS hF=>?_;clear kG;subst ma;refine bC (bC (bC ⟨_,F,rfl,hS.sub ⟨rfl,rfl,rfl,rfl,rfl,rfl,rfl,rfl,rfl,rfl,rfl,rfl,trivial⟩,hF.to λc ud y=>?_⟩));refine aj (ak ..) ?_;refine aj (cK ..) ?_;constructor
    ·rintro (⟨h1,h2,h3⟩|⟨rfl,q,hq,h1⟩)
     ·exact ⟨h1,by exact cI (by assumption),h3⟩
     ·have EN:=(qj q.1).mpr ((pZ _ _).mp (aG.mpr ⟨q,hq,rfl⟩));have h2:=((wj qW hh (lq i) JR EN).2 c ud).mp h1;exact ⟨lq i,by exact jf _,q.1,EN,h2⟩
    ·intro mE;refine GV mE λh1 h2 h3=>?_;clear mE;by_cases e:y=i+1
     ·subst e;refine aK h3 λp hp h4=>?_;clear h3;refine aK (aG.mp ((pZ _ _).mpr ((qj p).mp hp))) λq hq qY=>?_;subst qY;exact .inr ⟨rfl,q,hq,((wj qW hh (lq i) JR hp).2 c ud).mpr h4⟩
     ·exact .inl ⟨h1,by lia,h3⟩
   case step2=>
    intro j y nu hy uc;refine cC uc λvs F mO hS hF=>?_;clear uc;subst mO;rw [aI] at hy;refine aK (aL.mp hy) λq hq sk=>?_;subst sk;have hqh:=(qj q.1).mpr ((pZ _ _).mp (aG.mpr ⟨q,ao hq,rfl⟩));have Jm:=sg.lt _ _ hqh;have hzo:=hh (i+1) (lq i) JR;refine aQ (i:=0) (j:=24) he .loc rfl ?_;have hS2:Sv (vs.set 24 (ae (.str (cB (aF aV+q.1))))) ((24,.str (cB (aF aV+q.1)))::(8,.str (cB (aF aV+(i+1))))::Ja aV gO y9 S_ xJ xe vT):=hS.set (j:=24) (y:= .str (cB (aF aV+q.1)));refine aC (xS (λn nu=>∃vs F c,nu=z8 L_ xJ xe vT QC vs (aF aV) 5 h_ F fb/\Sv vs ((24,.str (cB (aF aV+c)))::(8,.str (cB (aF aV+(i+1))))::Ja aV gO y9 S_ xJ xe vT)/\c < 6/\gI (dh aV) q.1 c/\gI (dh aV) c (h_ (i+1))/\n=(eZ (S_ c)).length/\NF F (λc' y=>((y≠0/\y < i+1/\Gq (dh aV) c' y)\/(y=i+1/\∃q∈(cR (cls aV (i+1))).take j,gI (dh aV) q.1 c'/\¬gI (dh aV) (h_ (i+1)) c'))\/(y=i+1/\gI (dh aV) q.1 c'/\¬gI (dh aV) c c'))) (eZ (S_ q.1)).length ⟨_,F,q.1,rfl,hS2,Jm,gI.self,(wj qW hh (lq i) JR hqh).1,rfl,hF.to λc' w y=>⟨λh_=> .inl h_,λh_=>h_.resolve_right λh_=>h_.2.2 h_.2.1⟩⟩ ?_);intro n nu zj;refine qp zj λvs F c EO hS3 ud hqc hct MR hF=>?_;clear zj;subst EO;subst MR;refine PT.wt (c9 (ah (j:=24) he .loc hf (hS3.get rfl)) (bF (wF (ah (j:=33) he .loc hf (hS3.get rfl)) (ao (i:=1) rfl)) (ah (j:=8) he (.cell (L_+7) "name") hf (hS3.get rfl)) (mh (gb d7 Pp (Po _ JR (lq i))))) tx) ?_;by_cases PX:c=h_ (i+1)
    ·refine aj (show (cB (aF aV+c) != cB (aF aV+h_ (i+1)))=aH by rw [PX];simp) ?_;refine bC (bC ⟨_,F,rfl,hS3.sub ⟨rfl,rfl,rfl,rfl,rfl,rfl,rfl,rfl,rfl,rfl,rfl,rfl,rfl,trivial⟩,hF.to λc' zo y=>?_⟩);refine aj (lM hq ..) ?_;constructor
     ·rintro ((h1|⟨h1,r,h2,h3⟩)|⟨h1,h2,h3⟩)
      ·exact .inl h1
      ·exact .inr ⟨h1,r,aE _ h2,h3⟩
      ·exact .inr ⟨h1,q,bL _ (aA.mpr rfl),h2,by refine fZ (PX ..) ?_;exact h3⟩
     ·rintro (h1|⟨h1,r,h2,h3⟩)
      ·exact .inl (.inl h1)
      ·rcases bc.mp h2 with h4|h4
       ·exact .inl (.inr ⟨h1,r,h4,h3⟩)
       ·rw [aA] at h4;subst h4;exact .inr ⟨h1,h3.1,by refine aj (PX ..) ?_;exact h3.2⟩
    ·have iP:(cB (aF aV+c) != cB (aF aV+h_ (i+1)))=aJ:=by
      refine aj (show (cB (aF aV+c) != cB (aF aV+h_ (i+1)))=(c != h_ (i+1)) from congrArg not (rR d7 ud hzo.lt)) ?_;simpa using PX
     refine aj (iP ..) (NS (Gx qW hh ud hzo.lt hqc hct PX) λzC hhc s1 s2 s3=>?_);have Uj:∀y∈F c,y < 6:=λy hy=>by
      rcases (hF.iff c ud y).mp hy with (h1|h1)|h1 <;> lia
     have hl6:(F c).length<=6:=ez (hF.nd c ud) Uj;refine aC (qz (i:=2) (D:=xe) (x:=cB (aF aV+c)) (y:=Gu (aF aV) (JO F c (i+1) c)) (bM (br (dD (nE (F c) (λo=>V.str (cB (aF aV+o))) (λo=>cB (aF aV+o) != cB (aF aV+(i+1))) (λo=>V.str (cB (aF aV+o))) ⟨rfl,rfl,by decide+kernel,by decide+kernel⟩ (dA (bF (wF (ah (j:=44) he (.cell (L_+18) "noted") hf (hS3.get rfl)) (ao (i:=2) rfl)) (ah (j:=24) he .loc hf (hS3.get rfl)) (mh (gb d7 CT (aY.mpr ud))))) (by lia) (by exact aw (by assumption) (by decide)) (λC1 a ha=>iu 1 he.comp .loc (fS (c9 (ah (j:=1) he.comp .loc aa rfl) (ah (j:=8) he.comp (.cell (L_+7) "name") (ab _ hf) (hS3.get rfl)) tx)) (λhb=>(ah (j:=1) he.comp .loc aa rfl))))) (dD (ij (xs:=[.str (cB (aF aV+(i+1)))]) (au (ah (j:=8) he (.cell (L_+7) "name") hf (hS3.get rfl)) aT) (by show 1<=2 ^ 20;decide))) (uJ (by refine aj (ak ..) ?_;have:=bu (λo=>cB (aF aV+o) != cB (aF aV+(i+1))) (F c);show _+1<=_;lia))) ?ceq) (ah (j:=44) he (.cell (L_+18) "noted") hf (hS3.get rfl)) (ah (j:=24) he .loc hf (hS3.get rfl)) rfl (by show (bD (aF aV) (aN 6) _).length<=2 ^ 24;refine aj (KL ..) ?_;decide) ?_)
     case ceq=>refine congrArg V.list ?_;unfold JO;refine aj (if_pos rfl ..) ?_;refine aj (bj ..) ?_;congr 2;exact fz λo ho=>congrArg not (rR d7 (Uj o ho) JR)
     refine aj (Jf d7 ud ..) ?_;show WS (k_+8) (z8 L_ xJ xe vT QC vs (aF aV) 5 h_ (JO F c (i+1)) fb) _ _ _;refine aC (bX (bF (wF (ah (j:=33) he .loc hf (hS3.get rfl)) (ao (i:=1) rfl)) (ah (j:=24) he .loc hf (hS3.get rfl)) (mh (gb d7 Pp (Po _ ud zC)))) (aQ (i:=0) (j:=24) he .loc rfl ?_) rfl rfl);refine bC ⟨_,Bj hT hh ud zC,_,JO F c (i+1),h_ c,rfl,(hS3.set (j:=24) (y:= .str (cB (aF aV+h_ c)))).sub ⟨rfl,rfl,rfl,rfl,rfl,rfl,rfl,rfl,rfl,rfl,rfl,rfl,rfl,rfl,trivial⟩,hhc,s1,s2,rfl,(hF.up (c:=c) (z:=i+1)).to λc' zo y=>?_⟩;have:=s3 c' zo;constructor
     ·rintro ((h1|⟨h1,h2⟩)|⟨h1,h2⟩)
      ·exact .inl h1
      ·exact .inr ⟨h1,this.mpr (.inl h2)⟩
      ·exact .inr ⟨h1,this.mpr (.inr h2)⟩
     ·rintro (h1|⟨h1,h2⟩)
      ·exact .inl (.inl h1)
      ·rcases this.mp h2 with h3|h3
       ·exact .inl (.inr ⟨h1,h3⟩)
       ·exact .inr ⟨h1,h3⟩
end t7
theorem t7{pm doc:ai}:t7.S0 k mu Θ L Hm Nt cx dc lx ds n6 S h pm doc 0:=by with_unfolding_all exact Aq _ _ _ _ _ _ _ _ _ _ _ _ _ _ _ _ t7.S0 @t7.T0 k mu Θ L Hm Nt cx dc lx ds n6 S h pm doc 0
variable {W:ay}
noncomputable def setP(d b:Nat):Bool:=((b:Int) == 0) || (lZ ((d:Int) / 2 ^ ((b:Int) - 1).toNat) 1 != 0 || false)
noncomputable def cz(d:Nat):List Nat:=(aN 6).filter (setP d)
theorem shz{a:Nat}(h:((a:Int) == 0)=aH):0<=(a:Int) - 1:=by
 have:(a:Int)≠0:=by simpa using h
 lia
theorem Cu{d:Nat}:∀c∈cz d,c < 6:=λc hc=>aY.mp (bo.mp hc).1
theorem Pq(d:Nat):(cz d).Nodup:=lp.filter _
theorem Gy(d:Nat):0∈cz d:=bo.mpr ⟨by decide,rfl⟩
theorem nZ(d:Nat):(cz d).length<=6:=ez (Pq d) Cu
noncomputable abbrev S25(ds:List Nat)(n6:Nat)(lx:ay)(S h:Nat->Nat)(F:Nat->List Nat)(d:Nat):List (Nat×V):=(45,wV (cz d))::(44,.dict (qT (aF ds) F))::(33,.dict (qa (aF ds) 5 h))::S21 ds n6 lx S
noncomputable abbrev Pr(low:Nat)(l:List Nat):List V:=l.map λw=>V.str (cB (low+w))
theorem Sw(H:Hy G){pm doc:ai}(he:du (bT pm doc L)){d:Nat}(hlen:ds.length < 2 ^ 60)(h25:ds[25]? =ae d)(Ac:Sv vs (Ja ds n6 lx S Hm Nt cx))
 (next:∀vs W,Sv vs ((43,.ref W)::S25 ds n6 lx S h F d)->WS (k+8) (bl W (Pr (aF ds) (cz d))::cw L vs::mu) (bT pm doc L) (je 27) Θ):
 WS (k+8) (z8 L Hm Nt cx dc vs (aF ds) 5 h F mu) (bT pm doc L) (je 25) Θ:=by
 have d7:=eI ds;have hf:∀{vs} {l:Mu},bq L (aM (L+1) (bk (cN 23)).names) vs∈cw L vs::l:=aa;refine WF.frzD (j:=33) (Ac.get rfl) ?_;have hSa:=Ac.set (j:=33) (y:= .dict (qa (aF ds) 5 h));refine WF.frzD (j:=44) (hSa.get rfl) (WF.to [1] (WF.drop1 ?_));have hSb:Sv _ ((44,.dict (qT (aF ds) F))::(33,.dict (qa (aF ds) 5 h))::S21 ds n6 lx S):=(hSa.set (j:=44) (y:= .dict (qT (aF ds) F))).sub ⟨rfl,rfl,rfl,rfl,rfl,rfl,rfl,rfl,rfl,rfl,rfl,trivial⟩;generalize (vs.set 33 (ae (.dict (qa (aF ds) 5 h)))).set 44 (ae (.dict (qT (aF ds) F)))=NB at hSb ⊢;show WS (k+8) (cw L NB::mu) (bT pm doc L) (je 25) Θ;refine aC (bX (y:=wV (cz d)) (nE (aN 6) nV (setP d) nV ⟨rfl,rfl,by decide+kernel,by decide+kernel⟩ (fK (n:=6) (iN H he H.b_range rfl) aU rfl (by decide)) (by lia) (by decide) (λC1 a ha=>iu 1 he.comp .loc (fS (oK (iM (c9 (ah (j:=1) he.comp .loc aa rfl) aU qr) (λhz=>iM (kU (br (br (bF (dD (ah (j:=4) he.comp (.cell (L+3) "draws") (ab _ hf) (hSb.get rfl))) aU (ew (j:=25) (inj:=nV) h25 hlen)) (br (ah (j:=1) he.comp .loc aa rfl) aU vH) (Hc (shz hz))) aU qq) xP) (λz=>jn))))) (λz=>(ah (j:=1) he.comp .loc aa rfl)))) (aQ (i:=0) (j:=45) he (.cell (L+19) "settings") rfl ?_) rfl rfl);have hSc:=hSb.set (j:=45) (y:=wV (cz d));refine aC (b4 (Ru (cz d) nV (λb=>V.str (cB (aF ds+b))) ⟨rfl,rfl,by decide+kernel,by decide+kernel⟩ (dA (ah (j:=45) he (.cell (L+19) "settings") hf (hSc.get rfl))) (by lia) (aw (nZ d) (by decide)) (λC2 a ha=>iu 1 he.comp .loc dk (λz=>(bF (dD (ah (j:=7) he.comp (.cell (L+6) "names") (ab _ hf) (hSc.get rfl))) (ah (j:=1) he.comp .loc aa rfl) (ew (j:=a) (inj:=λb=>V.str (cB (aF ds+b))) (bA (Cu a ha)) (by decide))))) (λW=>fL.ref (aQ (i:=1) (j:=43) he (.cell (L+17) "line") rfl ?_))) rfl rfl);exact next _ W (hSc.set (j:=43) (y:= .ref W))
variable {ws:List Nat}
section
variable {sets:List Nat}{m i w:Nat}
noncomputable def Jg(n0:Nat)(F:Nat->List Nat)(s:Unit)(ws:List Nat)(w:Nat):Unit×List Nat:=(s,(F w).filter λz=>!decide (z∈ws.drop n0))
structure RJ(hs:List (List Nat))(sets:List Nat)(F:Nat->List Nat)(m i:Nat)(ws:List Nat)(_:Unit):Prop where
 pre:ws.take sets.length=sets
 nd:(ws.drop sets.length).Nodup
 lt:∀c∈ws,c < 6
 pl:∀c∈ws.drop sets.length,iB hs sets c
 clo:∀j x,j < i->ws[j]? =ae x->∀z∈F x,z∈ws.drop sets.length
 le:i<=ws.length
 ms:m=(6 - (ws.drop sets.length).length)+(ws.length - i)
theorem RJ.start(h6:∀c∈sets,c < 6):RJ hs sets F (6+sets.length) 0 sets () where
 pre:=cK
 nd:=by refine aj (ow ..) ?_;exact kQ
 lt:=h6
 pl:=by refine aj (ow ..) ?_;exact λc hc=>eo hc
 clo:=λj x hj=>absurd hj (GS _)
 le:=gp _
 ms:=by refine aj (ow ..) ?_;rfl
theorem RJ.hl(h:RJ hs sets F m i ws ()):sets.length<=ws.length:=by have:=congrArg kM h.pre;rw [dR] at this;lia
theorem RJ.dl(h:RJ hs sets F m i ws ()):(ws.drop sets.length).length<=6:=ez h.nd λc hc=>h.lt c (gn hc)
theorem RJ.mem(h:RJ hs sets F m i ws ()){x:Nat}(hx:x∈ws):zA hs sets x:=by rw [<- oo sets.length ws,bc,h.pre] at hx;exact hx.imp id (h.pl x)
def RJ.step.S0(hs:List (List Nat))(sets:List Nat)(F:Nat->List Nat)(w:Nat)(ws:List Nat)(_:Nat):Prop:=∀{m i:Nat} (hF:NF F (λc z=>z≠0/\z < 6/\Gq hs c z)) (h:RJ hs sets F m i ws ()) (hw:ws[i]? =ae w),∃m',m' < m/\RJ hs sets F m' (i+1) (ws++(Jg sets.length F () ws w).2) ()
namespace RJ.step
@[irreducible] def e0:=Fl gD gD inferInstance eO gD eO S0
def kE:=e0.1
def u5:=e0.2.1
def F_:=e0.2.2.1
def w_:=e0.2.2.2.1
def qH:=e0.2.2.2.2.1
theorem T0:S0 kE u5 F_ w_ qH e0.2.2.2.2.2:=by
 intro m i hF h hw;have hi:i < qH.length:=(aB.mp hw).1;have hwm:=ao hw;have PU:=h.lt w_ hwm;have Um:∀o:List Nat,(qH++o).drop u5.length=qH.drop u5.length++o:=λo=>gq h.hl;have ho:∀z∈(Jg u5.length F_ () qH w_).2,z∈F_ w_/\z∉qH.drop u5.length:=λz hz=>by
  have:=bo.mp hz;exact ⟨this.1,by simpa using this.2⟩
 have hnd:(qH.drop u5.length++(Jg u5.length F_ () qH w_).2).Nodup:=by exact gj (bP ..) (⟨h.nd,(hF.nd w_ PU).filter _,λa ha b hb e=>(ho b hb).2 (e▸ha)⟩)
 have hlt:∀c∈qH++(Jg u5.length F_ () qH w_).2,c < 6:=λc hc=>by
  rcases bc.mp hc with h1|h1
  ·exact h.lt c h1
  ·exact ((hF.iff w_ PU c).mp (ho c h1).1).2.1
 have hd6:=ez hnd λc hc=>hlt c (by
  rcases bc.mp hc with h1|h1
  ·exact aE _ (gn h1)
  ·exact bL _ h1)
 rw [ba] at hd6;refine ⟨m - 1,?_,?_,?_,hlt,?_,?_,?_,?_⟩
 ·have:=h.ms;lia
 ·refine aj (Fj h.hl ..) ?_;exact h.pre
 ·refine aj (Um ..) ?_;exact hnd
 ·refine aj (Um ..) ?_;intro c hc;rcases bc.mp hc with h1|h1
  ·exact h.pl c h1
  ·exact iB.of (h.mem hwm) ((hF.iff w_ PU c).mp (ho c h1).1).2.2
 ·refine aj (Um ..) ?_;intro j x hj hx z hz;rcases gX j i with h1|h1
  ·rw [eE (by exact CO (by assumption) (by assumption))] at hx;exact aE _ (h.clo j x h1 hx z hz)
  ·have:j=i:=by lia
   subst this;rw [eE hi,hw] at hx
   (have lA:=aO hx;clear hx;subst lA)
   by_cases hm:z∈qH.drop u5.length
   ·exact aE _ hm
   ·exact bL _ (bo.mpr ⟨hz,by simpa using hm⟩)
 ·refine aj (ba ..) ?_;lia
 ·(refine aj (Um ..) ?_;refine aj (ba ..) ?_;refine aj (ba ..) ?_)
  have:=h.ms;lia
end RJ.step
theorem RJ.step:RJ.step.S0 hs sets F w ws 0:=by with_unfolding_all exact uA _ _ _ _ _ _ RJ.step.S0 @RJ.step.T0 hs sets F w ws 0
structure t8(hs:List (List Nat))(sets ws:List Nat):Prop where
 pre:ws.take sets.length=sets
 lt:∀c∈ws,c < 6
 len:ws.length<=12
 iff:∀z,z∈ws.drop sets.length↔iB hs sets z
theorem t8.mem(h:t8 hs sets ws)(x:Nat):x∈ws↔zA hs sets x:=by
 conv=>lhs;rw [<- oo sets.length ws,bc,h.pre]
 exact or_congr Iff.rfl (h.iff x)
theorem RJ.fin(hF:NF F (λc z=>z≠0/\z < 6/\Gq hs c z))(H0:hs.getD 0 []=[])(H6:hs.length=6)(hs6:sets.length<=6)(h:RJ hs sets F m ws.length ws ()):t8 hs sets ws where
 pre:=h.pre
 lt:=h.lt
 len:=by have h1:=h.dl;rw [fY] at h1;lia
 iff:=λz=>by
  have key:∀{x z},x∈ws->Gq hs x z->z∈ws.drop sets.length:=λ{x z} hx hf=>by
   refine cJ (iq.mp hx) λj hj=>h.clo j x (aB.mp hj).1 hj z ((hF.iff x (h.lt x hx) z).mpr ⟨?_,?_,hf⟩)
   ·rintro rfl;refine aK hf λp hp y=>?_;clear hf;rw [H0] at hp;exact eo hp
   ·refine aK hf λp hp y=>?_;clear hf;refine uw λhz=>?_;rw [bR,il (by lia)] at hp;exact eo hp
  refine ⟨h.pl z,λhp=>?_⟩;induction hp with
  |set hx hf=>refine key ?_ hf;rw [<- h.pre] at hx;exact pz hx
  |next _ hf ih=>exact key (gn ih) hf
end
theorem Bl{α:Type}{as:List α}{n:Nat}(hn:n<=as.length):jq as (ae (n:Int)) av av=as.drop n:=by
 have e:c7 (ae (n:Int)) av av as.length=(((n:Nat):Int),((n+(as.length - n):Nat):Int),1):=by unfold c7;simp;lia
 unfold jq;refine aj (e ..) ?_;simp only;refine aj (pR ..) ?_;refine aj (pS ..) ?_;refine aj (d6 (by rw [fY];exact bp _) ..) ?_;rfl
variable {fd:ay}{d:Nat}{cs:List Nat}
noncomputable def HK:bH:=Qy ((fR (cN 23)).getD 27 (.Pass ⟨0,0,0,0⟩))
noncomputable abbrev tr(L c:ay)(ct:ai):cg:=yp lz (exA HK) (exB HK) (exS HK) [("settings",L+19),("noted",L+18),("line",L+17)] c ct
theorem Cv{low:Nat}(hl:low < 28){l:List Nat}(h6:∀c∈l,c < 6){o:Nat}(ho:o < 6):((l.map λw=>cB (low+w)).any (· == cB (low+o)))=decide (o∈l):=by
 refine gj (cm ..) ?_;refine gj (cS ..) ?_;refine aj (decide_eq_true_eq ..) ?_;constructor
 ·intro dO;refine aK dO λz h1 h2=>?_;clear dO;refine aK (aG.mp h1) λb hb eU=>?_;subst eU;have:=(wR hl (h6 b hb) ho).mp (by simpa using h2);exact this▸hb
 ·intro h;exact ⟨_,aG.mpr ⟨o,h,rfl⟩,by simp⟩
theorem MD(H:Hy G){c':ay}{ct:ai}{m i:Nat}{ws:List Nat}{w c0:Nat}{tb:List zS}(hS:Sv vs ((43,.ref W)::S25 ds n6 lx S h F d))(hF:NF F (λc z=>z≠0/\z < 6/\Gq (dh ds) c z))(hJ:RJ (dh ds) (cz d) F m i ws ())(hw:ws[i]? =ae w)
 (h1:cw L vs∈mu) (h2:mj fd (ei (tr L c' ct) av)∈mu) (h3:gG 304 tb∈mu) (hq:(298,c0,c',lz)∈tb) (h4:bl W (Pr (aF ds) ws)∈mu):
 FW (k+5) mu (.ref fd) [.str (cB (aF ds+w))] λy nu=>y= .list ((Jg (cz d).length F () ws w).2.map λw=>V.str (cB (aF ds+w)))/\nu=mu:=by
 have d7:=eI ds;have CT:∀c∈aN 6,c < 6:=λc hc=>aY.mp hc;refine FI H.B (names:=["name"]) (vals':=λx=>[ae (.str (cB (aF ds+w)))]) (Kn.obj h2) rfl (Kn.code h3 hq) rfl (λvs h=>?_) (by show (aM 0 (exS HK).names).nd;decide+kernel) (λL=>⟨rfl,rfl,rfl⟩) (λL2=>?_) (λL2=>?_)
 ·exact uM h λa=>rfl
 ·exact .cons (j:=0) .loc rfl .nil
 have he:du (dT (tr L c' ct) fd L2):=⟨rfl,rfl,rfl⟩;have PU:=hJ.lt w (ao hw);have hl6:(F w).length<=6:=ez (hF.nd w PU) λy hy=>((hF.iff w PU y).mp hy).2.1;have hwl:ws.length<=12:=by have:=hJ.dl;have h2:=nZ d;rw [fY] at this;lia
 have Fc:(Pr (aF ds) ws).drop (cz d).length=((ws.drop (cz d).length).map λw=>cB (aF ds+w)).map .str:=by (refine aj (a0 ..) ?_;refine aj (Nm ..) ?_);rfl
 refine cf (bM (nE (F w) (λo=>V.str (cB (aF ds+o))) (λo=>!((ws.drop (cz d).length).map λw=>cB (aF ds+w)).any (· == cB (aF ds+o))) (λo=>V.str (cB (aF ds+o))) ⟨rfl,rfl,by decide+kernel,by decide+kernel⟩ (dA (bF (pK (ah (j:=44) (L:=L) (lay:=aM (L+1) (bk (cN 23)).names) he (.free (L+18) "noted" rfl rfl rfl rfl rfl) (ab _ h1) (hS.get rfl))) (ah (j:=0) he .loc aa rfl) (mh (gb d7 CT (aY.mpr PU))))) (by lia) (by exact aw (by assumption) (by decide)) (λC1 a ha=>iu 1 he.comp .loc (fS (c9 (ah (j:=1) he.comp .loc aa rfl) (dD (bM (bF (uD (ah (j:=43) (L:=L) (lay:=aM (L+1) (bk (cN 23)).names) he.comp (.free (L+17) "line" rfl rfl rfl rfl rfl) (ab _ (ab _ h1)) (hS.get rfl)) (ab _ (ab _ h4))) (jo (eQ (ek (j4 H he.comp H.b_len rfl) (au (dD (ah (j:=45) (L:=L) (lay:=aM (L+1) (bk (cN 23)).names) he.comp (.free (L+19) "settings" rfl rfl rfl rfl rfl) (ab _ (ab _ h1)) (hS.get rfl))) aT) (mi (by refine aj (ak ..) ?_;exact aw (nZ d) (by decide))))) dM dM) (pd (λh=>by exact gK h) (by refine aj (ak ..) ?_;exact aw (by assumption) (by decide)))) (by (refine aj (Bl (by rw [ak,ak];exact hJ.hl) ..) ?_;refine aj (ak ..) ?_;refine aj (Fc ..) ?_;rfl)))) BN)) (λx=>(ah (j:=1) he.comp .loc aa rfl)))) ?eq) (jK.tail (jK.keep ⟨rfl,rfl⟩))
 case eq=>refine congrArg V.list (congrArg _ (fz λo ho=>?_));have ho6:=((hF.iff w PU o).mp ho).2.1;exact congrArg not (Cv d7 (λc hc=>hJ.lt c (gn hc)) ho6)
noncomputable abbrev S27(ds:List Nat)(n6:Nat)(lx:ay)(S h:Nat->Nat)(F:Nat->List Nat)(d:Nat)(ws:List Nat):List (Nat×V):=(43,.list (Pr (aF ds) ws))::S25 ds n6 lx S h F d
noncomputable abbrev QD(P:ib)(N:Int)(cs:List Nat)(L fd:ay)(MW:cg)(tb:List zS)(vs:d9)(mu:Mu)(_:Unit):Mu:=mj fd (ei MW av)::cw L vs::((j6 P [] N cs).drop 1++(gG 304 tb::mu))
def t9.S0(k:Nat)(mu:Mu)(vs:d9)(Θ:AF->Mu->Prop)(L W:ay)(ds:List Nat)(n6 d:Nat)(cs:List Nat)(pm doc:ai)(P:ib)(N:Int)(c0:ay)(_:Nat):Prop:=∀{K:fl} {S h:Nat->Nat} {F:Nat->List Nat} (H:Hy G) (LH:fM G K) (BH:yw K) (LL:Sp G) (he:du (bT pm doc L)) (PO:mU P) (hS:Sv vs ((43,.ref W)::S25 ds n6 P.lx S h F d)) (hR:ph ds n6 18 cs) (hF:NF F (λc z=>z≠0/\z < 6/\Gq (dh ds) c z)) (next:∀vs cs' ws c',Sv vs (S27 ds n6 P.lx S h F d ws)->ph ds n6 19 cs'->t8 (dh ds) (cz d) ws->WS (k+8) (cw L vs::(j6 P [] N cs'++(gG 304 [(273,49,c0,lz),(298,40,c',lz)]::mu))) (bT pm doc L) (je 28) Θ),WS (k+8) (bl W (Pr (aF ds) (cz d))::cw L vs::(j6 P [] N cs++(gG 304 [(273,49,c0,lz)]::mu))) (bT pm doc L) (je 27) Θ
namespace t9
@[irreducible] def e0:=Fm eO gD gD s7 cL cL gD eO eO gD gL gL IP Q0 cL eO S0
def k_:=e0.1
def fb:=e0.2.1
def kR:=e0.2.2.1
def Θ_:=e0.2.2.2.1
def L_:=e0.2.2.2.2.1
def W_:=e0.2.2.2.2.2.1
def aV:=e0.2.2.2.2.2.2.1
def gO:=e0.2.2.2.2.2.2.2.1
def d_:=e0.2.2.2.2.2.2.2.2.1
def qM:=e0.2.2.2.2.2.2.2.2.2.1
def pg:=e0.2.2.2.2.2.2.2.2.2.2.1
def g8:=e0.2.2.2.2.2.2.2.2.2.2.2.1
def P_:=e0.2.2.2.2.2.2.2.2.2.2.2.2.1
def N_:=e0.2.2.2.2.2.2.2.2.2.2.2.2.2.1
def Sx:=e0.2.2.2.2.2.2.2.2.2.2.2.2.2.2.1
theorem T0:S0 k_ fb kR Θ_ L_ W_ aV gO d_ qM pg g8 P_ N_ Sx e0.2.2.2.2.2.2.2.2.2.2.2.2.2.2.2:=by
 intro K S h F H LH BH LL he PO hS hR hF next
 have hf:∀{kR} {l:Mu} {a:cX},bq L_ (aM (L_+1) (bk (cN 23)).names) kR∈a::cw L_ kR::l:=ab _ aa;refine cq (H.f297.go) λob2 z z z r0 rd z=>aK (hR.tok OV) λcs' ht S6=>aC (xR (Mv (HD (ml (mn H he H.m_run rfl) r0 rd (cA (cf (ah (j:=21) he (.cell (L_+11) "lexer") hf (hS.get rfl)) (cA (cf (ah (j:=43) he (.cell (L_+17) "line") hf (hS.get rfl)) (cA (cf cO (cA (Ca (i:=9) he rfl LL.la H.B rfl rfl rfl rfl λfd c' ct=>e9 ?_))))))))))));have h00:(dh aV).getD 0 []=[]:=by
  refine aj (t4 (by decide) ..) (E5.mpr λc hc=>?_);refine aK (aG.mp ((nq _ _ _).mp hc).2) λq hq z=>?_;have h1:=bo.mp hq;have h2:=(qQ q h1.1).2.1;have h3:q.2=0:=by simpa using h1.2
  lia
 show FW (k_+8) (mj fd (ei (tr L_ c' ct) av)::bl W_ (Pr (aF aV) (cz d_))::cw L_ kR::(j6 P_ [] N_ qM++(gG 304 [(273,49,Sx,lz),(298,40,c',lz)]::fb))) (.ref 297) [.ref P_.lx,.ref W_,.str "end",.ref fd] _;refine FW.to [1,2] ?_;show FW (k_+8) (bl W_ ((cz d_).map λb=>V.str (cB (aF aV+b)))::bl P_.pb []::QD P_ N_ qM L_ fd (tr L_ c' ct) [(273,49,Sx,lz),(298,40,c',lz)] kR fb ()) (.ref 297) [.ref P_.lx,.ref W_,.str "end",.ref fd] _;have RH:rU (k_+4) (λb=>cB (aF aV+b)) P_.lx P_.dx P_.pb W_ fd (th (N_ - (qM.count 10:Nat)) (.ref P_.f) P_.pb) (ei (tr L_ c' ct) av) (tr L_ c' ct) (QD P_ N_ qM L_ fd (tr L_ c' ct) [(273,49,Sx,lz),(298,40,c',lz)] kR fb) (Jg (cz d_).length F) (RJ (dh aV) (cz d_) F) (λc nu ws S=>c="end"/\nu=j6 P_ [] N_ cs'++(bl W_ (ws.map λb=>V.str (cB (aF aV+b)))::mj fd (ei (tr L_ c' ct) av)::cw L_ kR::gG 304 [(273,49,Sx,lz),(298,40,c',lz)]::fb)):=⟨
  λS=>ao (i:=2) rfl,
  nM _ _ _,
  ab _ (ab _ (ab _ aa)),
  yM _ _ _,
  by show ("push_token":bb)∉(["lineno","instream","whitespace","pushback"]:List bb);decide,
  rfl,
  λS ws q=>Kn.obj (ao (i:=2) rfl),
  λm i ws S h=>⟨by have h1:=h.dl;have h2:=nZ d_;rw [fY] at h1;lia,h.le⟩,
  λm i ws S w h hw=>((MD (k:=k_+2) H hS hF h hw (ao (i:=3) rfl) (ao (i:=2) rfl) (ao (i:=10) rfl) (ab _ aa) (ao (i:=0) rfl)).mono λy nu e=>⟨e.1,by (refine aj (e.2 ..) ?_;rfl)⟩),
  λm i ws S w h hw=>h.step hF hw,
  λm ws S h=>by
   refine FW.to [1,3,3,3,3,3,3] (FW.mono (FW.app (bl W_ (ws.map λb=>V.str (cB (aF aV+b)))::mj fd (ei (tr L_ c' ct) av)::cw L_ kR::gG 304 [(273,49,Sx,lz),(298,40,c',lz)]::fb) (xF (k:=k_+2) H LH BH PO ht hR.len)) λy nu he=>?_);refine eg he λnu' e1 e2 e3=>?_;clear he;subst e1 e3;exact ⟨"end",by (refine aj (e2 ..) ?_;refine aj (Ci ..) ?_;rfl),rfl,rfl⟩⟩
 refine Qm (k:=k_+4) H LH RH (RJ.start Cu) λm ws S c nu hJ hf=>dU hf λe2 e3=>?_;clear hf;subst e2 e3;refine ⟨aJ,by rfl,?_⟩;show WS (k_+8) _ (bT pg g8 L_) [] _;refine bC ?_;show WS (k_+8) (j6 P_ [] N_ cs'++(bl W_ (Pr (aF aV) ws)::mj fd (ei (tr L_ c' ct) av)::cw L_ kR::gG 304 [(273,49,Sx,lz),(298,40,c',lz)]::fb)) (bT pg g8 L_) (je 28) Θ_;refine WF.to [8] (WF.drop1 (WF.to [8,7] (WF.frzL (j:=43) (hS.get rfl) ?_)));exact next _ cs' ws c' ((hS.set (j:=43) (y:= .list (Pr (aF aV) ws))).sub ⟨rfl,rfl,rfl,rfl,rfl,rfl,rfl,rfl,rfl,rfl,rfl,rfl,rfl,trivial⟩) S6 (hJ.fin hF h00 (by rfl) (nZ d_))
end t9
theorem t9{pm doc:ai}{P:ib}{N:Int}{c0:ay}:t9.S0 k mu vs Θ L W ds n6 d cs pm doc P N c0 0:=by with_unfolding_all exact Aq _ _ _ _ _ _ _ _ _ _ _ _ _ _ _ _ t9.S0 @t9.T0 k mu vs Θ L W ds n6 d cs pm doc P N c0 0
section
variable {S:List Nat}{W:List (List Nat)}{v:Nat}
noncomputable def HL(one other:List Nat):Bool:=((one.filter λhere=>decide (here∈other)).map λz=>V.int 1).isEmpty
noncomputable def rk(W:List (List Nat)):List V:=W.zipIdx.flatMap λq=>((W.take q.2).filter (HL q.1)).map λz=>V.int 1
theorem EI{u w:List Nat}:HL u w=aJ↔Sm u w:=by delta HL Sm;refine gj (um ..) ?_;refine gj (jc ..) ?_;refine gj (gY ..) ?_;simp
theorem Pu:(!(rk W).isEmpty)=aJ↔∃(i j:Nat) (u w:List Nat),j < i/\W[i]? =ae u/\W[j]? =ae w/\Sm u w:=by
 have e:(!(rk W).isEmpty)=aJ↔∃x,x∈rk W:=by
  cases h:rk W with
  |nil=>simp
  |cons a l=>simp
 refine gj (e ..) ?_;delta rk;constructor
 ·intro dO;refine cJ dO λx hx=>?_;clear dO;refine aK (bG.mp hx) λq hq h=>aK (aG.mp h) λw hw z=>dU (bo.mp hw) λh1 h2=>cJ (iq.mp h1) λj hj=>?_;have PP:=qi.mp hq;have Ue:j < q.2:=by
   have:=(aB.mp hj).1;rw [dR] at this;omega
  rw [Nq Ue] at hj;exact ⟨q.2,j,q.1,w,Ue,PP,hj,EI.mp h2⟩
 ·intro eU;refine tw eU λi j u w Ue hi hj hs=>?_;clear eU;exact ⟨V.int 1,bG.mpr ⟨(u,i),qi.mpr hi,aG.mpr ⟨w,bo.mpr ⟨iq.mpr ⟨j,by refine aj (Nq Ue ..) ?_;exact hj⟩,EI.mpr hs⟩,rfl⟩⟩⟩
theorem Bm{P:Nat->Prop}:∀{w:List Nat},(∃c∈w,P c)->∃u y t,w=u++y::t/\P y/\∀c∈u,¬P c
 |[],h=>by obtain ⟨c,hc,_⟩:=h;exact eo hc
 |a::w,h=>by
  by_cases ha:P a
  ·exact ⟨[],a,w,rfl,ha,λc hc=>eo hc⟩
  ·obtain ⟨u,y,t,e,h1,h2⟩:=Bm (w:=w) (by
    refine aK h λc hc hp=>?_;rcases aP.mp hc with q|q
    ·exact absurd (q▸hp) ha
    ·exact ⟨c,q,hp⟩)
   exact ⟨a::u,y,t,by refine aj (e ..) ?_;rfl,h1,λc hc=>by
    rcases aP.mp hc with q|q
    ·refine aj (q ..) ?_;exact ha
    ·exact h2 c q⟩
structure Gr6(hs:List (List Nat)):Prop where
 ok:zU hs
 z:hs.getD 0 []=[]
 hr:∀y,y≠0->y < 6->∃w,vX hs y [0] w
theorem EJ(g:Gr6 hs)(hn:¬iB hs S b)(nv:I8 hs S b v){w:List Nat}(hw:vX hs b S w):v∈w:=by refine aK (hw.2) λd hd hdS=>cE (Bm (P:=zA hs S) ⟨d,df hd,.inl hdS⟩) λu y t e h1 h2=>?_;have hb:=hw.1.back;rw [e,show u++y::t=(u++[y])++t by simp,ej.append] at hb;have:=tq g.hr g.ok.lt hn nv hb.1 h1 h2;refine aj (e ..) ?_;refine fZ (this ..) ?_;exact bL _ aa
theorem ME(g:Gr6 hs)(h0:0∈S)(zl:b≠0)(Ab:b < 6)(nv:I8 hs S b v)(hW:∀w,w∈W↔vX hs b S w):(!(rk W).isEmpty)=aJ↔iB hs S b:=by
 refine gj (Pu ..) ?_;constructor
 ·intro gi;refine tw gi λi j u w y hi hj hs=>?_;clear gi;exact bO λhn=>hs v (EJ g hn nv ((hW u).mp (ao hi))) (EJ g hn nv ((hW w).mp (ao hj)))
 ·intro hp;refine cC (nW h0 g.z g.ok.lt g.hr hp zl Ab) λu w hu hw hs=>cJ (iq.mp ((hW u).mpr hu)) λi hi=>cJ (iq.mp ((hW w).mpr hw)) λj hj=>?_;rcases sM i j with h|h|h
  ·exact ⟨j,i,w,u,h,hj,hi,λz hz MP=>hs z MP hz⟩
  ·subst h;rw [hi] at hj
   (have lA:=aO hj;clear hj;subst lA)
   exact aK (hu.2) λd hd y=>absurd (df hd) (hs d (df hd))
  ·exact ⟨i,j,u,w,h,hi,hj,hs⟩
theorem Pv{marks w:List Nat}(h:BW hs b marks w):∀u y,w=u++[y]->∀c∈u,c∉marks:=by
 induction h with
 |one _=>
  intro u y e c hc;cases u with
  |nil=>exact eo hc
  |cons a t=>simp at e
 |@ext w c d hw hl hm _ _ _ ih=>
  intro u y e a ha;have hu:u=w:=((List.append_inj' e rfl).1).symm;subst hu;refine cJ (JU.mp hl) λt ht=>?_;rw [ht] at ha;rcases bc.mp ha with h1|h1
  ·exact ih t c ht a h1
  ·refine aj (aA.mp h1 ..) ?_;exact hm
noncomputable def ks(w:List Nat):Nat:=w.getLast?.getD 0
theorem MF(g:Gr6 hs)(h0:0∈S)(nv:I8 hs S b v){Te:List Nat}(hm:∀x,x∈Te↔zA hs S x)(hW:∀w,w∈W↔vX hs b Te w):(!(W.filter λw=>ks w != v).isEmpty)=aJ↔iB hs S b:=by
 have e:(!(W.filter λw=>ks w != v).isEmpty)=aJ↔∃w∈W,ks w≠v:=by
  refine aj (CA ..) ?_;refine fZ (Bool.not_eq_true ..) ?_;refine gj (um ..) ?_;refine gj (gY ..) ?_;constructor
  ·intro h;apply bO;intro hn;exact h λw hw=>by
    have:¬ks w≠v:=λq=>hn ⟨w,hw,q⟩;simpa using this
  ·intro iC h;refine aK iC λw hw h1=>?_;clear iC;exact h w hw (by simpa using h1)
 refine gj (e ..) ?_;constructor
 ·intro kG;refine aK kG λw hw hl=>?_;clear kG;refine mH ((hW w).mp hw) λM0 y hy hym=>cJ (JU.mp hy) λu ma=>?_;subst ma;refine bO λhn=>hl ?_;have:=tq g.hr g.ok.lt hn nv M0.back ((hm y).mp hym) λc hc h=>Pv M0 u y rfl c hc ((hm c).mpr h);delta ks;(refine aj (hy ..) ?_;refine aj (this ..) ?_);rfl
 ·intro hp;refine ir (kq h0 g.ok.lt g.hr hp) λw y hw hy wo hu=>eg (k0 (marks:=Te) hw ⟨y,by simp,(hm y).mpr hy⟩) λu M0 mE qZ=>aK mE λc hc JP=>?_;clear mE;have hcy:c=y:=by
   rcases bc.mp (qZ c (df hc)) with h|h
   ·exact absurd ((hm c).mp JP) (hu c h)
   ·exact aA.mp h
  subst hcy;refine ⟨u,(hW u).mpr ⟨M0,c,hc,JP⟩,?_⟩;delta ks;refine aj (hc ..) ?_;rintro rfl;exact wo nv.sd
theorem Bn{α β:Type}(W:List β):∀(l:List α) (s:Nat),2*((l.zipIdx s).flatMap λq=>W.take q.2).length<=l.length*(2*s+l.length)
 |[],s=>by exact gp _
 |a::l,s=>by
  have ih:=Bn W l (s+1);refine aj (ox ..) ?_;refine aj (dF ..) ?_;refine aj (ba ..) ?_;refine aj (dR ..) ?_;refine aj (bK ..) ?_;have e:l.length*(2*(s+1)+l.length)=l.length*(2*s+(l.length+1))+l.length:=by refine aj (show 2*(s+1)+l.length=(2*s+(l.length+1))+1 by lia) ?_;refine aj (Nat.mul_succ ..) ?_;rfl
  rw [e] at ih;refine aj (iS ..) ?_;refine aj (xr ..) ?_;generalize l.length*(2*s+(l.length+1))=q at ih ⊢;lia
end
section
variable {scope:eN}{C:ay}{v x:V}{p p1 p2 p3:jB}
theorem Sy{β:Type}{di:gP}{t u w:bb}{elt fc:bH}{oa:List bH}{bs:List β}{inj:β->V}{pp:β->Bool}{g:β->V}{kk:Nat}(i j l:Nat)(he:du di)(s1:Sl di C (aM (C+1) scope.names) t i)(s2:Sl di C (aM (C+1) scope.names) w j)(s3:Sl di C (aM (C+1) scope.names) u l)(hl:(((nones (aM (C+1) scope.names)).set i (ae v)).set j (ae x))[l]? =ae av)
 (src:o8 k (Rt scope C i j v x::mu) di fc (.Name u p2) [] (bs.map inj)) (h:∀b∈bs,w0 k (nD scope C ((((nones (aM (C+1) scope.names)).set i (ae v)).set j (ae x)).set l (ae (inj b)))::mu) di oa (pp b)/\(pp b=aJ->PE k (nD scope C ((((nones (aM (C+1) scope.names)).set i (ae v)).set j (ae x)).set l (ae (inj b)))::mu) di elt (g b)))
 (hf:autoParam ((di.kindOf t == ae .free)=aH) aR) (hf':autoParam ((di.kindOf u == ae .free)=aH) aR) (hf'':autoParam ((di.kindOf w == ae .free)=aH) aR):Az k mu scope C di (.Tuple [.Name t p1,.Name w p3] kk p) elt fc (.Name u p2) oa (.tup [v,x]) bs inj pp g:=
 ⟨_,[],xB he s1 s2 hf hf'',src,(λz h=>eo h),λb hb=>⟨_,qx he s3 hf',(h b hb).1,(h b hb).2,Le.unset hl⟩⟩
end
theorem Jh{α:Type}{as:List α}{n:Nat}(hn:n<=as.length):jq as av (ae (n:Int)) av=as.take n:=by
 have e:c7 av (ae (n:Int)) av as.length=(((0:Nat):Int),((0+n:Nat):Int),1):=by unfold c7;simp;lia
 unfold jq;refine aj (e ..) ?_;simp only;refine aj (pR ..) ?_;refine aj (pS ..) ?_;refine aj (fy ..) ?_;rfl
theorem Ji{xs:List V}(h:∀x∈xs,x=V.int 1):(pf xs).isSome=aJ:=by
 have e:xs=xs.map λz=>V.int 1:=by
  conv=>lhs;rw [<- xw xs]
  exact b5 h
 rw [e];exact nj xs λz=>1
theorem Bo:∀l:List (List Nat),(pf (l.map wV)).isSome=aJ
 |[]=>rfl
 |w::l=>by
  refine cJ (dH.mp (Bo l)) λa ha=>cJ (dH.mp (nj w λn=>(n:Int))) λb hb=>?_;have hb':pf (w.map nV)=ae b:=hb;simp [pf,Ks,ha,hb']
noncomputable def lW(ws:List Nat):List Nat:=(aN 6).filter λb=>decide (b∈ws)
theorem MG(ws:List Nat):(lW ws).length<=6:=aw (bu _ _) (by decide)
noncomputable abbrev Pw(ds:List Nat)(n6:Nat)(lx:ay)(S h:Nat->Nat)(F:Nat->List Nat)(d:Nat)(ws:List Nat):List (Nat×V):=(39,wV (lW ws))::S27 ds n6 lx S h F d ws
theorem Sz(H:Hy G){pm doc:ai}(he:du (bT pm doc L))(hS:Sv vs (S27 ds n6 lx S h F d ws))(h6:∀c∈ws,c < 6)
 (next:∀vs,Sv vs (Pw ds n6 lx S h F d ws)->WS (k+8) (cw L vs::mu) (bT pm doc L) (je 29) Θ):
 WS (k+8) (cw L vs::mu) (bT pm doc L) (je 28) Θ:=by
 have d7:=eI ds;have CT:∀c∈aN 6,c < 6:=λc hc=>aY.mp hc;have hf:∀{vs} {l:Mu},bq L (aM (L+1) (bk (cN 23)).names) vs∈cw L vs::l:=aa;refine aC (Qg (aN 6) nV (λb=>(ws.map λw=>cB (aF ds+w)).any (· == cB (aF ds+b))) nV ⟨rfl,rfl,by decide+kernel,by decide+kernel⟩ (fK (n:=6) (iN H he H.b_range rfl) aU rfl (by decide)) (by lia) (by decide) (λC1 a ha=>iu 1 he.comp .loc (fS (c9 (bF (dD (ah (j:=7) he.comp (.cell (L+6) "names") (ab _ hf) (hS.get rfl))) (ah (j:=1) he.comp .loc aa rfl) (ew (j:=a) (inj:=λb=>V.str (cB (aF ds+b))) (bA (CT a ha)) (by decide))) (dD (bM (ah (j:=43) he.comp (.cell (L+17) "line") (ab _ hf) (hS.get rfl)) (y:= .list ((ws.map λw=>cB (aF ds+w)).map .str)) (by refine aj (a0 ..) ?_;rfl))) FH)) (λz=>(ah (j:=1) he.comp .loc aa rfl))) rfl (λD=>?_));refine aj (show ((aN 6).filter λb=>(ws.map λw=>cB (aF ds+w)).any (· == cB (aF ds+b)))=lW ws from fz λb hb=>Cv d7 h6 (CT b hb)) (fL.list (aQ (i:=0) (j:=39) he .loc rfl ?_));exact next _ (hS.set (j:=39) (y:=wV (lW ws)))
noncomputable abbrev S29(ds:List Nat)(n6:Nat)(lx:ay)(S h:Nat->Nat)(F:Nat->List Nat)(d:Nat)(ws:List Nat)(b c:Nat):List (Nat×V):=(8,.str (cB (aF ds+c)))::(40,.bool (!(rk (gJ (dh ds) b (cz d))).isEmpty))::(9,nV b)::Pw ds n6 lx S h F d ws
theorem h00:(dh ds).getD 0 []=[]:=by
 refine aj (t4 (by decide) ..) (E5.mpr λc hc=>?_);refine aK (aG.mp ((nq _ _ _).mp hc).2) λq hq z=>?_;have h1:=bo.mp hq;have h2:=(qQ q h1.1).2.1;have h3:q.2=0:=by simpa using h1.2
 lia
theorem gr6:Gr6 (dh ds):=⟨sg,h00,qW⟩
def ze.S0(k:Nat)(mu:Mu)(vs:d9)(L lx:ay)(ds:List Nat)(n6 d:Nat)(S h:Nat->Nat)(F:Nat->List Nat)(ws:List Nat)(pm doc:ai)(b _:Nat):Prop:=∀{Θ:AF->Mu->Prop} (H:Hy G) (he:du (bT pm doc L)) (Ab:b < 6) (zl:b≠0) (Ac:Sv vs ((9,nV b)::Pw ds n6 lx S h F d ws)) (hT:sh (dh ds) S) (hh:∀b,b≠0->b < 6->pq (dh ds) b (h b)) (hL:t8 (dh ds) (cz d) ws) (next:∀vs c,Sv vs (S29 ds n6 lx S h F d ws b c)->c < 6->I8 (dh ds) (cz d) b c->WS (k+8) (cw L vs::mu) (bT pm doc L) ((HH ((fR (cN 23)).getD 29 (.Pass ⟨0,0,0,0⟩))).drop 4) Θ),WS (k+8) (cw L vs::mu) (bT pm doc L) (HH ((fR (cN 23)).getD 29 (.Pass ⟨0,0,0,0⟩))) Θ
namespace ze
@[irreducible] def e0:=Fm eO gD gD cL cL gD eO eO inferInstance inferInstance inferInstance gD gL gL eO eO S0
def k_:=e0.1
def fb:=e0.2.1
def kR:=e0.2.2.1
def L_:=e0.2.2.2.1
def y9:=e0.2.2.2.2.1
def aV:=e0.2.2.2.2.2.1
def gO:=e0.2.2.2.2.2.2.1
def d_:=e0.2.2.2.2.2.2.2.1
def S_:=e0.2.2.2.2.2.2.2.2.1
def h_:=e0.2.2.2.2.2.2.2.2.2.1
def F_:=e0.2.2.2.2.2.2.2.2.2.2.1
def qH:=e0.2.2.2.2.2.2.2.2.2.2.2.1
def pg:=e0.2.2.2.2.2.2.2.2.2.2.2.2.1
def g8:=e0.2.2.2.2.2.2.2.2.2.2.2.2.2.1
def b_:=e0.2.2.2.2.2.2.2.2.2.2.2.2.2.2.1
theorem T0:S0 k_ fb kR L_ y9 aV gO d_ S_ h_ F_ qH pg g8 b_ e0.2.2.2.2.2.2.2.2.2.2.2.2.2.2.2:=by
 intro Θ H he Ab zl Ac hT hh hL next
 have d7:=eI aV;have hf:∀{kR} {l:Mu},bq L_ (aM (L_+1) (bk (cN 23)).names) kR∈cw L_ kR::l:=aa;refine cq (H.f290.go) λob z z z h0 hd z=>dU (rY (block:=b_) (marks:=cz d_) (sg (ds:=aV))) λQQ hW=>aC (bX (y:= .list ((gJ (dh aV) b_ (cz d_)).map wV)) (ju (ys:=[.list ((dh aV).map wV),nV b_,wV (cz d_)]) (mn H he H.m_back rfl) h0 hd (au (ah (j:=32) he .loc hf (Ac.get rfl)) (au (ah (j:=9) he (.cell (L_+8) "block") hf (Ac.get rfl)) (au (ah (j:=45) he (.cell (L_+19) "settings") hf (Ac.get rfl)) aT))) (m9 (k:=k_+6) H sg Ab (aw (nZ d_) (by decide)))) (aQ (i:=0) (j:=36) he (.cell (L_+14) "ways") rfl ?_) rfl rfl);have hS1:Sv _ ((36,.list ((gJ (dh aV) b_ (cz d_)).map wV))::(9,nV b_)::Pw aV gO y9 S_ h_ F_ d_ qH):=Ac.set (j:=36) (y:= .list ((gJ (dh aV) b_ (cz d_)).map wV));generalize kR.set 36 (ae (.list ((gJ (dh aV) b_ (cz d_)).map wV)))=NB at hS1 ⊢;show WS (k_+8) (cw L_ NB::fb) _ _ _;have hsz:((gJ (dh aV) b_ (cz d_)).zipIdx.flatMap λq=>(gJ (dh aV) b_ (cz d_)).take q.2).length<=2 ^ 21:=by have h1:=Bn (gJ (dh aV) b_ (cz d_)) (gJ (dh aV) b_ (cz d_)) 0;have h2:=JF QQ (show 2*0+(gJ (dh aV) b_ (cz d_)).length<=2000 by lia);lia
 have hqi:∀q∈(gJ (dh aV) b_ (cz d_)).zipIdx,q.2<=(gJ (dh aV) b_ (cz d_)).length:=λq hq=>by
  have:=List.mem_zipIdx hq;lia
 have Jm:∀q∈(gJ (dh aV) b_ (cz d_)).zipIdx,q.1.length<=2 ^ 21:=λq hq=>by
  have h1:=ao (qi.mp hq);have ok:=((hW q.1).mp h1).1.ok sg;exact aw (ez ok.nd ok.lt) (by decide)
 refine aC (bX (y:= .bool (!(rk (gJ (dh aV) b_ (cz d_))).isEmpty)) (mI (Kk (gJ (dh aV) b_ (cz d_)).zipIdx (λq=>V.tup [.int (q.2:Nat),wV q.1]) (λq=>(gJ (dh aV) b_ (cz d_)).take q.2) wV (λq=>HL q.1) (λz z=>V.int 1) ⟨rfl,rfl,by decide+kernel,by decide+kernel⟩ (sy (iN H he H.b_enumerate rfl) (ah (j:=36) he (.cell (L_+14) "ways") hf (hS1.get rfl))) (by lia) hsz (λC2 q hq=>Sy 1 2 3 he.comp .loc .loc (.cell (C2+1) "other") rfl (dA (bM (bF (dD (ah (j:=36) he.comp (.cell (L_+14) "ways") (ab _ hf) (hS1.get rfl))) (jo dM (eQ (ah (j:=1) he.comp .loc aa rfl)) dM) (pd (λh_=>by exact gK h_) (by refine aj (ak ..) ?_;exact aw QQ (by decide)))) (by (refine aj (jr ..) ?_;refine aj (Jh (hqi q hq) ..) ?_;rfl)))) (λw hw=>⟨fS (c9 (nE q.1 nV (λa=>decide (a∈w)) (λz=>V.int 1) ⟨rfl,rfl,by decide+kernel,by decide+kernel⟩ (dA (ah (j:=2) he.comp .loc aa rfl)) (by lia) (Jm q hq) (λC3 a ha=>iu 1 he.comp.comp .loc (fS (c9 (ah (j:=1) he.comp.comp .loc aa rfl) (dD (ah (j:=3) he.comp.comp (.cell (C2+1) "other") (ab _ aa) rfl)) KA)) (λz=>aU))) (ij (xs:=[]) aT (bg rfl)) (FG (nj _ _))),λz=>aU⟩))) (ij (xs:=[]) aT (bg rfl)) (BM (Ji λx hx=>?ones))) (aQ (i:=0) (j:=40) he .loc rfl ?_) rfl rfl)
 case ones=>exact aK (bG.mp hx) λq z h_=>aK (aG.mp h_) λw z h_=>h_.symm
 have hS2:Sv _ ((40,.bool (!(rk (gJ (dh aV) b_ (cz d_))).isEmpty))::(9,nV b_)::Pw aV gO y9 S_ h_ F_ d_ qH):=(hS1.set (j:=40) (y:= .bool (!(rk (gJ (dh aV) b_ (cz d_))).isEmpty))).sub ⟨rfl,rfl,rfl,rfl,rfl,rfl,rfl,rfl,rfl,rfl,rfl,rfl,rfl,rfl,rfl,rfl,trivial⟩;generalize NB.set 40 (ae (.bool (!(rk (gJ (dh aV) b_ (cz d_))).isEmpty)))=vs2 at hS2 ⊢;show WS (k_+8) (cw L_ vs2::fb) _ _ _;have ho:=hh b_ zl Ab;refine aC (bX (y:= .str (cB (aF aV+h_ b_))) (bF (pK (ah (j:=33) he .loc hf (hS2.get rfl))) (bF (dD (ah (j:=7) he (.cell (L_+6) "names") hf (hS2.get rfl))) (ah (j:=9) he (.cell (L_+8) "block") hf (hS2.get rfl)) (ew (j:=b_) (inj:=λb_=>V.str (cB (aF aV+b_))) (bA Ab) (by decide))) (mh (gb d7 Pp (Po _ Ab zl)))) (aQ (i:=0) (j:=8) he (.cell (L_+7) "name") rfl ?_) rfl rfl);have hS3:Sv _ (S29 aV gO y9 S_ h_ F_ d_ qH b_ (h_ b_)):=hS2.set (j:=8) (y:= .str (cB (aF aV+h_ b_)));refine aC (xS (λn nu=>∃kR c,nu=cw L_ kR::fb/\Sv kR (S29 aV gO y9 S_ h_ F_ d_ qH b_ c)/\c < 6/\wi (dh aV) b_ c/\(∀y,zA (dh aV) (cz d_) y->wi (dh aV) b_ y->gI (dh aV) c y)/\n=(eZ (S_ c)).length) (eZ (S_ (h_ b_))).length ⟨_,h_ b_,rfl,hS3,ho.lt,ho.sd,λy hy hd=>ho.near y (hL.lt y ((hL.mem y).mpr hy)) hd,rfl⟩ ?_);intro n nu dO;refine xM dO λkR c eU hS ud GI hnr gi=>?_;clear dO;subst eU;subst gi;refine PT.wt (c9 (ah (j:=8) he (.cell (L_+7) "name") hf (hS.get rfl)) (dD (bM (ah (j:=43) he (.cell (L_+17) "line") hf (hS.get rfl)) (y:= .list ((qH.map λw=>cB (aF aV+w)).map .str)) (by refine aj (a0 ..) ?_;rfl))) BN) ?_;refine aj (Cv d7 hL.lt ud ..) ?_;by_cases hc:c∈qH
 ·exact aj (decide_eq_true hc ..) (bC (next _ c hS ud ⟨(hL.mem c).mp hc,GI,hnr⟩))
 ·refine aj (decide_eq_false hc ..) ?_;have zC:c≠0:=by
   rintro rfl;exact hc ((hL.mem 0).mpr (.inl (Gy d_)))
  have zo:=hh c zC ud;show WS (k_+8) (cw L_ kR::fb) (bT pg g8 L_) _ _;refine aC (bX (y:= .str (cB (aF aV+h_ c))) (bF (pK (ah (j:=33) he .loc hf (hS.get rfl))) (ah (j:=8) he (.cell (L_+7) "name") hf (hS.get rfl)) (mh (gb d7 Pp (Po _ ud zC)))) (aQ (i:=0) (j:=8) he (.cell (L_+7) "name") rfl ?_) rfl rfl);refine bC ⟨_,Bj hT hh ud zC,_,h_ c,rfl,(hS.set (j:=8) (y:= .str (cB (aF aV+h_ c)))).sub ⟨rfl,rfl,rfl,rfl,rfl,rfl,rfl,rfl,rfl,rfl,rfl,rfl,rfl,rfl,rfl,rfl,rfl,trivial⟩,zo.lt,⟨gI.trans zo.sd.1 GI.1,λe=>?_⟩,λy hy hd=>zo.near y (hL.lt y ((hL.mem y).mpr hy)) ⟨hnr y hy hd,λe=>hc ((hL.mem c).mpr (e▸hy))⟩,rfl⟩;have h1:gI (dh aV) c b_:=e▸zo.sd.1;exact GI.2 (gI.antiH qW Ab GI.1 h1)
end ze
theorem ze{pm doc:ai}{b:Nat}:ze.S0 k mu vs L lx ds n6 d S h F ws pm doc b 0:=by with_unfolding_all exact Aq _ _ _ _ _ _ _ _ _ _ _ _ _ _ _ _ ze.S0 @ze.T0 k mu vs L lx ds n6 d S h F ws pm doc b 0
theorem b29_b(H:Hy G){pm doc:ai}(he:du (bT pm doc L)){b c:Nat}(Ab:b < 6)(zl:b≠0)(ud:c < 6)(hS3:Sv vs (S29 ds n6 lx S h F d ws b c))(hL:t8 (dh ds) (cz d) ws)(nv:I8 (dh ds) (cz d) b c)
 (next:WS (k+8) (cw L vs::mu) (bT pm doc L) [] Θ):
 WS (k+8) (cw L vs::mu) (bT pm doc L) ((HH ((fR (cN 23)).getD 29 (.Pass ⟨0,0,0,0⟩))).drop 4) Θ:=by
 have d7:=eI ds;have hf:∀{vs} {l:Mu},bq L (aM (L+1) (bk (cN 23)).names) vs∈cw L vs::l:=aa;refine cq (H.f290.go) λob z z z h0 hd z=>dU (rY (block:=b) (marks:=cz d) (sg (ds:=ds))) λQQ hW=>dU (rY (block:=b) (marks:=lW ws) (sg (ds:=ds))) λhW2l hW2=>?_;have hmm:∀x,x∈lW ws↔zA (dh ds) (cz d) x:=λx=>by
  refine rwj (hL.mem x ..) ?_;unfold lW;refine gj (bo ..) ?_;refine gj (aY ..) ?_;refine aj (decide_eq_true_eq ..) ?_;exact ⟨λh=>h.2,λh=>⟨hL.lt x h,h⟩⟩
 have Bt:∀w∈gJ (dh ds) b (lW ws),w.getLast? =ae (ks w)/\ks w < 6/\w.length < 2 ^ 60:=λw hw=>by
  refine mH ((hW2 w).mp hw) λh1 y hy z=>?_;have ok:=h1.ok sg;have e:ks w=y:=by unfold ks;refine aj (hy ..) ?_;rfl
  exact ⟨by (refine aj (hy ..) ?_;refine aj (e ..) ?_;rfl),e▸ok.lt y (df hy),b7 (ez ok.nd ok.lt) (by decide)⟩
 have m1:(!(rk (gJ (dh ds) b (cz d))).isEmpty)=decide (b∈ws.drop (cz d).length):=by rw [cm,ME gr6 (Gy d) zl Ab nv hW,decide_eq_true_eq];exact (hL.iff b).symm
 have m2:(((ws.drop (cz d).length).map λw=>cB (aF ds+w)).any (· == cB (aF ds+b)))=decide (b∈ws.drop (cz d).length):=by rw [Cv d7 (λc hc=>hL.lt c (gn hc)) Ab]
 have m3:(!((((gJ (dh ds) b (lW ws)).filter λw=>cB (aF ds+ks w) != cB (aF ds+c)).map wV).isEmpty))=decide (b∈ws.drop (cz d).length):=by rw [List.isEmpty_map,cm,decide_eq_true_eq,hL.iff b,<- MF gr6 (Gy d) nv hmm hW2];rw [show ((gJ (dh ds) b (lW ws)).filter λw=>cB (aF ds+ks w) != cB (aF ds+c))=(gJ (dh ds) b (lW ws)).filter λw=>ks w != c from fz λw hw=>congrArg not (rR d7 (Bt w hw).2.1 ud)]
 have Fc:(Pr (aF ds) ws).drop (cz d).length=((ws.drop (cz d).length).map λw=>cB (aF ds+w)).map .str:=by rw [a0,Nm];rfl
 have hsl:(cz d).length<=ws.length:=by have h1:=congrArg kM hL.pre;rw [dR] at h1;omega
 refine aC (iY (b:=(decide (b∈ws.drop (cz d).length) != decide (b∈ws.drop (cz d).length)) || ((decide (b∈ws.drop (cz d).length) != decide (b∈ws.drop (cz d).length)) || false)) (oK (iM ?t1 λz=>iM ?t2 λz=>jn)) (λh=>by simp at h) λz=>bC next)
 case t1=>exact c9 (bM (ah (j:=40) he .loc hf (hS3.get rfl)) (congrArg V.bool m1)) (bM (mI (bF (dD (ah (j:=7) he (.cell (L+6) "names") hf (hS3.get rfl))) (ah (j:=9) he (.cell (L+8) "block") hf (hS3.get rfl)) (ew (j:=b) (inj:=λb=>V.str (cB (aF ds+b))) (bA Ab) (by decide))) (dD (bM (bF (dD (ah (j:=43) he (.cell (L+17) "line") hf (hS3.get rfl))) (jo (eQ (ek (j4 H he H.b_len rfl) (au (dD (ah (j:=45) he (.cell (L+19) "settings") hf (hS3.get rfl))) aT) (mi (by rw [ak];exact aw (nZ d) (by decide))))) dM dM) (pd (λh=>by exact gK h) (by rw [ak];exact aw hL.len (by decide)))) (by rw [Bl (by rw [ak,ak];exact hsl),ak,Fc]))) FH) (congrArg V.bool m2)) Ka
 case t2=>exact c9 (bM (ah (j:=40) he .loc hf (hS3.get rfl)) (congrArg V.bool m1)) (bM (mI (nE (gJ (dh ds) b (lW ws)) wV (λw=>cB (aF ds+ks w) != cB (aF ds+c)) wV ⟨rfl,rfl,by decide+kernel,by decide+kernel⟩ (dA (ju (ys:=[.list ((dh ds).map wV),nV b,wV (lW ws)]) (mn H he H.m_back rfl) h0 hd (au (ah (j:=32) he .loc hf (hS3.get rfl)) (au (ah (j:=9) he (.cell (L+8) "block") hf (hS3.get rfl)) (au (ah (j:=39) he .loc hf (hS3.get rfl)) aT))) (m9 (k:=k+6) H sg Ab (aw (MG ws) (by decide))))) (by lia) (aw hW2l (by decide)) (λC4 w hw=>iu 1 he.comp .loc (fS (c9 (bF (dD (ah (j:=7) he.comp (.cell (L+6) "names") (ab _ hf) (hS3.get rfl))) (bF (dD (ah (j:=1) he.comp .loc aa rfl)) (o6 aU) (xC (inj:=nV) (Bt w hw).1 (Bt w hw).2.2)) (ew (j:=(ks w)) (inj:=λb=>V.str (cB (aF ds+b))) (bA (Bt w hw).2.1) (by decide))) (ah (j:=8) he.comp (.cell (L+7) "name") (ab _ hf) (hS3.get rfl)) tx)) (λz=>ah (j:=1) he.comp .loc aa rfl))) (ij (xs:=[]) aT (bg rfl)) (BM (Bo _))) (congrArg V.bool m3)) Ka
theorem SA(H:Hy G){pm doc:ai}(he:du (bT pm doc L))(Ac:Sv vs (Pw ds n6 lx S h F d ws))(hT:sh (dh ds) S)(hh:∀b,b≠0->b < 6->pq (dh ds) b (h b))(hL:t8 (dh ds) (cz d) ws)
 (next:∀vs,Sv vs (Pw ds n6 lx S h F d ws)->WS (k+8) (cw L vs::mu) (bT pm doc L) (je 30) Θ):
 WS (k+8) (cw L vs::mu) (bT pm doc L) (je 29) Θ:=by
 refine aC (jO (ctx:=[]) (xs:=[1,2,3,4,5].map nV) (λi nu=>∃vs,nu=cw L vs::mu/\Sv vs (Pw ds n6 lx S h F d ws)) (pQ (qu (iN H he H.b_range rfl) aU aU (by decide) (by decide)) rfl) (by lia) ⟨vs,rfl,Ac⟩ (λi nu h o ho=>(eo ho)) ?step ?fin)
 case step=>intro i y nu hy iC;refine aK iC λvs kG hS=>?_;clear iC;subst kG;rw [aI] at hy;refine aK (aL.mp hy) λb hb ma=>?_;subst ma;have zD:=ao hb;have Ab:b < 6:=(by decide:∀b∈[1,2,3,4,5],b < 6) b zD;have zl:b≠0:=(by decide:∀b∈[1,2,3,4,5],b≠0) b zD;refine aQ (i:=0) (j:=9) he (.cell (L+8) "block") rfl (ze H he Ab zl (hS.set (j:=9) (y:=nV b)) hT hh hL λvs c hS3 ud nv=>?_);refine b29_b H he Ab zl ud hS3 hL nv (bC ⟨_,rfl,hS3.sub ⟨rfl,rfl,rfl,rfl,rfl,rfl,rfl,rfl,rfl,rfl,rfl,rfl,rfl,rfl,trivial⟩⟩)
 case fin=>intro nu mE;refine aK mE λvs qY hS=>?_;clear mE;subst qY;exact bC (next _ hS)
section
variable {env:gP}{x y:bH}{pos:jB}{Ψ:V->Mu->Prop}
theorem Px(h1:WE k mu env x λv nu=>v= .bool aJ/\WE k nu env y Ψ):WE k mu env (.BoolOp .And [x,y] pos) Ψ:=⟨λ{z z z z z z} hA r q=>wpAny_And2 (h1.c hA r λ{z z z z z} z1 q1 r1 w=>(aZ.boolE (w.1▸q1))▸eV (w.2.c hA r1 λ{z z z z z} z2=>q (z1.trans z2)))⟩
theorem Bp(c:Nat):∀l:List Nat,cnt c l=((l.count c:Nat):Int)
 |[]=>by rw [cnt_nil];rfl
 |a::l=>by
  rw [cnt_cons,Bp c l,List.count_cons];by_cases h:a=c
  ·simp [h];lia
  ·simp [h]
theorem SD(H:Hy G)(LH:fM G K)(BH:yw K){pm doc:ai}(he:du (bT pm doc L)){P:ib}(PO:mU P)(hS:Sv vs (Pw ds n6 P.lx S h F d ws))(hR:ph ds n6 19 cs)
 (next:Θ (.ret (.bool aJ)) (cw L vs::(yv P [] (1+((g9 ds n6).cps.toList.count 10:Nat)) av++mu))):
 WS (k+8) (cw L vs::(j6 P [] (1+((g9 ds n6).cps.toList.count 10:Nat)) cs++mu)) (bT pm doc L) (je 30) Θ:=by
 have hf:∀{vs} {l:Mu},bq L (aM (L+1) (bk (cN 23)).names) vs∈cw L vs::l:=aa;refine cq (LH.f207.go) λog z z z g0 gd z=>aC (gw (Px (Hk (pO LH.KO LH.m_get (ah (j:=21) he (.cell (L+11) "lexer") hf (hS.get rfl)) (ao (i:=2) rfl) (yM _ _ _) g0 gd (FW.mono (FW.cons _ (FW.app mu (Lz (k:=k+3) H LH BH PO hR.end_))) λy nu ⟨rq,e1,ub,e2,e3,e4⟩=>?_)))));subst e1 e2 e3 e4;refine ⟨bZ (.str ""),aJ,cO,rA,rfl,?_⟩;refine cf (mI (oQ LH.KO LH.p_line (ah (j:=21) he (.cell (L+11) "lexer") hf (hS.get rfl)) (ao (i:=2) rfl) (nM _ _ _) (y:= .int (1+((g9 ds n6).cps.toList.count 10:Nat))) (.head _) (λn e=>by cases e)) (br aU (f7 (ah (j:=20) he .loc hf (hS.get rfl)) mK (au cO aT) rI PySem.F.plainAttrs_str PySem.F.slot_str_count PySem.F.type_str_count rfl) fC) qr) ?_;have e:Ng (g9 ds n6) "\n"=(((g9 ds n6).cps.toList.count 10:Nat):Int):=by show Ng (g9 ds n6) ⟨#[10]⟩=_;rw [count_cnt,Bp]
 rw [e,beq_self_eq_true];exact next
end
theorem MH(sc:List Int):∃(ds:List Nat) (n6:Nat),Dr ds (jR sc) n6/\(uU (jR sc)).map V.int=ds.map nV:=by
 have hb:∀n∈jR sc,0<=n/\n < 12960000:=λn hn=>by
  refine aK (aG.mp hn) λq z dO=>?_;subst dO;unfold LD;lia
 have hl:(jR sc).length=7:=by unfold jR;rw [ak];rfl
 obtain ⟨n,hn⟩:∃n,(jR sc)[6]? =ae n:=⟨_,bJ (by rw [hl];decide)⟩;have h6:=hb n (ao hn);refine ⟨(jR sc).flatMap λn=>(aN 4).map λp=>n.toNat / 60 ^ p % 60,n.toNat,⟨?_,?_,hl,?_,?_⟩,?_⟩
 ·rw [List.length_flatMap];simp only [ak,fq];rw [List.map_const',hl];rfl
 ·intro d hd;refine aK (bG.mp hd) λm z h=>aK (aG.mp h) λp z eU=>?_;subst eU;exact ef _ (by decide)
 ·rw [hn,Int.toNat_of_nonneg h6.1]
 ·lia
 ·unfold uU;rw [uq,uq];rw [List.flatMap_def,List.flatMap_def];refine congrArg List.flatten (b5 λm hm=>?_);rw [a0,a0];refine b5 λp z=>?_;have h0:=(hb m hm).1;refine cJ (Int.eq_ofNat_of_zero_le h0) λa gi=>?_;subst gi;show V.int ((a:Int) / 60 ^ p % 60)=V.int (((a:Int).toNat / 60 ^ p % 60:Nat));rw [b8]
  push_cast
  rfl
section
variable {Φ:V->Mu->Prop}
structure Py(G:Gd)(K:fl):Prop where
 H:Hy G
 LH:fM G K
 NH:uO K
 GH:Lm G
 BH:yw K
 EH:gN G K
 TH:r8 G K
 QH:Qv K
 IH:ItH K
 LL:Sp G
 f307:DV G 307 306 (cN 23)
theorem Pz(X:Py G K){pm doc:ai}{L:ay}{vs:d9}(he:du (bT pm doc L))(hk:vU (bT pm doc L)){sc:List Int}(Ud:sc.length<=63)(hS:Sv vs [(0,.list (sc.map .int))])
 (fin:∀nu l1 l2,gG 272 l1∈nu->gG 304 l2∈nu->Φ (.bool aJ) nu):
 yj (k+8) (cw L vs::gG 272 []::gG 304 []::mu) (bT pm doc L) (fR (cN 23)) (lE Φ):=by
 refine eD (MH sc) λds n6 hD Um=>?_;rw [IY];refine OX (law_0 X.H he Ud hS λvs hS=>?_);have hS:Sv vs [(4,.list (ds.map nV)),(3,.list ((jR sc).map .int))]:=by rw [<- Um];exact hS.sub ⟨rfl,rfl,trivial⟩
 refine yz X.H he hD hS λvs hS=>yB X.H he hD hS λvs A hS=>yF X.H he hD hS λvs Oc Du hS=>yK X.H he hD hS λvs Sg hS=>WF.to [0,0,0,0,1,1] (tS X.H X.LH X.NH X.GH he hD hS λvs P PO hP hS=>?_);refine R5 X.H he hS λvs Bk hS=>tT X.H X.LH X.BH he PO hS (by have h:=ph.start (ds:=ds) (n6:=n6);exact h) (ab _ aa) λvs cs hS hR hB=>?_;refine bC ?_;show yj (k+8) _ (bT pm doc L) (je 15) (lE Φ);refine tU X.H X.LH X.BH X.GH X.EH he hk hD PO hS hR λvs cs hS hR=>Sh (N:=0) (cs:=cs) (B:=B0) X.H X.EH X.TH he hS λvs hS=>tY X.H X.EH X.QH X.GH he hk hS λvs hS=>tZ X.H X.EH X.QH X.IH he hD hS hB λvs hS hB=>WF.f (Sj X.H he hS λvs hS=>?_);refine Sk X.H he hS λvs T hS=>Sq X.H X.LH X.BH X.LL he PO hS hR hB λvs cs S c' hS hR hT=>Sr X.H X.LH X.NH he hS λvs Hm Nt cx dc hS=>t5 X.H X.LH he hS hT λvs h hS hh=>t7 X.H he hS hT hh λvs F hS hF=>Sw X.H he (by rw [hD.len];decide) (hD.at (i:=25) (by decide)) hS λvs W hS=>?_;exact t9 X.H X.LH X.BH X.LL he PO hS hR hF λvs cs ws c2 hS hR hL=>Sz X.H he hS hL.lt λvs hS=>SA X.H he hS hT hh hL λvs hS=>SD X.H X.LH X.BH he PO hS hR (jK.keep (fin _ (zT (ae (P.a,P.b))) [(273,49,c',lz),(298,40,c2,lz)] (ao (i:=7) rfl) (ao (i:=8) rfl)))
end
end
section
variable {G:Gd}{K:fl}{a c:ay}{st:ed}{q:bb}
theorem u6{o:oY}(h:K.lookup a=ae o):Bz K a=o:=by delta Bz;refine aj (h ..) ?_;rfl
theorem wk{cd:ai}{h:dG}(hK:K.In h)(e:i6 K cd q=aJ):h.CodeRec cd q:=by
 refine Heap.CodeRec.of_ok ?_;cases cd with
 |ref c=>refine dU (cn.mp e) λe1 e2=>cJ (dH.mp e2) λo ho=>?_;rw [u6 ho] at e1;delta Heap.codeRecOk;dsimp only;exact aj (hK c o ho ..) e1
 |_=>exact vG e
structure TQ(G:Gd)(K:fl):Prop where
 at':∀a o,K.lookup a=ae o->G.Z0 a=ae o
theorem TQ.ko(f:TQ G K):FS G K:=⟨λh hz a o e=>hz a o (f.at' a o e)⟩
theorem MI{fd:cg}(h:wZ K a=ae (.func fd)):∃o,K.lookup a=ae o/\o.data= .func {fd with pyModule:=pmIn K a,doc:=dcIn K a}:=by
 unfold wZ at h;refine aK (aL.mp h) λo ho e=>⟨o,ho,?_⟩
 delta pmIn dcIn;refine aj (u6 ho ..) ?_;cases hd:o.data with
 |func f=>
  rw [hd] at e;injection e with e
  refine fZ (e ..) ?_;rfl
 |_=>rw [hd] at e;cases e
theorem FnK.isC(h1:wZ K a=ae (.func (mz (md st) (wD st) (fR st) (bk st) .none (.ref c) .none)))(h3:i6 K (.ref c) (md st)=aJ)(f:TQ G K):DV G a c st:=by exact aK (MI h1) λo ho e=>⟨o,_,_,f.at' _ _ ho,e,λh hz=>wk (f.ko.inn h hz) h3⟩
theorem FnK.f(h1:wZ K a=ae (.func (mz (md st) (wD st) (fR st) (bk st) .none (.ref c) .none)))(h3:i6 K (.ref c) (md st)=aJ)(f:TQ G K):rJ G a st:=by exact cE ((FnK.isC h1 h3 f).go) λo pm doc h1 h2 h3=>⟨o,pm,_,doc,h1,h2,h3⟩
theorem MeK.f(h1:wZ K a=ae (.func (Ar st q .none (.ref c) .none)))(h3:i6 K (.ref c) q=aJ)(f:TQ G K):nG G a st q:=by exact aK (MI h1) λo ho e=>⟨o,_,_,_,f.at' _ _ ho,e,λh hz=>wk (f.ko.inn h hz) h3⟩
noncomputable def flK:Nat->List bb->List (Int×ai)
 |_,[]=>[]
 |i,n::l=>((2:Int) ^ i,.str n (254+2*i))::flK (i+1) l
theorem EK{prog:dJ}{w:ee}:∀(l:List bb) (i:Nat),Pairs (lu prog w) (TL i l) (flK i l)
 |[],_=> .nil
 |n::l,i=> .cons (by show ((2:Int) ^ i == 2 ^ i)=aJ;simp) rfl (EK l (i+1))
noncomputable def epIn(K:fl)(a:ay):Nat:=match (Bz K a).data with| .dict _ n=>n|_=>0
end
section
variable {w:ee}{s:aq}{mg mb:bb->Option ai}
theorem zf{α β:Type}{f g:α->β}{l:List α}(h:l.map f=l.map g):∀{i:Nat} {a:α},l[i]? =ae a->f a=g a:=λ{i a} hi=>by
 have:=congrArg (λl=>l[i]?) h;simp only [aI,hi,Option.map_some] at this;exact aO this
structure eJ(K:fl)(w:ee)(s:aq)(mg:bb->Option ai):Prop where
 fit:TQ (hG w s mg) K
 mgK:∀x,mg x=BA K x
 B:g7 (hG w s mg)
 bt:∀h:dG,(∀a o,(hG w s mg).Z0 a=ae o->h.get? a=ae o)->∀Pl,Pl≠4->h.BuiltinsAt mg Pl
 ob:Fp K=NU
variable {K:fl}
theorem eJ.A(F:eJ K w s mg):oA K=vA:=congrArg (·.1) F.ob
theorem eJ.O(F:eJ K w s mg):oB K=vB:=congrArg (·.2.1) F.ob
theorem eJ.C(F:eJ K w s mg):oC K=vC:=congrArg (·.2.2.1) F.ob
theorem eJ.D(F:eJ K w s mg):oD K=vD:=congrArg (·.2.2.2.1) F.ob
theorem eJ.E(F:eJ K w s mg):oE K=vE:=congrArg (·.2.2.2.2.1) F.ob
theorem eJ.V(F:eJ K w s mg):oF K=vF:=congrArg (·.2.2.2.2.2) F.ob
theorem eJ.A1(F:eJ K w s mg):(Q3.map λq=>(wZ K q.1,i6 K (.ref q.2.1) (md q.2.2)))=Q3.map λq=>(ae (M8 (mz (md q.2.2) (wD q.2.2) (fR q.2.2) (bk q.2.2) .none (.ref q.2.1) .none)),aJ):=congrArg (·.1) F.A
theorem eJ.A2(F:eJ K w s mg):(meL.map λq=>(wZ K q.1,i6 K (.ref q.2.1) q.2.2.2))=meL.map λq=>(ae (M8 (Ar q.2.2.1 q.2.2.2 .none (.ref q.2.1) .none)),aJ):=congrArg (·.2.1) F.A
theorem eJ.A3(F:eJ K w s mg):(Q4.map λq=>BA K q.1)=Q4.map λq=>ae (cY q.2):=congrArg (·.2.2.1) F.A
theorem eJ.A4(F:eJ K w s mg):(mnL.map (BA K))=mnL.map λz=>(av:Option ai):=congrArg (·.2.2.2) F.A
theorem eJ.fn(F:eJ K w s mg)(i:Nat){q:ay×ay×ed}(hi:Q3[i]? =ae q):wZ K q.1=ae (.func (mz (md q.2.2) (wD q.2.2) (fR q.2.2) (bk q.2.2) .none (.ref q.2.1) .none))/\i6 K (.ref q.2.1) (md q.2.2)=aJ:=
 sL (zf F.A1 hi)
theorem eJ.isF(F:eJ K w s mg)(i:Nat){a c:ay}{st:ed}(hi:Q3[i]? =ae (a,c,st)):rJ (hG w s mg) a st:=FnK.f (F.fn i hi).1 (F.fn i hi).2 F.fit
theorem eJ.isC(F:eJ K w s mg)(i:Nat){a c:ay}{st:ed}(hi:Q3[i]? =ae (a,c,st)):DV (hG w s mg) a c st:=FnK.isC (F.fn i hi).1 (F.fn i hi).2 F.fit
theorem eJ.isM(F:eJ K w s mg)(i:Nat){a c:ay}{st:ed}{q:bb}(hi:meL[i]? =ae (a,c,st,q)):nG (hG w s mg) a st q:=by exact dU (sL (zf F.A2 hi)) λh1 h2=>MeK.f h1 h2 F.fit
theorem eJ.m(F:eJ K w s mg)(i:Nat){x:bb}{a:ay}(hi:Q4[i]? =ae (x,a)):mg x=ae (.ref a):=(F.mgK x).trans (zf F.A3 hi)
theorem eJ.n(F:eJ K w s mg)(i:Nat){x:bb}(hi:mnL[i]? =ae x):mg x=av:=(F.mgK x).trans (zf F.A4 hi)
theorem eJ.b(F:eJ K w s mg)(i:Nat){x:Bool}(hi:(oC K)[i]? =ae x):x=aJ:=by rw [F.C] at hi;exact List.eq_of_mem_replicate (ao hi)
theorem PA(F:eJ K w s mg):(65 == lY)=aH/\∀h:dG,(∀a o,(hG w s mg).Z0 a=ae o->h.get? a=ae o)->h.DictOf (lu (hG w s mg).prog (hG w s mg).w) 65 qw:=by
 refine ⟨rfl,λh hz=>?_⟩;have h1:=hz 65 _ (F.fit.at' _ _ (congrArg (·.1) F.O));refine ⟨_,(TL 0 oG).toArray,10,h1,⟨rfl,rfl,rfl⟩,rfl,?_,?_,?_⟩
 ·intro e he;have:∀(l:List bb) (i:Nat),i+l.length<=10->∀e∈TL i l,∃k:Int,Value.isInt k e.key=aJ/\e.hash=hashInt k:=by
   intro l;induction l with
   |nil=>intro i z e he;exact eo he
   |cons n l ih=>
    intro i hi e he;rcases aP.mp he with q|q
    ·subst q;refine ⟨2 ^ i,by show ((2:Int) ^ i == 2 ^ i)=aJ;simp,?_⟩;have hi9:i < 10:=by simp at hi;lia
     have:∀i,i < 10->(2:Int) ^ i=hashInt (2 ^ i):=by decide+kernel
     exact this i hi9
    ·exact ih (i+1) (by simp at hi;lia) e q
  exact this oG 0 (by decide) e (by simpa using he)
 ·show Pairs _ (TL 0 oG).toArray.toList qw;exact aj (gQ ..) (EK oG 0)
 ·decide+kernel
theorem PB(F:eJ K w s mg):Hy (hG w s mg):=⟨
 F.B,
 F.m 0 rfl,
 F.m 1 rfl,
 F.m 2 rfl,
 F.m 3 rfl,
 F.m 4 rfl,
 F.m 5 rfl,
 F.m 6 rfl,
 F.m 7 rfl,
 F.m 8 rfl,
 F.m 9 rfl,
 F.m 10 rfl,
 F.m 11 rfl,
 F.m 12 rfl,
 F.m 13 rfl,
 F.m 14 rfl,
 F.m 15 rfl,
 F.n 0 rfl,
 F.n 1 rfl,
 F.n 2 rfl,
 F.n 3 rfl,
 F.n 4 rfl,
 F.n 5 rfl,
 F.n 6 rfl,
 F.n 7 rfl,
 F.n 8 rfl,
 F.n 9 rfl,
 F.n 10 rfl,
 F.n 11 rfl,
 F.n 12 rfl,
 F.n 13 rfl,
 F.n 14 rfl,
 F.n 15 rfl,
 F.n 16 rfl,
 F.n 17 rfl,
 PA F,
 F.isF 0 rfl,
 F.isF 1 rfl,
 F.isF 2 rfl,
 F.isF 3 rfl,
 F.isF 4 rfl,
 F.isF 5 rfl,
 F.isF 6 rfl,
 F.isF 7 rfl,
 F.isF 8 rfl,
 F.isF 9 rfl,
 F.isF 10 rfl,
 F.isF 11 rfl⟩
theorem MJ(F:eJ K w s mg){c P:ay}(h:codeHdIn K c P=aJ)(hP:P≠4)(hn:vj≠P):DT (hG w s mg) c P:=
 ⟨λh' hz=>codeHd_of_K (F.fit.ko.inn h' hz) h,λh' hz=>F.bt h' hz P hP,hn⟩
theorem zg(F:eJ K w s mg)(i:Nat){g:ay}{name:bb}(hi:gtL[i]? =ae (g,name)):∃g,wU K name g i:=by
 have h:(gtL.map λq=>(fH K (.ref 162) q.2,Fd K (.ref q.1) "__get__",Un K (.ref q.1),K.lookup q.1,getL "index" (JZ K (q.1 - 1)),(K.lookup (q.1 - 1)).map λo=>(o.cls,o.dict,o.slots)))=gtL.zipIdx.map λ(q:(ay×bb)×Nat)=>(ae (ae (cY q.1.1)),ae (ae (cY 43)),ae aJ,ae (Ad 60 (q.1.1 - 1)),ae (ae (jT q.2 (394+10*q.2))),ae (lX "dict",(av:Option ay),(#[]:Array (Option ai)))):=congrArg (·.1) F.V;have:=congrArg (λl=>l[i]?) h;simp only [aI,hi,Option.map_some,Tp,eC] at this;obtain ⟨h1,h2,h3,h4,h5,h6⟩:_/\_/\_/\_/\_/\_:=by simpa only [Na] using aO this
 obtain ⟨⟨c,d,dt,sl⟩,ho,e⟩:=aL.mp h6;simp only [Na] at e;refine GV e λeU gi iC=>?_;clear e;subst eU;subst gi;subst iC;refine ⟨g,h1,h2,h3,g - 1,h4,JZ K (g - 1),epIn K (g - 1),_,?_,h5⟩;refine aj (ho ..) ?_;delta JZ epIn;refine aj (u6 ho ..) ?_;unfold JZ at h5;rw [u6 ho] at h5;cases dt with
 |dict es n=>rfl
 |_=>cases h5
theorem me_d(F:eJ K w s mg):Cj (hG w s mg) 43 (jl 2 1) "_tuplegetter.__get__":=by obtain ⟨o,ho,e⟩:=MI (show wZ K 43=ae (.func {Ar (jl 2 1) "_tuplegetter.__get__" .none (.ref 42) .none with defaults:= .ref 36}) from congrArg (·.2.2.1) F.O);exact ⟨o,_,_,_,36,_,_,F.fit.at' _ _ ho,e,F.fit.at' _ _ (congrArg (·.2.1) F.O),rfl,λh hz=>wk (F.fit.ko.inn h hz) (congrArg (·.2.2.2.1) F.O)⟩
end
section
variable {w:ee}{s:aq}{mg mb:bb->Option ai}{K:fl}
set_option tactic.hygienic true in
theorem MK(F:eJ K w s mg):Py (hG w s mg) K:={
 H:=PB F
 LH:=⟨
  F.fit.ko,
  F.b 0 rfl,
  F.b 1 rfl,
  F.b 2 rfl,
  F.b 3 rfl,
  F.b 4 rfl,
  F.b 5 rfl,
  F.b 6 rfl,
  F.b 7 rfl,
  F.b 8 rfl,
  F.b 9 rfl,
  F.b 10 rfl,
  F.isM 0 rfl,
  F.isM 1 rfl,
  F.isM 2 rfl,
  F.isM 3 rfl,
  F.b 11 rfl,
  F.b 12 rfl,
  F.b 13 rfl,
  F.isM 4 rfl,
  F.isM 5 rfl⟩
 NH:=⟨
  F.b 14 rfl,
  congrArg (·.1) F.D,
  congrArg (·.2.2.2.2.2.2.1) F.D,
  F.b 15 rfl,
  F.b 16 rfl,
  congrArg (·.2.1) F.D,
  congrArg (·.2.2.2.2.2.2.2.1) F.D,
  F.b 17 rfl⟩
 GH:={la:=MJ F (F.b 22 rfl) (by decide) (by decide),f275:=F.isC 6 rfl}
 BH:={b_read:=F.b 18 rfl}
 EH:=⟨
  F.fit.ko,
  rfl,
  congrArg (·.1) (congrFun F.E _),
  congrArg (·.2.1) (congrFun F.E _),
  congrArg (·.2.2.1) (congrFun F.E _),
  congrArg (·.2.2.2.1) (congrFun F.E _),
  F.b 19 rfl,
  congrArg (·.2.2.2.2.2.2.2.2.2.2.1) F.D,
  congrArg (·.2.2.2.2.2.2.2.2.2.2.2.1) F.D,
  λt=>congrFun (congrArg (·.2.2.2.2.1) (congrFun F.E _)) t,
  congrArg (·.2.2.2.2.2.1) (congrFun F.E _),
  congrArg (·.2.2.2.2.2.2.1) (congrFun F.E _),
  congrArg (·.2.2.2.2.2.2.2.1) (congrFun F.E _),
  congrArg (·.2.2.2.2.2.2.2.2.1) (congrFun F.E _),
  congrArg (·.2.2.2.2.2.2.2.2.2.1) (congrFun F.E _),
  congrArg (·.2.2.2.2.2.2.2.2.2.2) (congrFun F.E _),
  by
   have h:J0 K=ae aH:=congrArg (·.2) F.V;unfold J0 at h
   split at h
   ·rename_i od cd sl e;exact ⟨od,cd,sl,e,aO h⟩
   ·exact gK h,
  F.b 20 rfl,
  F.isM 6 rfl,
  congrArg (·.2.2.2.2.2.2.2.2.2.2.2.2.1) F.D⟩
 TH:=⟨
  me_d F,
  F.b 21 rfl,
  congrArg (·.2.2.1) F.D,
  congrArg (·.2.2.2.1) F.D,
  congrArg (·.2.2.2.2.2.2.2.2.2.2.2.2.2) F.D,
  F.n 18 rfl,
  F.n 19 rfl,
  zg F 0 rfl,
  zg F 1 rfl,
  zg F 2 rfl,
  zg F 3 rfl,
  zg F 4 rfl⟩
 QH:={sub:=congrArg (·.2.2.2.2.2.2.2.2.1) F.D,eq:=congrArg (·.2.2.2.2.1) F.D,up:=congrArg (·.2.2.2.2.2.2.2.2.2.1) F.D}
 IH:={iter:=congrArg (·.2.2.2.2.2.1) F.D}
 LL:={la:=MJ F (F.b 23 rfl) (by decide) (by decide)}
 f307:=F.isC 12 rfl}
theorem EL{a:ay}(h1:a≠272)(h2:a≠304):(hG w s mg).Z0 a=s.heap.get? a:=if_neg (by rintro (h|h);exact h1 h;exact h2 h)
theorem ML{a:ay}{m:bb->Option ai}(x:s.heap.Ns a m)(h1:a≠272)(h2:a≠304){h:dG}(hz:∀a o,(hG w s mg).Z0 a=ae o->h.get? a=ae o):h.Ns a m:=by refine oz x λo es ep ho r=>?_;clear x;exact ⟨o,es,ep,hz a o ((EL h1 h2).trans ho),r⟩
theorem headF{q:dJ}{loose:List bb}{RR:WRecords}{XP:(bb->Option ai)->dG->Prop}{s0:aq}(Gr:Ground q loose RR XP w s0 mg mb s.heap)(hq:importsNone q=aJ)(KX:K.In s.heap)(k272:K.lookup 272=av)(k304:K.lookup 304=av)(Bs:Fp K=NU):eJ K w s mg:=by
 have k3:K.lookup 3=ae (Bz K 3):=by refine cJ (dH.mp (show (K.lookup 3).isSome=aJ from congrArg (·.2.1.2.2.2.2) Bs)) λo ho=>?_;rw [ho,u6 ho]
 have kb:BA K "__builtins__"=ae (.ref 4):=by have h:(Q4.map λq=>BA K q.1)=Q4.map λq=>ae (cY q.2):=congrArg (·.1.2.2.1) Bs;exact zf h (i:=17) (a:=("__builtins__",4)) rfl
 have hm:∀x,mg x=BA K x:=λx=>by
  refine lG (Gr.T.g) λo es ep ho hd' z h=>?_;have e:=KX 3 _ k3;rw [show s.heap.get? 3=ae o from ho] at e;have e:=aO e;unfold BA;rw [<- e,hd'];exact (h x).symm
 refine ⟨⟨λa o e=>?_⟩,hm,⟨λh hz=>ML Gr.T.g (by decide) (by decide) hz,λh hz=>⟨mb,ML Gr.T.b (by decide) (by decide) hz,Gr.T.builtins⟩,λh hz=>?_,?_⟩,λh hz Pl hP=>?_,Bs⟩
 ·rw [EL (by rintro rfl;rw [k272] at e;exact gK e) (by rintro rfl;rw [k304] at e;exact gK e)];exact KX a o e
 ·exact aK (Gr.T.nolimit) λmc h1 h2=>⟨mc,ML h1 (by decide) (by decide) hz,h2⟩
 ·refine aK ((Gr.T.seer hq).mods) λmm dO z=>oz dO λo z z ho z=>?_;clear dO;exact ⟨o,(EL (by decide) (by decide)).trans ho⟩
 ·refine xM (Gr.T.bmain) λbm ob h1 h2 h3 h4 h5 h6=>?_;have e:=(hm "__builtins__").trans kb;rw [h1] at e;have e:bm=4:=by injection e with e;injection e
  subst e;exact ⟨4,ob,h1,by decide,by decide,λe=>hP e.symm,hz 4 ob ((EL (by decide) (by decide)).trans h3),h4,h5,h6⟩
theorem PC{P:Params}{h:dG}:∀{vs:List ai} {xs:List WData},WellAll P h vs xs->WShape.hasItems [] xs .int=aJ->∃is:List Int,xs=is.map .int/\∀{Z:bI},bW G Z vs (is.map .int):=by
 intro vs xs hw hs;induction xs generalizing vs with
 |nil=>cases hw;exact ⟨[],rfl,λ{z}=> .nil⟩
 |cons x xs ih=>
  cases hw with
  |cons h1 h2=>
   have hs:=cn.mp (show (WShape.has [] x .int && WShape.hasItems [] xs .int)=aJ from hs);refine aK (ih h2 hs.2) λis e hr=>?_;cases h1 with
   |int i t=>exact ⟨i::is,by rw [e];rfl,λ{z}=> .cons (.int i t) hr⟩
   |_=>exact absurd (show aH=aJ from hs.1) (by decide)
theorem SE{R:WRecords}{a b:WTm}{e:WCtx}(h:WTm.value R a e=ae (.bool aH)):WTm.value R (.and a b) e=ae (.bool aH):=by
 conv=>lhs;whnf
 exact aj h rfl
theorem MM{R:WRecords}{t:WTm}{e:WCtx}(h:WTm.value R t e=ae (.bool aH)):t.holds R e=aH:=by delta WTm.holds;exact aj h rfl
theorem PD{P:Params}{h:dG}{args:List WData}{bz:List ai}(hw:WellAll P h bz args)(hp:(cQ.row.toRowW.claim).pre args=aJ):∃a vs sc,bz=[.ref a]/\args=[.list ((sc:List Int).map .int)]/\sc.length<=63/\h.get? a=ae {cls:= .type "list",data:= .seq vs}/\∀{Z:bI},bW G Z vs.toList (sc.map .int):=by
 have hp2:(WShape.hasAll [] args [.list .int] && (OpenLaw.pre cQ).holds [] {args:=args})=aJ:=hp;rw [dQ] at hp2;refine dU hp2 λh1 h2=>?_;clear hp2
 match args,hw with
 |[],_=>exact absurd (show aH=aJ from h1) (by decide)
 |[x],hw=>
  cases hw with
  |cons q1 q2=>
  cases q2;have h1:=(cn.mp (show (WShape.has [] x (.list .int) && aJ)=aJ from h1)).1;cases q1 with
  |@list a vs xs e r=>
   refine aK (PC r ((zE _).symm.trans h1)) λsc e2 hr=>⟨a,vs.toArray,sc,rfl,by rw [e2],?_,e,λ{z}=>by rw [gQ];exact hr⟩
   subst e2;refine Nat.le_of_not_lt λhlt=>?_;have hn:decide ((63:Int) < ((sc.map WData.int).length:Nat))=aJ:=decide_eq_true (by refine aj (ak ..) ?_;omega);have e:WTm.value [] (OpenLaw.pre cQ) {args:=[.list (sc.map .int)]}=ae (.bool aH):=SE (congrArg (λb=>ae (WData.bool !b)) hn);exact vG ((MM e).symm.trans h2)
  |_=>exact absurd (show aH=aJ from h1) (by decide)
 |x::y::r,hw=>exact absurd (show aH=aJ from (cn.mp (show (WShape.has [] x (.list .int) && aH)=aJ from h1)).2) (by decide)
end
section
variable {K:fl}
theorem c_law(X:Py G K){sc:List Int}(Ud:sc.length<=63):JM 9 [gG 272 [],gG 304 []] (.ref 307) [.list (sc.map .int)] λy nu=>y= .bool aJ/\∃l1 l2,gG 272 l1∈nu/\gG 304 l2∈nu:=by
 refine cE (X.f307.go) λob pm doc h0 hd hcd=>K3 X.H.B (k:=8) (names:=["script"]) (vals':=λL=>(nones (aM (L+1) (bk (cN 23)).names)).set 0 (ae (.list (sc.map .int)))) (Kn.z0 h0) hd (λZ s r=>hcd _ r.z0in) rfl (λvs h=>?_) (by show (aM 0 (bk (cN 23)).names).nd;decide+kernel) (λL=>⟨rfl,rfl,rfl⟩) (λL=>?_) (λL=>?_)
 ·exact uM h λa=>rfl
 ·exact .cons (j:=0) (.cell (L+1) "script") rfl .nil
 ·refine Pz (k:=0) X ⟨rfl,rfl,rfl⟩ ⟨by show (bk (cN 23)).kind≠_;decide,rfl⟩ Ud ⟨?_,?_⟩ λnu l1 l2 h1 h2=>⟨rfl,l1,l2,h1,h2⟩
  ·rw [List.length_set];rfl
  ·intro j y e;rw [lh] at e;by_cases hj:j=0
   ·subst hj;rw [show ((0:Nat) == 0)=aJ from rfl] at e
    (have lA:=aO e;clear e;subst lA)
    rw [eA (by show 0 < 47;decide)]
   ·rw [show (j == 0)=aH from by simpa using hj] at e;exact gK e
end
section
variable {w:ee}{s:aq}{mg mb:bb->Option ai}{K:fl}
theorem HM{s':aq}{c P:ay}{l:List zS}(C:CodeHd s.heap c P)(hP:s.heap.get? P=ae (tabObj #[]))(h':s'.heap.get? P=ae (tabObj (ri l).toArray)){o:oY}(e:s.heap.get? P=ae o):asItWas s.heap s'.heap P o:=by
 rw [hP] at e
 (have lA:=aO e;clear e;subst lA)
 exact .inr (.inl ⟨(C.tab hP).isCodeTable,rfl,#[],(ri l).toArray,rfl,by rw [h'];simp [tabObj]⟩)
theorem Jj:CZ cx:=by
 intro q loose RR XP s0 mb fa args bz cl mean E Gr hq Y hmg hg hp hw;refine CX Y λK KX n1 n2 Bs ht=>?_;clear Y;have F:=headF Gr hq KX n1 n2 Bs;have X:Py G K:=HT▸MK F;have e:=F.m 16 (x:="law") (a:=307) rfl;rw [hmg] at e;obtain rfl:fa=307:=by injection e with e;injection e
 refine g6 (PD hw hp) λa vs sc eU gi Ud ha hr=>?_;subst eU;subst gi;have Tf:=ht 272 (by decide);have Tg:=ht 304 (by decide);have na:a≠272:=by rintro rfl;rw [Tf] at ha;cases ha
 have nb:a≠304:=by rintro rfl;rw [Tg] at ha;cases ha
 have zat:∀{b:ay},b≠272->b≠304->G.Z0 b=cx.s.heap.get? b:=λ{z} h1 h2=>HT▸EL h1 h2;have QR:∀{b:ay},b=272\/b=304->G.Z0 b=av:=λ{z} h=>HT▸if_pos h;have r0:R G.Z0 ([gG 272 [],gG 304 []]++[]) cx.s:={
  z0:=bI.le_refl _
  zin:=λb o e=>by
   by_cases h1:b=272\/b=304
   ·rw [QR h1] at e;exact gK e
   ·rw [zat (λh=>h1 (.inl h)) (λh=>h1 (.inr h))] at e;exact e
  sat:=λx hx=>by
   rcases aP.mp hx with h|hx
   ·subst h;exact ⟨Tf,λq hq=>eo hq⟩
   ·rcases aP.mp hx with h|hx
    ·subst h;exact ⟨Tg,λq hq=>eo hq⟩
    ·exact eo hx
  nodup:=by show ([272,304]:List ay).Nodup;decide
  sep:=λb hb=>by
   have:b∈([272,304]:List ay):=hb;refine QR ?_;simpa using this
  gens:=hg
  os:=congrArg Gd.os HT}
 have va:aZ G G.Z0 (.ref a) (.list (sc.map .int)):= .list (vs:=vs) (n:=0) ((zat na nb).trans ha) hr;have em:aX cQ.row.toRowW.prog cx.w=aX G.prog G.w:=congrArg (λg:Gd=>aX g.prog g.w) HT;rw [em];refine (c_law X Ud).c (fr:=[]) (l:=[]) (vs:=[.ref a]) ⟨rfl,by show 1+claimMargin+9<=900;decide+kernel,by show 4+10*9<=9000;decide⟩ rfl (λz h=>eo h) r0 (.cons va .nil) λ{v s' Z' y nu} z' hv r' w=>?_;refine uz w λhy l1 l2 t1 t2=>?_;clear w;subst hy;cases hv;have c1:CodeHd cx.s.heap 274 272:=codeHd_of_K KX (F.b 22 rfl);have c2:CodeHd cx.s.heap 306 304:=codeHd_of_K KX (F.b 23 rfl);have q1:=(r'.sat _ (aE _ t1)).1;have q2:=(r'.sat _ (aE _ t2)).1;have keep:∀b o,b≠272->b≠304->cx.s.heap.get? b=ae o->s'.heap.get? b=ae o:=λb o h1 h2 e=>r'.zin b o (r'.z0 _ _ ((zat h1 h2).trans e));have hpost:(cQ.row.toRowW.claim).post [.list (sc.map .int)] (.bool aJ) [.list (sc.map .int)]=aJ:=by kernel_rfl
 refine ⟨.inl ⟨.bool aJ,.bool aJ,[],rfl,λz=>rfl,.bool aJ,hpost,λz=>⟨kQ,λz h=>eo h⟩⟩,⟨λb o e=>?_,λb o e=>?_⟩,r'.os.trans (congrArg Gd.os HT).symm,AllBare.of_eq r'.gens⟩
 ·by_cases h1:b=272
  ·subst h1;exact HM c1 Tf q1 e
  ·by_cases h2:b=304
   ·subst h2;exact HM c2 Tg q2 e
   ·exact .inl (keep b o h1 h2 e)
 ·by_cases h1:b=272
  ·subst h1;exact ⟨_,q1⟩
  ·by_cases h2:b=304
   ·subst h2;exact ⟨_,q2⟩
   ·exact ⟨o,keep b o h1 h2 e⟩
end
theorem PySem_holds:PySem.Challenge.rw_kl0432_01.Holds:=Q9 λd kwd hdef w s₀ s₁ mg mb Gr Y fa o pm cd doc dV kV ho hdt hcd hD hmg hgens args bz as hpre hlay hrd hwell d7=>
 J2 Jj ⟨w,s₁,mg⟩ _ _ _ _ _ _ _ _ _ _ _ _ Gr (by kernel_rfl) Y ((defOf_name hdef)▸hmg) hgens hpre hwell
end
end Mine.Internal
theorem PySem.Challenge.cw_kl0432_01_holds : PySem.Challenge.rw_kl0432_01.Holds :=
 Mine.Internal.PySem_holds
