import PyProof.Rows.All
import Wide.All
import OpenK.AllK
import Wide.FinOn
import Lean
import PySem.Challenge.RW_rt0103_01
set_option Elab.async false
set_option linter.all false
set_option tactic.hygienic false
set_option genSizeOf false
set_option genInjectivity false
set_option autoImplicit true
set_option relaxedAutoImplicit true
set_option maxRecDepth 100000
set_option maxHeartbeats 4000000
open PySem PySem.W PyProof.Rows
namespace Mine
noncomputable section
open _root_.PySem renaming Value->ae,Addr->ai,Shared->ak,wpAny->al,wpAny_bind->aq,wpAny_pure->ay,Scope->aL,Around->a8,Env->bj,Heap->bk,Sem->bE,wpAny_mono->bM,model->bO,backTo->cr,Obj->cS,Stmt->cW,wpAny_loadPart'->c9,intKind->dv,callWith->dJ,codeAny->dK,Pos->ef,World->ew,wpAny_holding->eD,Model->eF,starEach->eY,Comprehension->fc,assign->fi,typeLookup->fy,wpAny_field->fB,codeAny_builtin->fN,pyNext->gc,FuncData->gh,execs->gp,plainId_quiet->gt,NameKind->gC,pyIter->io,clausesOf->iK,isSubtype->iP,DictEntry->i0,assignEach->ja,bindArgs->jb,entryFor->jg,table->jE,wpAny_seqItems->jG,OsState->jS,getMethod->j2,wpAny_call->kl,wpAny_call_entry->km,wpAny_load->kn,wpAny_letGo->k7,wpAny_newObj_type->k8,Program->lq,Slot->lw,codeAny_mono->lE,getAttr->lK,methodCall->lS,methodCallPos->lT,rawInt->l6,sizeLine->l7,treeTable->l9,wpAny_of_eq->mf,wpAny_updateSeq->mi,Arguments->mj,argsOk->mF,field->mM,relabel->m8,typeIs_str->nh,updateSeq->ni,wpAny_pyIter_list->nu,wpAny_rule->nv,wpAny_tryCatch->nw,Operator->nL,compareOp->nW,entryFor_of_tree->nY,foldedSetIterable->n0,wpAny_callSpecial?_slot->oQ,Result->pA,bindName->pI,call_meets->pP,codeAny_call_builtin->pQ,getItem->pY,scanBound->qN,swappedStores->qR,wpAny_setField->qV,wpAny_setState_of->qW,PyData->rG,Walks->rJ,excClassObj->sk,getMethod_builtin->sx,newTuple->sN,sliceBounds->ti,swapsWithSole->tq,wants->tA,wpAny_attempt->tC,wpAny_isInstance->tF,wpAny_specialOf->tG,wpAny_standAt->tH,evalArgs_none->ua,codeAny_of_tree->uu,handleBy->uR,letOwnedTupleGo->uY,letTemporaryGo->uZ,richCompare->v6,storeName->wk,truthy->wq,wpAny_letTemporaryGo->ww,wpAny_truthy_bool->wx,SetTable->xe,callerA->xH,checkBoundCall->xL,compTurn->xN,entryFor_alias->xX,entry_listiter_next->xY,evalEach->ye,evalOpt->yf,firstAsync->ym,firstIter->yn,inplaceOp->yD,isSubtype_stop->yI,leaving->yS,loadName->yW,slot_listiter_next->zZ,spliced->z9,subscripted->Af,valueOrNone->AH,wpAny_askSetting->AK,assignStores->BK,attributeBase->BQ,comprehension->CM,fastLookup->Ds,firstArgMember->Dz,getitemInPython->DQ,importedModules->D1,strKind_is->Hc,wpAny_alloc->H2,wpAny_handled->H3,wpAny_mkInt->H4,wpAny_newList->H6,wpAny_newTuple->H7,wpAny_pyIter_enum->H8,wpAny_pyIter_slot->H9,wpAny_pyNext_list_end->Ia,wpAny_pyNext_list_item->Ib,wpAny_setField_rec->Ic,wpAny_throw->Ie,wpAny_typeOf->Ig,isTrue->JR,standAt->JS,args_listiter_next->Kn,builtinLookup_eq_fast->K7,call_function_tree->LC,codeAny_handlers_test->L6,richCompare_gives->Tu,richCompare_meets_room->Tv,slot_dict_setitem->Uw,wpAny_dictFind_of->VT,wpAny_excMatches_type->VU,wpAny_handleBy_cons->VV,wpAny_loadPart_at->VW,wpAny_nextOf_list_item->VX,wpAny_notOrdered_dict->VY,wpAny_pyIter_listiter->VZ,wpAny_pyNext_enum_end->V0,wpAny_pyNext_enum_item->V7,wpAny_setEpoch_of->V8,wpAny_updateDictKeys->V9
open _root_.Option.some renaming inj->aR,injEq->rD
open _root_.Nat renaming le_trans->bb,le_of_ble_eq_true->bC,le_refl->ck,ne_of_lt->cQ,zero_le->dB,le_of_eq->dU,lt_of_le_of_lt->dW,le_of_lt->fh,ne_of_gt->gi,le_add_right->hw,le_antisymm->i6,add_le_add_left->jO,le_succ->jP,lt_irrefl->jQ,succ_le_succ->kA,add_le_add->ln,lt_or_ge->lp,le_succ_of_le->mz,lt_succ_self->mA,succ_add->mB,lt_succ_of_lt->ph,sub_add_cancel->pi,succ_pos->pj,zero_add->rB,lt_of_lt_of_le->tY,sub_self->tZ,le_of_lt_succ->wY,not_lt_zero->wZ,sub_le->w0,succ->w6,add_comm->Be,add_left_cancel->Bf,le_add_left->Bg,le_total->Bh,lt_asymm->Bi,lt_trans->Bj,min_eq_left->Bk,min_le_right->Bl,mul_le_mul_left->Bm,sub_zero->Bn,zero_mul->Bo,lt_or_gt_of_ne->Jy,lt_succ_of_le->Jz,min_eq_right->JA,min_le_left->JB,mul_le_mul->JC,not_succ_le_zero->JD,pos_of_ne_zero->JE,succ_ne_self->JF
open _root_.List renaming length_map->bl,mem_cons_of_mem->bD,mem_cons_self->bK,not_mem_nil->cq,length_append->cP,getElem?_set_self->de,length_set->df,map_cons->dH,getElem?_set_ne->dO,mem_cons->dP,append_nil->dT,mem_of_getElem?->et,getD_eq_getElem?_getD->eR,map_append->fK,getElem?_eq_none->fX,lookup_cons->gA,map_map->gB,getElem?_map->gY,mem_append_left->gZ,append_assoc->iB,getElem?_eq_getElem->iC,length_cons->iD,range->iE,filter_cons->i5,replicate->jN,length_filter_le->ky,reverse_cons->kz,foldl_cons->lm,mem_append->mx,count_pos_iff->nE,filterMap_cons->nF,forIn_cons->nG,map->nH,flatMap_cons->pc,length_filterMap_le->pd,mem_append_right->pe,mem_singleton->pf,take_of_length_le->pg,cons_append->rt,getElem?_append_right->ru,length->rx,map_congr_left->ry,nodup_cons->rz,getLast?_append->tS,nil_append->tV,any_map->wL,cons_ne_nil->wM,count_cons->wO,drop_of_length_le->wP,exists_mem_of_ne_nil->wQ,getElem?_append_left->wR,isEmpty_map->wS,length_nil->wT,map_take->wU,mem_of_mem_take->wV,range_succ_eq_map->wW,all_eq_true->A1,contains_eq_any_beq->A3,getElem?_eq_none_iff->A4,getElem?_of_mem->A5,isEmpty_iff->A6,length_take->A7,mem_nil_iff->A8,set->A9,append_inj->IY,contains_iff_mem->IZ,count_append->I0,dropLast_concat->I2,dropLast_eq_take->I3,eq_nil_of_length_eq_zero->I4,filter_congr->I5,filter_eq_nil_iff->I6,find?_cons->I7,findIdx?_cons->I8,getElem?_cons_succ->I9,getElem?_cons_zero->Ja,getElem?_drop->Jb,getElem?_replicate->Jc,getElem_idxOf->Jd,getElem_mem->Je,getElem_of_mem->Jf,idxOf_append->Jg,length_drop->Jh,length_replicate->Ji,length_reverse->Jj,map_drop->Jk,map_dropLast->Jl,map_nil->Jm,mem_filter->Jn,mem_map->Jo,mem_of_mem_drop->Jp,sum_cons->Jq,take_append_of_le_length->Jr,take_left'->Js,take_nil->Jt,take_succ_cons->Ju
open _root_.Ne renaming symm->bB
open _root_.PySem.Heap renaming get?_push_size->bF,get?_push_of_some->bX,lt_size->cG,get?_update_self->eE,get?_update_other->fg,SameBut->gz,ExtBut->jL,size_push->li,get?_update_ne->nA,get?_none_of_le->tP
open _root_.PySem.Value renaming type->bQ,ref->cm,builtin->hW,bool->nN,none->rI,isInt->Bt
open _root_.Prod.mk renaming inj->cB,injEq->gj
open _root_.PyProof.Rows renaming StrsAre->eG,eqBool_str->Dc,setObjOf_fresh->JN
open _root_.PySem.Txt renaming split->eS,startswith->jU,join->pB,endswith->uf
open _root_.Array renaming getElem?_toList->fE,length_toList->oX,mk->qY,replicate->qZ,getElem?_eq_none->tJ,toList_push->wy,eraseIdxIfInBounds->Io,toList_append->Ip,toList_eraseIdx->Iq
open _root_.PySem.PyData renaming strOk->fL,eqv->pq,eqvAll->pr,canLayAll0->JL,depthAll->JM
open _root_.PySem.NameKind renaming free->gD,cell->g9
open _root_.PySem.Obj renaming mapSeq->hE,data_mapFields->nK,isFreed_of_fields->t0,cls_mapFields->JG
open _root_.PySem.W renaming findIn->ia,boot_heap->lB,Frag->mv,hideAll_none->mQ,typeIn->ng,topFrame->oO,emptyDict->uD,instObj->w9,hasDictIn->yx,looks_field->yY,topStub->Au,boot_drawn->Cc,hideAll_get->D0,of_hideAll->Fm
open _root_.Int renaming le_of_lt->iA,natCast_nonneg->lj,le_trans->nB,lt_trans->o9,toNat_of_nonneg->pa,add_sub_cancel->rj,lt_of_lt_of_le->rl,toNat_lt->rm,toNat_natCast->rn,add_comm->tQ,add_assoc->wI,eq_ofNat_of_zero_le->wJ,negSucc->wK,add_zero->AX,le_sub_right_of_add_le->AY,fmod_lt_of_pos->IR,fmod_nonneg_of_pos->IS,le_antisymm->IT,natAbs_of_nonneg->IU,neg_le_neg->IV
open _root_.Bool renaming false_eq_true->iY,false_ne_true->iZ,and_eq_true->kr,or_false->oY,not_eq_true->rb,and_true->tL,or_eq_true->wC,beq_comm->AL,eq_iff_iff->AM,and_false->Ir,noConfusion->It,not_eq_true'->Iu
open _root_.PySem.Heap.SameBut renaming update->ku
open _root_.List.cons renaming inj->kx,injEq->A2
open _root_.ForInStep renaming yield->mr
open _root_.List.Nodup renaming length_le_of_subset->mw
open _root_.Or renaming elim->mC
open _root_.PySem.Flow renaming next->nz
open _root_.PySem.Around renaming under_plainId->qX
open _root_.Nat.succ renaming inj->rA
open _root_.Prod renaming ext->rE
open _root_.Pure renaming pure->rF
open _root_.Decidable renaming em->tO
open _root_.PySem.MeetsSeq3 renaming plain_eq_loop->tW,entry_eq_loop->Jx
open _root_.Option renaming map->t7,or->w7,rec->w8,elim->JH,map_some->JI,or_none->JJ
open _root_.PySem.W.Fast renaming te14364793385576792824->t9,te10110043849684766642->JO,tw10110043849684766642->JP,tw11892475500146522536->JQ
open _root_.PySem.Str renaming length_append->uc
open _root_.PySem.Code renaming quiet_builtin->wE,builtin->AS,compLoop->IF
open _root_.PySem.Builtin.Str renaming occurrences->AN,partsBetween->IA,strKind->IB,strSliceIndices->IC
open _root_.PySem.Calls renaming evalArgs_plain->AO
open _root_.PySem.Data.cls renaming elim->AT
open _root_.PySem.Data.func renaming elim->AU
open _root_.Int.ofNat renaming inj->AZ
open _root_.PySem.Sem renaming wp_bind'->Bp,wp_operate->JU
open _root_.PySem.Value.type renaming elim->Bu
open _root_.PySem.W.WData renaming bool->Bv
open _root_.PySem.Walks renaming list->Bw
open _root_.PySem.Builtin.Frozenset renaming oneOther->Iw,sizeOf->We,updateFrom->Wf
open _root_.PySem.Builtin.List renaming listSameRef->Ix,listTooLong->Iy
open _root_.PySem.Builtin.SmallTypes renaming ownedTupleIsFree->Iz
open _root_.PySem.Builtin.Tuple renaming tupleExact->ID
open _root_.Classical renaming byContradiction->IE
open _root_.PySem.Const.str renaming elim->IG
open _root_.PySem.DictEntry renaming refKey->IH
open _root_.Exists renaming imp->II
open _root_.PySem.Expr.Attribute renaming elim->IJ
open _root_.PySem.Expr.Call renaming elim->IK
open _root_.PySem.Expr.Constant renaming elim->IL
open _root_.PySem.Expr.Name renaming elim->IN
open _root_.PySem.Expr.Subscript renaming elim->IP
open _root_.PySem.Expr.Tuple renaming elim->IQ
open _root_.PySem.IsRange renaming new->IW
open _root_.PySem.Manifest renaming find?->Jw
open _root_.PySem.SetTable renaming below->JV
open _root_.PySem.Shared renaming heap->JW
open _root_.PySem.Stmt.Assign renaming elim->JX
open _root_.PySem.Stmt.Expr renaming elim->JY
open _root_.PySem.Value.builtin renaming elim->JZ
open _root_.PySem.Value.ref renaming elim->J1
open _root_.PySem.Builtin.ObjectAttr renaming Found->Wg
open _root_.PySem.Challenge renaming pw_rt0103_01->Wh,rw_rt0103_01->Wi
open _root_.PySem.SetTable.below renaming go->Wj
theorem oA{g:Prop}(h:a/\b)(f:a->b->g):g:=f h.1 h.2
theorem oE{a:b->Prop}{g:Prop}(h:∃c,a c)(f:∀c,a c->g):g:=h.elim fun d e=>f d e
theorem cV{g:Prop}(h:a/\b/\c)(f:a->b->c->g):g:=f h.1 h.2.1 h.2.2
theorem ft{a:b->Prop}{g:Prop}(h:c/\∃d,a d)(f:c->∀d,a d->g):g:=h.2.elim fun e i=>f h.1 e i
theorem aH{a b:c->Prop}{g:Prop}(h:∃d,a d/\b d)(f:∀d,a d->b d->g):g:=h.elim fun e i=>f e i.1 i.2
theorem dy{a:b->c->Prop}{g:Prop}(h:∃d,∃e,a d e)(f:∀d,∀e,a d e->g):g:=h.elim fun i j=>j.elim fun l m=>f i l m
theorem mX{g:Prop}(h:a/\b/\c/\d)(f:a->b->c->d->g):g:=f h.1 h.2.1 h.2.2.1 h.2.2.2
theorem ga{a b:c->Prop}{g:Prop}(h:d/\∃e,a e/\b e)(f:d->∀e,a e->b e->g):g:=h.2.elim fun i j=>f h.1 i j.1 j.2
theorem cw{a b c:d->Prop}{g:Prop}(h:∃e,a e/\b e/\c e)(f:∀e,a e->b e->c e->g):g:=h.elim fun i j=>f i j.1 j.2.1 j.2.2
theorem gb{a b:c->d->Prop}{g:Prop}(h:∃e,∃i,a e i/\b e i)(f:∀e,∀i,a e i->b e i->g):g:=h.elim fun j l=>l.elim fun m n=>f j m n.1 n.2
theorem Ff{a:b->c->d->Prop}{g:Prop}(h:∃e,∃i,∃j,a e i j)(f:∀e,∀i,∀j,a e i j->g):g:=h.elim fun l m=>m.elim fun n o=>o.elim fun p q=>f l n p q
theorem zr{g:Prop}(h:a/\b/\c/\d/\e)(f:a->b->c->d->e->g):g:=f h.1 h.2.1 h.2.2.1 h.2.2.2.1 h.2.2.2.2
theorem lX{a b:c->Prop}{g:Prop}(h:d/\e/\∃i,a i/\b i)(f:d->e->∀i,a i->b i->g):g:=h.2.2.elim fun j l=>f h.1 h.2.1 j l.1 l.2
theorem qx{a b c:d->Prop}{g:Prop}(h:e/\∃i,a i/\b i/\c i)(f:e->∀i,a i->b i->c i->g):g:=h.2.elim fun j l=>f h.1 j l.1 l.2.1 l.2.2
theorem vu{a b:c->d->Prop}{g:Prop}(h:e/\∃i,∃j,a i j/\b i j)(f:e->∀i,∀j,a i j->b i j->g):g:=h.2.elim fun l m=>m.elim fun n o=>f h.1 l n o.1 o.2
theorem ju{a b c d:e->Prop}{g:Prop}(h:∃i,a i/\b i/\c i/\d i)(f:∀i,a i->b i->c i->d i->g):g:=h.elim fun j l=>f j l.1 l.2.1 l.2.2.1 l.2.2.2
theorem sO{a b:c->Prop}{d:c->e->Prop}{g:Prop}(h:∃i,a i/\b i/\∃j,d i j)(f:∀i,a i->b i->∀j,d i j->g):g:=h.elim fun l m=>m.2.2.elim fun n o=>f l m.1 m.2.1 n o
theorem fV{a b c:d->e->Prop}{g:Prop}(h:∃i,∃j,a i j/\b i j/\c i j)(f:∀i,∀j,a i j->b i j->c i j->g):g:=h.elim fun l m=>m.elim fun n o=>f l n o.1 o.2.1 o.2.2
theorem Rh{a b:c->d->e->Prop}{g:Prop}(h:∃i,∃j,∃l,a i j l/\b i j l)(f:∀i,∀j,∀l,a i j l->b i j l->g):g:=h.elim fun m n=>n.elim fun o p=>p.elim fun q r=>f m o q r.1 r.2
theorem E8{g:Prop}(h:a/\b/\c/\d/\e/\i)(f:a->b->c->d->e->i->g):g:=f h.1 h.2.1 h.2.2.1 h.2.2.2.1 h.2.2.2.2.1 h.2.2.2.2.2
theorem E9{a b c:d->Prop}{g:Prop}(h:e/\i/\∃j,a j/\b j/\c j)(f:e->i->∀j,a j->b j->c j->g):g:=h.2.2.elim fun l m=>f h.1 h.2.1 l m.1 m.2.1 m.2.2
theorem Rd{a b:c->d->Prop}{g:Prop}(h:e/\i/\∃j,∃l,a j l/\b j l)(f:e->i->∀j,∀l,a j l->b j l->g):g:=h.2.2.elim fun m n=>n.elim fun o p=>f h.1 h.2.1 m o p.1 p.2
theorem Re{a b c d:e->Prop}{g:Prop}(h:i/\∃j,a j/\b j/\c j/\d j)(f:i->∀j,a j->b j->c j->d j->g):g:=h.2.elim fun l m=>f h.1 l m.1 m.2.1 m.2.2.1 m.2.2.2
theorem zv{a b c:d->e->Prop}{g:Prop}(h:i/\∃j,∃l,a j l/\b j l/\c j l)(f:i->∀j,∀l,a j l->b j l->c j l->g):g:=h.2.elim fun m n=>n.elim fun o p=>f h.1 m o p.1 p.2.1 p.2.2
theorem Rf{a b c d e:i->Prop}{g:Prop}(h:∃j,a j/\b j/\c j/\d j/\e j)(f:∀j,a j->b j->c j->d j->e j->g):g:=h.elim fun l m=>f l m.1 m.2.1 m.2.2.1 m.2.2.2.1 m.2.2.2.2
theorem qy{a b c d:e->i->Prop}{g:Prop}(h:∃j,∃l,a j l/\b j l/\c j l/\d j l)(f:∀j,∀l,a j l->b j l->c j l->d j l->g):g:=h.elim fun m n=>n.elim fun o p=>f m o p.1 p.2.1 p.2.2.1 p.2.2.2
theorem zx{a b c:d->e->i->Prop}{g:Prop}(h:∃j,∃l,∃m,a j l m/\b j l m/\c j l m)(f:∀j,∀l,∀m,a j l m->b j l m->c j l m->g):g:=h.elim fun n o=>o.elim fun p q=>q.elim fun r s=>f n p r s.1 s.2.1 s.2.2
theorem Fg{a b:c->d->e->i->Prop}{g:Prop}(h:∃j,∃l,∃m,∃n,a j l m n/\b j l m n)(f:∀j,∀l,∀m,∀n,a j l m n->b j l m n->g):g:=h.elim fun o p=>p.elim fun q r=>r.elim fun s t=>t.elim fun u v=>f o q s u v.1 v.2
theorem Q9{g:Prop}(h:a/\b/\c/\d/\e/\i/\j)(f:a->b->c->d->e->i->j->g):g:=f h.1 h.2.1 h.2.2.1 h.2.2.2.1 h.2.2.2.2.1 h.2.2.2.2.2.1 h.2.2.2.2.2.2
theorem Fa{a:b->Prop}{c:b->d->e->Prop}{g:Prop}(h:i/\j/\∃l,a l/\∃m,∃n,c l m n)(f:i->j->∀l,a l->∀m,∀n,c l m n->g):g:=h.2.2.elim fun o p=>p.2.elim fun q r=>r.elim fun s t=>f h.1 h.2.1 o p.1 q s t
theorem zu{a:b->Prop}{c d e:b->i->Prop}{g:Prop}(h:j/\∃l,a l/\∃m,c l m/\d l m/\e l m)(f:j->∀l,a l->∀m,c l m->d l m->e l m->g):g:=h.2.elim fun n o=>o.2.elim fun p q=>f h.1 n o.1 p q.1 q.2.1 q.2.2
theorem vv{a b c:d->e->i->Prop}{g:Prop}(h:j/\∃l,∃m,∃n,a l m n/\b l m n/\c l m n)(f:j->∀l,∀m,∀n,a l m n->b l m n->c l m n->g):g:=h.2.elim fun o p=>p.elim fun q r=>r.elim fun s t=>f h.1 o q s t.1 t.2.1 t.2.2
theorem Rg{a b:c->d->Prop}{e i:c->d->j->Prop}{g:Prop}(h:∃l,∃m,a l m/\b l m/\∃n,e l m n/\i l m n)(f:∀l,∀m,a l m->b l m->∀n,e l m n->i l m n->g):g:=h.elim fun o p=>p.elim fun q r=>r.2.2.elim fun s t=>f o q r.1 r.2.1 s t.1 t.2
theorem Ri{a b c d:e->i->j->Prop}{g:Prop}(h:∃l,∃m,∃n,a l m n/\b l m n/\c l m n/\d l m n)(f:∀l,∀m,∀n,a l m n->b l m n->c l m n->d l m n->g):g:=h.elim fun o p=>p.elim fun q r=>r.elim fun s t=>f o q s t.1 t.2.1 t.2.2.1 t.2.2.2
theorem zs{a b c:d->e->Prop}{g:Prop}(h:i/\j/\l/\∃m,∃n,a m n/\b m n/\c m n)(f:i->j->l->∀m,∀n,a m n->b m n->c m n->g):g:=h.2.2.2.elim fun o p=>p.elim fun q r=>f h.1 h.2.1 h.2.2.1 o q r.1 r.2.1 r.2.2
theorem Rc{a b c d e:i->Prop}{g:Prop}(h:j/\l/\∃m,a m/\b m/\c m/\d m/\e m)(f:j->l->∀m,a m->b m->c m->d m->e m->g):g:=h.2.2.elim fun n o=>f h.1 h.2.1 n o.1 o.2.1 o.2.2.1 o.2.2.2.1 o.2.2.2.2
theorem zt{a b c:d->Prop}{e i:d->j->Prop}{g:Prop}(h:l/\∃m,a m/\b m/\c m/\∃n,e m n/\i m n)(f:l->∀m,a m->b m->c m->∀n,e m n->i m n->g):g:=h.2.elim fun o p=>p.2.2.2.elim fun q r=>f h.1 o p.1 p.2.1 p.2.2.1 q r.1 r.2
theorem Fb{a b c:d->e->i->j->Prop}{g:Prop}(h:l/\∃m,∃n,∃o,∃p,a m n o p/\b m n o p/\c m n o p)(f:l->∀m,∀n,∀o,∀p,a m n o p->b m n o p->c m n o p->g):g:=h.2.elim fun q r=>r.elim fun s t=>t.elim fun u v=>v.elim fun w x=>f h.1 q s u w x.1 x.2.1 x.2.2
theorem Rj{a b c d e:i->j->l->Prop}{g:Prop}(h:∃m,∃n,∃o,a m n o/\b m n o/\c m n o/\d m n o/\e m n o)(f:∀m,∀n,∀o,a m n o->b m n o->c m n o->d m n o->e m n o->g):g:=h.elim fun p q=>q.elim fun r s=>s.elim fun t u=>f p r t u.1 u.2.1 u.2.2.1 u.2.2.2.1 u.2.2.2.2
theorem vw{a b c d:e->i->j->l->Prop}{g:Prop}(h:∃m,∃n,∃o,∃p,a m n o p/\b m n o p/\c m n o p/\d m n o p)(f:∀m,∀n,∀o,∀p,a m n o p->b m n o p->c m n o p->d m n o p->g):g:=h.elim fun q r=>r.elim fun s t=>t.elim fun u v=>v.elim fun w x=>f q s u w x.1 x.2.1 x.2.2.1 x.2.2.2
theorem Rm{a b:c->d->e->i->j->l->Prop}{g:Prop}(h:∃m,∃n,∃o,∃p,∃q,∃r,a m n o p q r/\b m n o p q r)(f:∀m,∀n,∀o,∀p,∀q,∀r,a m n o p q r->b m n o p q r->g):g:=h.elim fun s t=>t.elim fun u v=>v.elim fun w x=>x.elim fun y z=>z.elim fun A B=>B.elim fun C D=>f s u w y A C D.1 D.2
theorem Rk{a b c d e i:j->l->m->Prop}{g:Prop}(h:∃n,∃o,∃p,a n o p/\b n o p/\c n o p/\d n o p/\e n o p/\i n o p)(f:∀n,∀o,∀p,a n o p->b n o p->c n o p->d n o p->e n o p->i n o p->g):g:=h.elim fun q r=>r.elim fun s t=>t.elim fun u v=>f q s u v.1 v.2.1 v.2.2.1 v.2.2.2.1 v.2.2.2.2.1 v.2.2.2.2.2
theorem Ra{g:Prop}(h:a/\b/\c/\d/\e/\i/\j/\l/\m/\n)(f:a->b->c->d->e->i->j->l->m->n->g):g:=f h.1 h.2.1 h.2.2.1 h.2.2.2.1 h.2.2.2.2.1 h.2.2.2.2.2.1 h.2.2.2.2.2.2.1 h.2.2.2.2.2.2.2.1 h.2.2.2.2.2.2.2.2.1 h.2.2.2.2.2.2.2.2.2
theorem j8{a b c:d->Prop}{e:d->i->Prop}{j:d->i->l->m->Prop}{g:Prop}(h:n/\∃o,a o/\b o/\c o/\∃p,e o p/\∃q,∃r,j o p q r)(f:n->∀o,a o->b o->c o->∀p,e o p->∀q,∀r,j o p q r->g):g:=h.2.elim fun s t=>t.2.2.2.elim fun u v=>v.2.elim fun w x=>x.elim fun y z=>f h.1 s t.1 t.2.1 t.2.2.1 u v.1 w y z
theorem zw{a b c d e:i->j->l->m->Prop}{g:Prop}(h:n/\∃o,∃p,∃q,∃r,a o p q r/\b o p q r/\c o p q r/\d o p q r/\e o p q r)(f:n->∀o,∀p,∀q,∀r,a o p q r->b o p q r->c o p q r->d o p q r->e o p q r->g):g:=h.2.elim fun s t=>t.elim fun u v=>v.elim fun w x=>x.elim fun y z=>f h.1 s u w y z.1 z.2.1 z.2.2.1 z.2.2.2.1 z.2.2.2.2
theorem Fh{a b c d e i:j->l->m->n->Prop}{g:Prop}(h:∃o,∃p,∃q,∃r,a o p q r/\b o p q r/\c o p q r/\d o p q r/\e o p q r/\i o p q r)(f:∀o,∀p,∀q,∀r,a o p q r->b o p q r->c o p q r->d o p q r->e o p q r->i o p q r->g):g:=h.elim fun s t=>t.elim fun u v=>v.elim fun w x=>x.elim fun y z=>f s u w y z.1 z.2.1 z.2.2.1 z.2.2.2.1 z.2.2.2.2.1 z.2.2.2.2.2
theorem Fi{a b c d e:i->j->l->m->n->Prop}{g:Prop}(h:∃o,∃p,∃q,∃r,∃s,a o p q r s/\b o p q r s/\c o p q r s/\d o p q r s/\e o p q r s)(f:∀o,∀p,∀q,∀r,∀s,a o p q r s->b o p q r s->c o p q r s->d o p q r s->e o p q r s->g):g:=h.elim fun t u=>u.elim fun v w=>w.elim fun x y=>y.elim fun z A=>A.elim fun B C=>f t v x z B C.1 C.2.1 C.2.2.1 C.2.2.2.1 C.2.2.2.2
theorem Fd{a b c d e i:j->l->m->n->Prop}{g:Prop}(h:o/\∃p,∃q,∃r,∃s,a p q r s/\b p q r s/\c p q r s/\d p q r s/\e p q r s/\i p q r s)(f:o->∀p,∀q,∀r,∀s,a p q r s->b p q r s->c p q r s->d p q r s->e p q r s->i p q r s->g):g:=h.2.elim fun t u=>u.elim fun v w=>w.elim fun x y=>y.elim fun z A=>f h.1 t v x z A.1 A.2.1 A.2.2.1 A.2.2.2.1 A.2.2.2.2.1 A.2.2.2.2.2
theorem Rn.{u0,u1,u2,u3,u4,u5,u6,u7}{α0:Sort u0}{α1:Sort u1}{α2:Sort u2}{α3:Sort u3}{α4:Sort u4}{α5:Sort u5}{α6:Sort u6}{α7:Sort u7}{p8:α0->α1->α2->α3->α4->α5->α6->α7->Prop}{p9:α0->α1->α2->α3->α4->α5->α6->α7->Prop}{p10:α0->α1->α2->α3->α4->α5->α6->α7->Prop}{p11:α0->α1->α2->α3->α4->α5->α6->α7->Prop}{p12:α0->α1->α2->α3->α4->α5->α6->α7->Prop}{g:Prop}(h:∃x0:α0,∃x1:α1,∃x2:α2,∃x3:α3,∃x4:α4,∃x5:α5,∃x6:α6,∃x7:α7,p8 x0 x1 x2 x3 x4 x5 x6 x7/\p9 x0 x1 x2 x3 x4 x5 x6 x7/\p10 x0 x1 x2 x3 x4 x5 x6 x7/\p11 x0 x1 x2 x3 x4 x5 x6 x7/\p12 x0 x1 x2 x3 x4 x5 x6 x7)(f:∀x0:α0,∀x1:α1,∀x2:α2,∀x3:α3,∀x4:α4,∀x5:α5,∀x6:α6,∀x7:α7,p8 x0 x1 x2 x3 x4 x5 x6 x7->p9 x0 x1 x2 x3 x4 x5 x6 x7->p10 x0 x1 x2 x3 x4 x5 x6 x7->p11 x0 x1 x2 x3 x4 x5 x6 x7->p12 x0 x1 x2 x3 x4 x5 x6 x7->g):g:=h.elim fun b0 c0=>c0.elim fun b1 c1=>c1.elim fun b2 c2=>c2.elim fun b3 c3=>c3.elim fun b4 c4=>c4.elim fun b5 c5=>c5.elim fun b6 c6=>c6.elim fun b7 c7=>f b0 b1 b2 b3 b4 b5 b6 b7 c7.1 c7.2.1 c7.2.2.1 c7.2.2.2.1 c7.2.2.2.2
theorem Fe{a b c d e i j:l->m->n->o->p->q->Prop}{g:Prop}(h:r/\∃s,∃t,∃u,∃v,∃w,∃x,a s t u v w x/\b s t u v w x/\c s t u v w x/\d s t u v w x/\e s t u v w x/\i s t u v w x/\j s t u v w x)(f:r->∀s,∀t,∀u,∀v,∀w,∀x,a s t u v w x->b s t u v w x->c s t u v w x->d s t u v w x->e s t u v w x->i s t u v w x->j s t u v w x->g):g:=h.2.elim fun y z=>z.elim fun A B=>B.elim fun C D=>D.elim fun F H=>H.elim fun I Q=>Q.elim fun R T=>f h.1 y A C F I R T.1 T.2.1 T.2.2.1 T.2.2.2.1 T.2.2.2.2.1 T.2.2.2.2.2.1 T.2.2.2.2.2.2
theorem Fj.{u0,u1,u2,u3,u4,u5,u6,u7}{α0:Sort u0}{α1:Sort u1}{α2:Sort u2}{α3:Sort u3}{α4:Sort u4}{α5:Sort u5}{α6:Sort u6}{α7:Sort u7}{p8:α0->α1->α2->α3->α4->α5->α6->α7->Prop}{p9:α0->α1->α2->α3->α4->α5->α6->α7->Prop}{p10:α0->α1->α2->α3->α4->α5->α6->α7->Prop}{p11:α0->α1->α2->α3->α4->α5->α6->α7->Prop}{p12:α0->α1->α2->α3->α4->α5->α6->α7->Prop}{p13:α0->α1->α2->α3->α4->α5->α6->α7->Prop}{p14:α0->α1->α2->α3->α4->α5->α6->α7->Prop}{g:Prop}(h:∃x0:α0,∃x1:α1,∃x2:α2,∃x3:α3,∃x4:α4,∃x5:α5,∃x6:α6,∃x7:α7,p8 x0 x1 x2 x3 x4 x5 x6 x7/\p9 x0 x1 x2 x3 x4 x5 x6 x7/\p10 x0 x1 x2 x3 x4 x5 x6 x7/\p11 x0 x1 x2 x3 x4 x5 x6 x7/\p12 x0 x1 x2 x3 x4 x5 x6 x7/\p13 x0 x1 x2 x3 x4 x5 x6 x7/\p14 x0 x1 x2 x3 x4 x5 x6 x7)(f:∀x0:α0,∀x1:α1,∀x2:α2,∀x3:α3,∀x4:α4,∀x5:α5,∀x6:α6,∀x7:α7,p8 x0 x1 x2 x3 x4 x5 x6 x7->p9 x0 x1 x2 x3 x4 x5 x6 x7->p10 x0 x1 x2 x3 x4 x5 x6 x7->p11 x0 x1 x2 x3 x4 x5 x6 x7->p12 x0 x1 x2 x3 x4 x5 x6 x7->p13 x0 x1 x2 x3 x4 x5 x6 x7->p14 x0 x1 x2 x3 x4 x5 x6 x7->g):g:=h.elim fun b0 c0=>c0.elim fun b1 c1=>c1.elim fun b2 c2=>c2.elim fun b3 c3=>c3.elim fun b4 c4=>c4.elim fun b5 c5=>c5.elim fun b6 c6=>c6.elim fun b7 c7=>f b0 b1 b2 b3 b4 b5 b6 b7 c7.1 c7.2.1 c7.2.2.1 c7.2.2.2.1 c7.2.2.2.2.1 c7.2.2.2.2.2.1 c7.2.2.2.2.2.2
theorem Rb{a b c d e i j l m:n->o->p->q->r->Prop}{g:Prop}(h:s/\t/\u/\∃v,∃w,∃x,∃y,∃z,a v w x y z/\b v w x y z/\c v w x y z/\d v w x y z/\e v w x y z/\i v w x y z/\j v w x y z/\l v w x y z/\m v w x y z)(f:s->t->u->∀v,∀w,∀x,∀y,∀z,a v w x y z->b v w x y z->c v w x y z->d v w x y z->e v w x y z->i v w x y z->j v w x y z->l v w x y z->m v w x y z->g):g:=h.2.2.2.elim fun A B=>B.elim fun C D=>D.elim fun F H=>H.elim fun I Q=>Q.elim fun R T=>f h.1 h.2.1 h.2.2.1 A C F I R T.1 T.2.1 T.2.2.1 T.2.2.2.1 T.2.2.2.2.1 T.2.2.2.2.2.1 T.2.2.2.2.2.2.1 T.2.2.2.2.2.2.2.1 T.2.2.2.2.2.2.2.2
theorem Rl{a b c d e i j l m:n->o->p->q->r->Prop}{g:Prop}(h:∃s,∃t,∃u,∃v,∃w,a s t u v w/\b s t u v w/\c s t u v w/\d s t u v w/\e s t u v w/\i s t u v w/\j s t u v w/\l s t u v w/\m s t u v w)(f:∀s,∀t,∀u,∀v,∀w,a s t u v w->b s t u v w->c s t u v w->d s t u v w->e s t u v w->i s t u v w->j s t u v w->l s t u v w->m s t u v w->g):g:=h.elim fun x y=>y.elim fun z A=>A.elim fun B C=>C.elim fun D F=>F.elim fun H I=>f x z B D H I.1 I.2.1 I.2.2.1 I.2.2.2.1 I.2.2.2.2.1 I.2.2.2.2.2.1 I.2.2.2.2.2.2.1 I.2.2.2.2.2.2.2.1 I.2.2.2.2.2.2.2.2
inductive E|v(i:Nat)|n (k:Nat)|a (x y:E)|m (k:Nat) (x:E)
@[elab_as_elim] theorem aa{α:Sort _}{b:α}{P:α->Prop}(x:P b){a:α}(h:a=b):P a:=h▸x
@[elab_as_elim] theorem aU{α:Sort _}{b:α}{P:α->Prop}(x:P b){a:α}(h:b=a):P a:=h▸x
noncomputable def aF:E:=.a (.v 0) (.n 1)
noncomputable def bI:E:=.a (.v 1) (.n 1)
noncomputable def cI:E:=.a (.v 2) (.n 1)
noncomputable def i4:E:=.a (.v 3) (.n 1)
noncomputable def af:E:=.v 0
noncomputable def aj:E:=.v 1
noncomputable def aA:E:=.v 2
noncomputable def aY:E:=.v 3
noncomputable def d9:E:=.v 4
noncomputable def aI:E:=.n 1
noncomputable def aQ:E:=.n 2
noncomputable def lc:E:=.n 3
noncomputable def fe:E:=.n 4
noncomputable def db:E:=.n 6
noncomputable def cj:E:=.n 100
noncomputable def d8:E:=.n 1000
noncomputable def dG:E:=.n 4000
noncomputable def E.d(c:List Nat):E->Nat
 |.v i=>c.getD i 0
 |.n k=>k
 |.a x y=>x.d c+y.d c
 |.m k x=>k*x.d c
noncomputable def lU:Nat->List Nat
 |0=>[1]
 |i+1=>0::lU i
def lA(x:List Nat):List Nat->List Nat:=x.rec (fun y=>y) fun a _ r y=>y.rec (a::r []) fun b y _=>(a+b)::r y
def E.nf:E->List Nat
 |.v i=>0::lU i
 |.n k=>[k]
 |.a x y=>lA x.nf y.nf
 |.m k x=>x.nf.map (k*·)
def lD(c:List Nat):List Nat->Nat:=c.rec (fun _=>0) fun u _ r y=>y.rec 0 fun b y _=>b*u+r y
def lL(x:List Nat):List Nat->Bool:=x.rec (fun _=>true) fun a _ r y=>y.rec (a.beq 0&&r []) fun b y _=>a.ble b&&r y
theorem qe(c:List Nat):lD c []=0:=c.casesOn rfl fun _ _=>rfl
theorem PS(x:List Nat):lA x []=x:=x.rec rfl fun a _ r=>congrArg (a::·) r
theorem qf(c:List Nat):∀x y,lD c (lA x y)=lD c x+lD c y:=by
 induction c with
 |nil=>exact fun x y=>rfl
 |cons u c ih=>
  intro x y;cases x with
  |nil=>exact(rB _).symm
  |cons a x=>
   cases y with
   |nil=>rw[PS];rfl
   |cons b y=>show(a+b)*u+lD c (lA x y)=(a*u+lD c x)+(b*u+lD c y);rw[ih,Nat.add_mul];exact Nat.add_add_add_comm ..
theorem PU(c:List Nat):∀i,lD c (lU i)=c.getD i 0:=by
 induction c with
 |nil=>exact fun i=>rfl
 |cons u c ih=>
  intro i;cases i with
  |zero=>show 1*u+lD c []=u;rw[qe];exact Nat.one_mul u
  |succ i=>show 0*u+lD c (lU i)=c.getD i 0;rw[ih,Bo,rB]
theorem PT(c:List Nat)(k:Nat):∀x,lD c (nH (k*·) x)=k*lD c x:=by
 induction c with
 |nil=>exact fun x=>rfl
 |cons u c ih=>
  intro x;cases x with
  |nil=>rfl
  |cons a x=>show k*a*u+lD c (nH (k*·) x)=k*(a*u+lD c x);rw[ih,Nat.mul_add,Nat.mul_assoc]
theorem kO(c:List Nat)(e:E):e.d c=lD (1::c) e.nf:=by
 induction e with
 |v i=>show c.getD i 0=0*1+lD c (lU i);rw[PU,Bo,rB]
 |n k=>show k=k*1+lD c [];rw[qe,Nat.mul_one];rfl
 |a x y p q=>show x.d c+y.d c=lD (1::c) (lA x.nf y.nf);rw[qf,p,q]
 |m k x p=>show k*x.d c=lD (1::c) (nH (k*·) x.nf);rw[PT,p]
theorem Em(c:List Nat):∀x y,lL x y=true->lD c x<=lD c y:=by
 induction c with
 |nil=>exact fun x y _=>ck 0
 |cons u c ih=>
  intro x y h;cases x with
  |nil=>exact dB _
  |cons a x=>
   cases y with
   |nil=>have h:(a.beq 0&&lL x [])=true:=h;rw[kr] at h;have:=ih x [] h.2;rw[qe] at this;show a*u+lD c x<=0;rw[Nat.eq_of_beq_eq_true h.1,Bo,rB];exact this
   |cons b y=>have h:(a.ble b&&lL x y)=true:=h;rw[kr] at h;exact ln (Nat.mul_le_mul_right _ (bC h.1)) (ih x y h.2)
inductive Fc|l(x y:E)|e (x y:E)|q (x y:E)|n (x y:E)
def Fc.d(c:List Nat):Fc->Prop
 |.l x y=>x.d c<=y.d c
 |.e x y=>x.d c=y.d c
 |.q x y=>x.d c=y.d c
 |.n x y=>¬ x.d c<=y.d c
def Fc.x:Fc->List Nat
 |.l x _=>x.nf
 |.e x _=>x.nf
 |.q _ y=>y.nf
 |.n _ y=>lA [1] y.nf
def Fc.y:Fc->List Nat
 |.l _ y=>y.nf
 |.e _ y=>y.nf
 |.q x _=>x.nf
 |.n x _=>x.nf
theorem Fc.o{c:List Nat}(f:Fc)(h:f.d c):lD (1::c) f.x<=lD (1::c) f.y:=by
 cases f with
 |l x y=>have h:x.d c<=y.d c:=h;rw[kO,kO] at h;exact h
 |e x y=>have h:x.d c=y.d c:=h;rw[kO,kO] at h;exact dU h
 |q x y=>have h:x.d c=y.d c:=h;rw[kO,kO] at h;exact dU h.symm
 |n x y=>have h:¬ x.d c<=y.d c:=h;rw[kO,kO] at h;show lD (1::c) (lA [1] y.nf)<=lD (1::c) x.nf;rw[qf];show 1*1+lD c []+_<=_;rw[qe,Be];exact Nat.lt_of_not_le h
inductive Gl|l(x y:E)|f
def Gl.d(c:List Nat):Gl->Prop
 |.l x y=>x.d c<=y.d c
 |.f=>False
def Gl.x:Gl->List Nat
 |.l x _=>x.nf
 |.f=>[1]
def Gl.y:Gl->List Nat
 |.l _ y=>y.nf
 |.f=>[]
theorem Gl.o{c:List Nat}(g:Gl)(h:lD (1::c) g.x<=lD (1::c) g.y):g.d c:=by
 cases g with
 |l x y=>show x.d c<=y.d c;rw[kO,kO];exact h
 |f=>rw[show Gl.y .f=[] from rfl,qe] at h;have h:1*1+lD c []<=0:=h;rw[qe] at h;exact JD _ h
theorem tU:true=true:=rfl
theorem u9{c l r}(g:Gl)(h:lL (lA g.x r) (lA g.y l)=true)(x:lD (1::c) l<=lD (1::c) r):g.d c:=by refine g.o (Nat.le_of_add_le_add_right (b:=lD (1::c) r) ?_);have:=Em (1::c) _ _ h;rw[qf,qf] at this;exact bb this (jO x _)
theorem qi{c l r l' r'}(x:lD (1::c) l<=lD (1::c) r)(y:lD (1::c) l'<=lD (1::c) r'):lD (1::c) (lA l l')<=lD (1::c) (lA r r'):=by rw[qf,qf];exact ln x y
theorem jp(c:List Nat)(g:Gl)(h:lL g.x g.y=true):g.d c:=g.o (Em _ _ _ h)
theorem aJ(c:List Nat)(f:Fc)(g:Gl)(h:lL (lA g.x f.y) (lA g.y f.x)=true)(x:f.d c):g.d c:=u9 g h (f.o x)
theorem aP(c:List Nat)(f f':Fc)(g:Gl)(h:lL (lA g.x (lA f.y f'.y)) (lA g.y (lA f.x f'.x))=true)(x:f.d c)(x':f'.d c):g.d c:=u9 g h (qi (f.o x) (f'.o x'))
theorem eg(c:List Nat)(f f' f2:Fc)(g:Gl)(h:lL (lA g.x (lA f.y (lA f'.y f2.y))) (lA g.y (lA f.x (lA f'.x f2.x)))=true)(x:f.d c)(x':f'.d c)(x2:f2.d c):g.d c:=u9 g h (qi (f.o x) (qi (f'.o x') (f2.o x2)))
theorem qh(c:List Nat)(f f' f2 f3:Fc)(g:Gl)(h:lL (lA g.x (lA f.y (lA f'.y (lA f2.y f3.y)))) (lA g.y (lA f.x (lA f'.x (lA f2.x f3.x))))=true)(x:f.d c)(x':f'.d c)(x2:f2.d c)(x3:f3.d c):g.d c:=u9 g h (qi (f.o x) (qi (f'.o x') (qi (f2.o x2) (f3.o x3))))
theorem oN(x y:Nat):x<=x-y+y:=Nat.sub_le_iff_le_add.mp (ck _)
theorem hG{G:Prop}(k:∀C:Prop,(G->C)->C):G:=k G id
theorem z1{k j x:Nat}(h:k.ble j=true)(y:x<=k):x<=j:=bb y (bC h)
theorem z2{k j x y:Nat}(h:j.ble k=true)(e:x+k<=y):x+j<=y:=bb (jO (bC h) x) e
theorem z3{k j x y:Nat}(h:(j+1).ble k=true)(e:x+k<=y)(q:y=x+j):False:=jQ _ (q▸z2 h e)
theorem z4{k x y:Nat}(e:x+(k+1)<=y)(q:y=x):False:=jQ x (z2 (j:=1) (Nat.ble_eq_true_of_le (kA (dB k))) (q▸e))
theorem z5{k j x:Nat}(h:k.beq j=false)(e:x+k=x+j):False:=Nat.ne_of_beq_eq_false h (Bf e)
theorem z6{k x:Nat}(e:x=x+(k+1)):False:=z4 (ck (x+(k+1))) e.symm
theorem z7{k x:Nat}(e:x+(k+1)=x):False:=z6 e.symm
theorem z8{k x y:Nat}(e:x+k<=y):x<=y:=bb (hw x k) e

@[elab_as_elim] theorem bg{α β:Type}{a:α}{b:β}{P:α->β->Prop}(a':α)(b':β)(h:some (a,b)=some (a',b'))(k:P a b):P a' b':=by cases h;exact k
@[elab_as_elim] theorem GB{P:a->Prop}(b:a)(h:b=c/\d)(k:d->P c):P b:=by obtain⟨rfl,e⟩:=h;exact k e
@[elab_as_elim] theorem TI{P:a->b->Prop}(c:a)(d:b)(h:c=e/\d=i)(k:P e i):P c d:=by obtain⟨rfl,rfl⟩:=h;exact k
@[elab_as_elim] theorem TJ{P:a->Prop}(b:a)(h:c=b/\d)(k:d->P c):P b:=by obtain⟨rfl,e⟩:=h;exact k e
@[elab_as_elim] theorem kd{P:a->b->Prop}(c:a)(d:b)(h:e=c/\i=d)(k:P e i):P c d:=by obtain⟨rfl,rfl⟩:=h;exact k
@[elab_as_elim] theorem GD{P:a->Prop}(b:a)(h:b=c/\d/\e/\i)(k:d->e->i->P c):P b:=by obtain⟨rfl,j,l,m⟩:=h;exact k j l m
@[elab_as_elim] theorem zT{a b:c->Prop}{P:d->Prop}(e:d)(h:e=i/\∃j,a j/\b j)(k:∀j,a j->b j->P i):P e:=by obtain⟨rfl,j,l,m⟩:=h;exact k j l m
@[elab_as_elim] theorem TK{a:b->c->d->e->i->Prop}{j:b->c->d->e->i->l}{m n o p:b->c->d->e->i->Prop}{P:l->Prop}(q:l)(h:r/\∃s,∃t,∃u,∃v,∃w,a s t u v w/\q=j s t u v w/\m s t u v w/\n s t u v w/\o s t u v w/\p s t u v w)(k:r->∀s,∀t,∀u,∀v,∀w,a s t u v w->m s t u v w->n s t u v w->o s t u v w->p s t u v w->P (j s t u v w)):P q:=by obtain⟨x,s,t,u,v,w,y,rfl,z,A,B,C⟩:=h;exact k x s t u v w y z A B C
@[elab_as_elim] theorem m9{a:b->c}{P:c->Prop}(d:c)(h:∃e,d=a e)(k:∀e,P (a e)):P d:=by obtain⟨e,rfl⟩:=h;exact k e
@[elab_as_elim] theorem kW{a:b->c}{d:b->Prop}{P:c->Prop}(e:c)(h:∃i,e=a i/\d i)(k:∀i,d i->P (a i)):P e:=by obtain⟨i,rfl,j⟩:=h;exact k i j
@[elab_as_elim] theorem TL{a:b->c}{d:b->e}{P:c->e->Prop}(i:c)(j:e)(h:∃l,i=a l/\j=d l)(k:∀l,P (a l) (d l)):P i j:=by obtain⟨l,rfl,rfl⟩:=h;exact k l
@[elab_as_elim] theorem fw{a:b->Prop}{c:b->d}{P:d->Prop}(e:d)(h:∃i,a i/\c i=e)(k:∀i,a i->P (c i)):P e:=by obtain⟨i,j,rfl⟩:=h;exact k i j
@[elab_as_elim] theorem TM{a:b->c}{d e i:b->Prop}{P:c->Prop}(j:c)(h:∃l,j=a l/\d l/\e l/\i l)(k:∀l,d l->e l->i l->P (a l)):P j:=by obtain⟨l,rfl,m,n,o⟩:=h;exact k l m n o
@[elab_as_elim] theorem GF{a:b->c->d}{P:d->Prop}(e:d)(h:∃i,∃j,e=a i j)(k:∀i,∀j,P (a i j)):P e:=by obtain⟨i,j,rfl⟩:=h;exact k i j
@[elab_as_elim] theorem oM{a:b->c->d}{e i:b->c->Prop}{P:d->Prop}(j:d)(h:∃l,∃m,j=a l m/\e l m/\i l m)(k:∀l,∀m,e l m->i l m->P (a l m)):P j:=by obtain⟨l,m,rfl,n,o⟩:=h;exact k l m n o
@[elab_as_elim] theorem TO{a:b->c->d}{e i j:b->c->Prop}{P:d->Prop}(l:d)(h:∃m,∃n,l=a m n/\e m n/\i m n/\j m n)(k:∀m,∀n,e m n->i m n->j m n->P (a m n)):P l:=by obtain⟨m,n,rfl,o,p,q⟩:=h;exact k m n o p q
@[elab_as_elim] theorem TP{a:b->c->d}{e i j l:b->c->Prop}{P:d->Prop}(m:d)(h:∃n,∃o,m=a n o/\e n o/\i n o/\j n o/\l n o)(k:∀n,∀o,e n o->i n o->j n o->l n o->P (a n o)):P m:=by obtain⟨n,o,rfl,p,q,r,s⟩:=h;exact k n o p q r s
@[elab_as_elim] theorem zU{a:b->c->d}{e i j l m n o:b->c->Prop}{P:d->Prop}(p:d)(h:∃q,∃r,p=a q r/\e q r/\i q r/\j q r/\l q r/\m q r/\n q r/\o q r)(k:∀q,∀r,e q r->i q r->j q r->l q r->m q r->n q r->o q r->P (a q r)):P p:=by obtain⟨q,r,rfl,s,t,u,v,w,x,y⟩:=h;exact k q r s t u v w x y
@[elab_as_elim] theorem TQ{a:b->c->d}{e i:b->c->Prop}{j l m:b->c->n->o->p->Prop}{P:d->Prop}(q:d)(h:∃r,∃s,q=a r s/\e r s/\i r s/\∃t,∃u,∃v,j r s t u v/\l r s t u v/\m r s t u v)(k:∀r,∀s,e r s->i r s->∀t,∀u,∀v,j r s t u v->l r s t u v->m r s t u v->P (a r s)):P q:=by obtain⟨r,s,rfl,w,x,t,u,v,y,z,A⟩:=h;exact k r s w x t u v y z A
@[elab_as_elim] theorem zV{a:b->c->d->e}{P:e->Prop}(i:e)(h:∃j,∃l,∃m,i=a j l m)(k:∀j,∀l,∀m,P (a j l m)):P i:=by obtain⟨j,l,m,rfl⟩:=h;exact k j l m
@[elab_as_elim] theorem TR{a:b->c->d->e}{i j l:b->c->d->Prop}{P:e->Prop}(m:e)(h:∃n,∃o,∃p,m=a n o p/\i n o p/\j n o p/\l n o p)(k:∀n,∀o,∀p,i n o p->j n o p->l n o p->P (a n o p)):P m:=by obtain⟨n,o,p,rfl,q,r,s⟩:=h;exact k n o p q r s
@[elab_as_elim] theorem wc{a:b->c->d->e}{i j l m:b->c->d->Prop}{P:e->Prop}(n:e)(h:∃o,∃p,∃q,n=a o p q/\i o p q/\j o p q/\l o p q/\m o p q)(k:∀o,∀p,∀q,i o p q->j o p q->l o p q->m o p q->P (a o p q)):P n:=by obtain⟨o,p,q,rfl,r,s,t,u⟩:=h;exact k o p q r s t u
@[elab_as_elim] theorem GG{a:b->c->d->e->i}{j l m:b->c->d->e->Prop}{P:i->Prop}(n:i)(h:∃o,∃p,∃q,∃r,n=a o p q r/\j o p q r/\l o p q r/\m o p q r)(k:∀o,∀p,∀q,∀r,j o p q r->l o p q r->m o p q r->P (a o p q r)):P n:=by obtain⟨o,p,q,r,rfl,s,t,u⟩:=h;exact k o p q r s t u
@[elab_as_elim] theorem Wn{a:b->c->d->e}{i j l:b->c->d->m->n->Prop}{P:e->Prop}(o:e)(h:∃p,∃q,∃r,o=a p q r/\∃s,∃t,i p q r s t/\j p q r s t/\l p q r s t)(k:∀p,∀q,∀r,∀s,∀t,i p q r s t->j p q r s t->l p q r s t->P (a p q r)):P o:=by obtain⟨p,q,r,rfl,s,t,u,v,w⟩:=h;exact k p q r s t u v w
theorem am{j:Type}{v:j}{P:Prop}(h:none=some v):P:=by trivial
inductive V where
 |none
 |bool (b:Bool)
 |int (i:Int)
 |str (s:Str)
 |tup (vs:List V)
 |lst (vs:List V)
 |seti (xs:List Int)
 |sets (xs:List Str)
 |setb (b:Bool)
 |ins (c:ai) (fs:List (Nat×V))
 |obj (k:Nat)
 |cst (v:ae)
 |bm (id:String) (self:V)
 |exc (c:ae) (Wt:List V)
inductive O where
 |list (vs:List V)
 |dict (es:List (Int×V)) (ep:Nat)
 |set (xs:List Int)
 |inst (c:ai) (fs:List (Nat×V))
 |slot (c:ai) (fs:List (Nat×V))
 |liter (src:V) (i:Nat)
 |dead
structure S where
 fs:List (List (Option V))
 st:List O
inductive Fl where
 |next|brk|cont
 |ret (v:V)
 |exc (c:ae) (Wt:List V)
inductive CR where
 |ret (v:V)
 |exc (c:ae) (Wt:List V)
abbrev M(α:Type):=S->Option (α×S)
noncomputable def M.pure{α:Type}(a:α):M α:=fun s=>some (a,s)
noncomputable def M.bind{α β:Type}(m:M α)(f:α->M β):M β:=fun s=>match m s with
 |some (a,s')=>f a s'
 |none=>none
noncomputable def M.fail{α:Type}:M α:=fun Y=>none
noncomputable def M.lift{α:Type}(o:Option α):M α:=fun s=>match o with|some a=>some (a,s)|none=>none
instance:Monad M where
 pure:=M.pure
 bind:=M.bind
theorem dI{j:Type}{c:Prop}[Decidable c]{f:c->Option j}{a:j}(e:(dite c f fun _=>none)=some a):∃h,f h=some a:=
 (tO c).elim (fun h=>⟨h,(dif_pos h).symm.trans e⟩) fun h=>am ((dif_neg h).symm.trans e)
@[elab_as_elim] theorem cy{j:Type}{C:j->Prop}{a b:j}(e:some a=some b)(k:C a):C b:=aR e▸k
theorem ax{j c:Type}{C:Prop}{o:Option j}{f:j->Option c}{r:c}(e:o.bind f=some r)(k:∀a,o=some a->f a=some r->C):C:=by
 cases o with
 |none=>exact am e
 |some a=>exact k a rfl e
@[elab_as_elim] theorem oj{j c:Type}{C:c->Prop}{o:Option j}{f:j->c}{r:c}(e:o.map f=some r)(k:∀a,o=some a->C (f a)):C r:=by
 cases o with
 |none=>exact am e
 |some a=>exact cy e (k a rfl)
theorem ch{j:Type}{C:Prop}{o p:Option j}{r:j}(e:o.or p=some r)(k:o=some r->C)(l:p=some r->C):C:=by
 cases o with
 |none=>exact l e
 |some a=>exact k e
theorem kb{j:Type}{x y:Option j}{a:j}(h:x=some a):x.or y=some a:=(congrArg (w7 · y) h).trans rfl
theorem bq{j:Type}{C:Prop}{c:Prop}[Decidable c]{o:Option j}{r:j}(e:(if c then o else none)=some r)(k:c->o=some r->C):C:=
 (tO c).elim (fun h=>k h ((if_pos h).symm.trans e)) fun h=>am ((if_neg h).symm.trans e)
theorem cD{j:Type}{C:Prop}{c:Prop}[Decidable c]{o p:j}{r:j}(e:(if c then o else p)=r)(k:c->o=r->C)(l:¬ c->p=r->C):C:=
 (tO c).elim (fun h=>k h ((if_pos h).symm.trans e)) fun h=>l h ((if_neg h).symm.trans e)
theorem i9{j:Type}{C:Prop}{o:Option j}{p:j->Bool}(e:o.any p=true)(k:∀a,o=some a->p a=true->C):C:=by
 cases o with
 |none=>trivial
 |some a=>exact k a rfl e
theorem lZ{C:Prop}(e:(a||b)=true)(k:a=true->C)(l:b=true->C):C:=(Bool.or_eq_true_iff.mp e).elim k l
theorem fZ{C:Prop}(e:(a&&b)=true)(k:a=true->b=true->C):C:=by
 cases a with
 |true=>exact k rfl e
 |false=>trivial
noncomputable def vN(x:V):Bool:=decide (x.ctorIdx=0)
theorem wt(e:vN x=true):x=.none:=V.none.elim x (of_decide_eq_true e) rfl
noncomputable def nj(x:V):Option Bool:=if h:x.ctorIdx=1 then V.bool.elim (motive_1:=fun _=>Option Bool) x h some else none
theorem tx(e:nj x=some r):x=.bool r:=
 (dI e).elim fun h e=>V.bool.elim x h (fun a h e=>congrArg V.bool (aR e)) h e
noncomputable def vI(x:V):Option Int:=if h:x.ctorIdx=2 then V.int.elim (motive_1:=fun _=>Option Int) x h some else none
theorem mc(e:vI x=some r):x=.int r:=
 (dI e).elim fun h e=>V.int.elim x h (fun a h e=>congrArg V.int (aR e)) h e
noncomputable def vS(x:V):Option Str:=if h:x.ctorIdx=3 then V.str.elim (motive_1:=fun _=>Option Str) x h some else none
theorem ty(e:vS x=some r):x=.str r:=
 (dI e).elim fun h e=>V.str.elim x h (fun a h e=>congrArg V.str (aR e)) h e
noncomputable def vT(x:V):Option (List V):=if h:x.ctorIdx=4 then V.tup.elim (motive_1:=fun _=>Option (List V)) x h some else none
theorem nn(e:vT x=some r):x=.tup r:=
 (dI e).elim fun h e=>V.tup.elim x h (fun a h e=>congrArg V.tup (aR e)) h e
noncomputable def vL(x:V):Option (List V):=if h:x.ctorIdx=5 then V.lst.elim (motive_1:=fun _=>Option (List V)) x h some else none
theorem kZ(e:vL x=some r):x=.lst r:=
 (dI e).elim fun h e=>V.lst.elim x h (fun a h e=>congrArg V.lst (aR e)) h e
noncomputable def HR(x:V):Option (List Int):=if h:x.ctorIdx=6 then V.seti.elim (motive_1:=fun _=>Option (List Int)) x h some else none
theorem Vy(e:HR x=some r):x=.seti r:=
 (dI e).elim fun h e=>V.seti.elim x h (fun a h e=>congrArg V.seti (aR e)) h e
noncomputable def wu(x:V):Option (List Str):=if h:x.ctorIdx=7 then V.sets.elim (motive_1:=fun _=>Option (List Str)) x h some else none
theorem HS(e:wu x=some r):x=.sets r:=
 (dI e).elim fun h e=>V.sets.elim x h (fun a h e=>congrArg V.sets (aR e)) h e
noncomputable def HQ(x:V):Option Bool:=if h:x.ctorIdx=8 then V.setb.elim (motive_1:=fun _=>Option Bool) x h some else none
theorem Vx(e:HQ x=some r):x=.setb r:=
 (dI e).elim fun h e=>V.setb.elim x h (fun a h e=>congrArg V.setb (aR e)) h e
noncomputable def HO(x:V):Option (ai×List (Nat×V)):=if h:x.ctorIdx=9 then V.ins.elim (motive_1:=fun _=>Option (ai×List (Nat×V))) x h (fun c fs=>some (c,fs)) else none
theorem Vw(e:HO x=some r):x=.ins r.1 r.2:=
 (dI e).elim fun h e=>V.ins.elim x h (fun c fs h e=>congrArg (fun r=>V.ins r.1 r.2) (aR e)) h e
noncomputable def vO(x:V):Option Nat:=if h:x.ctorIdx=10 then V.obj.elim (motive_1:=fun _=>Option Nat) x h some else none
theorem qU(e:vO x=some r):x=.obj r:=
 (dI e).elim fun h e=>V.obj.elim x h (fun a h e=>congrArg V.obj (aR e)) h e
noncomputable def vC(x:V):Option ae:=if h:x.ctorIdx=11 then V.cst.elim (motive_1:=fun _=>Option ae) x h some else none
theorem ki(e:vC x=some r):x=.cst r:=
 (dI e).elim fun h e=>V.cst.elim x h (fun a h e=>congrArg V.cst (aR e)) h e
noncomputable def vB(x:V):Option (String×V):=if h:x.ctorIdx=12 then V.bm.elim (motive_1:=fun _=>Option (String×V)) x h (fun id v=>some (id,v)) else none
theorem HN(e:vB x=some r):x=.bm r.1 r.2:=
 (dI e).elim fun h e=>V.bm.elim x h (fun id v h e=>congrArg (fun r=>V.bm r.1 r.2) (aR e)) h e
noncomputable def vE(x:V):Option (ae×List V):=if h:x.ctorIdx=13 then V.exc.elim (motive_1:=fun _=>Option (ae×List V)) x h (fun c Wt=>some (c,Wt)) else none
theorem Vu(e:vE x=some r):x=.exc r.1 r.2:=
 (dI e).elim fun h e=>V.exc.elim x h (fun c F h e=>congrArg (fun r=>V.exc r.1 r.2) (aR e)) h e
noncomputable def oL(x:O):Option (List V):=if h:x.ctorIdx=0 then O.list.elim (motive:=fun _=>Option (List V)) x h some else none
theorem lY(e:oL x=some r):x=.list r:=
 (dI e).elim fun h e=>O.list.elim x h (fun a h e=>congrArg O.list (aR e)) h e
noncomputable def oD(x:O):Option (List (Int×V)×Nat):=if h:x.ctorIdx=1 then O.dict.elim (motive:=fun _=>Option (List (Int×V)×Nat)) x h (fun es ep=>some (es,ep)) else none
theorem gr(e:oD x=some r):x=.dict r.1 r.2:=
 (dI e).elim fun h e=>O.dict.elim x h (fun es ep h e=>congrArg (fun r=>O.dict r.1 r.2) (aR e)) h e
noncomputable def oS(x:O):Option (List Int):=if h:x.ctorIdx=2 then O.set.elim (motive:=fun _=>Option (List Int)) x h some else none
theorem sP(e:oS x=some r):x=.set r:=
 (dI e).elim fun h e=>O.set.elim x h (fun a h e=>congrArg O.set (aR e)) h e
noncomputable def oI(x:O):Option (ai×List (Nat×V)):=if h:x.ctorIdx=3 then O.inst.elim (motive:=fun _=>Option (ai×List (Nat×V))) x h (fun c fs=>some (c,fs)) else none
theorem ow(e:oI x=some r):x=.inst r.1 r.2:=
 (dI e).elim fun h e=>O.inst.elim x h (fun c fs h e=>congrArg (fun r=>O.inst r.1 r.2) (aR e)) h e
noncomputable def oT(x:O):Option (ai×List (Nat×V)):=if h:x.ctorIdx=4 then O.slot.elim (motive:=fun _=>Option (ai×List (Nat×V))) x h (fun c fs=>some (c,fs)) else none
theorem zy(e:oT x=some r):x=.slot r.1 r.2:=
 (dI e).elim fun h e=>O.slot.elim x h (fun c fs h e=>congrArg (fun r=>O.slot r.1 r.2) (aR e)) h e
noncomputable def oR(x:O):Option (V×Nat):=if h:x.ctorIdx=5 then O.liter.elim (motive:=fun _=>Option (V×Nat)) x h (fun v i=>some (v,i)) else none
theorem Ro(e:oR x=some r):x=.liter r.1 r.2:=
 (dI e).elim fun h e=>O.liter.elim x h (fun v i h e=>congrArg (fun r=>O.liter r.1 r.2) (aR e)) h e
noncomputable def oc{α β:Type}(o:Option α)(g:M β)(f:α->M β):M β:=match o with|some a=>f a|none=>g
theorem vx{C:Prop}{f:j->M c}(e:oc o g f b=some r)(k:o=none->g b=some r->C)(l:∀a,o=some a->f a b=some r->C):C:=by
 cases o with
 |none=>exact k rfl e
 |some a=>exact l a rfl e
theorem mU{j:Type}{C c:Prop}[Decidable c]{m n:M j}{a:S}{r:j×S}(e:(if c then m else n) a=some r)(k:c->m a=some r->C)(l:¬ c->n a=some r->C):C:=
 (tO c).elim (fun h=>k h ((congrFun (if_pos h) a).symm.trans e)) fun h=>l h ((congrFun (if_neg h) a).symm.trans e)
noncomputable def cN{α:Type}:List α->Option α
 |[a]=>some a
 |_=>none
noncomputable def jf{α:Type}:List α->Option (α×α)
 |[a,b]=>some (a,b)
 |_=>none
noncomputable def wr{α:Type}:List α->Option (α×List α)
 |a::r=>some (a,r)
 |[]=>none
@[elab_as_elim] theorem wj{C:List j->Prop}(e:cN l=some a)(k:C [a]):C l:=by
 cases l with
 |nil=>exact am e
 |cons b r=>cases r with
  |nil=>exact cy e id k
  |cons=>exact am e
@[elab_as_elim] theorem se{C:List j->Prop}(e:jf l=some p)(k:C [p.1,p.2]):C l:=by
 cases l with
 |nil=>exact am e
 |cons a r=>cases r with
  |nil=>exact am e
  |cons b r=>cases r with
   |nil=>exact cy e id k
   |cons=>exact am e
noncomputable def rU:CR->Option V
 |.ret v=>some v
 |.exc _ _=>none
theorem Cj(e:rU r=some v):r=.ret v:=by
 cases r with
 |ret=>exact congrArg CR.ret (aR e)
 |exc=>exact am e
noncomputable def AF(u:ae):Option ai:=if h:u.ctorIdx=10 then J1 (motive:=fun _=>Option ai) u h some else none
noncomputable def sizeMax:Nat:=4000
noncomputable def cF(a b:Str):Bool:=a==b
mutual
noncomputable def py:V->rG
 |.bool b=>.bool b
 |.int i=>.int i
 |.str s=>.str s
 |.tup vs=>.tuple (pys vs)
 |.lst vs=>.list (pys vs)
 |.none|.seti _|.sets _|.setb _|.ins _ _|.obj _|.cst _|.bm _ _|.exc _ _=>.none
noncomputable def pys:List V->List rG
 |[]=>[]
 |v::r=>py v::pys r
end
def yo(v:V):Bool:=vN v||((nj v).any (fun _=>true)||((vI v).any (fun _=>true)||(vS v).any fL))
noncomputable def dD:Nat->V->Bool
 |0,v=>yo v
 |n+1,v=>yo v||((vT v).or (vL v)).any fun vs=>vs.all (dD n)
def md(a b:V):Option Bool:=((vI a).bind fun i=>(vI b).bind fun j=>some (decide (i=j))).or (((vS a).bind fun x=>(vS b).bind fun y=>some (cF x y)).or (if dD 6 a&&dD 6 b then some (pq (py a) (py b)) else none))
def ic(vs:List V):Bool:=vs.all fun v=>(vS v).isSome
def lO(vs:List V):Bool:=vs.all fun v=>(vI v).isSome
def gW(vs:List V):List Str:=vs.filterMap vS
def jo(vs:List V):List Int:=vs.filterMap vI
def kj(x:V)(vs:List V):Option Bool:=if dD 6 x&&vs.all (dD 6) then some (vs.any fun y=>pq (py y) (py x)) else none
noncomputable def aD(st:List O)(k:Nat):O:=st.getD k .dead
def cM(st:List O)(v:V):Option (List V):=(vL v).or ((vO v).bind fun k=>oL (aD st k))
def jF(st:List O)(v:V):Option Bool:=((vI v).bind fun i=>some (decide (i≠0))).or (((vS v).bind fun s=>if s.length<=sizeMax then some (s.length != 0) else none).or ((nj v).or
 (((vT v).bind fun vs=>some (!vs.isEmpty)).or (((cM st v).bind fun vs=>some (!vs.isEmpty)).or (if vN v then some false else none)))))
noncomputable def rR(op:nL)(a b:Int):Option V:=if op=.Add then some (.int (a+b)) else if op=.Sub then some (.int (a-b)) else if op=.Mult then(if a.natAbs<1000&&b.natAbs<1000 then some (.int (a*b)) else none)
 else if 0<b/\b<1000000 then(if op=.FloorDiv then some (.int (Int.fdiv a b)) else if op=.Mod then some (.int (Int.fmod a b)) else none) else none
def mG(op:nL)(st:List O)(a b:V):Option V:=((vI a).bind fun i=>(vI b).bind fun j=>rR op i j).or (if op=.Add then((vS a).bind fun x=>(vS b).bind fun y=>if x.length+y.length<=sizeMax then some (.str (x++y)) else none).or
 ((cM st a).bind fun xs=>(cM st b).bind fun ys=>if xs.length+ys.length<=sizeMax then some (.lst (xs++ys)) else none) else none)
def Q7(v:V):Bool:=(vO v).any (fun _=>true)||((vS v).any (fun _=>true)||((vI v).any (fun _=>true)||((vL v).any (fun _=>true)||((vT v).any (fun _=>true)||(vC v).any fun u=>decide (u.ctorIdx=8)))))
def Eb(v:V):Option Bool:=if vN v then some true else if Q7 v then some false else none
def yJ(a b:V):Option Bool:=if vN b then Eb a else none
def yG(st:List O)(a b:V):Option Bool:=((cM st b).bind fun vs=>kj a vs).or ((vO b).bind fun k=>(vI a).bind fun i=>((oS (aD st k)).bind fun xs=>some (xs.contains i)).or ((oD (aD st k)).bind fun d=>some ((d.1.map (·.1)).contains i)))
def fp(op:CmpOp)(st:List O)(a b:V):Option Bool:=if op=.Eq then md a b else if op=.NotEq then(md a b).map (!·) else if op=.Is then yJ a b else if op=.IsNot then(yJ a b).map (!·) else if op=.In then yG st a b else if op=.NotIn then(yG st a b).map (!·)
 else(vI a).bind fun i=>(vI b).bind fun j=>if op=.Lt then some (decide (i<j)) else if op=.GtE then some (decide (i≥j)) else none
noncomputable def place(n:Nat)(i:Int):Option Nat:=if 0<=i then(if i<n then some i.toNat else none) else(if -(n:Int)<=i then some (i+n).toNat else none)
noncomputable def cg(i:Int):List (Int×V)->Option V
 |[]=>none
 |(k,v)::r=>if k=i then some v else cg i r
noncomputable def gn(i:Int)(v:V):List (Int×V)->List (Int×V)
 |[]=>[(i,v)]
 |(k,u)::r=>if k=i then(k,v)::r else(k,u)::gn i v r
noncomputable def je(i:Int):List (Int×V)->List (Int×V)
 |[]=>[]
 |(k,u)::r=>if k=i then r else(k,u)::je i r
def fR(st:List O)(o i:V):Option V:=(vI i).bind fun j=>(((vT o).or (cM st o)).bind fun vs=>(place vs.length j).bind (vs[·]?)).or ((vO o).bind fun k=>(oD (aD st k)).bind fun d=>cg j d.1)
def oy(v:V):Option (Option Int):=((vI v).bind fun i=>some (some i)).or (if vN v then some none else none)
noncomputable def ez{α:Type}(xs:List α)(lo9 hi st:Option Int):List α:=(sliceRange (ti lo9 hi st xs.length).1 (ti lo9 hi st xs.length).2.1 (ti lo9 hi st xs.length).2.2).filterMap (xs[·]?)
def CQ{α:Type}(xs:List α)(l u st:V):Option (List α):=(oy l).bind fun a=>(oy u).bind fun b=>(oy st).bind fun c=>if c≠some 0 then some (ez xs a b c) else none
def jd(x:Str)(l u:V):Option Str:=(oy l).bind fun a=>(oy u).bind fun b=>if x.length<=sizeMax then some (if(IC a b 1 x.length).length==x.length then x else⟨((IC a b 1 x.length).filterMap (x.cps[·]?)).toArray⟩) else none
def kh(st:List O)(o l u k:V):Option V:=((vS o).bind fun s=>if vN k then(jd s l u).map .str else none).or ((cM st o).bind fun vs=>(CQ vs l u k).map .lst)
noncomputable def NV:List (Str×Nat):=[("useragents",0),("rulelines",1),("delay",2),("req_rate",3),("_node2info",4),("_ready_nodes",5),("_npassedout",6),("_nfinished",7),("node",8),("npredecessors",9),("successors",10)]
def dt(n:Str):Option Nat:=NV.lookup n
noncomputable def setF(f:Nat)(v:V):List (Nat×V)->List (Nat×V)
 |[]=>[(f,v)]
 |(g,u)::r=>if g=f then(f,v)::r else(g,u)::setF f v r
noncomputable def jl(f:Nat):List (Nat×V)->Option V
 |[]=>none
 |(g,u)::r=>if g=f then some u else jl f r
noncomputable def ac(d i:Nat):M V:=fun s=>((s.fs[d]?).bind (·[i]?)).bind fun o=>o.bind fun v=>some (v,s)
noncomputable def iU(i:Nat)(v:V):M Unit:=fun s=>match s.fs with
 |f::r=>some ((),{ s with fs:=f.set i (some v)::r })
 |[]=>none
noncomputable def newO(o:O):M V:=fun s=>some (.obj s.st.length,{ s with st:=s.st++[o] })
noncomputable def F4(k:Nat)(o:O):M Unit:=fun s=>some ((),{ s with st:=s.st.set k o })
noncomputable def store:M (List O):=fun s=>some (s.st,s)
noncomputable def cC(v:V):M V:=pure v
noncomputable def hZ:List (M V)->M (List V)
 |[]=>pure []
 |m::r=>do
  let v<-m
  let vs<-hZ r
  pure (v::vs)
def Eg(st:List O)(v:V):Option (List V):=cM st v
noncomputable def jX:List (Bool×M V)->M (List V)
 |[]=>pure []
 |(star,m)::r=>do
  let v<-m
  let here<-(if star then(do M.lift (Eg (<-store) v)) else pure [v])
  let vs<-jX r
  pure (here++vs)
noncomputable def yX:List (Bool×M V)->Bool
 |[(true,_)]=>true
 |_=>false
def dY(Wt:List (Bool×M V)):M (List V):=if yX Wt then M.fail else jX Wt
def cu(m:M V):M Bool:=do
 let v<-m
 M.lift (jF (<-store) v)
def cT(op:nL)(a b:M V):M V:=do
 let x<-a
 let y<-b
 M.lift (mG op (<-store) x y)
def aO(op:CmpOp)(a b:M V):M Bool:=do
 let x<-a
 let y<-b
 M.lift (fp op (<-store) x y)
def kC(op:CmpOp)(a b:M V):M V:=do
 let b<-aO op a b
 pure (.bool b)
noncomputable def pK:List (M V)->M V
 |[]=>M.fail
 |[m]=>m
 |m::r=>do
  let v<-m
  if <- M.lift (jF (<-store) v) then pK r else pure v
noncomputable def kE:List (M V)->M V
 |[]=>M.fail
 |[m]=>m
 |m::r=>do
  let v<-m
  if <- M.lift (jF (<-store) v) then pure v else kE r
noncomputable def ge:List (M Bool)->M Bool
 |[]=>pure true
 |m::r=>do if <- m then ge r else pure false
noncomputable def gy:List (M Bool)->M Bool
 |[]=>pure false
 |m::r=>do if <- m then pure true else gy r
noncomputable def jc(t:M Bool)(a b:M V):M V:=do if <- t then a else b
def Ch(t:M V):M V:=do
 let v<-t
 let b<-M.lift (jF (<-store) v)
 pure (.bool !b)
def EY(v:V):Option V:=(vI v).bind fun i=>some (.int (-i))
def gm(t:M V):M V:=do
 let v<-t
 M.lift (EY v)
def pM(i:Nat)(m:M V):M V:=do
 let v<-m
 iU i v
 pure v
def bY(own:Bool)(ms:List (M V)):M V:=do
 let vs<-hZ ms
 if vs.length<=sizeMax then(if own then newO (.list vs) else pure (.lst vs)) else M.fail
def dZ(ms:List (M V)):M V:=do
 let vs<-hZ ms
 if vs.length<=sizeMax then pure (.tup vs) else M.fail
def cDict0:M V:=newO (.dict [] 0)
def aX(o i:M V):M V:=do
 let x<-o
 let y<-i
 M.lift (fR (<-store) x y)
def dg(o l u k:M V):M V:=do
 let x<-o
 let a<-l
 let b<-u
 let c<-k
 M.lift (kh (<-store) x a b c)
def E6(v:V):Bool:=(vC v).isNone
def n8(o:Option V):Option V:=o.bind fun v=>if E6 v then some v else none
def kB(st:List O)(f:Option Nat)(v:V):Option V:=f.bind fun f=>((HO v).or ((vO v).bind fun k=>(oI (aD st k)).or (oT (aD st k)))).bind fun p=>n8 (jl f p.2)
def bT(f:Option Nat)(o:M V):M V:=do
 let x<-o
 M.lift (kB (<-store) f x)
inductive cn where
 |vals (vs:List V)
 |lidx (k i:Nat)
 |didx (k i m ep:Nat) (sel:Bool)
 |enum (j:Nat) (vs:List V)
def cn.next(st:List O):cn->Option (Option (V×cn))
 |.vals l=>some ((wr l).map fun p=>(p.1,.vals p.2))
 |.lidx k i=>(oL (aD st k)).map fun vs=>vs[i]?.map fun v=>(v,.lidx k (i+1))
 |.didx k i m ep sel=>(oD (aD st k)).bind fun d=>if d.2=ep/\d.1.length=m then some (d.1[i]?.map fun p=>(if sel then p.2 else .int p.1,.didx k (i+1) m ep sel)) else none
 |.enum j l=>some ((wr l).map fun p=>(.tup [.int j,p.1],.enum (j+1) p.2))
def sI(st:List O)(v:V):Option (Nat×cn):=(((vL v).or (vT v)).map fun vs=>(vs.length,.vals vs)).or ((vO v).bind fun k=>((oL (aD st k)).map fun vs=>(vs.length,.lidx k 0)).or ((oD (aD st k)).map fun d=>(d.1.length,.didx k 0 d.1.length d.2 false)))
noncomputable def kU(a b:Int):List V:=(iE (b-a).toNat).map fun(i:Nat)=>.int (a+i)
abbrev IM:=M (Nat×cn)
def iV(m:M V):IM:=do
 let v<-m
 M.lift (sI (<-store) v)
def C9(v:V):Option (Nat×cn):=(vL v).map fun vs=>(vs.length,.enum 0 vs)
def jm(m:M V):IM:=do
 let v<-m
 M.lift (C9 v)
def Gk(v:V):Option (Nat×cn):=(vI v).bind fun n=>if -1000<n/\n<1000 then some (n.toNat,.vals (kU 0 n)) else none
def Gm(u v:V):Option (Nat×cn):=(vI u).bind fun i=>(vI v).bind fun n=>if -1000<i/\i<1000/\-1000<n/\n<1000 then some ((n-i).toNat,.vals (kU i n)) else none
def HU(st:List O)(v:V):Option (Nat×cn):=(vO v).bind fun k=>(oD (aD st k)).map fun d=>(d.1.length,.didx k 0 d.1.length d.2 true)
def j5(m:M V):IM:=do
 let v<-m
 M.lift (Gk v)
def p7(a m:M V):IM:=do
 let u<-a
 let v<-m
 M.lift (Gm u v)
def sz(m:M V):IM:=do
 let v<-m
 M.lift (HU (<-store) v)
noncomputable def gM(j:Nat):List V->List V
 |[]=>[]
 |v::r=>.tup [.int j,v]::gM (j+1) r
def tj:cn->Option (List V)
 |.vals vs=>if vs.length<=sizeMax then some vs else none
 |.enum j vs=>if vs.length<=sizeMax then some (gM j vs) else none
 |.lidx _ _|.didx _ _ _ _ _=>none
noncomputable def kf:List Nat->List V->M Unit
 |i::is,v::vs=>do iU i v;kf is vs
 |[],_|_::_,[]=>pure ()
def pL(is:List Nat)(v:V):M Unit:=oc (vT v) (oc (HQ v) M.fail fun b=>if is.length=1 then kf is [.bool b] else M.fail) fun vs=>if vs.length=is.length/\is.Nodup then kf is vs else M.fail
inductive Tgt where
 |name (i:Nat)
 |names (is:List Nat)
 |bad
def Tgt.set:Tgt->V->M Unit
 |.name i,v=>iU i v
 |.names is,v=>pL is v
 |.bad,_=>M.fail
def Tgt.setFrom(t:Tgt):cn->V->M Unit
 |.enum _ _,v=>match t with
  |.names is=>pL is v
  |.name _|.bad=>M.fail
 |.vals _,v|.lidx _ _,v|.didx _ _ _ _ _,v=>t.set v
noncomputable def jk(t:Tgt)(body:List V->M (List V)):Nat->cn->List V->M (List V)
 |0,src,acc=>do match src.next (<-store) with
  |some none=>pure acc
  |_=>M.fail
 |n+1,src,acc=>do match src.next (<-store) with
  |some none=>pure acc
  |some (some (v,Wz))=>do
   t.setFrom src v
   let WT<-body acc
   jk t body n Wz WT
  |none=>M.fail
noncomputable def fm:List (M Bool)->M (List V)->M (List V)->M (List V)
 |[],yes,_=>yes
 |c::r,yes,no=>do if <- c then fm r yes no else no
structure iy where
 tgt:Tgt
 ifs:List (M Bool)
abbrev Emit:=V->List V->Option (List V)
def im:Emit:=fun v acc=>if acc.length<sizeMax then some (acc++[v]) else none
def m4:Emit:=fun v acc=>(nj v).bind fun b=>if acc.isEmpty then some [.bool b] else(cN acc).bind fun w=>(nj w).bind fun c=>if b==c then some acc else none
noncomputable def iJ(WL:Emit)(elt:M V):List (iy×IM)->List V->M (List V)
 |[],acc=>do
  let v<-elt
  M.lift (WL v acc)
 |(c,it)::r,acc=>do
  let p<-it
  jk c.tgt (fun acc=>fm c.ifs (iJ WL elt r acc) (pure acc)) p.1 p.2 acc
noncomputable def SL(n:Nat):M Unit:=fun s=>some ((),{ s with fs:=jN n none::s.fs })
noncomputable def Sa:M Unit:=fun s=>some ((),{ s with fs:=s.fs.tail })
def comp(WL:Emit)(n:Nat)(elt:M V)(first:IM)(c:iy)(r:List (iy×IM)):M (List V):=do
 let p<-first
 SL n
 let out<-jk c.tgt (fun acc=>fm c.ifs (iJ WL elt r acc) (pure acc)) p.1 p.2 []
 Sa
 pure out
def bN(own:Bool)(n:Nat)(elt:M V)(first:IM)(c:iy)(r:List (iy×IM)):M V:=do
 let vs<-comp im n elt first c r
 if own then newO (.list vs) else pure (.lst vs)
noncomputable def dq{α:Type}[BEq α]:List α->List α->List α
 |[],acc=>acc
 |x::r,acc=>if acc.contains x then dq r acc else dq r (acc++[x])
def Rw(acc:List V):Option V:=(cN acc).bind fun v=>(nj v).map .setb
def rV(n:Nat)(elt:M V)(first:IM)(c:iy)(r:List (iy×IM)):M V:=do
 let vs<-comp m4 n elt first c r
 M.lift (Rw vs)
abbrev K:=ai->List V->List O->Option (CR×List O)
def mI(k:K)(a:ai)(Wt:List V):M V:=fun s=>(k a Wt s.st).bind fun p=>(rU p.1).bind fun v=>some (v,{ s with st:=p.2 })
def ct(k:K)(a:ai)(Wt:List (Bool×M V)):M V:=do
 let vs<-dY Wt
 mI k a vs
structure Cls where
 init:ai
 slots:Bool
 meths:List (Str×ai)
def E0(k:K)(c:ai)(cl:Cls)(vs:List V):M V:=do
 let o<-newO (if cl.slots then .slot c [] else .inst c [])
 let r<-mI k cl.init (o::vs)
 if vN r then pure o else M.fail
def nT(k:K)(c:ai)(cl:Cls)(Wt:List (Bool×M V)):M V:=do
 let vs<-dY Wt
 E0 k c cl vs
noncomputable def js:List Nat->List Nat->Bool
 |_,[]=>false
 |[],_::_=>true
 |a::r,b::t=>if a=b then js r t else decide (a<b)
def wm(a b:Str):Bool:=js a.cps.toList b.cps.toList
noncomputable def bU:List Str->List Str->Bool
 |_,[]=>false
 |[],_::_=>true
 |a::r,b::t=>if cF a b then bU r t else wm a b
def qk(u v:V):Option Bool:=(vL u).bind fun a=>(vL v).bind fun b=>if ic a&&ic b then some (bU (gW a) (gW b)) else none
noncomputable def qQ:List V->Int->Option Int
 |[],a=>some a
 |v::r,a=>(vI v).bind fun i=>qQ r (a+i)
noncomputable def j6(x:Int):List Int->List Int
 |[]=>[x]
 |y::r=>if x<y then x::y::r else y::j6 x r
noncomputable def iw:List Int->List Int
 |[]=>[]
 |x::r=>j6 x (iw r)
def kD(it:IM):M V:=do
 let p<-it
 M.lift ((tj p.2).map .lst)
inductive B1 where
 |len|min|max|sum|sorted|type|str|set|tuple
noncomputable def B1.fn:B1->ae
 |.len=>.builtin "len" |.min=>.builtin "min" |.max=>.builtin "max" |.sum=>.builtin "sum" |.sorted=>.builtin "sorted"
 |.type=>.type "type" |.str=>.type "str" |.set=>.type "set" |.tuple=>.type "tuple"
def eI(b:B1)(st:List O)(v:V):Option V:=match b with
 |.len=>((vT v).bind fun vs=>some (.int vs.length)).or (((HR v).bind fun xs=>some (.int xs.length)).or (((wu v).bind fun xs=>some (.int xs.length)).or ((cM st v).bind fun vs=>some (.int vs.length))))
 |.min=>(vL v).bind fun l=>(jf l).bind fun p=>(qk p.2 p.1).bind fun t=>some (if t then p.2 else p.1)
 |.max=>(vL v).bind fun l=>(jf l).bind fun p=>(qk p.1 p.2).bind fun t=>some (if t then p.2 else p.1)
 |.sum=>(vL v).bind fun vs=>(qQ vs 0).bind fun i=>some (.int i)
 |.sorted=>(cM st v).bind fun vs=>if lO vs&&vs.length<60 then some (.lst ((iw (jo vs)).map .int)) else none
 |.type=>(vS v).bind fun _=>some (.cst (.type "str"))
 |.str=>(vE v).bind fun p=>(cN p.2).bind fun w=>(vS w).bind fun s=>if p.1==.type "ValueError" then some (.str s) else none
 |.set=>(cM st v).bind fun vs=>if ic vs then some (.sets (dq (gW vs) [])) else if lO vs then some (.seti (dq (jo vs) [])) else none
 |.tuple=>(cM st v).bind fun vs=>some (.tup vs)
def c1(b:B1)(m:M V):M V:=do
 let v<-m
 M.lift (eI b (<-store) v)
inductive B2 where
 |max|min|isinst|issub
noncomputable def B2.fn:B2->ae
 |.max=>.builtin "max" |.min=>.builtin "min" |.isinst=>.builtin "isinstance" |.issub=>.builtin "issubclass"
def nS(b:B2)(x y:V):Option V:=match b with
 |.max=>(vI x).bind fun i=>(vI y).bind fun j=>some (.int (if j>i then j else i))
 |.min=>(vI x).bind fun i=>(vI y).bind fun j=>some (.int (if j<i then j else i))
 |.isinst=>(vS x).bind fun _=>(vC y).bind fun u=>if u==.type "bytes" then some (.bool false) else none
 |.issub=>(vC x).bind fun u=>(vT y).bind fun l=>(jf l).bind fun p=>(vC p.1).bind fun a=>(vC p.2).bind fun b=>if u==.type "str" && (a==.type "str" && b==.type "bytes") then some (.bool true) else none
def c2(b:B2)(m k:M V):M V:=do
 let x<-m
 let y<-k
 M.lift (nS b x y)
def cSet0:M V:=newO (.set [])
def two(r:V->V->List O->Option (List V))(f x:M V):M (List V):=do
 let g<-f
 let v<-x
 M.lift (r g v (<-store))
def Ei(v:V):Option (List Str):=(vB v).bind fun p=>(wu p.2).bind fun keep=>if p.1 == "set.__contains__" then some keep else none
def NX(g v:V)(_:List O):Option (List V):=(Ei g).bind fun keep=>(vL v).bind fun vs=>if ic vs then some (((gW vs).filter keep.contains).map .str) else none
def yj(f x:M V):M (List V):=two NX f x
def xC(f x:M V):M V:=do
 let vs<-yj f x
 pure (.lst vs)
def uq(o:M V):M V:=do
 let v<-o
 M.lift ((wu v).bind fun xs=>some (.bm "set.__contains__" (.sets xs)))
def ur(m:M V):M V:=do
 let v<-m
 let _<-M.lift (cM (<-store) v)
 let o<-newO (.liter v 0)
 pure (.bm "list_iterator.__next__" o)
noncomputable def om(k:K)(a:ai):List V->Option (List V)
 |[]=>some []
 |x::r=>(k a [x] []).bind fun p=>(rU p.1).bind fun y=>if p.2.isEmpty then(om k a r).bind fun l=>some (y::l) else none
def Tp(v:V):Option ai:=(vC v).bind AF
def Vi(k:K)(g v:V)(st:List O):Option (List V):=(Tp g).bind fun a=>(vL v).bind fun vs=>if st.isEmpty then om k a vs else none
def Ay(k:K)(f x:M V):M (List V):=two (Vi k) f x
def xD(k:K)(f x:M V):M V:=do
 let vs<-Ay k f x
 pure (.tup vs)
def qb(sep:Str)(vs:List V):Option V:=
 if ic vs&&decide ((gW vs).length<=100)&&(gW vs).all (fun s=>decide (s.length<=100))&&decide (sep.length<=100) then some (.str (pB sep (gW vs))) else none
inductive BI where
 |starts|ends|split|join|append|extend|pop|clear|get|add
noncomputable def BI.id:BI->String
 |.starts => "str.startswith" |.ends => "str.endswith" |.split => "str.split" |.join => "str.join"
 |.append => "list.append" |.extend => "list.extend" |.pop => "list.pop" |.clear => "list.clear" |.get => "dict.get" |.add => "set.add"
inductive Meth where
 |bi (b:BI)
 |fn (a:ai)
noncomputable def UY(n:Str):Option BI:=
 if n==("startswith" : Str) then some .starts else if n==("endswith" : Str) then some .ends else if n==("split" : Str) then some .split else if n==("join" : Str) then some .join else none
noncomputable def yT(n:Str):Option BI:=
 if n==("append" : Str) then some .append else if n==("extend" : Str) then some .extend else if n==("pop" : Str) then some .pop else if n==("clear" : Str) then some .clear else none
noncomputable def CX(n:Str):Option BI:=if n==("get" : Str) then some .get else none
noncomputable def GZ(n:Str):Option BI:=if n==("add" : Str) then some .add else none
def jr(meth:ai->Str->Option ai)(name:Str)(st:List O)(v:V):Option Meth:=((vS v).bind fun _=>(UY name).map .bi).or ((vO v).bind fun j=>((oL (aD st j)).bind fun _=>(yT name).map .bi).or (((oD (aD st j)).bind fun _=>(CX name).map .bi).or
 (((oS (aD st j)).bind fun _=>(GZ name).map .bi).or ((oI (aD st j)).bind fun p=>(meth p.1 name).map .fn))))
def qP(s t:Str):Bool:=t.length==1&&decide (s.length<=sizeMax)&&decide ((IA s (AN s t 0 s.length (s.length+1)) t.length).length<=sizeMax)&&decide ((eS s t).length<=sizeMax)
def sL(st:List O)(o:V):Option (Nat×List V):=(vO o).bind fun j=>(oL (aD st j)).bind fun vs=>some (j,vs)
def iH(b:BI)(o:V)(Wt:List V)(st:List O):Option (V×List O):=match b with
 |.starts=>(vS o).bind fun s=>(cN Wt).bind fun w=>(vS w).bind fun t=>some (.bool (jU s t),st)
 |.ends=>(vS o).bind fun s=>(cN Wt).bind fun w=>(vS w).bind fun t=>some (.bool (uf s t),st)
 |.split=>(vS o).bind fun s=>(cN Wt).bind fun w=>(vS w).bind fun t=>if qP s t then some (.lst ((eS s t).map .str),st) else none
 |.join=>(vS o).bind fun s=>(cN Wt).bind fun w=>(cM st w).bind fun vs=>(qb s vs).bind fun r=>some (r,st)
 |.append=>(sL st o).bind fun p=>(cN Wt).bind fun v=>if p.2.length<sizeMax then some (.none,st.set p.1 (.list (p.2++[v]))) else none
 |.extend=>(sL st o).bind fun p=>(cN Wt).bind fun v=>(cM st v).bind fun ws=>if p.2.length+ws.length<sizeMax then some (.none,st.set p.1 (.list (p.2++ws))) else none
 |.pop=>(sL st o).bind fun p=>if Wt.isEmpty then p.2.getLast?.bind fun v=>some (v,st.set p.1 (.list p.2.dropLast)) else none
 |.clear=>(sL st o).bind fun p=>if Wt.isEmpty then some (.none,st.set p.1 (.list [])) else none
 |.get=>(vO o).bind fun j=>(oD (aD st j)).bind fun d=>(cN Wt).bind fun w=>(vI w).bind fun i=>some ((cg i d.1).getD .none,st)
 |.add=>(vO o).bind fun j=>(oS (aD st j)).bind fun vs=>(cN Wt).bind fun w=>(vI w).bind fun i=>if vs.contains i then some (.none,st) else if vs.length<sizeMax then some (.none,st.set j (.set (vs++[i]))) else none
def Lx(k:K)(m:Meth)(o:V)(Wt:List V):M V:=match m with
 |.bi b=>fun s=>(iH b o Wt s.st).map fun p=>(p.1,{ s with st:=p.2 })
 |.fn a=>mI k a (o::Wt)
noncomputable def Meth.okArgs(m:Meth)(Wt:List (Bool×M V)):Bool:=match m with
 |.bi _=>!Wt.any (·.1)
 |.fn _=>true
def bJ(k:K)(meth:ai->Str->Option ai)(name:Str)(o:M V)(Wt:List (Bool×M V)):M V:=do
 let v<-o
 let m<-M.lift (jr meth name (<-store) v)
 if m.okArgs Wt then do
  let vs<-dY Wt
  Lx k m v vs
 else M.fail
noncomputable def fW(m:M V):M Fl:=do
 let _<-m
 pure .next
noncomputable def cA(m:M V):M Fl:=do
 let v<-m
 pure (.ret v)
def aS(m:M V)(t:Tgt):M Fl:=do
 let v<-m
 t.set v
 pure .next
noncomputable def tv(g:List O->Option (List O)):M Unit:=fun s=>(g s.st).bind fun st=>some ((),{ s with st })
def Ud(f:Option Nat)(o v:V)(st:List O):Option (List O):=f.bind fun f=>(vO o).bind fun j=>((oI (aD st j)).bind fun p=>if p.2.length<20/\f<=10 then some (st.set j (.inst p.1 (setF f v p.2))) else none).or
 ((oT (aD st j)).bind fun p=>if 8<=f/\f<=10 then some (st.set j (.slot p.1 (setF f v p.2))) else none)
def eB(f:Option Nat)(o v:V):M Unit:=tv (Ud f o v)
def eQ(f:Option Nat)(o m:M V):M Fl:=do
 let v<-m
 let x<-o
 eB f x v
 pure .next
def vH(v:V):Option (V×V):=(vT v).bind jf
def we(f:Option Nat)(o:M V)(g:Option Nat)(p m:M V):M Fl:=do
 let w<-m
 let uv<-M.lift (vH w)
 let x<-o
 eB f x uv.1
 let y<-p
 eB g y uv.2
 pure .next
def Ue(o i v:V)(st:List O):Option (List O):=(vO o).bind fun j=>(vI i).bind fun n=>(oD (aD st j)).bind fun d=>if(cg n d.1).isSome then some (st.set j (.dict (gn n v d.1) d.2)) else if d.1.length<sizeMax then some (st.set j (.dict (gn n v d.1) (d.2+1))) else none
def jB(o i v:V):M Unit:=tv (Ue o i v)
def tb(o i m:M V):M Fl:=do
 let v<-m
 let x<-o
 let y<-i
 jB x y v
 pure .next
def wf(o i m:M V)(t:Tgt):M Fl:=do
 let v<-m
 let x<-o
 let y<-i
 jB x y v
 t.set v
 pure .next
def BS(op:nL)(x y:V):Option V:=if op=.Add then(vS x).bind fun a=>(vS y).bind fun b=>if a.length+b.length<=sizeMax then some (.str (a++b)) else none else none
def xw(op:nL)(x y:V):Option V:=(vI x).bind fun a=>(vI y).bind fun b=>if op=.Add then some (.int (a+b)) else if op=.Sub then some (.int (a-b)) else none
def ta(op:nL)(i:Nat)(m:M V):M Fl:=do
 let x<-ac 0 i
 let y<-m
 let v<-M.lift (BS op x y)
 iU i v
 pure .next
def oK(op:nL)(f:Option Nat)(o m:M V):M Fl:=do
 let x<-o
 let old<-M.lift (kB (<-store) f x)
 let y<-m
 let v<-M.lift (xw op old y)
 eB f x v
 pure .next
def Mp(o i:V)(st:List O):Option (List O):=(vO o).bind fun j=>(vI i).bind fun n=>(oD (aD st j)).bind fun d=>if(cg n d.1).isSome/\d.1.length<=sizeMax then some (st.set j (.dict (je n d.1) (d.2+1))) else none
def CV(o i:V):M Unit:=tv (Mp o i)
def wb(o i:M V):M Fl:=do
 let x<-o
 let y<-i
 CV x y
 pure .next
noncomputable def bW(t:M Bool)(a b:M Fl):M Fl:=do if <- t then a else b
noncomputable def au:List (M Fl)->M Fl
 |[]=>pure .next
 |m::r=>do
  match <- m with
  |.next=>au r
  |f=>pure f
noncomputable def gw(t:M Bool)(body WD:M Fl):Nat->M Fl
 |0=>M.fail
 |n+1=>do
  if <- t then
   match <- body with
   |.next|.cont=>gw t body WD n
   |.brk=>pure .next
   |.ret v=>pure (.ret v)
   |.exc _ _=>M.fail
  else match <- WD with
   |.exc _ _=>M.fail
   |f=>pure f
noncomputable def dM(t:Tgt)(body:M Fl):Nat->cn->M Fl
 |0,src=>do match src.next (<-store) with
  |some none=>pure .next
  |_=>M.fail
 |n+1,src=>do match src.next (<-store) with
  |some none=>pure .next
  |some (some (v,Wz))=>do
   t.setFrom src v
   match <- body with
   |.next|.cont=>dM t body n Wz
   |.brk=>pure .next
   |.ret v=>pure (.ret v)
   |.exc _ _=>M.fail
  |none=>M.fail
def fx(t:Tgt)(it:IM)(body:M Fl):M Fl:=do
 let p<-it
 dM t body p.1 p.2
def ke(c:ae)(Wt:List (M V)):M Fl:=do
 let vs<-hZ Wt
 if vs.length<=sizeMax then pure (.exc c vs) else M.fail
def tc(body:M Fl):M Fl:=do
 match <- body with
 |.exc _ _=>M.fail
 |f=>pure f
def ql(st:List O)(v:V):Option (Nat×V×Nat×Option V):=(vB v).bind fun p=>(vO p.2).bind fun j=>if p.1 == "list_iterator.__next__" then(oR (aD st j)).bind fun q=>(cM st q.1).bind fun vs=>some (j,q.1,q.2,vs[q.2]?) else none
def qM(t:Tgt)(f:M V)(handler:M Fl):M Fl:=do
 let g<-f
 let p<-M.lift (ql (<-store) g)
 match p with
 |(j,src,i,some v)=>do
  F4 j (.liter src (i+1))
  t.set v
  pure .brk
 |(j,_,_,none)=>do
  F4 j .dead
  match <- handler with
  |.next=>pure .next
  |_=>M.fail
def zd(meth:ai->Str->Option ai)(name:Str)(st:List O)(v:V):Option ai:=(vO v).bind fun j=>(oI (aD st j)).bind fun p=>meth p.1 name
def uo(i:Option Nat)(v:V):M Unit:=match i with
 |some i=>iU i v
 |none=>pure ()
noncomputable def xS(i:Nat):M Unit:=fun s=>match s.fs with
 |f::r=>some ((),{ s with fs:=f.set i none::r })
 |[]=>none
def AC(i:Option Nat):M Unit:=match i with
 |some i=>xS i
 |none=>pure ()
noncomputable def n9(c:ae)(Wt:List V):List (ae×Option Nat×M Fl)->M Fl
 |[]=>M.fail
 |(d,i,h)::r=>if d==c then do
   uo i (.exc c Wt)
   match <- h with
   |.ret v=>do
    AC i
    pure (.ret v)
   |_=>M.fail
  else if d==.ref 104&&c==.type "ValueError" then n9 c Wt r else M.fail
def td(k:K)(meth:ai->Str->Option ai)(name:Str)(o:M V)(hs:List (ae×Option Nat×M Fl)):M Fl:=do
 let v<-o
 let a<-M.lift (zd meth name (<-store) v)
 fun s=>match k a [v] s.st with
  |some (.ret _,Wv)=>some (.next,{ s with st:=Wv })
  |some (.exc c Wt,Wv)=>n9 c Wt hs { s with st:=Wv }
  |none=>none
def dh{α:Type}(b:Bool)(m:M α):M α:=match b with|true=>m|false=>M.fail
noncomputable def br{α:Type}(b:Bool)(m m':M α):M α:=match b with|true=>m|false=>m'
noncomputable def nQ(x:Expr):Option (Expr×Str×ef):=if h:x.ctorIdx=20 then IJ (motive_1:=fun _=>Option (Expr×Str×ef)) x h (fun o n p=>some (o,n,p)) else none
noncomputable def uW(x:Expr):Option (Expr×Expr):=if h:x.ctorIdx=21 then IP (motive_1:=fun _=>Option (Expr×Expr)) x h (fun o i _=>some (o,i)) else none
noncomputable def lV(x:Expr):Option (Str):=if h:x.ctorIdx=23 then IN (motive_1:=fun _=>Option (Str)) x h (fun n _=>some n) else none
noncomputable def rW(x:Expr):Option (Expr×List Expr×ef):=if h:x.ctorIdx=16 then IK (motive_1:=fun _=>Option (Expr×List Expr×ef)) x h (fun f as ks p=>if ks.isEmpty then some (f,as,p) else none) else none
noncomputable def CN(x:Expr):Option (Const):=if h:x.ctorIdx=19 then IL (motive_1:=fun _=>Option (Const)) x h (fun k _ _=>some k) else none
noncomputable def Hb(x:Const):Option (Str):=if h:x.ctorIdx=5 then IG (motive:=fun _=>Option (Str)) x h (some) else none
noncomputable def qT(x:Expr):Option (List Expr):=if h:x.ctorIdx=25 then IQ (motive_1:=fun _=>Option (List Expr)) x h (fun es _ _=>some es) else none
abbrev cstOf:=vC
noncomputable def AB(x:ae):Option (String):=if h:x.ctorIdx=8 then Bu (motive:=fun _=>Option (String)) x h (some) else none
noncomputable def Cf(x:ae):Option (String):=if h:x.ctorIdx=9 then JZ (motive:=fun _=>Option (String)) x h (some) else none
noncomputable def BJ(x:cW):Option (List Expr×Expr):=if h:x.ctorIdx=5 then JX (motive_2:=fun _=>Option (List Expr×Expr)) x h (fun ts e _=>some (ts,e)) else none
noncomputable def Dr(x:cW):Option (Expr):=if h:x.ctorIdx=24 then JY (motive_2:=fun _=>Option (Expr)) x h (fun e _=>some e) else none
noncomputable def D7(s:cW):Bool:=decide (s.ctorIdx=26)
def BR(t:Expr):Option ((Expr×Str×ef)×Expr×Str×ef):=(qT t).bind fun es=>(jf es).bind fun p=>(nQ p.1).bind fun a=>(nQ p.2).map fun b=>(a,b)
def E1(a:List cW):Option (Expr×Expr):=(jf a).bind fun p=>(BJ p.1).bind fun q=>(cN q.1).bind fun t=>(rW q.2).bind fun r=>if r.2.1.isEmpty&&D7 p.2 then some (t,r.1) else none
def G3(a:List cW):Option ((Expr×Str×ef)×ef):=(cN a).bind fun s=>(Dr s).bind fun e=>(rW e).bind fun r=>(nQ r.1).bind fun p=>if r.2.1.isEmpty then some (p,r.2.2) else none
structure Ctx where
 G:Str->Option V
 k:K
 meth:ai->Str->Option ai
 cls:ai->Option Cls
 own:ef->Bool
 lf:Nat
 hd:Bool
noncomputable def cv(n:Str):List (Str×gC)->Nat->Option (Nat×gC)
 |[],_=>none
 |(m,k)::r,i=>if m==n then some (i,k) else cv n r (i+1)
noncomputable def nV(n:Str):List aL->Option (Nat×Nat)
 |[]=>none
 |sc::r=>(cv n sc.names 0).bind fun p=>if p.2=.cell then some (0,p.1) else if p.2=.free then(nV n r).bind fun q=>some (q.1+1,q.2) else none
def vc(n:Str):List aL->Option (Nat×Nat)
 |[]=>none
 |sc::r=>(cv n sc.names 0).bind fun p=>if p.2=.local∨p.2=.cell then some (0,p.1) else if p.2=.free then(nV n r).bind fun q=>some (q.1+1,q.2) else none
def Ea(n:Str):List aL->Bool
 |[]=>false
 |sc::_=>(cv n sc.names 0).any fun p=>decide (p.2=.globalImplicit)
def fo(n:Str):List aL->Option Nat
 |[]=>none
 |s::_=>(cv n s.names 0).bind fun p=>if p.2=.local∨p.2=.cell then some p.1 else none
noncomputable def rO(id:Str):Bool:=id==("__debug__" : Str)||id==("__classdict__" : Str)
def eM(c:Ctx)(sc:List aL)(e:Expr):Option V:=(lV e).bind fun id=>if rO id then none else if Ea id sc then c.G id else none
def qC(c:Ctx)(sc:List aL)(id:Str):M V:=if rO id then M.fail else oc (vc id sc) (if Ea id sc then oc (c.G id) M.fail cC else M.fail) fun p=>ac p.1 p.2
def FE:Const->M V
 |.none=>cC .none
 |.bool b=>cC (.bool b)
 |.int i=>cC (.int i)
 |.str s=>cC (.str s)
 |.float _|.complex _ _|.bytes _|.ellipsis=>M.fail
noncomputable def oq(sc:List aL):List Expr->Option (List Nat)
 |[]=>some []
 |e::r=>(lV e).bind fun id=>(fo id sc).bind fun i=>(oq sc r).bind fun is=>some (i::is)
def dk(sc:List aL)(e:Expr):Tgt:=(lV e).elim (((qT e).bind (oq sc)).elim .bad .names) fun id=>(fo id sc).elim .bad .name
noncomputable def PP(s:aL):Bool:=s.names.all fun p=>p.2==.local||p.2==.cell||p.2==.free||p.2==.globalImplicit
def vz(s:aL)(sc:List aL)(WH:List fc):Bool:=
 (s.kind==.function)&&decide ((s.names.map (·.1)).Nodup)&&PP s&&s.names.all (fun p=>p.2 != .free||(nV p.1 sc).isSome)&&WH.all fun g=>g.is_async==0
noncomputable def sE(e:Expr):Bool:=decide (e.ctorIdx=8)||(decide (e.ctorIdx=9)||decide (e.ctorIdx=10))
def xR(e:Expr):Bool:=(qT e).any fun vs=>vs.all (constantsAlone 8)
def lM(n:Str):List aL->Option Nat
 |[]=>none
 |s::_=>(cv n s.names 0).bind fun p=>if p.2=.local then some p.1 else none
noncomputable def G0(t e:Expr):Bool:=decide (t.ctorIdx=23)&&decide (e.ctorIdx=9)
noncomputable def yF(e:Expr):Bool:=decide (e.ctorIdx=20)
def lP(e:Expr):Bool:=(rW e).any fun r=>r.2.1.isEmpty&&(lV r.1).any (·==("super" : Str))
def y9(ops:List CmpOp)(cs:List Expr):Bool:=(cN ops).any fun op=>(cN cs).any fun e=>!behindInMarks op e
def Qa(pos:ef)(e:Expr):Bool:=(nQ e).any fun p=>p.2.2.endLine==pos.line
noncomputable def ij:List (Bool×M V)->Option (List (M V))
 |[]=>some []
 |p::r=>if p.1 then none else(ij r).bind fun l=>some (p.2::l)
noncomputable def BX(id:String):Option B1:=
 if id == "len" then some .len else if id == "min" then some .min else if id == "max" then some .max else if id == "sum" then some .sum else if id == "sorted" then some .sorted else none
noncomputable def BZ(id:String):Option B2:=
 if id == "max" then some .max else if id == "min" then some .min else if id == "isinstance" then some .isinst else if id == "issubclass" then some .issub else none
def Lv(id:String)(ms:List (M V)):M V:=oc (cN ms) (oc (jf ms) M.fail fun p=>oc (BZ id) M.fail fun g=>c2 g p.1 p.2) fun m=>oc (BX id) M.fail fun b=>c1 b m
def xG(n:String)(Wy:List (Option (V×List (M V)))):Option (M V×M V):=(cN Wy).bind fun o=>o.bind fun p=>(cstOf p.1).bind fun u=>if u==.type n then jf p.2 else none
def Cs(k:K)(t:String)(m:M V)(its:List IM)(Wy:List (Option (V×List (M V)))):M V:=
 br (t == "type") (c1 .type m) (br (t == "str") (c1 .str m) (br (t == "set") (c1 .set m)
  (br (t == "list") (oc (xG "filter" Wy) (oc (cN its) M.fail kD) fun p=>xC p.1 p.2)
   (br (t == "tuple") (oc (xG "map" Wy) (c1 .tuple m) fun p=>xD k p.1 p.2) M.fail))))
def Ly(k:K)(t:String)(ms:List (M V))(its:List IM)(Wy:List (Option (V×List (M V)))):M V:=oc (cN ms) (dh (ms.isEmpty&&t == "set") cSet0) fun m=>Cs k t m its Wy
def Ct(c:Ctx)(u:ae)(Wt:List (Bool×M V))(its:List IM)(Wy:List (Option (V×List (M V)))):M V:=oc (AF u) (oc (ij Wt) M.fail fun ms=>oc (Cf u) (oc (AB u) M.fail fun t=>Ly c.k t ms its Wy) fun id=>Lv id ms)
 fun a=>oc (c.cls a) (ct c.k a Wt) fun cl=>nT c.k a cl Wt
def ut(c:Ctx)(f:V)(Wt:List (Bool×M V))(its:List IM)(Wy:List (Option (V×List (M V)))):M V:=oc (cstOf f) M.fail fun u=>Ct c u Wt its Wy
def Cq(f:V)(Wt:List (Bool×M V)):M V:=oc (cstOf f) M.fail fun u=>dh (u==.type "str") (oc (ij Wt) M.fail fun ms=>oc (cN ms) M.fail (c1 .str))
def Po(t:String)(ms:List (M V))(dflt:M V):IM:=oc (cN ms) (oc (jf ms) (iV dflt) fun p=>br (t == "range") (p7 p.1 p.2) (iV dflt)) fun m=>br (t == "enumerate") (jm m) (br (t == "range") (j5 m) (iV dflt))
def Eh(f:V)(Wt:List (Bool×M V))(dflt:M V):IM:=oc (cstOf f) (iV dflt) fun u=>oc (AB u) (iV dflt) fun t=>oc (ij Wt) (iV dflt) fun ms=>Po t ms dflt
structure PX where
 ev:M V
 test:M Bool
 it:IM
 meth:Option (M V×Str)
 call:Option (V×List (M V))
 slice:Option (M V×M V×M V)
 arg:Bool×M V
def PX.of(m:M V):PX:=⟨m,cu m,iV m,none,none,none,(false,m)⟩
mutual
noncomputable def px(c:Ctx):Expr->List aL->PX
  |.Constant k _ _,_=>.of (FE k)
  |.Name id _,sc=>.of (qC c sc id)
  |.BoolOp op vs _,sc=>
    let m:=match op with
      |.And=>pK ((pxs c vs sc).map (·.ev))
      |.Or=>kE ((pxs c vs sc).map (·.ev))
    { PX.of m with test:=match op with
      |.And=>ge ((pxs c vs sc).map (·.test))
      |.Or=>gy ((pxs c vs sc).map (·.test)) }
  |.NamedExpr t v _,sc=>.of (oc (lV t) M.fail fun id=>oc (fo id sc) M.fail fun i=>pM i (px c v sc).ev)
  |.BinOp l op r _,sc=>.of (cT op (px c l sc).ev (px c r sc).ev)
  |.UnaryOp op x _,sc=>match op with
    |.Not=>{ PX.of (Ch (px c x sc).ev) with test:=do
        let b<-(px c x sc).test
        pure (!b) }
    |.USub=>.of (gm (px c x sc).ev)
    |.Invert|.UAdd=>.of M.fail
  |.IfExp t a b _,sc=>{ PX.of (jc (px c t sc).test (px c a sc).ev (px c b sc).ev) with test:=do if <- (px c t sc).test then(px c a sc).test else(px c b sc).test }
  |.Dict ks vs _,_=>.of (dh (ks.isEmpty&&vs.isEmpty) cDict0)
  |.List es p,sc=>.of (bY (c.own p) ((pxs c es sc).map (·.ev)))
  |.Tuple es _ _,sc=>.of (dZ ((pxs c es sc).map (·.ev)))
  |.ListComp e WH s p,sc=>.of (dh (!c.hd&&vz s sc WH) (oc (wr (pxg c WH (s::sc))) M.fail fun q=>bN (c.own p) s.names.length (px c e (s::sc)).ev (pxf c WH sc) q.1.1 q.2))
  |.SetComp e WH s _,sc=>.of (dh (!c.hd&&vz s sc WH) (oc (wr (pxg c WH (s::sc))) M.fail fun q=>rV s.names.length (px c e (s::sc)).ev (pxf c WH sc) q.1.1 q.2))
  |.Compare l ops cs _,sc=>{ PX.of (dh (y9 ops cs) (oc (cN ops) M.fail fun op=>oc (cN ((pxs c cs sc).map (·.ev))) M.fail fun r=>kC op (px c l sc).ev r)) with
    test:=dh (y9 ops cs) (oc (cN ops) M.fail fun op=>oc (cN ((pxs c cs sc).map (·.ev))) M.fail fun r=>aO op (px c l sc).ev r) }
  |.Call f as ks pos,sc=>
    let Wt:=(pxs c as sc).map (·.arg)
    let its:=(pxs c as sc).map (·.it)
    let Wy:=(pxs c as sc).map (·.call)
    let ok:=ks.isEmpty
    let line:=Qa pos f&&decide (as.length<30)
    { PX.of (dh ok (oc (px c f sc).meth (oc (eM c sc f) M.fail fun g=>br c.hd (Cq g Wt) (ut c g Wt its Wy)) fun p=>dh line (bJ c.k c.meth p.2 p.1 Wt))) with
      it:=dh ok (oc (px c f sc).meth (oc (eM c sc f) M.fail fun g=>Eh g Wt (ut c g Wt its Wy)) fun p=>dh line (br (p.2==("values" : Str)&&as.isEmpty) (sz p.1) (iV (bJ c.k c.meth p.2 p.1 Wt))))
      call:=if ok then(eM c sc f).bind fun g=>(ij Wt).map fun ms=>(g,ms) else none }
  |.Attribute o n _,sc=>{ PX.of (dh (!lP o) (br (n==("__contains__" : Str)) (uq (px c o sc).ev)
    (br (n==("__next__" : Str)) (dh (!c.hd) (oc (px c o sc).call M.fail fun p=>oc (cstOf p.1) M.fail fun u=>dh (u==.builtin "iter") (oc (cN p.2) M.fail ur)))
      (bT (dt n) (px c o sc).ev)))) with meth:=if lP o then none else some ((px c o sc).ev,n) }
  |.Subscript o i _,sc=>.of (oc (px c i sc).slice (aX (px c o sc).ev (px c i sc).ev) fun p=>dg (px c o sc).ev p.1 p.2.1 p.2.2)
  |.JoinedStr vs _,_=>.of (oc (cN vs) M.fail fun e=>oc (CN e) M.fail fun k=>oc (Hb k) M.fail fun s=>cC (.str s))
  |.Starred e _,sc=>{ PX.of M.fail with arg:=(true,(px c e sc).ev) }
  |.Slice l u k _,sc=>{ PX.of M.fail with slice:=some (pxo c l sc,pxo c u sc,pxo c k sc) }
  |.Lambda ..,_|.Set ..,_|.DictComp ..,_|.GeneratorExp ..,_|.Await ..,_|.Yield ..,_|.YieldFrom ..,_|.FormattedValue ..,_=>.of M.fail
termination_by structural e=>e
noncomputable def pxo(c:Ctx):Option Expr->List aL->M V
 |none,_=>cC .none
 |some e,sc=>(px c e sc).ev
termination_by structural e=>e
noncomputable def pxs(c:Ctx):List Expr->List aL->List PX
 |[],_=>[]
 |e::r,sc=>px c e sc::pxs c r sc
termination_by structural e=>e
noncomputable def pxf(c:Ctx):List fc->List aL->IM
 |[],_=>M.fail
 |⟨_,it,_,_⟩::_,sc=>(px c it sc).it
termination_by structural e=>e
noncomputable def pxg(c:Ctx):List fc->List aL->List (iy×IM)
 |[],_=>[]
 |⟨t,it,ifs,_⟩::r,sc=>(⟨dk sc t,(pxs c ifs sc).map (·.test)⟩,(px c it sc).it)::pxg c r sc
termination_by structural e=>e
end
def eW(c:Ctx)(sc:List aL)(e:Expr):M V:=(px c e sc).ev
def F2(c:Ctx)(sc:List aL)(e:Expr):M Bool:=(px c e sc).test
def RW(c:Ctx)(sc:List aL)(e:Expr):IM:=(px c e sc).it
def Wl(c:Ctx)(sc:List aL)(es:List Expr):List (M V):=(pxs c es sc).map (·.ev)
def RK(c:Ctx)(sc:List aL)(es:List Expr):List (Bool×M V):=(pxs c es sc).map (·.arg)
def Sy(c:Ctx)(sc:List aL)(e:Expr):M Fl:=oc (rW e) M.fail fun r=>oc (eM c sc r.1) M.fail fun g=>oc (cstOf g) M.fail fun v=>oc (ij (RK c sc r.2.1)) M.fail fun ms=>dh (v==.type "ValueError" || v==.ref 104) (ke v ms)
def Tf(c:Ctx)(sc:List aL)(e f:Option Expr):M Fl:=oc e M.fail fun e=>dh (f.isNone&&!c.hd) (Sy c sc e)
def Kq(c:Ctx)(sc:List aL)(e t:Expr):M Fl:=oc (nQ t) (oc (uW t) (oc (BR t) (dh (!(c.hd||xR e||G0 t e)) (aS (eW c sc e) (dk sc t)))
  fun p=>dh (!c.hd) (we (dt p.1.2.1) (eW c sc p.1.1) (dt p.2.2.1) (eW c sc p.2.1) (eW c sc e)))
  fun p=>tb (eW c sc p.1) (eW c sc p.2) (eW c sc e))
  fun p=>eQ (dt p.2.1) (eW c sc p.1) (eW c sc e)
def Ks(c:Ctx)(sc:List aL)(ts:List Expr)(e:Expr):M Fl:=oc (cN ts) (oc (jf ts) M.fail fun p=>oc (uW p.1) M.fail fun q=>dh (!c.hd) (wf (eW c sc q.1) (eW c sc q.2) (eW c sc e) (dk sc p.2))) (Kq c sc e)
def Kx(c:Ctx)(sc:List aL)(t:Expr)(op:nL)(e:Expr):M Fl:=oc (lV t) (oc (nQ t) M.fail fun p=>oK op (dt p.2.1) (eW c sc p.1) (eW c sc e)) fun id=>dh (!rO id) (oc (fo id sc) M.fail fun i=>ta op i (eW c sc e))
def Ms(c:Ctx)(sc:List aL)(ts:List Expr):M Fl:=oc (cN ts) M.fail fun t=>oc (uW t) M.fail fun p=>wb (eW c sc p.1) (eW c sc p.2)
def sm(c:Ctx)(sc:List aL)(e:Option Expr):Option ae:=e.bind fun e=>(eM c sc e).bind fun g=>(cstOf g).bind fun v=>if v==.type "ValueError" || v==.type "StopIteration" || v==.ref 104 then some v else none
def Ha(rows:List (Option ae×Option Nat×M Fl)):Option (M Fl):=(cN rows).bind fun r=>r.1.bind fun v=>if v==.type "StopIteration" && r.2.1.isNone then some r.2.2 else none
def SK(c:Ctx)(sc:List aL)(a:List cW)(m:M Fl)(rows:List (Option ae×Option Nat×M Fl))(ok:Bool):M Fl:=dh (ok&&!c.hd) (oc (E1 a) (oc (G3 a) (tc m)
  fun p=>dh (!lP p.1.1&&(p.1.2.2.endLine==p.2.line)) (oc (rows.mapM fun p=>p.1.map fun v=>(v,p.2)) M.fail fun l=>td c.k c.meth p.1.2.1 (eW c sc p.1.1) l))
  fun p=>oc (Ha rows) M.fail fun h=>dh (!yF p.2) (qM (dk sc p.1) (eW c sc p.2) h))
mutual
noncomputable def vJ(c:Ctx):List aL->cW->M Fl
 |sc,.Expr e _=>dh (!sE e) (fW (eW c sc e))
 |sc,.Return v _=>oc v (cA (cC .none)) fun e=>cA (eW c sc e)
 |sc,.Assign ts e _=>Ks c sc ts e
 |sc,.AugAssign t op e _=>Kx c sc t op e
 |sc,.Delete ts _=>Ms c sc ts
 |sc,.If t a b _=>bW (F2 c sc t) (au (pexecs c sc a)) (au (pexecs c sc b))
 |sc,.While t a b _=>dh (!c.hd) (gw (F2 c sc t) (au (pexecs c sc a)) (au (pexecs c sc b)) c.lf)
 |sc,.For t it a b _=>dh (b.isEmpty&&!c.hd) (fx (dk sc t) (RW c sc it) (au (pexecs c sc a)))
 |sc,.Raise e f _=>Tf c sc e f
 |sc,.Try a hs o f _=>SK c sc a (au (pexecs c sc a)) (phandlers c sc hs) (o.isEmpty&&f.isEmpty&&!hs.isEmpty)
 |_,.Break _=>pure .brk
 |_,.Continue _=>pure .cont
 |_,.Pass _=>pure .next
 |_,.FunctionDef ..|_,.AsyncFunctionDef ..|_,.ClassDef ..|_,.TypeAlias ..|_,.AnnAssign ..|_,.AsyncFor ..|_,.With ..|_,.AsyncWith ..|_,.Match ..|_,.TryStar ..|_,.Assert ..|_,.Import ..|_,.ImportFrom ..|_,.Global ..|_,.Nonlocal ..=>M.fail
termination_by structural _ s=>s
noncomputable def pexecs(c:Ctx):List aL->List cW->List (M Fl)
 |_,[]=>[]
 |sc,s::r=>vJ c sc s::pexecs c sc r
termination_by structural _ s=>s
noncomputable def qA(c:Ctx):List aL->List cW->M Fl
 |_,[]=>M.fail
 |sc,s::r=>au (vJ c sc s::pexecs c sc r)
termination_by structural _ s=>s
noncomputable def phandlers(c:Ctx):List aL->List ExceptHandler->List (Option ae×Option Nat×M Fl)
 |_,[]=>[]
 |sc,.ExceptHandler t n b _::r=>(if b.isEmpty then(none,none,M.fail) else match n with
   |none=>(sm c sc t,none,qA { c with k:=fun Y Y Y=>none,hd:=true } sc b)
   |some nm=>match lM nm sc with
    |some i=>(sm c sc t,some i,qA { c with k:=fun Y Y Y=>none,hd:=true } sc b)
    |none=>(none,none,M.fail))::phandlers c sc r
termination_by structural _ s=>s
end
structure FD where
 params:mj
 body:List cW
 scope:aL
 dflt:List V
 alone:Bool
 freeze:Bool
noncomputable def pw:lq:=Wh
noncomputable def G9:cW->Option (mj×List cW×aL)
 |.FunctionDef _ a b _ _ _ s _ _ _=>some (a,b,s)
 |_=>none
noncomputable def D8(n:Str):cW->Bool
 |.FunctionDef m ..=>m==n
 |_=>false
noncomputable def Pc(n:Str):cW->Bool
 |.ClassDef m ..=>m==n
 |_=>false
noncomputable def KX:cW->List cW
 |.ClassDef _ _ _ b ..=>b
 |_=>[]
def gf(n:Str):Option (mj×List cW×aL):=(pw.main.body.find? (D8 n)).bind G9
def kF(c n:Str):Option (mj×List cW×aL):=((pw.main.body.find? (Pc c)).bind fun s=>(KX s).find? (D8 n)).bind G9
noncomputable def dR(d:Option (mj×List cW×aL))(dflt:List V)(alone freeze:Bool):Option FD:=d.map fun p=>⟨p.1,p.2.1,p.2.2,dflt,alone,freeze⟩
def uL:List (ai×(Unit->Option FD)):=[
 (35,fun Y=>dR (kF "Entry" "__init__") [] false false),
 (70,fun Y=>dR (gf "merge_entries") [] true true),
 (85,fun Y=>dR (kF "_NodeInfo" "__init__") [] false false),
 (122,fun Y=>dR (kF "TopologicalSorter" "__init__") [.none] false false),
 (129,fun Y=>dR (kF "TopologicalSorter" "_get_nodeinfo") [] false false),
 (136,fun Y=>dR (kF "TopologicalSorter" "add") [] false false),
 (141,fun Y=>dR (kF "TopologicalSorter" "prepare") [] false false),
 (148,fun Y=>dR (kF "TopologicalSorter" "get_ready") [] false false),
 (169,fun Y=>dR (kF "TopologicalSorter" "done") [] false false),
 (176,fun Y=>dR (kF "TopologicalSorter" "_find_cycle") [] false false),
 (263,fun Y=>dR (gf "fspath") [] true true),
 (277,fun Y=>dR (gf "_get_sep") [] true true),
 (284,fun Y=>dR (gf "join") [] true true),
 (291,fun Y=>dR (gf "splitroot") [] true true),
 (298,fun Y=>dR (gf "normpath") [] true true),
 (303,fun Y=>dR (gf "commonpath") [] true true),
 (308,fun Y=>dR (gf "_law_read") [] true true),
 (313,fun Y=>dR (gf "_law_plain") [] true true),
 (320,fun Y=>dR (gf "_law_record") [] true true),
 (327,fun Y=>dR (gf "_law_told") [] true true),
 (334,fun Y=>dR (gf "_law_sorter") [] false false),
 (341,fun Y=>dR (gf "_law_heard") [] false false),
 (346,fun Y=>dR (gf "_law_ring") [] true true),
 (351,fun Y=>dR (gf "_law_order") [] false true),
 (356,fun Y=>dR (gf "_law_merge") [] true true),
 (361,fun Y=>dR (gf "law") [] true true)]
def kI(a:ai):Option FD:=(uL.lookup a).bind fun f=>f ()
noncomputable def p4:List (Str×V):=[
 (("Entry" : Str),V.cst (cm 59)),(("merge_entries" : Str),V.cst (cm 70)),(("_NODE_OUT" : Str),V.int (-1)),(("_NODE_DONE" : Str),V.int (-2)),(("_NodeInfo" : Str),V.cst (cm 89)),(("CycleError" : Str),V.cst (cm 104)),
 (("TopologicalSorter" : Str),V.cst (cm 186)),(("fspath" : Str),V.cst (cm 263)),(("_get_sep" : Str),V.cst (cm 277)),(("join" : Str),V.cst (cm 284)),(("splitroot" : Str),V.cst (cm 291)),(("normpath" : Str),V.cst (cm 298)),
 (("commonpath" : Str),V.cst (cm 303)),(("_law_read" : Str),V.cst (cm 308)),(("_law_plain" : Str),V.cst (cm 313)),(("_law_record" : Str),V.cst (cm 320)),(("_law_told" : Str),V.cst (cm 327)),(("_law_sorter" : Str),V.cst (cm 334)),
 (("_law_heard" : Str),V.cst (cm 341)),(("_law_ring" : Str),V.cst (cm 346)),(("_law_order" : Str),V.cst (cm 351)),(("_law_merge" : Str),V.cst (cm 356)),
 (("len" : Str),V.cst (hW "len")),(("max" : Str),V.cst (hW "max")),(("min" : Str),V.cst (hW "min")),(("sum" : Str),V.cst (hW "sum")),(("sorted" : Str),V.cst (hW "sorted")),(("iter" : Str),V.cst (hW "iter")),
 (("isinstance" : Str),V.cst (hW "isinstance")),(("issubclass" : Str),V.cst (hW "issubclass")),
 (("range" : Str),V.cst (bQ "range")),(("list" : Str),V.cst (bQ "list")),(("set" : Str),V.cst (bQ "set")),(("tuple" : Str),V.cst (bQ "tuple")),(("enumerate" : Str),V.cst (bQ "enumerate")),(("filter" : Str),V.cst (bQ "filter")),
 (("map" : Str),V.cst (bQ "map")),(("str" : Str),V.cst (bQ "str")),(("bytes" : Str),V.cst (bQ "bytes")),(("type" : Str),V.cst (bQ "type")),(("ValueError" : Str),V.cst (bQ "ValueError")),(("StopIteration" : Str),V.cst (bQ "StopIteration"))]
def f5(n:Str):Option V:=p4.lookup n
noncomputable def kG(a:ai):Option Cls:=
 if a=59 then some ⟨35,false,[]⟩ else if a=89 then some ⟨85,true,[]⟩
 else if a=186 then some ⟨122,false,[("_get_nodeinfo",129),("add",136),("prepare",141),("get_ready",148),("done",169),("_find_cycle",176)]⟩ else none
def bc(a:ai)(n:Str):Option ai:=(kG a).bind fun c=>c.meths.lookup n
noncomputable def RE:List (Nat×Nat):=[(8,26),(9,25),(51,26),(82,28),(131,16),(132,18),(270,16),(352,24)]
def RD(p:ef):Bool:=RE.any fun q=>q.1==p.line&&q.2==p.col
mutual
noncomputable def noObj:V->Bool
 |.obj _=>false
 |.tup vs|.lst vs=>noObjs vs
 |.ins _ fs=>noObjF fs
 |.bm _ v=>noObj v
 |.exc _ vs=>noObjs vs
 |.none|.bool _|.int _|.str _|.seti _|.sets _|.setb _|.cst _=>true
noncomputable def noObjs:List V->Bool
 |[]=>true
 |v::r=>noObj v&&noObjs r
noncomputable def noObjF:List (Nat×V)->Bool
 |[]=>true
 |(_,v)::r=>noObj v&&noObjF r
end
mutual
noncomputable def eK:Nat->List O->V->Option (V×List O)
 |0,_,_=>none
 |n+1,st,v=>((vO v).bind fun k=>((oL (aD st k)).bind fun vs=>(frzs n (st.set k .dead) vs).bind fun p=>some (.lst p.1,p.2)).or ((oI (aD st k)).bind fun q=>(frzF n (st.set k .dead) q.2).bind fun p=>some (.ins q.1 p.1,p.2))).or (if noObj v then some (v,st) else none)
noncomputable def frzs:Nat->List O->List V->Option (List V×List O)
 |0,_,_=>none
 |n+1,st,vs=>match vs with
  |[]=>some ([],st)
  |v::r=>(eK n st v).bind fun p=>(frzs n p.2 r).bind fun q=>some (p.1::q.1,q.2)
noncomputable def frzF:Nat->List O->List (Nat×V)->Option (List (Nat×V)×List O)
 |0,_,_=>none
 |n+1,st,fs=>match fs with
  |[]=>some ([],st)
  |p::r=>(eK n st p.2).bind fun q=>(frzF n q.2 r).bind fun s=>some ((p.1,q.1)::s.1,s.2)
end
noncomputable def Fo(fd:FD):Bool:=fd.params.posonlyargs.isEmpty&&fd.params.kwonlyargs.isEmpty&&fd.params.kwarg.isNone&&decide ((fd.params.args.map (·.arg)).Nodup)&&decide ((fd.scope.names.map (·.1)).Nodup) &&
 (fd.scope.kind==.function)&&!fd.scope.isCoroutine&&!fd.scope.isGenerator&&fd.scope.names.all (fun p=>p.2 != .free)
noncomputable def cU(p:mj):List Str:=p.args.map (·.arg)
noncomputable def qL(p:mj):Str:=(p.vararg.map (·.arg)).getD ""
noncomputable def uz:List V->ae
 |[]=>.none
 |Y=>.ref 115
def xA(fd:FD)(Wt:List V):Option (List (Str×V)):=
 if fd.params.vararg.isSome then(if(cU fd.params).length<=Wt.length/\Wt.length<=1000 then some ((cU fd.params).zip Wt++[(qL fd.params,.tup (Wt.drop (cU fd.params).length))]) else none)
 else if Wt.length+fd.dflt.length=(cU fd.params).length then some ((cU fd.params).zip (Wt++fd.dflt)) else none
noncomputable def pH(sc:aL):List (Str×V)->List (Option V)->Option (List (Option V))
 |[],fr=>some fr
 |p::r,fr=>(fo p.1 [sc]).bind fun i=>pH sc r (fr.set i (some p.2))
def rS(fd:FD)(Wt:List V):Option (List (Option V)):=
 if Fo fd then(xA fd Wt).bind fun bs=>pH fd.scope bs (jN fd.scope.names.length none) else none
def yl(fz:Bool)(v:V)(st:List O):Option (CR×List O):=
 if fz then(eK 200 st v).bind fun p=>some (.ret p.1,p.2) else some (.ret v,st)
def uI(fz:Bool)(st:List O)(p:Fl×S):Option (CR×List O):=match p.1 with
 |.ret v=>(yl fz v p.2.st).bind fun q=>some (q.1,st)
 |.next=>some (.ret .none,st)
 |.brk|.cont|.exc _ _=>none
def uJ(fz:Bool)(p:Fl×S):Option (CR×List O):=match p.1 with
 |.ret v=>yl fz v p.2.st
 |.exc c as=>some (.exc c as,p.2.st)
 |.next=>some (.ret .none,p.2.st)
 |.brk|.cont=>none
def zS(mk:K->Ctx)(k:K)(fd:FD)(Wt:List V)(st:List O):Option (CR×List O):=
 (rS fd Wt).bind fun fr=>bif fd.alone then(bif noObjs Wt&&fd.freeze then(au (pexecs (mk k) [fd.scope] fd.body) ⟨[fr],[]⟩).bind (uI fd.freeze st) else none)
  else(au (pexecs (mk k) [fd.scope] fd.body) ⟨[fr],st⟩).bind (uJ fd.freeze)
def QE(k:K):Ctx:=⟨f5,k,bc,kG,RD,2000,false⟩
noncomputable def az:Nat->K
 |0=>fun Y Y Y=>none
 |n+1=>fun a Wt st=>(kI a).bind fun fd=>zS QE (az n) fd Wt st
def qg(Ws:List Int):Option Bool:=(az 6 361 [.lst (Ws.map .int)] []).bind fun p=>(rU p.1).bind nj
noncomputable def ca(f:Nat):Str:=match f with
 |0 => "useragents" |1 => "rulelines" |2 => "delay" |3 => "req_rate" |4 => "_node2info" |5 => "_ready_nodes" |6 => "_npassedout" |7 => "_nfinished"
 |8 => "node" |9 => "npredecessors" |_ => "successors"
noncomputable def gV:List (Str×ai):=[("_get_nodeinfo",129),("add",136),("prepare",141),("get_ready",148),("done",169),("_find_cycle",176)]
noncomputable abbrev rQ(p:lq):bj:={ scope:=p.main.scope,locals:=mainNs,globals:=mainNs,cells:=[],code:=.ref 13,frame:=some 14 }
noncomputable abbrev gu:ef:=⟨0,0,0,0⟩
abbrev cE(p:lq):Code:=.body p.main.body (rQ p)
noncomputable def K5(l:List cS):BT:=(l.foldl (fun(t:BT×Nat) o=>(t.1.ins t.2 o,t.2+1)) (.nil,0)).1
abbrev tT:=PySem.W.Fast.tw14364793385576792824
abbrev S0(w:ew)(os:jS):ak:=⟨lB w.params,qY [],Cc,boot_toks,os⟩
noncomputable abbrev jV:Option ae:=some (.ref 6)
def pre(w:ew)(os:jS):Option (ak×Thread):=PySem.W.Fast.tw15667345088766844465 tT pw w 11 jV 12 (S0 w os) (Au pw)
def Sb(w:ew)(os:jS):SharedT:=match pre w os with
 |some (s,_)=>⟨K5 s.heap.objs.toList,15,{},qY [],s.drawn,187,os⟩
 |none=>⟨.nil,0,{},qY [],{},0,os⟩
theorem SA(w:ew)(os:jS):(pre w os).map (·.1)=some (Sb w os).abs:=by kernel_rfl!
theorem SF(w:ew)(os:jS):(pre w os).map (·.2)=some ⟨JQ tT (cE pw),cE pw,gu,[oO gu]⟩:=by kernel_rfl!
theorem KU(w:ew)(os:jS):JP tT pw w 11 jV 1 30 (Sb w os) ⟨(PySem.W.Fast.tw1066825118222455980 pw.main.body (rQ pw)).wrap (fun _=>doneF .next) deadEnd id id,cE pw,gu,[oO gu]⟩=some (.next,Sb w os,cE pw,gu):=by kernel_rfl!
def TE(w:ew)(os:jS):Option (Flow×SharedT×Code×ef):=JP tT pw w 11 jV 1 2700 (Sb w os) ⟨(PySem.W.Fast.tw12563942051412417395 pw.main.body (rQ pw)).wrap doneF deadEnd id id,cE pw,gu,[oO gu]⟩
def TF(w:ew)(os:jS):Option (ak×Code):=(TE w os).bind fun r=>if r.1.ctorIdx=0 then(PySem.W.Fast.tw14082659384304107361 tT pw w 11 jV 10 r.2.1.abs ⟨doneF .next,r.2.2.1,r.2.2.2,[oO gu]⟩).map (·,r.2.2.1) else none
noncomputable def lI(h:bk):mv:=(iE 362).filterMap (fun a=>(h.get? a).map (a,·))
noncomputable def Ad:Option ae->Option ae
 |some (.int n _)=>some (.int n 0)
 |x=>x
def uO(h:bk)(n:Str):Option ae:=Ad ((h.nsMap 3 n).or (h.nsMap 0 n))
noncomputable def uP:V->Option ae
 |.cst v=>some v
 |.int n=>some (.int n 0)
 |_=>none
noncomputable def CT(d:Data):Option gh:=if h:d.ctorIdx=7 then AU (motive:=fun Y=>Option gh) d h some else none
theorem Mm(e:CT d=some r):d=.func r:=
 (dI e).elim fun h e=>AU (motive:=fun x=>∀h:x.ctorIdx=7,AU (motive:=fun Y=>Option gh) x h some=some r->x=.func r) d h (fun a h e=>congrArg Data.func (aR e)) h e
def DE(h:bk)(a:ai):=(h.get? a).bind fun o=>(CT o.data).bind fun f=>some (o.cls,f.params,f.body,f.scope,f.globals,f.closure,f.builtins,h.codeRecOk f.code f.qualname,f.defaults,true)
noncomputable def Mt:List V->Bool
 |[]=>true
 |[.none]=>true
 |_=>false
def fnWant(fd:FD):=some (bQ "function",fd.params,FuncBody.stmts fd.body,fd.scope,(3:ai),([]:List (Str×ai)),(0:ai),true,uz fd.dflt,Mt fd.dflt)
noncomputable def CS(d:Data):Option ClassData:=if h:d.ctorIdx=8 then AT (motive:=fun Y=>Option ClassData) d h some else none
theorem Ml(e:CS d=some r):d=.cls r:=
 (dI e).elim fun h e=>AT (motive:=fun x=>∀h:x.ctorIdx=8,AT (motive:=fun Y=>Option ClassData) x h some=some r->x=.cls r) d h (fun a h e=>congrArg Data.cls (aR e)) h e
def rY(h:bk)(c:ai):=(h.get? c).bind fun o=>(CS o.data).bind fun d=>some (o.cls,o.slots.size,o.slots[4]?,d.mro,d.hasDict,d.abstract,d.hasDel,d.ns)
noncomputable def rZ(c:ai)(bm:List ae)(id:String)(N:ai):=some (bQ "type",6,some (some (hW id)),cm c::bm,true,false,false,N)
noncomputable def qw(h:bk)(N:ai)(names:List Str):=(h.isNs N,names.map (h.nsMap N))
def fieldsAll:List Str:=(iE 11).map ca
def vj:List Str := "__getattribute__" :: "__getattr__" :: "__setattr__" :: "__init__" :: fieldsAll
def zn:List (Option ae):=fieldsAll.map fun Y=>none
noncomputable def zh(K:mv):=(ia K (.ref 89) "__getattribute__",ia K (.ref 89) "__getattr__",ia K (.ref 89) "__setattr__",plainOver K 89,makesIn K 89,ia K (.ref 89) "__init__",ng K (.ref 85))
noncomputable def nfWant:=(some (some (hW "object.__getattribute__")),some (none:Option ae),some (some (hW "object.__setattr__")),true,true,some (some (cm 85)),some (bQ "function"))
noncomputable def Og:Wg->Option (ae×ae)
 |.bind g a=>some (g,a)
 |_=>none
def zi(K:mv)(f:Nat):=((findObj K 89 (some { cls:=.type "dict",data:=.dict #[] }) (ca f)).bind Og,slotIn K (82+f) 89,takerIn K 89 (ca f),ng K (.ref (82+f)))
noncomputable def zj(f:Nat):=(some (hW "member_descriptor.__get__",cm (82+f)),some (f-8),some (some (cm (82+f))),some (bQ "member_descriptor"))
noncomputable def ze(K:mv)(p:Str×ai):=(plainGet K 186 p.1,ia K (.ref 186) p.1,specialIn K (.ref p.2) "__get__",takesIn K (.ref p.2),ng K (.ref p.2))
noncomputable def zf(p:Str×ai):=(true,some (some (cm p.2)),some (some (hW "function.__get__")),some false,some (bQ "function"))
def zW(h:bk):=(p4.map fun p=>uO h p.1,h.nsMap 3 "law",h.isNs 3,h.isNs 0,h.noLimitOk,(h.get? 1).isSome,h.get? 115)
def wantA:=(p4.map fun p=>uP p.2,some (cm 361),true,true,true,true,some ({ cls:=.type "tuple",data:=.seq #[.none] 0 }:cS))
def GJ(h:bk):=uL.map fun p=>DE h p.1
def wantB:=uL.map fun p=>(p.2 ()).bind fnWant
def GK(h:bk):=(rY h 59,rY h 186,rY h 104,qw h 58 vj,qw h 185 (vj++gV.map (·.1)),qw h 103 ["__init__"])
def wantC:=(rZ 59 [.type "object"] "object.__new__" 58,rZ 186 [.type "object"] "object.__new__" 185,rZ 104 [.type "ValueError",.type "Exception",.type "BaseException",.type "object"] "ValueError.__new__" 103,
 (true,none::none::none::some (cm 35)::zn),(true,none::none::none::some (cm 122)::zn++gV.map fun p=>some (cm p.2)),(true,[(none:Option ae)]))
def GN(h:bk):=(zh (lI h),[8,9,10].map (zi (lI h)),yx (lI h) 186,gV.map (ze (lI h)))
def wantD:=(nfWant,[8,9,10].map zj,true,gV.map zf)
def see(h:bk):=(zW h,GJ h,GK h,GN h)
def want:=(wantA,wantB,wantC,wantD)
def qv:lq:={ pw with main:={ pw.main with body:=pw.main.body.drop 37 } }
def lo:List Str:=pw.boundNames.filter fun n=>n != "law" && n != "__name__"
def zA(w:ew)(s:ak):=((staticsOk (D1 pw.main.body) (lB w.params) s.heap&&namesBound pw s.heap&&gensDone s&&laidKept (lB w.params) s.heap),openSeen qv lo (D1 pw.main.body) (fun _=>true) true s,see s.heap)
theorem Kk(w:ew)(os:jS):(TF w os).map (fun r=>(zA w r.1,r.2))=some ((true,openGood qv lo,want),cE pw):=by unfold zA;refine aa ?_ PySem.W.Fast.te4187177175401517315;kernel_rfl!
def tN(w:ew)(h:bk):Prop:=∀(s:ak)(la:ai)(vs:List ae)(ns:List Int),(∀a o,h.get? a=some o->s.heap.get? a=some o)->s.gens=#[]->ns.length<=63->
 s.heap.get? la=some { cls:=.type "list",data:=.seq vs.toArray 0 }->WellAll w.params s.heap vs (ns.map .int)->al (bO pw w) xH (PySem.call (.ref 361) [.ref la])
  (fun x s'=>x=.bool true/\(∀b o,s.heap.get? b=some o->s'.heap.get? b=some o)/\s'.os=s.os/\s'.gens=#[]) (fun _ _=>False) s
abbrev wz(p:ew×bk):Prop:=see p.2=want/\¬ tN p.1 p.2
@[irreducible] def bad:ew×bk:=@Classical.epsilon _ ⟨(⟨fun _ _=>0,{ strHash:=fun _=>0,shareClass:=fun _=>0,mergeTok:=fun t=>t,idOf:=fun _=>0,idOfShared:=fun _ _=>0,followText:=fun _=>true,idOfImm:=fun _=>0 }⟩,default)⟩ wz
def wd:ew:=bad.1
def hb:bk:=bad.2
theorem Kj(k:see hb=want->tN wd hb)(e:see h=want):tN w h:=IE fun n=>by
 have z:wz bad:=by unfold bad;exact Classical.epsilon_spec (p:=wz) ⟨(w,h),e,n⟩
 exact z.2 (k z.1)
abbrev Fz:=ai->Option cS
noncomputable abbrev bL(items:Array ae)(n:Nat):cS:={ cls:=.type "list",data:=.seq items n }
noncomputable abbrev dS(items:Array ae)(n:Nat):cS:={ cls:=.type "tuple",data:=.seq items n }
noncomputable def lz(id:String):String:=if id = "set.__contains__" then "builtin_function_or_method" else "method-wrapper"
abbrev hX(id:String)(y:ae):cS:={ cls:=.type (lz id),data:=.fields #[.builtin id,y] }
def r7(c:ai):Prop:=c=59∨c=186
def instObj(o:cS)(c d:ai):Prop:=o.cls=.ref c/\o.dict=some d/\∀k,o.data≠.cls k
def r9(od:cS)(m:Str->Option ae):Prop:=∃es ep,od.data=.dict es ep/\StrKeys es/\UniqKeys es/\∀name,nsFind es name=m name
mutual
def VR(F:Fz)(ρ:List (ai×ai)):V->ae->Prop
 |.none,x=>x=.none
 |.bool b,x=>x=.bool b
 |.int i,x=>∃t,x=.int i t
 |.str s,x=>∃t,x=.str s t
 |.tup vs,x=>vs.length<=sizeMax/\∃a items n,x=.ref a/\F a=some (dS items n)/\VRs F ρ vs items.toList
 |.lst vs,x=>vs.length<=sizeMax/\∃a items n,x=.ref a/\F a=some (bL items n)/\VRs F ρ vs items.toList
 |.seti xs,x=>xs.length<=sizeMax/\∃a o,x=.ref a/\F a=some o/\o.SetObjOf (dv pw wd) (fun k=>xs.contains k) xs.length
 |.sets xs,x=>xs.length<=sizeMax/\∃a o,x=.ref a/\F a=some o/\o.SetObjOf (strKind pw wd) (fun k=>xs.contains k) xs.length
 |.setb b,x=>∃a o,x=.ref a/\F a=some o/\o.ExactSet/\∃h ep t,o.data=.set #[(h,.bool b)] ep t/\t.fits 1=true/\(wd.params.followText "set-order" || t.led)=true
 |.ins c fs,x=>r7 c/\∃a d od m,x=.ref a/\d≠a/\(∃o,F a=some o/\instObj o c d)/\F d=some od/\r9 od m/\FsR F ρ fs m
 |.obj k,x=>∃p,ρ[k]?=some p/\x=.ref p.1
 |.cst u,x=>x=u
 |.bm id self,x=>∃a y,x=.ref a/\F a=some (hX id y)/\VR F ρ self y
 |.exc c Wt,x=>Wt.length<=sizeMax/\∃a o xs b items n,x=.ref a/\F a=some o/\o.cls=c/\o.data=.fields xs/\xs[0]?=some (.ref b)/\F b=some (dS items n)/\VRs F ρ Wt items.toList
def VRs(F:Fz)(ρ:List (ai×ai)):List V->List ae->Prop
 |[],xs=>xs=[]
 |v::vs,xs=>∃x r,xs=x::r/\VR F ρ v x/\VRs F ρ vs r
def FsR(F:Fz)(ρ:List (ai×ai)):List (Nat×V)->(Str->Option ae)->Prop
 |[],m=>∀n,m n=none
 |(f,v)::r,m=>f<=10/\∃x,m (ca f)=some x/\VR F ρ v x/\FsR F ρ r (fun n=>if n=ca f then none else m n)
end
mutual
theorem VR.mono(W:∀a o,F a=some o->j a=some o)(i:∀(k:Nat)(p:ai×ai),ρ[k]?=some p->q[k]?=some p):∀(v:V)(x:ae),VR F ρ v x->VR j q v x
 |.none,_,h|.bool _,_,h|.int _,_,h|.str _,_,h|.cst _,_,h=>h
 |.tup vs,x,h=>by exact vv h fun l a items n e f r=>⟨l,a,items,n,e,W _ _ f,VRs.mono W i vs _ r⟩
 |.lst vs,x,h=>by exact vv h fun l a items n e f r=>⟨l,a,items,n,e,W _ _ f,VRs.mono W i vs _ r⟩
 |.seti xs,x,h|.sets xs,x,h=>by refine zv h fun l a o e f r=>?_;exact⟨l,a,o,e,W _ _ f,r⟩
 |.setb xs,x,h=>by refine fV h fun a o e f r=>?_;exact⟨a,o,e,W _ _ f,r⟩
 |.ins c fs,x,h=>by refine Fd h fun A a d t m e n f g k r=>?_;exact⟨A,a,d,t,m,e,n,f.imp fun o h=>⟨W _ _ h.1,h.2⟩,W _ _ g,k,FsR.mono W i fs _ r⟩
 |.obj k,x,h=>by refine aH h fun p e f=>?_;exact⟨p,i _ _ e,f⟩
 |.bm id v,x,h=>by refine fV h fun a y e f r=>?_;exact⟨a,y,e,W _ _ f,VR.mono W i v _ r⟩
 |.exc c as,x,h=>by refine Fe h fun s a o xs b items n e f g k l m r=>?_;exact⟨s,a,o,xs,b,items,n,e,W _ _ f,g,k,l,W _ _ m,VRs.mono W i as _ r⟩
theorem VRs.mono(W:∀a o,F a=some o->j a=some o)(i:∀(k:Nat)(p:ai×ai),ρ[k]?=some p->q[k]?=some p):∀(vs:List V)(xs:List ae),VRs F ρ vs xs->VRs j q vs xs
 |[],xs,h=>h
 |v::vs,xs,h=>by refine fV h fun x r e f g=>?_;exact⟨x,r,e,VR.mono W i v x f,VRs.mono W i vs r g⟩
theorem FsR.mono(W:∀a o,F a=some o->j a=some o)(i:∀(k:Nat)(p:ai×ai),ρ[k]?=some p->q[k]?=some p):∀(fs:List (Nat×V))(m:Str->Option ae),FsR F ρ fs m->FsR j q fs m
 |[],m,h=>h
 |(f,v)::r,m,h=>by refine qx h fun l x e g k=>?_;exact⟨l,x,e,VR.mono W i v x g,FsR.mono W i r _ k⟩
end
theorem VRs.cons(h:VR F ρ v x)(k:VRs F ρ vs xs):VRs F ρ (v::vs) (x::xs):=⟨x,xs,rfl,h,k⟩
theorem VRs.length:∀{vs:List V}{xs:List ae},VRs F ρ vs xs->xs.length=vs.length:=by
 intro p;induction p with
 |nil=>intro xs h;obtain rfl:xs=[]:=h;rfl
 |cons v vs I=>intro xs h;refine oM xs h ?_;intro x r _ h;exact congrArg _ (I h)
theorem VRs.get:∀{vs:List V}{xs:List ae}{i:Nat}{v:V},VRs F ρ vs xs->vs[i]?=some v->∃x,xs[i]?=some x/\VR F ρ v x:=by
 intro p;induction p with
 |nil=>intro _ _ _ _ h;trivial
 |cons u vs I=>
  intro xs i v h e;refine oM xs h ?_;intro x r b h;cases i with
  |zero=>simp only[Ja,rD] at e ⊢;subst e;exact⟨x,rfl,b⟩
  |succ i=>simp only[I9] at e ⊢;exact I h e
theorem VRs.append:∀{vs us:List V}{xs a:List ae},VRs F ρ vs xs->VRs F ρ us a->VRs F ρ (vs++us) (xs++a):=by
 intro p;induction p with
 |nil=>intro _ xs _ h k;obtain rfl:xs=[]:=h;exact k
 |cons v vs I=>intro us xs a h k;refine oM xs h ?_;intro x r b h;exact VRs.cons b (I h k)
theorem VRs.drop:∀{vs:List V}{xs:List ae}(n:Nat),VRs F ρ vs xs->VRs F ρ (vs.drop n) (xs.drop n)
 |vs,xs,0,h=>h
 |[],xs,n+1,h=>by obtain rfl:xs=[]:=h;rfl
 |v::vs,xs,n+1,h=>by refine oM xs h ?_;intro x r b h;exact VRs.drop n h
theorem VRs.take:∀{vs:List V}{xs:List ae}(n:Nat),VRs F ρ vs xs->VRs F ρ (vs.take n) (xs.take n)
 |vs,xs,0,h=>rfl
 |[],xs,n+1,h=>by obtain rfl:xs=[]:=h;rfl
 |v::vs,xs,n+1,h=>by refine oM xs h ?_;intro x r b h;exact VRs.cons b (VRs.take n h)
theorem VRs.one(h:VR F ρ v x):VRs F ρ [v] [x]:=VRs.cons h rfl
structure Wd where
 F:Fz
 ρ:List (ai×ai)
abbrev Wd.R(W:Wd):V->ae->Prop:=VR W.F W.ρ
abbrev Wd.Rs(W:Wd):List V->List ae->Prop:=VRs W.F W.ρ
def Wd.owns(W:Wd)(a:ai):Prop:=∃p∈W.ρ,a=p.1∨a=p.2
def dL(W:Wd):List (Int×V)->List i0->Prop
 |[],xs=>xs=[]
 |(i,v)::r,xs=>∃e es t,xs=e::es/\e.key=.int i t/\e.hash=(dv pw wd).hash i/\W.R v e.val/\dL W r es
def OR(W:Wd)(o:O)(p:ai×ai)(h:bk):Prop:=match o with
 |.list vs=>p.2=p.1/\vs.length<=sizeMax/\∃items n,h.get? p.1=some (bL items n)/\W.Rs vs items.toList
 |.dict es ep=>p.2=p.1/\(es.map (·.1)).Nodup/\∃arr,h.get? p.1=some { cls:=.type "dict",data:=.dict arr ep }/\dL W es arr.toList
 |.set xs=>p.2=p.1/\xs.length<=sizeMax/\∃o,h.get? p.1=some o/\o.SetObjOf (dv pw wd) (fun k=>xs.contains k) xs.length
 |.inst c fs=>r7 c/\p.2≠p.1/\(∃o,h.get? p.1=some o/\instObj o c p.2)/\∃od m,h.get? p.2=some od/\r9 od m/\FsR W.F W.ρ fs m
 |.slot c fs=>c=89/\p.2≠p.1/\∃sl:Array (Option ae),h.get? p.1=some { cls:=.ref c,dict:=some p.2,data:=.plain,slots:=sl }/\h.get? p.2=some { cls:=.type "dict",data:=.dict #[] }/\sl.size<=3 /\
   (∀f,jl f fs≠none->f=8∨f=9∨f=10)/\∀f,8<=f->f<=10->slotR W (jl f fs) (sl[f-8]?).join
 |.liter src i=>p.2=p.1/\∃l,h.IsListIter p.1 l i/\W.R src (.ref l)
 |.dead=>True
where slotR (W:Wd):Option V->Option ae->Prop
 |none,x=>x=none
 |some v,x=>∃y,x=some y/\W.R v y
noncomputable def O.live:O->Bool
 |.dead=>false
 |_=>true
structure aE(W:Wd)(st:List O)(s:ak):Prop where
 base:∀a o,hb.get? a=some o->W.F a=some o
 frozen:∀a o,W.F a=some o->s.heap.get? a=some o
 len:W.ρ.length=st.length
 objs:∀(k:Nat)(p:ai×ai),W.ρ[k]?=some p->OR W (aD st k) p s.heap
 there:∀p∈W.ρ,(∃o,s.heap.get? p.1=some o)/\∃o,s.heap.get? p.2=some o
 free:∀(k:Nat)(p:ai×ai),W.ρ[k]?=some p->(aD st k).live=true->W.F p.1=none/\W.F p.2=none
 apart:∀(j k:Nat)(p q:ai×ai),W.ρ[j]?=some p->W.ρ[k]?=some q->j≠k->p.1≠q.1/\p.1≠q.2/\p.2≠q.1/\p.2≠q.2
 gens:s.gens=#[]
def hM(fr:List ai)(x:ai)(o o':cS):Prop:=o'=o∨(x∈fr/\(∃es n,o.data=.dict es n)/\∃sl,o'={ o with slots:=sl })
theorem hM.trans(h:hM fr x a b)(k:hM fr x b c):hM fr x a c:=by
 rcases h with rfl|⟨q,⟨es,n,d⟩,sl,rfl⟩
 ·exact k
 ·rcases k with rfl|⟨_,_,s,rfl⟩
  ·exact .inr ⟨q,⟨es,n,d⟩,sl,rfl⟩
  ·exact .inr ⟨q,⟨es,n,d⟩,s,rfl⟩
theorem hM.data(h:hM fr x o Q):Q.data=o.data:=by rcases h with rfl|⟨_,_,sl,rfl⟩<;>rfl
theorem hM.eq(h:hM fr x o Q)(k:∀es n,o.data≠.dict es n):Q=o:=by
 rcases h with rfl|⟨_,⟨es,n,d⟩,_⟩
 ·rfl
 ·exact absurd d (k es n)
theorem hM.eqC(h:hM fr x o Q)(k:x∉fr):Q=o:=by
 rcases h with rfl|⟨q,_⟩
 ·rfl
 ·trivial
structure av(fr:List ai)(W:Wd)(Wp:List ai)(s:ak)(W':Wd)(s':ak):Prop where
 F:∀a o,W.F a=some o->W'.F a=some o
 ρ:∀(k:Nat)(p:ai×ai),W.ρ[k]?=some p->W'.ρ[k]?=some p
 newF:∀a o,W'.F a=some o->W.F a=some o∨s.heap.get? a=none∨W.owns a
 newρ:∀p∈W'.ρ,p∈W.ρ∨(s.heap.get? p.1=none/\s.heap.get? p.2=none)
 pres:∀a o,s.heap.get? a=some o->¬ W.owns a->a∉Wp->∃o',s'.heap.get? a=some o'/\hM fr a o o'
 alive:∀a o,s.heap.get? a=some o->∃o',s'.heap.get? a=some o'
 os:s'.os=s.os
theorem av.refl:av fr W Wp s W s:=⟨fun Y Y e=>e,fun Y Y e=>e,fun Y Y=>.inl,fun Y=>.inl,fun Y Y e Y Y=>⟨_,e,.inl rfl⟩,fun Y Y e=>⟨_,e⟩,rfl⟩
theorem av.R(T:av fr W Wp s W' s')(h:W.R v x):W'.R v x:=VR.mono T.F T.ρ v x h
theorem av.Rs(T:av fr W Wp s W' s')(h:W.Rs v x):W'.Rs v x:=VRs.mono T.F T.ρ v x h
theorem av.mono(T:av fr W Wp s W' s')(h:∀a∈Wp,a∈acts'):av fr W acts' s W' s':=
 ⟨T.F,T.ρ,T.newF,T.newρ,fun a o e n m=>T.pres a o e n fun q=>m (h a q),T.alive,T.os⟩
theorem av.presX(T:av fr W Wp s W' s')(e:s.heap.get? a=some o)(n:¬ W.owns a)(m:a∉Wp)(k:∀es n,o.data≠.dict es n):s'.heap.get? a=some o:=aH (T.pres _ _ e n m) fun Q A f=>aa (aa rfl (f.eq k)) A
theorem av.gone(T:av fr W Wp s W' s')(h:s'.heap.get? a=none):s.heap.get? a=none:=by
 cases e:s.heap.get? a with
 |none=>rfl
 |some o=>obtain⟨Q,A⟩:=T.alive a o e;exact am (aU A h)
theorem av.owns(T:av fr W Wp s W' s')(h:W'.owns a):W.owns a∨s.heap.get? a=none:=by
 refine aH h fun p b e=>?_;rcases T.newρ p b with q|⟨q,c⟩
 ·exact .inl ⟨p,q,e⟩
 ·clear h b;rcases e with rfl|rfl
  ·exact .inr q
  ·exact .inr c
theorem av.trans(T:av fr W Wp s W' s')(D:av fr W' Wp s' w c):av fr W Wp s w c where
 F a o e:=D.F _ _ (T.F _ _ e)
 ρ k p e:=D.ρ _ _ (T.ρ _ _ e)
 newF a o e:=by
  rcases D.newF _ _ e with q|q|q
  ·exact T.newF _ _ q
  ·exact .inr (.inl (T.gone q))
  ·rcases T.owns q with r|r
   ·exact .inr (.inr r)
   ·exact .inr (.inl r)
 newρ p e:=by
  rcases D.newρ _ e with q|⟨q,b⟩
  ·exact T.newρ _ q
  ·exact .inr ⟨T.gone q,T.gone b⟩
 pres a o e n m:=by
  refine aH (T.pres _ _ e n m) fun d f f1=>?_;obtain⟨y,g,f2⟩:=D.pres _ _ f (fun q=>by
   rcases T.owns q with r|r
   ·exact n r
   ·exact am (aU e r)) m
  exact⟨y,g,f1.trans f2⟩
 alive a o e:=by obtain⟨Q,A⟩:=T.alive a o e;exact D.alive _ _ A
 os:=D.os.trans T.os
theorem av.up(T:av fr W [] s W' s'):av fr W Wp s W' s':=T.mono fun Y h=>(cq h).elim
theorem av.tu(T:av fr W Wp s W' s')(D:av fr W' [] s' w a):av fr W Wp s w a:=T.trans D.up
@[elab_as_elim] theorem iR{W:Wd}{C:ae->Prop}(e:vI v=some i)(h:W.R v x)(k:∀t,C (.int i t)):C x:=(mc e▸h).elim fun t q=>q▸k t
@[elab_as_elim] theorem sR{W:Wd}{C:ae->Prop}(e:vS v=some i)(h:W.R v x)(k:∀t,C (.str i t)):C x:=(ty e▸h).elim fun t q=>q▸k t
@[elab_as_elim] theorem cR{W:Wd}{C:ae->Prop}(e:vC v=some u)(h:W.R v x)(k:C u):C x:=(ki e▸h)▸k
@[elab_as_elim] theorem jR{W:Wd}{C:ae->Prop}(e:vO v=some j)(h:W.R v x)(k:∀p,W.ρ[j]?=some p->C (.ref p.1)):C x:=(qU e▸h).elim fun p q=>q.2▸k p q.1
@[elab_as_elim] theorem nR{W:Wd}{C:ae->Prop}(e:vN v=true)(h:W.R v x)(k:C .none):C x:=(wt e▸h)▸k
@[elab_as_elim] theorem bR{W:Wd}{C:ae->Prop}(e:nj v=some b)(h:W.R v x)(k:C (.bool b)):C x:=(tx e▸h)▸k
section
variable {W:Wd}{C:ae->Prop}{v:V}{x:ae}{α:Type}{r:α}
@[elab_as_elim] theorem ib(e:(vI v).bind f=some r)(h:W.R v x)(k:∀i t,f i=some r->C (.int i t)):C x:=ax e fun i a=>iR a h fun t=>k i t
@[elab_as_elim] theorem jA(e:(vS v).bind f=some r)(h:W.R v x)(k:∀i t,f i=some r->C (.str i t)):C x:=ax e fun i a=>sR a h fun t=>k i t
@[elab_as_elim] theorem Ci(e:(vC v).bind f=some r)(h:W.R v x)(k:∀u,f u=some r->C u):C x:=ax e fun u a g=>cR a h (k u g)
@[elab_as_elim] theorem iS(e:(vO v).bind f=some r)(h:W.R v x)(k:∀j p,W.ρ[j]?=some p->f j=some r->C (.ref p.1)):C x:=ax e fun j a=>jR a h fun p=>k j p
end
theorem ej{W:Wd}(h:W.Rs [] xs):xs=[]:=h
section
variable {W:Wd}{C:ae->Prop}{v:V}{x:ae}{α:Type}{r:α}
@[elab_as_elim] theorem mY{C:List ae->Prop}(e:(cN vs).bind f=some r)(h:W.Rs vs xs)(k:∀v y,W.R v y->f v=some r->C [y]):C xs:=
 ax e fun v a g=>wj a (fun h=>h.elim fun y h=>h.elim fun l h=>h.1▸h.2.2▸k v y h.2.1 g) h
end
noncomputable abbrev lC(x:Option ae):cS:={ cls:=.type "cell",data:=.cell x }
def kR(W:Wd):Option V->Option ae->Prop
 |none,_=>True
 |some v,x=>∃y,x=some y/\W.R v y
noncomputable def du(sc:aL)(U:bj):List ai:=U.locals::sc.names.filterMap fun nk=>if nk.2==.cell then U.cells.lookup nk.1 else none
theorem pV:∀{l:List (Str×gC)}{j:Nat},cv n l j=some (i,k)->j<=i/\l[i-j]?=some (n,k):=by
 intro p;induction p with
 |nil=>intro _ h;trivial
 |cons a0 r I=>
  intro j h;have h:(if a0.1==n then some (j,a0.2) else cv n r (j+1))=some (i,k):=h;by_cases e:(a0.1==n)=true
  ·rw[if_pos e] at h;obtain A:=eq_of_beq e;refine kd i k (cB (aR h)) ?_;clear e;subst A;simp
  ·rw[if_neg e] at h;obtain⟨a,b⟩:=I h;refine⟨by exact z8 a,?_⟩;have:i-j=(i-(j+1))+1:=i6 (aP [_,_,_,_] (.l (.a af aj) aA) (.l aA (.a aY bI)) (.l af i4) tU (dU (pi (z8 a))) (oN _ _)) (aP [_,_,_,_] (.l (.a af bI) aA) (.l aA (.a aY aj)) (.l aF aY) tU (dU (pi (a))) (oN _ _));refine aa ?_ this;exact b
theorem pU(h:cv n l 0=some (i,k))(d:cv a l 0=some (i,c)):n=a:=by obtain b:=(pV d).2;rw[((pV h).2)] at b;exact(cB (aR b)).1
theorem nZ(h:cv n l 0=some (i,k)):(n,k)∈l:=
 et (pV h).2
structure dn(W:Wd)(sc:aL)(U:bj)(fr:List (Option V))(h:bk):Prop where
 kind:U.scope.kind=.function
 names:∀n i k,cv n sc.names 0=some (i,k)->U.scope.names.lookup n=some k∨(k=.free/\U.scope.names.lookup n=some .cell)
 len:fr.length=sc.names.length
 nd:(sc.names.map (·.1)).Nodup
 loc:∃m,h.Ns U.locals m/\∀n i,cv n sc.names 0=some (i,.local)->kR W (fr.getD i none) (m n)
 cel:∀n i,cv n sc.names 0=some (i,.cell)->∃c x,U.cells.lookup n=some c/\h.get? c=some (lC x)/\kR W (fr.getD i none) x
 inj:∀n n' i i' c,cv n sc.names 0=some (i,.cell)->cv n' sc.names 0=some (i',.cell)->U.cells.lookup n=some c->U.cells.lookup n'=some c->n=n'
 nloc:∀n i c,cv n sc.names 0=some (i,.cell)->U.cells.lookup n=some c->c≠U.locals
 glob:U.globals=3
 blt:U.builtins=0
theorem mS(sc:aL)(U:bj):U.locals∈du sc U:=bK
theorem xI(h:cv n sc.names 0=some (i,.cell))(e:U.cells.lookup n=some c):c∈du sc U:=by refine bD _ (List.mem_filterMap.mpr ⟨(n,.cell),nZ h,?_⟩);trivial
inductive cL(W:Wd)(h:bk):List aL->bj->List (List (Option V))->List ai->Prop
 |fn {sc:aL}{U:bj}{fr:List (Option V)}:dn W sc U fr h->(∀n i,cv n sc.names 0≠some (i,.free))->cL W h [sc] U [fr] (du sc U)
 |comp {sc WQ:aL}{r:List aL}{U out:bj}{fr:List (Option V)}{frs:List (List (Option V))}{Wp:List ai}:cL W h (WQ::r) out frs Wp->dn W sc U fr h->
   (∀a∈du sc U,a∉Wp)->(∀n i,cv n sc.names 0=some (i,.free)->U.cells.lookup n=out.cells.lookup n)->cL W h (sc::WQ::r) U (fr::frs) (du sc U++Wp)
def Im(W:Wd)(h:bk):List aL->bj->List (List (Option V))->List ai->Prop
 |[],_,_,_=>False
 |[sc],U,fs,Wp=>∀C:Prop,(∀fr,fs=[fr]->Wp=du sc U->dn W sc U fr h->(∀n i,cv n sc.names 0≠some (i,.free))->C)->C
 |sc::WQ::r,U,fs,Wp=>∀C:Prop,(∀out fr frs l,fs=fr::frs->Wp=du sc U++l->cL W h (WQ::r) out frs l->dn W sc U fr h->(∀a∈du sc U,a∉l)->(∀n i,cv n sc.names 0=some (i,.free)->U.cells.lookup n=out.cells.lookup n)->C)->C
theorem cL.inv(R:cL W h Wr U fs Wp):Im W h Wr U fs Wp:=by
 induction R with
 |fn f g=>exact fun _ k=>k _ rfl rfl f g
 |comp a f g k _=>exact fun _ j=>j _ _ _ _ rfl rfl a f g k
theorem tf(R:cL W h Wr U fs Wp):Wr≠[]:=by induction R<;>exact wM _ _
theorem kR.mono(b:∀a o,W.F a=some o->W'.F a=some o)(c:∀(k:Nat)(p:ai×ai),W.ρ[k]?=some p->W'.ρ[k]?=some p)(k:kR W o x):kR W' o x:=by
 cases o with
 |none=>exact k
 |some v=>exact aH k fun y e f=>⟨y,e,VR.mono b c _ _ f⟩
theorem dn.mono(R:dn W sc U fr h)(f:∀a o,W.F a=some o->W'.F a=some o)(g:∀(k:Nat)(p:ai×ai),W.ρ[k]?=some p->W'.ρ[k]?=some p)
  (j:∀a∈du sc U,∀o,h.get? a=some o->∃Q,q.get? a=some Q/\hM r a o Q):dn W' sc U fr q where
 kind:=R.kind
 names:=R.names
 len:=R.len
 nd:=R.nd
 loc:=by exact aH R.loc fun m a b=>zx a fun o es ep u w l=>aH (j _ (mS ..) o u) fun Q C P=>⟨m,⟨Q,es,ep,C,P.data.trans w,l⟩,fun n i e=>kR.mono f g (b n i e)⟩
 cel n i e:=by refine fV (R.cel n i e) fun c x a b d=>aH (j _ (xI e a) _ b) fun Q C P=>?_;rw[P.eq (fun es n z=>by trivial)] at C;exact⟨c,x,a,C,kR.mono f g d⟩
 inj:=R.inj
 nloc:=R.nloc
 glob:=R.glob
 blt:=R.blt
theorem cL.mono(R:cL W h Wr U fs Wp)(b:∀a o,W.F a=some o->W'.F a=some o)
  (c:∀(k:Nat)(p:ai×ai),W.ρ[k]?=some p->W'.ρ[k]?=some p) (j:∀a∈Wp,∀o,h.get? a=some o->∃Q,d.get? a=some Q/\hM fr a o Q):cL W' d Wr U fs Wp:=by
 induction R with
 |fn f g=>exact .fn (f.mono b c j) g
 |comp _ f g k I=>exact .comp (I fun a l=>j a (pe _ l)) (f.mono b c fun a l=>j a (gZ _ l)) g k
theorem cL.head(R:cL W h (sc::r) U fs Wp):∃fr e,fs=fr::e/\dn W sc U fr h:=by
 cases r with
 |nil=>exact R.inv _ fun fr e _ f _=>⟨fr,_,e,f⟩
 |cons s r=>exact R.inv _ fun _ fr _ _ e _ _ f _ _=>⟨fr,_,e,f⟩
theorem cL.cell(R:cL W h Wr U fs Wp):∀{p:Nat×Nat},nV n Wr=some p->
  ∃c x,U.cells.lookup n=some c/\h.get? c=some (lC x)/\kR W ((fs.getD p.1 []).getD p.2 none) x:=by
 induction R with
 |@fn sc U fr f g=>exact fun e=>ax e fun q i j=>cD j (fun d e=>cy e (f.cel n q.1 (i.trans (congrArg some (rE rfl d))))) fun Y e=>bq e fun d Y=>(g n q.1 (i.trans (congrArg some (rE rfl d)))).elim
 |@comp sc w r U out fr l Wp Y f Y k I=>exact fun e=>ax e fun q i j=>cD j (fun d e=>cy e (f.cel n q.1 (i.trans (congrArg some (rE rfl d))))) fun Y e=>bq e fun d e=>ax e fun p a e=>cy e ((I a).imp fun c b=>b.imp fun x b=>⟨(k n q.1 (i.trans (congrArg some (rE rfl d)))).trans b.1,b.2⟩)
noncomputable abbrev aC(A:a8):List ai:=(A.frames.getD []).filterMap (·.frame)
def fY(A:a8)(W:Wd)(h:bk):Prop:=∃l,A.frames=some l/\∀U∈l,U.scope.kind=.function/\∃b,U.frame=some b/\W.F b=none/\¬ W.owns b/\∃o,h.get? b=some o/\∃es n,o.data=.dict es n
theorem av.F_none(T:av fr W Wp s W' s')(h:s.heap.get? a=some o)(b:W.F a=none)(u:¬ W.owns a):W'.F a=none:=by
 cases e:W'.F a with
 |none=>rfl
 |some Q=>
  rcases T.newF _ _ e with q|q|q
  ·exact am (aU q b)
  ·obtain q:=h▸q;trivial
  ·trivial
theorem av.O_none(T:av fr W Wp s W' s')(h:s.heap.get? a=some o)(u:¬ W.owns a):¬ W'.owns a:=fun q=>by
 rcases T.owns q with r|r
 ·trivial
 ·obtain r:=h▸r;trivial
theorem fY.lift(K:fY A W s.heap)(T:av fr W [] s W' s'):fY A W' s'.heap:=by refine aH K fun l e h=>⟨l,e,fun U B=>?_⟩;exact j8 (h U B) fun j b a H C o d es n p=>aH (T.pres _ _ d C (cq)) fun Q g c=>⟨j,b,a,T.F_none d H C,T.O_none d C,Q,g,es,n,c.data.trans p⟩
structure ar(A:a8)(W:Wd)(Wp:List ai)(Wr:List aL)(U:bj)(σ:S)(s:ak):Prop where
 st:aE W σ.st s
 act:cL W s.heap Wr U σ.fs Wp
 actF:∀a∈Wp,W.F a=none
 actO:∀a∈Wp,¬ W.owns a
 actS:∀a∈Wp,∃o,s.heap.get? a=some o
 stk:fY A W s.heap
theorem ar.lift{st:List O}
    (R:ar A W Wp Wr U ⟨fs,st⟩ s) (b:aE W' x s') (T:av (aC A) W [] s W' s'):ar A W' Wp Wr U ⟨fs,x⟩ s' where
  st:=b
  act:=R.act.mono T.F T.ρ fun a l o e=>T.pres _ _ e (R.actO a l) (by simp)
  actF a l:=by obtain⟨Q,d⟩:=R.actS a l;exact T.F_none d (R.actF a l) (R.actO a l)
  actO a l:=by obtain⟨Q,d⟩:=R.actS a l;exact T.O_none d (R.actO a l)
  actS a l:=by obtain⟨Q,d⟩:=R.actS a l;exact aH (T.pres _ _ d (R.actO a l) (by simp)) fun y H Y=>⟨y,H⟩
  stk:=R.stk.lift T
structure aW(hd:Bool)(n:Nat)(A:a8):Prop where
 depth:A.depth+2*n<=690
 units:A.units+40*n<=9000
 hand:hd=false->A.handled=none
 frames:∃l,A.frames=some l
abbrev aT:ae->ak->Prop:=fun Y Y=>False
abbrev MD:eF:=bO pw wd
section
variable {α β:Type}{A:a8}{s:ak}{m:bE α}{f:α->bE β}{P R:α->ak->Prop}{Q:β->ak->Prop}{E:ae->ak->Prop}
abbrev KP(A:a8)(f:α->bE β)(Q:β->ak->Prop)(E:ae->ak->Prop):α->ak->Prop:=fun a s'=>al MD A (f a) Q E s'
end
theorem wB{f:j->bE c}{E:ae->ak->Prop}(h:al MD A m (KP A f Q E) E s):al MD A (m>>=f) Q E s:=aq h
theorem wN{R:j->ak->Prop}{E:ae->ak->Prop}(h:al MD A m P aT s)(k:∀a s',P a s'->R a s'):al MD A m R E s:=bM h k fun Y Y f=>f.elim
theorem eZ{P:j->ak->Prop}{Q:c->ak->Prop}{E:ae->ak->Prop}(h:al MD A m P aT s)(k:∀a s',P a s'->al MD A (f a) Q E s'):al MD A (m>>=f) Q E s:=wB (wN h k)
theorem nq{f:j->bE c}{E:ae->ak->Prop}(h:al MD A (f a) Q E s):al MD A (pure a>>=f) Q E s:=wB (ay h)
theorem iX{f:j->bE c}{E:ae->ak->Prop}(e:m=pure a)(h:al MD A (f a) Q E s):al MD A (m>>=f) Q E s:=wB (mf e h)
section
variable {α β:Type}{A:a8}{s:ak}{m:bE α}{f:α->bE β}{P R:α->ak->Prop}{Q:β->ak->Prop}{E:ae->ak->Prop}
theorem eC{f:Unit->bE β}(h:al MD A (f ()) Q E s):al MD A (standAt p>>=f) Q E s:=wB (tH h)
end
theorem er{f:j->bE c}{E:ae->ak->Prop}(h:al MD A m (KP A f Q E) E s):al MD A (holding vs m>>=f) Q E s:=wB (eD h)
def PQ(A:a8)(W:Wd)(s:ak)(Wv:List O)(RR:Wd->β->α->Prop)(b:β)(x:α)(s':ak):Prop:=∀C:Prop,(∀(W':Wd),aE W' Wv s'->av (aC A) W [] s W' s'->RR W' b x->C)->C
theorem PQ.mk{f:a8}{g:ak}{h:List O}{i:Wd->e->j->Prop}{B:e}{X:j}{s':ak}:∀(W':Wd),aE W' h s'->av (aC f) w [] g W' s'->i W' B X->PQ f w g h i B X s':=fun d z m x3 C k=>k d z m x3
def AQ(A:a8)(Wr:List aL)(U:bj)(W:Wd)(Wp:List ai)(σ':S)(s:ak)(RR:Wd->β->α->Prop)(b:β)(x:α)(s':ak):Prop:=∀C:Prop,(∀(W':Wd),ar A W' Wp Wr U σ' s'->av (aC A) W Wp s W' s'->RR W' b x->C)->C
theorem AQ.mk{e:a8}{f:List aL}{g:bj}{h:List ai}{N:S}{i:ak}{l:Wd->c->j->Prop}{B:c}{X:j}{s':ak}:∀(W':Wd),ar e W' h f g N s'->av (aC e) w h i W' s'->l W' B X->AQ e f g w h N i l B X s':=fun d z m x3 C k=>k d z m x3
def ra{β γ:Type}(c:M β)(g:β->M γ)(σ:S)(b:γ)(σ':S):Prop:=∀C:Prop,(∀(x:β)(σ1:S),c σ=some (x,σ1)->g x σ1=some (b,σ')->C)->C
theorem ra.mk{a e:Type}{c:M a}{g:a->M e}{d:S}{b:e}{n:S}:∀(x:a)(i:S),c d=some (x,i)->g x i=some (b,n)->ra c g d b n:=fun f z m x3 C k=>k f z m x3
theorem PQ.ex{g:a8}{i:ak}{k:List O}{D:Wd->f->j->Prop}{B:f}{x:j}{l:ak}(h:PQ g w i k D B x l):∃W',aE W' k l/\av (aC g) w [] i W' l/\D W' B x:=h _ fun W' a B c=>⟨W',a,B,c⟩
theorem ra.ex{d e:Type}{c:M d}{g:d->M e}{f:S}{b:e}{n:S}(h:ra c g f b n):∃x i,c f=some (x,i)/\g x i=some (b,n):=h _ fun x y a b=>⟨x,y,a,b⟩
def At(A:a8)(Wr:List aL)(U:bj)(W:Wd)(Wp:List ai)(σ:S)(s:ak)(RR:Wd->β->α->Prop)(t:bE α)(c:M β):Prop:=
 ∀b σ',c σ=some (b,σ')->al (MD) A t (AQ A Wr U W Wp σ' s RR b) aT s
def Wk(hd:Bool)(n:Nat)(Wr:List aL)(RR:Wd->β->α->Prop)(t:bj->bE α)(c:M β):Prop:=
 ∀A,aW hd n A->∀W Wp U σ s,ar A W Wp Wr U σ s->At A Wr U W Wp σ s RR (t U) c
theorem bind_some{g:d->M f}(e:(c>>=g) a=some (b,n)):ra c g a b n:=by
 have A:M.bind c g a=some _:=e;delta M.bind at A;cases q:c a with
 |none=>obtain A:=q▸A;exact am A
 |some p=>obtain A:=q▸A;exact .mk p.1 p.2 q A
theorem bA{C:Prop}{g:d->M f}(e:(c>>=g) a=some (b,n))(k:∀x i,c a=some (x,i)->g x i=some (b,n)->C):C:=bind_some e _ k
theorem aN{c:Type}{a:Wd->c->j->Prop}{E:ae->ak->Prop}{b:c}(h:al MD A m (AQ A Wr U W Wp n s a b) aT w)(k:∀y s' W',ar A W' Wp Wr U n s'->av (aC A) W Wp s W' s'->a W' b y->R y s'):al MD A m R E w:=wN h fun y s' q=>q _ (k y s')
theorem aB{c:Type}{a:Wd->c->j->Prop}{Q:e->ak->Prop}{E:ae->ak->Prop}{b:c}(h:al MD A m (AQ A Wr U W Wp n s a b) aT w)(k:∀y s' W',ar A W' Wp Wr U n s'->av (aC A) W Wp s W' s'->a W' b y->al MD A (f y) Q E s'):al MD A (m>>=f) Q E w:=wB (aN h k)
theorem pN{c:Type}{a:Wd->c->j->Prop}{E:ae->ak->Prop}{b:c}(h:al MD A m (PQ A W s x a b) aT w)(k:∀y s' W',aE W' x s'->av (aC A) W [] s W' s'->a W' b y->R y s'):al MD A m R E w:=wN h fun y s' q=>q _ (k y s')
section
variable {α β γ δ:Type}{A:a8}{Wr:List aL}{U:bj}{W:Wd}{Wp:List ai}{σ:S}{s:ak}{RR:Wd->β->α->Prop}
theorem At.mono(h:At A Wr U W Wp σ s RR t c)(k:∀W b x,RR W b x->RR' W b x):At A Wr U W Wp σ s RR' t c:=
 fun b n e=>aN (h b n e) fun x s' W' a b d=>.mk W' a b (k _ _ _ d)
end
theorem At.bind{f:w->bE C}{g:B->M D}(h:At A Wr U W Wp o s d t c)
  (k:∀x b a i s1,ar A a Wp Wr U i s1->av (aC A) W Wp s a s1->d a b x->At A Wr U a Wp i s1 RR' (f x) (g b)):
  At A Wr U W Wp o s RR' (t>>=f) (c>>=g):=fun b p e=>by
 exact bA e fun x i m n=>aB (h x i m) fun y s1 a r T l=>aN (k y x a i s1 r T l b p n) fun z u v R j q=>.mk v R (T.trans j) q
section
variable {α β γ δ:Type}{A:a8}{Wr:List aL}{U:bj}{W:Wd}{Wp:List ai}{σ:S}{s:ak}{RR:Wd->β->α->Prop}
theorem At.standAt(k:At A Wr U W Wp σ s RR (f ()) c):At A Wr U W Wp σ s RR (JS p>>=f) c:=
 fun b n e=>eC (k b n e)
theorem At.holding(k:At A Wr U W Wp σ s RR t c):At A Wr U W Wp σ s RR (PySem.holding vs t) c:=
 fun b n e=>eD (k b n e)
theorem At.pure(R:ar A W Wp Wr U σ s)(k:RR W b x):At A Wr U W Wp σ s RR (rF x) (rF b):=fun w n e=>by exact kd w n (cB (aR e)) (ay (.mk W R av.refl k))
end
theorem At.fail{a:Wd->c->j->Prop}:At A Wr U W Wp d s a t (M.fail:M c):=fun b n=>by exact am
theorem At.operate{a:Wd->f->ae->Prop}(k:At A Wr U W Wp d s a t c):At A Wr U W Wp d s a (PySem.operate vs t) c:=
 fun b n e Γ p hΓ=>by refine aa ?_ (JU ..);exact k b n e Γ p hΓ
section
variable {α β γ δ:Type}{A:a8}{Wr:List aL}{U:bj}{W:Wd}{Wp:List ai}{σ:S}{s:ak}{RR:Wd->β->α->Prop}
def Pr(A:a8)(W:Wd)(s:ak)(RR:Wd->β->α->Prop)(t:bE α)(r:Option (β×List O)):Prop:=
 ∀b Wv,r=some (b,Wv)->al (MD) A t (PQ A W s Wv RR b) aT s
theorem At.of_pr(R:ar A W Wp Wr U σ s)(r:Option (β×List O))(h:Pr A W s RR t r)(e:c σ=r.map fun p=>(p.1,{ σ with st:=p.2 })):
  At A Wr U W Wp σ s RR t c:=fun b n d=>by
 rw[e] at d;obtain⟨⟨w,j⟩,f⟩:=Option.map_eq_some_iff.mp d;exact kd b n (cB f.2) (pN (h w j f.1) fun x s' W' i T V=>.mk W' (R.lift i T) T.up V)
def dp(A:a8)(W:Wd)(s:ak)(st:List O)(RR:Wd->β->α->Prop)(t:bE α)(r:Option β):Prop:=
 ∀b,r=some b->al (MD) A t (PQ A W s st RR b) aT s
theorem At.of_prR(R:ar A W Wp Wr U σ s)(h:dp A W s σ.st RR t r):
  At A Wr U W Wp σ s RR t (M.lift r):=fun b n a=>by
 delta M.lift at a;cases r with
 |none=>exact am a
 |some w=>rw[rD,gj] at a;exact kd b n a (pN (h w rfl) fun x s' W' e T V=>.mk W' (ar.lift R e T) T.up V)
theorem At.store(k:At A Wr U W Wp σ s RR t (g σ.st)):At A Wr U W Wp σ s RR t (Mine.store>>=g):=k
end
theorem dL.mono(b:∀a o,W.F a=some o->W'.F a=some o)(i:∀(k:Nat)(p:ai×ai),W.ρ[k]?=some p->W'.ρ[k]?=some p):
  ∀(es:List _)(xs:List i0),dL W es xs->dL W' es xs:=by
 intro j;induction j with
 |nil=>intro _ h;exact h
 |cons a0 r I=>intro xs h;exact Rj h fun e es t a c d f g=>⟨e,es,t,a,c,d,VR.mono b i _ _ f,I es g⟩
theorem slotR.mono(c:∀a o,W.F a=some o->W'.F a=some o)(d:∀(k:Nat)(p:ai×ai),W.ρ[k]?=some p->W'.ρ[k]?=some p)(h:OR.slotR W o x):OR.slotR W' o x:=by
 cases o with
 |none=>exact h
 |some v=>exact aH h fun y a b=>⟨y,a,VR.mono c d _ _ b⟩
theorem OR.mono(g:∀a o,W.F a=some o->W'.F a=some o)(j:∀(k:Nat)(p:ai×ai),W.ρ[k]?=some p->W'.ρ[k]?=some p)
  (d:∀o,h.get? p.1=some o->q.get? p.1=some o) (H:∀o,h.get? p.2=some o->q.get? p.2=some o) (o:O) (r:OR W o p h):OR W' o p q:=by
 cases o with
 |list vs=>exact Rd r fun e l items n a b=>⟨e,l,items,n,d _ a,VRs.mono g j _ _ b⟩
 |dict es ep=>exact lX r fun e nd s a b=>⟨e,nd,s,d _ a,dL.mono g j _ _ b⟩
 |set vs=>exact lX r fun e l o a b=>⟨e,l,o,d _ a,b⟩
 |inst c fs=>exact zs r fun A e D y m b w f=>aH D fun v a Q=>⟨A,e,⟨v,d _ a,Q⟩,y,m,H _ b,w,FsR.mono g j _ _ f⟩
 |slot c fs=>exact Rc r fun A e sl a Q b w x=>⟨A,e,sl,d _ a,H _ Q,b,w,fun f t u=>slotR.mono g j (x f t u)⟩
 |liter src i=>exact ga r fun e l C f=>oE C fun o a=>⟨e,l,⟨o,d _ a.1,a.2⟩,VR.mono g j _ _ f⟩
 |dead=>trivial
theorem aE.keeps{fr:List ai}{s':ak}{g:List O}(S:aE W g s)(j:∀b o,s.heap.get? b=some o->s'.heap.get? b=some o)(z:s'.gens=#[]:=by first|rfl|assumption)(c:s'.os=s.os:=by rfl):aE W g s'/\av fr W [] s W s':=
  ⟨{ base:=S.base,frozen:=fun a o e=>j _ _ (S.frozen _ _ e),len:=S.len,
     objs:=fun k p e=>OR.mono (fun Y Y e=>e) (fun Y Y e=>e) (j _) (j _) _ (S.objs k p e),
     there:=fun p d=>by exact ft (S.there p d) fun f Q b=>oE f fun o a=>⟨⟨o,j _ _ a⟩,Q,j _ _ b⟩,
     free:=S.free,apart:=S.apart,gens:=z },
   ⟨fun Y Y e=>e,fun Y Y e=>e,fun Y Y=>.inl,fun Y=>.inl,fun a o e Y Y=>⟨o,j _ _ e,.inl rfl⟩,fun a o e=>⟨o,j _ _ e⟩,c⟩⟩
noncomputable def Wd.add(W:Wd)(a:ai)(o:cS):Wd:={ W with F:=fun b=>if b=a then some o else W.F b }
theorem Wd.add_self{W:Wd}:(W.add a o).F a=some o:=by simp[Wd.add]
theorem Wd.add_keep{W:Wd}(h:W.F a=none):∀b q,W.F b=some q->(W.add a o).F b=some q:=fun b q e=>by
 delta Wd.add;by_cases A:b=a
 ·subst A;replace e:=h▸e;exact am e
 ·simp[A,e]
theorem aE.new{fr:List ai}{s':ak}{n:List O}(S:aE W n s)(j:∀b o,s.heap.get? b=some o->s'.heap.get? b=some o)(h:s'.heap.get? a=some o)(F:s.heap.get? a=none)
  (z:s'.gens=#[]:=by first|rfl|assumption) (f:s'.os=s.os:=by rfl):aE (W.add a o) n s'/\av fr W [] s (W.add a o) s':=by
 have i:∀p∈W.ρ,p.1≠a/\p.2≠a:=fun p g=>by exact ft (S.there p g) fun t m w=>oE t fun q b=>⟨(by rintro rfl;replace b:=F▸b;exact am b),(by rintro rfl;replace w:=F▸w;exact am w)⟩
 obtain⟨d,T⟩:=S.keeps j z f;have c:W.F a=none:=by
  cases e:W.F a with
  |none=>rfl
  |some q=>have:=S.frozen _ _ e;replace this:=F▸this;exact am this
 refine⟨{ d with base:=fun b q e=>(Wd.add_keep c) _ _ (S.base _ _ e),frozen:=fun b q e=>?_,objs:=fun k p e=>OR.mono (Wd.add_keep c) (fun Y Y e=>e) (fun Y e=>e) (fun Y e=>e) _ (d.objs k p e),free:=fun k p e l=>?_ },
  ⟨(Wd.add_keep c),fun Y Y e=>e,fun b q e=>?_,fun Y e=>.inl e,T.pres,T.alive,T.os⟩⟩
 ·unfold Wd.add at e;by_cases A:b=a
  ·clear F c i;subst A;simp at e;subst e;trivial
  ·simp[A] at e;exact d.frozen _ _ e
 ·obtain⟨u,v⟩:=i p (et e);simp[Wd.add,u,v,((S.free k p e l).1),((S.free k p e l).2)]
 ·unfold Wd.add at e;by_cases A:b=a
  ·clear h c i;subst A;exact .inr (.inl F)
  ·simp[A] at e;exact .inl e
noncomputable def Wd.push(W:Wd)(p:ai×ai):Wd:={ W with ρ:=W.ρ++[p] }
theorem oB{W:Wd}:∀(k:Nat)(q:ai×ai),W.ρ[k]?=some q->(W.push p).ρ[k]?=some q:=fun k q e=>by
 have:k<W.ρ.length:=by
  rcases lp k W.ρ.length with h|h
  ·exact h
  ·rw[fX h] at e;exact am e
 refine aa ?_ (wR this);exact e
theorem dC{s:List O}(h:k<s.length):aD (s++[o]) k=aD s k:=by delta aD;simp only[eR,wR h]
theorem mP{s:List O}:aD (s++[o]) s.length=o:=by delta aD;refine(?_:((s++[o])[s.length]?).getD _=_);refine aa ?_ List.getElem?_concat_length;rfl
theorem aE.lt{a:List O}(S:aE W a s)(e:W.ρ[k]?=some p):k<a.length:=by
 rcases lp k W.ρ.length with h|h
 ·exact S.len▸h
 ·rw[fX h] at e;exact am e
theorem aE.newO{fr:List ai}{s':ak}{G:List O}(S:aE W G s)(R:∀b o,s.heap.get? b=some o->s'.heap.get? b=some o)(I:∃q,s'.heap.get? p.1=some q)(P:∃q,s'.heap.get? p.2=some q)
  (F:s.heap.get? p.1=none) (i:s.heap.get? p.2=none) (C:OR (W.push p) o p s'.heap)
  (D:s'.gens=#[]:=by first|rfl|assumption) (ho:s'.os=s.os:=by rfl):
  aE (W.push p) (G++[o]) s'/\av fr W [] s (W.push p) s'/\(W.push p).R (.obj G.length) (.ref p.1):=by
 obtain⟨v,T⟩:=S.keeps R D ho;have t:(W.push p).ρ[G.length]?=some p:=by delta Wd.push;refine aU ?_ S.len;simp
 have B:∀a,s.heap.get? a=none->W.F a=none:=fun a Q=>by
  cases e:W.F a with
  |none=>rfl
  |some q=>have:=S.frozen _ _ e;replace this:=Q▸this;exact am this
 have g:∀(k:Nat)(q:ai×ai),(W.push p).ρ[k]?=some q->(k=G.length/\q=p)∨(k<G.length/\W.ρ[k]?=some q):=fun k q e=>by
  have f:k<G.length+1:=by
   rcases lp k (W.push p).ρ.length with h|h
   ·simpa[Wd.push,S.len] using h
   ·rw[fX h] at e;exact am e
  by_cases x:k=G.length
  ·subst x;replace e:=t▸e;exact .inl ⟨rfl,(aR e).symm⟩
  ·refine .inr ⟨by exact(Jy x).elim (aJ [_,_] (.l aF aj) (.l aF aj) tU) (fun z=>eg [_,_] (.l aF bI) (.l bI af) (.l aF bI) (.l aF aj) tU f z f),?_⟩;delta Wd.push at e
   rwa [wR (by refine aa ?_ S.len;exact(Jy x).elim (aJ [_,_] (.l aF aj) (.l aF aj) tU) fun z=>eg [_,_] (.l aF bI) (.l bI af) (.l aF bI) (.l aF aj) tU f z f)] at e
 have u:∀(k:Nat)(q:ai×ai),W.ρ[k]?=some q->q.1≠p.1/\q.1≠p.2/\q.2≠p.1/\q.2≠p.2:=fun k q e=>by refine ft (S.there q (et e)) fun q5 o2 b=>oE q5 fun o1 a=>?_;refine⟨?_,?_,?_,?_⟩<;>(intro h;first|(replace a:=h▸a;replace a:=F▸a;exact am a)|(replace a:=h▸a;replace a:=i▸a;exact am a)|(replace b:=h▸b;replace b:=F▸b;exact am b)|(replace b:=h▸b;replace b:=i▸b;exact am b))
 refine⟨{ base:=S.base,frozen:=v.frozen,len:=by simp[Wd.push,S.len],objs:=fun k q e=>?_,there:=fun q n=>?_,free:=fun k q e l=>?_,apart:=fun j k q r H y hn=>?_,gens:=D },
  ⟨fun Y Y e=>e,oB,fun Y Y e=>.inl e,fun q n=>?_,T.pres,T.alive,T.os⟩,?_⟩
 ·rcases g k q e with⟨rfl,rfl⟩|⟨f,A⟩
  ·refine aa ?_ mP;trivial
  ·refine aa ?_ (dC f);exact OR.mono (W:=W) (W':=W.push p) (fun Y Y e=>e) oB (fun Y e=>e) (fun Y e=>e) _ (v.objs k q A)
 ·rcases List.mem_append.mp n with m|m
  ·exact v.there q m
  ·simp at m;clear F i C t g u n;subst m;trivial
 ·rcases g k q e with⟨rfl,rfl⟩|⟨f,A⟩
  ·exact⟨B _ F,B _ i⟩
  ·replace l:=(dC f)▸l;exact S.free k q A l
 ·rcases g j q H with⟨rfl,rfl⟩|⟨f,A⟩
  ·rcases g k r y with⟨rfl,rfl⟩|⟨hl',w⟩
   ·contradiction
   ·exact mX (u k r w) fun a b c d=>⟨bB a,bB c,bB b,bB d⟩
  ·rcases g k r y with⟨rfl,rfl⟩|⟨hl',w⟩
   ·exact u j q A
   ·exact S.apart j k q r A w hn
 ·rcases List.mem_append.mp n with m|m
  ·exact .inl m
  ·simp at m;clear I P C t g u n;subst m;exact .inr ⟨F,i⟩
 ·exact⟨p,t,rfl⟩
theorem eV{s:List O}(h:k<s.length):aD (s.set k o) k=o:=by delta aD;rw[eR,de h];rfl
theorem aZ{s:List O}(h:j≠k):aD (s.set k o) j=aD s j:=by delta aD;rw[eR,eR,dO (bB h)]
theorem aE.upd{fr:List ai}{s':ak}{D:List O}(S:aE W D s)(f:W.ρ[k]?=some p)(i:(aD D k).live=true)
  (g:∀b o,b≠p.1->b≠p.2->s.heap.get? b=some o->s'.heap.get? b=some o) (B:∃q,s'.heap.get? p.1=some q) (H:∃q,s'.heap.get? p.2=some q) (C:OR W o p s'.heap)
  (z:s'.gens=#[]:=by first|rfl|assumption) (t:s'.os=s.os:=by rfl):aE W (D.set k o) s'/\av fr W [] s W s':=by
 refine oA (S.free k p f i) fun f1 f2=>?_;have m:∀a o,W.F a=some o->a≠p.1/\a≠p.2:=fun a o e=>⟨(by rintro rfl;replace e:=f1▸e;exact am e),(by rintro rfl;replace e:=f2▸e;exact am e)⟩;refine⟨{ base:=S.base,frozen:=fun a o e=>g _ _ (m a o e).1 (m a o e).2 (S.frozen _ _ e),len:=by simpa using S.len,objs:=fun j q e=>?_,there:=fun q r=>?_,free:=fun j q e l=>?_,apart:=S.apart,gens:=z },
  ⟨fun Y Y e=>e,fun Y Y e=>e,fun Y Y=>.inl,fun Y=>.inl,fun a o e n Y=>⟨o,g _ _ (fun h=>n ⟨p,et f,.inl h⟩) (fun h=>n ⟨p,et f,.inr h⟩) e,.inl rfl⟩,fun a o e=>?_,t⟩⟩
 ·by_cases h:j=k
  ·subst h;replace e:=f▸e;obtain rfl:=aR e;refine aa ?_ (eV (S.lt f));trivial
  ·refine aa ?_ (aZ h);exact mX (S.apart j k q p e f h) fun a b c d=>OR.mono (fun Y Y e=>e) (fun Y Y e=>e) (fun Y=>g _ _ a b) (fun Y=>g _ _ c d) _ (S.objs j q e)
 ·obtain⟨j,A⟩:=A5 r;by_cases h:j=k
  ·clear i;subst h;replace A:=f▸A;obtain rfl:=aR A;trivial
  ·exact mX (S.apart j k q p A f h) fun a b c d=>ft (S.there q r) fun w v y=>oE w fun u x=>⟨⟨u,g _ _ a b x⟩,v,g _ _ c d y⟩
 ·by_cases h:j=k
  ·clear i;subst h;replace e:=f▸e;obtain rfl:=aR e;trivial
  ·replace l:=(aZ h)▸l;exact S.free j q e l
 ·by_cases x:a=p.1
  ·subst x;trivial
  ·by_cases y:a=p.2
   ·subst y;trivial
   ·exact⟨o,g _ _ x y e⟩
theorem aE.kill{a:List O}(S:aE W a s)(k:Nat):aE W (a.set k .dead) s where
 base:=S.base
 frozen:=S.frozen
 len:=by simpa using S.len
 objs j q e:=by
  by_cases h:j=k
  ·subst h;refine aa ?_ (eV (S.lt e));trivial
  ·refine aa ?_ (aZ h);exact S.objs j q e
 there:=S.there
 free j q e l:=by
  by_cases h:j=k
  ·subst h;replace l:=(eV (S.lt e))▸l;contradiction
  ·replace l:=(aZ h)▸l;exact S.free j q e l
 apart:=S.apart
 gens:=S.gens
theorem aE.freezeAt{d:List O}(S:aE W d s)(h:s.heap.get? a=some o)(c:W.F a=none)(hd:∀(k:Nat)(p:ai×ai),W.ρ[k]?=some p->(aD d k).live=true->p.1≠a/\p.2≠a)(H:W.owns a):
  aE (W.add a o) d s/\av fr W [] s (W.add a o) s:=by
 obtain m:=Wd.add_keep c;refine⟨{ S with base:=fun b q e=>m _ _ (S.base _ _ e),frozen:=fun b q e=>?_,objs:=fun k p e=>OR.mono m (fun Y Y e=>e) (fun Y e=>e) (fun Y e=>e) _ (S.objs k p e),free:=fun k p e l=>?_ },
  ⟨m,fun Y Y e=>e,fun b q e=>?_,fun Y e=>.inl e,fun Y Y e Y Y=>⟨_,e,.inl rfl⟩,fun Y Y e=>⟨_,e⟩,rfl⟩⟩
 ·unfold Wd.add at e;by_cases A:b=a
  ·clear c hd H;clear m;subst A;simp at e;subst e;trivial
  ·simp[A] at e;exact S.frozen _ _ e
 ·simp[Wd.add,((hd k p e l).1),((hd k p e l).2),((S.free k p e l).1),((S.free k p e l).2)]
 ·unfold Wd.add at e;by_cases A:b=a
  ·clear h c hd m;subst A;exact .inr (.inr H)
  ·simp[A] at e;exact .inl e
def wD(c init:ai)(meths:List (Str×ai)):Prop:=∀C:Prop,(∀nm q N bs sn sub col dd k0 k1 k2 k3 k5,∀mN:Str->Option ae,hb.get? c=some (sk nm q c N bs [.type "object"] true sn sub false col dd k0 k1 k2 k3 k5 "object.__new__")->hb.Ns N mN->mN "__getattribute__" = none->mN "__getattr__" = none->mN "__setattr__" = none->(∀f,f<=10->mN (ca f)=none)->mN "__init__" = some (.ref init)->(∀n a,meths.lookup n=some a->mN n=some (.ref a))->C)->C
theorem wD.mk{A I:ai}{meths:List (Str×ai)}:∀nm q N bs sn sub col dd k0 k1 k2 k3 k5,∀x:Str->Option ae,hb.get? A=some (sk nm q A N bs [.type "object"] true sn sub false col dd k0 k1 k2 k3 k5 "object.__new__")->hb.Ns N x->x "__getattribute__" = none->x "__getattr__" = none->x "__setattr__" = none->(∀f,f<=10->x (ca f)=none)->x "__init__" = some (.ref I)->(∀n a,meths.lookup n=some a->x n=some (.ref a))->wD A I meths:=fun d z p x3 x4 t u v w y x10 e g i j b l h m o r s C k=>k d z p x3 x4 t u v w y x10 e g i j b l h m o r s
structure CF(c init:ai)(meths:List (Str×ai)):Prop where
 ex:wD c init meths
 fns:∀a,a=init∨(∃n,meths.lookup n=some a)->∃o,hb.get? a=some o/\o.cls=.type "function"
def NF:Prop:=∀C:Prop,(∀K:mv,K.In hb->ia K (.ref 89) "__getattribute__" = some (some (.builtin "object.__getattribute__"))->ia K (.ref 89) "__getattr__" = some none->ia K (.ref 89) "__setattr__" = some (some (.builtin "object.__setattr__"))->plainOver K 89=true->(makesIn K 89=true/\ia K (.ref 89) "__init__" = some (some (.ref 85))/\ng K (.ref 85)=some (.type "function"))->(∀f,8<=f->f<=10->∃p,findObj K 89 (some { cls:=.type "dict",data:=.dict #[] }) (ca f)=some (.bind (.builtin "member_descriptor.__get__") (.ref p))/\slotIn K p 89=some (f-8)/\takerIn K 89 (ca f)=some (some (.ref p))/\ng K (.ref p)=some (.type "member_descriptor"))->C)->C
theorem NF.mk:∀K:mv,K.In hb->ia K (.ref 89) "__getattribute__" = some (some (.builtin "object.__getattribute__"))->ia K (.ref 89) "__getattr__" = some none->ia K (.ref 89) "__setattr__" = some (some (.builtin "object.__setattr__"))->plainOver K 89=true->(makesIn K 89=true/\ia K (.ref 89) "__init__" = some (some (.ref 85))/\ng K (.ref 85)=some (.type "function"))->(∀f,8<=f->f<=10->∃p,findObj K 89 (some { cls:=.type "dict",data:=.dict #[] }) (ca f)=some (.bind (.builtin "member_descriptor.__get__") (.ref p))/\slotIn K p 89=some (f-8)/\takerIn K 89 (ca f)=some (some (.ref p))/\ng K (.ref p)=some (.type "member_descriptor"))->NF:=fun d z m x3 x4 h a u C k=>k d z m x3 x4 h a u
structure BO where
 mg:Str->Option ae
 mb:Str->Option ae
 ns3:hb.Ns 3 mg
 ns0:hb.Ns 0 mb
 glob:∀n v,f5 n=some v->∃x,(mg n=some x∨(mg n=none/\mb n=some x))/\∀F ρ,VR F ρ v x
 nolimit:hb.NoLimit
 mods:∃o,hb.get? 1=some o
 entry:CF 59 35 []
 sorter:CF 186 122 [("_get_nodeinfo",129),("add",136),("prepare",141),("get_ready",148),("done",169),("_find_cycle",176)]
 node:NF
section
theorem aE.keepB{b:List O}(S:aE W b s):∀a o,hb.get? a=some o->s.heap.get? a=some o:=fun a o e=>S.frozen _ _ (S.base _ _ e)
theorem aE.toks{a:List O}(S:aE W a s)(t:Nat):aE W a { s with toks:=t }/\av (aC A) W [] s W { s with toks:=t }:=S.keeps (fun Y Y e=>e) S.gens
theorem OJ(e:ac d i a=some (v,n)):n=a/\(a.fs.getD d []).getD i none=some v:=
 ax e fun o h e=>ax h fun f b H=>ax e fun u h e=>⟨congrArg (·.2) (aR e).symm,by refine aa ?_ (eR);refine aa ?_ (eR);refine aa ?_ b;refine aa ?_ H;exact h.trans (congrArg (fun p=>some p.1) (aR e))⟩
theorem fk{o:Option (Nat×gC)}(h:o=some q)(e:q.2=k):o=some (q.1,k):=e▸h
theorem Cy{i:Str}(R:ar A W Wp Wr U e s)(H:dn W sc U fr s.heap) (hb:(i==("__classdict__" : Str))=false)
  (f:U.kindOf i=some .cell∨U.kindOf i=some .free) (q:nV i Wr=some p) (g:(e.fs.getD p.1 []).getD p.2 none=some v):al MD A (yW U i) (AQ A Wr U W Wp e s (fun W=>W.R) v) aT s:=by
 refine fV (R.act.cell q) fun c x a b o=>?_;rw[g] at o;obtain⟨y,rfl,d⟩:=o;exact f.elim (fun z=>wpAny_loadName_cell H.kind z a ⟨_,b,rfl⟩ (.mk W R .refl d)) fun z=>wpAny_loadName_free H.kind z a ⟨_,b,rfl⟩ (.mk W R .refl d) hb
theorem xq(B:BO)(Q:c.G=f5){G:Str}(R:ar A W Wp Wr U I s):At A Wr U W Wp I s (fun W=>W.R) (eval (.Name G pos) U) (qC c Wr G):=fun v σ' e=>by
 refine mU e (fun Y e=>am e) fun hb e=>oA (Bool.or_eq_false_iff.mp (eq_false_of_ne_true hb)) fun t T=>wpAny_Name ?_ t;cases Wr with
 |nil=>exact absurd rfl (tf R.act)
 |cons sc r=>
  refine gb R.act.head fun fr P D H=>vx e (fun f e=>mU e (fun w e=>vx e (fun Y e=>am e) fun u F e=>?_) fun Y e=>am e) fun p f e=>?_
  ·refine aH (B.glob G u (Q▸F)) fun x g i=>aa ?_ (i9 w fun q a d=>loadName_read H.kind ((H.names G q.1 _ (fk a (of_decide_eq_true d))).resolve_right fun z=>by cases z.1));have k:s.heap.Ns U.globals B.mg:=by refine aa ?_ H.glob;exact B.ns3.keeps R.st.keepB
   exact cy (C:=fun q=>al MD A _ (AQ A _ U W Wp q.2 s (fun W=>W.R) q.1) aT s) e (g.elim (fun g=>Calls.loadGlobal_global k g (.mk W R .refl (i _ _))) fun h=>Calls.loadGlobal_builtin k h.1 (by refine aa ?_ H.blt;exact B.ns0.keeps R.st.keepB) h.2 (.mk W R .refl (i _ _)))
  ·obtain⟨rfl,b⟩:=OJ e;refine ax f fun q a d=>cD d (fun j e=>?_) fun Y e=>bq e fun j e=>?_
   ·rcases j with j|j
    ·refine oE H.loc fun m l=>?_;obtain o:=l.2 G _ (fk a j);obtain rfl:=aR e;rw[show fr.getD q.1 none=some v by obtain b:=D▸b;trivial] at o;obtain⟨y,n⟩:=o;exact wpAny_loadName_local H.kind ((H.names G _ _ (fk a j)).resolve_right fun z=>by cases z.1) l.1 n.1 (.mk W R .refl n.2)
    ·exact Cy R H T (.inl ((H.names G _ _ (fk a j)).elim (fun z=>z) fun z=>z.2)) (ax f fun q' h1' h2'=>by refine(?_:(cv _ _ _).bind _=_);refine aa ?_ a;exact(if_pos j).trans e) b
   ·exact Cy R H T ((H.names G _ _ (fk a j)).elim .inr fun z=>.inl z.2) (by refine(?_:(cv _ _ _).bind _=_);refine aa ?_ a;exact(if_neg (by rw[j];decide)).trans ((if_pos j).trans e)) b
theorem LK{M:eF}{E:ae->ak->Prop}(h:s.heap.get? c=some (lC x))
  (q:∀d,d.get? c=some (lC (some y))->gz c s.heap d->Q () { s with heap:=d }):al M A (cellSet c (some y)) Q E s:=by
 refine aq (kn h ?_);refine wpAny_update h (q _ ?_ (ku ..));exact eE _ h rfl
theorem dn.setL(H:dn W sc U fr h)(q:cv n sc.names 0=some (i,.local))
  (u:h.Ns U.locals m) (r:∀n i,cv n sc.names 0=some (i,.local)->kR W (fr.getD i none) (m n)) (k:o.Ns U.locals fun y=>if y=n then some x else m y) (t:gz U.locals h o) (s:W.R v x):
  dn W sc U (fr.set i (some v)) o where
 kind:=H.kind
 names:=H.names
 len:=by simpa using H.len
 nd:=H.nd
 loc:=by
  refine⟨_,k,fun j g f=>?_⟩;by_cases e:j=n
  ·clear k;subst e;obtain f:=q▸f;obtain rfl:i=g:=by simpa using f
   have p:i<fr.length:=by
    refine aa ?_ H.len;rcases lp i sc.names.length with z|z
    ·exact z
    ·have:=(pV q).2;rw[Bn,fX z] at this;trivial
   rw[eR,de p];exact⟨x,by simp,s⟩
  ·have l:i≠g:=fun z=>by subst z;exact e (pU f q)
   rw[if_neg e,eR,dO l];exact r j g f
 cel j g f:=by
  refine fV (H.cel j g f) fun c y a b d=>?_;have l:i≠g:=fun z=>by clear d;subst z;have:=pU q f;clear k a;subst this;exact absurd (q▸f) nofun
  refine⟨c,y,a,(t.2 _ (H.nloc j g c f a)).trans b,?_⟩;rw[eR,dO l];exact d
 inj:=H.inj
 nloc:=H.nloc
 glob:=H.glob
 blt:=H.blt
theorem dn.setC(H:dn W sc U fr h)(q:cv n sc.names 0=some (i,.cell))(g:U.cells.lookup n=some c)
  (l:k.get? c=some (lC (some x))) (t:gz c h k) (u:W.R v x):
  dn W sc U (fr.set i (some v)) k where
 kind:=H.kind
 names:=H.names
 len:=by simpa using H.len
 nd:=H.nd
 loc:=by
  refine aH H.loc fun m s p=>⟨m,s.sameBut t (bB (H.nloc n i c q g)),fun d f b=>?_⟩;have j:i≠f:=fun z=>by subst z;have:=pU q b;subst this;exact absurd (q▸b) nofun
  rw[eR,dO j];exact p d f b
 cel d f b:=by
  by_cases e:d=n
  ·subst e;obtain b:=q▸b;obtain rfl:i=f:=by simpa using b
   have o:i<fr.length:=by
    refine aa ?_ H.len;rcases lp i sc.names.length with z|z
    ·exact z
    ·have:=(pV q).2;rw[Bn,fX z] at this;trivial
   refine⟨c,some x,g,l,?_⟩;rw[eR,de o];exact⟨x,by trivial⟩
  ·have j:i≠f:=fun z=>by subst z;exact e (pU b q)
   refine dy (H.cel d f b) fun R y a=>?_;have r:R≠c:=fun z=>by clear l;subst z;exact e (H.inj d n f i R b q a.1 g)
   refine⟨R,y,a.1,(t.2 _ r).trans a.2.1,?_⟩;rw[eR,dO j];exact a.2.2
 inj:=H.inj
 nloc:=H.nloc
 glob:=H.glob
 blt:=H.blt
theorem cL.setHead(R:cL W h (sc::r) U (fr::c) Wp)(i:b∈du sc U)(t:gz b h d)
  (H:dn W sc U fr' d):cL W d (sc::r) U (fr'::c) Wp:=by
 cases r with
 |nil=>exact R.inv _ fun g e q _ k=>aa (aa (.fn H k) q) (kx e).2
 |cons s r=>exact R.inv _ fun o g u v e q a _ j k=>aa (aa (.comp (a.mono (fr:=[]) (fun Y Y e=>e) (fun Y Y e=>e) fun y A o e=>⟨o,(t.2 y fun z=>j b i (aU A z)).trans e,.inl rfl⟩) H j k) q) (kx e).2
theorem cL.headMem(R:cL W h (sc::r) U fs Wp):∀b∈du sc U,b∈Wp:=by
 cases r with
 |nil=>exact R.inv _ fun _ _ q _ _ b h=>q▸h
 |cons s r=>exact R.inv _ fun _ _ _ _ _ q _ _ _ _ b h=>q▸gZ _ h
theorem ar.setF{s':ak}(R:ar A W Wp Wr U I s)(d:b∈Wp)(t:gz b s.heap s'.heap)(u:cL W s'.heap Wr U fs Wp)(r:∃o,s'.heap.get? b=some o)(H:∀o,s.heap.get? b=some o->(∃es n,o.data=.dict es n)->∃Q,s'.heap.get? b=some Q/\Q.cls=o.cls/\∃es n,Q.data=.dict es n)
  (v:s'.gens=s.gens:=by rfl) (w:s'.os=s.os:=by rfl):ar A W Wp Wr U ⟨fs,I.st⟩ s'/\av (aC A) W Wp s W s':=by
 obtain f:=R.actF b d;refine⟨{ st:={ base:=R.st.base,frozen:=fun a o e=>?_,len:=R.st.len,objs:=fun k p e=>?_,there:=fun p g=>?_,free:=R.st.free,apart:=R.st.apart,gens:=v.trans R.st.gens },act:=u,actF:=R.actF,actO:=R.actO,actS:=fun a m=>?_,stk:=?_ },
  ⟨fun Y Y e=>e,fun Y Y e=>e,fun Y Y=>.inl,fun Y=>.inl,fun a o e Y n=>⟨o,(t.2 a fun z=>n (aa d z)).trans e,.inl rfl⟩,fun a o e=>?_,w⟩⟩
 ·exact(t.2 a fun z=>by clear d;subst z;exact am (aU e f)).trans (R.st.frozen _ _ e)
 ·exact OR.mono (fun Y Y e=>e) (fun Y Y e=>e) (fun Y x=>(t.2 _ fun z=>(R.actO b d) ⟨p,(et e),.inl z.symm⟩).trans x) (fun Y x=>(t.2 _ fun z=>(R.actO b d) ⟨p,(et e),.inr z.symm⟩).trans x) _ (R.st.objs k p e)
 ·exact ft (R.st.there p g) fun F D y=>oE F fun C x=>⟨⟨C,(t.2 _ fun z=>(R.actO b d) ⟨p,g,.inl z.symm⟩).trans x⟩,D,(t.2 _ fun z=>(R.actO b d) ⟨p,g,.inr z.symm⟩).trans y⟩
 ·by_cases z:a=b
  ·clear d H f;subst z;trivial
  ·obtain⟨o,x⟩:=R.actS a m;exact⟨o,(t.2 _ z).trans x⟩
 ·refine aH R.stk fun l e h=>⟨l,e,fun U B=>?_⟩;refine j8 (h U B) fun j c k1 k2 k3 o q es n k5=>?_;by_cases z:c=b
  ·clear d r f;subst z;exact oE (H o q ⟨es,n,k5⟩) fun Q i=>⟨j,c,k1,k2,k3,Q,i.1,i.2.2⟩
  ·exact⟨j,c,k1,k2,k3,o,(t.2 _ z).trans q,es,n,k5⟩
 ·by_cases z:a=b
  ·clear d H f;subst z;trivial
  ·exact⟨o,(t.2 _ z).trans e⟩
set_option tactic.hygienic true
theorem SM(name:Str)(h:Int)(k v:ae)(o:cS):(Obj.putName name h k v o).cls=o.cls:=by
 refine aa ?_ Obj.putName_eq;obtain⟨c,d,a,sl⟩:=o;cases a<;>try rfl
 delta Obj.putNameByArray;dsimp only;split<;>rfl
theorem Q8{M:eF}{E:ae->ak->Prop}(g:s.heap.Ns a m)
  (h:∀d,d.Ns a (fun x=>if x=name then some v else m x)->gz a s.heap d->(∀o j,s.heap.get? a=some o->d.get? a=some j->j.cls=o.cls)->Q () { s with heap:=d,toks:=s.toks+1 }):
  al M A (nsSet a name v) Q E s:=fun Γ p hΓ=>by
 obtain i:=Sem.wp_nsSet M Γ (fun e Y s'=>E e s') p s g name v (fun Y Y s'=>s'.heap.Ns a (fun x=>if x=name then some v else m x)/\gz a s.heap s'.heap) fun d a b=>⟨a,b⟩;refine Ri (id g) fun o es ep c hd r w=>?_;have q:es.any (·.refKey)=false:=by rw[Array.any_eq_false'];intro e B;refine dy (r e B) fun n t h=>?_;simp[IH,h]
 simp only[nsSet,strHash,Bp,Sem.wp_cmd_ask,Sem.wp_pure',Sem.wp_cmd_mkText] at i ⊢;rw[Sem.wp_loadPart_of M Γ _ p { s with toks:=s.toks+1 } _ c] at i ⊢;simp only[hd,aRefKeyMayBeTheName_eq,aRefKeyMayBeTheNameByArray,q,Ir] at i ⊢;refine⟨i.1,h _ i.2.1 i.2.2 fun y z k l=>?_⟩;have F:∀{f:cS->cS}{x:cS},(s.heap.update a f).get? a=some x->x=f o:=fun{f x} e=>by
  have R:(s.heap.update a f).objs[a]?=some (f o):=by cases u:s.heap;simp only[Heap.update,Array.getElem?_modify,(u▸((Heap.get?_some_iff.mp c).1))];rfl
  exact(aR (R▸((Heap.get?_some_iff.mp e).1))).symm
 cases (c▸k);exact aa (aa rfl (SM ..)) (F l)
theorem UT{M:eF}{E:ae->ak->Prop}(c:U.kindOf name=some .local)(b:s.heap.Ns U.locals m)
  (h:∀d,d.Ns U.locals (fun x=>if x=name then some v else m x)->gz U.locals s.heap d->(∀o a,s.heap.get? U.locals=some o->d.get? U.locals=some a->a.cls=o.cls)->Q () { s with heap:=d,toks:=s.toks+1 })
  (e:(U.scope.kind==.class ||(U.scope.kind==.module&&U.locals != U.globals))=false):al M A (wk U name v) Q E s:=by
 refine aa ?_ (storeName_local c e ..);exact Q8 b h
theorem xt(R:ar A W Wp Wr U σ s)(hh:fo n Wr=some i)(B:W.R v x):
  At A Wr U W Wp σ s (fun Y Y Y=>True) (wk U n x) (iU i v):=by
 intro u σ' e;cases Wr with
 |nil=>exact absurd rfl (tf R.act)
 |cons sc r=>
  refine gb R.act.head fun fr frs D H=>?_;delta iU at e;obtain e:=D▸e;obtain rfl:=congrArg (·.2) (aR e);obtain R.act:=D▸R.act;refine ax hh fun q h Q=>bq Q fun j e=>?_;obtain rfl:=aR e;rcases j with j|j
  ·refine oE H.loc fun m k=>UT ((H.names n _ _ (fk h j)).resolve_right fun z=>by cases z.1) k.1 (fun F w t WR=>?_) (by refine aa ?_ H.kind;rfl);exact Ff (id w) fun o es ep p=>oA (R.setF (R.act.headMem _ (mS ..)) t (R.act.setHead (mS ..) t (H.setL (fk h j) k.1 k.2 w t B)) ⟨o,p.1⟩ fun C I Y=>⟨o,p.1,WR C o I p.1,es,ep,p.2.1⟩) fun l T=>.mk W l T trivial
  ·have f:=fk h j;have hsn:wk U n x=(do cellSet (<-cellOf U n) (some x)):=by delta wk;refine aa ?_ (show U.kindOf n=some .cell from(H.names n _ _ f).elim (fun z=>z) fun z=>by cases z.1);refine aa ?_ H.kind;rfl
   refine fV (H.cel n _ f) fun c y a b d=>aa ?_ hsn;refine wB (wpAny_cellOf a (LK b fun F h t=>?_));exact oA (R.setF (R.act.headMem _ (xI f a)) t (R.act.setHead (xI f a) t (H.setC f a h t B)) ⟨_,h⟩ fun C I P=>by cases (b▸I);refine dy P fun es m g=>?_;trivial) fun l T=>.mk W l T trivial
theorem ui(R:ar A W Wp Wr U c s)(a:fo n Wr=some i)(b:W.R v x):
  At A Wr U W Wp c s (fun Y Y Y=>True) (pI U n x) (iU i v):=fun u d e=>wpAny_bindName (xt R a b u d e)
end
abbrev RV:Wd->V->ae->Prop:=fun W=>W.R
def ub(mk:Array ae->Nat->cS)(W:Wd)(s:ak)(vs:List V)(x:ae):Prop:=∀C:Prop,(vs.length<=sizeMax->∀l items n,x=.ref l->s.heap.get? l=some (mk items n)->W.Rs vs items.toList->C)->C
theorem ub.mk{a:Array ae->Nat->cS}{b:ak}{v:List V}{x:ae}:v.length<=sizeMax->∀l items n,x=.ref l->b.heap.get? l=some (a items n)->w.Rs v items.toList->ub a w b v x:=fun d z m x3 x4 h f C k=>k d z m x3 x4 h f
theorem d7:sizeMax<=l7:=by trivial
theorem dQ{w:Wd}{i:Array ae}(h:w.Rs vs i.toList):i.size=vs.length:=by have:=VRs.length h;trivial
theorem bG(h:bk):h.get? h.objs.size=none:=by delta Heap.get?;refine aa ?_ (tJ (ck _));rfl
theorem FX{c:List O}(S:aE W c s)(h:∀Q:ae->ak->Prop,(∀x k,(∀W':Wd,W'.R v x)->Q x { s with toks:=k })->al (MD) A t Q aT s):dp A W s c (RV) t (some v):=by intro b e;cases e;exact h _ fun x k a=>.mk W ((S.toks (A:=A) k).1) ((S.toks k).2) (a W)
theorem sU{c:List O}(S:aE W c s)(h:∀Q:ae->ak->Prop,(∀x k,W.R v x->Q x { s with toks:=k })->al (MD) A t Q aT s):dp A W s c (RV) t (some v):=by intro b e;cases e;exact h _ fun x k a=>.mk W ((S.toks (A:=A) k).1) ((S.toks k).2) a
theorem gI{W':Wd}(k:Int)(t:Tok):W'.R (.int k) (.int k t):=⟨t,rfl⟩
theorem rH{w:Wd}(k:Bool):w.R (.bool k) (.bool k):=rfl
theorem nM{w:Wd}:w.R .none .none:=rfl
theorem lu{w:Wd}(k:Str)(t:Tok):w.R (.str k) (.str k t):=⟨t,rfl⟩
theorem JT{w:Wd}(k:ae):w.R (.cst k) k:=rfl
theorem pv{a:List O}(S:aE W a s)(e:some u=some v)(h:∀Q:ae->ak->Prop,(∀x k,(∀W':Wd,W'.R u x)->Q x { s with toks:=k })->al MD A t Q aT s):al MD A t (PQ A W s a RV v) aT s:=FX S h v e
theorem m6{a:List O}(S:aE W a s)(e:some (V.int i)=some v)(h:∀Q:ae->ak->Prop,Q (.int i s.toks) { s with toks:=s.toks+1 }->al MD A t Q aT s):al MD A t (PQ A W s a RV v) aT s:=pv S e fun Q q=>h Q (q _ _ fun Y=>gI _ _)
theorem ou{f:a8}{g:List O}(S:aE W g s){s':ak}(e:W.Rs vs items.toList)(d:vs.length<=sizeMax)(h:s'.heap.get? a=some (bL items n))(F:s.heap.get? a=none)
  (j:∀b o,s.heap.get? b=some o->s'.heap.get? b=some o) (z:s'.gens=s.gens:=by rfl) (p:s'.os=s.os:=by rfl):
  PQ f W s g (RV) (.lst vs) (.ref a) s':=by
 obtain⟨c,T⟩:=S.new j h F (z.trans S.gens) p;refine .mk _ c T (?_);exact⟨d,a,items,n,rfl,Wd.add_self,T.Rs e⟩
theorem vm{A:a8}{f:List O}(S:aE W f s){s':ak}(e:W.Rs vs items.toList)(d:vs.length<=sizeMax)(h:s'.heap.get? a=some (dS items n))(F:s.heap.get? a=none)
  (j:∀b o,s.heap.get? b=some o->s'.heap.get? b=some o) (z:s'.gens=s.gens:=by rfl) (p:s'.os=s.os:=by rfl):
  PQ A W s f (RV) (.tup vs) (.ref a) s':=by
 obtain⟨c,T⟩:=S.new j h F (z.trans S.gens) p;refine .mk _ c T (?_);exact⟨d,a,items,n,rfl,Wd.add_self,T.Rs e⟩
theorem co(s:ak)(o:cS):∀b q,s.heap.get? b=some q->(s.heap.push o).get? b=some q:=fun b q=>bX o
theorem qj{g:List O}(S:aE W g s)(b:W.R v x)(e:cM g v=some vs):
  ub bL W s vs x:=by
 refine ch e (fun e=>?_) fun e=>iS e b fun k p d e=>?_
 ·obtain⟨c,a,items,n,rfl,f,r⟩:=(kZ e▸b);exact .mk c a items n rfl (S.frozen _ _ f) r
 ·obtain o:=S.objs k p d;obtain o:=(lY e)▸o;exact dy o.2.2 fun items n a=>.mk o.2.1 p.1 items n rfl a.1 a.2
theorem AA{d:List O}(S:aE W d s)(b:W.R (.tup vs) x):ub dS W s vs x:=by obtain⟨c,a,items,n,rfl,f,r⟩:=b;exact .mk c a items n rfl (S.frozen _ _ f) r
@[elab_as_elim] theorem lR{d:List O}{g:ae->Prop}(S:aE W d s)(e:cM d v=some vs)(a:W.R v x)(k:∀l items n,vs.length<=sizeMax->s.heap.get? l=some (bL items n)->W.Rs vs items.toList->g (.ref l)):g x:=by refine(qj S a e) _ fun c l items n b f r=>?_;obtain rfl:=b;exact k l items n c f r
@[elab_as_elim] theorem kM{c:List O}{J:Type}{F:List V->Option J}{R:J}{d:ae->Prop}(S:aE W c s)(e:(cM c v).bind F=some R)(b:W.R v x)(k:∀vs l items n,vs.length<=sizeMax->s.heap.get? l=some (bL items n)->W.Rs vs items.toList->F vs=some R->d (.ref l)):d x:=
 ax e fun vs a=>lR S a b fun l=>k vs l
@[elab_as_elim] theorem Ao{h:List O}{J:Type}{F:List V->Option J}{R:J}{i:ae->Prop}(S:aE W h s)(e:(vT v).bind F=some R)(d:W.R v x)(k:∀vs l items n,vs.length<=sizeMax->s.heap.get? l=some (dS items n)->W.Rs vs items.toList->F vs=some R->i (.ref l)):i x:=
 ax e fun vs a g=>by refine(AA S (nn a▸d)) _ fun c l items n b F R=>?_;obtain rfl:=b;exact k vs l items n c F R g
theorem QJ(h:a.natAbs<1000):IntMulOk a b:=by
 refine IntMulOk.of_left ?_;delta Builtin.Int.intBits;by_cases F:(a==0)=true
 ·refine aa ?_ (if_pos F);trivial
 ·refine aa ?_ (if_neg F);have:a.natAbs.log2<60:=(Nat.log2_lt (by simpa using F:a.natAbs≠0)).mpr (tY h (by decide));exact z1 rfl this
@[elab_as_elim] theorem kL{W:Wd}{C:ae->ae->Prop}(e:vI a=some i)(A:vI b=some j)(h:W.R a x)(d:W.R b y)(k:∀t u,C (.int i t) (.int j u)):C x y:=iR e h fun t=>iR A d (k t)
theorem Sk{G:List O}(S:aE W G s)(c:W.R a x)(d:W.R b y):dp A W s G RV (binaryOp op x y) (mG op G a b):=fun v e=>by
 refine ch e (fun e=>ax e fun i g e=>ax e fun j k e=>?_) fun e=>bq e fun h e=>aa (ch e (fun e=>?_) fun e=>?_) h
 ·refine cD e (fun h e=>?_) fun Y e=>cD e (fun h e=>?_) fun Y e=>cD e (fun h e=>bq e fun f e=>?_) fun Y e=>bq e fun f e=>cD e (fun h e=>?_) fun Y e=>bq e fun h e=>?_<;>refine aa ?_ h
  ·exact kL g k c d fun t u=>m6 S e fun Q=>wpAny_add_int
  ·exact kL g k c d fun t u=>m6 S e fun Q=>sub_int'
  ·exact kL g k c d fun t u=>m6 S e fun Q q=>mul_int q (QJ (of_decide_eq_true (Bool.and_eq_true_iff.mp f).1))
  ·exact kL g k c d fun t u=>m6 S e fun Q q=>floordiv_int (Int.ne_of_gt f.1) q (.inl (PyProof.noPylong_small (Bj (m:=1000000) (Int.ofNat_lt.mp (aa f.2 (IU (iA f.1)))) (by decide))))
  ·exact kL g k c d fun t u=>m6 S e fun Q=>mod_int' (Int.ne_of_gt f.1)
 ·refine ax e fun p B e=>ax e fun q C e=>bq e fun h e=>?_;refine sR B c fun t=>?_;refine sR C d fun u=>?_;exact pv S e fun Q z=>add_str (fun t' R=>z _ _ fun Y=>lu _ _) (bb h d7)
 ·refine kM S e c fun xs l items n k1 o w e=>?_;refine kM S e d fun T H D I k2 r F e=>bq e fun h e=>?_;refine cy e (P.add_list o r (ou S (items:=items++D) (n:=0) ?_ (aa h cP) (bF _ rfl) (bG _) (co s _)) ?_)
  ·refine aa ?_ Ip;exact VRs.append w F
  ·refine aa (aa ?_ (dQ F)) (dQ w);exact bb h d7
theorem Sp{b:List O}(S:aE W b s)(l:W.R a x):dp A W s b RV (unaryOp .USub x) (EY a):=fun v e=>ib e l fun i t e=>m6 S e fun Q=>neg_int
abbrev RB:Wd->Bool->Bool->Prop:=fun Y b x=>x=b
theorem Sl{a:List O}(S:aE W a s)(h:∀Q:Bool->ak->Prop,(∀k,Q b { s with toks:=k })->al (MD) A t Q aT s):dp A W s a RB t (some b):=by intro c e;cases e;exact h _ fun k=>.mk W ((S.toks (A:=A) k).1) ((S.toks k).2) rfl
theorem kX(h:n<=sizeMax):(n:Int)<2 ^ 63:=Int.lt_of_le_of_lt (Int.ofNat_le.mpr h) (by decide)
theorem D9{w:Wd}{i:Array ae}(h:w.Rs vs i.toList):i.isEmpty=vs.isEmpty:=by delta Array.isEmpty;have:=dQ h;refine aa ?_ this;clear h this;cases vs<;>rfl
theorem pb{a:List O}(S:aE W a s)(e:some b=some c)(h:∀Q:Bool->ak->Prop,(∀k,Q b { s with toks:=k })->al MD A t Q aT s):al MD A t (PQ A W s a RB c) aT s:=Sl S h c e
theorem O7(i:Int):(i != 0)=decide (i≠0):=by by_cases h:i=0<;>simp[h]
theorem P4{n:Nat}:((n:Int) != 0)=(n != 0):=by cases n with|zero=>rfl|succ n=>rfl
theorem Sv{f:List O}(S:aE W f s)(b:W.R a x):dp A W s f RB (wq x) (jF f a):=fun c e=>by
 refine ch e (fun e=>?_) fun e=>?_
 ·exact ib e b fun i t e=>pb S e fun Q q=>truthy_int (by refine aa ?_ (O7 i);exact q s.toks)
 refine ch e (fun e=>?_) fun e=>?_
 ·exact jA e b fun y t e=>bq e fun h e=>pb S e fun Q q=>P.truthy_str (Int.not_le.mpr (kX h)) (by refine aa ?_ P4;exact q _)
 refine ch e (fun e=>?_) fun e=>?_
 ·exact bR e b (pb S rfl fun Q q=>wx (q s.toks))
 refine ch e (fun e=>?_) fun e=>?_
 ·exact Ao S e b fun vs l items n d u w e=>pb S e fun Q q=>truthy_tuple ⟨_,u,rfl,_,rfl⟩ (by refine aa ?_ (dQ w);exact kX d) (by refine aa ?_ (D9 w);exact q _)
 refine ch e (fun e=>?_) fun e=>bq e fun h e=>?_
 ·refine kM S e b fun vs l items n d u w e=>?_;exact pb S e fun Q q=>wpAny_truthy_list ⟨_,u,rfl,_,rfl⟩ (by refine aa ?_ (dQ w);exact kX d) (by refine aa ?_ (D9 w);exact q _)
 ·refine nR h b ?_;exact pb S e fun Q q=>truthy_none (q s.toks)
theorem SO:∀vs:List V,pys vs=vs.map py:=by
 intro p;induction p with
 |nil=>rfl
 |cons v r I=>exact congrArg (py _::·) I
def rg(h:bk)(x:ae)(d:rG)(k:Nat):Prop:=∀C:Prop,(∀as,Reads h x d as->d.canLay0=true->d.depth<=k->C)->C
theorem rg.mk{X:ae}{D:rG}{k:Nat}:∀as,Reads H X D as->D.canLay0=true->D.depth<=k->rg H X D k:=fun a z m x3 C k=>k a z m x3
def wF(h:bk)(xs:List ae)(ds:List rG)(k:Nat):Prop:=∀C:Prop,(∀as,ReadsAll h xs ds as->JL ds=true->JM ds<=k->C)->C
theorem wF.mk{x:List ae}{a:List rG}{k:Nat}:∀as,ReadsAll H x a as->JL a=true->JM a<=k->wF H x a k:=fun d z m x3 C k=>k d z m x3
theorem DB{W:Wd}(e:yo v=true)(h:W.R v x)(c:bk)(k:Nat):rg c x (py v) k:=
 lZ e (fun e=>by cases wt e;subst h;exact .mk _ .none rfl (dB _)) fun e=>lZ e (fun e=>i9 e fun b e Y=>by cases tx e;subst h;exact .mk _ (.bool b) rfl (dB _)) fun e=>lZ e
  (fun e=>i9 e fun i e Y=>by cases mc e;obtain⟨t,rfl⟩:=h;exact .mk _ (.int i t) rfl (dB _)) fun e=>i9 e fun a e g=>by cases ty e;obtain⟨t,rfl⟩:=h;exact .mk _ (.str a t) g (dB _)
theorem uy{i:Wd}{m:Nat}{P:V->Bool}(I:∀v x,P v=true->i.R v x->rg H x (py v) m):∀{vs:List V}{xs:List ae},vs.all P=true->i.Rs vs xs->wF H xs (pys vs) m
 |[],xs,_,s=>by cases (ej s);exact .mk [] .nil rfl (dB _)
 |v::r,xs,e,s=>by obtain⟨x,l,rfl,a,b⟩:=s;obtain⟨f,g⟩:=Bool.and_eq_true_iff.mp e;exact(I v x f a) _ fun as u w c=>(uy I g b) _ fun bs j F d=>.mk _ (.cons u j) (Bool.and_eq_true_iff.mpr ⟨w,F⟩) (Nat.max_le.mpr ⟨c,d⟩)
theorem ux{i:List O}(S:aE W i s):∀(k:Nat)(v:V)(x:ae),dD k v=true->W.R v x->rg s.heap x (py v) k:=by
 intro p;induction p with
 |zero=>intro v x e h;exact DB e h _ _
 |succ k I=>
  intro v x e h;refine lZ e (fun e=>DB e h _ _) fun e=>?_
  ·refine i9 e fun vs f g=>ch f (fun f=>?_) fun f=>?_
   ·obtain rfl:=nn f;refine(AA S h) _ fun Y l items n d a b=>?_;obtain rfl:=d;exact(uy (I) g b) _ fun as c1 c2 c3=>.mk _ (.tuple a rfl rfl c1) c2 (kA c3)
   ·obtain rfl:=kZ f;refine(qj S h rfl) _ fun Y l items n c a b=>?_;obtain rfl:=c;exact(uy (I) g b) _ fun as c1 c2 c3=>.mk _ (.list a rfl rfl c1) c2 (kA c3)
theorem wh(a:d.canLay0=true)(b:d.depth<=6):SeqAt.shaped d=true:=Bool.and_eq_true_iff.mpr ⟨a,decide_eq_true (bb b (by decide))⟩
abbrev pz:Wd->Bool->ae->Prop:=fun Y b x=>x=.bool b
theorem sT{a:List O}(S:aE W a s)(h:∀Q:ae->ak->Prop,(∀k,Q (.bool b) { s with toks:=k })->al (MD) A t Q aT s):dp A W s a pz t (some b):=by intro c e;cases e;exact h _ fun k=>.mk W ((S.toks (A:=A) k).1) ((S.toks k).2) rfl
theorem v8(a:aW hd n A)(h:k<=800):A.units+k<cLine:=by have:=a.units;exact aP [_,_,_] (.l (.a af (.m 40 aj)) (.n 9000)) (.l aA (.n 800)) (.l (.a (.a af aA) aI) (.n 9900)) tU this h
theorem l5{a:List O}(S:aE W a s)(e:some b=some c)(h:∀Q:ae->ak->Prop,Q (.bool b) s->al MD A t Q aT s):al MD A t (PQ A W s a pz c) aT s:=sT S (fun Q q=>h Q (q s.toks)) c e
theorem FS{v:List O}(o:aW hd n A)(S:aE W v s)(l:W.R a x)(g:W.R b y)(e:md a b=some c):
  al MD A (nW .Eq x y) (PQ A W s v pz c) aT s/\al MD A (nW .NotEq x y) (PQ A W s v pz !c) aT s:=by
 refine ch e (fun e=>ax e fun i d e=>ax e fun j f e=>cy e ?_) fun e=>ch e (fun e=>ax e fun i d e=>ax e fun j f e=>cy e ?_) fun e=>bq e fun h e=>cy e ?_
 ·exact kL d f l g fun t u=>⟨l5 S rfl fun Q=>eq_int,l5 S rfl fun Q=>ne_int⟩
 ·exact sR d l fun t=>sR f g fun u=>⟨l5 S rfl fun Q=>eq_str,l5 S rfl fun Q=>ne_str⟩
 ·exact(ux S 6 a x ((Bool.and_eq_true_iff.mp h).1) l) _ fun as r k w=>(ux S 6 b y ((Bool.and_eq_true_iff.mp h).2) g) _ fun bs p m F=>⟨l5 S rfl fun Q q=>eq_dataH r p (wh k w) (wh m F) (v8 o (by decide)) q,l5 S rfl fun Q q=>ne_dataH r p (wh k w) (wh m F) (v8 o (by decide)) q⟩
theorem Pe{W:Wd}(l:W.R a x)(e:Eb a=some c):c=(x==.none):=by
 refine cD e (fun h e=>cy e (nR h l rfl)) fun Y e=>bq e fun h e=>cy e ?_;refine lZ h (fun e=>i9 e fun b e Y=>jR e l fun p Y=>rfl) fun e=>lZ e (fun e=>i9 e fun b e Y=>sR e l fun t=>rfl) fun e=>lZ e (fun e=>i9 e fun b e Y=>iR e l fun t=>rfl) fun e=>lZ e (fun e=>i9 e fun b e Y=>?_) fun e=>lZ e (fun e=>i9 e fun b e Y=>?_) fun e=>i9 e fun u e g=>cR e l (Bu u (of_decide_eq_true g) fun Y=>rfl)
 ·cases kZ e;obtain⟨_,_,_,_,rfl,_⟩:=l;rfl
 ·cases nn e;obtain⟨_,_,_,_,rfl,_⟩:=l;rfl
theorem Ee{W:Wd}(l:W.R a x)(A:W.R b y)(e:yJ a b=some c):y=.none/\c=(x==.none):=
 bq e fun h e=>⟨nR h A rfl,Pe l e⟩
theorem uE:∀{es:List (Int×V)}{q:List i0},dL W es q->(∀e∈q,∃k,(dv pw wd).is k e.key=true/\e.hash=(dv pw wd).hash k) /\
  ∀i,match cg i es with
   |none=>(q.find? fun e=>(dv pw wd).is i e.key)=none
   |some v=>∃e,(q.find? fun e=>(dv pw wd).is i e.key)=some e/\W.R v e.val:=by
 intro p;induction p with
 |nil=>intro q h;obtain rfl:q=[]:=h;exact⟨by simp,fun i=>by rfl⟩
 |cons a0 r I=>
  intro q h;refine wc q h ?_;intro e g t a b c d;have j:∀i,(dv pw wd).is i e.key=decide _:=fun i=>by refine aa ?_ a;rfl
  refine⟨fun A B=>?_,fun i=>?_⟩
  ·rcases List.mem_cons.mp B with rfl|B
   ·exact⟨a0.1,by refine aa ?_ (j ..);simp,b⟩
   ·exact((I d).1) A B
  ·unfold cg;by_cases f:a0.1=i
   ·refine aa ?_ (if_pos f);refine⟨e,?_,c⟩;simp only[I7,j,decide_eq_true f]
   ·rw[if_neg f,I7,j,decide_eq_false f];exact((I d).2) i
def pS(arr:List i0)(i:Int):Option ae:=(arr.find? fun e=>(dv pw wd).is i e.key).map (·.val)
theorem sa{s:ak}{p:ai×ai} (h:s.heap.get? p.1=some { cls:=.type "dict",data:=.dict q ep }) (r:dL W es q.toList):
  s.heap.MapOf (dv pw wd) p.1 (pS q.toList):=by
 refine⟨_,q,ep,h,⟨rfl,rfl,rfl⟩,rfl,fun e B=>(uE r).1 e (Array.mem_toList_iff.mpr B),fun k=>?_⟩;exact congrArg _ (List.find?_toArray ..)
theorem xT(r:dL W es q)(e:cg i es=some v):∃x,pS q i=some x/\W.R v x:=by have:=(uE r).2 i;exact aH (e▸this) fun A a b=>⟨A.val,by delta pS;refine aa ?_ a;rfl,b⟩
theorem CW(r:dL W es q)(e:cg i es=none):pS q i=none:=by have:=(uE r).2 i;obtain this:=e▸this;delta pS;refine aa ?_ this;rfl
theorem Mw:(cg i es).isSome=(es.map (·.1)).contains i:=by
 induction es with
 |nil=>rfl
 |cons x r I=>
  unfold cg;by_cases h:x.1=i
  ·subst h;simp
  ·refine aa (aa ?_ I) (if_neg h);have:(i==x.1)=false:=by simpa using fun e=>h e.symm
   simp[this]
theorem Mu(r:dL W es q):(pS q i).isSome=(es.map (·.1)).contains i:=by
 refine aU ?_ Mw;cases h:cg i es with
 |none=>refine aa ?_ (CW r h);rfl
 |some v=>refine aH (xT r h) fun x a Y=>aa ?_ a;rfl
theorem vt{b:List O}(B:BO)(S:aE W b s)(e:W.ρ[k]?=some p)(c:(aD b k).live=true):(p.1==sysModules)=false:=by refine oE B.mods fun o a=>?_;obtain H:=(S.free k p e c).1;refine beq_eq_false_iff_ne.mpr fun h=>?_;obtain H:=h▸H;obtain H:=(S.base _ _ a)▸H;trivial
theorem lN(i:Int)(t:Tok):(dv pw wd).is i (.int i t)=true:=by refine(?_:Bt i (.int i t)=true);simp[Bt]
theorem wg(h:k<=sizeMax):k<qN:=z1 rfl (kA h)
theorem FT{G:List O}(B:BO)(v:aW hd n A)(S:aE W G s)(j:W.R a x)(m:W.R b y):dp A W s G pz (nW .In x y) (yG G a b):=fun c e=>by
 refine ch e (fun e=>kM S e m fun vs l items n a0 u w e=>bq e fun h e=>?_) fun e=>iS e m fun k p g e=>ib e j fun i t e=>ch e (fun e=>ax e fun xs q e=>?_) fun e=>ax e fun d q e=>?_
 ·obtain⟨r,H⟩:=Bool.and_eq_true_iff.mp h;refine(uy (ux S 6) H w) _ fun bs I c3 R=>(ux S 6 a x r j) _ fun as F c1 c2=>l5 S rfl fun Q z=>SeqAt.in_list_reads (.list u rfl rfl I) F c3 c1 ?_ ?_
  ·have:=v8 (k:=7) v (by decide);exact dW (jO (bb (Bl ..) ‹_›) _) this
  ·rw[SO,wL];exact aR e▸z
 ·obtain o:=S.objs k p g;rw[sP q] at o;exact lX o fun Y C ob f D=>sT S (fun Q z=>wpAny_inSet_of (lN i t) rfl (D.setOf f (wg C)) (z _)) c e
 ·obtain o:=S.objs k p g;rw[gr q] at o;exact oE o.2.2 fun P f=>sT S (fun Q z=>wpAny_in_of (lN i t) (vt B S g (by rw[gr q];rfl)) (sa f.1 f.2) (by rw[Mu f.2];exact z _)) c e
theorem Q6(h:al (MD) A (nW .In x y) (fun v s'=>∀b,v=.bool b->Q (.bool !b) s') aT s):al (MD) A (nW .NotIn x y) Q aT s:=fun Γ p hΓ=>by obtain d:=h Γ p hΓ;have a:nW .In x y=(contains y x>>=fun b=>pure _):=rfl;rw[a,Bp] at d;refine aa (aa ?_ (Bp ..)) (rfl:nW .NotIn x y=(contains y x>>=fun b=>pure _));exact Sem.wp_mono _ _ _ (fun b j s' q=>q b rfl) (fun Y Y Y f=>f) _ _ d
theorem FQ{p:List O}(B:BO)(k:aW hd n A)(S:aE W p s)(l:W.R a x)(d:W.R b y):dp A W s p pz (nW op x y) (fp op p a b):=fun c e=>by
 refine cD e (fun h e=>?_) fun Y e=>cD e (fun h e=>oj e fun c e=>?_) fun Y e=>cD e (fun h e=>?_) fun Y e=>cD e (fun h e=>oj e fun c e=>?_) fun Y e=>cD e (fun h e=>?_) fun Y e=>cD e (fun h e=>oj e fun c e=>?_) fun Y e=>ax e fun i g e=>ax e fun j m e=>cD e (fun h e=>?_) fun Y e=>bq e fun h e=>?_<;>refine aa ?_ h
 ·exact(FS k S l d e).1
 ·obtain⟨rfl,rfl⟩:=Ee l d e;exact sT S (fun Q z=>is_none (z s.toks)) _ rfl
 ·exact FT B k S l d c e
 ·exact kL g m l d fun t u=>l5 S e fun Q=>wpAny_lt_int
 ·exact kL g m l d fun t u=>l5 S e fun Q=>ge_int
 ·exact(FS k S l d e).2
 ·obtain⟨rfl,rfl⟩:=Ee l d e;exact sT S (fun Q z=>isNot_none (z s.toks)) _ rfl
 ·refine Q6 (bM (FT B k S l d c e) (fun v s' h b hb=>?_) fun Y Y f=>f);refine h _ fun W' o T r=>?_;cases hb.symm.trans r;exact .mk W' o T rfl
theorem zH(h:place n i=some k)(v:n<=sizeMax):-2 ^ 63<=i/\i<2 ^ 63/\seqIndex? i n=some k:=by
 delta sizeMax at v;refine cD h (fun a h=>bq h fun H h=>cy h ?_) fun a h=>bq h fun H h=>cy h ?_
 ·exact⟨nB (by decide) a,o9 H (kX v),seqIndex_of a H⟩
 ·exact⟨by omega,o9 (Int.not_le.mp a) (by decide),seqIndex_neg (Int.not_le.mp a) H⟩
theorem sH{w:Wd}{i:Array ae}{c:Nat}(h:w.Rs vs i.toList)(e:vs[c]?=some v):∃x,i[c]?=some x/\w.R v x:=aH (VRs.get h e) fun x a b=>⟨x,by simpa using a,b⟩
theorem E5{W:Wd}(h:W.R .none x):x=.none:=h
theorem Mj{W:Wd}(h:W.R (.cst u) x):x=u:=h
theorem Rr{W:Wd}(h:W.R (.obj k) x):∃p,W.ρ[k]?=some p/\x=.ref p.1:=h
def hU(s:ak)(x:ae):Prop:=∃T id,s.TypeIs x T/\fy (.type T) "__getitem__" = pure (some (.builtin id))
theorem hU.list(h:s.heap.get? l=some (bL items n)):hU s (.ref l):=⟨"list", "list.__getitem__",⟨_,h,rfl⟩,list_getitem_lookup⟩
theorem hU.tuple(h:s.heap.get? l=some (dS items n)):hU s (.ref l):=⟨"tuple",_,⟨_,h,rfl⟩,F.slot_tuple_getitem.lookup⟩
theorem hU.dict (h:s.heap.get? l=some { cls:=.type "dict",data:=.dict q ep }):hU s (.ref l):=⟨"dict",_,⟨_,h,rfl⟩,slot_dict_getitem.lookup⟩
theorem hU.str:hU s (.str x t):=⟨"str",_,nh s x t,F.slot_str_getitem.lookup⟩
theorem Py{d:List O}(S:aE W d s)(m:vs.length<=sizeMax)(u:s.heap.get? l=some (bL items n))(w:W.Rs vs items.toList)(e:(place vs.length j).bind (vs[·]?)=some v):
  hU s (.ref l)/\dp A W s d RV (pY (.ref l) (.int j t)) (some v):=by
 refine ax e fun k b c=>aH (sH w c) fun z hz C=>⟨.list u,sU S fun Q q=>?_⟩;delta sizeMax at m;refine cD b (fun a h=>bq h fun H h=>?_) fun a h=>bq h fun H h=>?_<;>cases h
 ·exact wpAny_getItem_list ⟨_,u,rfl,_,rfl⟩ a (o9 H (kX m)) hz (q _ s.toks C)
 ·rw[<- dQ w] at H hz m;exact wpAny_getItem_list_neg ⟨_,u,rfl,_,rfl⟩ (Int.not_le.mp a) H (by exact nB (IV (iA (kX m))) (by simpa using Int.add_le_add_left H (-(items.size:Int)))) hz (q _ s.toks C)
theorem Pz{c:List O}(S:aE W c s)(m:vs.length<=sizeMax)(u:s.heap.get? l=some (dS items n))(w:W.Rs vs items.toList)(e:(place vs.length j).bind (vs[·]?)=some v):
  hU s (.ref l)/\dp A W s c RV (pY (.ref l) (.int j t)) (some v):=by
 refine ax e fun k a b=>?_;obtain⟨z,hz⟩:=sH w b;exact⟨.tuple u,sU S fun Q q=>P.getItem_tuple u ((zH a m).1) ((zH a m).2.1) (by refine aa ?_ (dQ w);exact((zH a m).2.2)) hz.1 (q _ s.toks hz.2)⟩
theorem FU{B:List O}(S:aE W B s)(a:W.R o x)(D:W.R i y)(v:V)(e:fR B o i=some v):hU s x/\dp A W s B RV (pY x y) (some v):=by
 refine ib e D fun j t e=>ch e (fun e=>ax e fun vs f e=>ch f (fun f=>?_) fun f=>?_) fun e=>iS e a fun k p h e=>ax e fun d q e=>?_
 ·refine(AA S (nn f▸a)) _ fun m l items n g u w=>?_;obtain rfl:=g;exact Pz S m u w e
 ·exact lR S f a fun l items n m u w=>Py S m u w e
 ·obtain o:=S.objs k p h;rw[gr q] at o;refine lX o fun Y Y r b c=>?_;obtain⟨z,hz⟩:=xT c e;exact⟨.dict b,sU S fun Q q=>wpAny_getItem_of (lN j t) (sa b c) hz.1 (q _ _ hz.2)⟩
theorem VRs.pick{W:Wd}(h:W.Rs vs xs):∀is:List Nat,W.Rs (is.filterMap (vs[·]?)) (is.filterMap (xs[·]?)):=by
 intro p;induction p with
 |nil=>rfl
 |cons i r I=>
  refine aa (aa ?_ nF) nF;cases e:vs[i]? with
  |none=>
   have:xs[i]?=none:=by rw[A4] at e ⊢;refine aa ?_ (VRs.length h);exact e
   refine aa ?_ this;trivial
  |some v=>refine aH (VRs.get h e) fun x a b=>aa ?_ a;exact VRs.cons b (I)
theorem FB{W:Wd}(h:W.R l x)(e:oy l=some a):∃p:Option (Int×Tok),x=partValue p/\p.map (·.1)=a:=
 ch e (fun e=>ib e h fun i t e=>cy e ⟨some (i,t),rfl,rfl⟩) fun e=>bq e fun g e=>cy e (nR g h ⟨none,rfl,rfl⟩)
theorem zE{W:Wd}(h:W.R l x)(e:oy l=some a):IsPart x a:=
 ch e (fun e=>ib e h fun i t e=>cy e (.int i t)) fun e=>bq e fun g e=>cy e (nR g h .none)
def JK(A:a8)(W:Wd)(s:ak)(st:List O)(t:bE ae)(v:V)(s1:ak):Prop:=
 al (MD) A t (PQ A W s st (RV) v) aT s1
theorem FH{W:Wd}(h:W.Rs vs items.toList)(a b c:Option Int):W.Rs (ez vs a b c) (slicePick items a b c).toList:=by delta ez slicePick;refine aa ?_ (dQ h);have:=VRs.pick h (sliceRange (ti a b c vs.length).1 (ti a b c vs.length).2.1 (ti a b c vs.length).2.2);simpa using this
theorem Sr{st:List O}(S:aE W st s)(D:W.R o x)(B:W.R l f)(H:W.R u Q)(z:W.R k d)(e:kh st o l u k=some v):
  hU s x/\JK A W s st (pY x (.ref s.heap.objs.size)) v { s with heap:=s.heap.push { cls:=.type "slice",data:=.fields #[f,Q,d] } }:=by
 refine oA (S.keeps (fr:=aC A) (s':={ s with heap:=s.heap.push { cls:=.type "slice",data:=.fields #[f,Q,d] } }) (co s _) S.gens) fun h T=>?_;have sl:({ s with heap:=s.heap.push { cls:=.type "slice",data:=.fields #[f,Q,d] } }:ak).heap.IsSliceOf s.heap.objs.size f Q d:=.new ..;have F:∀b q,s.heap.get? b=some q->({ s with heap:=s.heap.push { cls:=.type "slice",data:=.fields #[f,Q,d] } }:ak).heap.get? b=some q:=co s _;generalize ({ s with heap:=s.heap.push { cls:=.type "slice",data:=.fields #[f,Q,d] } }:ak)=s' at h T sl F ⊢;refine ch e (fun e=>jA e D fun p t e=>bq e fun g e=>oj e fun q e=>ax e fun a j e=>ax e fun b hb e=>bq e fun hle e=>cy e ⟨.str,?_⟩) fun e=>ax e fun vs P e=>lR S P D fun la items n C m w=>oj e fun ws e=>ax e fun a j e=>ax e fun b hb e=>ax e fun c hc e=>bq e fun R e=>cy e ⟨.list m,?_⟩
 ·obtain rfl:=E5 (wt g▸z);obtain⟨pl,rfl,hpl⟩:=FB B j;obtain⟨pu,rfl,hpu⟩:=FB H hb;refine wpAny_getItem_str_slice (st:=none) sl rfl ?_;delta sliceMade slicePicked;simp only[Option.map_none,Option.getD_none,beq_self_eq_true,Bool.true_and,hpl,hpu];split
  ·exact .mk W h T (lu _ _)
  ·refine⟨?_,?_⟩
   ·exact bb (pd _ _) (bb (indices_len_le a b p.length) (bb hle d7))
   obtain⟨i,y⟩:=h.toks _;exact .mk W i (T.trans y) (lu _ _)
 ·refine wpAny_getItem_list_slice ⟨_,F _ _ m,rfl,_,rfl⟩ sl (zE B j) (zE H hb) (zE z hc) R ?_ (by refine aa ?_ (dQ w);exact bb C d7);have Wx:(ez vs a b c).length<=sizeMax:=by refine aU ?_ (dQ (FH w a b c));exact bb (slicePick_size_le items a b c) (bb (dU (dQ w)) C)
  obtain⟨I,i,y,r⟩:=(ou h (s':={ s' with heap:=s'.heap.push (bL (slicePick items a b c) 0) }) (T.Rs (FH w a b c)) Wx (bF _ rfl) (bG _) (co s' _)).ex;exact .mk I i (T.trans y) r
section
open Builtin Builtin.ObjectAttr
theorem NU:∀f,f<11->∀g,g<11->ca f=ca g->f=g:=by trivial
theorem Dt(h:dt nm=some f):nm=ca f/\f<=10:=by
 have i:∀(l:List _),(∀p∈l,p.1=ca p.2/\p.2<=10)->l.lookup nm=some f->nm=ca f/\f<=10:=by
  intro l;induction l with
  |nil=>intro _ h;exact am h
  |cons p r I=>
   intro c h;obtain⟨a,b⟩:=p;rw[gA] at h;cases e:(nm==a) with
   |true=>rw[e] at h;cases h;have:=c (a,f) (by simp);exact⟨(eq_of_beq e).trans this.1,this.2⟩
   |false=>rw[e] at h;exact I (fun p d=>c p (by simp[d])) h
 exact i _ (by decide) h
theorem Fk:∀f,f<=10->fy (.type "object") (ca f)=pure none:=by
 have i:∀f,Ds "object" _=some none->fy _ (ca f)=pure none:=fun f h=>by exact aa (aa (aa rfl h) K7) (typeLookup_type ..)
 intro f o;refine i f ?_;have:∀f,f<11->Ds "object" (ca f)=some none:=by trivial
 exact this f (aJ [_] (.l af (.n 10)) (.l aF (.n 11)) tU o)
theorem FsR.get{j:Fz}{k:List _}:∀{fs:List _}{m:Str->Option ae}{f:Nat}{v:V},FsR j k fs m->jl f fs=some v->∃x,m (ca f)=some x/\VR j k v x
 |(g,u)::r,m,f,v,h,e=>by
  refine qx h fun i x a b c=>cD e (fun z e=>?_) fun z e=>?_
  ·cases e;exact⟨x,z▸a,b⟩
  ·refine aH (FsR.get c e) fun y p q=>?_;by_cases d:ca f=ca g
   ·rw[if_pos d] at p;trivial
   ·rw[if_neg d] at p;exact⟨y,p,q⟩
theorem FsR.set(o:f<=10)(s:VR F ρ v x):∀{fs:List (Nat×V)}{m:Str->Option ae},FsR F ρ fs m->FsR F ρ (setF f v fs) (fun y=>if y=ca f then some x else m y):=by
 intro p;induction p with
 |nil=>
  intro m h;refine⟨o,x,if_pos rfl,s,fun n=>?_⟩;by_cases e:n=ca f
  ·exact if_pos e
  ·exact(if_neg e).trans ((if_neg e).trans (h n))
 |cons a0 r I=>
  obtain⟨g,u⟩:=a0;intro m h;refine qx h fun j y a b c=>?_;refine(?_:FsR F ρ (if g=f then(f,v)::r else(g,u)::setF f v r) _);by_cases z:g=f
  ·subst z;refine aa ?_ (if_pos rfl);refine⟨o,x,if_pos rfl,s,?_⟩;have:(fun n=>if n=ca g then none else if n=ca g then some x else m n)=fun n=>if n=ca g then none else m n:=by funext n;by_cases e:n=ca g<;>simp[e]
   refine aa ?_ this;exact c
  ·refine aa ?_ (if_neg z);have i:ca g≠ca f:=fun e=>z (NU g (aJ [_] (.l af (.n 10)) (.l aF (.n 11)) tU h.1) f (aJ [_] (.l af (.n 10)) (.l aF (.n 11)) tU o) e);refine⟨j,y,(if_neg i).trans a,b,?_⟩;have:(fun n=>if n=ca g then none else if n=ca f then some x else m n)=fun n=>if n=ca f then some x else if n=ca g then none else m n:=by
    funext n;by_cases d:n=ca g
    ·subst d;simp[i]
    ·simp[d]
   refine aa ?_ this;exact(I c)
theorem FsR.within:∀{fs:List (Nat×V)}{m:Str->Option ae},FsR F ρ fs m->Within m (fs.map fun p=>ca p.1):=by
 intro d;induction d with
 |nil=>intro m h;exact fun y A=>absurd (h y) A
 |cons a0 r I=>
  intro m h;refine qx h fun f y a b c=>?_;intro z hz;by_cases e:z=ca a0.1
  ·subst e;simp
  ·have:=I c z (by refine aa ?_ (if_neg e);trivial);rw[dH,dP];exact .inr this
theorem DW{W:Wd}(h:W.R v x)(e:E6 v=true):handedOut x=pure x:=by
 cases v with
 |none|bool=>subst h;rfl
 |int|str=>obtain⟨t,rfl⟩:=h;rfl
 |tup|lst=>obtain⟨_,_,_,_,rfl,_⟩:=h;rfl
 |seti|sets=>obtain⟨_,_,_,rfl,_⟩:=h;rfl
 |setb=>obtain⟨_,_,rfl,_⟩:=h;rfl
 |ins=>obtain⟨_,_,_,_,_,rfl,_⟩:=h;rfl
 |obj=>obtain⟨_,_,rfl⟩:=h;rfl
 |bm=>obtain⟨_,_,rfl,_⟩:=h;rfl
 |exc=>obtain⟨_,_,_,_,_,_,_,rfl,_⟩:=h;rfl
 |cst=>trivial
def xK(c:ai):Prop:=∀C:Prop,(∀init meths,CF c init meths->(∀n a,bc c n=some a->meths.lookup n=some a)->C)->C
theorem xK.mk{c:ai}:∀init meths,CF c init meths->(∀n a,bc c n=some a->meths.lookup n=some a)->xK c:=fun d z m x3 C k=>k d z m x3
theorem CA(B:BO)(h:r7 c):xK c:=by
 rcases h with rfl|rfl
 ·exact .mk _ _ B.entry fun n a e=>by assumption
 ·exact .mk _ _ B.sorter fun n a e=>e
theorem yE{h:bk}(e:∃o,h.get? p=some o/\instObj o c d)(i:d≠p)(H:h.get? d=some l)(C:r9 l m):h.Inst p c m:=by refine qy C fun es ep a b u f=>?_;refine ju e ?_;intro o e T g j;exact⟨_,e,T,j,.inr ⟨d,g,i,l,es,ep,H,a,b,u,f⟩⟩
theorem FV{G:List O}(B:BO)(S:aE W G s)(j:r7 c)(a:f<=10)
  (h:∃o,s.heap.get? p=some o/\instObj o c d) (n:d≠p) (H:s.heap.get? d=some t) (C:r9 t m) (i:FsR W.F W.ρ fs m) (e:n8 (jl f fs)=some u):
  dp A W s G (RV) (lK (.ref p) (ca f) ex) (some u):=by
 refine(CA B j) _ fun init meths r Y=>r.1 _ fun nm q N bs sn sub col dd k0 k1 k2 k3 k5 F c1 c2 c3 R w g y D=>ax e fun v k e=>bq e fun l e=>?_;cases e;obtain⟨x,b⟩:=FsR.get i k;exact sU S fun Q z=>load_attr (S.keepB _ _ c1) (c2.keeps S.keepB) c3 (g f a) (Fk f a) (yE h n H C) b.1 (DW b.2 l) (z x _ b.2)
theorem FM{G:List O}(B:BO)(hA:aW hd n A)(S:aE W G s)(H:W.R v x)(e0:kB G (dt nm) v=some u):dp A W s G (RV) (lK x nm ex) (some u):=by
 refine ax e0 fun f hid e=>ax e fun p b e=>?_;obtain⟨rfl,g⟩:=Dt hid;refine ch b (fun b=>?_) fun b=>iS b H fun k q F b=>ch b (fun b=>?_) fun b=>?_
 ·obtain⟨i,a,d,od,m,rfl,j,f1,f2,f3,f4⟩:W.R (.ins p.1 p.2) x:=Vw b▸H;exact FV B S i g (f1.imp fun o h=>⟨S.frozen _ _ h.1,h.2⟩) j (S.frozen _ _ f2) f3 f4 e
 ·have o:=S.objs k q F;rw[ow b] at o;obtain⟨i,j,l,od,m,r,o3,o4⟩:=o;exact FV B S i g l j r o3 o4 e
 ·have o:=S.objs k q F;rw[zy b] at o;obtain⟨c,fs⟩:=p;obtain⟨rfl,Y,sl,l,o1',Y,r,r0⟩:=o;refine ax e fun v D e=>bq e fun hn e=>?_;cases e;have w:8<=f:=by rcases r f (by rw[D];exact Option.some_ne_none _) with h|h|h<;>rw[h]<;>decide
  refine B.node _ fun K X g1 g2 g3 g4 Y g5=>?_;obtain⟨pp,R,T,d39,d49⟩:=g5 f w g;have t:=X.keeps S.keepB;have I:InstAt s.heap q.1 { cls:=.ref 89,dict:=some q.2,data:=.plain,slots:=sl } 89 (some { cls:=.type "dict",data:=.dict #[] }):=⟨l,rfl,rfl,o1'⟩;have P:=r0 f w g;rw[D] at P;obtain⟨y,hy,C⟩:=P;refine sU S fun Q z=>get_bind t I g1 R g2 (kl (slot_get (s:={ s with toks:=s.toks+1 }) t I T hy ?_));refine(?_:al _ _ (handedOut y) _ _ _);rw[DW C hn];exact ay (z y _ C)
end
section
open Builtin Builtin.ObjectAttr Builtin.Getset_descriptor
theorem At.of_upd{t:bE j}(R:ar A W Wp Wr U c s)(h:∀a,g c.st=some a->al MD A t (PQ A W s a (fun Y Y Y=>True) ()) aT s):
  At A Wr U W Wp c s (fun Y Y Y=>True) t (tv g):=fun b n e=>ax e fun a f i=>by
 obtain⟨-,rfl⟩:=cB (aR i);exact pN (h a f) fun x s' W' d T V=>.mk W' (ar.lift R d T) T.up V
theorem Uz{K:mv}{p:Nat}(X:K.In s.heap)(I:InstAt s.heap x z C y)
  (b:slotIn K p C=some i) (D:i<1000)
  (h:R (.ok (.ret .none)) { s with heap:=s.heap.update x fun o=>{ o with slots:=(o.slots++qZ (i+1-o.slots.size) none).setIfInBounds i (some v) } }):
  dK (MD) A (.call (.builtin "member_descriptor.__set__") ⟨[.ref p,.ref x,v],[]⟩) R s:=by
 refine Rn (slot_of X b) fun n T owner c j d sl f a q m hb Q=>?_;clear b;subst Q;obtain k:=I.type;obtain l:=looks_mroIn X m;have B:Looks (MD) s.1 (Slots.slotNamesOf (.ref C)) f.slotNames:=(looks_clsIn X q).andThen .now;obtain t:=yY a 0 (v:=.str n T) rfl;obtain f1:=yY a 1 (v:=owner) rfl;obtain u:=yY a 3 (v:=.builtin "proto.slot#set") rfl;obtain f4:=yY a 4 (v:=.int c j) rfl;refine pQ KF.slot_mset.plain KF.entry_mset (KF.slot_mset.check _ _ _ _ _ _ _ _ ⟨_,a,rfl⟩ (KF.args_mset _ _ _) ?_);have w:Looks (MD) s.1 (descrItself (.ref p)) [.ref p]:=((Looks.ld a).andThen .now).andThen (Looks.of_pure rfl)
 repeat lk
 refine⟨wE _ (by decide +kernel),fN KF.entry_slotset ?_⟩
 repeat lk
 refine aa ?_ (if_neg hb);refine ay (wB ?_);delta setSlotAt;refine aa ?_ (if_neg fun e=>aP [_] (.l (.n 16777216) af) (.l aF d8) .f tU e D);exact wpAny_updatePart I.at_ (ay h)
theorem yu:∀{fs:List _},jl g (setF f v fs)=if g=f then some v else jl g fs
 |[]=>by
  refine(?_:(if f=g then some v else none)=if g=f then some v else none);by_cases e:f=g
  ·subst e;rfl
  ·refine aa (aa ?_ (if_neg (bB e))) (if_neg e);rfl
 |(k,u)::r=>by
  unfold setF;by_cases e:k=f
  ·subst e;refine aa ?_ (if_pos rfl);unfold jl;by_cases A:k=g
   ·subst A;simp
   ·exact aa (aa (aa rfl (if_neg A)) (if_neg (bB A))) (if_neg A)
  ·refine aa ?_ (if_neg e);unfold jl;by_cases A:k=g
   ·subst A;exact aa (aa (aa rfl (if_pos rfl)) (if_neg e)) (if_pos rfl)
   ·exact aa (aa (aa rfl yu) (if_neg A)) (if_neg A)
theorem UA{sl:Array (Option ae)}(h:sl.size<=3)(D:i<3):
  ((sl++qZ (i+1-sl.size) none).setIfInBounds i (some y)).size<=3/\∀j,((((sl++qZ (i+1-sl.size) none).setIfInBounds i (some y)))[j]?).join=if j=i then some y else(sl[j]?).join:=by
 refine⟨by simp;exact(Bh sl.size (i+1)).elim (fun q=>(Nat.add_sub_of_le q).symm▸D) fun q=>(Nat.sub_eq_zero_of_le q).symm▸h,fun j=>?_⟩;rw[Array.getElem?_setIfInBounds];by_cases e:i=j
 ·subst e;rw[if_pos rfl,if_pos rfl,if_pos (by simp;exact aJ [_,_,_] (.l aF (.a aj aA)) (.l aF (.a aA aj)) tU (oN _ _))];rfl
 ·rw[if_neg e,if_neg (bB e),Array.getElem?_append];by_cases l:j<sl.size
  ·exact aa rfl (if_pos l)
  ·rw[if_neg l,tJ (by exact aJ [_,_] (.n aF aj) (.l aj af) tU l:sl.size<=j),Array.getElem?_replicate];split<;>rfl
theorem BN(B:BO)(hA:aW hd n A)(R:ar A W Wp Wr U σ s)(hx:W.R o x)(hy:W.R v y):
  At A Wr U W Wp σ s (fun Y Y Y=>True) (setAttr x nm y) (eB (dt nm) o v):=At.of_upd R fun Wv e0=>ax e0 fun f hid e=>by
 obtain⟨rfl,j⟩:=Dt hid;have S:=R.st;refine iS e hx fun k p w e=>?_;obtain o:=S.objs k p w;clear R hx hid;refine ch e (fun e=>ax e fun q l e=>bq e fun r e=>cy e ?_) fun e=>ax e fun q l e=>bq e fun r e=>cy e ?_
 ·have u:(aD σ.st k).live=true:=by rw[ow l];rfl
  rw[ow l] at o;obtain⟨c,fs⟩:=q;refine hG fun C kk3=>?_;obtain⟨hc,WZ,a,od,m,Q,o3,o4⟩:=o;refine kk3 ?_;refine(CA B hc) _ fun init meths hz39 Y=>?_;obtain⟨hz71,_⟩:=hz39;refine hz71 _ fun nm q' N bs sn sub col dd k0 k1 k2 k3 k5 mN c1 c2 c3 c4 c5 c6 c7 c8=>?_;have hxC:p.1≠c:=fun z=>by have fr1:=(S.free k p w u).1;rw[z,S.base _ _ c1] at fr1;contradiction
  have h5:=yE a WZ Q o3;have hsz:(fs.map fun p=>ca p.1).length<=l7:=by rw[bl,sizeLine_eq];exact bb (fh r.1) (by decide)
  obtain⟨hh,g,dr,t,os⟩:=s;refine store_attr PySem.F.store_object (S.keepB _ _ c1) (c2.keeps S.keepB) c5 (c6 f j) (Fk f j) hxC h5 (fun h' tk' I' hk hs=>?_) (FsR.within o4) hsz;refine hG fun C kk5=>?_;obtain⟨ox,a,i1,i2,i3⟩:=a;obtain⟨o',F,a2,a3,a4,a5⟩:=hs _ a;have hdd:=a5 p.2 i2;obtain⟨o'',b1,b2,b3,h⟩:=I';refine kk5 ?_;obtain rfl:o''=o':=aR (b1.symm.trans F);rw[hdd] at h;obtain⟨h,_⟩|⟨d,h,b5,od',es,ep,b6,b7,b8,b9,b10⟩:=h
  ·exact am h.symm
  obtain rfl:p.2=d:=aR h;obtain⟨C,T⟩:=S.upd (s':=⟨h',g,dr,tk',os⟩) (o:=.inst c (setF f v fs)) w u (fun b o P n2 z=>hk b o P (fun o₀ dx z1 z2=>by cases z1.symm.trans a;cases z2.symm.trans i2;exact n2) z) ⟨_,F⟩ ⟨_,b6⟩ ⟨hc,WZ,⟨_,F,b2,hdd,b3⟩,od',_,b6,⟨es,ep,b7,b8,b9,b10⟩,FsR.set j hy o4⟩ S.gens rfl
  exact .mk W C T trivial
 ·have u:(aD σ.st k).live=true:=by rw[zy l];rfl
  rw[zy l] at o;obtain⟨c,fs⟩:=q;refine hG fun C kk7=>?_;obtain⟨ez0,hpp,sl,a,o1',hsl,Q,r0⟩:=o;refine kk7 ?_;obtain rfl:=ez0;refine B.node _ fun K X g1 g2 g3 g4 Y g5=>?_;obtain⟨pp,d1,d2,d3,d4⟩:=g5 f r.1 j;have D:=X.keeps S.keepB;have I:InstAt s.heap p.1 { cls:=.ref 89,dict:=some p.2,data:=.plain,slots:=sl } 89 (some { cls:=.type "dict",data:=.dict #[] }):=⟨a,rfl,rfl,o1'⟩;refine set_plain D I g3 (osa_descr (s:={ s with toks:=s.toks+1 }) KF.slot_mset D I g4 d3 d4 (Uz (s:={ s with toks:=s.toks+1 }) D I d2 (by omega) ?_));obtain⟨z1,z2⟩:=UA (sl:=sl) (i:=f-8) (y:=y) hsl (dW (Nat.sub_le_sub_right j 8) (by decide));have h1':=eE (fun o=>{ o with slots:=(o.slots++qZ (f-8+1-o.slots.size) none).setIfInBounds (f-8) (some y) }) a rfl;have h2':=(nA s.heap p.2 p.1 (fun o=>{ o with slots:=(o.slots++qZ (f-8+1-o.slots.size) none).setIfInBounds (f-8) (some y) }) hpp).trans o1';obtain⟨C,T⟩:=S.upd (fr:=aC A) (s':={ s with toks:=s.toks+1,heap:=s.heap.update p.1 fun o=>{ o with slots:=(o.slots++qZ (f-8+1-o.slots.size) none).setIfInBounds (f-8) (some y) } }) (o:=.slot 89 (setF f v fs)) w u
   (fun b o P n2 z=>(nA _ _ _ _ P).trans z) ⟨_,h1'⟩ ⟨_,h2'⟩ ⟨rfl,hpp,_,h1',h2',z1,(fun g H=>by
    rw[yu] at H;by_cases z:g=f
    ·exact z▸(by decide:∀k<11,8<=k->k=8∨k=9∨k=10) f (Jz j) r.1
    ·rw[if_neg z] at H;exact Q g H),fun g l1 l2=>by
    rw[z2,yu];by_cases z:g=f
    ·subst z;rw[if_pos rfl,if_pos rfl];exact⟨y,rfl,hy⟩
    ·rw[if_neg z,if_neg fun q=>z ((pi l1).symm.trans ((congrArg (·+8) q).trans (pi r.1)))];exact r0 g l1 l2⟩ S.gens rfl
  exact .mk W C T trivial
end
section
open Builtin Builtin.ObjectAttr
theorem Ek{e:i0}(h:e.key=.int k t)(i:Int):(dv pw wd).is i e.key=decide (k=i):=by refine aa ?_ h;rfl
theorem dL.cons(a:e.key=.int k t)(b:e.hash=(dv pw wd).hash k)(c:W.R v e.val)(d:dL W r es):dL W ((k,v)::r) (e::es):=⟨e,es,t,rfl,a,b,c,d⟩
theorem Df(A:W.R v y):∀{es:List (Int×V)}{f:List i0},dL W es f->match f.findIdx? (fun e=>(dv pw wd).is i e.key) with
  |some j=>(∃u,cg i es=some u)/\dL W (gn i v es) (f.modify j fun e=>{ e with val:=y })/\dL W (je i es) (f.eraseIdx j)/\j<f.length
  |none=>cg i es=none/\dL W (gn i v es) (f++[⟨(dv pw wd).hash i,.int i t,y⟩]):=by
 intro p;induction p with
 |nil=>intro f h;obtain rfl:f=[]:=h;exact⟨rfl,dL.cons rfl rfl A rfl⟩
 |cons a0 r I=>
  intro f h;refine wc f h ?_;intro e k t' a b c d;obtain I:=I d;rw[I8,Ek a];by_cases g:a0.1=i
  ·subst g;simp only;refine⟨⟨a0.2,by simp[cg]⟩,?_,?_,by simp⟩
   ·rewrite[gn];refine aa ?_ (if_pos rfl);exact dL.cons a b A d
   ·rewrite[je];exact aa d (if_pos rfl)
  ·refine aa ?_ (decide_eq_false g);cases q:k.findIdx? (fun e=>(dv pw wd).is i e.key) with
   |none=>refine⟨by rewrite[cg];refine aa ?_ (if_neg g);exact(q▸I).1,?_⟩;rewrite[gn];refine aa ?_ (if_neg g);exact dL.cons a b c (q▸I).2
   |some j=>
    obtain I:=q▸I;refine⟨by rewrite[cg];refine aa ?_ (if_neg g);exact I.1,?_,?_,by simpa using I.2.2.2⟩
    ·rewrite[gn];refine aa ?_ (if_neg g);exact dL.cons a b c I.2.1
    ·rewrite[je];refine aa ?_ (if_neg g);exact dL.cons a b c I.2.2.1
theorem Dg:∀{es:List (Int×V)}{q:List i0},dL W es q->q.length=es.length:=by
 intro p;induction p with
 |nil=>intro q h;obtain rfl:q=[]:=h;rfl
 |cons a0 r I=>intro q h;refine wc q h ?_;intro e f t' a b c d;exact congrArg _ (I d)
noncomputable abbrev uA(arr:Array i0)(ep:Nat):cS:={ cls:=.type "dict",data:=.dict arr ep }
theorem og(r:dL W es q.toList):KeysOf (dv pw wd) q:=fun e B=>(uE r).1 e (Array.mem_toList_iff.mpr B)
theorem SN:∀{es:List (Int×V)},∀k,k∈(gn i v es).map (·.1)->k=i∨k∈es.map (·.1):=by
 intro p;induction p with
 |nil=>intro k h;simp[gn] at h;exact .inl h
 |cons a0 r I=>
  intro k h;unfold gn at h;split at h
  ·exact .inr (by trivial)
  ·rw[dH,dP] at h ⊢;rcases h with h|h
   ·exact .inr (.inl h)
   ·rcases I k h with q|q
    ·exact .inl q
    ·exact .inr (.inr q)
theorem F5:∀{es:List (Int×V)},(es.map (·.1)).Nodup->((gn i v es).map (·.1)).Nodup:=by
 intro p;induction p with
 |nil=>intro _;simp[gn]
 |cons a0 r I=>
  intro h;unfold gn;simp only[dH,rz] at h;split
  ·simpa using h
  ·simp only[dH,rz];refine⟨fun m=>?_,I h.2⟩;rcases SN a0.1 m with q|q
   ·trivial
   ·exact h.1 q
theorem Mq:∀{es:List (Int×V)},∀k,k∈(je i es).map (·.1)->k∈es.map (·.1):=by
 intro p;induction p with
 |nil=>intro k h;assumption
 |cons a0 r I=>
  intro k h;unfold je at h;split at h
  ·simp only[dH,dP];exact .inr h
  ·simp only[dH,dP] at h ⊢;rcases h with h|h
   ·exact .inl h
   ·exact .inr (I k h)
theorem Mr:∀{es:List (Int×V)},(es.map (·.1)).Nodup->((je i es).map (·.1)).Nodup:=by
 intro p;induction p with
 |nil=>intro _;trivial
 |cons a0 r I=>
  intro h;unfold je;simp only[dH,rz] at h;split
  ·exact h.2
  ·simp only[dH,rz];exact⟨fun m=>h.1 (Mq a0.1 m),I h.2⟩
theorem Dy{q:Array i0}:q.findIdx? p=q.toList.findIdx? p:=List.findIdx?_toArray ..
theorem xV{t:List O}(S:aE W t s)(k:W.ρ[j]?=some p)(q:aD t j=.dict es ep)(e:p.2=p.1)(n:s.heap.get? p.1=some (uA i ep))
  (d:f (uA i ep)=uA arr' a) (r:dL W c arr'.toList) (v:(c.map (·.1)).Nodup):PQ A W s (t.set j (.dict c a)) (fun Y Y Y=>True) () () { s with heap:=s.heap.update p.1 f,toks:=s.toks+1 }:=by
 have h:(s.heap.update p.1 f).get? p.1=some (uA arr' a):=by refine aU ?_ d;exact eE _ n (by refine aa ?_ d;rfl)
 obtain⟨g,T⟩:=S.upd (s':={ s with heap:=s.heap.update p.1 f,toks:=s.toks+1 }) (o:=.dict c a) k (by refine aa ?_ q;rfl)
  (fun b o l m=>(nA _ _ _ _ l).trans) ⟨_,h⟩ ⟨_,(congrArg _ e).trans h⟩ ⟨e,v,arr',h,r⟩ S.gens rfl
 exact .mk W g T trivial
theorem Kv(B:BO)(R:ar A W Wp Wr U Q s)(F:W.R o x)(H:W.R i y)(hz:W.R v z):
  At A Wr U W Wp Q s (fun Y Y Y=>True) (setItem x y z) (jB o i v):=At.of_upd R fun P e=>by
 refine iS e F fun j p f e=>ib e H fun i t e=>ax e fun d q e=>?_;obtain o:=R.st.objs j p f;rw[gr q] at o;refine lX o fun r l k n c=>?_;obtain a:=sa n c;obtain b:=Df hz c;refine eD (wB (wpAny_sequenceKey a.typeIs rfl ?_));refine wB (oQ a.typeIs Uw
  (km Uw a.typeIs entry_dict_setitem ?_ (args_dict_setitem _ _ _)))
 refine wB (VY a.typeIs ?_);refine(?_:al _ _ (dictSet p.1 _ z>>=_) _ _ s);refine eZ (?_:al _ _ _ (fun Y=>PQ A W s P (fun Y Y Y=>True) () ()) _ _) fun Y s' w=>ay ⟨.none,rfl,ay w⟩;refine eD (wB ((dv pw wd).pyHash (lN i t) ?_));refine eD (wB (VT (lN i t) n rfl (og c) ?_));refine aa ?_ Dy;cases D:k.toList.findIdx? (fun e=>(dv pw wd).is i e.key) with
 |some m=>rw[D] at b;obtain⟨⟨u,g⟩,k1⟩:=b;refine cD e (fun h e=>cy e ?_) fun h e=>absurd (by rw[g];rfl) h;refine wB (nv (wB (wpAny_updateDict n rfl (wpAny_point ?_))));exact xV R.st f (gr q) r n rfl (by refine aa ?_ Array.toList_modify;exact k1.1) (F5 l)
 |none=>
  rw[D] at b;obtain⟨g,k1⟩:=b;refine cD e (fun h e=>by rw[g] at h;trivial) fun h e=>bq e fun C e=>cy e ?_;have I:k.size<=l7:=by rw[<- oX,Dg c];exact bb (fh C) d7
  refine wB (nv (V9 (hz:=I) n rfl ?_));exact xV R.st f (gr q) r n rfl (by refine aa ?_ wy;exact k1) (F5 l)
theorem Kt(B:BO)(R:ar A W Wp Wr U z s)(u:W.R o x)(w:W.R i y):
  At A Wr U W Wp z s (fun Y Y Y=>True) (delItem x y) (CV o i):=At.of_upd R fun C e=>by
 refine iS e u fun j p k e=>ib e w fun i t e=>ax e fun d q e=>bq e fun f e=>cy e ?_;obtain o:=R.st.objs j p k;rw[gr q] at o;refine lX o fun r l a n c=>?_;obtain g:=sa n c;obtain b:=Df (t:=t) (v:=.none) rfl c;have I:a.size<=l7:=by rw[<- oX,Dg c];exact bb f.2 d7
 refine wpAny_delItem_slot g.typeIs rfl F.slot_dict_delitem (km F.slot_dict_delitem g.typeIs F.entry_dict_delitem ?_ (F.args_dict_delitem_2 _ _));refine wB (wB (VY g.typeIs ?_));refine ay (?_:al _ _ (Builtin.Dict.takeOut p.1 _>>=_) _ _ s);refine wB (eD (wB ((dv pw wd).pyHash (lN i t) ?_)));refine wB (VT (lN i t) n rfl (og c) ?_);refine aa ?_ Dy;cases D:a.toList.findIdx? (fun e=>(dv pw wd).is i e.key) with
 |none=>obtain b:=D▸b;rw[b.1] at f;exact absurd f.1 iZ
 |some m=>rw[D] at b;refine mX b fun Y Y k1 h=>?_;refine aq (wpAny_dictEntries (s:={ s with toks:=s.toks+1 }) n rfl ?_);refine aa ?_ (show a[m]?=some a.toList[m] by rw[<- fE,iC h]);refine aq (V9 (hz:=I) (s:={ s with toks:=s.toks+1 }) n rfl (ay (aq (k7 (ay ?_)))));refine⟨_,rfl,xV R.st k (gr q) r n (arr':=a.eraseIdxIfInBounds m) rfl ?_ (Mr l)⟩;unfold Io;rw[dif_pos (by simpa using h),Iq];exact k1
def xa(W:Wd)(v:V)(r:List V)(xs:List ae):Prop:=∀C:Prop,(∀x ys,xs=x::ys->W.R v x->W.Rs r ys->C)->C
theorem xa.mk{b:V}{R:List V}{xs:List ae}:∀x a,xs=x::a->w.R b x->w.Rs R a->xa w b R xs:=fun d z m x3 x4 C k=>k d z m x3 x4
theorem wn{W:Wd}:∀{vs:List V}{xs:List ae},W.Rs vs xs->ic vs=true->eG xs (gW vs):=by
 intro p;induction p with
 |nil=>intro xs h _;cases ej h;exact .nil
 |cons v r I=>intro xs h e;obtain⟨x,c,rfl,a,b⟩:=h;obtain⟨f,g⟩:=Bool.and_eq_true_iff.mp e;obtain⟨z,hz⟩:=Option.isSome_iff_exists.mp f;cases ty hz;obtain⟨t,rfl⟩:=a;exact .cons z t (I b g)
theorem U2{W':Wd}:∀{l:List (Str×Tok)},W'.Rs ((l.map (·.1)).map .str) (strValues l):=by
 intro p;induction p with
 |nil=>rfl
 |cons a0 r I=>exact VRs.cons (lu a0.1 a0.2) I
theorem UK(b:(y.length==0)=false)(I:x.length<=l7)(H:(IA x (AN x y 0 x.length (x.length+1)) y.length).length<=l7)
  (h:∀l k,l.map (·.1)=eS x y->Q (.ref s.heap.objs.size) { s with toks:=k,heap:=s.heap.push (bL (strValues l).toArray 0) }):al (MD) A (call (.builtin "str.split") [.str x t,.str y u]) Q aT s:=by
 cases a:(decide (x.length<y.length)||decide (IB x<IB y))
 ·cases o:(AN x y 0 x.length _).isEmpty
  ·refine pP F.slot_str_split (nh _ _ _) F.entry_str_split (F.args_str_split_2 _ _) (meets_str_split_sep x y t u a b o I H) (?_:tA Q aT _ { s with toks:=_,heap:=s.heap.push { cls:=.type "list",data:=.seq (strsFrom s.toks _).toArray } });refine aa ?_ (strsFrom_eq ..);exact h _ _ ((numbered_texts _ _).trans ((if_neg (ne_true_of_eq_false a)).trans (if_neg (ne_true_of_eq_false o))).symm)
  ·exact pP F.slot_str_split (nh _ _ _) F.entry_str_split (F.args_str_split_2 _ _) (meets_str_split_not_found x y t u a b o)
    (h [(x,t)] s.toks ((if_neg (ne_true_of_eq_false a)).trans (if_pos o)).symm)
 ·exact pP F.slot_str_split (nh _ _ _) F.entry_str_split (F.args_str_split_2 _ _) (meets_str_split_cannot_occur x y t u a)
   (h [(x,t)] s.toks (if_pos a).symm)
theorem eA(h:W.Rs (v::r) xs):xa W v r xs:=fV h fun x d a b c=>.mk x d a b c
inductive EB(A:a8)(W:Wd)(s:ak)(st:List O)(j:Nat)(p:ai×ai)(ws:List V)(f:cS->cS)(k:Tok):Prop
 |mk:∀W',aE W' (st.set j (.list ws)) { s with toks:=k,heap:=s.heap.update p.1 f }->av (aC A) W [] s W' { s with toks:=k,heap:=s.heap.update p.1 f }->W'.ρ=W.ρ->W'.F=W.F->EB A W s st j p ws f k
theorem va{r:List O}(S:aE W r s)(i:W.ρ[j]?=some p)(q:aD r j=.list vs)(d:p.2=p.1)
  (h:s.heap.get? p.1=some (bL items m)) (a:∃x,f (bL items m)=bL its x) (Q:W.Rs ws its.toList) (g:ws.length<=sizeMax):
  EB A W s r j p ws f k:=by
 refine oE a ?_;intro x a;have c:(s.heap.update p.1 f).get? p.1=some (bL its x):=by refine aU ?_ a;exact eE _ h (by refine aa ?_ a;rfl)
 obtain⟨e,T⟩:=S.upd (s':={ s with toks:=k,heap:=s.heap.update p.1 f }) (o:=.list ws) i (by refine aa ?_ q;rfl)
  (fun b o l n=>(nA _ _ _ _ l).trans) ⟨_,c⟩ ⟨_,(congrArg _ d).trans c⟩ ⟨d,g,its,x,c,Q⟩ S.gens rfl
 exact⟨W,e,T,rfl,rfl⟩
@[elab_as_elim] theorem vb{i:List O}{l:Type}{F:Nat×List V->Option l}{R:l}{n:ae->Prop}(S:aE W i s)(e:(sL i o).bind F=some R)(h:W.R o x)
  (k:∀j p vs items m,W.ρ[j]?=some p->aD i j=.list vs->p.2=p.1->vs.length<=sizeMax->s.heap.get? p.1=some (bL items m)->W.Rs vs items.toList->F (j,vs)=some R->n (.ref p.1)):n x:=
 ax e fun q d g=>iS d h fun j p b e=>ax e fun vs q e=>by obtain o:=S.objs j p b;obtain o:=(lY q)▸o;refine dy o.2.2 fun items m a=>?_;cases e;exact k j p vs items m b (lY q) o.1 o.2.1 a.1 a.2 g
theorem PB:∀(l:List Str),l.length<=100->l.all (fun s=>decide (s.length<=100))=true->(l.map (·.length)).sum<=100*l.length:=by
 intro p;induction p with
 |nil=>intro _ _;trivial
 |cons x r I=>intro h e;simp only[List.all_cons,kr,decide_eq_true_eq] at e;have:=I (by simp at h;exact z1 rfl h) e.2;exact aP [_,_,_] (.l af cj) (.l aj (.m 100 aA)) (.l (.a af aj) (.m 100 cI)) tU e.1 this
theorem Ua{st:List O}(S:aE W st s)(e:W.ρ[j]?=some p)(q:aD st j=o):st.set j o=st:=by
 apply List.ext_getElem?;intro a;by_cases z:j=a
 ·subst z;rw[de (S.lt e),<- q];delta aD;rw[eR,iC (S.lt e)];rfl
 ·rw[dO z]
theorem Sf{G:List O}(B:BO)(S:aE W G s)(u:W.R o x)(m:W.Rs F xs):
  Pr A W s RV (call (.builtin "set.add") (x::xs)) (iH .add o F G):=fun v Wv e=>by
 refine iS e u fun j p d e=>ax e fun vs q e=>mY e m fun w y C e=>ib e C fun i t e=>?_;obtain o:=S.objs j p d;rw[(sP q)] at o;refine cV o fun g c hz=>?_;obtain⟨o,n⟩:=hz;refine call_set_add (lN i t) rfl (n.2.setOf n.1 (wg c)) (dW (kA c) (by decide)) fun f z r=>dy r fun Q es hz=>dy hz fun ep H z1=>?_;have fin:∀ws:List Int,ws.length<=sizeMax->es.size=ws.length->(∀k,ws.contains k=(vs.contains k||decide _))->PQ A W s _ RV .none .none { s with heap:=f,toks:=s.toks+1 }:=fun ws I P R=>by
  obtain⟨l,T⟩:=S.upd (s':={ s with heap:=f,toks:=s.toks+1 }) (o:=.set ws) d (by refine aa ?_ (sP q);rfl)
   (fun b o D n2=>(z.2 b D).trans) ⟨_,z1.1⟩ ⟨_,(congrArg _ g).trans z1.1⟩ ⟨g,I,Q,z1.1,⟨z1.2.1,es,ep,H,z1.2.2.1,z1.2.2.2.1,(fun k=>by rw[<- z1.2.2.2.2.1 k];refine(?_:(ws.contains k=true)↔_);rw[R k]),P,z1.2.2.2.2.2.2.1⟩⟩ S.gens rfl
  exact .mk W l T rfl
 refine cD e (fun a e=>?_) fun a e=>bq e fun Wx e=>?_<;>cases e
 ·have h:=fin vs c (z1.2.2.2.2.2.2.2.trans (if_pos a)) fun k=>by
   by_cases e:k=i
   ·cases e;refine aa ?_ a;rfl
   ·simp only[decide_eq_false e,oY]
  rw[Ua S d (sP q)] at h;exact h
 ·exact fin _ (by refine aa ?_ cP;trivial) ((z1.2.2.2.2.2.2.2.trans (if_neg a)).trans (cP (bs:=[i])).symm) fun k=>by by_cases e:k=i<;>simp
theorem FP{G:List O}(B:BO)(S:aE W G s)(n:W.R o x)(c:W.Rs Wt xs):
  Pr A W s RV (call (.builtin b.id) (x::xs)) (iH b o Wt G):=fun v C e=>by
 cases b with
 |starts=>exact jA e n fun p t e=>mY e c fun w y a e=>jA e a fun q u e=>bg v C e (SC.startswith (.mk W S .refl rfl))
 |ends=>exact jA e n fun p t e=>mY e c fun w y a e=>jA e a fun q u e=>bg v C e (SC.endswith (.mk W S .refl rfl))
 |split=>refine jA e n fun p t e=>mY e c fun w y a e=>jA e a fun q u e=>bq e fun hok e=>?_;obtain⟨h,k4⟩:=Bool.and_eq_true_iff.mp hok;obtain⟨H,k3⟩:=Bool.and_eq_true_iff.mp h;refine bg v C e ?_;obtain⟨k1,k2⟩:=Bool.and_eq_true_iff.mp H;refine UK (by rw[eq_of_beq k1];rfl) (bb (of_decide_eq_true k2) d7) (bb (of_decide_eq_true k3) d7) fun l k g=>?_;rw[<- g] at k4 ⊢;exact ou S (U2 (W':=W)) (aa (of_decide_eq_true k4) (bl ..)) (bF _ rfl) (bG _) (co _ _)
 |join=>refine jA e n fun p t e=>mY e c fun w y a e=>kM S e a fun vs l items m k1 k2 k3 e=>ax e fun r hr e=>?_;refine bg v C e ?_;refine bq hr fun hok hr=>?_;cases hr;obtain⟨h,j4⟩:=Bool.and_eq_true_iff.mp hok;obtain⟨H,j3⟩:=Bool.and_eq_true_iff.mp h;obtain⟨j1,R⟩:=Bool.and_eq_true_iff.mp H;have R:=of_decide_eq_true R;have j4:=of_decide_eq_true j4;have a:=PB _ R j3;refine join_list ⟨_,k2,rfl,m,rfl⟩ (wn k3 j1) (by exact bb (ln a (JC R j4)) (bb (Nat.add_le_add_right (Bm 100 R) _) (by decide))) fun t' k=>.mk W ((S.toks (A:=A) k).1) ((S.toks k).2) (lu _ _)
 |append=>refine vb S e n fun j p vs items m z q I g h H e=>mY e c fun w y a e=>bq e fun Q e=>?_;refine bg v C e ?_;refine pP F.slot_list_append ⟨_,h,rfl⟩ F.entry_list_append (F.args_list_append_2 _ _) (list_append p.1 items m y (by refine aa ?_ (dQ H);exact bb g d7)) ⟨h,?_⟩;obtain⟨W',P,T,r1,r2⟩:=va (A:=A) (k:=s.toks) (ws:=vs++[w]) (its:=items.push y) (f:=hE fun x_1=>x_1.push y) S z q I h ⟨_,rfl⟩ (by refine aa ?_ wy;exact VRs.append H (VRs.one a)) (aa Q cP);exact .mk W' P T rfl
 |extend=>
  refine vb S e n fun j p vs items m z q I g h H e=>mY e c fun w y a e=>kM S e a fun ws l WM m2 k1 k2 k3 e=>bq e fun Q e=>?_;refine bg v C e ?_;have D:=dQ H;have e2:=dQ k3;refine pP F.slot_list_extend ⟨_,h,rfl⟩ F.entry_list_extend (F.args_list_extend_2 _ _) (AutoSeq1.list_extend_list_list_0 p.1 items m l WM m2 (by
   have:Iy (items.size+WM.size)=false:=by unfold Iy;refine aa (aa ?_ e2) D;exact decide_eq_false (Nat.not_lt.mpr (bb (fh Q) d7))
   refine aa (aa ?_ (Ir ..)) this;decide) (by refine aa ?_ D;exact bb g d7) (by refine aa (aa ?_ e2) D;exact bb (fh Q) (bb d7 (jP _)))) ⟨h,k2,?_⟩
  obtain⟨W',P,T,r1,r2⟩:=va (A:=A) (k:=s.toks) (ws:=vs++ws) (its:=items++WM) (f:=hE fun xs=>xs++WM) S z q I h ⟨_,rfl⟩ (by refine aa ?_ Ip;exact VRs.append H k3) (aa (fh Q) cP);exact .mk W' P T rfl
 |pop=>
  refine vb S e n fun j p vs items m z q I g h H e=>bq e fun hz e=>ax e fun u hg e=>?_;refine bg v C e ?_;cases List.isEmpty_iff.mp hz;cases ej c;have D:=dQ H;have hlt:vs[vs.length-1]?=some u:=List.getLast?_eq_getElem?.symm.trans hg;obtain⟨y,hy,hR⟩:=sH H hlt;refine pP F.slot_list_pop ⟨_,h,rfl⟩ F.entry_list_pop (F.args_list_pop_1 _) (MeetsSeq.list_pop_last p.1 items m y (by refine aa ?_ D;exact hy) (by refine aa ?_ D;exact bb g d7)) ⟨h,?_⟩;have WU:=(List.getElem?_eq_some_iff.mp hlt).1;have htl:(items.eraseIdxIfInBounds (items.size-1)).toList=items.toList.take (vs.length-1):=by unfold Io;rw[dif_pos (aa WU D),Iq,D];refine aa ?_ (List.eraseIdx_eq_take_drop_succ ..);have:items.toList.drop (vs.length-1+1)=[]:=List.drop_eq_nil_of_le (by refine aa ?_ oX;exact aa (oN _ 1) D);exact aa (aa rfl (dT ..)) this
  obtain⟨W',P,T,r1,r2⟩:=va (A:=A) (k:=s.toks) (ws:=vs.dropLast) (its:=items.eraseIdxIfInBounds (items.size-1)) (f:=hE fun xs=>xs.eraseIdxIfInBounds (items.size-1)) S z q I h ⟨_,rfl⟩ (by refine aa (aa ?_ I3) htl;exact VRs.take _ H) (aa (bb (w0 _ _) g) List.length_dropLast)
  refine .mk W' P T (?_);refine(?_:VR _ _ _ _);refine aa (aa ?_ r2) r1;exact hR
 |clear=>refine vb S e n fun j p vs items m z q I g h H e=>bq e fun hz e=>?_;refine bg v C e ?_;cases List.isEmpty_iff.mp hz;cases ej c;refine pP F.slot_list_clear ⟨_,h,rfl⟩ F.entry_list_clear (F.args_list_clear_1 _) (AutoSeq1.list_clear_list_0 p.1 items m (by refine aa ?_ (dQ H);exact bb g d7)) ⟨h,?_⟩;obtain⟨W',P,T,r1,r2⟩:=va (A:=A) (k:=s.toks) (ws:=[]) (its:=#[]) (f:=hE fun Y=>#[]) S z q I h ⟨_,rfl⟩ rfl (dB _);exact .mk W' P T rfl
 |get=>
  refine iS e n fun j p z e=>ax e fun d q e=>mY e c fun w y a e=>ib e a fun i t e=>?_;refine bg v C e ?_;have o:=S.objs j p z;rw[gr q] at o;obtain⟨I,Y,arr,o1,o2⟩:=o;have hm:=sa (p:=p) o1 o2;refine call_meetsIn F.slot_dict_get hm.typeIs F.entry_dict_get (F.args_dict_get_2 _ _) (meets_dict_get (dv pw wd) p.1 (lN i t) (vt B S z (by rw[gr q];rfl))) ⟨_,hm,.mk W ((S.toks (A:=A) _).1) ((S.toks _).2) (?_)⟩;cases hg:cg i d.1 with
  |none=>refine aa ?_ (CW o2 hg);exact nM
  |some u=>obtain⟨y,hy,hR⟩:=xT o2 hg;refine aa ?_ hy;exact hR
 |add=>exact Sf B S n c v C e
theorem O9{W:Wd}:∀{vs:List V}{xs:List ae},W.Rs vs xs->lO vs=true->IntsAre xs (jo vs):=by
 intro p;induction p with
 |nil=>intro xs h _;cases ej h;exact .nil
 |cons v r I=>intro xs h e;obtain⟨x,c,rfl,a,b⟩:=h;obtain⟨f,g⟩:=Bool.and_eq_true_iff.mp e;obtain⟨z,hz⟩:=Option.isSome_iff_exists.mp f;cases mc hz;obtain⟨t,rfl⟩:=a;exact .cons z t (I b g)
theorem Pa:∀{vs:List V},lO vs=true->(jo vs).length=vs.length:=by
 intro p;induction p with
 |nil=>intro _;rfl
 |cons v r I=>intro e;obtain⟨f,g⟩:=Bool.and_eq_true_iff.mp e;obtain⟨z,hz⟩:=Option.isSome_iff_exists.mp f;cases mc hz;exact congrArg w6 (I g)
theorem O8{W:Wd}:∀{xs:List ae}{u:List Int},IntsAre xs u->W.Rs (u.map .int) xs:=fun h=>by
 induction h with
 |nil=>rfl
 |cons k t r I=>exact VRs.cons (gI k t) I
theorem Sm{j:List O}(S:aE W j s)(p:W.R v x):dp A W s j RV (call (.builtin "len") [x]) (eI .len j v):=fun b e=>by
 refine ch e (fun e=>Ao S e p fun vs l items m k1 k2 k3 e=>?_) fun e=>ch e (fun e=>ax e fun xs h e=>?_) fun e=>ch e (fun e=>ax e fun xs h e=>?_) fun e=>kM S e p fun vs l items m k1 k2 k3 e=>?_
 ·obtain⟨g,a,o,rfl,f,hex,es,ep,t,hd,B,i,c,d⟩:W.R _ x:=Vy h▸p;exact pv S e fun Q q=>call_len_set (S.frozen _ _ f) hex hd d (by refine aa ?_ c;exact kX g) (q _ _ fun W'=>aa (gI _ _) c)
 ·obtain⟨g,a,o,rfl,f,hex,es,ep,t,hd,B,i,c,d⟩:W.R _ x:=HS h▸p;exact pv S e fun Q q=>call_len_set (S.frozen _ _ f) hex hd d (by refine aa ?_ c;exact kX g) (q _ _ fun W'=>aa (gI _ _) c)
 ·exact pv S e fun Q q=>PyProof.Rows.len_tuple ⟨_,k2,rfl,m,rfl⟩ (by refine aa ?_ (dQ k3);exact kX k1) (q _ _ fun W'=>aa (gI _ _) (dQ k3))
 ·exact pv S e fun Q q=>Calls.call_len_list ⟨_,k2,rfl,m,rfl⟩ (by refine aa ?_ (dQ k3);exact kX k1) (q _ _ fun W'=>aa (gI _ _) (dQ k3))
def AG(vs:List V)(i:Nat):Int:=((vs[i]?).bind vI).getD 0
theorem SE(f:Nat->Int):∀m,preSum f (m+1)=f 0+preSum (fun i=>f (i+1)) m:=by
 intro p;induction p with
 |zero=>exact(Int.zero_add _).trans (AX _).symm
 |succ m I=>exact(congrArg (·+f _) (I)).trans (wI ..)
theorem Va:∀{vs:List V}{a k:Int},qQ vs a=some k->k=a+preSum (AG vs) vs.length/\∀(i:Nat)(v:V),vs[i]?=some v->v=.int (AG vs i):=by
 intro p;induction p with
 |nil=>intro a k e;cases e;exact⟨(AX _).symm,fun i v=>am⟩
 |cons v r I=>
  intro a k b;exact ax b fun z hz e=>by
   cases mc hz;obtain⟨c,H⟩:=I e;refine⟨?_,fun i=>?_⟩
   ·simp only[iD,SE,<- wI];trivial
   ·cases i with
    |zero=>exact fun v h=>(aR h).symm
    |succ i=>exact H i
theorem Su(f:aW false n A)(S:aE W w s)(p:W.R v x):dp A W s w RV (call (.builtin "sum") [x]) (eI .sum w v):=fun b e=>by
 refine ax e fun vs h e=>ax e fun k t e=>cy e ?_;obtain⟨rfl,D⟩:=Va t;refine lR S (kb h) p fun l items m k1 k2 k3=>call_sum_walkAnyS (nu ⟨_,k2,rfl,m,rfl⟩ ?_);refine⟨s.heap.objs.size,_,_,_,_,_,_,AG vs,rfl,(Bw (by exact f.hand rfl) _ l (cQ (cG k2)) items).toS,⟨⟨_,bF _ rfl,rfl,rfl⟩,⟨_,co _ _ _ _ k2,rfl,m,rfl⟩⟩,fun b hb=>?_,fun i y q=>?_,fun s' t' a=>?_⟩
 ·refine aa ?_ (li ..);simp only[dP,A8,or_false] at hb;rcases hb with rfl|rfl
  ·exact mA _
  ·exact ph (cG k2)
 ·have j:=Array.getElem?_toList.trans q;have g:=by have:=(List.getElem?_eq_some_iff.mp j).1;rwa [VRs.length k3] at this
  obtain c:=iC g;refine aH (VRs.get k3 c) fun u r C=>?_;rw[D i _ c] at C;cases j.symm.trans r;trivial
 ·obtain⟨d,T⟩:=S.keeps (fun b o e=>a.heap b o (by simp;exact fun z=>jQ _ (z▸cG e)) (co _ _ _ _ e)) (a.gens.trans S.gens) a.os
  refine .mk W d T (?_);refine aa (aa ?_ (dQ k3)) (Int.zero_add ..);exact gI _ _
theorem D5(x:Int):∀l,(j6 x l).Perm (x::l):=by
 intro p;induction p with
 |nil=>rfl
 |cons y r I=>
  refine(?_:(if x<y then x::y::r else y::j6 x r).Perm _);split
  ·rfl
  ·exact((I).cons y).trans (.swap x y r)
theorem G5:∀l,(iw l).Perm l:=by
 intro p;induction p with
 |nil=>rfl
 |cons x r I=>exact(D5 x _).trans ((I).cons x)
theorem O6(x:Int):∀l:List Int,l.Pairwise (·<=·)->(j6 x l).Pairwise (·<=·):=by
 intro p;induction p with
 |nil=>intro _;simp[j6]
 |cons y r I=>
  intro h;unfold j6;refine oA (List.pairwise_cons.mp h) fun a H=>?_;split
  ·rename_i b;refine List.pairwise_cons.mpr ⟨fun z hz=>?_,h⟩;rcases List.mem_cons.mp hz with rfl|hz
   ·exact iA b
   ·exact nB (iA b) (a z hz)
  ·refine List.pairwise_cons.mpr ⟨fun z hz=>?_,I H⟩;rcases List.mem_cons.mp ((D5 x r).mem_iff.mp hz) with rfl|hz
   ·exact Int.not_lt.mp ‹_›
   ·exact a z hz
theorem UE:∀l,(iw l).Pairwise (·<=·):=by
 intro p;induction p with
 |nil=>exact .nil
 |cons x r I=>exact O6 x _ (I)
theorem UI{b:List Int}(l:a.Pairwise (·<=·))(hb:b.Pairwise (·<=·))(h:a.Perm b):a=b:=
 h.eq_of_pairwise (fun Y Y Y Y=>IT) l hb
theorem zo{h:bk}{b:ai}(hb:h.objs.size<=b):h.get? b=none:=by delta Heap.get?;refine aa ?_ (tJ hb);rfl
theorem G2(h:bk)(o:cS):(h.push o).objs.size=h.objs.size+1:=li ..
theorem Ur(h:bk)(a:ai)(f:cS->cS):(h.update a f).objs.size=h.objs.size:=Heap.size_update ..
theorem UG:(∀b o,h.get? b=some o->(sortedAll h vs out).get? b=some o)/\(∃m,(sortedAll h vs out).get? (h.objs.size+1)=some (bL out m))/\h.get? (h.objs.size+1)=none:=by
 delta sortedAll sortedHeap;refine⟨fun b o e=>?_,?_,zo (jP _)⟩
 ·rw[nA _ _ _ _ (cQ (ph (cG e)))];refine bX _ (bX _ ?_);refine aa ?_ (nA _ _ _ _ (cQ (ph (cG e))));refine bX _ ?_;rw[nA _ _ _ _ (cQ (cG e))];exact bX _ e
 ·have a:((((h.push (seqObj "list" #[] 0)).update h.objs.size (hE (·++vs.toArray))).push (seqObj "list" vs.toArray 0))).get? (h.objs.size+1)=some (seqObj "list" vs.toArray 0):=by have:h.objs.size+1=((h.push (seqObj "list" #[] 0)).update h.objs.size (hE (·++vs.toArray))).objs.size:=aa (aa rfl (G2 ..)) (Ur ..);refine aa ?_ this;exact bF _ rfl
  exact⟨_,eE _ (bX _ (bX _ (eE _ a rfl))) rfl⟩
theorem Ss{j:List O}(S:aE W j s)(p:W.R v x):dp A W s j RV (call (.builtin "sorted") [x]) (eI .sorted j v):=fun b e=>by refine kM S e p fun vs l items m k1 k2 k3 e=>bq e fun c e=>cy e ?_;obtain⟨n,y⟩:=Bool.and_eq_true_iff.mp c;obtain⟨i⟩:=items;obtain y:=of_decide_eq_true y;obtain f:=dQ k3;refine sorted_ints ⟨_,k2,rfl,m,rfl⟩ (O9 k3 n) (by simp at f;exact Bj (f▸y) (by decide)) fun out d a H C=>?_;obtain rfl:d=iw _:=UI C (UE _) (H.trans (G5 _).symm);obtain⟨I,⟨g,P⟩,R⟩:=UG (h:=s.heap);exact ou S (O8 a) (by refine aa (aa (aa ?_ (Pa n)) ((G5 _).length_eq)) (bl ..);exact k1) P R I
theorem Sx{c:List O}(S:aE W c s)(a:W.R v x):dp A W s c RV (call (.type "type") [x]) (eI .type c v):=fun b e=>by exact jA e a fun p t e=>pv S e fun Q q=>call_type_of (nh _ _ _) rfl (q _ _ fun W'=>JT _)
theorem Sw{a:List O}(S:aE W a s)(p:W.R v x):dp A W s a RV (call (.type "tuple") [x]) (eI .tuple a v):=fun b e=>by
 refine kM S e p fun vs l items m k1 k2 k3 e=>cy e (call_tuple_list ⟨_,k2,rfl,m,rfl⟩ (fun d j=>?_) (by refine aa ?_ (dQ k3);exact bb k1 d7));have F:s.heap.get? d.objs.size=none:=by
  cases q:s.heap.get? d.objs.size with
  |none=>rfl
  |some o=>exact absurd (cG (j _ _ q)) (jQ _)
 exact vm S k3 k1 (bF _ rfl) F fun b o e=>bX _ (j _ _ e)
theorem PO:builtinKind "issubclass.nested" = none:=by rfl
theorem RZ:plainId "issubclass.nested" = true:=by decide +kernel
theorem Km(a b c:ae):mF "issubclass.nested" ⟨[a,b,c],[]⟩:=by kernel_rfl
theorem U8:iP (.type "str") (.type "str")=pure true:=by kernel_rfl
theorem Ph{E:ae->ak->Prop}(k:Int)(m:Tok)(h:Q (.bool true) s):al (bO prog w) A (call (.builtin "issubclass.nested") [.type "str",.type "str",.int k m]) Q E s:=by
 refine Calls.call_function_entry PO RZ F.entry_issubclass_nested (Km _ _ _) ?_
 repeat (any_goals (first|assumption|(rw[f1])|(rw[U8])|wp_step))
 exact⟨_,rfl,h⟩
theorem Pi{E:ae->ak->Prop} (a:s.heap.get? u=some { cls:=.type "tuple",data:=.seq #[.type "str",c] n })
  (r:R (.done (.ret (.bool true))) s):al (bO prog w) A (Builtin.«issubclass.nested» ⟨[.type "str",.ref u,.int 0 m],[]⟩) R E s:=by
 obtain⟨h,g,d,t,os⟩:=s;have b:(⟨h,g,d,t,os⟩:ak).TypeIs (.ref u) "tuple" := ⟨_,a,rfl⟩;obtain f1:=F.isi_sub_tuple;obtain⟨q,H⟩:∃q:Array ae,q=#[.type "str",c]:=⟨_,rfl⟩;obtain a:=H.symm▸a
 repeat (any_goals (first|assumption|wp_step))
 refine wpAny_arrayLoop ?_;subst H;refine aa ?_ (nG ..);refine aq (aq (Ph _ _ ?_))
 repeat (any_goals (first|assumption|wp_step))
theorem Sj{G:List O}(B:aW false n A)(S:aE W G s)(c:W.R u x)(d:W.R v y):dp A W s G RV (call b.fn [x,y]) (nS b u v):=fun r e=>by
 cases b with
 |isinst=>refine jA e c fun a t e=>Ci e d fun w e=>bq e fun h e=>?_;cases eq_of_beq h;exact pv S e fun Q q=>call_isinstance (isinstance_false_str rfl rfl F.sub_str_bytes) (q _ _ fun W'=>rH _)
 |issub=>
  refine Ci e c fun w e=>Ao S e d fun vs l items m k1 k2 k3 e=>ax e fun p hp e=>ax e fun a ha e=>ax e fun b hb e=>bq e fun h e=>?_;obtain⟨I,P⟩:=Bool.and_eq_true_iff.mp h;cases eq_of_beq I;obtain⟨P,C⟩:=Bool.and_eq_true_iff.mp P;cases eq_of_beq P;cases eq_of_beq C;obtain⟨its⟩:=items;refine pv S e fun Q q=>call_issubclass (S:=fun Y R s'=>s'=s/\R (.ok (.ret _)) s) (fun Y Y Y Y s' hs=>?_) ⟨rfl,q _ _ fun W'=>rH _⟩;obtain rfl:its=[.type "str",.type "bytes"]:=se hp (fun k=>by obtain⟨x1,r1,rfl,z1,x2,r2,rfl,D,rfl⟩:=k;rw[ki ha] at z1;rw[ki hb] at D;subst z1;subst D;rfl) k3
  obtain⟨rfl,H⟩:=hs;exact issubclass_outer (Pi k2 H)
 |max=>refine ib e c fun i t e=>ib e d fun j t' e=>cy e (max_two_ints (B.hand rfl) fun g z o=>?_);obtain⟨f,T⟩:=S.keeps (s':={ s with heap:=g,toks:=z }) o S.gens rfl;refine .mk W f T (?_);split<;>exact gI _ _
 |min=>refine ib e c fun i t e=>ib e d fun j t' e=>cy e (min_two_ints (B.hand rfl) fun g z o=>?_);obtain⟨f,T⟩:=S.keeps (s':={ s with heap:=g,toks:=z }) o S.gens rfl;refine .mk W f T (?_);split<;>exact gI _ _
end
theorem oU{M:eF}{E:ae->ak->Prop}{Q:j->ak->Prop}(e:t=t')(h:al M A t' Q E s):al M A t Q E s:=e▸h
section
variable {A:a8}{W:Wd}{s:ak}{st:List O}{hd:Bool}{n:Nat}{Wr:List aL}{U:bj}{Wp:List ai}{σ:S}
theorem yy{j:Type}{c:Prop}[Decidable c]{a b:j}{g:Prop}(e:(if c then some a else none)=some b)(k:c->a=b->g):g:=by
 by_cases h:c
 ·rw[if_pos h] at e;exact k h (aR e)
 ·rw[if_neg h] at e;exact am e
end
noncomputable def dz(o:Option FD):mj:=(o.getD ⟨default,[],default,[],true,true⟩).params
noncomputable def fP(f:gh)(p:mj)(d:ae):gh:={ f with params:=p,defaults:=d }
theorem NT(h:f.params=p)(k:f.defaults=d):f=fP f p d:=by subst h;subst k;rfl
inductive ix(fd:FD):Prop
 |plain (v:fd.params.vararg.isSome=false) (d:fd.dflt=[]) (h:∀(f:gh)(xs:List ae),xs.length=(cU fd.params).length->jb (fP f fd.params .none) ⟨xs,[]⟩=pure ((cU fd.params).zip xs))
 |star (v:fd.params.vararg.isSome=true) (d:fd.dflt=[]) (h:∀(f:gh)(xs:List ae),(cU fd.params).length<=xs.length->jb (fP f fd.params .none) ⟨xs,[]⟩=(do pure ((cU fd.params).zip xs++[(qL fd.params,<- sN (xs.drop (cU fd.params).length))])))
 |dflt (v:fd.params.vararg.isSome=false) (d:fd.dflt=[.none]) (n:(cU fd.params).length=2) (h:∀(f:gh)(x:ae)(d:ai),∃K,jb (fP f fd.params (.ref d)) ⟨[x],[]⟩=seqItems? (.ref d)>>=K/\K (some #[.none])=pure ((cU fd.params).zip [x,.none]))
inductive oW:List (ai×(Unit->Option FD))->Prop
 |nil:oW []
 |cons {a g l} (h:∀fd,g ()=some fd->ix fd) (r:oW l):oW ((a,g)::l)
theorem oW.at{l}(h:oW l):∀{a g},l.lookup a=some g->∀c,g ()=some c->ix c:=by
 induction h with
 |nil=>exact by exact am
 |@cons b _ _ h r I=>
  intro a g e;rw[gA] at e;cases q:a==b with
  |true=>rw[q] at e;cases e;exact h
  |false=>rw[q] at e;exact I e
@[elab_as_elim] theorem oh{j:Type}{P:List j->Prop}(xs:List j)(e:xs.length=0)(h:P []):P xs:=by
 cases xs with
 |nil=>exact h
 |cons x xs=>trivial
@[elab_as_elim] theorem fq{j:Type}{P:List j->Prop}(xs:List j)(e:xs.length=n+1)(h:∀x xs,xs.length=n->P (x::xs)):P xs:=by
 cases xs with
 |nil=>trivial
 |cons x xs=>exact h x xs (rA e)
@[elab_as_elim] theorem yV{j:Type}{P:List j->Prop}(xs:List j)(e:n+1<=xs.length)(h:∀x xs,n<=xs.length->P (x::xs)):P xs:=by
 cases xs with
 |nil=>exact absurd e (JD _)
 |cons x xs=>exact h x xs (Nat.le_of_succ_le_succ e)
theorem hY(c:(o.all fun q=>q.dflt.isEmpty)=true)(v:(o.any fun q=>q.params.vararg.isSome)=false)(n:(cU (dz o)).length=1)(h:∀(f:gh)(x:ae),jb (fP f (dz o) .none) ⟨[x],[]⟩=pure ((cU (dz o)).zip [x]))(q:FD)(e:o=some q):ix q:=by subst e;exact .plain v (List.isEmpty_iff.mp c) fun f xs a=>fq xs (a.trans n) fun x xs e=>oh xs e (h f x)
theorem pJ(c:(o.all fun q=>q.dflt.isEmpty)=true)(v:(o.any fun q=>q.params.vararg.isSome)=false)(n:(cU (dz o)).length=2)(h:∀(f:gh)(x y:ae),jb (fP f (dz o) .none) ⟨[x,y],[]⟩=pure ((cU (dz o)).zip [x,y]))(q:FD)(e:o=some q):ix q:=by subst e;exact .plain v (List.isEmpty_iff.mp c) fun f xs a=>fq xs (a.trans n) fun x xs e=>fq xs e fun y xs e=>oh xs e (h f x y)
theorem KZ(c:(o.all fun q=>q.dflt.isEmpty)=true)(v:(o.any fun q=>q.params.vararg.isSome)=false)(n:(cU (dz o)).length=3)(h:∀(f:gh)(x y z:ae),jb (fP f (dz o) .none) ⟨[x,y,z],[]⟩=pure ((cU (dz o)).zip [x,y,z]))(q:FD)(e:o=some q):ix q:=by subst e;exact .plain v (List.isEmpty_iff.mp c) fun f xs a=>fq xs (a.trans n) fun x xs e=>fq xs e fun y xs e=>fq xs e fun z xs e=>oh xs e (h f x y z)
theorem K2(c:(o.all fun q=>q.dflt.isEmpty)=true)(v:(o.any fun q=>q.params.vararg.isSome)=false)(n:(cU (dz o)).length=4)(h:∀(f:gh)(x y z w:ae),jb (fP f (dz o) .none) ⟨[x,y,z,w],[]⟩=pure ((cU (dz o)).zip [x,y,z,w]))(q:FD)(e:o=some q):ix q:=by subst e;exact .plain v (List.isEmpty_iff.mp c) fun f xs a=>fq xs (a.trans n) fun x xs e=>fq xs e fun y xs e=>fq xs e fun z xs e=>fq xs e fun w xs e=>oh xs e (h f x y z w)
theorem Wb{p:List Str}{A:ae}{r}(e:p.length=1):p.zip (A::r)=p.zip [A]:=fq p e fun Y p e=>oh p e rfl
theorem Wc{p:List Str}{B:ae}{r}(e:p.length=2):p.zip (a::B::r)=p.zip [a,B]:=fq p e fun Y p e=>fq p e fun Y p e=>oh p e rfl
theorem Ce(c:(o.all fun q=>q.dflt.isEmpty)=true)(v:(o.any fun q=>q.params.vararg.isSome)=true)(n:(cU (dz o)).length=1)(h:∀(f:gh)(x:ae),jb (fP f (dz o) .none) ⟨[x],[]⟩=(do pure ((cU (dz o)).zip [x]++[(qL (dz o),<- sN [])])))
  (k:∀(f:gh)(x y:ae)(r),jb (fP f (dz o) .none) ⟨x::y::r,[]⟩=(do pure ((cU (dz o)).zip [x]++[(qL (dz o),<- sN (y::r))]))) (q:FD) (e:o=some q):ix q:=by
 subst e;have n:(cU q.params).length=1:=n;refine .star v (List.isEmpty_iff.mp c) fun f xs a=>?_;rw[n] at a ⊢;refine yV xs a fun x r Y=>?_;clear Y;cases r with
 |nil=>exact h f x
 |cons y r=>exact aa (k f x y r) (Wb n)
theorem K4(c:(o.all fun q=>q.dflt.isEmpty)=true)(v:(o.any fun q=>q.params.vararg.isSome)=true)(n:(cU (dz o)).length=2)(h:∀(f:gh)(x a:ae),jb (fP f (dz o) .none) ⟨[x,a],[]⟩=(do pure ((cU (dz o)).zip [x,a]++[(qL (dz o),<- sN [])])))
  (k:∀(f:gh)(x a y:ae)(r),jb (fP f (dz o) .none) ⟨x::a::y::r,[]⟩=(do pure ((cU (dz o)).zip [x,a]++[(qL (dz o),<- sN (y::r))]))) (q:FD) (e:o=some q):ix q:=by
 subst e;have n:(cU q.params).length=2:=n;refine .star v (List.isEmpty_iff.mp c) fun f xs b=>?_;rw[n] at b ⊢;refine yV xs b fun x r e=>yV r e fun a r Y=>?_;clear Y;cases r with
 |nil=>exact h f x a
 |cons y r=>exact aa (k f x a y r) (Wc n)
theorem KB(v:(o.any fun q=>q.params.vararg.isSome)=false)(n:(cU (dz o)).length=2)(d:∀q,o=some q->q.dflt=[.none])(h:∀(f:gh)(x:ae)(d:ai),∃K,jb (fP f (dz o) (.ref d)) ⟨[x],[]⟩=seqItems? (.ref d)>>=K/\K (some #[.none])=pure ((cU (dz o)).zip [x,.none]))(q:FD)(e:o=some q):ix q:=by subst e;exact .dflt v (d _ rfl) n h
theorem Kg:oW uL:=
 .cons (hY rfl rfl rfl fun f x=>by kernel_rfl!) <|
 .cons (pJ rfl rfl rfl fun f x y=>by kernel_rfl!) <|
 .cons (pJ rfl (by kernel_rfl!) (by kernel_rfl!) fun f x y=>by kernel_rfl!) <|
 .cons (KB (by kernel_rfl!) (by kernel_rfl!) (fun q e=>by cases a:kF "TopologicalSorter" "__init__"<;>rw[a] at e<;>cases e;rfl) fun f x d=>⟨_,rfl,by kernel_rfl!⟩) <|
 .cons (pJ (by kernel_rfl!) (by kernel_rfl!) (by kernel_rfl!) fun f x y=>by kernel_rfl!) <|
 .cons (K4 (by kernel_rfl!) (by kernel_rfl!) (by kernel_rfl!) (fun f x y=>by kernel_rfl!) fun f x y z r=>by kernel_rfl!) <|
 .cons (hY (by kernel_rfl!) (by kernel_rfl!) (by kernel_rfl!) fun f x=>by kernel_rfl!) <|
 .cons (hY (by kernel_rfl!) (by kernel_rfl!) (by kernel_rfl!) fun f x=>by kernel_rfl!) <|
 .cons (Ce (by kernel_rfl!) (by kernel_rfl!) (by kernel_rfl!) (fun f x=>by kernel_rfl!) fun f x y r=>by kernel_rfl!) <|
 .cons (hY (by kernel_rfl!) (by kernel_rfl!) (by kernel_rfl!) fun f x=>by kernel_rfl!) <|
 .cons (hY (by kernel_rfl!) (by kernel_rfl!) (by kernel_rfl!) fun f x=>by kernel_rfl!) <|
 .cons (hY (by kernel_rfl!) (by kernel_rfl!) (by kernel_rfl!) fun f x=>by kernel_rfl!) <|
 .cons (Ce (by kernel_rfl!) (by kernel_rfl!) (by kernel_rfl!) (fun f x=>by kernel_rfl!) fun f x y r=>by kernel_rfl!) <|
 .cons (hY (by kernel_rfl!) (by kernel_rfl!) (by kernel_rfl!) fun f x=>by kernel_rfl!) <|
 .cons (hY (by kernel_rfl!) (by kernel_rfl!) (by kernel_rfl!) fun f x=>by kernel_rfl!) <|
 .cons (hY (by kernel_rfl!) (by kernel_rfl!) (by kernel_rfl!) fun f x=>by kernel_rfl!) <|
 .cons (hY (by kernel_rfl!) (by kernel_rfl!) (by kernel_rfl!) fun f x=>by kernel_rfl!) <|
 .cons (KZ (by kernel_rfl!) (by kernel_rfl!) (by kernel_rfl!) fun f x y z=>by kernel_rfl!) <|
 .cons (hY (by kernel_rfl!) (by kernel_rfl!) (by kernel_rfl!) fun f x=>by kernel_rfl!) <|
 .cons (hY (by kernel_rfl!) (by kernel_rfl!) (by kernel_rfl!) fun f x=>by kernel_rfl!) <|
 .cons (pJ (by kernel_rfl!) (by kernel_rfl!) (by kernel_rfl!) fun f x y=>by kernel_rfl!) <|
 .cons (hY (by kernel_rfl!) (by kernel_rfl!) (by kernel_rfl!) fun f x=>by kernel_rfl!) <|
 .cons (pJ (by kernel_rfl!) (by kernel_rfl!) (by kernel_rfl!) fun f x y=>by kernel_rfl!) <|
 .cons (pJ (by kernel_rfl!) (by kernel_rfl!) (by kernel_rfl!) fun f x y=>by kernel_rfl!) <|
 .cons (K2 (by kernel_rfl!) (by kernel_rfl!) (by kernel_rfl!) fun f x y z w=>by kernel_rfl!) <|
 .cons (hY (by kernel_rfl!) (by kernel_rfl!) (by kernel_rfl!) fun f x=>by kernel_rfl!) .nil
theorem KC(h:kI a=some q):ix q:=aH (Option.bind_eq_some_iff.mp h) fun g b=>Kg.at b q
structure CI(h0:bk)(Xd:List Str)(cs:List (Str×ai))(h:bk):Prop where
 keep:∀b o,h0.get? b=some o->h.get? b=some o
 hav:∀n∈Xd,∃c,cs.lookup n=some c
 each:∀n c,cs.lookup n=some c->h.get? c=some (lC none)/\h0.get? c=none
 inj:∀n n' c,cs.lookup n=some c->cs.lookup n'=some c->n=n'
theorem CI.push(C:CI F d cs h)(n:Str):CI F (n::d) ((n,h.objs.size)::cs) (h.push (lC none)):=by
 have l:∀m,((n,h.objs.size)::cs).lookup m=if m=n then some h.objs.size else cs.lookup m:=fun m=>by
  refine aa ?_ gA;by_cases e:m=n
  ·subst e;simp
  ·exact aa (aa rfl (beq_eq_false_iff_ne.mpr e)) (if_neg e)
 have i:∀m c,cs.lookup m=some c->c≠h.objs.size:=fun m c e z=>jQ _ (z▸cG (C.each m c e).1);have f:F.get? h.objs.size=none:=by
  cases q:F.get? h.objs.size with
  |none=>rfl
  |some o=>exact absurd (cG (C.keep _ _ q)) (jQ _)
 refine⟨fun b o e=>bX _ (C.keep b o e),fun m a=>?_,fun m c e=>?_,fun m x c e A=>?_⟩
 ·refine aa ?_ (l ..);by_cases z:m=n
  ·exact⟨_,if_pos z⟩
  ·refine aa ?_ (if_neg z);refine(List.mem_cons.mp a).elim (fun rfl=>?_) fun a=>?_
   ·trivial
   ·exact C.hav m a
 ·replace e:=(l ..)▸e;by_cases z:m=n
  ·replace e:=(if_pos z)▸e;cases e;exact⟨bF _ rfl,f⟩
  ·replace e:=(if_neg z)▸e;exact⟨bX _ (C.each m c e).1,(C.each m c e).2⟩
 ·rw[l] at e A;by_cases z:m=n<;>by_cases v:x=n
  ·exact aa (aa rfl v) z
  ·replace e:=(if_pos z)▸e;replace A:=(if_neg v)▸A;cases e;exact absurd rfl (i _ _ A)
  ·replace A:=(if_pos v)▸A;replace e:=(if_neg z)▸e;cases A;exact absurd rfl (i _ _ e)
  ·replace e:=(if_neg z)▸e;replace A:=(if_neg v)▸A;exact C.inj _ _ _ e A
theorem LL{M:eF}{E:ae->ak->Prop}{F:bk}{Q:List (Str×ai)->ak->Prop}:∀(l:List (Str×gC))(d:List Str)(cs:List (Str×ai))(s:ak),CI F d cs s.heap->
  (∀D c f,CI F D c f->(∀n∈d,n∈D)->(∀n,(n,g9)∈l->n∈D)->Q c { s with heap:=f })->
  al M A (forIn l cs fun(x:Str×gC) cells=>match x with
   |(name,kind)=>if(kind==g9)=true then do
     let a<-alloc { cls:=.type "cell",data:=.cell none }
     pure (mr ((name,a)::cells))
    else pure (mr cells)) Q E s:=by
 intro p;induction p with
 |nil=>intro d cs s C h;exact ay (h d cs s.heap C (fun Y h=>h) fun Y h=>by cases h)
 |cons a0 r I=>
  obtain⟨n,k⟩:=a0;intro d cs s C h;refine aa ?_ (nG ..);dsimp only;by_cases e:(k==g9)=true
  ·refine aa ?_ (if_pos e);refine I _ _ _ (C.push n) fun D c f i g j=>h D c f i (fun a b=>g a (by simp[b])) fun a b=>?_;rcases List.mem_cons.mp b with q|q
   ·clear h e b;cases q;exact g n (.head _)
   ·exact j a q
  ·refine aa ?_ (if_neg e);refine I d _ _ C fun D c f i g j=>h D c f i g fun a b=>?_;rcases List.mem_cons.mp b with q|q
   ·clear h b;cases q;trivial
   ·exact j a q
theorem Dw{n:Str}:∀{l:List (Str×gC)}{j:Nat},cv n l j=some (i,k)->l.lookup n=some k:=by
 intro p;induction p with
 |nil=>intro _ h;exact am h
 |cons a0 r I=>
  obtain⟨m,q⟩:=a0;intro j h;unfold cv at h;refine aa ?_ gA;by_cases e:(m==n)=true
  ·rw[if_pos e] at h;cases h;rw[show(n==m)=true by simpa using(eq_of_beq e).symm]
  ·rw[if_neg e] at h;have:(n==m)=false:=beq_eq_false_iff_ne.mpr fun z=>e (by clear e;subst z;simp);refine aa ?_ this;exact I h
def kt(W:Wd):List (Str×V)->List (Str×ae)->Prop
 |[],bs=>bs=[]
 |(n,v)::r,bs=>∃x t,bs=(n,x)::t/\W.R v x/\kt W r t
theorem UU{u:aL}{z:List O}:∀(vs:List (Str×V))(bs:List (Str×ae))(fr fr':List (Option V))(W:Wd)(s:ak),kt W vs bs->pH u vs fr=some fr'->ar A W w [u] U ⟨[fr],z⟩ s->
  al (MD) A (forIn bs PUnit.unit fun(x:Str×ae) _=>match x with|(name,v)=>do wk U name v;pure (mr PUnit.unit)) (fun Y s'=>∃W',ar A W' w [u] U ⟨[fr'],z⟩ s'/\av (aC A) W w s W' s') aT s:=by
 intro m;induction m with
 |nil=>intro bs fr fr' W s h e R;subst h;cases e;exact ay ⟨W,R,.refl⟩
 |cons a0 r I=>
  intro bs fr fr' W s h e R;refine oM bs h ?_;intro x t l Q;have e:(fo a0.1 [u]).bind (fun i=>pH u r (fr.set i (some a0.2)))=some fr':=e;cases q:fo a0.1 [u] with
  |none=>obtain e:=q▸e;exact am e
  |some i=>
   obtain e:=q▸e;refine aa ?_ (nG ..);refine wB (eZ (xt R q l () ⟨[fr.set i _],z⟩ rfl) fun Y s1 j=>?_);refine j _ fun c d T Y=>ay ?_;have k:kt c r t:=by
    have:∀(r:List _)(t:List _),kt W r t->kt c r t:=by
     intro r;induction r with
     |nil=>intro t h;exact h
     |cons p r I=>
      intro t h;refine fV h ?_;try clear h;intro x t n a b;subst n
      exact⟨x,t,rfl,T.R a,I t b⟩
    exact this r t Q
   exact wN (I t _ fr' c s1 k e d) fun Y o H=>aH H fun g f y=>⟨g,f,T.trans y⟩
theorem ME{st:List O}(hK:fY A W s.heap){code:ae}(S:aE W st s)(hk:sc.kind=.function)(Xb:∀p∈sc.names,p.2≠gD)(Xe:(sc.names.map (·.1)).Nodup)
    (hb':kt W vs bs) (e:pH sc vs (jN sc.names.length none)=some fr):
    al (MD) A (newFunctionEnv sc 3 [] bs qual (some a) code none 0) (fun U s'=>∃W' Wp,ar A W' Wp [sc] U ⟨[fr],st⟩ s'/\av (aC A) W [] s W' s'/\(∀b∈Wp,s.heap.get? b=none)/\U.frame=some U.locals) aT s:=by
  refine wB (H2 ?_);have t:(s.heap.push { cls:=.type "frame",data:=.dict #[] }).get? s.heap.objs.size=some { cls:=.type "frame",data:=.dict #[] }:=bF _ rfl;refine aq (LL sc.names [] [] _ ⟨fun Y Y e=>e,(fun n h=>by trivial),(fun n c h=>by trivial),(fun n D c h=>by trivial)⟩ fun Xd cs j C m1 m2=>?_);dsimp only;have y:∀i:Nat,(jN sc.names.length (none:Option V)).getD i none=none:=fun i=>by rw[eR,Jc];split<;>rfl
  have v:dn W sc { scope:=sc,locals:=s.heap.objs.size,globals:=3,cells:=cs,qual:=qual,func:=some a,code:=code,frame:=some s.heap.objs.size,builtins:=0 } (jN sc.names.length none) j:=
    { kind:=hk
      names:=fun n i k q=>.inl (Dw q)
      len:=by simp
      nd:=Xe
      loc:=⟨fun Y=>none,⟨_,#[],0,C.keep _ _ t,rfl,(fun e he=>absurd he (by simp)),fun Y=>rfl⟩,fun n i q=>by refine aa ?_ (y ..);trivial⟩
      cel:=fun n i q=>by obtain⟨c,w⟩:=C.hav n (m2 n (nZ q));exact⟨c,none,w,(C.each n c w).1,by refine aa ?_ (y ..);trivial⟩
      inj:=fun n D i i' c Y Y r H=>C.inj n D c r H
      nloc:=fun n i c Y r z=>by have g:(s.heap.push { cls:=.type "frame",data:=.dict #[] }).get? c=none:=(C.each n c r).2;obtain g:=z▸g;obtain g:=t▸g;trivial
      glob:=rfl
      blt:=rfl }
  generalize l:({ scope:=sc,locals:=s.heap.objs.size,globals:=3,cells:=cs,qual:=qual,func:=some a,code:=code,frame:=some s.heap.objs.size,builtins:=0 }:bj)=U at v;have m:∀b∈du sc U,s.heap.get? b=none/\∃o,j.get? b=some o:=fun b x=>by
    rcases List.mem_cons.mp x with rfl|x
    · refine aa ?_ (aU rfl l:U.locals=s.heap.objs.size);exact⟨bG _,_,C.keep _ _ t⟩
    · refine aH (List.mem_filterMap.mp x) fun p u q=>?_;split at q
      · refine oA (C.each _ _ ((aU rfl l:U.cells=cs)▸q)) fun g1 P=>⟨?_,_,g1⟩;cases z:s.heap.get? b with
        |none=>rfl
        |some o=>obtain P:=(co _ _ _ _ z)▸P;assumption
      · exact am q
  obtain⟨Q,T⟩:=S.keeps (fr:=aC A) (s':={ s with heap:=j }) (fun b o e=>C.keep _ _ (co _ _ _ _ e)) S.gens rfl;have I:ar A W _ [sc] U ⟨[jN sc.names.length none],st⟩ { s with heap:=j }:=
    { st:=Q
      act:=.fn v fun n i q=>absurd rfl (Xb _ (nZ q))
      actF:=fun b x=>by
        cases z:W.F b with
        |none=>rfl
        |some o=>have:=S.frozen _ _ z;exact am (((m b x).1)▸this)
      actO:=fun b x B=>by
        refine aH B fun p u z=>?_;refine ft (S.there p u) fun F o2 a2=>oE F fun o1 a1=>?_;have:=(m b x).1;clear x B u F;rcases z with rfl|rfl
        · obtain this:=a1▸this;contradiction
        · obtain this:=a2▸this;contradiction
      actS:=fun b x=>(m b x).2
      stk:=hK.lift T }
  refine aq (bM (UU vs bs _ fr W _ hb' e I) (fun Y s2 H=>?_) fun Y Y f=>f);refine aH H fun W2 R T2=>?_;refine ay ⟨W2,_,l▸R,?_,fun b x=>(m b x).1,by exact aU rfl l⟩;have WE:=T.mono (acts':=du sc U) (by simp);have d:=WE.trans T2;exact⟨d.F,d.ρ,d.newF,d.newρ,fun b o z1 z2 Y=>d.pres b o z1 z2 (fun z=>by obtain z1:=((m b z).1)▸z1;exact am z1),d.alive,d.os⟩
structure fJ(fr:List ai)(W:Wd)(st:List O)(s:ak)(W':Wd)(Wv:List O):Prop where
 S:aE W' Wv s
 T:av fr W [] s W' s
 ρ:W'.ρ=W.ρ
 live:∀j,(aD Wv j).live=true->(aD st j).live=true
 newF:∀a o,W'.F a=some o->W.F a=some o∨∃(j:Nat)(q:ai×ai),W.ρ[j]?=some q/\(aD st j).live=true/\(a=q.1∨a=q.2)
theorem fJ.refl{st:List O}(S:aE W st s):fJ fr W st s W st:=⟨S,.refl,rfl,fun Y h=>h,fun Y Y h=>.inl h⟩
theorem fJ.trans{g:List O}(a:fJ fr W g s W' d)(b:fJ fr W' d s w f):fJ fr W g s w f:=by
 refine⟨b.S,a.T.trans b.T,b.ρ.trans a.ρ,fun j h=>a.live j (b.live j h),fun x o e=>?_⟩;rcases b.newF x o e with q|⟨j,q,c,H,C⟩
 ·exact a.newF x o q
 ·exact .inr ⟨j,q,a.ρ▸c,a.live j H,C⟩
theorem pZ{s:List O}(h:(aD (s.set k .dead) j).live=true):(aD s j).live=true/\j≠k:=by
 by_cases e:j=k
 ·subst e;rcases lp j s.length with l|l
  ·rw[eV l] at h;trivial
  ·delta aD at h;rw[eR,fX (by simpa using l)] at h;trivial
 ·rw[aZ e] at h;trivial
theorem fJ.kill{a:List O}(S:aE W a s)(k:Nat):fJ fr W a s W (a.set k .dead):=
 ⟨S.kill k,.refl,rfl,fun j h=>(pZ h).1,fun Y Y h=>.inl h⟩
theorem fJ.freeze{r:List O}(F:fJ fr W (r.set k .dead) s W' f)(b:W.ρ[k]?=some p)(i:(aD r k).live=true)(S:aE W r s)(c:a=p.1∨a=p.2)
  (h:s.heap.get? a=some o) (d:W'.F a=none):fJ fr W r s (W'.add a o) f:=by
 have hd:∀(j:Nat)(q:ai×ai),W'.ρ[j]?=some q->(aD f j).live=true->q.1≠a/\q.2≠a:=fun j q e l=>by
  refine mX (S.apart j k q p (F.ρ▸e) b ((pZ (F.live j l)).2)) fun m n x3 x4=>?_;clear b h d;rcases c with rfl|rfl
  ·trivial
  ·trivial
 obtain⟨g,T⟩:=F.S.freezeAt h d hd ⟨p,by refine aa ?_ F.ρ;exact et b,c⟩;refine⟨g,F.T.trans T,F.ρ,fun j l=>(pZ (F.live j l)).1,fun x Q e=>?_⟩;by_cases z:x=a
 ·exact .inr ⟨k,p,b,i,z▸c⟩
 ·have A:W'.F x=some Q:=by
   have:(W'.add a o).F x=W'.F x:=by delta Wd.add;simp[z]
   exact(this▸e)
  rcases F.newF x Q A with q|⟨j,q,I,P,R⟩
  ·exact .inl q
  ·exact .inr ⟨j,q,I,(pZ P).1,R⟩
theorem fJ.stillNone{f:List O}(F:fJ fr W (f.set k .dead) s W' x)(b:W.ρ[k]?=some p)(c:(aD f k).live=true)(S:aE W f s)(l:a=p.1∨a=p.2):W'.F a=none:=by
 cases e:W'.F a with
 |none=>rfl
 |some o=>
  exfalso;rcases F.newF a o e with q|⟨j,q,I,P,R⟩
  ·clear e;rcases l with rfl|rfl
   ·exact am (((S.free k p b c).1)▸q)
   ·exact am (((S.free k p b c).2)▸q)
  ·refine mX (S.apart j k q p I b ((pZ P).2)) fun d m x3 x4=>?_;clear b e;rcases l with rfl|rfl<;>rcases R with z|z
   ·exact d z.symm
   ·exact x3 z.symm
   ·exact m z.symm
   ·exact x4 z.symm
section
variable {fr:List ai}{A:a8}{W:Wd}{s:ak}{st:List O}
mutual
theorem uN:∀(n:Nat)(st:List O)(W:Wd)(v:V)(x:ae)(w:V)(b:List O),aE W st s->W.R v x->eK n st v=some (w,b)->∃W',fJ fr W st s W' b/\W'.R w x
 |0,_,_,_,_,_,_,_,_,e=>by exact am e
 |n+1,st,W,v,x,w,b,S,g,e=>by
  refine ch e (fun e=>iS e g fun k p d e=>ch e (fun e=>ax e fun vs q e=>ax e fun r u e=>bg w b e ?_) fun e=>ax e fun cf q e=>ax e fun r u e=>bg w b e ?_) fun e=>bq e fun h e=>bg w b e ⟨W,.refl S,g⟩
  ·have o:=S.objs k p d;have A:(aD st k).live=true:=by rw[lY q];rfl
   rw[lY q] at o;refine cV o fun hpp hl hz=>dy hz fun items m i=>aH (frzs_at n _ W vs items.toList r.1 r.2 (fJ.kill (fr:=fr) S k).S i.2 u) fun B F t=>?_;obtain P:=F.stillNone d A S (.inl rfl);refine⟨_,F.freeze d A S (.inl rfl) i.1 P,?_,p.1,items,m,rfl,Wd.add_self,VRs.mono (Wd.add_keep P) (fun Y Y e=>e) _ _ t⟩;rw[<- VRs.length t,VRs.length i.2];trivial
  ·have o:=S.objs k p d;have A:(aD st k).live=true:=by rw[ow q];rfl
   rw[ow q] at o;refine hG fun C kk=>?_;obtain⟨hc,WZ,⟨Q,i,hi⟩,od,m,H⟩:=o;refine kk (aH (frzF_at n _ W cf.2 m r.1 r.2 (fJ.kill (fr:=fr) S k).S H.2.2 u) fun B F t=>?_);have P:=F.stillNone d A S (.inl rfl);have c:=F.freeze d A S (.inl rfl) i P;have T:(B.add p.1 Q).F p.2=none:=(if_neg WZ).trans (F.stillNone d A S (.inr rfl));obtain⟨S3,WE⟩:=c.S.freezeAt H.1 T (fun j q e l=>by refine mX (S.apart j k q p (F.ρ▸e) d ((pZ (F.live j l)).2)) fun x1 x2 x3 x4=>?_;trivial) ⟨p,(by refine aa ?_ F.ρ;exact et d),.inr rfl⟩
   have hm2:=Wd.add_keep (o:=od) T;refine⟨_,⟨S3,c.T.trans WE,c.ρ,c.live,fun y o' e=>?_⟩,hc,p.1,p.2,od,m,rfl,WZ,⟨Q,hm2 _ _ Wd.add_self,hi⟩,Wd.add_self,H.2.1,FsR.mono (fun a o e=>hm2 _ _ ((Wd.add_keep (o:=Q) P) _ _ e)) (fun Y Y e=>e) _ _ t⟩;by_cases z:y=p.2
   ·exact .inr ⟨k,p,d,A,.inr z⟩
   ·exact c.newF y o' ((if_neg z).symm.trans e)
theorem frzs_at:∀(n:Nat)(st:List O)(W:Wd)(vs:List V)(xs:List ae)(ws:List V)(b:List O),aE W st s->W.Rs vs xs->frzs n st vs=some (ws,b)->∃W',fJ fr W st s W' b/\W'.Rs ws xs
 |0,_,_,_,_,_,_,_,_,e=>by exact am e
 |n+1,st,W,[],xs,ws,b,S,g,e=>bg ws b e ⟨W,.refl S,g⟩
 |n+1,st,W,v::r,xs,ws,b,S,g,e=>ax e fun p u e=>ax e fun q I e=>bg ws b e (by obtain⟨x,ys,rfl,i,H⟩:=g;obtain⟨B,F,t⟩:=uN n st W v x p.1 p.2 S i u;obtain⟨D,c,R⟩:=frzs_at n p.2 B r ys q.1 q.2 F.S (F.T.Rs H) I;exact⟨D,F.trans c,VRs.cons (c.T.R t) R⟩)
theorem frzF_at:∀(n:Nat)(st:List O)(W:Wd)(fs:List (Nat×V))(m:Str->Option ae)(C:List (Nat×V))(b:List O),aE W st s->FsR W.F W.ρ fs m->frzF n st fs=some (C,b)->∃W',fJ fr W st s W' b/\FsR W'.F W'.ρ C m
 |0,_,_,_,_,_,_,_,_,e=>by exact am e
 |n+1,st,W,[],m,C,b,S,g,e=>bg C b e ⟨W,.refl S,g⟩
 |n+1,st,W,(f,v)::r,m,C,b,S,g,e=>ax e fun p u e=>ax e fun q I e=>bg C b e (by refine hG fun C kk4=>?_;obtain⟨hf,x,i,H,h3⟩:=g;obtain⟨B,F,t⟩:=uN n st W v x p.1 p.2 S H u;obtain⟨D,c,R⟩:=frzF_at n p.2 B r _ q.1 q.2 F.S (FsR.mono F.T.F F.T.ρ _ _ h3) I;exact kk4 (⟨D,F.trans c,hf,x,i,c.T.R t,R⟩))
end
end
theorem aE.keepsOn{d:List O}(S:aE W d s)(j:∀b o,(W.F b=some o∨W.owns b)->s.heap.get? b=some o->s'.heap.get? b=some o)(z:s'.gens=#[]):aE W d s' where
 base:=S.base
 frozen a o e:=j _ _ (.inl e) (S.frozen _ _ e)
 len:=S.len
 objs k p e:=OR.mono (fun Y Y e=>e) (fun Y Y e=>e) (fun o x=>j _ _ (.inr ⟨p,et e,.inl rfl⟩) x) (fun o x=>j _ _ (.inr ⟨p,et e,.inr rfl⟩) x) _ (S.objs k p e)
 there p c:=by exact ft (S.there p c) fun D Q b=>oE D fun o a=>⟨⟨o,j _ _ (.inr ⟨p,c,.inl rfl⟩) a⟩,Q,j _ _ (.inr ⟨p,c,.inr rfl⟩) b⟩
 free:=S.free
 apart:=S.apart
 gens:=z
theorem av.drop(T:av fr W Wp s W' s')(h:∀b∈Wp,s.heap.get? b=none):av fr W [] s W' s':=
 ⟨T.F,T.ρ,T.newF,T.newρ,fun a o e n Y=>T.pres a o e n (fun m=>by exact am ((h a m)▸e)),T.alive,T.os⟩
theorem av.fewer(T:av fr W Wp s W' s')(h:∀b∈fr,b∈fr'∨s.heap.get? b=none):av fr' W Wp s W' s':=
  { T with
    pres:=fun a o e n m=>by
      refine aH (T.pres a o e n m) fun Q A f=>⟨Q,A,?_⟩;rcases f with rfl|⟨z,f⟩
      · exact .inl rfl
      · rcases h a z with v|v
        · exact .inr ⟨v,f⟩
        · rw[v] at e;cases e }
def mD(W:Wd)(c:ae)(as:List V)(e:ae)(s0 s:ak):Prop:=∀C:Prop,(∀a b items n,e=.ref a->s.heap.get? a=some { cls:=c,data:=.fields #[.ref b,.none,.none,.none,.bool false,.none] }->W.F b=some (dS items n)->as.length<=sizeMax->W.Rs as items.toList->W.F a=none->¬ W.owns a->s0.heap.get? a=none->C)->C
theorem mD.mk{l:Wd}{o:ae}{A:List V}{p:ae}{s:ak}:∀a b items n,p=.ref a->s.heap.get? a=some { cls:=o,data:=.fields #[.ref b,.none,.none,.none,.bool false,.none] }->l.F b=some (dS items n)->A.length<=sizeMax->l.Rs A items.toList->l.F a=none->¬ l.owns a->w.heap.get? a=none->mD l o A p w s:=fun d z m x3 x4 h g u i j x10 f C k=>k d z m x3 x4 h g u i j x10 f
def iF(W:Wd)(c:ae)(as:List V)(e:ae)(s0 s:ak):Prop:=∀C:Prop,(∀a b items n oe vs T oT ts,e=.ref a->s.heap.get? a=some oe->oe.cls=c->oe.data=.fields vs->vs[0]?=some (.ref b)->W.F b=some (dS items n)->as.length<=sizeMax->W.Rs as items.toList->W.F a=none->¬ W.owns a->s0.heap.get? a=none->vs[1]?=some (.ref T)->T≠a->s.heap.get? T=some oT->oT.data=.fields ts->ts[3]?=some .none->W.F T=none->¬ W.owns T->s0.heap.get? T=none->C)->C
theorem iF.mk{G:Wd}{J:ae}{L:List V}{N:ae}{s:ak}:∀a b items n d vs T oT t,N=.ref a->s.heap.get? a=some d->d.cls=J->d.data=.fields vs->vs[0]?=some (.ref b)->G.F b=some (dS items n)->L.length<=sizeMax->G.Rs L items.toList->G.F a=none->¬ G.owns a->w.heap.get? a=none->vs[1]?=some (.ref T)->T≠a->s.heap.get? T=some oT->oT.data=.fields t->t[3]?=some .none->G.F T=none->¬ G.owns T->w.heap.get? T=none->iF G J L N w s:=fun f z r x3 x4 H I P Q R x10 g h i j l m o p q u v x y A B D F C k=>k f z r x3 x4 H I P Q R x10 g h i j l m o p q u v x y A B D F
theorem UR(e:A.frames=some l)(h:b∈aC A):∃U∈l,U.frame=some b:=by delta aC at h;obtain h:=e▸h;exact List.mem_filterMap.mp h
theorem fY.out{s:ak}(K:fY A W s.heap)(h:b∈aC A):W.F b=none/\¬ W.owns b/\∃o,s.heap.get? b=some o/\∃es n,o.data=.dict es n:=by refine aH K fun l e f=>aH (UR e h) fun U B c=>?_;refine ga (f U B) fun Y w a hz=>?_;obtain⟨H,C,o,d⟩:=hz;cases (c▸a);exact⟨H,C,o,d.1,d.2⟩
theorem DN{h:bk}:∀{l:List bj},(∀U∈l,U.scope.kind=.function/\∃b,U.frame=some b/\base.get? b=none/\∃o,h.get? b=some o/\∃es n,o.data=.dict es n)->h.FunFrames base l:=by
 intro p;induction p with
 |nil=>intro _;trivial
 |cons U r I=>intro k;obtain⟨j,b,a,H,o,C,es,n,d⟩:=k U (.head _);exact⟨by refine aa ?_ j;decide,⟨b,o,a,H,C,fun vs=>by refine aa ?_ d;exact fun z=>by trivial⟩,I fun e B=>k e (.tail _ B)⟩
theorem Ew{G:List O}(S:aE W G s)(K:fY A W s.heap)(F:A.frames=some (U::WB))(hf:U.frame=some L)(hx:mD W c as e w s)(h0:∀b o,w.heap.get? b=some o->∃o',s.heap.get? b=some o'):
  al (MD) A (yS U e) (fun Y s'=>iF W c as e w s'/\aE W G s'/\∃x,w.heap.get? x=none/\(W.F x=none/\¬ W.owns x)/\av (aC A) W [x] s W s') aT s:=by
 refine hx _ fun a b items n ez1 x1 x2 x3 x4 j r u=>?_;obtain rfl:=ez1;let base:=hideAll s.heap (a::aC A);have C:∀y o,base.get? y=some o->s.heap.get? y=some o/\y≠a/\y∉aC A:=fun y o e=>by
  refine⟨Fm _ e,fun z=>?_,fun z=>?_⟩
  ·rw[mQ _ (z▸bK)] at e;trivial
  ·exact am ((mQ _ (bD _ z))▸e)
 have f:∀y o,s.heap.get? y=some o->y≠a->y∉aC A->base.get? y=some o:=fun y o e g k=>D0 _ e (by simp[g,k]);have hff:s.heap.FunFrames base (U::WB):=by refine aH K fun l e hl=>?_;cases (F▸e);refine DN fun Ww he=>?_;refine ga (hl Ww he) fun hk y I hz=>?_;obtain⟨o,g4⟩:=hz.2.2;refine⟨hk,y,I,mQ _ (bD _ ?_),o,g4.1,g4.2⟩;delta aC;refine aa ?_ F;exact List.mem_filterMap.mpr ⟨Ww,he,I⟩
 refine wpAny_leaving_firstW (a0:=.ref b) F hff hf x1 (fun y o e=>(C y o e).1) (mQ _ bK) rfl rfl rfl fun h' v=>mX v fun k1 Y q2 Q=>Rl q2 fun oe vs T oT ts t1 q3 t4 t5 t6 D t8 H t10=>oA q3 fun t2 t3=>?_;have d:s.heap.get? T=none:=by
  cases z:s.heap.get? T with
  |none=>rfl
  |some o=>
   exfalso;by_cases hT:T∈aC A
   ·obtain⟨_,_,i,I,es,m,P⟩:=K.out hT;obtain⟨sl,R⟩:=Q T i I fun ws q=>by obtain q:=P▸q;trivial
    have:=(aR (t8▸R));obtain H:=this▸H;obtain H:=P▸H;trivial
   ·obtain t6:=(f T o z D hT)▸t6;trivial
 have hT0:w.heap.get? T=none:=by
  cases z:w.heap.get? T with
  |none=>rfl
  |some o=>obtain⟨o',z'⟩:=h0 _ _ z;exact am (d▸z')
 have t:W.F T=none:=by
  cases z:W.F T with
  |none=>rfl
  |some o=>have:=S.frozen _ _ z;exact am (d▸this)
 have B:¬ W.owns T:=fun⟨p,hp,z⟩=>by
  refine ft (S.there p hp) fun q4 i P=>oE q4 fun o1 I=>?_;clear t5 t6 D t8 hT0 t hp q4;rcases z with rfl|rfl
  ·obtain d:=I▸d;trivial
  ·obtain d:=P▸d;contradiction
 have kept:∀y o,(W.F y=some o∨W.owns y)->s.heap.get? y=some o->h'.get? y=some o:=fun y o z e=>by
  refine(fun y o e g k=>k1 _ _ (f y o e g k)) y o e (fun q=>?_) (fun q=>?_)
  ·clear x1 u C f v q2 t1 D e;subst q;clear S K x2 x4 t B;rcases z with z|z
   ·obtain z:=j▸z;exact am z
   ·exact r z
  ·refine cV (K.out q) fun I P Y=>?_;clear S K x2 x4 j r t B e q Y;rcases z with z|z
   ·obtain z:=I▸z;exact am z
   ·exact P z
 refine⟨(.mk a b items n oe vs T oT ts rfl t1 t2 t4 t3 x2 x3 x4 j r u t5 D t8 H t10 t B hT0),S.keepsOn kept S.gens,a,u,⟨j,r⟩,
  ⟨fun Y Y e=>e,fun Y Y e=>e,fun Y Y e=>.inl e,fun Y e=>.inl e,fun y o e g k=>?_,fun y o e=>?_,rfl⟩⟩
 ·by_cases h:y∈aC A
  ·obtain⟨_,_,i,I,es,m,P⟩:=K.out h;obtain I:=e▸I;cases I;refine oE (Q y o e (fun ws q=>by obtain q:=P▸q;contradiction)) fun sl R=>?_;exact⟨_,R,.inr ⟨h,⟨es,m,P⟩,sl,rfl⟩⟩
  ·exact⟨o,(fun y o e g k=>k1 _ _ (f y o e g k)) y o e (by simpa using k) h,.inl rfl⟩
 ·by_cases h:y∈aC A
  ·refine hG fun C kk3=>?_;obtain⟨_,_,i,I,es,m,P⟩:=K.out h;refine kk3 ?_;refine oE (Q y i I (fun ws q=>by obtain q:=P▸q;contradiction)) fun sl R=>?_;exact⟨_,R⟩
  ·by_cases z:y=a
   ·clear x1 j r u C f v q2 D;subst z;exact⟨_,t1⟩
   ·exact⟨o,(fun y o e g k=>k1 _ _ (f y o e g k)) y o e z h⟩
def o7(W:Wd):Fl->Flow->Prop
 |.next,f=>f=.next
 |.brk,f=>f=.brk
 |.cont,f=>f=.cont
 |.ret v,f=>∃x,f=.ret x/\W.R v x
 |.exc _ _,_=>False
def AE(A:a8)(Wr:List aL)(U:bj)(W:Wd)(Wp:List ai)(σ':S)(s:ak)(fl:Fl)(e:ae)(s':ak):Prop:=∀C:Prop,(∀(W':Wd),ar A W' Wp Wr U σ' s'->av (aC A) W Wp s W' s'->∀c as,fl=.exc c as->mD W' c as e s s'->C)->C
theorem AE.mk{a:a8}{b:List aL}{g:bj}{i:List ai}{N:S}{j:ak}{F:Fl}{l:ae}{s':ak}:∀(W':Wd),ar a W' i b g N s'->av (aC a) w i j W' s'->∀c as,F=.exc c as->mD W' c as l j s'->AE a b g w i N j F l s':=fun d z m x3 x4 h f C k=>k d z m x3 x4 h f
def bd(A:a8)(Wr:List aL)(U:bj)(W:Wd)(Wp:List ai)(σ:S)(s:ak)(t:bE Flow)(c:M Fl):Prop:=
 ∀fl σ',c σ=some (fl,σ')->al (MD) A t (AQ A Wr U W Wp σ' s (o7) fl)
  (AE A Wr U W Wp σ' s fl) s
def FO(a:ai)(fd:FD):Prop:=∀C:Prop,(∀o f,hb.get? a=some o->o.data=.func f->f.params=fd.params->f.body=.stmts fd.body->f.scope=fd.scope->f.globals=3->f.closure=[]->f.builtins=0->hb.CodeRec f.code f.qualname->o.cls=.type "function" -> f.defaults=uz fd.dflt->ix fd->hb.get? 115=some (dS #[.none] 0)->C)->C
theorem FO.mk{a:ai}{q:FD}:∀o f,hb.get? a=some o->o.data=.func f->f.params=q.params->f.body=.stmts q.body->f.scope=q.scope->f.globals=3->f.closure=[]->f.builtins=0->hb.CodeRec f.code f.qualname->o.cls=.type "function" -> f.defaults=uz q.dflt->ix q->hb.get? 115=some (dS #[.none] 0)->FO a q:=fun d z m x3 x4 h b u c l x10 e g i j C k=>k d z m x3 x4 h b u c l x10 e g i j
theorem tM:∀{ps:List Str}{vs:List V}{xs:List ae},W.Rs vs xs->kt W (ps.zip vs) (ps.zip xs)
 |[],_,_,_=>rfl
 |p::ps,[],xs,h=>by obtain rfl:=ej h;rfl
 |p::ps,v::vs,xs,h=>by refine(eA h) _ fun x d c a b=>?_;obtain rfl:=c;exact⟨x,_,rfl,a,tM b⟩
theorem Iv:∀{a:List (Str×V)}{xs:List (Str×ae)}{n:Str}{v:V}{x:ae},kt W a xs->W.R v x->kt W (a++[(n,v)]) (xs++[(n,x)]):=by
 intro p;induction p with
 |nil=>intro xs n v x h k;subst h;exact⟨x,[],rfl,k,rfl⟩
 |cons a0 r I=>intro xs n v x h k;refine oM xs h ?_;intro y t a b;exact⟨y,_,rfl,a,I b k⟩
theorem KR{y:List O}(S:aE W y s)(u:f.params=q.params)(t:f.defaults=uz q.dflt)(B:ix q)
  (p:hb.get? 115=some (dS #[.none] 0)) (c:W.Rs F xs) (e:xA q F=some bs):
  al (MD) A (jb f ⟨xs,[]⟩) (fun j s'=>∃W',aE W' y s'/\av fr W [] s W' s'/\kt W' bs j) aT s:=by
 refine aa ?_ (NT u t);delta xA at e;cases B with
 |plain v d h=>rw[v,d,dT] at e;rw[d];refine yy e fun g e=>?_;subst e;exact mf (h f xs ((VRs.length c).trans g)) ⟨W,S,.refl,tM c⟩
 |star v d h=>
  rw[v] at e;rw[d];refine yy e fun g e=>?_;subst e;have hz:(xs.drop (cU q.params).length).length<=1000:=by refine aa ?_ Jh;exact bb (w0 _ _) ((VRs.length c)▸g.2)
  refine oU (h f xs ((VRs.length c)▸g.1)) (wB (H7 (ay ?_) (bb hz (by decide))));obtain⟨W',i,T,R⟩:=(vm (A:=A) (s':={ s with heap:=s.heap.push _ }) S (VRs.drop (cU q.params).length c) (bb (VRs.length (VRs.drop (cU q.params).length c)▸hz) (by decide)) (bF _ rfl) (bG _) (co _ _)).ex;exact⟨W',i,⟨T.F,T.ρ,T.newF,T.newρ,fun a o e n m=>⟨o,co _ _ _ _ e,.inl rfl⟩,T.alive,T.os⟩,Iv (tM (T.Rs c)) R⟩
 |dflt v d n h=>
  rw[v,d] at e;refine aa ?_ d;refine yy e fun g e=>?_;subst e;clear e;cases F with
  |nil=>exact absurd (g.trans n) (by decide)
  |cons a r=>
   cases r with
   |cons b r=>exact absurd (rA (rA (g.trans n))) (Nat.succ_ne_zero _)
   |nil=>refine(eA c) _ fun x w l z1 D=>?_;obtain rfl:=l;obtain rfl:=ej D;exact aH (h f x 115) fun K k k2=>oU k (wB (jG (S.keepB _ _ p) rfl (mf k2 ⟨W,S,.refl,tM ⟨x,_,rfl,z1,.none,[],rfl,nM,rfl⟩⟩)))
def wA(n:Nat)(c:Ctx)(sc:aL)(body:List cW):Prop:=
 ∀A,aW false n A->∀W Wp U σ s,ar A W Wp [sc] U σ s->(∃WB,A.frames=some (U::WB))->bd A [sc] U W Wp σ s (gp body U) (au (pexecs c [sc] body))
def KQ(A:a8)(W:Wd)(s:ak)(Wv:List O)(r:CR)(x:ae)(s':ak):Prop:=∀C:Prop,(∀(W':Wd),aE W' Wv s'->av (aC A) W [] s W' s'->∀v,r=.ret v->W'.R v x->C)->C
theorem KQ.mk{b:a8}{c:ak}{e:List O}{R:CR}{X:ae}{s':ak}:∀(W':Wd),aE W' e s'->av (aC b) w [] c W' s'->∀v,R=.ret v->W'.R v X->KQ b w c e R X s':=fun d z m x3 x4 h C k=>k d z m x3 x4 h
def KE(A:a8)(W:Wd)(s:ak)(Wv:List O)(r:CR)(e:ae)(s':ak):Prop:=∀C:Prop,(∀(W':Wd),aE W' Wv s'->av (aC A) W [] s W' s'->∀c as,r=.exc c as->iF W' c as e s s'->C)->C
theorem KE.mk{a:a8}{b:ak}{X:List O}{R:CR}{g:ae}{s':ak}:∀(W':Wd),aE W' X s'->av (aC a) w [] b W' s'->∀c as,R=.exc c as->iF W' c as g b s'->KE a w b X R g s':=fun d z m x3 x4 h f C k=>k d z m x3 x4 h f
abbrev qK(Q E:ae->ak->Prop):pA->ak->Prop:=fun r s'=>match r with|.ok (.ret v)=>Q v s'|.ok _=>False|.error e=>E e s'
theorem sZ{M:eF}{E:ae->ak->Prop}(h:dK M A c (qK Q E) s)(d:∀v s',Q v s'->b v s')(B:∀v s',E v s'->a v s'):dK M A c (qK b a) s:=
 lE h fun r s' z=>by rcases r with e|(v|_|_|_)<;>first|exact B _ _ z|exact d _ _ z|exact z
def KS(n:Nat)(k:K):Prop:=∀A,aW false n A->∀W st s,aE W st s->fY A W s.heap->∀a Wt xs r Wv,W.Rs Wt xs->k a Wt st=some (r,Wv)->
 dK (MD) A (.call (.ref a) ⟨xs,[]⟩) (qK (KQ A W s Wv r) (KE A W s Wv r)) s
theorem av.more(T:av fr W Wp s W' s')(h:∀b∈fr,b∈fr'):av fr' W Wp s W' s':=T.fewer fun b x=>.inl (h b x)
theorem vy(h:aW hd (n+1) A):aW hd n A.in1:=
 ⟨by have:=h.depth;exact aJ [_,_] (.l (.a af (.m 2 bI)) (.n 690)) (.l (.a af (.m 2 aj)) (.n 690)) tU this,by have:=h.units;exact aJ [_,_] (.l (.a af (.m 40 bI)) (.n 9000)) (.l (.a aF (.m 40 aj)) (.n 9000)) tU this,h.hand,h.frames⟩
theorem Rt(h:aW false (n+10) A)(U:bj):aW false n (A.deeper U):=by
 obtain⟨a,H,C,l,d⟩:=h;refine⟨?_,?_,C,U::l,?_⟩
 ·exact aJ [_,_] (.l (.a af (.m 2 (.a aj (.n 10)))) (.n 690)) (.l (.a aF (.m 2 aj)) (.n 690)) tU a
 ·exact aJ [_,_] (.l (.a af (.m 40 (.a aj (.n 10)))) (.n 9000)) (.l (.a (.a af lc) (.m 40 aj)) (.n 9000)) tU H
 ·refine(?_:A.frames.map (U::·)=_);refine aa ?_ d;rfl
theorem UQ(h:aW hd n A)(U:bj)(o:U.frame=some L):aC (A.deeper U)=L::aC A:=by refine oE h.frames fun l d=>?_;delta aC;refine(?_:List.filterMap _ ((A.frames.map _).getD [])=_);refine aa ?_ d;simp[o]
theorem CO{G:List O}(B:BO)(FOa:FO a i)(WC:wA n c i.scope i.body)(t:aW false (n+10) A)
  (S:aE W G s) (K:fY A W s.heap) (hx:W.Rs Wt xs) (w:rS i Wt=some I) (e:au (pexecs c [i.scope] i.body) ⟨[I],G⟩=some (fl,σ')):
  dK (MD) A (.call (.ref a) ⟨xs,[]⟩) (qK (fun x s'=>PQ A W s σ'.st (fun W' fl x=>∃f,o7 W' fl f/\x=(match f with|.ret v=>v|_=>.none)) fl x s')
   (fun e s'=>PQ A W s σ'.st (fun W' fl (e:ae)=>∃c as,fl=.exc c as/\iF W' c as e s s') fl e s')) s:=by
 refine FOa _ fun o f h1 h2 h3 h4 h5 h6 h7 h8 h9 h10 h11 hbd h115=>?_;delta rS at w;split at w
 ·rename_i hok;refine aH (Option.bind_eq_some_iff.mp w) fun bs hbs hbf=>?_;delta Fo at hok;simp only[kr,A6,Option.isNone_iff_eq_none,decide_eq_true_eq] at hok;refine oA hok fun y k9=>?_;refine(codeAny_call_function (body:=i.body) (by have:=t.depth;exact aJ [_,_] (.l (.a af (.m 2 (.a aj (.n 10)))) (.n 690)) (.l aF d8) tU this) (S.keepB _ _ h1) h2 (by refine aa ?_ h5;simpa using y.1.2) (by refine aa ?_ h5;simpa using y.2) h4 (h9.keeps S.keepB) ?_);refine bM (KR (A:=A.in1) (fr:=aC A) S h3 h11 hbd h115 hx hbs) (fun bn s1 hh1=>?_) fun Y Y q=>q.elim;refine cw hh1 fun W1 S1 F Bs=>?_;refine aa (aa (aa (aa ?_ h8) h7) h6) h5;refine bM (ME (A:=A.in1) (K.lift F) S1 (eq_of_beq y.1.1.2) (fun p hp z=>by have:=List.all_eq_true.mp k9 p hp;obtain this:=z▸this;exact absurd this (by decide)) y.1.1.1.2 Bs hbf) (fun U C hh2=>?_) fun Y Y q=>q.elim
  refine qy hh2 fun k Wp R T2 fresh hfm=>?_;have hsA:=UQ t U hfm;refine gb R.act.head fun fr0 frs0 hfs HF9=>?_;have u:U.locals∈Wp:=R.act.headMem _ (mS ..);have T12:av (aC A) W [] s k C:=F.trans T2;have P:∀b∈Wp,s.heap.get? b=none:=fun b d=>F.gone (fresh b d);have R3:ar (A.deeper U) k Wp [i.scope] U ⟨[I],G⟩ C:=by
   refine⟨R.st,R.act,R.actF,R.actO,R.actS,?_⟩;refine aH R.stk fun l r hl=>?_;have e1':A.frames=some l:=r;refine⟨U::l,by refine(?_:A.frames.map (U::·)=_);refine aa ?_ e1';rfl,fun Ww he=>?_⟩;rcases List.mem_cons.mp he with rfl|he
   ·refine aH HF9.loc fun m q21 Y=>?_;refine zx q21 fun o1 es ep Q g2 Y=>?_;exact⟨HF9.kind,_,hfm,R.actF _ u,R.actO _ u,o1,Q,es,ep,g2⟩
   ·exact hl Ww he
  have down:∀{D:Wd}{g:ak}{x:ai},s.heap.get? x=none->av (aC (A.deeper U)) W (x::Wp) s D g->av (aC A) W [] s D g:=fun{D g x} hx T=>by
   refine(T.drop fun b d=>?_).fewer fun b d=>?_
   ·rcases List.mem_cons.mp d with rfl|d
    ·exact hx
    ·exact P b d
   ·obtain d:=hsA▸d;rcases List.mem_cons.mp d with rfl|d
    ·exact .inr (P _ u)
    ·exact .inl d
  have up:∀{D:Wd}{g:ak},av (aC (A.deeper U)) k Wp C D g->av (aC (A.deeper U)) W Wp s D g:=fun{D g} T=>((T12.more (fr':=aC (A.deeper U)) (fun b=>by refine aa ?_ hsA;exact bD _)).mono (fun Y h=>(cq h).elim)).trans T
  refine⟨B.nolimit.keeps R.st.keepB,codeAny_func ?_⟩;refine oE t.frames fun l r=>?_;refine bM (WC (A.deeper U) (Rt t U) k Wp U ⟨[I],G⟩ C R3 ⟨l,by refine(?_:A.frames.map (U::·)=_);refine aa ?_ r;rfl⟩ fl σ' e) (fun f3 g hh3=>?_) fun ex g hh3=>?_
  ·refine hh3 _ fun D j H V=>?_;exact .mk D j.st (down (x:=U.locals) (P _ u) ((up H).mono fun b=>bD _)) ⟨f3,V,rfl⟩
  ·refine hh3 _ fun D j H cc as hfl hx0=>?_;have T03:=up H;have hx1:mD D cc as ex s g:=by refine hx0 _ fun a' b' items m Q g2 g3 g4 g5 g6 g7 g8=>?_;exact .mk a' b' items m Q g2 g3 g4 g5 g6 g7 (T12.gone g8)
   refine bM (Ew (A:=A.deeper U) j.st j.stk (by refine(?_:A.frames.map (U::·)=_);refine aa ?_ r;rfl) hfm hx1 (fun b o z=>T03.alive b o z)) (fun Y s4 hh4=>?_) fun Y Y q=>q.elim;refine E9 hh4 fun X S4 x hx2 Y T4=>?_;exact .mk D S4 (down hx2 ((T03.mono fun b d=>bD _ d).trans (T4.mono fun b d=>by simp at d;simp[d]))) ⟨cc,as,hfl,X⟩
 ·exact am w
mutual
theorem VR.noObj:∀(v:V)(x:ae),Mine.noObj v=true->VR F ρ v x->VR F p v x
 |.none,_,_,h|.bool _,_,_,h|.int _,_,_,h|.str _,_,_,h|.cst _,_,_,h|.seti _,_,_,h|.sets _,_,_,h|.setb _,_,_,h=>h
 |.tup vs,x,e,h=>by exact vv h fun l a items n i f r=>⟨l,a,items,n,i,f,VRs.noObj vs _ e r⟩
 |.lst vs,x,e,h=>by exact vv h fun l a items n i f r=>⟨l,a,items,n,i,f,VRs.noObj vs _ e r⟩
 |.ins c fs,x,e,h=>by refine Fd h fun A a d s m i n f g k r=>?_;exact⟨A,a,d,s,m,i,n,f,g,k,FsR.noObj fs _ e r⟩
 |.obj k,x,e,h=>by exact absurd (show false=true by assumption) iZ
 |.bm id v,x,e,h=>by refine fV h fun a y i f r=>?_;exact⟨a,y,i,f,VR.noObj v _ e r⟩
 |.exc c as,x,e,h=>by refine Fe h fun q a o xs b items n i f g k l m r=>?_;exact⟨q,a,o,xs,b,items,n,i,f,g,k,l,m,VRs.noObj as _ e r⟩
theorem VRs.noObj:∀(vs:List V)(xs:List ae),Mine.noObjs vs=true->VRs F ρ vs xs->VRs F p vs xs
 |[],xs,_,h=>h
 |v::vs,xs,e,h=>by refine oA (Bool.and_eq_true_iff.mp e) fun i j=>?_;refine fV h fun x r e f g=>?_;exact⟨x,r,e,VR.noObj v x i f,VRs.noObj vs r j g⟩
theorem FsR.noObj:∀(fs:List (Nat×V))(m:Str->Option ae),Mine.noObjF fs=true->FsR F ρ fs m->FsR F p fs m
 |[],m,_,h=>h
 |(f,v)::r,m,e,h=>by refine oA (Bool.and_eq_true_iff.mp e) fun i j=>?_;refine qx h fun l x e g k=>?_;exact⟨l,x,e,VR.noObj v x i g,FsR.noObj r _ j k⟩
end
mutual
theorem yq:∀(n:Nat)(st:List O)(v w:V)(x:List O),eK n st v=some (w,x)->Mine.noObj w=true
 |0,_,_,_,_,e=>by exact am e
 |n+1,st,v,w,x,e=>ch e (fun e=>ax e fun k Y e=>ch e (fun e=>ax e fun vs Y e=>ax e fun p h e=>bg w x e (frzs_noObj _ _ _ _ _ h)) fun e=>ax e fun q Y e=>ax e fun p h e=>bg w x e (frzF_noObj _ _ _ _ _ h)) fun e=>bq e fun h e=>bg w x e h
theorem frzs_noObj:∀(n:Nat)(st:List O)(vs ws:List V)(x:List O),frzs n st vs=some (ws,x)->Mine.noObjs ws=true
 |0,_,_,_,_,e=>by exact am e
 |n+1,st,[],ws,x,e=>bg ws x e rfl
 |n+1,st,v::r,ws,x,e=>ax e fun p h e=>ax e fun q d e=>bg ws x e (Bool.and_eq_true_iff.mpr ⟨yq _ _ _ _ _ h,frzs_noObj _ _ _ _ _ d⟩)
theorem frzF_noObj:∀(n:Nat)(st:List O)(vs ws:List _)(x:List O),frzF n st vs=some (ws,x)->Mine.noObjF ws=true
 |0,_,_,_,_,e=>by exact am e
 |n+1,st,[],ws,x,e=>bg ws x e rfl
 |n+1,st,v::r,ws,x,e=>ax e fun p h e=>ax e fun q d e=>bg ws x e (Bool.and_eq_true_iff.mpr ⟨yq _ _ _ _ _ h,frzF_noObj _ _ _ _ _ d⟩)
end
theorem xm{j:List O}(S:aE W j s)(F:∀b∈fr,¬ W.owns b)(T:av fr ⟨W.F,[]⟩ [] s d s1)(r:aE d st1 s1):
  aE ⟨d.F,W.ρ⟩ j s1/\av fr W [] s ⟨d.F,W.ρ⟩ s1:=by
 have i:∀a,¬ (⟨W.F,[]⟩:Wd).owns a:=fun a ⟨p,c,_⟩=>by cases c
 have keep:∀p∈W.ρ,(∀o,s.heap.get? p.1=some o->s1.heap.get? p.1=some o)/\∀o,s.heap.get? p.2=some o->s1.heap.get? p.2=some o:=fun p c=>by
  refine⟨fun o e=>?_,fun o e=>?_⟩
  ·exact aH (T.pres _ _ e (i _) (cq)) fun Q A f=>aa (aa rfl (f.eqC fun z=>F _ z ⟨p,c,.inl rfl⟩)) A
  ·exact aH (T.pres _ _ e (i _) (cq)) fun Q A f=>aa (aa rfl (f.eqC fun z=>F _ z ⟨p,c,.inr rfl⟩)) A
 refine⟨{ base:=r.base,frozen:=r.frozen,len:=S.len,objs:=fun k p e=>?_,there:=fun p c=>?_,free:=fun k p e l=>?_,apart:=S.apart,gens:=r.gens },
  ⟨T.F,fun Y Y e=>e,fun a o e=>?_,fun Y e=>.inl e,fun a o e Y=>T.pres a o e (i _),T.alive,T.os⟩⟩
 ·have c:=et e;exact OR.mono (W:=W) (W':=⟨d.F,W.ρ⟩) T.F (fun Y Y e=>e) (keep p c).1 (keep p c).2 _ (S.objs k p e)
 ·exact ft (S.there p c) fun g Q b=>oE g fun o a=>⟨⟨o,(keep p c).1 _ a⟩,Q,(keep p c).2 _ b⟩
 ·exact ft (S.there p (et e)) fun h Q b=>oE h fun o a=>⟨T.F_none a ((S.free k p e l).1) (i _),T.F_none b ((S.free k p e l).2) (i _)⟩
 ·rcases T.newF a o e with q|q|q
  ·exact .inl q
  ·exact .inr (.inl q)
  ·exact absurd q (i _)
inductive xb(mk:K->Ctx)(k:K)(fd:FD)(Wt:List V)(st:List O)(r:CR)(Wv:List O):Prop
 |alone:∀f0 fl σ',rS fd Wt=some f0->noObjs Wt=true->fd.freeze=true->au (pexecs (mk k) [fd.scope] fd.body) ⟨[f0],[]⟩=some (fl,σ')->uI true st (fl,σ')=some (r,Wv)->xb mk k fd Wt st r Wv
 |shared:∀f0 fl σ',rS fd Wt=some f0->au (pexecs (mk k) [fd.scope] fd.body) ⟨[f0],st⟩=some (fl,σ')->uJ fd.freeze (fl,σ')=some (r,Wv)->xb mk k fd Wt st r Wv
theorem TH{s:List O}(e:zS mk k q F s=some (r,x)):xb mk k q F s r x:=by
 refine aH (Option.bind_eq_some_iff.mp e) fun t hb e=>?_;cases l:q.alone with
 |true=>
  rw[l] at e;cases v:noObjs F&&q.freeze with
  |true=>rw[v] at e;exact aH (Option.bind_eq_some_iff.mp e) fun p Q e=>oA (Bool.and_eq_true_iff.mp v) fun h H=>.alone t p.1 p.2 hb h H Q (aU e H)
  |false=>rw[v] at e;exact am e
 |false=>exact aH (Option.bind_eq_some_iff.mp (l▸e)) fun p=>.shared t p.1 p.2 hb
inductive wG(st:List O)(fl:Fl)(σ':S)(r:CR)(Wv:List O):Prop
 |ret:∀v w WV,fl=.ret v->eK 200 σ'.st v=some (w,WV)->r=.ret w->Wv=st->wG st fl σ' r Wv
 |next:fl=.next->r=.ret .none->Wv=st->wG st fl σ' r Wv
theorem N3{s:List O}(e:uI true s (fl,n)=some (r,x)):wG s fl n r x:=by
 cases fl with
 |ret v=>refine ax e fun q h e=>ax h fun p C f=>?_;cases f;cases e;exact .ret v p.1 p.2 rfl C rfl rfl
 |next=>exact bg r x e (.next rfl rfl rfl)
 |_=>exact am e
theorem N4{s:List O}(e:yl f v s=some (r,u)):(∃w,eK 200 s v=some (w,u)/\r=.ret w)∨(r=.ret v/\u=s):=by
 cases f with
 |true=>exact ax e fun p h e=>by cases e;exact .inl ⟨p.1,h,rfl⟩
 |false=>exact oA (cB (aR e)) fun a g=>.inr ⟨a.symm,g.symm⟩
theorem TG{G:List O}(B:BO)(FOa:FO a H)(z:wA n (mk k) H.scope H.body)(hA:aW false (n+10) A)
  (S:aE W G s) (K:fY A W s.heap) (F:W.Rs Wt xs) (e:zS mk k H Wt G=some (r,u)):
  dK (MD) A (.call (.ref a) ⟨xs,[]⟩) (qK (KQ A W s u r) (KE A W s u r)) s:=by
 cases TH e with
 |alone f0 fl σ' y hno hfz t d=>
  clear e;have K0:fY A ⟨W.F,[]⟩ s.heap:=by refine aH K fun l d hl=>⟨l,d,fun U he=>?_⟩;exact Re (hl U he) fun g1 b g2 g3 Y g4=>⟨g1,b,g2,g3,(fun⟨p,hp,_⟩=>by trivial),g4⟩
  have I:∀b∈aC A,¬ W.owns b:=fun b W8=>(K.out W8).2.1;refine sZ (CO B FOa z hA (⟨S.base,S.frozen,rfl,(fun k p e=>by trivial),(fun p hp=>by trivial),(fun k p e Y=>by trivial),(fun j k p q e Y Y=>by contradiction),S.gens⟩:aE ⟨W.F,[]⟩ [] s) K0 (VRs.noObj Wt xs hno F) y t) (fun x s1 i=>?_) fun ex s1 i=>?_
  ·refine i _ fun h g T hz144=>?_;obtain⟨f,o,rfl⟩:=hz144;clear K0 t y F K z;cases N3 d with
   |ret v w WV P D Q q3=>clear d;subst P;subst Q;subst q3;exact kW f o fun x C=>aH (uN 200 σ'.st h v x w WV g C D) fun W2 m R=>oA (xm S I (T.trans m.T) m.S) fun S3 WE=>.mk _ S3 WE w rfl (VR.noObj w x (yq _ _ _ _ _ D) R)
   |next P Q q3=>clear d;subst P;subst Q;subst q3;subst o;exact .mk _ ((xm S I T g).1) ((xm S I T g).2) .none rfl nM
  ·refine i _ fun h g T hz216=>?_;obtain⟨c,as,rfl,_⟩:=hz216;exact am d
 |shared f0 fl σ' y t d=>
  clear e;refine sZ (CO B FOa z hA S K F y t) (fun x s1 i=>?_) fun ex s1 i=>?_
  ·refine i _ fun h g T hz252=>?_;obtain⟨f,o,rfl⟩:=hz252;clear S K t y F z;cases fl with
   |ret v=>
    refine kW f o fun x C=>?_;rcases N4 d with⟨w,D,q⟩|⟨q,q'⟩
    ·subst q;exact aH (uN 200 σ'.st h v x w u g C D) fun W2 m R=>.mk W2 m.S (T.trans m.T) w rfl R
    ·subst q;subst q';exact .mk h g T v rfl C
   |next=>subst o;refine bg r u d ?_;exact .mk h g T .none rfl nM
   |exc c as=>trivial
   |_=>exact am d
  ·refine i _ fun h g T hz290=>?_;obtain⟨c,as,rfl,hx1⟩:=hz290;exact bg r u d (.mk h g T c as rfl hx1)
theorem nU(e:mI k a F b=some (v,n)):k a F b.st=some (.ret v,n.st)/\n={ b with st:=n.st }:=
 ax e fun p h e=>ax e fun u H e=>bg v n e ⟨h.trans (congrArg some (rE (Cj H) rfl)),rfl⟩
theorem xp(j:KS n k)(d:aW false n A)(R:ar A W Wp Wr U c s)(f:W.Rs F xs):
  At A Wr U W Wp c s (RV) (call (.ref a) xs) (mI k a F):=by
 intro v g e;refine kl (sZ (j A d W c.st s R.st R.stk a F xs _ _ f ((nU e).1)) (fun x s1 h=>?_) fun ex s1 h=>?_)
 ·refine h _ fun b r T u q C=>?_;cases q;refine .mk b (?_) T.up C;refine aa ?_ ((nU e).2);exact ar.lift R r T
 ·refine h _ fun b r Y Y Y Y=>?_;trivial
theorem Fn(h:aW hd (n+1) A)(C:ai)(vals:List ae):aW hd n (A.under (.builtin "type.__call__" ⟨.ref C::vals,[]⟩)):=by
 obtain⟨a,H,b,d⟩:=h;refine⟨?_,?_,b,d⟩
 ·exact aJ [_,_] (.l (.a af (.m 2 bI)) (.n 690)) (.l (.a aF (.m 2 aj)) (.n 690)) tU a
 ·exact aJ [_,_] (.l (.a af (.m 40 bI)) (.n 9000)) (.l (.a aF (.m 40 aj)) (.n 9000)) tU H
theorem Ku(B:BO)(hk:KS n k)(hA:aW false (n+1) A)(i:kG c=some cl)(R:ar A W Wp Wr U D s)(hx:W.Rs vs xs):
    At A Wr U W Wp D s (RV) (call (.ref c) xs) (E0 k c cl vs):=by
  intro v σ' e;refine bA e fun o σ1 q1 q2=>?_;cases q1;refine bA q2 fun u σ2 q m=>mU m (fun hu m=>?_) fun Y m=>am m;clear e q2;cases wt hu;refine bg v σ' m (oA (nU q) fun F H=>?_);have w:∀(s1:ak)(x h:ai)(A':a8),aW false n A'->fY A'=fY A->aC A'=aC A->aE (W.push (x,h)) (D.st++[if cl.slots then .slot c [] else .inst c []]) s1->av (aC A) W [] s (W.push (x,h)) s1->(W.push (x,h)).R (.obj D.st.length) (.ref x)->
      dK (MD) A' (.call (.ref cl.init) ⟨.ref x::xs,[]⟩) (qK (fun r I=>r=.none/\AQ A Wr U W Wp σ2 s (RV) (.obj D.st.length) (.ref x) I) aT) s1:=by
    intro s1 x h A' hA' hS hs l T C;have K1:fY A' (W.push (x,h)) s1.heap:=by refine aa ?_ hS;exact R.stk.lift T
    refine sZ (hk A' hA' _ _ s1 l K1 cl.init _ _ _ _ (VRs.cons C (T.Rs hx)) F) (fun r I h2=>?_) fun ex I h2=>?_
    · refine h2 _ fun W2 S2 y u qu hu=>?_;cases qu;obtain y:=hs▸y;refine⟨E5 hu,.mk W2 (?_) ((T.trans y).up) (y.R C)⟩;refine aa ?_ H;exact ar.lift R S2 (T.trans y)
    · refine h2 _ fun W2 S2 Y Y Y Y=>?_;trivial
  delta kG at i;have WN:∀{init:ai}{meths:List _},r7 c->CF c init meths->cl.init=init->cl.slots=false->
      al (MD) A (call (.ref c) xs) (AQ A Wr U W Wp σ2 s (RV) (.obj D.st.length)) aT s:=by
    intro init meths hdc hCF hi hsl;refine hCF.1 _ fun nm q' N bs sn sub col dd k0 k1 k2 k3 k5 mN c1 c2 c3 c4 c5 c6 c7 c8=>oE (hCF.2 init (.inl rfl)) fun oI g1=>?_;rw[hi,hsl] at w;obtain⟨a,g,Q,t,os⟩:=s;have S:=R.st;refine wpAny_call_obj_init PySem.F.objNew (S.keepB _ _ c1) (c2.keeps S.keepB) c7 (S.keepB _ _ g1.1) g1.2 fun h' x h j=>ju j.inst fun ox x1 x2 x3 x4=>?_;have hdx:=j.dict ox x1;rcases x4 with⟨x4,_⟩|⟨d,x4,x5,od,es,ep,y1,y2,y3,y4,y5⟩
    · rw[hdx] at x4;trivial
    · rw[hdx] at x4;obtain rfl:h=d:=aR x4;exact cV (S.newO (fr:=aC A) (s':=⟨h',g,Q,t,os⟩) (p:=(x,h)) (o:=.inst c []) j.keeps ⟨_,x1⟩ ⟨_,y1⟩ j.newX j.newD ⟨hdc,x5,⟨ox,x1,x2,hdx,x3⟩,od,fun Y=>none,y1,⟨es,ep,y2,y3,y4,y5⟩,fun _=>rfl⟩ S.gens rfl) fun l T C=>kl <| w _ x h _ (Fn hA c xs) rfl rfl l T C
  split at i
  · rename_i h59;clear q F H w;cases i;subst h59;exact WN (.inl rfl) B.entry rfl rfl
  · split at i
    · rename_i h89;clear q F H WN;cases i;subst h89;clear hk;refine B.node _ fun K X g1 g2 g3 g4 hz417 g5=>?_;obtain⟨m1,m2,m3⟩:=hz417;have S:=R.st;have P:=X.keeps S.keepB;clear R;obtain⟨a,g,Q,t,os⟩:=s;have WZ:some (cm 85) != some (hW "object.__init__"):=by decide
      refine kl (make_core (makes_of P m1) (looks_findIn P m2) (fun self=>bind_fn P self m3) (.inl WZ) ?_);have hxx:((a.push uD).push (w9 89 a.objs.size)).get? (a.objs.size+1)=some (w9 89 a.objs.size):=by have:a.objs.size+1=(a.push uD).objs.size:=(G2 _ _).symm;rw[this];exact bF _ rfl
      have hdd:((a.push uD).push (w9 89 a.objs.size)).get? a.objs.size=some uD:=bX _ (bF _ rfl);refine cV (S.newO (fr:=aC A) (s':=⟨(a.push uD).push (w9 89 a.objs.size),g,Q,t,os⟩) (p:=(a.objs.size+1,a.objs.size)) (o:=.slot 89 []) (fun b o e=>bX _ (bX _ e)) ⟨_,hxx⟩ ⟨_,hdd⟩ (zo (jP _)) (zo (ck _)) ⟨rfl,(by refine(?_:a.objs.size≠a.objs.size+1);exact fun e=>z6 e),#[],hxx,hdd,by decide,(fun f hf=>absurd rfl hf),fun f Y Y=>by refine(?_:(#[]:Array (Option ae))[f-8]?.join=none);simp⟩ S.gens rfl) fun l T C=>?_;have ht:=w _ (a.objs.size+1) a.objs.size _ (Fn hA 89 xs) rfl rfl l T C;refine lE ht fun r I z=>?_;rcases r with e|(v|_|_|_)<;>first|exact z.elim|skip
      refine oA z ?_;try clear z;intro q7 z;subst q7
      exact⟨rfl,z⟩
    · split at i
      · rename_i h186;clear q F H w;cases i;subst h186;exact WN (.inr rfl) B.sorter rfl rfl
      · exact am i
section
variable {α β γ δ:Type}{fr:List ai}{A:a8}{W:Wd}{s s':ak}{st Wv:List O}{hd:Bool}{n:Nat}{Wr:List aL}{U:bj}{Wp:List ai}{σ:S}
def Ex(A:a8)(Wr:List aL)(U:bj)(Wp:List ai)(RR:Wd->β->α->Prop)(t:bE α)(c:M β):Prop:=
 ∀W σ s,ar A W Wp Wr U σ s->At A Wr U W Wp σ s RR t c
end
abbrev aK(A:a8)(Wr:List aL)(U:bj)(Wp:List ai)(t:bE ae)(c:M V):Prop:=Ex A Wr U Wp (RV) t c
abbrev iz(A:a8)(Wr:List aL)(U:bj)(Wp:List ai)(t:bE Bool)(c:M Bool):Prop:=Ex A Wr U Wp RB t c
theorem At.then{f:j->bE m}{g:l->M n}(R:ar A W Wp Wr U d s)(h:Ex A Wr U Wp e t c)
  (k:∀x b a i s1,ar A a Wp Wr U i s1->av (aC A) W Wp s a s1->e a b x->At A Wr U a Wp i s1 RR' (f x) (g b)):
  At A Wr U W Wp d s RR' (t>>=f) (c>>=g):=(h W d s R).bind k
theorem At.last{t:bE p}{g:q->M u}(h:At A Wr U W Wp n s j t c)
  (k:∀x b a i s1,ar A a Wp Wr U i s1->j a b x->∃d,g b i=some (d,i)/\RR' a d x):At A Wr U W Wp n s RR' t (c>>=g):=fun d o e=>by
 refine bA e fun b i m f=>aN (h b i m) fun x s1 a r T l=>aH (k x b a i s1 r l) fun D P V=>?_;rw[P] at f;exact bg d o f (.mk a r T V)
theorem M.assoc(m:M j)(f:j->M c)(g:c->M e):((m>>=f)>>=g)=(m>>=fun x=>f x>>=g):=by
 funext s;refine(?_:M.bind (M.bind m f) g s=M.bind m (fun x=>M.bind (f x) g) s);delta M.bind;cases m s with
 |none=>rfl
 |some p=>rfl
theorem Dj:aK A Wr U Wp (constValue U k) (FE k):=fun W a s R=>by
 have val:∀{t:bE ae}{v:V},(∀Q:ae->ak->Prop,(∀x k,(∀W':Wd,W'.R v x)->Q x { s with toks:=k })->al (MD) A t Q aT s)->At A Wr U W Wp a s (RV) t (cC v):=fun{t v} h=>by exact At.of_prR R (FX R.st h)
 cases k with
 |none=>exact val fun Q q=>ay (q _ s.toks fun W'=>nM)
 |bool b=>exact val fun Q q=>ay (q _ s.toks fun W'=>rH b)
 |int i=>exact val fun Q q=>H4 (q _ _ fun W'=>gI i _)
 |str x=>exact val fun Q q=>wpAny_mkText (q _ _ fun W'=>lu x _)
 |_=>exact At.fail
theorem M4(h:aK A Wr U Wp a f)(H:aK A Wr U Wp b mb):
  aK A Wr U Wp (do let x<-a;let y<-holding [x] b;standAt pos;operate [x,y] (binaryOp op x y)) (cT op f mb):=fun W j s R=>
 At.then R h fun x u e i s1 r T l=>At.bind (At.holding (H e i s1 r)) fun y v g F o c d q=>At.standAt (At.operate (At.store (At.of_prR c (Sk c.st (d.R l) q))))
theorem Nr(h:aK A Wr U Wp a d):aK A Wr U Wp (do let v<-a;standAt pos;holding [v] (unaryOp .USub v)) (gm d):=fun W c s R=>At.then R h fun x u b i s1 r T l=>At.standAt (At.holding (At.of_prR r (Sp r.st l)))
theorem uj(R:ar A W Wp Wr U a s)(b:W.R v x):At A Wr U W Wp a s RB (wq x) (M.lift (jF a.st v)):=At.of_prR R (Sv R.st b)
theorem Nu(h:aK A Wr U Wp a e):aK A Wr U Wp (do let v<-a;standAt pos;holding [v] (unaryOp .Not v)) (Ch e):=fun W i s R=>At.then R h fun x u f j s1 r T l=>At.standAt (At.holding (At.store (by refine At.holding (At.bind (uj r l) fun b c g F o d y q=>?_);have:b=c:=q;clear q;subst this;exact At.pure d (rH _))))
theorem yi(h:aK A Wr U Wp a d):iz A Wr U Wp (do let v<-a;standAt pos;holding [v] (wq v)) (cu d):=fun W c s R=>At.then R h fun x u b i s1 r T l=>At.standAt (At.holding (At.store (uj r l)))
theorem M7(B:BO)(o:aW hd n A)(m:aK A Wr U Wp a d)(H:aK A Wr U Wp b mb):
  aK A Wr U Wp (do let l<-a;compareChain pos l [op] [b]) (kC op d mb):=fun W C s R=>by
 have e:kC op d mb=(do let x<-d;let y<-mb;let st<-store;let c<-M.lift (fp op st x y);pure (V.bool c)):=by delta kC aO;refine aa ?_ (M.assoc ..);refine congrArg (fun k=>d>>=k) ?_;funext x;refine aa ?_ (M.assoc ..);rfl
 refine aa ?_ e;exact At.then R m fun x u j p s1 r T h=>At.bind (At.holding (H j p s1 r)) fun y v t F w f g q=>At.standAt (At.operate (At.store (At.last (At.of_prR f (FQ B o f.st (g.R h) q)) fun x b D P z I i=>⟨_,rfl,by have:x=.bool b:=i;subst this;rfl⟩)))
theorem NH(B:BO)(o:aW hd n A)(m:aK A Wr U Wp a p)(H:aK A Wr U Wp b mb):
  iz A Wr U Wp (do let l<-a;testChain pos l [op] [b]) (aO op p mb):=fun W c s R=>
 At.then R m fun x u j w s1 r T i=>At.bind (At.holding (H j w s1 r)) fun y v C F P f h q=>At.standAt (At.store (by
  have e:(M.lift (fp op F.st u v):M Bool)=(M.lift (fp op F.st u v)>>=pure):=by funext c;refine(?_:_=M.bind _ _ c);delta M.bind;cases M.lift _ c<;>rfl
  refine aa ?_ e;refine At.bind (At.operate (At.of_prR f (FQ B o f.st (h.R i) q))) fun x b D σ3 Q I z g=>At.holding ?_;have:x=.bool b:=g;clear g;subst this;intro d t k;refine bg d t k ?_;exact wx (.mk D I .refl rfl)))
inductive lg(A:a8)(Wr:List aL)(U:bj)(Wp:List ai):List (bE ae)->List (M V)->Prop
 |nil:lg A Wr U Wp [] []
 |cons {t:bE ae}{m:M V}{ts:List (bE ae)}{ms:List (M V)}:aK A Wr U Wp t m->lg A Wr U Wp ts ms->lg A Wr U Wp (t::ts) (m::ms)
theorem MX(h:lg A Wr U Wp d a):aK A Wr U Wp (boolOp pos .And d) (pK a):=by
 induction h with
 |nil=>exact fun W f s R=>At.fail
 |@cons t m d a h Q I=>cases Q with
 |nil=>exact h
 |@cons t' j d a i Q=>
  intro W f s R;refine At.then R h fun x u g k s1 r T l=>At.standAt (At.store (At.bind (At.holding (uj r l)) fun b c v F o e y q=>?_));have:b=c:=q;clear q;subst this;cases b with
  |true=>exact I v F o e
  |false=>exact At.pure e (y.R l)
theorem Nv(h:lg A Wr U Wp d a):aK A Wr U Wp (boolOp pos .Or d) (kE a):=by
 induction h with
 |nil=>exact fun W f s R=>At.fail
 |@cons t m d a h Q I=>cases Q with
 |nil=>exact h
 |@cons t' j d a i Q=>
  intro W f s R;refine At.then R h fun x u g k s1 r T l=>At.standAt (At.store (At.bind (At.holding (uj r l)) fun b c v F o e y q=>?_));have:b=c:=q;clear q;subst this;cases b with
  |true=>exact At.pure e (y.R l)
  |false=>exact I v F o e
theorem Dk{m:M Bool}{D:Wd->g->j->Prop}(p:iz A Wr U Wp t m)(h:Ex A Wr U Wp D a f)(H:Ex A Wr U Wp D b mb):
  Ex A Wr U Wp D (do if <- t then a else b) (do if <- m then f else mb):=fun W k s R=>
 At.then R p fun x c e i s1 r T l=>by
  have:x=c:=l;clear l;subst this;cases x with
  |true=>exact h e i s1 r
  |false=>exact H e i s1 r
theorem NI{m:M Bool}(p:iz A Wr U Wp t m):iz A Wr U Wp (do return !(<-t)) (do let b<-m;pure (!b)):=fun W d s R=>At.then R p fun x c a i s1 r T l=>by have:x=c:=l;clear l;subst this;exact At.pure r rfl
theorem Dp(h:lg A Wr U Wp b a):Ex A Wr U Wp (fun W vs xs=>W.Rs vs xs) (z9 (cr pos (b.map (false,·)))) (hZ a):=by
 induction h with
 |nil=>exact fun W g s R=>At.pure R rfl
 |@cons t m b a h Q I=>intro W g s R;refine At.then R h fun x u f i s1 r T l=>?_;intro d n e;exact(At.bind (At.holding (I f i s1 r)) fun xs vs v F o c y q=>At.pure c (VRs.cons (y.R l) q)) d n e
theorem xr(R:ar A W Wp Wr U a s)(h:al (MD) A t (fun x s'=>∃p,x=.ref p.1/\aE (W.push p) (a.st++[o]) s'/\av (aC A) W [] s (W.push p) s'/\(W.push p).R (.obj a.st.length) (.ref p.1)) aT s):
  At A Wr U W Wp a s (RV) t (newO o):=fun v n e=>by
 refine bg v n e (wN h fun x s1 b=>?_);refine TM x b ?_;intro p r T C;exact .mk _ (ar.lift R r T) T.up C
theorem Ni(h:lg A Wr U Wp t d):
  aK A Wr U Wp (do standAt pos;newList (<-z9 (cr pos (t.map (false,·))))) (bY own d):=fun W g s R=>by
 refine At.standAt (At.then R (Dp h) fun xs vs f i s1 r T l=>?_);intro v n e;split at e
 ·rename_i c;have B:xs.length<=l7:=by refine aa ?_ (VRs.length l);exact bb c d7
  cases own with
  |true=>refine xr r (H6 ?_ B) v n e;exact cV (r.st.newO (s':={ s1 with heap:=s1.heap.push _ }) (p:=(s1.heap.objs.size,s1.heap.objs.size)) (o:=.list vs) (co _ _) ⟨_,bF _ rfl⟩ ⟨_,bF _ rfl⟩ (bG _) (bG _) ⟨rfl,c,xs.toArray,0,bF _ rfl,VRs.mono (fun Y Y e=>e) oB _ _ l⟩ r.st.gens rfl) fun a y C=>⟨_,rfl,a,y,C⟩
  |false=>refine bg v n e (H6 ?_ B);obtain⟨b,a,y,C⟩:=(ou (s':={ s1 with heap:=s1.heap.push (bL xs.toArray 0) }) r.st l c (bF _ rfl) (bG _) (co _ _)).ex;exact .mk b (ar.lift r a y) y.up C
 ·exact am e
theorem NN(h:lg A Wr U Wp t d):
  aK A Wr U Wp (do standAt pos;sN (<-z9 (cr pos (t.map (false,·))))) (dZ d):=fun W g s R=>by
 refine At.standAt (At.then R (Dp h) fun xs vs f i s1 r T l=>?_);intro v n e;split at e
 ·rename_i c;have B:xs.length<=l7:=by rw[VRs.length l];exact bb c d7
  refine kd v n (cB (aR e)) (H7 ?_ B);obtain⟨b,a,y,C⟩:=(vm (s':={ s1 with heap:=s1.heap.push _ }) r.st l c (bF _ rfl) (bG _) (co _ _)).ex;exact .mk b (ar.lift r a y) y.up C
 ·exact am e
theorem Nb:aK A Wr U Wp (do standAt pos;newDict) cDict0:=fun W b s R=>by refine At.standAt (xr R ?_);exact cV (R.st.newO (s':={ s with heap:=s.heap.push _ }) (p:=(s.heap.objs.size,s.heap.objs.size)) (o:=.dict [] 0) (co _ _) ⟨_,bF _ rfl⟩ ⟨_,bF _ rfl⟩ (bG _) (bG _) ⟨rfl,.nil,#[],bF _ rfl,by exact(rfl:(#[]:Array i0).toList=[])⟩ R.st.gens rfl) fun a y C=>wB (H2 (ay ⟨_,rfl,a,y,C⟩))
theorem Fq{M:eF}{E:ae->ak->Prop}(h:al M A t Q E s):al M A (operate vs t) Q E s:=fun Γ p hΓ=>by refine aa ?_ (JU ..);exact h Γ p hΓ
theorem DR{M:eF}{E:ae->ak->Prop}(h:hU s x)(q:Q false s):al M A (DQ x) Q E s:=gb h fun T id a H=>aq (tG a H (ay q))
theorem NG(m:aK A Wr U Wp k B)(H:aK A Wr U Wp j n)(t:∀o i,Af slice false o i=operate [o,i] (pY o i)):
  aK A Wr U Wp (do let o<-k;let i<-holding [o] j;standAt pos;let r<-Af slice (<-DQ o) o i;uZ Q o r;pure r) (aX B n):=fun W σ s R=>
 At.then R m fun x u h w s1 g T l=>At.bind (At.holding (H h w s1 g)) fun y v D F I b c f=>At.standAt (by
  intro d p e;have a:(M.lift _:M V) F=some _:=e;cases q:fR F.st u v with
  |none=>obtain a:=q▸a;exact am a
  |some r=>rw[q] at a;refine kd d p (cB (aR a)) (aq (DR ((FU (A:=A) b.st (c.R l) f r q).1) ?_));refine aa ?_ (t ..);refine wB ?_;have:=At.operate (vs:=[x,y]) (At.of_prR b ((FU b.st (c.R l) f r q).2)) r F rfl;refine wN this fun z P C=>?_;exact wB (ww (ay C)))
theorem NE(h1:aK A Wr U Wp eo mo)(h2:aK A Wr U Wp el ml)(h3:aK A Wr U Wp eu mu)(h4:aK A Wr U Wp ek mk)
  (hs:∀o i,∃l,Af slice false o i=operate l (pY o i)):
  aK A Wr U Wp (do let o<-eo;let i<-holding [o] (do let l<-el;let u<-holding [l] eu;let k<-holding [l,u] ek;newFields "slice" [l,u,k]);standAt pos;let r<-Af slice (<-DQ o) o i;uZ value o r;pure r)
   (dg mo ml mu mk):=fun W σ s R=>
 At.then R h1 fun x u W1 σ1 s1 D T1 m=>by
  intro d σ' e;refine(bind_some e) _ fun w F e2 e=>(bind_some e) _ fun B C e3 e=>(bind_some e) _ fun v g e4 e=>?_;have a:(M.lift _:M V) g=some _:=e;cases q:kh g.st u w B v with
  |none=>obtain a:=q▸a;exact am a
  |some r=>
   rw[q] at a;refine bg d σ' a (er (eZ (h2 W1 σ1 s1 D w F e2) fun xl s2 b=>?_));refine b _ fun W2 H y V2=>er (wN (h3 W2 F s2 H B C e3) fun xu s3 b=>?_);refine b _ fun W3 P c V3=>er (wN (h4 W3 C s3 P v g e4) fun xk f b=>?_);refine b _ fun W4 h p V4=>?_;obtain⟨n,t⟩:=Sr h.st (p.R (c.R (y.R m))) (p.R (c.R V2)) (p.R V3) V4 q;refine k8 (eC (aq ?_));have hT':hU { f with heap:=f.heap.push { cls:=.type "slice",data:=.fields #[xl,xu,xk] } } x:=by refine gb n fun T id I g2=>⟨T,id,?_,g2⟩;clear m n t;cases x<;>first|exact I|(exact oE I fun o k1=>⟨o,co _ _ _ _ k1.1,k1.2⟩)
   refine DR hT' (oE (hs x (.ref f.heap.objs.size)) fun l hl=>?_);refine aa ?_ hl;refine wB (Fq (wN t fun z s5 h5=>?_));refine wB (ww (ay ?_));exact h5 _ fun W5 Q j V5=>.mk W5 (ar.lift h Q j) (((y.trans c).trans p).tu j) V5
theorem M0(B:BO)(k:aW hd n A)(h:aK A Wr U Wp c f):
  aK A Wr U Wp (do let o<-c;standAt pos;let r<-holding [o] (lK o nm true);uZ p o r;pure r) (bT (dt nm) f):=fun W t s R=>
 At.then R h fun x u j i s1 b T l=>At.standAt (by
  intro d g e;have a:(M.lift _:M V) i=some _:=e;cases q:kB i.st _ u with
  |none=>obtain a:=q▸a;exact am a
  |some r=>rw[q] at a;refine kd d g (cB (aR a)) (er (wN (At.of_prR b (FM B k b.st l q) r i rfl) fun z m C=>?_));exact wB (ww (ay C)))
theorem NO{I:Str}(b:fo I Wr=some i)(h:aK A Wr U Wp e m):
  aK A Wr U Wp (do let v<-e;holding [v] (fi (.Name I p) U v);pure v) (pM i m):=fun W f s R=>
 At.then R h fun x u c g s1 r T l=>by exact At.bind (At.holding (At.standAt (ui r b l))) fun Y Y d F o a y Y=>At.pure a (y.R l)
inductive cO(A:a8)(Wr:List aL)(U:bj)(Wp:List ai):List (Bool×bE ae)->List (Bool×M V)->Prop
 |nil:cO A Wr U Wp [] []
 |cons {b:Bool}{t:bE ae}{m:M V}{ts:List (Bool×bE ae)}{ms:List (Bool×M V)}:aK A Wr U Wp t m->cO A Wr U Wp ts ms->cO A Wr U Wp ((b,t)::ts) ((b,m)::ms)
theorem cO.star(h:cO A Wr U Wp t a)(pos:ef):(cr pos t).any (·.1)=a.any (·.1):=by
 induction h with
 |nil=>rfl
 |cons _ _ I=>refine(?_:(_||(cr pos _).any (·.1))=(_||_));exact aa rfl I
theorem MY(h:cO A Wr U Wp p j):Ex A Wr U Wp (fun W vs xs=>W.Rs vs xs) (z9 (cr pos p)) (jX j):=by
 induction h with
 |nil=>exact fun W f s R=>At.pure R (by exact(rfl:([]:List ae)=[]))
 |@cons b t m p j h hr I=>
  cases b with
  |false=>intro W f s R;refine At.then R h fun x u c i s1 r T a=>?_;intro d n e;exact(At.bind (At.holding (I c i s1 r)) fun xs vs W2 σ2 s2 v y V2=>At.pure v (VRs.append (VRs.one (y.R a)) V2)) d n e
  |true=>
   intro W f s R;intro d n e;refine bA e fun u i e1 e=>bA e fun us σ2 e2 e=>?_;have P:(M.lift _:M _) i=some _:=e2;unfold M.lift Eg at P;cases q:cM i.st u with
   |none=>obtain P:=q▸P;exact am P
   |some us'=>
    obtain⟨rfl,rfl⟩:=cB (aR (q▸P));refine wB (eZ (h W f s R u i e1) fun x s1 hh=>eC (ay ?_));refine hh _ fun c r T a=>?_;refine(qj r.st a q) _ fun hl l items k ez587 g w=>?_;obtain rfl:=ez587;refine wB ?_;have hni:∀{Q:Bool->ak->Prop},Q false s1->al (MD) A (notIterableAtAll (.ref l)) Q aT s1:=fun hq=>by exact wB (tG ⟨_,g,rfl⟩ slot_list_iter.lookup (ay hq))
    refine hni ?_;obtain⟨its⟩:=items;refine wB (collect_list ⟨_,g,rfl,k,rfl⟩ ?_ (by have:=dQ w;simp at this;refine aa ?_ this;exact bb hl d7));obtain hk:=fun b o e=>(nA _ _ _ _ (cQ (cG e))).trans (bX _ e)
    exact oA (r.st.keeps (s':={ s1 with heap:=(s1.heap.push _).update s1.heap.objs.size _ }) hk r.st.gens rfl) fun D y=>aN ((At.bind (At.holding (I c i _ (ar.lift r D y))) fun xs vs W3 σ3 s3 B F V3=>At.pure B (VRs.append (F.Rs w) V3)) d n e) fun z s4 W4 C H V4=>.mk W4 C ((T.trans (y.mono (by simp))).trans H) V4
theorem lG(h:cO A Wr U Wp k j):
  Ex A Wr U Wp (fun W vs a=>a.kw=[]/\W.Rs vs a.pos) (evalArgs f true (cr pos k) []) (dY j):=fun W l s R=>by
 intro d n e;delta dY at e;split at e
 ·exact am e
 ·have i:=MY (pos:=pos) h W l s R d n e;cases h with
  |nil=>exact ua (bg d n e (.mk W R .refl ⟨rfl,by rfl⟩))
  |@cons b t m k j h Q=>
   clear e;cases b with
   |false=>exact AO (wN i fun vs s1 g=>by exact g _ fun W' a b c=>.mk W' a b ⟨rfl,c⟩)
   |true=>
    cases Q with
    |nil=>trivial
    |@cons F T p r q H o=>refine eZ i fun vs s1 g=>eD (nq (nq (ay ?_)));exact g _ fun W' a b c=>.mk W' a b ⟨rfl,c⟩
def jM(M:eF)(A:a8)(f:ae)(s:ak):Prop:=∀(Q:Keeper->ak->Prop)(E:ae->ak->Prop),(∀k,Q k s)->al M A (keeperOf f) Q E s
theorem iI{M:eF}{E:ae->ak->Prop}
    (h:al M A (evalArgs f true F []) (fun a s1=>jM M A f s1/\al M A (call f (first++a.pos) a.kw) Q E s1) E s):al M A (dJ pos f first F []) Q E s:=by
  refine aq (eD (bM h (fun a s1 b=>aq (tH ?_)) fun Y Y x=>x));have e:∀{t:bE ae},al M A t Q E s1->al M A (t>>=fun r=>holding [r] point>>=fun Y=>pure r) Q E s1:=
    fun p=>aq (bM p (fun r i d=>aq (eD (wpAny_point (ay d)))) fun Y Y x=>x)
  refine aq (b.1 _ _ fun k=>?_);have c:∀m,al M A (callMarked m f _ a.kw) Q E s1:=fun m=>by exact Calls.wpAny_keep b.2
  cases k<;>cases g:(F.any (·.1)||([]:List _).any _)<;>dsimp only <;>first
    |exact e b.2
    |exact e (c _)
    |exact e ((fun vs=>Fq b.2) _)
    |(split<;>first|exact e b.2|exact e (c _))
theorem qc{m:eF}{i:String}:jM m A (.builtin i) s:=fun Q E h=>ay (h _)
theorem qd{m:eF}{i:String}:jM m A (.type i) s:=fun Q E h=>ay (h _)
theorem PJ{M:eF}(b:s.heap.get? a=some o)(H:o.data=.func f):jM M A (.ref a) s:=fun Q E h=>by refine aq (kn b ?_);refine aa ?_ H;exact ay (h _)
def KF(k:K):Prop:=∀a Wt st r,k a Wt st=some r->∃fd,kI a=some fd
theorem pE(R:ar A W Wp Wr U g s)(h:cO A Wr U Wp t o)
  (k:∀vs xs b i s1,ar A b Wp Wr U i s1->av (aC A) W Wp s b s1->b.Rs vs xs->jM (MD) A f s1/\At A Wr U b Wp i s1 (RV) (call f (first++xs)) (body vs)):
  At A Wr U W Wp g s (RV) (dJ pos f first (cr pos t) []) (dY o>>=body):=by
 intro d p e;refine bA e fun vs i l m=>iI (wN (lG h W g s R vs i l) fun a s1 n=>?_);refine n _ fun b r T c=>⟨((k vs a.pos b i s1 r T c.2).1),?_⟩;refine aa ?_ c.1;exact aN (((k vs a.pos b i s1 r T c.2).2) d p m) fun x u v j y q=>.mk v j (T.trans y) q
theorem R9{i:Str}(z:eM c Wr (.Name i p)=some u):qC c Wr i=cC u:=by
 refine ax z fun id' w z=>cD z (fun Y e=>am e) fun A z=>bq z fun m z=>?_;obtain rfl:i=id':=aR w;have I:vc i Wr=none:=by
  cases Wr with
  |nil=>rfl
  |cons sc r=>refine i9 m fun q h H=>(?_:(cv i sc.names 0).bind _=_);refine aa ?_ h;refine(if_neg ?_).trans (if_neg ?_)<;>(refine aa ?_ (of_decide_eq_true H);decide)
 delta qC;refine aa ?_ (if_neg A);refine aa ?_ I;refine(if_pos m).trans ?_;refine aa ?_ z;rfl
def BF:Prop:=∀a fd,kI a=some fd->FO a fd
theorem yP{d:List O}(F:BF)(P:KF k)(e:k a b d=some r)(S:aE W d s):jM (MD) A (.ref a) s:=by obtain⟨q,c⟩:=P a b d r e;exact(F a q c) _ fun o f h H Y Y Y Y Y Y Y Y Y Y Y=>PJ (S.keepB _ _ h) H
theorem Nd(F:BF)(l:KS n k)(P:KF k)(j:aW false n A)(h:cO A Wr U Wp t m):
  aK A Wr U Wp (dJ pos (.ref a) [] (cr pos t) []) (ct k a m):=fun W o s R=>by
 intro d p e;refine bA e fun vs u f g=>iI (wN (lG h W o s R vs u f) fun x s1 i=>?_);refine i _ fun w r T c=>⟨yP F P ((nU g).1) r.st,?_⟩;refine aa ?_ c.1;exact aN (xp l j r c.2 d p g) fun x z v b y q=>.mk v b (T.trans y) q
theorem PH{g:List O}(B:BO)(a:kG c=some cl)(S:aE W g s):jM (MD) A (.ref c) s:=by
 intro Q E q;have d:∀{init:ai}{meths:List _},CF c init meths->al (MD) A (keeperOf (.ref c)) Q E s:=fun{init meths} p=>by refine p.1 _ fun nm e N bs sn sub col dd k0 k1 k2 k3 k5 x c1 Y Y Y Y Y Y Y=>wB (kn (S.keepB _ _ c1) ?_);exact wB (tG ⟨_,(S.keepB _ _ c1),rfl⟩ tc_lookup (ay (q _)))
 delta kG at a;split at a
 ·rename_i f;subst f;exact d B.entry
 ·split at a
  ·rename_i j;clear d;subst j;refine B.node _ fun K X I P R r h H=>?_;obtain⟨⟨oc,l,i,sl,D,_⟩,_,_,_,_,b,_⟩:=makes_of (X.keeps S.keepB) h.1;refine wB (kn D ?_);exact wB (b.here (ay (q _)))
  ·split at a
   ·rename_i k;subst k;exact d B.sorter
   ·exact am a
theorem Nt(B:BO)(j:KS n k)(a:aW false (n+1) A)(q:kG c=some cl)(h:cO A Wr U Wp t b):
  aK A Wr U Wp (dJ pos (.ref c) [] (cr pos t) []) (nT k c cl b):=fun W e s R=>
 pE R h fun vs xs d i s1 r T l=>⟨PH B q r.st,Ku B j a q r l⟩
theorem FK(e:ij A=some (m::l)):∃r,A=(false,m)::r/\ij r=some l:=by
 cases A with
 |nil=>cases e
 |cons p r=>
  obtain⟨b,x⟩:=p;cases b with
  |true=>exact am e
  |false=>exact ax e fun c h e=>by cases e;exact⟨r,rfl,h⟩
theorem FL(e:ij A=some []):A=[]:=by
 cases A with
 |nil=>rfl
 |cons p r=>exact cD e (fun Y e=>am e) fun Y e=>ax e fun l h e=>by cases e
theorem oz(e:ij A=some [m]):A=[(false,m)]:=by obtain⟨r,rfl,h⟩:=FK e;refine aa ?_ (FL h);rfl
theorem vK(e:ij A=some [a,b]):A=[(false,a),(false,b)]:=by obtain⟨r,rfl,h⟩:=FK e;refine aa ?_ (oz h);rfl
theorem rL:dY [(false,x)]=(x>>=fun u=>pure [u]):=by
 funext a;cases x a with
 |none=>rfl
 |some p=>rfl
theorem xn:dY [(false,x),(false,y)]=(x>>=fun u=>y>>=fun v=>pure [u,v]):=by
 funext a;refine(?_:M.bind x (fun v=>M.bind (M.pure [v]) fun b=>M.bind (M.bind y fun v=>M.bind (M.pure [v]) fun b=>M.bind _ fun vs=>M.pure _) fun vs=>M.pure _) a=M.bind x (fun u=>M.bind y fun v=>M.pure [u,v]) a);delta M.bind;cases x a with
 |none=>rfl
 |some p=>
  dsimp only[M.pure];cases y p.2 with
  |none=>rfl
  |some q=>rfl
theorem Ej{b:B1}:jM (MD) A b.fn s:=by cases b<;>first|exact qc|exact qd
theorem PF{b:B2}:jM (MD) A b.fn s:=by cases b<;>exact qc
theorem M6(c:aW false n A)(h:cO A Wr U Wp t [(false,x),(false,y)]):
  aK A Wr U Wp (dJ pos b.fn [] (cr pos t) []) (c2 b x y):=fun W o s R=>by
 have e:c2 b x y=(dY [(false,x),(false,y)]>>=fun vs=>match vs with|[u,v]=>M.lift (nS b u v)|_=>M.fail):=by refine aa (aa ?_ (M.assoc ..)) xn;refine congrArg (fun k=>x>>=k) (funext fun u=>?_);refine aa ?_ (M.assoc ..);rfl
 refine aa ?_ e;refine pE R h fun vs xs g p s1 r T l=>⟨PF,?_⟩
 match vs,l with
 |[u,v],l=>refine(eA l) _ fun z i f z1 H=>?_;obtain rfl:=f;refine(eA H) _ fun m j a D d=>?_;obtain rfl:=a;obtain rfl:=ej d;exact At.of_prR r (Sj c r.st z1 D)
 |[],_=>exact At.fail
 |[_],_=>exact At.fail
 |_::_::_::_,_=>exact At.fail
theorem sw{C:Str->BI->Prop}(e:(if nm==a then some g else o)=some b)(k:C a g)(l:o=some b->C nm b):C nm b:=
 cD e (fun h e=>cy e (eq_of_beq h▸k)) fun Y e=>l e
theorem um(e:o.map Meth.bi=some (.bi b)):o=some b:=by
 cases o with
 |none=>exact am e
 |some c=>cases e;rfl
theorem uM{C:Prop}{o:Option BI}(e:o.map Meth.bi=some (.fn a)):C:=by
 cases o with
 |none=>exact am e
 |some c=>cases e
theorem DS{i:List O}(S:aE W i s)(r:W.R v x)(e:jr meth nm i v=some (.bi b)):Q (.builtin b.id,[x]) s->
  al MD A (j2 x nm c) Q aT s:=by
 refine ch e (fun e=>jA e r fun p t e=>?_) fun e=>iS e r fun j p g e=>ch e (fun e=>ax e fun vs q e=>?_) fun e=>ch e (fun e=>ax e fun d q e=>?_) fun e=>ch e (fun e=>ax e fun d q e=>?_) fun e=>?_
 ·exact sw (C:=fun nm b=>Q (.builtin b.id,[.str p t]) s->al MD A (j2 _ nm c) Q aT s) (um e) GM.startswith fun e=>sw (C:=fun nm b=>Q (.builtin b.id,[.str p t]) s->al MD A (j2 (.str p t) nm c) Q aT s) e GM.endswith fun e=>sw (C:=fun nm b=>Q (.builtin b.id,[.str p t]) s->al MD A (j2 (.str p t) nm c) Q aT s) e GM.split fun e=>sw (C:=fun nm b=>Q (.builtin b.id,[.str p t]) s->al MD A (j2 (.str p t) nm c) Q aT s) e GM.join fun e=>am e
 ·have hd:∀a,cm p.1=.ref a->∃ob,s.heap.get? a=some ob/\ob.dict=none:=fun a e=>by have o:=S.objs j p g;rw[lY q] at o;obtain⟨l,k,items,m,h,H⟩:=o;cases e;exact⟨_,h,rfl⟩
  have f:s.TypeIs (.ref p.1) "list" := by have o:=S.objs j p g;rw[lY q] at o;obtain⟨l,k,items,m,h,H⟩:=o;exact⟨_,h,rfl⟩
  refine sw (C:=fun nm b=>Q (.builtin b.id,[.ref p.1]) s->al MD A (j2 (.ref p.1) nm c) Q aT s) (um e) (sx f F.plainAttrs_list F.slot_list_append F.type_list_append hd) fun e=>?_;refine sw (C:=fun nm b=>Q (.builtin b.id,[.ref p.1]) s->al MD A (j2 (.ref p.1) nm c) Q aT s) e (sx f F.plainAttrs_list F.slot_list_extend F.type_list_extend hd) fun e=>?_;refine sw (C:=fun nm b=>Q (.builtin b.id,[.ref p.1]) s->al MD A (j2 (.ref p.1) nm c) Q aT s) e (sx f F.plainAttrs_list F.slot_list_pop F.type_list_pop hd) fun e=>?_;exact sw (C:=fun nm b=>Q (.builtin b.id,[.ref p.1]) s->al MD A (j2 (.ref p.1) nm c) Q aT s) e (sx f F.plainAttrs_list F.slot_list_clear F.type_list_clear hd) fun e=>am e
 ·have o:=S.objs j p g;rw[gr q] at o;obtain⟨l,Y,u,h,H⟩:=o;exact sw (C:=fun nm b=>Q (.builtin b.id,[.ref p.1]) s->al MD A (j2 (.ref p.1) nm c) Q aT s) (um e) (sx ⟨_,h,rfl⟩ F.plainAttrs_dict F.slot_dict_get F.type_dict_get (fun a e=>by cases e;exact⟨_,h,rfl⟩)) fun e=>am e
 ·have o:=S.objs j p g;rw[sP q] at o;obtain⟨l,k,w,h,H⟩:=o;exact sw (C:=fun nm b=>Q (.builtin b.id,[.ref p.1]) s->al MD A (j2 (.ref p.1) nm c) Q aT s) (um e) (getMethod_set_add (H.setOf h (wg k))) fun e=>am e
 ·refine ax e fun d q e=>?_;cases n:meth d.1 nm with
  |none=>rw[n] at e;exact am e
  |some a=>rw[n] at e;cases e
def zc(W:Wd)(st:List O)(nm:Str)(v:V)(x:ae)(a:ai):Prop:=∀C:Prop,(∀j p c fs,v=.obj j->W.ρ[j]?=some p->x=.ref p.1->aD st j=.inst c fs->bc c nm=some a->C)->C
theorem zc.mk{s:List O}{n:Str}{e:V}{X:ae}{a:ai}:∀j p c fs,e=.obj j->w.ρ[j]?=some p->X=.ref p.1->aD s j=.inst c fs->bc c n=some a->zc w s n e X a:=fun d z m x3 x4 h f u b C k=>k d z m x3 x4 h f u b
theorem EQ{k:List O}(S:aE W k s)(i:W.R v x)(b:jr bc nm k v=some (.fn a)):
  zc W k nm v x a:=by
 refine ch b (fun e=>ax e fun p Y e=>uM e) fun e=>ax e fun j h f=>ch f (fun e=>ax e fun vs Y e=>uM e) fun e=>ch e (fun e=>ax e fun d Y e=>uM e) fun e=>ch e (fun e=>ax e fun d Y e=>uM e) fun e=>ax e fun d q g=>?_;cases qU h;obtain⟨p,c,rfl⟩:=i;refine .mk j p d.1 d.2 rfl c rfl (ow q) (?_);cases m:bc d.1 nm with
 |none=>rw[m] at g;exact am g
 |some Q=>cases (m▸g);rfl
theorem EO(h:bc c nm=some a):c=186/\gV.lookup nm=some a:=by
 delta bc kG at h;split at h
 ·exact am h
 ·split at h
  ·exact am h
  ·split at h
   ·trivial
   ·exact am h
theorem vd{l:List (Str×ai)}(h:l.lookup nm=some a):(nm,a)∈l:=by
 induction l with
 |nil=>exact am h
 |cons p r I=>
  rw[gA] at h;cases e:(nm==p.1) with
  |true=>rw[e] at h;cases h;refine aa ?_ (eq_of_beq e);exact bK
  |false=>rw[e] at h;exact bD _ (I h)
theorem Qz(h:(nm,a)∈gV):fy (.type "object") nm=pure none:=aa (aa (aa rfl ((by decide +kernel:∀p∈gV,Ds "object" p.1=some none) _ h)) K7) (typeLookup_type ..)
theorem EP(h:(nm,a)∈gV):∀f,f<=10->nm≠ca f:=fun f o=>(by decide +kernel:∀p∈gV,∀f,f<11->p.1≠ca f) _ h f (kA o)
theorem FsR.keys{e:Fz}{i:List (ai×ai)}:∀{fs:List (Nat×V)}{m:Str->Option ae}{nm:Str},FsR e i fs m->(∀f,f<=10->nm≠ca f)->m nm=none:=by
 intro l00;induction l00 with
 |nil=>intro m nm h _;exact h nm
 |cons y0 r ih=>
  intro m nm h k;obtain⟨g,u⟩:=y0;refine qx h fun d y a b c=>?_;have:=ih c k
  rwa [if_neg (k g d)] at this
theorem DT{G:List O}(B:BO)(S:aE W G s)(f:W.ρ[j]?=some p)(r:aD G j=.inst c fs)(d:bc c nm=some a)
  (q:Q (.ref a,[.ref p.1]) s):al (MD) A (j2 (.ref p.1) nm H) Q aT s:=by
 refine oA (EO d) fun t b=>?_;clear d;subst t;obtain o:=S.objs j p f;rw[r] at o;refine zs o fun x i n D m y k l=>?_;obtain⟨g,h⟩:=B.sorter;refine g _ fun C T N bs sn sub col dd k0 k1 k2 k3 k5 z c1 c2 c3 R u v w e=>?_;exact aH (h a (.inr ⟨nm,b⟩)) fun F I P=>method_of (S.keepB _ _ c1) (c2.keeps S.keepB) c3 R (e nm a b) (S.keepB _ _ I) P (Qz (vd b)) (yE n i y k) (FsR.keys l (EP (vd b))) q
theorem vh(h:cO A Wr U Wp t ms)(v:n<30):methodCallForm n (cr pos t) []=!ms.any (·.1):=by
 delta methodCallForm;have:(cr pos t).all (!·.1)=!(cr pos t).any (·.1):=by
  generalize cr pos t=l;induction l with
  |nil=>rfl
  |cons x r I=>simp[I]
 refine aa (aa ?_ (h.star pos)) this;simp[v]
theorem Nk(B:BO)(F:BF)(hk:KS n k)(hkf:KF k)(hA:aW false n A)
  (h1:aK A Wr U Wp eo mo) (h:cO A Wr U Wp ts Q) (WW:(C.endLine==pos.line)=true) (hn:na<30) (hst:Q.any (·.1)=false):
  aK A Wr U Wp (do let ov<-eo;standAt C.atName;lS o nm C pos U ov na (cr pos ts) []) (bJ k bc nm mo Q):=fun W σ s R=>by
 obtain H:=vh h hn;rw[hst] at H;have P:lT true o U C pos=pure pos:=by delta lT;simp[WW]
 refine At.then R h1 fun x u W1 σ1 s1 r T1 t=>At.standAt ?_;intro d T e;refine hG fun C kk=>?_;obtain⟨st0,σ0,z,e⟩:=(bind_some e).ex;obtain⟨q21,q22⟩:=cB (aR z);subst q21;subst q22;obtain⟨m,w,g,v⟩:=(bind_some e).ex;refine kk ?_;delta M.lift at g;cases q:jr bc nm σ1.st u with
 |none=>obtain g:=q▸g;exact am g
 |some m'=>
  rw[q] at g;obtain⟨q23,q24⟩:=cB (aR g);subst q23;clear z e;subst q24;split at v
  ·delta lS;refine aa ?_ H;clear g;cases m' with
   |bi b=>refine er (DS r.st t q ?_);refine iX P ?_;exact pE r h (fun vs xs W2 w s2 i l V2=>⟨qc,At.of_pr i _ (FP B i.st (l.R t) V2) rfl⟩) d T v
   |fn a=>refine(EQ r.st t q) _ fun j p c fs q25 hp q26 q0 hm=>?_;clear e q;subst q26;refine er (DT B r.st hp q0 hm ?_);refine iX P ?_;refine hG fun C kk2=>?_;obtain⟨vs,w,e3,D⟩:=(bind_some v).ex;refine kk2 (iI (wN (lG h W1 σ1 s1 r vs w e3) fun y s2 h2=>?_));refine h2 _ fun W2 i l I=>?_;refine⟨yP F hkf ((nU D).1) i.st,?_⟩;refine aa ?_ I.1;exact bM (xp hk hA i (VRs.cons (l.R t) I.2) d T D) (fun x s3 hz43=>hz43 _ fun W3 R3 WE V3=>.mk W3 R3 (l.trans WE) V3) fun Y Y f=>f
  ·exact am v
theorem FW{G:List O}(c:aW hd n A)(S:aE W G s)(h:W.R v x):dp A W s G RV (call (.type "str") [x]) (eI .str G v):=fun r e=>by
 refine ax e fun p i e=>ax e fun w u e=>ax e fun z hz e=>bq e fun d e=>?_;obtain⟨Y,a,o,xs,b,items,k,rfl,f1,f2,j,f4,f,F⟩:W.R _ x:=Vu i▸h;obtain⟨l⟩:=items;obtain⟨t,rfl⟩:∃t,l=[.str z t]:=wj u (fun g=>by obtain⟨y,D,rfl,f7,rfl⟩:=g;rw[ty hz] at f7;obtain⟨t,rfl⟩:=f7;exact⟨t,rfl⟩) F
 rw[eq_of_beq d] at f2;refine pv S e fun Q q=>?_;obtain⟨C,g,B,m,os⟩:=s;exact P.str_of_exc_one PySem.F.excStr_ValueError (by have:=v8 (k:=2) c (by decide);trivial) ⟨o,xs,S.frozen _ _ f1,f2,j,f4⟩ ⟨_,k,S.frozen _ _ f,rfl,rfl⟩ (q _ m fun Y=>lu _ _)
noncomputable def uC:B1->Bool
 |.len|.sum|.sorted|.type|.str|.tuple=>true
 |.min|.max|.set=>false
theorem Si{c:List O}(k:aW false n A)(S:aE W c s)(a:uC b=true)(p:W.R v x):dp A W s c (RV) (call b.fn [x]) (eI b c v):=by
 cases b with
 |len=>exact Sm S p
 |sum=>exact Su k S p
 |sorted=>exact Ss S p
 |type=>exact Sx S p
 |str=>exact FW k S p
 |tuple=>exact Sw S p
 |_=>trivial
theorem uH(k:aW false n A)(c:uC b=true)(h:cO A Wr U Wp t [(false,x)]):
  aK A Wr U Wp (dJ pos b.fn [] (cr pos t) []) (c1 b x):=fun W f s R=>by
 have e:c1 b x=(dY [(false,x)]>>=fun vs=>match vs with|[u]=>(do M.lift (eI b (<-store) u))|_=>M.fail):=by refine aa (aa ?_ (M.assoc ..)) rL;rfl
 refine aa ?_ e;refine pE R h fun vs xs d i s1 r T l=>⟨Ej,?_⟩
 match vs,l with
 |[u],l=>refine(eA l) _ fun z v a z1 H=>?_;obtain rfl:=a;obtain rfl:=ej H;exact At.store (At.of_prR r (Si k r.st c z1))
 |[],_=>exact At.fail
 |_::_::_,_=>exact At.fail
def dc(W:Wd)(h:bk)(I J:ai):cn->Prop
 |.vals vs=>J=I/\((∃l items m i,W.F l=some (bL items m)/\h.IsListIter I l i/\W.Rs vs (items.toList.drop i)) ∨
   (∃l items m i,W.F l=some (dS items m)/\h.IsTupleIter I l i/\W.Rs vs (items.toList.drop i)) ∨
   (∃(x:Int)(k:Nat),IsRangeIter h I x k 1/\vs=(iE k).map fun(i:Nat)=>V.int (x+i)))
 |.lidx k i=>J=I/\∃p,W.ρ[k]?=some p/\h.IsListIter I p.1 i
 |.didx k i m ep sel=>J=I/\∃p,W.ρ[k]?=some p/\(if sel then h.IsValIter I p.1 i m ep else h.IsKeyIter I p.1 i m ep)
 |.enum j vs=>J≠I/\∃l items m old,W.F l=some (bL items m)/\IsEnum h I J j old/\h.IsListIter J l j/\W.Rs vs (items.toList.drop j)/\j+vs.length<=sizeMax
def A0(W:Wd)(h:bk)(I J:ai)(x:ae):cn->Prop
 |.enum j vs=>J≠I/\∃l items m a item,W.F l=some (bL items m)/\x=.ref a/\IsEnumOut h I J j item a/\h.IsListIter J l j/\W.Rs vs (items.toList.drop j)/\j+vs.length<=sizeMax
 |src=>dc W h I J src
structure aV(W:Wd)(Wp:List ai)(I:ai)(h:bk):Prop where
 F:W.F I=none
 O:¬ W.owns I
 act:I∉Wp
 there:∃o,h.get? I=some o
theorem IsListIter.data{h:bk}(x:h.IsListIter I l i):∃o,h.get? I=some o/\∀es n,o.data≠.dict es n:=let⟨o,a,_,d⟩:=x;⟨o,a,fun es n z=>by rw[d] at z;trivial⟩
theorem aV.step(O:aV W Wp I s.heap)(T:av fr W acts' s W' s'):aV W' Wp I s'.heap:=oE O.there fun o p=>⟨T.F_none p O.F O.O,T.O_none p O.O,O.act,T.alive _ _ p⟩
theorem dc.step(h:dc W s.heap I J src)(O:aV W Wp I s.heap)(g:aV W Wp J s.heap)(T:av fr W Wp s W' s'):dc W' s'.heap I J src:=by
 have keep:∀o,s.heap.get? I=some o->(∀es n,o.data≠.dict es n)->s'.heap.get? I=some o:=fun o e k=>T.presX e O.O O.act k;cases src with
 |vals vs=>
  refine oA h ?_;try clear h;intro D h;clear O g;cases D
  refine⟨rfl,?_⟩;rcases h with⟨l,items,m,i,a,⟨o,f,F,v⟩,c⟩|⟨l,items,m,i,a,⟨o,f,F,v⟩,c⟩|⟨x,k,a,b⟩
  ·exact .inl ⟨l,items,m,i,T.F _ _ a,⟨o,keep o f (fun es n z=>by rw[v] at z;trivial),F,v⟩,T.Rs c⟩
  ·exact .inr (.inl ⟨l,items,m,i,T.F _ _ a,⟨o,keep o f (fun es n z=>by rw[v] at z;trivial),F,v⟩,T.Rs c⟩)
  ·exact .inr (.inr ⟨x,k,keep _ a (fun es n z=>by trivial),b⟩)
 |lidx k i=>
  refine zu h ?_;try clear h;intro C p a o f F v;clear O g;subst C
  exact⟨rfl,p,T.ρ _ _ a,⟨o,keep o f (fun es n z=>by rw[v] at z;trivial),F,v⟩⟩
 |didx k i m ep u=>
  refine ga h ?_;try clear h;intro r p a b;clear O g;subst r
  refine⟨rfl,p,T.ρ _ _ a,?_⟩;cases u with
  |true=>exact cw b fun o f F v=>⟨o,keep o f (fun es n z=>by rw[v] at z;trivial),F,v⟩
  |false=>exact cw b fun o f F v=>⟨o,keep o f (fun es n z=>by rw[v] at z;trivial),F,v⟩
 |enum j vs=>exact zw h fun q l items m old a b t c d=>cw t fun o f F v=>⟨q,l,items,m,old,T.F _ _ a,keep _ b (fun es n z=>by trivial),⟨o,T.presX f g.O g.act (fun es n z=>by rw[v] at z;trivial),F,v⟩,T.Rs c,d⟩
theorem dc.nodict(x:dc W h I J src):∀b,b=I∨b=J->∃o,h.get? b=some o/\∀es n,o.data≠.dict es n:=by
 have one:J=I->(∃o,h.get? I=some o/\∀es n,o.data≠.dict es n)->∀b,b=I∨b=J->∃o,h.get? b=some o/\∀es n,o.data≠.dict es n:=fun e k b hb=>by clear x;subst e;rcases hb with rfl|rfl<;>exact k
 cases src with
 |vals vs=>
  refine oA x ?_;intro e x;refine one e ?_;rcases x with⟨l,items,m,i,a,⟨o,f,F,v⟩,c⟩|⟨l,items,m,i,a,⟨o,f,F,v⟩,c⟩|⟨x,k,a,b⟩
  ·exact⟨o,f,fun es n z=>by rw[v] at z;trivial⟩
  ·exact⟨o,f,fun es n z=>by rw[v] at z;trivial⟩
  ·exact⟨_,a,fun es n z=>by trivial⟩
 |lidx k i=>exact zu x fun e p a o f F v=>one e ⟨o,f,fun es n z=>by rw[v] at z;trivial⟩
 |didx k i m ep q=>
  refine ga x fun e p a b=>one e ?_;clear x;cases q with
  |true=>exact cw b fun o f F v=>⟨o,f,fun es n z=>by rw[v] at z;trivial⟩
  |false=>exact cw b fun o f F v=>⟨o,f,fun es n z=>by rw[v] at z;trivial⟩
 |enum j vs=>
  refine zw x fun g l items m old a b Q c d=>cw Q fun o f F v=>?_;intro y A;clear one x g Q;rcases A with rfl|rfl
  ·exact⟨_,b,fun es n z=>by trivial⟩
  ·exact⟨o,f,fun es n z=>by rw[v] at z;trivial⟩
def rC(fr:List ai)(W:Wd)(st:List O)(s:ak)(I J:ai)(r:Option (V×cn))(o:Option ae)(s':ak):Prop:=match r with
 |some (v,Wz)=>∃x W',o=some x/\aE W' st s'/\av fr W [I,J] s W' s'/\W'.R v x/\A0 W' s'.heap I J x Wz
 |none=>o=none/\(∀b q,b≠I->b≠J->s.heap.get? b=some q->s'.heap.get? b=some q)/\s'.gens=s.gens/\s'.os=s.os
theorem kc{c:List O}{k:Tok}(S:aE W c s)(O:aV W Wp I s.heap)(t:gz I s.heap d)(h:∃o,d.get? I=some o):aE W c { s with heap:=d,toks:=k }/\av fr W [I] s W { s with heap:=d,toks:=k }:=by
 refine⟨S.keepsOn (fun b o z e=>?_) S.gens,⟨fun Y Y e=>e,fun Y Y e=>e,fun Y Y e=>.inl e,fun Y e=>.inl e,fun a o e Y m=>⟨o,?_,.inl rfl⟩,fun a o e=>?_,rfl⟩⟩
 ·refine(t.2 b fun q=>?_).trans e;clear t h e;subst q;rcases z with z|z
  ·exact am (O.F▸z)
  ·exact O.O z
 ·exact(t.2 a (by simpa using m)).trans e
 ·by_cases q:a=I
  ·clear O;subst q;trivial
  ·exact⟨o,(t.2 a q).trans e⟩
theorem jq{h:bk}(x:h.IsListIter I l i):∃o,h.get? I=some o:=II (fun _ h=>h.1) x
theorem Vn{h:bk}(x:h.IsTupleIter I l i):∃o,h.get? I=some o:=II (fun _ h=>h.1) x
section
variable {α β γ δ:Type}{fr:List ai}{A:a8}{W W':Wd}{s s' s0:ak}{st Wv:List O}{hd:Bool}{n:Nat}{Wr:List aL}{U:bj}{Wp:List ai}{σ:S}{I J:ai}
theorem iM{l:List α}(h:l.drop i=x::r):l[i]?=some x/\l.drop (i+1)=r:=by
 have a:(l.drop i)[0]?=some x:=by refine aa ?_ h;rfl
 rw[Jb] at a;refine⟨a,?_⟩;have:l.drop _=(l.drop i).drop 1:=aa rfl List.drop_drop;refine aa (aa ?_ h) this;rfl
end
theorem pT{D:bk}(x:jL I H D):∀b q,b≠I->b≠J->H.get? b=some q->D.get? b=some q:=fun b q n Y e=>x b q n e
theorem av.two(T:av fr W [I] s W' s'):av fr W [I,J] s W' s':=T.mono (by simp)
noncomputable def QR:List V->Option (V×cn)
 |[]=>none
 |v::r=>some (v,.vals r)
theorem QX{B:List O}(o:aW false n A)(S:aE W B s)(O:aV W Wp I s.heap)(h:dc W s.heap I J (.vals vs)):
  al (MD) A (gc (.ref I)) (rC fr W B s I J (QR vs)) aT s:=by
 refine oA h ?_;try clear h;intro y h;cases y
 rcases h with⟨l,items,m,i,a,b,c⟩|⟨l,items,m,i,a,b,c⟩|⟨x,k,a,b⟩
 ·have p:s.heap.IsList l items:=⟨_,S.frozen _ _ a,rfl,m,rfl⟩;cases vs with
  |nil=>
   have d:items[i]?=none:=by have F:=ej c;rw[<- fE];exact fX (List.drop_eq_nil_iff.mp F)
   exact Ia (o.hand rfl) b p d fun f d=>⟨rfl,pT d,rfl,rfl⟩
  |cons v r=>refine(eA c) _ fun x z g j q=>?_;obtain⟨u,P⟩:=iM g;exact Ib b p (by rw[<- fE];trivial) fun f D t=>oA (kc S O t (jq D)) fun e T=>⟨x,W,rfl,e,T.two,j,rfl,.inl ⟨l,items,m,i+1,a,D,by refine aa ?_ P;trivial⟩⟩
 ·cases vs with
  |nil=>
   have d:items[i]?=none:=by have F:=ej c;rw[<- fE];exact fX (List.drop_eq_nil_iff.mp F)
   exact wpAny_pyNext_tuple_end (o.hand rfl) b ⟨_,S.frozen _ _ a,rfl,m,rfl⟩ d fun f d=>⟨rfl,pT d,rfl,rfl⟩
  |cons v r=>refine(eA c) _ fun x z g j q=>?_;obtain⟨u,P⟩:=iM g;exact wpAny_pyNext_tuple_item b ⟨_,S.frozen _ _ a,rfl,m,rfl⟩ (by refine aU ?_ (fE);trivial) fun f D t=>oA (kc S O t (Vn D)) fun e T=>⟨x,W,rfl,e,T.two,j,rfl,.inr (.inl ⟨l,items,m,i+1,a,D,by refine aa ?_ P;trivial⟩)⟩
 ·cases k with
  |zero=>subst b;exact wpAny_pyNext_range_end (o.hand rfl) a (by decide) fun f d=>⟨rfl,pT d,rfl,rfl⟩
  |succ k=>
   have w:vs=.int x::(iE k).map fun(i:Nat)=>V.int (x+1+i):=by
    refine aa (aa (aa (aa ?_ gB) dH) wW) b;congr 1
    ·simp
    ·refine ry fun i Y=>?_;refine(?_:V.int (x+((i+1:Nat):Int))=V.int (x+1+i));exact congrArg V.int ((congrArg (x+·) (tQ i 1)).trans (wI ..).symm)
   refine aa ?_ w;refine wpAny_pyNext_range_item a (Int.ofNat_lt.mpr (pj k)) fun f D t=>?_;refine oA (kc (fr:=fr) (k:=s.toks+1) S O t ⟨_,D⟩) fun e T=>?_;refine⟨_,W,rfl,e,T.two,gI _ _,rfl,.inr (.inr ⟨x+1,k,?_,rfl⟩)⟩;have:((k+1:Nat):Int)-1=(k:Int):=rj (k:Int) 1;refine aU ?_ this;exact D
section
theorem QW(l:aW false n A)(S:aE W w s)(O:aV W Wp I s.heap)(h:dc W s.heap I J (.lidx k i))(e:cn.next w (.lidx k i)=some r):
  al (MD) A (gc (.ref I)) (rC fr W w s I J r) aT s:=by
 refine ga h ?_;try clear h;intro u p a b;subst u
 refine oj e fun vs q=>?_;obtain o:=S.objs k p a;rw[lY q] at o;refine dy o.2.2 fun items m d=>?_;have f:s.heap.IsList p.1 items:=⟨_,d.1,rfl,m,rfl⟩;cases g:vs[i]? with
 |none=>
  have c:items[i]?=none:=by rw[tJ];rw[dQ d.2];exact List.getElem?_eq_none_iff.mp g
  exact Ia (l.hand rfl) b f c fun j c=>⟨rfl,pT c,rfl,rfl⟩
 |some v=>obtain⟨x,c⟩:=sH d.2 g;exact Ib b f c.1 fun j D t=>⟨x,W,rfl,((kc (fr:=fr) S O t (jq D)).1),((kc S O t (jq D)).2).two,c.2,rfl,p,a,D⟩
def yd(W:Wd)(es:List (Int×V))(arr:List i0):Prop:=∀C:Prop,(∀kvs:List (Int×ae),Pairs (dv pw wd) arr kvs->kvs.map (·.1)=es.map (·.1)->(∀(i:Nat)(k:Int)(v:V),es[i]?=some (k,v)->∃x,kvs[i]?=some (k,x)/\W.R v x)->C)->C
theorem yd.mk{e:List (Int×V)}{q:List i0}:∀c:List (Int×ae),Pairs (dv pw wd) q c->c.map (·.1)=e.map (·.1)->(∀(i:Nat)(k:Int)(v:V),e[i]?=some (k,v)->∃x,c[i]?=some (k,x)/\w.R v x)->yd w e q:=fun d z m x3 C k=>k d z m x3
theorem yc:∀{es:List (Int×V)}{q:List i0},dL W es q->yd W es q:=by
 intro p;induction p with
 |nil=>intro q h;obtain rfl:q=[]:=h;exact .mk [] .nil rfl (fun i k v e=>by trivial)
 |cons a0 r I=>
  obtain⟨k,v⟩:=a0;intro q h;refine wc q h ?_;intro e l t a b c d;refine(I d) _ fun j g H C=>?_;refine .mk ((k,e.val)::j) (.cons (by refine aa ?_ (Ek a ..);exact if_pos rfl) rfl g) (by simp[H]) (fun i n f A=>?_);cases i with
  |zero=>simp only[Ja,rD,gj] at A ⊢;exact kd n f A ⟨_,⟨rfl,rfl⟩,c⟩
  |succ i=>exact C i n f A
set_option tactic.hygienic true
theorem QT{G:List O}(hA:aW false n A)(S:aE W G s)(O:aV W Wp I s.heap)(h:dc W s.heap I J (.didx k i m ep C))(e:cn.next G (.didx k i m ep C)=some r):
  al (MD) A (gc (.ref I)) (rC fr W G s I J r) aT s:=by
 refine ga h ?_;try clear h;intro q5 p a b;subst q5
 have o:=S.objs k p a;refine ax e fun d q e=>bq e fun hep e=>cy e ?_;have H:A.handled=none:=hA.hand rfl;obtain⟨es,ep'⟩:=d;rw[gr q] at o;refine lX o fun Y Xe R Q y=>?_;obtain⟨rfl,rfl⟩:=hep;refine(yc y) _ fun w p1 p2 p3=>?_;have B:w.length=es.length:=by have:=congrArg rx p2;simpa using this
 have f:s.heap.DictAt (dv pw wd) p.1 w ep':=⟨_,R,Q,⟨rfl,rfl,rfl⟩,rfl,og y,p1,by rw[p2];exact Xe⟩;have b:_:=(show _ by rw[<- B] at b;exact b);clear Q y e q;cases P:es[i]? with
 |none=>
  have c:w[i]?=none:=by rw[fX];rw[B];exact List.getElem?_eq_none_iff.mp P
  cases C with
  |true=>exact wpAny_pyNext_values_end H b f c fun l c=>⟨rfl,pT c,rfl,rfl⟩
  |false=>exact wpAny_pyNext_dict_end H b f c fun l c=>⟨rfl,pT c,rfl,rfl⟩
 |some g=>
  refine aH (p3 i g.1 g.2 P) fun x c hR=>?_;cases C with
  |true=>refine wpAny_pyNext_values_item b f c fun l D u=>?_;obtain⟨j,T⟩:=kc (fr:=fr) (k:=s.toks) S O u (D.imp fun _ h=>h.1);exact⟨x,W,rfl,j,T.two,hR,rfl,p,a,by rw[B] at D;exact D⟩
  |false=>
   refine wpAny_pyNext_dict_item b f c fun v l hkey D u=>?_;obtain⟨t,rfl⟩:∃t,v=.int g.1 t:=by
    have F:Bt g.1 v=true:=hkey;cases v with
    |int z t=>exact⟨t,by rw[of_decide_eq_true F]⟩
    |_=>exact absurd F iZ
   obtain⟨j,T⟩:=kc (fr:=fr) (k:=s.toks) S O u (D.imp fun _ h=>h.1);exact⟨_,W,rfl,j,T.two,gI _ _,rfl,p,a,by rw[B] at D;exact D⟩
theorem zD{g:List O}{k:Tok}(S:aE W g s)(O:aV W Wp I s.heap)(c:aV W Wp J s.heap)(t:∀b q,b≠I->b≠J->s.heap.get? b=some q->d.get? b=some q)(h:∃o,d.get? I=some o)(H:∃o,d.get? J=some o):
  aE W g { s with heap:=d,toks:=k }/\av fr W [I,J] s W { s with heap:=d,toks:=k }:=by
 refine⟨S.keepsOn (fun b o z e=>?_) S.gens,⟨fun Y Y e=>e,fun Y Y e=>e,fun Y Y e=>.inl e,fun Y=>.inl,fun a o e Y m=>⟨o,?_,.inl rfl⟩,fun a o e=>?_,rfl⟩⟩
 ·refine t b o (fun q=>?_) (fun q=>?_) e
  ·clear t h e;subst q;rcases z with z|z
   ·rw[O.F] at z;exact am z
   ·exact O.O z
  ·clear t H e;subst q;rcases z with z|z
   ·rw[c.F] at z;exact am z
   ·exact c.O z
 ·simp only[dP,cq,or_false,not_or] at m;exact t a o m.1 m.2 e
 ·by_cases q:a=I
  ·subst q;trivial
  ·by_cases f:a=J
   ·clear c;subst f;trivial
   ·exact⟨o,t a o q f e⟩
theorem aE.addF{s:List O}(S:aE W s s')(h:s'.heap.get? a=some o)(c:W.F a=none)(d:¬ W.owns a):aE (W.add a o) s s':=by
 refine { S with base:=fun b q e=>(Wd.add_keep c) _ _ (S.base _ _ e),frozen:=fun b q e=>?_,objs:=fun k p e=>OR.mono (Wd.add_keep c) (fun Y Y e=>e) (fun Y e=>e) (fun Y e=>e) _ (S.objs k p e),free:=fun k p e l=>?_ }
 ·unfold Wd.add at e;by_cases A:b=a
  ·clear c d;subst A;simp at e;subst e;trivial
  ·simp[A] at e;exact S.frozen _ _ e
 ·obtain⟨u,v⟩:=(fun p f=>⟨fun z=>d ⟨p,f,.inl z.symm⟩,fun z=>d ⟨p,f,.inr z.symm⟩⟩:∀p∈W.ρ,p.1≠a/\p.2≠a) p (et e);simp[Wd.add,u,v,((S.free k p e l).1),((S.free k p e l).2)]
theorem av.addF(T:av fr d acts' s W s')(F:s.heap.get? a=none)(c:W.F a=none):av fr d acts' s (W.add a o) s':=by
 refine⟨fun b q e=>(Wd.add_keep c) _ _ (T.F _ _ e),T.ρ,fun b q e=>?_,T.newρ,T.pres,T.alive,T.os⟩;unfold Wd.add at e;by_cases A:b=a
 ·clear c;subst A;exact .inr (.inl F)
 ·simp[A] at e;exact T.newF _ _ e
theorem QU{G:List O}(H:aW false n A)(S:aE W G s)(O:aV W Wp I s.heap)(B:aV W Wp J s.heap)(h:dc W s.heap I J (.enum j vs))(e:cn.next G (.enum j vs)=some r):
  al (MD) A (gc (.ref I)) (rC fr W G s I J r) aT s:=by
 refine zw h fun w l items m old a b c d R=>?_;have u:s.heap.IsList l items:=⟨_,S.frozen _ _ a,rfl,m,rfl⟩;clear h;cases vs with
 |nil=>
  have i:items[j]?=none:=by refine aU ?_ (fE);exact fX (List.drop_eq_nil_iff.mp (ej d))
  cases e;exact V0 (H.hand rfl) b c u i fun F i=>⟨rfl,fun y q Y=>i y q,rfl,rfl⟩
 |cons v q=>
  cases e;refine(eA d) _ fun x ys t D P=>?_;have Q:¬ W.owns s.heap.objs.size:=fun⟨p,hp,z⟩=>by
   refine ft (S.there p hp) fun q9 o2 z2=>oE q9 fun o1 z1=>?_;rcases z with z|z
   ·exact am ((bG _)▸(z.symm▸z1))
   ·exact am ((bG _)▸(z.symm▸z2))
  refine V7 b c u (by refine aU ?_ (fE);exact((iM t).1)) (bB w) fun F k1 k2 k3 k4 k5=>oA (zD (fr:=fr) (k:=s.toks+1) S O B k5 ⟨_,k1⟩ (jq k2)) fun C T=>?_;have f:W.F s.heap.objs.size=none:=by
   cases z:W.F s.heap.objs.size with
   |none=>rfl
   |some o=>have:=S.frozen _ _ z;exact am (aU this (bG _))
  obtain g:=Wd.add_keep f;refine⟨_,W.add s.heap.objs.size _,rfl,aE.addF C k3 f Q,av.addF T (bG _) f,?_,w,l,items,m,_,x,g _ _ a,rfl,?_,k2,?_,?_⟩
  ·refine⟨by simp[sizeMax],_,_,_,rfl,Wd.add_self,?_⟩;exact VRs.cons (gI _ _) (VRs.one (VR.mono g (fun Y Y e=>e) _ _ D))
  ·trivial
  ·refine aa ?_ ((iM t).2);exact VRs.mono g (fun Y Y e=>e) _ _ P
  ·exact bb (dU (mB ..)) R
end
theorem m0{f:List O}(S:aE W f s)(H:∀a∈Wp,∃o,s.heap.get? a=some o)(c:o.isFreed=false):aV W Wp s.heap.objs.size (s.heap.push o):=by
 obtain F:=bG s.heap;refine⟨?_,?_,?_,_,bF _ c⟩
 ·cases e:W.F s.heap.objs.size with
  |none=>rfl
  |some q=>have:=S.frozen _ _ e;exact am (F▸this)
 ·intro⟨p,d,z⟩;refine ft (S.there p d) fun D y b=>oE D fun n a=>?_;rcases z with z|z
  ·exact am (F▸(z.symm▸a))
  ·exact am (F▸(z.symm▸b))
 ·intro m;obtain⟨q,e⟩:=H _ m;exact am (F▸e)
def ro(fr:List ai)(W:Wd)(st:List O)(Wp:List ai)(s:ak)(src:cn)(it:ae)(s':ak):Prop:=∀C:Prop,(∀I J,it=.ref I->s.heap.get? I=none->s.heap.get? J=none->aE W st s'->av fr W [] s W s'->aV W Wp I s'.heap->aV W Wp J s'.heap->dc W s'.heap I J src->C)->C
theorem ro.mk{F:List ai}{a:List O}{A:List ai}{e:ak}{g:cn}{i:ae}{s':ak}:∀I J,i=.ref I->e.heap.get? I=none->e.heap.get? J=none->aE w a s'->av F w [] e w s'->aV w A I s'.heap->aV w A J s'.heap->dc w s'.heap I J g->ro F w a A e g i s':=fun d z m x3 x4 h f u b c C k=>k d z m x3 x4 h f u b c
theorem Pq{z:List O}(B:BO)(S:aE W z s)(H:∀a∈Wp,∃o,s.heap.get? a=some o)(c:W.R v x)(e:sI z v=some (k,src)):
  al (MD) A (io x) (ro fr W z Wp s src) aT s:=by
 have fin:∀(o:cS),o.isFreed=false->dc W (s.heap.push o) s.heap.objs.size s.heap.objs.size src->ro fr W z Wp s src _ { s with heap:=s.heap.push o }:=fun o d l=>by exact oA (S.keeps (s':={ s with heap:=s.heap.push o }) (co _ _) S.gens rfl) fun g T=>.mk _ _ rfl (bG _) (bG _) g T (m0 S H d) (m0 S H d) l
 refine ch e (fun e=>?_) fun e=>iS e c fun j p b e=>ch e (fun e=>?_) fun e=>?_<;>refine aH (Option.map_eq_some_iff.mp e) fun vs h i=>?_<;>cases i;refine ch h (fun h=>?_) fun h=>?_
 ·obtain⟨t,a,items,m,rfl,f,r⟩:W.R _ x:=kZ h▸c;exact nu ⟨_,S.frozen _ _ f,rfl,m,rfl⟩ (fin _ rfl ⟨rfl,.inl ⟨a,items,m,0,f,⟨_,bF _ rfl,rfl,rfl⟩,r⟩⟩)
 ·obtain⟨t,a,items,m,rfl,f,r⟩:W.R _ x:=nn h▸c;exact wpAny_pyIter_tuple ⟨_,S.frozen _ _ f,rfl,m,rfl⟩ (fin _ rfl ⟨rfl,.inr (.inl ⟨a,items,m,0,f,⟨_,bF _ rfl,rfl,rfl⟩,r⟩)⟩)
 ·have o:=S.objs j p b;rw[lY h] at o;obtain⟨Y,Y,items,m,n⟩:=o;exact nu ⟨_,n.1,rfl,m,rfl⟩ (fin _ rfl ⟨rfl,p,b,⟨_,bF _ rfl,rfl,rfl⟩⟩)
 ·have o:=S.objs j p b;rw[gr h] at o;obtain⟨Y,w,q,n⟩:=o;refine(yc n.2) _ fun y p1 p2 p3=>?_;obtain u:=by have:=congrArg rx p2;simpa using this
  refine wpAny_pyIter_dict (vt B S b (by refine aa ?_ (gr h);rfl)) ⟨_,q,n.1,⟨rfl,rfl,rfl⟩,rfl,og n.2,p1,by refine aa ?_ p2;trivial⟩ (fin _ rfl ⟨rfl,p,b,?_⟩);refine aU ?_ u;exact⟨_,bF _ rfl,rfl,rfl⟩
theorem QS{f:List O}(a:aW false n A)(S:aE W f s)(O:aV W Wp I s.heap)(b:aV W Wp J s.heap)(h:dc W s.heap I J src)(e:src.next f=some r):
  al (MD) A (gc (.ref I)) (rC fr W f s I J r) aT s:=by
 cases src with
 |vals vs=>
  obtain c:=QX (fr:=fr) a S O h;clear h;cases vs with
  |nil=>cases e;trivial
  |cons v q=>cases e;trivial
 |lidx k i=>exact QW a S O h e
 |didx k i m ep d=>exact QT a S O h e
 |enum j vs=>exact QU a S O b h e
noncomputable def cn.isEnum:cn->Bool
 |.enum _ _=>true
 |_=>false
theorem P7{M:eF}{E:ae->ak->Prop}(h:s.heap.get? I=some o)(d:o.cls=.type T) (b:["enumerate", "zip", "dict_itemiterator", "dict_reverseitemiterator", "odict_iterator", "itertools.zip_longest", "itertools.pairwise"].contains T=false) (q:Q () s):
  al M A (uY target (.ref I) x) Q E s:=by
 have i:∀(c:List Expr),al M A (do
   let(.ref r,.ref a):=(cm I,x)|return
   let o<-load r
   match o.cls,o.data with
   |.type n,.fields vs=>
    if["enumerate", "zip", "dict_itemiterator", "dict_reverseitemiterator", "odict_iterator", "itertools.zip_longest", "itertools.pairwise"].contains n&&vs[0]?==some (l6 a) then
     rule "for.unpacks-the-owned-tuple"
     updateField r 0 .none
   |_,_=>pure ():bE Unit) Q E s:=fun c=>by
  cases x with
  |ref a=>
   refine aq (kn h ?_);refine aa ?_ d;cases hd:o.data with
   |fields vs=>dsimp only;refine aa (aa (aa ?_ (if_neg iZ)) (Bool.false_and ..)) b;exact ay q
   |_=>exact ay q
  |_=>exact ay q
 cases target with
 |Tuple c _ _=>exact i c
 |List c _=>exact i c
 |_=>exact ay q
theorem P6{G:List O}(S:aE W G s)(O:aV W Wp I s.heap)(h:A0 W s.heap I J x src)(u:src.isEnum=true->∃n k pos,target=.Tuple n k pos)
  (q:∀s',aE W G s'->av fr W [I] s W s'->dc W s'.heap I J src->Q () s'):al (MD) A (uY target (.ref I) x) Q aT s:=by
 have old:∀{o:cS}{T:String},s.heap.get? I=some o->o.cls=.type T->["enumerate", "zip", "dict_itemiterator", "dict_reverseitemiterator", "odict_iterator", "itertools.zip_longest", "itertools.pairwise"].contains T=false->dc W s.heap I J src->al (MD) A (uY target _ x) Q aT s:=
  fun f H C g=>P7 f H C (q s S .refl g)
 cases src with
 |vals vs=>
  refine oA h ?_;intro B h;rcases h with⟨l,items,m,i,a,⟨o,d,F,v⟩,c⟩|⟨l,items,m,i,a,⟨o,d,F,v⟩,c⟩|⟨x,k,a,b⟩
  ·exact old d F rfl h
  ·exact old d F rfl h
  ·exact old a rfl rfl h
 |lidx k i=>refine zu h ?_;intro D p a o d F v;exact old d F rfl h
 |didx k i m ep z=>
  have e:=h;refine ga h ?_;try clear h;intro R p a b;clear O q
  clear u;cases z with
  |true=>exact cw b fun o d F v=>old d F rfl e
  |false=>exact cw b fun o d F v=>old d F rfl e
 |enum j vs=>refine TK x h ?_;intro t l items m a item f H C g y;exact zV target (u rfl) fun n k pos=>wpAny_letOwnedTupleGo_enum H fun e r P=>oA (kc S O P ⟨_,r⟩) fun w T=>cw C fun o d F v=>q _ w T ⟨t,l,items,m,item,f,r,⟨o,(P.2 J t).trans d,F,v⟩,g,y⟩
theorem QV{s:List O}{b:cn}(e:b.next s=some (some (v,l)))(z:l.isEnum=true):b.isEnum=true:=by
 cases b with
 |enum j vs=>rfl
 |vals vs=>refine aH (Option.map_eq_some_iff.mp (aR e)) fun p Y g=>?_;exact absurd ((congrArg (·.2.isEnum) g).trans z) iZ
 |lidx k i=>obtain⟨vs,f⟩:=Option.map_eq_some_iff.mp e;refine aH (Option.map_eq_some_iff.mp f.2) fun p Y g=>?_;exact absurd ((congrArg (·.2.isEnum) g).trans z) iZ
 |didx k i m ep a=>refine ax e fun d Y e=>bq e fun Y e=>aH (Option.map_eq_some_iff.mp (aR e)) fun p Y g=>?_;exact absurd ((congrArg (·.2.isEnum) g).trans z) iZ
section
variable {α β γ δ:Type}{fr:List ai}{A:a8}{W W':Wd}{s s' s0:ak}{st Wv:List O}{hd:Bool}{n:Nat}{Wr:List aL}{U:bj}{Wp:List ai}{σ:S}{I J:ai}
theorem uB(j:aW false n A)(S:aE W st s){target:Expr}(O:aV W Wp I s.heap)(d:aV W Wp J s.heap)(h:dc W s.heap I J src)(e:src.next st=some r)(t:src.isEnum=true->r≠none->∃i k pos,target=.Tuple i k pos):
  al (MD) A (gc (.ref I)) (fun o s1=>match r with
   |some (v,u)=>∃x,o=some x/\al (MD) A (uY target (.ref I) x) (fun Y a=>∃W',aE W' st a/\av fr W [I,J] s W' a/\W'.R v x/\dc W' a.heap I J u) aT s1
   |none=>o=none/\(∀b q,b≠I->b≠J->s.heap.get? b=some q->s1.heap.get? b=some q)/\s1.gens=s.gens/\s1.os=s.os) aT s:=by
 refine wN (QS (fr:=fr) j S O d h e) fun o s1 P=>?_;cases r with
 |none=>trivial
 |some p=>
  refine TP o P ?_;intro x W' f T C l;refine⟨x,rfl,?_⟩;have H:aV W' [] I s1.heap:=by exact oE O.there fun o c=>⟨T.F_none c O.F O.O,T.O_none c O.O,by simp,T.alive _ _ c⟩
  exact P6 f H l (fun z=>t (QV e z) (by simp)) fun a g y m=>⟨W',g,T.trans (y.mono (by simp)),C,m⟩
end
theorem Gr(R:ar A W Wp Wr U g s)(O:aV W Wp I s.heap)(i:aV W Wp J s.heap)(q:dc W s.heap I J src)(S:aE W' g.st s')(T:av (aC A) W [I,J] s W' s'):ar A W' Wp Wr U g s':=by
 have u:∀a,a∈Wp->a∉[I,J]:=fun a c z=>by
  simp only[dP,cq,or_false] at z;clear q T;rcases z with rfl|rfl
  ·exact O.act c
  ·exact i.act c
 refine⟨S,R.act.mono T.F T.ρ fun a c o e=>T.pres _ _ e (R.actO a c) (u a c),fun a c=>?_,fun a c=>?_,fun a c=>?_,?_⟩
 ·obtain⟨Q,d⟩:=R.actS a c;exact T.F_none d (R.actF a c) (R.actO a c)
 ·obtain⟨Q,d⟩:=R.actS a c;exact T.O_none d (R.actO a c)
 ·obtain⟨Q,d⟩:=R.actS a c;exact T.alive _ _ d
 ·refine aH R.stk fun l e h=>⟨l,e,fun j B=>?_⟩;refine j8 (h j B) fun k b P n r o H es m f=>?_;by_cases z:b=I∨b=J
  ·refine aH (q.nodict b z) fun y D C=>?_;cases (H▸D);exact absurd f (C es m)
  ·exact aH (T.pres _ _ H r (by simpa using z)) fun Q p t=>⟨k,b,P,T.F_none H n r,T.O_none H r,Q,p,es,m,t.data.trans f⟩
def wX(A:a8)(Wr:List aL)(U:bj)(Wp:List ai)(W0:Wd)(s0:ak)(I J:ai)(t:Tgt)(m:M Fl)(fl:Fl)(σ':S)(k:Nat)(s:ak):Prop:=∀C:Prop,(∀W σ src,ar A W Wp Wr U σ s->aV W Wp I s.heap->aV W Wp J s.heap->dc W s.heap I J src->av (aC A) W0 (I::J::Wp) s0 W s->dM t m k src σ=some (fl,σ')->C)->C
theorem wX.mk{g:a8}{i:List aL}{j:bj}{l:List ai}{o:Wd}{p q:ai}{T:Tgt}{r:M Fl}{F:Fl}{N:S}{v:Nat}{s:ak}:∀W b src,ar g W l i j b s->aV W l p s.heap->aV W l q s.heap->dc W s.heap p q src->av (aC g) o (p::q::l) w W s->dM T r v src b=some (F,N)->wX g i j l o w p q T r F N v s:=fun d z c x3 x4 h f u e C v=>v d z c x3 x4 h f u e
theorem ve(R:ar A W Wp Wr U v s)(O:aV W Wp I s.heap)(i:aV W Wp J s.heap)(T:av (aC A) y (I::J::B) w W s)(F:w.heap.get? I=none)(n:w.heap.get? J=none)(p:dc W s.heap I J src)
  (j:∀b q,b≠I->b≠J->s.heap.get? b=some q->s'.heap.get? b=some q) (hg:s'.gens=s.gens) (ho:s'.os=s.os):ar A W Wp Wr U v s'/\av (aC A) y B w W s':=by
 have r:∀a,a∈Wp->a≠I:=fun a c z=>O.act (z▸c);have t:∀a,a∈Wp->a≠J:=fun a c z=>i.act (z▸c);have x:aE W v.st s':=R.st.keepsOn (fun b o z e=>j b o (fun q=>by
  clear T F p j r;subst q;rcases z with z|z
  ·exact am (O.F▸z)
  ·exact O.O z) (fun q=>by
  clear T n p j t;subst q;rcases z with z|z
  ·exact am (i.F▸z)
  ·exact i.O z) e) (hg.trans R.st.gens)
 refine⟨⟨x,R.act.mono (fr:=[]) (fun Y Y e=>e) (fun Y Y e=>e) fun a c o e=>⟨o,j a o (r a c) (t a c) e,.inl rfl⟩,R.actF,R.actO,fun a c=>?_,?_⟩,⟨T.F,T.ρ,T.newF,T.newρ,fun a o e n1 n2=>?_,fun a o e=>?_,ho.trans T.os⟩⟩
 ·obtain⟨o,e⟩:=R.actS a c;exact⟨o,j a o (r a c) (t a c) e⟩
 ·refine aH R.stk fun l e h=>⟨l,e,fun C he=>?_⟩;refine j8 (h C he) fun D b P g3 g4 o H es m u=>?_;have d:¬ _:=fun z=>by refine aH (p.nodict b z) fun o2 q1 q2=>?_;cases (H▸q1);exact absurd u (q2 es m)
  exact⟨D,b,P,g3,g4,o,j b o (fun z=>d (.inl z)) (fun z=>d (.inr z)) H,es,m,u⟩
 ·have d:a≠I:=fun z=>by obtain e:=z▸e;obtain e:=F▸e;exact am e
  have g:a≠J:=fun z=>by obtain e:=z▸e;obtain e:=n▸e;exact am e
  exact aH (T.pres a o e n1 (by simp[d,g,n2])) fun Q k f=>⟨Q,j a Q d g k,f⟩
 ·have d:a≠I:=fun z=>by obtain e:=z▸e;obtain e:=F▸e;exact am e
  have g:a≠J:=fun z=>by obtain e:=z▸e;obtain e:=n▸e;exact am e
  obtain⟨Q,k⟩:=T.alive a o e;exact⟨Q,j a Q d g k⟩
def BD(t:Tgt)(m:M Fl)(k:Nat)(src:cn)(fb:Fl):M Fl:=Fl.rec (dM t m k src) (pure .next) (dM t m k src) (fun v=>pure (.ret v)) (fun Y Y=>M.fail) fb
inductive FN(t:Tgt)(m:M Fl)(k:Nat)(src:cn)(σ:S)(fl:Fl)(σ':S):Prop
 |done:src.next σ.st=some none->fl=.next->σ'=σ->FN t m k src σ fl σ'
 |step:∀v Wz k' u σ1 fb σ2,k=k'+1->src.next σ.st=some (some (v,Wz))->t.setFrom src v σ=some (u,σ1)->m σ1=some (fb,σ2)->BD t m k' Wz fb σ2=some (fl,σ')->FN t m k src σ fl σ'
theorem Od(e:dM t m k src a=some (fl,n)):FN t m k src a fl n:=by
 cases k with
 |zero=>
  refine(bind_some e) _ fun o c b e=>?_;dsimp only at e;revert e;refine bg o c b fun e=>?_;generalize Q:src.next a.st=r at e;cases r with
  |none=>exact am e
  |some y=>
   cases y with
   |none=>exact bg fl n e (.done Q rfl rfl)
   |some p=>exact am e
 |succ k=>
  have e:w8 M.fail (fun y=>w8 (M.pure Fl.next) (fun p=>t.setFrom src p.1>>=fun Y=>m>>=BD t m k p.2) y) (src.next a.st) a=some _:=Eq.trans (Eq.symm (by kernel_rfl!)) e;generalize Q:src.next a.st=r at e;cases r with
  |none=>exact am e
  |some y=>
   cases y with
   |none=>exact bg fl n e (.done Q rfl rfl)
   |some p=>exact(bind_some e) _ fun u i f e=>(bind_some e) _ fun fb F g e=>.step _ _ _ _ _ _ _ rfl Q f g e
theorem GU{t:Tgt}(e:t.setFrom src v a=r)(h:r.isSome=true):t.set v a=r:=by
 subst e;cases src with
 |enum j vs=>
  cases t with
  |_=>trivial
 |_=>rfl
theorem GT{t:Tgt}(e:t.setFrom src v a=some (u,i))(z:src.isEnum=true):∃is,t=.names is:=by
 cases src with
 |enum j vs=>
  cases t with
  |names is=>exact⟨is,rfl⟩
  |_=>exact am e
 |_=>trivial
theorem Oe(hA:aW false n A)
  (ht:∀W a s v x,ar A W Wp Wr U a s->W.R v x->At A Wr U W Wp a s (fun Y Y Y=>True) (fi target U x) (t.set v))
  (htup:∀is,t=.names is->∃elts k pos,target=.Tuple elts k pos)
  (WC:∀W a s,ar A W Wp Wr U a s->bd A Wr U W Wp a s (gp body U) m)
  (h0:s0.heap.get? I=none) (h0':s0.heap.get? J=none) (L:wX A Wr U Wp W0 s0 I J t m fl σ' k s):
  dK (MD) A (.forLoop target (.ref I) body [] U) (fun r s'=>match r with|.ok f=>AQ A Wr U W0 Wp σ' s0 (o7) fl f s'|.error _=>False) s:=by
 refine codeAny_forLoop_any _ (fun k s L=>?_) k L;refine L _ fun W a src R O d Q T e=>?_;clear L;cases Od e with
 |done hr h1 h2=>subst h1;subst h2;exact wN (uB (fr:=aC A) (target:=target) hA R.st O d Q hr fun Y z=>absurd rfl z) fun o s1 P=>GD o P fun hk hg ho=>oA (ve R O d T h0 h0' Q hk hg ho) fun l i=>ay (.mk W l i rfl)
 |step v Wz k u σ1 fb σ2 hk hr e1 e2 e=>
  subst hk;refine wN (uB (fr:=aC A) hA R.st O d Q hr fun z Y=>(GT e1 z).elim htup) fun o s1 P=>?_;refine kW o P fun x P=>wN P fun Y s1' hs=>?_;refine ju hs fun W1 S1 g hR hI1=>?_;refine wN (ht W1 a s1' v x (Gr R O d Q S1 g) hR u σ1 (GU e1 rfl)) fun Y s2 p=>?_;refine p _ fun W2 R2 F Y=>?_;have O2:=(O.step g).step F;have O2':=(d.step g).step F;refine bM (WC W2 σ1 s2 R2 fb σ2 e2) (fun f s3 p=>?_) fun ex s3 p=>?_
  ·refine p _ fun D h j H=>?_;have w:=O2.step j;have B:=O2'.step j;have hI3:=(hI1.step (O.step g) (d.step g) F).step O2 O2' j;have C:=((T.trans (g.mono (by simp))).trans (F.mono fun b W8=>bD _ (bD _ W8))).trans (j.mono fun b W8=>bD _ (bD _ W8));cases fb with
   |next=>obtain rfl:f=.next:=H;exact⟨k,mA _,(.mk D σ2 Wz h w B hI3 C e)⟩
   |cont=>obtain rfl:f=.cont:=H;exact⟨k,mA _,(.mk D σ2 Wz h w B hI3 C e)⟩
   |brk=>obtain rfl:f=.brk:=H;refine bg fl σ' e (oA (ve h w B C h0 h0' hI3 (fun b q Y Y z=>z) rfl rfl) fun l i=>?_);exact .mk D l i rfl
   |ret v=>refine kW f H ?_;intro y hy;refine bg fl σ' e (oA (ve h w B C h0 h0' hI3 (fun b q Y Y z=>z) rfl rfl) fun l i=>?_);exact .mk D l i ⟨y,rfl,hy⟩
   |exc c as=>exact am e
  ·refine p _ fun D h j c as ez107 Y=>?_;obtain rfl:=ez107;exact am e
abbrev bV(A:a8)(Wr:List aL)(U:bj)(Wp:List ai)(t:bE Flow)(c:M Fl):Prop:=∀W σ s,ar A W Wp Wr U σ s->bd A Wr U W Wp σ s t c
theorem bd.pure(R:ar A W Wp Wr U b s)(h:o7 W fl f):bd A Wr U W Wp b s (rF f) (rF fl):=fun a n e=>by exact bg a n e (ay (.mk W R .refl h))
theorem bd.standAt(k:bd A Wr U W Wp a s (f ()) c):bd A Wr U W Wp a s (JS p>>=f) c:=
 fun b n e=>eC (k b n e)
theorem bd.after{f:α->bE Flow}{g:β->M Fl}(h:At A Wr U W Wp σ s o t c)
  (k:∀x b d i s1,ar A d Wp Wr U i s1->av (aC A) W Wp s d s1->o d b x->bd A Wr U d Wp i s1 (f x) (g b)):bd A Wr U W Wp σ s (t>>=f) (c>>=g):=fun fl σ' e=>by
 refine(bind_some e) _ fun b i j n=>?_;refine eZ (h b i j) fun x s1 u=>?_;clear h e j;refine u _ fun d r T l=>?_;refine bM (k x b d i s1 r T l fl σ' n) (fun f s2 u=>?_) fun ex s2 u=>?_
 ·refine u _ fun v R y q=>?_;exact .mk v R (T.trans y) q
 ·clear k n r l;refine u _ fun v R y c as p z=>?_;obtain rfl:=p;refine z _ fun a w items m D C B F Q H I P=>?_;exact .mk v R (T.trans y) c as rfl (.mk a w items m D C B F Q H I (T.gone P))
theorem Do(h:aK A Wr U Wp e m):bV A Wr U Wp (do standAt pos;return .ret (<-e)) (cA m):=fun W a s R=>bd.standAt (bd.after (h W a s R) fun x v b i s1 r T l=>bd.pure r ⟨x,rfl,l⟩)
theorem Ng{m:M Bool}(h:iz A Wr U Wp t m)(e:bV A Wr U Wp a f)(H:bV A Wr U Wp b mb):
  bV A Wr U Wp (do standAt pos;if <- t then a else b) (bW m f mb):=fun W g s R=>
 bd.standAt (bd.after (h W g s R) fun x c d i s1 r T l=>by
  have:x=c:=l;clear l;subst this;cases x with
  |true=>exact e d i s1 r
  |false=>exact H d i s1 r)
inductive rh(A:a8)(Wr:List aL)(U:bj)(Wp:List ai):List cW->List (M Fl)->Prop
 |nil:rh A Wr U Wp [] []
 |cons {s:cW}{m:M Fl}{r:List cW}{ms:List (M Fl)}:bV A Wr U Wp (exec s U) m->rh A Wr U Wp r ms->rh A Wr U Wp (s::r) (m::ms)
theorem Ny(h:rh A Wr U Wp ss C):bV A Wr U Wp (gp ss U) (au C):=by
 induction h with
 |nil=>exact fun W o s R=>bd.pure R rfl
 |cons h hr I=>
  intro W o s R fl n e;refine(bind_some e) _ fun f1 p j g=>?_;refine wB (bM (h W o s R f1 p j) (fun f s1 u=>?_) fun ex s1 u=>?_)
  ·clear h R j;refine u _ fun b r T l=>?_;cases f1 with
   |next=>
    obtain rfl:f=.next:=l;refine bM (I b p s1 r fl n g) (fun f s2 u=>?_) fun ex s2 u=>?_
    ·refine u _ fun i d y q=>?_;exact .mk i d (T.trans y) q
    ·clear e r g;refine u _ fun i d y c as z B=>?_;obtain rfl:=z;refine B _ fun a w items m D F H P Q q6 q7 q8=>?_;exact .mk i d (T.trans y) c as rfl (.mk a w items m D F H P Q q6 q7 (T.gone q8))
   |brk=>obtain rfl:f=.brk:=l;exact bg fl n g (ay (.mk b r T rfl))
   |cont=>obtain rfl:f=.cont:=l;exact bg fl n g (ay (.mk b r T rfl))
   |ret v=>refine kW f l ?_;intro x k;exact bg fl n g (ay (.mk b r T ⟨x,rfl,k⟩))
   |exc c as=>exact l.elim
  ·clear h R j;refine u _ fun b r T c as t k=>?_;obtain rfl:=t;exact bg fl n g (.mk b r T c as rfl k)
theorem qp(e:lV x=some q):∃p,x=.Name q p:=
 (dI e).elim fun h e=>IN x h (fun n p h e=>⟨p,congrArg (Expr.Name · p) (aR e)⟩) h e
theorem Az(e:qT x=some q):∃k p,x=.Tuple q k p:=
 (dI e).elim fun h e=>IQ x h (fun n k p h e=>⟨k,p,congrArg (Expr.Tuple · k p) (aR e)⟩) h e
theorem rM(e:nQ x=some q):x=.Attribute q.1 q.2.1 q.2.2:=
 (dI e).elim fun h e=>IJ x h (fun o n p h e=>congrArg (fun q:Expr×Str×ef=>Expr.Attribute q.1 q.2.1 q.2.2) (aR e)) h e
theorem yM(e:uW x=some q):∃p,x=.Subscript q.1 q.2 p:=
 (dI e).elim fun h e=>IP x h (fun o i p h e=>⟨p,congrArg (fun q:Expr×Expr=>Expr.Subscript q.1 q.2 p) (aR e)⟩) h e
theorem Md(e:CN x=some q):∃k p,x=.Constant q k p:=
 (dI e).elim fun h e=>IL x h (fun n k p h e=>⟨k,p,congrArg (Expr.Constant · k p) (aR e)⟩) h e
theorem xF(e:rW x=some q):x=.Call q.1 q.2.1 [] q.2.2:=
 (dI e).elim fun h e=>IK x h (fun f as ks p h e=>bq e fun g e=>(List.isEmpty_iff.mp g)▸congrArg (fun q:Expr×List Expr×ef=>Expr.Call q.1 q.2.1 [] q.2.2) (aR e)) h e
theorem UX(e:Hb x=some q):x=.str q:=
 (dI e).elim fun h e=>IG x h (fun n h e=>congrArg Const.str (aR e)) h e
theorem HK(e:AB x=some q):x=.type q:=
 (dI e).elim fun h e=>Bu x h (fun n h e=>congrArg bQ (aR e)) h e
theorem K6(e:Cf x=some q):x=.builtin q:=
 (dI e).elim fun h e=>JZ x h (fun n h e=>congrArg hW (aR e)) h e
theorem HP(e:AF x=some q):x=.ref q:=
 (dI e).elim fun h e=>J1 x h (fun n h e=>congrArg cm (aR e)) h e
theorem Kr(e:BJ x=some q):∃p,x=.Assign q.1 q.2 p:=
 (dI e).elim fun h e=>JX x h (fun o i p h e=>⟨p,congrArg (fun q:List Expr×Expr=>Stmt.Assign q.1 q.2 p) (aR e)⟩) h e
theorem NQ(e:Dr x=some q):∃p,x=.Expr q p:=
 (dI e).elim fun h e=>JY x h (fun o p h e=>⟨p,congrArg (Stmt.Expr · p) (aR e)⟩) h e
def jT{α β:Type}:Wd->β->α->Prop:=fun Y Y Y=>True
theorem BM{I:Str}(u:fo I Wr=some i)(R:ar A W Wp Wr U b s)(a:W.R v x):At A Wr U W Wp b s (jT) (fi (.Name I p) U x) (iU i v):=
 At.standAt (At.mono (ui R u a) fun Y Y Y Y=>trivial)
inductive gJ(A:a8)(Wr:List aL)(U:bj)(Wp:List ai):List (ae->bE Unit)->List Nat->Prop
 |nil:gJ A Wr U Wp [] []
 |cons {f:ae->bE Unit}{i:Nat}{fs:List (ae->bE Unit)}{is:List Nat}:(∀W σ s v x,ar A W Wp Wr U σ s->W.R v x->At A Wr U W Wp σ s (jT) (f x) (iU i v))->gJ A Wr U Wp fs is->gJ A Wr U Wp (f::fs) (i::is)
theorem gJ.length(h:gJ A Wr U Wp fs is):fs.length=is.length:=by
 induction h with
 |nil=>rfl
 |cons _ _ I=>simp[I]
theorem gJ.append{y:List (ae->bE Unit)}(h:gJ A Wr U Wp fs is)(k:gJ A Wr U Wp y j):gJ A Wr U Wp (fs++y) (is++j):=by
 induction h with
 |nil=>exact k
 |cons a _ I=>exact .cons a I
theorem gJ.reverse(h:gJ A Wr U Wp fs is):gJ A Wr U Wp fs.reverse is.reverse:=by
 induction h with
 |nil=>exact .nil
 |cons a _ I=>simp;exact I.append (.cons a .nil)
theorem BP{F:List (ae->bE Unit)}{k:List Nat}(t:gJ A Wr U Wp F k):∀{vs:List V}{xs:List ae}{W:Wd}{a:S}{s:ak},ar A W Wp Wr U a s->W.Rs vs xs->vs.length=k.length->At A Wr U W Wp a s (jT) (assignInOrder F xs) (kf k vs):=by
 induction t with
 |nil=>intro vs xs W a s R h e;exact At.pure R trivial
 |@cons f i F k o Q I=>
  intro vs xs W a s R h e;cases vs with
  |nil=>trivial
  |cons v vs=>refine(eA h) _ fun x g b c H=>?_;obtain rfl:=b;exact At.bind (At.holding (o W a s v x R c)) fun Y Y d j s1 r T Y=>I r (T.Rs H) (rA e)
theorem QN:∀{es:List Expr}{is:List Nat},oq Wr es=some is->gJ A Wr U Wp ((ja es U).map (·.2)) is/\(ja es U).findIdx? (·.1)=none/\(ja es U).length=is.length:=by
 intro b;induction b with
 |nil=>intro is e;cases e;exact⟨.nil,rfl,rfl⟩
 |cons c r I=>intro is a;exact ax a fun id F e=>ax e fun i h e=>ax e fun d H e=>by cases e;obtain⟨p,rfl⟩:=qp F;refine⟨.cons (fun W f s v x=>BM h) ((I H).1),?_,congrArg w6 ((I H).2.2)⟩;refine(?_:List.findIdx? (·.1) ((false,fi _ U)::ja r U)=none);rw[I8,((I H).2.1)];rfl
noncomputable def kg:List Nat->List V->List (Option V)->List (Option V)
 |i::is,v::vs,f=>kg is vs (f.set i (some v))
 |_,_,f=>f
theorem yw:∀(is:List Nat)(vs:List V)(f:List _)(r:List _)(st:List O),kf is vs ⟨f::r,st⟩=some ((),⟨kg is vs f::r,st⟩)
 |[],vs,f,r,st=>by cases vs<;>rfl
 |i::is,[],f,r,st=>rfl
 |i::is,v::vs,f,r,st=>by exact yw is vs _ r st
theorem GV:∀(is j:List Nat)(vs us:List V)(f:List _),is.length=vs.length->kg (is++j) (vs++us) f=kg j us (kg is vs f)
 |[],j,[],us,f,_=>rfl
 |i::is,j,v::vs,us,f,e=>GV is j vs us _ (by simpa using e)
theorem GW:∀(is:List Nat)(vs:List V)(i:Nat)(v:Option V)(f:List _),i∉is->kg is vs (f.set i v)=(kg is vs f).set i v
 |[],vs,i,v,f,_=>by cases vs<;>rfl
 |j::is,[],i,v,f,_=>rfl
 |j::is,u::vs,i,v,f,h=>by rw[dP,not_or] at h;refine(?_:kg is vs _=(kg is vs _).set i v);refine aa ?_ (List.set_comm _ _ h.1);exact GW is vs i v _ h.2
theorem GY:∀(is:List Nat)(vs:List V)(f:List (Option V)),is.Nodup->is.length=vs.length->kg is.reverse vs.reverse f=kg is vs f
 |[],[],f,_,_=>rfl
 |i::is,v::vs,f,a,e=>by have z:=List.nodup_cons.mp a;refine aa ?_ kz;refine aa ?_ kz;refine aa ?_ (GV _ _ _ _ _ (by simpa using e));refine aa ?_ (GY is vs f z.2 (by simpa using e));exact aa rfl (GW _ _ _ _ _ z.1)
theorem OP(v:is.Nodup)(e:is.length=vs.length)(a:S)(h:a.fs≠[]):kf is.reverse vs.reverse a=kf is vs a:=by
 obtain⟨fs,st⟩:=a;cases fs with
 |nil=>trivial
 |cons f r=>exact aa (aa (aa rfl (GY _ _ _ v e)) (yw ..)) (yw ..)
theorem cL.ne(R:cL W h Wr U fs Wp):fs≠[]:=by induction R<;>exact wM _ _
def SetB:Prop:=∀A,A.handled=none->∀W st s,aE W st s->∀b x,W.R (.setb b) x->∀Q:List ae->ak->Prop,
 (∀s',(∀b o,s.heap.get? b=some o->s'.heap.get? b=some o)->s'.gens=s.gens->s'.os=s.os->Q [.bool b] s')->al (MD) A (unpackItems x 1 none) Q aT s
theorem xv(l:SetB)(f:aW false n A)(R:ar A W Wp Wr U c s)(i:W.R v x)(h:v=.tup vs/\vs.length=m∨(∃b,v=.setb b/\vs=[.bool b]/\m=1))
  (q:∀xs s',ar A W Wp Wr U c s'->av (aC A) W Wp s W s'->W.Rs vs xs->Q xs s'):al (MD) A (unpackItems x m none) Q aT s:=by
 rcases h with⟨rfl,g⟩|⟨b,rfl,rfl,rfl⟩
 ·obtain⟨_,a,items,k,rfl,f1,f2⟩:=i;have I:items.size=m:=by have:=VRs.length f2;exact i6 (aP [_,_,_] (.e af aj) (.e aj aA) (.l af aA) tU this g) (aP [_,_,_] (.q af aj) (.q aA af) (.l aj aA) tU g this)
  refine aU ?_ I;refine wpAny_unpackItems_tuple (f.hand rfl) ⟨_,R.st.frozen _ _ f1,rfl,k,rfl⟩ fun j t=>?_;refine oA (R.st.keeps (fr:=aC A) (s':={ s with heap:=j }) (fun b o e=>t b o (cQ (cG e)) e) R.st.gens rfl) fun d T=>?_;exact q _ _ (ar.lift (st:=c.st) (fs:=c.fs) R d T) (T.mono (by simp)) f2
 ·refine l A (f.hand rfl) W c.st s R.st b x i _ fun s' p z r=>?_;refine oA (R.st.keeps (fr:=aC A) (s':=s') p (z.trans R.st.gens) r) fun d T=>?_;exact q _ _ (ar.lift (st:=c.st) (fs:=c.fs) R d T) (T.mono (by simp)) (VRs.one (rH b))
theorem HC(e:pL is v a=some (u,n)):∃vs,(v=.tup vs/\vs.length=is.length/\is.Nodup∨(∃b,v=.setb b/\vs=[.bool b]/\is.length=1))/\kf is vs a=some (u,n):=
 vx e (fun Y e=>vx e (fun Y e=>am e) fun b hb e=>mU e (fun h e=>⟨[.bool b],.inr ⟨b,Vx hb,rfl,h⟩,e⟩) fun Y e=>am e) fun vs s e=>mU e (fun h e=>⟨vs,.inl ⟨nn s,h.1,h.2⟩,e⟩) fun Y=>am
theorem nP(q:SetB)(o:aW false n A)(R:ar A W Wp Wr U c s)(a:W.R v x):At A Wr U W Wp c s (jT) (fi target U x) ((dk Wr target).set v):=by
 delta dk;cases h:lV target with
 |some id=>
  refine(?_:At A Wr U W Wp c s jT _ (Tgt.set ((fo id Wr).elim .bad .name) v));obtain⟨p,rfl⟩:=qp h;cases h:fo id Wr with
  |none=>exact At.fail
  |some i=>exact BM h R a
 |none=>
  cases h:(qT target).bind _ with
  |none=>exact At.fail
  |some is=>intro u w e;refine ax h fun es m H=>?_;obtain⟨k,pos,rfl⟩:=Az m;obtain⟨I,P⟩:=QN H;obtain⟨vs,d⟩:=HC e;refine eC ?_;unfold unpack;refine aa (aa ?_ P.2) P.1;have B:vs.length=is.length:=d.1.elim (fun z=>z.2.1) fun⟨b,z⟩=>z.2.1▸z.2.2.symm;refine aq (eD (xv (vs:=vs) q o R a (d.1.imp (fun z=>⟨z.1,z.2.1⟩) (fun⟨b,z⟩=>⟨b,z⟩)) fun xs s1 r T Q=>?_));refine bM (BP I r Q B u w d.2) (fun y C t=>?_) fun Y Y f=>f;refine t _ fun l g j Y=>?_;exact .mk l g (T.trans j) trivial
theorem Hx:∀is,dk Wr target=.names is->∃c k pos,target=.Tuple c k pos:=fun is e=>by
 delta dk at e;cases h:lV target with
 |some id=>
  obtain e:=h▸e;have e:(fo id Wr).elim Tgt.bad .name=.names is:=e;cases h:fo id Wr with
  |none=>rw[h] at e;trivial
  |some i=>rw[h] at e;trivial
 |none=>
  rw[h] at e;cases h:(qT target).bind _ with
  |none=>rw[h] at e;trivial
  |some is=>exact ax h fun es a H=>by obtain⟨k,p,rfl⟩:=Az a;exact⟨_,_,_,rfl⟩
def ll(A:a8)(Wr:List aL)(U:bj)(Wp:List ai)(W:Wd)(σ:S)(s0:ak)(src:cn)(x:ae)(s:ak):Prop:=
 al (MD) A (io x) (ro (aC A) W σ.st Wp s src) aT s ∨
  (∃I J,s0.heap.get? I=none/\s0.heap.get? J=none/\x=.ref I/\aV W Wp I s.heap/\aV W Wp J s.heap/\dc W s.heap I J src/\∃vs,src=.enum 0 vs)
def nI(A:a8)(Wr:List aL)(U:bj)(Wp:List ai)(W0:Wd)(s0:ak)(W:Wd)(σ:S)(src:cn)(x:ae)(s:ak):Prop:=
 ∀vs,tj src=some vs->al (MD) A (call (.type "list") [x]) (fun y s2=>∃W2,ar A W2 Wp Wr U σ s2/\av (aC A) W0 Wp s0 W2 s2/\W2.R (.lst vs) y) aT s
def ee(A:a8)(Wr:List aL)(U:bj)(Wp:List ai)(t:bE ae)(c:IM):Prop:=
 ∀W σ s,ar A W Wp Wr U σ s->∀p σ',c σ=some (p,σ')->al (MD) A t (fun x s1=>∃W1,ar A W1 Wp Wr U σ' s1/\av (aC A) W Wp s W1 s1 /\
  ll A Wr U Wp W1 σ' s p.2 x s1/\nI A Wr U Wp W s W1 σ' p.2 x s1) aT s
def IX(fr:List ai)(W1:Wd)(st:List O)(Wp:List ai)(s s1:ak)(src:cn)(it:ae)(s2:ak):Prop:=
 ∃I J,it=.ref I/\s.heap.get? I=none/\s.heap.get? J=none/\aE W1 st s2/\av fr W1 [] s1 W1 s2/\aV W1 Wp I s2.heap/\aV W1 Wp J s2.heap/\dc W1 s2.heap I J src
theorem ll.iter(S:aE W d.st s')(T:av fr o Wp s W s')(h:ll A Wr U Wp W d s src x s'):
  al (MD) A (io x) (IX (aC A) W d.st Wp s s' src) aT s':=by
 rcases h with h|⟨I,J,j,k,rfl,C,n,p,vs,rfl⟩
 ·refine wN h fun it t u=>?_;refine u _ fun I J e f P R r H g i=>?_;obtain rfl:=e;exact⟨I,J,rfl,T.gone f,T.gone P,R,r,H,g,i⟩
 ·exact Fb (id p) fun q l items m old a b c=>H8 b ⟨I,J,rfl,j,k,S,.refl,C,n,p⟩
theorem Oa(h:∀a b c,iter≠.Set a b c)(x:ae):n0 iter U x=pure x:=by
 cases iter with
 |Set=>exact absurd rfl (h _ _ _)
 |_=>exact @rfl _ (pure x)
theorem zC(h:dK (MD) A c (fun r s'=>match r with|.ok f=>Q f s'|.error _=>False) s){E:ae->ak->Prop}:al (MD) A (runOwn c U) Q E s:=by
 refine wpAny_runOwn ?_ (by decide);exact lE h fun r s' z=>by
  cases r with
  |ok f=>exact z
  |error e=>exact z.elim
theorem Nf(w:SetB)(k:aW false n A)(C:∀x,n0 iter U x=pure x)(hit:ee A Wr U Wp (eval iter U) it)
  (B:bV A Wr U Wp (gp body U) m):bV A Wr U Wp (exec (.For target iter body [] pos) U) (fx (dk Wr target) it m):=fun W d s R=>by
 intro fl σ' e;refine bA e fun p i h j=>eC (eZ (hit W d s R p i h) fun x s1 u=>?_);refine ju u fun g a T F Y=>iX (C x) (eC (er (wN (F.iter a.st T) fun it Q u=>?_)));refine zU it u ?_;intro I J l P o c H q t;refine zC (lE (Oe k (fun W d s v x R D=>nP w k R D) Hx B l P (.mk g i p.2 (ar.lift a o c) H q t ((T.mono fun b y=>by simp[y]).tu c) j)) fun r s' z=>?_);cases r with
 |ok f=>exact z
 |error e=>assumption
def xf(A:a8)(Wr:List aL)(U:bj)(Wp:List ai)(W0:Wd)(s0:ak)(t:M Bool)(m WD:M Fl)(fl:Fl)(σ':S)(k:Nat)(s:ak):Prop:=∀C:Prop,(∀W σ,ar A W Wp Wr U σ s->av (aC A) W0 Wp s0 W s->gw t m WD k σ=some (fl,σ')->C)->C
theorem xf.mk{f:a8}{g:List aL}{h:bj}{i:List ai}{j:Wd}{T:M Bool}{l B:M Fl}{F:Fl}{N:S}{o:Nat}{s:ak}:∀W c,ar f W i g h c s->av (aC f) j i w W s->gw T l B o c=some (F,N)->xf f g h i j w T l B F N o s:=fun d z e x3 x4 C o=>o d z e x3 x4
theorem NP(ht:iz A Wr U Wp (isTrue test U (eval test U)) t)(h:bV A Wr U Wp (gp body U) m)(i:bV A Wr U Wp (gp WD U) mo):
  bV A Wr U Wp (exec (.While test body WD pos) U) (gw t m mo lf):=fun W σ s R=>by
 intro fl n e;refine eC (zC ?_);refine codeAny_whileLoop (xf A Wr U Wp W s t m mo fl n) (fun k s1 L=>?_) lf (.mk W σ R .refl e);refine L _ fun W1 σ1 r T x=>?_;clear L;cases k with
 |zero=>exact am x
 |succ k=>
  refine bA x fun b F H P=>wN (ht W1 σ1 s1 r b F H) fun w s2 u=>?_;clear ht r H;refine u _ fun p g o q=>?_;have:w=b:=q;clear q;subst this;cases w with
  |true=>
   refine bA P fun fb a d j=>bM (h p F s2 g fb a d) (fun f l u=>?_) fun ex l u=>?_
   ·clear h i g d;refine u _ fun D I z B=>?_;obtain C:=(T.trans o).trans z;cases fb with
    |next=>obtain rfl:f=.next:=B;exact⟨k,mA _,(.mk D a I C j)⟩
    |cont=>obtain rfl:f=.cont:=B;exact⟨k,mA _,(.mk D a I C j)⟩
    |brk=>obtain rfl:f=.brk:=B;exact kd fl n (cB (aR j)) (.mk D I C rfl)
    |ret v=>refine kW f B ?_;intro y hy;exact kd fl n (cB (aR j)) (.mk D I C ⟨y,rfl,hy⟩)
    |exc c as=>exact am j
   ·refine u _ fun D I z c as ez9 Y=>?_;obtain rfl:=ez9;exact am j
  |false=>
   refine bA P fun Q a d j=>bM (i p F s2 g Q a d) (fun f l u=>?_) fun ex l u=>?_
   ·clear h i g d;refine u _ fun D I z B=>?_;cases Q with
    |exc c as=>exact am j
    |_=>exact kd fl n (cB (aR j)) (.mk D I ((T.trans o).trans z) B)
   ·refine u _ fun D I z c as ez37 Y=>?_;obtain rfl:=ez37;exact am j
theorem LY:∀(l:List (Str×gC))(cs:List (Str×ai)),(∀p∈l,p.2=gD->∃c,U.cells.lookup p.1=some c)->
  ∃cl,(forIn l cs fun(x:Str×gC)(r:List (Str×ai))=>match x with
   |(name,kind)=>if(kind==gD)=true then do
     let a<-cellOf U name
     pure (mr ((name,a)::r))
    else pure (mr r):bE (List (Str×ai)))=pure cl/\(∀n,(n,gD)∈l->cl.lookup n=U.cells.lookup n)/\∀n,(n,gD)∉l->cl.lookup n=cs.lookup n:=by
 intro i;induction i with
 |nil=>intro cs h;exact⟨cs,by exact aa rfl List.forIn_nil,(fun n v=>by trivial),fun n Y=>rfl⟩
 |cons a0 r I=>
  obtain⟨m,k⟩:=a0;intro cs h;by_cases e:(k==gD)=true
  ·obtain j:=eq_of_beq e;subst j;obtain⟨c,d⟩:=h (m,.free) (.head _) rfl;refine cw (I ((m,c)::cs) fun p b=>h p (by simp[b])) fun cl f H C=>?_;have g:cellOf U m=pure c:=by delta cellOf;exact aa rfl d
   refine⟨cl,?_,fun n v=>?_,fun n v=>?_⟩
   ·refine aa ?_ (nG ..);dsimp only;refine aa (aa ?_ g) (if_pos e);trivial
   ·by_cases Q:(n,gD)∈r
    ·exact H n Q
    ·refine aa ?_ (C n Q);rcases List.mem_cons.mp v with q|q
     ·cases q;refine aa (aa ?_ d) gA;simp
     ·trivial
   ·rw[C n fun z=>v (by simp[z]),gA,beq_eq_false_iff_ne.mpr (fun z=>v (by refine aa ?_ z;exact .head _))]
  ·refine cw (I cs fun p b=>h p (by simp[b])) fun cl f H C=>⟨cl,?_,fun n v=>?_,fun n v=>?_⟩
   ·refine aa ?_ (nG ..);dsimp only;refine aa ?_ (if_neg e);trivial
   ·rcases List.mem_cons.mp v with q|q
    ·clear h v;cases q;trivial
    ·exact H n q
   ·exact C n fun z=>v (by simp[z])
theorem LX(h:∀p∈scope.names,p.2=gD->∃c,U.cells.lookup p.1=some c):
  ∃cl,closureFor scope U=pure cl/\∀n,(n,gD)∈scope.names->cl.lookup n=U.cells.lookup n:=by
 refine oE (LY scope.names [] h) fun cl a=>⟨cl,?_,a.2.1⟩;delta closureFor;refine aU ?_ a.1;refine aa ?_ (bind_pure ..);rfl
structure CJ(h0:bk)(Xd:List Str)(cl cs:List (Str×ai))(h:bk):Prop where
 keep:∀b o,h0.get? b=some o->h.get? b=some o
 hav:∀n∈Xd,∃c,cs.lookup n=some c
 each:∀n∈Xd,∀c,cs.lookup n=some c->h.get? c=some (lC none)/\h0.get? c=none
 inj:∀n∈Xd,∀n'∈Xd,∀c,cs.lookup n=some c->cs.lookup n'=some c->n=n'
 old:∀n,n∉Xd->cs.lookup n=cl.lookup n
theorem CJ.push(C:CJ F d cl cs h)(n:Str):CJ F (n::d) cl ((n,h.objs.size)::cs) (h.push (lC none)):=by
 have l:∀m,((n,h.objs.size)::cs).lookup m=if m=n then some h.objs.size else cs.lookup m:=fun m=>by
  refine aa ?_ gA;by_cases e:m=n
  ·subst e;simp
  ·exact aa (aa rfl (beq_eq_false_iff_ne.mpr e)) (if_neg e)
 have g:F.get? h.objs.size=none:=by
  cases q:F.get? h.objs.size with
  |none=>rfl
  |some o=>exact absurd (cG (C.keep _ _ q)) (jQ _)
 have i:∀m∈d,∀c,cs.lookup m=some c->c≠h.objs.size:=fun m a c e z=>jQ _ (z▸cG (C.each m a c e).1);refine⟨fun b o e=>bX _ (C.keep b o e),fun m a=>?_,fun m a c e=>?_,fun m a x f c e A=>?_,fun m a=>?_⟩
 ·refine aa ?_ (l ..);by_cases z:m=n
  ·exact⟨_,if_pos z⟩
  ·refine aa ?_ (if_neg z);refine(List.mem_cons.mp a).elim (fun rfl=>?_) fun a=>?_
   ·trivial
   ·exact C.hav m a
 ·rw[l] at e;by_cases z:m=n
  ·rw[if_pos z] at e;cases e;exact⟨bF _ rfl,g⟩
  ·rw[if_neg z] at e;obtain a:=(List.mem_cons.mp a).resolve_left z;exact⟨bX _ (C.each m a c e).1,(C.each m a c e).2⟩
 ·rw[l] at e A;by_cases z:m=n<;>by_cases v:x=n
  ·exact aa (aa rfl v) z
  ·obtain A:=(if_neg v)▸A;cases ((if_pos z)▸e);exact absurd rfl (i _ ((List.mem_cons.mp f).resolve_left v) _ A)
  ·obtain e:=(if_neg z)▸e;cases ((if_pos v)▸A);exact absurd rfl (i _ ((List.mem_cons.mp a).resolve_left z) _ e)
  ·obtain e:=(if_neg z)▸e;obtain A:=(if_neg v)▸A;exact C.inj _ ((List.mem_cons.mp a).resolve_left z) _ ((List.mem_cons.mp f).resolve_left v) _ e A
 ·have z:m≠n:=fun z=>a (by simp[z]);refine aa (aa ?_ (if_neg z)) (l ..);exact C.old m fun z=>a (by simp[z])
theorem LM{g:eF}{i:ae->ak->Prop}{o:bk}{q:List (Str×ai)}{t:List (Str×ai)->ak->Prop}:∀(l:List (Str×gC))(c:List Str)(cs:List (Str×ai))(s:ak),CJ o c q cs s.heap->
  (∀D b d,CJ o D q b d->(∀n,n∈D↔n∈c∨(n,g9)∈l)->t b { s with heap:=d })->
  al g A (forIn l cs fun(x:Str×gC) cells=>match x with
   |(name,kind)=>if(kind==g9)=true then do
     let a<-alloc { cls:=.type "cell",data:=.cell none }
     pure (mr ((name,a)::cells))
    else pure (mr cells)) t i s:=by
 intro p;induction p with
 |nil=>intro c cs s C h;exact ay (h c cs s.heap C fun n=>by simp)
 |cons a0 r I=>
  obtain⟨n,k⟩:=a0;intro c cs s C h;refine aa ?_ (nG ..);dsimp only;by_cases e:(k==g9)=true
  ·obtain j:=eq_of_beq e;clear e;subst j;refine I _ _ _ (C.push n) fun D b d f m=>h D b d f fun a=>?_;rw[m a];simp;constructor
   ·rintro((z|z)|z)
    ·exact .inr (.inl z)
    ·exact .inl z
    ·exact .inr (.inr z)
   ·rintro(z|z|z)
    ·exact .inl (.inr z)
    ·exact .inl (.inl z)
    ·exact .inr z
  ·refine aa ?_ (if_neg e);refine I c _ _ C fun D b d f m=>h D b d f fun a=>?_;rw[m a];simp;constructor
   ·rintro(z|z)
    ·exact .inl z
    ·exact .inr (.inr z)
   ·rintro(z|⟨_,z⟩|z)
    ·exact .inl z
    ·exact absurd rfl (z.symm▸e)
    ·exact .inr z
theorem Tr{n:Str}(h:scope.names.lookup n=some k):(m8 scope U).names.lookup n=some k∨(k=.free/\(m8 scope U).names.lookup n=some .cell):=by
 have i:∀(l:List _),l.lookup n=some k->(l.map fun(n,k)=>if(k==gD&&U.scope.kind==.function&&U.kindOf n==some .cell) then(n,g9) else(n,k)).lookup n=some k ∨
   (k=.free/\(l.map fun(n,k)=>if(k==gD&&U.scope.kind==.function&&U.kindOf n==some .cell) then(n,g9) else(n,k)).lookup n=some .cell):=by
  intro l;induction l with
  |nil=>intro h;exact am h
  |cons p r I=>
   obtain⟨m,j⟩:=p;intro h;rw[gA] at h;refine aa ?_ dH;by_cases e:(n==m)=true
   ·rw[e] at h;cases h;by_cases c:(k==gD&&U.scope.kind==.function&&U.kindOf m==some .cell)=true
    ·refine .inr ⟨?_,?_⟩
     ·simp only[kr] at c;exact eq_of_beq c.1.1
     ·simp only[c,if_true,gA,e]
    ·refine .inl ?_;simp only[c,if_false,gA,e,iY]
   ·have A:(n==m)=false:=by simpa using e
    rw[A] at h;by_cases c:(j==gD&&U.scope.kind==.function&&U.kindOf m==some .cell)=true
    ·simp only[c,if_true,gA,A];exact I h
    ·simp only[c,if_false,gA,A,iY];exact I h
 exact i _ h
theorem Mb(R:ar A W Wp (WQ::r) U I s)(hk:scope.kind=.function)(WR:∀n,(n,gD)∈scope.names->cl.lookup n=U.cells.lookup n)(Xe:(scope.names.map (·.1)).Nodup):
    al (MD) A (newFunctionEnv scope U.globals cl [] U.qual none .none (some U)) (fun d s'=>ar A W (du scope { d with scope:=m8 scope U }++Wp) (scope::WQ::r) { d with scope:=m8 scope U } ⟨jN scope.names.length none::I.fs,I.st⟩ s' /\
      av (aC A) W [] s W s'/\(∀a∈du scope { d with scope:=m8 scope U },s.heap.get? a=none)/\d.locals∈du scope { d with scope:=m8 scope U }/\∃m,s'.heap.Ns d.locals m) aT s:=by
  refine gb R.act.head fun fr0 frs0 hfs H0=>wB (H2 ?_);have C0:CJ _ [] cl cl (s.heap.push { cls:=.type "dict",data:=.dict #[] }):=
    ⟨fun Y Y e=>e,(fun n h=>by trivial),(fun n h=>by trivial),(fun n h=>by trivial),fun n Y=>rfl⟩
  have B:(s.heap.push { cls:=.type "dict",data:=.dict #[] }).get? s.heap.objs.size=some { cls:=.type "dict",data:=.dict #[] }:=bF _ rfl;refine wB (LM scope.names [] cl _ C0 fun Xd cs w C m2=>?_);dsimp only;refine nq (ay ?_);have v:∀{n i},cv n scope.names 0=some (i,.cell)->n∈Xd:=fun q=>(m2 _).mpr (.inr (nZ q));have hnone:∀i:Nat,(jN scope.names.length (none:Option V)).getD i none=none:=fun i=>by rw[eR,Jc];split<;>rfl
  have hfreem:∀{n i},cv n scope.names 0=some (i,.free)->n∉Xd:=fun{n i} q z=>by
    rcases(m2 n).mp z with z|z
    · trivial
    · obtain⟨a,D⟩:=A5 z;obtain⟨b,hb'⟩:=A5 (nZ q);have Q:(scope.names.map (·.1))[a]?=some n:=by rw[gY,D];rfl
      have eb:(scope.names.map (·.1))[b]?=some n:=by rw[gY,hb'];rfl
      have:=(List.getElem?_inj ((List.getElem?_eq_some_iff.mp Q).1) Xe).mp (Q.trans eb.symm);clear Q eb;subst this;exact absurd (D▸hb') nofun
  generalize l:({ scope:=m8 scope U,locals:=s.heap.objs.size,globals:=U.globals,cells:=cs,qual:=U.qual,func:=none,code:=U.code,frame:=U.frame,builtins:=U.builtins }:bj)=d;have y:d.locals=s.heap.objs.size:=aU rfl l;have t:d.cells=cs:=aU rfl l;have hEs:d.scope=m8 scope U:=aU rfl l;have u:∀b∈du scope d,s.heap.get? b=none/\∃o,w.get? b=some o:=fun b x=>by
    rcases List.mem_cons.mp x with rfl|x
    · refine aa ?_ y;exact⟨bG _,_,C.keep _ _ B⟩
    · refine aH (List.mem_filterMap.mp x) fun p H q=>?_;split at q
      · rename_i F;obtain q:=t▸q;have hpc:p=(p.1,g9):=by exact aU rfl (eq_of_beq F)
        refine oA (C.each _ ((m2 _).mpr (.inr (aU H hpc))) _ q) fun g1 g2=>?_;refine⟨?_,_,g1⟩;cases z:s.heap.get? b with
        |none=>rfl
        |some o=>obtain g2:=(co _ _ _ _ z)▸g2;contradiction
      · exact am q
  have hH:dn W scope d (jN scope.names.length none) w:=
    { kind:=by refine aa ?_ hEs;trivial
      names:=fun n i k q=>by refine aa ?_ hEs;exact Tr (Dw q)
      len:=by simp
      nd:=Xe
      loc:=⟨fun Y=>none,(by refine aa ?_ y;exact⟨_,#[],0,C.keep _ _ B,rfl,(fun e he=>absurd he (by simp)),fun Y=>rfl⟩),fun n i q=>by refine aa ?_ (hnone ..);trivial⟩
      cel:=fun n i q=>by refine oE (C.hav n (v q)) fun c F=>?_;exact⟨c,none,by refine aa ?_ t;exact F,(C.each n (v q) c F).1,by refine aa ?_ (hnone ..);trivial⟩
      inj:=fun n n' i i' c q q' f h2=>by rw[t] at f h2;exact C.inj n (v q) n' (v q') c f h2
      nloc:=fun n i c q f z=>by obtain f:=t▸f;have g:=(C.each n (v q) c f).2;obtain g:=z▸g;obtain g:=y▸g;obtain g:=B▸g;contradiction
      glob:=by refine aU ?_ l;exact H0.glob
      blt:=by refine aU ?_ l;exact H0.blt }
  refine oA (R.st.keeps (fr:=aC A) (s':={ s with heap:=w }) (fun b o e=>C.keep _ _ (co _ _ _ _ e)) R.st.gens rfl) fun S' T=>?_;have P:=ar.lift (st:=I.st) (fs:=I.fs) R S' T;refine⟨⟨S',?_,fun b x=>?_,fun b x=>?_,fun b x=>?_,P.stk⟩,T,fun b x=>(u b x).1,(by refine(?_:s.heap.objs.size∈du scope d);refine aU ?_ y;exact mS _ _),fun Y=>none,?_⟩
  · refine .comp P.act hH (fun a D hm=>?_) fun n i q=>?_
    · refine oE (R.actS a hm) fun o j=>?_;obtain j:=((u a D).1)▸j;exact am j
    · refine aa (aa ?_ (C.old n (hfreem q))) t;exact WR n (nZ q)
  · rcases List.mem_append.mp x with h|h
    · cases z:W.F b with
      |none=>rfl
      |some o=>have:=R.st.frozen _ _ z;obtain this:=((u b h).1)▸this;exact am this
    · exact R.actF b h
  · rcases List.mem_append.mp x with h|h
    · intro j;refine aH j fun p H z=>?_;refine ft (R.st.there p H) fun q11 o2 a2=>?_;refine oE q11 fun o1 a1=>?_;have:=(u b h).1;clear x h j H q11;rcases z with rfl|rfl
      · obtain this:=a1▸this;contradiction
      · obtain this:=a2▸this;contradiction
    · exact R.actO b h
  · rcases List.mem_append.mp x with h|h
    · exact(u b h).2
    · exact P.actS b h
  · refine(?_:Heap.Ns w s.heap.objs.size _);exact⟨_,#[],0,C.keep _ _ B,rfl,(fun e he=>absurd he (by simp)),fun Y=>rfl⟩
abbrev AccT:=Wd->List V->bk->ai->Prop
def re(A:a8)(Wr:List aL)(U:bj)(Wp:List ai)(AR:AccT)(W0:Wd)(s0:ak)(D:ai)(out:List V)(σ':S)(s':ak):Prop:=∀C:Prop,(∀W',ar A W' Wp Wr U σ' s'->av (aC A) W0 (D::Wp) s0 W' s'->aV W' Wp D s'.heap->AR W' out s'.heap D->C)->C
theorem re.mk{a:a8}{b:List aL}{e:bj}{c:List ai}{i:AccT}{f:Wd}{g:ai}{o:List V}{N:S}{s':ak}:∀W',ar a W' c b e N s'->av (aC a) f (g::c) w W' s'->aV W' c g s'.heap->i W' o s'.heap g->re a b e c i f w g o N s':=fun d z m x3 x4 C k=>k d z m x3 x4
structure nx(AR:AccT):Prop where
 mono:∀{W W':Wd}{h:bk}{D:ai}{acc:List V},AR W acc h D->(∀a o,W.F a=some o->W'.F a=some o)->(∀(k:Nat)(p:ai×ai),W.ρ[k]?=some p->W'.ρ[k]?=some p)->AR W' acc h D
 cell:∀{W:Wd}{h h':bk}{D:ai}{acc:List V},AR W acc h D->(∀o,h.get? D=some o->h'.get? D=some o)->AR W acc h' D
 nodict:∀{W:Wd}{h:bk}{D:ai}{acc:List V},AR W acc h D->∃o,h.get? D=some o/\∀es n,o.data≠.dict es n
theorem nx.step(P:nx I)(h:I W acc s.heap D)(O:aV W Wp D s.heap)(T:av fr W Wp s W' s'):I W' acc s'.heap D:=
 P.mono (P.cell h fun o e=>by refine aH (P.nodict h) fun Q A k=>?_;rw[e] at A;cases A;exact T.presX e O.O O.act k) T.F T.ρ
def gg:AccT:=fun W acc h D=>acc.length<=sizeMax/\∃items n,h.get? D=some (bL items n)/\W.Rs acc items.toList
theorem nO:nx (gg) where
 mono:=fun⟨l,items,n,a,b⟩ W c=>⟨l,items,n,a,VRs.mono W c _ _ b⟩
 cell:=fun⟨l,items,n,a,b⟩ k=>⟨l,items,n,k _ a,b⟩
 nodict:=fun⟨l,items,n,a,b⟩=>⟨_,a,fun es n z=>by trivial⟩
theorem sY(R:ar A W Wp Wr U g s)(O:aV W Wp I s.heap)(i:aV W Wp J s.heap)(v:∀b,b=I∨b=J->∃o,s.heap.get? b=some o/\∀es n,o.data≠.dict es n)(S:aE W' g.st s')(T:av (aC A) W [I,J] s W' s'):ar A W' Wp Wr U g s':=by
 have u:∀a,a∈Wp->a∉[I,J]:=fun a c z=>by
  simp only[dP,cq,or_false] at z;clear v T;rcases z with rfl|rfl
  ·exact O.act c
  ·exact i.act c
 refine⟨S,R.act.mono T.F T.ρ fun a c o e=>T.pres _ _ e (R.actO a c) (u a c),fun a c=>?_,fun a c=>?_,fun a c=>?_,?_⟩
 ·obtain⟨Q,d⟩:=R.actS a c;exact T.F_none d (R.actF a c) (R.actO a c)
 ·obtain⟨Q,d⟩:=R.actS a c;exact T.O_none d (R.actO a c)
 ·obtain⟨Q,d⟩:=R.actS a c;exact T.alive _ _ d
 ·refine aH R.stk fun l e h=>⟨l,e,fun j B=>?_⟩;refine j8 (h j B) fun k b P p r o H es m f=>?_;by_cases z:b=I∨b=J
  ·refine aH (v b z) fun y D C=>?_;rw[H] at D;cases D;exact absurd f (C es m)
  ·exact aH (T.pres _ _ H r (by simpa using z)) fun Q q t=>⟨k,b,P,T.F_none H p r,T.O_none H r,Q,q,es,m,t.data.trans f⟩
def kq(A:a8)(Wr:List aL)(U:bj)(Wp:List ai)(AR:AccT)(D:ai)(t:bE α)(m:List V->M (List V)):Prop:=
 ∀W σ s acc,ar A W Wp Wr U σ s->aV W Wp D s.heap->AR W acc s.heap D->∀out σ',m acc σ=some (out,σ')->
  al (MD) A t (fun Y s'=>re A Wr U Wp AR W s D out σ' s') aT s
noncomputable abbrev sB(U:bj)(ifs:List Expr)(b:Bool):bE Bool:=forIn ifs b fun c r=>if r=true then do let ok<-JR c U (eval c U);pure (mr ok) else pure (mr r)
inductive jJ(A:a8)(Wr:List aL)(U:bj)(Wp:List ai):List Expr->List (M Bool)->Prop
 |nil:jJ A Wr U Wp [] []
 |cons {c:Expr}{m:M Bool}{cs:List Expr}{ms:List (M Bool)}:iz A Wr U Wp (JR c U (eval c U)) m->jJ A Wr U Wp cs ms->jJ A Wr U Wp (c::cs) (m::ms)
theorem O5{M:eF}{E:ae->ak->Prop}:∀{ifs:List Expr}{s:ak},Q false s->al M A (sB U ifs false) Q E s:=by
 intro p;induction p with
 |nil=>intro s q;exact ay q
 |cons c r I=>intro s q;delta sB;refine aa ?_ (nG ..);refine aq (aa ?_ (if_neg iZ));exact ay (I q)
theorem O3{t:M (List V)}{G:M (List V)}{x:List Expr}{D:List (M Bool)}(u:jJ A Wr U Wp x D){z:List V}{N:S}:∀{W:Wd}{a:S}{s:ak},ar A W Wp Wr U a s->fm D t G a=some (z,N)->∀{Q:Bool->ak->Prop},
  (∀c i s1 b,ar A c Wp Wr U i s1->av (aC A) W Wp s c s1->(if b=true then t else G) i=some (z,N)->Q b s1)->al (MD) A (sB U x true) Q aT s:=by
 induction u with
 |nil=>intro W a s R e Q q;exact ay (q W a s true R .refl e)
 |cons h p I=>
  intro W a s R e Q q;refine bA e fun b i f k=>?_;delta sB;refine aa ?_ (nG ..);refine wB (aa ?_ (if_pos rfl));refine eZ (h W a s R b i f) fun w s1 u=>?_;clear h R f;refine u _ fun c r T l=>?_;have:w=b:=l;refine ay ?_;clear l;subst this;cases w with
  |true=>exact I r k fun v F o b j y=>q v F o b j (T.trans y)
  |false=>exact O5 (q c i s1 false r T (by trivial))
inductive nC:Expr->Prop
 |list (elt:Expr) (gens:List fc) (sc:aL) (pos:ef):nC (.ListComp elt gens sc pos)
 |set (elt:Expr) (gens:List fc) (sc:aL) (pos:ef):nC (.SetComp elt gens sc pos)
noncomputable def lF(acc:ae)(U:bj)(e:Expr):bE Unit:=if h:e.ctorIdx=8 then Expr.ListComp.elim (motive_1:=fun _=>bE Unit) e h fun elt _ _ _=>do
  let x<-eval elt U
  let _<-call (.builtin "list.append") [acc,x]
  pure ()
 else if h:e.ctorIdx=9 then Expr.SetComp.elim (motive_1:=fun _=>bE Unit) e h fun elt _ _ _=>do
  let v<-eval elt U
  standAt elt.pos
  let _<-call (.builtin "set.add") [acc,v]
  pure ()
 else pure ()
def mR(e:Expr)(d:Nat)(acc:ae)(U:bj):bE Unit:=match (iK e)[d+1]? with
 |some g=>do
  let x<-eval g.iter U
  standAt g.iter.pos
  let x<-n0 g.iter U x
  let it<-holding [x] (io x)
  let _<-runOwn (.compStart e (d+1) it acc U) U
  pure ()
 |none=>lF acc U e
theorem Vq(B:nC e){I:List Expr}{n:ae->ak->Prop}{p:eF}(z:(iK e)[d]?=some ⟨t,iter,I,0⟩)(j:∀g,(iK e)[d+1]?=some g->g.is_async=0)
  (h:al p A (gc it) (fun r s1=>match r with
   |none=>Q (.done .next) s1
   |some v=>al p A (uY t it v) (fun Y o=>al p A (fi t U v) (fun Y m=>al p A (sB U I true) (fun ok f=>if ok=true then al p A (mR e d acc U) (fun Y q=>Q (.again (.compLoop e d it acc U)) q) n f else Q (.again (.compLoop e d it acc U)) f) n m) n o) n s1) n s):
  al p A (xN e d it acc U) Q n s:=by
 cases B with
 |list elt gens sc pos=>
  have i:=z;delta xN;dsimp only;refine aa ?_ i;dsimp only;refine aq (tH (aq (bM h (fun r s1 b=>?_) fun Y Y x=>x)));cases r with
  |none=>exact ay b
  |some v=>
   refine aq (bM b (fun Y o H=>aq (bM H (fun Y m C=>aq (bM C (fun ok f a=>?_) fun Y Y x=>x)) fun Y Y x=>x)) fun Y Y x=>x);cases ok with
   |false=>exact ay a
   |true=>
    refine oU ?_ (aq (bM a (fun Y q=>ay) fun Y Y x=>x));delta mR;have hd:iK (.ListComp elt gens sc pos)=gens:=rfl;refine aa ?_ hd;cases c:gens[d+1]? with
    |none=>rfl
    |some g=>have l:=j g c;clear c;obtain⟨t',k⟩:=g;subst l;simp only[bind_assoc];rfl
 |set elt gens sc pos=>
  have i:=z;delta xN;dsimp only;refine aa ?_ i;dsimp only;refine aq (tH (aq (bM h (fun r s1 b=>?_) fun Y Y x=>x)));cases r with
  |none=>exact ay b
  |some v=>
   refine aq (bM b (fun Y o H=>aq (bM H (fun Y m C=>aq (bM C (fun ok f a=>?_) fun Y Y x=>x)) fun Y Y x=>x)) fun Y Y x=>x);cases ok with
   |false=>exact ay a
   |true=>
    simp only[if_true] at a ⊢;refine oU (t':=mR _ d acc U>>=fun Y=>again _) ?_ (aq (bM a (fun Y q=>ay) fun Y Y x=>x));delta mR;have hd:iK (.SetComp elt gens sc pos)=gens:=rfl;refine aa ?_ hd;cases c:gens[d+1]? with
    |none=>rfl
    |some g=>have l:=j g c;clear c;obtain⟨t',k⟩:=g;subst l;simp only[bind_assoc];rfl
def oZ(A:a8)(Wr:List aL)(U:bj)(Wp:List ai)(AR:AccT)(W0:Wd)(s0:ak)(I J D:ai)(t:Tgt)(m:List V->M (List V))(out:List V)(σ':S)(k:Nat)(s:ak):Prop:=∀C:Prop,(∀W σ src acc,ar A W Wp Wr U σ s->aV W Wp I s.heap->aV W Wp J s.heap->aV W Wp D s.heap->AR W acc s.heap D->I≠D->J≠D->dc W s.heap I J src->av (aC A) W0 (I::J::D::Wp) s0 W s->jk t m k src acc σ=some (out,σ')->C)->C
theorem oZ.mk{p:a8}{q:List aL}{r:bj}{v:List ai}{x:AccT}{B:Wd}{y F G:ai}{T:Tgt}{L:List V}{N:S}{P:Nat}{s:ak}:∀W c src acc,ar p W v q r c s->aV W v y s.heap->aV W v F s.heap->aV W v G s.heap->x W acc s.heap G->y≠G->F≠G->dc W s.heap y F src->av (aC p) B (y::F::G::v) w W s->jk T H P src acc c=some (L,N)->oZ p q r v x B w y F G T H L N P s:=fun d z f x3 x4 h j u l o x10 e g i C P=>P d z f x3 x4 h j u l o x10 e g i
theorem aV.on(O:aV W Wp I h)(k:I∉acts'):aV W acts' I h:=⟨O.F,O.O,k,O.there⟩
inductive FA(t:Tgt)(m:List V->M (List V))(k:Nat)(src:cn)(acc:List V)(σ:S)(out:List V)(σ':S):Prop
 |done:src.next σ.st=some none->out=acc->σ'=σ->FA t m k src acc σ out σ'
 |step:∀v Wz k' u σ1 WT σ2,k=k'+1->src.next σ.st=some (some (v,Wz))->t.setFrom src v σ=some (u,σ1)->m acc σ1=some (WT,σ2)->jk t m k' Wz WT σ2=some (out,σ')->FA t m k src acc σ out σ'
theorem Ob(e:jk t m k src acc a=some (out,n)):FA t m k src acc a out n:=by
 cases k with
 |zero=>
  refine bA e fun o c b e=>?_;revert e;refine bg o c b fun e=>?_;generalize Q:src.next a.st=r at e;cases r with
  |none=>exact am e
  |some y=>
   cases y with
   |none=>exact bg out n e (.done Q rfl rfl)
   |some p=>exact am e
 |succ k=>
  have e:w8 M.fail (fun y=>w8 (M.pure acc) (fun p=>t.setFrom src p.1>>=fun Y=>m acc>>=jk t m k p.2) y) (src.next a.st) a=some _:=Eq.trans (Eq.symm (by kernel_rfl!)) e;generalize Q:src.next a.st=r at e;cases r with
  |none=>exact am e
  |some y=>
   cases y with
   |none=>exact bg out n e (.done Q rfl rfl)
   |some p=>exact bA e fun u i f e=>bA e fun fb F g e=>.step _ _ _ _ _ _ _ rfl Q f g e
theorem CK(P:nx j)(hB:SetB)(hA:aW false n A)(he:nC e){G:List Expr}
  (hg:(iK e)[d]?=some ⟨target,iter,G,0⟩) (hg':∀g,(iK e)[d+1]?=some g->g.is_async=0) (hifs:jJ A Wr U Wp G ms) (hm:kq A Wr U Wp j D (mR e d (.ref D) U) m)
  (h0:w.heap.get? I=none) (h0':w.heap.get? J=none) (L:oZ A Wr U Wp j W0 w I J D (dk Wr target) (fun acc=>fm ms (m acc) (pure acc)) out σ' k s):
  dK (MD) A (.compLoop e d (.ref I) (.ref D) U) (fun r s'=>match r with|.ok _=>re A Wr U Wp j W0 w D out σ' s'|.error _=>False) s:=by
 have hu:A.under (.compLoop e d (.ref I) (.ref D) U)=A:=by cases he<;>rfl
 have hq:(IF e d (.ref I) (.ref D) U).quiet=true:=by cases he<;>rfl
 have hden:(MD).den (.compLoop e d (.ref I) (.ref D) U)=(xN e d (.ref I) (.ref D) U).onRaise (fun x=>do noteFrame x U;theTreesLotGoes x):=by cases he<;>rfl
 refine codeAny_loop hq _ (fun k s L=>?_) k L;refine aa ?_ hu;refine aa ?_ hden;refine wpAny_noted (bM (Q:=fun fin s'=>match fin with|.done f=>re A Wr U Wp j W0 w D out σ' s'|.again c'=>c'=.compLoop e d (.ref I) (.ref D) U/\∃m',m'<k/\oZ A Wr U Wp j W0 w I J D (dk Wr target) (fun acc=>fm ms (m acc) (pure acc)) out σ' m' s') (E:=aT) (Vq he hg hg' ?_) (fun fin s' z=>by cases fin<;>exact z) fun Y Y f=>f.elim);refine L _ fun W σ src acc R O c H Xf i t hI T e1=>?_;clear L;cases Ob e1 with
 |done hr h1 h2=>cases h1;subst h2;exact wN (uB (fr:=aC A) (target:=target) hA R.st O c hI hr fun Y z=>absurd rfl z) fun o s1 l=>GD o l fun q hgn ho=>oA (ve R O c T h0 h0' hI q hgn ho) fun R' T'=>oE H.there fun oD hoD=>.mk W R' T' ⟨H.F,H.O,H.act,oD,(fun o e=>q D o (bB i) (bB t) e) _ hoD⟩ (P.cell Xf (fun o e=>q D o (bB i) (bB t) e))
 |step v Wz k u σ1 WT σ2 q hr e2 e3 e9=>
  clear e1;subst q;refine wN (uB hA R.st O c hI hr fun z Y=>(GT e2 z).elim Hx) fun o s1 l=>kW o l fun x l=>wN l fun Y s2 hs=>cw hs fun W1 S1 a hR=>aN (nP hB hA (Gr R O c hI S1 a) hR.1 u σ1 (GU e2 rfl)) fun Y s3 W2 R2 y Y=>?_;have O2:=(O.step a).step y;have O2':=(c.step a).step y;have OD2:=(H.step a).step y;refine O3 hifs R2 e3 fun W3 σ3 s4 b R3 h e4=>?_;have B:=O2.step h;have C:=O2'.step h;have OD3:=OD2.step h;have hAR3:=P.step (P.step (P.step Xf (H.on (by simp[bB i,bB t])) a) (H.step a) y) OD2 h;have hI3:=(hR.2.step (O.step a) (c.step a) y).step O2 O2' h;have T03:=((T.trans (a.mono (by simp))).trans (y.mono fun b p=>bD _ (bD _ (bD _ p)))).trans (h.mono fun b p=>bD _ (bD _ (bD _ p)));cases b with
  |true=>simp only[if_true] at e4 ⊢;refine bM (hm W3 σ3 s4 acc R3 OD3 hAR3 WT σ2 e4) (fun Y s5 hh=>?_) fun Y Y f=>f.elim;refine hh _ fun W4 R4 F OD4 hAR4=>?_;have OI3:aV W3 (D::Wp) I s4.heap:=B.on (by simp[i,B.act]);have OJ3:aV W3 (D::Wp) J s4.heap:=C.on (by simp[t,C.act]);exact⟨by trivial,k,mA _,(.mk W4 σ2 Wz WT R4 (B.step F) (C.step F) OD4 hAR4 i t (hI3.step OI3 OJ3 F) (T03.trans (F.mono fun b p=>bD _ (bD _ p))) e9)⟩
  |false=>simp only[iY,if_false] at e4 ⊢;refine oA (cB (aR (show some (acc,σ3)=some (WT,σ2) from e4))) fun q32 q33=>?_;subst q32;subst q33;exact⟨by trivial,k,mA _,(.mk W3 σ3 Wz acc R3 B C OD3 hAR3 i t hI3 T03 e9)⟩
theorem Pp{E:ae->ak->Prop}(h:dc W s.heap I J src)(q:Q (.ref I) s):al (MD) A (io (.ref I)) Q E s:=by
 cases src with
 |vals vs=>
  refine oA h ?_;intro f h;rcases h with⟨l,items,m,i,a,b,c⟩|⟨l,items,m,i,a,b,c⟩|⟨x,k,a,b⟩
  ·exact VZ b q
  ·exact wpAny_pyIter_tupleiter b q
  ·exact wpAny_pyIter_rangeiter a q
 |lidx k i=>refine ga h ?_;intro g p a b;exact VZ b q
 |didx k i m ep d=>
  refine ga h ?_;try clear h;intro n p a b
  cases d with
  |true=>exact wpAny_pyIter_valiter b q
  |false=>exact wpAny_pyIter_keyiter b q
 |enum j vs=>exact Fb h fun e l items m old a b c=>H8 b q
theorem CL(B:nC e){i:List Expr}(z:(iK e)[d]?=some ⟨target,iter,i,0⟩)(q:dc W s.heap I J src)
  (h:dK (MD) A (.compLoop e d (.ref I) (.ref D) U) R s):dK (MD) A (.compStart e d (.ref I) (.ref D) U) R s:=by
 have a:A.under (.compStart e d (.ref I) (.ref D) U)=A:=by cases B<;>rfl
 have r:(IF e d (.ref I) (.ref D) U).quiet=true:=by cases B<;>rfl
 have w:(MD).den (.compStart e d (.ref I) (.ref D) U)=(compStart e d (.ref I) (.ref D) U).onRaise (fun x=>do noteFrame x U;standAt theWindowsPlace):=by cases B<;>rfl
 refine uu (aa (aa ?_ w) a);refine wpAny_notedAt ?_;delta compStart;refine aa ?_ z;refine wB (AK (wpAny_ite ?_));split
 ·first
   |exact ay (And.intro r h)
 ·refine eC (wB (Pp q ?_));exact ay (And.intro r h)
inductive lb(A:a8)(Wr:List aL)(U:bj)(Wp:List ai):List fc->List (iy×IM)->Prop
 |nil:lb A Wr U Wp [] []
 |cons {t iter:Expr}{ifs:List Expr}{ms:List (M Bool)}{it:IM}{WH:List fc}{r:List (iy×IM)}:jJ A Wr U Wp ifs ms->ee A Wr U Wp (eval iter U) it->((∀x,n0 iter U x=pure x)∨∀σ,it σ=none)->lb A Wr U Wp WH r->
   lb A Wr U Wp (⟨t,iter,ifs,0⟩::WH) ((⟨dk Wr t,ms⟩,it)::r)
theorem lb.async{y:List fc}(h:lb A Wr U Wp y r):∀g∈y,g.is_async=0:=by
 induction h with
 |nil=>trivial
 |cons _ _ _ _ I=>
  intro g z;rcases List.mem_cons.mp z with rfl|z
  ·rfl
  ·exact I g z
theorem LW{G:AccT}(P:nx G)(hB:SetB)(hA:aW false n A){N:Expr}(F:nC N){X:M V}(hem:kq A Wr U Wp G D (lF (.ref D) U N) (fun acc=>do let v<-X;M.lift (Xn v acc))):
  ∀(r:List (iy×IM))(y:List fc)(d:Nat),(iK N).drop (d+1)=y->lb A Wr U Wp y r->kq A Wr U Wp G D (mR N d (.ref D) U) (iJ Xn X r):=by
 intro l00;induction l00 with
 |nil=>
  intro y d hd h;cases h;have hx:(iK N)[d+1]?=none:=by rw[A4];exact List.drop_eq_nil_iff.mp hd
  delta mR;refine aa ?_ hx;trivial
 |cons a0 r ih=>
  intro y d hd h;cases h with
  |@cons t iter ifs ms _ w _ h1 h2 h3 B=>
   obtain⟨k,q⟩:=iM hd;delta mR;refine aa ?_ k;intro W σ s acc R H Xf out σ' e0;refine bA e0 fun p σ1 m e2=>eZ (h2 W σ s R p σ1 m) fun x s1 u=>ju u fun W1 l T hV Y=>eC (iX ((h3.resolve_right fun z=>by exact am ((z σ)▸m)) x) (er (wN (hV.iter l.st T) fun it s2 u=>?_)));refine zU it u ?_;intro I J a C q3 j q5 q6 q7;obtain⟨oD,Q⟩:=H.there;have hID:I≠D:=fun z=>by obtain a:=z▸a;obtain a:=Q▸a;trivial
   have hJD:J≠D:=fun z=>by obtain C:=z▸C;obtain C:=Q▸C;trivial
   have L:oZ A Wr U Wp G W s I J D _ (fun acc=>fm ms _ _) out σ' p.1 s2:=
    (.mk W1 σ1 p.2 acc (ar.lift l q3 j) q5 q6 ((H.step T).step j) (P.step (P.step Xf H T) (H.step T) (j.mono (by simp))) hID hJD q7 ((T.tu j).mono (fun b W8=>by simp[W8])) e2)
   refine wB (zC ?_);refine CL F k q7 (lE (CK P hB hA F k (fun g hg=>?_) h1 (ih w _ q B) a C L) fun res s3 z=>?_)
   ·have:g∈w:=by refine aU ?_ q;exact et (i:=0) (by refine aa ?_ (Jb);trivial)
    exact B.async g this
   ·cases res with
    |ok f=>exact ay z
    |error x=>exact z.elim
theorem C6(h:aK A Wr U Wp (eval elt U) m):kq A Wr U Wp (gg) D (lF (.ref D) U (.ListComp elt gens sc pos)) (fun acc=>do let v<-m;M.lift (im v acc)):=by
 intro W Q s acc R H j out σ' e;refine bA e fun v σ1 B g=>?_;cases r:im v acc with
 |none=>obtain g:=r▸g;exact am g
 |some w=>
  refine bg out σ' (r▸g) ?_;delta im at r;split at r
  ·rename_i F;cases r;refine aB (h W Q s R v σ1 B) fun x s1 u i T q=>?_;have c:=H.step T;refine vu (nO.step j H T) fun C items k a b=>?_;obtain I:=by have:=VRs.length b;simpa using this
   refine wB (wpAny_list_append_plain ⟨k,a⟩ (fun h' l t=>ay ?_) (by refine aa ?_ I;exact bb C d7));refine oE l fun P f=>oA (kc (fr:=aC A) (k:=s1.toks) i.st c t ⟨_,f⟩) fun p y=>?_;have o:=sY i c c (fun b d=>by clear H j c l t f;rcases d with rfl|rfl<;>exact⟨_,a,fun es n z=>by trivial⟩) p y.two
   refine .mk u o ((T.mono fun b d=>by simp[d]).trans (y.mono (by simp))) (c.step y) (?_);refine⟨by simp;exact F,_,P,f,?_⟩;rw[wy];exact VRs.append b (VRs.one q)
  ·exact am r
theorem Cz{c R:List (Str×ai)}:∀{l:List (Str×gC)},(∀p∈l,p.2=g9->(c.lookup p.1).isSome/\(R.lookup p.1).isSome)->
  (l.filterMap fun n=>if n.2==.cell then c.lookup n.1 else none).length=(l.filterMap fun n=>if n.2==.cell then R.lookup n.1 else none).length
 |[],_=>rfl
 |p::r,h=>by
  have I:=Cz (l:=r) fun q g=>h q (by simp[g]);by_cases e:(p.2==g9)=true
  ·obtain⟨d,H⟩:=h p (by simp) (eq_of_beq e);obtain⟨a,f⟩:=Option.isSome_iff_exists.mp d;obtain⟨b,A⟩:=Option.isSome_iff_exists.mp H;simp only[nF,e,if_true,f,A,iD,I]
  ·simp only[nF,(by assumption),iY,if_false,I]
theorem xJ{c R:List (Str×ai)}:∀{l:List (Str×gC)},(∀p∈l,p.2=g9->(c.lookup p.1).isSome/\(R.lookup p.1).isSome)->
  (l.filterMap fun n=>if n.2==.cell then c.lookup n.1 else none)=(l.filterMap fun n=>if n.2==.cell then R.lookup n.1 else none)->∀p∈l,p.2=g9->c.lookup p.1=R.lookup p.1
 |[],_,_,p,d,_=>by contradiction
 |q::r,h,B,p,d,j=>by
  by_cases e:(q.2==g9)=true
  ·refine oA (h q (by simp) (eq_of_beq e)) fun i H=>?_;refine oE (Option.isSome_iff_exists.mp i) fun a g=>?_;refine oE (Option.isSome_iff_exists.mp H) fun b A=>?_;simp only[nF,e,if_true,g,A,A2] at B;rcases List.mem_cons.mp d with rfl|d
   ·exact aa (aa (aa rfl B.1) A) g
   ·exact xJ (l:=r) (fun q f=>h q (by simp[f])) B.2 p d j
  ·simp only[nF,(by assumption),iY,if_false] at B;rcases List.mem_cons.mp d with rfl|d
   ·exact absurd rfl (j▸e)
   ·exact xJ (fun q f=>h q (by simp[f])) B p d j
theorem N5{n:Str}{k:gC}:∀{l:List (Str×gC)}{j:Nat},(l.map (·.1)).Nodup->(n,k)∈l->∃i,cv n l j=some (i,k):=by
 intro l00;induction l00 with
 |nil=>intro _ _ h;exact by contradiction
 |cons y0 r ih=>
  intro j v h;obtain⟨m,q⟩:=y0;simp only[dH,rz] at v;unfold cv;rcases List.mem_cons.mp h with e|h
  ·cases e;exact⟨j,by simp⟩
  ·have:¬ (m==n)=true:=fun e=>v.1 (by refine aa ?_ (eq_of_beq e);exact List.mem_map.mpr ⟨(n,k),h,rfl⟩);refine aa ?_ (if_neg this);exact ih v.2 h
theorem dn.cellSome{s:aL}{f:List (Option V)}{b:bk}(H:dn W s U f b):∀p∈s.names,p.2=g9->(U.cells.lookup p.1).isSome:=fun p e j=>by refine oE (N5 H.nd (show _∈s.names by refine aU ?_ j;trivial)) fun i D=>gb (H.cel _ _ D) fun c x a Y=>?_;refine aa ?_ a;rfl
theorem dn.swap{f:List (Option V)}(H:dn W sc out f h)(a:dn s sc U fr0 F)(e:du sc out=du sc U):dn W sc U f h:=by
  obtain c:=fun n i q=>xJ (fun p b j=>⟨H.cellSome p b j,a.cellSome p b j⟩) ((kx e).2) _ (nZ q) rfl
  exact
    { kind:=a.kind
      names:=a.names
      len:=H.len
      nd:=H.nd
      loc:=by refine aU ?_ ((kx e).1);exact H.loc
      cel:=fun n i q=>by refine aU ?_ (c n i q);exact H.cel n i q
      inj:=a.inj
      nloc:=a.nloc
      glob:=a.glob
      blt:=a.blt }
theorem Oh{f:List (Option V)}(H:dn W sc out f h)(i:dn s sc U fr0 F):(du sc out).length=(du sc U).length:=congrArg (·+1) (Cz fun p e j=>⟨H.cellSome p e j,i.cellSome p e j⟩)
theorem cL.swap{h F:bk}{s:Wd}:∀{Wr:List aL}{out U:bj}{fs a:List (List (Option V))}{Wp:List ai},cL W h Wr out fs Wp->cL s F Wr U a Wp->cL W h Wr U fs Wp
 |[],_,_,_,_,_,R,_=>absurd rfl (tf R)
 |[sc],out,U,fs,a,Wp,R,C=>R.inv _ fun fr e q f g=>C.inv _ fun t _ p u _=>aa (aa (.fn (f.swap u (q.symm.trans p)) g) p) e
 |sc::l::r,out,U,fs,a,Wp,R,C=>R.inv _ fun o fr F k e q I f _ _=>C.inv _ fun H t _ m _ p D u j i=>oA (IY (q.symm.trans p) (Oh f u)) fun b c=>aa (aa (.comp (cL.swap (c▸I) D) (f.swap u b) j i) p) e
theorem cL.pop(R:cL W h (sc::w::r) n fs (du sc n++Wp))(C:cL s F (w::r) U b Wp):
  cL W h (w::r) U fs.tail Wp:=R.inv _ fun o fr f k e q a _ _ _=>aa (cL.swap ((List.append_cancel_left q).symm▸a) C) e
theorem xP(P:nx AR)(hB:SetB)(hA:aW false n A)(he:nC e){G:List Expr}(WR:iK e=⟨t,iter,G,0⟩::WH)
  (hset:∀x,n0 iter U x=pure x) (hk:scope.kind=.function) (Xe:(scope.names.map (·.1)).Nodup) (hloc:∀x∈scope.names,x.2=.local->scope.names.lookup x.1=some .local)
  (Xb:∀p∈scope.names,p.2=gD->(nV p.1 (w::r')).isSome)
  (Xg:ee A (w::r') U Wp (eval iter U) first)
  (hin:∀Ww acts' D,kq A (scope::w::r') Ww acts' AR D (lF (.ref D) Ww e) (fun acc=>do let v<-WG;M.lift (WL v acc)))
  (hifs:∀Ww acts',jJ A (scope::w::r') Ww acts' G ms)
  (hcls:∀Ww acts',lb A (scope::w::r') Ww acts' WH r)
  (hnew:∀(s:ak)(Q:ae->ak->Prop),(∀o,o.isFreed=false->(∀W,AR W [] (s.heap.push o) s.heap.objs.size)->Q (.ref s.heap.objs.size) { s with heap:=s.heap.push o })->al (MD) A newAcc Q aT s)
  (R:ar A W Wp (w::r') U σ s) (e0:comp WL scope.names.length WG first ⟨dk (scope::w::r') t,ms⟩ r σ=some (out,σ'))
  (hq:∀H j D C f,ar A H Wp (w::r') U σ' j->av (aC A) W Wp s H j->aV H Wp D j.heap->AR H out j.heap D->s.heap.get? D=none->aV H Wp C j.heap->s.heap.get? C=none->C≠D->(∃m,j.heap.Ns C m)->compPost (MD) A aT use Q (.ref D) C (.ok f) j):
  al (MD) A (CM e scope U pos newAcc false (eval iter U) use) Q aT s:=by
 obtain⟨cl,hclos⟩:=LX fun p hp hk=>by obtain⟨⟨d,i⟩,hdi⟩:=Option.isSome_iff_exists.mp (Xb p hp hk);exact gb (R.act.cell hdi) fun c x h1 Y=>⟨c,h1⟩
 refine(bind_some e0) _ fun p σ1 e1 e2=>?_;refine(bind_some e2) _ fun u σ2 e3 e4=>?_;obtain⟨q5,q6⟩:=cB (aR e3);clear e3;clear Xb e0 e2;subst q6;refine(bind_some e4) _ fun out' σ3 e5 e6=>?_;refine(bind_some e6) _ fun u' σ4 e7 e8=>?_;obtain⟨q7,q8⟩:=cB (aR e7);clear e7;clear e6;subst q8;obtain⟨q9,q10⟩:=cB (aR e8);clear e4 e8;subst q9;subst q10;refine wpAny_comprehension_free WR hset hclos.1 hk hloc (wN (Xg W σ s R p σ1 e1) fun x s1 hh=>?_);refine ju hh fun W1 R1 T1 hV Y=>wN (hV.iter R1.st T1) fun it h hh=>?_;refine zU it hh ?_;intro I J q1 q2 q3 q4 q5 q6 q7;have T:=ar.lift R1 q3 q4;refine hnew h _ fun o ho Xf=>oA (T.st.keeps (fr:=aC A) (s':={ h with heap:=h.heap.push o }) (co _ _) T.st.gens rfl) fun S3 U3=>?_;have WE:av _ W Wp s W1 { h with heap:=h.heap.push o }:=(T1.tu q4).tu U3;have hD0:=(T1.tu q4).gone (bG _);have hID:I≠h.heap.objs.size:=fun z=>by obtain⟨o',ho'⟩:=q5.there;rw[z,bG] at ho';trivial
 have hJD:J≠h.heap.objs.size:=fun z=>by obtain⟨o',ho'⟩:=q6.there;rw[z,bG] at ho';trivial
 refine wN (Mb (ar.lift T S3 U3) hk hclos.2 Xe) fun l s4 hh=>?_;refine zr hh fun R4 U4 fresh hC hN=>?_;generalize hce:({ l with scope:=m8 scope U }:bj)=y at R4 fresh hC ⊢;have hCl:l.locals=y.locals:=aU rfl hce;obtain alive3:=fun Y=>rfl;have notin:∀{a:ai},(∃q,(h.heap.push o).get? a=some q)->a∉du scope y:=fun{a} ⟨q,hq⟩ hm=>by have:=fresh a hm;obtain this:=hq▸this;trivial
 have up:∀{a:ai},aV W1 Wp a _->aV W1 _ a s4.heap:=fun{a} O=>by exact(aV.step (s:={ h with heap:=h.heap.push o }) O U4).on (by rw[mx,not_or];exact⟨notin O.there,O.act⟩)
 have OD4:=up (m0 T.st T.actS ho);have hAR4:AR W1 [] s4.heap h.heap.objs.size:=P.step (s:={ h with heap:=h.heap.push o }) (Xf W1) (m0 T.st T.actS ho) (U4.mono (by simp));have hI4:dc W1 s4.heap I J p.2:=dc.step (s:={ h with heap:=h.heap.push o }) (q7.step q5 q6 (U3.mono (by simp))) (q5.step U3) (q6.step U3) (U4.mono (by simp));have L:oZ A (scope::w::r') y (du scope y++Wp) AR W s I J h.heap.objs.size (dk (scope::w::r') t) (fun acc=>fm ms (iJ WL WG r acc) (pure acc)) out' σ3 p.1 s4:=
  (.mk W1 _ p.2 [] R4 (up (q5.step U3)) (up (q6.step U3)) OD4 hAR4 hID hJD hI4 ((WE.trans (U4.mono (by simp))).mono (fun b W8=>by simp[W8])) e5)
 have hgs:(iK e).drop 1=WH:=by refine aa ?_ WR;rfl
 refine CL he (d:=0) (by refine aa ?_ WR;rfl) hI4 ?_;refine lE (CK P hB hA he (d:=0) (by refine aa ?_ WR;rfl) (fun g hg=>?_) (hifs _ _) (LW P hB hA he (hin _ _ _) r WH 0 hgs (hcls _ _)) q1 q2 L) fun res j z=>?_
 ·refine(hcls y []).async g ?_;obtain hg:=WR▸hg;exact et (i:=0) (by simpa using hg)
 ·cases res with
  |error x=>exact z.elim
  |ok f=>
   clear P hB hA hk Xe hloc Xg hin hifs hcls hnew e5 R1 T1 hV q1 q2 q3 q4 q5 q6 q7 T Xf S3 U3 hID hJD hh U4 hce R4 hC alive3 notin up hAR4 hI4 L;refine z _ fun H k T5 OD5 hAR5=>?_;have hmem:∀a,a∈Wp->a∈du scope y++Wp:=fun a F=>pe _ F;have R6:ar A H Wp (w::r') U { σ3 with fs:=σ3.fs.tail } j:=
    ⟨k.st,k.act.pop R.act,fun a F=>k.actF a (hmem a F),fun a F=>k.actO a (hmem a F),fun a F=>k.actS a (hmem a F),k.stk⟩
   have Xh:∀a∈du scope y,s.heap.get? a=none:=fun a F=>WE.gone (fresh a F);have T6:av (aC A) W Wp s H j:=⟨T5.F,T5.ρ,T5.newF,T5.newρ,fun a q B n1 n2=>T5.pres a q B n1 (by
    simp only[dP,mx,not_or];refine⟨fun z=>?_,fun z=>?_,n2⟩
    ·obtain B:=z▸B;obtain B:=hD0▸B;exact am B
    ·obtain B:=(Xh a z)▸B;exact am B),T5.alive,T5.os⟩
   have hCin:l.locals∈du scope y:=by refine aa ?_ hCl;exact mS _ _
   have hC0:s.heap.get? l.locals=none:=Xh _ hCin;have hCnot:l.locals∉Wp:=fun hm=>by refine oE (R.actS _ hm) fun q hq=>?_;obtain hq:=hC0▸hq;exact am hq
   have Xc:l.locals∈du scope y++Wp:=gZ _ hCin;have OC:aV H Wp l.locals j.heap:=⟨k.actF _ Xc,k.actO _ Xc,hCnot,k.actS _ Xc⟩;have hCD:l.locals≠h.heap.objs.size:=fun z=>OD4.act (by refine aU ?_ z;exact Xc);refine gb k.act.head fun fr5 frs5 hfs5 H5=>?_;refine aH H5.loc fun m5 hm5 Y=>?_;exact hq H j _ l.locals f R6 T6 (OD5.on fun z=>OD5.act (hmem _ z)) hAR5 hD0 OC hC0 hCD ⟨m5,by refine aa ?_ hCl;exact hm5⟩
theorem vG{s:ak}(O:aV W Wp D s.heap)(l:a∈Wp):a≠D:=fun z=>O.act (aU l z)
theorem v5(R:ar A W Wp Wr U p s)(d:s.heap.get? D=some o)(O:aV W Wp D s.heap)(k:∀es n,o.data≠.dict es n):ar A (W.add D o) Wp Wr U p s:=by
 refine⟨aE.addF R.st d O.F O.O,R.act.mono (fr:=[]) (Wd.add_keep O.F) (fun Y Y e=>e) (fun a Y o e=>⟨o,e,.inl rfl⟩),fun a f=>?_,R.actO,R.actS,?_⟩
 ·have:=vG O f;simp[Wd.add,this,R.actF a f]
 ·refine aH R.stk fun l e h=>⟨l,e,fun i B=>?_⟩;refine j8 (h i B) fun I b P g r q H es m c=>?_;have j:b≠D:=fun z=>by subst z;rw[d] at H;cases H;exact k _ _ c
  exact⟨I,b,P,by simp[Wd.add,j,g],r,q,H,es,m,c⟩
theorem av.pushO(T:av fr a acts' s W s')(F:s.heap.get? p.1=none)(o:s.heap.get? p.2=none):av fr a acts' s (W.push p) s':=by
 refine⟨T.F,fun k q e=>oB _ _ (T.ρ _ _ e),T.newF,fun q r=>?_,T.pres,T.alive,T.os⟩;rcases List.mem_append.mp r with m|m
 ·exact T.newρ _ m
 ·simp at m;clear r;subst m;exact .inr ⟨F,o⟩
theorem Tq(R:ar A W Wp Wr U f s)(g:s.heap.get? D=some o)(O:aV W Wp D s.heap)(w:∀es n,o.data≠.dict es n)(u:OR (W.push (D,D)) ob (D,D) s.heap):
  ar A (W.push (D,D)) Wp Wr U { f with st:=f.st++[ob] } s/\(W.push (D,D)).R (.obj f.st.length) (.ref D):=by
 have i:aE W f.st { s with heap:=hideAll s.heap [D] }:=R.st.keepsOn (fun b q z e=>D0 _ e (by
  rw[pf];rintro rfl;rcases z with z|z
  ·rw[O.F] at z;exact am z
  ·exact O.O z)) R.st.gens
 refine cV (i.newO (fr:=[]) (fun b q=>Fm _) ⟨_,g⟩ ⟨_,g⟩ (mQ _ (by simp)) (mQ _ (by simp)) u R.st.gens rfl) fun T Y C=>⟨⟨T,R.act.mono (fr:=[]) (fun Y Y e=>e) oB (fun a Y o e=>⟨o,e,.inl rfl⟩),R.actF,fun a k c=>?_,R.actS,?_⟩,C⟩
 ·refine aH c fun p d z=>?_;rcases List.mem_append.mp d with m|m
  ·exact R.actO a k ⟨p,m,z⟩
  ·simp at m;subst m;have:=vG O k;rcases z with z|z<;>trivial
 ·refine aH R.stk fun l e h=>⟨l,e,fun r B=>?_⟩;refine j8 (h r B) fun I b P t v q H es m j=>⟨I,b,P,t,fun c=>?_,q,H,es,m,j⟩;refine aH c fun p d z=>?_;rcases List.mem_append.mp d with m|m
  ·exact v ⟨p,m,z⟩
  ·simp at m;clear O u i T Y C c d;subst m;have x:b≠D:=fun z=>by subst z;rw[g] at H;cases H;exact w _ _ j
   rcases z with z|z<;>trivial
theorem zP{w:ak}(K:fY A u w.heap)(F:w.heap.get? C=none)(R:ar A W Wp Wr U d s)(O:aV W Wp C s.heap)(t:∀b o,b≠C->s.heap.get? b=some o->s'.heap.get? b=some o)(p:s'.gens=s.gens):ar A W Wp Wr U d s':=by
 have T:aE W d.st s':=R.st.keepsOn (fun b o z e=>t b o (fun q=>by
  clear F t;subst q;rcases z with z|z
  ·exact am (O.F▸z)
  ·exact O.O z) e) (p.trans R.st.gens)
 refine⟨T,R.act.mono (fr:=[]) (fun Y Y e=>e) (fun Y Y e=>e) (fun a c o e=>⟨o,t a o (vG O c) e,.inl rfl⟩),R.actF,R.actO,fun a c=>?_,?_⟩
 ·obtain⟨o,e⟩:=R.actS a c;exact⟨o,t a o (vG O c) e⟩
 ·refine aH R.stk fun l e h=>aH K fun x f k=>?_;cases (e▸f);refine⟨l,e,fun i B=>?_⟩;refine j8 (h i B) fun I b P g r q H es m j=>zt (k i B) fun Y v k2 Y Y y k5 Y=>?_;cases (P▸k2);have n:b≠C:=fun z=>by exact am (F▸(z▸k5))
  exact⟨I,b,P,g,r,q,t b q n H,es,m,j⟩
theorem Ab(T:av fr c Wp w W s)(F:w.heap.get? C=none)(t:∀b o,b≠C->s.heap.get? b=some o->s'.heap.get? b=some o)(p:s'.os=s.os):av fr c Wp w W s':=by
 refine⟨T.F,T.ρ,T.newF,T.newρ,fun a o e g k=>?_,fun a o e=>?_,p.trans T.os⟩
 ·exact aH (T.pres a o e g k) fun Q A f=>⟨Q,t a Q (fun z=>by exact am (F▸(z▸e))) A,f⟩
 ·obtain⟨Q,A⟩:=T.alive a o e;exact⟨Q,t a Q (fun z=>by exact am (F▸(z▸e))) A⟩
def RF(own:Bool)(vs:List V):M V:=if own then newO (.list vs) else pure (.lst vs)
theorem yt(R:ar A W Wp Wr U q s)(T:av (aC A) i Wp w W s)(O:aV W Wp D s.heap)(h:gg W out s.heap D)(F:w.heap.get? D=none)(e:RF own out q=some (v,c)):
  ∃Q,ar A Q Wp Wr U c s/\av (aC A) i Wp w Q s/\Q.R v (.ref D)/\∀C,C≠D->aV W Wp C s.heap->aV Q Wp C s.heap:=by
 refine vu h fun f items k a b=>?_;cases own with
 |false=>refine bg v c e ⟨W.add D _,v5 R a O (fun es n z=>by trivial),T.addF F O.F,?_,fun C d u=>⟨by simp[Wd.add,d,u.F],u.O,u.act,u.there⟩⟩;exact⟨f,D,items,k,rfl,Wd.add_self,VRs.mono (Wd.add_keep O.F) (fun Y Y e=>e) _ _ b⟩
 |true=>
  refine bg v c e (oA (Tq (ob:=.list out) R a O (fun es n z=>by trivial) ⟨rfl,f,items,k,a,VRs.mono (fun Y Y e=>e) oB _ _ b⟩) fun g j=>?_);refine⟨W.push (D,D),g,T.pushO F F,j,fun C d u=>⟨u.F,fun l=>?_,u.act,u.there⟩⟩;refine aH l fun p o z=>?_;rcases List.mem_append.mp o with m|m
  ·exact u.O ⟨p,m,z⟩
  ·simp at m;subst m;rcases z with z|z<;>trivial
structure rf(A:a8)(scope WQ:aL)(r':List aL)(U:bj)(Wp:List ai)(e:Expr)(t iter:Expr)(ifs:List Expr)(WH:List fc)(AR:AccT)(WL:Emit)(WG:M V)(first:IM)(ms:List (M Bool))(r:List (iy×IM)):Prop where
 cl:iK e=⟨t,iter,ifs,0⟩::WH
 set:∀x,n0 iter U x=pure x
 kind:scope.kind=.function
 nd:(scope.names.map (·.1)).Nodup
 free:∀p∈scope.names,p.2=gD->(nV p.1 (WQ::r')).isSome
 first:ee A (WQ::r') U Wp (eval iter U) first
 inn:∀Ww acts' D,kq A (scope::WQ::r') Ww acts' AR D (lF (.ref D) Ww e) (fun acc=>do let v<-WG;M.lift (WL v acc))
 ifs:∀Ww acts',jJ A (scope::WQ::r') Ww acts' ifs ms
 cls:∀Ww acts',lb A (scope::WQ::r') Ww acts' WH r
theorem zm:∀{l:List (Str×gC)},(l.map (·.1)).Nodup->∀x∈l,l.lookup x.1=some x.2:=by
 intro p;induction p with
 |nil=>trivial
 |cons a0 r I=>
  intro v x h;rw[dH,rz] at v;refine aa ?_ gA;rcases List.mem_cons.mp h with rfl|h
  ·simp
  ·have:(x.1==a0.1)=false:=beq_eq_false_iff_ne.mpr fun e=>v.1 (e▸List.mem_map.mpr ⟨x,h,rfl⟩);refine aa ?_ this;exact I v.2 x h
theorem EZ(s:ak)(Q:ae->ak->Prop)(h:∀o,o.isFreed=false->(∀W,gg W [] (s.heap.push o) s.heap.objs.size)->Q (.ref s.heap.objs.size) { s with heap:=s.heap.push o }):al (MD) A (newList []) Q aT s:=
 H6 (h (bL #[] 0) rfl fun W=>⟨by simp,#[],0,bF _ rfl,by rfl⟩) (by simp)
theorem Dl(I:SetB)(B:aW false n A){p:ef}{G:List Expr}{y:List fc}
  (q:rf A scope w r' U Wp (.ListComp elt gens scope pos) t iter G y (gg) im WG first ms r):
  aK A (w::r') U Wp (eval (.ListComp elt gens scope pos) U) (bN own scope.names.length WG first ⟨dk (scope::w::r') t,ms⟩ r):=fun W σ s R=>by
 have j:gens=⟨t,iter,G,0⟩::y:=q.cl;intro v σ' e;have ha:ym gens=false:=by refine aa ?_ j;rfl
 have hi:yn gens U=eval iter U:=by refine aa ?_ j;rfl
 refine bA e fun out σ1 k l=>aa ?_ (eval_ListComp ..);refine aa (aa ?_ hi) ha;refine xP nO I B (.list _ _ _ _) q.cl q.set q.kind q.nd (fun x hx hl=>by exact aa (aa rfl hl) (zm q.nd x hx)) q.free q.first q.inn q.ifs q.cls EZ R k fun W5 s5 D C f g T H F hD0 u c P ⟨m,hm⟩=>ju (yt g T H F hD0 l) fun Q z h i own6=>⟨m,hm,fun h' d=>(.mk Q (?_) (?_) i)⟩
 ·exact zP R.stk c z (own6 C P u) (fun b o a e=>d.extBut b o a e) rfl
 ·exact Ab h c (fun b o a e=>d.extBut b o a e) rfl
theorem VRs.reverse:∀{vs:List V}{xs:List ae},VRs F ρ vs xs->VRs F ρ vs.reverse xs.reverse:=by
 intro p;induction p with
 |nil=>intro xs h;subst h;rfl
 |cons v vs I=>intro xs h;obtain⟨x,r,rfl,b,h⟩:=h;refine aa (aa ?_ kz) kz;exact VRs.append (I h) (VRs.one b)
theorem Sh{i:List O}(S:aE W i s)(l:W.R a x)(d:W.R b y):dp A W s i RV (yD op x y) (BS op a b):=fun v e=>by refine bq e fun h e=>ax e fun p f e=>ax e fun q g e=>bq e fun c e=>aa ?_ h;exact sR f l fun t=>sR g d fun u=>pv S e fun Q z=>PyProof.Rows.iadd_str (fun t' m=>z _ _ fun W'=>lu _ _) (bb c d7)
theorem Sg{g:List O}(S:aE W g s)(l:W.R a x)(f:W.R b y):dp A W s g RV (yD op x y) (xw op a b):=fun v e=>by
 refine ax e fun i c e=>ax e fun j d e=>cD e (fun h e=>?_) fun Y e=>bq e fun h e=>?_<;>refine aa ?_ h
 ·exact kL c d l f fun t u=>m6 S e fun Q z=>PySem.P.iadd_int z
 ·exact kL c d l f fun t u=>m6 S e fun Q z=>PySem.P.isub_int z
theorem bd.fail:bd A Wr U W Wp a s t (M.fail:M Fl):=fun b n e=>by exact am e
theorem bd.skip{x:j}(e:m=rF x)(k:bd A Wr U W Wp d s (f x) c):bd A Wr U W Wp d s (m>>=f) c:=fun b n a=>iX e (k b n a)
theorem bd.eqc(e:c=R)(k:bd A Wr U W Wp a s t R):bd A Wr U W Wp a s t c:=e▸k
theorem bd.eqt(e:t=t')(k:bd A Wr U W Wp a s t' c):bd A Wr U W Wp a s t c:=e▸k
theorem ar.notInteractive(R:ar A W Wp Wr U a s):interactive U=false:=by
 have i:U.scope.kind=.function:=by
  have:=R.act;generalize a.fs=fs at this;clear R;cases this with
  |fn f _=>exact f.kind
  |comp _ f _ _=>exact f.kind
 delta interactive;refine aa ?_ i;rfl
theorem Ag(h:sE j=false):swapsWith j t l U=pure false:=by
 cases j with
 |ListComp=>trivial
 |SetComp=>trivial
 |DictComp=>trivial
 |_=>exact @rfl _ (pure false)
theorem Nc(q:sE e=false)(h:aK A Wr U Wp (eval e U) m):bV A Wr U Wp (exec (.Expr e pos) U) (fW m):=fun W c s R=>by refine aa (aa ?_ R.notInteractive) (arm_exec_Expr ..);refine bd.standAt (bd.skip (Ag q) ?_);refine bd.after (h W c s R) fun x v a i s1 r T l=>?_;intro fl n b;exact bg fl n b (wpAny_dropValue (.mk a r .refl rfl))
theorem xW(h:∀a b,t≠.Starred a b):ja (t::r) U=(false,fi t U)::ja r U:=by
 cases t with
 |Starred=>exact absurd rfl (h _ _)
 |_=>rfl
theorem sj{g:V->M Unit}(i:tq [t] e pos.line U=pure false)(T:qR [t] e U=pure none)(h:aK A Wr U Wp (eval e U) m)
  (p:∀W c s v x,ar A W Wp Wr U c s->W.R v x->At A Wr U W Wp c s (jT) (fi t U x) (g v)) (u:∀a b,t≠.Starred a b):
  bV A Wr U Wp (exec (.Assign [t] e pos) U) (do let v<-m;g v;pure .next):=fun W c s R=>by
 refine bd.standAt (bd.skip i ?_);refine bd.after (h W c s R) fun x v f j s1 r k l=>bd.skip T ?_;have q:BK U x none ((ja [t] U).map (·.2))=(do fi t U x;pure .next):=by refine aa ?_ (xW u);rfl
 exact bd.eqt q (bd.after (p f j s1 v x r l) fun Y Y n F o d y Y=>bd.pure d rfl)
theorem QM{F:Expr->Option Str}(f:∀id p,F (.Name id p)=some id∨F (.Name id p)=none):∀{a:List Expr}{is:List Nat},oq Wr a=some is->(a.filterMap F).length=a.length->gJ A Wr U Wp ((a.filterMap F).map fun n=>pI U n) is:=by
 intro j;induction j with
 |nil=>intro is e _;cases e;exact .nil
 |cons t r I=>
  intro is b c;exact ax b fun id d e=>ax e fun i h e=>ax e fun k H e=>by
   obtain⟨p,rfl⟩:=qp d;cases e;rcases f id p with hb|hb
   ·rw[List.filterMap_cons_some hb] at c ⊢;exact .cons (fun W l s v x R g=>At.mono (ui R h g) fun Y Y Y Y=>trivial) (I H (rA c))
   ·rw[List.filterMap_cons_none hb] at c;exact absurd (c▸pd F r) (Nat.not_succ_le_self _)
section
variable {α β γ δ:Type}{fr:List ai}{A:a8}{W W':Wd}{s s' s0:ak}{st Wv:List O}{hd:Bool}{n:Nat}{Wr:List aL}{U:bj}{Wp:List ai}{σ:S}{I J D C:ai}
theorem QL{C:Prop}[Decidable C]{i:Str}:(if C then some i else none)=some i∨(if C then some i else none)=none:=
 (tO C).elim (fun h=>.inl (if_pos h)) fun h=>.inr (if_neg h)
end
theorem Vc(q:vs.all (constantsAlone 8)=false):qR [.Tuple t k p] (.Tuple vs n j) U=pure none ∨
  ∃F:Expr->Option Str,(∀id p,F (.Name id p)=some id∨F (.Name id p)=none)/\qR [.Tuple t k p] (.Tuple vs n j) U=pure (some (t.filterMap F))/\(t.filterMap F).length=t.length:=by
 delta qR;dsimp only;refine aa ?_ q;split
 ·exact .inl rfl
 ·split
  ·exact .inl rfl
  ·split
   ·exact .inl rfl
   ·rename_i B;split
    ·exact .inl rfl
    ·refine .inr ⟨_,fun id p=>QL,rfl,?_⟩;rw[wC,not_or,bne_iff_ne,Decidable.not_not] at B;exact B.1
theorem wl(h:¬ ∃a k p vs n j,t=.Tuple a k p/\e=.Tuple vs n j)(H:∀a p,t≠.List a p):qR [t] e U=pure none:=by
 cases t with
 |Tuple a k p=>
  cases e with
  |Tuple vs n j=>exact absurd ⟨a,k,p,vs,n,j,rfl,rfl⟩ h
  |_=>exact @rfl _ (pure none)
 |List a p=>exact absurd rfl (H _ _)
 |_=>exact @rfl _ (pure none)
theorem Di(o:SetB)(l:aW false n A)(r:tq [t] e pos.line U=pure false)(hc:xR e=false)(h:aK A Wr U Wp (eval e U) m):
  bV A Wr U Wp (exec (.Assign [t] e pos) U) (aS m (dk Wr t)):=by
 by_cases d:dk Wr t=.bad
 ·intro W w s R fl σ' g;refine bA (d▸g) fun v σ1 Y D=>?_;trivial
 ·have Q:∀c p,t≠.List c p:=fun a b z=>d (by refine aa ?_ z;rfl);by_cases H:∃c k p vs k' p',t=.Tuple c k p/\e=.Tuple vs k' p'
  ·refine Rm H ?_;try clear H;intro c k p vs k' p' q40 q41;subst q40;subst q41
   rcases Vc hc with T|⟨F,hF,T,hl⟩
   ·exact sj r T h (fun W w s v x R hv=>nP o l R hv) fun a b z=>d (by trivial)
   ·intro W w s R;refine bd.standAt (bd.skip r ?_);refine bd.after (h W w s R) fun x v W1 σ1 s1 R1 T1 C=>bd.skip T ?_;intro fl σ' g;refine bA g fun u σ2 e1 D=>bg fl σ' D ?_;cases j:oq Wr c with
    |none=>exact absurd (show(oq Wr c).elim Tgt.bad .names=.bad by rw[j];rfl) d
    |some is=>
     have ht:dk Wr (.Tuple c k p)=.names is:=(show(oq Wr c).elim Tgt.bad .names=.names is by rw[j];rfl);refine aH (HC (ht▸e1)) fun ws hv' e3=>?_;obtain I:=QM (A:=A) (Wp:=Wp) (U:=U) hF j hl;have P:ws.length=is.length:=by
      rcases hv' with z|⟨b,_,rfl,z⟩
      ·exact z.2.1
      ·exact z.symm
     have Xe:is.Nodup:=by
      clear C g j ht e3 I P;rcases hv' with z|⟨b,_,rfl,z⟩
      ·exact z.2.2
      ·match is,z with
       |[i],_=>exact List.nodup_cons.mpr ⟨(by simp),List.nodup_nil⟩
     have Q:(c.filterMap F).length=is.length:=by have:=I.length;simpa using this
     refine wB (nv (wB ?_));refine aa ?_ Q;refine bM (xv o l R1 C (hv'.imp (fun z=>⟨z.1,z.2.1⟩) (fun⟨b,z⟩=>⟨b,z⟩)) fun xs s2 B T2 hr=>?_) (fun Y Y q=>q) fun Y Y f=>f.elim;refine aa ?_ (aa rfl List.map_reverse:(c.filterMap F).reverse.map (fun n=>pI U n)=((c.filterMap F).map fun n=>pI U n).reverse);have hgo:kf is.reverse ws.reverse σ1=some (u,σ2):=by refine aa ?_ (OP Xe P.symm σ1 B.act.ne);trivial
     refine wB (bM (BP I.reverse B (vs:=ws.reverse) (xs:=xs.reverse) (VRs.reverse hr) (by simpa using P) u σ2 hgo) (fun y s3 hh=>ay ?_) fun Y Y f=>f.elim);clear o l d h r T R R1 T1 C g D j ht e3 I B hr hgo;refine hh _ fun W3 R3 WE Y=>?_;exact .mk W3 R3 (T2.trans WE) rfl
  ·exact sj r (wl H Q) h (fun W w s v x R hv=>nP o l R hv) (fun a b z=>d (by refine aa ?_ z;rfl))
theorem MZ(a:SetB)(k:aW false n A){G:Str}{J:List Expr}{y:List fc}
  (q:rf A scope w r' U Wp (.ListComp elt gens scope p) t iter J y (gg) im WG first ms r):
  bV A (w::r') U Wp (exec (.Assign [.Name G pt] (.ListComp elt gens scope p) pos) U) (aS (bN own scope.names.length WG first ⟨dk (scope::w::r') t,ms⟩ r) (dk (w::r') (.Name G pt))):=by
 obtain⟨b,F⟩:∃b,tq [.Name G pt] (.ListComp elt gens scope p) pos.line U=pure b:=⟨_,rfl⟩;cases b with
 |false=>exact Di a k F rfl (Dl (p:=p) a k q)
 |true=>
  have z:gens=⟨t,iter,J,0⟩::y:=q.cl;intro W σ s R fl σ' e;refine bA e fun v σ1 e1 e2=>?_;refine bA e2 fun u I e3 e4=>bg fl σ' e4 ?_;refine bA e1 fun out σ0 e5 e6=>eC (iX F ?_);have ha:ym gens=false:=by refine aa ?_ z;rfl
  have hi:yn gens U=eval iter U:=by refine aa ?_ z;rfl
  have he:evalThenUse (.ListComp elt gens scope p) U (fun v=>assignAll v ((ja [.Name G pt] U).map (·.2))) =
    (CM (.ListComp elt gens scope p) scope U (firstIterPos gens p) (newList []) (ym gens) (yn gens U) (some fun v=>fi (.Name G pt) U v)>>=fun Y=>pure ()):=rfl
  refine aa (aa (aa ?_ hi) ha) he;refine aq (aq (bM (Q:=fun Y s'=>∃W',ar A W' Wp (w::r') U I s'/\av (aC A) W Wp s W' s') (E:=aT) (xP nO a k (.list _ _ _ _) q.cl q.set q.kind q.nd (fun x hx hl=>by exact aa (aa rfl hl) (zm q.nd x hx)) q.free q.first q.inn q.ifs q.cls EZ R e5 fun W5 s5 D C f R5 T5 OD Xf hD0 P l hCD c=>?_) (fun x s' h=>ay (ay ?_)) fun Y Y f=>f.elim))
  ·refine ju (yt R5 T5 OD Xf hD0 e6) fun W6 R6 T6 V6 own6=>?_;refine bM (nP a k R6 V6 u I e3) (fun Y H h=>?_) fun Y Y f=>f;refine h _ fun W7 R7 i Y=>?_;have d:=own6 C hCD P;have T:=d.step i;refine oE c ?_;try clear c;intro m c
   refine zx c fun o es ep g1 g2 g3=>?_;refine aH (i.pres _ _ g1 d.O d.act) fun o' g4 g5=>?_;refine⟨m,⟨o',es,ep,g4,g5.data.trans g2,g3⟩,fun j B=>⟨W7,?_,?_⟩⟩
   ·exact zP (s':={ H with heap:=j }) R.stk l R7 T (fun b o g e=>B.extBut b o g e) rfl
   ·exact Ab (s':={ H with heap:=j }) (T6.trans i) l (fun b o g e=>B.extBut b o g e) rfl
  ·refine aH h fun W' R' T'=>?_;exact .mk W' R' T' rfl
theorem At.release0(R:ar A W Wp Wr U a s):At A Wr U W Wp a s (jT) (PySem.release vs ks) (rF ()):=fun b n e Γ p hΓ=>by refine aa ?_ (Sem.wp_release ..);exact bg b n e (.mk W R .refl trivial)
theorem M.end_(m:M Unit):m=(m>>=fun Y=>pure ()):=by
 funext s;refine(?_:m s=M.bind m (fun Y=>M.pure ()) s);delta M.bind M.pure;cases m s with
 |none=>rfl
 |some p=>rfl
theorem xo(B:BO)(k:aW hd n A)(h:aK A Wr U Wp (eval o U) d)(R:ar A W Wp Wr U a s)(c:W.R v x):
  At A Wr U W Wp a s (jT) (fi (.Attribute o nm p) U x) (do let y<-d;eB (dt nm) y v):=by
 refine At.bind (At.holding (h W a s R)) fun w y f j s1 r T l=>At.standAt (aa ?_ (M.end_ (eB _ y v)));exact At.bind (At.holding (BN B k r l (T.R c))) fun Y Y g F i b e Y=>At.release0 b
theorem BL(B:BO)(h:aK A Wr U Wp (eval o U) m)(H:aK A Wr U Wp (eval i U) k)(R:ar A W Wp Wr U d s)(j:W.R v x):
  At A Wr U W Wp d s (jT) (fi (.Subscript o i p) U x) (do let y<-m;let z<-k;jB y z v):=by
 have a:∃f:ae->ae->List ae,fi (.Subscript o i p) U x=(do let w<-holding [x] _;let b<-holding [x,w] _;standAt p;holding [x,w,b] (setItem w b x);release (f w b) []):=⟨_,rfl⟩;refine oE a ?_;intro f a;refine aa ?_ a;refine At.bind (At.holding (h W d s R)) fun w y g n s1 r T l=>At.bind (At.holding (H g n s1 r)) fun b z u P C e c q=>At.standAt (aa ?_ (M.end_ (jB y z v)));exact At.bind (At.holding (Kv B e (c.R l) q (c.R (T.R j)))) fun Y Y D Q F I t Y=>At.release0 I
theorem Vb{t:Expr}(h:∀id p,t≠.Name id p){b:Str->ef->bE Bool}{a:bE Bool}:(match some t with|none=>a|some (.Name t pos)=>b t pos|some _=>pure false)=pure false:=by
 cases t with
 |Name=>exact absurd rfl (h _ _)
 |_=>exact @rfl _ (pure false)
theorem wo(h:∀id p,t≠.Name id p):tq [t] e l U=pure false:=by cases e<;>first|exact @rfl _ (pure false)|exact Vb h
theorem NA(B:BO)(d:aW hd n A)(h:aK A Wr U Wp (eval o U) c)(H:aK A Wr U Wp (eval e U) m):
  bV A Wr U Wp (exec (.Assign [.Attribute o nm p] e pos) U) (eQ (dt nm) c m):=by
 have f:eQ (dt nm) c m=(do let v<-m;(do let y<-c;eB (dt nm) y v);pure Fl.next):=by refine congrArg (fun k=>m>>=k) (funext fun v=>?_);exact aa rfl (M.assoc ..)
 refine aa ?_ f;exact(sj (wo (by intro a b z;trivial)) (wl (by rintro⟨_,_,_,_,_,_,z,_⟩;trivial) (by intro a b z;trivial)) H (fun W g s v x=>xo B d h) (by intro a b z;trivial))
theorem NC(B:BO)(h:aK A Wr U Wp (eval o U) c)(C:aK A Wr U Wp (eval i U) j)(H:aK A Wr U Wp (eval e U) m):
  bV A Wr U Wp (exec (.Assign [.Subscript o i p] e pos) U) (tb c j m):=by
 have f:tb c j m=(do let v<-m;(do let y<-c;let z<-j;jB y z v);pure Fl.next):=by refine congrArg (fun k=>m>>=k) (funext fun v=>?_);refine aa ?_ (M.assoc ..);refine congrArg (fun k=>c>>=k) (funext fun y=>?_);exact aa rfl (M.assoc ..)
 refine aa ?_ f;exact(sj (wo (by intro a b z;trivial)) (wl (by rintro⟨_,_,_,_,_,_,z,_⟩;trivial) (by intro a b z;trivial)) H (fun W d s v x=>BL B h C) (by intro a b z;trivial))
theorem ND(B:BO)(Q:SetB)(F:aW false n A)(C:aK A Wr U Wp (eval o U) c)(D:aK A Wr U Wp (eval i U) j)(H:aK A Wr U Wp (eval e U) m):
  bV A Wr U Wp (exec (.Assign [.Subscript o i p,t] e pos) U) (wf c j m (dk Wr t)):=by
 by_cases d:dk Wr t=.bad
 ·intro W g s R fl σ' u;refine bA (d▸u) fun v σ1 Y f=>?_;refine bA f fun x σ2 Y w=>?_;refine bA w fun y σ3 Y P=>?_;refine bA P fun Y σ4 Y e4=>?_;trivial
 ·have hns:∀a b,t≠.Starred a b:=fun a b z=>d (by refine aa ?_ z;rfl);intro W g s R;refine bd.standAt (bd.skip rfl ?_);refine bd.after (H W g s R) fun x v W1 σ1 s1 r T1 l=>bd.skip rfl ?_;have T:BK U x none ((ja [.Subscript o i p,t] U).map (·.2))=(do holding [x] (fi (.Subscript o i p) U x);fi t U x;pure nz):=by
   have:(ja [.Subscript o i p,t] U).map (·.2)=[fi (.Subscript o i p) U,fi t U]:=by refine(?_:_::(ja [t] U).map _=_);refine aa ?_ (xW hns);rfl
   refine aa ?_ this;refine(?_:(do (do holding [x] _;fi t U x);pure nz)=_);exact aa rfl (bind_assoc ..)
  have f:(do let x<-c;let y<-j;jB x y v;(dk Wr t).set v;pure Fl.next)=(do (do let y<-c;let z<-j;jB y z v);(dk Wr t).set v;pure Fl.next):=by refine aa ?_ (M.assoc ..);refine congrArg (fun k=>c>>=k) (funext fun y=>?_);exact aa rfl (M.assoc ..)
  refine bd.eqt T ?_;exact bd.eqc f (bd.after (At.holding (BL B C D r l)) fun Y Y W2 σ2 s2 h q Y=>bd.after (nP Q F h (q.R l)) fun Y Y W3 σ3 s3 I WE Y=>bd.pure I rfl)
theorem UV:qR [.Tuple [.Attribute o nm q,.Attribute p j W] k c] e U=pure none:=by
 cases e with
 |Tuple vs n a=>
  delta qR;dsimp only;split
  ·rfl
  ·split
   ·rfl
   ·rfl
 |_=>exact @rfl _ (pure none)
theorem NB(B:BO)(hB:SetB)(P:aW false n A)(H:aK A Wr U Wp (eval o U) c)(h3:aK A Wr U Wp (eval p U) h)(I:aK A Wr U Wp (eval e U) m):
  bV A Wr U Wp (exec (.Assign [.Tuple [.Attribute o nm q,.Attribute p j T] k q''] e pos) U) (we (dt nm) c (dt j) h m):=by
 have WA:=sj (t:=.Tuple [.Attribute o nm q,.Attribute p j T] k q'') (pos:=pos) (g:=fun w=>(do let i<-M.lift (vH w);(do let y<-c;eB (dt nm) y i.1);(do let y<-h;eB (dt j) y i.2))) (wo (by intro a b z;trivial)) UV I (fun W σ s v x R hv=>?_) (by intro a b z;trivial)
 ·have d:we (dt nm) c (dt j) h m=(do let w<-m;(do let i<-M.lift (vH w);(do let y<-c;eB (dt nm) y i.1);(do let y<-h;eB (dt j) y i.2));pure Fl.next):=by refine congrArg (fun k=>m>>=k) (funext fun w=>?_);rw[M.assoc];refine congrArg (fun k=>M.lift _>>=k) (funext fun i=>?_);rw[M.assoc,M.assoc];rw[M.assoc]
  refine aa ?_ d;trivial
 ·intro u σ' e0;refine bA e0 fun i σ1 d e2=>?_;cases Q:vH v with
  |none=>obtain d:=Q▸d;exact am d
  |some r=>
   rw[Q] at d;obtain⟨q14,q15⟩:=cB (aR d);subst q14;clear e0;subst q15;obtain⟨a,b,rfl,rfl⟩:∃a b,v=.tup [a,b]/\r=(a,b):=by exact ax Q fun l H I=>⟨r.1,r.2,(nn H).trans (congrArg V.tup (se (C:=fun l=>l=[r.1,r.2]) I rfl)),rfl⟩
   rw[arm_assign_Tuple];refine aq (tH ?_);unfold unpack;refine aq (eD (xv (vs:=[a,b]) (m:=2) hB P R hv (.inl ⟨rfl,rfl⟩) fun xs s1 R1 T1 hr=>?_));refine(eA hr) _ fun x1 r1 ez311 z1 h4=>?_;obtain rfl:=ez311;refine(eA h4) _ fun x2 r2 ez345 z2 h5=>?_;obtain rfl:=ez345;obtain rfl:=ej h5;have hgo:assignInOrder ((ja [.Attribute o nm q,.Attribute p j T] U).map (·.2)) [x1,x2]=(do holding [x2] (fi (.Attribute o nm q) U x1);holding [] (fi (.Attribute p j T) U x2);pure ()):=rfl;have e2':(do (do let y<-c;eB (dt nm) y a);(do let y<-h;eB (dt j) y b):M Unit) σ=some (u,σ'):=e2;refine oU hgo ?_;rw[show(do (do let y<-c;eB (dt nm) y a);(do let y<-h;eB (dt j) y b):M Unit)=(do (do let y<-c;eB (dt nm) y a);(do let y<-h;eB (dt j) y b);pure ()) by refine congrArg (fun k=>(do let y<-c;eB (dt nm) y a:M Unit)>>=k) (funext fun Y=>?_);exact M.end_ _] at e2'
   refine bM ((At.bind (RR':=jT) (At.holding (xo B P H R1 z1)) fun Y Y W2 σ2 s2 D F Y=>At.bind (At.holding (xo B P h3 D (F.R z2))) fun Y Y W3 σ3 s3 R3 WE Y=>At.pure R3 trivial) u σ' e2') (fun y s2 hh=>?_) fun Y Y f=>f;refine hh _ fun W2 D F Y=>?_;exact .mk W2 D (T1.trans F) trivial
theorem OX{I:Str}(h:fo I Wr=some i):vc I Wr=some (0,i):=by
 cases Wr with
 |nil=>exact am h
 |cons sc r=>
  delta fo at h;delta vc;dsimp only at h ⊢;cases q:cv I sc.names 0 with
  |none=>obtain h:=q▸h;exact am h
  |some p=>obtain⟨j,k⟩:=p;obtain h:=q▸h;clear q;cases k<;>first|(cases h;rfl)|exact am h
theorem MU{i:Str}(h:rO i=false):eval (.Name i p) U=(standAt p>>=fun Y=>yW U i):=by
 have:(i==("__debug__" : Str))=false:=by exact(Bool.or_eq_false_iff.mp h).1
 refine(?_:(do standAt p;if i==("__debug__" : Str) then debugConstant else yW U i)=_);refine aa ?_ this;rfl
theorem M1(B:BO){G:Ctx}(Q:G.G=f5){J:Str}(d:fo J Wr=some i)(b:rO J=false)(h:aK A Wr U Wp (eval e U) m):
  bV A Wr U Wp (exec (.AugAssign (.Name J np) op e pos) U) (ta op i m):=fun W σ s R=>by
 have o:qC G Wr J=ac 0 i:=by delta qC;refine aa (aa ?_ (OX d)) b;rfl
 have p:(do standAt np;let old<-yW U J;let v<-holding [old] (eval e U);standAt pos;let n<-operate [old,v] (yD op old v);standAt np;pI U J n;pure nz) =
   (do let old<-eval (.Name J np) U;let v<-holding [old] (eval e U);standAt pos;let n<-operate [old,v] (yD op old v);standAt np;pI U J n;pure nz):=by
  exact aa (aa rfl (bind_assoc ..)) (MU b)
 refine bd.eqt p (bd.after (o▸(xq B Q R)) fun x u k t s1 r T l=>bd.after (At.holding (h k t s1 r)) fun y v F σ2 s2 a g q=>bd.standAt ?_);exact bd.after (At.operate (At.of_prR a (Sh a.st (g.R l) q))) fun z w H σ3 s3 I C j=>bd.standAt (bd.after (ui I d j) fun Y Y P σ4 s4 f D Y=>bd.pure f rfl)
theorem M2(B:BO)(k:aW hd n A)(h1:aK A Wr U Wp (eval o U) mo)(h:aK A Wr U Wp (eval e U) m):
  bV A Wr U Wp (exec (.AugAssign (.Attribute o nm tp) op e pos) U) (oK op (dt nm) mo m):=fun W σ s R=>by
 refine bd.standAt (bd.after (h1 W σ s R) fun x u W1 i s1 c T1 l=>?_);intro fl σ' f;refine hG fun C kk=>?_;obtain⟨st0,σ0,g,e2⟩:=(bind_some f).ex;obtain⟨q1,q2⟩:=cB (aR g);clear f g;subst q1;subst q2;obtain⟨old,σ2,P,e4⟩:=(bind_some e2).ex;refine kk ?_;delta M.lift at P;cases q:kB i.st _ u with
 |none=>obtain P:=q▸P;exact am P
 |some r=>rw[q] at P;obtain⟨q3,q4⟩:=cB (aR P);clear P;subst q3;subst q4;refine hG fun C kk2=>?_;obtain⟨y,σ3,e5,e6⟩:=(bind_some e4).ex;obtain⟨w,σ4,e7,e8⟩:=(bind_some e6).ex;obtain⟨_,j,e9,e10⟩:=(bind_some e8).ex;refine kk2 (bg fl σ' e10 ?_);refine er (eC (eZ (At.of_prR c (FM B k c.st l q) r i rfl) fun z s2 a=>?_));refine a _ fun W2 t d H=>?_;refine er (wN (h W2 i s2 t y σ3 e5) fun yv s3 a=>?_);refine a _ fun W3 I b Q=>?_;refine eC ?_;refine wN (At.operate (At.of_prR I (Sg I.st (b.R H) Q)) w σ4 e7) fun wv s4 a=>?_;refine a _ fun W4 v p V4=>?_;refine eC (er (wN (BN B k v (p.R (b.R (d.R l))) V4 () j e9) fun Y s5 a=>?_));refine a _ fun W5 C T Y=>?_;refine eZ (At.release0 C () j rfl) fun Y s6 a=>ay ?_;refine a _ fun W6 D F Y=>?_;exact .mk W6 D ((((d.trans b).trans p).trans T).trans F) rfl
theorem Na(B:BO)(j:aK A Wr U Wp (eval o U) t)(H:aK A Wr U Wp (eval i U) n):
  bV A Wr U Wp (exec (.Delete [.Subscript o i p] pos) U) (wb t n):=fun W z s R=>by
 refine bd.standAt ?_;have m:(do deleteEach [.Subscript o i p] U;pure nz)=(do let w<-eval o U;let b<-holding [w] (eval i U);standAt p;holding [w,b] (delItem w b);release [w,b] [];pure nz):=by refine(?_:(do (do (do let w<-eval o U;let b<-holding [w] (eval i U);standAt p;holding [w,b] (delItem w b);release [w,b] []);pure ());pure nz)=_);simp only[bind_assoc,pure_bind]
 refine bd.eqt m (bd.after (j W z s R) fun x u f D s1 r T l=>bd.after (At.holding (H f D s1 r)) fun y v Q σ2 s2 a c q=>bd.standAt (bd.after (At.holding (Kt B a (c.R l) q)) fun Y Y W3 F s3 I P Y=>?_));intro fl C e;refine eZ (At.release0 I () F rfl) fun Y s4 k=>ay (bg fl C e ?_);refine k _ fun g h d Y=>?_;exact .mk g h d rfl
theorem M5:bV A Wr U Wp (exec (.Break pos) U) (pure .brk):=fun W a s R=>bd.standAt (bd.pure R rfl)
theorem M9:bV A Wr U Wp (exec (.Continue pos) U) (pure .cont):=fun W a s R=>bd.standAt (bd.pure R rfl)
theorem Nw:bV A Wr U Wp (exec (.Pass pos) U) (pure .next):=fun W a s R=>bd.standAt (bd.pure R rfl)
def XF:Prop:=∀C:Prop,(∀nm q N bs hdct sn sub ab col dd k0 k1 k2 k3 k5,∀mN:Str->Option ae,hb.get? 104=some (sk nm q 104 N bs [.type "ValueError",.type "Exception",.type "BaseException",.type "object"] hdct sn sub ab col dd k0 k1 k2 k3 k5 "ValueError.__new__")->hb.Ns N mN->mN "__init__" = none->C)->C
theorem XF.mk:∀nm q N bs hdct sn sub ab col dd k0 k1 k2 k3 k5,∀x:Str->Option ae,hb.get? 104=some (sk nm q 104 N bs [.type "ValueError",.type "Exception",.type "BaseException",.type "object"] hdct sn sub ab col dd k0 k1 k2 k3 k5 "ValueError.__new__")->hb.Ns N x->x "__init__" = none->XF:=fun d z m x3 x4 h f u c o x10 e g i j a l n b C k=>k d z m x3 x4 h f u c o x10 e g i j a l n b
theorem sS:∀{as:List (Bool×M V)}{A:List (M V)},ij as=some A->jX as=hZ A/\yX as=false/\as.any (·.1)=false
 |[],A,e=>by cases e;exact⟨rfl,rfl,rfl⟩
 |(true,m)::r,A,e=>by exact am e
 |(false,m)::r,A,e=>ax e fun l q e=>by cases e;obtain⟨h,_,H⟩:=sS q;refine⟨?_,by cases r<;>rfl,H⟩;refine(?_:(do let v<-m;let b<-(pure [v]:M _);let vs<-jX r;pure (b++vs))=(do let v<-m;let vs<-hZ l;pure (v::vs)));refine aa ?_ h;rfl
theorem nX(B:BO)(Q:c.G=f5){i:Str}(z:eM c Wr (.Name i p)=some (.cst u))(R:ar A W Wp Wr U b s):
  al (MD) A (eval (.Name i p) U) (fun x s1=>x=u/\∃a,ar A a Wp Wr U b s1/\av (aC A) W Wp s a s1) aT s:=by
 refine wN (((R9 z)▸(xq B Q R)) _ b rfl) fun x s1 h=>?_;refine h _ fun a r T l=>?_;exact⟨Mj l,a,r,T⟩
theorem Gj(R:ar A W Wp Wr U v s)(T:av (aC A) g Wp w W s)(m:vs.length<=sizeMax)(r:W.Rs vs xs)
  (l:∀b o,s.heap.get? b=some o->d.get? b=some o) (i:s.heap.get? e=none) (h:d.get? e=some { cls:=c,data:=.fields #[.ref t,.none,.none,.none,.bool false,.none] }) (H:s.heap.get? t=none) (C:d.get? t=some { cls:=.type "tuple",data:=.seq xs.toArray }):
  AE A Wr U g Wp v w (.exc c vs) (.ref e) { s with heap:=d }:=by
 refine cV (R.st.new (fr:=aC A) (s':={ s with heap:=d }) l C H R.st.gens rfl |> fun p=>(⟨p.1,p.2,trivial⟩:_/\_/\True)) fun f a x=>?_;have j:W.F e=none:=by
  cases z:W.F e with
  |none=>rfl
  |some o=>have:=R.st.frozen _ _ z;exact am (i▸this)
 have k:e≠t:=fun z=>by clear H f;subst z;cases (h▸C)
 refine .mk _ (ar.lift R f a) (T.tu a) c vs rfl (.mk e t xs.toArray 0 rfl h Wd.add_self m (a.Rs r) (by simp[Wd.add,k,j]) (fun n=>?_) (T.gone i));refine aH n fun p q z=>ft (R.st.there p q) fun u B P=>oE u fun y I=>?_;rcases z with z|z
 ·exact am (i▸(z.symm▸I))
 ·exact am (i▸(z.symm▸P))
theorem Nx(B:BO)(X:XF)(P:aW false n A)(Q:c.G=f5){G:Str}(hg:eM c Wr (.Name G np)=some (.cst u)) (hu:u=.type "ValueError" ∨ u=.ref 104)
  (h:cO A Wr U Wp (eY Wt U) mas) (j:ij mas=some ms):bV A Wr U Wp (exec (.Raise (some (.Call (.Name G np) Wt [] F)) none pos) U) (ke u ms):=fun W w s R=>by
 intro fl σ' e;refine(bind_some e) _ fun vs z e1 g=>?_;refine mU g (fun i g=>?_) fun Y g=>am g;refine bg fl σ' g ?_;have I:dY mas w=some (vs,z):=by delta dY;refine aa ?_ ((sS j).2.1);refine aa ?_ ((sS j).1);trivial
 clear e g;rcases hu with rfl|rfl
 ·refine wpAny_Raise_call PySem.F.excCall_ValueError PySem.F.excRaise_ValueError (P.hand rfl) ((h.star F).trans ((sS j).2.2)) (wN (nX B Q hg R) fun x s1 v=>?_);refine zT x v ?_;intro k r T;refine⟨rfl,bM (lG h k w s1 r vs z I) (fun a s2 o=>?_) fun Y Y f=>f.elim⟩;refine o _ fun W2 b y hz5=>?_;obtain⟨d,D⟩:=hz5;refine⟨d,by refine aa ?_ (VRs.length D);exact bb i d7,fun h' ea m=>?_⟩;exact cw m.there fun t p H l=>Gj b (T.trans y) i D m.keeps m.new p H l
 ·refine X _ fun nm q N bs hdct sn sub ab col dd k0 k1 k2 k3 k5 mN hC hN hni=>?_;refine wpAny_Raise_call_sub (C:=104) (nm:=nm) (q:=q) (N:=N) (bs:=bs) (hdct:=hdct) (sn:=sn) (sub:=sub) (ab:=ab) (col:=col) (dd:=dd) (k0:=k0) (k1:=k1) (k2:=k2) (k3:=k3) (k5:=k5) PySem.F.excBase_ValueError (P.hand rfl) ((h.star F).trans ((sS j).2.2)) hni (wN (nX B Q hg R) fun x s1 v=>?_);refine zT x v ?_;intro k r T;refine⟨rfl,bM (lG h k w s1 r vs z I) (fun a s2 o=>?_) fun Y Y f=>f.elim⟩;refine o _ fun W2 b y d=>?_;refine⟨d.1,by refine aa ?_ (VRs.length d.2);exact bb i d7,b.st.keepB _ _ hC,hN.keeps b.st.keepB,fun h' ea m=>?_⟩;exact cw m.there fun t p H l=>Gj b (T.trans y) i d.2 m.keeps m.new p H l
theorem Aw{M:eF}{E:ae->ak->Prop}
    (h:al M A body (fun f a=>match f with|.next=>al M A d Q E a|f=>Q f a) (fun e a=>al M A (yS U e) (fun Y g=>al M A (uR e U (c::t)) Q E g) E a) s):
    al M A (tryStmt false body (c::t) d [] U) Q E s:=by
  refine aq (tC (bM h (fun f a b=>?_) fun e a b=>?_))
  · cases f<;>first|exact b|exact ay b
  · refine oU ?_ (aq b);exact aa rfl (bind_assoc ..)
theorem zQ{X:List ai}(C:ar A t Wp Wr U σ0 w)(R:ar A W Wp Wr U σ s)(T:av (aC A) t Wp w W s)(hX0:∀x∈X,w.heap.get? x=none)(r:aE W σ.st s')
  (j:∀y o,s.heap.get? y=some o->¬ W.owns y->y∉X->∃Q,s'.heap.get? y=some Q/\hM (aC A) y o Q) (ho:s'.os=s.os):ar A W Wp Wr U σ s'/\av (aC A) t Wp w W s':=by
 have g:∀y o,w.heap.get? y=some o->y∉X:=fun y o e z=>by obtain e:=(hX0 y z)▸e;exact am e
 have D:∀a∈Wp,a∉X:=fun a c=>by obtain⟨o,e⟩:=C.actS a c;exact g a o e
 refine⟨⟨r,R.act.mono (fun Y Y e=>e) (fun Y Y e=>e) (fun a c o e=>j a o e (R.actO a c) (D a c)),R.actF,R.actO,fun a c=>?_,?_⟩,⟨T.F,T.ρ,T.newF,T.newρ,fun a o e n1 n2=>?_,fun a o e=>?_,ho.trans T.os⟩⟩
 ·obtain⟨o,e⟩:=R.actS a c;exact aH (j a o e (R.actO a c) (D a c)) fun Q d Y=>⟨Q,d⟩
 ·refine aH R.stk fun l e h=>aH C.stk fun l0 e0 h0=>?_;cases (e▸e0);refine⟨l,e,fun v F=>?_⟩;refine j8 (h v F) fun I b P g3 B q g5 es m g6=>zt (h0 v F) fun Y b' k2 Y Y q' k5 Y=>?_;cases (P▸k2);exact oE (j b q g5 B (g b q' k5)) fun Q d=>⟨I,b,P,g3,B,Q,d.1,es,m,d.2.data.trans g6⟩
 ·exact oE (T.pres a o e n1 n2) fun n f=>aH (j a n f.1 (T.O_none e n1) (g a o e)) fun k i f2=>⟨k,i,f.2.trans f2⟩
 ·obtain⟨n,f⟩:=T.alive a o e;by_cases u:W.owns a
  ·refine aH u fun p H z=>oA (r.there p H) fun I P=>?_;clear e f u H;rcases z with rfl|rfl
   ·trivial
   ·trivial
  ·exact aH (j a n f u (g a o e)) fun k i Y=>⟨k,i⟩
theorem P1(C:ar A b Wp Wr U k w)(R:ar A W Wp Wr U h s)(T:av (aC A) b Wp w W s)(F:A.frames=some (U::p))(o:U.frame=some L)(g:mD W c as e w s):
  al (MD) A (yS U e) (fun Y s'=>ar A W Wp Wr U h s'/\av (aC A) b Wp w W s'/\iF W c as e w s') aT s:=wN (Ew R.st R.stk F o g T.alive) fun Y s' u=>E9 u fun t f x i B a=>oA (zQ C R T (fun y d=>by simp at d;clear B;subst d;trivial) f (a.pres) a.os) fun l D=>⟨l,D,t⟩
theorem P2(R0:ar A W0 Wp Wr U σ0 x)(R:ar A W Wp Wr U σ s)(F:av (aC A) W0 Wp x W s)(hfr:A.frames=some (U::WB))(hf:U.frame=some L)(hx:iF W c as e x s):
  al (MD) A (yS U e) (fun Y s'=>ar A W Wp Wr U σ s'/\av (aC A) W0 Wp x W s'/\iF W c as e x s') aT s:=by
 have S:=R.st;have K:=R.stk;refine hx _ fun a b items n oe0 vs0 f oT0 ts0 ez1023 t xc xd x10 x2 x3 x4 x5 x6 x7 Q u C y4 y5 y6 y7 y8=>?_;obtain rfl:=ez1023;let base:=hideAll s.heap (a::f::aC A);have d:∀y o,s.heap.get? y=some o->y≠a->y≠f->y∉aC A->base.get? y=some o:=fun y o e j k r=>D0 _ e (by simp only[dP,not_or];trivial)
 have hff:s.heap.FunFrames base (U::WB):=by refine aH K fun l e hl=>?_;cases (hfr▸e);refine DN fun Ww he=>zt (hl Ww he) fun v y I P g3 o g4 g5=>⟨v,y,I,mQ _ (bD _ (bD _ ?_)),o,g4,g5⟩;delta aC;refine aa ?_ hfr;exact List.mem_filterMap.mpr ⟨Ww,he,I⟩
 have h:Heap.FlyingW base _ a c _ s.heap:=
  ⟨(fun y o=>Fm _),mQ _ bK,hff,oe0,vs0,f,oT0,ts0,t,⟨xc,x10⟩,xd,Q,mQ _ (bD _ bK),u,C,y4,y5⟩
 refine wpAny_leaves_onW hfr hf h fun h' hL w=>Rb hL fun k1 Y Y oe vs T oT ts t1 q21 t4 t5 t6 D B H t10=>oA q21 fun t2 t3=>?_;have g:∀y,base.get? y=none->y≠a->y≠f->y∉aC A->s.heap.get? y=none:=fun y e j k r=>by
  cases z:s.heap.get? y with
  |none=>rfl
  |some o=>obtain e:=(d y o z j k r)▸e;assumption
 have hTk:T∉aC A:=fun hT=>by refine Fa (K.out hT) fun Y Y o2 I es m P=>oE (w T o2 I fun ws q=>by obtain q:=P▸q;trivial) fun sl g3=>?_;have:=(aR (B▸g3));obtain H:=this▸H;obtain H:=P▸H;trivial
 have hTor:T=f∨s.heap.get? T=none:=by
  by_cases z:T=f
  ·exact .inl z
  ·exact .inr (g T t6 D z hTk)
 have hT0:x.heap.get? T=none:=by
  clear R S K t Q u C y6 y7 d hff h w t5 t6 D B g hTk;rcases hTor with rfl|z
  ·trivial
  ·exact F.gone z
 have hTF:W.F T=none:=by
  clear R F K t Q u C y7 y8 d hff h w t5 t6 D B g hTk hT0;rcases hTor with rfl|z
  ·trivial
  ·cases z':W.F T with
   |none=>rfl
   |some o=>have:=S.frozen _ _ z';exact am (z▸this)
 have hTO:¬ W.owns T:=by
  clear R F K t Q u C y6 y8 d hff h w t5 t6 D B g hTk hT0 hTF;rcases hTor with rfl|z
  ·trivial
  ·intro⟨p,hp,z'⟩;refine ft (S.there p hp) fun q22 o2 P=>oE q22 fun o1 I=>?_;rcases z' with rfl|rfl
   ·obtain z:=I▸z;trivial
   ·obtain z:=P▸z;trivial
 have kept:∀y o,(W.F y=some o∨W.owns y)->s.heap.get? y=some o->h'.get? y=some o:=fun y o z e=>by
  refine(fun y o e j k r=>k1 _ _ (d y o e j k r)) y o e (fun q=>?_) (fun q=>?_) fun q=>?_
  ·clear t x7 u d h hL t1 D g e;subst q;rcases z with z|z
   ·exact am (x5▸z)
   ·trivial
  ·cases q;rcases z with z|z
   ·obtain z:=y6▸z;exact am z
   ·exact y7 z
  ·rcases z with z|z
   ·obtain z:=((K.out q).1)▸z;exact am z
   ·exact((K.out q).2.1) z
 obtain⟨R',Xn⟩:=zQ (X:=[a,f]) (s':={ s with heap:=h' }) R0 R F (fun y i=>by
   simp only[dP,cq,or_false] at i;clear t x5 x6 Q u C y6 y7 d h hL t1 D g hTor;rcases i with rfl|rfl
   ·exact x7
   ·exact y8) (S.keepsOn kept S.gens) (fun y o e ho i=>by
   simp only[dP,cq,or_false,not_or] at i;by_cases v:y∈aC A
   ·refine Fa (K.out v) fun Y Y o2 I es m P=>?_;obtain I:=e▸I;cases I;refine oE (w y o e (fun ws q=>by obtain q:=P▸q;contradiction)) fun sl g3=>?_;exact⟨_,g3,.inr ⟨v,⟨es,m,P⟩,sl,rfl⟩⟩
   ·exact⟨o,(fun y o e j k r=>k1 _ _ (d y o e j k r)) y o e i.1 i.2 v,.inl rfl⟩) rfl
 exact⟨R',Xn,.mk a b items n oe vs T oT ts rfl t1 t2 t4 t3 x2 x3 x4 x5 x6 x7 t5 D B H t10 hTF hTO hT0⟩
inductive AP(W:Wd)(Wp:List ai)(s0 s:ak)(c:ae)(as:List V)(a:ai):Prop
 |mk:∀oe vs T oT ts,W.F a=some oe->oe.cls=c->oe.data=.fields vs->vs[1]?=some (.ref T)->s.heap.get? T=some oT->oT.data=.fields ts->3<ts.size->aV W Wp T s.heap->s0.heap.get? T=none->AP W Wp s0 s c as a
structure jH(W:Wd)(Wp:List ai)(s0 s:ak)(c:ae)(as:List V)(a:ai):Prop where
 val:W.R (.exc c as) (.ref a)
 ex:AP W Wp s0 s c as a
theorem jH.step(h:jH W Wp w s c as a)(T:av fr W Wp s W' s'):jH W' Wp w s' c as a:=by obtain⟨j,k,vs,b,oT,t,d,H,C,e,p,g,f,u,i⟩:=h;exact⟨T.R j,k,vs,b,oT,t,T.F _ _ d,H,C,e,T.presX p u.O u.act (fun es n z=>by obtain z:=g▸z;trivial),g,f,u.step T,i⟩
theorem Cx(C:ar A d Wp Wr U σ0 w)(R:ar A W Wp Wr U σ s)(T:av (aC A) d Wp w W s)(t:iF W c as e w s):
  ∃W' a,e=.ref a/\ar A W' Wp Wr U σ s/\av (aC A) d Wp w W' s/\jH W' Wp w s c as a:=by
 refine t _ fun a b items n g v m B I p i j q x10 y x3 x4 h D u Q H k P y5 y6 y7 l=>?_;obtain rfl:=p;have f:∀x,w.heap.get? x=none->x∉Wp:=fun x F r=>by obtain⟨o,e⟩:=C.actS x r;exact am (F▸e)
 refine⟨W.add a g,a,rfl,v5 R i ⟨h,D,f _ u,_,i⟩ (fun es n z=>by obtain z:=q▸z;trivial),T.addF u h,?_,g,v,m,B,I,Wd.add_self,j,q,Q,k,P,(Array.getElem?_eq_some_iff.mp y5).1,⟨by simp[Wd.add,H,y6],y7,f _ l,_,k⟩,l⟩;exact⟨x3,a,g,v,b,items,n,rfl,Wd.add_self,j,q,x10,(Wd.add_keep h) _ _ y,VRs.mono (Wd.add_keep h) (fun Y Y e=>e) _ _ x4⟩
theorem DD{E:ae->ak->Prop}(m:ar A h Wp Wr U I w)(R:ar A W Wp Wr U x s)(T:av (aC A) h Wp w W s)(r:jH W Wp w s c as a)
  (q:∀s',ar A W Wp Wr U x s'->av (aC A) h Wp w W s'->jH W Wp w s' c as a->Q () s'):al (MD) A' (setFlight (.ref a) none) Q E s:=by
 obtain⟨t,v,vs,n,oT,F,i,H,C,d,p,g,j,u,k⟩:=r;refine wpAny_setFlight_none (R.st.frozen _ _ i) C d p g j ?_;obtain f:=eE _ p (t0 (nK g _));obtain⟨l,D⟩:=zQ (X:=[n]) (s':={ s with heap:=s.heap.update n _ }) m R T fun y b=>by simp at b;subst b;trivial
  (R.st.keepsOn (fun y o z e=>by
   refine((fun y b=>fg _ _ (bB b)) y fun b=>?_).trans e;clear d p k f;subst b;rcases z with z|z
   ·exact am (u.F▸z)
   ·exact u.O z) R.st.gens) (fun y o e B b=>⟨o,((fun y b=>fg _ _ (bB b)) y (by simpa using b)).trans e,.inl rfl⟩) rfl
 exact q _ l D ⟨t,v,vs,n,_,_,i,H,C,d,f,nK g _,by simp[j],⟨u.F,u.O,u.act,_,f⟩,k⟩
theorem VA{o:jS}{m:eF}{e:ae->ak->Prop}{s:List ae}
    (D:h.get? 104=some (sk nm q 104 N bs bm hdct sn s ab col dd k0 k1 k2 k3 k5 n)) (B:h.get? a=some W) (H:W.cls=.type "ValueError") (b:bm.contains (.type "BaseException")=true)
    (r:Q false ⟨h,g,d,t,o⟩):al m A (excMatches (.ref a) (.ref 104)) Q e ⟨h,g,d,t,o⟩:=by
  obtain f:=tc_notTuple;have f2:iP (.type "ValueError") (.ref 104)=pure false:=by kernel_rfl
  repeat (first|(with_reducible refine VW B ?_;refine aa ?_ H)|with_reducible refine VW D ?_|(with_reducible refine wpAny_isSubtype_exc D ?_;refine aa ?_ (by exact aa (aa (aa rfl (Bool.or_true ..)) b) List.contains_cons:(cm 104::bm).contains (.type "BaseException")=true))|wp_step)
  exact r
theorem VC:iP (.type "ValueError") (.type "ValueError")=pure true:=by kernel_rfl
theorem Vz:iP (.type "ValueError") (.type "BaseException")=pure true:=by kernel_rfl
theorem VB:iP (.type ((Jw "ValueError").elim "type" fun x=>x.metatype)) (.type "tuple")=pure false:=by kernel_rfl
theorem Uo:iP (.type "StopIteration") (.type "StopIteration")=pure true:=by kernel_rfl
theorem Um:iP (.type "StopIteration") (.type "BaseException")=pure true:=by kernel_rfl
theorem Un:iP (.type ((Jw "StopIteration").elim "type" fun x=>x.metatype)) (.type "tuple")=pure false:=by kernel_rfl
theorem EK{b:List O}(X:XF){e:ae->ak->Prop}(S:aE W b s)(hc:jH W Wp s0 s c as a)
  (hd:(d=c/\(c=.type "ValueError" ∨ c=.type "StopIteration" ∨ c=.ref 104))∨(d=.ref 104/\c=.type "ValueError")) (q:Q (d==c) s):al (MD) A' (excMatches (.ref a) d) Q e s:=by
 obtain⟨_,oe,vs,T0,oT,ts,h1,h2,h3⟩:=hc;have he:=S.frozen _ _ h1;refine X _ fun nm qq N bs hdct sn sub ab col dd k0 k1 k2 k3 k5 mN hC hN hni=>?_;have hC':=S.keepB _ _ hC;clear val;rcases hd with⟨rfl,rfl|rfl|rfl⟩|⟨rfl,rfl⟩
 ·exact VU (X := "ValueError") ⟨_,he,h2⟩ Vz VB VC (by simpa using q)
 ·exact VU (X := "StopIteration") ⟨_,he,h2⟩ Um Un Uo (by simpa using q)
 ·clear S a_2 a_5;obtain⟨hp,g,dr,tk,os⟩:=s;exact wpAny_excMatches_sub_self hC' he h2 rfl (by simpa using q)
 ·clear S a_2 a_5;obtain⟨hp,g,dr,tk,os⟩:=s;exact VA hC' he h2 rfl q
theorem ar.mark(R:ar A W Wp Wr U a s):ar (A.mark h) W Wp Wr U a s:=⟨R.st,R.act,R.actF,R.actO,R.actS,R.stk⟩
theorem ar.unmark(R:ar (A.mark h) W Wp Wr U a s):ar A W Wp Wr U a s:=⟨R.st,R.act,R.actF,R.actO,R.actS,R.stk⟩
theorem dn.unsetL{F:List (Option V)}{s:Str->Option ae}{N:Str}(H:dn W sc U F h)(q:cv N sc.names 0=some (i,.local))
  (r:∀N i,cv N sc.names 0=some (i,.local)->kR W (F.getD i none) (s N)) (k:o.Ns U.locals fun y=>if y=N then v else s y) (t:gz U.locals h o):
  dn W sc U (F.set i none) o where
 kind:=H.kind
 names:=H.names
 len:=by simpa using H.len
 nd:=H.nd
 loc:=by
  refine⟨_,k,fun j g f=>?_⟩;by_cases e:j=N
  ·clear k;subst e;obtain f:=q▸f;obtain rfl:i=g:=by simpa using f
   have p:i<F.length:=by
    refine aa ?_ H.len;rcases lp i sc.names.length with z|z
    ·exact z
    ·have:=(pV q).2;rw[Bn,fX z] at this;trivial
   rw[eR,de p];trivial
  ·have l:i≠g:=fun z=>by subst z;exact e (pU f q)
   rw[if_neg e,eR,dO l];exact r j g f
 cel j g f:=by
  refine fV (H.cel j g f) fun c y a b d=>?_;have l:i≠g:=fun z=>by clear d;subst z;have:=pU q f;clear k a;subst this;exact absurd (q▸f) nofun
  refine⟨c,y,a,(t.2 _ (H.nloc j g c f a)).trans b,?_⟩;rw[eR,dO l];exact d
 inj:=H.inj
 nloc:=H.nloc
 glob:=H.glob
 blt:=H.blt
theorem ar.setF2{s':ak}(R:ar A W Wp Wr U P s)(g:b∈Wp)(t:gz b s.heap s'.heap)(r:cL W s'.heap Wr U fs Wp)(d:∃o,s'.heap.get? b=some o/\∃es n,o.data=.dict es n)
  (v:s'.gens=s.gens:=by rfl) (w:s'.os=s.os:=by rfl):ar A W Wp Wr U ⟨fs,P.st⟩ s'/\av (aC A) W Wp s W s':=by
 obtain f:=R.actF b g;have u:=R.actO b g;have F:∃o,s'.heap.get? b=some o:=d.imp fun _ h=>h.1;refine⟨{ st:={ base:=R.st.base,frozen:=fun a o e=>?_,len:=R.st.len,objs:=fun k p e=>?_,there:=fun p i=>?_,free:=R.st.free,apart:=R.st.apart,gens:=v.trans R.st.gens },act:=r,actF:=R.actF,actO:=R.actO,actS:=fun a m=>?_,stk:=?_ },
  ⟨fun Y Y e=>e,fun Y Y e=>e,fun Y Y=>.inl,fun Y=>.inl,fun a o e Y n=>⟨o,(t.2 a fun z=>n (aa g z)).trans e,.inl rfl⟩,fun a o e=>?_,w⟩⟩
 ·exact(t.2 a fun z=>by subst z;exact am (aU e f)).trans (R.st.frozen _ _ e)
 ·exact OR.mono (fun Y Y e=>e) (fun Y Y e=>e) (fun Y x=>(t.2 _ fun z=>u ⟨p,(et e),.inl z.symm⟩).trans x) (fun Y x=>(t.2 _ fun z=>u ⟨p,(et e),.inr z.symm⟩).trans x) _ (R.st.objs k p e)
 ·exact ft (R.st.there p i) fun I H y=>oE I fun D x=>⟨⟨D,(t.2 _ fun z=>u ⟨p,i,.inl z.symm⟩).trans x⟩,H,(t.2 _ fun z=>u ⟨p,i,.inr z.symm⟩).trans y⟩
 ·by_cases z:a=b
  ·clear d f u;subst z;trivial
  ·obtain⟨o,x⟩:=R.actS a m;exact⟨o,(t.2 _ z).trans x⟩
 ·refine aH R.stk fun l e h=>⟨l,e,fun U B=>?_⟩;refine j8 (h U B) fun j c k1 k2 k3 o C es n k5=>?_;by_cases z:c=b
  ·clear f u F;subst z;exact oE d fun Q q=>⟨j,c,k1,k2,k3,Q,q.1,q.2⟩
  ·exact⟨j,c,k1,k2,k3,o,(t.2 _ z).trans C,es,n,k5⟩
 ·by_cases z:a=b
  ·subst z;trivial
  ·exact⟨o,(t.2 _ z).trans e⟩
theorem DZ{I:Str}(h:lM I Wr=some i):∃sc r,Wr=sc::r/\cv I sc.names 0=some (i,.local)/\fo I Wr=some i:=by
 cases Wr with
 |nil=>exact am h
 |cons sc r=>
  delta lM at h;dsimp only at h;cases q:cv I sc.names 0 with
  |none=>obtain h:=q▸h;exact am h
  |some p=>
   obtain⟨j,k⟩:=p;cases k with
   |«local»=>cases (q▸h);exact⟨sc,r,rfl,q,by delta fo;dsimp only;exact aa rfl q⟩
   |_=>exact am (q▸h)
theorem QK{I:Str}(R:ar A W Wp Wr U f s)(a:lM I Wr=some i):At A Wr U W Wp f s (jT) (do pI U I .none;unbindBehindTheSuite U I pos) (xS i):=by
 refine fV (DZ a) fun sc r C q Y=>?_;clear a Y;subst C;refine gb R.act.head fun fr g D H=>?_;intro u n e;delta xS at e;obtain e:=D▸e;simp only[rD,gj,true_and] at e;subst e;obtain R.act:=D▸R.act;have j:U.kindOf I=some .local:=by
  rcases H.names I i _ q with z|⟨z,_⟩
  ·exact z
  ·trivial
 refine aH H.loc fun m d c=>?_;exact wpAny_nameGoes_keeps j d (by refine aa ?_ H.kind;rfl) fun h v b t=>Ff b fun o es ep p=>oA (R.setF2 (R.act.headMem _ (mS ..)) t (R.act.setHead (mS ..) t (H.unsetL q c b t)) ⟨o,p.1,es,ep,p.2.1⟩) fun l T=>.mk W l T trivial
theorem CD(B:BO)(X:XF)(hG:cx.G=f5){G:Str}{J:ae->ak->Prop}
  (ht:t=.Name G tp) (hg:eM cx Wr t=some (.cst c)) (hcc:c=.type "ValueError" ∨ c=.type "StopIteration" ∨ c=.ref 104)
  (hn:name=none/\i=none∨∃nm j,name=some nm/\i=some j/\lM nm Wr=some j)
  (w:bV (A.mark (some (.ref a))) Wr U Wp (gp (b0::WI) U) mh)
  (R0:ar A W0 Wp Wr U σ0 H) (R:ar A W Wp Wr U σ s) (T:av (aC A) W0 Wp H W s) (hc:jH W Wp H s c as a)
  (e:(do uo i (.exc c as);let f<-mh;AC i;pure f) σ=some (fl,σ')) (F:∀c as,fl≠.exc c as)
  (k:∀f s' W',ar A W' Wp Wr U σ' s'->av (aC A) W0 Wp H W' s'->o7 W' fl f->Q f s'):
  al (MD) A (uR (.ref a) U (.ExceptHandler (some t) name (b0::WI) pos::rest)) Q J s:=by
 subst ht;refine VV (L6 (wN (nX B hG hg R.mark) fun x s1 hx=>?_)) (by intro q;trivial);refine ga hx ?_;try clear hx;intro q3 W1 R1m o;clear hg;subst q3
 obtain r:=R1m.unmark;have C:=hc.step o;refine EK X r.st C (.inl ⟨rfl,hcc⟩) ?_;have WX:(x==x)=true:=by exact if_pos rfl
 refine aa ?_ WX;refine(bind_some e) _ fun Y σ1 e1 e2=>?_;refine bA e2 fun p σ2 P e4=>?_;refine bA e4 fun Y σ3 g e6=>?_;obtain⟨q4,q5⟩:=cB (aR e6);clear e e2 e4 e6;subst q4;subst q5;rcases hn with⟨rfl,rfl⟩|⟨nm,j,rfl,rfl,h⟩
 ·obtain⟨_,q6⟩:=cB (aR e1);subst q6;obtain⟨_,q7⟩:=cB (aR g);clear g;subst q7;refine codeAny_handlers_suite (DD R0 r (T.trans o) C fun s2 l d hc2=>?_);refine bM (w W1 σ s2 l.mark p σ2 P) (fun f m u=>?_) fun ex m u=>?_
  ·refine u _ fun D I z V3=>?_;exact k f m D I.unmark (d.trans z) V3
  ·clear k d;refine u _ fun D I z c' as' ez1140 Y=>?_;obtain rfl:=ez1140;exact absurd rfl (F _ _)
 ·refine dy (DZ h) fun Y Y hhere=>codeAny_handlers_suite_as (DD R0 r (T.trans o) C fun s2 l d hc2=>?_);refine wN (xt l.mark hhere.2.2 hc2.val () σ1 e1) fun Y m u=>?_;refine u _ fun D I z Y=>?_;refine bM (w D σ1 m I p σ2 P) (fun f s4 u=>?_) fun ex s4 u=>?_
  ·clear w P I;refine u _ fun W4 n T4 b=>?_;refine bM (QK n.unmark h () σ3 g) (fun Y s5 u=>?_) fun Y Y f=>f.elim;clear h g n;refine u _ fun W5 R5 T5 Y=>?_;refine k f s5 W5 R5 (((d.trans z).trans T4).trans T5) ?_;clear F k;cases p with
   |ret v=>refine kW f b ?_;try clear b;intro y hy;exact⟨y,rfl,T5.R hy⟩
   |next=>exact b
   |brk=>exact b
   |cont=>exact b
   |exc c as=>exact b
  ·clear k h g d z;refine u _ fun W4 n T4 c' as' ez1226 Y=>?_;obtain rfl:=ez1226;exact absurd rfl (F _ _)
theorem LU(B:BO)(X:XF)(i:o.G=f5){I:Str}{m:ae->ak->Prop}
  (p:t=.Name I u) (z:eM o Wr t=some (.cst (.ref 104))) (r:c=.type "ValueError") (R:ar A W Wp Wr U l s) (T:av (aC A) g Wp w W s) (e:jH W Wp w s c as a)
  (k:∀s' W',ar A W' Wp Wr U l s'->av (aC A) g Wp w W' s'->jH W' Wp w s' c as a->al (MD) A (uR (.ref a) U rest) Q m s'):
  al (MD) A (uR (.ref a) U (.ExceptHandler (some t) name body pos::rest)) Q m s:=by
 subst p;refine VV (L6 (wN (nX B i z R.mark) fun x s1 j=>?_)) (by intro q;trivial);refine zT x j ?_;intro h b d;obtain f:=e.step d;refine EK X b.unmark.st f (.inr ⟨rfl,r⟩) ?_;clear e;subst r;exact k s1 h b.unmark (T.trans d) f
section
theorem NJ(h:bV A Wr U Wp (gp body U) m):bV A Wr U Wp (exec (.Try body (F::o) [] [] pos) U) (tc m):=fun W j s R=>by
 intro fl n e;refine bA e fun t k b g=>eC (Aw (bM (h W j s R t k b) (fun f s1 u=>?_) fun ex s1 u=>?_))
 ·clear h R b;refine u _ fun a r T l=>?_;cases t with
  |exc c as=>exact am g
  |next=>obtain rfl:f=.next:=l;exact bg fl n g (ay (.mk a r T rfl))
  |brk=>obtain rfl:f=.brk:=l;exact bg fl n g (.mk a r T rfl)
  |cont=>obtain rfl:f=.cont:=l;exact bg fl n g (.mk a r T rfl)
  |ret v=>refine kW f l ?_;intro y i;exact bg fl n g (.mk a r T ⟨y,rfl,i⟩)
 ·clear h R b;refine u _ fun a r T c as d Y=>?_;obtain rfl:=d;exact am g
theorem uk(h:lP o=false):BQ o nm U t=t:=by
 cases o with
 |Call f as ks pos=>
  cases f with
  |Name id p=>
   cases as with
   |nil=>
    cases ks with
    |nil=>
     delta BQ;have d:(id==("super" : Str))=false:=h;have:(id != ("super" : Str))=true:=by simp only[bne,d,Bool.not_false]
     exact if_pos (by rw[this];rfl)
    |cons=>exact @rfl _ t
   |cons=>exact @rfl _ t
  |_=>exact @rfl _ t
 |_=>exact @rfl _ t
theorem iF.back(h:iF W c as e s1 s)(T:av fr o acts' w W' s1):iF W c as e w s:=by refine h _ fun a b items n g v d B I f z A q x10 m x3 x4 i j u Q k x P y r t l=>?_;obtain rfl:=f;exact .mk a b items n g v d B I rfl z A q x10 m x3 x4 i j (T.gone u) Q k x P y r t (T.gone l)
inductive o8(A:a8)(cx:Ctx)(Wr:List aL)(U:bj)(Wp:List ai):List ExceptHandler->List (ae×Option Nat×M Fl)->Prop
 |nil:o8 A cx Wr U Wp [] []
 |cons {t:Expr}{id:Str}{tp:ef}{name:Option Str}{i:Option Nat}{b0:cW}{WI:List cW}{pos:ef}{d:ae}{mh:M Fl}{hs:List ExceptHandler}{r:List (ae×Option Nat×M Fl)}:
   t=.Name id tp->eM cx Wr t=some (.cst d)->(d=.type "ValueError" ∨ d=.type "StopIteration" ∨ d=.ref 104)->(name=none/\i=none∨∃nm j,name=some nm/\i=some j/\lM nm Wr=some j)->
   (∀a,bV (A.mark (some (.ref a))) Wr U Wp (gp (b0::WI) U) mh)->o8 A cx Wr U Wp hs r->o8 A cx Wr U Wp (.ExceptHandler (some t) name (b0::WI) pos::hs) ((d,i,mh)::r)
theorem zL{x:j}{z:Option (c×S)}(h:m a=some (x,i))(k:f x i=z):M.bind m f a=z:=by delta M.bind;exact aa k h
theorem OQ(B:BO)(X:XF){G:Ctx}(l:G.G=f5){J:Wd}{L:Flow->ak->Prop}{N:ae->ak->Prop}{Xm:S}(C:ar A J Wp Wr U σ0 w)
  (k:∀f s' W',ar A W' Wp Wr U Xm s'->av (aC A) J Wp w W' s'->o7 W' Xn f->L f s')
  {r:List (ae×Option Nat×M Fl)} (H:o8 A G Wr U Wp Z r):∀{W:Wd}{s:ak},ar A W Wp Wr U σ s->av (aC A) J Wp w W s->jH W Wp w s c as a->n9 c as r σ=some (Xn,Xm)->al (MD) A (uR (.ref a) U Z) L N s:=by
 induction H with
 |nil=>exact fun R T q=>am
 |@cons _ _ _ _ i _ _ _ d mh _ _ p m hcc hn WC hr I=>
  intro W s R T q e;refine mU e (fun hd e=>?_) fun hd e=>mU e (fun hd e=>?_) fun hd e=>am e
  ·clear I;obtain rfl:=eq_of_beq hd;refine bA e fun Y σ1 y h=>bA h fun F σ2 P g=>?_;cases F with
   |ret v=>refine bA g fun Y σ3 D j=>?_;obtain⟨q10,q11⟩:=cB (aR j);clear e h g j;subst q10;subst q11;refine CD B X l p m hcc hn (WC a) C R T q ?_ (fun Y Y z=>by trivial) k;exact zL y (zL P (zL D rfl))
   |_=>exact am g
  ·exact fZ hd fun h1 h2=>LU B X l p (eq_of_beq h1▸m) (eq_of_beq h2) R T q fun s' W' u x hc'=>I u x hc' e
set_option tactic.hygienic true
theorem Ih{M:eF}{E:ae->ak->Prop}(h:∀(Q:j->ak->Prop)(F:ae->ak->Prop),(∀a s',P a s'->Q a s')->(∀a s',E a s'->F a s')->al M A t Q F s):al M A t P E s:=h P E (fun Y Y h=>h) fun Y Y h=>h
inductive ud(r:List (ae×Option Nat×M Fl))(σ1:S)(Wv:List O)(fl:Fl)(σ':S):CR->Prop
 |ret:∀v,fl=.next->σ'={ σ1 with st:=Wv }->ud r σ1 Wv fl σ' (.ret v)
 |exc:∀c as,n9 c as r { σ1 with st:=Wv }=some (fl,σ')->ud r σ1 Wv fl σ' (.exc c as)
def TC(kk:K)(nm:Str)(mo:M V)(r:List (ae×Option Nat×M Fl))(σ:S)(fl:Fl)(σ':S):Prop:=∀C:Prop,(∀σ1 j cc fs ad res Wv,mo σ=some (.obj j,σ1)->aD σ1.st j=.inst cc fs->bc cc nm=some ad->kk ad [.obj j] σ1.st=some (res,Wv)->ud r σ1 Wv fl σ' res->C)->C
theorem TC.mk{g:K}{N:Str}{l:M V}{R:List (ae×Option Nat×M Fl)}{o:S}{F:Fl}{n:S}:∀i j A fs ad q x,l o=some (.obj j,i)->aD i.st j=.inst A fs->bc A N=some ad->g ad [.obj j] i.st=some (q,x)->ud R i x F n q->TC g N l R o F n:=fun d z m x3 x4 h f u b c x10 e C k=>k d z m x3 x4 h f u b c x10 e
theorem Qy{s:List O}{b:ai}{g:Prop}(h:zd bc nm s v=some b)(k:∀j A fs,v=.obj j->aD s j=.inst A fs->bc A nm=some b->g):g:=
 ax h fun j a h=>ax h fun p H=>k j p.1 p.2 (qU a) (ow H)
theorem Vh(e:td kk bc nm B r t=some (fl,n)):TC kk nm B r t fl n:=by
 refine bA e fun v i k l=>bA l fun o u P d=>?_;clear l;revert d;refine bg o u P fun d=>bA d fun ad w m W=>?_;clear d;revert W;have a:=m;clear m;cases f:zd bc nm i.st v with
 |none=>rw[f] at a;exact am a
 |some g=>
  rw[f] at a;refine bg ad w a fun W=>Qy f fun j A fs s H q=>?_;clear f;subst s;have b:(match kk g [.obj j] i.st with
   |some (.ret _,x)=>some _
   |some (.exc c F,x)=>n9 c F r { i with st:=x }
   |none=>none)=some _:=W
  split at b
  ·rename_i p x h;exact bg fl n b (.mk i j A fs g _ x k H q h (.ret p rfl rfl))
  ·rename_i R y x h;exact .mk i j A fs g _ x k H q h (.exc R y b)
  ·exact am b
theorem NK(B:BO)(X:XF)(F:BF)(P:KS n kk)(hkf:KF kk)(C:aW false n A)(hG:cx.G=f5)(m:A.frames=some (U::WB))
  (hsup:lP o=false) (WW:(a.endLine==d.line)=true) (h1:aK A Wr U Wp (eval o U) mo) (D:o8 A cx Wr U Wp (h0::hs) r):
  bV A Wr U Wp (exec (.Try [.Expr (.Call (.Attribute o nm a) [] [] d) ep] (h0::hs) [] [] pos) U) (td kk bc nm mo r):=fun W σ s R=>by
 obtain⟨L,hL⟩:∃L,U.frame=some L:=by refine aH R.stk fun l e h=>?_;cases (m▸e);exact ga (h U bK) fun Y b h2 Y=>⟨b,h2⟩
 intro fl σ' e;have T0:=Vh e;clear e;refine T0 _ fun σ1 j cc fs t res Wv e1 hgo hme q I=>Ih fun Q' F' H hF=>eC (Aw ?_);have WC:gp [.Expr _ ep] U=(do
   let f<-exec (.Expr (.Call (.Attribute o nm a) [] [] d) ep) U
   match f with
   |.next=>pure .next
   |f=>pure f):=rfl
 refine aa (aa (aa ?_ R.notInteractive) (arm_exec_Expr ..)) WC;have hcall:eval (.Call (.Attribute o nm a) [] [] d) U=(do let w<-eval o U;standAt a.atName;lS o nm a d U w 0 (cr d []) []):=by refine(?_:(do let w<-BQ o nm U _;standAt a.atName;lS o nm a d U w 0 _ [])=_);exact aa rfl (uk hsup)
 refine wB (eC (iX (Ag rfl) ?_));refine aa ?_ hcall;refine wB (eZ (h1 W σ s R _ σ1 e1) fun x s1 u=>eC ?_);refine u _ fun W1 g T k=>?_;refine aH (Rr k) fun p hp q18=>?_;subst q18;have WU:lT true o U a d=pure d:=by delta lT;simp[WW]
 refine er (wN (DT (Q:=fun r s'=>r=(.ref t,[.ref p.1])/\s'=s1) B g.st hp hgo hme ⟨rfl,rfl⟩) fun Y Y hr=>?_);refine oA hr ?_;try clear hr;intro q19 q20;subst q19;cases q20
 refine iX WU (iI (ua ⟨yP F hkf q g.st,kl ?_⟩));refine lE (P A C W1 σ1.st _ g.st g.stk t [.obj j] [.ref p.1] res Wv (VRs.one k) q) fun rr s2 z=>?_;rcases rr with ex|(v2|_|_|_)<;>try exact z.elim
 ·refine z _ fun v i y c' as' ez90 hx=>?_;obtain rfl:=ez90;cases I with
  |exc c as hha=>
  exact wN (P2 R (ar.lift g i y) (T.tu y) m hL (hx.back T)) fun Y s3 u=>cV u fun R3 WE hx3=>TO ex (Cx R R3 WE hx3) fun W4 a4 R4 T4 hc4=>OQ B X hG R (fun f s' W' R' T' V'=>H _ _ (.mk W' R' T' V')) D R4 T4 hc4 hha
 ·clear X F P C m D R q k;refine z _ fun v i y v3 ez116 hv=>?_;obtain rfl:=ez116;cases I with
  |ret v4 q1 q2=>
  subst q1;subst q2;exact wpAny_dropValue (ay (ay (H _ _ (.mk v (ar.lift g i y) (T.tu y) rfl))))
end
theorem CB(I:ai):xL "list_iterator.__next__" ⟨[.ref I],[]⟩=pure ():=by first|kernel_rfl|rfl
theorem F9(I:ai):(AS "list_iterator.__next__" ⟨[.ref I],[]⟩).quiet=true:=wE _ (by decide +kernel)
theorem Cu{e:ae->ak->Prop}{f:String}(hb:s.heap.get? b=some (hX f (.ref I)))(a:xL f ⟨[.ref I],[]⟩=pure ())(r:(AS f ⟨[.ref I],[]⟩).quiet=true)(c:jg jE f=some B)
  (h:al (bO prog w) (A.under (.builtin f ⟨[.ref I],[]⟩)) (B ⟨[.ref I],[]⟩) (fun fin s'=>∃v,fin=.done (.ret v)/\Q v s') e s):al (bO prog w) A (call (.ref b) []) Q e s:=by
 refine kl (uu ?_);refine aq (kn hb ?_);have H:(bQ (lz f)==bQ "method" || bQ (lz f)==bQ "builtin_function_or_method" || bQ (lz f)==bQ "method-wrapper")=true:=by delta lz;split<;>rfl
 have i:(bQ (lz f) != bQ "method")=true:=by delta lz;split<;>rfl
 refine aa ?_ H;refine aa ?_ i;refine aq (mf a ?_);refine aq (ay (ay ?_));refine⟨r,fN c (bM h (fun fin s' o=>?_) fun Y Y x=>x)⟩;refine kW fin o ?_;intro v d;trivial
theorem KW{E:ae->ak->Prop} (hb:s.heap.get? b=some (hX "list_iterator.__next__" (.ref I))) (hit:s.heap.IsListIter I l i) (c:s.heap.IsList l items) (a:items[i]?=some x)
  (g:∀d,d.IsListIter I l (i+1)->gz I s.heap d->Q x { s with heap:=d }):al (bO prog w) A (call (.ref b) []) Q E s:=by
 refine cw (id hit) fun o p q hd=>sO c fun n f Y nl j=>Cu hb (CB I) (F9 I) xY (?_:al _ _ (mM _ 0>>=_) _ _ s);refine aq (fB p hd (x:=.ref l) rfl ?_);refine aq (fB p hd (x:=.int i 0) rfl ?_);refine aq (jG f j ?_);simp only[rn,a];refine aq (qV p hd (by simp) (ay ⟨x,rfl,g _ ?_ (ku ..)⟩));exact⟨_,eE _ p (t0 (nK hd _)),(JG ..).trans q,by refine aa ?_ (nK hd ..);rfl⟩
theorem KV{E:ae->ak->Prop}(u:A.handled=none) (hb:s.heap.get? b=some (hX "list_iterator.__next__" (.ref I))) (hit:s.heap.IsListIter I l i) (f:s.heap.IsList l items) (h:items[i]?=none)
  (k:∀d e t,(∀y o,y≠I->s.heap.get? y=some o->d.get? y=some o)->(∃o,d.get? I=some o)->s.heap.get? e=none->s.heap.get? t=none->d.get? e=some { cls:=.type "StopIteration",data:=.fields #[.ref t,.none,.none,.none,.bool false,.none] }->
   d.get? t=some { cls:=.type "tuple",data:=.seq #[] }->E (.ref e) { s with heap:=d }):al (bO prog w) A (call (.ref b) []) Q E s:=by
 refine cw (id hit) fun o p q hd=>sO f fun n g Y nl j=>Cu hb (CB I) (F9 I) xY (?_:al _ _ (mM _ 0>>=_) _ _ s);refine aq (fB p hd (x:=.ref l) rfl ?_);refine aq (fB p hd (x:=.int i 0) rfl ?_);refine aq (jG g j ?_);simp only[rn,h];refine aq (nv (aq (qV p hd (by simp) ?_)));refine aq ?_;refine aq (m:=Dz _ _) (mf (a:=rI) rfl ?_);refine k8 ?_ (by size_fits);refine aq (H3 ?_);refine aa ?_ u;refine aq (ay (Ie ?_));refine k _ _ _ (fun y o c e=>bX _ (bX _ (((fun y c=>fg _ _ (bB c)) y c).trans e))) ⟨_,bX _ (bX _ (eE _ p (t0 (nK hd _))))⟩ ?_ ?_ (bF _ rfl) (bX _ (bF _ rfl))
 ·exact tP (by refine aa (aa ?_ ((ku ..).1)) (li ..);exact jP _)
 ·exact tP (by refine aa ?_ ((ku ..).1);exact ck _)
theorem PK{I:String}(h:s.heap.get? b=some (hX I y)):jM (MD) A (.ref b) s:=fun Q E q=>by
 have i:(bQ (lz I) != bQ "method")=true:=by delta lz;split<;>rfl
 refine aq (kn h ?_);refine aa ?_ i;exact ay (q _)
theorem MT(h:yF g=false):eval (.Call g [] [] p) U=(do let f<-eval g U;dJ p f [] (cr p []) []):=by
 cases g with
 |Attribute=>trivial
 |_=>rfl
theorem Qd{s:List O}(h:ql s v=some (j,src,i,r)):v=.bm "list_iterator.__next__" (.obj j)/\aD s j=.liter src i/\∃vs,cM s src=some vs/\r=vs[i]?:=
 ax h fun p a h=>ax h fun k H h=>bq h fun w h=>ax h fun q C h=>ax h fun vs d h=>by have h:=aR h;exact⟨(HN a).trans (by rw[eq_of_beq w,qU H];exact congrArg (fun z=>V.bm _ (.obj z.1)) h),(congrArg (fun z=>aD s z.1) h).symm.trans ((Ro C).trans (congrArg (fun z=>O.liter z.2.1 z.2.2.1) h)),vs,(congrArg (fun z=>cM s z.2.1) h).symm.trans d,(congrArg (·.2.2.2) h).symm.trans (congrArg (fun z=>vs[z.2.2.1]?) h)⟩
inductive ue(t:Tgt)(mh:M Fl)(σ1:S)(j:Nat)(src:V)(i:Nat)(fl:Fl)(σ':S):Option V->Prop
 |hit:∀v u,t.set v { σ1 with st:=σ1.st.set j (.liter src (i+1)) }=some (u,σ')->fl=.brk->ue t mh σ1 j src i fl σ' (some v)
 |stop:mh { σ1 with st:=σ1.st.set j .dead }=some (.next,σ')->fl=.next->ue t mh σ1 j src i fl σ' none
def TN(t:Tgt)(mg:M V)(mh:M Fl)(σ:S)(fl:Fl)(σ':S):Prop:=∀C:Prop,(∀σ1 j src i vs,mg σ=some (.bm "list_iterator.__next__" (.obj j),σ1)->aD σ1.st j=.liter src i->cM σ1.st src=some vs->ue t mh σ1 j src i fl σ' vs[i]?->C)->C
theorem TN.mk{T:Tgt}{e:M V}{X:M Fl}{B:S}{F:Fl}{n:S}:∀a j src i vs,e B=some (.bm "list_iterator.__next__" (.obj j),a)->aD a.st j=.liter src i->cM a.st src=some vs->ue T X a j src i F n vs[i]?->TN T e X B F n:=fun d z m x3 x4 h f u c C k=>k d z m x3 x4 h f u c
theorem Vk{G:M V}(e:qM t G x C=some (fl,n)):TN t G x C fl n:=by
 refine bA e fun p l g h=>bA h fun B D P d=>?_;clear h;revert d;refine bg B D P fun d=>bA d fun s F k W=>?_;clear d;revert W;have b:=k;clear k;cases c:ql l.st p with
 |none=>rw[c] at b;exact am b
 |some z=>
  rw[c] at b;refine bg s F b ?_;clear b;obtain⟨j,src,i,r⟩:=z;refine lX (Qd c) fun Q H vs w q=>?_;clear c;subst Q;refine fun W=>.mk l j src i vs g H w (aU ?_ q);clear g H w q;revert W;cases r with
  |some v=>intro W;refine bA W fun Y f y A=>?_;revert A;refine bg _ f y fun A=>bA A fun u I a m=>?_;revert a;exact bg fl n m fun a=>.hit v u a rfl
  |none=>
   intro W;refine bA W fun Y f y A=>?_;revert A;refine bg _ f y fun A=>bA A fun o I a m=>?_;cases o with
   |next=>revert a;exact bg fl n m fun a=>.stop a rfl
   |_=>exact am m
theorem NL(B:BO)(X:XF)(hB:SetB)(hA:aW false n A)(hG:cx.G=f5)(hfr:A.frames=some (U::WB)){G:Str}{J:M V}
  (hga:yF g=false) (hg:aK A Wr U Wp (eval g U) J) (hte:te=.Name G tp) (hgl:eM cx Wr te=some (.cst (.type "StopIteration")))
  (WC:∀a,bV (A.mark (some (.ref a))) Wr U Wp (gp (b0::WI) U) mh):
  bV A Wr U Wp (exec (.Try [.Assign [t] (.Call g [] [] cp) ap,.Break P] [.ExceptHandler (some te) none (b0::WI) hp] [] [] pos) U) (qM (dk Wr t) J mh):=fun W σ s R=>by
 obtain⟨L,hL⟩:∃L,U.frame=some L:=by refine aH R.stk fun l e h=>?_;rw[hfr] at e;cases e;exact ga (h U bK) fun Y b h2 Y=>⟨b,h2⟩
 intro fl σ' e;have T0:=Vk e;clear e;refine T0 _ fun d j src i vs e1 hgo hls hr=>Ih fun Q F hQ hF=>eC (Aw ?_);have hbody2:gp [.Assign [t] _ ap,.Break P] U=(exec (.Assign [t] (.Call g [] [] cp) ap) U>>=fun f=>match f with
   |.next=>gp [.Break P] U
   |f=>pure f):=rfl
 have hsw:tq [t] (.Call g [] [] cp) ap.line U=pure false   := by rfl
 refine wB (eC (iX hsw ?_));refine aa ?_ (MT hga);refine wB (eZ (hg W σ s R _ d e1) fun x s1 T=>?_);clear hg e1 hF hbody2 hsw;refine T _ fun D c T1 V1=>?_;refine Rg V1 ?_;intro b y q47 hFb p hp q48;clear V1;subst q47;subst q48;obtain I:=c.st.objs j p hp;rw[hgo] at I;refine ga I fun hpp l hit hsrc=>(qj c.st hsrc hls) _ fun Wx l' items k hl' hl1 hl2=>?_;cases hl';have Xi:s1.heap.IsList l items:=⟨_,hl1,rfl,k,rfl⟩;refine iI (ua ⟨PK (c.st.frozen _ _ hFb),?_⟩);generalize hv:vs[i]?=r at hr;cases hr with
 |hit v u H hfl=>
  subst hfl;refine aH (sH hl2 hv) fun x hx hR=>KW (c.st.frozen _ _ hFb) hit Xi hx fun m hi hs=>oA (c.st.upd (fr:=aC A) (s':={ s1 with heap:=m }) (o:=.liter src _) hp (by refine aa ?_ hgo;rfl) (fun z o n1 n2=>hs.extBut z o n1) (jq hi) (by refine aa ?_ hpp;exact jq hi) ⟨hpp,l,hi,hsrc⟩ c.st.gens rfl) fun S2 C=>?_;have hbad:dk Wr t≠.bad:=fun z=>by rw[z] at H;exact am H
  have hns:∀a b,t≠.Starred a b:=fun a b z=>hbad (by rw[z];rfl);have R2:=ar.lift (st:=d.st) (fs:=d.fs) c S2 C;have hnl:∀ts p,t≠.List ts p:=fun a b z=>hbad (by rw[z];rfl);refine aq (mf (wl (by rintro⟨_,_,_,_,_,_,_,z⟩;contradiction) hnl) ?_);have W9:BK U x none ((ja [t] U).map (·.2))=(do fi t U x;pure nz):=by refine aa ?_ (xW hns);rfl
  refine oU W9 (aq (bM (nP hB hA R2 (C.R hR) u σ' H) (fun Y s3 T=>ay ?_) fun Y Y f=>f.elim));clear X hB hA hfr hgl WC R hL c hp hFb I hit hsrc hl2 hl1 Xi H hR hi hs S2 R2 hbad W9;refine T _ fun W3 R3 WE Y=>?_;refine(?_:al (MD) A (gp [.Break P] U) _ _ s3);have hbr:gp [.Break P] U=(do standAt P;pure Flow.brk):=rfl;rw[hbr];exact aq (tH (ay (hQ _ _ (.mk W3 R3 ((T1.trans (C.mono (by simp))).trans WE) rfl))))
 |stop H hfl=>
  subst hfl;have hx:items[i]?=none:=by have h1:=dQ hl2;rw[tJ];have:=List.getElem?_eq_none_iff.mp hv;exact aa this h1
  refine KV (hA.hand rfl) (c.st.frozen _ _ hFb) hit Xi hx fun m e t' k1 k2 k3 k4 k5 k6=>?_;refine oA (c.st.upd (fr:=aC A) (s':={ s1 with heap:=m }) (o:=.dead) hp (by rw[hgo];rfl) (fun z o n1 n2 e=>k1 z o n1 e) k2 (by rw[hpp];exact k2) trivial c.st.gens rfl) fun S2 C=>?_;have R2:=ar.lift (st:=d.st) (fs:=d.fs) c S2 C;have T02:av (aC A) W Wp s D { s1 with heap:=m }:=T1.trans (C.mono (by simp));have none1:∀z,s1.heap.get? z=none->D.F z=none/\¬ D.owns z/\z∉Wp:=fun z hz=>by
   refine⟨?_,fun⟨q,hq,w⟩=>?_,fun hm=>?_⟩
   ·cases w:D.F z with
    |none=>rfl
    |some o=>have:=c.st.frozen _ _ w;rw[hz] at this;exact am this
   ·refine ft (c.st.there q hq) fun q51 o2 g2=>?_;refine oE q51 fun o1 g1=>?_;clear hq q51;rcases w with rfl|rfl
    ·rw[hz] at g1;exact am g1
    ·rw[hz] at g2;exact am g2
   ·refine oE (c.actS z hm) fun o I=>?_;rw[hz] at I;exact am I
  refine cV (none1 t' k4) fun t1 t2 t3=>?_;refine cV (none1 e k3) fun u1 u2 u3=>?_;have Ot:aV D Wp t' m:=⟨t1,t2,t3,_,k6⟩;have R3:=v5 (s:={ s1 with heap:=m }) R2 k6 Ot (fun es n z=>by contradiction);have WE:=T02.addF (o:={ cls:=.type "tuple",data:=.seq #[] }) (T1.gone k4) t1;have het:e≠t':=fun z=>by rw[z,k6] at k5;have h2:=congrArg Obj.cls (aR k5);simp at h2
  have hx0:mD (D.add t' { cls:=.type "tuple",data:=.seq #[] }) (.type "StopIteration") [] (.ref e) s { s1 with heap:=m }:=
   (.mk e t' (#[]) 0 rfl k5 Wd.add_self (dB _) (by refine(?_:VRs _ _ [] _);simp[VRs]) (by simp[Wd.add,het,u1]) u2 (T1.gone k3))
  refine bM (P1 R R3 WE hfr hL hx0) (fun Y s4 T=>?_) fun Y Y f=>f.elim;refine cV T fun R4 T4 hx4=>?_;refine qy (Cx R R4 T4 hx4) fun W5 a5 ha5 R5 T5 hc5=>?_;rw[ha5];refine CD B X hG hte hgl (.inr (.inl rfl)) (i:=none) (.inl ⟨rfl,rfl⟩) (WC a5) R R5 T5 hc5 (fl:=.next) (σ':=σ') ?_ (fun Y Y z=>by contradiction) fun f s' W' R' T' V'=>hQ _ _ (.mk W' R' T' V');refine(?_:M.bind (uo none (.exc (.type "StopIteration") [])) (fun Y=>M.bind mh fun f=>M.bind (AC none) fun Y=>M.pure f) _=_);unfold M.bind M.pure;have hb0:uo none (V.exc (bQ "StopIteration") []) ({ d with st:=d.st.set j .dead }:S)=some ((),{ d with st:=d.st.set j .dead }):=rfl;rw[hb0];dsimp only;rw[H];rfl
section
theorem j7(e:(M.lift o:M c) a=some (b,n)):o=some b/\n=a:=by
 cases o with
 |none=>exact am e
 |some x=>exact bg b n e ⟨rfl,rfl⟩
theorem EA(n:av (aC A) e Wp w W s)(R:ar A W Wp Wr U g s) (x:T = "list" ∨ T = "tuple") (p:s.heap.get? l=some { cls:=.type T,data:=.seq items m }) (b:W.Rs vs items.toList) (c:vs.length<=sizeMax):
  al (MD) A (call (.type "list") [.ref l]) (fun y o=>∃v,ar A v Wp Wr U g o/\av (aC A) e Wp w v o/\v.R (.lst vs) y) aT s:=by
 obtain I:=by have:=VRs.length b;simpa using this
 refine call_list_seq l x p rfl rfl (fun f i j h=>?_) (by refine aa ?_ I;exact bb c d7);obtain⟨v,d,a,C⟩:=(ou (s':={ s with heap:=f }) R.st b c h (bG _) j).ex;exact⟨v,ar.lift R d a,n.tu a,C⟩
theorem uV(B:BO)(h:aK A Wr U Wp t m):ee A Wr U Wp t (iV m):=fun W q s R p w e=>by
 refine bA e fun v C g i=>bA i fun y z P k=>?_;cases (show some _=some _ from P);obtain⟨n,rfl⟩:=j7 k;refine wN (h W q s R v w g) fun x s1 u=>?_;clear h R g i e P k;refine u _ fun d b T l=>?_;refine⟨d,b,T,.inl (Pq B b.st b.actS l n),fun vs c=>?_⟩;refine ch n (fun e=>?_) fun e=>ax e fun j Y e=>ch e (fun e=>?_) fun e=>?_<;>refine aH (Option.map_eq_some_iff.mp e) fun us h e=>?_<;>subst e
 ·refine bq c fun o c=>cy c (ch h (fun h=>?_) fun h=>?_)
  ·obtain⟨Y,a,items,m,rfl,f,r⟩:d.R _ x:=kZ h▸l;exact EA T b (.inl rfl) (b.st.frozen _ _ f) r o
  ·obtain⟨Y,a,items,m,rfl,f,r⟩:d.R _ x:=nn h▸l;exact EA T b (.inr rfl) (b.st.frozen _ _ f) r o
 ·exact am c
 ·exact am c
theorem Th:∀{k:Nat}{acc:Array ae},ItemsOf (fun i v=>∃t,v=Value.int (a+(i:Int)*1) t) acc k->VRs F ρ ((iE k).map fun(i:Nat)=>V.int (a+i)) acc.toList:=fun{k acc} h=>by
 have c:∀(xs:List ae)(j:Nat),(∀i v,xs[i]?=some v->∃t,v=Value.int (a+((j+i:Nat):Int)) t)->VRs F ρ ((iE xs.length).map fun i=>V.int (a+((j+i:Nat):Int))) xs:=by
  intro xs;induction xs with
  |nil=>exact fun j Y=>rfl
  |cons x xs I=>
   intro j b;refine aa (aa (aa (aa ?_ gB) dH) wW) iD;refine m9 x (b 0 x rfl) fun t=>VRs.cons (gI (W':=⟨F,ρ⟩) _ _) ?_;have B:(fun i=>V.int (a+((j+1+i:Nat):Int)))=((fun i=>V.int (a+((j+i:Nat):Int)))∘w6):=by funext i;congr 1;push_cast;omega
   have:=I (j+1) fun i v s=>by exact m9 v (b (i+1) v (by trivial)) fun t=>⟨t,by congr 1;push_cast;omega⟩
   exact(aU this B)
 have:=c acc.toList 0 fun i v s=>by exact m9 v (h.2 i v (by simpa using s)) fun t=>⟨t,by rfl⟩
 obtain this:=oX▸this;obtain this:=h.1▸this;simpa using this
theorem Gn(o:aW false n A)(g:av (aC A) h Wp w W s)(l:-1000<a)(p:a<1000)(x:b<1000)(R:ar A W Wp Wr U d s)(Q:IsRange s.heap r a b 1 t u v)(q:-(2 ^ 62)<=b):
  ll A Wr U Wp W d w (.vals (kU a b)) (.ref r) s/\nI A Wr U Wp h w W d (.vals (kU a b)) (.ref r) s:=by
 have H:Builtin.Range.small a b 1=true:=small_one (nB (by decide) (iA l)) (o9 p (by decide)) q (o9 x (by decide));have j:Builtin.Range.rangeSize a b 1=(((b-a).toNat:Nat):Int):=by
  refine aa ?_ (rangeSize_one ..);split
  ·exact(pa (Int.sub_nonneg_of_le (iA ‹_›))).symm
  ·exact(congrArg Int.ofNat (Int.toNat_eq_zero.mpr (Int.sub_nonpos_of_le (Int.not_lt.mp ‹_›)))).symm
 refine⟨.inl (wpAny_pyIter_range Q H ?_),fun vs c=>?_⟩
 ·refine oA (R.st.keeps (s':={ s with heap:=s.heap.push { cls:=.type "range_iterator",data:=.fields #[l6 a,l6 _,l6 1] } }) (co _ _) R.st.gens rfl) fun e T=>.mk _ _ rfl (bG _) (bG _) e T (m0 R.st R.actS rfl) (m0 R.st R.actS rfl) ⟨rfl,.inr (.inr ⟨a,(b-a).toNat,?_,rfl⟩)⟩;refine aU ?_ j;exact bF _ rfl
 ·unfold tj at c;dsimp only at c;split at c
  ·rename_i B;cases c;have D:(b-a).toNat<=2 ^ 24:=Int.toNat_le.mpr (nB (Int.sub_le_sub (iA x) (iA l)) (by decide));refine call_list_range (o.hand rfl) Q H j D fun k F I P z m hit=>?_;obtain⟨i,f,y,C⟩:=(ou (s':={ s with heap:=k,toks:=F }) R.st (Th hit) B m (bG _) z).ex;exact⟨i,ar.lift R f y,g.tu y,C⟩
  ·exact am c
theorem yK{B:List V->IM}(h:cO A Wr U Wp t o)
  (k:∀g w vs xs W d s,ar A W Wp Wr U d s->av (aC A) g Wp w W s->W.Rs vs xs->∀p n,B vs d=some (p,n)->
   al (MD) A (call (.type T) xs) (fun x s1=>∃b,ar A b Wp Wr U n s1/\av (aC A) W Wp s b s1/\ll A Wr U Wp b n w p.2 x s1/\nI A Wr U Wp g w b n p.2 x s1) aT s):
  ee A Wr U Wp (dJ pos (.type T) [] (cr pos t) []) (dY o>>=B):=fun W d s R p n e=>by
 refine bA e fun vs j l m=>iI (wN (lG h W d s R vs j l) fun a s1 u=>?_);refine u _ fun b r f i=>?_;refine⟨qd,?_⟩;refine aa ?_ i.1;exact wN (k W s vs a.pos b j s1 r f i.2 p n m) fun x q u=>oE u fun v c=>⟨v,c.1,f.trans c.2.1,c.2.2.1,c.2.2.2⟩
set_option tactic.hygienic true
theorem Pk(f:aW false n A)(h:cO A Wr U Wp i [(false,m)]):ee A Wr U Wp (dJ pos (.type "range") [] (cr pos i) []) (j5 m):=by
 have e:j5 m=(dY [(false,m)]>>=fun vs=>match vs with|[u]=>M.lift (Gk u)|_=>M.fail):=by refine aa (aa ?_ (M.assoc ..)) rL;rfl
 refine aa ?_ e;refine yK h fun l w vs xs W o s R T V p q g=>?_;rcases vs with _|⟨u,_|⟨Y,Y⟩⟩
 ·exact am g
 ·obtain⟨P,rfl⟩:=j7 g;refine(eA V) _ fun z v c z1 H=>?_;obtain rfl:=c;obtain rfl:=ej H;refine ax P fun k h P=>bq P fun j P=>?_;clear V g;cases P;obtain⟨t,rfl⟩:W.R _ z:=mc h▸z1;obtain⟨b,a⟩:=R.st.keeps (s':={ s with heap:=s.heap.push { cls:=.type "range",data:=.fields #[.int 0 s.toks,.int k t,.int 1 _] },toks:=s.toks+1+1 }) (co _ _) R.st.gens rfl;refine call_range_1 ?_;obtain⟨d,H⟩:=Gn f (T.tu a) (by decide) (by decide) j.2 (ar.lift R b a) (IW s.heap 0 k 1 _ _ _) (nB (by decide) (iA j.1));exact⟨W,(ar.lift R b a),a.up,d,H⟩
 ·exact am g
set_option tactic.hygienic true
theorem Pl(o:aW false n A)(h:cO A Wr U Wp q [(false,m),(false,x)]):ee A Wr U Wp (dJ pos (.type "range") [] (cr pos q) []) (p7 m x):=by
 have e:p7 m x=(dY [(false,m),(false,x)]>>=fun vs=>match vs with|[u,v]=>M.lift (Gm u v)|_=>M.fail):=by refine aa (aa ?_ (M.assoc ..)) xn;refine congrArg (fun k=>m>>=k) (funext fun u=>?_);refine aa ?_ (M.assoc ..);rfl
 refine aa ?_ e;refine yK h fun w F vs xs W I s R T V p Q g=>?_;rcases vs with _|⟨u,_|⟨v,_|⟨Y,Y⟩⟩⟩
 ·exact am g
 ·exact am g
 ·obtain⟨P,rfl⟩:=j7 g;refine(eA V) _ fun z y c z1 H=>?_;obtain rfl:=c;refine(eA H) _ fun r B d D C=>?_;obtain rfl:=d;refine ax P fun i h P=>ax P fun k f P=>bq P fun j P=>?_;clear V g;cases P;obtain rfl:=ej C;obtain⟨t,rfl⟩:W.R _ z:=mc h▸z1;obtain⟨t',rfl⟩:W.R _ r:=mc f▸D;obtain⟨b,a⟩:=R.st.keeps (s':={ s with heap:=s.heap.push { cls:=.type "range",data:=.fields #[.int i t,.int k t',.int 1 s.toks] },toks:=s.toks+1 }) (co _ _) R.st.gens rfl;refine call_range_2 ?_;obtain⟨l,H⟩:=Gn o (T.tu a) j.1 j.2.1 j.2.2.2 (ar.lift R b a) (IW s.heap i k 1 _ _ _) (nB (by decide) (iA j.2.2.1));exact⟨W,(ar.lift R b a),a.up,l,H⟩
 ·exact am g
end
theorem Il{S:ai}(Inv:Nat->ak->Prop)
  (T:∀k s,Inv k s->al (bO prog w) A.in1 (gc (.ref I)) (fun o s1=>match o with
   |none=>R (.ok (.ret q)) s1
   |some v=>al (bO prog w) A.in1 (ni S (·.push v)) (fun Y a=>∃m,m<k/\Inv m a) (fun e s'=>R (.error e) s') s1) (fun e s'=>R (.error e) s') s):
  ∀(k:Nat)(s:ak),Inv k s->dK (bO prog w) A (.builtin "list.extend.loop" ⟨[.ref S,.ref I,q],[]⟩) R s:=by
 intro k;induction k using Nat.strongRecOn with
 |ind k d=>
  intro s h;refine fN F.entry_extend_loop (aa ?_ (qX F.plain_extend_loop _));refine aq (bM (T k s h) (fun o s1 b=>?_) fun Y Y x=>x);cases o with
  |none=>exact ay b
  |some v=>refine aq (bM b (fun Y a H=>?_) fun Y Y x=>x);exact aH H fun m c C=>ay ⟨gt F.plain_extend_loop _,d m c a C⟩
structure nJ(T:String):Prop where
 len:fy (.type T) "__len__" = pure none
 hint:fy (.type T) "__length_hint__" = pure none
 nl:(bQ T==bQ "list")=false
 nt:(bQ T==bQ "tuple")=false
theorem Ij{S:ai}(N:nJ T)(g:S≠I)(q:s.TypeIs (.ref I) T)(i:∀(Q:ae->ak->Prop)(E:ae->ak->Prop),Q (.ref I) s->al (bO prog w) A.in1 (io (.ref I)) Q E s)
  (l:s.heap.get? S=some { cls:=.type "list",data:=.seq #[] C })
  (h:∀d a,(∀b o,b≠S->s.heap.get? b=some o->d.get? b=some o)->d.get? S=some { cls:=.type "list",data:=.seq #[] a }->dK (bO prog w) A (.builtin "list.extend.loop" ⟨[.ref S,.ref I,k],[]⟩) R { s with heap:=d }):
  al (bO prog w) A.in1 (Builtin.List.listExtendWith (.ref S) (.ref I) k)
   (fun fin s'=>match fin with|.done f=>R (.ok f) s'|.again a=>a.quiet=true/\dK (bO prog w) A a R s') (fun e s'=>R (.error e) s') s:=by
 refine aq (Ig q ?_);refine aa ?_ (by simp[Ix,g]:Ix _ _=false);refine aa ?_ N.nl;refine aa ?_ N.nt;refine aq (i _ _ ?_);refine aq (eD ?_);refine aq (tG q N.len ?_);refine aq (tG q N.hint ?_);refine ay (aq (nv ?_));refine aq (?_:al _ A.in1 _ _ _ _);refine aq (mi l rfl ?_);have c:=eE (hE (·.push rI)) l rfl;refine mi (hz:=by seq_fits) c rfl ?_;have H:=eE (hE (·.pop)) c rfl;have j:∀b o,b≠S->s.heap.get? b=some o->((s.heap.update S (hE (·.push rI))).update S (hE (·.pop))).get? b=some o:=
  fun b o hb e=>(fg _ _ (bB hb)).trans ((fg _ _ (bB hb)).trans e)
 exact ay ⟨gt F.plain_extend_loop _,h _ _ j H⟩
theorem Ik{E:ae->ak->Prop}(N:nJ T)(q:s.TypeIs (.ref I) T)
  (n:∀(d:bk),(∀b o,s.heap.get? b=some o->d.get? b=some o)->∀(Q:ae->ak->Prop)(E:ae->ak->Prop),Q (.ref I) { s with heap:=d }->al (bO prog w) A.in1.in1 (io (.ref I)) Q E { s with heap:=d })
  (h:∀d a,(∀b o,s.heap.get? b=some o->d.get? b=some o)->d.get? s.heap.objs.size=some { cls:=.type "list",data:=.seq #[] a }->
   dK (bO prog w) A.in1 (.builtin "list.extend.loop" ⟨[.ref s.heap.objs.size,.ref I,.none],[]⟩) (tA (fun r g=>r=.none/\Q (.ref s.heap.objs.size) g) E) { s with heap:=d }):
  al (bO prog w) A (call (.type "list") [.ref I]) Q E s:=by
 refine aH (id q) fun oI H k=>?_;have j:s.heap.objs.size≠I:=fun e=>by obtain H:=e.symm▸H;exact absurd (cG H) (jQ _)
 refine callType_codes (Q₁:=fun obj c=>obj=.ref s.heap.objs.size/\c={ s with heap:=s.heap.push { cls:=.type "list",data:=.seq #[] } }) F.called_list (F.typeCall_list_1 _) F.entry_list_init
  (code_list_new _ ⟨rfl,rfl⟩) fun obj c p=>?_
 refine TI obj c p ?_;have l:(s.heap.push { cls:=.type "list",data:=.seq #[] }).get? s.heap.objs.size=some { cls:=.type "list",data:=.seq #[] }:=bF _ rfl;refine⟨⟨_,l,rfl⟩,F.args_list_init_2 _ _,?_⟩;refine aq (aq (jG l rfl (ay ?_)));refine aq (mi l rfl ?_);have t:∀b o,b≠s.heap.objs.size->(s.heap.push { cls:=.type "list",data:=.seq #[] }).get? b=some o->((s.heap.push { cls:=.type "list",data:=.seq #[] }).update s.heap.objs.size (hE fun Y=>(#[]:Array ae))).get? b=some o:=
  fun b o hb e=>(fg _ _ (bB hb)).trans e
 have old:∀b o,s.heap.get? b=some o->b≠s.heap.objs.size:=fun b o e z=>by obtain e:=z▸e;exact absurd (cG e) (jQ _)
 have i:∀b o,s.heap.get? b=some o->((s.heap.push { cls:=.type "list",data:=.seq #[] }).update s.heap.objs.size (hE (fun Y=>(#[]:Array ae)))).get? b=some o:=
  fun b o e=>t b o (old b o e) (bX _ e)
 refine aq (k7 ?_);refine Ij (A:=A.in1) (R:=tA (fun r g=>r=.none/\Q (.ref s.heap.objs.size) g) E) N j ⟨oI,i _ _ H,k⟩ (n _ i) (eE (hE (fun Y=>(#[]:Array ae))) l rfl) fun d a m f=>?_;exact h d a (fun b o e=>m b o (old b o e) (i b o e)) f
abbrev kv(h:bk)(e it:ai)(i:Int)(a:ai)(f:Bool)(old:ae):Prop:=
 h.get? e=some { cls:=.type "enumerate",dict:=none,data:=.fields #[l6 a,.bool f,.ref it,l6 i,.none,old],slots:=#[] }
theorem MP{E:ae->ak->Prop}{i:Nat}{Q:ae->ak->Prop}
    (B:kv s.heap e it i a f old) (ha:s.heap.get? a=some oa) (T:a≠e) (hai:a≠it) (hit:s.heap.IsListIter it l i) (hl:s.heap.IsList l items) (hx:items[i]?=some x) (c:e≠it)
    (R:∀n,kv n e it ((i:Int)+1) a true old->n.IsListIter it l (i+1)->
      n.get? s.heap.objs.size=some { cls:=.type "tuple",data:=.seq #[.int i s.toks,x] }->
      (∀b o,b≠e->b≠it->s.heap.get? b=some o->n.get? b=some o)->Q (.ref s.heap.objs.size) { s with heap:=n,toks:=s.toks+1 }):
    al (bO prog w) A (Builtin.«enumerate.__next__» ⟨[.ref e],[]⟩) (fun fin s'=>∃v,fin=.done (.ret v)/\Q v s') E s:=by
  obtain⟨D,g,d,m,os⟩:=s;refine(?_:al _ _ (mM _ 2>>=_) _ _ _);refine aq (fB B rfl (x:=.ref it) rfl ?_);refine aq (VX hit hl hx fun F hit₁ h=>?_);refine(?_:al _ _ _ _ _ ⟨F,g,d,m,os⟩);refine aq (fB ((h.2 e c).trans B) rfl (x:=l6 i) rfl ?_);refine aq (fB ((h.2 e c).trans B) rfl (x:=.none) rfl ?_);refine(?_:al _ _ (setField _ 3 _>>=_) _ _ ⟨F,g,d,m+1,os⟩);refine aq (Ic ((h.2 e c).trans B) (by simp) fun h₂ he₂ t=>?_);refine aq (Ic he₂ (by simp) fun j he₃ H=>?_);replace H:gz e h₂ j:=H;refine aq (H7 ?_);have p:kv (j.push { cls:=.type "tuple",data:=.seq #[.int i m,x] }) e it _ a f old:=bX _ he₃;have W:(j.push { cls:=.type "tuple",data:=.seq #[.int i m,x] }).get? a=some oa:=bX _ ((H.2 a T).trans ((t.2 a T).trans ((h.2 a hai).trans ha)));generalize y:j.push { cls:=.type "tuple",data:=.seq #[.int i m,x] }=k at p W;have I:j.objs.size=D.objs.size:=aa (aa (aa rfl h.1) t.1) H.1;obtain hel:=cG B;have ht₄:k.get? D.objs.size=some { cls:=.type "tuple",data:=.seq #[.int i m,x] }:=by refine aU (aU ?_ I) y;exact bF _ rfl
  have hk₄:∀b o,b≠e->b≠it->D.get? b=some o->k.get? b=some o:=fun b o q z hb=>by refine aU ?_ y;exact bX _ (H.extBut b o q (t.extBut b o q (h.extBut b o z hb)))
  have hit₄:k.IsListIter it l (i+1):=by refine aU ?_ y;refine aH ((hit₁.extBut t.extBut (bB c)).extBut H.extBut (bB c)) fun o ho r=>?_;exact⟨o,bX _ ho,r⟩
  refine(?_:al _ _ (Iz (.ref e)>>=_) _ _ ⟨k,g,d,m+1,os⟩);refine aa ?_ I;clear y he₃ H he₂ t h hit₁ I j h₂ F;refine aq ?_;unfold Iz;refine aq (fB p rfl (x:=l6 a) rfl ?_);refine(?_:al _ _ (loadIfAlive ((a:Int)).toNat>>=_) _ _ _);refine aa ?_ (rn ..);refine aq (kdx_alive W ?_);simp only[Option.isNone_some,iY,if_false];refine aq (fB p rfl (x:=.bool f) rfl ?_);clear B;cases f with
  |true=>
    have:(nN true != nN true)=false:=by decide
    simp only[this,iY,if_false];refine ay ?_;simp only[iY,if_false];exact ay ⟨_,rfl,R k p hit₄ ht₄ hk₄⟩
  |false=>
    have:(nN false != nN true)=true:=by decide
    simp only[this,if_true];refine aq (Ic p (by simp) fun P C u=>?_);replace u:gz e k P:=u;replace C:kv P e it ((i:Int)+1) a true old:=C;refine ay ?_;simp only[iY,if_false];refine ay ⟨_,rfl,R P C (hit₄.extBut u.extBut (bB c)) (u.extBut _ _ (gi hel) ht₄) fun b o q z hb=>u.extBut b o q (hk₄ b o q z hb)⟩
theorem MO{E:ae->ak->Prop}{i:Nat}
    (B:kv s.heap e it i a f old) (h:s.heap.get? a=some u) (j:a≠e) (t:a≠it) (hit:s.heap.IsListIter it l i) (m:s.heap.IsList l items) (p:items[i]?=some x) (n:e≠it)
    (g:∀d,kv d e it ((i:Int)+1) a true old->d.IsListIter it l (i+1)->
      d.get? s.heap.objs.size=some { cls:=.type "tuple",data:=.seq #[.int i s.toks,x] }->
      (∀b o,b≠e->b≠it->s.heap.get? b=some o->d.get? b=some o)->Q (some (.ref s.heap.objs.size)) { s with heap:=d,toks:=s.toks+1 }):
    al (bO prog w) A (gc (.ref e)) Q E s:=by
  exact aq (tC (oQ ⟨_,B,rfl⟩ F.slot_enumerate_next
    (km F.slot_enumerate_next ⟨_,B,rfl⟩ F.entry_enumerate_next
      (MP B h j t hit m p n fun d a b c k=>ay (g d a b c k)) (F.args_enumerate_next_1 _))))
theorem MN{E:ae->ak->Prop}{i:Nat}(u:A.handled=none)
  (B:kv s.heap e it i a f old) (hit:s.heap.IsListIter it l i) (c:s.heap.IsList l items) (b:items[i]?=none)
  (g:∀d,jL it s.heap d->Q none { s with heap:=d }):al (bO prog w) A (gc (.ref e)) Q E s:=by
 refine aq (tC (oQ ⟨_,B,rfl⟩ F.slot_enumerate_next
  (km F.slot_enumerate_next ⟨_,B,rfl⟩ F.entry_enumerate_next ?_ (F.args_enumerate_next_1 _))))
 refine(?_:al _ _ (mM _ 2>>=_) _ _ _);refine aq (fB B rfl (x:=.ref it) rfl ?_);refine aq (wpAny_nextOf_list_end u hit c b fun d x h t=>?_);refine aH t fun o p q=>aq (tF ⟨o,p,q⟩ yI ?_);exact ay (g _ h)
theorem Q1:nJ "enumerate" := ⟨by kernel_rfl,by kernel_rfl,by decide,by rfl⟩
theorem VI(R:ar A W Wp Wr U k s)(f:∀b∈X,aV W Wp b s.heap/\w.heap.get? b=none/\∃o,s.heap.get? b=some o/\∀es n,o.data≠.dict es n)(T:av (aC A) r (X++t) w W s)
  (j:∀b q,b∉X->s.heap.get? b=some q->s'.heap.get? b=some q) (y:s'.gens=s.gens) (C:s'.os=s.os):ar A W Wp Wr U k s'/\av (aC A) r t w W s':=by
 have p:aE W k.st s':=R.st.keepsOn (fun b o z e=>j b o (fun q=>by
  rcases z with z|z
  ·exact am (((f b q).1.F)▸z)
  ·exact(f b q).1.O z) e) (y.trans R.st.gens)
 refine⟨⟨p,R.act.mono (fr:=[]) (fun Y Y e=>e) (fun Y Y e=>e) fun a c o e=>⟨o,j a o ((fun a c z=>(f a z).1.act c) a c) e,.inl rfl⟩,R.actF,R.actO,fun a c=>?_,?_⟩,⟨T.F,T.ρ,T.newF,T.newρ,fun a o e D F=>?_,fun a o e=>?_,C.trans T.os⟩⟩
 ·obtain⟨o,e⟩:=R.actS a c;exact⟨o,j a o ((fun a c z=>(f a z).1.act c) a c) e⟩
 ·refine aH R.stk fun l e h=>⟨l,e,fun u B=>?_⟩;refine j8 (h u B) fun I b P v x o H es m i=>?_;have d:b∉X:=fun z=>by refine lX (f b z) fun Y Y o2 q1 q2=>?_;cases (H▸q1);exact absurd i (q2 es m)
  exact⟨I,b,P,v,x,o,j b o d H,es,m,i⟩
 ·have d:a∉X:=fun z=>by obtain e:=((f a z).2.1)▸e;exact am e
  exact oE (T.pres a o e D (by simp[d,F])) fun Q g=>⟨Q,j a Q d g.1,g.2⟩
 ·obtain d:=fun z=>by obtain e:=((f a z).2.1)▸e;exact am e
  refine oE (T.alive a o e) fun Q g=>?_;exact⟨Q,j a Q d g⟩
theorem F3{E:ae->ak->Prop}(R:ar A W Wp Wr U m s)(O:aV W Wp D s.heap)(h:gg W acc s.heap D)(j:W.R v x)(f:acc.length<sizeMax)
  (q:∀s',ar A W Wp Wr U m s'->av (aC A) W [D] s W s'->aV W Wp D s'.heap->gg W (acc++[v]) s'.heap D->(∀b o,b≠D->s.heap.get? b=some o->s'.heap.get? b=some o)->Q () s'):al (MD) A' (ni D (·.push x)) Q E s:=by
 refine vu h fun p items k a b=>?_;have I:=by have:=VRs.length b;simpa using this
 have H:=d7;have c:=eE (hE (·.push x)) a rfl;obtain⟨g,i⟩:∃g,hE (·.push x) (bL items k)=bL (items.push x) g:=⟨_,rfl⟩;refine mi a rfl ?_ (fh (aa (tY f H) I)) (by refine aa (aa ?_ I) (Array.size_push ..);exact mz (bb f H));refine oA (kc (fr:=aC A) (k:=s.toks) R.st O (ku ..) ⟨_,c⟩) fun T e=>?_;have l:=sY (J:=D) R O O (fun b d=>by clear h;rcases d with rfl|rfl<;>exact⟨_,a,fun es n z=>by contradiction⟩) T e.two;obtain c:=i▸c;refine q _ l e (O.step e) ⟨by refine aa ?_ cP;exact f,_,g,c,?_⟩ fun b o d=>(fg _ _ (bB d)).trans;refine aa ?_ wy;exact VRs.append b (VRs.one j)
def mq(A:a8)(Wr:List aL)(U:bj)(Wp:List ai)(σ:S)(W0:Wd)(s0:ak)(I J D l:ai)(items:Array ae)(m:Nat)(all:List V)(k:Nat)(s':ak):Prop:=∀C:Prop,(∀W' j acc rest old,ar A W' Wp Wr U σ s'->av (aC A) W0 ([I,J]++D::Wp) s0 W' s'->aV W' Wp I s'.heap->aV W' Wp J s'.heap->aV W' Wp D s'.heap->gg W' acc s'.heap D->s'.heap.IsListIter J l j->(IsEnum s'.heap I J j old∨∃a f o,kv s'.heap I J j a f old/\W'.F a=some o)->W'.F l=some (bL items m)->W'.Rs rest (items.toList.drop j)->acc++gM j rest=all->acc.length+rest.length<=sizeMax->k=rest.length->C)->C
theorem mq.mk{y:a8}{B:List aL}{F:bj}{G:List ai}{L:Wd}{N P Q R:ai}{T:Array ae}{W:List V}{X:Nat}{s':ak}:∀W' j acc rest old,ar y W' G B F H s'->av (aC y) L ([N,P]++Q::G) w W' s'->aV W' G N s'.heap->aV W' G P s'.heap->aV W' G Q s'.heap->gg W' acc s'.heap Q->s'.heap.IsListIter P R j->(IsEnum s'.heap N P j old∨∃a f o,kv s'.heap N P j a f old/\W'.F a=some o)->W'.F R=some (bL T Xn)->W'.Rs rest (T.toList.drop j)->acc++gM j rest=W->acc.length+rest.length<=sizeMax->X=rest.length->mq y B F G H L w N P Q R T Xn W X s':=fun d z q x3 x4 r t u v x x10 e g i c h n p C X=>X d z q x3 x4 r t u v x x10 e g i c h n p
theorem MQ(hA:A'.handled=none){Q:ak->Prop}{R:pA->ak->Prop}(hIJ:I≠J)(P:I≠D)(t:J≠D)(h0I:w.heap.get? I=none)(h0J:w.heap.get? J=none)(h:mq A Wr U Wp σ F w I J D l items m all k s)
  (fin:∀W' s',ar A W' Wp Wr U σ s'->av (aC A) F (D::Wp) w W' s'->aV W' Wp D s'.heap->gg W' all s'.heap D->R (.ok (.ret .none)) s'):
  al (MD) A' (gc (.ref I)) (fun o s1=>match o with
   |none=>R (.ok (.ret .none)) s1
   |some v=>al (MD) A' (ni D (·.push v)) (fun Y r=>∃i,i<k/\mq A Wr U Wp σ F w I J D l items m all i r) (fun e s'=>R (.error e) s') s1) (fun e s'=>R (.error e) s') s:=by
 refine h _ fun W' j acc rest old R0 T u C H WY hit hen hF hr W9 Wx ez1=>?_;obtain rfl:=ez1;have S:=R0.st;have ndI:∃o,s.heap.get? I=some o/\∀es n,o.data≠.dict es n:=by
  rcases hen with B|⟨a,f,o,B,_⟩
  ·exact⟨_,B,fun es n z=>by trivial⟩
  ·exact⟨_,B,fun es n z=>by trivial⟩
 have hl:s.heap.IsList l items:=⟨_,S.frozen _ _ hF,rfl,m,rfl⟩;have ndJ:∃o,s.heap.get? J=some o/\∀es n,o.data≠.dict es n:=by exact cw hit fun o b1 b2 b3=>⟨o,b1,fun es n z=>by obtain z:=b3▸z;trivial⟩
 clear h;cases rest with
 |nil=>
  have g:items[j]?=none:=by refine aU ?_ (fE);exact fX (List.drop_eq_nil_iff.mp (ej hr))
  obtain hacc':=by simpa[gM] using W9
  have done:∀d,jL J s.heap d->R _ { s with heap:=d }:=fun d g=>by
   obtain⟨R',T'⟩:=VI (s':={ s with heap:=d }) R0 (fun b W=>by
    simp only[dP,cq,or_false] at W;clear hIJ P t hit hen g;rcases W with rfl|rfl
    ·trivial
    ·trivial) T (fun b q W=>g b q fun z=>W (by simp[z])) rfl rfl
   obtain⟨oD,hoD⟩:=H.there;exact fin W' _ R' T' ⟨H.F,H.O,H.act,oD,(fun o=>g D o (bB t)) _ hoD⟩ (aU (nO.cell WY fun o=>g D o (bB t)) hacc')
  rcases hen with B|⟨a,f,o,B,c⟩
  ·exact bM (V0 (E:=aT) hA B hit hl g done) (fun Y Y q=>q) fun Y Y f=>f.elim
  ·exact bM (MN (E:=aT) hA B hit hl g done) (fun Y Y q=>q) fun Y Y f=>f.elim
 |cons v q=>
  refine(eA hr) _ fun x ys e1 e2 e3=>?_;have g:items[j]?=some x:=by rw[<- fE];exact((iM e1).1)
  have step:∀(d:bk)(old':ae),(IsEnum d I J ((j:Int)+1) old'∨(∃a f,kv d I J ((j:Int)+1) a f old'/\(a=s.heap.objs.size∨∃o,W'.F a=some o)))->d.IsListIter J l (j+1)->d.get? s.heap.objs.size=some { cls:=.type "tuple",data:=.seq #[.int j s.toks,x] }->
    (∀b o,b≠I->b≠J->s.heap.get? b=some o->d.get? b=some o)->
    al (MD) A' (ni D (·.push (.ref s.heap.objs.size))) (fun Y r=>∃i,i<(v::q).length/\mq A Wr U Wp σ F w I J D l items m all i r) (fun e=>R (.error e)) { s with heap:=d,toks:=s.toks+1 }:=fun d old' k1 k2 k3 k5=>by
   have hI':∃o,d.get? I=some o:=by rcases k1 with k1|⟨_,_,k1,_⟩<;>exact⟨_,k1⟩
   have h0:s.heap.get? s.heap.objs.size=none:=bG _;refine oA (zD (fr:=aC A) (k:=s.toks+1) S u C k5 hI' (jq k2)) fun S1 T1=>?_;have hFn:W'.F s.heap.objs.size=none:=by
    cases z:W'.F s.heap.objs.size with
    |none=>rfl
    |some o=>have:=S.frozen _ _ z;obtain this:=h0▸this;exact am this
   have hm:=Wd.add_keep (o:=dS #[.int j s.toks,x] 0) hFn;have hO:¬ W'.owns s.heap.objs.size:=fun⟨p,hp,z⟩=>by
    refine ft (S.there p hp) fun q1 o2 z2=>?_;refine oE q1 fun o1 z1=>?_;rcases z with z|z
    ·obtain z1:=z.symm▸z1;obtain z1:=h0▸z1;exact am z1
    ·obtain z2:=z.symm▸z2;obtain z2:=h0▸z2;exact am z2
   have S2:=aE.addF S1 k3 hFn hO;have y:=av.addF (o:=dS #[.int j s.toks,x] 0) T1 h0 hFn;have R2:=sY R0 u C (fun b W=>by
    clear hIJ P t h0I h0J T u C hit hen k1 k2 k5 hI' T1;rcases W with rfl|rfl
    ·exact ndI
    ·exact ndJ) S2 y
   have e2':(W'.add s.heap.objs.size (dS #[.int j s.toks,x] 0)).R v x:=VR.mono hm (fun Y Y e=>e) _ _ e2;have hv:(W'.add s.heap.objs.size (dS #[.int j s.toks,x] 0)).R (.tup [.int j,v]) (.ref s.heap.objs.size):=by refine(?_:VR _ _ (.tup [.int j,v]) _);exact⟨by simp[sizeMax],_,_,_,rfl,Wd.add_self,VRs.cons (gI _ _) (VRs.one e2')⟩
   have OD2:=H.step y;have OI2:=u.step y;have OJ2:=C.step y;have hacc2:=nO.step WY (H.on (acts':=[I,J]) (by simp[bB P,bB t])) y;simp only[iD] at Wx;refine F3 (s:={ s with heap:=d,toks:=s.toks+1 }) R2 OD2 hacc2 hv (by exact dW (hw ..) Wx) fun s3 R3 WE OD3 hacc3 hk3=>?_;have T03:av (aC A) F ([I,J]++D::Wp) w _ s3:=(T.trans (y.mono (by simp))).trans (WE.mono (by simp));have Xj:∀o,d.get? I=some o->s3.heap.get? I=some o:=fun o e=>hk3 I o P e;refine⟨q.length,by simp,(.mk _ (j+1) (acc++[.tup [.int j,v]]) q old' R3 T03 (OI2.step WE) (OJ2.step WE) OD3 hacc3 (?_) (?_) (hm _ _ hF) (?_) (?_) (?_) rfl)⟩
   ·refine cw k2 fun o b1 b2 b3=>?_;exact⟨o,hk3 J o t b1,b2,b3⟩
   ·have hj:((j+1:Nat):Int)=(j:Int)+1:=by push_cast;rfl
    refine aa ?_ hj;clear hIJ P t h0I h0J R0 T u C H WY hit hen hF S hl ndI ndJ hr W9 e1 e2 e3 g k2 k3 k5 hI' S1 T1 h0 hFn hO S2 y R2 e2' hv OD2 OI2 OJ2 hacc2 R3 WE OD3 hacc3 hk3 T03 hj;rcases k1 with k1|⟨a,f,k1,ka⟩
    ·exact .inl (Xj _ k1)
    ·refine .inr ⟨a,f,?_⟩;rcases ka with rfl|⟨o,ka⟩
     ·exact⟨_,Xj _ k1,Wd.add_self⟩
     ·exact⟨o,Xj _ k1,hm _ _ ka⟩
   ·refine aa ?_ ((iM e1).2);exact VRs.mono hm (fun Y Y e=>e) _ _ e3
   ·refine aa ?_ (iB ..);exact W9
   ·simp only[cP,iD,wT];exact bb (dU (mB ..)) Wx
  clear P t h0I h0J R0 T H WY hF ndI ndJ hr W9 e1 e2 e3;rcases hen with B|⟨a,f,o,B,c⟩
  ·refine bM (V7 (E:=aT) (Q:=fun o s1=>o=some (.ref s.heap.objs.size)/\al (MD) A' (ni D (·.push (.ref s.heap.objs.size))) (fun Y r=>∃i,i<(v::q).length/\mq A Wr U Wp σ F w I J D l items m all i r) (fun e s'=>R (.error e) s') s1) B hit hl g hIJ fun d k1 k2 k3 k4 k5=>⟨rfl,step d x (.inr ⟨s.heap.objs.size,false,k1,.inl rfl⟩) k2 k3 k5⟩) (fun o s1 hh=>?_) fun Y Y f=>f.elim;refine GB o hh ?_;try clear hh;intro hq
   exact hq
  ·have hae:a≠I:=fun z=>by obtain c:=z▸c;obtain c:=u.F▸c;exact am c
   have hai:a≠J:=fun z=>by obtain c:=z▸c;obtain c:=C.F▸c;exact am c
   refine bM (MO (E:=aT) (Q:=fun o s1=>o=some (.ref s.heap.objs.size)/\al (MD) A' (ni D (·.push (.ref s.heap.objs.size))) (fun Y r=>∃i,i<(v::q).length/\mq A Wr U Wp σ F w I J D l items m all i r) (fun e s'=>R (.error e) s') s1) B (S.frozen _ _ c) hae hai hit hl g hIJ fun d k1 k2 k3 k5=>⟨rfl,step d old (.inr ⟨a,true,k1,.inr ⟨o,c⟩⟩) k2 k3 k5⟩) (fun o s1 hh=>?_) fun Y Y f=>f.elim;refine GB o hh ?_;try clear hh;intro hq
   exact hq
section
theorem ii(R:ar A W Wp Wr U b s)(h:s.heap.get? a=none):W.F a=none/\¬ W.owns a/\a∉Wp:=by
 refine⟨?_,fun⟨q,r,w⟩=>?_,fun m=>?_⟩
 ·cases w:W.F a with
  |none=>rfl
  |some o=>have:=R.st.frozen _ _ w;exact am (h▸this)
 ·refine ft (R.st.there q r) fun t y P=>oE t fun n I=>?_;rcases w with rfl|rfl
  ·exact am (h▸I)
  ·exact am (h▸P)
 ·obtain⟨o,p⟩:=R.actS a m;exact am (h▸p)
theorem DP(R:ar A W Wp Wr U f s)(T:av (aC A) b (D::Wp) w W s)(O:aV W Wp D s.heap)(h:gg W all s.heap D)(F:w.heap.get? D=none):
  ∃v,ar A v Wp Wr U f s/\av (aC A) b Wp w v s/\v.R (.lst all) (.ref D):=by
 have d:av _ b Wp w W s:=⟨T.F,T.ρ,T.newF,T.newρ,fun a o e g k=>T.pres a o e g (by rw[dP,not_or];exact⟨(fun z=>by exact am (F▸(z▸e))),k⟩),T.alive,T.os⟩
 exact ju (yt (own:=false) R d O h F rfl) fun Q c p r Y=>⟨Q,c,p,r⟩
set_option tactic.hygienic true
theorem Pj(hA:aW false n A)(h:cO A Wr U Wp ts [(false,m)]):ee A Wr U Wp (dJ pos (.type "enumerate") [] (cr pos ts) []) (jm m):=by
 have e:jm m=(dY [(false,m)]>>=fun vs=>match vs with|[u]=>M.lift (C9 u)|_=>M.fail):=by refine aa (aa ?_ (M.assoc ..)) rL;rfl
 refine aa ?_ e;refine yK h fun j w vs xs W σ s R T V p σ' g=>?_;rcases vs with _|⟨u,_|⟨Y,Y⟩⟩
 ·exact am g
 ·refine(eA V) _ fun x1 r1 ez1 z1 H=>?_;obtain rfl:=ez1;obtain rfl:=ej H;obtain⟨e3,q5⟩:=j7 g;clear g;subst q5;obtain⟨us,P⟩:=Option.map_eq_some_iff.mp e3;clear V;cases P.2;obtain⟨C,l,items,k,rfl,f,r⟩:W.R _ x1:=kZ P.1▸z1;refine call_enumerate_list ⟨_,R.st.frozen _ _ f,rfl,k,rfl⟩ fun d k1 k2 k3 k4=>oA (R.st.keeps (fr:=aC A) (s':={ s with heap:=d }) k4 R.st.gens rfl) fun S' i=>?_;have a:=ar.lift R S' i;have t:s.heap.get? (s.heap.objs.size+1)=none:=tP (jP _);refine cV (ii R t) fun a1 a2 a3=>cV (ii R (bG _)) fun b1 b2 b3=>?_;have x:aV W Wp _ d:=⟨a1,a2,a3,_,k1⟩;have I:aV W Wp s.heap.objs.size d:=⟨b1,b2,b3,jq k2⟩;obtain F:=fun e=>z6 e;have B:av _ j Wp w W { s with heap:=d }:=T.tu i;refine⟨W,a,i.up,.inr ⟨_,_,T.gone t,T.gone (bG _),rfl,x,I,⟨F,l,items,k,.none,f,k1,k2,r,by simpa using C⟩,us,rfl⟩,fun all v=>?_⟩;refine bq v fun Y v=>cy v (Ik Q1 ⟨_,k1,rfl⟩ (fun H c Q E q=>H8 (c _ _ k1) q) fun H c' c z=>?_);obtain⟨S2,y⟩:=a.st.keeps (s':={ s with heap:=H }) c a.st.gens rfl;have hID:s.heap.objs.size+1≠d.objs.size:=by refine aa ?_ k3;exact fun e=>z5 rfl e
  have hJD:s.heap.objs.size≠d.objs.size:=by refine aa ?_ k3;exact fun e=>z6 e
  have T02:av _ j Wp w W { s with heap:=H }:=B.tu y;have hInv:mq A Wr U Wp σ' j w _ s.heap.objs.size d.objs.size l items k (gM 0 us) us.length { s with heap:=H }:=
   (.mk W 0 [] us .none (ar.lift a S2 y) (T02.mono fun b W8=>by simp[W8]) (x.step y) (I.step y) ⟨((ii a (bG _)).1),((ii a (bG _)).2.1),((ii a (bG _)).2.2),_,z⟩ ⟨by simp,#[],c',z,by rfl⟩ (by obtain⟨o,D⟩:=k2;exact⟨o,c _ _ D.1,D.2.1,D.2.2⟩) (.inl (c _ _ k1)) f r rfl (by simpa using C) rfl)
  refine Il _ (fun kk s3 hI3=>?_) _ _ hInv;refine MQ (A':=A.in1.in1) (Q:=fun Y=>True) (hA.hand rfl) (bB F) hID hJD (T.gone t) (T.gone (bG _)) hI3 fun W4 s4 R4 T4 O4 WY=>⟨rfl,?_⟩;exact DP R4 T4 O4 WY (B.gone (bG _))
 ·exact am g
theorem Nj(h:ee A Wr U Wp t it):aK A Wr U Wp (dJ pos (.type "list") [] (cr pos [(false,t)]) []) (kD it):=fun W i s R v n e=>by refine bA e fun p k f g=>?_;obtain⟨P,w⟩:=j7 g;clear e g;subst w;refine fw v (Option.map_eq_some_iff.mp P) fun all d=>iI (AO ?_);refine eZ (h W i s R p n f) fun x s1 u=>nq (oE u fun j r=>er (ay (ay ⟨qd,?_⟩)));exact wN (r.2.2.2 all d) fun y o u=>cw u fun c a b q=>.mk c a b q
end
def MF:Prop:=∀C:Prop,(∀K:mv,K.In hb->yx K 186=true->(∀p∈gV,plainGet K 186 p.1=true/\ia K (.ref 186) p.1=some (some (.ref p.2))/\specialIn K (.ref p.2) "__get__" = some (some (.builtin "function.__get__"))/\takesIn K (.ref p.2)=some false/\ng K (.ref p.2)=some (.type "function")/\copiedNames.contains p.1=false)->C)->C
theorem MF.mk:∀K:mv,K.In hb->yx K 186=true->(∀p∈gV,plainGet K 186 p.1=true/\ia K (.ref 186) p.1=some (some (.ref p.2))/\specialIn K (.ref p.2) "__get__" = some (some (.builtin "function.__get__"))/\takesIn K (.ref p.2)=some false/\ng K (.ref p.2)=some (.type "function")/\copiedNames.contains p.1=false)->MF:=fun d z m x3 C k=>k d z m x3
theorem Qe(h:r9 l m)(v:m nm=none):lookIn nm l=some none:=by
 refine qy h fun es ep a H C d=>?_;delta lookIn;refine aa ?_ a;dsimp only;have p:=d nm;obtain p:=v▸p;have c:es.toList.find? (fun e=>e.key.isStr nm)=none:=by unfold nsFind findBy at p;rw[Option.map_eq_none_iff] at p;rw[<- Array.find?_toList] at p;trivial
 refine aa ?_ c;have b:es.toList.any (·.refKey)=false:=by rw[List.any_eq_false];intro e B;refine dy (H e (Array.mem_toList_iff.mp B)) fun n t h=>?_;simp[IH,h]
 refine aa ?_ b;rfl
theorem OK{F:List O}(x:MF){G:ae->ak->Prop}(S:aE W F s)(k:W.ρ[j]?=some p)(w:aD F j=.inst c fs)(d:bc c nm=some a)
  (q:Q (.ref s.heap.objs.size) { s with heap:=s.heap.push { cls:=.type "method",data:=.fields #[.ref a,.ref p.1] },toks:=s.toks+1 }):al (MD) A (lK (.ref p.1) nm true) Q G s:=by
 refine oA (EO d) fun D b=>?_;clear d;subst D;refine zs (w▸(S.objs j p k)) fun y z C v m B t u=>ju C fun e o T l n=>?_;refine x _ fun K X h g=>?_;refine E8 (g _ (vd b)) fun I P R r H f=>?_;have i:InstAt s.heap p.1 e 186 (some v):=⟨o,T,(by delta notCls;cases hd:e.data<;>first|rfl|exact absurd hd (n _)),by refine aa ?_ l;trivial⟩
 exact get_bind (X.keeps S.keepB) i (plainGet_of I).1 (findObj_fn h P R r f (Qe t (FsR.keys u (EP (vd b))))) (plainGet_of I).2
  (kl (fn_get (X.keeps S.keepB) H (handed_on rfl q)))
theorem PG (h:s.heap.get? b=some { cls:=.type "method",data:=.fields #[.ref a,x] }) (c:s.heap.get? a=some o) (H:o.data=.func f):jM (MD) A (.ref b) s:=fun Q E q=>by refine wB (kn h ?_);refine wB (kn c ?_);exact ay (q _)
theorem No(B:BO)(MM:MF)(F:BF)(hk:KS n k)(hkf:KF k)(hA:aW false n A)
  (h1:aK A Wr U Wp eo mo) (h:cO A Wr U Wp ts f) (hn:na<30) (hst:f.any (·.1)=true):
  aK A Wr U Wp (do let ov<-eo;standAt C.atName;lS o nm C pos U ov na (cr pos ts) []) (bJ k bc nm mo f):=fun W σ s R=>by
 obtain H:=vh h hn;obtain H:=hst▸H;have WU:lT false o U C pos=pure pos:=by delta lT;rfl
 refine At.then R h1 fun x u W1 σ1 s1 r T1 w=>At.standAt ?_;intro d σ' e;refine(bind_some e) _ fun st0 σ0 D e=>?_;obtain⟨q3,q4⟩:=cB (aR D);clear D;subst q3;subst q4;refine(bind_some e) _ fun m σ2 P g=>?_;dsimp only at g;obtain⟨q,q5⟩:=j7 P;clear e P;subst q5;cases m with
 |bi b=>
  have:(Meth.bi b).okArgs f=false:=by delta Meth.okArgs;refine aa ?_ hst;rfl
  exact am (this▸g)
 |fn a=>
  have hok:(Meth.fn a).okArgs f=true:=rfl;obtain g:=hok▸g;refine(EQ r.st w q) _ fun j p c fs q6 hp q7 q0 hm=>?_;clear q;subst q6;subst q7;refine(bind_some g) _ fun vs i e3 e4=>?_;obtain⟨Q,e6⟩:=nU e4;delta lS;refine aa ?_ H;refine er ?_;refine wB (OK MM r.st hp q0 hm (ay ?_));refine oA (r.st.new (fr:=aC A) (s':={ s1 with heap:=s1.heap.push { cls:=.type "method",data:=.fields #[.ref a,.ref p.1] },toks:=s1.toks+1 }) (co _ _) (bF _ rfl) (bG _) r.st.gens rfl) fun S2 l=>?_;refine iI (wN (lG h _ σ2 _ (ar.lift r S2 l) vs i e3) fun y s3 hh=>?_);refine hh _ fun W3 I t hkw=>?_;obtain T:=I.st.frozen _ _ (t.F _ _ Wd.add_self);obtain⟨fd,hfd⟩:=hkf _ _ _ _ Q;refine(F a fd hfd) _ fun of ff9 f1 f2 Y Y Y Y Y Y Y Y Y Y Y=>?_;refine⟨PG T (I.st.keepB _ _ f1) f2,?_⟩;refine aa (aa ?_ (tV ..)) hkw.1;refine kl (ks_codeAny_call_bound T ?_);refine lE (hk A hA W3 i.st s3 I.st I.stk a _ _ _ _ (VRs.cons (((l.up).trans t).R w) hkw.2) Q) fun rr s4 z=>?_;rcases rr with ex|(v2|_|_|_)<;>try exact z.elim
  ·refine z _ fun Y c' Y Y Y Y=>?_;trivial
  ·refine z _ fun W4 S4 v v4 hv4 hR4=>?_;cases hv4;refine aa ?_ e6;exact .mk W4 (ar.lift (st:=i.st) (fs:=i.fs) I S4 v) (((l.mono (by simp)).trans t).trans (v.mono (by simp))) hR4
theorem EM:lw "method_descriptor" "__get__" "method_descriptor.__get__" :=
 .of (owner := "method_descriptor") (n := "__get__") rfl rfl rfl rfl
  (by decide) rfl
theorem Qs:jg jE "method_descriptor.__get__" = some Builtin.«method_descriptor.__get__»:=nY rfl
theorem Qp(a b c:ae):mF "method_descriptor.__get__" ⟨[a,b,c],[]⟩:=by kernel_rfl
theorem HX:lw "wrapper_descriptor" "__get__" "wrapper_descriptor.__get__" :=
 .of (owner := "wrapper_descriptor") (n := "__get__") rfl rfl rfl rfl
  (by decide) rfl
theorem VM:jg jE "wrapper_descriptor.__get__" = some Builtin.«wrapper_descriptor.__get__»:=nY rfl
theorem VJ(a b c:ae):mF "wrapper_descriptor.__get__" ⟨[a,b,c],[]⟩:=by kernel_rfl
theorem Qg:fy (.type "set") "__contains__" = pure (some (.builtin "set.__contains__")):=by kernel_rfl
theorem Ca:typeOf (.builtin "set.__contains__")=pure (.type "method_descriptor"):=by kernel_rfl
theorem Qf:fy (.type "list_iterator") "__next__" = pure (some (.builtin "list_iterator.__next__")):=by kernel_rfl
theorem B9:typeOf (.builtin "list_iterator.__next__")=pure (.type "wrapper_descriptor"):=by kernel_rfl
theorem Qt:fy (.type "method_descriptor") "__get__" = pure (some (.builtin "method_descriptor.__get__")):=by kernel_rfl
theorem Qu:fy (.type "method_descriptor") "__set__" = pure none:=by kernel_rfl
theorem Qr:fy (.type "method_descriptor") "__delete__" = pure none:=by kernel_rfl
theorem VN:fy (.type "wrapper_descriptor") "__get__" = pure (some (.builtin "wrapper_descriptor.__get__")):=by kernel_rfl
theorem VO:fy (.type "wrapper_descriptor") "__set__" = pure none:=by kernel_rfl
theorem VL:fy (.type "wrapper_descriptor") "__delete__" = pure none:=by kernel_rfl
theorem Uk:iP (.type "set") (.type "set")=pure true:=by kernel_rfl
theorem P9:iP (.type "list_iterator") (.type "list_iterator")=pure true:=by kernel_rfl
theorem RH:(kfb_private% "ownerAndName") "set.__contains__" = ("set", "__contains__"):=by first|decide +kernel|kernel_rfl
theorem RG:(kfb_private% "ownerAndName") "list_iterator.__next__" = ("list_iterator", "__next__"):=by first|decide +kernel|kernel_rfl
theorem u8:lw "list_iterator" "__getattribute__" "object.__getattribute__" :=
 .of (owner := "object") (n := "__getattribute__") rfl rfl rfl rfl
  (by decide) rfl
theorem Rq:jg jE "object.__getattribute__" = some Builtin.«object.__getattribute__»:=nY rfl
theorem Uh:jg jE "set.__getattribute__" = some Builtin.«object.__getattribute__»:=
 xX (id' := "object.__getattribute__") rfl rfl (by decide +kernel) (by kernel_rfl)
theorem KA(T:String)(d o:ae):(kfb_private% "bindBuiltin") T d (some o)=((kfb_private% "checkInstance") d o>>=fun Y=>newFields T [d,o]>>=fun v=>ret v):=rfl
theorem QO(id:String):(kfb_private% "nameAndClass") (.builtin id)=pure ((Str.ofString ((kfb_private% "ownerAndName") id).2),bQ ((kfb_private% "ownerAndName") id).1):=rfl
theorem LS(d o:ae):∃X:Str×ae->bE Unit,(kfb_private% "checkInstance") d o=((kfb_private% "nameAndClass") d>>=fun p=>isInstance o p.2>>=fun b=>if(!b)=true then X p else pure ()):=⟨_,rfl⟩
theorem Cd{b:ae->ak->Prop}{i:String} (h:(kfb_private% "ownerAndName") i=(e,nm)) (k:iP (.type e) (.type e)=pure true) (x:s.TypeIs (.ref a) e) (q:P (.done (.ret (.ref s.heap.objs.size))) { s with heap:=s.heap.push { cls:=.type T,data:=.fields #[.builtin i,.ref a] } }):
  al (MD) A ((kfb_private% "bindBuiltin") T (.builtin i) (some (.ref a))) P b s:=by
 refine aa ?_ (KA ..);refine oE (LS _ _) fun X f=>aa (aa (aa ?_ h) (QO ..)) f;refine wB (nq (wB (tF x k ?_)));exact ay (wB (k8 (ay q)))
theorem Qq{E:ae->ak->Prop} (x:s.TypeIs (.ref a) "set") (q:P (.done (.ret (.ref s.heap.objs.size))) { s with heap:=s.heap.push (hX "set.__contains__" (.ref a)) }):
  al (MD) A (Builtin.«method_descriptor.__get__» ⟨[.builtin "set.__contains__",.ref a,.type "set"],[]⟩) P E s:=Cd RH Uk x q
theorem VK{E:ae->ak->Prop} (x:s.TypeIs (.ref a) "list_iterator") (q:P (.done (.ret (.ref s.heap.objs.size))) { s with heap:=s.heap.push (hX "list_iterator.__next__" (.ref a)) }):
  al (MD) A (Builtin.«wrapper_descriptor.__get__» ⟨[.builtin "list_iterator.__next__",.ref a,.type "list_iterator"],[]⟩) P E s:=Cd RG P9 x q
theorem OI{e:Array (Option ae)} (b:s.heap.get? a=some { cls:=.type "set",data:=.set es ep c,slots:=e })
  (q:R (.ok (.ret (.ref s.heap.objs.size))) { s with heap:=s.heap.push (hX "set.__contains__" (.ref a)) }):dK (MD) A (.call (.builtin "set.__getattribute__") ⟨[.ref a,.str "__contains__" m],[]⟩) R s:=by
 have x:s.TypeIs (.ref a) "set" := ⟨_,b,rfl⟩;refine pQ F.slot_set_getattribute.plain Uh (F.slot_set_getattribute.check _ _ _ _ _ _ _ _ x (F.args_set_getattribute_2 _ _) ?_);obtain⟨h,g,d,t,os⟩:=s;have x:∀C,(⟨h,g,d,C,os⟩:ak).TypeIs (.ref a) "set" := fun Y=>⟨_,b,rfl⟩;have f1:=Qg;have f2:=Ca;have j:=Qt;have f4:=Qu;have f:=Qr;unfold Builtin.«object.__getattribute__»
 repeat (any_goals (first|assumption|exact x _|wp_step|(dsimp only)))
 refine pQ EM.plain Qs (EM.check _ _ _ _ _ _ _ _ Ca (Qp _ _ _) ?_);exact Qq (x _) (ay q)
theorem Rp(a b:ae):mF "object.__getattribute__" ⟨[a,b],[]⟩:=by kernel_rfl
theorem OH{c:Array (Option ae)} (b:s.heap.get? a=some { cls:=.type "list_iterator",data:=.fields vs,slots:=c })
  (q:R (.ok (.ret (.ref s.heap.objs.size))) { s with heap:=s.heap.push (hX "list_iterator.__next__" (.ref a)) }):dK (MD) A (.call (.builtin "object.__getattribute__") ⟨[.ref a,.str "__next__" m],[]⟩) R s:=by
 have x:s.TypeIs (.ref a) "list_iterator" := ⟨_,b,rfl⟩;refine pQ u8.plain Rq (u8.check _ _ _ _ _ _ _ _ x (Rp _ _) ?_);obtain⟨h,g,d,t,os⟩:=s;have x:∀C,(⟨h,g,d,C,os⟩:ak).TypeIs (.ref a) "list_iterator" := fun Y=>⟨_,b,rfl⟩;have f1:=Qf;have f2:=B9;have j:=VN;have f4:=VO;have f:=VL;unfold Builtin.«object.__getattribute__»
 repeat (any_goals (first|assumption|exact x _|wp_step|(dsimp only)))
 refine pQ HX.plain VM (HX.check _ _ _ _ _ _ _ _ B9 (VJ _ _ _) ?_);exact VK (x _) (ay q)
theorem ON{e:ae->ak->Prop}{f:Array (Option ae)} (b:s.heap.get? a=some { cls:=.type "set",data:=.set es ep c,slots:=f })
  (q:Q (.ref s.heap.objs.size) { s with heap:=s.heap.push (hX "set.__contains__" (.ref a)),toks:=s.toks+1 }):al (MD) A (lK (.ref a) "__contains__" true) Q e s:=by
 obtain⟨h,g,d,t,os⟩:=s;have x:∀C,(⟨h,g,d,C,os⟩:ak).TypeIs (.ref a) "set" := fun Y=>⟨_,b,rfl⟩;have j:=F.slot_set_getattribute.lookup;have f4:=F.slot_set_getattribute.bind (.ref a);unfold lK getAttrBy
 repeat (any_goals (first|assumption|exact x _|wp_step))
 exact OI (s:=⟨h,g,d,t+1,os⟩) b (handed_on rfl q)
theorem OM{e:ae->ak->Prop}{c:Array (Option ae)} (b:s.heap.get? a=some { cls:=.type "list_iterator",data:=.fields vs,slots:=c })
  (q:Q (.ref s.heap.objs.size) { s with heap:=s.heap.push (hX "list_iterator.__next__" (.ref a)),toks:=s.toks+1 }):al (MD) A (lK (.ref a) "__next__" true) Q e s:=by
 obtain⟨h,g,d,t,os⟩:=s;have x:∀C,(⟨h,g,d,C,os⟩:ak).TypeIs (.ref a) "list_iterator" := fun Y=>⟨_,b,rfl⟩;have j:=u8.lookup;have f4:=u8.bind (.ref a);unfold lK getAttrBy
 repeat (any_goals (first|assumption|exact x _|wp_step))
 exact OH (s:=⟨h,g,d,t+1,os⟩) b (handed_on rfl q)
theorem M8(i:aK A Wr U Wp h B):
  aK A Wr U Wp (do let o<-h;standAt pos;let r<-holding [o] (lK o "__contains__" true);uZ w o r;pure r) (uq B):=fun W z s R=>
 At.then R i fun x u m F s1 b T l=>At.standAt (by
  intro d n e;cases u with
  |sets xs=>refine bg d n e ?_;refine zv l ?_;intro j a o k f1 f2;subst k;refine vw (f2.setOf (b.st.frozen _ _ f1) (wg j)) fun Q es ep p I P f Y=>?_;obtain⟨c,D⟩:=Q;refine cV P fun q v t=>?_;dsimp only at q v t f;clear P;subst q v t f;refine er (ON I ?_);refine wB (ww (ay ?_));obtain⟨g,y⟩:=b.st.new (s':={ s1 with heap:=s1.heap.push _,toks:=s1.toks+1 }) (o:=hX "set.__contains__" _) (co _ _) (bF _ rfl) (bG _) b.st.gens rfl;refine .mk _ (ar.lift b g y) y.up (?_);refine⟨_,_,rfl,Wd.add_self,?_⟩;obtain C:=y.R l;trivial
  |_=>exact am e)
theorem LG{E:ae->ak->Prop}(h:al (MD) A.in1 (io x) Q E s):al (MD) A (call (.builtin "iter") [x]) Q E s:=by refine PySem.Calls.call_function_entry rfl rfl kdk_entry_iter (kdk_args_iter _) (?_:al _ _ (io x>>=_) _ _ _);exact wB (bM h (fun it s' q=>ay ⟨_,rfl,q⟩) fun Y Y z=>z)
section
theorem Nh(h:cO A Wr U Wp ts [(false,m)]):
  aK A Wr U Wp (do let o<-dJ p2 (.builtin "iter") [] (cr p2 ts) [];standAt pos;let r<-holding [o] (lK o "__next__" true);uZ value o r;pure r) (ur m):=fun W f s R=>by
 intro d σ' e;refine bA e fun v i B C=>bA C fun st0 σ0 P b=>?_;obtain⟨q1,q2⟩:=cB (aR P);subst q1;subst q2;have Q:dY [(false,m)] f=some ([v],i):=by refine aa ?_ rL;refine(?_:M.bind m _ f=_);delta M.bind;refine aa ?_ B;rfl
 cases w:cM i.st v with
 |none=>obtain b:=w▸b;exact am b
 |some vs=>refine bg d σ' (w▸b) (wB (iI (wN (lG h W f s R [v] i Q) fun y s1 F=>?_)));refine F _ fun W1 a T j=>?_;refine⟨qc,?_⟩;refine aa ?_ j.1;refine(eA j.2) _ fun x ys I z1 z2=>?_;obtain rfl:=ej z2;refine aa ?_ I;refine(qj a.st z1 w) _ fun Wx l items k D H hl2=>?_;obtain rfl:=D;refine LG (nu ⟨_,H,rfl,k,rfl⟩ ?_);have q:(s1.heap.push { cls:=.type "list_iterator",data:=.fields #[.ref l,.int 0 0] }).get? s1.heap.objs.size=some { cls:=.type "list_iterator",data:=.fields #[.ref l,.int 0 0] }:=bF _ rfl;refine cV (a.st.newO (fr:=aC A) (s':={ s1 with heap:=s1.heap.push { cls:=.type "list_iterator",data:=.fields #[.ref l,.int 0 0] } }) (p:=(s1.heap.objs.size,s1.heap.objs.size)) (o:=.liter v 0) (co _ _) ⟨_,q⟩ ⟨_,q⟩ (bG _) (bG _) ⟨rfl,l,⟨_,q,rfl,rfl⟩,VR.mono (fun Y Y e=>e) oB _ _ z1⟩ a.st.gens rfl) fun n g u=>?_;obtain c:=ar.lift a n g;refine eC (er (OM q ?_));refine wB (ww (ay ?_));refine oA (c.st.new (s':={ s1 with heap:=(s1.heap.push { cls:=.type "list_iterator",data:=.fields #[.ref l,.int 0 0] }).push _,toks:=s1.toks+1 }) (co _ _) (bF _ rfl) (bG _) c.st.gens rfl) fun t z=>.mk _ (ar.lift c t z) ((T.tu g).tu z) (?_);exact⟨_,_,rfl,Wd.add_self,(z.R u)⟩
set_option tactic.hygienic true
theorem Pm(B:BO)(D:aK A Wr U Wp eo mo)(WW:(C.endLine==pos.line)=true)(hn:na<30):
  ee A Wr U Wp (do let ov<-eo;standAt C.atName;lS o "values" C pos U ov na (cr pos []) []) (sz mo):=fun W σ s R p t e=>by
 refine bA e fun v σ1 u w=>?_;refine bA w fun st0 σ0 P z=>?_;obtain⟨q5,q6⟩:=cB (aR P);clear w P;subst q5;subst q6;obtain⟨j,q7⟩:=j7 z;clear z;subst q7;refine ax j fun k hv j=>?_;obtain⟨d,q⟩:=Option.map_eq_some_iff.mp j;cases q.2;refine eZ (D W σ s R _ t u) fun x s1 hh=>eC ?_;clear D R u;refine hh _ fun W1 c T1 V1=>?_;cases qU hv;obtain⟨m,l,rfl⟩:=V1;obtain I:=c.st.objs k m l;rw[gr q.1] at I;refine cV I fun hpp i hz=>?_;obtain⟨h,n⟩:=hz;refine(yc n.2) _ fun g p1 p2 p3=>?_;obtain Wx:=by have:=congrArg rx p2;simpa using this
 have hm:s1.heap.DictAt (dv pw wd) m.1 g d.2:=⟨_,h,n.1,⟨rfl,rfl,rfl⟩,rfl,og n.2,p1,by refine aa ?_ p2;exact i⟩;have H:s1.TypeIs (.ref m.1) "dict" := ⟨_,n.1,rfl⟩;have hd:∀a,cm m.1=.ref a->∃ob,s1.heap.get? a=some ob/\ob.dict=none:=fun a e=>by cases e;exact⟨_,n.1,rfl⟩
 have hform:=vh (pos:=pos) (cO.nil (A:=A) (Wr:=Wr) (U:=U) (Wp:=Wp)) hn;have WU:lT true o U C pos=pure pos:=by unfold lT;simp[WW]
 unfold lS;refine aa ?_ hform;refine aq (eD (bM (sx (Q:=fun r s'=>r=(.builtin "dict.values",[.ref m.1])/\s'=s1) H F.plainAttrs_dict F.slot_dict_values F.type_dict_values hd ⟨rfl,rfl⟩) (fun Y Y hr=>?_) fun Y Y f=>f));refine oA hr fun hr1 hr2=>?_;refine aa (aa ?_ hr2) hr1;refine aq (mf WU ?_);refine iI (ua ⟨qc,?_⟩);have hmods:=vt B c.st l (by rw[gr q.1];rfl);refine call_meetsIn F.slot_dict_values H F.entry_dict_values (F.args_dict_values_1 _) (meets_dict_values (dv pw wd) m.1 hmods) ⟨⟨g,_,h,d.2,n.1,⟨rfl,rfl,rfl⟩,rfl,og n.2,p1,by refine aa ?_ p2;exact i⟩,?_⟩;have hV:(s1.heap.push { cls:=.type "dict_values",data:=.fields #[.ref m.1] }).get? s1.heap.objs.size=some { cls:=.type "dict_values",data:=.fields #[.ref m.1] }:=bF _ rfl;refine oA (c.st.keeps (fr:=aC A) (s':={ s1 with heap:=s1.heap.push { cls:=.type "dict_values",data:=.fields #[.ref m.1] } }) (co _ _) c.st.gens rfl) fun T y=>?_;have b:=ar.lift (st:=t.st) (fs:=t.fs) c T y;have hm2:(s1.heap.push { cls:=.type "dict_values",data:=.fields #[.ref m.1] }).DictAt (dv pw wd) m.1 g d.2:=⟨_,h,co _ _ _ _ n.1,⟨rfl,rfl,rfl⟩,rfl,og n.2,p1,by refine aa ?_ p2;exact i⟩;refine⟨W1,b,T1.trans (y.mono (by simp)),.inl ?_,fun vs hvs=>by exact am hvs⟩;refine wpAny_pyIter_values (s:={ s1 with heap:=s1.heap.push { cls:=.type "dict_values",data:=.fields #[.ref m.1] } }) ⟨_,hV,rfl,rfl⟩ hm2 ?_;refine oA (b.st.keeps (fr:=aC A) (s':={ s1 with heap:=(s1.heap.push { cls:=.type "dict_values",data:=.fields #[.ref m.1] }).push { cls:=.type "dict_valueiterator",data:=.fields #[.ref m.1,.int 0 0,.int g.length 0,.int d.2 0] } }) (co _ _) b.st.gens rfl) fun S3 WE=>?_;refine .mk _ _ rfl (bG _) (bG _) S3 WE (m0 b.st b.actS rfl) (m0 b.st b.actS rfl) ⟨rfl,m,l,?_⟩;refine aa (aU ?_ Wx) (if_pos rfl);exact⟨_,bF _ rfl,rfl,rfl⟩
end
section
variable {prog:lq}{w:ew}{A:a8}{E:ae->ak->Prop}{s:ak}{K:Type} [DecidableEq K] [BEq K] [LawfulBEq K]{knd:KeyKind prog w K}
def nD(knd:KeyKind prog w K):List K->List ae->Prop
 |[],xs=>xs=[]
 |k::r,xs=>∃x t,xs=x::t/\knd.is k x=true/\x.scannable=true/\nD knd r t
theorem nD.nil(h:nD knd [] xs):xs=[]:=h
theorem cong{h:bk}{S:K->Bool}(l:h.SetOf knd a S n)(e:∀k,S k=T k)(b:n=c):h.SetOf knd a T c:=by have:S=T:=funext e;clear e;subst this;subst b;trivial
theorem Ui{G:pA->ak->Prop}{L N:ai}{items:Array ae}(y:A.handled=none)(B:N≠L)(a:Xn≠L)(I:N≠Xn):∀(rest:List K)(i:Nat)(acc:List K)(s:ak),s.heap.IsListIter L N i->s.heap.IsList N items->nD knd rest (items.toList.drop i)->
  s.heap.SetOf knd Xn (fun k=>acc.contains k) acc.length->acc.length+rest.length+1<qN->
  (∀d u,d.SetOf knd Xn (fun k=>(dq rest acc).contains k) (dq rest acc).length->(∀b o,b≠Xn->b≠L->s.heap.get? b=some o->d.get? b=some o)->G (.ok (.ret .none)) { s with heap:=d,toks:=u })->
  dK (bO prog w) A (.builtin "set.update.loop" ⟨[.ref Xn,.ref L],[]⟩) G s:=by
 intro l00;induction l00 with
 |nil=>
  intro i acc s hit c j g hb C;refine fN F.entry_set_update_loop (aa ?_ (qX F.plain_set_update_loop _));have hx:items[i]?=none:=by refine aU ?_ (fE);exact fX (List.drop_eq_nil_iff.mp j.nil)
  refine aq (Ia y hit c hx fun d P=>?_);have hS':d.SetOf knd Xn (acc.contains) acc.length:=by exact Fg g fun o es ep t p rest=>⟨o,es,ep,t,P Xn o a p,rest⟩
  exact ay (C d s.toks hS' fun b o Y f e=>P b o f e)
 |cons k rest ih=>
  intro i acc s hit c j g hb C;refine fN F.entry_set_update_loop ?_;refine aa ?_ (qX F.plain_set_update_loop _);refine(?_:al _ A.in1 (gc (.ref L)>>=_) _ _ s);refine qy j fun x t T z hsc hr=>?_;refine oA (iM T) fun W g2=>?_;refine aq (Ib hit c (x:=x) (by rw[<- fE];exact W) fun h hi1 v=>?_);have hS1:h.SetOf knd Xn (fun k=>acc.contains k) acc.length:=by refine Fg g fun o es ep t p rest=>?_;exact⟨o,es,ep,t,(v.2 Xn a).trans p,rest⟩
  have hl1:h.IsList N items:=c.at fun o e=>(v.2 N B).trans e;refine(?_:al _ A.in1 (holding [x] (setAdd Xn x)>>=_) _ _ _);refine aq (eD ?_);unfold setAdd;refine eD ?_;refine aq (knd.pyHash (k:=k) z ?_);simp only[iD] at hb;refine wpAny_setAddHashed_of (knd:=knd) (s:={ s with heap:=h,toks:=s.toks+1 }) z hsc hS1 (by exact aJ [_,_,_] (.l (.a (.a (.a af bI) aI) aI) aA) (.l (.a aF aI) aA) tU hb) fun H m hS2=>?_;have WA:H.SetOf knd Xn (fun n=>(if acc.contains k then acc else acc++[k]).contains n) (if acc.contains k then acc else acc++[k]).length:=by
   refine cong hS2 (fun n=>?_) ?_
   ·refine(?_:(acc.contains n||decide (n=k))=_);by_cases q:acc.contains k=true
    ·refine aa ?_ (if_pos q);by_cases e:n=k
     ·refine aa (aa ?_ q) e;rfl
     ·exact aa (aa rfl (oY ..)) (decide_eq_false e)
    ·refine aa ?_ (if_neg q);by_cases e:n=k
     ·refine aa ?_ e;simp
     ·simp[e]
   ·refine(?_:(if acc.contains k=true then acc.length else acc.length+1)=_);by_cases q:acc.contains k=true
    ·exact aa (aa rfl (if_pos q)) (if_pos q)
    ·refine aa (aa ?_ (if_neg q)) (if_neg q);simp
  have Wx:(if acc.contains k then acc else acc++[k]).length<=acc.length+1:=by split<;>simp
  have hit2:H.IsListIter L N (i+1):=by refine cw hi1 fun o D r q3=>?_;exact⟨o,(m.2 L (bB a)).trans D,r,q3⟩
  refine ay ⟨gt F.plain_set_update_loop _,ih (i+1) _ _ hit2 (hl1.at fun o e=>(m.2 N I).trans e) (by refine aa ?_ g2;exact hr) WA (by exact aP [_,_,_,_] (.l af bI) (.l (.a (.a (.a aj cI) aI) aI) aY) (.l (.a (.a (.a af aA) aI) aI) aY) tU Wx hb) fun d u D r=>?_⟩;have hd:dq (k::rest) acc=dq rest (if acc.contains k then acc else acc++[k]):=by refine(?_:(if acc.contains k then dq rest acc else dq rest (acc++[k]))=_);split<;>rfl
  obtain C:=hd▸C;exact C d u D fun b o Q f e=>r b o Q f ((m.2 b Q).trans ((v.2 b f).trans e))
theorem Cv(D:A.handled=none)(W:s.heap.IsList l items)(H:nD knd ks items.toList)(hb:ks.length+1<qN)
  (h:∀(d:bk)(m:Nat),d.SetOf knd s.heap.objs.size (fun k=>(dq ks []).contains k) (dq ks []).length->(∀b o,s.heap.get? b=some o->d.get? b=some o)->Q (.ref s.heap.objs.size) { s with heap:=d,toks:=m }):
  al (bO prog w) A (call (.type "set") [.ref l]) Q E s:=by
 refine dy F.called_set.mro fun c tl hmro=>?_;have hmade:=F.called_set.made;have hsub:=F.called_set.sub;refine kl (uu ?_);refine(?_:al _ _ (callAny (.type "set") _) _ _ _);refine ay ⟨wE _ (by decide +kernel),fN F.entry_type_call ?_⟩;refine aa ?_ (Around.under_plain (weight_type_call_type "set" [.ref l] []) rfl);have h1:=F.called_set.notType;have h2:=F.called_set.canCreate;have hct:=F.typeCall_set_1 (.ref l)
 repeat (any_goals (first|assumption|wp_step))
 refine lE (code_set_new_1 (.ref l) (E:=E) (Q₁:=fun obj g=>∃a:Bool,obj=.ref s.heap.objs.size/\g={ s with heap:=s.heap.push { cls:=.type "set",dict:=none,data:=.set #[] 0 (.fresh 0 0 a) } }) fun a=>⟨a,rfl,rfl⟩) fun r g f=>?_;rcases r with e|(obj|_|_|_)<;>first|exact f|skip
 refine TL v g f ?_;try clear f;intro a
 have i:(s.heap.push { cls:=.type "set",dict:=none,data:=.set #[] 0 (.fresh 0 0 a) }).get? s.heap.objs.size=some { cls:=.type "set",dict:=none,data:=.set #[] 0 (.fresh 0 0 a) }:=bF _ rfl;have C:Shared.TypeIs { s with heap:=s.heap.push { cls:=.type "set",dict:=none,data:=.set #[] 0 (.fresh 0 0 a) } } (.ref s.heap.objs.size) "set" := ⟨_,i,rfl⟩;have hli:=F.called_set.init.lookup;have hbi:=F.called_set.init.bind (.ref s.heap.objs.size)
 repeat (any_goals (first|assumption|wp_step))
 refine lE (pQ (R:=tA (fun r z=>r=.none/\∃d m,z={ s with heap:=d,toks:=m }/\d.SetOf knd s.heap.objs.size (fun k=>(dq ks []).contains k) (dq ks []).length /\
   (∀b o,s.heap.get? b=some o->d.get? b=some o)) E) F.called_set.init.plain F.entry_set_init (check_set_init_1 C ?_)) fun r₂ z p=>?_
 rotate_left
 ·rcases r₂ with e|(r|_|_|_)<;>first|exact p|skip
  refine zv p ?_;try clear p;intro q3 d m q4 B I;subst q3;subst q4
  repeat (any_goals (first|assumption|wp_step))
  exact h _ _ B I
 refine sO (id W) fun ol x n nl t=>?_;obtain⟨ocls,odict,odata,oslots⟩:=ol;simp only at n t;subst n;subst t;have hol':(s.heap.push { cls:=.type "set",dict:=none,data:=.set #[] 0 (.fresh 0 0 a) }).get? l=some { cls:=.type "list",dict:=odict,data:=.seq items nl,slots:=oslots }:=bX _ x;have hsls:=F.sub_list_set;have hslf:=F.sub_list_frozenset;have WZ:(bQ "list" == bQ "dict")=false:=by decide
 have u:(s.heap.push { cls:=.type "set",dict:=none,data:=.set #[] 0 (.fresh 0 0 a) }).IsList l items:=⟨_,hol',rfl,nl,rfl⟩;unfold Builtin.«set.__init__» noKeywords Wf;generalize P:io=PI
 wp_walk
 subst P;refine nu u ?_;refine aq (wpAny_runValue ?_);have y:l<s.heap.objs.size:=cG x;have q:(s.heap.push { cls:=.type "set",dict:=none,data:=.set #[] 0 (.fresh 0 0 a) }).objs.size=s.heap.objs.size+1:=li ..;refine Ui (knd:=knd) (A:=A.in1.in1) (by simpa using D) (by refine aa ?_ q;exact cQ (ph y)) (by refine aa ?_ q;exact cQ (mA _)) (cQ y) ks 0 [] _ ⟨_,bF _ rfl,rfl,rfl⟩ (u.push _) (by simpa using H) ?_ (by simpa using hb) fun d m q1 q2=>?_
 ·have T:((s.heap.push { cls:=.type "set",dict:=none,data:=.set #[] 0 (.fresh 0 0 a) }).push { cls:=.type "list_iterator",data:=.fields #[.ref l,.int 0 0] }).get? s.heap.objs.size
    = some { cls:=.type "set",dict:=none,data:=.set #[] 0 (.fresh 0 0 a) }:=bX _ i
  exact cong ((JN (knd:=knd) a).setOf T (by unfold qN;exact jp [] (.l (.a (.n 0) aI) (.n 4096)) tU)) (fun Y=>rfl) rfl
 ·refine(?_:al _ _ _ _ _ _);refine ay ?_;refine(?_:al _ _ (ret rI) _ _ _);refine ay ⟨rfl,d,m,rfl,q1,fun b o e=>?_⟩;have j:=cG e;exact q2 b o (cQ j) (by refine aa ?_ q;exact cQ (ph j)) (bX _ (bX _ e))
end
section
variable {α β γ δ:Type}{fr:List ai}{A:a8}{W W':Wd}{s s' s0:ak}{st Wv:List O}{hd:Bool}{n:Nat}{Wr:List aL}{U:bj}{Wp:List ai}{σ:S}{I J D C:ai}
theorem CU{K:Type}[BEq K]:∀(r acc:List K),(dq r acc).length<=acc.length+r.length:=by
 intro p;induction p with
 |nil=>intro acc;simp[dq]
 |cons x r I=>
  intro acc;unfold dq;split
  ·have:=I acc;exact aJ [_,_,_] (.l af (.a aj aA)) (.l af (.a aj cI)) tU this
  ·have:=I (acc++[x]);simp only[cP] at this ⊢;exact aJ [_,_,_] (.l af (.a (.a aj (.a (.n 0) aI)) aA)) (.l af (.a aj cI)) tU this
end
theorem PN{W:Wd}:∀{vs:List V}{xs:List ae},W.Rs vs xs->ic vs=true->nD (strKind pw wd) (gW vs) xs:=by
 intro l00;induction l00 with
 |nil=>intro xs h _;exact ej h
 |cons v vs ih=>intro xs h e;obtain⟨x,t,rfl,a,H⟩:=h;obtain⟨f,g⟩:=Bool.and_eq_true_iff.mp e;obtain⟨z,hz⟩:=Option.isSome_iff_exists.mp f;cases ty hz;obtain⟨m,rfl⟩:=a;exact⟨_,_,rfl,Hc _ _ _ _,rfl,ih H g⟩
theorem PM{W:Wd}:∀{vs:List V}{xs:List ae},W.Rs vs xs->lO vs=true->nD (dv pw wd) (jo vs) xs:=by
 intro l00;induction l00 with
 |nil=>intro xs h _;exact ej h
 |cons v vs ih=>intro xs h e;obtain⟨x,t,rfl,a,H⟩:=h;obtain⟨f,g⟩:=Bool.and_eq_true_iff.mp e;obtain⟨z,hz⟩:=Option.isSome_iff_exists.mp f;cases mc hz;obtain⟨m,rfl⟩:=a;exact⟨_,_,rfl,intKind_is _ _ _ _,rfl,ih H g⟩
theorem Sq(i:aW false n A)(S:aE W w s)(u:W.R v x):dp A W s w RV (call (.type "set") [x]) (eI .set w v):=fun b e=>by
 refine kM S e u fun vs l items k B r p e=>?_;have q:s.heap.IsList l items:=⟨_,r,rfl,k,rfl⟩;have I:∀{m:Nat},m<=vs.length->m+1<qN:=fun h=>dW (kA (bb h B)) (by decide);have hd:∀{m k:Nat},m<=0+k->k<=vs.length->m<=sizeMax:=fun h d=>bb h (bb (dU (rB _)) (bb d B));refine cD e (fun t e=>cy e ?_) fun Y e=>bq e fun t e=>cy e ?_
 ·refine Cv (i.hand rfl) q (PN p t) (I (pd _ _)) fun d g f j=>?_;refine hG fun C kk=>?_;obtain⟨o,a⟩:=f.objOf;obtain⟨c,y⟩:=S.new (s':={ s with heap:=d,toks:=g }) j a.1 (bG _) S.gens rfl;exact kk (.mk _ c y ⟨hd (CU _ []) (pd _ _),_,o,rfl,Wd.add_self,a.2⟩)
 ·refine Cv (i.hand rfl) q (PM p t) (I (pd _ _)) fun d g f j=>?_;obtain⟨o,a⟩:=f.objOf;obtain⟨c,y⟩:=S.new (s':={ s with heap:=d,toks:=g }) j a.1 (bG _) S.gens rfl;exact .mk _ c y ⟨hd (CU _ []) (pd _ _),_,o,rfl,Wd.add_self,a.2⟩
theorem Nz:aK A Wr U Wp (dJ pos (.type "set") [] (cr pos []) []) cSet0:=fun W c s R=>by
 refine xr R (iI (ua ⟨qd,?_⟩));refine call_set_0 fun b=>?_;have l:(s.heap.push { cls:=.type "set",dict:=none,data:=.set #[] 0 _ }).get? s.heap.objs.size=some { cls:=.type "set",dict:=none,data:=.set #[] 0 (.fresh 0 0 b) }:=bF _ rfl;obtain⟨a,y,C⟩:=R.st.newO (s':={ s with heap:=s.heap.push { cls:=.type "set",dict:=none,data:=.set #[] 0 _ } }) (p:=(s.heap.objs.size,s.heap.objs.size)) (o:=.set []) (co _ _) ⟨_,l⟩ ⟨_,l⟩ (bG _) (bG _)
  ⟨rfl,by simp,_,l,by have:=JN (knd:=dv pw wd) b;trivial⟩ R.st.gens rfl
 exact⟨_,rfl,a,y,C⟩
theorem aW.le(h:aW hd n A)(k:m<=n):aW hd m A:=⟨by have:=h.depth;exact eg [_,_,_] (.l (.a af (.m 2 aj)) (.n 690)) (.l aA aj) (.l aA aj) (.l (.a af (.m 2 aA)) (.n 690)) tU this k k,by have:=h.units;omega,h.hand,h.frames⟩
theorem Nn(B:BO)(D:∀a as st,k a as st=none)
  (z:aK A Wr U Wp w Q) (h:cO A Wr U Wp ts p) (F:(C.endLine==pos.line)=true) (I:na<30):
  aK A Wr U Wp (do let ov<-w;standAt C.atName;lS o nm C pos U ov na (cr pos ts) []) (bJ k bc nm Q p):=fun W σ s R=>by
 refine At.then R z fun x u W1 σ1 s1 r T1 l=>At.standAt ?_;intro d σ' e;refine bA e fun st0 σ0 f e=>?_;obtain⟨q1,q2⟩:=cB (aR f);subst q1;subst q2;refine(bind_some e) _ fun m σ2 i g=>?_;dsimp only at g;obtain⟨q,q3⟩:=j7 i;clear f e i;clear e;subst q3;split at g
 ·rename_i n;cases m with
  |bi b=>
   have T:p.any (·.1)=false:=by delta Meth.okArgs at n;simpa using n
   obtain H:=vh h I;obtain H:=T▸H;have P:lT true o U C pos=pure pos:=by delta lT;simp[F]
   delta lS;refine aa ?_ H;refine er (DS r.st l q ?_);exact iX P (pE r h (fun vs xs W2 σ2 s2 c y t=>⟨qc,At.of_pr c _ (FP B c.st (y.R l) t) rfl⟩) d σ' g)
  |fn a=>refine(bind_some g) _ fun vs σ3 e3 v=>?_;obtain⟨j,_⟩:=nU v;rw[D] at j;exact am j
 ·exact am g
theorem yg(d:∀W a s v y,ar A W Wp Wr U a s->W.R v y->dp A W s a.st (RV) (call b.fn [y]) (eI b a.st v))(h:cO A Wr U Wp t [(false,x)]):
  aK A Wr U Wp (dJ pos b.fn [] (cr pos t) []) (c1 b x):=fun W a s R=>by
 have e:c1 b x=(dY [(false,x)]>>=fun vs=>match vs with|[u]=>(do M.lift (eI b (<-store) u))|_=>M.fail):=by refine aa (aa ?_ (M.assoc ..)) rL;rfl
 refine aa ?_ e;refine pE R h fun vs xs f i s1 r T l=>⟨Ej,?_⟩
 match vs,l with
 |[u],l=>refine(eA l) _ fun z g c z1 H=>?_;obtain rfl:=c;obtain rfl:=ej H;exact At.store (At.of_prR r (d _ _ _ _ _ r z1))
 |[],_=>exact At.fail
 |_::_::_,_=>exact At.fail
theorem Cm{A:List (M V)}:M.fail∈A->∀{a:S}{r:List V×S},hZ A a=some r->False:=by
 induction A with
 |nil=>intro h;trivial
 |cons m r I=>
  intro h a p e;refine bA e fun v i f g=>bA g fun vs F P Y=>?_;rcases List.mem_cons.mp h with rfl|h
  ·exact am f
  ·exact I h P
noncomputable def vr:List Expr->Bool
 |[]=>true
 |e::r=>if e.ctorIdx=22 then false else vr r
theorem UM(h:¬ e.ctorIdx=22):eY (e::r) U=(false,eval e U)::eY r U:=by cases e<;>first|rfl|exact absurd rfl h
theorem UN:∀{es:List Expr},vr es=true->eY es U=(ye es U).map (false,·):=by
 intro p;induction p with
 |nil=>intro _;rfl
 |cons _ _ I=>intro h;exact cD h (fun _ h=>It h) fun z h=>(UM z).trans (congrArg _ (I h))
theorem UL:∀{es:List Expr},vr es=false->M.fail∈(pxs c es Wr).map (·.ev):=by
 intro p;induction p with
 |nil=>intro h;trivial
 |cons e r I=>intro h;exact cD h (fun z _=>Expr.Starred.elim e z fun _ _=>bK) fun _ h=>bD _ (I h)
def my(A:a8)(Wr:List aL)(U:bj)(Wp:List ai)(T:String)(mk:List V->V)(t:bE ae)(c:M (List V)):Prop:=
 ∀W σ s,ar A W Wp Wr U σ s->∀vs σ',c σ=some (vs,σ')->al (MD) A t (fun x s1=>∃W1,ar A W1 Wp Wr U σ' s1/\av (aC A) W Wp s W1 s1 /\
  al (MD) A (call (.type T) [x]) (fun y s2=>∃W2,ar A W2 Wp Wr U σ' s2/\av (aC A) W Wp s W2 s2/\W2.R (mk vs) y) aT s1) aT s
structure gF:Prop where
 setB:SetB
 mm:∀{A:a8}{n:Nat}{W:Wd}{s:ak}{st:List O}{b:B1}{v:V}{x:ae},aW false n A->aE W st s->W.R v x->(b=.min∨b=.max)->dp A W s st (RV) (call b.fn [x]) (eI b st v)
 filter:∀{A:a8}{n:Nat}{Wr:List aL}{U:bj}{Wp:List ai}{pos:ef}{ts:List (Bool×bE ae)}{f x:M V},aW false n A->cO A Wr U Wp ts [(false,f),(false,x)]->my A Wr U Wp "list" .lst (dJ pos (.type "filter") [] (cr pos ts) []) (yj f x)
 tmap:∀{A:a8}{n:Nat}{k:K}{Wr:List aL}{U:bj}{Wp:List ai}{pos:ef}{ts:List (Bool×bE ae)}{f x:M V},aW false (n+8) A->KS n k->KF k->BF->cO A Wr U Wp ts [(false,f),(false,x)]->my A Wr U Wp "tuple" .tup (dJ pos (.type "map") [] (cr pos ts) []) (Ay k f x)
 setc:∀{A:a8}{n:Nat}{scope WQ:aL}{r':List aL}{U:bj}{Wp:List ai}{elt t iter:Expr}{gens WH:List fc}{p:ef}{ifs:List Expr}{WG:M V}{first:IM}{ms:List (M Bool)}{r:List (iy×IM)},aW false n A->
  (∀(AR:AccT),(∀Ww acts' D,kq A (scope::WQ::r') Ww acts' AR D (lF (.ref D) Ww (.SetComp elt gens scope p)) (fun acc=>do let v<-WG;M.lift (m4 v acc)))->rf A scope WQ r' U Wp (.SetComp elt gens scope p) t iter ifs WH AR m4 WG first ms r)->
  (∀Ww acts',aK A (scope::WQ::r') Ww acts' (eval elt Ww) WG)->aK A (WQ::r') U Wp (eval (.SetComp elt gens scope p) U) (rV scope.names.length WG first ⟨dk (scope::WQ::r') t,ms⟩ r)
structure fG(c:Ctx)(hd:Bool)(n:Nat):Prop where
 G:c.G=f5
 meth:c.meth=bc
 cls:c.cls=kG
 hdc:c.hd=hd
 k0:hd=false->∃m,KS m c.k/\KF c.k/\m+10<=n
 k1:hd=true->∀a as st,c.k a as st=none
structure GX(c:Ctx)(hd:Bool)(A:a8)(Wr:List aL)(U:bj)(Wp:List ai)(e:Expr):Prop where
 ev:aK A Wr U Wp (eval e U) (px c e Wr).ev
 test:iz A Wr U Wp (isTrue e U (eval e U)) (px c e Wr).test
 it:hd=false->ee A Wr U Wp (eval e U) (px c e Wr).it
 arg:∃t,(∀r,eY (e::r) U=((px c e Wr).arg.1,t)::eY r U)/\aK A Wr U Wp t (px c e Wr).arg.2
 meth:∀o nm,(px c e Wr).meth=some (o,nm)->∃oe ap,e=.Attribute oe nm ap/\lP oe=false/\aK A Wr U Wp (eval oe U) o
 call:∀g ms,(px c e Wr).call=some (g,ms)->∃id p Wt pos,e=.Call (.Name id p) Wt [] pos/\eM c Wr (.Name id p)=some g/\cO A Wr U Wp (eY Wt U) ((pxs c Wt Wr).map (·.arg))/\ij ((pxs c Wt Wr).map (·.arg))=some ms
 slice:∀l u k,(px c e Wr).slice=some (l,u,k)->∃el eu ek p,e=.Slice el eu ek p/\aK A Wr U Wp (AH (yf el U)) l/\aK A Wr U Wp (AH (yf eu U)) u/\aK A Wr U Wp (AH (yf ek U)) k
def GE(e:Expr):Prop:=∀c hd n A Wr U Wp,fG c hd n->aW hd n A->GX c hd A Wr U Wp e
def GL(es:List Expr):Prop:=∀e∈es,GE e
def GO(o:Option Expr):Prop:=∀e,o=some e->GE e
def GC(WH:List fc):Prop:=∀g∈WH,GE g.iter/\GL g.ifs
section
theorem GX.gen(B:BO)(h:aK A Wr U Wp (eval e U) (px c e Wr).ev)(p:iz A Wr U Wp (isTrue e U (eval e U)) (px c e Wr).test)(t:∀r,eY (e::r) U=(false,eval e U)::eY r U)
  (hit:(px c e Wr).it=iV (px c e Wr).ev) (l:(px c e Wr).arg=(false,(px c e Wr).ev)) (m:(px c e Wr).meth=none) (q:(px c e Wr).call=none) (a:(px c e Wr).slice=none):GX c hd A Wr U Wp e where
 ev:=h
 test:=p
 it:=fun Y=>by refine aa ?_ hit;exact uV B h
 arg:=by refine aa ?_ l;exact⟨eval e U,t,h⟩
 meth:=fun o nm z=>by obtain z:=m▸z;exact am z
 call:=fun o nm z=>by obtain z:=q▸z;exact am z
 slice:=fun o nm k z=>by exact am (aU z a)
theorem GX.plain(B:BO)(a:px c e Wr=.of m)(h:aK A Wr U Wp (eval e U) m)(t:∀r,eY (e::r) U=(false,eval e U)::eY r U)
  (p:isTrue e U (eval e U)=(do let v<-eval e U;standAt e.pos;holding [v] (wq v))):GX c hd A Wr U Wp e:=
 .gen B (by refine aa ?_ a;exact h) (by refine aa (aa ?_ p) a;exact yi h) t (by refine aa ?_ a;rfl) (by refine aa ?_ a;rfl) (by refine aa ?_ a;rfl) (by refine aa ?_ a;rfl) (by refine aa ?_ a;rfl)
theorem mL:aK A Wr U Wp t (M.fail:M V):=fun W a s R=>At.fail
theorem Dh:iz A Wr U Wp t (M.fail:M Bool):=fun W a s R=>At.fail
theorem uF:bV A Wr U Wp t (M.fail:M Fl):=fun W a s R=>bd.fail
theorem uU:ee A Wr U Wp t (M.fail:IM):=fun W a s R p n=>by exact am
theorem Dn{b:Wd->c->j->Prop}:Ex A Wr U Wp b t (M.fail:M c):=fun W a s R=>At.fail
theorem jj{t:bE j}{m:M c}(h:b=true->Ex A Wr U Wp a t m):Ex A Wr U Wp a t (dh b m):=by
 cases b with
 |true=>exact h rfl
 |false=>exact Dn
theorem uG{t:bE j}{x:M c}(h:b=true->Ex A Wr U Wp a t m)(d:b=false->Ex A Wr U Wp a t x):Ex A Wr U Wp a t (br b m x):=by
 cases b with
 |true=>exact h rfl
 |false=>exact d rfl
theorem kH{t:bE j}{f:e->M c}(d:o=none->Ex A Wr U Wp b t g)(h:∀a,o=some a->Ex A Wr U Wp b t (f a)):Ex A Wr U Wp b t (oc o g f):=by
 cases o with
 |some a=>exact h a rfl
 |none=>exact d rfl
theorem Ef(h:b=true->ee A Wr U Wp t m):ee A Wr U Wp t (dh b m):=by
 cases b with
 |true=>exact h rfl
 |false=>exact uU
theorem uT(h:b=true->ee A Wr U Wp t m)(d:b=false->ee A Wr U Wp t x):ee A Wr U Wp t (br b m x):=by
 cases b with
 |true=>exact h rfl
 |false=>exact d rfl
theorem sG{f:e->IM}(d:o=none->ee A Wr U Wp t g)(h:∀a,o=some a->ee A Wr U Wp t (f a)):ee A Wr U Wp t (oc o g f):=by
 cases o with
 |some a=>exact h a rfl
 |none=>exact d rfl
theorem ji(h:b=true->bV A Wr U Wp t m):bV A Wr U Wp t (dh b m):=by
 cases b with
 |true=>exact h rfl
 |false=>exact uF
theorem mK{f:e->M Fl}(d:o=none->bV A Wr U Wp t g)(h:∀a,o=some a->bV A Wr U Wp t (f a)):bV A Wr U Wp t (oc o g f):=by
 cases o with
 |some a=>exact h a rfl
 |none=>exact d rfl
theorem iO{f:e->M Fl}(h:∀a,o=some a->bV A Wr U Wp t (f a)):bV A Wr U Wp t (oc o M.fail f):=mK (fun Y=>uF) h
theorem eJ{t:bE j}{f:e->M c}(h:∀a,o=some a->Ex A Wr U Wp b t (f a)):Ex A Wr U Wp b t (oc o M.fail f):=kH (fun Y=>Dn) h
theorem UD{j:Type}{v:j}{P:Prop}(h:some v=none):P:=by trivial
theorem ifs{j:Type}{c:Bool}{v w:j}{P:Prop}(h:(if c then some v else none)=some w)(k:c=true->v=w->P):P:=by
 cases c with
 |true=>exact k rfl (aR h)
 |false=>exact am h
theorem ig(h:(!a)=true):a=false:=by
 cases a with
 |true=>exact h.symm
 |false=>rfl
theorem gx{a:j}(h:cN l=some a):l=[a]:=wj h rfl
theorem sg{a:j×j}(h:jf l=some a):l=[a.1,a.2]:=se h rfl
theorem sy(h:eM c Wr f=some g):∃id p,f=.Name id p:=ax h fun id a _=>⟨id,qp a⟩
theorem G4(h:cN ((pxs c es Wr).map (·.ev))=some m):∃e,es=[e]/\(px c e Wr).ev=m:=by
 cases es with
 |nil=>exact am h
 |cons x r=>cases r with
  |nil=>exact⟨x,rfl,aR h⟩
  |cons y r=>exact am h
theorem vM:∀{es:List Expr},(∀e∈es,GX c hd A Wr U Wp e)->lg A Wr U Wp (ye es U) ((pxs c es Wr).map (·.ev)):=by
 intro p;induction p with
 |nil=>intro _;exact .nil
 |cons e r I=>intro h;exact .cons (h e bK).ev (I fun e B=>h e (bD _ B))
theorem vP:∀{es:List Expr},(∀e∈es,GX c hd A Wr U Wp e)->jJ A Wr U Wp es ((pxs c es Wr).map (·.test)):=by
 intro p;induction p with
 |nil=>intro _;exact .nil
 |cons e r I=>intro h;exact .cons (h e bK).test (I fun e B=>h e (bD _ B))
theorem jy:∀{es:List Expr},(∀e∈es,GX c hd A Wr U Wp e)->cO A Wr U Wp (eY es U) ((pxs c es Wr).map (·.arg)):=by
 intro p;induction p with
 |nil=>intro _;exact .nil
 |cons e r I=>intro h;refine aH ((h e bK).arg) fun t a H=>aa ?_ (a ..);exact .cons H (I fun e B=>h e (bD _ B))
theorem Ke(h:jJ A Wr U Wp es a):iz A Wr U Wp (allTrue .And es U) (ge a):=by
 induction h with
 |nil=>exact fun W d s R=>At.pure R rfl
 |@cons e m cs a h Q I=>
  exact fun W d s R=>At.then R h fun x b c i s1 r T l=>by
   obtain rfl:x=b:=l;cases x with
   |true=>exact I c i s1 r
   |false=>exact At.pure r rfl
theorem Kf(h:jJ A Wr U Wp es a):iz A Wr U Wp (allTrue .Or es U) (gy a):=by
 induction h with
 |nil=>exact fun W d s R=>At.pure R rfl
 |@cons e m cs a h Q I=>
  exact fun W d s R=>At.then R h fun x b c i s1 r T l=>by
   obtain rfl:x=b:=l;cases x with
   |false=>exact I c i s1 r
   |true=>exact At.pure r rfl
variable (B:BO)
include B
theorem Op:GE (.Constant k i p):=fun c hd n A Wr U Wp C a=>.plain B rfl Dj (fun Y=>rfl) rfl
theorem Ox{i:Str}:GE (.Name i p):=fun c hd n A Wr U Wp C k=>.plain B rfl (fun W a s=>xq B C.G) (fun Y=>rfl) rfl
theorem Om(h:GL vs):GE (.BoolOp op vs p):=fun c hd n A Wr U Wp C k=>by
 obtain b:=fun e a=>h e a c hd n A Wr U Wp C k;cases op with
 |And=>exact .gen B (MX (vM b)) (Ke (vP b)) (fun Y=>rfl) rfl rfl rfl rfl rfl
 |Or=>exact .gen B (Nv (vM b)) (Kf (vP b)) (fun Y=>rfl) rfl rfl rfl rfl rfl
theorem OG(h:GE v):GE (.NamedExpr t v p):=fun c hd n A Wr U Wp C k=>by refine .plain B rfl (eJ fun id a=>eJ fun i D=>?_) (fun Y=>rfl) rfl;exact m9 t (qp a) fun q=>NO D (h c hd n A Wr U Wp C k).ev
theorem Ol(h:GE l)(H:GE r):GE (.BinOp l op r p):=fun c hd n A Wr U Wp C k=>.plain B rfl (M4 (h c hd n A Wr U Wp C k).ev (H c hd n A Wr U Wp C k).ev) (fun Y=>rfl) rfl
theorem OF(h:GE x):GE (.UnaryOp op x p):=fun c hd n A Wr U Wp C k=>by
 obtain b:=h c hd n A Wr U Wp C k;cases op with
 |Not=>exact .gen B (Nu b.ev) (NI b.test) (fun Y=>rfl) rfl rfl rfl rfl rfl
 |USub=>exact .plain B rfl (Nr b.ev) (fun Y=>rfl) rfl
 |_=>exact .plain B rfl mL (fun Y=>rfl) rfl
theorem Os(d:GE t)(h:GE a)(H:GE b):GE (.IfExp t a b p):=fun c hd n A Wr U Wp C k=>by obtain d:=d c hd n A Wr U Wp C k;obtain h:=h c hd n A Wr U Wp C k;obtain H:=H c hd n A Wr U Wp C k;exact .gen B (Dk d.test h.ev H.ev) (Dk d.test h.test H.test) (fun Y=>rfl) rfl rfl rfl rfl rfl
theorem Oq:GE (.Dict ks vs p):=fun c hd n A Wr U Wp C k=>by refine .plain B rfl (jj fun h=>fZ h fun a H=>?_) (fun Y=>rfl) rfl;obtain rfl:=List.isEmpty_iff.mp a;exact Nb
theorem G8(b:∀e∈es,GX c hd A Wr U Wp e):(eY es U=(ye es U).map (false,·)/\True)∨M.fail∈(pxs c es Wr).map (·.ev):=by
 cases h:vr es with
 |true=>exact .inl ⟨UN h,trivial⟩
 |false=>exact .inr (UL h)
theorem Ov(h:GL es):GE (.List es p):=fun c hd n A Wr U Wp C k=>by
 refine .plain B rfl ?_ (fun Y=>rfl) rfl;rcases G8 B (fun e a=>h e a c hd n A Wr U Wp C k) with⟨z,_⟩|z
 ·refine aa (aa ?_ z) (arm_eval_List ..);exact Ni (vM fun e a=>h e a c hd n A Wr U Wp C k)
 ·intro W b s R v d e;exact bA e fun Y Y f Y=>(Cm z f).elim
theorem OE(h:GL es):GE (.Tuple es i p):=fun c hd n A Wr U Wp C k=>by
 refine .plain B rfl ?_ (fun Y=>rfl) rfl;rcases G8 B (fun e a=>h e a c hd n A Wr U Wp C k) with⟨z,_⟩|z
 ·refine aa (aa ?_ z) (arm_eval_Tuple ..);exact NN (vM fun e a=>h e a c hd n A Wr U Wp C k)
 ·intro W b s R v d e;exact bA e fun Y Y f Y=>(Cm z f).elim
theorem Oo(h:GE l)(H:GL cs):GE (.Compare l o cs p):=fun c hd n A Wr U Wp C k=>by
 obtain d:=h c hd n A Wr U Wp C k;have i:∀{op:CmpOp}{e:Expr},y9 [op] [e]=true->markedEach [op] [e] (ye [e] U)=[eval e U]:=fun{op e} z=>by refine(?_:[markedBehindIn op e _]=_);delta markedBehindIn;exact aa rfl (ig z)
 refine .gen B (jj fun a=>eJ fun op b=>eJ fun m q=>?_) (jj fun a=>eJ fun op b=>eJ fun m q=>?_) (fun Y=>rfl) rfl rfl rfl rfl rfl
 ·obtain rfl:=gx b;refine aH (G4 q) fun e D f=>?_;clear q;subst D;subst f;refine aa (aa ?_ (i a)) (arm_eval_Compare ..);exact M7 B k d.ev (H e bK c hd n A Wr U Wp C k).ev
 ·obtain rfl:=gx b;refine aH (G4 q) fun e s t=>?_;clear q;subst s;subst t;refine aa (aa ?_ (i a)) (arm_isTrue_Compare ..);exact NH B k d.ev (H e bK c hd n A Wr U Wp C k).ev
theorem Ou:GE (.JoinedStr vs p):=fun c hd n A Wr U Wp C b=>by refine .plain B rfl (eJ fun e h=>eJ fun k H=>eJ fun s a=>?_) (fun Y=>rfl) rfl;obtain rfl:=UX a;obtain rfl:=gx h;refine GF e (Md H) fun i q=>?_;exact Dj (k:=.str s)
theorem OA(h:GE e):GE (.Starred e p):=fun c hd n A Wr U Wp C a=>by refine⟨mL,Dh,fun Y=>uU,⟨eval e U,fun Y=>rfl,(h c hd n A Wr U Wp C a).ev⟩,(fun o nm=>by exact am),(fun o nm=>by exact am),(fun o nm k=>by exact am)⟩
theorem Oz(a:GO l)(H:GO u)(b:GO k):GE (.Slice l u k p):=fun c hd n A Wr U Wp C d=>by
 have i:∀o:Option Expr,GO o->aK A Wr U Wp (AH (yf o U)) (pxo c o Wr):=fun o h=>by
  cases o with
  |none=>exact fun W g s R=>At.pure R nM
  |some e=>exact(h e rfl c hd n A Wr U Wp C d).ev
 refine⟨mL,Dh,fun Y=>uU,⟨eval _ U,fun Y=>rfl,mL⟩,(fun o nm=>by exact am),(fun o nm=>by exact am),fun o nm f z=>?_⟩;cases z;exact⟨l,u,k,p,rfl,i l a,i u H,i k b⟩
theorem OB(h:GE o)(H:GE i):GE (.Subscript o i p):=fun c hd n A Wr U Wp C k=>by
 have a:=h c hd n A Wr U Wp C k;refine .plain B rfl ?_ (fun Y=>rfl) rfl;refine kH (fun t=>NG a.ev (H c hd n A Wr U Wp C k).ev fun x y=>?_) fun q t=>?_
 ·clear H;cases i<;>first|exact @rfl _ (operate [x,y] (pY x y))|exact UD t
 ·refine GG i ((H c hd n A Wr U Wp C k).slice _ _ _ t) fun w j b q I P R=>?_;exact NE a.ev I P R fun x y=>by
   clear R;cases b with
   |none=>exact⟨_,rfl⟩
   |some _=>exact⟨_,rfl⟩
theorem mO(a:∀c Wr,px c e Wr=.of M.fail)(t:∀U r,eY (e::r) U=(false,eval e U)::eY r U)(p:∀U,isTrue e U (eval e U)=(do let v<-eval e U;standAt e.pos;holding [v] (wq v))):GE e:=
 fun c hd n A Wr U Wp C k=>.plain B (a c Wr) mL (t U) (p U)
end
theorem yh(B:BO)(Q:c.G=f5){I:Str}(z:eM c Wr (.Name I p)=some (.cst u))(h:aK A Wr U Wp (f u) m):
  aK A Wr U Wp (eval (.Name I p) U>>=f) m:=fun W i s R v n e=>by
 refine eZ (nX B Q z R) fun x s1 a=>?_;refine ga a ?_;try clear a;intro F d r T;clear z;subst F
 refine wN (h d i s1 r v n e) fun x o a=>?_;refine a _ fun g b y q=>?_;exact .mk g b (T.trans y) q
theorem ll.back{s1:ak}(T:av fr c Wp w W s)(h:ll A Wr U Wp W' b s src x s'):ll A Wr U Wp W' b w src x s':=by
 rcases h with h|⟨I,J,a,H,C⟩
 ·exact .inl h
 ·exact .inr ⟨I,J,T.gone a,T.gone H,C⟩
theorem nI.back(T:av (aC A) b Wp w W s)(h:nI A Wr U Wp W s W' d src x s'):nI A Wr U Wp b w W' d src x s':=fun vs c=>wN (h vs c) fun y o u=>by exact cw u fun v R a q=>⟨v,R,T.trans a,q⟩
theorem yL(B:BO)(Q:c.G=f5){I:Str}(z:eM c Wr (.Name I p)=some (.cst u))(h:ee A Wr U Wp (f u) m):
  ee A Wr U Wp (eval (.Name I p) U>>=f) m:=fun W j s R v n e=>by
 refine eZ (nX B Q z R) fun x s1 a=>?_;refine ga a ?_;try clear a;intro l g r T;clear z;subst l
 exact wN (h g j s1 r v n e) fun x o a=>ju a fun i d y q b=>⟨i,d,T.trans y,ll.back (s1:=s) T q,nI.back T b⟩
theorem EG(B:BO)(Q:c.G=f5)(z:eM c Wr (.Name w p)=some (.cst u))(h:my A Wr U Wp T mk (f u) m):
  my A Wr U Wp T mk (eval (.Name w p) U>>=f) m:=fun W n s R v o e=>by
 refine eZ (nX B Q z R) fun x s1 a=>?_;refine ga a ?_;try clear a;intro l j r d;clear z;subst l
 refine wN (h j n s1 r v o e) fun x q a=>oE a fun k b=>?_;exact⟨k,b.1,d.trans b.2.1,bM b.2.2 (fun y t a=>by refine cw a fun D I g i=>?_;exact⟨D,I,d.trans g,i⟩) fun Y Y f=>f⟩
theorem Dm(h:my A Wr U Wp T mk t m):aK A Wr U Wp (dJ pos (.type T) [] (cr pos [(false,t)]) []) (m>>=fun vs=>pure (mk vs)):=fun W d s R v n e=>by refine(bind_some e) _ fun vs i f g=>?_;refine bg v n g (iI (AO ?_));refine eZ (h W d s R vs i f) fun x s1 u=>nq (oE u fun j r=>er (ay (ay ⟨qd,?_⟩)));exact wN r.2.2 fun y o u=>cw u fun c a b q=>.mk c a b q
theorem M.cong{g:j->M c}(h:∀a,f a=g a):(m>>=f)=(m>>=g):=aa rfl (funext h)
theorem Ky{i:String}(h:BX i=some b):b.fn=.builtin i/\(uC b=true∨b=.min∨b=.max):=by
 refine cD h (fun z h=>?_) fun Y h=>cD h (fun z h=>?_) fun Y h=>cD h (fun z h=>?_) fun Y h=>cD h (fun z h=>?_) fun Y h=>cD h (fun z h=>?_) fun Y h=>am h
 all_goals
  refine eq_of_beq z▸aR h▸⟨rfl,?_⟩
  first|exact .inl rfl|exact .inr (.inl rfl)|exact .inr (.inr rfl)
theorem Kz{id:String}(h:BZ id=some b):b.fn=.builtin id:=by
 refine cD h (fun z h=>?_) fun Y h=>cD h (fun z h=>?_) fun Y h=>cD h (fun z h=>?_) fun Y h=>cD h (fun z h=>?_) fun Y h=>am h
 all_goals exact eq_of_beq z▸aR h▸rfl
theorem M3(P:gF)(k:aW false n A)(c:uC b=true∨b=.min∨b=.max)(h:cO A Wr U Wp t [(false,x)]):
  aK A Wr U Wp (dJ pos b.fn [] (cr pos t) []) (c1 b x):=by
 rcases c with a|a
 ·exact uH k a h
 ·exact yg (fun W e s v y R d=>P.mm k R.st d a) h
theorem Rx:∀{as:List Expr},(pxs c as Wr).map (·.arg)=[(false,m)]->∃e,as=[e]
 |[],h=>by trivial
 |[e],_=>⟨e,rfl⟩
 |_::_::_,h=>by cases (kx h).2
theorem MV{i:Str}:eval (.Call (.Name i p) as [] pos) U=(eval (.Name i p) U>>=fun f=>dJ pos f [] (cr pos (eY as U)) []):=rfl
theorem O0{j:Type}{b:Bool}{o:Option j}{w:j}{P:Prop}(h:(if b then o else none)=some w)(k:b=true->o=some w->P):P:=bq h k
theorem Kl(h:(px c e Wr).arg.1=false):eY [e] U=[(false,eval e U)]:=by
 cases e with
 |Starred=>trivial
 |_=>rfl
theorem Cw(h:xG nm c=some q):c=[some (.cst (.type nm),[q.1,q.2])]:=
 ax h fun o a h=>ax h fun p H h=>ax h fun u C h=>bq h fun hb d=>by simp only[gx a,H,<- eq_of_beq hb,<- ki C,<- sg d]
theorem rT(h:aK A Wr U Wp (dJ pos (.type a) [] b []) m)(d:aK A Wr U Wp (dJ pos (.type t) [] b []) x):aK A Wr U Wp (dJ pos (.type t) [] b []) (br (t==a) m x):=
 uG (fun z=>by refine aa ?_ (eq_of_beq z);exact h) fun Y=>d
theorem Lz(B:BO)(F:BF)(P:gF)(C:fG c false n)(a:aW false n A)(b:GX c false A Wr U Wp e)(h:cO A Wr U Wp (eY [e] U) [(false,m)])(i:eY [e] U=[(false,eval e U)]):
  aK A Wr U Wp (dJ pos (.type t) [] (cr pos (eY [e] U)) []) (Cs c.k t m [(px c e Wr).it] [(px c e Wr).call]):=by
 refine cw (C.k0 rfl) fun k j f g=>rT (uH a rfl h) (rT (uH a rfl h) (rT (yg (fun W u s v y R=>Sq a R.st) h) (rT (kH (fun Y=>?_) fun q r=>?_) (rT (kH (fun Y=>uH a rfl h) fun q r=>?_) mL))))
 ·refine aa ?_ i;exact Nj (b.it rfl)
 ·refine vw (b.call _ _ (kx (Cw r)).1) fun l p2 d o D k1 k2 k3=>?_;subst D;exact Dm (EG B C.G k1 (P.filter a (vK k3▸k2)))
 ·refine vw (b.call _ _ (kx (Cw r)).1) fun l p2 d o p k1 k2 k3=>?_;subst p;exact Dm (EG B C.G k1 (P.tmap (a.le (bb (jO (by decide) k) g)) j f F (vK k3▸k2)))
theorem LA(B:BO)(F:BF)(P:gF)(C:fG c false n)(g:aW false n A)(d:∀e∈as,GX c false A Wr U Wp e):
  aK A Wr U Wp (dJ pos u [] (cr pos (eY as U)) []) (Ct c u ((pxs c as Wr).map (·.arg)) ((pxs c as Wr).map (·.it)) ((pxs c as Wr).map (·.call))):=by
 refine cw (C.k0 rfl) fun k l s h=>?_;have h:=g.le (bb (jO (by decide:8<=10) k) h);refine kH (fun Y=>eJ fun W f=>kH (fun Y=>eJ fun t D=>?_) fun id w=>?_) fun a o=>?_
 ·obtain rfl:=HK D;refine kH (fun Y=>jj fun z=>?_) fun m j=>?_
  ·refine oA (Bool.and_eq_true_iff.mp z) fun z1 T=>?_;cases List.isEmpty_iff.mp z1;have y:eY as U=[]:=by
    clear d;cases as with
    |nil=>rfl
    |cons e r=>exact absurd (FL f) (wM _ _)
   refine aa (aa ?_ (eq_of_beq T)) y;exact Nz
  ·cases gx j;have i:=oz f;refine oE (Rx i) fun e R=>?_;clear f;subst R;have H:(px c e Wr).arg=(false,m):=(kx i).1;exact Lz B F P C g (d e bK) (aU (jy d) i) (Kl (aa rfl H))
 ·obtain rfl:=K6 w;refine kH (fun Y=>eJ fun p v=>eJ fun b x=>?_) fun m j=>eJ fun b x=>?_
  ·exact Kz x▸M6 g (vK (sg v▸f)▸(jy d))
  ·exact oA (Ky x) fun I Q=>I▸M3 P g Q (oz (gx j▸f)▸(jy d))
 ·obtain rfl:=HP o;exact kH (fun Y=>Nd F l s (h.le (hw _ _)) (jy d)) fun cl q=>Nt B l (h.le (jO (by decide) k)) (aU q C.cls) (jy d)
theorem Cp(B:BO)(F:BF)(P:gF)(C:fG c false n)(k:aW false n A)(b:∀e∈as,GX c false A Wr U Wp e){i:Str}(z:eM c Wr (.Name i p)=some g):
  aK A Wr U Wp (eval (.Call (.Name i p) as [] pos) U) (ut c g ((pxs c as Wr).map (·.arg)) ((pxs c as Wr).map (·.it)) ((pxs c as Wr).map (·.call))):=
 eJ fun u W=>yh B C.G (ki W▸z) (LA B F P C k b)
theorem Lw(B:BO)(C:fG c hd n)(k:aW hd n A)(h:∀e∈as,GX c hd A Wr U Wp e){I:Str}(a:eM c Wr (.Name I p)=some g):
  aK A Wr U Wp (eval (.Call (.Name I p) as [] pos) U) (Cq g ((pxs c as Wr).map (·.arg))):=
 eJ fun u f=>jj fun z=>eJ fun i d=>eJ fun m b=>yh B C.G (by refine aa (aa (aa ?_ (eq_of_beq z)) (ki f)) a;rfl) (yg (fun W j s v y R=>FW k R.st) (oz (gx b▸d)▸jy h))
theorem Cr(B:BO)(F:BF)(x:MF)(C:fG c hd n)(k:aW hd n A)(b:∀e∈as,GX c hd A Wr U Wp e)(t:lP W=false)(p:aK A Wr U Wp (eval W U) g)
  (a:(f.endLine==pos.line)=true) (v:as.length<30):aK A Wr U Wp (eval (.Call (.Attribute W nm f) as [] pos) U) (bJ c.k c.meth nm g ((pxs c as Wr).map (·.arg))):=by
 obtain h:=jy b;refine aa (aa (aa ?_ C.meth) (uk t)) (arm_eval_Call ..);clear b;cases hd with
 |true=>exact Nn B (C.k1 rfl) p h a v
 |false=>
  refine cw (C.k0 rfl) fun m j P d=>?_;cases T:((pxs c as Wr).map (·.arg)).any (·.1) with
  |false=>exact Nk B F j P (k.le (aJ [_,_] (.l (.a af (.n 10)) aj) (.l af aj) tU d)) p h a v T
  |true=>exact No B x F j P (k.le (aJ [_,_] (.l (.a af (.n 10)) aj) (.l af aj) tU d)) p h v T
theorem Pn(B:BO)(F:BF)(P:gF)(C:fG c false n)(k:aW false n A)(b:∀e∈as,GX c false A Wr U Wp e){i:Str}(a:eM c Wr (.Name i p)=some g):
  ee A Wr U Wp (eval (.Call (.Name i p) as [] pos) U) (Eh g ((pxs c as Wr).map (·.arg)) (ut c g ((pxs c as Wr).map (·.arg)) ((pxs c as Wr).map (·.it)) ((pxs c as Wr).map (·.call)))):=by
 have hd:=uV B (Cp B F P C k b (pos:=pos) a);refine sG (fun Y=>hd) fun u W=>sG (fun Y=>hd) fun t f=>sG (fun Y=>hd) fun h d=>?_;have a:=HK f▸ki W▸a;cases h with
 |nil=>trivial
 |cons m r=>cases r with
  |nil=>
   refine uT (fun z=>?_) fun Y=>uT (fun z=>?_) fun Y=>hd
   ·exact yL B C.G a (eq_of_beq z▸Pj k ((oz d)▸(jy b)))
   ·exact yL B C.G a (eq_of_beq z▸Pk k (aU (jy b) (oz d)))
  |cons x r=>cases r with
   |nil=>exact uT (fun z=>yL B C.G a (eq_of_beq z▸Pl k (vK d▸(jy b)))) fun Y=>hd
   |cons _ _=>exact hd
theorem On(B:BO)(F:BF)(x:MF)(P:gF)(h:GE f)(y:GL as):GE (.Call f as ks pos):=fun c hd n A Wr U Wp C b=>by
 have i:=h c hd n A Wr U Wp C b;have j:=fun e Q=>y e Q c hd n A Wr U Wp C b;have d:aK A Wr U Wp (eval (.Call f as ks pos) U) (px c (.Call f as ks pos) Wr).ev:=by
  refine jj fun s=>?_;obtain rfl:=List.isEmpty_iff.mp s;refine kH (fun m=>eJ fun g a=>?_) fun q m=>jj fun z=>fZ z fun z1 D=>?_
  ·refine dy (sy a) fun id p q4=>?_;clear h;subst q4;refine uG (fun z=>Lw B C b j a) fun z=>?_;obtain rfl:hd=false:=C.hdc.symm.trans z;exact Cp B F P C b j a
  ·refine fV (i.meth _ _ m) fun W v q5 r H=>?_;clear h i m z;subst q5;exact Cr B F x C b j r H z1 (of_decide_eq_true D)
 refine⟨d,yi d,fun I=>Ef fun s=>?_,⟨eval (.Call f as ks pos) U,fun Y=>rfl,d⟩,(fun o nm=>am),fun g ms z=>O0 z fun s z=>?_,fun l u k z=>am z⟩
 ·subst I;obtain rfl:=List.isEmpty_iff.mp s;refine sG (fun m=>sG (fun Y=>uU) fun g a=>?_) fun q m=>Ef fun z=>fZ z fun z1 D=>uT (fun w=>fZ w fun t z4=>?_) fun t=>?_
  ·refine dy (sy a) fun id p q6=>?_;clear h d;subst q6;exact Pn B F P C b j a
  ·refine fV (i.meth _ _ m) fun W v q7 r H=>?_;clear h d z w;subst q7;obtain rfl:=List.isEmpty_iff.mp z4;clear i m;obtain⟨q1,T⟩:=q;obtain rfl:T = "values" := eq_of_beq t;refine aa (aa ?_ (uk r)) (arm_eval_Call ..);exact Pm B H z1 (by decide)
  ·refine fV (i.meth _ _ m) fun W v q8 r H=>?_;clear h i d m z t;subst q8;exact uV B (Cr B F x C b j r H z1 (of_decide_eq_true D))
 ·obtain rfl:=List.isEmpty_iff.mp s;refine ax z fun g' a z=>?_;refine aH (Option.map_eq_some_iff.mp z) fun ms' R z=>?_;cases z;refine dy (sy a) fun id p q9=>?_;clear h i d;subst q9;exact⟨id,p,as,pos,rfl,a,jy j,R⟩
theorem Ok(B:BO)(h:GE o):GE (.Attribute o nm pos):=fun c hd n A Wr U Wp C b=>by
 have p:=h c hd n A Wr U Wp C b;have a:aK A Wr U Wp (eval (.Attribute o nm pos) U) (px c (.Attribute o nm pos) Wr).ev:=by
  refine jj fun t=>aa (aa ?_ (uk (ig t))) (arm_eval_Attribute ..);refine uG (fun z=>?_) fun Y=>uG (fun z=>jj fun Y=>eJ fun q d=>eJ fun u W=>jj fun D=>eJ fun m e=>?_) fun Y=>M0 B b p.ev
  ·refine aa ?_ (eq_of_beq z);exact M8 p.ev
  ·refine GG o (p.call _ _ d) fun i p2 f s k1 k2 k3=>aa (aa (aa ?_ (bind_assoc ..)) MV) (eq_of_beq z);exact yh B C.G (eq_of_beq D▸ki W▸k1) (Nh (oz (gx e▸k3)▸k2))
 refine⟨a,yi a,fun Y=>uV B a,⟨eval _ U,fun Y=>rfl,a⟩,(fun m r z=>?_),(fun g j z=>am z),fun l u k=>am⟩;have v:(if lP o then none else some _)=some _:=z;cases t:lP o with
 |true=>obtain v:=t▸v;exact am v
 |false=>clear h C a z;cases (t▸v);exact⟨o,pos,rfl,t,p.ev⟩
theorem th:(∀x,n0 iter U x=pure x)∨∀e,(px c iter Wr).it e=none:=by
 by_cases h:∃a b c,iter=.Set a b c
 ·refine zV iter h ?_;intro a b d;exact .inr fun e=>rfl
 ·exact .inl (Oa fun a b c z=>h ⟨a,b,c,z⟩)
theorem L0(C:fG c hd n)(k:aW hd n A)(F:hd=false):∀{y:List fc},GC y->(∀g∈y,g.is_async=0)->lb A Wr U Wp y (pxg c y Wr):=by
 intro p;induction p with
 |nil=>intro _ _;exact .nil
 |cons a0 y I=>obtain⟨t,iter,ifs,a⟩:=a0;intro h l;obtain rfl:a=0:=l ⟨t,iter,ifs,a⟩ bK;obtain⟨b,H⟩:=h ⟨t,iter,ifs,0⟩ bK;exact .cons (vP fun e B=>H e B c hd n A Wr U Wp C k) ((b c hd n A Wr U Wp C k).it F) th (I (fun g z=>h g (bD _ z)) fun g z=>l g (bD _ z))
theorem xQ(C:fG c false n)(k:aW false n A){G:List Expr}{Xm:List fc}(W:vz sc (w::r') (⟨t,iter,G,a⟩::Xm)=true)(F:iK e=⟨t,iter,G,a⟩::Xm)
  (m:∀x,n0 iter U x=pure x) (h:GC (⟨t,iter,G,a⟩::Xm)) (f:∀i acts' D,kq A (sc::w::r') i acts' I D (lF (.ref D) i e) (fun acc=>do let v<-R;M.lift (b v acc))):
  rf A sc w r' U Wp e t iter G Xm I b R (px c iter (w::r')).it ((pxs c G (sc::w::r')).map (·.test)) (pxg c Xm (sc::w::r')):=by
 delta vz at W;simp only[kr,decide_eq_true_eq] at W;refine oA W ?_;try clear W;intro r k5;refine oA r ?_;intro s q;refine oA s ?_;intro u k3;refine oA u ?_;intro k1 k2
 have l:∀g∈(⟨t,iter,G,a⟩::Xm:List fc),g.is_async=0:=fun g z=>by have:=List.all_eq_true.mp k5 g z;exact eq_of_beq this
 obtain rfl:a=0:=l ⟨t,iter,G,a⟩ bK;obtain⟨d,H⟩:=h ⟨t,iter,G,0⟩ bK;refine⟨F,m,eq_of_beq k1,k2,fun p j o=>?_,(d c false n A _ U Wp C k).it rfl,f,fun i acts'=>vP fun e B=>H e B c false n A _ i acts' C k,fun i acts'=>L0 C k rfl (fun g z=>h g (bD _ z)) fun g z=>l g (bD _ z)⟩;have:=List.all_eq_true.mp q p j;obtain this:=o▸this;trivial
theorem GI(h:∀w r',Wr=w::r'->aK A Wr U Wp t m):aK A Wr U Wp t m:=fun W a s R=>by
 cases Wr with
 |nil=>exact absurd rfl (tf R.act)
 |cons w r'=>exact h w r' rfl W a s R
theorem Mc(h:∀a,it a=none)(a:S):comp e k m it cl r a=none:=by refine(?_:M.bind it _ a=none);delta M.bind;exact aa rfl (h a)
theorem KT{g:j->M c}(h:m a=none):(m>>=g) a=none:=by refine(?_:M.bind _ _ a=none);delta M.bind;exact aa rfl h
theorem xO{g:List V->M j}(h:∀a,it a=none):(comp e k m it cl r>>=g) a=none:=by refine(?_:M.bind _ _ a=none);delta M.bind;exact aa rfl (Mc h ..)
theorem Ow(B:BO)(P:gF){y:List fc}(d:GE e)(f:GC y):GE (.ListComp e y sc p):=fun c hd n A Wr U Wp C k=>by
 refine .plain B rfl (jj fun z=>fZ z fun q h=>?_) (fun Y=>rfl) rfl;obtain rfl:hd=false:=C.hdc.symm.trans (ig q);refine GI fun w r' j=>?_;clear z;subst j;cases y with
 |nil=>exact mL
 |cons g y=>
  obtain⟨t,iter⟩:=g;rcases th with a|a
  ·exact Dl (p:=p) P.setB k (xQ C k h rfl a f fun i acts' D=>C6 (d c false n A _ i acts' C k).ev)
  ·exact fun W l s R v m b=>am ((xO a).symm.trans b)
theorem Oy(B:BO)(P:gF){y:List fc}(d:GE e)(f:GC y):GE (.SetComp e y sc p):=fun c hd n A Wr U Wp C k=>by
 refine .plain B rfl (jj fun z=>fZ z fun q h=>?_) (fun Y=>rfl) rfl;obtain rfl:hd=false:=C.hdc.symm.trans (ig q);refine GI fun w r' j=>?_;clear z;subst j;cases y with
 |nil=>exact mL
 |cons g y=>
  obtain⟨t,iter⟩:=g;rcases th with a|a
  ·exact P.setc k (fun I x=>xQ C k h rfl a f x) fun i acts'=>(d c false n A _ i acts' C k).ev
  ·exact fun W l s R v m b=>am ((xO a).symm.trans b)
section
variable (B:BO) (F:BF) (MM:MF) (P:gF)
include B F MM P
mutual
theorem gE:(e:Expr)->GE e
 |.Constant ..=>Op B
 |.Name ..=>Ox B
 |.BoolOp _ vs _=>Om B (gL vs)
 |.NamedExpr _ v _=>OG B (gE v)
 |.BinOp l _ r _=>Ol B (gE l) (gE r)
 |.UnaryOp _ x _=>OF B (gE x)
 |.IfExp t a b _=>Os B (gE t) (gE a) (gE b)
 |.Dict ..=>Oq B
 |.List es _=>Ov B (gL es)
 |.Tuple es _ _=>OE B (gL es)
 |.ListComp e y _ _=>Ow B P (gE e) (gG y)
 |.SetComp e y _ _=>Oy B P (gE e) (gG y)
 |.Compare l _ cs _=>Oo B (gE l) (gL cs)
 |.Call f as _ _=>On B F MM P (gE f) (gL as)
 |.Attribute o _ _=>Ok B (gE o)
 |.Subscript o i _=>OB B (gE o) (gE i)
 |.JoinedStr ..=>Ou B
 |.Starred e _=>OA B (gE e)
 |.Slice l u k _=>Oz B (gO l) (gO u) (gO k)
 |.Lambda ..=>mO B (fun Y Y=>rfl) (fun Y Y=>rfl) fun Y=>rfl
 |.Set ..=>mO B (fun Y Y=>rfl) (fun Y Y=>rfl) fun Y=>rfl
 |.DictComp ..=>mO B (fun Y Y=>rfl) (fun Y Y=>rfl) fun Y=>rfl
 |.GeneratorExp ..=>mO B (fun Y Y=>rfl) (fun Y Y=>rfl) fun Y=>rfl
 |.Await ..=>mO B (fun Y Y=>rfl) (fun Y Y=>rfl) fun Y=>rfl
 |.Yield ..=>mO B (fun Y Y=>rfl) (fun Y Y=>rfl) fun Y=>rfl
 |.YieldFrom ..=>mO B (fun Y Y=>rfl) (fun Y Y=>rfl) fun Y=>rfl
 |.FormattedValue ..=>mO B (fun Y Y=>rfl) (fun Y Y=>rfl) fun Y=>rfl
theorem gO:(o:Option Expr)->GO o
 |none=>fun e h=>nomatch h
 |some e=>fun A h=>aR h▸gE e
theorem gL:(es:List Expr)->GL es
 |[]=>fun e h=>nomatch h
 |e::r=>fun x h=>(List.mem_cons.mp h).elim (fun z=>z▸gE e) (gL r x)
theorem gG:(y:List fc)->GC y
 |[]=>fun e h=>nomatch h
 |⟨_,it,ifs,_⟩::r=>fun x h=>(List.mem_cons.mp h).elim (fun z=>z▸⟨gE it,gL ifs⟩) (gG r x)
end
end
def GS(s:cW):Prop:=∀c hd n A Wr U Wp,fG c hd n->aW hd n A->(∃WB,A.frames=some (U::WB))->bV A Wr U Wp (exec s U) (vJ c Wr s)
def jK(ss:List cW):Prop:=∀s∈ss,GS s
noncomputable def OT:ExceptHandler->List cW
 |.ExceptHandler _ _ b _=>b
def GH(hs:List ExceptHandler):Prop:=∀h∈hs,jK (OT h)
section
theorem NR(h:jK a)(C:fG c hd n)(k:aW hd n A)(o:∃p,A.frames=some (U::p)):rh A Wr U Wp a (pexecs c Wr a):=by
 induction a with
 |nil=>exact .nil
 |cons s r I=>exact .cons (h s bK c hd n A Wr U Wp C k o) (I fun x b=>h x (bD _ b))
theorem nb(h:jK a)(C:fG c hd n)(k:aW hd n A)(o:∃p,A.frames=some (U::p)):bV A Wr U Wp (gp a U) (au (pexecs c Wr a)):=Ny (NR h C k o)
noncomputable abbrev Ctx.inH(c:Ctx):Ctx:={ c with k:=fun Y Y Y=>none,hd:=true }
theorem fG.inH(C:fG c hd n):fG c.inH true n:=⟨C.G,C.meth,C.cls,rfl,nofun,fun Y Y Y Y=>rfl⟩
theorem aW.mark(k:aW hd n A)(a:ai):aW true n (A.mark (some (.ref a))):=⟨k.depth,k.units,nofun,k.frames⟩
theorem DU(h:jK (B::v))(C:fG c hd n)(k:aW hd n A)(o:∃p,A.frames=some (U::p))(a:ai):
  bV (A.mark (some (.ref a))) Wr U Wp (gp (B::v) U) (qA c.inH Wr (B::v)):=nb h C.inH (k.mark a) o
theorem Dq(h:sm c Wr t=some v):∃id p,t=some (.Name id p)/\eM c Wr (.Name id p)=some (.cst v)/\(v=.type "ValueError" ∨ v=.type "StopIteration" ∨ v=.ref 104):=
 ax h fun e a h=>ax h fun g H h=>ax h fun u C h=>ifs h fun d b=>by refine dy (sy H) fun id p D=>?_;subst D;clear h;clear h;obtain rfl:=b;rw[ki C] at H;simp only[wC,beq_iff_eq] at d;exact⟨id,p,a,H,or_assoc.mp d⟩
theorem Pb{s:cW}(h:D7 s=true):∃p,s=.Break p:=Stmt.Break.elim s (of_decide_eq_true h) fun p=>⟨p,rfl⟩
theorem QQ(h:E1 a=some q):∃R c B,a=[.Assign [q.1] (.Call q.2 [] [] R) c,.Break B]:=
 ax h fun p b h=>ax h fun r H h=>ax h fun t C h=>ax h fun f d h=>ifs h fun z e=>fZ z fun g i=>by obtain⟨c,u⟩:=Kr H;clear h z;clear h;subst e;obtain⟨B,j⟩:=Pb i;exact⟨f.2.2,c,B,by exact aa (aa (aa (aa (aa (aa rfl (List.isEmpty_iff.mp g)) (xF d)) (gx C)) j) u) (sg b)⟩
theorem UB(h:G3 a=some q):∃ep,a=[.Expr (.Call (.Attribute q.1.1 q.1.2.1 q.1.2.2) [] [] q.2) ep]:=
 ax h fun s b h=>ax h fun e H h=>ax h fun r C h=>ax h fun p d h=>ifs h fun z c=>by clear h;clear h;subst c;obtain⟨ep,g⟩:=NQ H;exact⟨ep,by exact aa (aa (aa (aa (aa rfl (List.isEmpty_iff.mp z)) (rM d)) (xF C)) g) (gx b)⟩
theorem Kw(h:BR t=some q):∃k p,t=.Tuple [.Attribute q.1.1 q.1.2.1 q.1.2.2,.Attribute q.2.1 q.2.2.1 q.2.2.2] k p:=
 ax h fun es c h=>ax h fun r H h=>ax h fun a C h=>by refine dy (Az c) fun k p d=>aH (Option.map_eq_some_iff.mp h) fun b e g=>?_;clear h;clear h;subst g;exact⟨k,p,by exact aa (aa (aa (aa rfl (rM e)) (rM C)) (sg H)) d⟩
def uQ(c:Ctx)(Wr:List aL)(t:Option Expr)(nm:Option Str)(b:List cW):Option ae×Option Nat×M Fl:=if b.isEmpty then(none,none,M.fail) else match nm with
 |none=>(sm c Wr t,none,qA c.inH Wr b)
 |some nm=>match lM nm Wr with
  |some i=>(sm c Wr t,some i,qA c.inH Wr b)
  |none=>(none,none,M.fail)
theorem FF{n:Option Str}:phandlers c Wr (.ExceptHandler t n b p::r)=uQ c Wr t n b::phandlers c Wr r:=rfl
theorem DV
    (h:uQ c Wr t nm b=(some d,i,x)):∃B v id q,b=B::v/\t=some (.Name id q)/\eM c Wr (.Name id q)=some (.cst d) /\
      (d=.type "ValueError" ∨ d=.type "StopIteration" ∨ d=.ref 104)/\(nm=none/\i=none∨∃f j,nm=some f/\i=some j/\lM f Wr=some j)/\x=qA c.inH Wr (B::v):=by
  delta uQ at h;cases b with
  |nil=>cases h
  |cons B v=>
    simp only[List.isEmpty_cons,iY,if_false] at h;cases nm with
    |none=>simp only[gj] at h;exact gb (Dq h.1) fun id q a H=>⟨B,v,id,q,rfl,a,H.1,H.2,.inl ⟨rfl,h.2.1.symm⟩,h.2.2.symm⟩
    |some nm=>
      dsimp only at h;cases e:lM nm Wr with
      |none=>obtain h:=e▸h;cases h
      |some j=>obtain h:=e▸h;simp only[gj] at h;exact dy (Dq h.1) fun id q a=>⟨B,v,id,q,rfl,a.1,a.2.1,a.2.2,.inr ⟨nm,j,rfl,h.2.1.symm,e⟩,h.2.2.symm⟩
theorem DX:∀{a:List ExceptHandler}{l:List (ae×Option Nat×M Fl)},GH a->fG c hd n->aW hd n A->(∃u,A.frames=some (U::u))->
  (phandlers c Wr a).mapM (fun p=>p.1.map fun v=>(v,p.2))=some l->o8 A c Wr U Wp a l
 |[],l,_,_,_,_,h=>by have j:some ([]:List (ae×Option Nat×M Fl))=some l:=h;clear h;cases j;exact .nil
 |.ExceptHandler t nm b p::a,l,g,C,k,o,h=>by rw[FF,List.mapM_cons] at h;generalize f:uQ c Wr t nm b=z at h;obtain⟨D,i,F⟩:=z;refine aH (Option.bind_eq_some_iff.mp h) fun x e h=>aH (Option.bind_eq_some_iff.mp h) fun r Q h=>?_;cases h;refine aH (Option.map_eq_some_iff.mp e) fun d H m=>?_;clear h;clear h;subst m;obtain rfl:D=some d:=H;refine Fh (DV f) fun B I id q w y k1 k2 k3 s=>?_;clear f;subst w;subst y;refine aa ?_ s;exact .cons rfl k1 k2 k3 (DU (g _ bK) C k o) (DX (fun x e=>g x (bD _ e)) C k o Q)
theorem Of(h:∀a,it a=none)(a:S):fx t it m a=none:=by refine(?_:M.bind it _ a=none);delta M.bind;exact aa rfl (h a)
theorem T7(b:∀e,GE e):GS (.Return v p):=fun c hd n A Wr U Wp C k o=>by
 cases v with
 |none=>exact Do fun W a s R=>At.pure R nM
 |some e=>exact Do (b e c hd n A Wr U Wp C k).ev
theorem TW(b:∀e,GE e):GS (.Expr e p):=fun c hd n A Wr U Wp C k o=>ji fun h=>Nc (ig h) (b e c hd n A Wr U Wp C k).ev
theorem UC(h:sE e=false∨∀id p,t≠.Name id p):tq [t] e l U=pure false:=by
 rcases h with h|h
 ·exact Ag h
 ·exact wo h
theorem MW{m:M V->M Fl}(h:b=true->bV A Wr U Wp t (m x))(e:f=dh b x)(d:∀a,m M.fail a=none):bV A Wr U Wp t (m f):=by
 subst e;cases b with
 |true=>exact h rfl
 |false=>exact fun W a s R v n c=>am ((d a).symm.trans c)
set_option tactic.hygienic true
theorem TT(P:gF)(i:∀e,GE e)(r:∀y,GC y)(C:fG c hd n)(k:aW hd n A)(h:(c.hd||xR e||G0 t e)=false):
  bV A Wr U Wp (exec (.Assign [t] e p) U) (aS (px c e Wr).ev (dk Wr t)):=by
 refine oA (Bool.or_eq_false_iff.mp h) fun F f=>oA (Bool.or_eq_false_iff.mp F) fun o H=>?_;obtain rfl:hd=false:=C.hdc.symm.trans o;by_cases a:sE e=false∨∀id q,t≠.Name id q
 ·exact Di P.setB k (UC a) H (i e c false n A Wr U Wp C k).ev
 ·refine dy (IE fun z=>a (.inr fun id q e=>z ⟨id,q,e⟩)) ?_;intro id q w;clear h;subst w;clear F H;cases e<;>first|exact absurd (.inl rfl) a|exact It f|skip
  ·rename_i elt gens sc B;intro W d s R;cases Wr with
   |nil=>exact absurd rfl (tf R.act)
   |cons I r'=>
    refine MW (m:=fun m=>aS m _) (fun z=>fZ z fun Y u=>?_) rfl (fun Y=>rfl) W d s R;clear f a z;cases gens with
    |nil=>exact uF
    |cons g y=>
     obtain⟨t,iter⟩:=g;rcases th with b|b
     ·exact MZ P.setB k (xQ C k u rfl b (r _) fun l acts' D=>C6 (i elt c false n A _ l acts' C k).ev)
     ·exact fun W d s R v x j=>am ((KT (xO b)).symm.trans j)
  ·exact fun W d s R v x=>am
theorem TS(B:BO)(P:gF)(d:∀e,GE e)(z:∀y,GC y):GS (.Assign g e p):=fun c hd n A Wr U Wp C b o=>by
 have ex:=fun e=>(d e c hd n A Wr U Wp C b).ev;refine mK (fun Y=>iO fun q a=>iO fun r H=>ji fun h=>?_) fun t a=>mK (fun Y=>mK (fun Y=>mK (fun Y=>ji fun h=>?_) fun q H=>ji fun h=>?_) fun q H=>?_) fun q H=>?_
 ·obtain rfl:hd=false:=C.hdc.symm.trans (ig h);obtain⟨D,f⟩:=q;obtain rfl:=sg a;obtain⟨j,Q⟩:=yM H;clear H Y a;subst Q;exact ND B P.setB b (ex _) (ex _) (ex e)
 ·obtain rfl:=gx a;exact TT P d z C b (ig h)
 ·obtain rfl:hd=false:=C.hdc.symm.trans (ig h);obtain rfl:=gx a;exact GF t (Kw H) fun k j=>NB B P.setB b (ex _) (ex _) (ex e)
 ·obtain rfl:=gx a;refine m9 t (yM H) fun j=>?_;exact NC B (ex _) (ex _) (ex e)
 ·obtain rfl:=gx a;obtain rfl:=rM H;exact NA B b (ex _) (ex e)
theorem TU(B:BO)(b:∀e,GE e):GS (.AugAssign t op e p):=fun c hd n A Wr U Wp C k o=>by
 have ex:=fun e=>(b e c hd n A Wr U Wp C k).ev;refine mK (fun Y=>iO fun q h=>?_) fun q h=>ji fun z=>iO fun i D=>?_
 ·obtain rfl:=rM h;exact M2 B k (ex _) (ex e)
 ·exact m9 t (qp h) fun j=>M1 B C.G D (ig z) (ex e)
theorem TV(B:BO)(b:∀e,GE e):GS (.Delete a p):=fun c hd n A Wr U Wp C k o=>by obtain ex:=fun e=>(b e c hd n A Wr U Wp C k).ev;refine iO fun t h=>iO fun q H=>?_;obtain rfl:=gx h;exact m9 t (yM H) fun j=>Na B (ex _) (ex _)
theorem TY(d:∀e,GE e)(h:jK a)(H:jK b):GS (.If t a b p):=fun c hd n A Wr U Wp C k o=>Ng (d t c hd n A Wr U Wp C k).test (nb h C k o) (nb H C k o)
theorem T9(d:∀e,GE e)(h:jK a)(H:jK b):GS (.While t a b p):=fun c hd n A Wr U Wp C k o=>ji fun Y=>NP (d t c hd n A Wr U Wp C k).test (nb h C k o) (nb H C k o)
theorem TX(P:gF)(g:∀e,GE e)(h:jK a):GS (.For t it a b p):=fun c hd n A Wr U Wp C k o=>by
 refine ji fun z=>fZ z fun x u=>?_;obtain rfl:=List.isEmpty_iff.mp x;obtain rfl:hd=false:=C.hdc.symm.trans (ig u);rcases th with d|d
 ·exact Nf P.setB k d ((g it c false n A Wr U Wp C k).it rfl) (nb h C k o)
 ·exact fun W i s R v j f=>am ((Of d i).symm.trans f)
theorem TZ(B:BO)(X:XF)(m:∀e,GE e):GS (.Raise e f p):=fun c hd n A Wr U Wp C k s=>by refine iO fun e h=>ji fun z=>fZ z fun i H=>iO fun r a=>iO fun g d=>iO fun v j=>iO fun t l=>ji fun b=>?_;obtain rfl:hd=false:=C.hdc.symm.trans (ig H);obtain rfl:=Option.isNone_iff_eq_none.mp i;subst h;obtain rfl:=xF a;clear a;obtain⟨u,w⟩:=r;refine dy (sy d) fun id q o=>?_;subst o;simp only[wC,beq_iff_eq] at b;exact Nx B X k C.G (ki j▸d) b (jy fun e h=>m e c false n A Wr U Wp C k) l
theorem US(h:Ha b=some m):b=[(some (.type "StopIteration"),none,m)]:=
 ax h fun r a h=>ax h fun v H h=>ifs h fun z C=>fZ z fun d p=>by exact aa (aU (aU (aU (aU rfl H) (Option.isNone_iff_eq_none.mp p)) (eq_of_beq d)) C) (gx a)
theorem T8(B:BO)(X:XF)(F:BF)(P:gF)(j:∀e,GE e)(u:jK a)(H:GH t):GS (.Try a t o f p):=fun c hd n A Wr U Wp C k b=>by
 obtain⟨WB,d⟩:=id b;refine ji fun z=>fZ z fun z x=>fZ z fun z T=>fZ z fun W w=>?_;obtain rfl:hd=false:=C.hdc.symm.trans (ig x);obtain rfl:=List.isEmpty_iff.mp W;obtain rfl:=List.isEmpty_iff.mp w;cases t with
 |nil=>trivial
 |cons s t=>
  refine mK (fun Y=>mK (fun Y=>NJ (nb u C k b)) fun q r=>ji fun z=>fZ z fun z1 z2=>iO fun l I=>?_) fun q r=>iO fun m g=>ji fun zz=>?_
  ·exact m9 a (UB r) fun ep=>cw (C.k0 rfl) fun m y D R=>C.meth▸NK B X F y D (k.le (bb (hw _ _) R)) C.G d (ig z1) z2 (j _ c false n A Wr U Wp C k).ev (DX H C k b I)
  ·refine zV a (QQ r) fun cp ap bp=>?_;obtain Q:=US g;clear T g;obtain⟨te,nm⟩:=s;rw[FF] at Q;obtain⟨h,i⟩:=kx Q;clear Q;cases t with
   |cons v t=>cases v;exact nomatch i
   |nil=>
    refine Fh (DV h) fun b0 WI id q2 q12 q13 k1 k2 k3 k4=>?_;subst q12;subst q13;clear i h;rcases k3 with⟨rfl,_⟩|⟨_,_,_,z,_⟩
    ·rw[k4];exact NL B X P.setB k C.G d (ig zz) (j q.2 c false n A Wr U Wp C k).ev rfl k1 fun a=>DU (H _ bK) C k b a
    ·exact am z
theorem gU{s:cW}(h:∀c Wr,vJ c Wr s=M.fail):GS s:=fun c hd n A Wr U Wp C k o=>by refine aa ?_ (h ..);exact uF
end
section
variable (B:BO) (F:BF) (X:XF) (MM:MF) (P:gF)
include B F X MM P
mutual
theorem gS:(s:cW)->GS s
 |.Expr ..=>TW (gE B F MM P)
 |.Return ..=>T7 (gE B F MM P)
 |.Assign ..=>TS B P (gE B F MM P) (gG B F MM P)
 |.AugAssign ..=>TU B (gE B F MM P)
 |.Delete ..=>TV B (gE B F MM P)
 |.If _ a b _=>TY (gE B F MM P) (gSL a) (gSL b)
 |.While _ a b _=>T9 (gE B F MM P) (gSL a) (gSL b)
 |.For _ _ a _ _=>TX P (gE B F MM P) (gSL a)
 |.Raise ..=>TZ B X (gE B F MM P)
 |.Try a t _ _ _=>T8 B X F P (gE B F MM P) (gSL a) (gH t)
 |.Break _=>fun Y Y Y Y Y Y Y Y Y Y=>M5
 |.Continue _=>fun Y Y Y Y Y Y Y Y Y Y=>M9
 |.Pass _=>fun Y Y Y Y Y Y Y Y Y Y=>Nw
 |.FunctionDef ..=>gU fun Y Y=>rfl
 |.AsyncFunctionDef ..=>gU fun Y Y=>rfl
 |.ClassDef ..=>gU fun Y Y=>rfl
 |.TypeAlias ..=>gU fun Y Y=>rfl
 |.AnnAssign ..=>gU fun Y Y=>rfl
 |.AsyncFor ..=>gU fun Y Y=>rfl
 |.With ..=>gU fun Y Y=>rfl
 |.AsyncWith ..=>gU fun Y Y=>rfl
 |.Match ..=>gU fun Y Y=>rfl
 |.TryStar ..=>gU fun Y Y=>rfl
 |.Assert ..=>gU fun Y Y=>rfl
 |.Import ..=>gU fun Y Y=>rfl
 |.ImportFrom ..=>gU fun Y Y=>rfl
 |.Global ..=>gU fun Y Y=>rfl
 |.Nonlocal ..=>gU fun Y Y=>rfl
theorem gSL:(d:List cW)->jK d
 |[]=>fun e h=>nomatch h
 |e::r=>fun x h=>(List.mem_cons.mp h).elim (fun z=>z▸gS e) (gSL r x)
theorem gH:(t:List ExceptHandler)->GH t
 |[]=>fun e h=>nomatch h
 |.ExceptHandler _ _ b _::r=>fun x h=>(List.mem_cons.mp h).elim (fun z=>z▸gSL b) (gH r x)
end
theorem KY(j:KS m c.k)(a:KF c.k)(d:m+10<=n)(Q:c.G=f5)(b:c.meth=bc)(q:c.cls=kG)(hd:c.hd=false):wA n c sc body:=
 fun A k W Wp U e s R o=>nb (gSL B F X MM P body) ⟨Q,b,q,hd,fun Y=>⟨m,j,a,d⟩,nofun⟩ k o W e s R
theorem PR:∀k,KS (20*k) (az k)/\KF (az k):=by
 intro p;induction p with
 |zero=>exact⟨(fun A d W st s S K a c xs r x f=>by exact am),(fun a c st r=>by exact am)⟩
 |succ k I=>
  refine⟨fun A d W st s S K a c xs r x f e=>?_,fun a c st r e=>?_⟩
  ·unfold az at e;cases b:kI a with
   |none=>obtain e:=b▸e;exact am e
   |some q=>exact TG B (F a q b) (KY B F X MM P I.1 I.2 (ck _) rfl rfl rfl rfl) (d.le (ck _)) S K f (b▸e)
  ·unfold az at e;cases b:kI a with
   |none=>exact am (b▸e)
   |some q=>exact⟨q,rfl⟩
end
section
open AutoSeq1
theorem zg:∀a b:List Nat,js a b=decide (a<b)
 |a,[]=>by simp[js]
 |[],_::_=>by rfl
 |a::r,b::t=>by
  simp only[js,zg r t,List.cons_lt_cons_iff];split
  ·rename_i h;subst h;simp
  ·rename_i h;simp[h]
theorem L1{prog:lq}(m:Bool){L G:ai}{J N:Array ae}{X:Nat}(f:s.heap.get? L=some (bL J Xn))(j:s.heap.get? G=some (bL N X)):∀(xs v:List Str)(i:Nat)(A:a8)(R:pA->ak->Prop),i<=J.size->i<=N.size->
  eG (J.toList.drop i) xs->eG (N.toList.drop i) v->R (.ok (.ret (.bool (if m then bU v xs else bU xs v)))) s->dK (bO prog w) A (.builtin "list.__eq__.loop" ⟨[.ref L,.ref G,l6 i,l6 (if m then 4 else 0)],[]⟩) R s:=by
 have C:∀(J:Array ae)(i:Nat)(xs:List Str),eG (J.toList.drop i) xs->i<=J.size->match xs with|[]=>J[((i:Nat):Int).toNat]?=none/\J.size=i|x::r=>∃t,J[((i:Nat):Int).toNat]?=some (.str x t)/\i<J.size/\eG (J.toList.drop _) r:=fun J i xs h D=>by
  cases xs with
  |nil=>generalize hd:J.toList.drop i=d at h;cases h;have:=List.drop_eq_nil_iff.mp hd;simp only[oX] at this;exact⟨by simp;exact aJ [_,_] (.l af aj) (.l af aj) tU this,by exact i6 (aJ [_,_] (.l af aj) (.l af aj) tU this) (aJ [_,_] (.l af aj) (.l af aj) tU D)⟩
  |cons x r=>
   generalize hd:J.toList.drop i=d at h;cases h with
   |@cons _ t vs _ h=>
    refine oA (iM hd) fun c H=>?_;have hlt:i<J.size:=by have:=(List.getElem?_eq_some_iff.mp c).1;simpa using this
    refine⟨t,?_,hlt,?_⟩
    ·have:J[i]?=J.toList[i]?:=by simp
     exact aa (aa (aa rfl c) this) (rn ..)
    ·refine aa ?_ H;exact h
 intro xs;induction xs with
 |nil=>
  intro v i A R D I P p q;refine fN Jx ?_;refine aa ?_ (qX tW _);refine oA (C _ _ _ P D) fun c H=>?_;have o:=C _ _ _ p I;obtain⟨hp,g,d,tk,os⟩:=s;have hop:(if m then 4 else 0:Int).toNat=if m then 4 else 0:=by cases m<;>rfl
  clear hop;cases m with
  |false=>
   wp_walk using c9 f,c9 j
   refine aa ?_ c
   wp_walk using c9 f,c9 j
   refine(?_:R (.ok (.ret (.bool (decide (J.size<N.size))))) _);clear p;cases v with
   |nil=>refine oA o fun Y a=>?_;simpa[H,a,bU] using q
   |cons y r=>
    refine cw o fun t Y a Y=>?_;have:¬ N.size<i:=by exact fun e=>aP [_,_] (.l aF aj) (.l bI af) .f tU a e
    simpa[H,a,bU,this] using q
  |true=>
   wp_walk using c9 f,c9 j
   refine aa ?_ c
   wp_walk using c9 f,c9 j
   refine(?_:R (.ok (.ret (.bool (decide (J.size>N.size))))) _);clear p;cases v with
   |nil=>refine oA o fun Y a=>?_;simpa[H,a,bU] using q
   |cons y r=>
    refine cw o fun t Y a Y=>?_;have:¬ N.size<i:=by exact fun e=>aP [_,_] (.l aF aj) (.l bI af) .f tU a e
    simpa[H,a,bU,this] using q
 |cons x r Q=>
  intro v i A R D I P p q;refine fN Jx ?_;refine aa ?_ (qX tW _);refine cw (C _ _ _ P D) fun t c H h3=>?_;have o:=C _ _ _ p I;obtain⟨hp,g,d,tk,os⟩:=s;have hc:((i:Int)+1)=((i+1:Nat):Int):=by push_cast;rfl
  clear p;cases v with
  |nil=>
   refine oA o fun a u=>?_;have:¬ J.size<i:=by exact fun e=>aP [_,_] (.l aF aj) (.l bI af) .f tU H e
   clear Q;cases m with
   |false=>
    wp_walk using c9 f,c9 j
    refine aa (aa ?_ a) c
    wp_walk using c9 f,c9 j
    refine(?_:R (.ok (.ret (.bool (decide (J.size<N.size))))) _);simpa[u,H,bU,this] using q
   |true=>
    wp_walk using c9 f,c9 j
    refine aa (aa ?_ a) c
    wp_walk using c9 f,c9 j
    refine(?_:R (.ok (.ret (.bool (decide (J.size>N.size))))) _);simpa[u,H,bU,this] using q
  |cons y W=>
   refine cw o fun T a u h6=>?_;cases B:(x==y) with
   |true=>
    have e:=eq_of_beq B;have q':R (.ok (.ret (.bool (if m then bU W r else bU r W)))) ⟨hp,g,d,tk,os⟩:=by simpa[bU,cF,B,e] using q
    clear q;cases m<;>
    ·wp_walk using c9 f,c9 j
     refine aa (aa ?_ a) c;refine aq (Dc ?_);refine aa ?_ B
     wp_walk
     refine aa ?_ hc;exact⟨gt tW _,Q W (i+1) A R H u h3 h6 q'⟩
   |false=>
    have WZ:(y==x)=false:=by
     cases z:(y==x) with
     |false=>rfl
     |true=>obtain B:=(eq_of_beq z)▸B;simp at B
    clear Q;cases m with
    |false=>
     wp_walk using c9 f,c9 j
     refine aa (aa ?_ a) c;refine aq (Dc ?_);refine aa ?_ B
     wp_walk using c9 f,c9 j
     refine aa (aa ?_ a) c;refine aq (Tu (op:=.Lt) (nh _ x t) (nh _ y T) F.slot_str_lt F.entry_str_lt (F.args_str_lt_2 _ _) (gives_str_lt x y t T) (fun e=>nomatch e) ?_);refine ay ?_;simpa[bU,cF,B,wm,zg] using q
    |true=>
     wp_walk using c9 f,c9 j
     refine aa (aa ?_ a) c;refine aq (Dc ?_);refine aa ?_ B
     wp_walk using c9 f,c9 j
     refine aa (aa ?_ a) c;refine aq (Tu (op:=.Gt) (nh _ x t) (nh _ y T) F.slot_str_gt F.entry_str_gt (F.args_str_gt_2 _ _) (gives_str_gt x y t T) (fun e=>nomatch e) ?_);refine ay ?_;simpa[bU,cF,WZ,wm,zg] using q
theorem EI(f:Bool)(a:eG it.toList xs)(d:eG e.toList v):Meets ((if f then Builtin.«list.__gt__» else Builtin.«list.__lt__») ⟨[.ref l,.ref b],[]⟩)
  (fun Y R s=>s.heap.get? l=some (bL it k)/\s.heap.get? b=some (bL e k2)/\R (.ok (.ret (.bool (if f then bU v xs else bU xs v)))) s):=by
 intro prog w A R s h;refine cV h ?_;try clear h;intro c x q
 obtain g:=L1 (prog:=prog) f c x xs v 0 A R (dB _) (dB _) a d q;obtain j:=AutoSeq1.sub_list_list;cases f with
 |false=>
  refine(?_:al _ _ (Builtin.«list.__lt__» _) _ _ _)
  wp_walk using c9 c,c9 x
  exact⟨gt tW _,g⟩
 |true=>
  refine(?_:al _ _ (Builtin.«list.__gt__» _) _ _ _)
  wp_walk using c9 c,c9 x
  exact⟨gt tW _,g⟩
theorem Gv(f:Bool)(W:A.units<cLine)(c:s.heap.get? l=some (bL it k))(x:s.heap.get? b=some (bL e k2))(a:eG it.toList xs)(d:eG e.toList v)
  {E:ae->ak->Prop} (q:Q (.bool (if f then bU v xs else bU xs v)) s):al (MD) A (v6 (if f then .Gt else .Lt) (.ref l) (.ref b)) Q E s:=by
 cases f with
 |false=>exact Tv ⟨_,c,rfl⟩ ⟨_,x,rfl⟩ F.slot_list_lt F.entry_list_lt (F.args_list_lt_2 _ _) (EI false a d) ⟨c,x,nofun,q⟩ W
 |true=>exact Tv ⟨_,c,rfl⟩ ⟨_,x,rfl⟩ F.slot_list_gt F.entry_list_gt (F.args_list_gt_2 _ _) (EI true a d) ⟨c,x,nofun,q⟩ W
end
theorem EC{o:List O}(S:aE W o s)(e:qk v u=some r)(l:W.R v x)(j:W.R u y):∃a b it c k k2 xs d,x=.ref a/\y=.ref b/\s.heap.get? a=some (bL it k)/\s.heap.get? b=some (bL c k2)/\eG it.toList xs/\eG c.toList d/\r=bU xs d:=
 ax e fun p g e=>ax e fun q i e=>bq e fun h e=>fZ h fun f H=>by exact lR S (kb g:cM o v=some p) l fun a it k Y k1 k2=>lR S (kb i:cM o u=some q) j fun b c n Y k3 m=>cy e ⟨a,b,it,c,k,n,_,_,rfl,rfl,k1,k3,wn k2 f,wn m H,rfl⟩
theorem ER{k:Nat->bk->Prop}(W:rJ prog w A.in1 I f j 2 P k)(S:ai)(H:S∉f)(T:k 2 s.heap)(l:s.heap.get? S=some (bL #[v,v] c))
  (C:∀d m,(∀b o,b∉j->b≠S->s.heap.get? b=some o->d.get? b=some o)->R (.ok (.ret v)) { s with heap:=d,toks:=m }):dK (bO prog w) A (.builtin "min.loop" ⟨[.ref I,.none,.ref S],[]⟩) R s:=by
 refine fN F.entry_min_loop (aq (jG l rfl ?_));refine aq (nw (W.done s _ _ T fun d m a=>?_));refine aq (mi (a S _ (fun h=>H (W.sub _ h)) l) rfl (aq (k7 (ay ?_))));exact C _ m fun b o i g e=>(fg _ _ (bB g)).trans (a b o i e)
theorem QC{y:Nat->bk->Prop}(W:rJ prog w A.in1 I u q 2 P y)(S:ai)(H:S∉u){bt:ae->Bool}(T:y 1 s.heap)(l:s.heap.get? S=some (bL #[k,k] c))
  (x:∀(v:ae)(s':ak)(Q:ae->ak->Prop)(E:ae->ak->Prop),P 1 v->(∀b o,b∉q->s.heap.get? b=some o->s'.heap.get? b=some o)->Q (.bool (bt v)) s'->al (bO prog w) A.in1 (v6 .Lt v k) Q E s')
  (C:∀v d m,P 1 v->(∀b o,b∉q->b≠S->s.heap.get? b=some o->d.get? b=some o)->R (.ok (.ret (if bt v then v else k))) { s with heap:=d,toks:=m }):dK (bO prog w) A (.builtin "min.loop" ⟨[.ref I,.none,.ref S],[]⟩) R s:=by
 have n:(toString "min" ++ toString ".loop" : String) = "min.loop" := by rfl
 refine fN F.entry_min_loop (aq (jG l rfl ?_));refine aq (nw (W.item 1 s _ _ (ck _) T fun v d m hP p g=>?_));have r:=g S _ (fun h=>H (W.sub _ h)) l;refine(?_:al _ A.in1 (tryCatch _ _>>=_) _ _ _);refine aq (nw (eD (aq (x v _ _ _ hP g ?_))));refine aq (eD (wx ?_));refine aq (k7 (ay ?_));have fin:=fun d m=>C v d m hP;cases hb:bt v with
 |true=>
  rw[hb] at fin;simp only[if_true] at fin ⊢;refine aq ?_;refine mi r rfl (aq (k7 ?_));rw[n];refine ay ⟨gt F.plain_min_loop _,ER W S H (W.frame _ _ _ p fun b z o e=>?_) (eE _ r rfl) fun i t j=>?_⟩
  ·exact(fg _ _ (fun h:S=b=>H (by rw[h];exact z))).trans e
  ·exact fin i t fun b o a f e=>j b o a f ((fg _ _ (bB f)).trans (g b o a e))
 |false=>rw[hb] at fin;simp only[iY,if_false] at fin ⊢;refine aq (k7 ?_);rw[n];refine ay ⟨gt F.plain_min_loop _,ER W S H p r fun i t j=>?_⟩;exact fin i t fun b o a f e=>j b o a f (g b o a e)
theorem QB{G:Nat->bk->Prop}(W:rJ prog w A.in1 I n j 2 P G)(S:ai)(H:S∉n){bt:ae->ae->Bool}(T:G 0 s.heap)(l:s.heap.get? S=some (bL #[] c))
  (t:∀(u v:ae)(s':ak)(Q:ae->ak->Prop)(E:ae->ak->Prop),P 0 u->P 1 v->(∀b o,b∉j->b≠S->s.heap.get? b=some o->s'.heap.get? b=some o)->Q (.bool (bt v u)) s'->al (bO prog w) A.in1 (v6 .Lt v u) Q E s')
  (C:∀u v f m,P 0 u->P 1 v->(∀b o,b∉j->b≠S->s.heap.get? b=some o->f.get? b=some o)->R (.ok (.ret (if bt v u then v else u))) { s with heap:=f,toks:=m }):dK (bO prog w) A (.builtin "min.loop" ⟨[.ref I,.none,.ref S],[]⟩) R s:=by
 refine fN F.entry_min_loop (aq (jG l rfl ?_));refine aq (nw (W.item 0 s _ _ (pj _) T fun u f m hP B g=>?_));obtain r:=g S _ (fun h=>H (W.sub _ h)) l;refine(?_:al _ A.in1 (ni S (fun Y=>#[u,u])>>=_) _ _ _);refine aq ?_;refine mi r rfl ?_;rw[(by decide:(toString "min" ++ toString ".loop" : String) = "min.loop")];refine ay ⟨gt F.plain_min_loop _,QC (bt:=fun v=>bt v u) W S H (W.frame _ _ _ B fun b z o e=>?_) (eE _ r rfl) (fun v s' Q E i x q=>?_) fun v p D i y=>?_⟩;have kp:∀b o,b∉j->b≠S->s.heap.get? b=some o->(f.update S fun o=>{ o with data:=.seq #[u,u] (match o.data with|.seq _ k=>k+1|_=>0) }).get? b=some o:=fun b o a d e=>(fg _ _ (bB d)).trans (g b o a e)
 ·exact(fg _ _ (fun h:S=b=>H (by rw[h];exact z))).trans e
 ·exact t u v s' Q E hP i (fun b o a d e=>x b o a ((fg _ _ (bB d)).trans (g b o a e))) q
 ·exact C u v p D hP i fun b o a d e=>y b o a d ((fg _ _ (bB d)).trans (g b o a e))
theorem call_min_two(R:A.handled=none)(W:A.units+1<cLine)(w:s.heap.get? l=some (bL items m))(hit:items.toList=[.ref a,.ref b])(x:s.heap.get? a=some (bL it k))(y:s.heap.get? b=some (bL D k2))(z:eG it.toList xs)(B:eG D.toList t)
  {E:ae->ak->Prop} (q:∀d n,(∀c o,s.heap.get? c=some o->d.get? c=some o)->Q (if bU t xs then .ref b else .ref a) { s with heap:=d,toks:=n }):al (MD) A (call (.builtin "min") [.ref l]) Q E s:=by
 have I:items.size=2:=by rw[<- oX,hit];rfl
 have r:items[0]?=some (.ref a):=by rw[<- fE,hit];rfl
 have T:items[1]?=some (.ref b):=by rw[<- fE,hit];rfl
 refine LC F.kind_min F.plain_min F.entry_min (F.args_min1 _) (?_:al _ A.in1 _ _ _ s);refine iX rfl (nq ?_);refine wB (nu ⟨_,w,rfl,m,rfl⟩ ?_);have i:(s.heap.push { cls:=.type "list_iterator",data:=.fields #[.ref l,.int 0 0] }).IsListIter s.heap.objs.size l 0/\(s.heap.push { cls:=.type "list_iterator",data:=.fields #[.ref l,.int 0 0] }).IsList l items:=⟨⟨_,bF _ rfl,rfl,rfl⟩,⟨_,co _ _ _ _ w,rfl,m,rfl⟩⟩;have p:(s.heap.push { cls:=.type "list_iterator",data:=.fields #[.ref l,.int 0 0] }).objs.size=s.heap.objs.size+1:=li ..;have C:∀c o,s.heap.get? c=some o->(s.heap.push { cls:=.type "list_iterator",data:=.fields #[.ref l,.int 0 0] }).get? c=some o:=fun c o=>co _ _ _ _;generalize s.heap.push { cls:=.type "list_iterator",data:=.fields #[.ref l,.int 0 0] }=H at i C p ⊢;have keep:∀(d:bk),(∀b o,b∉[s.heap.objs.size]->b≠H.objs.size->(H.push (bL #[] 0)).get? b=some o->d.get? b=some o)->∀c o,s.heap.get? c=some o->d.get? c=some o:=fun d j c o e=>by refine j c o (by rw[pf];exact cQ (cG e)) (by rw[p];exact cQ (ph (cG e))) (bX _ (C c o e))
 refine wB (k8 ?_);refine ay ⟨gt F.plain_min_loop _,QB (bt:=fun Y Y=>bU t xs) (I▸(Bw (by trivial) s.heap.objs.size l (cQ (cG w)) items)) H.objs.size (fun h=>?_) ⟨i.1.at fun o=>bX _,i.2.at fun o=>bX _⟩ (bF _ rfl) (fun u v s' Q E f g j P=>?_) fun u v d n f g j=>?_⟩
 ·rw[p] at h;simp only[dP,A8,or_false] at h;rcases h with h|h
  ·exact absurd h (JF _)
  ·have:=cG w;rw[<- h] at this;exact absurd this (by simp)
 ·rw[r] at f;rw[T] at g;cases f;cases g;have kk:=keep s'.heap j;exact Gv false (by simpa using W) (kk _ _ y) (kk _ _ x) B z P
 ·rw[r] at f;rw[T] at g;cases f;cases g;exact q d n (keep d j)
theorem EL{k:Nat->bk->Prop}(W:rJ prog w A.in1 I f j 2 P k)(S:ai)(H:S∉f)(T:k 2 s.heap)(l:s.heap.get? S=some (bL #[v,v] c))
  (C:∀d m,(∀b o,b∉j->b≠S->s.heap.get? b=some o->d.get? b=some o)->R (.ok (.ret v)) { s with heap:=d,toks:=m }):dK (bO prog w) A (.builtin "max.loop" ⟨[.ref I,.none,.ref S],[]⟩) R s:=by
 refine fN F.entry_max_loop (aq (jG l rfl ?_));refine aq (nw (W.done s _ _ T fun d m a=>?_));refine aq (mi (a S _ (fun h=>H (W.sub _ h)) l) rfl (aq (k7 (ay ?_))));exact C _ m fun b o i g e=>(fg _ _ (bB g)).trans (a b o i e)
theorem Qn{y:Nat->bk->Prop}(W:rJ prog w A.in1 I u q 2 P y)(S:ai)(H:S∉u){bt:ae->Bool}(T:y 1 s.heap)(l:s.heap.get? S=some (bL #[k,k] c))
  (x:∀(v:ae)(s':ak)(Q:ae->ak->Prop)(E:ae->ak->Prop),P 1 v->(∀b o,b∉q->s.heap.get? b=some o->s'.heap.get? b=some o)->Q (.bool (bt v)) s'->al (bO prog w) A.in1 (v6 .Gt v k) Q E s')
  (C:∀v d m,P 1 v->(∀b o,b∉q->b≠S->s.heap.get? b=some o->d.get? b=some o)->R (.ok (.ret (if bt v then v else k))) { s with heap:=d,toks:=m }):dK (bO prog w) A (.builtin "max.loop" ⟨[.ref I,.none,.ref S],[]⟩) R s:=by
 have n:(toString "max" ++ toString ".loop" : String) = "max.loop" := by rfl
 refine fN F.entry_max_loop (aq (jG l rfl ?_));refine aq (nw (W.item 1 s _ _ (by decide) T fun v d m hP p g=>?_));have r:=g S _ (fun h=>H (W.sub _ h)) l;refine(?_:al _ A.in1 (tryCatch _ _>>=_) _ _ _);refine aq (nw (eD (aq (x v _ _ _ hP g ?_))));refine aq (eD (wx ?_));refine aq (k7 (ay ?_));have fin:=fun d m=>C v d m hP;cases hb:bt v with
 |true=>
  rw[hb] at fin;simp only[if_true] at fin ⊢;refine aq ?_;refine mi r rfl (aq (k7 ?_));rw[n];refine ay ⟨gt F.plain_max_loop _,EL W S H (W.frame _ _ _ p fun b z o e=>?_) (eE _ r rfl) fun i t j=>?_⟩
  ·exact(fg _ _ (fun h:S=b=>H (by rw[h];exact z))).trans e
  ·exact fin i t fun b o a f e=>j b o a f ((fg _ _ (bB f)).trans (g b o a e))
 |false=>rw[hb] at fin;simp only[iY,if_false] at fin ⊢;refine aq (k7 ?_);rw[n];refine ay ⟨gt F.plain_max_loop _,EL W S H p r fun i t j=>?_⟩;exact fin i t fun b o a f e=>j b o a f (g b o a e)
theorem Qm{G:Nat->bk->Prop}(W:rJ prog w A.in1 I n j 2 P G)(S:ai)(H:S∉n){bt:ae->ae->Bool}(T:G 0 s.heap)(l:s.heap.get? S=some (bL #[] c))
  (t:∀(u v:ae)(s':ak)(Q:ae->ak->Prop)(E:ae->ak->Prop),P 0 u->P 1 v->(∀b o,b∉j->b≠S->s.heap.get? b=some o->s'.heap.get? b=some o)->Q (.bool (bt v u)) s'->al (bO prog w) A.in1 (v6 .Gt v u) Q E s')
  (C:∀u v f m,P 0 u->P 1 v->(∀b o,b∉j->b≠S->s.heap.get? b=some o->f.get? b=some o)->R (.ok (.ret (if bt v u then v else u))) { s with heap:=f,toks:=m }):dK (bO prog w) A (.builtin "max.loop" ⟨[.ref I,.none,.ref S],[]⟩) R s:=by
 refine fN F.entry_max_loop (aq (jG l rfl ?_));refine aq (nw (W.item 0 s _ _ (pj _) T fun u f m hP B g=>?_));obtain r:=g S _ (fun h=>H (W.sub _ h)) l;refine(?_:al _ A.in1 (ni S (fun Y=>#[u,u])>>=_) _ _ _);refine aq ?_;refine mi r rfl ?_;rw[(by decide:(toString "max" ++ toString ".loop" : String) = "max.loop")];refine ay ⟨gt F.plain_max_loop _,Qn (bt:=fun v=>bt v u) W S H (W.frame _ _ _ B fun b z o e=>?_) (eE _ r rfl) (fun v s' Q E i x q=>?_) fun v p D i y=>?_⟩;have kp:∀b o,b∉j->b≠S->s.heap.get? b=some o->(f.update S fun o=>{ o with data:=.seq #[u,u] (match o.data with|.seq _ k=>k+1|_=>0) }).get? b=some o:=fun b o a d e=>(fg _ _ (bB d)).trans (g b o a e)
 ·exact(fg _ _ (fun h:S=b=>H (by rw[h];exact z))).trans e
 ·exact t u v s' Q E hP i (fun b o a d e=>x b o a ((fg _ _ (bB d)).trans (g b o a e))) q
 ·exact C u v p D hP i fun b o a d e=>y b o a d ((fg _ _ (bB d)).trans (g b o a e))
theorem call_max_two(R:A.handled=none)(W:A.units+1<cLine)(w:s.heap.get? l=some (bL items m))(hit:items.toList=[.ref a,.ref b])(x:s.heap.get? a=some (bL it k))(y:s.heap.get? b=some (bL D k2))(z:eG it.toList xs)(B:eG D.toList t)
  {E:ae->ak->Prop} (q:∀d n,(∀c o,s.heap.get? c=some o->d.get? c=some o)->Q (if bU xs t then .ref b else .ref a) { s with heap:=d,toks:=n }):al (MD) A (call (.builtin "max") [.ref l]) Q E s:=by
 have I:items.size=2:=by rw[<- oX,hit];rfl
 have r:items[0]?=some (.ref a):=by rw[<- fE,hit];rfl
 have T:items[1]?=some (.ref b):=by rw[<- fE,hit];rfl
 refine LC F.kind_max F.plain_max F.entry_max (F.args_max1 _) (?_:al _ A.in1 _ _ _ s);refine iX rfl (nq ?_);refine wB (nu ⟨_,w,rfl,m,rfl⟩ ?_);have i:(s.heap.push { cls:=.type "list_iterator",data:=.fields #[.ref l,.int 0 0] }).IsListIter s.heap.objs.size l 0/\(s.heap.push { cls:=.type "list_iterator",data:=.fields #[.ref l,.int 0 0] }).IsList l items:=⟨⟨_,bF _ rfl,rfl,rfl⟩,⟨_,co _ _ _ _ w,rfl,m,rfl⟩⟩;have p:(s.heap.push { cls:=.type "list_iterator",data:=.fields #[.ref l,.int 0 0] }).objs.size=s.heap.objs.size+1:=li ..;have C:∀c o,s.heap.get? c=some o->(s.heap.push { cls:=.type "list_iterator",data:=.fields #[.ref l,.int 0 0] }).get? c=some o:=fun c o=>co _ _ _ _;generalize s.heap.push { cls:=.type "list_iterator",data:=.fields #[.ref l,.int 0 0] }=H at i C p ⊢;have keep:∀(d:bk),(∀b o,b∉[s.heap.objs.size]->b≠H.objs.size->(H.push (bL #[] 0)).get? b=some o->d.get? b=some o)->∀c o,s.heap.get? c=some o->d.get? c=some o:=fun d j c o e=>by refine j c o (by rewrite[pf];exact cQ (cG e)) (by rw[p];exact cQ (ph (cG e))) (bX _ (C c o e))
 refine wB (k8 ?_);refine ay ⟨gt F.plain_max_loop _,Qm (A:=A) (bt:=fun Y Y=>bU xs t) (I▸(Bw (A:=A.in1) (by trivial) s.heap.objs.size l (cQ (cG w)) items)) H.objs.size (fun h=>?_) ⟨i.1.at fun o=>bX _,i.2.at fun o=>bX _⟩ (bF _ rfl) (fun u v s' Q E f g j P=>?_) fun u v d n f g j=>?_⟩
 ·rw[p] at h;simp only[dP,A8,or_false] at h;rcases h with h|h
  ·exact absurd h (JF _)
  ·have:=cG w;rw[<- h] at this;exact absurd this (by simp)
 ·rw[r] at f;rw[T] at g;cases f;cases g;have kk:=keep s'.heap j;exact Gv true (by simpa using W) (kk _ _ y) (kk _ _ x) B z P
 ·rw[r] at f;rw[T] at g;cases f;cases g;exact q d n (keep d j)
section
open AutoSeq1
theorem MG:jg jE "set.__iter__" = some Builtin.«frozenset.__iter__»:=xX (id' := "frozenset.__iter__") rfl rfl (by decide +kernel) (by kernel_rfl)
theorem MH:jg jE "set_iterator.__next__" = some Builtin.«set_iterator.__next__»:=nY rfl
theorem z0:lw "set_iterator" "__next__" "set_iterator.__next__" :=
 .of (owner := "set_iterator") (n := "__next__") rfl rfl rfl rfl
  (by decide) rfl
theorem Kp(a:ae):mF "set_iterator.__next__" ⟨[a],[]⟩:=by kernel_rfl
section
variable {prog:lq}{w:ew}{A:a8}{E:ae->ak->Prop}{s:ak}{a I:ai}{o:cS}{h:Int}{b:Bool}{ep j:Nat}{t:xe}
theorem ko{j:Type}{M:eF}{c:Prop}[Decidable c]{m k:bE j}{Q:j->ak->Prop}(q:¬ c)(h:al M A k Q E s):al M A (if c then m else k) Q E s:=by refine aa ?_ (if_neg q);exact h
end
noncomputable abbrev zX(a:ai)(p i ep:Nat):cS:={ cls:=.type "set_iterator",data:=.fields #[.int p 0,.int i 0,.ref a,.int 1 0,.int ep 0] }
theorem Pw{E:ae->ak->Prop}(p:s.heap.get? a=some o) (c:o.cls=.type "set") (hd:o.data=.set #[(h,.bool b)] ep t) (d:t.fits 1=true)
  (q:Q (.ref s.heap.objs.size) { s with heap:=s.heap.push (zX a 0 0 ep) }):al (bO prog w) A (io (.ref a)) Q E s:=by
 refine H9 ⟨o,p,c⟩ F.slot_set_iter (km F.slot_set_iter ⟨o,p,c⟩ MG ?_ (F.args_set_iter_1 _));refine(?_:al _ _ (We a>>=_) _ _ _);refine aq (aq (aq (qW p hd d (ay (ay ?_)))));refine aq (aq (qW p hd d ?_));refine aq (aq (AK (ay (ay ?_))));refine ko (fun c=>absurd ((kr _ _).mp c).2 (show ¬ ((!t.plain&&decide _)=true) by simp)) (?_:al _ _ (setEpoch a>>=_) _ _ _);refine aq (V8 p hd d ?_);refine aq (k8 (ay ⟨_,rfl, "set_iterator",_,⟨_,bF _ rfl,rfl⟩,z0.lookup,?_⟩));exact q
theorem RU{j:Type}(f:Nat->Nat)(x:j):pickOrder f #[x]=#[x]:=by refine(?_:(match [x][f 0 % 1]? with|some y=>pickOrder.go f 0 1 ([x].eraseIdx (f 0 % 1)) (#[].push y)|none=>#[])=_);rw[Nat.mod_one];rfl
theorem N6{t:xe}(o:t.fits 1=true):∃j,t.place=#[j]:=by
 rw[SetTable.fits,kr] at o;obtain⟨⟨l⟩,c⟩:∃x,t.place=x:=⟨_,rfl⟩
 match l,(c▸o.1) with
 |[j],_=>exact⟨j,c⟩
section
variable {prog:lq}{w:ew}{A:a8}{E:ae->ak->Prop}{s:ak}{a I:ai}{o:cS}{h:Int}{b:Bool}{ep j:Nat}{t:xe}
theorem oV{j:Type}{M:eF}{c:Prop}[Decidable c]{m k:bE j}{Q:j->ak->Prop}(q:c)(h:al M A m Q E s):al M A (if c then m else k) Q E s:=by refine aa ?_ (if_pos q);exact h
end
theorem Wa{E:ae->ak->Prop}(p:s.heap.get? a=some o)(hd:o.data=.set #[(h,.bool b)] ep t)(c:t.fits 1=true) (u:w.params.followText "set-order" = true) (q:Q #[(h,.bool b)] s):al (bO prog w) A (setWalk a) Q E s:=by refine aq (qW p hd c ?_);refine oV u (aq (AK (ay ?_)));refine aa ?_ (RU ..);exact q
def tK(w:ew)(t:xe)(p:Nat):Prop:=w.params.followText "set-order" = true∨JV t.place p=1
theorem Uf{E:ae->ak->Prop}{p i:Nat}(g:s.heap.get? a=some o)(hd:o.data=.set #[(h,.bool b)] ep t)(c:t.fits 1=true) (d:(w.params.followText "set-order" || t.led)=true) (D:(i=0/\p=0)∨(i=1/\tK w t p)){Q:Option (ae×Nat)->ak->Prop}
  (q:∀l,(i=0->tK w t l)->Q (if i=0 then some (.bool b,l) else none) s):al (bO prog w) A (setNext a p i ep) Q E s:=by
 refine aq (qW g hd c ?_);cases u:w.params.followText "set-order" with
 |true=>
  refine oV u (ko (by simp) ?_);refine aq (Wa g hd c u (ay ?_));rcases D with⟨rfl,rfl⟩|⟨rfl,_⟩
  ·exact q 0 fun Y=>.inl u
  ·exact q 0 fun z=>nomatch z
 |false=>
  obtain d:=u▸d;refine ko (by refine aa (aa ?_ u) (show(bO prog w).w=w from rfl);simp) (ko (show ¬ ((!t.plain&&decide _)=true) by simp) ?_);obtain⟨j,f⟩:=N6 c;refine aq (ko (by simp[show t.led=true from d]) (ay (ay ?_)));rcases D with⟨rfl,rfl⟩|⟨rfl,k|e⟩
  ·refine aa ?_ f;exact q (j+1) fun Y=>.inr (by refine aa ?_ f;simp[JV,Wj])
  ·obtain k:=u▸k;trivial
  ·refine aa ?_ e;exact q 0 fun z=>nomatch z
theorem E4{E:ae->ak->Prop}(u:A.handled=none)(c:s.heap.get? I=some (zX a p i ep))(f:s.heap.get? a=some o)(hd:o.data=.set #[(h,.bool b)] ep t)(e:t.fits 1=true) (g:(w.params.followText "set-order" || t.led)=true) (D:(i=0/\p=0)∨(i=1/\tK w t p))
  (q:∀j d,(i=0->tK w t j/\d.get? I=some (zX a j 1 ep))->jL I s.heap d->Q (if i=0 then some (.bool b) else none) { s with heap:=d }):al (bO prog w) A (gc (.ref I)) Q E s:=by
 refine aq (tC (oQ ⟨_,c,rfl⟩ z0 (km z0 ⟨_,c,rfl⟩ MH ?_ (Kp _))));refine(?_:al _ _ (fieldsOf _>>=_) _ _ _);refine aq (wpAny_fieldsOf c rfl ?_);refine aq (aq (qW f hd e (ay ?_)));refine aq (Uf f hd e g D fun j k=>?_);rcases D with⟨rfl,rfl⟩|⟨rfl,_⟩
 ·refine aq (qV c rfl (by simp) ?_);refine aq (qV (eE _ c rfl) rfl (by simp) (ay ⟨_,rfl,ay (q j _ (fun z=>⟨k z,?_⟩) ?_)⟩))
  ·exact eE _ (eE _ c rfl) rfl
  ·exact((ku ..).trans (ku ..)).extBut
 ·have F:¬ ((1:Nat)=0):=by decide
  refine aq (qV c rfl (by simp) ?_);refine aq (aq (m:=Dz _ _) (mf (a:=rI) rfl ?_));refine k8 ?_ (by size_fits);refine aq (H3 ?_);refine aa ?_ u;refine aq (ay (Ie ?_));refine aq (tF ⟨_,bF _ rfl,rfl⟩ yI ?_);exact ay (q 0 _ (fun z=>absurd z F) (((ku ..).extBut.push _).push _))
theorem GR:SetB:=fun A u W st s S b x i Q q=>by refine TQ x i ?_;intro a o f hex m ep t hd e g;have p:=S.frozen _ _ f;refine wB (wB (tG ⟨o,p,hex.1⟩ F.slot_set_iter.lookup ?_));refine ay (er (Pw p hex.1 hd e ?_));refine er (wB (E4 u (bF _ rfl) (co _ _ _ _ p) hd e g (.inl ⟨rfl,rfl⟩) fun r k h j=>?_));refine er (ay (ay ?_));refine er (E4 u ((h rfl).2) (j _ _ (cQ (cG p)) (co _ _ _ _ p)) hd e g (.inr ⟨rfl,((h rfl).1)⟩) fun p2 l Y n=>?_);refine ay (q _ (fun c oc d=>?_) rfl rfl);exact n _ _ (cQ (cG d)) (j _ _ (cQ (cG d)) (co _ _ _ _ d))
end
theorem av.new(T:av fr W Xm s W' s')(h:∀a∈Xm,a∈Wp∨s.heap.get? a=none):av fr W Wp s W' s':=
 ⟨T.F,T.ρ,T.newF,T.newρ,fun a o e g k=>T.pres a o e g fun z=>(h a z).elim k fun q=>(am (aU e q)),T.alive,T.os⟩
structure pk(A:a8)(Wr:List aL)(U:bj)(Wp:List ai)(σ:S)(A':a8)(I D:ai)(X:List ai)(inv:List V->Wd->ak->Prop):Prop where
 done:∀W s Q,ar A W Wp Wr U σ s->inv [] W s->(∀W' s',ar A W' Wp Wr U σ s'->av (aC A) W X s W' s'->Q none s')->al (MD) A' (gc (.ref I)) Q aT s
 item:∀W s v r Q,ar A W Wp Wr U σ s->inv (v::r) W s->(∀x W' s',ar A W' Wp Wr U σ s'->av (aC A) W X s W' s'->W'.R v x->inv r W' s'->Q (some x) s')->al (MD) A' (gc (.ref I)) Q aT s
 keep:∀W s W' s' r,ar A W Wp Wr U σ s->inv r W s->av (aC A) W [D] s W' s'->(∀b o,b≠D->s.heap.get? b=some o->s'.heap.get? b=some o)->inv r W' s'
 out:D∉X
def rq(A:a8)(Wr:List aL)(U:bj)(Wp:List ai)(σ:S)(W0:Wd)(s0:ak)(D:ai)(Xm:List ai)(inv:List V->Wd->ak->Prop)(all:List V)(k:Nat)(s:ak):Prop:=∀C:Prop,(∀W acc rest,ar A W Wp Wr U σ s->av (aC A) W0 Xm s0 W s->inv rest W s->aV W Wp D s.heap->gg W acc s.heap D->acc++rest=all->k=rest.length->C)->C
theorem rq.mk{g:a8}{i:List aL}{j:bj}{l:List ai}{B:S}{n:Wd}{o:ai}{y:List ai}{I:List V->Wd->ak->Prop}{p:List V}{q:Nat}{s:ak}:∀W acc rest,ar g W l i j B s->av (aC g) n y w W s->I rest W s->aV W l o s.heap->gg W acc s.heap o->acc++rest=p->q=rest.length->rq g i j l B n w o y I p q s:=fun d z m x3 x4 h f u c e C q=>q d z m x3 x4 h f u c e
theorem Qc{R:pA->ak->Prop}(N:pk A Wr U Wp d A' I D X inv)(g:∀a∈X,a∈Xm)(H:D∈Xm)(l:all.length<=sizeMax)(h:rq A Wr U Wp d f w D Xm inv all k s)
  (fin:∀W' s',ar A W' Wp Wr U d s'->av (aC A) f Xm w W' s'->aV W' Wp D s'.heap->gg W' all s'.heap D->R (.ok (.ret res)) s'):
  al (MD) A' (gc (.ref I)) (fun o s1=>match o with
   |none=>R (.ok (.ret res)) s1
   |some v=>al (MD) A' (ni D (·.push v)) (fun Y n=>∃m,m<k/\rq A Wr U Wp d f w D Xm inv all m n) (fun e s'=>R (.error e) s') s1) (fun e s'=>R (.error e) s') s:=by
 refine h _ fun W acc rest C T j O i B F=>?_;obtain rfl:=B;obtain rfl:=F;clear h;cases rest with
 |nil=>exact wN (N.done W s _ C j fun W' s' c b=>((dT ..)▸fin) W' s' c (T.trans (b.mono g)) (O.step b) (nO.step i (O.on N.out) b)) fun Y Y q=>q
 |cons v r=>refine wN (N.item W s v r _ C j fun x z s1 c b u Q=>?_) fun Y Y q=>q;refine F3 c (O.step b) (nO.step i (O.on N.out) b) u (by rw[cP] at l;exact dW (hw ..) l) fun n t y p P hk=>⟨r.length,by simp,(.mk z _ r t ((T.trans (b.mono g)).trans (y.mono (by simpa using H))) (N.keep _ _ _ _ _ c Q y hk) p P (by simp) rfl)⟩
theorem EF(N:pk A Wr U Wp b A'.in1 I D X inv)(f:∀a∈X,a∈Xm)(m:D∈Xm)(d:all.length<=sizeMax)(h:rq A Wr U Wp b c w D Xm inv all k s)
  (fin:∀W' s',ar A W' Wp Wr U b s'->av (aC A) c Xm w W' s'->aV W' Wp D s'.heap->gg W' all s'.heap D->R (.ok (.ret q)) s'):
  dK (MD) A' (.builtin "list.extend.loop" ⟨[.ref D,.ref I,q],[]⟩) R s:=
 Il _ (fun k s h=>Qc N f m d h fin) k s h
theorem Qb(i:nJ T)(x:s.TypeIs (.ref I) T)(C:ar A W Wp Wr U e s)(H:∀W' s',av (aC A) W [s.heap.objs.size] s W' s'->(∀b o,s.heap.get? b=some o->s'.heap.get? b=some o)->inv all W' s')
  (WX:∀(d:bk),(∀b o,s.heap.get? b=some o->d.get? b=some o)->∀(Q:ae->ak->Prop)(E:ae->ak->Prop),Q (.ref I) { s with heap:=d }->al (MD) A.in1.in1 (io (.ref I)) Q E { s with heap:=d })
  (N:pk A Wr U Wp e A.in1.in1 I s.heap.objs.size X inv) (D:∀a∈X,a∈Wp∨w.heap.get? a=none) (n:av (aC A) p Wp w W s) (P:all.length<=sizeMax)
  (q:∀y W' s',ar A W' Wp Wr U e s'->av (aC A) p Wp w W' s'->W'.R (.lst all) y->Q y s'):al (MD) A (call (.type "list") [.ref I]) Q aT s:=by
 refine cV (ii C (bG _)) fun t u v=>Ik i x WX fun d R j m=>oA (C.st.keeps (s':={ s with heap:=d }) j C.st.gens rfl) fun h c=>EF (Xm:=s.heap.objs.size::(X++Wp)) N (fun a l=>by simp[l]) (.head _) P (.mk W [] all (ar.lift C h c) ((n.tu c).mono (fun a l=>by simp[l])) (H _ _ (c.up) j) ⟨t,u,v,_,m⟩ ⟨by simp,#[],R,m,by rfl⟩ rfl rfl) fun W' s' r k f F=>?_;obtain⟨W3,g,z,B⟩:=DP r (k.new fun a l=>by
  simp only[dP,mx] at l ⊢;rcases l with l|l|l
  ·exact .inl (.inl l)
  ·exact(D a l).imp_left .inr
  ·exact .inl (.inr l)) f F (n.gone (bG _))
 exact⟨rfl,q _ _ _ g z B⟩
theorem ar.to(R:ar A W Wp Wr U b s)(h:a.frames=A.frames):ar a W Wp Wr U b s:=
 ⟨R.st,R.act,R.actF,R.actO,R.actS,R.stk.imp fun _=>.imp_left h.trans⟩
theorem L7(i:nJ T)(B:s.TypeIs (.ref I) T)(C:ar A W Wp Wr U f s)(hi:∀W' s',av (aC A) W [s.heap.objs.size] s W' s'->(∀b o,s.heap.get? b=some o->s'.heap.get? b=some o)->inv all W' s')
  (WX:∀(d:bk),(∀b o,s.heap.get? b=some o->d.get? b=some o)->∀(Q:ae->ak->Prop)(E:ae->ak->Prop),Q (.ref I) { s with heap:=d }->al (MD) A'.in1 (io (.ref I)) Q E { s with heap:=d })
  (N:pk A Wr U Wp f A'.in1 I s.heap.objs.size X inv) (D:∀a∈X,a∈Wp∨w.heap.get? a=none) (n:av (aC A) j Wp w W s) (hl:all.length<=sizeMax)
  (q:∀v W' s',ar A W' Wp Wr U f s'->av (aC A) j Wp w W' s'->W'.Rs all v->Q v s'):al (MD) A' (collect (.ref I)) Q aT s:=by
 refine cV (ii C (bG _)) fun t u x=>aH B fun oI H hcI=>?_;refine wB (wpAny_runValue (fN F.entry_proto_collect ?_));refine wB (k8 (ay ⟨gt F.plain_list_iadd _,fN F.entry_list_iadd ?_⟩));have k:∀b o,s.heap.get? b=some o->(s.heap.push (bL ([]:List ae).toArray 0)).get? b=some o:=fun b o=>co _ _ _ _;refine Ij (R:=tA _ _) i (bB (cQ (cG H))) ⟨oI,k _ _ H,hcI⟩ (WX _ k) (bF _ rfl) fun d p hk m=>?_;have c:=fun b o e=>hk b o (cQ (cG e)) (k b o e);refine oA (C.st.keeps (s':={ s with heap:=d }) c C.st.gens rfl) fun g y=>EF (Xm:=s.heap.objs.size::(X++Wp)) N (fun a l=>by simp[l]) (.head _) hl (.mk W [] all (ar.lift C g y) ((n.tu y).mono (fun a l=>by simp[l])) (hi _ _ (y.up) c) ⟨t,u,x,_,m⟩ ⟨by simp,#[],p,m,by rfl⟩ rfl rfl) fun W' s' r h O1 WY=>vu WY fun Y items c2 z P=>(?_:al _ A' _ _ _ s');refine wB (kn z (ay (q _ _ _ r (h.new fun a l=>?_) P)));simp only[dP,mx] at l;rcases l with l|l|l
 ·exact .inr (aa (n.gone (bG _)) l)
 ·exact D a l
 ·exact .inl l
namespace X
theorem ET:mroOf (.type "filter")=pure [.type "filter",.type "object"]:=by kernel_rfl
theorem sub_filter:iP (.type "filter") (.type "filter")=pure true:=by kernel_rfl
theorem Qh:fy (.type "filter") "__new__" = pure (some (.builtin "filter.__new__")):=by kernel_rfl
theorem Ux:lw "filter" "__init__" "object.__init__" :=
 .of (owner := "object") (n := "__init__") rfl rfl rfl rfl
  (by decide) rfl
theorem called_filter:TypeCalled "filter" "filter.__new__" "object.__init__" :=
 ⟨by decide +kernel,by decide +kernel,⟨_,_,ET⟩,madeBy_type ET Qh (by decide +kernel),by decide +kernel,by kernel_rfl,Ux⟩
theorem typeCall_filter(a b:ae):checkTypeCall "filter" ⟨[a,b],[]⟩=pure ():=by kernel_rfl
theorem newCall_filter(a b:ae):checkBuiltinCall "filter.__new__" ⟨[.type "filter",a,b],[]⟩=pure ():=by kernel_rfl
theorem entry_filter_new:jg jE "filter.__new__" = some Builtin.«filter.__new__»:=nY rfl
theorem slot_filter_iter:lw "filter" "__iter__" "filter.__iter__" :=
 .of (owner := "filter") (n := "__iter__") rfl rfl rfl rfl
  (by decide) rfl
theorem args_filter_iter(a:ae):mF "filter.__iter__" ⟨[a],[]⟩:=by kernel_rfl
theorem slot_filter_next:lw "filter" "__next__" "filter.__next__" :=
 .of (owner := "filter") (n := "__next__") rfl rfl rfl rfl
  (by decide) rfl
theorem entry_filter_next:jg jE "filter.__next__" = some Builtin.«filter.__next__»:=nY rfl
theorem args_filter_next(a:ae):mF "filter.__next__" ⟨[a],[]⟩:=by kernel_rfl
theorem plain_filter_next:plainId "filter.__next__" = true:=by decide +kernel
theorem len_filter:fy (.type "filter") "__len__" = pure none:=by kernel_rfl
theorem hint_filter:fy (.type "filter") "__length_hint__" = pure none:=by kernel_rfl
theorem EU:mroOf (.type "map")=pure [.type "map",.type "object"]:=by kernel_rfl
theorem sub_map:iP (.type "map") (.type "map")=pure true:=by kernel_rfl
theorem Qi:fy (.type "map") "__new__" = pure (some (.builtin "map.__new__")):=by kernel_rfl
theorem Uy:lw "map" "__init__" "object.__init__" :=
 .of (owner := "object") (n := "__init__") rfl rfl rfl rfl
  (by decide) rfl
theorem called_map:TypeCalled "map" "map.__new__" "object.__init__" :=
 ⟨by decide +kernel,by decide +kernel,⟨_,_,EU⟩,madeBy_type EU Qi (by decide +kernel),by decide +kernel,by kernel_rfl,Uy⟩
theorem typeCall_map(a b:ae):checkTypeCall "map" ⟨[a,b],[]⟩=pure ():=by kernel_rfl
theorem newCall_map(a b:ae):checkBuiltinCall "map.__new__" ⟨[.type "map",a,b],[]⟩=pure ():=by kernel_rfl
theorem entry_map_new:jg jE "map.__new__" = some Builtin.«map.__new__»:=nY rfl
theorem slot_map_iter:lw "map" "__iter__" "map.__iter__" :=
 .of (owner := "map") (n := "__iter__") rfl rfl rfl rfl
  (by decide) rfl
theorem args_map_iter(a:ae):mF "map.__iter__" ⟨[a],[]⟩:=by kernel_rfl
theorem slot_map_next:lw "map" "__next__" "map.__next__" :=
 .of (owner := "map") (n := "__next__") rfl rfl rfl rfl
  (by decide) rfl
theorem entry_map_next:jg jE "map.__next__" = some Builtin.«map.__next__»:=nY rfl
theorem args_map_next(a:ae):mF "map.__next__" ⟨[a],[]⟩:=by kernel_rfl
theorem Wm:plainId "map.__next__" = true:=by decide +kernel
theorem len_map:fy (.type "map") "__len__" = pure none:=by kernel_rfl
theorem hint_map:fy (.type "map") "__length_hint__" = pure none:=by kernel_rfl
theorem entry_filter_iter:jg jE "filter.__iter__" = some Builtin.«dict_keyiterator.__iter__»:=
 xX (id' := "dict_keyiterator.__iter__") rfl rfl (by decide +kernel) (by kernel_rfl)
theorem entry_map_iter:jg jE "map.__iter__" = some Builtin.«dict_keyiterator.__iter__»:=
 xX (id' := "dict_keyiterator.__iter__") rfl rfl (by decide +kernel) (by kernel_rfl)
end X
section
open AutoSeq1 (wpAny_loadPart')
noncomputable abbrev sq(f:ae)(J:ai):cS:={ cls:=.type "filter",data:=.fields #[f,.ref J] }
noncomputable abbrev qo(f:ae)(T:ai):cS:={ cls:=.type "map",data:=.fields #[.ref T,f] }
noncomputable abbrev sJ(l:ai):cS:={ cls:=.type "list_iterator",data:=.fields #[.ref l,.int 0 0] }
theorem Qv(f:ae)(l:ai)(items:Array ae)(n:Nat):
  Meets (Builtin.«filter.__new__» ⟨[.type "filter",f,.ref l],[]⟩) (fun Y R s=>s.heap.get? l=some { cls:=.type "list",data:=.seq items n } /\
   R (.ok (.ret (.ref (s.heap.push (sJ l)).objs.size))) { s with heap:=(s.heap.push (sJ l)).push (sq f s.heap.objs.size) }):=
 .of_wp fun prog w A R s h=>by
  obtain⟨e,g,d,m,os⟩:=s;obtain⟨c,h⟩:=h;have k:=X.sub_filter;have a:Heap.IsList (JW ⟨e,g,d,m,os⟩) l items:=⟨_,c,rfl,n,rfl⟩
  wp_walk using c9 c,nu a
  exact⟨_,rfl,h⟩
theorem Qw(f:ae)(l:ai)(items:Array ae)(n:Nat):
  Meets (Builtin.«map.__new__» ⟨[.type "map",f,.ref l],[]⟩) (fun Y R s=>s.heap.get? l=some { cls:=.type "list",data:=.seq items n } /\
   R (.ok (.ret (.ref ((s.heap.push (sJ l)).push { cls:=.type "tuple",data:=.seq #[.ref s.heap.objs.size] }).objs.size))) { s with heap:=((s.heap.push (sJ l)).push { cls:=.type "tuple",data:=.seq #[.ref s.heap.objs.size] }).push (qo f (s.heap.push (sJ l)).objs.size) }):=
 .of_wp fun prog w A R s h=>by
  obtain⟨e,g,d,m,os⟩:=s;obtain⟨c,h⟩:=h;have k:=X.sub_map;have a:Heap.IsList (JW ⟨e,g,d,m,os⟩) l items:=⟨_,c,rfl,n,rfl⟩
  wp_walk using c9 c,nu a
  exact⟨_,rfl,h⟩
end
theorem P8{E:ae->ak->Prop}(hit:s.heap.IsListIter it l i)(c:s.heap.IsList l items)(b:items[i]?=some x)(g:∀d,d.IsListIter it l (i+1)->gz it s.heap d->Q (some x) { s with heap:=d }):
  al (bO prog w) A (callSpecial? (.ref it) "__next__") Q E s:=by
 refine cw (id hit) fun o p q hd=>sO c fun n f Y nl j=>oQ hit.typeIs zZ (km zZ hit.typeIs xY ?_ (Kn _));refine(?_:al _ _ (mM _ 0>>=_) _ _ s);refine aq (fB p hd (x:=.ref l) rfl (ko iZ ?_));refine aq (fB p hd (x:=.int i 0) rfl (aq (jG f j ?_)));simp only[rn,b];refine aq (qV p hd (by simp) (ay ⟨x,rfl,g _ ?_ (ku ..)⟩));exact⟨_,eE _ p (t0 (nK hd _)),(JG ..).trans q,by refine aa ?_ (nK hd ..);rfl⟩
theorem Ey{E:ae->ak->Prop}(u:A.handled=none)(hit:s.heap.IsListIter it l i)(c:s.heap.IsList l items)(b:items[i]?=none)
  (k:∀d e,jL it s.heap d->(∃o,d.get? it=some o)->(∃o,d.get? e=some o/\o.cls=.type "StopIteration")->E (.ref e) { s with heap:=d }):al (bO prog w) A (callSpecial? (.ref it) "__next__") Q E s:=by
 refine cw (id hit) fun o p q hd=>sO c fun n f Y nl j=>oQ hit.typeIs zZ (km zZ hit.typeIs xY ?_ (Kn _));refine(?_:al _ _ (mM _ 0>>=_) _ _ s);refine aq (fB p hd (x:=.ref l) rfl (ko iZ ?_));refine aq (fB p hd (x:=.int i 0) rfl (aq (jG f j ?_)));simp only[rn,b];refine aq (nv (aq (qV p hd (by simp) ?_)));refine aq (aq (m:=Dz _ _) (mf (a:=rI) rfl ?_));refine k8 ?_ (by size_fits);refine aq (H3 ?_);refine aa ?_ u;exact aq (ay (Ie (k _ _ (((ku ..).extBut.push _).push _) ⟨_,bX _ (bX _ (eE _ p (t0 (nK hd _))))⟩ ⟨_,bF _ rfl,rfl⟩)))
noncomputable abbrev Up:Manifest.Signature:=⟨.oneArg, "set.__contains__", "__contains__",.self,[⟨"object",.posOnly,true⟩]⟩
theorem Ko(a:ai)(x:ae):Bind.checkArgs "set.__contains__" { Up with full:=s!"{Bind.lastOf "set"}.{Bind.lastOf "set.__contains__"}" } ⟨[.ref a,x],[]⟩=pure ():=by kernel_rfl
theorem QH:iP (.type "set") (.type "module")=pure false:=by kernel_rfl
theorem LQ{E:ae->ak->Prop}(p:s.heap.get? a=some o) (b:o.cls=.type "set") (hd:o.data=.set es ep d) (q:Q () s):al (bO prog w) A (xL "set.__contains__" ⟨[.ref a,x],[]⟩) Q E s:=by delta xL;refine aq (tF ⟨o,p,b⟩ QH ?_);refine ko (by decide) (aq (aq (kn p (ay ?_))));refine aa ?_ hd;refine ko iZ (aq (Ig ⟨o,p,b⟩ ?_));exact mf (Ko a x) q
theorem SR(a:ai)(x:ae):(AS "set.__contains__" ⟨[.ref a,x],[]⟩).quiet=true:=wE _ (by decide +kernel)
theorem LD{E:ae->ak->Prop}{S:Str->Bool} (hb:s.heap.get? b=some (hX "set.__contains__" (.ref a))) (l:s.heap.SetOf (strKind prog w) a S n) (q:Q (.bool (S k)) { s with toks:=s.toks+1 }):al (bO prog w) A (call (.ref b) [.str k t]) Q E s:=by refine vw (id l) fun o es ep d p hex hd Y=>kl (uu ?_);refine aq (kn hb ?_);refine aq (LQ p hex.1 hd (aq (ay (ay ⟨SR a _,fN entry_set_contains ?_⟩))));delta Builtin.«frozenset.__contains__» Iw;refine aa ?_ (bind_assoc ..);refine aq (ay (aq (ay (aq (nw (eD ?_))))));refine aq ((strKind prog w).pyHash (Hc _ _ k t) (aq (wpAny_setFind_of (s:={ s with toks:=s.toks+1 }) (Hc _ _ k t) rfl l fun r c=>ay ?_)));refine(?_:al _ _ (ret (nN r.isSome)) _ _ _);refine aa ?_ c;exact ay q
noncomputable def lH(S:Str->Bool):List Str->Option (Str×List Str)
 |[]=>none
 |x::r=>if S x then some (x,r) else lH S r
theorem U5{I:Array ae}(h:eG (I.toList.drop i) (x::r)):∃t,I[i]?=some (.str x t)/\eG (I.toList.drop (i+1)) r:=by
 generalize hd:I.toList.drop i=d at h;cases h with
 |@cons _ t vs _ h=>exact⟨t,by refine aU ?_ (fE);exact((iM hd).1),by refine aa ?_ ((iM hd).2);exact h⟩
theorem U7{I:Array ae}(h:eG (I.toList.drop i) []):I[i]?=none:=by generalize hd:I.toList.drop i=d at h;cases h;refine aU ?_ (fE);exact fX (List.drop_eq_nil_iff.mp hd)
def ri(R:pA->ak->Prop)(J l:ai)(items:Array ae)(s:ak):Option (Str×List Str)->Prop
 |none=>∀h' e tk,jL J s.heap h'->(∃o,h'.get? J=some o)->(∃o,h'.get? e=some o/\o.cls=.type "StopIteration")->R (.error (.ref e)) { s with heap:=h',toks:=tk }
 |some (x,r)=>∀t j h' tk,eG (items.toList.drop j) r->h'.IsListIter J l j->jL J s.heap h'->R (.ok (.ret (.str x t))) { s with heap:=h',toks:=tk }
theorem ri.step(q:ri R J l items s o)(b:jL J s.heap h):ri R J l items { s with heap:=h,toks:=m } o:=by
 match o,q with
 |none,q=>exact fun d e m k=>q d e m fun c Q a e=>k c Q a (b c Q a e)
 |some (x,r),q=>exact fun t j d m k1 k2 k=>q t j d m k1 k2 fun c Q a e=>k c Q a (b c Q a e)
section
variable {prog:lq}{w:ew}{I J b a l:ai}{S:Str->Bool}{n m:Nat}{items:Array ae}
structure o6(prog:lq)(w:ew)(I J b a l:ai)(S:Str->Bool)(n m:Nat)(items:Array ae)(h:bk):Prop where
 fI:h.get? I=some (sq (.ref b) J)
 fb:h.get? b=some (hX "set.__contains__" (.ref a))
 fa:h.SetOf (strKind prog w) a S n
 fl:h.get? l=some (bL items m)
 out:J≠I/\J≠b/\J≠a/\J≠l
end
theorem o6.step{S:Str->Bool}(F:o6 prog w I J b a l S n m items h)(j:jL J h d):o6 prog w I J b a l S n m items d:=
 ⟨j _ _ (bB F.out.1) F.fI,j _ _ (bB F.out.2.1) F.fb,let⟨o,es,ep,t,c,H⟩:=F.fa;⟨o,es,ep,t,j _ _ (bB F.out.2.2.1) c,H⟩,j _ _ (bB F.out.2.2.2) F.fl,F.out⟩
theorem NY{S:Str->Bool}(u:A.handled=none):∀(xs:List Str)(i:Nat)(s:ak),o6 prog w I J b a l S n m items s.heap->s.heap.IsListIter J l i->eG (items.toList.drop i) xs->ri R J l items s (lH S xs)->
  al (bO prog w) A.in1 (Builtin.«filter.__next__» ⟨[.ref I],[]⟩) (fun fin s'=>match fin with|.done f=>R (.ok f) s'|.again g=>g.quiet=true/\dK (bO prog w) A g R s') (fun e s'=>R (.error e) s') s:=by
 intro xs;induction xs with
 |nil=>intro i s F hit c q;refine(?_:al _ _ (mM _ 0>>=_) _ _ s);refine aq (fB F.fI rfl (x:=.ref b) rfl (aq (fB F.fI rfl (x:=.ref J) rfl (aq ?_))));exact Ey u hit ⟨_,F.fl,rfl,m,rfl⟩ (U7 c) fun h e=>q h e s.toks
 |cons x r k=>
  intro i s F hit c q;refine aH (U5 c) fun t c Q=>(?_:al _ _ (mM _ 0>>=_) _ _ s);refine aq (fB F.fI rfl (x:=.ref b) rfl (aq (fB F.fI rfl (x:=.ref J) rfl (aq ?_))));refine P8 hit ⟨_,F.fl,rfl,m,rfl⟩ c fun h k1 k2=>?_;obtain d:=F.step k2.extBut;refine aq (eD (ko iZ (aq (LD d.fb d.fa (eD (wx ?_))))));unfold lH at q;cases j:S x with
  |true=>exact ay ((j▸q) t _ _ _ Q k1 k2.extBut)
  |false=>obtain q:=j▸q;refine ay ⟨gt X.plain_filter_next _,fN X.entry_filter_next ?_⟩;exact k _ _ d k1 Q (ri.step (s:=s) q k2.extBut)
section
variable {W:Wd}{s:ak}{Wp:List ai}{I J b a l D:ai}{S:Str->Bool}{n m:Nat}{items:Array ae}
inductive AW(Wp:List ai)(D I J b a l:ai)(S:Str->Bool)(n m:Nat)(items:Array ae)(rest:List V)(W:Wd)(s:ak):Prop
 |mk:∀xs i,o6 pw wd I J b a l S n m items s.heap->s.heap.IsListIter J l i->eG (items.toList.drop i) xs->rest=(xs.filter S).map .str->AW Wp D I J b a l S n m items rest W s
structure AV(Wp:List ai)(D I J b a l:ai)(S:Str->Bool)(n m:Nat)(items:Array ae)(rest:List V)(W:Wd)(s:ak):Prop where
 ex:AW Wp D I J b a l S n m items rest W s
 own:aV W Wp J s.heap
 DI:D≠I/\D≠J/\D≠b/\D≠a/\D≠l
end
theorem Dv{S:Str->Bool}:∀xs:List Str,match lH S xs with|none=>xs.filter S=[]|some (x,r)=>xs.filter S=x::r.filter S:=by
 intro p;induction p with
 |nil=>rfl
 |cons x r I=>
  unfold lH;cases h:S x with
  |true=>simp[h]
  |false=>refine aa ?_ i5;refine aa ?_ h;trivial
theorem E2{S:Str->Bool}(u:A'.handled=none)(F:o6 pw wd I J b a l S n m items s.heap)(hit:s.heap.IsListIter J l i)(g:eG (items.toList.drop i) xs)
  (q:∀o d c,jL J s.heap d->match lH S xs with|none=>(∃o,d.get? J=some o)->o=none->W o { s with heap:=d,toks:=c }|some (x,r)=>∀t j,o=some (.str x t)->eG (items.toList.drop j) r->d.IsListIter J l j->W o { s with heap:=d,toks:=c }):al (MD) A' (gc (.ref I)) W aT s:=by
 refine wB (tC (oQ ⟨_,F.fI,rfl⟩ X.slot_filter_next (kl (pQ X.slot_filter_next.plain X.entry_filter_next (X.slot_filter_next.check _ _ _ _ _ _ _ _ ⟨_,F.fI,rfl⟩ (X.args_filter_next _) ?_)))));refine NY (R:=tA _ _) u xs i s F hit g ?_;cases f:lH S xs with
 |none=>intro d e c k1 k2 k3;refine wB (tF k3 yI ?_);exact ay ((f▸q) none d c k1 k2 rfl)
 |some p=>exact fun t j d c k1 k2 k3=>ay ((f▸q) _ d c k3 t j rfl k1 k2)
section
variable {A:a8}{W:Wd}{s:ak}{Wr:List aL}{U:bj}{Wp:List ai}{σ:S}{J b a:ai}{R:pA->ak->Prop}{S:Str->Bool}{n:Nat}
theorem sQ(R:ar A W Wp Wr U σ s)(O:aV W Wp J s.heap)(hit:s.heap.IsListIter J f i)(j:jL J s.heap d)(e:∃o,d.get? J=some o):ar A W Wp Wr U σ { s with heap:=d,toks:=tk }/\av (aC A) W [J] s W { s with heap:=d,toks:=tk }:=by refine oA (zD R.st O O (fun b o z Y=>j b o z) e e) fun a T=>⟨sY R O O (fun b hb=>?_) a T,T.mono (by simp)⟩;rw[or_self] at hb;clear O j e T;subst hb;exact cw hit fun o h Y H=>⟨o,h,fun es n z=>by rw[H] at z;trivial⟩
end
theorem N1{S:Str->Bool}(x:A'.handled=none)(hDJ:D≠J):pk A Wr U Wp σ A' I D [J] (AV Wp D I J b a l S n m items) where
 done:=fun W s Q R h q=>by
  refine hG fun C kk=>?_;obtain⟨xs,i,F,hit,e,c⟩:=h.ex;refine kk (E2 x F hit e fun o h' tk k=>?_);cases f:lH S xs with
  |some p=>obtain c:=(f▸(Dv xs))▸c;trivial
  |none=>rintro hJ rfl;obtain⟨u,T⟩:=sQ R h.own hit k hJ;exact q _ _ u T
 item:=fun W s v r Q R h q=>by
  obtain⟨xs,i,F,hit,e,c⟩:=h.ex;refine E2 x F hit e fun o h' tk k=>?_;obtain g:=Dv xs;cases f:lH S xs with
  |none=>obtain g:=f▸g;obtain c:=g▸c;trivial
  |some p=>rintro t j rfl k1 k2;cases ((f▸g)▸c);obtain⟨u,T⟩:=sQ R h.own hit k (jq k2);exact q _ _ _ u T (lu p.1 t) ⟨⟨_,j,F.step k,k2,k1,rfl⟩,h.own.step T,h.DI⟩
 keep:=fun W s W' s' r R h T d=>by obtain⟨xs,i,F,hit,e,c⟩:=h.ex;exact zr h.DI fun y z B C P=>aH hit fun o w H=>⟨⟨xs,i,⟨d _ _ (bB y) F.fI,d _ _ (bB B) F.fb,F.fa.imp fun _=>.imp fun _=>.imp fun _=>.imp fun _=>.imp_left (d _ _ (bB C)),d _ _ (bB P) F.fl,F.out⟩,⟨o,d _ _ (bB z) w,H⟩,e,c⟩,h.own.step T,h.DI⟩
 out:=by simpa using hDJ
theorem LB{E:ae->ak->Prop}(c:s.heap.get? l=some (bL items m))(q:∀d,d.get? (s.heap.objs.size+1)=some (sq f s.heap.objs.size)->d.IsListIter s.heap.objs.size l 0->(∀b o,s.heap.get? b=some o->d.get? b=some o)->Q (.ref (s.heap.objs.size+1)) { s with heap:=d }):
  al (bO prog w) A (call (.type "filter") [f,.ref l]) Q E s:=by
 obtain a:=bF _ (o:=sq f s.heap.objs.size) rfl;refine callType_new X.called_filter rfl (X.typeCall_filter _ _) (X.newCall_filter _ _) (fun obj=>F.args_object_init_3 obj _ _) X.entry_filter_new (Qv f l items m) ⟨c,⟨_,a,rfl⟩,?_⟩;rw[(li ..)] at a ⊢;exact q _ a ⟨_,bX _ (bF _ rfl),rfl,rfl⟩ fun b o e=>bX _ (bX _ e)
theorem LI{E:ae->ak->Prop}{s:ak}(c:s.heap.get? l=some (bL items m))(q:∀d,d.get? (s.heap.objs.size+2)=some (qo f (s.heap.objs.size+1))->d.get? (s.heap.objs.size+1)=some (dS #[.ref s.heap.objs.size] 0)->d.IsListIter s.heap.objs.size l 0->(∀b o,s.heap.get? b=some o->d.get? b=some o)->Q (.ref (s.heap.objs.size+2)) { s with heap:=d }):
  al (bO prog w) A (call (.type "map") [f,.ref l]) Q E s:=by
 obtain p:=bF _ (o:=dS #[.ref s.heap.objs.size] 0) rfl;obtain a:=bF _ (o:=qo f (s.heap.push _).objs.size) rfl;refine callType_new X.called_map rfl (X.typeCall_map _ _) (X.newCall_map _ _) (fun obj=>F.args_object_init_3 obj _ _) X.entry_map_new (Qw f l items m) ⟨c,⟨_,a,rfl⟩,?_⟩;rw[(aa (aa rfl (li ..)) (li ..):((s.heap.push _).push _).objs.size=s.heap.objs.size+2)] at a ⊢;rw[(li ..)] at a p ⊢;exact q _ a (bX _ p) ⟨_,bX _ (bX _ (bF _ rfl)),rfl,rfl⟩ fun b o e=>bX _ (bX _ (bX _ e))
theorem Pt{E:ae->ak->Prop}(h:s.heap.get? I=some (sq f J))(q:Q (.ref I) s):al (bO prog w) A (io (.ref I)) Q E s:=H9 ⟨_,h,rfl⟩ X.slot_filter_iter (km X.slot_filter_iter ⟨_,h,rfl⟩ X.entry_filter_iter (ay ⟨_,rfl, "filter",_,⟨_,h,rfl⟩,X.slot_filter_next.lookup,q⟩) (X.args_filter_iter _))
theorem Pv{E:ae->ak->Prop}(h:s.heap.get? I=some (qo f J))(q:Q (.ref I) s):al (bO prog w) A (io (.ref I)) Q E s:=H9 ⟨_,h,rfl⟩ X.slot_map_iter (km X.slot_map_iter ⟨_,h,rfl⟩ X.entry_map_iter (ay ⟨_,rfl, "map",_,⟨_,h,rfl⟩,X.slot_map_next.lookup,q⟩) (X.args_map_iter _))
theorem Q2:nJ "filter" := ⟨X.len_filter,X.hint_filter,by decide,by rfl⟩
theorem Q3:nJ "map" := ⟨X.len_map,X.hint_map,by decide,by rfl⟩
def Jv(A:a8)(Wr:List aL)(U:bj)(Wp:List ai)(T:String)(mk:List V->V)(W:Wd)(s:ak)(σ:S)(vs:List V)(x:ae)(s1:ak):Prop:=
 ∃W1,ar A W1 Wp Wr U σ s1/\av (aC A) W Wp s W1 s1/\al (MD) A (call (.type T) [x]) (fun y s2=>∃W2,ar A W2 Wp Wr U σ s2/\av (aC A) W Wp s W2 s2/\W2.R (mk vs) y) aT s1
theorem EH(h:cO A Wr U Wp H [(false,f),(false,x)])
  (k:∀W s c d s1 g v y z vs,ar A c Wp Wr U d s1->av (aC A) W Wp s c s1->c.R g y->c.R v z->r g v d.st=some vs->al (MD) A (call (.type F) [y,z]) (Jv A Wr U Wp T mk W s d vs) aT s1):
  my A Wr U Wp T mk (dJ pos (.type F) [] (cr pos H) []) (two r f x):=fun W d s R vs σ' e=>by
 have n:two r f x=(dY [(false,f),(false,x)]>>=fun vs=>match vs with|[g,v]=>(do M.lift (r g v (<-store)))|_=>M.fail):=by refine aa (aa ?_ (M.assoc ..)) xn;refine M.cong fun g=>aa ?_ (M.assoc ..);rfl
 refine bA (aU e n) fun us Q i b=>iI (wN (lG h W d s R us Q i) fun a s1 w=>?_);refine⟨qd,?_⟩;clear h R i;refine w _ fun c j m hz=>?_;obtain⟨C,l⟩:=hz;refine aa ?_ C;rcases us with _|⟨g,_|⟨v,_|⟨Y,Y⟩⟩⟩
 ·exact am b
 ·exact am b
 ·refine(eA l) _ fun y r1 D I q=>?_;refine(eA q) _ fun z r2 t u B=>?_;obtain rfl:=t;refine(bind_some b) _ fun st0 σ2 P o=>?_;obtain rfl:=ej B;obtain⟨rfl,rfl⟩:=cB (aR P);obtain⟨p,rfl⟩:=j7 o;refine aa ?_ D;exact k W s c _ s1 g v y z vs j m I u p
 ·exact am b
theorem PE(e:Ei g=some keep):g=.bm "set.__contains__" (.sets keep):=
 ax e fun p a e=>ax e fun k H e=>bq e fun h e=>by cases e;exact(HN a).trans (by rw[eq_of_beq h,HS H])
theorem N2(hA:aW false n A)(h:cO A Wr U Wp ts [(false,f),(false,x)]):my A Wr U Wp "list" .lst (dJ pos (.type "filter") [] (cr pos ts) []) (yj f x):=
 EH h fun W s k σ s1 g v y z vs R T H Vv e=>by
 refine ax e fun keep e1 t=>ax t fun us e2 P=>bq P fun hs P=>?_;clear e t;cases P;obtain rfl:=PE e1;obtain⟨b,ys,rfl,fb,hkl,a,oa,rfl,fa,hset⟩:=H;obtain rfl:=kZ e2;obtain⟨hl,l,items,m,rfl,fl,hr⟩:=Vv;refine LB (R.st.frozen _ _ fl) fun i k1 k2 k3=>oA (R.st.keeps (fr:=aC A) (s':={ s1 with heap:=i }) k3 R.st.gens rfl) fun B r=>?_;have d:∀{c:Nat}{o},k.F c=some o->c<s1.heap.objs.size:=fun e=>cG (R.st.frozen _ _ e);obtain p:=ar.lift R B r;have q:=T.tu r;have hD:s1.heap.objs.size+2<=i.objs.size:=cG k1;refine⟨k,p,q,?_⟩;refine Qb Q2 ⟨_,k1,rfl⟩ p (inv:=AV Wp i.objs.size _ s1.heap.objs.size b a l (keep.contains) keep.length m items) (fun W' s' C j=>?_) (fun h2 hk2 Q E=>Pt (hk2 _ _ k1)) (N1 (hA.hand rfl) (gi (fh hD))) (fun c w=>?_) q (by rw[bl];exact bb (ky ..) (bb (pd _ _) hl)) fun y W3 s3 I D F=>⟨W3,I,D,F⟩
 ·refine⟨⟨gW us,0,⟨j _ _ k1,j _ _ (k3 _ _ (R.st.frozen _ _ fb)),?_,j _ _ (k3 _ _ (R.st.frozen _ _ fl)),?_⟩,?_,wn hr hs,rfl⟩,(⟨((ii R (bG _)).1),((ii R (bG _)).2.1),((ii R (bG _)).2.2),jq k2⟩:aV k Wp s1.heap.objs.size i).step C,?_⟩
  ·exact hset.setOf (j _ _ (k3 _ _ (R.st.frozen _ _ fa))) (dW hkl (by decide))
  ·have:=d fb;have:=d fa;have:=d fl;refine⟨?_,?_,?_,?_⟩<;>first|exact gi rfl|exact cQ rfl|exact gi (by trivial)|exact cQ (ck _)
  ·exact oE k2 fun o u=>⟨o,j _ _ u.1,u.2⟩
  ·have:=d fb;have:=d fa;have:=d fl;refine⟨?_,?_,?_,?_,?_⟩<;>first|exact gi rfl|exact cQ rfl|exact gi (by omega)|exact cQ rfl
 ·rw[pf] at w;refine aa ?_ w;exact .inr (T.gone (bG _))
section
open AutoSeq1 (wpAny_loadPart')
theorem E3(u:A'.handled=none)(a:s.heap.get? I=some (qo (.ref fa) T))(f:s.heap.get? T=some (dS #[.ref J] 0))(g:J≠I)(hit:s.heap.IsListIter J l i)(c:s.heap.IsList l items)
  (q:∀d,jL J s.heap d->(∃o,d.get? J=some o)->match items[i]? with|some x=>d.IsListIter J l (i+1)->al (MD) A'.in1 (call (.ref fa) [x]) (fun y s'=>Q (some y) s') aT { s with heap:=d }|none=>Q none { s with heap:=d }):al (MD) A' (gc (.ref I)) Q aT s:=by
 refine wB (tC (oQ ⟨_,a,rfl⟩ X.slot_map_next (km X.slot_map_next ⟨_,a,rfl⟩ X.entry_map_next ?_ (X.args_map_next _))));refine(?_:al _ _ (mM _ 0>>=_) _ _ _);refine wB (fB a rfl rfl (wB (jG f rfl ?_)));refine wB (wB (er ?_));cases b:items[i]? with
 |none=>refine wB (Ey u hit c b fun d e k1 k k2=>?_);exact wB (tF k2 yI (ay ((b▸q) d k1 k)))
 |some x=>refine VX hit c b fun d k1 k2=>ay (ay ?_);refine wB (fB ((k2.extBut _ _ (bB g)) a) rfl rfl (er ?_));exact wN ((b▸q) d k2.extBut (jq k1) k1) fun y s' r=>wB (k7 (ay ⟨_,rfl,ay r⟩))
theorem yZ:∀{us vs:List V},om k fa us=some vs->vs.length=us.length:=by
 intro a;induction a with
 |nil=>intro vs e;cases e;rfl
 |cons u us I=>intro vs e;exact ax e fun p Y e=>ax e fun y Y e=>bq e fun Y e=>ax e fun l c e=>cy e (congrArg (·+1) (I c))
inductive Bb(Wp:List ai)(k:K)(D I T J l fa:ai)(m:Nat)(items:Array ae)(rest:List V)(W:Wd)(s:ak):Prop
 |mk:∀us i,om k fa us=some rest->s.heap.IsListIter J l i->W.Rs us (items.toList.drop i)->Bb Wp k D I T J l fa m items rest W s
structure Ba(Wp:List ai)(k:K)(D I T J l fa:ai)(m:Nat)(items:Array ae)(rest:List V)(W:Wd)(s:ak):Prop where
 ex:Bb Wp k D I T J l fa m items rest W s
 fI:s.heap.get? I=some (qo (.ref fa) T)
 fT:s.heap.get? T=some (dS #[.ref J] 0)
 fl:W.F l=some (bL items m)
 own:aV W Wp I s.heap/\aV W Wp T s.heap/\aV W Wp J s.heap
 ne:J≠I/\J≠T
 out:D≠I/\D≠T/\D≠J
theorem Aa(T:av fr W Wp s W' s')(O:aV W Wp I s.heap)(h:s.heap.get? I=some o)(hd:∀es n,o.data≠.dict es n):s'.heap.get? I=some o:=by
 refine aH (T.pres _ _ h O.O O.act) fun Q a H=>?_;rcases H with rfl|⟨_,⟨es,n,z⟩,_⟩
 ·trivial
 ·exact absurd z (hd es n)
set_option tactic.hygienic true
theorem Qk(hh:A'.handled=none)(F:A'.frames=A.frames)(hA:aW false n A'.in1)(j:KS n k)(hst:d.st=[])(hDo:D∉J::Wp):pk A Wr U Wp d A' I D (J::Wp) (Ba Wp k D I T J l fa m items) where
 done:=fun W s Q R h q=>by
  have hl:s.heap.IsList l items:=⟨_,R.st.frozen _ _ h.fl,rfl,m,rfl⟩;obtain⟨us,i,b,hit,f⟩:=h.ex;refine E3 hh h.fI h.fT h.ne.1 hit hl fun C k1 k2=>?_;cases us with
  |cons v r=>exact ax b fun p Y e=>ax e fun y Y e=>bq e fun Y e=>ax e fun l hl e=>absurd (aR e) (wM _ _)
  |nil=>
   have hx:items[i]?=none:=by refine aU ?_ (fE);exact fX (List.drop_eq_nil_iff.mp (ej f))
   refine aa ?_ hx;exact q _ _ ((sQ R h.own.2.2 hit k1 k2).1) (((sQ R h.own.2.2 hit k1 k2).2).mono (fun Y=>gZ _))
 item:=fun W s v r Q R h q=>by
  obtain⟨us,i,b,hit,f⟩:=h.ex;refine E3 hh h.fI h.fT h.ne.1 hit ⟨_,R.st.frozen _ _ h.fl,rfl,m,rfl⟩ fun C k1 k2=>?_;cases us with
  |nil=>cases b
  |cons u us=>
   refine(eA f) _ fun x ys B e2 e3=>?_;refine aU ?_ (fE);refine aa ?_ ((iM B).1);intro k3;refine ax b fun p hc e=>ax e fun y hy e=>bq e fun he e=>ax e fun r' hq b=>?_;cases b;obtain⟨R',c⟩:=sQ R h.own.2.2 hit k1 k2;have e:mI k fa [u] d=some (v,d):=by refine(?_:(k fa [u] d.st).bind _=_);refine aa (aa ?_ hc) hst;refine(?_:(rU p.1).bind _=_);refine aa ?_ hy;exact congrArg (fun z=>some (v,({ d with st:=z }:S))) ((List.isEmpty_iff.mp he).trans hst.symm)
   refine wN (xp j hA (R'.to F) (VRs.one e2) v d e) fun y s2 hq2=>?_;refine hq2 _ fun w R2 T2 V2=>?_;refine cV h.own fun o1 o2 o3=>?_;have t:av (aC A) W Wp { s with heap:=C,toks:=s.toks } w s2:=by
    have:aC A'.in1=aC A:=by delta aC;exact aa rfl F
    refine aU ?_ this;trivial
   refine q y w s2 (R2.to F.symm) ((c.mono (fun Y=>gZ _)).trans (t.mono fun a ha=>by simp[ha])) V2 ⟨⟨us,i+1,hq,?_,?_⟩,?_,?_,t.F _ _ h.fl,⟨(o1.step c).step t,(o2.step c).step t,(o3.step c).step t⟩,h.ne,h.out⟩
   ·refine cw k3 fun o g H P=>?_;exact⟨o,Aa t (o3.step c) g (fun es n z=>by obtain z:=P▸z;contradiction),H,P⟩
   ·refine aa ?_ ((iM B).2);exact VRs.mono t.F t.ρ _ _ e3
   ·exact Aa t (o1.step c) (k1 _ _ (bB h.ne.1) h.fI) fun es n z=>by contradiction
   ·exact Aa t (o2.step c) (k1 _ _ (bB h.ne.2) h.fT) fun es n z=>by contradiction
 keep:=fun W s W' s' r R h T j=>by obtain⟨us,i,b,⟨o,g,H⟩,f⟩:=h.ex;exact⟨⟨us,i,b,⟨o,j _ _ (bB h.out.2.2) g,H⟩,VRs.mono T.F T.ρ _ _ f⟩,j _ _ (bB h.out.1) h.fI,j _ _ (bB h.out.2.1) h.fT,T.F _ _ h.fl,⟨h.own.1.step T,h.own.2.1.step T,h.own.2.2.step T⟩,h.ne,h.out⟩
 out:=hDo
theorem LJ{T:String}(x:s.TypeIs (.ref I) T) (m:(bQ T==bQ "tuple")=false) (i:al (MD) A.in1.in1 (collect (.ref I)) P aT s)
  (q:∀a s',P a s'->a.length<=l7/\Q (.ref s'.heap.objs.size) { s' with heap:=s'.heap.push (dS a.toArray 0) }):al (MD) A (call (.type "tuple") [.ref I]) Q aT s:=by
 refine callType_codes (Q₁:=fun obj b=>b.TypeIs obj "tuple" /\ Q obj b) F.called_tuple (F.typeCall_tuple_1 _) F.entry_object_init ?_ fun obj b c=>?_
 ·refine uu (?_:al _ A.in1.in1 _ _ _ s);refine iX (F.newCall_tuple_1 _) (ay ⟨gt F.plain_tuple_new _,fN F.entry_tuple_new ?_⟩);refine aa ?_ (qX F.plain_tuple_new _);obtain n:=sub_tuple_self;obtain k:=init_tuple_lookup;have l:=madeHere_tuple;have j:∀{d:List ae->ak->Prop}{e:ae->ak->Prop},(∀a s',P a s'->d a s')->al (bO pw wd) A.in1.in1 (collect (.ref I)) d e s:=fun h=>bM i h fun Y Y f=>f.elim
  wp_walk using Ig x,j
  intro a s' hP;obtain⟨g,H⟩:=q a s' hP;refine(?_:al _ _ (ID a.toArray>>=fun v=>ret v) _ _ _);unfold ID;exact aq (k8 (ay ⟨⟨_,bF _ rfl,rfl⟩,H⟩) (by refine(?_:a.toArray.size<=l7);simpa using g))
 ·exact⟨c.1,F.args_object_init_2 obj _,object_init_meets F.called_tuple.init.lookup F.called_tuple.made (by decide) pw wd A.in1 _ b ⟨c.1,rfl,c.2⟩⟩
theorem Vj(hA:aW false (n+8) A)(hk:KS n k)(h:cO A Wr U Wp ts [(false,f),(false,x)]):my A Wr U Wp "tuple" .tup (dJ pos (.type "map") [] (cr pos ts) []) (Ay k f x):=
 EH h fun W s W1 w s1 g v y z vs R T Vg Vv e=>by
 refine ax e fun fa e1 e0=>ax e0 fun us e2 b=>bq b fun hst b=>?_;clear e e0;obtain rfl:=kZ e2;obtain⟨hl,l,items,m,rfl,fl,hr⟩:=Vv;obtain rfl:y=.ref fa:=by refine ax e1 fun c j h2=>?_;obtain rfl:=HP h2;obtain rfl:=ki j;trivial
 refine LI (R.st.frozen _ _ fl) fun i k1 k2 k3 k4=>oA (R.st.keeps (fr:=aC A) (s':={ s1 with heap:=i }) k4 R.st.gens rfl) fun S2 D=>?_;obtain p:=ar.lift R S2 D;have C:=T.tu D;refine⟨W1,p,C,?_⟩;refine cV (ii R (bG _)) fun a1 a2 a3=>cV (ii R (tP (jP _))) fun b1 b2 b3=>cV (ii R (tP (jp [_] (.l af (.a af aQ)) tU))) fun c1 c2 c3=>?_;refine LJ ⟨_,k1,rfl⟩ rfl (P:=fun d s'=>∃W',ar A W' Wp Wr U w s'/\av _ W Wp s W' s'/\W'.Rs vs d) (L7 (A':=A.in1.in1) Q3 ⟨_,k1,rfl⟩ p (inv:=Ba Wp k i.objs.size _ (s1.heap.objs.size+1) s1.heap.objs.size l fa m items) (fun W' s' a t=>?_) (fun h2 hk2 Q E=>Pv (hk2 _ _ k1)) (Qk (hA.hand rfl) rfl (vy (vy (vy (vy (hA.le (jp [_] (.l (.a (.a (.a aF aI) aI) aI) (.a af (.n 8))) tU)))))) hk (List.isEmpty_iff.mp hst) ?_) (fun c r=>?_) C (by refine aa ?_ (yZ b);trivial) fun d H u I q B=>⟨H,I,q,B⟩) fun d u hq=>?_
 ·refine⟨⟨us,0,b,?_,VRs.mono a.F a.ρ _ _ hr⟩,t _ _ k1,t _ _ k2,a.F _ _ fl,⟨aV.step ⟨c1,c2,c3,_,k1⟩ a,aV.step ⟨b1,b2,b3,_,k2⟩ a,aV.step ⟨a1,a2,a3,jq k3⟩ a⟩,?_,?_⟩
  ·exact oE k3 fun o j=>⟨o,t _ _ j.1,j.2⟩
  ·constructor<;>first|exact gi rfl|exact cQ rfl|exact gi rfl|exact cQ (by(first|exact jP _|exact ck _|omega))
  ·refine⟨?_,?_,?_⟩<;>first|exact gi rfl|exact cQ rfl|exact gi (by(first|exact(cG k1)|exact fh (cG k1)|exact dW (hw ..) (cG k1)|omega))|exact cQ rfl
 ·rw[dP,not_or];exact⟨show i.objs.size≠s1.heap.objs.size from gi (dW (hw ..) (cG k1)),((ii p (bG i)).2.2)⟩
 ·rcases List.mem_cons.mp r with rfl|r
  ·exact .inr (T.gone (bG _))
  ·exact .inl r
 ·refine cw hq fun H I q B=>?_;refine(vm (A:=A) (items:=d.toArray) (n:=0) (s':={ u with heap:=u.heap.push (dS d.toArray 0) }) I.st B (by refine aa ?_ (yZ b);exact hl) (bF _ rfl) (bG _) (co _ _)) _ fun W4 S4 F hR=>?_;refine⟨by refine aa (aa ?_ (yZ b)) (VRs.length B);exact bb hl d7,?_⟩;exact⟨W4,ar.lift (st:=w.st) (fs:=w.fs) I S4 F,q.trans (F.mono (fun Y h=>(cq h).elim)),hR⟩
end
noncomputable def p6(b:Bool):Int:=if b then 1 else 0
theorem OS{E:ae->ak->Prop}(h:∀m,Q (p6 b) { s with toks:=m }):al (bO prog w) A (pyHash (.bool b)) Q E s:=by
 refine pyHash_slot rfl F.slot_bool_hash entry_int_hash (args_int_hash _) (beq_builtin_none _) (.inl rfl) ?_;cases b
 ·exact(show al _ _ (do ret (<-mkInt 0)) _ _ s from aq (H4 (ay ⟨_,_,rfl,h _⟩)))
 ·exact(show al _ _ (do ret (<-mkInt 1)) _ _ s from aq (H4 (ay ⟨_,_,rfl,h _⟩)))
theorem P0(a:Bool):∃t,layNew (SetTable.fresh 0 0 a) #[] (p6 b) (.bool b)=(#[(p6 b,.bool b)],t,false,false)/\t.fits 1=true/\t.led=a/\t.tooFull=false/\t.plain=true:=by cases b<;>cases a<;>exact⟨_,by rfl,by rfl,by rfl,by rfl,by rfl⟩
structure rc(w:ew)(acc:List V)(o:cS):Prop where
 ex:o.ExactSet
 is:(acc=[]/\o.data=.set #[] 0 (.fresh 0 0 (!w.params.followText "set-order")))∨∃b ep t,acc=[.bool b]/\o.data=.set #[(p6 b,.bool b)] ep t/\t.fits 1=true/\(w.params.followText "set-order" || t.led)=true
theorem MR{E:ae->ak->Prop}(q:Q true s):al (bO prog w) A (eqBool (.bool b) (.bool b)) Q E s:=eD (oV (beq_self_eq_true _) (aq (nv (ay q))))
theorem J4{E:ae->ak->Prop}(p:s.heap.get? a=some o)(v:rc w acc o)(B:m4 (.bool b) acc=some out)
  (q:∀d m f,gz a s.heap d->d.get? a=some f->rc w out f->Q .none { s with heap:=d,toks:=m }):al (bO prog w) A (call (.builtin "set.add") [.ref a,.bool b]) Q E s:=by
 refine km F.slot_set_add ⟨o,p,v.ex.1⟩ F.entry_set_add ?_ (F.args_set_add_2 _ _);delta Builtin.«set.add» Iw;refine aa ?_ (bind_assoc ..);refine aq (ay (aq (ay (aq (eD (aq (OS fun m=>?_)))))));rcases v.is with⟨rfl,hd⟩|⟨c,ep,t,rfl,hd,e,i⟩
 ·cases B;refine oE (P0 (b:=b) (!w.params.followText "set-order")) fun t h=>aq (qW p hd rfl (oV (by simp[byScan,show(nN b).scannable=true from rfl,qN]) (aq ?_)));delta setAddByScan;refine aa ?_ h.1;refine aq (nv (aq ?_));refine ay (aq (ay ?_));refine aq (ay (oV h.2.2.2.2 (aq (ay ?_))));refine aq (wpAny_storeSet_of p hd ?_);refine ko (show ¬ (t.tooFull=true) by refine aa ?_ h.2.2.2.1;decide) (ay (ay (ay ⟨_,rfl,?_⟩)));refine q _ m _ (ku ..) (eE _ p ?_) ⟨?_,.inr ⟨b,1,t,rfl,?_,h.2.1,?_⟩⟩
  ·refine aa ?_ (putSet_of _ _ hd);rfl
  ·refine aa ?_ (putSet_of _ _ hd);exact v.ex
  ·exact aa rfl (putSet_of _ _ hd)
  ·refine aa ?_ h.2.2.1;cases w.params.followText "set-order"<;>rfl
 ·refine bq B fun g B=>?_;obtain rfl:=eq_of_beq g;obtain rfl:=aR B;clear B;refine aq (qW (s:={ s with toks:=m }) p hd e (oV (by simp[byScan,show(nN b).scannable=true from rfl,qN]) (aq ?_)));unfold setAddByScan;refine aq (nv (aq ?_));refine(?_:al _ _ (setScanFrom a (.bool b) (p6 b) true [(p6 b,nN b)] 0) _ _ _);unfold setScanFrom;refine oV (beq_self_eq_true _) ?_;refine aq (V8 (s:={ s with toks:=m }) p hd e (aq (MR ?_)));refine(?_:al _ _ (pure (ScanMet.found 0)) _ _ _);exact ay (ay (ay (ay ⟨_,rfl,q _ m o (Heap.SameBut.refl ..) p v⟩)))
def tI:AccT:=fun Y acc h D=>∃o,h.get? D=some o/\rc wd acc o
theorem rc.nodict(h:rc wd acc o):∀es n,o.data≠.dict es n:=fun es n z=>by rcases h.is with⟨_,hd⟩|⟨_,_,_,_,hd,_⟩<;>obtain hd:=z▸hd<;>trivial
theorem By:nx (tI) where
 mono:=fun h Y Y=>h
 cell:=fun⟨o,h,B⟩ k=>⟨o,k o h,B⟩
 nodict:=fun⟨o,h,B⟩=>⟨o,h,B.nodict⟩
theorem QP(s:ak)(Q:ae->ak->Prop)(h:∀o,o.isFreed=false->(∀W,tI W [] (s.heap.push o) s.heap.objs.size)->Q (.ref s.heap.objs.size) { s with heap:=s.heap.push o }):al (MD) A (newSet (.type "set")) Q aT s:=by refine wB (wB (AK (ay ?_)));exact k8 (h _ rfl fun W=>⟨_,bF _ rfl,⟨rfl,rfl,rfl⟩,.inl ⟨rfl,rfl⟩⟩)
theorem MC(h:aK A Wr U Wp (eval elt U) m):kq A Wr U Wp (tI) D (lF (.ref D) U (.SetComp elt gens sc pos)) (fun acc=>do let v<-m;M.lift (m4 v acc)):=by intro W w s acc R H i out I e;refine bA e fun v σ1 f g=>?_;obtain⟨P,C⟩:=j7 g;clear e g;subst C;refine eZ (h W w s R v _ f) fun x s1 u=>?_;refine ax P fun b hb z=>?_;clear h R f;refine u _ fun n r T l=>?_;obtain rfl:=tx hb;obtain rfl:x=.bool b:=l;have a:=H.step T;refine aH (By.step i H T) fun o p j=>eC (wB (J4 p j P fun B F Q t d q=>ay ?_));obtain⟨k,y⟩:=kc r.st a t ⟨_,d⟩;exact .mk n (sY r a a (fun b c=>by clear H i t;rcases c with rfl|rfl<;>exact⟨_,p,j.nodict⟩) k y.two) ((T.mono fun b c=>by simp[c]).trans (y.mono (fun Y=>gZ _))) (a.step y) ⟨_,d,q⟩
theorem Ul(hA:aW false n A){y:List fc}{G:List Expr}
  (q:∀(I:AccT),(∀i acts' D,kq A (scope::a::r') i acts' I D (lF (.ref D) i (.SetComp elt gens scope p)) (fun acc=>do let v<-j;M.lift (m4 v acc)))->rf A scope a r' U Wp (.SetComp elt gens scope p) t iter G y I m4 j first ms r)
  (helt:∀i acts',aK A (scope::a::r') i acts' (eval elt i) j):aK A (a::r') U Wp (eval (.SetComp elt gens scope p) U) (rV scope.names.length j first ⟨dk (scope::a::r') t,ms⟩ r):=fun W σ s R=>by
 have q:=q (tI) fun i acts' D=>MC (helt i acts');have F:gens=⟨t,iter,G,0⟩::y:=q.cl;intro v σ' e;refine bA e fun out σ1 e1 l=>?_;have ha:ym gens=false:=by refine aa ?_ F;rfl
 have hi:yn gens U=eval iter U:=by refine aa ?_ F;rfl
 have he:eval (.SetComp elt gens scope p) U=CM _ scope U _ _ _ _:=rfl;obtain⟨e3,q3⟩:=j7 l;clear l;subst q3;refine aa (aa (aa ?_ hi) ha) he;refine xP By GR hA (.set _ _ _ _) q.cl q.set q.kind q.nd (fun x hx h=>by exact aa (aa rfl h) (zm q.nd x hx)) q.free q.first q.inn q.ifs q.cls QP R e1 fun k s5 D C f Q T H Xf hD0 u B hCD ⟨m,hm⟩=>aH Xf fun o ho d=>?_;obtain⟨b,rfl,rfl⟩:∃b,out=[.bool b]/\v=.setb b:=
  ax e3 fun w h1 e=>oj e fun b hb=>⟨b,by refine wj h1 ?_;exact congrArg (·::[]) (tx hb),rfl⟩
 rcases d.is with⟨z,_⟩|⟨c,ep,t,z,hd,hf,h⟩
 ·trivial
 ·cases z;have V6:(k.add D o).R (.setb b) (.ref D):=by exact⟨D,o,rfl,Wd.add_self,d.ex,_,ep,t,hd,hf,h⟩
  refine⟨m,hm,fun h' P=>(.mk (k.add D o) (?_) (?_) V6)⟩
  ·exact zP R.stk B (v5 Q ho H d.nodict) ⟨by simp[Wd.add,hCD,u.F],u.O,u.act,u.there⟩ (fun b o g e=>P.extBut b o g e) rfl
  ·exact Ab (T.addF hD0 H.F) B (fun b o g e=>P.extBut b o g e) rfl
theorem HJ{c:List O}(S:aE W c s)(b:W.R (.lst [x,y]) z):∃l items m p q,z=.ref l/\s.heap.get? l=some (bL items m)/\items.toList=[p,q]/\W.R x p/\W.R y q:=by refine(qj S b rfl) _ fun Y l items m e k1 k2=>?_;obtain rfl:=e;refine(eA k2) _ fun p r f g P=>?_;refine(eA P) _ fun q t a d j=>?_;obtain rfl:=a;obtain rfl:=ej j;exact⟨l,items,m,p,q,rfl,k1,f,g,d⟩
theorem Sn{G:List O}(B:aW false n A)(S:aE W G s)(h:W.R v x)(W8:b=.min∨b=.max):dp A W s G (RV) (call b.fn [x]) (eI b G v):=by
 intro u e;obtain Q:=by have:=B.units;exact aJ [_,_] (.l (.a af (.m 40 aj)) (.n 9000)) (.l (.a aF aI) (.n 9900)) tU this
 have WA:∀(f:bk) g,(∀c o,s.heap.get? c=some o->f.get? c=some o)->aE W G { s with heap:=f,toks:=g }/\av _ W [] s W { s with heap:=f,toks:=g }:=fun f g j=>S.keeps (fr:=aC A) j S.gens rfl;rcases W8 with rfl|rfl
 ·refine ax e fun l' i d=>ax d fun⟨p,q⟩ H d=>ax d fun t C d=>?_;obtain rfl:=kZ i;clear e i;cases d;refine se H ?_ h;intro h;refine Fi (HJ S h) fun l items m y z q2 k1 k2 k3 D=>?_;subst q2;refine Fj (EC S C D k3) fun a b it it2 k k' xs F q4 q5 I P R w q6=>?_;subst q4;subst q5;subst q6;refine Mine.call_min_two (B.hand rfl) Q k1 k2 P I w R fun f g j=>oA (WA f g j) fun r T=>.mk W r T (?_);cases bU xs F
  ·trivial
  ·trivial
 ·refine ax e fun l' i d=>ax d fun⟨p,q⟩ H d=>ax d fun t C d=>?_;obtain rfl:=kZ i;clear e i;cases d;refine se H ?_ h;intro h;refine Fi (HJ S h) fun l items m y z q8 k1 k2 k3 D=>?_;subst q8;refine Fj (EC S C k3 D) fun a b it it2 k k' xs F q10 q11 I P R w q12=>?_;subst q10;subst q11;subst q12;refine Mine.call_max_two (B.hand rfl) Q k1 k2 I P R w fun f g j=>oA (WA f g j) fun r T=>.mk W r T (?_);cases bU xs F
  ·trivial
  ·trivial
theorem SJ:gF where
 setB:=GR
 mm:=fun k S s x=>Sn k S s x
 filter:=fun k h=>N2 k h
 tmap:=fun k j Y Y h=>Vj k j h
 setc:=fun k a H=>Ul k a H
theorem Oi(h:bk):∀(l:List Nat)(a:ai)(o:cS),(l.filterMap (fun a=>(h.get? a).map (a,·))).lookup a=some o->h.get? a=some o:=by
 intro l00;induction l00 with
 |nil=>intro _ _ e;trivial
 |cons b r ih=>
  intro a o e;obtain e:=nF▸e;cases g:h.get? b with
  |none=>obtain e:=g▸e;exact ih a o e
  |some ob=>
   obtain e:=g▸e;simp only[JI,gA] at e;split at e
   ·rename_i q;cases e;refine aa ?_ (eq_of_beq q);exact g
   ·exact ih a o e
theorem DJ(h:bk):(lI h).In h:=fun a o e=>Oi h _ a o e
theorem Uq{α:Type}{l:List α}{C:Prop}(h:l.length=6):(∀k0 k1 k2 k3 k4 k5,l=[k0,k1,k2,k3,k4,k5]->C)->C:=
 fq l h fun k0 l h=>fq l h fun k1 l h=>fq l h fun k2 l h=>fq l h fun k3 l h=>fq l h fun k4 l h=>fq l h fun k5 l h=>oh l h fun q=>q k0 k1 k2 k3 k4 k5 rfl
theorem p8{α β γ δ ε ζ η θ:Type}{a a':α}{b b':β}{c c':γ}{d d':δ}{e e':ε}{f f':ζ}{g g':η}{h h':θ}{G:Prop}(z:some (a,b,c,d,e,f,g,h)=some (a',b',c',d',e',f',g',h'))(k:a=a'->b=b'->c=c'->d=d'->e=e'->f=f'->g=g'->h=h'->G):G:=by obtain z:=aR z;exact k (congrArg (·.1) z) (congrArg (·.2.1) z) (congrArg (·.2.2.1) z) (congrArg (·.2.2.2.1) z) (congrArg (·.2.2.2.2.1) z) (congrArg (·.2.2.2.2.2.1) z) (congrArg (·.2.2.2.2.2.2.1) z) (congrArg (·.2.2.2.2.2.2.2) z)
theorem CG{i:String}(e:rY hb c=rZ c bm i N){C:Prop}(k:∀nm q bs sn sub col dd k0 k1 k2 k3 k5,hb.get? c=some (sk nm q c N bs bm true sn sub false col dd k0 k1 k2 k3 k5 i)->C):C:=by refine ax e fun o g e=>ax e fun d hd e=>?_;obtain⟨cl,di,da,⟨sl⟩⟩:=o;obtain⟨nm,bs,mro,ns,qn,hdict,sn,sub,ab,col,del⟩:=d;obtain rfl:=Ml hd;clear hd;refine p8 e fun q1 e2 e3 q2 q3 q4 q5 q6=>?_;clear e;refine Uq e2 fun k0 k1 k2 k3 k4 k5 q7=>?_;clear e2;refine k nm qn bs sn sub col di k0 k1 k2 k3 k5 (g.trans ?_);clear k g;subst q7;cases e3;subst q1 q2 q3 q4 q5 q6;rfl
theorem qm{α β:Type}{f g:α->β}{l:List α}(e:l.map f=l.map g){x:α}(hx:x∈l):f x=g x:=List.map_inj_left.mp e x hx
theorem sK{α β:Type}[BEq α][LawfulBEq α]{l:List (α×β)}{a:α}{b:β}(e:l.lookup a=some b):(a,b)∈l:=by
 induction l with
 |nil=>exact am e
 |cons p r ih=>
  obtain⟨x,y⟩:=p;rw[gA] at e;split at e
  ·rename_i q;cases e;refine aa ?_ (eq_of_beq q);exact bK
  ·exact bD _ (ih e)
theorem KJ(e:GJ hb=wantB)(t:hb.get? 115=some (dS #[.none] 0)):BF:=fun a fd hq=>by refine aH (Option.bind_eq_some_iff.mp hq) fun f hl hf=>?_;have WA:DE hb a=(f ()).bind fnWant:=qm e (sK hl);obtain WA:=hf▸WA;refine ax WA fun o g WA=>ax WA fun fn hfn WA=>?_;simp only[rD,gj] at WA;exact Ra WA fun e1 e2 e3 e4 e5 e6 e7 e8 e9 e10=>.mk _ fn g (Mm hfn) e2 e3 e4 e5 e6 e7 (.of_ok e8) e1 e9 (KC hq) t
theorem ff{P:Prop}(h:false=true):P:=absurd h iZ
theorem U1(x:ae):Ad (some x)=some x∨∃n t,x=.int n t:=by
 cases x with
 |int n t=>exact .inr ⟨n,t,rfl⟩
 |_=>exact .inl rfl
theorem OO(e:(p4.map fun p=>uO hb p.1)=p4.map fun p=>uP p.2)(hv:f5 n=some v):
  ∃x,(hb.nsMap 3 n=some x∨(hb.nsMap 3 n=none/\hb.nsMap 0 n=some x))/\∀F ρ,VR F ρ v x:=by
 have WA:uO hb n=uP v:=qm e (sK hv);have tm:=List.all_eq_true.mp (by decide +kernel:p4.all (fun p=>match p.2 with|.cst (.int ..)=>false|.cst _=>true|.int _=>true|_=>false)=true) _ (sK hv);dsimp only at tm;delta uO at WA;have fin:∀x,Ad (some x)=uP v->∀F ρ,VR F ρ v x:=fun x hx F ρ=>by
  clear hv WA;rcases U1 x with h|⟨n,t,h⟩
  ·cases v with
   |cst u=>obtain rfl:=aR (h.symm.trans hx);rfl
   |int m=>obtain rfl:=aR (h.symm.trans hx);exact⟨0,rfl⟩
   |_=>exact ff tm
  ·subst h;cases v with
   |cst u=>obtain rfl:=aR hx;exact ff tm
   |int m=>obtain⟨rfl,_⟩:=Value.int.inj (aR hx);exact⟨t,rfl⟩
   |_=>exact ff tm
 cases g3:hb.nsMap 3 n with
 |some x=>rw[g3] at WA;exact⟨x,.inl rfl,fin x WA⟩
 |none=>
  rw[g3,Option.none_or] at WA;cases g0:hb.nsMap 0 n with
  |some x=>rw[g0] at WA;exact⟨x,.inr ⟨rfl,rfl⟩,fin x WA⟩
  |none=>
   rw[g0] at WA;clear hv fin;cases v with
   |cst u=>exact am WA
   |int m=>exact am WA
   |_=>exact ff tm
theorem DF(F:BF)(e:(kI a).isSome=true):∃o,hb.get? a=some o/\o.cls=.type "function" := by obtain⟨fd,hf⟩:=Option.isSome_iff_exists.mp e;exact(F a fd hf) _ fun o f g Y Y Y Y Y Y Y Y c Y Y Y=>⟨o,g,c⟩
theorem NW(hf:f<=10):ca f∈fieldsAll:=List.mem_map.mpr ⟨f,List.mem_range.mpr (aJ [_] (.l af (.n 10)) (.l aF (.n 11)) tU hf),rfl⟩
theorem DY(F:BF) (e:rY hb c=rZ c [.type "object"] "object.__new__" N)
  (en:qw hb N (vj++meths.map (·.1))=(true,none::none::none::some (cm init)::zn++meths.map fun p=>some (cm p.2)))
  (hi:(kI init).isSome=true) (hm:meths.all (fun p=>(kI p.2).isSome)=true):CF c init meths:=by
 refine CG e fun nm q bs sn sub col dd k0 k1 k2 k3 k5 g=>?_;delta qw at en;simp only[vj,rt,dH,fK,gB,gj,A2] at en;refine E8 en fun e0 e1 e2 e3 e4 e5=>oA (IY e5 rfl) fun e5 e6=>⟨(.mk nm q N bs sn sub col dd k0 k1 k2 k3 k5 _ g (.of_isNs e0) e1 e2 e3 (fun f hf=>?_) e4 fun n a hl=>?_),fun a ha=>?_⟩
 ·exact qm e5 (NW hf)
 ·exact qm e6 (sK hl)
 ·clear en e4 e6;rcases ha with rfl|⟨n,hl⟩
  ·exact DF F hi
  ·exact DF F (List.all_eq_true.mp hm _ (sK hl))
theorem QY(e1:zh (lI hb)=nfWant)(e2:[8,9,10].map (zi (lI hb))=[8,9,10].map zj):NF:=by
 delta zh nfWant at e1;simp only[gj] at e1;refine Q9 e1 fun a1 a2 a3 a4 a5 a6 a7=>.mk _ (DJ hb) a1 a2 a3 a4 ⟨a5,a6,a7⟩ fun f h8 h10=>?_;obtain WA:=qm e2 ((show ∀f<11,8<=f->f∈[8,9,10] by decide) f (Jz h10) h8);delta zi zj at WA;simp only[gj] at WA;refine oA WA fun b1 b2=>⟨82+f,?_,b2.1,b2.2.1,b2.2.2⟩;refine aH (Option.bind_eq_some_iff.mp b1) fun r hr hb=>aa ?_ hr;clear hr;cases r with
 |bind g a=>cases hb;rfl
 |_=>exact am hb
theorem QA(e1:yx (lI hb) 186=true)(e2:gV.map (ze (lI hb))=gV.map zf):MF:=by refine .mk _ (DJ hb) e1 fun p hp=>?_;obtain WA:=qm e2 hp;delta ze zf at WA;simp only[gj] at WA;exact zr WA fun b1 b2 b3 b4 b5=>⟨b1,b2,b3,b4,b5,List.all_eq_true.mp (show gV.all (fun p=>copiedNames.contains p.1==false)=true by rfl) p hp |> eq_of_beq⟩
section
theorem SB(w:ew)(os:jS):topGo l9 pw w 11 jV 12 (S0 w os) (Au pw)=some ((Sb w os).abs,⟨denote l9 (cE pw),cE pw,gu,[oO gu]⟩):=by
 have h:pre w os=topGo l9 pw w 11 jV 12 (S0 w os) (Au pw):=by refine aa (aa ?_ t9) PySem.W.Fast.te15667345088766844465;rfl
 have h1:=SA w os;have h2:=SF w os;rw[h] at h1 h2;rw[show JQ tT (cE pw)=denote l9 (cE pw) by exact aa (aa rfl t9) PySem.W.Fast.te11892475500146522536] at h2;obtain⟨⟨s,t⟩,e,e1⟩:=Option.map_eq_some_iff.mp h1;rw[e] at h2 ⊢;clear h h1 e;cases e1;cases h2;rfl
set_option tactic.hygienic true
theorem Vl(w:ew)(os:jS):∃s,topRun l9 pw w 11 jV 2752 (S0 w os) (Au pw)=some s/\zA w s=(true,openGood qv lo,want):=by
 obtain⟨⟨s,c⟩,hs,ho⟩:=Option.map_eq_some_iff.mp (Kk w os);obtain⟨ho,rfl⟩:=cB ho;refine⟨s,?_,ho⟩;refine ax hs fun r hB hs=>bq hs fun h0 hs=>?_;obtain⟨fl,s1,c,p⟩:=r;obtain rfl:fl=.next:=Flow.next.elim (motive:=fun x=>x=.next) fl h0 rfl
 ·obtain⟨s2,hq,h2⟩:=Option.map_eq_some_iff.mp hs;obtain⟨rfl,rfl⟩:=cB h2;have k1:topRun l9 pw w 11 jV 10 s1.abs ⟨doneF .next,cE pw,p,[oO gu]⟩=some s2:=by refine aa (aa ?_ t9) PySem.W.Fast.te14082659384304107361;exact hq
  have hB':segRunT l9 pw w 11 jV 1 2700 (Sb w os) (piecesOf pw.main.body (rQ pw) (cE pw) gu [oO gu])=some (.next,s1,cE pw,p):=by unfold piecesOf;refine aa (aa (aa ?_ PySem.W.Fast.te12563942051412417395) t9) JO;exact hB
  have hK:segRunT l9 pw w 11 jV 1 30 (Sb w os) (blockOf pw.main.body (rQ pw) (cE pw) gu [oO gu])=some (.next,Sb w os,cE pw,gu):=by unfold blockOf;refine aa (aa (aa ?_ PySem.W.Fast.te1066825118222455980) t9) JO;exact KU w os
  have k2:=piece_app (rest:=[]) (segRun_of hB') (piece_nil k1);rw[dT] at k2;exact go_top (SB w os) (piece_block (segRun_of hK) k2)
end
theorem PZ:(Wi).wellSaid=true:=by refine aa ?_ PySem.W.Fast.te9446332074065402090;kernel_rfl!
structure HF:Prop where
 B:Nonempty BO
 F:BF
 X:XF
 M:MF
theorem OY(e:see hb=want):HF:=by
 obtain⟨ea,e⟩:=cB e;obtain⟨eb,e⟩:=cB e;obtain⟨ec,ed⟩:=cB e;simp only[zW,wantA,gj] at ea;obtain⟨a1,a0,a2,a3,a4,a5⟩:=ea;simp only[GK,wantC,gj] at ec;obtain⟨c1,c2,c3,c4,c5,c6⟩:=ec;simp only[GN,wantD,gj] at ed;have F:=KJ eb a5.2;refine⟨⟨⟨hb.nsMap 3,hb.nsMap 0,.of_isNs a2,.of_isNs a3,fun n v hv=>OO a1 hv,.of_ok a4,Option.isSome_iff_exists.mp a5.1,?_,?_,QY ed.1 ed.2.1⟩⟩,F,?_,QA ed.2.2.1 ed.2.2.2⟩
 ·exact DY F c1 (by trivial) rfl rfl
 ·exact DY (meths:=gV) F c2 (c5.trans rfl) rfl rfl
 ·refine CG c3 fun nm q bs sn sub col dd k0 k1 k2 k3 k5 g=>?_;simp only[qw,dH,gj,A2] at c6;exact .mk nm q 103 bs true sn sub false col dd k0 k1 k2 k3 k5 _ g (.of_isNs c6.1) c6.2.1
theorem Uc{h:bk}(e:see h=want):h.nsMap 3 "law" = some (.ref 361)/\h.isNs 3=true:=by obtain⟨ea,e⟩:=cB e;simp only[zW,wantA,gj] at ea;exact⟨ea.2.1,ea.2.2.1⟩
theorem P3:LeftO pw qv lo (fun Y=>true) (fun s=>see s.heap) (fun Y=>want) 3000:=fun w=>by
 obtain⟨⟨h,WH,d,k,os⟩,e,e'⟩:=Option.map_eq_some_iff.mp (boot_open (p:=pw) (N:=3000) (by kernel_rfl!) rfl (fun s=>by refine aa ?_ PySem.W.Fast.te14289696077712309145;kernel_rfl!) w);obtain⟨rfl,rfl,rfl,rfl⟩:h=lB w.params/\WH=qY []/\d=Cc/\k=boot_toks:=by simpa only[gj] using e'
 obtain⟨s,r,ho⟩:=Vl w os;have r:=topRun_mono 248 _ _ _ _ r;obtain⟨o1,o2⟩:=cB ho;have t:topFrom l9 pw w 3000 ⟨lB w.params,qY [],Cc,boot_toks,os⟩=some s:=by unfold topFrom;dsimp only;rw[show((lB w.params).isNs mainGlobals&&(qY []:Array GenState).size==0)=true by kernel_rfl!,show(lB w.params).objs.size=11 by kernel_rfl!,show(lB w.params).nsMap mainGlobals "__annotations__" = jV by kernel_rfl!,r];refine(?_:(match staticsOk (D1 pw.main.body) (lB w.params) s.heap&&namesBound pw s.heap&&gensDone s&&laidKept (lB w.params) s.heap with|true=>_|false=>_)=_);exact aa rfl o1
 unfold openEnds;refine aa ?_ e;refine(?_:(topFrom l9 pw w 3000 _).map _=_);refine aa ?_ t;exact congrArg some o2
noncomputable abbrev lr:OpenRow:=PySem.Challenge.rw_rt0103_01.row
abbrev Bx(w:ew)(h:bk):Prop:=∃h0:bk,(∀a o,h0.get? a=some o->h.get? a=some o)/\see h0=want
theorem D6{P:Params}{h:bk}{F:Fz}{ρ:List (ai×ai)}:∀{vs:List ae}{ns:List Int},WellAll P h vs (ns.map .int)->VRs F ρ (ns.map V.int) vs
 |_,[],x=>by cases x;rfl
 |_,n::ns,x=>by obtain⟨v,vs,rfl,h1,h2⟩:=wellAll_cons_inv x;refine⟨v,vs,rfl,?_,D6 h2⟩;clear x h2;cases h1;exact⟨_,rfl⟩
theorem SD{Wt:List WData}(h:lr.toRowW.claim.pre Wt=true):∃ns:List Int,Wt=[.list (ns.map .int)]/\ns.length<=63:=by
 obtain⟨h1,h2⟩:=pre_splitW h;obtain⟨d,r,rfl,h3,h4⟩:=hasAllW_cons h1;obtain rfl:=hasAllW_nil h4;obtain⟨xs,rfl,h5⟩:=hasW_list h3;obtain⟨ns,rfl⟩:=items_int h5;refine⟨ns,rfl,?_⟩;have k:∀b:Bool,(match (match (some (Bv (!b)):Option WData) with|some (.bool false)=>some (Bv false)|some (.bool true)=>some (Bv true)|_=>none:Option WData) with|some (.bool true)=>true|_=>false)=true->b=false:=fun b h=>by cases b<;>trivial
 exact Nat.not_lt.mp fun q=>of_decide_eq_false (k (decide ((63:Int)<((ns.map WData.int).length:Int))) h2) (Int.ofNat_lt.mpr (aa q (bl ..)))
theorem UW{s:ak}(hk:∀a o,hb.get? a=some o->s.heap.get? a=some o)(hg:s.gens=#[]):aE ⟨s.heap.get?,[]⟩ [] s:=
 ⟨hk,fun Y Y e=>e,rfl,fun Y Y e=>(by cases e),fun Y e=>(cq e).elim,fun Y Y e=>(by cases e),fun Y Y Y Y e=>(by cases e),hg⟩
theorem UP{F:Fz}{h:bk}:fY xH ⟨F,[]⟩ h:=⟨[],rfl,fun Y e=>(cq e).elim⟩
theorem Rv{F:Fz}{W':Wd}{s s':ak}(T:av (aC xH) ⟨F,[]⟩ [] s W' s'):∀b o,s.heap.get? b=some o->s'.heap.get? b=some o:=fun b o e=>by
 obtain⟨o',e1,e2⟩:=T.pres b o e (by rintro⟨p,hp,_⟩;clear T right;cases hp) cq;clear e;rcases e2 with rfl|⟨hf,_⟩
 ·exact e1
 ·clear e1;cases hf
theorem PY{s:List Int}(h:qg s=some true):∃Wv,az 6 361 [.lst (s.map .int)] []=some (.ret (.bool true),Wv):=
 ax h fun⟨r,Wv⟩ h1 e=>ax e fun v hv e=>⟨Wv,h1.trans (by rw[(Cj hv:r=_),tx e])⟩
theorem Me(LV:∀Ws:List Int,Ws.length<=63->qg Ws=some true)(e:see hb=want):tN wd hb:=fun s la vs ns hk hg Wx hl hvs=>by
 obtain⟨⟨B⟩,F,X,M⟩:=OY e;obtain⟨Wv,hc⟩:=PY (LV ns Wx);have S:aE ⟨s.heap.get?,[]⟩ [] s:=UW hk hg;refine kl (sZ ((PR B F X M SJ 6).1 xH ⟨by decide,by decide,fun Y=>rfl,⟨[],rfl⟩⟩ ⟨s.heap.get?,[]⟩ [] s S UP 361 _ [.ref la] _ _ (VRs.one (v:=.lst (ns.map .int)) ⟨by refine aa ?_ (bl ..);exact bb Wx (by decide),la,vs.toArray,0,rfl,hl,D6 hvs⟩) hc) (fun x s' q=>?_) fun e s' q=>?_)
 ·refine q _ fun W' S' T v q1 q2=>?_;cases q1;exact⟨q2,Rv T,T.os,S'.gens⟩
 ·refine q _ fun W' S' T c as q1 Y=>?_;cases q1
theorem LH(LV:∀Ws:List Int,Ws.length<=63->qg Ws=some true){d:DefRec}{kwd:List (Str×Expr)} (hd:d.name = "law"):WalkO qv lo (fun Y Y=>True) Bx lr.toRowW d kwd fun f vs=>PySem.call f vs:=by
 intro w s₀ s₁ mg mb G Xm a o pm cd doc dV kV ho hdata hcd hdf hn hg Wt vals as hpre hlay hrd hwl hsys;clear ho hcd hdf hrd;obtain⟨h0,hk,H⟩:=Xm;obtain hn:=hd▸hn;have ha:a=361:=by
  obtain⟨l1,l2⟩:=Uc H;have e3:s₁.heap.nsMap 3 "law" = h0.nsMap 3 "law" := by obtain⟨o3,es,ep,q1,q2,_⟩:=Heap.Ns.of_isNs l2;unfold Heap.nsMap;exact aa (aa rfl (hk _ _ q1)) q1
  obtain hn:=(Heap.Ns.eq_nsMap G.T.g)▸hn;have:=hn.symm.trans (e3.trans l1);clear hn;cases this;rfl
 clear hn;subst ha;obtain⟨ns,rfl,Wx⟩:=SD hpre;obtain⟨v,vs',rfl,h1,h2⟩:=wellAll_cons_inv hwl;clear G hwl;cases h2;clear hpre hlay;cases h1 with
 |@list la vs _ hl hvs=>
 refine bM (Kj (Me LV) H s₁ la vs ns hk hg Wx hl hvs) (fun x s' q=>?_) fun Y Y e=>e.elim;obtain⟨q2,q3,q4,q5⟩:=q;obtain rfl:x=.bool true:=q2;exact⟨.inl ⟨_,.bool true,[],rfl,fun Y=>rfl,.bool true,by kernel_rfl!,fun Y=>⟨.nil,fun a e=>(cq e).elim⟩⟩,.of_keep q3,q4,.of_eq q5⟩
theorem head_law(LV:∀Ws:List Int,Ws.length<=63->qg Ws=some true):PySem.Challenge.rw_rt0103_01.Holds:=by
 refine holds_law PZ fun said=>?_;have WO:((defOf qv lr.name).bind fun x=>match lr.prog.theDef lr.name with
   |some y=>some (y,kwWritten? x.1.params.kwonlyargs x.1.params.kw_defaults)
   |none=>none)=(defOf qv lr.name).map fun x=>((x.1.params,x.1.body,x.1.scope),some x.2):=by kernel_rfl!
 have hsome:(defOf qv lr.name).isSome=true:=by kernel_rfl!
 obtain⟨⟨d,kwd⟩,hd⟩:=Option.isSome_iff_exists.mp hsome;obtain WO:=hd▸WO;cases hy:lr.prog.theDef lr.name with
 |none=>obtain WO:=hy▸WO;cases WO
 |some y=>
  obtain WO:=hy▸WO;simp only[Option.bind_some,JI,rD,gj] at WO;obtain⟨rfl,hk⟩:=WO;refine holds_open (q:=qv) (loose:=lo) (Xt:=fun Y=>true) (XP:=fun Y Y=>True) (Yf:=fun s=>see s.heap) (Ya:=fun Y=>want) (YP:=Bx) (d:=d) (kwd:=kwd) (N:=3000)
   P3 (fun w s e=>⟨s.heap,fun Y Y e=>e,e⟩) (fun w h h' ⟨hb,k1,k2⟩ k=>⟨hb,fun a o e=>k _ _ (k1 a o e),k2⟩) (fun Y Y=>trivial) (fun Y Y Y Y Y=>trivial) hd hy hk
   (fun s e=>recFacts_of (by rfl)) rfl said (by kernel_rfl!) ⟨rfl,rfl,rfl,rfl,rfl,by decide +kernel⟩ ⟨[.list []],by decide +kernel,by decide +kernel⟩ (LH LV (defOf_name hd))
theorem Gc{g:j->M c}(h:m a=some (r,i)):(m>>=g) a=g r i:=by show M.bind m g a=_;delta M.bind;exact aa rfl h
theorem ao{g:j->M c}(h:m a=some (r,i))(e:g r i=q):(m>>=g) a=q:=(Gc h).trans e
section
variable {α:Type}{σ:S}
theorem dm(h:o=some r):(M.lift o:M α) σ=some (r,σ):=by subst h;rfl
end
theorem ci:hZ [] a=some ([],a):=rfl
theorem bv(h:m a=some (v,i))(e:hZ r i=some (vs,F)):hZ (m::r) a=some (v::vs,F):=ao h (ao e rfl)
theorem bz:jX [] a=some ([],a):=rfl
theorem bu(h:m a=some (v,i))(e:jX r i=some (vs,F)):jX ((false,m)::r) a=some (v::vs,F):=ao h (ao rfl (ao e rfl))
theorem Gg(h:m a=some (v,i))(s:cM i.st v=some ws)(e:jX r i=some (vs,F)):jX ((true,m)::r) a=some (ws++vs,F):=
 ao h (ao (ao rfl (dm s)) (ao e rfl))
theorem eX(h:a b=some (v,i))(e:jF i.st v=some r):cu a b=some (r,i):=ao h (ao rfl (dm e))
theorem eN(h:a c=some (x,i))(H:b i=some (y,F))(e:mG op F.st x y=some z):cT op a b c=some (z,F):=ao h (ao H (ao rfl (dm e)))
theorem bh(h:a c=some (x,i))(H:b i=some (y,F))(e:fp op F.st x y=some r):aO op a b c=some (r,F):=ao h (ao H (ao rfl (dm e)))
theorem sV(h:aO op a b c=some (r,i)):kC op a b c=some (.bool r,i):=ao h rfl
theorem zK(h:a b=some (v,i))(e:jF i.st v=some true)(t:pK (m::l) i=q):pK (a::m::l) b=q:=ao h (ao rfl (ao (dm e) t))
theorem Gd(h:a b=some (v,i))(e:jF i.st v=some true):kE (a::m::l) b=some (v,i):=ao h (ao rfl (ao (dm e) rfl))
theorem S6(h:a b=some (v,i))(e:jF i.st v=some false)(t:kE (m::l) i=q):kE (a::m::l) b=q:=ao h (ao rfl (ao (dm e) t))
theorem jz(h:m a=some (r,a))(t:r=true->ge l a=some (r',a)):ge (m::l) a=some (r&&r',a):=by
 refine ao h ?_;clear h;cases r
 ·rfl
 ·exact t rfl
theorem iv(h:m a=some (r,a))(t:r=false->gy l a=some (r',a)):gy (m::l) a=some (r||r',a):=by
 refine ao h ?_;clear h;cases r
 ·exact t rfl
 ·rfl
theorem qG(h:t c=some (r,i))(e:(if r then a else b) i=q):jc t a b c=q:=ao h e
theorem oH(h:a b=some (.int i,c)):gm a b=some (.int (-i),c):=ao h rfl
theorem Gh{s:List O}(h:a b=some (v,⟨fr::fs,s⟩)):pM i a b=some (v,⟨fr.set i (some v)::fs,s⟩):=ao h rfl
theorem eO(h:hZ l a=some (vs,i))(e:vs.length<=sizeMax):bY false l a=some (.lst vs,i):=ao h (by refine aa ?_ (if_pos e);rfl)
theorem sX{s:List O}(h:hZ l a=some (vs,⟨fs,s⟩))(e:vs.length<=sizeMax):bY true l a=some (.obj s.length,⟨fs,s++[.list vs]⟩):=ao h (by refine aa ?_ (if_pos e);rfl)
theorem gQ(h:hZ l a=some (vs,i))(e:vs.length<=sizeMax):dZ l a=some (.tup vs,i):=ao h (by refine aa ?_ (if_pos e);rfl)
theorem bH(h:a c=some (x,i))(H:b i=some (y,F))(e:fR F.st x y=some z):aX a b c=some (z,F):=ao h (ao H (ao rfl (dm e)))
theorem gv(h:a f=some (x,f))(g:b f=some (i,f))(H:c f=some (m,f))(C:d f=some (x3,f))(e:kh f.st x i m x3=some z):dg a b c d f=some (z,f):=
 ao h (ao g (ao H (ao C (ao rfl (dm e)))))
theorem cJ(h:a c=some (x,b))(e:kB b.st i x=some z):bT i a c=some (z,b):=ao h (ao rfl (dm e))
theorem ly{s:List O}{C:Nat}(h:aD s j=.slot C l)(e:n8 (jl i l)=some z):kB s (some i) (.obj j)=some z:=by refine(?_:(((oI _).or _).bind fun p=>n8 _)=_);refine aa ?_ h;exact e
theorem fM{st:List O}{c:Nat}(h:aD st j=.inst c l)(e:n8 (jl i l)=some z):kB st (some i) (.obj j)=some z:=by refine(?_:(((oI _).or _).bind fun p=>n8 _)=_);refine aa ?_ h;exact e
theorem cb(h:a b=some (x,i))(e:sI i.st x=some (n,s)):iV a b=some ((n,s),i):=ao h (ao rfl (dm e))
theorem zO(h:a b=some (.lst vs,i)):jm a b=some ((vs.length,.enum 0 vs),i):=ao h rfl
theorem vW(h:a b=some (.int n,i))(e:-1000<n/\n<1000):j5 a b=some ((n.toNat,.vals (kU 0 n)),i):=ao h (dm (if_pos e))
theorem SY(h:a c=some (.int m,i))(H:b i=some (.int n,F))(e:-1000<m/\m<1000/\-1000<n/\n<1000):p7 a b c=some (((n-m).toNat,.vals (kU m n)),F):=ao h (ao H (dm (if_pos e)))
theorem SZ(h:a b=some (x,i))(e:HU i.st x=some (n,s)):sz a b=some ((n,s),i):=ao h (ao rfl (dm e))
theorem bx(h:jX l a=q)(e:yX l=false):dY l a=q:=by delta dY;refine aa ?_ e;exact h
theorem zM{s:List O}{a:ai}(h:k a vs st1=some (.ret v,s)):mI k a vs ⟨fs,st1⟩=some (v,⟨fs,s⟩):=by delta mI;exact aa rfl h
theorem dA{s:List O}{A:ai}(h:dY l a=some (vs,⟨fs,st1⟩))(e:k A vs st1=some (.ret v,s)):ct k A l a=some (v,⟨fs,s⟩):=ao h (zM e)
theorem vY{s:List O}{A:ai}{c:Cls}(h:dY l a=some (vs,⟨fs,st1⟩))(e:k c.init (.obj st1.length::vs) (st1++[if c.slots then .slot A [] else .inst A []])=some (.ret .none,s)):
  nT k A c l a=some (.obj st1.length,⟨fs,s⟩):=ao h (ao rfl (ao (zM e) rfl))
theorem vX(h:it a=some ((n,s),i))(e:tj s=some vs):kD it a=some (.lst vs,i):=ao h (dm (by refine aa ?_ e;rfl))
theorem ei(h:a b=some (v,i))(e:eI g i.st v=some x):c1 g a b=some (x,i):=ao h (ao rfl (dm e))
theorem qE(h:a c=some (x,i))(H:b i=some (y,F))(e:nS g x y=some z):c2 g a b c=some (z,F):=ao h (ao H (dm e))
theorem eP{st:List O}(h:a f=some (x,i))(e:jr meth nm i.st x=some (.bi g))(b:(!l.any (·.1))=true)(d:dY l i=some (vs,⟨fs,st1⟩))(c:iH g x vs st1=some (v,st)):
  bJ k meth nm a l f=some (v,⟨fs,st⟩):=
 ao h (ao rfl (ao (dm e) (by refine aa (aa ?_ (if_pos rfl)) (show Meth.okArgs (.bi g) l=true from b);exact ao d (by show(iH g x vs st1).map _=_;refine aa ?_ c;rfl))))
theorem oG{s:List O}{A:ai}(h:a d=some (x,i))(e:jr meth nm i.st x=some (.fn A))(c:dY l i=some (vs,⟨fs,st1⟩))(b:k A (x::vs) st1=some (.ret v,s)):
  bJ k meth nm a l d=some (v,⟨fs,s⟩):=
 ao h (ao rfl (ao (dm e) (ao c (zM b))))
theorem ip(h:a b=some (v,i)):fW a b=some (.next,i):=ao h rfl
theorem fv(h:a b=some (v,i)):cA a b=some (.ret v,i):=ao h rfl
theorem a9{s:List O}(h:a b=some (v,⟨fr::fs,s⟩)):aS a (.name i) b=some (.next,⟨fr.set i (some v)::fs,s⟩):=ao h rfl
theorem qI{s:List O}(e:i≠j):pL [i,j] (.tup [x,y]) ⟨fr::fs,s⟩=some ((),⟨(fr.set i (some x)).set j (some y)::fs,s⟩):=by refine(?_:(if[x,y].length=[i,j].length/\[i,j].Nodup then kf [i,j] [x,y] else M.fail) ⟨fr::fs,s⟩=_);refine aa ?_ (if_pos ⟨rfl,by simp[e]⟩);rfl
theorem Ga{s:List O}(e:i≠j)(h:a b=some (.tup [x,y],⟨fr::fs,s⟩)):aS a (.names [i,j]) b=some (.next,⟨(fr.set i (some x)).set j (some y)::fs,s⟩):=ao h (ao (qI e) rfl)
theorem vZ{s:List O}(h:g s=some st1):tv g ⟨fs,s⟩=some ((),⟨fs,st1⟩):=by refine(?_:(g s).bind _=_);refine aa ?_ h;rfl
theorem iT{s:List O}{c:Nat}(h:aD s j=.inst c l)(e:l.length<20/\i<=10):eB (some i) (.obj j) v ⟨fs,s⟩=some ((),⟨fs,s.set j (.inst c (setF i v l))⟩):=by refine vZ (?_:((oI _).bind _).or _=_);refine aa ?_ h;refine(?_:(if l.length<20/\i<=10 then some _ else none).or _=_);refine aa ?_ (if_pos e);rfl
theorem oJ{s:List O}{C:Nat}(h:aD s j=.slot C l)(e:8<=i/\i<=10):eB (some i) (.obj j) v ⟨fs,s⟩=some ((),⟨fs,s.set j (.slot C (setF i v l))⟩):=by refine vZ (?_:((oI _).bind _).or _=_);refine aa ?_ h;exact if_pos e
theorem ir(h:b c=some (v,d))(H:a d=some (x,F))(e:eB i x v F=some ((),f)):eQ i a b c=some (.next,f):=ao h (ao H (ao e rfl))
theorem vR(h:a d=some (x,c))(e:kB c.st i x=some y)(H:b c=some (z,F))(g:xw op y z=some v)(P:eB i x v F=some ((),f)):oK op i a b d=some (.next,f):=
 ao h (ao rfl (ao (dm e) (ao H (ao (dm g) (ao P rfl)))))
theorem bP(h:t a=some (r,i))(e:(if r then s1 else o) i=q):bW t s1 o a=q:=ao h e
theorem bo:au [] a=some (.next,a):=rfl
theorem aw(h:s a=some (.next,i))(e:au l i=q):au (s::l) a=q:=ao h e
theorem iu(h:s a=some (f,i))(e:f≠.next):au (s::l) a=some (f,i):=by refine ao h ?_;clear h;cases f<;>first|rfl|exact absurd rfl e
theorem dE(h:s a=some (.ret v,i)):au (s::l) a=some (.ret v,i):=ao h rfl
theorem Mx(h:cg i es=none):gn i v es=es++[(i,v)]:=by
 induction es with
 |nil=>rfl
 |cons p r I=>
  have h:(if p.1=i then some p.2 else cg i r)=none:=h;by_cases e:p.1=i
  ·rw[if_pos e] at h;trivial
  ·rw[if_neg e] at h;refine(?_:(if p.1=i then(p.1,v)::r else(p.1,p.2)::gn i v r)=_);refine aa (aa ?_ (I h)) (if_neg e);rfl
theorem Ge{s:List O}(h:aD s j=.dict es ep)(e:cg i es=none)(c:es.length<sizeMax):jB (.obj j) (.int i) v ⟨fs,s⟩=some ((),⟨fs,s.set j (.dict (es++[(i,v)]) (ep+1))⟩):=by refine vZ (?_:(oD _).bind _=_);refine aa ?_ h;refine(?_:(if(cg i es).isSome=true then _ else if es.length<sizeMax then some _ else none)=_);refine aa (aa ?_ (Mx e)) e;exact if_pos c
theorem S7(h:c d=some (v,i))(H:a i=some (x,i))(C:b i=some (y,i))(e:jB x y v i=some ((),f)):tb a b c d=some (.next,f):=ao h (ao H (ao C (ao e rfl)))
theorem S8{s:List O}(h:c f=some (v,d))(H:a d=some (x,d))(C:b d=some (y,d))(e:jB x y v d=some ((),⟨fr::fs,s⟩)):wf a b c (.name i) f=some (.next,⟨fr.set i (some v)::fs,s⟩):=
 ao h (ao H (ao C (ao e rfl)))
theorem SU{s:List O}(h:a d=some (.obj j,f))(H:b f=some (.int i,⟨fs,s⟩))(e:aD s j=.dict es ep)(g:cg i es=some v)(c:es.length<=sizeMax):
  wb a b d=some (.next,⟨fs,s.set j (.dict (je i es) (ep+1))⟩):=by
 refine ao h (ao H (ao (vZ ?_) rfl));refine(?_:(oD _).bind _=_);refine aa ?_ e;exact if_pos ⟨by refine aa ?_ g;rfl,c⟩
theorem iq(h:it a=some ((n,s),i))(e:dM t body n s i=q):fx t it body a=q:=ao h e
noncomputable abbrev il(xs:List Int):List V:=xs.map .int
abbrev iL(xs:List Int):V:=.lst (il xs)
mutual
theorem De:∀v:V,pq (py v) (py v)=true
 |.tup vs=>by exact eqv_pys vs
 |.lst vs=>by exact eqv_pys vs
 |.bool b=>by exact beq_self_eq_true b
 |.int i=>by exact beq_self_eq_true i
 |.str s=>by exact beq_self_eq_true s
 |.none|.seti _|.sets _|.setb _|.ins _ _|.obj _|.cst _|.bm _ _|.exc _ _=>rfl
theorem eqv_pys:∀vs:List V,pr (pys vs) (pys vs)=true
 |[]=>rfl
 |v::r=>by refine(?_:pr (py v::pys r) (py v::pys r)=true);rewrite[pr];refine aa (aa ?_ (eqv_pys r)) (De v);rfl
end
theorem kY(s:Str):cF s s=true:=beq_self_eq_true s
theorem AI(h:dD 6 v=true):md v v=some true:=by
 delta md;cases vI v with
 |some i=>exact congrArg some (decide_eq_true rfl)
 |none=>cases vS v with
  |some s=>exact congrArg some (kY s)
  |none=>refine aa (aa ?_ (De v)) h;rfl
theorem j9(xs:List Int):dD (n+1) (iL xs)=true:=List.all_eq_true.mpr fun v s=>by refine fw v (List.mem_map.mp s) fun i Y=>?_;cases n<;>rfl
theorem MS(vs:List V):pr (pys vs) []=vs.isEmpty:=by cases vs<;>rfl
theorem tz(h:dD 6 (.lst vs)=true):md (.lst vs) (.lst [])=some vs.isEmpty:=by show(if dD 6 _&&dD 6 _ then some _ else none)=_;refine aa (aa ?_ (show dD 6 _=true from rfl)) h;refine(?_:some (pq (.list _) (.list []))=_);rewrite[pq];refine aa ?_ (MS ..);rfl
theorem HV(i:Int)(xs:List Int):kj (.int i) (il xs)=some (xs.contains i):=by delta kj;refine aa ?_ (show(il xs).all _=true from j9 xs);show some _=_;refine aa ?_ wL;congr 1;refine aa ?_ A3;congr 1;funext y;exact AL
theorem sF(xs:List Str):ic (xs.map .str)=true:=by induction xs with|nil=>rfl|cons x r I=>trivial
theorem nc(xs:List Str):gW (xs.map .str)=xs:=by induction xs with|nil=>rfl|cons x r I=>exact congrArg _ I
theorem yH(xs:List Int):lO (il xs)=true:=by induction xs with|nil=>rfl|cons x r I=>trivial
theorem uS(xs:List Int):jo (il xs)=xs:=by induction xs with|nil=>rfl|cons x r I=>exact congrArg _ I
theorem Pf:∀xs:List Int,xs≠[]->ic (il xs)=false
 |_::_,_=>rfl
theorem U9:∀(xs:List Int)(a:Int),∃r,qQ (il xs) a=some r:=by
 intro p;induction p with
 |nil=>intro a;exact⟨a,rfl⟩
 |cons x r I=>intro a;exact I _
theorem RY(h:i<n):place n (i:Int)=some i:=by delta place;rw[if_pos (lj _),if_pos (Int.ofNat_lt.mpr h)];rfl
theorem RX(h:0<n):place n (-1)=some (n-1):=by delta place;rw[if_neg (by decide),if_pos (show -(n:Int)<=-1 from IV (Int.ofNat_le.mpr h))];exact congrArg some ((congrArg Int.toNat (tQ (-1) n)).trans (Int.toNat_sub n 1))
theorem jn{st:List O}{i:Nat}(h:vs[i]?=some v):fR st (.lst vs) (.int i)=some v:=by refine kb (x:=(place vs.length _).bind _) ?_;refine aa ?_ (RY (List.getElem?_eq_some_iff.mp h).1);exact h
theorem Ep{b:List V}(h:b.getLast?=some v):(place b.length (-1)).bind (b[·]?)=some v:=by
 cases b with
 |nil=>assumption
 |cons a r=>refine aa ?_ (RX (pj _));exact List.getLast?_eq_getElem?.symm.trans h
theorem yB{s:List O}(h:vs.getLast?=some v):fR s (.lst vs) (.int (-1))=some v:=kb (Ep h)
theorem yC{s:List O}(A:aD s j=.list vs)(h:vs.getLast?=some v):fR s (.obj j) (.int (-1))=some v:=by refine(?_:((oL _).bind _).or _=_);refine aa ?_ A;exact kb (Ep h)
theorem yA{s:List O}(A:aD s j=.dict es ep)(h:cg i es=some v):fR s (.obj j) (.int i)=some v:=by refine(?_:((oL _).bind _).or ((oD _).bind _)=_);refine aa ?_ A;exact h
section
variable {α:Type}{x:V}{a:M V}{k:K}
theorem RT(xs:List α)(a k:Nat):((iE k).map (a+·)).filterMap (xs[·]?)=(xs.drop a).take k:=by
 induction k generalizing a with
 |zero=>rfl
 |succ k I=>
  have e:(nH ((a+·)∘w6) _)=(iE k).map _:=ry fun i Y=>by exact i6 (jp [_,_] (.l (.a af bI) (.a aF aj)) tU) (dU (mB ..))
  refine aa (aa (aa (aa (aa ?_ (Nat.add_zero ..)) nF) gB) dH) wW;refine aa (aa ?_ (I (a+1))) e;cases h:xs[a]? with
  |none=>rw[A4] at h;rw[wP h,wP (by exact mz h)];simp
  |some x=>exact aa (aa (aa rfl ((List.getElem?_eq_some_iff.mp h).2)) Ju) (List.drop_eq_getElem_cons ((List.getElem?_eq_some_iff.mp h).1))
end
theorem zG(xs:List j)(l D:Option Int):ez xs l D none=(xs.drop (l.elim 0 (clipAt xs.length))).take (D.elim xs.length (clipAt xs.length)-l.elim 0 (clipAt xs.length)):=by delta ez;exact aa (aa (aa rfl (RT ..)) (sliceRange_one ..)) (sliceBounds_plain ..)
theorem RP(xs:List j)(a:Nat):ez xs (some (a:Int)) none none=xs.drop a:=by
 refine aa ?_ (zG ..);rw[JH,clipAt_nat];rcases Bh a xs.length with h|h
 ·rw[Bk h,pg (by simp)]
 ·exact aa (aa (aa (aa rfl Jt) (wP h)) (wP (ck _))) (JA h)
theorem RS(xs:List j)(b:Nat):ez xs none (some (b:Int)) none=xs.take b:=by
 refine aa ?_ (zG ..);simp only[JH,clipAt_nat];rcases Bh b xs.length with h|h
 ·exact aa rfl (Bk h)
 ·exact aa (aa (aa rfl (pg h)) (pg (ck _))) (JA h)
theorem FG(g:j->c)(xs:List j)(l D s:Option Int):ez (xs.map g) l D s=(ez xs l D s).map g:=by delta ez;refine aa (aa ?_ List.map_filterMap) (bl ..);congr 1;funext i;simp
theorem wi{st:List O}(a:Nat):kh st (.lst vs) (.int a) .none .none=some (.lst (vs.drop a)):=by show((some _).map V.lst)=_;refine aa ?_ (RP ..);rfl
theorem qO{st:List O}(b:Nat):kh st (.lst vs) .none (.int b) .none=some (.lst (vs.take b)):=by show((some _).map V.lst)=_;refine aa ?_ (RS ..);rfl
theorem Uv{st:List O}(A:aD st j=.list vs)(a:Nat):kh st (.obj j) (.int a) .none .none=some (.lst (vs.drop a)):=by refine(?_:((oL _).bind fun vs=>(CQ vs _ .none .none).map V.lst)=_);refine aa ?_ A;exact wi (vs:=vs) (st:=st) a
theorem jW{s:List O}(h:vs.length+ws.length<=sizeMax):mG .Add s (.lst vs) (.lst ws)=some (.lst (vs++ws)):=by show(if _ then _ else _)=_;exact aa rfl (if_pos h)
theorem un{s:List O}(h:rR op i j=some v):mG op s (.int i) (.int j)=some v:=kb h
theorem xz(h:0<j/\j<1000000):rR .Mod i j=some (.int (i.fmod j)):=if_pos h
theorem KO(h:(i.natAbs<1000&&j.natAbs<1000)=true):rR .Mult i j=some (.int (i*j)):=if_pos h
theorem qF(h:t a=some (q,a)):fm [t] y b a=(if q then y else b) a:=Gc h
theorem m7(h:a b=some (v,b))(e:acc.length<sizeMax):iJ im a [] acc b=some (acc++[v],b):=ao h (dm (if_pos e))
inductive eH:Tgt->cn->List V->(V->List (Option V)->List (Option V))->Prop
 |one (i:Nat) (vs:List V):eH (.name i) (.vals vs) vs (fun v fr=>fr.set i (some v))
 |two {i j:Nat} (h:i≠j) (ps:List (V×V)):eH (.names [i,j]) (.vals (ps.map fun p=>.tup [p.1,p.2])) (ps.map fun p=>.tup [p.1,p.2]) (fun v fr=>match v with|.tup [x,y]=>(fr.set i (some x)).set j (some y)|_=>fr)
 |enum {i j:Nat} (h:i≠j) (n:Nat) (vs:List V):eH (.names [i,j]) (.enum n vs) (gM n vs) (fun v fr=>match v with|.tup [x,y]=>(fr.set i (some x)).set j (some y)|_=>fr)
def HT(n:Prop)(c:V->List V->Prop):List V->Prop
 |[]=>n
 |v::vs=>c v vs
theorem eH.both{a:List O}(h:eH t s l T):HT (s.next a=some none) (fun v vs=>∃s',s.next a=some (some (v,s'))/\t.setFrom s v ⟨fr::fs,st1⟩=some ((),⟨T v fr::fs,st1⟩)/\eH t s' vs T) l:=by
 cases h with
 |one i=>cases l with
  |nil=>rfl
  |cons v vs=>exact⟨_,rfl,rfl,.one _ _⟩
 |two h ps=>cases ps with
  |nil=>rfl
  |cons p ps=>exact⟨_,rfl,(show pL [_,_] (.tup [p.1,p.2]) ⟨fr::fs,st1⟩=_ from qI h),.two h ps⟩
 |enum h n ws=>cases ws with
  |nil=>rfl
  |cons w ws=>exact⟨_,rfl,qI h,.enum h _ ws⟩
theorem eH.nil{a:List O}(h:eH t s [] T):s.next a=some none:=eH.both (fr:=[]) (fs:=[]) (st1:=[]) h
theorem eH.cons{st:List O}(h:eH t s (v::vs) T):∃s',s.next st=some (some (v,s'))/\t.setFrom s v ⟨fr::fs,st1⟩=some ((),⟨T v fr::fs,st1⟩)/\eH t s' vs T:=h.both
theorem vV{st:List O}{I:List (Option V)->Prop}{t:Tgt}{B:List V->M (List V)}{G:V->List V}{k:V->List (Option V)->List (Option V)}:∀{vs:List V}{src:cn}{acc:List V}{fr:List (Option V)},eH t src vs k->I fr->
    (∀v∈vs,∀(fr:List (Option V))(acc:List V),I fr->acc.length+(G v).length<=sizeMax->∃fr',I fr'/\B acc ⟨k v fr::fs,st⟩=some (acc++G v,⟨fr'::fs,st⟩))->acc.length+(vs.flatMap G).length<=sizeMax->
    ∃fr',I fr'/\jk t B vs.length src acc ⟨fr::fs,st⟩=some (acc++vs.flatMap G,⟨fr'::fs,st⟩):=by
  intro p;induction p with
  |nil=>intro src acc fr h b a c;exact⟨fr,b,by show(match src.next st with|some none=>pure acc|_=>M.fail:M _) ⟨fr::fs,st⟩=_;refine aa (aa (aa ?_ (dT ..)) List.flatMap_nil) h.nil;rfl⟩
  |cons v r i=>intro src acc fr h b a c;obtain c:=cP▸c;refine cw (h.cons (st:=st) (st1:=st) (fr:=fr) (fs:=fs)) fun s' f g d=>aH (a v bK fr acc b (aJ [_,_,_,_] (.l (.a af (.a aj aA)) aY) (.l (.a af aj) aY) tU c)) fun j e P=>oE (i d e (fun w u=>a w (bD _ u)) (acc:=acc++G v) (by refine aa ?_ cP;exact aJ [_,_,_,_] (.l (.a af (.a aj aA)) aY) (.l (.a (.a af aj) aA) aY) tU c)) fun F H=>⟨F,H.1,?_⟩;refine aa (aU (aU ?_ H.2) (iB ..)) pc;show(match src.next st with|some none=>pure acc|some (some (v,l))=>_|none=>M.fail:M _) ⟨fr::fs,st⟩=_;refine aa ?_ f;exact ao g (ao P rfl)
theorem oC{ifs:List (M Bool)}(h:first a=some ((vs.length,src),a))(x:eH t src vs T)
  (b:∀v∈vs,∀(fr:List (Option V))(acc:List V),fr.length=n->acc.length+(G v).length<=sizeMax->∃fr',fr'.length=n/\fm ifs (iJ im elt r acc) (pure acc) ⟨T v fr::a.fs,a.st⟩=some (acc++G v,⟨fr'::a.fs,a.st⟩))
  (c:(vs.flatMap G).length<=sizeMax):bN false n elt first ⟨t,ifs⟩ r a=some (.lst (vs.flatMap G),a):=by
 refine oE (vV x Ji b (by exact jO c _)) fun fr' e=>ao (ao h (ao rfl (ao e.2 (ao rfl rfl)))) ?_;rfl
theorem DA{q:V->Bool}{g:V->V}:∀vs:List V,vs.flatMap (fun v=>if q v then[g v] else[])=(vs.filter q).map g:=by
 intro p;induction p with
 |nil=>rfl
 |cons v r I=>refine aa (aa (aa ?_ i5) (I)) pc;cases q v<;>rfl
theorem vU(h:first a=some ((vs.length,.vals vs),a))
  (r:∀v∈vs,∀fr:List (Option V),fr.length=n->t ⟨fr.set 1 (some v)::a.fs,a.st⟩=some (q v,⟨fr.set 1 (some v)::a.fs,a.st⟩))
  (z:∀v∈vs,q v=true->∀fr:List (Option V),fr.length=n->elt ⟨fr.set 1 (some v)::a.fs,a.st⟩=some (g v,⟨fr.set 1 (some v)::a.fs,a.st⟩)) (d:vs.length<=sizeMax):
  bN false n elt first ⟨.name 1,[t]⟩ [] a=some (.lst ((vs.filter q).map g),a):=by
 refine aU ?_ (DA ..);refine oC h (.one 1 vs) (fun v s fr acc b l=>⟨fr.set 1 (some v),by refine aa ?_ df;exact b,?_⟩) ?_
 ·refine aa ?_ (qF (r v s fr b));cases c:q v with
  |false=>simp;rfl
  |true=>obtain l:=c▸l;exact m7 (z v s c fr b) (by trivial)
 ·refine aa (aa ?_ (bl ..)) (DA ..);exact bb (ky _ _) d
theorem uK{g:V->V}:∀vs:List V,vs.flatMap (fun v=>[g v])=vs.map g:=by
 intro p;induction p with
 |nil=>rfl
 |cons v r I=>refine aa (aa ?_ (I)) pc;rfl
theorem zN(h:first a=some ((vs.length,.vals vs),a))
  (z:∀v∈vs,∀fr:List (Option V),fr.length=n->elt ⟨fr.set 1 (some v)::a.fs,a.st⟩=some (g v,⟨fr.set 1 (some v)::a.fs,a.st⟩)) (c:vs.length<=sizeMax):
  bN false n elt first ⟨.name 1,[]⟩ [] a=some (.lst (vs.map g),a):=by
 refine aU ?_ (uK ..);refine oC h (.one 1 vs) (fun v s fr acc b l=>⟨fr.set 1 (some v),by refine aa ?_ df;exact b,?_⟩) ?_
 ·exact m7 (z v s fr b) (by trivial)
 ·refine aa (aa ?_ (bl ..)) (uK ..);trivial
theorem ba{st:List O}(h:fr[i]?=some (some v)):ac 0 i ⟨fr::fs,st⟩=some (v,⟨fr::fs,st⟩):=by refine(?_:(fr[i]?).bind _=_);refine aa ?_ h;rfl
theorem cz{st:List O}{f:List (Option V)}(h:f.length=n)(a:1<n):ac 0 1 ⟨f.set 1 (some v)::fs,st⟩=some (v,⟨f.set 1 (some v)::fs,st⟩):=ba (by rw[de (by exact aa a h)])
section
def fin(o:Option (Fl×S)):Option (CR×List O):=o.bind (uJ false)
def sr(o:Option (Fl×S)):Option (CR×List O):=o.bind (uJ true)
noncomputable def LZ:Cls:={ init:=122,slots:=false,meths:=[("_get_nodeinfo",129),("add",136),("prepare",141),("get_ready",148),("done",169),("_find_cycle",176)] }
def He(k:K):List (M Fl):=[eQ (some 4) (ac 0 0) cDict0,eQ (some 5) (ac 0 0) (cC V.none),eQ (some 6) (ac 0 0) (cC (V.int 0)),eQ (some 7) (ac 0 0) (cC (V.int 0)),
  bW (aO .IsNot (ac 0 1) (cC V.none))
   (au [fx (Tgt.names [2,3]) (iV (bJ k bc "items" (ac 0 1) [])) (au [fW (bJ k bc "add" (ac 0 0) [(false,ac 0 2),(true,ac 0 3)])])])
   (au [])]
def Hv(k:K):List (M Fl):=[eQ (some 8) (ac 0 0) (ac 0 1),eQ (some 9) (ac 0 0) (cC (V.int 0)),eQ (some 10) (ac 0 0) (bY true [])]
def Ah(k:K):List (M Fl):=[bW (aO .Is (pM 2 (bJ k bc "get" (bT (some 4) (ac 0 0)) [(false,ac 0 1)])) (cC V.none))
   (au [wf (bT (some 4) (ac 0 0)) (ac 0 1) (nT k 89 { init:=85,slots:=true,meths:=[] } [(false,ac 0 1)]) (Tgt.name 2)]) (au []),
  cA (ac 0 2)]
def BU(k:K):M Fl:=au [aS (bJ k bc "_get_nodeinfo" (ac 0 0) [(false,ac 0 4)]) (Tgt.name 5),fW (bJ k bc "append" (bT (some 10) (ac 0 5)) [(false,ac 0 1)])]
def Ai(k:K):List (M Fl):=[bW (aO .IsNot (bT (some 5) (ac 0 0)) (cC V.none))
   (au [ke (bQ "ValueError") [cC (V.str "Nodes cannot be added after a call to prepare()")]])
   (au []),
  aS (bJ k bc "_get_nodeinfo" (ac 0 0) [(false,ac 0 1)]) (Tgt.name 3),
  oK .Add (some 9) (ac 0 3) (c1 B1.len (ac 0 2)),
  fx (Tgt.name 4) (iV (ac 0 2)) (BU k)]
def Aj(k:K):List (M Fl):=[bW (aO .IsNot (bT (some 5) (ac 0 0)) (cC V.none))
   (au [ke (bQ "ValueError") [cC (V.str "cannot prepare() more than once")]])
   (au []),
  eQ (some 5) (ac 0 0)
   (bN true 2 (bT (some 8) (ac 0 1)) (sz (bT (some 4) (ac 0 0))) { tgt:=Tgt.name 1,ifs:=[aO .Eq (bT (some 9) (ac 0 1)) (cC (V.int 0))] } []),
  aS (bJ k bc "_find_cycle" (ac 0 0) []) (Tgt.name 1),
  bW (cu (ac 0 1)) (au [ke (cm 104) [cC (V.str "nodes are in a cycle"),ac 0 1]])
   (au [])]
def BV:M Fl:=au [eQ (some 9) (aX (ac 0 2) (ac 0 3)) (cC (V.int (wK 0)))]
def Hf(k:K):List (M Fl):=[bW (aO .Is (bT (some 5) (ac 0 0)) (cC V.none))
   (au [ke (bQ "ValueError") [cC (V.str "prepare() must be called first")]])
   (au []),
  aS (c1 B1.tuple (bT (some 5) (ac 0 0))) (Tgt.name 1),aS (bT (some 4) (ac 0 0)) (Tgt.name 2),
  fx (Tgt.name 3) (iV (ac 0 1)) BV,
  fW (bJ k bc "clear" (bT (some 5) (ac 0 0)) []),oK .Add (some 6) (ac 0 0) (c1 B1.len (ac 0 1)),cA (ac 0 1)]
def xB(k:K):M Fl:=au [aS (aX (ac 0 2) (ac 0 6)) (Tgt.name 7),oK .Sub (some 9) (ac 0 7) (cC (V.int 1)),
        bW (aO .Eq (bT (some 9) (ac 0 7)) (cC (V.int 0)))
         (au [fW (bJ k bc "append" (bT (some 5) (ac 0 0)) [(false,ac 0 6)])]) (au [])]
def BW(k:K):M Fl:=au [bW (aO .Is (pM 4 (bJ k bc "get" (ac 0 2) [(false,ac 0 3)])) (cC V.none)) (au [ke (bQ "ValueError") [M.fail]]) (au []),
     aS (bT (some 9) (ac 0 4)) (Tgt.name 5),
     bW (aO .NotEq (ac 0 5) (cC (V.int (wK 0))))
      (au [bW (aO .GtE (ac 0 5) (cC (V.int 0))) (au [ke (bQ "ValueError") [M.fail]])
         (au [bW (aO .Eq (ac 0 5) (cC (V.int (wK 1)))) (au [ke (bQ "ValueError") [M.fail]]) (au [M.fail])])])
      (au []),
     eQ (some 9) (ac 0 4) (cC (V.int (wK 1))),
     fx (Tgt.name 6) (iV (bT (some 10) (ac 0 4))) (xB k),
     oK .Add (some 7) (ac 0 0) (cC (V.int 1))]
def Hg(k:K):List (M Fl):=[bW (aO .Is (bT (some 5) (ac 0 0)) (cC V.none))
   (au [ke (bQ "ValueError") [cC (V.str "prepare() must be called first")]])
   (au []),
  aS (bT (some 4) (ac 0 0)) (Tgt.name 2),
  fx (Tgt.name 3) (iV (ac 0 1)) (BW k)]
def r6:M Fl:=au [qM (Tgt.name 6) (aX (ac 0 3) (gm (cC (V.int 1))))
            (au [wb (ac 0 5) (bJ (fun Y Y Y=>none) bc "pop" (ac 0 2) []),fW (bJ (fun Y Y Y=>none) bc "pop" (ac 0 3) [])])]
def AJ:M Fl:=gw (cu (ac 0 2)) r6 (au [M.pure Fl.brk]) 2000
def oP(k:K):M Fl:=bW (aO .In (ac 0 6) (ac 0 4))
         (au [bW (aO .In (ac 0 6) (ac 0 5)) (au [cA (cT .Add (dg (ac 0 2) (aX (ac 0 5) (ac 0 6)) (cC V.none) (cC V.none)) (bY false [ac 0 6]))]) (au [])])
         (au [fW (bJ k bc "add" (ac 0 4) [(false,ac 0 6)]),
           fW (bJ k bc "append" (ac 0 3) [(false,ur (bT (some 10) (aX (ac 0 1) (ac 0 6))))]),
           tb (ac 0 5) (ac 0 6) (c1 B1.len (ac 0 2)),fW (bJ k bc "append" (ac 0 2) [(false,ac 0 6)])])
def pF(k:K):M Fl:=au [bW (aO .In (ac 0 6) (ac 0 4)) (au [M.pure Fl.cont]) (au []),gw (cu (cC (V.bool true))) (au [oP k,AJ]) (au []) 2000]
def Hh(k:K):List (M Fl):=[aS (bT (some 4) (ac 0 0)) (Tgt.name 1),aS (bY true []) (Tgt.name 2),aS (bY true []) (Tgt.name 3),aS cSet0 (Tgt.name 4),aS cDict0 (Tgt.name 5),
  fx (Tgt.name 6) (iV (ac 0 1)) (pF k),cA (cC V.none)]
def B0(k:K):M Fl:=au [fW (bJ k bc "add" (ac 0 2) [(false,ac 0 3),(true,ac 0 4)])]
def Hp(k:K):List (M Fl):=[aS (nT k 186 LZ []) (Tgt.name 2),fx (Tgt.names [3,4]) (iV (cT .Add (kD (jm (ac 0 0))) (ac 0 1))) (B0 k),cA (ac 0 2)]
def Vd(k:K):List (M Fl):=[td k bc "prepare" (ac 0 0) [(cm 104,none,au [cA (cC (V.str "a ring"))]),(bQ "ValueError",some 1,au [cA (c1 B1.str (ac 0 1))])],
  cA (cC (V.str "goes"))]
def rN(k:K):M Fl:=au [aS (cT .Add (ac 0 2) (kD (iV (bJ k bc "get_ready" (ac 0 0) [])))) (Tgt.name 2),
     bW (aO .Eq (ac 0 2) (bY false [])) (au [M.pure Fl.brk]) (au []),aS (aX (ac 0 2) (cT .Mod (ac 0 4) (c1 B1.len (ac 0 2)))) (Tgt.name 5),
     aS (bN false 3 (ac 0 1) (iV (ac 0 2)) { tgt:=Tgt.name 1,ifs:=[aO .NotEq (ac 0 1) (ac 1 5)] } []) (Tgt.name 2),
     fW (bJ k bc "append" (ac 0 3) [(false,ac 0 5)]),
     fW (bJ k bc "done" (ac 0 0) [(false,ac 0 5)])]
def Hr(k:K):List (M Fl):=[aS (dZ [bY false [],bY true []]) (Tgt.names [2,3]),fx (Tgt.name 4) (iV (ac 0 1)) (rN k),cA (ac 0 3)]
variable {k:Nat}{st:List O}{B:Nat}{x y:V}
theorem K8:az (k+1) 122 [x] st=fin (au (He (az k)) ⟨[[some x,some .none,none,none]],st⟩):=by kernel_rfl!
theorem Lu:az (k+1) 85 [x,y] st=fin (au (Hv (az k)) ⟨[[some x,some y]],st⟩):=by kernel_rfl!
theorem K9:az (k+1) 129 [x,y] st=fin (au (Ah (az k)) ⟨[[some x,some y,none,none]],st⟩):=by kernel_rfl!
theorem Cn:az (k+1) 141 [x] st=fin (au (Aj (az k)) ⟨[[some x,none,none,none]],st⟩):=by kernel_rfl!
theorem Lb:az (k+1) 148 [x] st=fin (au (Hf (az k)) ⟨[[some x,none,none,none,none,none,none,none]],st⟩):=by kernel_rfl!
theorem Lc:az (k+1) 169 [x,y] st=fin (au (Hg (az k)) ⟨[[some x,some (.tup [y]),none,none,none,none,none,none,none,none,none]],st⟩):=by kernel_rfl!
theorem Ld:az (k+1) 176 [x] st=fin (au (Hh (az k)) ⟨[[some x,none,none,none,none,none,none,none,none,none,none]],st⟩):=by kernel_rfl!
theorem Ln:az (k+1) 334 [x,y] st=fin (au (Hp (az k)) ⟨[[some x,some y,none,none,none,none,none,none]],st⟩):=by kernel_rfl!
theorem xE:az (k+1) 341 [x] st=fin (au (Vd (az k)) ⟨[[some x,none,none,none,none]],st⟩):=by kernel_rfl!
theorem Lp:az (k+1) 351 [x,y] st=sr (au (Hr (az k)) ⟨[[some x,some y,none,none,none,none,none,none]],st⟩):=by kernel_rfl!
def Ub:aL:=match kI 136 with
 |some fd=>fd.scope
 |none=>default
def TB(k:K)(st:List O)(o:Option (List (Str×V))):Option (CR×List O):=match o.bind fun bs=>pH Ub bs (jN 8 none) with
 |none=>none
 |some fr=>fin (au (Ai k) ⟨[fr],st⟩)
theorem La(h:vs.length<=900):az (k+1) 136 (x::y::vs) st=fin (au (Ai (az k)) ⟨[[some x,some y,some (.tup vs),none,none,none,none,none]],st⟩):=by
 have e:az (k+1) 136 (x::y::vs) st=TB (az k) st (if 2<=vs.length+2/\vs.length+2<=1000 then some [("self",x),("node",y),("predecessors",.tup vs)] else none):=by kernel_rfl!
 rw[e,if_pos ⟨by exact Bg ..,by exact aJ [_] (.l af (.n 900)) (.l (.a af aQ) d8) tU h⟩];kernel_rfl!
end
def Qx(me:ai->Str->Option ai)(nm:Str)(o:O):Option Meth:=((oL o).bind fun _=>(yT nm).map .bi).or (((oD o).bind fun _=>(CX nm).map .bi).or (((oS o).bind fun _=>(GZ nm).map .bi).or ((oI o).bind fun p=>(me p.1 nm).map .fn)))
theorem vi{s:List O}(h:aD s j=o)(e:Qx m nm o=r):jr m nm s (.obj j)=r:=(congrArg _ h).trans e
theorem EV{s:List O}(h:aD s j=.dict es ep):jr m "get" s (.obj j)=some (.bi .get):=vi h rfl
theorem kN{s:List O}(h:aD s j=.list vs)(e:yT nm=some b):jr m nm s (.obj j)=some (.bi b):=vi h (kb (congrArg (t7 Meth.bi) e))
theorem QI{s:List O}(h:aD s j=.set xs):jr m "add" s (.obj j)=some (.bi .add):=vi h rfl
theorem oo{s:List O}{C:Nat}(h:aD s j=.inst C l)(e:bc C nm=some a):jr bc nm s (.obj j)=some (.fn a):=vi h (congrArg (t7 Meth.fn) e)
theorem KN{s:List O}(h:aD s j=.dict es ep):iH .get (.obj j) [.int i] s=some ((cg i es).getD .none,s):=by refine(?_:(oD _).bind _=_);refine aa ?_ h;rfl
theorem B8{s:List O}(h:aD s j=.dict es ep)(e:(cg i es).getD .none=v):iH .get (.obj j) [.int i] s=some (v,s):=aa (aa rfl e) (KN h)
theorem pG{s:List O}(h:aD s j=.list vs)(e:vs.length<sizeMax):iH .append (.obj j) [v] s=some (.none,s.set j (.list (vs++[v]))):=by refine(?_:((oL _).bind _).bind _=_);refine aa ?_ h;exact if_pos e
theorem xy{s:List O}(h:aD s j=.list vs)(e:vs.getLast?=some v):iH .pop (.obj j) [] s=some (v,s.set j (.list vs.dropLast)):=by refine(?_:((oL _).bind _).bind _=_);refine aa ?_ h;refine(?_:vs.getLast?.bind _=_);refine aa ?_ e;rfl
theorem KM{s:List O}(h:aD s j=.list vs):iH .clear (.obj j) [] s=some (.none,s.set j (.list [])):=by refine(?_:((oL _).bind _).bind _=_);refine aa ?_ h;rfl
theorem KL{s:List O}(h:aD s j=.set xs)(e:xs.contains i=false)(g:xs.length<sizeMax):iH .add (.obj j) [.int i] s=some (.none,s.set j (.set (xs++[i]))):=by refine(?_:(oS _).bind _=_);refine aa ?_ h;exact(if_neg (ne_true_of_eq_false e)).trans (if_pos g)
noncomputable def bw(B:Nat)(Wu:List Int)(m:Int):Nat:=B+2+2*Wu.idxOf m
noncomputable def ie(m n:Int)(j:Nat):O:=.slot 89 [(8,.int m),(9,.int n),(10,.obj j)]
structure cH(st:List O)(B:Nat)(Wu:List Int)(np:Int->Int)(su:Int->List Int):Prop where
 dict:∃ep,aD st (B+1)=.dict (Wu.map fun m=>(m,.obj (bw B Wu m))) ep
 node:∀m∈Wu,aD st (bw B Wu m)=ie m (np m) (bw B Wu m+1)
 list:∀m∈Wu,aD st (bw B Wu m+1)=.list (il (su m))
 nodup:Wu.Nodup
 len:B+2+2*Wu.length<=st.length
section
variable {st:List O}{rv:V}{B:Nat}{c1 c2:Int}
abbrev So(st:List O)(B:Nat)(rv:V)(c1 c2:Int):Prop:=aD st B=.inst 186 [(4,.obj (B+1)),(5,rv),(6,.int c1),(7,.int c2)]
end
noncomputable def lx(Wu:List Int)(m:Int):List Int:=if m∈Wu then Wu else Wu++[m]
noncomputable def upd{α:Type}(f:Int->α)(m:Int)(a:α):Int->α:=fun x=>if x=m then a else f x
theorem AD{a:j}:upd f m a m=a:=if_pos rfl
theorem ma{a:j}{x:Int}(h:x≠m):upd f m a x=f x:=if_neg h
theorem sA{k:List Int}(h:m∈k):k.idxOf m<k.length:=List.idxOf_lt_length_iff.mpr h
theorem OZ{k:List Int}(h:a∈k)(e:k.idxOf a=k.idxOf b):a=b:=by obtain H:=Jd (sA (List.idxOf_lt_length_iff.mp (by refine aU ?_ e;exact sA h)));refine aU (aU ?_ H) (Jd (sA h));simp only[e]
theorem BB(h:a∈k)(e:bw B k a=bw B k b):a=b:=OZ h (Nat.eq_of_mul_eq_mul_left Nat.two_pos (Bf e))
theorem i8(h:m∈k):bw B k m+1<B+2+2*k.length:=by have:=sA h;exact aP [_,_,_] (.l aF aj) (.l aF aj) (.l (.a (.a (.a (.a aA aQ) (.m 2 af)) aI) aI) (.a (.a aA aQ) (.m 2 aj))) tU this this
theorem xi{x:Int}(h:m∈k):bw B (k++[x]) m=bw B k m:=by delta bw;exact aa (aa rfl (if_pos h)) Jg
theorem ug{x:Int}(h:x∉k):bw B (k++[x]) x=B+2+2*k.length:=by delta bw;refine aa (aa ?_ (if_neg h)) Jg;simp
theorem r8{f:Int->V}:∀{l:List Int},m∈l->cg m (l.map fun a=>(a,f a))=some (f m)
 |a::r,h=>by
  refine aa ?_ dH;simp only[cg];by_cases e:a=m
  ·exact aa (aa rfl e) (if_pos e)
  ·refine aa ?_ (if_neg e);exact r8 ((List.mem_cons.mp h).resolve_left fun h=>e h.symm)
theorem xU(h:m∉es.map (·.1)):cg m es=none:=by
 induction es with
 |nil=>rfl
 |cons p r I=>rw[dH,dP,not_or] at h;rw[cg,if_neg fun e=>h.1 e.symm];exact I h.2
theorem El{f:Int->V}{l:List Int}:(l.map fun a=>(a,f a)).map (·.1)=l:=by refine aa ?_ gB;exact List.map_id _
theorem cH.frame{s:List O}(R:cH s B k np su)(h:∀j,B<j->j<B+2+2*k.length->aD st1 j=aD s j)(c:B+2+2*k.length<=st1.length):cH st1 B k np su:=by
 obtain⟨⟨ep,b⟩,H,C,d,p⟩:=R;refine⟨⟨ep,by refine aa ?_ (h _ (ck _) (hw ..));trivial⟩,fun m a=>?_,fun m a=>?_,d,c⟩
 ·have:=i8 (B:=B) a;refine aa ?_ (h _ (by exact jp [_,_] (.l aF (.a (.a af aQ) (.m 2 aj))) tU) (fh this));exact H m a
 ·have:=i8 (B:=B) a;refine aa ?_ (h _ (by exact jp [_,_] (.l aF (.a (.a (.a af aQ) (.m 2 aj)) aI)) tU) (this));exact C m a
theorem cH.off{s:List O}(R:cH s B k np su)(h:j<=B∨B+2+2*k.length<=j):cH (s.set j o) B k np su:=
 R.frame (fun i a H=>aZ fun e=>mC h (fun z=>eg [_,_,_] (.l aF aj) (.e aj aA) (.l aA af) .f tU a e z) fun z=>eg [_,_,_,_] (.l (.a (.a af aQ) (.m 2 aj)) aA) (.q aY aA) (.l i4 (.a (.a af aQ) (.m 2 aj))) .f tU z e H) (by refine aa ?_ df;exact R.len)
theorem cH.push{s:List O}(R:cH s B k np su):cH (s++[o]) B k np su:=
 R.frame (fun i h H=>dC (by have:=R.len;exact bb H this)) (by have:=R.len;simp;exact mz this)
theorem BC:bw B c a≠bw B c b+1:=fun e=>absurd ((Nat.mul_mod_right 2 _).symm.trans ((congrArg (· % 2) (Bf (k:=2*c.idxOf b+1) e)).trans (Nat.mul_add_mod 2 _ 1))) (by decide)
theorem cH.setNp{s:List O}(R:cH s B k np su)(h:m∈k):cH (s.set (bw B k m) (ie m n (bw B k m+1))) B k (upd np m n) su:=by
 obtain b:=i8 (B:=B) h;obtain⟨⟨ep,c⟩,H,C,d,p⟩:=R;refine⟨⟨ep,by refine aa ?_ (aZ (by exact aJ [_,_] (.q aF (.a (.a af aQ) (.m 2 aj))) .f tU));trivial⟩,fun a l=>?_,fun a l=>?_,d,by refine aa ?_ df;trivial⟩
 ·by_cases e:a=m
  ·clear h;subst e;rw[eV (by exact aP [_,_,_,_] (.l (.a aF aI) (.a (.a aj aQ) (.m 2 aA))) (.l (.a (.a aj aQ) (.m 2 aA)) aY) (.l aF aY) tU b p),AD]
  ·refine aa (aa ?_ (ma e)) (aZ fun q=>e (BB l q));exact H a l
 ·refine aa ?_ (aZ (by exact BC.symm));exact C a l
theorem cH.setSu{s:List O}(R:cH s B k np su)(h:m∈k):cH (s.set (bw B k m+1) (.list (il l))) B k np (upd su m l):=by
 obtain c:=i8 (B:=B) h;obtain⟨⟨ep,f⟩,H,C,d,p⟩:=R;refine⟨⟨ep,by refine aa ?_ (aZ (by exact aJ [_,_] (.q aF (.a (.a (.a af aQ) (.m 2 aj)) aI)) .f tU));trivial⟩,fun a b=>?_,fun a b=>?_,d,by refine aa ?_ df;trivial⟩
 ·refine aa ?_ (aZ (by exact BC));exact H a b
 ·by_cases e:a=m
  ·clear h;subst e;rw[eV (by exact bb c p),AD]
  ·refine aa (aa ?_ (ma e)) (aZ fun q=>e (BB b (rA q)));exact C a b
theorem G1{s:List O}:(s++[o]).set s.length Q=s++[Q]:=by simp
theorem tg{s:List O}:(s++[o]++[p]).set s.length Q=s++[Q]++[p]:=by simp
theorem n7{s:List O}:aD (s++[o]++[p]) s.length=o:=by refine aa ?_ (dC (by simp));exact mP
theorem TD{s:List O}:az (k+1) 85 [.obj s.length,.int m] (s++[.slot 89 []])=some (.ret .none,s++[ie m 0 (s.length+1)]++[.list (il [])]):=by
 refine aa ?_ Lu;have f:au (Hv (az k)) ⟨[[some (.obj s.length),some (.int m)]],s++[.slot 89 []]⟩=some (.next,⟨[[some (.obj s.length),some (.int m)]],s++[ie m 0 (s.length+1)]++[.list (il [])]⟩):=by refine aw (ir rfl rfl (oJ mP ⟨by decide,by decide⟩)) (aa ?_ G1);refine aw (ir rfl rfl (oJ mP ⟨by decide,by decide⟩)) (aa ?_ G1);refine aw (ir (sX ci (by decide)) rfl (oJ n7 ⟨by decide,by decide⟩)) (aa (aa ?_ cP) tg);rfl
 refine aa ?_ f;rfl
theorem p0{s:List O}(h:j=s.length):aD (s++[o]) j=o:=by subst h;exact mP
theorem PL{x:Int}(h:x∉k)(l:Nat)(c:l=B+2+2*k.length):(k++[x]).map (fun m=>(m,V.obj (bw B (k++[x]) m)))=(k.map fun m=>(m,V.obj (bw B k m)))++[(x,.obj l)]:=by refine aa (aa (aa (aa (aa ?_ c) (ug h)) Jm) dH) fK;congr 1;exact ry fun a b=>by exact aa rfl (xi b)
theorem cH.newKey{s:List O}(R:cH s B k np su)(h:m∉k)(e:l=s.length)(d:s.length=B+2+2*k.length)(F:np m=0/\su m=[]):
  cH ((s++[ie m 0 (l+1)]++[O.list (il [])]).set (B+1) (O.dict ((k.map fun m=>(m,V.obj (bw B k m)))++[(m,V.obj l)]) ep)) B (k++[m]) np su:=by
 obtain⟨_,H,C,f,g⟩:=R;subst e;have I:∀j,j<s.length->j≠B+1->∀o p q,aD ((s++[o]++[p]).set (B+1) q) j=aD s j:=fun j A i o p q=>by rw[aZ i,dC (by simp;exact mz A),dC A]
 refine⟨⟨ep,?_⟩,fun a c=>?_,fun a c=>?_,?_,?_⟩
 ·rw[eV (by simp;exact aJ [_,_,_] (.q af (.a (.a aj aQ) (.m 2 aA))) (.l bI aF) tU d),PL h _ d]
 ·rcases List.mem_append.mp c with c|c
  ·have:=i8 (B:=B) c;rw[xi c,I _ (by exact aP [_,_,_,_] (.l (.a aF aI) (.a (.a aj aQ) (.m 2 aA))) (.q aY (.a (.a aj aQ) (.m 2 aA))) (.l aF aY) tU this d) (by exact fun e=>aJ [_,_] (.e (.a (.a af aQ) (.m 2 aj)) aF) .f tU e)];exact H a c
  ·obtain rfl:=List.mem_singleton.mp c;rw[ug h,aZ (by exact fun e=>aJ [_,_] (.e (.a (.a af aQ) (.m 2 aj)) aF) .f tU e),<- d,n7,F.1]
 ·rcases List.mem_append.mp c with c|c
  ·have:=i8 (B:=B) c;rw[xi c,I _ (by exact aa this d) (by unfold bw;exact fun e=>aJ [_,_] (.e (.a (.a (.a af aQ) (.m 2 aj)) aI) aF) .f tU e)];exact C a c
  ·obtain rfl:=List.mem_singleton.mp c;rw[ug h,aZ (by exact fun e=>aJ [_,_] (.e (.a (.a (.a af aQ) (.m 2 aj)) aI) aF) .f tU e),<- d,F.2];exact p0 (by simp)
 ·exact List.nodup_append.mpr ⟨f,List.nodup_cons.mpr ⟨cq,.nil⟩,fun a c b hb=>by obtain rfl:=List.mem_singleton.mp hb;exact fun e=>h (e▸c)⟩
 ·simp;exact aJ [_,_,_] (.q af (.a (.a aj aQ) (.m 2 aA))) (.l (.a (.a aj aQ) (.m 2 cI)) (.a af aQ)) tU d
section
variable {st:List O}{x z rv:V}{B:Nat}{Wu:List Int}{np:Int->Int}{su:Int->List Int}{c1 c2:Int}
structure Bd(st:List O)(B:Nat)(rv:V)(c1 c2:Int)(Wu:List Int)(np:Int->Int)(su:Int->List Int):Prop where
 R:cH st B Wu np su
 s:So st B rv c1 c2
 l:st.length=B+2+2*Wu.length
 z:∀x,x∉Wu->np x=0/\su x=[]
end
theorem J2(h:m∈k):lx k m=k:=if_pos h
theorem J3(h:m∉k):lx k m=k++[m]:=if_neg h
theorem vg{x:Int}:x∈lx k m↔x∈k∨x=m:=by
 delta lx;split
 ·rename_i h;exact⟨.inl,fun q=>q.elim id fun e=>e▸h⟩
 ·simp
theorem GA{s:List O}{C c2:Int}(D:Bd s B g C c2 a np su)(i:a.length<sizeMax):∃b,az (k+2) 129 [.obj B,.int m] s=some (.ret (.obj (bw B (lx a m) m)),b)/\Bd b B g C c2 (lx a m) np su:=by
 refine oE D.R.dict fun ep hd=>?_;have base:∀u,(cg m _).getD .none=u->pM 2 (bJ (az (k+1)) bc "get" (bT (some 4) (ac 0 0)) [(false,ac 0 1)]) ⟨[[some _,some _,none,none]],s⟩ =
   some _:=fun u W=>
  Gh (eP (cJ rfl (fM D.s rfl)) (EV hd) rfl (bx (bu rfl bz) rfl) (B8 hd W))
 refine aa ?_ K9;by_cases h:m∈a
 ·refine aa ?_ (J2 h);refine⟨s,?_,D⟩;have f:au (Ah (az (k+1))) ⟨[[some (.obj B),some (.int m),none,none]],s⟩=some (.ret (.obj (bw B a m)),⟨[[some (.obj B),some (.int m),some (.obj (bw B a m)),none]],s⟩):=by exact aw (bP (bh (base (.obj (bw B a m)) (by refine aa ?_ (r8 h);rfl)) rfl rfl) bo) (dE (fv rfl))
  refine aa ?_ f;rfl
 ·refine aa ?_ (J3 h);have v:So (s++[ie m 0 (s.length+1)]++[O.list (il [])]) B g C c2:=by have:=D.s;have d:=D.l;unfold So at this ⊢;rw[dC (by simp;exact aJ [_,_,_] (.q af (.a (.a aj aQ) (.m 2 aA))) (.l bI aF) tU d),dC (by exact aJ [_,_,_] (.q af (.a (.a aj aQ) (.m 2 aA))) (.l bI af) tU d)];trivial
  refine⟨_,?_,D.R.newKey (ep:=ep+1) h rfl D.l (D.z m h),?_,?_,fun x j=>D.z x fun q=>j (gZ _ q)⟩
  ·have c:jB _ _ _ ⟨[[some _,some _,some .none,none]],s++[ie m 0 _]++[O.list _]⟩ =
     some ((),⟨[[some (.obj B),some (.int m),some .none,none]],(s++[ie m 0 (s.length+1)]++[O.list (il [])]).set (B+1) (O.dict ((a.map fun m=>_)++[(m,V.obj s.length)]) _)⟩):=
    Ge (by rw[dC (by simp;exact aJ [_,_,_] (.q af (.a (.a aj aQ) (.m 2 aA))) (.l bI af) tU D.l),dC (by exact aJ [_,_,_] (.q af (.a (.a aj aQ) (.m 2 aA))) (.l (.a bI aI) af) tU D.l)];exact hd) (xU (by refine aa ?_ El;exact h)) (by refine aa ?_ (bl ..);exact i)
   generalize (s++[ie m 0 (s.length+1)]++[O.list (il [])]).set (B+1) (O.dict ((a.map fun m=>(m,V.obj (bw B a m)))++[(m,V.obj s.length)]) (ep+1))=b at c;have f:au (Ah (az (k+1))) ⟨[[some (.obj B),some (.int m),none,none]],s⟩=some (.ret (.obj s.length),⟨[[some (.obj B),some (.int m),some (.obj s.length),none]],b⟩):=by refine aw (i:=⟨[[some (.obj B),some (.int m),some (.obj s.length),none]],b⟩) (bP (r:=true) (bh (base .none (by refine aa ?_ (xU (by refine aa ?_ El;exact h));rfl)) rfl rfl) ?_) (dE (fv rfl));exact aw (S8 (fr:=[some (.obj B),some (.int m),some .none,none]) (vY (fs:=[[some (.obj B),some (.int m),some .none,none]]) (bx (bu rfl bz) rfl) TD) (cJ rfl (fM v rfl)) rfl c) bo
   refine aa (aa (aa ?_ D.l) (ug h)) f;rfl
  ·unfold So;rw[aZ z6];exact v
  ·simp[D.l];exact i6 (ck _) (ck _)
theorem Bd.attr10{s:List O}{c C:Int}(D:Bd s B r c C k np su)(h:m∈k):kB s (some 10) (.obj (bw B k m))=some (.obj (bw B k m+1)):=ly (D.R.node m h) rfl
theorem Bd.push10{s:List O}{c C:Int}(D:Bd s B r c C k np su)(h:p∈k):Bd (s.set (bw B k p+1) (.list (il (su p)++[.int m]))) B r c C k np (upd su p (su p++[m])):=by
 have e:il (su p)++[V.int m]=il (su p++[m]):=by simp
 refine aa ?_ e;refine⟨D.R.setSu h,?_,by refine aa ?_ df;exact D.l,fun x b=>⟨(D.z x b).1,by rw[ma (fun q=>b (by refine aa ?_ q;exact h))];exact(D.z x b).2⟩⟩;have:=D.s;unfold So at this ⊢;refine aa ?_ (aZ (by exact fun e=>aJ [_,_] (.q af (.a (.a (.a af aQ) (.m 2 aj)) aI)) .f tU e));trivial
theorem Bd.put9{s:List O}{c C:Int}(D:Bd s B r c C k np su)(h:m∈k):Bd (s.set (bw B k m) (ie m n (bw B k m+1))) B r c C k (upd np m n) su:=by refine⟨D.R.setNp h,?_,by refine aa ?_ df;exact D.l,fun x b=>⟨by rw[ma (fun q=>b (by refine aa ?_ q;exact h))];exact(D.z x b).1,(D.z x b).2⟩⟩;have:=D.s;unfold So at this ⊢;refine aa ?_ (aZ (by exact fun e=>aJ [_,_] (.q af (.a (.a af aQ) (.m 2 aj))) .f tU e));trivial
theorem xg:(lx k m).length<=k.length+1:=by delta lx;split<;>simp
section
variable {st:List O}{x:V}{k B:Nat}{Wu:List Int}{np:Int->Int}{su:Int->List Int}{m c1 c2:Int}
inductive Bz(k:Nat)(B:Nat)(np:Int->Int)(m:Int)(c1:Int)(c2:Int)(x2:Option V)(x3:Option V)(ps:List Int)(Wu:List Int)(su:Int->List Int)(st:List O)(c4:Option V)(c5:Option V):Prop
 |mk:∀c4' c5' Wv WK su',dM (.name 4) (BU (az (k+2))) (il ps).length (.vals (il ps)) ⟨[[some (.obj B),some (.int m),x2,x3,c4,c5,none,none]],st⟩=some (.next,⟨[[some (.obj B),some (.int m),x2,x3,c4',c5',none,none]],Wv⟩)->Bd Wv B .none c1 c2 WK np su'->(∀x,x∈WK↔x∈Wu∨x∈ps)->(∀x a,(su' x).count a=(su x).count a+if a=m then ps.count x else 0)->WK.length<=Wu.length+ps.length->(∀x,(su' x).length<=(su x).length+ps.length)->Bz k B np m c1 c2 x2 x3 ps Wu su st c4 c5
end
theorem J5{F G:Int}{Xm X:Option V}:∀(ps:List Int)(c:List Int)(su:Int->List Int)(st:List O)(R A:Option V),Bd st B .none F G c np su->c.length+ps.length<sizeMax->(∀x,(su x).length+ps.length<sizeMax)->
  Bz k B np m F G Xm X ps c su st R A:=by
 intro u;induction u with
 |nil=>intro c su st R A D h H;exact⟨R,A,st,c,su,rfl,D,by simp,by simp,by simp,by simp⟩
 |cons p r I=>
  intro c su st R A D h H;simp only[iD] at H;refine aH (GA (k:=k) (m:=p) D (dW (hw ..) h)) fun st1 f l=>?_;obtain b:=vg.mpr (.inr rfl);obtain j:=xg;obtain⟨i,n,v,o,w,g,z,d,C,s,t⟩:=I _ _ _ _ _ (l.push10 (m:=m) b) (aP [_,_,_,_] (.l af bI) (.l (.a (.a aj cI) aI) aY) (.l (.a (.a af aA) aI) aY) tU j h) fun x=>by
   have:=H x;delta upd;split
   ·rename_i e;clear f l b j;subst e;simp;exact aJ [_,_,_] (.l (.a (.a af bI) aI) aA) (.l (.a (.a aF aj) aI) aA) tU this
   ·exact fh this
  refine⟨i,n,v,o,w,?_,z,fun x=>?_,fun x a=>?_,by exact aP [_,_,_,_] (.l af (.a aj aA)) (.l aj i4) (.l af (.a aY cI)) tU s j,fun x=>?_⟩
  ·refine ao rfl (ao rfl (ao (r:=Fl.next) ?_ g));exact aw (a9 (oG rfl (oo D.s rfl) (bx (bu rfl bz) rfl) f)) (aw (ip (eP (cJ rfl (l.attr10 b)) (kN (l.R.list p b) rfl) rfl (bx (bu rfl bz) rfl) (pG (l.R.list p b) (by refine aa ?_ (bl ..);have:=H p;exact dW (hw ..) this)))) bo)
  ·rw[d,vg,dP,or_assoc]
  ·refine aa (aa ?_ wO) (C ..);unfold upd;by_cases e:x=p
   ·clear f l b j g d C s t;subst e;simp only[if_true,I0,wO,List.count_nil,beq_self_eq_true];by_cases Q:a=m
    ·subst Q;simp;exact i6 (dU (mB ..)) (jp [_,_] (.l (.a af bI) (.a aF aj)) tU)
    ·have:(m==a)=false:=beq_eq_false_iff_ne.mpr fun q=>Q q.symm;simp[Q,this]
   ·have:(p==x)=false:=beq_eq_false_iff_ne.mpr fun q=>e q.symm;simp[e,this]
  ·have:=t x;unfold upd at this;split at this
   ·rename_i e;clear f l b j g d C s t;subst e;simp at this ⊢;exact aJ [_,_,_] (.l af (.a bI aA)) (.l af (.a aj cI)) tU this
   ·simp;exact mz this
theorem J6{p:List O}{r u:Int}(D:Bd p B .none r u d np su)(F:o.length<=100)(h:d.length<=100)(H:∀x,(su x).length<=1000):
  ∃c b n,az (k+3) 136 (.obj B::.int m::il o) p=some (.ret .none,c)/\Bd c B .none r u b (upd np m (np m+o.length)) n/\(∀x,x∈b↔x∈d∨x=m∨x∈o) /\
   (∀x a,(n x).count a=(su x).count a+if a=m then o.count x else 0)/\b.length<=d.length+1+o.length/\∀x,(n x).length<=(su x).length+o.length:=by
 refine aa ?_ (La (by refine aa ?_ (bl ..);exact z1 rfl F));refine aH (GA (k:=k) (m:=m) D (z1 rfl (kA h))) fun st1 g l=>?_;obtain e:=vg.mpr (.inr rfl);obtain⟨f,q,c,b,n,i,z,j,C,s,t⟩:=J5 o _ su _ none none (l.put9 e) (by exact eg [_,_,_] (.l af bI) (.l aA cj) (.l aj cj) (.l (.a (.a af aA) aI) dG) tU xg F h) fun x=>by have:=H x;exact aP [_,_] (.l af d8) (.l aj cj) (.l (.a (.a af aj) aI) dG) tU this F
 refine⟨c,b,n,?_,z,fun x=>by rw[j,vg,or_assoc],C,by exact aP [_,_,_,_] (.l af (.a aj aA)) (.l aj i4) (.l af (.a i4 aA)) tU s xg,t⟩;have P:au (Ai (az (k+2))) ⟨[[some (.obj B),some (.int m),some (.tup (il o)),none,none,none,none,none]],p⟩=some (.next,⟨[[some (.obj B),some (.int m),some (.tup (il o)),some (.obj (bw B (lx d m) m)),f,q,none,none]],c⟩):=by refine aw (bP (bh (cJ rfl (fM D.s rfl)) rfl rfl) bo) (aw (a9 (oG rfl (oo D.s rfl) (bx (bu rfl bz) rfl) g)) ?_);refine aw (vR rfl (ly (l.R.node m e) rfl) (ei rfl rfl) rfl (oJ (l.R.node m e) ⟨by decide,by decide⟩)) (aa ?_ (bl ..));exact aw (iq (cb rfl rfl) i) bo
 refine aa ?_ P;rfl
theorem TA{s:List O}:az (k+1) 122 [.obj s.length] (s++[.inst 186 []])=some (.ret .none,s++[.inst 186 [(4,.obj (s.length+1)),(5,.none),(6,.int 0),(7,.int 0)]]++[.dict [] 0]):=by
 refine aa ?_ K8;have f:au (He (az k)) ⟨[[some (.obj s.length),some .none,none,none]],s++[.inst 186 []]⟩=some (.next,⟨[[some (.obj s.length),some .none,none,none]],s++[.inst 186 [(4,.obj (s.length+1)),(5,.none),(6,.int 0),(7,.int 0)]]++[.dict [] 0]⟩):=by refine aw (ir rfl rfl (iT n7 ⟨bC rfl,by decide⟩)) (aa (aa ?_ cP) tg);refine aw (ir rfl rfl (iT n7 ⟨bC rfl,by decide⟩)) (aa ?_ tg);refine aw (ir rfl rfl (iT n7 ⟨bC rfl,by decide⟩)) (aa ?_ tg);refine aw (ir rfl rfl (iT n7 ⟨bC rfl,by decide⟩)) (aa ?_ tg);rfl
 refine aa ?_ f;rfl
noncomputable def dX(W:List (Int×List Int))(x:Int):List Int:=(W.filter (·.1==x)).flatMap (·.2)
noncomputable def iW(W:List (Int×List Int)):Nat:=(W.map fun p=>1+p.2.length).sum
def told(p:Int×List Int):V:=.tup [.int p.1,iL p.2]
theorem rP{x:Int}:dX (p::W) x=(if x=p.1 then p.2 else[])++dX W x:=by
 delta dX;refine aa ?_ i5;by_cases e:x=p.1
 ·rw[if_pos e,if_pos (by refine aa ?_ e;exact beq_self_eq_true _),pc]
 ·exact aa (aa (aa rfl (tV ..)) (if_neg fun q=>e (eq_of_beq q).symm)) (if_neg e)
structure Lk(np:Int->Int)(su bf:Int->List Int):Prop where
 np:∀x,np x=(bf x).length
 su:∀x a,(su x).count a=(bf a).count x
section
variable {st:List O}{x:V}{k B:Nat}{Wu:List Int}{su:Int->List Int}{c1 c2:Int}
inductive G7(k:Nat)(B:Nat)(c1:Int)(c2:Int)(x0:Option V)(x1:Option V)(W:List (Int×List Int))(st:List O)(Wu:List Int)(su:Int->List Int)(bf:Int->List Int)(c3:Option V)(c4:Option V):Prop
 |mk:∀c3' c4' Wv WK WS su' bf',dM (.names [3,4]) (B0 (az (k+3))) (W.map told).length (.vals (W.map told)) ⟨[[x0,x1,some (.obj B),c3,c4,none,none,none]],st⟩=some (.next,⟨[[x0,x1,some (.obj B),c3',c4',none,none,none]],Wv⟩)->Bd Wv B .none c1 c2 WK WS su'->Lk WS su' bf'->(∀x,x∈WK↔x∈Wu∨∃p∈W,x=p.1∨x∈p.2)->(∀x,bf' x=bf x++dX W x)->(∀x,(su' x).length<=(su x).length+iW W)->G7 k B c1 c2 x0 x1 W st Wu su bf c3 c4
end
theorem UF{G J:Int}:∀(W:List (Int×List Int))(st:List O)(b:List Int)(np:Int->Int)(su bf:Int->List Int)(c3 R:Option V),Bd st B .none G J b np su->Lk np su bf->b.length+iW W<=100->(∀x,(su x).length+iW W<=1000)->
  G7 k B G J x0 x1 W st b su bf c3 R:=by
 intro w;induction w with
 |nil=>intro st b np su bf c3 R D L h H;exact⟨c3,R,st,b,np,su,bf,rfl,D,L,by simp,by simp[dX],fun x=>hw _ _⟩
 |cons p W I=>
  intro st b np su bf c3 R D L h H;refine Rk (J6 (k:=k) (m:=p.1) D (aJ [_,_,_] (.l (.a af (.a (.a aI aj) aA)) cj) (.l aj cj) tU h) (z8 h) fun x=>by have:=H x;exact z8 this) fun st1 v c e1 l A C F t=>?_;have f:Lk (upd np p.1 (np p.1+p.2.length)) c (upd bf p.1 (bf p.1++p.2)):=by
   refine⟨fun x=>?_,fun x a=>?_⟩
   ·delta upd;split
    ·refine aa (aa ?_ (L.np ..)) cP;rfl
    ·exact L.np x
   ·refine aa (aa ?_ (L.su ..)) (C ..);delta upd;split
    ·rename_i e;exact aa (aa rfl e) I0
    ·rfl
  obtain⟨o,q,Wv,u,z,su',n,s,d,g,Q,P,T⟩:=I st1 v _ c _ _ _ l f (aP [_,_,_,_] (.l af (.a bI aA)) (.l (.a aj (.a (.a aI aA) aY)) cj) (.l (.a af aY) cj) tU F h) fun x=>by have:=H x;have:=t x;exact aP [_,_,_,_] (.l af (.a aj aA)) (.l (.a aj (.a (.a aI aA) aY)) d8) (.l (.a af aY) d8) tU this (by trivial)
  refine⟨o,q,Wv,u,z,su',n,?_,d,g,fun x=>?_,fun x=>?_,fun x=>by have:=T x;have:=t x;exact aP [_,_,_,_,_] (.l af (.a aj aA)) (.l aj (.a aY d9)) (.l af (.a aY (.a (.a aI d9) aA))) tU (by trivial) this⟩
  ·refine ao rfl (ao (qI (i:=3) (j:=4) (x:=.int p.1) (y:=iL p.2) (by decide)) (ao (r:=Fl.next) ?_ s));exact aw (ip (oG rfl (oo D.s rfl) (bx (bu rfl (Gg rfl rfl bz)) rfl) (by refine aa ?_ (dT ..);trivial))) bo
  ·rw[Q,A];simp only[dP,exists_eq_or_imp,or_assoc]
  ·refine aa (aa ?_ rP) (P ..);delta upd;split
   ·rename_i e;exact aa (aa rfl e) (iB ..)
   ·rfl
noncomputable def jh:Nat->List (List Int)->List (Int×List Int)
 |_,[]=>[]
 |j,a::r=>((j:Int),a)::jh (j+1) r
theorem Db:∀(j:Nat)(l:List (List Int)),gM j (l.map iL)=(jh j l).map told:=by
 intro j b;induction b generalizing j with
 |nil=>rfl
 |cons a r I=>refine(?_:_::gM _ _=_::(jh _ r).map told);refine aa ?_ (I _);rfl
theorem MJ:∀(j:Nat)(l:List (List Int)),(jh j l).length=l.length:=by
 intro j b;induction b generalizing j with
 |nil=>rfl
 |cons a r I=>exact congrArg _ (I _)
theorem UJ{st:List O}(h:iW (jh 0 A++wishes)<=100)(c:A.length+wishes.length<=100):
  ∃a d np su bf,az (k+4) 334 [.lst (A.map iL),.lst (wishes.map told)] st=some (.ret (.obj st.length),a)/\Bd a st.length .none 0 0 d np su/\Lk np su bf/\(∀x,x∈d↔∃p∈jh 0 A++wishes,x=p.1∨x∈p.2)/\(∀x,bf x=dX (jh 0 A++wishes) x)/\∀x,(su x).length<=100:=by
 have D:Bd (st++[.inst 186 [(4,.obj _),(5,.none),(6,.int 0),(7,.int 0)]]++[.dict [] 0]) st.length .none 0 0 [] (fun Y=>0) (fun Y=>[]):=
  ⟨⟨⟨0,by refine aa ?_ (p0 (by simp));rfl⟩,fun Y h=>(cq h).elim,fun Y h=>(cq h).elim,.nil,by simp⟩,n7,by simp,fun Y Y=>⟨rfl,rfl⟩⟩
 refine aa ?_ Ln;obtain⟨j,b,a,e,y,n,m,g,W,B,Q,f,w⟩:=UF (jh 0 A++wishes) _ [] _ _ (fun Y=>[]) none none D ⟨fun Y=>rfl,fun Y Y=>rfl⟩ (by simpa using h) fun x=>by simp;exact z1 rfl h
 refine⟨a,e,y,n,m,?_,W,B,fun x=>by rw[Q];simp,fun x=>by exact aa (aa rfl (tV ..)) (f ..),fun x=>by have:=w x;simp at this;exact bb this h⟩;have P:au (Hp (az (k+3))) ⟨[[some (.lst (A.map iL)),some (.lst (wishes.map told)),none,none,none,none,none,none]],st⟩=some (.ret (.obj st.length),⟨[[some (.lst (A.map iL)),some (.lst (wishes.map told)),some (.obj st.length),j,b,none,none,none]],a⟩):=by
  refine aw (a9 (fr:=[some (.lst (A.map iL)),some (.lst (wishes.map told)),none,none,none,none,none,none]) (vY (bx bz rfl) TA)) ?_;refine aw (i:=⟨[[some (.lst (A.map iL)),some (.lst (wishes.map told)),some (.obj st.length),j,b,none,none,none]],a⟩) (iq (cb (eN (vX (zO rfl) (show tj (.enum 0 (A.map iL))=some (gM 0 (A.map iL)) from if_pos (by refine aa ?_ (bl ..);unfold sizeMax;exact aJ [_,_] (.l (.a af aj) cj) (.l af dG) tU c))) rfl (jW ?_)) rfl) ?_) (dE (fv rfl))
  ·refine aa (aa (aa (aa ?_ (MJ ..)) (bl ..)) (bl ..)) (Db ..);unfold sizeMax;exact z1 rfl c
  ·refine aa (aU ?_ fK) (Db ..);exact g
 refine aa ?_ P;rfl
abbrev Stk3:=List (Int×Nat×Nat)
noncomputable abbrev nodes(rp:Stk3):List Int:=rp.map (·.1)
def lh(su:Int->List Int):List Int->Prop
 |[]=>True
 |u::r=>(∀x∈su u,x∈r)/\lh su r
def jI(su:Int->List Int)(fin:List Int):Int->Stk3->Prop
 |_,[]=>True
 |v,(m,_,i)::r=>0<i/\(su m)[i-1]?=some v/\(∀x∈(su m).take (i-1),x∈fin)/\jI su fin m r
def mE(su:Int->List Int)(fin:List Int):Stk3->Prop
 |[]=>True
 |(m,_,i)::r=>(∀x∈(su m).take i,x∈fin)/\jI su fin m r
structure FI(Wu:List Int)(su:Int->List Int)(rp:Stk3)(seen fin:List Int):Prop where
 nd:(nodes rp).Nodup
 mem:∀x,x∈seen↔x∈nodes rp∨x∈fin
 dj:∀x∈nodes rp,x∉fin
 ks:∀x∈seen,x∈Wu
 sn:seen.Nodup
 ok:lh su fin
def ny(R:Int->Int->Prop):List Int->Prop
 |[]=>True
 |[_]=>True
 |x::y::r=>R x y/\ny R (y::r)
structure lv(su:Int->List Int)(WP:List Int):Prop where
 ex:∃v l,WP=v::l++[v]/\(v::l).Nodup
 adj:ny (fun x y=>y∈su x) WP
theorem qt{r:Stk3}:nodes (t::r)=t.1::nodes r:=rfl
theorem BA{b:Int->Int->Prop}{A:Int}:∀{l:List Int},ny b (l++[A])->b A Xn->ny b (l++[A]++[Xn])
 |[],_,h=>⟨h,trivial⟩
 |[x],h,k=>⟨h.1,k,trivial⟩
 |x::y::r,h,k=>⟨h.1,BA (l:=y::r) h.2 k⟩
theorem zb{i:Nat}{l:List Int}(h:l[i]?=some x):x∈l:=et h
theorem LN{f:List Int}{B:Stk3}:∀{pre:Stk3}{u:Int},jI su f u (pre++(v,a,i)::B)->ny (fun x y=>y∈su x) ((v::(nodes pre).reverse)++[u]):=by
 intro p;induction p with
 |nil=>intro u h;exact⟨zb h.2.1,trivial⟩
 |cons a0 pre I=>intro u h;refine aa (aa (aU ?_ rt) kz) qt;have:=I h.2.2.2;exact BA this (zb h.2.1)
theorem jI.mono{f:List Int}(h:∀x∈f,x∈d):∀{rp:Stk3}{v:Int},jI su f v rp->jI su d v rp:=by
 intro p;induction p with
 |nil=>intro _ _;trivial
 |cons a0 r I=>intro _ c;exact⟨c.1,c.2.1,fun x b=>h x (c.2.2.1 x b),I c.2.2.2⟩
theorem Vf{l:List Int}(F:0<i)(h:l[i-1]?=some x):l.take i=l.take (i-1)++[x]:=by obtain⟨j,rfl⟩:∃j,i=j+1:=⟨i-1,by exact i6 ((oN _ _)) ((dU (pi (F))))⟩;refine aa (aa ?_ h) List.take_succ;rfl
theorem Gu{f:List Int}(h:jI su f v rp)(s:v∈f):mE su f rp:=by
 match rp,h with
 |[],_=>trivial
 |(m,b,j)::r,h=>
  refine⟨fun x a=>?_,h.2.2.2⟩;obtain a:=(Vf h.1 h.2.1)▸a;rcases List.mem_append.mp a with a|a
  ·exact h.2.2.1 x a
  ·refine aa ?_ (List.mem_singleton.mp a);trivial
theorem Tt{f:List Int}(h:jI su f v rp):mE su f ((v,a,0)::rp):=⟨fun x b=>by exact(cq b).elim,h⟩
theorem FI.push{fin d:List Int}(H:FI k su rp d fin)(s:v∈k)(t:v∉d):FI k su ((v,a,0)::rp) (d++[v]) fin:=by
 have c:=fun q=>t ((H.mem v).mpr (.inr q));refine⟨List.nodup_cons.mpr ⟨(fun q=>t ((H.mem v).mpr (.inl q))),H.nd⟩,fun x=>?_,fun x b=>?_,fun x b=>?_,?_,H.ok⟩
 ·rewrite[mx,pf,H.mem];refine aa ?_ qt;rw[dP];constructor
  ·rintro((h|h)|h)
   ·exact .inl (.inr h)
   ·exact .inr h
   ·exact .inl (.inl h)
  ·rintro((h|h)|h)
   ·exact .inr h
   ·exact .inl (.inl h)
   ·exact .inl (.inr h)
 ·rcases List.mem_cons.mp b with rfl|b
  ·trivial
  ·exact H.dj x b
 ·rcases List.mem_append.mp b with b|b
  ·exact H.ks x b
  ·refine aa ?_ (List.mem_singleton.mp b);trivial
 ·exact List.nodup_append.mpr ⟨H.sn,List.nodup_cons.mpr ⟨cq,.nil⟩,fun x b y A=>by refine aa ?_ (List.mem_singleton.mp A);rintro rfl;trivial⟩
theorem FI.step{fin s:List Int}{r:Stk3}(H:FI k su ((m,a,i)::r) s fin):FI k su ((m,a,i+1)::r) s fin:=⟨H.nd,H.mem,H.dj,H.ks,H.sn,H.ok⟩
theorem LO{f:List Int}{r:Stk3}(h:mE su f ((m,a,i)::r))(e:(su m)[i]?=some u):jI su f u ((m,a,i+1)::r):=⟨pj _,e,h.1,h.2⟩
theorem FI.pop{f s:List Int}{r:Stk3}(H:FI k su ((m,a,i)::r) s f)(h:mE su f ((m,a,i)::r))(e:(su m)[i]?=none):FI k su r s (m::f):=by
 refine⟨(List.nodup_cons.mp H.nd).2,fun x=>?_,fun x b q=>?_,H.ks,H.sn,?_,H.ok⟩
 ·rewrite[H.mem];refine aa ?_ qt;rw[dP,dP];constructor
  ·rintro((h|h)|h)
   ·exact .inr (.inl h)
   ·exact .inl h
   ·exact .inr (.inr h)
  ·rintro(h|h|h)
   ·exact .inl (.inr h)
   ·exact .inl (.inl h)
   ·exact .inr h
 ·rcases List.mem_cons.mp q with rfl|q
  ·exact(List.nodup_cons.mp H.nd).1 b
  ·exact H.dj x (bD _ b) q
 ·intro x b;exact h.1 x (by refine aa ?_ (pg (List.getElem?_eq_none_iff.mp e));trivial)
theorem Ts{f:List Int}{rp:Stk3}(h:mE su f ((m,a,i)::rp)):mE su (m::f) rp:=Gu (h.2.mono fun x=>bD _) bK
theorem FI.len{f s:List Int}(H:FI k su rp s f):s.length<=k.length:=mw H.sn H.ks
noncomputable def ik(Wu:List Int)(su:Int->List Int)(rp:Stk3)(seen:List Int):Nat:=(Wu.map fun k=>if k∈seen then 0 else 1+(su k).length).sum+(rp.map fun t=>(su t.1).length-t.2.2).sum
theorem Vt{s:List Int}{su:Int->List Int}{seen':List Int}(h:∀x∈s,x∈seen'):∀a:List Int,(a.map fun k=>if k∈seen' then 0 else 1+(su k).length).sum<=(a.map fun k=>if k∈s then 0 else 1+(su k).length).sum:=by
 intro p;induction p with
 |nil=>exact ck _
 |cons k r I=>
  have:=I;simp;by_cases e:k∈s
  ·refine aa (aa ?_ (if_pos (h k e))) (if_pos e);exact jO this _
  ·split<;>(first|exact aJ [_,_,_] (.l af aj) (.l (.a (.n 0) af) (.a (.a aI aA) aj)) tU this|exact jO this _|omega)
section
variable {seen:List Int}{su:Int->List Int}{v:Int}{a:Nat}
theorem HM(t:v∉seen):∀a:List Int,v∈a->(a.map fun k=>if k∈seen++[v] then 0 else 1+(su k).length).sum+(1+(su v).length)<=(a.map fun k=>if k∈seen then 0 else 1+(su k).length).sum
 |k::r,h=>by
  simp only[dH,Jq];by_cases e:k=v
  ·subst e;have:=Vt (su:=su) (seen':=seen++[k]) (fun x=>gZ _) r;refine aa (aa ?_ (if_neg t)) (if_pos (pe _ (List.mem_singleton.mpr rfl)));exact aJ [_,_,_] (.l af aj) (.l (.a (.a (.n 0) af) (.a aI aA)) (.a (.a aI aA) aj)) tU this
  ·have:=HM t r ((List.mem_cons.mp h).resolve_left fun q=>e q.symm);simp only[(by simp[e]:k∈seen++[v]↔k∈seen)];exact aJ [_,_,_,_] (.l (.a af (.a aI aj)) aA) (.l (.a (.a aY af) (.a aI aj)) (.a aY aA)) tU this
end
theorem Sd{seen:List Int}{rp:Stk3}(s:v∈k)(t:v∉seen):ik k su ((v,a,0)::rp) (seen++[v])+1<=ik k su rp seen:=by have:=HM (su:=su) t k s;exact aP [_,_,_,_,_] (.l (.a af (.a aI aj)) aA) (.l aY aj) (.l (.a (.a af (.a aY d9)) aI) (.a aA d9)) tU this (w0 _ _)
theorem Se{seen:List Int}{r:Stk3}(e:(su m)[i]?=some u):ik k su ((m,a,i+1)::r) seen+1=ik k su ((m,a,i)::r) seen:=by have:=(List.getElem?_eq_some_iff.mp e).1;exact i6 (aP [_,_,_,_,_,_] (.l (.a af bI) aA) (.l aA (.a aY aj)) (.l (.a (.a d9 (.a af (.v 5))) aI) (.a d9 (.a aY (.v 5)))) tU (dU (pi (this))) (oN _ _)) (aP [_,_,_,_,_,_] (.l (.a af aj) aA) (.l aA (.a aY bI)) (.l (.a d9 (.a af (.v 5))) (.a (.a d9 (.a aY (.v 5))) aI)) tU (dU (pi (fh this))) (oN _ _))
theorem Sc{seen:List Int}:ik k su rp seen<=ik k su ((m,a,i)::rp) seen:=jp [_,_,_] (.l (.a af aj) (.a af (.a aA aj))) tU
noncomputable def mH(a:Nat):V:=.bm "list_iterator.__next__" (.obj a)
def iQ(rp:Stk3):List V:=(rp.map fun t=>mH t.2.1).reverse
noncomputable def iN:Stk3->List (Int×V)
 |[]=>[]
 |t::r=>iN r++[(t.1,.int r.length)]
noncomputable def bZ(B P:Nat)(v:Option V):List (Option V):=[some (.obj B),some (.obj (B+1)),some (.obj P),some (.obj (P+1)),some (.obj (P+2)),some (.obj (P+3)),v,none,none,none,none]
structure FR(st0 st:List O)(B P:Nat)(Wu:List Int)(rp:Stk3)(seen:List Int):Prop where
 old:∀j,j<P->aD st j=aD st0 j
 stk:aD st P=.list (il (nodes rp).reverse)
 its:aD st (P+1)=.list (iQ rp)
 see:aD st (P+2)=.set seen
 pos:∃ep,aD st (P+3)=.dict (iN rp) ep
 it:∀t∈rp,aD st t.2.1=.liter (.obj (bw B Wu t.1+1)) t.2.2/\P+4<=t.2.1/\t.2.1<st.length
 itn:(rp.map (·.2.1)).Nodup
 len:P+4<=st.length
theorem sD{s:List O}{I:Int}(h:aD s j=.set xs):fp .In s (.int I) (.obj j)=some (xs.contains I):=by refine(?_:((oL _).bind _).or (((oS _).bind _).or _)=_);refine aa ?_ h;rfl
theorem D4{s:List O}{I:Int}(h:aD s j=.dict es ep):fp .In s (.int I) (.obj j)=some ((es.map (·.1)).contains I):=by refine(?_:((oL _).bind _).or (((oS _).bind _).or _)=_);refine aa ?_ h;rfl
theorem Td(h:t a=some (false,i))(H:e i=some (.brk,F)):gw t b e (n+1) a=some (.brk,F):=ao h (ao H rfl)
theorem v0(h:t a=some (true,i))(H:b i=some (.next,F))(C:gw t b e n F=q):gw t b e (n+1) a=q:=ao h (ao H C)
theorem Gi(h:t a=some (true,i))(H:b i=some (.brk,F)):gw t b e (n+1) a=some (.next,F):=ao h (ao H rfl)
theorem Te(h:t a=some (true,i))(H:b i=some (.ret v,F)):gw t b e (n+1) a=some (.ret v,F):=ao h (ao H rfl)
theorem EE{s:List O}(h:aD s a=.liter src i)(e:cM s src=some vs):ql s (mH a)=some (a,src,i,vs[i]?):=by refine(?_:(if("list_iterator.__next__" : String) == "list_iterator.__next__" then(oR _).bind (fun q=>(cM s q.1).bind fun vs=>some _) else none)=_);refine aa ?_ h;refine(?_:(cM s src).bind _=_);refine aa ?_ e;rfl
theorem Tc{s:List O}(e:f c=some (g,⟨fr::fs,s⟩))(b:ql s g=some (a,src,i,some v)):qM (.name j) f h c=some (.brk,⟨fr.set j (some v)::fs,s.set a (.liter src (i+1))⟩):=
 ao e (ao rfl (ao (dm b) rfl))
theorem Tb{s:List O}(e:f c=some (g,⟨fs,s⟩))(b:ql s g=some (a,src,i,none))(P:h ⟨fs,s.set a .dead⟩=some (.next,F)):qM t f h c=some (.next,F):=
 ao e (ao rfl (ao (dm b) (ao rfl (ao P rfl))))
theorem xZ:∀rp:Stk3,(iN rp).map (·.1)=(nodes rp).reverse:=by
 intro p;induction p with
 |nil=>rfl
 |cons t r I=>refine aa (aa (aa (aa ?_ kz) qt) (I)) fK;rfl
theorem C7:∀rp:Stk3,(iN rp).length=rp.length:=by
 intro p;induction p with
 |nil=>rfl
 |cons t r I=>refine aa (aa ?_ (I)) cP;rfl
theorem Mv(h:cg j es=some x):cg j (es++l)=some x:=by
 induction es with
 |nil=>exact am h
 |cons p r I=>
  refine aa ?_ rt;simp only[cg];rw[cg] at h;by_cases e:p.1=j
  ·rw[if_pos e] at h ⊢;exact h
  ·rw[if_neg e] at h ⊢;exact I h
theorem CY(h:cg j es=none):cg j (es++[(j,x)])=some x/\je j (es++[(j,x)])=es:=by
 induction es with
 |nil=>exact⟨if_pos rfl,if_pos rfl⟩
 |cons p r I=>
  rw[cg] at h;refine aa ?_ rt;dsimp only[cg,je];by_cases e:p.1=j
  ·rw[if_pos e] at h;trivial
  ·rw[if_neg e] at h;refine aa (aa (aa (aa ?_ ((I h).2)) ((I h).1)) (if_neg e)) (if_neg e);trivial
theorem ya(h:m∉nodes rp):cg m (iN rp)=none:=xU (by refine aa ?_ (xZ ..);rw[List.mem_reverse];exact h)
theorem MI{b:Stk3}:∀{pre:Stk3},(nodes (pre++(m,a,i)::b)).Nodup->cg m (iN (pre++(m,a,i)::b))=some (.int b.length):=by
 intro p;induction p with
 |nil=>intro h;exact(CY (ya (List.nodup_cons.mp h).1)).1
 |cons t pre I=>intro h;exact Mv (I (List.nodup_cons.mp h).2)
theorem yU{s:List O}(h:aD s j=.list vs):cM s (.obj j)=some vs:=congrArg oL h
theorem P5{s:List O}(h:aD s j=.list vs):eI .len s (.obj j)=some (.int vs.length):=by refine(?_:(oL _).bind _=_);refine aa ?_ h;rfl
theorem wp{s:List O}(h:aD s j=.list vs):jF s (.obj j)=some (!vs.isEmpty):=by refine(?_:((oL _).bind _).or _=_);refine aa ?_ h;rfl
theorem FR.step{s:List O}{seen:List Int}{r:Stk3}(H:FR o s B P k ((m,a,i)::r) seen):FR o (s.set a (.liter (.obj (bw B k m+1)) (i+1))) B P k ((m,a,i+1)::r) seen:=by
 refine cV (H.it _ bK) fun l b d=>⟨fun j A=>by refine aa ?_ (aZ (by exact fun e=>eg [_,_,_] (.l (.a af fe) aj) (.q aA aj) (.l cI af) .f tU b e A));exact H.old j A,by refine aa ?_ (aZ (by exact aP [_,_] (.l (.a af fe) aj) (.q af aj) .f tU b));exact H.stk,by refine aa ?_ (aZ (by exact aP [_,_] (.l (.a af fe) aj) (.q aF aj) .f tU b));exact H.its,by refine aa ?_ (aZ (by exact aP [_,_] (.l (.a af fe) aj) (.q (.a af aQ) aj) .f tU b));exact H.see,?_,fun t p=>?_,H.itn,by refine aa ?_ df;exact H.len⟩
 ·obtain⟨ep,h⟩:=H.pos;exact⟨ep,by refine aa ?_ (aZ (by exact aP [_,_] (.l (.a af fe) aj) (.q (.a af lc) aj) .f tU b));exact h⟩
 ·refine aa ?_ df;rcases List.mem_cons.mp p with rfl|p
  ·exact⟨eV d,b,d⟩
  ·exact oA (H.it t (bD _ p)) fun f c=>⟨by refine aa ?_ (aZ fun q=>(List.nodup_cons.mp H.itn).1 (List.mem_map.mpr ⟨t,p,q⟩));exact f,c.1,c.2⟩
theorem FR.pop{s:List O}{seen:List Int}{r:Stk3}(H:FR o s B P k ((m,a,i)::r) seen):FR o ((((s.set a .dead).set P (.list (il (nodes r).reverse))).set (P+3) (.dict (iN r) ep)).set (P+1) (.list (iQ r))) B P k r seen:=by
 refine cV (H.it _ bK) fun l c d=>?_;have v:=List.nodup_cons.mp H.itn;refine⟨fun j A=>?_,?_,?_,?_,⟨ep,?_⟩,fun t p=>?_,v.2,by simp;exact H.len⟩
 ·rw[aZ (by exact aP [_,_] (.l aF aj) (.q af bI) .f tU A),aZ (by exact aP [_,_] (.l aF aj) (.q af (.a aj lc)) .f tU A),aZ (by exact aP [_,_] (.l aF aj) (.q af aj) .f tU A),aZ (by exact fun e=>eg [_,_,_] (.l (.a af fe) aj) (.q aA aj) (.l cI af) .f tU c e A)];exact H.old j A
 ·rw[aZ (by exact aJ [_] (.q af aF) .f tU),aZ (by exact aJ [_] (.q af (.a af lc)) .f tU),eV (by simp;exact dW (hw ..) H.len)]
 ·rw[eV (by simp;exact aJ [_,_] (.l (.a af fe) aj) (.l (.a aF aI) aj) tU H.len)]
 ·rw[aZ (z5 rfl),aZ (z5 rfl),aZ z7,aZ (by exact fun e=>z3 rfl c e.symm)];exact H.see
 ·rw[aZ (z5 rfl),eV (by simp;exact H.len)]
 ·refine cV (H.it t (bD _ p)) fun h b C=>⟨?_,b,by simp;trivial⟩;rw[aZ (z3 rfl b),aZ (z3 rfl b),aZ (z4 b),aZ (fun q=>v.1 (List.mem_map.mpr ⟨t,p,q⟩))];trivial
theorem FR.push{i:List O}{l:List Int}(H:FR o i B P k rp l):FR o ((((((i.set (P+2) (.set (l++[m])))++[O.liter (.obj (bw B k m+1)) 0]).set (P+1) (.list (iQ rp++[mH i.length]))).set (P+3) (.dict (iN rp++[(m,V.int rp.length)]) ep)).set P (O.list (il (nodes rp).reverse++[V.int m])))) B P k ((m,i.length,0)::rp) (l++[m]):=by
 have c:=H.len;have g:∀j,j<i.length->j≠P->j≠P+1->j≠P+2->j≠P+3->∀n y s f b,aD (((((i.set (P+2) n)++[y]).set (P+1) s).set (P+3) f).set P b) j=aD i j:=fun j F h a C d n y s f b=>by rw[aZ h,aZ d,aZ a,dC (by refine aa ?_ df;trivial),aZ C]
 refine⟨fun j A=>?_,?_,?_,?_,⟨ep,?_⟩,fun t p=>?_,?_,by simp;exact fh c⟩
 ·rw[g j (aP [_,_,_] (.l aF aj) (.l (.a aj fe) aA) (.l aF aA) tU A c) (aP [_,_] (.l aF aj) (.q af aj) .f tU A) (aP [_,_] (.l aF aj) (.q af bI) .f tU A) (aP [_,_] (.l aF aj) (.q af (.a aj aQ)) .f tU A) (aP [_,_] (.l aF aj) (.q af (.a aj lc)) .f tU A)];exact H.old j A
 ·rw[eV (by simp;exact aJ [_,_] (.l (.a af fe) aj) (.l aF bI) tU c),qt,kz,il,il,fK];rfl
 ·rw[aZ z7,aZ (z5 rfl),eV (by simp;exact dW (hw ..) c)];delta iQ;exact aa (aa rfl kz) dH
 ·rw[aZ z7,aZ (z5 rfl),aZ (z5 rfl),dC (by simp;exact fh c),eV (by exact fh c)]
 ·rw[aZ z7,eV (by simp;exact mz c)];rfl
 ·rcases List.mem_cons.mp p with rfl|p
  ·refine⟨?_,by dsimp only;exact c,by simp⟩;dsimp only;rw[aZ (z4 c),aZ (gi c),aZ (z3 rfl c)];exact p0 (by simp)
  ·refine cV (H.it t p) fun h a C=>?_;refine⟨?_,a,by simp;exact mz C⟩;rw[g _ C (z4 a) (z3 rfl a) (z3 rfl a) (z3 rfl a)];exact h
 ·refine List.nodup_cons.mpr ⟨fun q=>?_,H.itn⟩;refine aH (List.mem_map.mp q) fun t p e=>?_;have:=(H.it t p).2.2;dsimp only at e;exact cQ this e
theorem S5{s:List O}(h:e a=some (x,⟨fs,s⟩))(H:cM s x=some vs):ur e a=some (mH s.length,⟨fs,s++[.liter x 0]⟩):=ao h (ao rfl (ao (dm H) (ao rfl rfl)))
theorem FR.rep{s:List O}{a:List Int}(H:FR o s B P k rp a)(R:cH o B k np su)(hP:B+2+2*k.length<=P):cH s B k np su:=R.frame (fun j Y h=>H.old j (bb h hP)) (by have:=H.len;exact aP [_,_,_,_] (.l (.a (.a af aQ) (.m 2 aj)) aA) (.l (.a aA fe) aY) (.l (.a (.a af aQ) (.m 2 aj)) aY) tU hP this)
theorem yN{r:Stk3}:iQ (t::r)=iQ r++[mH t.2.1]:=by delta iQ;exact aa (aa rfl kz) dH
theorem Px:(iQ rp).length=rp.length:=by delta iQ;simp
theorem VD{C:List O}{D:List Int}(H:FR o C B P a rp D)(R:cH o B a np su)(hP:B+2+2*a.length<=P)(s:v∈a)(z:v∉D)(t:v∉nodes rp)(h:rp.length<1000)(r:D.length<1000):
  ∃x,oP k ⟨[bZ B P (some (.int v))],C⟩=some (.next,⟨[bZ B P (some (.int v))],x⟩)/\FR o x B P a ((v,C.length,0)::rp) (D++[v]):=by
 refine oE H.pos fun ep u=>?_;have c:=H.len;have l:=H.rep R hP;obtain⟨p,hd⟩:=l.dict;have q:D.contains v=false:=by simpa using z
 refine⟨_,?_,H.push (ep:=ep+1)⟩;refine bP (bh rfl rfl ((sD H.see).trans (congrArg some q))) ?_;have d:aD (C.set (P+2) (.set (D++[v]))) (B+1)=.dict (a.map fun m=>(m,.obj (bw B a m))) p:=by rw[aZ (by exact aP [_,_,_] (.l (.a (.a af aQ) (.m 2 aj)) aA) (.q aF (.a aA aQ)) .f tU hP)];trivial
 have g:aD (C.set (P+2) (.set (D++[v]))) (bw B a v)=ie v (np v) (bw B a v+1):=by rw[aZ (by exact fun e=>eg [_,_,_,_] (.l (.a (.a af aQ) (.m 2 aj)) aA) (.q aY (.a aA aQ)) (.l (.a i4 aI) (.a (.a af aQ) (.m 2 aj))) .f tU hP e (i8 s))];exact l.node v s
 have i:aD (C.set (P+2) (.set (D++[v]))) (bw B a v+1)=.list (il (su v)):=by rw[aZ (by exact fun e=>eg [_,_,_,_] (.l (.a (.a af aQ) (.m 2 aj)) aA) (.q i4 (.a aA aQ)) (.l (.a i4 aI) (.a (.a af aQ) (.m 2 aj))) .f tU hP e (i8 s))];exact l.list v s
 refine aw (ip (eP (fs:=[bZ B P (some (.int v))]) rfl (QI H.see) rfl (bx (bu rfl bz) rfl) (KL H.see q (by exact z1 rfl r)))) ?_;have n:aD (C.set (P+2) (.set (D++[v]))++[O.liter (.obj (bw B a v+1)) 0]) (P+1)=.list (iQ rp):=by rw[dC (by simp;exact aJ [_,_] (.l (.a af fe) aj) (.l (.a aF aI) aj) tU c),aZ (by exact aJ [_] (.q aF (.a af aQ)) .f tU)];exact H.its
 have b:aD (C.set (P+2) (.set (D++[v]))) (P+1)=.list (iQ rp):=by rw[aZ (by exact aJ [_] (.q aF (.a af aQ)) .f tU)];exact H.its
 refine aw (ip (eP (fs:=[bZ B P (some (.int v))]) rfl (kN b rfl) rfl (bx (bu (S5 (fs:=[bZ B P (some (.int v))]) (cJ (bH rfl rfl (yA d (r8 (f:=fun m=>V.obj (bw B a m)) s))) (ly g rfl)) (yU i)) bz) rfl) (pG n (by refine aa ?_ Px;unfold sizeMax;exact z1 rfl h)))) ?_;refine aa ?_ df;generalize T:((C.set (P+2) (.set (D++[v]))++[O.liter (.obj (bw B a v+1)) 0]).set (P+1) (.list (iQ rp++[mH C.length])))=w;have j:aD w P=.list (il (nodes rp).reverse):=by rw[<- T,aZ z6,dC (by simp;exact dW (hw ..) c),aZ z6];exact H.stk
 have W:aD w (P+3)=.dict (iN rp) ep:=by rw[<- T,aZ (z5 rfl),dC (by simp;exact c),aZ (z5 rfl)];exact u
 have y:aD (w.set (P+3) (O.dict (iN rp++[(v,V.int rp.length)]) (ep+1))) P=.list (il (nodes rp).reverse):=by rw[aZ z6];exact j
 have A:eI .len w (.obj P)=some (.int rp.length):=by refine(P5 j).trans ?_;exact aa (aa (aa rfl (bl ..)) Jj) (bl ..)
 refine aw (S7 (ei rfl A) rfl rfl (Ge (fs:=[bZ B P (some (.int v))]) W (ya t) (by refine aa ?_ (C7 ..);unfold sizeMax;exact z1 rfl h))) ?_;exact aw (ip (eP (fs:=[bZ B P (some (.int v))]) rfl (kN y rfl) rfl (bx (bu rfl bz) rfl) (pG y (by refine aa (aa (aa ?_ (bl ..)) Jj) (bl ..);unfold sizeMax;exact z1 rfl h)))) bo
theorem VE{s:List O}{c:List Int}(H:FR o s B P b rp c)(t:v∈c)(a:v∉nodes rp):oP k ⟨[bZ B P (some (.int v))],s⟩=some (.next,⟨[bZ B P (some (.int v))],s⟩):=by refine oE H.pos fun ep e=>bP (r:=true) (bh rfl rfl ((sD H.see).trans (congrArg some (by simpa using t)))) (aw (bP (r:=false) (bh rfl rfl ((D4 e).trans (congrArg some ?_))) bo) bo);refine aa ?_ (xZ ..);simpa using a
theorem VF{s:List O}{g:List Int}{p j:Stk3}(H:FR o s B P f rp g)(t:v∈g)(e:rp=p++(v,a,i)::j)(hd:(nodes rp).Nodup)(h:rp.length<1000):
  oP k ⟨[bZ B P (some (.int v))],s⟩=some (.ret (iL ((v::(nodes p).reverse)++[v])),⟨[bZ B P (some (.int v))],s⟩):=by
 refine oE H.pos fun ep d=>bP (r:=true) (bh rfl rfl ((sD H.see).trans (congrArg some (by simpa using t)))) ?_;have Q:(nodes rp).reverse.drop j.length=v::(nodes p).reverse:=by refine aa ?_ e;simp only[fK,dH,List.reverse_append,kz,iB];rw[List.drop_left' (by simp)];rfl
 have m:v∈nodes rp:=by refine aa ?_ e;simp
 have z:cg v (iN rp)=some (.int j.length):=by rw[e] at hd ⊢;exact MI hd
 refine dE (bP (r:=true) (bh rfl rfl ((D4 d).trans (congrArg some ?_))) (dE (fv (eN (gv rfl (bH rfl rfl (yA d z)) rfl rfl (Uv H.stk _)) (eO (bv rfl ci) (bC rfl)) ?_))))
 ·refine aa ?_ (xZ ..);simpa using m
 ·refine aU (aa ?_ Q) Jk;have c:(nodes p).length<=rp.length:=by refine aa ?_ e;simp
  refine aa ?_ (jW (by simp at c ⊢;exact aP [_,_] (.l af aj) (.l bI d8) (.l (.a aF aI) dG) tU c h));exact congrArg (fun l=>some (V.lst l)) (by simp)
theorem Ka{s:List O}{r:Stk3}{e:List Int}(H:FR d s B P k ((m,a,i)::r) e)(R:cH d B k np su)(hP:B+2+2*k.length<=P)(c:m∈k)(W:(su m)[i]?=some u):
  r6 ⟨[bZ B P o],s⟩=some (.brk,⟨[bZ B P (some (.int u))],s.set a (.liter (.obj (bw B k m+1)) (i+1))⟩):=by
 have b:(il (su m))[i]?=some (.int u):=by rw[gY,W];rfl
 exact iu (Tc (fr:=bZ B P o) (bH rfl (oH rfl) (yC H.its (by rw[yN,tS];rfl))) ((EE (H.it _ bK).1 (yU ((H.rep R hP).list m c))).trans (aa rfl b))) fun q=>by trivial
theorem J9{rp:Stk3}{seen:List Int}(H:FR f w B P k ((m,a,i)::rp) seen)(R:cH f B k np su)(hP:B+2+2*k.length<=P)(r:m∈k)(s:m∉nodes rp)(W:(su m)[i]?=none)(p:rp.length<1000):
  ∃d,r6 ⟨[bZ B P o],w⟩=some (.next,⟨[bZ B P o],d⟩)/\FR f d B P k rp seen:=by
 obtain t:=H.len;refine cV (H.it _ bK) fun l c n=>?_;dsimp only at l c n;obtain⟨ep,u⟩:=H.pos;refine⟨_,?_,H.pop (ep:=ep+1)⟩;have h:(il (su m))[i]?=none:=by rw[gY,W];rfl
 have f1:aD (w.set a .dead) P=.list (il (nodes rp).reverse++[.int m]):=by rw[aZ (by exact fun e=>z4 c e.symm),H.stk,qt,kz,il,fK];rfl
 have f2:aD ((w.set a .dead).set P (.list (il (nodes rp).reverse))) (P+3)=.dict (iN rp++[(m,.int rp.length)]) ep:=by rw[aZ z7,aZ (cQ c)];trivial
 have j:aD (((w.set a .dead).set P (.list (il (nodes rp).reverse))).set (P+3) (.dict (iN rp) (ep+1))) (P+1)=.list (iQ rp++[mH a]):=by rw[aZ (z5 rfl),aZ z7,aZ (by exact fun e=>z3 rfl c e.symm),H.its,yN]
 have g:=CY (x:=.int rp.length) (ya (rp:=rp) s);refine aw (Tb (fs:=[bZ B P o]) (bH rfl (oH rfl) (yC H.its (by rw[yN,tS];rfl))) ((EE l (yU ((H.rep R hP).list m r))).trans (by exact aa rfl h)) ?_) bo;have p1:=xy f1 (v:=.int m) (by rw[tS];rfl);obtain p1:=I2▸p1;have p2:=xy j (v:=mH a) (by rw[tS];rfl);obtain p2:=I2▸p2;have q:=SU (a:=ac 0 5) (b:=bJ (fun Y Y Y=>none) bc "pop" (ac 0 2) []) (d:=⟨[bZ B P o],w.set a .dead⟩) rfl (eP (fs:=[bZ B P o]) rfl (kN f1 rfl) rfl (bx bz rfl) p1) f2 g.1 (by refine aa (aa ?_ (C7 ..)) cP;simp;unfold sizeMax;exact z1 rfl p);obtain q:=g.2▸q;exact aw q (aw (ip (eP (fs:=[bZ B P o]) rfl (kN j rfl) rfl (bx bz rfl) p2)) bo)
theorem J8{s:List Int}(R:cH f B k np su)(hP:B+2+2*k.length<=P)(F:∀m∈k,∀x∈su m,x∈k):∀(rp:Stk3)(n:Nat)(st:List O)(fin:List Int),FR f st B P k rp s->FI k su rp s fin->mE su fin rp->rp.length<n->rp.length<=900->
  ∀{C:Prop},(∀u r d b,gw (cu (ac 0 2)) r6 (au [M.pure Fl.brk]) n ⟨[bZ B P o],st⟩=some (.next,⟨[bZ B P (some (.int u))],b⟩)->FR f b B P k r s->FI k su r s d->jI su d u r->u∈k->ik k su r s+1<=ik k su rp s->C)->
  (∀d b,gw (cu (ac 0 2)) r6 (au [M.pure Fl.brk]) n ⟨[bZ B P o],st⟩=some (.brk,⟨[bZ B P o],b⟩)->FR f b B P k [] s->FI k su [] s d->C)->C:=by
 intro rp;induction rp with
 |nil=>
  intro n;cases n with
  |zero=>intro st fin _ _ _ v;exact absurd v (wZ _)
  |succ n=>exact fun st fin H I _ _ _ _ _ T=>T fin st (Td (eX rfl (wp H.stk)) rfl) H I
 |cons q rp ih=>
  intro n;obtain⟨m,a,i⟩:=q;cases n with
  |zero=>intro st fin _ _ _ v;exact absurd v (wZ _)
  |succ n=>
   intro st fin H I Q v j C A T;have c:m∈k:=I.ks m ((I.mem m).mpr (.inl bK));have p:cu (ac 0 2) ⟨[bZ B P o],st⟩=some (true,⟨[bZ B P o],st⟩):=eX rfl ((wp H.stk).trans (by simp));cases W:(su m)[i]? with
   |some u=>exact A u _ fin _ (Gi p (Ka H R hP c W)) H.step I.step (LO Q W) (F m c u (zb W)) (dU (Se W))
   |none=>
    obtain⟨b,e⟩:=J9 H R hP c (List.nodup_cons.mp I.nd).1 W (z1 rfl j);exact ih n b _ e.2 (I.pop Q W) (Ts Q) (wY v) (z8 j) (fun u r d h g k1 k2 k3 q k5=>A u r d h (v0 p e.1 g) k1 k2 k3 q (bb k5 (Sc)))
     fun d h g=>T d h (v0 p e.1 g)
def zJ(v:Int)(rp:Stk3):Prop:=∀C:Prop,(∀pre a i post,rp=pre++(v,a,i)::post->C)->C
theorem zJ.mk{v:Int}{rp:Stk3}:∀pre a i b,rp=pre++(v,a,i)::b->zJ v rp:=fun d z m x3 x4 C k=>k d z m x3 x4
theorem FZ:∀{rp:Stk3},v∈nodes rp->zJ v rp
 |(m,a,i)::r,h=>by
  by_cases e:m=v
  ·subst e;exact .mk [] a i r rfl
  ·refine(FZ ((List.mem_cons.mp h).resolve_left fun q=>e q.symm)) _ fun pre b j c q=>?_;exact .mk ((m,a,i)::pre) b j c (by refine aa ?_ q;rfl)
theorem Q0{r:Stk3}:nodes (l++t::r)=nodes l++t.1::nodes r:=by simp
theorem FI.short{s f:List Int}(I:FI k su rp s f)(j:k.length<=100):rp.length<=100:=by obtain h:=mw I.nd fun x b=>I.ks x ((I.mem x).mpr (.inl b));rw[bl] at h;exact aP [_,_] (.l af aj) (.l aj cj) (.l af cj) tU h j
theorem VH{k:K}(R:cH r B b np su)(hP:B+2+2*b.length<=P)(WR:∀m∈b,∀x∈su m,x∈b)(o:b.length<=100):∀(n:Nat)(rp:Stk3)(seen fin:List Int)(st:List O)(v:Int),FR r st B P b rp seen->FI b su rp seen fin->jI su fin v rp->v∈b->ik b su rp seen<n->
  ∀{G:Prop},(∀f c,gw (cu (cC (.bool true))) (au [oP k,AJ]) (au []) n ⟨[bZ B P (some (.int v))],st⟩=some (.ret (iL f),c)->lv su f->(∀j,j<P->aD c.st j=aD r j)->P<=c.st.length->G)->
  (∀Q g seen' s,gw (cu (cC (.bool true))) (au [oP k,AJ]) (au []) n ⟨[bZ B P (some (.int v))],st⟩=some (.next,⟨[bZ B P Q],g⟩)->FR r g B P b [] seen'->FI b su [] seen' s->v∈seen'->(∀y∈seen,y∈seen')->G)->G:=by
 intro n;induction n with
 |zero=>intro rp seen fin st v _ _ _ _ hp;exact absurd hp (wZ _)
 |succ n ih=>
  intro rp seen fin st v H I C z hp G J K;have t:cu (cC (.bool true)) ⟨[bZ B P (some (.int v))],st⟩=some (true,⟨[bZ B P (some (.int v))],st⟩):=rfl;have Xa:∀(p:Stk3)(d:List Int)(st1:List O),oP k ⟨[bZ B P (some (.int v))],st⟩=some (.next,⟨[bZ B P (some (.int v))],st1⟩)->FR r st1 B P b p d->FI b su p d fin->mE su fin p->ik b su p d<=n->v∈d->(∀y∈seen,y∈d)->G:=by intro p d st1 ev A F R1 p1 hv1 hs1;refine J8 R hP WR p 2000 st1 fin A F R1 (aJ [_] (.l af cj) (.l aF (.n 2000)) tU (F.short o)) (aJ [_] (.l af cj) (.l af (.n 900)) tU (F.short o)) (fun u rp2 sr WV w D T C2 hu p2=>?_) fun sr WV w D T=>K _ WV d sr (Gi t (aw ev (iu w fun q=>by trivial))) D T hv1 hs1;exact ih rp2 d sr WV u D T C2 hu (aP [_,_,_] (.l aF aj) (.l aj aA) (.l aF aA) tU p2 p1) (fun f c W=>J f c (v0 t (aw ev (aw w bo)) W)) fun Q g seen' s W q1 q2 q3 q4=>K Q g seen' s (v0 t (aw ev (aw w bo)) W) q1 q2 (q4 v hv1) fun y hy=>q4 y (hs1 y hy)
  have hl:=I.len;by_cases h:v∈seen
  ·by_cases l:v∈nodes rp
   ·refine(FZ l) _ fun pre a i post e=>?_;refine J ((v::(nodes pre).reverse)++[v]) _ (Te t (dE (VF H h e I.nd (aJ [_] (.l af cj) (.l aF d8) tU (I.short o))))) ⟨⟨v,(nodes pre).reverse,rfl,?_⟩,?_⟩ H.old (by have:=H.len;exact aJ [_,_] (.l (.a af fe) aj) (.l af aj) tU this)
    ·have:=I.nd;rw[e,Q0] at this;refine List.nodup_cons.mpr ⟨fun q=>?_,(List.Perm.nodup_iff (List.reverse_perm _)).mpr ((List.nodup_append.mp this).1)⟩;exact((List.nodup_append.mp this).2.2) v (List.mem_reverse.mp q) v bK rfl
    ·clear H I z hp t Xa h l;subst e;exact LN C
   ·exact Xa rp seen st (VE H h l) H I (Gu C (((I.mem v).mp h).resolve_left l)) (aJ [_,_] (.l aF bI) (.l af aj) tU hp) h (fun y hy=>hy)
  ·have l:v∉nodes rp:=fun q=>h ((I.mem v).mpr (.inl q));obtain⟨st1,e1,A⟩:=VD (k:=k) H R hP z h l (by exact aJ [_] (.l af cj) (.l aF d8) tU (I.short o)) (by exact aP [_,_] (.l af aj) (.l aj cj) (.l aF d8) tU hl o);have pp:=Sd (su:=su) (rp:=rp) (a:=st.length) z h;exact Xa _ _ st1 e1 A (I.push z h) (Tt C) (by exact aP [_,_,_] (.l aF aj) (.l bI cI) (.l af aA) tU pp hp) (pe _ (List.mem_singleton.mpr rfl)) (fun y=>gZ _)
theorem CZ{s:List O}{e:List Int}{G:Int->V}(h:aD s j=.dict (e.map fun m=>(m,G m)) a):cn.next s (.didx j i e.length a false)=match e[i]? with
   |some m=>some (some (.int m,.didx j (i+1) e.length a false))
   |none=>some none:=by
 refine(?_:(oD _).bind _=_);refine aa ?_ h;refine(if_pos ⟨rfl,bl ..⟩).trans (aa ?_ (gY));cases e[i]?<;>rfl
theorem Ps{s:List O}(h:aD s j=.dict es ep):sI s (.obj j)=some (es.length,.didx j 0 es.length ep false):=by refine(?_:((oL _).map _).or _=_);refine aa ?_ h;rfl
theorem Oc{k:K}{h:Nat}(R:cH l B a np su)(hd:aD l (B+1)=.dict (a.map fun m=>(m,.obj (bw B a m))) h)(hP:B+2+2*a.length<=P)(WR:∀m∈a,∀x∈su m,x∈a)(hk:a.length<=100)(hpot:∀seen,ik a su [] seen<2000):
  ∀(rest done seen fin:List Int)(st:List O)(o:Option V),a=done++rest->FR l st B P a [] seen->FI a su [] seen fin->(∀y∈done,y∈seen)->
  ∀{C:Prop},(∀b n,dM (.name 6) (pF k) rest.length (.didx (B+1) done.length a.length h false) ⟨[bZ B P o],st⟩=some (.ret (iL b),n)->lv su b->(∀j,j<P->aD n.st j=aD l j)->P<=n.st.length->C)->
  (∀Q c seen' d,dM (.name 6) (pF k) rest.length (.didx (B+1) done.length a.length h false) ⟨[bZ B P o],st⟩=some (.next,⟨[bZ B P Q],c⟩)->FR l c B P a [] seen'->FI a su [] seen' d->(∀y∈a,y∈seen')->C)->C:=by
 intro l00;induction l00 with
 |nil=>intro done seen fin st o e H I i C J K;rw[dT] at e;refine K o st seen fin (ao rfl ?_) H I fun y h=>i y (e▸h);refine aa ?_ (CZ ((H.old _ (by exact aJ [_,_,_] (.l (.a (.a af aQ) (.m 2 aj)) aA) (.l (.a aF aI) aA) tU hP)).trans hd));refine aa ?_ (fX (dU (congrArg rx e)));rfl
 |cons w r D=>
  intro done seen fin st o e H I i J0 J K;have t:a=(done++[w])++r:=by refine aa (aa ?_ (iB ..)) e;rfl
  have C:a[done.length]?=some w:=by rw[e,ru (ck _),tZ];rfl
  have T:∀(q:Option _)(f:Fl)(F:S),pF k ⟨[bZ B P _],st⟩=some _->(match f with
    |.next|.cont=>dM _ _ r.length (.didx _ (done++[w]).length a.length h false)
    |.brk=>pure .next
    |.ret v=>pure _
    |.exc _ _=>M.fail:M Fl) F=q->dM (.name 6) _ (w::r).length _ ⟨[bZ B P o],st⟩=q:=fun q f F z ek=>by
   refine(?_:(match cn.next st _ with|some none=>pure Fl.next|some (some (v,Wz))=>_|none=>M.fail:M Fl) ⟨[bZ B P o],st⟩=_);rw[CZ ((H.old _ (by exact aJ [_,_,_] (.l (.a (.a af aQ) (.m 2 aj)) aA) (.l (.a aF aI) aA) tU hP)).trans hd),C];exact ao rfl (ao z (cP▸ek))
  by_cases u:w∈seen
  ·have z:pF k ⟨[bZ B P (some _)],st⟩=some _:=iu (bP (r:=true) (bh rfl rfl ((sD H.see).trans (congrArg some (by simpa using u)))) (iu rfl fun q=>by trivial)) fun q=>by trivial
   exact D _ seen fin st _ t H I (fun y A=>(List.mem_append.mp A).elim (i y) fun q=>by refine aa ?_ (List.mem_singleton.mp q);trivial) (fun b n g=>J b n (T _ _ _ z g)) fun Q c seen' d g=>K Q c seen' d (T _ _ _ z g)
  ·have s:bW (aO .In (ac 0 6) (ac 0 4)) (au [M.pure Fl.cont]) (au []) ⟨[bZ B P (some (.int w))],st⟩=some (.next,⟨[bZ B P (some (.int w))],st⟩):=bP (r:=false) (bh rfl rfl ((sD H.see).trans (congrArg some (by simpa using u)))) bo;refine VH (k:=k) R hP WR hk 2000 [] seen fin st w H I trivial (et C) (hpot seen) (fun b n g=>J b n (T _ _ _ (aw s (dE g)) rfl)) fun Q st1 seen1 fin1 g W I1 h1 h2=>?_;exact D (done++[w]) seen1 fin1 st1 Q t W I1 (fun y A=>(List.mem_append.mp A).elim (fun q=>h2 y (i y q)) fun q=>by refine aa ?_ (List.mem_singleton.mp q);exact h1) (fun b n p=>J b n (T _ _ _ (aw s (aw g bo)) p)) fun o2 c seen' d p=>K o2 c seen' d (T _ _ _ (aw s (aw g bo)) p)
theorem Dx{z G:Int}(R:cH o B b np su)(t:So o B y z G)(w:B<o.length)(F:∀m∈b,∀x∈su m,x∈b)(n:b.length<=100)(p:∀seen,ik b su [] seen<2000):
  ∃v c,az (k+1) 176 [.obj B] o=some (.ret v,c)/\(∀j,j<o.length->aD c j=aD o j)/\o.length<=c.length/\((v=.none/\∃fin,lh su fin/\∀x∈b,x∈fin)∨∃d,v=iL d/\lv su d):=by
 refine oE R.dict fun i hd=>?_;have I:FI b su [] [] []:=⟨.nil,fun x=>⟨fun h=>(cq h).elim,fun h=>h.elim id id⟩,fun Y h=>(cq h).elim,fun Y h=>(cq h).elim,.nil,trivial⟩;have start:∀q,au [fx (Tgt.name 6) (iV (ac 0 1)) (pF (az k)),cA (cC V.none)] ⟨[bZ B o.length none],o++[.list []]++[.list []]++[.set []]++[.dict [] 0]⟩=q->au (Hh (az k)) ⟨[[some (.obj B),none,none,none,none,none,none,none,none,none,none]],o⟩=q:=fun q e=>by refine aw (a9 (fr:=[some (.obj B),none,none,none,none,none,none,none,none,none,none]) (cJ rfl (fM t rfl))) ?_;refine aw (a9 (sX (fs:=[_]) ci (dB _))) ?_;refine aw (a9 (sX (fs:=[_]) ci (dB _))) ?_;refine aw (a9 (a:=cSet0) rfl) ?_;refine aw (a9 (a:=cDict0) rfl) ?_;refine aU ?_ e;simp only[cP,iD,wT];rfl
 have H:FR o (o++[.list []]++[.list []]++[.set []]++[.dict [] 0]) B o.length b [] []:=by
  refine⟨fun j A=>?_,?_,?_,?_,⟨0,?_⟩,fun Y h=>(cq h).elim,.nil,by simp⟩
  ·rw[dC (by simp;exact aJ [_,_] (.l aF aj) (.l aF (.a aj lc)) tU A),dC (by simp;exact aJ [_,_] (.l aF aj) (.l aF (.a aj aQ)) tU A),dC (by simp;exact aJ [_,_] (.l aF aj) (.l aF bI) tU A),dC A]
  ·rw[dC (by simp),dC (by simp),dC (by simp),mP];rfl
  ·rw[dC (by simp),dC (by simp),p0 (by simp)];rfl
  ·rw[dC (by simp),p0 (by simp)]
  ·rw[p0 (by simp)];rfl
 have hit:iV (ac 0 1) ⟨[bZ B o.length none],o++[.list []]++[.list []]++[.set []]++[.dict [] 0]⟩=some ((b.length,.didx (B+1) 0 b.length i false),⟨[bZ B o.length none],o++[.list []]++[.list []]++[.set []]++[.dict [] 0]⟩):=by refine cb rfl ((Ps (es:=b.map fun m=>(m,.obj (bw B b m))) (ep:=i) ?_).trans (by rw[bl]));rw[H.old _ (by exact aJ [_,_,_] (.l (.a (.a af aQ) (.m 2 aj)) aA) (.l (.a aF aI) aA) tU R.len),hd]
 refine aa ?_ Ld;refine Oc (k:=az k) R hd R.len F n p b [] [] [] _ none rfl H I (fun Y h=>(cq h).elim) (fun d u e D C s=>?_) fun Q c seen' l e f g q=>?_
 ·refine⟨_,u.st,?_,C,s,.inr ⟨d,rfl,D⟩⟩;refine aa ?_ (start _ (dE (iq hit e)));rfl
 ·refine⟨_,c,?_,f.old,by have:=f.len;exact aJ [_,_] (.l (.a af fe) aj) (.l af aj) tU this,.inl ⟨rfl,l,g.ok,fun x r=>((g.mem x).mp (q x r)).resolve_left cq⟩⟩;refine aa ?_ (start _ (aw (iq hit e) (dE (fv rfl))));rfl
theorem C1{s:List O}{e:List Int}{G:Int->V}(h:aD s j=.dict (e.map fun m=>(m,G m)) a):cn.next s (.didx j i e.length a true)=match e[i]? with
   |some m=>some (some (G m,.didx j (i+1) e.length a true))
   |none=>some none:=by
 refine(?_:(oD _).bind _=_);refine aa ?_ h;refine(if_pos ⟨rfl,bl ..⟩).trans (aa ?_ (gY));cases e[i]?<;>rfl
section
variable {st:List O}{B P:Nat}{Wu ready:List Int}{np:Int->Int}{su:Int->List Int}{c1 c2:Int}
structure Pd(st:List O)(B:Nat)(Wu:List Int)(np:Int->Int)(su:Int->List Int)(P:Nat)(ready:List Int)(c1 c2:Int):Prop where
 R:cH st B Wu np su
 s:So st B (.obj P) c1 c2
 rd:aD st P=.list (il ready)
 hP:B+2+2*Wu.length<=P
 lt:P<st.length
end
def F1:M Bool:=aO .Eq (bT (some 9) (ac 0 1)) (cC (V.int 0))
theorem SH{s:List O}{A:Nat}(R:cH s B k np su)(hd:aD s (B+1)=.dict (k.map fun m=>(m,.obj (bw B k m))) A)(j:k.length<=100):∀(rest done acc:List Int)(fr:List (Option V)),k=done++rest->fr.length=2->acc.length+rest.length<=100->
  ∃fr',jk (.name 1) (fun acc=>fm [F1] (iJ im (bT (some 8) (ac 0 1)) [] acc) (pure acc)) rest.length (.didx (B+1) done.length k.length A true) (il acc) ⟨fr::fs,s⟩=some (il (acc++rest.filter fun m=>decide (np m=0)),⟨fr'::fs,s⟩):=by
 intro p;induction p with
 |nil=>intro done acc fr e o c;rw[dT] at e;refine⟨fr,ao rfl ?_⟩;subst e;simp only[C1 hd,fX (ck _),List.filter_nil,dT];rfl
 |cons w r I=>
  intro done acc fr e o c;have u:k[done.length]?=some w:=by rw[e,ru (ck _),tZ];rfl
  obtain⟨fr',h⟩:=I (done++[w]) (if np w=0 then acc++[w] else acc) (fr.set 1 (some _)) (by refine aa (aa ?_ (iB ..)) e;rfl) (by refine aa ?_ df;trivial) (by by_cases F:np w=0<;>simp[F]<;>(first|exact bb (dU (mB ..)) c|exact fh c|omega));refine⟨fr',ao rfl ?_⟩;refine aa (aa ?_ u) (C1 hd);refine ao rfl (ao (r:=il (if np w=0 then acc++[w] else acc)) (i:=⟨fr.set 1 (some (.obj (bw B k w)))::fs,s⟩) ?_ ?_)
  ·refine(?_:fm [F1] _ _ ⟨_,s⟩=_);refine aa ?_ (qF (bh (cJ (cz o (by decide)) (ly (R.node w (et u)) rfl)) rfl rfl));by_cases hz:np w=0
   ·refine aa (aa (aa (aa ?_ (show il (acc++[w])=il acc++[.int w] from fK)) (if_pos hz)) (if_pos rfl)) (decide_eq_true hz);exact m7 (cJ (cz o (by decide)) (ly (R.node w (et u)) rfl)) (by refine aa ?_ (bl ..);exact aJ [_,_] (.l (.a af bI) cj) (.l aF dG) tU c)
   ·refine aa (aa ?_ (if_neg hz)) (decide_eq_false hz);rfl
  ·refine(cP▸h).trans (congrArg some (rE ?_ rfl));refine aa ?_ i5;by_cases hz:np w=0
   ·refine aa (aa (aa ?_ (iB ..)) (if_pos (decide_eq_true hz))) (if_pos hz);rfl
   ·rw[if_neg hz,if_neg (by simpa using hz)]
theorem SI{G:List O}{J c2:Int}(R:cH G B a np su)(s:So G B .none J c2)(F:∀m∈a,∀x∈su m,x∈a)(n:a.length<=100)(y:∀seen,ik a su [] seen<2000):
    ∃r P,az (k+2) 141 [.obj B] G=some (r,P)/\Pd P B a np su G.length (a.filter fun m=>decide (np m=0)) J c2/\((r=.ret .none/\∃fin,lh su fin/\∀x∈a,x∈fin)∨∃as g,r=.exc (.ref 104) as/\lv su g):=by
  refine oE R.dict fun t hd=>?_;obtain⟨fr',H⟩:=SH R hd n a [] [] (jN 2 none) rfl rfl (by simpa using n);have d:=R.len;let st1:=(G++[O.list (il (a.filter fun m=>decide (np m=0)))]).set B (.inst 186 [(4,.obj (B+1)),(5,.obj G.length),(6,.int J),(7,.int c2)]);have o:cH st1 B a np su:=(R.push).off (.inl (ck _));have I:aD st1 G.length=.list (il (a.filter fun m=>decide (np m=0))):=by rw[aZ (by exact aP [_,_,_] (.l (.a (.a af aQ) (.m 2 aj)) aA) (.e aA af) .f tU d),mP]
  have i:st1.length=G.length+1:=by refine(?_:(A9 _ _ _).length=_);simp
  have s1:So st1 B _ J c2:=eV (by simp;exact aJ [_,_,_] (.l (.a (.a af aQ) (.m 2 aj)) aA) (.l aF cI) tU d);refine qy (Dx (k:=k) o s1 (aP [_,_,_,_] (.l (.a (.a af aQ) (.m 2 aj)) aA) (.q aY cI) (.l aF aY) tU d i) F n y) fun v u p D C q3=>?_;have A:Pd u B a np su G.length _ J c2:=
    ⟨o.frame (fun j Y h=>D j (eg [_,_,_,_,_] (.l aF (.a (.a aj aQ) (.m 2 aA))) (.l (.a (.a aj aQ) (.m 2 aA)) aY) (.q d9 i4) (.l aF d9) tU h d i)) (eg [_,_,_,_,_] (.l (.a (.a af aQ) (.m 2 aj)) aA) (.q aY cI) (.l aY d9) (.l (.a (.a af aQ) (.m 2 aj)) d9) tU d i C),by delta So;refine aa ?_ (D B (aP [_,_,_,_] (.l (.a (.a af aQ) (.m 2 aj)) aA) (.q aY cI) (.l aF aY) tU d i));exact s1,by refine aa ?_ (D _ (dU i.symm));exact I,d,by exact aP [_,_,_] (.q af bI) (.l af aA) (.l bI aA) tU i C⟩
  have z:sz (bT (some 4) (ac 0 0)) ⟨[[some (.obj B),none,none,none]],G⟩=some ((a.length,.didx (B+1) 0 a.length t true),⟨[[some (.obj B),none,none,none]],G⟩):=by refine SZ (cJ rfl (fM s rfl)) (?_:(oD _).map _=_);refine aa ?_ hd;refine(?_:some ((a.map fun m=>_).length,cn.didx _ 0 (a.map fun m=>_).length t true)=_);rw[bl]
  have w:bN true 2 _ _ { tgt:=Tgt.name 1,ifs:=[aO .Eq _ _] } [] ⟨[[some _,none,none,none]],G⟩ =
      some _:=
    ao (ao z (ao rfl (ao H (ao rfl rfl)))) rfl
  have start:∀q,au [aS _ _,bW _ _ _] ⟨[[some _,none,none,none]],st1⟩=q->
      au (Aj (az (k+1))) ⟨[[some _,none,none,none]],G⟩=q:=fun q e=>by
    refine aw (bP (r:=false) (bh (cJ rfl (fM s rfl)) rfl rfl) bo) (aw (ir w rfl (iT (c:=186) (l:=[(4,.obj (B+1)),(5,.none),(6,.int J),(7,.int c2)]) ?_ ⟨bC rfl,by decide⟩)) ?_)
    · rw[dC (by exact aJ [_,_,_] (.l (.a (.a af aQ) (.m 2 aj)) aA) (.l aF aA) tU d)];exact s
    · exact e
  have call:bJ (az (k+1)) bc "_find_cycle" (ac 0 0) [] ⟨[[some (.obj B),none,none,none]],st1⟩=some (v,⟨[[some (.obj B),none,none,none]],u⟩):=oG rfl (oo s1 rfl) (bx bz rfl) p;refine aa ?_ Cn;clear R F n y hd d H o I p z w;rcases q3 with⟨rfl,fin,T⟩|⟨g,rfl,Q⟩
  · refine⟨_,u,?_,A,.inl ⟨rfl,fin,T⟩⟩;refine aa ?_ (start _ (aw (a9 call) (aw (bP (r:=false) (eX rfl rfl) bo) bo)));rfl
  · have W:(il g).isEmpty=false:=by
      refine gb Q.ex fun v l e Y=>?_;refine aa ?_ e;rfl
    refine⟨_,u,?_,A,.inr ⟨[.str "nodes are in a cycle",iL g],g,rfl,Q⟩⟩;rw[start _ (aw (a9 call) (iu (f:=.exc (.ref 104) [.str "nodes are in a cycle",iL g]) (bP (r:=true) (eX rfl (congrArg (fun b=>some (!b)) W)) (iu (f:=.exc (.ref 104) [.str "nodes are in a cycle",iL g]) rfl (fun q=>by contradiction))) (fun q=>by contradiction)))];rfl
theorem SG{a:List O}{c C:Int}(s:So a B (.obj P) c C):az (k+1) 141 [.obj B] a=some (.exc (.type "ValueError") [.str "cannot prepare() more than once"],a):=by
 refine aa ?_ Cn;have e:au (Aj (az k)) ⟨[[some _,none,none,none]],a⟩=some _:=
  iu (bP (bh (cJ rfl (fM s rfl)) rfl rfl) (iu rfl fun q=>by trivial)) fun q=>by trivial
 refine aa ?_ e;rfl
theorem Ax{a:List O}(s:aD a B=.inst 186 l)(h:az k 141 [.obj B] a=some (r,st1))(z:g[0]?=some (some (.obj B))):
  td (az k) bc "prepare" (ac 0 0) t ⟨[g],a⟩=match r with
   |.ret _=>some (.next,⟨[g],st1⟩)
   |.exc c as=>n9 c as t ⟨[g],st1⟩:=by
 refine ao (ba z) (ao rfl (ao (dm (r:=141) ?_) ?_))
 ·refine(?_:(oI _).bind _=_);refine aa ?_ s;rfl
 ·refine(?_:(match az k 141 [.obj B] a with
   |some (.ret _,x)=>some _
   |some (.exc c F,x)=>n9 c F t ⟨[g],x⟩
   |none=>none)=_)
  refine aa ?_ h;clear h;cases r<;>rfl
theorem OU{a:List O}(s:aD a B=.inst 186 l)(h:az k 141 [.obj B] a=some (.ret v,st1)):az (k+1) 341 [.obj B] a=some (.ret (.str "goes"),st1):=by refine aa ?_ xE;refine aa ?_ (aw (Ax s h rfl) (dE (fv rfl)));rfl
theorem OV{a:List O}(s:aD a B=.inst 186 l)(h:az k 141 [.obj B] a=some (.exc (.ref 104) as,st1)):az (k+1) 341 [.obj B] a=some (.ret (.str "a ring"),st1):=by refine aa ?_ xE;refine aa ?_ (dE ((Ax s h rfl).trans rfl));rfl
theorem OW{a:List O}{c C:Int}(s:So a B (.obj P) c C):az (k+2) 341 [.obj B] a=some (.ret (.str "cannot prepare() more than once"),a):=by refine aa ?_ xE;refine aa ?_ (dE ((Ax s (SG s) rfl).trans rfl));rfl
theorem cH.idx{s:List O}(R:cH s B k np su)(h:m∈k):fR s (.obj (B+1)) (.int m)=some (.obj (bw B k m)):=oE R.dict fun a hd=>yA hd (r8 h)
inductive Gp(B:Nat)(Wu:List Int)(su:Int->List Int)(t:Option V)(rs:List Int)(st:List O)(np:Int->Int)(c3:Option V):Prop
 |mk:∀c3' Wv WS,dM (.name 3) BV (il rs).length (.vals (il rs)) ⟨[[some (.obj B),t,some (.obj (B+1)),c3,none,none,none,none]],st⟩=some (.next,⟨[[some (.obj B),t,some (.obj (B+1)),c3',none,none,none,none]],Wv⟩)->cH Wv B Wu WS su->(∀x,WS x=if x∈rs then -1 else np x)->(∀j,(j<=B∨B+2+2*Wu.length<=j)->aD Wv j=aD st j)->Wv.length=st.length->Gp B Wu su t rs st np c3
theorem Tm{t:Option V}:∀(c:List Int)(st:List O)(np:Int->Int)(c3:Option V),cH st B k np su->(∀x∈c,x∈k)->
  Gp B k su t c st np c3:=by
 intro g;induction g with
 |nil=>intro st np c3 R _;exact⟨c3,st,np,rfl,R,fun x=>(if_neg cq).symm,fun Y Y=>rfl,rfl⟩
 |cons p r I=>
  intro st np c3 R h;have b:=h p bK;obtain⟨d,i,y,e,l,D,C,s⟩:=I _ _ _ (R.setNp (n:=-1) b) fun x f=>h x (bD _ f);refine⟨d,i,y,?_,l,fun x=>?_,fun j A=>?_,by exact aa (aa rfl df) s⟩
  ·exact ao rfl (ao rfl (ao (aw (ir rfl (bH rfl rfl (R.idx b)) (oJ (R.node p b) ⟨by decide,by decide⟩)) bo) e))
  ·refine aa ?_ (D ..);delta upd;by_cases a:x∈r
   ·exact aa (aa rfl (if_pos (bD _ a))) (if_pos a)
   ·refine aa ?_ (if_neg a);by_cases H:x=p
    ·rw[if_pos H,if_pos (by refine aa ?_ H;exact bK)]
    ·exact aa (aa rfl (if_neg fun q=>(List.mem_cons.mp q).elim H a)) (if_neg H)
  ·rw[C j A,aZ (by have:=sA b;exact fun e=>mC A (aP [_,_,_] (.q af (.a (.a aj aQ) (.m 2 aA))) (.l af aj) .f tU e) fun z=>qh [_,_,_,_] (.l aF aj) (.l (.a (.a aA aQ) (.m 2 aj)) aY) (.e aY (.a (.a aA aQ) (.m 2 af))) (.l aF aj) .f tU this z e this)]
section
variable {st:List O}{x:V}{B P:Nat}{Wu rd:List Int}{np:Int->Int}{su:Int->List Int}{c1 c2:Int}
inductive Gq(st:List O)(B:Nat)(P:Nat)(Wu:List Int)(rd:List Int)(np:Int->Int)(su:Int->List Int)(c1:Int)(c2:Int)(k:Nat):Prop
 |mk:∀Wv WS,az (k+1) 148 [.obj B] st=some (.ret (.tup (il rd)),Wv)->Pd Wv B Wu WS su P [] (c1+rd.length) c2->(∀x,WS x=if x∈rd then -1 else np x)->(∀j,P<j->aD Wv j=aD st j)->Wv.length=st.length->Gq st B P Wu rd np su c1 c2 k
end
theorem Vo{s:List O}(h:aD s j=.list vs):eI .tuple s (.obj j)=some (.tup vs):=by refine(?_:(oL _).bind _=_);refine aa ?_ h;rfl
theorem Tn{i:List O}{m n:Int}(D:Pd i B c np su P rd m n)(h:∀x∈rd,x∈c):
  Gq i B P c rd np su m n k:=by
 have hP:=D.hP;obtain⟨b,a,d,e,l,g,C,s⟩:=Tm rd i np none D.R h;have o:aD (a.set P (.list [])) B=.inst 186 [(4,.obj (B+1)),(5,.obj P),(6,.int m),(7,.int n)]:=by rw[aZ (by exact aP [_,_,_] (.l (.a (.a af aQ) (.m 2 aj)) aA) (.q af aA) .f tU hP)];exact((C B (.inl (ck _))).trans D.s)
 refine⟨(a.set P (.list [])).set B _,d,?_,⟨(l.off (.inr hP)).off (.inl (ck _)),eV (by simp;exact eg [_,_,_,_,_] (.l (.a (.a af aQ) (.m 2 aj)) aA) (.l cI aY) (.q d9 aY) (.l aF d9) tU hP D.lt s),?_,hP,by simp;exact aa D.lt s⟩,g,fun j A=>?_,by simp;trivial⟩
 ·refine aa ?_ Lb;have f:au (Hf (az k)) ⟨[[some (.obj B),none,none,none,none,none,none,none]],i⟩=some (.ret (.tup (il rd)),⟨[[some (.obj B),some (.tup (il rd)),some (.obj (B+1)),b,none,none,none,none]],(a.set P (.list [])).set B (.inst 186 [(4,.obj (B+1)),(5,.obj P),(6,.int (m+rd.length)),(7,.int n)])⟩):=by refine aw (bP (r:=false) (bh (cJ rfl (fM D.s rfl)) rfl rfl) bo) ?_;refine aw (a9 (fr:=[some (.obj B),none,none,none,none,none,none,none]) (ei (cJ rfl (fM D.s rfl)) (Vo D.rd))) ?_;refine aw (a9 (fr:=[some (.obj B),some (.tup (il rd)),none,none,none,none,none,none]) (cJ rfl (fM D.s rfl))) ?_;refine aw (iq (cb rfl rfl) e) ?_;refine aw (ip (eP (fs:=[[some (.obj B),some (.tup (il rd)),some (.obj (B+1)),b,none,none,none,none]]) (cJ rfl (fM ((C B (.inl (ck _))).trans D.s) rfl)) (kN ((C P (.inr hP)).trans D.rd) rfl) rfl (bx bz rfl) (KM ((C P (.inr hP)).trans D.rd)))) ?_;refine aw (vR (y:=.int m) (z:=.int (il rd).length) rfl (fM o rfl) (ei rfl rfl) rfl (iT o ⟨bC rfl,by decide⟩)) ?_;refine aa ?_ (bl ..);exact dE (fv rfl)
  refine aa ?_ f;rfl
 ·rw[aZ (by exact fun e=>aP [_,_,_] (.l (.a (.a af aQ) (.m 2 aj)) aA) (.e aA af) .f tU hP e),eV (by exact aa D.lt s)];rfl
 ·rw[aZ (by exact fun e=>eg [_,_,_,_] (.l (.a (.a af aQ) (.m 2 aj)) aA) (.l cI aY) (.e aY af) .f tU hP A e),aZ (gi A)];exact C j (.inr (by exact aP [_,_,_,_] (.l (.a (.a af aQ) (.m 2 aj)) aA) (.l cI aY) (.l (.a (.a af aQ) (.m 2 aj)) aY) tU hP A))
theorem Pd.setNp{s:List O}{r:List Int}{c c2:Int}(D:Pd s B k np su P r c c2)(h:m∈k):Pd (s.set (bw B k m) (ie m n (bw B k m+1))) B k (upd np m n) su P r c c2:=⟨D.R.setNp h,by delta So;refine aa ?_ (aZ (by exact aJ [_,_] (.q af (.a (.a af aQ) (.m 2 aj))) .f tU));exact D.s,by refine aa ?_ (aZ (by exact fun e=>eg [_,_,_,_] (.l (.a (.a af aQ) (.m 2 aj)) aA) (.e aA aY) (.l (.a i4 aI) (.a (.a af aQ) (.m 2 aj))) .f tU D.hP e (i8 h)));exact D.rd,D.hP,by refine aa ?_ df;exact D.lt⟩
theorem Pd.setRd{s:List O}{r:List Int}{c c2:Int}(D:Pd s B k np su P r c c2):Pd (s.set P (.list (il l))) B k np su P l c c2:=
 ⟨D.R.off (.inr D.hP),by delta So;refine aa ?_ (aZ (by have:=D.hP;exact aP [_,_,_] (.l (.a (.a af aQ) (.m 2 aj)) aA) (.q af aA) .f tU this));exact D.s,eV D.lt,D.hP,by refine aa ?_ df;exact D.lt⟩
theorem Pd.setC{s:List O}{r:List Int}{C a:Int}(D:Pd s B k np su P r C a):Pd (s.set B (.inst 186 [(4,.obj (B+1)),(5,.obj P),(6,.int C),(7,.int c)])) B k np su P r C c:=
 ⟨D.R.off (.inl (ck _)),eV (by have:=D.hP;have:=D.lt;exact aP [_,_,_,_] (.l (.a (.a af aQ) (.m 2 aj)) aA) (.l cI aY) (.l aF aY) tU (by trivial) this),by refine aa ?_ (aZ (by have:=D.hP;exact aP [_,_,_] (.l (.a (.a af aQ) (.m 2 aj)) aA) (.e aA af) .f tU this));exact D.rd,D.hP,by refine aa ?_ df;exact D.lt⟩
theorem Ez{s:List O}(h:aD s j=.list vs):cn.next s (.lidx j i)=match vs[i]? with
   |some v=>some (some (v,.lidx j (i+1)))
   |none=>some none:=by
 refine(?_:(oL _).map _=_);refine aa ?_ h;refine(?_:some (vs[i]?.map fun v=>_)=_);cases vs[i]?<;>rfl
noncomputable abbrev j0(B:Nat)(t n3 n4 n5 c6 c7:Option V):List (Option V):=[some (.obj B),t,some (.obj (B+1)),n3,n4,n5,c6,c7,none,none,none]
section
variable {st:List O}{x:V}{B P:Nat}{Wu rd:List Int}{np:Int->Int}{su:Int->List Int}{m c1 c2:Int}
inductive C3(B:Nat)(P:Nat)(Wu:List Int)(su:Int->List Int)(m:Int)(c1:Int)(c2:Int)(k:K)(t:Option V)(n3:Option V)(n4:Option V)(n5:Option V)(rest:List Int)(pre:List Int)(st:List O)(np:Int->Int)(rd:List Int)(c6:Option V)(c7:Option V):Prop
 |mk:∀c6' c7' Wv WS new,dM (.name 6) (xB k) rest.length (.lidx (bw B Wu m+1) pre.length) ⟨[j0 B t n3 n4 n5 c6 c7],st⟩=some (.next,⟨[j0 B t n3 n4 n5 c6' c7'],Wv⟩)->Pd Wv B Wu WS su P (rd++new) c1 c2->(∀x,WS x=np x-rest.count x)->new.Nodup->(∀x,x∈new↔x∈rest/\np x=rest.count x)->(∀j,P<j->aD Wv j=aD st j)->Wv.length=st.length->C3 B P Wu su m c1 c2 k t n3 n4 n5 rest pre st np rd c6 c7
end
theorem My{G c2:Int}{J:K}{L N i:Option V}(T:m∈a):∀(rest pre:List Int)(st:List O)(np:Int->Int)(rd:List Int)(d c:Option V),su m=pre++rest->Pd st B a np su P rd G c2->(∀x∈rest,x∈a)->(∀x∈rest,(rest.count x:Int)<=np x)->rd.length+rest.length<=1000->
  C3 B P a su m G c2 J L N Xn i rest pre st np rd d c:=by
 intro l00;induction l00 with
 |nil=>intro pre st np rd d c e D _ _ _;rw[dT] at e;refine⟨d,c,st,np,[],?_,by refine aa ?_ (dT ..);exact D,fun x=>by simp,.nil,fun x=>by simp,fun Y Y=>rfl,rfl⟩;refine(?_:(match cn.next st _ with|some none=>pure Fl.next|_=>M.fail:M Fl) ⟨[j0 B L N Xn i d c],st⟩=_);refine aa ?_ (Ez (D.R.list m T));refine aU ?_ e;refine aa ?_ (fX (by simp));rfl
 |cons p r ih=>
  intro pre st np rd d c e D u H C;have b:=u p bK;have R:su m=(pre++[p])++r:=by refine aa (aa ?_ (iB ..)) e;rfl
  have f:(il (su m))[pre.length]?=some (.int p):=by rw[e,gY,ru (ck _),tZ];rfl
  have o:∀x,((p::r).count x:Int)=r.count x+if x=p then 1 else 0:=fun x=>by
   refine aa ?_ wO;by_cases q:x=p
   ·clear e u H C b R f;subst q;simp
   ·have:(p==x)=false:=beq_eq_false_iff_ne.mpr fun w=>q w.symm;simp[q,this]
  obtain I:=H p bK;rw[o,if_pos rfl] at I;have l:=D.setNp (n:=np p-1) b;have D2:Pd (if np p-1=0 then(st.set (bw B a p) (ie p (np p-1) (bw B a p+1))).set P (.list (il rd++[.int p])) else st.set (bw B a p) (ie p (np p-1) (bw B a p+1))) B a (upd np p (np p-1)) su P (rd++if np p-1=0 then[p] else[]) G c2:=by
   by_cases hz:np p-1=0
   ·refine aa ?_ (if_pos hz);refine aa ?_ (if_pos hz);refine aa ?_ (show il rd++[V.int p]=il (rd++[p]) by simp);exact l.setRd
   ·refine aa (aa (aa ?_ (dT ..)) (if_neg hz)) (if_neg hz);trivial
  obtain⟨c6',c7',Wv,WS,new,s,D3,q1,W,q3,q4,q5⟩:=ih _ _ _ _ _ _ R D2 (fun x f=>u x (bD _ f)) (fun x f=>by
   have:=H x (bD _ f);rw[o] at this;delta upd;split
   ·rename_i q;cases q;rw[if_pos rfl] at this;exact AY this
   ·rename_i q;rw[if_neg q] at this;exact this) (by rw[iD] at C;split<;>simp<;>(first|exact bb (dU (mB ..)) C|exact fh C|omega))
  refine⟨c6',c7',Wv,WS,(if np p-1=0 then[p] else[])++new,?_,by refine aU ?_ (iB ..);exact D3,fun x=>?_,?_,fun x=>?_,fun j A=>?_,?_⟩
  ·refine ao (m:=store) rfl ?_;refine(?_:(match cn.next st (.lidx (bw B a m+1) pre.length) with|some none=>pure Fl.next|some (some (v,Wz))=>_|none=>M.fail:M Fl) ⟨[j0 B L N Xn i d c],st⟩=_);refine aa (aa ?_ f) (Ez (D.R.list m T));obtain s:=cP▸s;refine ao (r:=()) (m:=iU 6 (.int p)) rfl (ao (r:=Fl.next) (m:=xB J) ?_ s);refine aw (a9 (fr:=j0 B L N Xn i (some (.int p)) c) (bH rfl rfl (D.R.idx b))) ?_;refine aw (vR (y:=.int (np p)) (z:=.int 1) rfl (ly (D.R.node p b) rfl) rfl rfl (oJ (D.R.node p b) ⟨by decide,by decide⟩)) ?_;have F:=l.R.node p b;obtain F:=AD▸F;refine aw (i:=⟨[j0 B L N Xn i (some (.int p)) (some (.obj (bw B a p)))],_⟩) (bP (r:=decide (np p-1=0)) (bh (cJ rfl (ly F rfl)) rfl rfl) ?_) bo;by_cases hz:np p-1=0
   ·refine aa (aa (aa ?_ (if_pos hz)) (if_pos rfl)) (decide_eq_true hz);exact aw (ip (eP (fs:=[j0 B L N Xn i (some (.int p)) (some (.obj (bw B a p)))]) (cJ rfl (fM l.s rfl)) (kN l.rd rfl) rfl (bx (bu rfl bz) rfl) (pG l.rd (by refine aa ?_ (bl ..);unfold sizeMax;exact aJ [_,_] (.l (.a af aj) d8) (.l aF dG) tU C)))) bo
   ·refine aa (aa ?_ (if_neg hz)) (decide_eq_false hz);rfl
  ·refine aa (aa ?_ (o ..)) (q1 ..);unfold upd;split
   ·rename_i q;subst q;exact(Int.sub_sub ..).trans (congrArg _ (tQ ..))
   ·rfl
  ·by_cases hz:np p-1=0
   ·refine aa ?_ (if_pos hz);refine List.nodup_cons.mpr ⟨fun q=>?_,W⟩;have z:((r.count p:Nat):Int)<=0:=hz▸AY I;exact Int.not_le.mpr (Int.ofNat_lt.mpr (List.count_pos_iff.mpr ((q3 p).mp q).1)) z
   ·refine aa ?_ (if_neg hz);exact W
  ·rewrite[mx,q3,dP];refine aa ?_ (o ..);unfold upd;by_cases Q:x=p
   ·subst Q;simp only[if_true];by_cases hz:np x-1=0
    ·refine aa ?_ (if_pos hz);simp;have z:((r.count x:Nat):Int)<=0:=hz▸AY I;rw[Nat.le_zero.mp (Int.ofNat_le.mp z),Int.sub_eq_zero.mp hz];rfl
    ·refine aa ?_ (if_neg hz);simp;constructor
     ·rintro⟨_,h⟩;exact(Int.sub_add_cancel ..).symm.trans (congrArg (·+1) h)
     ·intro h;exact⟨List.count_pos_iff.mp (JE fun q=>hz (by rw[h,q];rfl)),(congrArg (·-1) h).trans (rj ..)⟩
   ·simp only[Q,if_false,false_or];constructor
    ·rintro(h|h)
     ·split at h
      ·rw[pf] at h;exact absurd h Q
      ·exact(cq h).elim
     ·exact⟨h.1,h.2⟩
    ·rintro⟨h,h'⟩;exact .inr ⟨h,h'⟩
  ·refine aa ?_ (q4 j A);by_cases hz:np p-1=0
   ·rw[if_pos hz,aZ (gi A),aZ (by exact fun e=>qh [_,_,_,_,_] (.l (.a (.a af aQ) (.m 2 aj)) aA) (.l cI aY) (.e aY d9) (.l (.a (.a d9 aI) aI) (.a (.a af aQ) (.m 2 aj))) .f tU D.hP A e (i8 (B:=B) b))]
   ·rw[if_neg hz,aZ (by exact fun e=>qh [_,_,_,_,_] (.l (.a (.a af aQ) (.m 2 aj)) aA) (.l cI aY) (.e aY d9) (.l (.a (.a d9 aI) aI) (.a (.a af aQ) (.m 2 aj))) .f tU D.hP A e (i8 (B:=B) b))]
  ·refine aa ?_ q5;split<;>simp
noncomputable def jY(bf:Int->List Int)(order:List Int)(x:Int):Int:=((bf x).filter fun p=>!order.contains p).length
def iG(bf:Int->List Int)(order:List Int):Prop:=∀i x,order[i]?=some x->∀p∈bf x,p∈order.take i
structure KI(Wu:List Int)(bf:Int->List Int)(np:Int->Int)(rdl srd order:List Int):Prop where
 nd:(order++rdl++srd).Nodup
 sub:∀x∈order++rdl++srd,x∈Wu
 opn:∀x∈Wu,x∉order++rdl++srd->np x=jY bf order x/\0<np x
 rd:∀x∈rdl,np x=-1
 ok:∀x∈order++rdl++srd,∀p∈bf x,p∈order
 top:iG bf order
theorem xM{x:Int}(h:m∉order):jY bf order x=jY bf (order++[m]) x+(bf x).count m:=by
 delta jY;induction bf x with
 |nil=>rfl
 |cons p r I=>
  refine aa (aa (aa ?_ wO) i5) i5;by_cases e:p=m
  ·subst e;have H:(order++[p]).contains p=true:=by simp
   refine aa (aa ?_ H) (by simpa using h:order.contains p=false);simp at I ⊢;exact(congrArg (·+1) I).trans (wI ..)
  ·have H:(order++[m]).contains p=order.contains p:=by simp[e]
   have C:=beq_eq_false_iff_ne.mpr e;refine aa (aa ?_ C) H;cases order.contains p<;>simp at I ⊢<;>first|exact I|exact(congrArg (·+1) I).trans (Int.add_right_comm ..)
theorem L2{x:Int}(h:m∉order):((bf x).count m:Int)<=jY bf order x:=by exact aa (Int.le_add_of_nonneg_left (lj _)) (xM h)
theorem L5{x:Int}(h:jY bf order x=0):∀p∈bf x,p∈order:=fun p e=>by delta jY at h;have:=List.filter_eq_nil_iff.mp (I4 (AZ h)) p e;simpa using this
theorem L4{x:Int}(h:0<jY bf order x):∃p∈bf x,p∉order:=by
 delta jY at h;cases e:(bf x).filter fun p=>!order.contains p with
 |nil=>obtain h:=e▸h;simp at h
 |cons p r=>
  have a:p∈(bf x).filter fun p=>!order.contains p:=by refine aa ?_ e;exact bK
  exact⟨p,((List.mem_filter.mp a).1),by simpa using((List.mem_filter.mp a).2)⟩
theorem iG.snoc(h:iG bf order)(k:∀p∈bf m,p∈order):iG bf (order++[m]):=fun i x e p a=>by
 rcases lp i order.length with D|D
 ·rw[wR D] at e;refine aa ?_ (Jr (fh D));exact h i x e p a
 ·rw[ru D] at e;have b:x=m:=by
   cases A:i-order.length with
   |zero=>obtain e:=A▸e;clear k a;cases e;rfl
   |succ j=>exact am (A▸e)
  clear e;subst b;refine aa ?_ (Jr (l₂:=[x]) (i:=order.length) (ck _) |> fun Y=>show(order++[x]).take i=order++[x].take _ by exact aa (aa rfl (pg D)) List.take_append);exact gZ _ (k p a)
theorem KI.get(K:KI k bf np r c order)(h:∀x,y x=if x∈c then -1 else np x):KI k bf y (r++c) [] order:=by
 have e:order++(r++c)++[]=order++r++c:=by simp
 refine⟨by refine aa ?_ e;exact K.nd,by refine aa ?_ e;exact K.sub,fun x b v=>?_,fun x b=>?_,by refine aa ?_ e;exact K.ok,K.top⟩
 ·refine aa (aa ?_ (if_neg fun q=>(e▸v) (pe _ q))) (h ..);exact K.opn x b (e▸v)
 ·refine aa ?_ (h ..);split
  ·rfl
  ·rename_i q;exact K.rd x ((List.mem_append.mp b).resolve_right q)
theorem KI.turn{G:Int->List Int}(K:KI R bf np r [] order)(g:m∈r)(L:∀x a,(G x).count a=(bf a).count x)(F:∀x∈G m,x∈R):
  (m∉G m)/\(∀x∈G m,((G m).count x:Int)<=np x)/\∀(y:Int->Int)(n:List Int),(∀x,y x=upd np m (-2) x-(G m).count x)->n.Nodup->(∀x,x∈n↔x∈G m/\upd np m (-2) x=(G m).count x)->
   KI R bf y (r.filter fun x=>!decide (x=m)) n (order++[m]):=by
 obtain P:=K.nd;rw[dT] at P;refine cV (List.nodup_append.mp P) fun n1 n2 W=>?_;have f:=fun q=>W m q m g rfl;have o:∀x,x∈G m↔m∈bf x:=fun x=>by rw[<- nE,L,nE]
 have s:=fun x c q=>f (K.ok x q m ((o x).mp c));have u:∀x∈G m,((G m).count x:Int)<=np x:=fun x c=>by rw[(K.opn x (F x c) (s x c)).1,L];exact L2 f
 have v:=fun q=>f (K.ok m (by simp[g]) m ((o m).mp q));refine⟨v,u,fun y n j h2 B=>?_⟩;have d:∀x,x∈n↔x∈G m/\np x=(G m).count x:=fun x=>by
  rw[B];constructor
  ·rintro⟨D,C⟩;exact⟨D,by rw[<- C,ma (by rintro rfl;trivial)]⟩
  ·rintro⟨D,C⟩;exact⟨D,by rw[<- C,ma (by rintro rfl;trivial)]⟩
 have h:∀x,x∈order++[m]++(r.filter fun x=>!decide (x=m))++n↔(x∈order++r++[]∨x∈n):=fun x=>by
  simp only[mx,pf,dT];by_cases e:x=m
  ·clear F f o v s u j B d;subst e;simp[g]
  ·simp[e]
 refine⟨?_,fun x c=>?_,fun x c H=>?_,fun x c=>?_,fun x c p i=>?_,K.top.snoc fun p i=>K.ok m (by simp[g]) p i⟩
 ·refine List.nodup_append.mpr ⟨List.nodup_append.mpr ⟨List.nodup_append.mpr ⟨n1,List.nodup_cons.mpr ⟨cq,.nil⟩,fun a l b hb=>by rw[List.mem_singleton.mp hb];rintro rfl;exact f l⟩,n2.filter _,fun a l b hb=>?_⟩,h2,fun a l b hb=>?_⟩
  ·refine oA (List.mem_filter.mp hb) fun W8 T=>?_;rintro rfl;rcases List.mem_append.mp l with l|l
   ·exact W a l a W8 rfl
   ·rw[List.mem_singleton.mp l] at T;simp at T
  ·rintro rfl;have t:=((d a).mp hb).1;have:=(h a).mp (gZ _ l);refine s a t ?_;rcases List.mem_append.mp l with l|l
   ·rcases List.mem_append.mp l with l|l
    ·simp[l]
    ·rw[List.mem_singleton.mp l] at t;exact absurd t v
   ·simp[(List.mem_filter.mp l).1]
 ·rcases(h x).mp c with q|q
  ·exact K.sub x q
  ·exact F x ((d x).mp q).1
 ·have I:x∉order++r++[]:=fun q=>H ((h x).mpr (.inl q));have A:x≠m:=by rintro rfl;exact I (by simp[g])
  refine oA (K.opn x c I) fun k1 k2=>?_;have hnn:x∉n:=fun q=>H ((h x).mpr (.inr q));have k:=xM (bf:=bf) (x:=x) f;rw[j,ma A,L];refine⟨aa (aa (rj ..) k) k1,?_⟩;by_cases t:x∈G m
  ·have w:=u x t;have z:np x≠(G m).count x:=fun q=>hnn ((d x).mpr ⟨t,q⟩);rw[L] at w z;exact Int.sub_pos_of_lt (Int.lt_iff_le_and_ne.mpr ⟨w,bB z⟩)
  ·have:=List.count_eq_zero.mpr t;rw[L] at this;exact Int.sub_pos.mpr (aa k2 this)
 ·refine oA (List.mem_filter.mp c) fun Q hx2=>?_;have A:x≠m:=by simpa using hx2
  have t:x∉G m:=fun q=>s x q (by simp[Q]);rw[j,ma A,K.rd x Q,List.count_eq_zero.mpr t];rfl
 ·rcases(h x).mp c with q|q
  ·exact gZ _ (K.ok x q p i)
  ·refine oA ((d x).mp q) fun D C=>?_;have k1:=(K.opn x (F x D) (s x D)).1;have k:=xM (bf:=bf) (x:=x) f;rw[L] at C;exact L5 (Int.add_left_cancel ((tQ ..).trans ((k.symm.trans (k1.symm.trans C)).trans (AX _).symm))) p i
theorem Pu{s:List O}(h:aD s j=.list vs):sI s (.obj j)=some (vs.length,.lidx j 0):=by refine(?_:((oL _).map _).or _=_);refine aa ?_ h;rfl
theorem Mz{G:List O}{J L:Int}(D:Pd G B c np su P rd J L)(a:m∈c)(h:np m=-1)(v:∀x∈su m,x∈c)(R:m∉su m)(q:∀x∈su m,((su m).count x:Int)<=np x)(s:rd.length+(su m).length<=1000):
  ∃b f d,az (k+1) 169 [.obj B,.int m] G=some (.ret .none,b)/\Pd b B c f su P (rd++d) J (L+1)/\(∀x,f x=upd np m (-2) x-(su m).count x)/\d.Nodup/\(∀x,x∈d↔x∈su m/\upd np m (-2) x=(su m).count x) /\
   (∀j,P<j->aD b j=aD G j)/\b.length=G.length:=by
 have l:=D.setNp (n:=-2) a;obtain⟨o,u,b,f,d,e,W,C,F,H,I,Q⟩:=My a (su m) [] _ _ rd none none rfl l v (fun x w=>by refine aa ?_ (ma (by rintro rfl;trivial));exact q x w) s;refine⟨_,f,d,?_,W.setC,C,F,H,fun j A=>by rw[aZ (by exact fun e=>eg [_,_,_,_] (.l (.a (.a af aQ) (.m 2 aj)) aA) (.l cI aY) (.e aY af) .f tU D.hP A e),I j A,aZ (by exact fun e=>qh [_,_,_,_,_] (.l (.a (.a af aQ) (.m 2 aj)) aA) (.l cI aY) (.e aY d9) (.l (.a (.a d9 aI) aI) (.a (.a af aQ) (.m 2 aj))) .f tU D.hP A e (i8 a))],by exact aa (aa (aa rfl df) Q) df⟩;refine aa ?_ Lc;have p:iH .get (.obj (B+1)) [.int m] G=some (.obj (bw B c m),G):=by exact oE D.R.dict fun i hd=>B8 hd (by refine aa ?_ (r8 a);rfl)
 have t:jr bc "get" G (.obj (B+1))=some (.bi .get):=by exact oE D.R.dict fun i=>EV
 have body:BW (az k) ⟨[j0 B (some (.tup [.int m])) (some (.int m)) none none none none],G⟩=some (.next,⟨[j0 B (some (.tup [.int m])) (some (.int m)) (some (.obj (bw B c m))) (some (.int (-1))) o u],b.set B (.inst 186 [(4,.obj (B+1)),(5,.obj P),(6,.int J),(7,.int (L+1))])⟩):=by
  refine aw (bP (bh (Gh (eP rfl t rfl (bx (bu rfl bz) rfl) p)) rfl rfl) bo) (aw (a9 (cJ rfl (ly (D.R.node m a) (by refine aa ?_ h;rfl)))) ?_);refine aw (bP (r:=false) (bh rfl rfl rfl) bo) ?_;refine aw (ir rfl rfl (oJ (D.R.node m a) ⟨by decide,by decide⟩)) ?_;refine aw (i:=⟨[j0 B (some (.tup [.int m])) (some (.int m)) (some (.obj (bw B c m))) (some (.int (-1))) o u],b⟩) (iq (cb (cJ rfl (ly (l.R.node m a) rfl)) ?_) e) ?_
  ·exact(Pu (l.R.list m a)).trans (by refine aa ?_ (bl ..);rfl)
  ·exact aw (vR (y:=.int L) (z:=.int 1) rfl (fM W.s rfl) rfl rfl (iT W.s ⟨bC rfl,by decide⟩)) bo
 have g:au (Hg (az k)) ⟨[[some (.obj B),some (.tup [.int m]),none,none,none,none,none,none,none,none,none]],G⟩=some (.next,⟨[j0 B (some (.tup [.int m])) (some (.int m)) (some (.obj (bw B c m))) (some (.int (-1))) o u],b.set B (.inst 186 [(4,.obj (B+1)),(5,.obj P),(6,.int J),(7,.int (L+1))])⟩):=by refine aw (bP (r:=false) (bh (cJ rfl (fM D.s rfl)) rfl rfl) bo) ?_;refine aw (a9 (fr:=[some (.obj B),some (.tup [.int m]),none,none,none,none,none,none,none,none,none]) (cJ rfl (fM D.s rfl))) ?_;exact aw (iq (cb rfl rfl) (ao (m:=store) rfl (ao (r:=()) (m:=iU 3 (.int m)) rfl (ao body rfl)))) bo
 refine aa ?_ g;rfl
abbrev gq(B:Nat)(nums:List Int)(rdl:List Int)(Q:Nat)(c4 c5:Option V):List (Option V):=[some (.obj B),some (iL nums),some (iL rdl),some (.obj Q),c4,c5,none,none]
noncomputable def zq(m:Int):V->Bool
 |.int i=>!decide (i=m)
 |_=>true
theorem NZ(m:Int):∀l:List Int,((il l).filter (zq m)).map id=il (l.filter fun x=>!decide (x=m)):=by
 intro p;induction p with
 |nil=>rfl
 |cons a r I=>
  have:=I;refine aa (aa (aa ?_ (show zq m _=!decide _ from rfl)) i5) i5;cases decide (a=m)
  ·exact congrArg _ this
  ·trivial
theorem QG{st:List O}(h:0<l.length)(a:l.length<1000000):∃m∈l,rR .Mod n l.length=some (.int (n.fmod l.length))/\fR st (iL l) (.int (n.fmod l.length))=some (.int m):=by have C:n.fmod l.length<l.length:=IR _ (Int.ofNat_lt.mpr h);have H:0<=n.fmod l.length:=IS _ (Int.ofNat_lt.mpr h);obtain⟨i,D⟩:=wJ H;have o:i<l.length:=Int.ofNat_lt.mp (D▸C);refine⟨l[i],Je o,xz ⟨Int.ofNat_lt.mpr h,Int.ofNat_lt.mpr a⟩,?_⟩;refine aa ?_ D;exact jn (by refine aa ?_ (gY);refine aa ?_ (iC o);rfl)
inductive OL(B P Q k:Nat)(Wu:List Int)(su bf:Int->List Int)(nums ns order:List Int)(σ:S):Prop
 |mk:∀c4' c5' Wv WS Xk Xl WJ c1' c2',dM (.name 4) (rN (az (k+1))) (il ns).length (.vals (il ns)) σ=some (.next,⟨[gq B nums Xk Q c4' c5'],Wv⟩)->Pd Wv B Wu WS su P Xl c1' c2'->aD Wv Q=.list (il WJ)->Q<Wv.length->
   KI Wu bf WS Xk Xl WJ->(order.length+ns.length<=WJ.length∨(Xk=[]/\Xl=[]))->OL B P Q k Wu su bf nums ns order σ
theorem Rz{k G:Nat}{N:List Int}(L:∀x a,(su x).count a=(bf a).count x)(WR:∀m∈l,∀x∈su m,x∈l)(w:l.length<=100)(hsu:∀x,(su x).length<=800)(h:P<G):∀(u:List Int)(st:List O)(np:Int->Int)(c d order:List Int)(c1 c2:Int)(R A:Option V),
  Pd st B l np su P d c1 c2->aD st G=.list (il order)->G<st.length->KI l bf np c d order->
  OL B P G k l su bf N u order ⟨[gq B N c G R A],st⟩:=by
 intro l00;induction l00 with
 |nil=>intro st np c d order c1 c2 R A D t H K;exact⟨R,A,st,np,c,d,order,c1,c2,rfl,D,t,H,K,.inl (ck _)⟩
 |cons n u ih=>
  intro st np c d order c1 c2 R A D t H K;have s:=mw K.nd K.sub;simp only[cP] at s;obtain⟨st1,np1,e1,o,q1,W,q3⟩:=Tn D fun x hx=>K.sub x (pe _ hx);have s1:aS (cT .Add (ac 0 2) (kD (iV (bJ (az (k+1)) bc "get_ready" (ac 0 0) [])))) (Tgt.name 2) ⟨[gq B N c G (some (.int n)) A],st⟩=some (.next,⟨[gq B N (c++d) G (some (.int n)) A],st1⟩):=by have:=a9 (i:=2) (eN (c:=⟨[gq B N c G _ A],st⟩) (a:=ac 0 2) (b:=kD (iV (bJ _ bc "get_ready" (ac 0 0) []))) rfl (vX (cb (oG (fs:=[gq B N c G (some (.int n)) A]) rfl (oo D.s rfl) (bx bz rfl) e1) rfl) (if_pos (by refine aa ?_ (bl ..);exact aP [_,_,_,_] (.l (.a (.a af aj) aA) aY) (.l aY cj) (.l aA dG) tU s w))) (jW (by refine aa (aa ?_ (bl ..)) (bl ..);exact aP [_,_,_,_] (.l (.a (.a af aj) aA) aY) (.l aY cj) (.l (.a aj aA) dG) tU s w)));obtain this:=List.map_append.symm▸this;exact this
  have p:=K.get q1;have loop:∀(q:Option (Fl×S))(f:Fl)(σ1:S),rN (az (k+1)) ⟨[gq B N c G (some (.int n)) A],st⟩=some (f,σ1)->(match f with
    |.next|.cont=>dM (.name 4) (rN (az (k+1))) (il u).length (.vals (il u))
    |.brk=>pure .next
    |.ret v=>pure (.ret v)
    |.exc _ _=>M.fail:M Fl) σ1=q->dM (.name 4) (rN (az (k+1))) (il (n::u)).length (.vals (il (n::u))) ⟨[gq B N c G R A],st⟩=q:=fun q f σ1 eb ek=>
   ao (m:=store) rfl (ao (r:=()) (m:=iU 4 (.int n)) rfl (ao eb ek))
  have tst:aO .Eq (ac 0 2) (bY false []) ⟨[gq B N (c++d) G (some (.int n)) A],st1⟩=some ((c++d).isEmpty,⟨[gq B N (c++d) G (some (.int n)) A],st1⟩):=
   bh rfl (eO ci (dB _)) ((tz (j9 _)).trans (by exact aa rfl wS))
  by_cases C:c++d=[]
  ·refine⟨_,_,st1,np1,[],[],order,_,_,loop _ .brk ⟨[gq B N [] G (some (.int n)) A],st1⟩ ?_ rfl,o,((W G h).trans t),by exact aa H q3,by obtain p:=C▸p;exact p,.inr ⟨rfl,rfl⟩⟩;rw[C] at s1 tst;exact aw s1 (iu (bP (r:=true) tst (iu rfl (fun q=>by contradiction))) (fun q=>by contradiction))
  ·have WU:0<(c++d).length:=List.length_pos_iff.mpr C;refine cw (QG (st:=st1) (n:=n) WU (by refine aa ?_ cP;exact aP [_,_,_,_] (.l (.a (.a af aj) aA) aY) (.l aY cj) (.l (.a (.a aj aA) aI) (.n 1000000)) tU s w)) fun m I hb hi=>?_;have T:m∈l:=p.sub m (by simp[List.mem_append.mp I]);refine cV (p.turn I L (WR m T)) fun t1 t2 t3=>?_;have D2:Pd (st1.set G (.list (il order++[.int m]))) B l np1 su P [] (c1+d.length) c2:=by have hP:=o.hP;exact⟨o.R.off (.inr (by exact aP [_,_,_,_] (.l (.a (.a af aQ) (.m 2 aj)) aA) (.l cI aY) (.l (.a (.a af aQ) (.m 2 aj)) aY) tU hP h)),by unfold So;rw[aZ (by exact fun e=>eg [_,_,_,_] (.l aF aj) (.q aA aj) (.l (.a (.a aA aQ) (.m 2 aY)) af) .f tU h e hP)];exact o.s,by rw[aZ (cQ h)];exact o.rd,hP,by refine aa ?_ df;exact o.lt⟩
   refine Rh (Mz (k:=k) (m:=m) D2 T (p.rd m I) (WR m T) t1 t2 (by have:=hsu m;simp;exact z1 rfl this)) fun st3 np3 new e3 hz=>?_;obtain⟨D3,r1,r2,r3,r4,r5⟩:=hz;rw[tV] at D3;have K3:=t3 np3 new r1 r2 r3;have hQ3:aD st3 G=.list (il (order++[m])):=by rw[r4 G h,eV (by exact aa H q3)];simp
   obtain⟨c4',c5',Wv,WS,Xk,Xl,WJ,c1',c2',e4,w1,w2,w3,w4,w5⟩:=ih st3 np3 _ new (order++[m]) _ _ (some (.int n)) (some (.int m)) D3 hQ3 (by refine aa (aa ?_ df) r5;exact aa H q3) K3;refine⟨c4',c5',Wv,WS,Xk,Xl,WJ,c1',c2',loop _ .next _ ?_ e4,w1,w2,w3,w4,w5.imp (fun q=>by simp at q ⊢;exact aJ [_,_,_] (.l (.a aF aj) aA) (.l (.a af bI) aA) tU q) id⟩;refine aw s1 (aw (bP (r:=false) (tst.trans (by rw[show(c++d).isEmpty=false by simpa using C])) bo) ?_);refine aw (a9 (fr:=gq B N (c++d) G (some (.int n)) A) (bH rfl (eN (y:=.int (il (c++d)).length) (z:=.int (n.fmod (c++d).length)) rfl (ei rfl rfl) (by refine aa ?_ (bl ..);exact un hb)) hi)) ?_;refine aw (a9 (fr:=gq B N (c++d) G (some (.int n)) (some (.int m))) (vU (q:=zq m) (g:=id) (cb rfl rfl) (fun v hv fr F=>?_) (fun v hv Y fr F=>cz F (by decide)) ?_)) ?_
   ·refine fw v (List.mem_map.mp hv) fun j Y=>?_;exact bh (cz F (by decide)) rfl rfl
   ·refine aa (aa ?_ cP) (bl ..);unfold sizeMax;exact aP [_,_,_,_] (.l (.a (.a af aj) aA) aY) (.l aY cj) (.l (.a aj aA) dG) tU s w
   refine aa ?_ (NZ ..);refine aw (ip (eP (fs:=[gq B N ((c++d).filter fun x=>!decide (x=m)) G (some (.int n)) (some (.int m))]) rfl (kN ((W G h).trans t) rfl) rfl (bx (bu rfl bz) rfl) (pG ((W G h).trans t) (by refine aa ?_ (bl ..);unfold sizeMax;exact aP [_,_,_,_] (.l (.a (.a af aj) aA) aY) (.l aY cj) (.l aF dG) tU s w)))) ?_;exact aw (ip (oG (fs:=[gq B N ((c++d).filter fun x=>!decide (x=m)) G (some (.int n)) (some (.int m))]) rfl (oo D2.s rfl) (bx (bu rfl bz) rfl) e3)) bo
structure pn(Wu:List Int)(bf:Int->List Int)(order:List Int):Prop where
 nd:order.Nodup
 sub:∀x∈order,x∈Wu
 top:iG bf order
 max:∀x∈Wu,x∉order->∃p∈bf x,p∉order
theorem DL:∀(l:List Int)(n:Nat)(st:List O),l.length+1<n->frzs n st (il l)=some (il l,st)
 |[],n+1,st,_=>rfl
 |a::r,n+2,st,h=>by have e:=DL r (n+1) st (wY h);refine(?_:(frzs _ st (il r)).bind _=_);refine aa ?_ e;rfl
theorem Oj{s:List O}(h:aD s j=.list (il l))(c:l.length+1<199):eK 200 s (.obj j)=some (iL l,s.set j .dead):=by refine(?_:(((oL _).bind fun vs=>(frzs 199 _ vs).bind _).or _).or _=_);refine aa ?_ h;refine(?_:(((frzs 199 _ (il l)).bind _).or _).or _=_);refine aa ?_ (DL l 199 _ c);rfl
theorem KI.start(L:Lk np su bf)(nd:k.Nodup):KI k bf np [] (k.filter fun m=>decide (np m=0)) []:=by
 have c:∀x,jY bf [] x=(bf x).length:=fun x=>by delta jY;rw[List.filter_eq_self.mpr fun a Y=>by rfl]
 refine⟨by exact nd.filter _,fun x b=>by exact(List.mem_filter.mp b).1,fun x b v=>?_,fun x b=>(cq b).elim,fun x b p e=>?_,fun i x D=>by exact am D⟩
 ·have F:np x≠0:=fun q=>v (List.mem_filter.mpr ⟨b,decide_eq_true q⟩);have:=L.np x;exact⟨by exact aa (aa rfl this) (c ..),aa (Int.ofNat_lt.mpr (JE fun q=>F (this.trans (congrArg Int.ofNat q)))) this⟩
 ·have F:=of_decide_eq_true (List.mem_filter.mp b).2;rw[L.np] at F;rw[I4 (AZ F)] at e;assumption
theorem KI.ord(K:KI k bf np r c order)(h:k.length<=order.length∨(r=[]/\c=[])):pn k bf order:=by
 have g:=(List.nodup_append.mp (List.nodup_append.mp K.nd).1).1;have s1:∀x∈order,x∈k:=fun x b=>K.sub x (by simp[b]);refine⟨g,s1,K.top,fun x b v=>?_⟩;rcases h with h|⟨rfl,rfl⟩
 ·exfalso;have:(x::order).length<=k.length:=mw (List.nodup_cons.mpr ⟨v,g⟩) fun y A=>(List.mem_cons.mp A).elim (fun q=>q▸b) (s1 y);exact Nat.not_lt.mpr h this
 ·obtain⟨k1,k2⟩:=K.opn x b (by simpa using v);exact L4 (k1▸k2)
theorem RA{z:List O}{A c2:Int}(D:Pd z B a np su P (a.filter fun m=>decide (np m=0)) A c2)(L:Lk np su bf)(F:∀m∈a,∀x∈su m,x∈a)(j:a.length<=100)(r:∀x,(su x).length<=800)(v:a.length<=nums.length):
  ∃order b c d,az (k+2) 351 [.obj B,iL nums] z=some (.ret (iL order),b)/\pn a bf order/\So b B (.obj P) c d:=by
 have o:=D.lt;have l:Pd (z++[.list (il [])]) B a np su P _ A c2:=
  ⟨D.R.push,by delta So;refine aa ?_ (dC (aP [_,_,_,_] (.l (.a (.a af aQ) (.m 2 aj)) aA) (.l cI aY) (.l aF aY) tU D.hP o));exact D.s,by refine aa ?_ (dC o);exact D.rd,D.hP,by simp;exact mz o⟩
 obtain⟨f,g,b,y,u,w,h,c,d,e,W,s,C,K,t⟩:=Rz L.su F j r o nums _ np [] _ [] A c2 none none l mP (by simp) (KI.start L D.R.nodup);have O:=K.ord (t.imp (fun q=>by simp at q;exact bb v q) id);have n:h.length<=a.length:=mw O.nd O.sub;refine⟨h,b.set z.length .dead,c,d,?_,O,by unfold So;rw[aZ (by exact fun e=>eg [_,_,_,_] (.l (.a (.a af aQ) (.m 2 aj)) aA) (.l cI aY) (.q af aY) .f tU D.hP o e)];exact W.s⟩;refine aa ?_ Lp;have i:au (Hr (az (k+1))) ⟨[[some (.obj B),some (iL nums),none,none,none,none,none,none]],z⟩=some (.ret (.obj z.length),⟨[gq B nums u z.length f g],b⟩):=by refine aw (Ga (fr:=[some (.obj B),some (iL nums),none,none,none,none,none,none]) (by decide) (gQ (bv (eO ci (dB _)) (bv (sX (fs:=[[some (.obj B),some (iL nums),none,none,none,none,none,none]]) ci (dB _)) ci)) (bC rfl))) ?_;exact aw (iq (cb rfl rfl) e) (dE (fv rfl))
 refine aa ?_ i;refine(?_:((eK 200 b (.obj z.length)).bind fun p=>some (CR.ret p.1,p.2))=_);rw[Oj s (by exact aP [_,_] (.l af aj) (.l aj cj) (.l (.a aF aI) (.n 199)) tU n j)];rfl
structure En where
 ag:List Str
 ls:List Int
 d:Option Int
 r:Option Int
noncomputable def oi:Option Int->V
 |some i=>.int i
 |none=>.none
noncomputable abbrev sl(l:List Str):List V:=l.map .str
def d5(e:En):V:=.ins 59 [(0,.lst (sl e.ag)),(1,iL e.ls),(2,oi e.d),(3,oi e.r)]
def dN(e:En):V:=.tup [.lst (sl e.ag),iL e.ls,oi e.d,oi e.r]
noncomputable def mg(a b:En):En:=⟨a.ag.filter b.ag.contains,a.ls++b.ls,b.d.or a.d,b.r.or a.r⟩
def fj(st:List O)(o:Option (Fl×S)):Option (CR×List O):=o.bind (uI true st)
def Wo(k:K):List (M Fl):=[eQ (some 0) (ac 0 0) (bY true []),eQ (some 1) (ac 0 0) (bY true []),eQ (some 2) (ac 0 0) (cC V.none),eQ (some 3) (ac 0 0) (cC V.none)]
noncomputable def CE:Cls:={ init:=35,slots:=false,meths:=[] }
def Hu(k:K):List (M Fl):=[aS (nT k 59 CE []) (Tgt.name 2),
  eQ (some 0) (ac 0 2) (xC (uq (c1 B1.set (bT (some 0) (ac 0 1)))) (bT (some 0) (ac 0 0))),
  eQ (some 1) (ac 0 2) (cT .Add (bT (some 1) (ac 0 0)) (bT (some 1) (ac 0 1))),
  eQ (some 2) (ac 0 2) (jc (aO .Is (bT (some 2) (ac 0 1)) (cC V.none)) (bT (some 2) (ac 0 0)) (bT (some 2) (ac 0 1))),
  eQ (some 3) (ac 0 2) (jc (aO .Is (bT (some 3) (ac 0 1)) (cC V.none)) (bT (some 3) (ac 0 0)) (bT (some 3) (ac 0 1))),cA (ac 0 2)]
def Ho(k:K):List (M Fl):=[cA (dZ [bT (some 0) (ac 0 0),bT (some 1) (ac 0 0),bT (some 2) (ac 0 0),bT (some 3) (ac 0 0)])]
theorem pC{x:Option (CR×List O)}(h:noObjs vs=true):(bif noObjs vs&&true then x else none)=x:=by refine aa ?_ h;rfl
theorem Ls{s:List O}(h:noObjs [x,y]=true):az (k+1) 70 [x,y] s=fj s (au (Hu (az k)) ⟨[[some x,some y,none,none,none,none,none]],[]⟩):=aa (aa rfl (pC h)) (by kernel_rfl!:az _ 70 [x,y] s=(bif noObjs [x,y]&&true then fj s _ else none))
theorem Lm{s:List O}(h:noObjs [x]=true):az (k+1) 327 [x] s=fj s (au (Ho (az k)) ⟨[[some x]],[]⟩):=aa (aa rfl (pC h)) (by kernel_rfl!:az _ 327 [x] s=(bif noObjs [x]&&true then fj s _ else none))
theorem Co:az (k+1) 35 [.obj 0] [.inst 59 []]=some (.ret .none,[.inst 59 [(0,.obj 1),(1,.obj 2),(2,.none),(3,.none)],.list [],.list []]):=by kernel_rfl!
theorem qr:∀l:List Int,noObjs (il l)=true:=by
 intro p;induction p with
 |nil=>rfl
 |cons _ r I=>trivial
theorem qs:∀l:List Str,noObjs (sl l)=true:=by
 intro p;induction p with
 |nil=>rfl
 |cons _ r I=>trivial
theorem kQ(d:Option Int):noObj (oi d)=true:=by cases d<;>rfl
theorem pD{a b c d:Bool}(h:a=true)(H:b=true)(C:c=true)(e:d=true):(a&&(b&&(c&&(d&&true))))=true:=by refine aa (aa (aa (aa ?_ e) C) H) h;rfl
theorem vn(e:En):noObj (d5 e)=true:=pD (qs e.ag) (qr e.ls) (kQ e.d) (kQ e.r)
theorem vp(e:En):noObj (dN e)=true:=pD (qs e.ag) (qr e.ls) (kQ e.d) (kQ e.r)
theorem p5(d:Option Int):n8 (some (oi d))=some (oi d):=by cases d<;>rfl
theorem Pg{s:List O}(d:Option Int):fp .Is s (oi d) .none=some d.isNone:=by cases d<;>rfl
section
variable {x y:V}
theorem Mo{j:Type}[BEq j][LawfulBEq j]:∀(xs acc:List j)(y:j),(dq xs acc).contains y=(xs.contains y||acc.contains y):=by
 intro p;induction p with
 |nil=>intro acc y;rfl
 |cons x r I=>
  intro acc y;refine Bool.eq_iff_iff.mpr (?_:(if acc.contains x then dq r acc else dq r (acc++[x])).contains y=true↔_);split
  ·rename_i h;refine aa ?_ (I acc y);simp at h ⊢;constructor
   ·rintro(q|q)
    ·exact .inl (.inr q)
    ·exact .inr q
   ·rintro((q|q)|q)
    ·exact .inr (aa h q)
    ·exact .inl q
    ·exact .inr q
  ·refine aa ?_ (I _ y);simp;constructor
   ·rintro(q|q|q)
    ·exact .inl (.inr q)
    ·exact .inr q
    ·exact .inl (.inl q)
   ·rintro((q|q)|q)
    ·exact .inr (.inr q)
    ·exact .inl q
    ·exact .inr (.inl q)
end
theorem SS(h:a b=some (.sets xs,i)):uq a b=some (.bm "set.__contains__" (.sets xs),i):=ao h rfl
theorem SW (h:a c=some (.bm "set.__contains__" (.sets keep),i)) (H:b i=some (.lst (sl l),F)):xC a b c=some (.lst (sl (l.filter keep.contains)),F):=by refine ao (ao h (ao H (ao rfl (dm ?_)))) rfl;refine(?_:(if ic (sl l) then some _ else none)=_);refine aa (aa ?_ (nc ..)) (sF ..);rfl
theorem Uj{s:List O}(l:List Str):eI .set s (.lst (sl l))=some (.sets (dq l [])):=by refine(?_:(if ic (sl l) then some _ else _)=_);refine aa (aa ?_ (nc ..)) (sF ..);rfl
theorem kK{a:List O}(h:noObj v=true):eK (n+1) a v=some (v,a):=by
 unfold eK;have s:vO v=none:=by
  cases s:vO v with
  |none=>rfl
  |some k=>cases qU s;trivial
 refine aa ?_ s;exact if_pos h
theorem fF{s:List O}{Xm:List (Nat×V)}(h:eK n s v=some (w,st1))(H:frzF n st1 r=some (Xm,u)):frzF (n+1) s ((f,v)::r)=some ((f,w)::Xm,u):=by refine(?_:(eK n s v).bind _=_);refine aa ?_ h;refine(?_:(frzF n st1 r).bind _=_);refine aa ?_ H;rfl
theorem fS{s:List O}{Xm:List V}(h:eK n s v=some (w,st1))(H:frzs n st1 r=some (Xm,u)):frzs (n+1) s (v::r)=some (w::Xm,u):=by refine(?_:(eK n s v).bind _=_);refine aa ?_ h;refine(?_:(frzs n st1 r).bind _=_);refine aa ?_ H;rfl
theorem fO{s:List O}(h:aD s j=.list vs)(H:frzs n (s.set j .dead) vs=some (ws,st1)):eK (n+1) s (.obj j)=some (.lst ws,st1):=by refine(?_:(((oL _).bind fun vs=>(frzs n _ vs).bind _).or _).or _=_);refine aa ?_ h;refine(?_:(((frzs n _ vs).bind _).or _).or _=_);refine aa ?_ H;rfl
section
variable {st st1:List O}{v w:V}
theorem fI{C:Nat}{v w:List (Nat×V)}(h:aD st j=.inst C v)(H:frzF n (st.set j .dead) v=some (w,st1)):eK (n+1) st (.obj j)=some (.ins C w,st1):=by refine(?_:(((oL _).bind _).or _).or _=_);refine aa ?_ h;refine(?_:((frzF n _ v).bind _).or _=_);refine aa ?_ H;rfl
end
theorem sv{s:List O}(h:eK 200 a.st v=some (w,u)):fj s (some (.ret v,a))=some (.ret w,s):=by refine(?_:((eK 200 a.st v).bind _).bind _=_);refine aa ?_ h;rfl
theorem EN{s:List O}(h:f.ls.length+g.ls.length<=sizeMax):az (k+2) 70 [d5 f,d5 g] s=some (.ret (d5 (mg f g)),s):=by
 have j:((dq g.ag []).contains)=fun y=>g.ag.contains y:=by funext y;refine aa ?_ (Mo ..);simp
 have e:au (Hu (az (k+1))) ⟨[[some (d5 f),some (d5 g),none,none,none,none,none]],[]⟩=some (.ret (.obj 0),⟨[[some (d5 f),some (d5 g),some (.obj 0),none,none,none,none]],[.inst 59 [(0,.lst (sl (mg f g).ag)),(1,iL (mg f g).ls),(2,oi (mg f g).d),(3,oi (mg f g).r)],.list [],.list []]⟩):=by
  refine aw (a9 (vY (bx bz rfl) Co)) (aw (ir (SW (SS (ei (cJ rfl rfl) (Uj _))) (cJ rfl rfl)) rfl (iT rfl ⟨bC rfl,by decide⟩)) ?_);refine aa ?_ (aa rfl (show(dq g.ag []).contains=g.ag.contains from j):f.ag.filter (dq g.ag []).contains=f.ag.filter g.ag.contains);have D:∀(t p:Option Int)(i:Nat)(a:S),bT (some i) (ac 0 0) a=some (oi t,a)->bT _ _ a=some (oi p,a)->jc (aO .Is (bT (some i) _) (cC V.none)) (bT (some i) _) (bT (some i) (ac 0 1)) a=some (oi (p.or t),a):=fun t p i a I P=>
   qG (bh P rfl (Pg p)) (by cases p with
    |none=>trivial
    |some=>trivial)
  refine aw (ir (eN (cJ rfl rfl) (cJ rfl rfl) ((jW (by refine aa (aa ?_ (bl ..)) (bl ..);exact h)).trans (aU rfl fK))) rfl (iT rfl ⟨bC rfl,by decide⟩)) ?_;refine aw (ir (D f.d g.d 2 _ (cJ rfl (p5 _)) (cJ rfl (p5 _))) rfl (iT rfl ⟨bC rfl,by decide⟩)) (aw (ir (D f.r g.r 3 _ (cJ rfl (p5 _)) (cJ rfl (p5 _))) rfl (iT rfl ⟨bC rfl,by decide⟩)) ?_);rfl
 refine aa ?_ (Ls (by refine(?_:(noObj _&&(noObj _&&true))=true);refine aa (aa ?_ (vn ..)) (vn ..);rfl));refine aa ?_ e;have hz:eK 200 [.inst 59 [(0,.lst (sl (mg f g).ag)),(1,iL (mg f g).ls),(2,oi (mg f g).d),(3,oi (mg f g).r)],.list [],.list []] (.obj 0)=some (d5 (mg f g),[.dead,.list [],.list []]):=by exact fI rfl (fF (kK (qs _)) (fF (kK (qr _)) (fF (kK (kQ _)) (fF (kK (kQ _)) rfl))))
 exact sv hz
theorem As{s:List O}:az (k+1) 327 [d5 e] s=some (.ret (dN e),s):=by
 refine aa ?_ (Lm (by refine(?_:(noObj _&&true)=true);refine aa ?_ (vn ..);rfl));have h:au (Ho (az k)) ⟨[[some (d5 e)]],[]⟩=some _:=
  dE (fv (gQ (bv (cJ rfl rfl) (bv (cJ rfl rfl) (bv (cJ rfl (p5 _)) (bv (cJ rfl (p5 _)) ci)))) (bC rfl)))
 refine aa ?_ h;exact sv (kK (vp e))
noncomputable def aG(n:Nat):List Int:=(iE n).map fun(i:Nat)=>(i:Int)
noncomputable def F6(p:Int->Bool):V->Bool
 |.int i=>p i
 |_=>false
noncomputable def DO(f:Int->V):V->V
 |.int i=>f i
 |v=>v
theorem mT:m∈aG n↔0<=m/\m<n:=by
 delta aG;rw[Jo];constructor
 ·rintro⟨i,D,rfl⟩;exact⟨lj _,Int.ofNat_lt.mpr (List.mem_range.mp D)⟩
 ·rintro⟨h,H⟩;exact⟨m.toNat,List.mem_range.mpr ((rm h).mpr H),pa h⟩
theorem d6:(aG n).length=n:=by delta aG;simp
theorem Gz{j:Type}{n:Nat}{m:Int}{f:Int->j}(h:0<=m/\m<n):((aG n).map f)[m.toNat]?=some (f m):=by delta aG;rw[gB,gY,List.getElem?_range ((rm h.1).mpr h.2)];exact congrArg (fun x=>some (f x)) (pa h.1)
theorem f6{st:List O}(h:m∈aG n):fR st (.lst ((aG n).map f)) (.int m)=some (f m):=by have h:=mT.mp h;have:=jn (st:=st) (Gz (f:=f) h);exact(pa h.1▸this)
theorem v1{n:Nat}:kU 0 n=il (aG n):=by delta kU aG;simp
theorem N0:∀l:List Int,((il l).filter (F6 p)).map (DO f)=(l.filter p).map f:=by
 intro a;induction a with
 |nil=>rfl
 |cons i r I=>
  have:=I;refine aa (aa (aa ?_ (show F6 p _=p i from rfl)) i5) i5;cases p i
  ·trivial
  ·exact congrArg _ this
theorem Ql:∀l:List Int,(il l).map (DO f)=l.map f:=by
 intro p;induction p with
 |nil=>rfl
 |cons i r I=>exact congrArg _ (I)
theorem cY{s:List O}(h:fr0[i]?=some (some v)):ac 1 i ⟨fr::fr0::fs,s⟩=some (v,⟨fr::fr0::fs,s⟩):=by refine(?_:(fr0[i]?).bind _=_);refine aa ?_ h;rfl
theorem qJ{s:List O}(h:fr0[i]?=some (some v)):ac 2 i ⟨fr::a::fr0::fs,s⟩=some (v,⟨fr::a::fr0::fs,s⟩):=by refine(?_:(fr0[i]?).bind _=_);refine aa ?_ h;rfl
theorem kT(h:first a=some (((il l).length,.vals (il l)),a))
  (r:∀i∈l,∀fr:List (Option V),fr.length=q->t ⟨fr.set 1 (some (.int i))::a.fs,a.st⟩=some (p i,⟨fr.set 1 (some (.int i))::a.fs,a.st⟩))
  (z:∀i∈l,p i=true->∀fr:List (Option V),fr.length=q->elt ⟨fr.set 1 (some (.int i))::a.fs,a.st⟩=some (f i,⟨fr.set 1 (some (.int i))::a.fs,a.st⟩)) (c:l.length<=sizeMax):
  bN false q elt first ⟨.name 1,[t]⟩ [] a=some (.lst ((l.filter p).map f),a):=by
 refine aU ?_ (N0 ..);refine vU h (fun v s fr o=>?_) (fun v s e fr o=>?_) (by refine aa ?_ (bl ..);trivial)
 ·exact fw v (List.mem_map.mp s) fun i D=>r i D fr o
 ·refine aH (List.mem_map.mp s) fun i D C=>?_;clear s;subst C;exact z i D e fr o
theorem sW(h:first a=some (((il l).length,.vals (il l)),a))
  (z:∀i∈l,∀fr:List (Option V),fr.length=q->elt ⟨fr.set 1 (some (.int i))::a.fs,a.st⟩=some (f i,⟨fr.set 1 (some (.int i))::a.fs,a.st⟩)) (c:l.length<=sizeMax):
  bN false q elt first ⟨.name 1,[]⟩ [] a=some (.lst (l.map f),a):=by
 refine aU ?_ (Ql ..);refine zN h (fun v s fr o=>?_) (by refine aa ?_ (bl ..);trivial);exact fw v (List.mem_map.mp s) fun i D=>z i D fr o
theorem F7(x:Int):∀l:List Int,(j6 x l).Perm (x::l):=by
 intro p;induction p with
 |nil=>rfl
 |cons y r I=>
  refine(?_:(if x<y then x::y::r else y::j6 x r).Perm _);split
  ·rfl
  ·exact((I).cons y).trans (.swap x y r)
theorem F8:∀l:List Int,(iw l).Perm l:=by
 intro p;induction p with
 |nil=>rfl
 |cons x r I=>exact(F7 x _).trans ((I).cons x)
theorem SP(x:Int):∀{l:List Int},l.Pairwise (·<=·)->(j6 x l).Pairwise (·<=·):=by
 intro p;induction p with
 |nil=>intro _;exact List.pairwise_singleton _ _
 |cons y r I=>
  intro h;obtain⟨a,H⟩:=List.pairwise_cons.mp h;dsimp only[j6];split
  ·refine List.pairwise_cons.mpr ⟨fun z hz=>?_,h⟩;rcases List.mem_cons.mp hz with rfl|hz
   ·exact iA ‹_›
   ·exact nB (iA ‹_›) (a z hz)
  ·refine List.pairwise_cons.mpr ⟨fun z hz=>?_,I H⟩;rcases List.mem_cons.mp ((F7 x r).mem_iff.mp hz) with rfl|hz
   ·exact Int.not_lt.mp ‹_›
   ·exact a z hz
theorem SQ:∀l:List Int,(iw l).Pairwise (·<=·):=by
 intro p;induction p with
 |nil=>exact .nil
 |cons x r I=>exact SP x (I)
theorem G6(c:l.Nodup)(p:t.Nodup)(m:∀x,x∈l↔x∈t)(d:t.Pairwise (·<=·)):iw l=t:=
 List.Perm.eq_of_pairwise (fun a b Y Y=>IT) (SQ l) d ((F8 l).trans ((List.perm_ext_iff_of_nodup c p).mpr m))
theorem zR:(aG n).Pairwise (·<·):=List.pairwise_map.mpr (List.pairwise_lt_range.imp Int.ofNat_lt.mpr)
theorem v7:(aG n).Nodup:=zR.imp Int.ne_of_lt
theorem ML:∀(j:Nat)(l:List V),(gM j l).length=l.length:=by
 intro j b;induction b generalizing j with
 |nil=>rfl
 |cons a r I=>exact congrArg (·+1) (I _)
def yb(v:V)(l:List Int)(j:Nat):Prop:=∀C:Prop,(∀i x,v=.tup [.int ((j+i:Nat):Int),.int x]->l[i]?=some x->C)->C
theorem yb.mk{v:V}{l:List Int}{j:Nat}:∀i x,v=.tup [.int ((j+i:Nat):Int),.int x]->l[i]?=some x->yb v l j:=fun d z m x3 C k=>k d z m x3
theorem Da:∀{l:List Int}{j:Nat},v∈gM j (il l)->yb v l j
 |a::r,j,h=>by
  rcases List.mem_cons.mp (show v∈V.tup [.int j,.int a]::gM (j+1) (il r) from h) with rfl|h
  ·exact .mk 0 a rfl rfl
  ·refine(Da h) _ fun i x e b=>?_;exact .mk (i+1) x (by refine aa ?_ e;congr 4;exact i6 (dU (mB ..)) (jp [_,_] (.l (.a af bI) (.a aF aj)) tU)) b
theorem pW{j:Type}:∀l:List j,l.flatMap (fun Y=>([]:List V))=[]:=by
 intro p;induction p with
 |nil=>rfl
 |cons _ r I=>trivial
theorem yz{s:List O}(h:kj x vs=some r):fp .In s x (.lst vs)=some r:=kb h
theorem zp{s:List O}(h:kj x vs=some r):fp .NotIn s x (.lst vs)=some !r:=congrArg (t7 (!·)) (yz h)
theorem sC{s:List O}(i:Int)(l:List Int):fp .In s (.int i) (iL l)=some (l.contains i):=yz (HV i l)
theorem E7{s:List O}(i:Int)(l:List Int):fp .NotIn s (.int i) (iL l)=some (!l.contains i):=zp (HV i l)
section
variable {k n:Nat}{st:List O}{x y v:V}{fr fr0:List (Option V)}{fs:List (List (Option V))}{a b c d:M V}{order:List Int}{m:Int}{g:Int->En}{bf:Int->List Int}
theorem C5{a b:Nat}(B:e ⟨fr0::fs,st⟩=some (iL order,⟨fr0::fs,st⟩))(l:fr0[a]?=some (some (.lst ((aG n).map fun m=>iL (bf m)))))(hb:fr0[b]?=some (some (iL order)))
  (j:∀x∈order,x∈aG n) (r:iG bf order):
  bN false 6 (ac 0 3) (jm e) ⟨.names [1,2],[]⟩ [(⟨.name 3,[aO .NotIn (ac 0 3) (dg (ac 1 b) (cC .none) (ac 0 1) (cC .none))]⟩,iV (aX (ac 1 a) (ac 0 2)))] ⟨fr0::fs,st⟩=some (.lst [],⟨fr0::fs,st⟩):=by
 have t:∀v∈gM 0 (il order),∀(fr:List (Option V))(acc:List V),fr.length=6->acc.length<=sizeMax->∃fr':List _,fr'.length=6 /\
   iJ im (ac 0 3) [(⟨.name 3,[aO .NotIn (ac 0 3) (dg (ac 1 b) (cC .none) (ac 0 1) (cC .none))]⟩,iV (aX (ac 1 a) (ac 0 2)))] acc ⟨(match v with|.tup [x,y]=>(fr.set 1 (some x)).set 2 (some y)|_=>fr)::fr0::fs,st⟩=some (acc++[],⟨fr'::fr0::fs,st⟩):=by
  intro v s fr acc o u;refine(Da s) _ fun i x g d=>?_;obtain rfl:=g;refine aa ?_ (rB ..);obtain⟨fr',q,c⟩:=vV (I:=fun f=>f.length=6/\f[1]?=some _/\f[2]?=some _) (G:=fun Y=>[]) (fr:=(fr.set 1 (some _)).set 2 (some _))
   (B:=fun acc=>fm [aO .NotIn _ (dg _ (cC .none) _ (cC .none))] _ (pure acc)) (eH.one 3 (il (bf x)))
   ⟨by simp[o],by rw[dO (by decide),de (by exact aJ [_] (.q af db) (.l (.a aI aI) af) tU o)],by rw[de (by simp;exact aJ [_] (.q af db) (.l (.a aQ aI) af) tU o)]⟩ (fun v s f acc o Y=>by refine fw v (List.mem_map.mp s) fun p k=>⟨f.set 3 (some (.int p)),⟨by refine aa ?_ df;exact o.1,by rw[dO (by decide)];exact o.2.1,by rw[dO (by decide)];exact o.2.2⟩,?_⟩;rw[qF (bh (ba (by rw[de (by exact aJ [_] (.q af db) (.l (.a lc aI) af) tU o.1)])) (gv (cY hb) rfl (ba (by rw[dO (by decide)];exact o.2.1):ac 0 1 ⟨f.set 3 _::fr0::fs,st⟩=some _) rfl ((qO i).trans (aU rfl wU))) ((E7 p _).trans (by refine aa ?_ (by simpa using r i x d p k:(order.take i).contains p=true);rfl))),dT];rfl) (by refine aa ?_ (pW ..);trivial)
  refine⟨fr',q.1,?_⟩;rw[pW] at c;exact ao (cb (bH (cY l) (ba (by rw[de (by simp;exact aJ [_] (.q af db) (.l (.a aQ aI) af) tU o)])) (f6 (j x (et d)))) rfl) c
 have:=oC (a:=⟨fr0::fs,st⟩) (ifs:=[])
  (by refine aa ?_ (ML ..);exact zO B) (eH.enum (by decide) 0 _) (fun v s fr acc o h=>t v s fr acc o h) (by refine aa ?_ (pW ..);exact dB _)
 exact((pW ..)▸this)
end
def Hs(k:K):List (M Fl):=[bW (aO .NotEq (c1 B1.sorted (ac 0 3)) (kD (j5 (c1 B1.len (ac 0 0))))) (au [cA (cC V.none)]) (au []),
  aS (aX (ac 0 0) (aX (ac 0 3) (cC (V.int 0)))) (Tgt.name 4),
  fx (Tgt.name 5) (iV (dg (ac 0 3) (cC (V.int 1)) (cC V.none) (cC V.none))) (au [aS (ct k 70 [(false,ac 0 4),(false,aX (ac 0 0) (ac 0 5))]) (Tgt.name 4)])]
def Ar(i:Int):M V:=cT .Add (bY false [cC V.none])
    (bN false 3 (aX (aX (ac 1 1) (ac 0 1)) (cC (V.int i))) (iV (ac 0 3)) { tgt:=Tgt.name 1,ifs:=[aO .IsNot (aX (aX (ac 1 1) (ac 0 1)) (cC (V.int i))) (cC V.none)] } [])
def lQ(j:Nat):M V:=aX (ac 0 j) (gm (cC (V.int 1)))
def BE:M V:=bN false 4 (ac 0 1) (iV (aX (aX (ac 0 1) (aX (ac 0 3) (cC (V.int 0)))) (cC (V.int 0))))
    { tgt:=Tgt.name 1,ifs:=[aO .Eq (bN false 4 (ac 0 1) (iV (ac 1 3)) { tgt:=Tgt.name 1,ifs:=[aO .NotIn (ac 1 1) (aX (aX (ac 2 1) (ac 0 1)) (cC (V.int 0)))] } []) (bY false [])] } []
def Ht(k:K):List (M Fl):=[aS
   (bN false 6 (ac 0 3) (jm (ac 0 3)) { tgt:=Tgt.names [1,2],ifs:=[] }
    [({ tgt:=Tgt.name 3,ifs:=[aO .NotIn (ac 0 3) (dg (ac 1 3) (cC V.none) (ac 0 1) (cC V.none))] },iV (aX (ac 1 2) (ac 0 2)))]) (Tgt.name 6),
  aS BE (Tgt.name 7),aS (Ar 2) (Tgt.name 8),aS (Ar 3) (Tgt.name 9),
  aS (ct k 70 [(false,aX (ac 0 0) (aX (ac 0 3) (cC (V.int 0)))),(false,ac 0 4)]) (Tgt.name 10),
  bW (gy [aO .NotEq (ac 0 6) (bY false []),aO .NotEq (ct k 327 [(false,ac 0 4)]) (dZ [ac 0 7,ac 0 3,lQ 8,lQ 9])]) (au [cA (cC V.none)]) (au []),
  cA (jc (aO .Eq (ct k 327 [(false,ac 0 10)]) (dZ [ac 0 7,cT .Add (dg (ac 0 3) (cC V.none) (cC (V.int 1)) (cC V.none)) (ac 0 3),lQ 8,lQ 9]))
    (dZ [lQ 8,lQ 9]) (cC V.none))]
noncomputable def fU(f:Int->Option Int)(order:List Int):Option Int:=order.foldl (fun w m=>(f m).or w) none
noncomputable def rK(g:Int->En)(order:List Int)(s:Str):Bool:=order.all fun m=>(g m).ag.contains s
theorem Lq{s:List O}(h:noObjs [x,y,z,w]=true):az (k+1) 356 [x,y,z,w] s=fj s (au (Hs (az k)++Ht (az k)) ⟨[[some x,some y,some z,some w,none,none,none,none,none,none,none,none,none,none,none,none,none,none]],[]⟩):=aa (aa rfl (pC h)) (by kernel_rfl!:az _ 356 [x,y,z,w] s=(bif noObjs [x,y,z,w]&&true then fj s _ else none))
theorem N9{g:Int->En}:∀(l:List Int)(w:En),(∀m∈l,(g m).ls=[m])->(l.foldl (fun w m=>mg w (g m)) w).ls=w.ls++l:=by
 intro p;induction p with
 |nil=>intro w _;exact(dT _).symm
 |cons m r I=>intro w h;refine aa (aa ?_ (I _ fun x b=>h x (bD _ b))) lm;refine(?_:w.ls++(g m).ls++r=_);refine aa (aa ?_ (iB ..)) (h m bK);rfl
theorem N8:∀(l:List Int)(w:En),(l.foldl (fun w m=>mg w (g m)) w).ag=w.ag.filter (rK g l):=by
 intro p;induction p with
 |nil=>intro w;exact(List.filter_eq_self.mpr fun Y Y=>rfl).symm
 |cons m r I=>intro w;refine aa (aa ?_ (I ..)) lm;refine aa ?_ List.filter_filter;congr 1;funext s;exact Bool.and_comm _ _
theorem DG{g:Int->En}{f:En->Option Int}(o:∀a b,f (mg a b)=(f b).or (f a)):∀(l:List Int)(w:En),f (l.foldl (fun w m=>mg w (g m)) w)=l.foldl (fun w m=>(f (g m)).or w) (f w):=by
 intro p;induction p with
 |nil=>intro w;rfl
 |cons m r I=>intro w;simp only[lm,I,o]
theorem PW{f:Int->Option Int}:∀(l:List Int)(w:Option Int),(oi w::((l.filter fun m=>(f m).isSome).map fun m=>oi (f m))).getLast?=some (oi (l.foldl (fun w m=>(f m).or w) w)):=by
 intro p;induction p with
 |nil=>intro w;rfl
 |cons m r I=>
  intro w;refine aa (aa ?_ lm) i5;cases e:f m with
  |none=>exact I w
  |some i=>refine(?_:(oi w::oi (f m)::_).getLast?=_);refine aa ?_ e;exact I _
theorem Er{f:Int->Option Int}:∀(l:List Int)(w:Option Int),l.foldl (fun w m=>(f m).or w) w=none->w=none/\∀m∈l,f m=none:=by
 intro p;induction p with
 |nil=>intro w h;exact⟨h,fun Y h=>(cq h).elim⟩
 |cons m r I=>
  intro w h;obtain⟨a,H⟩:=I _ h;cases e:f m with
  |some i=>have a:(f m).or w=none:=a;obtain a:=e▸a;trivial
  |none=>have a:(f m).or w=none:=a;obtain a:=e▸a;exact⟨a,fun x b=>(List.mem_cons.mp b).elim (fun q=>q▸e) (H x)⟩
theorem vA:∀{n:Nat}{s:Str},fL s=true->dD n (.str s)=true:=by
 intro p;induction p with
 |zero=>intro _ h;exact h
 |succ _ I=>intro _ h;exact Bool.or_eq_true_iff.mpr (.inl h)
theorem HW(a:fL s=true)(c:∀t∈l,fL t=true):kj (.str s) (sl l)=some (l.contains s):=by delta kj;refine aa ?_ (vA a);refine aa ?_ (List.all_eq_true.mpr fun v b=>by exact fw v (List.mem_map.mp b) fun t p=>vA (c t p));refine(?_:some _=_);refine aa (aa ?_ A3) wL;congr 2;funext t;exact AL
theorem Ec{s:List O}(d:Option Int):fp .IsNot s (oi d) .none=some d.isSome:=by cases d<;>rfl
theorem qz(d:Option Int):dD (n+1) (oi d)=true:=by cases d<;>rfl
theorem vD(c:∀t∈l,fL t=true):dD (n+1) (.lst (sl l))=true:=List.all_eq_true.mpr fun v s=>by exact fw v (List.mem_map.mp s) fun t p=>vA (c t p)
theorem Fp(c:∀t∈e.ag,fL t=true):dD 6 (dN e)=true:=pD (vD c) (j9 _) (qz _) (qz _)
abbrev gT(n:Nat)(g:Int->En):V:=.lst ((aG n).map fun m=>d5 (g m))
abbrev fu(n:Nat)(g:Int->En):V:=.lst ((aG n).map fun m=>dN (g m))
abbrev cK(n:Nat)(ah:Int->List Int):V:=.lst ((aG n).map fun m=>iL (ah m))
noncomputable abbrev kP:List (Option V):=[none,none,none,none,none,none,none,none,none,none,none,none]
section
variable {α:Type}{a:M V}
theorem vq(h:∀a,noObj (f a)=true):∀l:List α,noObjs (l.map f)=true:=by
 intro p;induction p with
 |nil=>rfl
 |cons a r I=>refine(?_:(noObj (f a)&&noObjs _)=true);refine aa (aa ?_ (I)) (h a);rfl
end
theorem VQ{st:List O}{p1 p2 p3:Option V}:∀(l:List Int)(e:En)(A:Option V),(∀m∈l,m∈aG n)->(∀m∈l,(g m).ls=[m])->e.ls.length+l.length<=1000->
  ∃q,dM (.name 5) (au [aS (ct (az (k+2)) 70 [(false,ac 0 4),(false,aX (ac 0 0) (ac 0 5))]) (Tgt.name 4)]) (il l).length (.vals (il l)) ⟨[some (gT n g)::p1::p2::p3::some (d5 e)::A::kP],st⟩ =
   some (.next,⟨[some (gT n g)::p1::p2::p3::some (d5 (l.foldl (fun w m=>mg w (g m)) e))::q::kP],st⟩):=by
 intro p;induction p with
 |nil=>intro e A _ _ _;exact⟨A,rfl⟩
 |cons m r I=>intro e A h c hb;obtain a:=c m bK;obtain⟨q,d⟩:=I (mg e (g m)) _ (fun x b=>h x (bD _ b)) (fun x b=>c x (bD _ b)) (by refine(?_:(e.ls++(g m).ls).length+_<=_);refine aa (aa ?_ cP) a;exact bb (dU (mB ..)) hb);refine⟨q,ao rfl (ao rfl (ao (r:=Fl.next) ?_ d))⟩;exact aw (a9 (dA (bx (bu rfl (bu (bH rfl rfl (f6 (h m bK))) bz)) rfl) (EN (by refine aa ?_ a;exact aJ [_,_] (.l (.a af bI) d8) (.l aF dG) tU hb)))) bo
theorem HB{s:List O}{f:Int->Option Int}(o:∀m s,fR s (dN (g m)) (.int i)=some (oi (f m)))(h:fr0[1]?=some (some (fu n g)))(C:fr0[3]?=some (some (iL order)))(p:∀m∈order,m∈aG n)(c:order.length<=1000):
  Ar i ⟨fr0::fs,s⟩=some (.lst (oi none::((order.filter fun m=>(f m).isSome).map fun m=>oi (f m))),⟨fr0::fs,s⟩):=by
 have:=ky (fun m=>(f m).isSome) order;have b:∀m∈order,∀fr:List _,fr.length=3->aX _ (cC _) ⟨fr.set 1 _::fr0::fs,s⟩=some _:=fun m a fr H=>bH (bH (cY h) (cz H (by decide)) (f6 (p m a))) rfl (o m s)
 refine eN (eO (bv rfl ci) (bC rfl)) (kT (cb (ba C) rfl) (fun m a fr H=>bh (b m a fr H) rfl (Ec _)) (fun m a Y=>b m a) (z1 rfl c)) ?_;exact jW (by simp;exact aP [_,_] (.l af aj) (.l aj d8) (.l (.a aI af) dG) tU this c)
noncomputable def Ac(p:Str->Bool):V->Bool
 |.str s=>p s
 |_=>false
theorem Du:∀l:List Str,((sl l).filter (Ac p)).map id=sl (l.filter p):=by
 intro a;induction a with
 |nil=>rfl
 |cons s r I=>
  have:=I;refine aa (aa (aa ?_ (show Ac p _=p s from rfl)) i5) i5;cases p s
  ·trivial
  ·exact congrArg _ this
theorem Kb{st:List O}(b:fr0[1]?=some (some (fu n g)))(C:fr0[3]?=some (some (iL (o0::ot))))(p:∀m∈o0::ot,m∈aG n)(c:∀m∈o0::ot,∀t∈(g m).ag,fL t=true)(e:ot.length<=900)(l:(g o0).ag.length<=1000):
  BE ⟨fr0::fs,st⟩=some (.lst (sl ((g o0).ag.filter (rK g (o0::ot)))),⟨fr0::fs,st⟩):=by
 refine aU ?_ (Du ..);refine vU (cb (bH (bH (ba b) (bH (ba C) rfl (jn rfl)) (f6 (p o0 bK))) rfl rfl) rfl) (fun v d fr o=>?_) (fun v d Y fr o=>cz o (by decide)) (by refine aa ?_ (bl ..);exact z1 rfl l);refine fw v (List.mem_map.mp d) fun s H=>?_;obtain I:=kT (q:=4) (t:=aO .NotIn (ac 1 1) (aX _ (cC (V.int 0)))) (cb (cY C) rfl)
  (fun m a F f=>bh (cY (by rw[de (by exact aJ [_] (.q af fe) (.l (.a aI aI) af) tU o)])) (bH (bH (qJ b) (cz f (by decide)) (f6 (p m a))) rfl rfl) (zp (HW (c o0 bK s H) (c m a))))
  (fun m a Y F f=>cz f (by decide)) (by exact z1 rfl (kA e))
 refine bh I (eO ci (dB _)) ((tz (j9 _)).trans ?_);refine aa ?_ wS;congr 1;refine(?_:((o0::ot).filter fun m=>!(g m).ag.contains s).isEmpty=(o0::ot).all fun m=>(g m).ag.contains s);rw[AM,A6,I6,A1];exact⟨fun h m a=>by simpa using h m a,fun h m a=>by simpa using h m a⟩
theorem Eo{s:List O}(h:fr0[j]?=some (some (.lst (oi none::((order.filter fun m=>(f m).isSome).map fun m=>oi (f m)))))):lQ j ⟨fr0::fs,s⟩=some (oi (fU f order),⟨fr0::fs,s⟩):=
 bH (ba h) (oH rfl) (yB (PW order none))
theorem vQ{B:List (M Fl)}:∀{A:List (M Fl)}{a i:S}{q:Option (Fl×S)},au A a=some (.next,i)->au B i=q->au (A++B) a=q:=by
 intro b;induction b with
 |nil=>intro a i q h e;cases h;exact e
 |cons s r I=>
  intro a i q h e;have d:M.bind s (fun f=>match f with|.next=>au r|f=>pure f) a=some _:=h;delta M.bind at d;cases t:s a with
  |none=>obtain d:=t▸d;exact am d
  |some p=>
   obtain⟨f,F⟩:=p;obtain d:=t▸d;cases f with
   |next=>exact aw t (I d e)
   |_=>cases d
theorem sM{s:List O}(h:dD 6 v=true):fp .NotEq s v v=some false:=by refine(?_:(md v v).map (!·)=_);refine aa ?_ (AI h);rfl
theorem si{s:List O}(h:dD 6 v=true):fp .Eq s v v=some true:=AI h
def ce(g:Int->En)(o0:Int)(ot:List Int):En:=ot.foldl (fun w m=>mg w (g m)) (g o0)
theorem vo(l:List Int):noObj (iL l)=true:=qr l
structure WF(g:Int->En)(o0:Int)(ot:List Int):Prop where
 ls:(ce g o0 ot).ls=o0::ot
 ag:(ce g o0 ot).ag=(g o0).ag.filter (rK g (o0::ot))
 d:(ce g o0 ot).d=fU (fun m=>(g m).d) (o0::ot)
 r:(ce g o0 ot).r=fU (fun m=>(g m).r) (o0::ot)
 tw:mg (g o0) (ce g o0 ot)=⟨(ce g o0 ot).ag,[o0]++(o0::ot),(ce g o0 ot).d,(ce g o0 ot).r⟩
theorem VP(z:∀m∈o0::ot,(g m).ls=[m]):WF g o0 ot:=by
 obtain a:=z o0 bK;have ls:(ce g o0 ot).ls=o0::ot:=by refine aa (aa ?_ a) (N9 ot (g o0) fun m h=>z m (bD _ h));rfl
 have d:(ce g o0 ot).d=fU (fun m=>(g m).d) (o0::ot):=by refine aa ?_ (DG (f:=En.d) (fun Y Y=>rfl) ..);rewrite[fU];exact aa (aa rfl JJ) lm
 have r:(ce g o0 ot).r=fU (fun m=>(g m).r) (o0::ot):=by refine aa ?_ (DG (f:=En.r) (fun Y Y=>rfl) ..);rewrite[fU];exact aa (aa rfl JJ) lm
 have ag:(ce g o0 ot).ag=(g o0).ag.filter (rK g (o0::ot)):=by refine aa ?_ (N8 ..);refine I5 fun s t=>(?_:_=((g o0).ag.contains s&&rK g ot s));refine aa ?_ (show(g o0).ag.contains s=true by simpa using t);rfl
 have T:(g o0).ag.filter (ce g o0 ot).ag.contains=(ce g o0 ot).ag:=by refine aa ?_ ag;refine I5 fun s t=>?_;simp[t]
 have b:(ce g o0 ot).d.or (g o0).d=(ce g o0 ot).d:=by
  cases e:(ce g o0 ot).d with
  |some i=>rfl
  |none=>exact(Er _ _ (d▸e)).2 o0 bK
 have tr:(ce g o0 ot).r.or (g o0).r=(ce g o0 ot).r:=by
  cases e:(ce g o0 ot).r with
  |some i=>rfl
  |none=>exact(Er _ _ (r▸e)).2 o0 bK
 refine⟨ls,ag,d,r,?_⟩;delta mg;exact aa (aa (aa (aa (aa rfl a) ls) tr) b) T
theorem Et{st:List O}(v:n<=50)(z:∀m∈aG n,(g m).ls=[m]/\(∀t∈(g m).ag,fL t=true)/\(g m).ag.length<=1000)(hd:order.Nodup)(c:∀x,x∈order↔x∈aG n)(F:0<n)(w:iG ah order):
  az (k+3) 356 [gT n g,fu n g,cK n ah,iL order] st=some (.ret (.tup [oi (fU (fun m=>(g m).d) order),oi (fU (fun m=>(g m).r) order)]),st):=by
 have d:noObjs [gT n g,fu n g,cK n ah,iL order]=true:=
  pD (vq (fun Y=>vn _) _) (vq (fun Y=>vp _) _) (vq (fun Y=>vo _) _) (qr _)
 refine aa ?_ (Lq d);have j:=G6 hd v7 c (zR.imp iA);have B:order.length=n:=by have:=(F8 order).length_eq;obtain this:=j▸this;obtain this:=d6▸this;exact i6 (dU this.symm) (dU this)
 clear hd d;cases order with
 |nil=>simp at B;exact absurd B.symm (gi F)
 |cons o0 ot=>
  have p:∀m∈o0::ot,m∈aG n:=fun m=>(c m).mp;obtain B:=iD▸B;have a:=p o0 bK;have W:=VP (g:=g) (o0:=o0) (ot:=ot) fun m h=>(z m (p m h)).1;refine oE (VQ (k:=k) (g:=g) (st:=[]) (p1:=some (fu n g)) (p2:=some (cK n ah)) (p3:=some (iL (o0::ot))) ot (g o0) none (fun m h=>p m (bD _ h)) (fun m h=>(z m (p m (bD _ h))).1) (by refine aa ?_ ((z o0 a).1);exact aP [_,_] (.e aF aj) (.l aj (.n 50)) (.l (.a aI af) d8) tU B v)) fun q H=>?_;have o:∀t∈(ce g o0 ot).ag,fL t=true:=fun t h=>by obtain h:=W.ag▸h;exact(z o0 a).2.1 t (List.mem_filter.mp h).1
  have s1:aO .NotEq (c1 B1.sorted (ac 0 3)) (kD (j5 (c1 B1.len (ac 0 0)))) ⟨[some (gT n g)::some (fu n g)::some (cK n ah)::some (iL (o0::ot))::none::none::kP],[]⟩=some (false,⟨[some (gT n g)::some (fu n g)::some (cK n ah)::some (iL (o0::ot))::none::none::kP],[]⟩):=by
   refine bh (x:=iL (aG n)) (y:=iL (aG n)) (ei rfl ?_) (vX (vW (n:=(n:Int)) (ei rfl (by refine(?_:some (V.int _)=_);exact aa (aa rfl d6) (bl ..))) ⟨rl (by decide) (lj _),Int.ofNat_lt.mpr (dW v (by decide))⟩) ?_) (congrArg (t7 (!·)) (AI (j9 _)))
   ·refine(?_:(if lO (il (o0::ot))&&decide ((il (o0::ot)).length<60) then some (V.lst ((iw (jo (il (o0::ot)))).map .int)) else none)=_);rw[yH,uS,j,bl,iD,decide_eq_true (by exact aP [_,_] (.e aF aj) (.l aj (.n 50)) (.l (.a aF aI) (.n 60)) tU B v)];rfl
   ·refine aa ?_ v1;exact if_pos (by refine aa (aa ?_ d6) (bl ..);exact z1 rfl v)
  have A:au (Hs (az (k+2))) ⟨[some (gT n g)::some (fu n g)::some (cK n ah)::some (iL (o0::ot))::none::none::kP],[]⟩=some (.next,⟨[some (gT n g)::some (fu n g)::some (cK n ah)::some (iL (o0::ot))::some (d5 (ce g o0 ot))::q::kP],[]⟩):=by refine aw (bP (r:=false) s1 bo) ?_;refine aw (a9 (fr:=some (gT n g)::some (fu n g)::some (cK n ah)::some (iL (o0::ot))::none::none::kP) (bH rfl (bH rfl rfl (jn (i:=0) rfl)) (f6 a))) ?_;exact aw (iq (cb (gv rfl rfl rfl rfl (wi 1)) rfl) H) bo
  have D:(fun m=>(g m).d)=fun m=>(g m).d:=rfl;have R:au (Ht (az (k+2))) ⟨[some (gT n g)::some (fu n g)::some (cK n ah)::some (iL (o0::ot))::some (d5 (ce g o0 ot))::q::kP],[]⟩=some (.ret (.tup [oi (fU (fun m=>(g m).d) (o0::ot)),oi (fU (fun m=>(g m).r) (o0::ot))]),⟨[some (gT n g)::some (fu n g)::some (cK n ah)::some (iL (o0::ot))::some (d5 (ce g o0 ot))::q ::
    some (.lst [])::some (.lst (sl (ce g o0 ot).ag))::some (.lst (oi none::(((o0::ot).filter fun m=>((g m).d).isSome).map fun m=>oi (g m).d)))::some (.lst (oi none::(((o0::ot).filter fun m=>((g m).r).isSome).map fun m=>oi (g m).r)))::some (d5 (mg (g o0) (ce g o0 ot)))::[none,none,none,none,none,none,none]],[]⟩):=by
   have l:=Kb (g:=g) (n:=n) (fs:=[]) (st:=[]) (fr0:=(some (gT n g)::some (fu n g)::some (cK n ah)::some (iL (o0::ot))::some (d5 (ce g o0 ot))::q::kP).set 6 (some (.lst []))) (o0:=o0) (ot:=ot) rfl rfl p (fun m h=>(z m (p m h)).2.1) (by exact aP [_,_] (.e aF aj) (.l aj (.n 50)) (.l af (.n 900)) tU B v) (z o0 a).2.2;refine aw (a9 (fr:=some (gT n g)::some (fu n g)::some (cK n ah)::some (iL (o0::ot))::some (d5 (ce g o0 ot))::q::kP) (C5 (n:=n) (bf:=ah) (order:=o0::ot) rfl rfl rfl p w)) ?_;obtain l:=W.ag.symm▸l;refine aw (a9 l) ?_;refine aw (a9 (HB (f:=fun m=>(g m).d) (fun Y Y=>rfl) rfl rfl p (by simp;exact aP [_,_] (.e aF aj) (.l aj (.n 50)) (.l af (.n 999)) tU B v))) ?_;refine aw (a9 (HB (f:=fun m=>(g m).r) (fun Y Y=>rfl) rfl rfl p (by simp;exact aP [_,_] (.e aF aj) (.l aj (.n 50)) (.l af (.n 999)) tU B v))) ?_;refine aw (a9 (dA (bx (bu (bH rfl (bH rfl rfl (jn (i:=0) rfl)) (f6 a)) (bu rfl bz)) rfl) (EN (by refine aa (aa ?_ W.ls) ((z o0 a).1);simp;unfold sizeMax;exact aP [_,_] (.e aF aj) (.l aj (.n 50)) (.l (.a aI aF) dG) tU B v)))) ?_;have ld:∀fr0:List (Option V),fr0[8]?=some (some (.lst (oi none::(((o0::ot).filter fun m=>((g m).d).isSome).map fun m=>oi (g m).d))))->lQ 8 ⟨[fr0],[]⟩=some (oi (ce g o0 ot).d,⟨[fr0],[]⟩):=fun fr0 h=>by refine aa ?_ W.d;exact Eo (f:=fun m=>(g m).d) h
   have b:∀fr0:List (Option V),fr0[9]?=some (some (.lst (oi none::(((o0::ot).filter fun m=>((g m).r).isSome).map fun m=>oi (g m).r))))->lQ 9 ⟨[fr0],[]⟩=some (oi (ce g o0 ot).r,⟨[fr0],[]⟩):=fun fr0 h=>by refine aa ?_ W.r;exact Eo (f:=fun m=>(g m).r) h
   have tw:dN (ce g o0 ot)=.tup [.lst (sl (ce g o0 ot).ag),iL (o0::ot),oi (ce g o0 ot).d,oi (ce g o0 ot).r]:=by unfold dN;exact aa rfl W.ls
   have C:dN (mg (g o0) (ce g o0 ot))=.tup [.lst (sl (ce g o0 ot).ag),.lst (il [o0]++il (o0::ot)),oi (ce g o0 ot).d,oi (ce g o0 ot).r]:=by unfold dN;refine aa ?_ W.tw;rfl
   have s:=Fp o;have u:=Fp (e:=mg (g o0) (ce g o0 ot)) (by refine aa ?_ W.tw;exact o);refine aw (bP (r:=false) (iv (r:=false) (bh rfl (eO ci (dB _)) rfl) fun Y=>iv (r:=false) (r':=false) (bh (x:=dN (ce g o0 ot)) (y:=dN (ce g o0 ot)) (dA (bx (bu rfl bz) rfl) (As (k:=k+1))) ?_ (sM s)) fun Y=>rfl) bo) ?_
   ·refine aa ?_ tw;exact gQ (bv rfl (bv rfl (bv (ld _ rfl) (bv (b _ rfl) ci)))) (bC rfl)
   refine aU (aU ?_ W.r) W.d;refine dE (fv (qG (r:=true) (bh (x:=dN (mg (g o0) (ce g o0 ot))) (y:=dN (mg (g o0) (ce g o0 ot))) (dA (bx (bu rfl bz) rfl) (As (k:=k+1))) ?_ (si u)) (gQ (bv (ld _ rfl) (bv (b _ rfl) ci)) (bC rfl))));refine aa ?_ C;exact gQ (bv rfl (bv (eN (gv rfl rfl rfl rfl (qO 1)) rfl (jW (by simp;unfold sizeMax;exact aP [_,_] (.e aF aj) (.l aj (.n 50)) (.l (.a aI aF) dG) tU B v))) (bv (ld _ rfl) (bv (b _ rfl) ci)))) (bC rfl)
  refine aa ?_ (vQ A R);have hz:noObj (.tup [oi (fU (fun m=>(g m).d) (o0::ot)),oi (fU (fun m=>(g m).r) (o0::ot))])=true:=by refine(?_:(noObj (oi _)&&(noObj (oi _)&&true))=true);refine aa (aa ?_ (kQ ..)) (kQ ..);rfl
  exact sv (kK hz)
def Hq:List (M Fl):=[aS
   (bN false 4 (ac 0 1) (p7 (cC (V.int 1)) (c1 B1.len (ac 0 0)))
    { tgt:=Tgt.name 1,ifs:=[aO .In (aX (ac 1 0) (cT .Sub (ac 0 1) (cC (V.int 1)))) (aX (ac 1 1) (aX (ac 1 0) (ac 0 1)))] } []) (Tgt.name 2),
  cA (pK [kC .NotEq (ac 0 2) (bY false []),kC .Eq (c1 B1.len (ac 0 2)) (c1 B1.len (c1 B1.set (ac 0 0))),
     kC .Eq (c1 B1.len (ac 0 2)) (cT .Sub (c1 B1.len (ac 0 0)) (cC (V.int 1))),
     kC .Eq (aX (ac 0 0) (cC (V.int 0))) (aX (ac 0 0) (gm (cC (V.int 1))))])]
theorem Lo{s:List O}(h:noObjs [x,y]=true):az (k+1) 346 [x,y] s=fj s (au Hq ⟨[[some x,some y,none,none,none,none]],[]⟩):=aa (aa rfl (pC h)) (by kernel_rfl!:az _ 346 [x,y] s=(bif noObjs [x,y]&&true then fj s _ else none))
theorem xh{R:Int->Int->Prop}:∀{l:List Int}{i:Nat}{x y:Int},ny R l->l[i]?=some x->l[i+1]?=some y->R x y
 |a::b::r,0,x,y,h,c,H=>by cases c;cases H;exact h.1
 |a::b::r,i+1,x,y,h,c,H=>xh (l:=b::r) h.2 c H
 |[a],0,x,y,h,c,H=>by exact am H
 |[a],i+1,x,y,h,c,H=>by exact am c
 |[],_,_,_,_,c,_=>by exact am c
theorem Mn:∀(xs v acc:List Int),xs.Nodup->(∀x∈xs,x∉acc)->dq (xs++v) acc=dq v (acc++xs):=by
 intro p;induction p with
 |nil=>intro v acc _ _;refine aa ?_ (dT ..);rfl
 |cons x r I=>intro v acc h hd;obtain⟨a,H⟩:=List.nodup_cons.mp h;refine aa ?_ rt;rewrite[dq];refine aa ?_ (by simpa using hd x bK:acc.contains x=false);refine aa (aa ?_ (iB ..)) (I v (acc++[x]) H fun y A q=>(List.mem_append.mp q).elim (hd y (bD _ A)) fun q=>a (List.mem_singleton.mp q▸A));rfl
noncomputable def jw(n:Nat):List Int:=(iE n).map fun(i:Nat)=>1+(i:Int)
theorem Tg{l:Nat}:kU 1 ((l:Int)+1)=il (jw l):=by delta kU jw;simp only[gB,show((l:Int)+1-1).toNat=l from congrArg Int.toNat (rj ..)];rfl
theorem Tx{G:List O}(Q:lv su R)(L:∀x a,(su x).count a=(bf a).count x)(g:∀x y,x∈bf y->y∈aG n)(d:R.length<=900):az (k+1) 346 [iL R,cK n bf] G=some (.ret (.bool true),G):=by
 have s:noObjs [iL R,cK n bf]=true:=by refine(?_:(noObj _&&(noObjs _&&true))=true);refine aa ?_ (vo ..);rw[vq fun Y=>vo _];rfl
 refine aa ?_ (Lo s);refine gb Q.ex fun v l e hd=>?_;have B:R.length=l.length+2:=by refine aa ?_ e;simp
 have F:∀i∈jw (l.length+1),∃(j:Nat)(p q:Int),i=(j:Int)+1/\R[j]?=some p/\R[j+1]?=some q/\p∈bf q:=fun i D=>by
  refine fw i (List.mem_map.mp D) fun j A=>?_;have A:=List.mem_range.mp A;have h:=aP [_,_,_] (.l aF bI) (.q aA (.a aj aQ)) (.l aF aA) tU A B;have H:j+1<R.length:=by exact aP [_,_,_] (.l aF bI) (.q aA (.a aj aQ)) (.l (.a aF aI) aA) tU A B
  refine⟨j,R[j],R[j+1],tQ ..,iC h,iC H,?_⟩;have:=xh Q.adj (iC h) (iC H);rewrite[<- nE];refine aU ?_ (L ..);rw[nE];exact this
 have comp:=kT (a:=⟨[[some (iL R),some (cK n bf),none,none,none,none]],[]⟩) (q:=4) (l:=jw (l.length+1)) (p:=fun Y=>true) (f:=V.int) (elt:=ac 0 1) (first:=p7 (cC (V.int 1)) (c1 B1.len (ac 0 0)))
  (t:=aO .In (aX (ac 1 0) (cT .Sub (ac 0 1) (cC (V.int 1)))) (aX (ac 1 1) (aX (ac 1 0) (ac 0 1))))
  (by have:=SY (c:=⟨[[some (iL R),some (cK n bf),none,none,none,none]],[]⟩) (a:=cC (V.int 1)) (b:=c1 B1.len (ac 0 0)) (m:=1) (n:=((l.length+1:Nat):Int)+1) rfl (ei rfl (by refine(?_:some (V.int _)=_);refine aa (aa ?_ B) (bl ..);rfl)) ⟨by decide,by decide,rl (by decide) (lj (l.length+2)),Int.ofNat_lt.mpr (B▸dW d (by decide))⟩;rw[this,Tg,bl,show(((l.length+1:Nat):Int)+1-1).toNat=(jw (l.length+1)).length by unfold jw;simp])
  (fun i D fr o=>by
   refine TR i (F i D) fun j p q h H C=>?_;have I:ac 0 1 ⟨fr.set 1 (some (.int ((j:Int)+1)))::[[some (iL R),some (cK n bf),none,none,none,none]],[]⟩=some (.int ((j:Int)+1),⟨fr.set 1 (some (.int ((j:Int)+1)))::[[some (iL R),some (cK n bf),none,none,none,none]],[]⟩):=cz o (by decide);have T:fR [] (iL R) (.int ((j:Int)+1))=some (.int q):=jn (i:=j+1) (by rw[gY,H];rfl);have z:fR [] (iL R) (.int (j:Int))=some (.int p):=jn (i:=j) (by rw[gY,h];rfl);have u:mG .Sub [] (.int ((j:Int)+1)) (.int 1)=some (.int (j:Int)):=by refine(?_:some (V.int ((j:Int)+1-1))=_);rw[show(j:Int)+1-1=j from rj ..]
   exact bh (bH (cY rfl) (eN I rfl u) z) (bH (cY rfl) (bH (cY rfl) I T) (f6 (f:=fun m=>iL (bf m)) (g p q C))) ((sC p _).trans (by rw[show(bf q).contains p=true by simpa using C])))
  (fun i D Y fr o=>cz o (by decide)) (by unfold jw;simp;unfold sizeMax;exact aP [_,_] (.q af (.a aj aQ)) (.l af (.n 900)) (.l bI dG) tU B d)
 obtain comp:=(List.filter_eq_self.mpr fun Y Y=>rfl)▸comp;have w:eI .set [] (iL R)=some (.seti (v::l)):=by refine(?_:(if ic (il R) then _ else if lO (il R) then some (V.seti (dq (jo (il R)) [])) else none)=_);rw[Pf R (by refine aa ?_ e;simp),yH,uS,e,Mn _ _ _ hd fun Y Y=>cq];simp[dq]
 have c:(jw (l.length+1)).length=l.length+1:=by unfold jw;simp
 have run:au Hq ⟨[[some (iL R),some (cK n bf),none,none,none,none]],[]⟩=some (.ret (.bool true),⟨[[some (iL R),some (cK n bf),some (iL (jw (l.length+1))),none,none,none]],[]⟩):=by
  refine aw (a9 comp) (dE (fv ?_));refine zK (sV (r:=true) (bh rfl (eO ci (dB _)) ?_)) rfl (zK (sV (r:=true) (bh (x:=.int ((l.length+1:Nat):Int)) (y:=.int ((l.length+1:Nat):Int)) (ei rfl ?_) (ei (ei rfl w) rfl) ?_)) rfl
   (zK (sV (r:=true) (bh (x:=.int ((l.length+1:Nat):Int)) (y:=.int ((l.length+1:Nat):Int)) (ei rfl ?_) (eN (y:=.int 1) (ei (x:=.int ((l.length+2:Nat):Int)) rfl ?_) rfl ?_) ?_)) rfl (sV (r:=true) (bh (x:=.int v) (y:=.int v) (bH rfl rfl ?_) (bH rfl (oH rfl) ?_) ?_))))
  ·refine(?_:(md (iL (jw (l.length+1))) (.lst [])).map (!·)=_);refine aa ?_ (tz (j9 _));have:(il (jw (l.length+1))).isEmpty=false:=by rw[List.isEmpty_eq_false_iff];intro q;have:=congrArg rx q;rw[bl,c] at this;simp at this
   refine aa ?_ this;rfl
  ·refine(?_:some (V.int _)=_);exact aa (aa rfl c) (bl ..)
  ·exact si (v:=.int _) rfl
  ·refine(?_:some (V.int _)=_);exact aa (aa rfl c) (bl ..)
  ·refine(?_:some (V.int _)=_);exact aa (aa rfl B) (bl ..)
  ·refine(?_:some (V.int _)=_);exact congrArg (fun x=>some (V.int x)) (rj ((l.length+1:Nat):Int) 1)
  ·exact si (v:=.int _) rfl
  ·exact jn (i:=0) (by refine aa ?_ e;rfl)
  ·exact yB (by rw[e,il,fK,tS];rfl)
  ·exact si (v:=.int _) rfl
 refine aa ?_ run;rfl
noncomputable def pcsAll:List Str:=["a", "b", "ab", "..", ".", ""]
def kS(i:Int):Str:=pcsAll.getD i.toNat ""
def tn(l:List Str)(p:Str):List Str:=if cF p ".." then l.dropLast else if !(["", "."]:List Str).contains p then l++[p] else l
abbrev T3:=Int×Int×Int
def gP(t:T3):List Str:=[kS t.1,kS t.2.1,kS t.2.2]
def bS(t:T3):List Str:=(gP t).foldl tn []
def wa(t:T3)(e2 e4:Int):V:=.tup [.lst (sl (gP t)),.lst (sl (bS t)),.int e2,.int e4]
noncomputable def d0(n:Int):Int:=n.fmod 6
noncomputable def d1(n:Int):Int:=(n.fdiv 6).fmod 6
noncomputable def d2(n:Int):Int:=((n.fdiv 6).fdiv 6).fmod 4
noncomputable def d3(n:Int):Int:=(((n.fdiv 6).fdiv 6).fdiv 4).fmod 6
noncomputable def d4(n:Int):Int:=((((n.fdiv 6).fdiv 6).fdiv 4).fdiv 6).fmod 4
def Cg:M Fl:=au
        [bW (aO .Eq (ac 0 5) (cC (V.str ".."))) (au [aS (dg (ac 0 4) (cC V.none) (gm (cC (V.int 1))) (cC V.none)) (Tgt.name 4)])
            (au [bW (aO .NotIn (ac 0 5) (bY false [cC (V.str ""),cC (V.str ".")])) (au [aS (cT .Add (ac 0 4) (bY false [ac 0 5])) (Tgt.name 4)]) (au [])])]
def HL:List (M Fl):=[aS
   (bN false 3 (aX (bY false [cC (V.str "a"),cC (V.str "b"),cC (V.str "ab"),cC (V.str ".."),cC (V.str "."),cC (V.str "")]) (aX (ac 1 1) (ac 0 1)))
    (iV (bY false [cC (V.int 0),cC (V.int 1),cC (V.int 3)])) { tgt:=Tgt.name 1,ifs:=[] } [])
   (Tgt.name 3),
  aS (bY false []) (Tgt.name 4),fx (Tgt.name 5) (iV (ac 0 3)) Cg,
  cA (dZ [ac 0 3,ac 0 4,aX (ac 0 1) (cC (V.int 2)),aX (ac 0 1) (cC (V.int 4))])]
noncomputable abbrev kJ(n5 e0 e1 e2 e3 e4:Int)(p q r:Option V):List (Option V):=[some (.int n5),some (.lst [.int e0,.int e1,.int e2,.int e3,.int e4]),some (.int 4),p,q,r]
theorem Tl{s:List O}(m:Int):az (k+1) 308 [.int m] s=fj s (au HL ⟨[kJ (((((m.fdiv 6).fdiv 6).fdiv 4).fdiv 6).fdiv 4) (d0 m) (d1 m) (d2 m) (d3 m) (d4 m) none none none],[]⟩):=by kernel_rfl!
theorem qB(h:0<=i/\i<6):kS i∈pcsAll:=by delta kS;rw[eR,iC (show i.toNat<pcsAll.length from(rm h.1).mpr h.2)];exact Je _
theorem UZ:∀p∈pcsAll,fL p=true:=by decide +kernel
theorem RQ(xs:List j):ez xs none (some (-1)) none=xs.dropLast:=by have:=clipAt_neg xs.length 1 (ck _);refine aa ?_ (zG ..);refine aa ?_ I3;refine aU ?_ this;rfl
theorem Uu{s:List O}:kh s (.lst vs) .none (.int (-1)) .none=some (.lst vs.dropLast):=by refine(?_:((some _).map V.lst)=_);refine aa ?_ (RQ ..);rfl
theorem UO:(tn l p).length<=l.length+1:=by
 delta tn;split
 ·simp;exact jp [_] (.l af (.a aF aI)) tU
 ·split
  ·simp
  ·exact jP _
theorem Tj{j b f g P d:Int}{q:Option V}:∀(ps:List Str)(l:List Str)(r:Option V),(∀p∈ps,p∈pcsAll)->l.length+ps.length<=100->
  ∃r',dM (.name 5) Cg (sl ps).length (.vals (sl ps)) ⟨[kJ j b f g P d q (some (.lst (sl l))) r],[]⟩=some (.next,⟨[kJ j b f g P d q (some (.lst (sl (ps.foldl tn l)))) r'],[]⟩):=by
 intro i;induction i with
 |nil=>intro l r _ _;exact⟨r,rfl⟩
 |cons p ps I=>
  intro l r h c;obtain⟨r',e⟩:=I _ _ (fun x a=>h x (bD _ a)) (by have:=UO (l:=l) (p:=p);exact aP [_,_,_] (.l af bI) (.l (.a aj cI) cj) (.l (.a af aA) cj) tU this c);refine⟨r',ao rfl (ao rfl (ao (r:=Fl.next) ?_ e))⟩;delta tn;by_cases c1:cF p ".." = true
  ·refine aa ?_ (if_pos c1);refine aw (bP (bh rfl rfl (congrArg some c1)) (aw (a9 (gv rfl rfl (oH rfl) rfl Uu)) bo)) ?_;rewrite[sl,sl];refine aa ?_ Jl;rfl
  ·refine aa ?_ (if_neg c1);rw[rb] at c1;refine aw (bP (bh rfl rfl (congrArg some c1)) (aw (bP (bh rfl (eO (bv rfl (bv rfl ci)) (bC rfl)) (zp (HW (UZ p (h p bK)) (by decide +kernel):kj _ _=some ((["", "."]:List Str).contains p)))) ?_) bo)) bo;by_cases c2:(!(["", "."]:List Str).contains p)=true
   ·refine aa (aa ?_ (if_pos c2)) (if_pos c2);refine aw (a9 (eN rfl (eO (bv rfl ci) (bC rfl)) (jW (by simp;exact aJ [_,_] (.l (.a af bI) cj) (.l aF dG) tU c)))) ?_;rewrite[sl,sl];refine aa ?_ fK;rfl
   ·refine aa (aa ?_ (if_neg c2)) (if_neg c2);rfl
theorem jZ{a b:Int}(h:0<b):0<=a.fmod b/\a.fmod b<b:=⟨IS _ h,IR _ h⟩
theorem yk{s:List O}(h:noObj v=true):fj s (some (.ret v,a))=some (.ret v,s):=sv (kK h)
theorem Tk{st:List O}(m:Int):az (k+1) 308 [.int m] st=some (.ret (wa (d0 m,d1 m,d3 m) (d2 m) (d4 m)),st):=by
 refine aa ?_ (Tl ..);have t:0<=d1 m/\d1 m<6:=jZ (by decide);have F:0<=d0 m/\d0 m<6:=jZ (by decide);have C:0<=d3 m/\d3 m<6:=jZ (by decide);generalize (((((m.fdiv 6).fdiv 6).fdiv 4).fdiv 6).fdiv 4)=r;generalize d0 m=f at F ⊢;generalize d1 m=j at t ⊢;generalize d2 m=n;generalize d3 m=P at C ⊢;generalize d4 m=o;have w:∀{i:Int},0<=i/\i<6->∀st,fR st _ _=some _:=fun{i} h st=>by
  have:=jn (st:=st) (v:=.str (kS i)) (by delta kS;rw[gY,eR,iC (show i.toNat<pcsAll.length from(rm h.1).mpr h.2)];rfl)
  exact pa h.1▸this
 obtain⟨r',e⟩:=Tj (gP (f,j,P)) [] none (fun p s=>by
  rcases List.mem_cons.mp s with rfl|s
  ·exact qB F
  ·rcases List.mem_cons.mp s with rfl|s
   ·exact qB t
   ·refine aa ?_ (List.mem_singleton.mp s);exact qB C) (by delta gP;simp)
 obtain comp:=sW (a:=⟨[kJ r f j n P o none none none],[]⟩) (q:=3) (l:=[0,1,3])
  (elt:=aX (bY false [cC _,cC _,cC _,cC _,cC _,cC _]) (aX (ac 1 1) _))
  (first:=iV (bY false [cC (V.int 0),cC (V.int 1),cC (V.int 3)])) rfl (fun i D fr u=>by
   have g:ac 0 1 ⟨fr.set 1 (some (.int i))::[kJ r f j n P o none none none],[]⟩=some (.int i,⟨fr.set 1 (some (.int i))::[kJ r f j n P o none none none],[]⟩):=cz u (by decide);refine bH (x:=.lst (sl pcsAll)) (y:=.int (if i=0 then f else if i=1 then j else P)) (eO (bv rfl (bv rfl (bv rfl (bv rfl (bv rfl (bv rfl ci)))))) (bC rfl)) (bH (cY rfl) g ?_) (w ?_ _)
   ·rcases List.mem_cons.mp D with rfl|D
    ·rfl
    ·rcases List.mem_cons.mp D with rfl|D
     ·rfl
     ·refine aa ?_ (List.mem_singleton.mp D);rfl
   ·split
    ·exact F
    ·split
     ·exact t
     ·exact C) (bC rfl)
 have run:au HL ⟨[kJ r f j n P o none none none],[]⟩=some (.ret (wa (f,j,P) n o),⟨[kJ r f j n P o (some (.lst (sl (gP (f,j,P))))) (some (.lst (sl (bS (f,j,P))))) r'],[]⟩):=by refine aw (a9 (fr:=kJ r f j n P o none none none) comp) ?_;refine aw (a9 (fr:=kJ r f j n P o (some (.lst (sl (gP (f,j,P))))) none none) (eO ci (dB _))) ?_;exact aw (iq (cb rfl rfl) e) (dE (fv (gQ (bv rfl (bv rfl (bv rfl (bv rfl ci)))) (bC rfl))))
 refine aa ?_ run;exact yk (v:=wa (f,j,P) n o) (pD (a:=noObj (.lst (sl (gP (f,j,P))))) (b:=noObj (.lst (sl (bS (f,j,P))))) (c:=true) (d:=true) (qs _) (qs _) rfl rfl)
noncomputable def aM(l:List Str):Str:=("/" : Str)++pB "/" l
noncomputable def uX(p b:Str):Str:=if jU b "/" || !(p.length != 0) then b else if uf p "/" then p++b else p++(("/" : Str)++b)
def qa:Option Str->Bool
 |some x=>cF x ".."
 |none=>false
def mW(l:List Str)(c:Str):List Str:=if !(c.length != 0)||cF c "." then l else if !cF c ".." || qa l.getLast? then l++[c] else l.dropLast
def gN(t:T3):Str:=(gP t).foldl uX "/"
def Gs(s:Str):Option Str:=jd s (.int 1) .none
noncomputable def dig6:List Int:=[0,1,2,3,4,5]
def trips:List T3:=dig6.flatMap fun a=>dig6.flatMap fun b=>dig6.map fun c=>(a,b,c)
noncomputable def jC(s:Str):Bool:=decide (s.length<=20)
def LR(t:T3):Bool:=jC (gN t)&&(gN t).length != 0&&(jd (gN t) .none (.int 1)==some "/")&&((jd (gN t) (.int 1) (.int 2)).map (cF · "/")==some false) &&
 (match Gs (gN t) with
  |some r=>qP r "/" && decide ((eS r "/").length<=10)&&(eS r "/").all jC&&((eS r "/").foldl mW []==bS t)
  |none=>false)
noncomputable def zk:List Str:=["a", "b", "ab"]
def N40:List (List Str):=[]::zk.flatMap fun a=>[a]::zk.flatMap fun b=>[a,b]::zk.map fun c=>[a,b,c]
def CC(l:List Str):Bool:=decide (l.length<=3)&&l.all jC&&l.all fL&&jC (aM l)&&(aM l).length != 0&&fL (aM l)&&qP (aM l) "/" && ((eS (aM l) "/").filter (fun c=>c.length != 0&&!cF c ".")==l) &&
 decide ((eS (aM l) "/").length<=10)&&(eS (aM l) "/").all jC&&jU (aM l) "/" && l.all (fun c=>jC c&&fL c)
theorem Kh:trips.all (fun t=>LR t&&N40.contains (bS t))=true:=by decide +kernel
theorem Ki:N40.all CC=true:=by decide +kernel
def jt(m:M Bool):M Bool:=m.bind fun b=>M.pure (!b)
def BY(k:K):M Fl:=au [aS (ct k 263 [(false,ac 0 4)]) (Tgt.name 4),
        bW (gy [cu (bJ k bc "startswith" (ac 0 4) [(false,ac 0 2)]),jt (cu (ac 0 3))])
         (au [aS (ac 0 4) (Tgt.name 3)])
         (au [bW (cu (bJ k bc "endswith" (ac 0 3) [(false,ac 0 2)])) (au [ta .Add 3 (ac 0 4)]) (au [ta .Add 3 (cT .Add (ac 0 2) (ac 0 4))])])]
def Hi(k:K):List (M Fl):=[aS (ct k 263 [(false,ac 0 0)]) (Tgt.name 0),aS (ct k 277 [(false,ac 0 0)]) (Tgt.name 2),aS (ac 0 0) (Tgt.name 3),
  tc (au [fx (Tgt.name 4) (iV (ac 0 1)) (BY k)]),cA (ac 0 3)]
def Hj(k:K):List (M Fl):=[aS (ct k 263 [(false,ac 0 0)]) (Tgt.name 0),
  bW (cu (c2 B2.isinst (ac 0 0) (cC (V.cst (bQ "bytes"))))) (au [aS M.fail (Tgt.name 1),aS M.fail (Tgt.name 2)])
   (au [aS (cC (V.str "/")) (Tgt.name 1),aS (cC (V.str "")) (Tgt.name 2)]),
  bW (aO .NotEq (dg (ac 0 0) (cC V.none) (cC (V.int 1)) (cC V.none)) (ac 0 1)) (au [cA (dZ [ac 0 2,ac 0 2,ac 0 0])])
   (au [bW (gy [aO .NotEq (dg (ac 0 0) (cC (V.int 1)) (cC (V.int 2)) (cC V.none)) (ac 0 1),aO .Eq (dg (ac 0 0) (cC (V.int 2)) (cC (V.int 3)) (cC V.none)) (ac 0 1)])
      (au [cA (dZ [ac 0 2,ac 0 1,dg (ac 0 0) (cC (V.int 1)) (cC V.none) (cC V.none)])])
      (au [cA (dZ [ac 0 2,dg (ac 0 0) (cC V.none) (cC (V.int 2)) (cC V.none),dg (ac 0 0) (cC (V.int 2)) (cC V.none) (cC V.none)])])])]
def ul(k:K):M Fl:=au [bW (gy [jt (cu (ac 0 8)),aO .Eq (ac 0 8) (ac 0 2)]) (au [M.pure Fl.cont]) (au []),
     bW (gy [aO .NotEq (ac 0 8) (ac 0 3),ge [jt (cu (ac 0 5)),jt (cu (ac 0 7))],ge [cu (ac 0 7),aO .Eq (aX (ac 0 7) (gm (cC (V.int 1)))) (ac 0 3)]])
      (au [fW (bJ k bc "append" (ac 0 7) [(false,ac 0 8)])])
      (au [bW (cu (ac 0 7)) (au [fW (bJ k bc "pop" (ac 0 7) [])]) (au [])])]
def Hk(k:K):List (M Fl):=[aS (ct k 263 [(false,ac 0 0)]) (Tgt.name 0),
  bW (cu (c2 B2.isinst (ac 0 0) (cC (V.cst (bQ "bytes"))))) (au [aS M.fail (Tgt.name 1),aS M.fail (Tgt.name 2),aS M.fail (Tgt.name 3)])
   (au [aS (cC (V.str "/")) (Tgt.name 1),aS (cC (V.str ".")) (Tgt.name 2),aS (cC (V.str "..")) (Tgt.name 3)]),
  bW (jt (cu (ac 0 0))) (au [cA (ac 0 2)]) (au []),
  aS (ct k 291 [(false,ac 0 0)]) (Tgt.names [4,5,0]),aS (bJ k bc "split" (ac 0 0) [(false,ac 0 1)]) (Tgt.name 6),
  aS (bY true []) (Tgt.name 7),fx (Tgt.name 8) (iV (ac 0 6)) (ul k),
  aS (ac 0 7) (Tgt.name 6),aS (cT .Add (ac 0 5) (bJ k bc "join" (ac 0 1) [(false,ac 0 6)])) (Tgt.name 0),
  cA (kE [ac 0 0,ac 0 2])]
theorem pO{a:List O}:az (k+1) 263 [.str s] a=some (.ret (.str s),a):=by kernel_rfl!
theorem Le{a:List O}:az (k+1) 277 [.str s] a=some (.ret (.str "/"),a):=by kernel_rfl!
theorem Lf{a:List O}:az (k+1) 284 [.str s,.str p,.str q,.str r] a=fj a (au (Hi (az k)) ⟨[[some (.str s),some (.tup [.str p,.str q,.str r]),none,none,none,none,none,none,none,none,none]],[]⟩):=by kernel_rfl!
theorem Lg{a:List O}:az (k+1) 291 [.str s] a=fj a (au (Hj (az k)) ⟨[[some (.str s),none,none,none,none,none]],[]⟩):=by kernel_rfl!
theorem Lh{a:List O}:az (k+1) 298 [.str s] a=fj a (au (Hk (az k)) ⟨[[some (.str s),none,none,none,none,none,none,none,none,none,none,none,none]],[]⟩):=by kernel_rfl!
theorem qH(h:m a=some (r,i)):jt m a=some (!r,i):=ao h rfl
theorem qS{a:List O}(h:s.length<=sizeMax):jF a (.str s)=some (s.length != 0):=
 show w7 (ite _ _ none) _=_ from kb (if_pos h)
theorem S9(h:a c=some (.str s,c))(H:b c=some (.str t,c)):cu (bJ kk bc "startswith" a [(false,b)]) c=some (jU s t,c):=
 eX (eP h rfl rfl (bx (bu H bz) rfl) rfl) rfl
theorem SV(h:a c=some (.str s,c))(H:b c=some (.str t,c)):cu (bJ kk bc "endswith" a [(false,b)]) c=some (uf s t,c):=
 eX (eP h rfl rfl (bx (bu H bz) rfl) rfl) rfl
theorem Cb{a:List O}(h:s.length+t.length<=sizeMax):mG .Add a (.str s) (.str t)=some (.str (s++t)):=
 show w7 (ite _ _ none) _=_ from kb (if_pos h)
theorem Gb{b:List O}(h:fr[i]?=some (some (.str s)))(H:a ⟨fr::fs,b⟩=some (.str t,⟨fr::fs,b⟩))(c:s.length+t.length<=sizeMax):ta .Add i a ⟨fr::fs,b⟩=some (.next,⟨fr.set i (some (.str (s++t)))::fs,b⟩):=
 ao (ba h) (ao H (ao (dm (if_pos c)) rfl))
noncomputable abbrev pX(a:Str)(ps:V)(p:Str)(o:Option V):List (Option V):=[some (.str a),some ps,some (.str "/"),some (.str p),o,none,none,none,none,none,none]
theorem PA{b:Str}:(uX p b).length<=p.length+b.length+1:=by
 delta uX;split
 ·exact jp [_,_] (.l af (.a (.a aj af) aI)) tU
 ·split
  ·refine aa ?_ (uc ..);exact jP _
  ·refine aa (aa ?_ (uc ..)) (uc ..);have:("/" : Str).length=1:=rfl;exact aJ [_,_,_] (.e af aI) (.l (.a aj (.a af aA)) (.a (.a aj aA) aI)) tU this
section
variable {k:Nat}{st:List O}{x:V}{a b c d:M V}{kk:K}
theorem PC{a:Str}{ps:V}:∀(l:List Str)(p:Str)(o:Option V),(∀x∈l,x.length<=2)->p.length+3*l.length<=1000->
  ∃Q,dM (.name 4) (BY (az (k+1))) (sl l).length (.vals (sl l)) ⟨[pX a ps p o],st⟩=some (.next,⟨[pX a ps (l.foldl uX p) Q],st⟩):=by
 intro g;induction g with
 |nil=>intro p o _ _;exact⟨o,rfl⟩
 |cons b l I=>
  intro p o h c;have d:("/" : Str).length=1:=by rfl
  have hb:=h b bK;obtain⟨Q,e⟩:=I _ _ (fun x f=>h x (bD _ f)) (eg [_,_,_,_] (.l af (.a (.a aj aA) aI)) (.l (.a aj (.m 3 i4)) d8) (.l aA aQ) (.l (.a af (.m 3 aY)) d8) tU (PA) c hb);refine⟨Q,ao rfl (ao rfl (ao (r:=Fl.next) ?_ e))⟩;refine aw (a9 (dA (bx (bu rfl bz) rfl) pO)) ?_;refine aw (i:=⟨[pX a ps (if jU b "/" || !(p.length != 0) then b else if uf p "/" then p++b else p++_) (some (.str b))],st⟩) (bP (i:=⟨[pX a ps p (some (.str b))],st⟩) (r:=jU b "/" || !(p.length != 0)) ?_ ?_) bo
  ·have:=iv (S9 (kk:=az (k+1)) (a:=ac 0 4) (b:=ac 0 2) rfl rfl) fun Y=>by have:=iv (l:=[]) (qH (eX (b:=⟨[pX a ps p (some (.str b))],st⟩) (a:=ac 0 3) rfl (qS (by exact aJ [_,_] (.l (.a af (.m 3 bI)) d8) (.l af dG) tU c)))) fun Y=>rfl;rw[oY] at this;trivial
   trivial
  ·by_cases c1:(jU b "/" || !(p.length != 0))=true
   ·refine aa (aa ?_ (if_pos c1)) (if_pos c1);rfl
   ·refine aa (aa ?_ (if_neg c1)) (if_neg c1);refine aw (bP (SV rfl rfl) ?_) bo;by_cases c2:uf p "/" = true
    ·refine aa (aa ?_ (if_pos c2)) (if_pos c2);exact aw (Gb rfl rfl (by exact aP [_,_,_] (.l (.a af (.m 3 bI)) d8) (.l aA aQ) (.l (.a af aA) dG) tU c hb)) bo
    ·refine aa (aa ?_ (if_neg c2)) (if_neg c2);exact aw (Gb rfl (eN rfl rfl (Cb (by exact aP [_,_] (.e af aI) (.l aj aQ) (.l (.a af aj) dG) tU d hb))) (by refine aa ?_ (uc ..);exact eg [_,_,_,_] (.l (.a af (.m 3 bI)) d8) (.e aA aI) (.l aY aQ) (.l (.a af (.a aA aY)) dG) tU c d hb)) bo
end
theorem PD{st:List O}{t:T3}(h:∀x∈gP t,x.length<=2):az (k+2) 284 (.str "/" :: sl (gP t)) st=some (.ret (.str (gN t)),st):=by
 refine aa ?_ Lf;refine oE (PC (k:=k) (st:=[]) (a := "/") (ps:=.tup (sl (gP t))) _ "/" none h (by refine aa ?_ (show("/" : Str).length=1 by rfl);delta gP;simp)) fun Q e=>?_;have run:au (Hi (az (k+1))) ⟨[[some (.str "/"),some (.tup [.str (kS t.1),.str (kS t.2.1),.str (kS t.2.2)]),none,none,none,none,none,none,none,none,none]],[]⟩=some (.ret (.str (gN t)),⟨[pX "/" (.tup (sl (gP t))) (gN t) Q],[]⟩):=by refine aw (a9 (dA (bx (bu rfl bz) rfl) pO)) (aw (a9 (dA (bx (bu rfl bz) rfl) Le)) ?_);refine aw (a9 rfl) (aw (ao (aw (iq (cb rfl rfl) e) bo) rfl) (dE (fv rfl)))
 refine aa ?_ run;rfl
theorem ne_str{a:List O}:fp .NotEq a (.str s) (.str t)=some (!cF s t):=rfl
theorem zY{a:List O}(h:jd s l u=some t):kh a (.str s) l u .none=some (.str t):=by refine(?_:w7 (t7 V.str _) _=_);refine aa ?_ h;rfl
theorem Tz{a:List O} (h:jd s .none (.int 1)=some "/") (H:jd s (.int 1) (.int 2)=some q) (C:cF q "/" = false) (d:jd s (.int 1) .none=some r):az (k+2) 291 [.str s] a=some (.ret (.tup [.str "",.str "/",.str r]),a):=by
 have run:au (Hj (az (k+1))) ⟨[[some (.str s),none,none,none,none,none]],[]⟩=some (.ret (.tup [.str "",.str "/",.str r]),⟨[[some (.str s),some (.str "/"),some (.str ""),none,none,none]],[]⟩):=by refine aw (a9 (dA (bx (bu rfl bz) rfl) pO)) (aw (bP (eX (qE rfl rfl rfl) rfl) (aw (a9 rfl) (aw (a9 rfl) bo))) ?_);refine dE (bP (r:=false) (bh (gv rfl rfl rfl rfl (zY h)) rfl (ne_str.trans rfl)) (dE (bP (iv (r:=true) (r':=true) (bh (gv rfl rfl rfl rfl (zY H)) rfl (ne_str.trans (by refine aa ?_ C;rfl))) fun q=>by trivial) (dE (fv (gQ (bv rfl (bv rfl (bv (gv rfl rfl rfl rfl (zY d)) ci))) (bC rfl)))))))
 refine aa ?_ Lg;refine aa ?_ run;rfl
noncomputable abbrev eU(p:Str)(n4 n5:V)(cs:V)(o:Option V):List (Option V):=[some (.str p),some (.str "/"),some (.str "."),some (.str ".."),some n4,some n5,some cs,some (.obj 0),o,none,none,none,none]
theorem Es(l:List Str):(sl l).getLast?=l.getLast?.map V.str:=by simp
theorem Us{c:Str}:sl (l++[c])=sl l++[.str c]:=fK
theorem Ut:sl l.dropLast=(sl l).dropLast:=Jl
theorem Q4{p:Str}{n4 cs:V}{kk:K}:∀(l:List Str)(n:List Str)(o:Option V),(∀c∈l,jC c=true)->n.length+l.length<=1000->
  ∃Q,dM (.name 8) (ul kk) (sl l).length (.vals (sl l)) ⟨[eU p n4 (.str "/") cs o],[.list (sl n)]⟩=some (.next,⟨[eU p n4 (.str "/") cs Q],[.list (sl (l.foldl mW n))]⟩):=by
 intro w;induction w with
 |nil=>intro n o _ _;exact⟨o,rfl⟩
 |cons c l I=>
  intro n o h d;obtain d:=iD▸d;have u:c.length<=sizeMax:=by have:=of_decide_eq_true (h c bK);exact z1 rfl this
  obtain⟨Q,e⟩:=I _ _ (fun x g=>h x (bD _ g)) (by
   have:(mW n c).length<=n.length+1:=by
    delta mW;split
    ·exact jP _
    ·split
     ·simp
     ·simp;exact jp [_] (.l af (.a aF aI)) tU
   exact aP [_,_,_] (.l af bI) (.l (.a aj cI) d8) (.l (.a af aA) d8) tU this d)
  refine⟨Q,ao rfl (ao rfl ?_)⟩;have f:gy [jt (cu (ac 0 8)),aO .Eq (ac 0 8) (ac 0 2)] ⟨[eU p n4 (.str "/") cs (some (.str c))],[.list (sl n)]⟩=some (!(c.length != 0)||cF c ".",⟨[eU p n4 (.str "/") cs (some (.str c))],[.list (sl n)]⟩):=by refine iv (qH (eX rfl (qS u))) fun Y=>?_;have:=iv (l:=[]) (bh (c:=⟨[eU p n4 (.str "/") cs (some (.str c))],[.list (sl n)]⟩) (a:=ac 0 8) (b:=ac 0 2) (op:=.Eq) rfl rfl rfl) fun Y=>rfl;rw[oY] at this;trivial
  by_cases D:(!(c.length != 0)||cF c ".")=true
  ·have hb:ul kk ⟨[eU p n4 _ cs _],[.list _]⟩=some _:=
    iu (bP (r:=true) (f.trans (aa rfl D)) (iu rfl fun q=>by trivial)) fun q=>by trivial
   have j:mW n c=n:=if_pos D;refine aa (aa ?_ j) lm;exact ao hb (j▸e)
  ·rw[rb] at D;have T:gy [aO .NotEq (ac 0 8) (ac 0 3),ge [jt (cu (ac 0 5)),jt (cu (ac 0 7))],ge [cu (ac 0 7),aO .Eq (aX (ac 0 7) (gm (cC (V.int 1)))) (ac 0 3)]] ⟨[eU p n4 (.str "/") cs (some (.str c))],[.list (sl n)]⟩=some (!cF c ".." || qa n.getLast?,⟨[eU p n4 (.str "/") cs (some (.str c))],[.list (sl n)]⟩):=by
    refine iv (bh rfl rfl ne_str) fun Y=>?_;have t:ge [cu (ac 0 7),aO .Eq (aX (ac 0 7) (gm (cC (V.int 1)))) (ac 0 3)] ⟨[eU p n4 (.str "/") cs (some (.str c))],[.list (sl n)]⟩=some (qa n.getLast?,⟨[eU p n4 (.str "/") cs (some (.str c))],[.list (sl n)]⟩):=by
     have g:∀y,n.getLast?=some y->aO .Eq (aX (ac 0 7) (gm (cC (V.int 1)))) (ac 0 3) ⟨[eU p n4 (.str "/") cs (some (.str c))],[.list (sl n)]⟩=some (cF y "..",⟨[eU p n4 (.str "/") cs (some (.str c))],[.list (sl n)]⟩):=fun y A=>bh (x:=.str y) (bH rfl (oH rfl) (yC rfl (by refine aa (aa ?_ A) (Es ..);rfl))) rfl rfl
     cases A:n.getLast? with
     |none=>have:n=[]:=List.getLast?_eq_none_iff.mp A;clear d e f g A;clear d;subst this;exact jz (r:=false) (r':=false) (eX rfl rfl) fun q=>by contradiction
     |some y=>
      have i:(sl n).isEmpty=false:=by clear d e f;clear d;cases n with|nil=>cases A|cons=>rfl
      have:=jz (r:=true) (r':=cF y "..") (l:=[aO .Eq (aX (ac 0 7) (gm (cC (V.int 1)))) (ac 0 3)]) (eX (b:=⟨[eU p n4 (.str "/") cs (some (.str c))],[.list (sl n)]⟩) (a:=ac 0 7) rfl ((wp rfl).trans (by refine aa ?_ i;rfl))) (fun Y=>by have:=jz (l:=[]) (g y A) (r':=true) fun Y=>rfl;rw[tL] at this;exact this)
      exact this
    have:=iv (r:=false) (l:=[ge [cu (ac 0 7),aO .Eq (aX (ac 0 7) (gm (cC (V.int 1)))) (ac 0 3)]]) (jz (r:=false) (r':=false) (l:=[jt (cu (ac 0 7))]) (qH (eX (b:=⟨[eU p n4 (.str "/") cs (some (.str c))],[.list (sl n)]⟩) (a:=ac 0 5) rfl (qS (s := "/") (by decide +kernel)))) fun q=>by contradiction) (r':=qa n.getLast?) (fun Y=>by have:=iv (l:=[]) t (r':=false) fun Y=>rfl;rw[oY] at this;exact this)
    exact this
   refine aa ?_ lm;refine ao (r:=Fl.next) (m:=ul kk) (i:=⟨[eU p n4 (.str "/") cs (some (.str c))],[.list (sl (mW n c))]⟩) ?_ e;unfold mW;refine aa ?_ D;refine aw (bP (r:=false) (f.trans (by rw[D])) bo) (aw (bP (r:=!cF c ".." || qa n.getLast?) T ?_) bo);simp only[iY,if_false];by_cases C:(!cF c ".." || qa n.getLast?)=true
   ·rw[if_pos C,if_pos C,Us];exact aw (ip (eP (fs:=[eU p n4 (.str "/") cs (some (.str c))]) rfl (kN rfl rfl) rfl (bx (bu rfl bz) rfl) (pG rfl (by rw[bl];unfold sizeMax;exact aJ [_,_] (.l (.a af bI) d8) (.l aF dG) tU d)))) bo
   ·refine aa (aa ?_ (if_neg C)) (if_neg C);cases A:n.getLast? with
    |none=>have:n=[]:=List.getLast?_eq_none_iff.mp A;clear d e f T C A;clear d;subst this;exact aw (bP (r:=false) (eX rfl rfl) bo) bo
    |some y=>
     have i:(sl n).isEmpty=false:=by clear d e f T C;clear d;cases n with|nil=>cases A|cons=>rfl
     refine aw (bP (r:=true) (eX rfl ((wp rfl).trans (by refine aa ?_ i;rfl))) ?_) bo;rw[Ut];exact aw (ip (eP (fs:=[eU p n4 (.str "/") cs (some (.str c))]) rfl (kN rfl rfl) rfl (bx bz rfl) (xy rfl (v:=.str y) (by rw[Es,A];rfl)))) bo
theorem yO(h:l.length<=3)(H:∀c∈l,jC c=true):qb "/" (sl l)=some (.str (pB "/" l)):=by delta qb;simp only[sF,nc,decide_eq_true (show l.length<=100 by exact z1 rfl h),show(l.all fun s=>decide (s.length<=100))=true from List.all_eq_true.mpr fun c q=>decide_eq_true (by have:=of_decide_eq_true (H c q);exact z1 rfl this)];rfl
structure Nm(l:List Str):Prop where
 len:l.length<=3
 sh:∀c∈l,jC c=true
 ok:∀c∈l,fL c=true
 psh:jC (aM l)=true
 pne:((aM l).length != 0)=true
 pok:fL (aM l)=true
 sp:qP (aM l) "/" = true
 sf:(eS (aM l) "/").filter (fun c=>c.length != 0&&!cF c ".")=l
 sl10:(eS (aM l) "/").length<=10
 ssh:∀c∈eS (aM l) "/",jC c=true
 st:jU (aM l) "/" = true
theorem lW(h:l∈N40):Nm l:=by have:=List.all_eq_true.mp Ki l h;unfold CC at this;simp only[kr,decide_eq_true_eq] at this;exact⟨this.1.1.1.1.1.1.1.1.1.1.1,List.all_eq_true.mp this.1.1.1.1.1.1.1.1.1.1.2,List.all_eq_true.mp this.1.1.1.1.1.1.1.1.1.2,this.1.1.1.1.1.1.1.1.2,this.1.1.1.1.1.1.1.2,this.1.1.1.1.1.1.2,this.1.1.1.1.1.2,eq_of_beq this.1.1.1.1.2,this.1.1.1.2,List.all_eq_true.mp this.1.1.2,this.1.2⟩
theorem zF{s:List O}(N:Nm l):mG .Add s (.str "/") (.str (pB "/" l))=some (.str (aM l)):=by refine Cb ?_;have:=of_decide_eq_true N.psh;unfold aM at this;rw[uc] at this;exact z1 rfl this
structure Ck(t:T3):Prop where
 N:Nm (bS t)
 mem:bS t∈N40
 sh:(gN t).length<=20
 ne:((gN t).length != 0)=true
 c1:jd (gN t) .none (.int 1)=some "/"
 c2:∃q,jd (gN t) (.int 1) (.int 2)=some q/\cF q "/" = false
 c3:∃r,jd (gN t) (.int 1) .none=some r/\qP r "/" = true/\(eS r "/").length<=10/\(∀c∈eS r "/",jC c=true)/\(eS r "/").foldl mW []=bS t
theorem rX{t:T3}(h:t∈trips):Ck t:=by
 have:=List.all_eq_true.mp Kh t h;obtain⟨F,P⟩:=Bool.and_eq_true_iff.mp this;obtain m:=by simpa using P
 obtain⟨F,p⟩:=Bool.and_eq_true_iff.mp F;obtain⟨F,d⟩:=Bool.and_eq_true_iff.mp F;obtain⟨F,C⟩:=Bool.and_eq_true_iff.mp F;obtain⟨b,H⟩:=Bool.and_eq_true_iff.mp F;refine⟨lW m,m,of_decide_eq_true b,H,eq_of_beq C,?_,?_⟩
 ·exact oE (Option.map_eq_some_iff.mp (eq_of_beq d)) fun q e=>⟨q,e.1,e.2⟩
 ·delta Gs at p;cases e:jd _ _ .none with
  |none=>obtain p:=e▸p;trivial
  |some r=>obtain p:=e▸p;obtain⟨p,a⟩:=Bool.and_eq_true_iff.mp p;exact⟨r,rfl,((Bool.and_eq_true_iff.mp ((Bool.and_eq_true_iff.mp p).1)).1),of_decide_eq_true ((Bool.and_eq_true_iff.mp ((Bool.and_eq_true_iff.mp p).1)).2),List.all_eq_true.mp ((Bool.and_eq_true_iff.mp p).2),eq_of_beq a⟩
theorem Gf(d:a c=some (.str s,c))(H:b c=some (.str t,c))(h:qP s t=true):bJ kk bc "split" a [(false,b)] c=some (.lst (sl (eS s t)),c):=
 eP d rfl rfl (bx (bu H bz) rfl) (if_pos h)
theorem Ug{s:List O}(h:[i,j,l].Nodup):pL [i,j,l] (.tup [x,y,z]) ⟨fr::fs,s⟩=some ((),⟨((fr.set i (some x)).set j (some y)).set l (some z)::fs,s⟩):=by refine(?_:(if[x,y,z].length=[i,j,l].length/\[i,j,l].Nodup then kf [i,j,l] [x,y,z] else M.fail) ⟨fr::fs,s⟩=_);refine aa ?_ (if_pos ⟨rfl,h⟩);rfl
theorem Q5{st:List O}{t:T3}(C:Ck t):az (k+3) 298 [.str (gN t)] st=some (.ret (.str (aM (bS t))),st):=by
 refine aa ?_ Lh;refine aH C.c2 fun q D a=>Rf C.c3 fun r b c R d f=>oE (Q4 (p:=r) (n4:=.str "") (cs:=.lst (sl (eS r "/"))) (kk:=az (k+2)) _ [] none d (by simp;exact z1 rfl R)) fun Q e=>?_;have run:au (Hk (az (k+2))) ⟨[[some (.str (gN t)),none,none,none,none,none,none,none,none,none,none,none,none]],[]⟩=some (.ret (.str (aM (bS t))),⟨[(eU (aM (bS t)) (.str "") (.str "/") (.obj 0) Q)],[.list (sl (bS t))]⟩):=by
  refine aw (a9 (dA (bx (bu rfl bz) rfl) pO)) (aw (bP (eX (qE rfl rfl rfl) rfl) (aw (a9 rfl) (aw (a9 rfl) (aw (a9 rfl) bo)))) ?_);refine aw (bP (r:=false) (qH (eX rfl ((qS (by have:=C.sh;exact z1 rfl this)).trans (aa rfl C.ne)))) bo) (aw (ao (dA (bx (bu rfl bz) rfl) (Tz C.c1 D a b)) (ao (Ug (by decide)) rfl)) ?_);refine aw (a9 (Gf rfl rfl c)) (aw (a9 (sX ci (dB _))) ?_);refine aw (iq (cb rfl rfl) (f▸e)) ?_;refine aw (a9 (fr:=eU r (.str "") (.str "/") (.lst (sl (eS r "/"))) Q) rfl) ?_;refine aw (a9 (fr:=eU r (.str "") (.str "/") (.obj 0) Q) (eN rfl (eP (fs:=[eU r (.str "") (.str "/") (.obj 0) Q]) (st:=[.list (sl (bS t))]) (v:=.str (pB "/" (bS t))) rfl rfl rfl (bx (bu rfl bz) rfl) ?_) (zF C.N))) ?_
  ·refine(?_:(qb "/" (sl (bS t))).bind _=_);refine aa ?_ (yO C.N.len C.N.sh);rfl
  ·exact dE (fv (Gd rfl ((qS (s:=aM (bS t)) (by have:=of_decide_eq_true C.N.psh;exact z1 rfl this)).trans (by exact aa rfl C.N.pne))))
 refine aa ?_ run;rfl
noncomputable def gK(left:Int):List Str:=(if(0:Int)=left then([]:List Str) else["fig"])++((if(1:Int)=left then([]:List Str) else["Plum"])++(if(2:Int)=left then([]:List Str) else["*"]))
noncomputable def v9(m:Int)(l:List Str):List Str:=l.drop (m.fmod l.length).toNat++l.take (m.fmod l.length).toNat
def zI(m t left:Int):En:=⟨v9 m (gK left),[m],if[1,3].contains t then some (5*m) else none,if[2,3].contains t then some (7*m) else none⟩
def Hm:List (M Fl):=[aS
   (bN false 4 (ac 0 2) (jm (bY false [cC (V.str "fig"),cC (V.str "Plum"),cC (V.str "*")])) { tgt:=Tgt.names [1,2],ifs:=[aO .NotEq (ac 0 1) (ac 1 2)] } [])
   (Tgt.name 3),
  aS
   (cT .Add (dg (ac 0 3) (cT .Mod (ac 0 0) (c1 B1.len (ac 0 3))) (cC V.none) (cC V.none)) (dg (ac 0 3) (cC V.none) (cT .Mod (ac 0 0) (c1 B1.len (ac 0 3))) (cC V.none)))
   (Tgt.name 3),
  cA (dZ [ac 0 3,bY false [ac 0 0],
     jc (aO .In (ac 0 1) (bY false [cC (V.int 1),cC (V.int 3)])) (cT .Mult (cC (V.int 5)) (ac 0 0)) (cC V.none),
     jc (aO .In (ac 0 1) (bY false [cC (V.int 2),cC (V.int 3)])) (cT .Mult (cC (V.int 7)) (ac 0 0)) (cC V.none)])]
def Hn(k:K):List (M Fl):=[aS (nT k 59 CE []) (Tgt.name 1),
  fW (bJ k bc "extend" (bT (some 0) (ac 0 1)) [(false,aX (ac 0 0) (cC (V.int 0)))]),
  fW (bJ k bc "extend" (bT (some 1) (ac 0 1)) [(false,aX (ac 0 0) (cC (V.int 1)))]),
  we (some 2) (ac 0 1) (some 3) (ac 0 1) (dZ [aX (ac 0 0) (cC (V.int 2)),aX (ac 0 0) (cC (V.int 3))]),cA (ac 0 1)]
theorem Lj{s:List O}{T:Int}:az (k+1) 313 [.int m,.int T,.int l] s=fj s (au Hm ⟨[[some (.int m),some (.int T),some (.int l),none,none,none]],[]⟩):=by kernel_rfl!
theorem Ll{s:List O}(h:noObjs [x]=true):az (k+1) 320 [x] s=fj s (au (Hn (az k)) ⟨[[some x,none,none]],[]⟩):=aa (aa rfl (pC h)) (by kernel_rfl!:az _ 320 [x] s=(bif noObjs [x]&&true then fj s _ else none))
noncomputable def l4(left:Int):V->List V
 |.tup [.int j,v]=>if j=left then[] else[v]
 |_=>[]
theorem Kc:bN false 4 (ac 0 2) (jm (bY false [cC (V.str "fig"),cC (V.str "Plum"),cC (V.str "*")])) { tgt:=Tgt.names [1,2],ifs:=[aO .NotEq (ac 0 1) (ac 1 2)] } [] ⟨[[b,f1,some (.int left),c,f4,f]],[]⟩ =
  some (.lst (sl (gK left)),⟨[[b,f1,some (.int left),c,f4,f]],[]⟩):=by
 have:=oC (a:=⟨[[b,f1,some _,c,f4,f]],[]⟩) (t:=.names [1,2]) (first:=jm (bY false [cC (V.str "fig"),cC (V.str "Plum"),cC (V.str "*")])) (vs:=gM 0 [.str "fig",.str "Plum",.str "*"]) (G:=l4 left) (r:=[])
  rfl (eH.enum (by decide) 0 _) (fun v a fr acc o d=>by
   obtain⟨j,s,rfl⟩:∃(j:Int)(s:V),v=.tup [.int j,s]:=by
    refine(List.mem_cons.mp a).elim (fun rfl=>?_) fun a=>?_
    ·exact⟨_,_,rfl⟩
    ·refine(List.mem_cons.mp a).elim (fun rfl=>?_) fun a=>?_
     ·exact⟨_,_,rfl⟩
     ·refine aa ?_ (List.mem_singleton.mp a);exact⟨_,_,rfl⟩
   refine⟨(fr.set 1 (some (.int j))).set 2 (some s),by simp[o],?_⟩;refine(?_:fm [aO .NotEq (ac 0 1) (ac 1 2)] _ _ ⟨(fr.set 1 _).set 2 _::[[b,f1,some (.int left),c,f4,f]],[]⟩=_);refine aa ?_ (qF (bh (ba (by rw[dO (by decide),de (by exact aJ [_] (.q af fe) (.l (.a aI aI) af) tU o)])) (cY rfl) rfl));by_cases e:j=left
   ·refine aa (aa (aa ?_ (dT ..)) (show l4 left (.tup [.int j,s])=[] from if_pos e)) (decide_eq_true e);rfl
   ·have z:l4 left (.tup [.int j,s])=[s]:=if_neg e;rw[z] at d ⊢;refine aa ?_ (decide_eq_false e);exact m7 (ba (by rw[de (by simp;exact aJ [_] (.q af fe) (.l (.a aQ aI) af) tU o)])) (by trivial)) (by
   have h:=fun j s=>by refine(?_:(if j=left then[] else[s]:List V).length<=1);split<;>simp
   refine(?_:(l4 left _++(l4 left _++(l4 left _++[]))).length<=sizeMax);refine aa (aa (aa ?_ cP) cP) cP;simp only[wT];exact eg [_,_,_] (.l af aI) (.l aj aI) (.l aA aI) (.l (.a af (.a aj (.a aA (.n 0)))) dG) tU (h _ _) (h _ _) (h _ _))
 refine aa ?_ this;congr 3;refine(?_:l4 left _++(l4 left _++(l4 left _++[]))=_);delta gK sl;refine aa (aa (aa ?_ fK) fK) (dT ..);congr 1
 ·refine(?_:(if _=left then[] else[V.str "fig"])=_);by_cases e:(0:Int)=left
  ·refine aa (aa ?_ (if_pos e)) (if_pos e);rfl
  ·refine aa (aa ?_ (if_neg e)) (if_neg e);rfl
 congr 1
 ·refine(?_:(if _=left then[] else[V.str "Plum"])=_);by_cases e:(1:Int)=left
  ·refine aa (aa ?_ (if_pos e)) (if_pos e);rfl
  ·refine aa (aa ?_ (if_neg e)) (if_neg e);rfl
 ·refine(?_:(if _=left then[] else[V.str "*"])=_);by_cases e:(2:Int)=left
  ·refine aa (aa ?_ (if_pos e)) (if_pos e);rfl
  ·refine aa (aa ?_ (if_neg e)) (if_neg e);rfl
theorem BG:0<(gK left).length/\(gK left).length<=3:=by
 by_cases h:0=left
 ·subst h;decide
 ·delta gK;rw[if_neg h];split<;>split<;>decide
theorem R8{z:List O}{T:Int}(h:0<=m/\m<100):az (k+1) 313 [.int m,.int T,.int l] z=some (.ret (dN (zI m T l)),z):=by
 refine aa ?_ Lj;refine oA (BG (left:=l)) fun u w=>?_;have H:=jZ (a:=m) (b:=(gK l).length) (Int.ofNat_lt.mpr ‹_›);obtain⟨i,D⟩:=wJ H.1;have j:∀d:S,ac 0 0 d=some (.int m,d)->ac 0 3 d=some (.lst (sl (gK l)),d)->cT .Mod (ac 0 0) (c1 B1.len (ac 0 3)) d=some (.int (i:Int),d):=fun d g R=>eN (y:=.int ((gK l).length:Int)) g (ei R (by refine(?_:some (V.int _)=_);exact aa rfl (bl ..))) (by refine aU ?_ D;exact un (xz ⟨Int.ofNat_lt.mpr u,Int.ofNat_lt.mpr (dW w (by decide))⟩))
 have p:∀(c:Int)(f:List Int)(e:M V)(d:S),(c=5∨c=7)->ac 0 0 d=some (.int m,d)->ac 0 1 d=some (.int T,d)->e d=some (iL f,d)->jc (aO .In (ac 0 1) e) (cT .Mult (cC (V.int c)) (ac 0 0)) (cC V.none) d=some (oi (if f.contains T then some (c*m) else none),d):=fun c f e d s g I q=>by
  refine qG (r:=f.contains T) (bh I q (sC T f)) ?_;cases f.contains T
  ·rfl
  ·refine eN rfl g ?_;have n:c.natAbs<1000:=by rcases s with rfl|rfl<;>decide
   have o:m.natAbs<1000:=Int.ofNat_lt.mp (aa (o9 h.2 (by decide)) (IU h.1));exact un (KO (Bool.and_eq_true_iff.mpr ⟨decide_eq_true n,decide_eq_true o⟩))
 have run:au Hm ⟨[[some (.int m),some (.int T),some (.int l),none,none,none]],[]⟩=some (.ret (dN (zI m T l)),⟨[[some (.int m),some (.int T),some (.int l),some (.lst (sl (v9 m (gK l)))),none,none]],[]⟩):=by
  refine aw (a9 (fr:=[some (.int m),some (.int T),some (.int l),none,none,none]) Kc) ?_;refine aw (a9 (v:=.lst (sl (v9 m (gK l)))) (fr:=[some (.int m),some (.int T),some (.int l),some (.lst (sl (gK l))),none,none]) (eN (x:=.lst ((sl (gK l)).drop i)) (y:=.lst ((sl (gK l)).take i)) (gv rfl (j _ rfl rfl) rfl rfl (wi i)) (gv rfl rfl (j _ rfl rfl) rfl (qO i)) ?_)) ?_
  ·rw[jW (by refine aa (aa (aa ?_ (bl ..)) A7) Jh;exact bb (ln (w0 ..) (Bl ..)) (bb (ln w w) (by decide)))];unfold v9;refine aa ?_ D;rewrite[sl];refine aU (aU (aU ?_ fK) wU) Jk;rfl
  ·exact dE (fv (gQ (bv rfl (bv (eO (bv rfl ci) (bC rfl)) (bv (p 5 [1,3] _ _ (.inl rfl) rfl rfl (eO (bv rfl (bv rfl ci)) (bC rfl))) (bv (p 7 [2,3] _ _ (.inr rfl) rfl rfl (eO (bv rfl (bv rfl ci)) (bC rfl))) ci)))) (bC rfl)))
 refine aa ?_ run;exact yk (vp _)
theorem DM:∀(vs:List V)(n:Nat)(st:List O),noObjs vs=true->vs.length+1<n->frzs n st vs=some (vs,st)
 |[],n+1,st,_,_=>rfl
 |a::r,n+2,st,h,c=>by refine oA (Bool.and_eq_true_iff.mp (show(noObj a&&noObjs r)=true from h)) fun b H=>?_;have e:=DM r _ st H (wY c);exact fS (kK b) e
theorem DK{st:List O}(h:aD st j=.list vs)(v:noObjs vs=true)(c:vs.length+1<n):eK (n+1) st (.obj j)=some (.lst vs,st.set j .dead):=fO h (DM vs n _ v c)
theorem B7{s:List O}(h:aD s j=.list vs)(H:cM s v=some ws)(e:vs.length+ws.length<sizeMax):iH .extend (.obj j) [v] s=some (.none,s.set j (.list (vs++ws))):=by refine(?_:((oL _).bind _).bind _=_);refine aa ?_ h;refine(?_:(cM s v).bind _=_);refine aa ?_ H;exact if_pos e
theorem To{st:List O}(h:e.ag.length<=100)(H:e.ls.length<=100):az (k+2) 320 [dN e] st=some (.ret (d5 e),st):=by
 rw[Ll (by refine(?_:(noObj _&&true)=true);refine aa ?_ (vp ..);rfl)];have run:au (Hn (az (k+1))) ⟨[[some (dN e),none,none]],[]⟩=some (.ret (.obj 0),⟨[[some (dN e),some (.obj 0),none]],[.inst 59 [(0,.obj 1),(1,.obj 2),(2,oi e.d),(3,oi e.r)],.list (sl e.ag),.list (il e.ls)]⟩):=by refine aw (a9 (vY (bx bz rfl) Co)) (aw (ip (eP (cJ rfl (fM rfl rfl)) rfl rfl (bx (bu (bH rfl rfl rfl) bz) rfl) (B7 rfl rfl (by simp;exact aJ [_] (.l af cj) (.l aF dG) tU h)))) ?_);refine aw (ip (eP (fs:=[[some (dN e),some (.obj 0),none]]) (cJ rfl (fM (st:=[.inst 59 [(0,.obj 1),(1,.obj 2),(2,.none),(3,.none)],.list (sl e.ag),.list []]) rfl rfl)) rfl rfl (bx (bu (bH rfl rfl rfl) bz) rfl) (B7 (vs:=[]) (ws:=il e.ls) rfl rfl (by simp;unfold sizeMax;exact aJ [_] (.l af cj) (.l aF dG) tU H)))) ?_;refine aw (i:=⟨[[some (dN e),some (.obj 0),none]],[.inst 59 [(0,.obj 1),(1,.obj 2),(2,oi e.d),(3,oi e.r)],.list (sl e.ag),.list (il e.ls)]⟩) ?_ (dE (fv rfl));refine ao (r:=.tup [oi e.d,oi e.r]) (i:=⟨[[some (dN e),some (.obj 0),none]],[.inst 59 [(0,.obj 1),(1,.obj 2),(2,.none),(3,.none)],.list (sl e.ag),.list (il e.ls)]⟩) (gQ (bv (bH rfl rfl rfl) (bv (bH rfl rfl rfl) ci)) (bC rfl)) ?_;refine ao (dm (r:=(oi e.d,oi e.r)) rfl) (ao (m:=ac 0 1) rfl (ao (iT (c:=59) (l:=[(0,.obj 1),(1,.obj 2),(2,.none),(3,.none)]) rfl ⟨bC rfl,by decide⟩) (ao (m:=ac 0 1) rfl (ao (iT (c:=59) (l:=[(0,.obj 1),(1,.obj 2),(2,oi e.d),(3,.none)]) rfl ⟨bC rfl,by decide⟩) rfl))))
 refine aa ?_ run;have hz:eK 200 [.inst 59 [(0,.obj 1),(1,.obj 2),(2,oi e.d),(3,oi e.r)],.list (sl e.ag),.list (il e.ls)] (.obj 0)=some (d5 e,[.dead,.dead,.dead]):=by have f1:=DK (st:=[.dead,.list (sl e.ag),.list (il e.ls)]) (j:=1) (n:=197) rfl (qs e.ag) (by refine aa ?_ (bl ..);exact aJ [_] (.l af cj) (.l (.a aF aI) (.n 197)) tU h);have f2:=DK (st:=[.dead,.dead,.list (il e.ls)]) (j:=2) (n:=196) rfl (qr e.ls) (by refine aa ?_ (bl ..);exact aJ [_] (.l af cj) (.l (.a aF aI) (.n 196)) tU H);exact fI rfl (fF f1 (fF f2 (fF (kK (kQ _)) (fF (kK (kQ _)) rfl))))
 exact sv hz
noncomputable def cX:List Str->List Str->List Str
 |a::r,b::t=>if cF a b then a::cX r t else[]
 |_,_=>[]
def so:M Fl:=au [bW (aO .NotEq (ac 0 5) (aX (ac 0 7) (ac 0 9))) (au [aS (dg (ac 0 6) (cC V.none) (ac 0 9) (cC V.none)) (Tgt.name 8),M.pure Fl.brk]) (au [])]
def Ii(k:K):List (M Fl):=[aS (bN false 3 (bJ k bc "split" (ac 0 1) [(false,ac 1 1)]) (iV (ac 0 0)) { tgt:=Tgt.name 1,ifs:=[] } []) (Tgt.name 3),
     tc (au [aS (rV 3 (bJ k bc "startswith" (ac 0 1) [(false,ac 1 1)]) (iV (ac 0 0)) { tgt:=Tgt.name 1,ifs:=[] } []) (Tgt.names [4])]),
     aS (bN false 3 (bN false 3 (ac 0 1) (iV (ac 0 1)) { tgt:=Tgt.name 1,ifs:=[ge [cu (ac 0 1),aO .NotEq (ac 0 1) (ac 2 2)]] } []) (iV (ac 0 3)) { tgt:=Tgt.name 1,ifs:=[] } []) (Tgt.name 3),
     aS (c1 B1.min (ac 0 3)) (Tgt.name 6),aS (c1 B1.max (ac 0 3)) (Tgt.name 7),aS (ac 0 6) (Tgt.name 8),
     fx (Tgt.names [9,5]) (jm (ac 0 6)) so,
     aS (jc (cu (ac 0 4)) (ac 0 1) (dg (ac 0 1) (cC V.none) (cC (V.int 0)) (cC V.none))) (Tgt.name 10),
     cA (cT .Add (ac 0 10) (bJ k bc "join" (ac 0 1) [(false,ac 0 8)]))]
def Hl(k:K):List (M Fl):=[aS (xD k (cC (V.cst (cm 263))) (ac 0 0)) (Tgt.name 0),
  bW (jt (cu (ac 0 0))) (au [ke (bQ "ValueError") [cC (V.str "commonpath() arg is an empty sequence")]]) (au []),
  bW (cu (c2 B2.isinst (aX (ac 0 0) (cC (V.int 0))) (cC (V.cst (bQ "bytes"))))) (au [aS M.fail (Tgt.name 1),aS M.fail (Tgt.name 2)])
   (au [aS (cC (V.str "/")) (Tgt.name 1),aS (cC (V.str ".")) (Tgt.name 2)]),
  tc (au (Ii k))]
noncomputable abbrev mV:List (Option V):=[none,none,none,none,none,none,none,none,none,none,none,none]
abbrev fQ(ps x3 x4:Option V)(x5 x6 x7 x8 x9 x10:Option V):List (Option V):=ps::some (.str "/")::some (.str ".")::x3::x4::x5::x6::x7::x8::x9::x10::mV
section
variable {k:Nat}{st:List O}{x y:V}
theorem Li{x y:Str}:az (k+1) 303 [.lst [.str x,.str y]] st=fj st (au (Hl (az k)) ⟨[some (.lst [.str x,.str y])::none::none::none::none::none::none::none::none::none::none::mV],[]⟩):=by kernel_rfl!
end
theorem Eu:∀(d a b:List Str),cX (d++a) (d++b)=d++cX a b:=by
 intro p;induction p with
 |nil=>intro _ _;rfl
 |cons x d I=>intro a b;refine(?_:(if cF x x then x::cX (d++a) (d++b) else[])=_);refine aa (aa (aa ?_ (I a b)) (if_pos rfl)) (kY ..);rfl
theorem Qj(c:Str)(r:List Str):∀d:List Str,bU d (d++c::r)=true:=by
 intro p;induction p with
 |nil=>rfl
 |cons x d I=>refine(?_:(if cF x x then bU d (d++c::r) else wm x x)=_);refine aa (aa ?_ (if_pos rfl)) (kY ..);trivial
theorem L8{ps x3 x4 x10:Option V}{s1:List Str}(s:bU w s1=false):∀(rest done b:List Str)(a g:Option V),s1=done++rest->w=done++b->
  ∃d i,dM (.names [9,5]) so (sl rest).length (.enum done.length (sl rest)) ⟨[fQ ps x3 x4 a (some (.lst (sl s1))) (some (.lst (sl w))) (some (.lst (sl s1))) g x10],[]⟩ =
   some (.next,⟨[fQ ps x3 x4 d (some (.lst (sl s1))) (some (.lst (sl w))) (some (.lst (sl (cX s1 w)))) i x10],[]⟩):=by
 intro t;induction t with
 |nil=>
  intro done b a g h H;refine⟨a,g,?_⟩;have:cX s1 w=s1:=by refine aa (aa (aa ?_ (Eu ..)) H) h;clear H<;>rfl
  refine aa ?_ this;rfl
 |cons c r I=>
  intro done b a g h H;cases b with
  |nil=>rw[dT] at H;rw[h,H,Qj] at s;trivial
  |cons c2 u=>
   have j:(sl w)[done.length]?=some (.str c2):=by rw[H,gY,ru (ck _),tZ];rfl
   have k:aO .NotEq (ac 0 5) (aX (ac 0 7) (ac 0 9)) ⟨[fQ ps x3 x4 (some _) _ (some _) _ (some _) x10],[]⟩=some (!cF c c2,⟨[fQ ps x3 x4 _ (some (.lst (sl s1))) _ (some (.lst (sl s1))) _ x10],[]⟩):=
    bh rfl (bH rfl rfl (jn j)) ne_str
   have T:∀(Q:Option _)(f:Fl)(l:S),so ⟨[fQ ps x3 x4 _ _ _ _ _ x10],[]⟩=some _->(match f with
     |.next|.cont=>dM _ so (sl r).length _
     |.brk=>pure .next
     |.ret v=>pure _
     |.exc _ _=>M.fail:M Fl) l=Q->dM (.names [9,5]) so (sl (c::r)).length (.enum done.length (sl (c::r))) ⟨[fQ ps x3 x4 a _ _ _ g x10],[]⟩=Q:=fun Q f l z n=>
    ao rfl (ao (qI (y:=.str c) (fr:=fQ ps x3 x4 a (some (.lst (sl s1))) (some (.lst (sl w))) (some (.lst (sl s1))) g x10) (by decide)) (ao z n))
   by_cases e:cF c c2=true
   ·obtain m:=eq_of_beq e;clear j;subst m;refine dy (I (done++[c]) u (some (.str c)) (some (.int done.length)) (by refine aa (aa ?_ (iB ..)) h;rfl) (by refine aa (aa ?_ (iB ..)) H;rfl)) fun d i P=>?_;exact⟨d,i,T _ .next _ (aw (bP (r:=false) (k.trans (by refine aa ?_ e;rfl)) bo) bo) (cP▸P)⟩
   ·have p:cX s1 w=s1.take done.length:=by
     refine aa (aa (aa ?_ (Eu ..)) H) h;rewrite[Js,cX];refine aa ?_ (rb _ |>.mp e)
     ·simp
     ·rfl
    refine⟨_,_,T _ .brk _ (iu (bP (r:=true) (k.trans (by refine aa ?_ (rb _ |>.mp e);rfl)) (aw (a9 (gv rfl rfl rfl rfl ((qO done.length).trans ?_))) (iu rfl fun q=>by trivial))) fun q=>by trivial) rfl⟩;refine aa ?_ p;rewrite[sl,sl];exact aa rfl wU
theorem Ta(h:a c=some (.str s,c))(H:b c=some (.str t,c)):bJ kk bc "startswith" a [(false,b)] c=some (.bool (jU s t),c):=
 eP h rfl rfl (bx (bu H bz) rfl) rfl
theorem Vs{b:List O}{f1:Option V}{g:List (Option V)}(h0:fr0[0]?=some (some (.tup [.str s,.str t]))) (h1:fr0[1]?=some (some (.str "/"))) (hs:jU s "/" = true) (ht:jU t "/" = true):
  rV 3 (bJ kk bc "startswith" (ac 0 1) [(false,ac 1 1)]) (iV (ac 0 0)) { tgt:=Tgt.name 1,ifs:=[] } [] ⟨fr0::fs,b⟩=some (.setb true,⟨fr0::fs,b⟩):=by
 have e:∀u:Str,jU u "/" = true->bJ kk bc "startswith" _ [(false,ac 1 1)] ⟨[none,some _,none]::fr0::fs,b⟩=some _:=fun u hu=>by have:=Ta (c:=⟨[none,some (.str u),none]::fr0::fs,b⟩) (kk:=kk) (a:=ac 0 1) rfl (cY h1);exact(hu▸this)
 have turns:jk (.name 1) (fun acc=>fm [] (iJ m4 (bJ kk bc "startswith" (ac 0 1) [(false,ac 1 1)]) [] acc) (pure acc)) 2 (.vals [.str s,.str t]) [] ⟨[none,none,none]::fr0::fs,b⟩=some ([.bool true],⟨[none,some (.str t),none]::fr0::fs,b⟩):=by refine ao rfl (ao rfl (ao (ao (e s hs) rfl) ?_));refine ao rfl (ao rfl (ao (ao (e t ht) rfl) ?_));rfl
 exact ao (ao (cb (ba h0) rfl) (ao rfl (ao turns (ao rfl rfl)))) rfl
def jD:V->V
 |.str s=>.lst (sl (eS s "/"))
 |v=>v
def yr:V->V
 |.lst l=>.lst ((gW l).filter (fun c=>c.length != 0&&!cF c ".") |> sl)
 |v=>v
def eh(q p:List Str):List Str:=if bU p q then p else q
def ey(q p:List Str):List Str:=if bU q p then p else q
theorem ED:qk (.lst (sl p)) (.lst (sl q))=some (bU p q):=by refine(?_:(if ic (sl p)&&ic (sl q) then some _ else none)=_);refine aa (aa (aa (aa ?_ (nc ..)) (nc ..)) (sF ..)) (sF ..);rfl
theorem QD{s:List O}:eI .min s (.lst [.lst (sl q),.lst (sl p)])=some (.lst (sl (eh q p))):=by refine(?_:(qk _ _).bind _=_);refine aa ?_ ED;delta eh;cases bU p q<;>rfl
theorem Qo{s:List O}:eI .max s (.lst [.lst (sl q),.lst (sl p)])=some (.lst (sl (ey q p))):=by refine(?_:(qk _ _).bind _=_);refine aa ?_ ED;delta ey;cases bU q p<;>rfl
theorem EJ(h:kk j [x] []=some (.ret y,[]))(H:om kk j vs=some us):om kk j (x::vs)=some (y::us):=by refine(?_:(kk j [x] []).bind _=_);refine aa ?_ h;exact aa rfl H
theorem Ma{st:List O}(Nq:Nm q)(Np:Nm p)(hlt:bU (ey q p) (eh q p)=false)(Nl:Nm (cX (eh q p) (ey q p))):az (k+2) 303 [.lst [.str (aM q),.str (aM p)]] st=some (.ret (.str (aM (cX (eh q p) (ey q p)))),st):=by
 refine aa ?_ Li;refine dy (L8 (ps:=some (.tup [.str (aM q),.str (aM p)])) (x3:=some (.lst [.lst (sl q),.lst (sl p)])) (x4:=some (.bool true)) (x10:=none) hlt (eh q p) [] (ey q p) none none rfl rfl) fun o5' o9' eL=>?_;have hft:∀l:List Str,Nm l->∀f:List _,f.length=3->∀f0:List _,f0[2]?=some (some (.str "."))->bN false 3 _ _ { tgt:=Tgt.name 1,ifs:=[ge [cu _,aO .NotEq _ _]] } [] ⟨f.set 1 _::[f0],[]⟩=some _:=fun l N f hf f0 h0=>by
  have:=vU (n:=3) (vs:=sl _) (q:=Ac fun c=>c.length != 0&&!cF c ".") (g:=id) (cb (cz hf (by decide)) rfl) (fun v hv f2 hf2=>by
   refine fw v (List.mem_map.mp hv) fun c hc=>?_;have WR:=of_decide_eq_true (N.ssh c hc);have:=jz (l:=[aO .NotEq (ac 0 1) (ac 2 2)]) (eX (cz (v:=.str c) (st:=[]) (fs:=f.set 1 (some (jD (.str (aM l))))::[f0]) hf2 (by decide)) (qS (s:=c) (by exact aJ [_] (.l af (.n 20)) (.l af dG) tU WR))) (r':=!cF c ".") (fun Y=>by have:=jz (l:=[]) (bh (cz (v:=.str c) (st:=[]) (fs:=f.set 1 (some (jD (.str (aM l))))::[f0]) hf2 (by decide)) (qJ h0) ne_str) (r':=true) fun Y=>rfl;rw[tL] at this;exact this)
   exact this) (fun v hv Y f2 hf2=>cz hf2 (by decide)) (by refine aa ?_ (bl ..);have:=N.sl10;exact aJ [_] (.l af (.n 10)) (.l af dG) tU this)
  rw[Du,N.sf] at this;exact this
 have hsp:∀l:List Str,Nm l->∀f:List _,f.length=3->∀f0:List _,f0[1]?=some _->bJ (az (k+1)) bc "split" _ [(false,ac 1 1)] ⟨f.set 1 _::[f0],[]⟩=some _:=fun l N f hf f0 h0=>Gf (cz hf (by decide)) (cY h0) N.sp
 have hinner:au (Ii (az (k+1))) ⟨[fQ (some (.tup [.str (aM q),.str (aM p)])) none none none none none none none none],[]⟩=some (.ret (.str (aM (cX (eh q p) (ey q p)))),⟨[fQ (some (.tup [.str (aM q),.str (aM p)])) (some (.lst [.lst (sl q),.lst (sl p)])) (some (.bool true)) o5' (some (.lst (sl (eh q p)))) (some (.lst (sl (ey q p)))) (some (.lst (sl (cX (eh q p) (ey q p))))) o9' (some (.str "/"))],[]⟩):=by
  have c1:=zN (a:=⟨[fQ (some (.tup [.str (aM q),.str (aM p)])) none none none none none none none none],[]⟩) (n:=3) (elt:=bJ (az (k+1)) bc "split" (ac 0 1) [(false,ac 1 1)]) (first:=iV (ac 0 0)) (vs:=[.str (aM q),.str (aM p)]) (g:=jD) (cb rfl rfl) (fun v hv f hf=>by
   rcases List.mem_cons.mp hv with rfl|hv
   ·exact hsp q Nq f hf _ rfl
   ·refine aa ?_ (List.mem_singleton.mp hv);exact hsp p Np f hf _ rfl) (bC rfl)
  refine aw (a9 c1) ?_;refine aw (ao (r:=Fl.next) (aw (ao (Vs (fr0:=fQ (some (.tup [.str (aM q),.str (aM p)])) (some (.lst [jD (.str (aM q)),jD (.str (aM p))])) none none none none none none none) (f1:=none) (g:=[]) rfl rfl Nq.st Np.st) rfl) bo) rfl) ?_;have c2:=zN (a:=⟨[fQ (some (.tup [.str (aM q),.str (aM p)])) (some (.lst [jD (.str (aM q)),jD (.str (aM p))])) (some (.bool true)) none none none none none none],[]⟩) (n:=3) (elt:=bN false 3 (ac 0 1) (iV (ac 0 1)) { tgt:=Tgt.name 1,ifs:=[ge [cu (ac 0 1),aO .NotEq (ac 0 1) (ac 2 2)]] } []) (first:=iV (ac 0 3)) (vs:=[jD (.str (aM q)),jD (.str (aM p))]) (g:=yr) (cb rfl rfl) (fun v hv f hf=>by
   have h:∀l,Nm l->yr (jD (.str (aM l)))=.lst (sl l):=fun l N=>by refine(?_:V.lst (sl ((gW (sl (eS (aM l) "/"))).filter _))=_);exact aa (aa rfl N.sf) (nc ..)
   rcases List.mem_cons.mp hv with rfl|hv
   ·refine aa ?_ (h q Nq);exact hft q Nq f hf _ rfl
   ·refine aa (aa ?_ (h p Np)) (List.mem_singleton.mp hv);exact hft p Np f hf _ rfl) (bC rfl)
  have hmap:[jD (.str (aM q)),jD (.str (aM p))].map yr=[.lst (sl q),.lst (sl p)]:=by refine(?_:[V.lst (sl ((gW (sl (eS (aM q) "/"))).filter _)),V.lst (sl ((gW (sl (eS (aM p) "/"))).filter _))]=_);exact aa (aa (aa (aa rfl Np.sf) Nq.sf) (nc ..)) (nc ..)
  obtain c2:=hmap▸c2;refine aw (a9 c2) ?_;refine aw (a9 (fr:=fQ (some (.tup [.str (aM q),.str (aM p)])) (some (.lst [.lst (sl q),.lst (sl p)])) (some (.bool true)) none none none none none none) (ei rfl QD)) ?_;refine aw (a9 (fr:=fQ (some (.tup [.str (aM q),.str (aM p)])) (some (.lst [.lst (sl q),.lst (sl p)])) (some (.bool true)) none (some (.lst (sl (eh q p)))) none none none none) (ei rfl Qo)) ?_;refine aw (a9 (fr:=fQ (some (.tup [.str (aM q),.str (aM p)])) (some (.lst [.lst (sl q),.lst (sl p)])) (some (.bool true)) none (some (.lst (sl (eh q p)))) (some (.lst (sl (ey q p)))) none none none) rfl) ?_;refine aw (iq (zO rfl) eL) ?_;refine aw (a9 (fr:=fQ (some (.tup [.str (aM q),.str (aM p)])) (some (.lst [.lst (sl q),.lst (sl p)])) (some (.bool true)) o5' (some (.lst (sl (eh q p)))) (some (.lst (sl (ey q p)))) (some (.lst (sl (cX (eh q p) (ey q p))))) o9' none) (qG (r:=true) (eX rfl rfl) rfl)) ?_;refine dE (fv (eN rfl (eP (fs:=[fQ (some (.tup [.str (aM q),.str (aM p)])) (some (.lst [.lst (sl q),.lst (sl p)])) (some (.bool true)) o5' (some (.lst (sl (eh q p)))) (some (.lst (sl (ey q p)))) (some (.lst (sl (cX (eh q p) (ey q p))))) o9' (some (.str "/"))]) (st:=[]) (v:=.str (pB "/" (cX (eh q p) (ey q p)))) rfl rfl rfl (bx (bu rfl bz) rfl) ?_) (zF Nl)));refine(?_:(qb "/" (sl (cX (eh q p) (ey q p)))).bind _=_);refine aa ?_ (yO Nl.len Nl.sh);rfl
 have run:au (Hl (az (k+1))) ⟨[some (.lst [.str (aM q),.str (aM p)])::none::none::none::none::none::none::none::none::none::none::mV],[]⟩=some (.ret (.str (aM (cX (eh q p) (ey q p)))),⟨[fQ (some (.tup [.str (aM q),.str (aM p)])) (some (.lst [.lst (sl q),.lst (sl p)])) (some (.bool true)) o5' (some (.lst (sl (eh q p)))) (some (.lst (sl (ey q p)))) (some (.lst (sl (cX (eh q p) (ey q p))))) o9' (some (.str "/"))],[]⟩):=by
  have hmap:xD (az (k+1)) (cC (V.cst (cm 263))) (ac 0 0) ⟨[some (.lst [.str (aM q),.str (aM p)])::none::none::none::none::none::none::none::none::none::none::mV],[]⟩=some (.tup [.str (aM q),.str (aM p)],⟨[some (.lst [.str (aM q),.str (aM p)])::none::none::none::none::none::none::none::none::none::none::mV],[]⟩):=by refine ao (r:=[.str (aM q),.str (aM p)]) (ao (m:=cC (V.cst (cm 263))) rfl (ao (m:=ac 0 0) rfl (ao (m:=store) rfl (dm ?_)))) rfl;refine(?_:om (az (k+1)) 263 [.str (aM q),.str (aM p)]=_);exact EJ (vs:=[_]) (us:=[_]) pO (EJ (vs:=[]) (us:=[]) pO rfl)
  refine aw (a9 (fr:=some (.lst [.str (aM q),.str (aM p)])::none::none::none::none::none::none::none::none::none::none::mV) hmap) ?_;refine aw (bP (r:=false) (qH (r:=true) (eX rfl rfl)) bo) ?_;refine aw (bP (r:=false) (eX (v:=.bool false) (qE (bH rfl rfl rfl) rfl rfl) rfl) (aw (a9 (fr:=some (.tup [.str (aM q),.str (aM p)])::none::none::none::none::none::none::none::none::none::none::mV) rfl) (aw (a9 (fr:=some (.tup [.str (aM q),.str (aM p)])::some (.str "/")::none::none::none::none::none::none::none::none::none::mV) rfl) bo))) ?_;exact dE (ao hinner rfl)
 refine aa ?_ run;rfl
def jx(p q:List Str):Bool:=((aG q.length).map fun i=>q.take i.toNat).contains p
theorem EX:∀{a b:List Nat},js a b=false->js b a=false->a=b
 |[],[],_,_=>rfl
 |[],_::_,h,_=>by contradiction
 |_::_,[],_,h=>by contradiction
 |x::r,y::t,c,H=>by
  have c:(if x=y then js r t else decide (x<y))=false:=c;have H:(if y=x then js t r else decide (y<x))=false:=H;by_cases e:x=y
  ·subst e;rw[if_pos rfl] at c H;exact aa rfl (EX c H)
  ·obtain c:=(if_neg e)▸c;rw[if_neg fun q=>e q.symm] at H;exact absurd (i6 (Nat.not_lt.mp (of_decide_eq_false H)) (Nat.not_lt.mp (of_decide_eq_false c))) e
theorem EW:∀{a b:List Nat},js a b=true->js b a=false
 |[],[],h=>by contradiction
 |[],_::_,_=>rfl
 |_::_,[],h=>by contradiction
 |x::r,y::t,h=>by
  rw[js] at h ⊢;by_cases e:x=y
  ·subst e;rw[if_pos rfl] at h ⊢;exact EW h
  ·obtain h:=(if_neg e)▸h;refine aa ?_ (if_neg fun q=>e q.symm);exact decide_eq_false (by have:=of_decide_eq_true h;exact fun e=>Bi this e)
theorem U0{b:Str}(h:a.cps.toList=b.cps.toList):a=b:=by obtain⟨⟨b⟩⟩:=b;subst h;rfl
theorem l8:cF a b=true↔a=b:=beq_iff_eq
theorem Hd:∀{a b:List Str},bU a b=false->bU b a=false->a=b
 |[],[],_,_=>rfl
 |[],_::_,h,_=>by trivial
 |_::_,[],_,h=>by trivial
 |x::r,y::t,c,H=>by
  rw[bU] at c H;by_cases e:x=y
  ·subst e;rw[kY] at c H;rw[Hd c H]
  ·rw[if_neg fun q=>e (l8.mp q)] at c;rw[if_neg fun q=>e (l8.mp q).symm] at H;exact absurd (U0 (EX c H)) e
theorem Ae:∀{a b:List Str},bU a b=true->bU b a=false
 |[],[],h=>by contradiction
 |[],_::_,_=>rfl
 |_::_,[],h=>by contradiction
 |x::r,y::t,h=>by
  rw[bU] at h ⊢;by_cases e:x=y
  ·subst e;rw[kY,if_pos rfl] at h ⊢;exact Ae h
  ·obtain h:=(if_neg fun q=>e (l8.mp q))▸h;refine aa ?_ (if_neg fun q=>e (l8.mp q).symm);exact EW h
theorem U6(a:List Str):bU a a=false:=by
 cases h:bU a a with
 |false=>rfl
 |true=>obtain h:=(Ae h)▸h;trivial
theorem Ev:∀a b:List Str,cX a b=cX b a
 |[],[]=>rfl
 |[],_::_=>rfl
 |_::_,[]=>rfl
 |x::r,y::t=>by
  simp only[cX];by_cases e:x=y
  ·subst e;exact aa (aa (aa (aa rfl (Ev r t)) (if_pos rfl)) (if_pos rfl)) (kY ..)
  ·exact aa (aa rfl (if_neg fun q=>e (l8.mp q).symm)) (if_neg fun q=>e (l8.mp q))
theorem QF:bU (ey q p) (eh q p)=false:=by delta ey eh;cases h:bU p q<;>cases H:bU q p<;>simp<;>first|exact U6 _|assumption
theorem ES:cX (eh q p) (ey q p)=cX q p:=by
 delta ey eh;cases h:bU p q<;>cases H:bU q p<;>simp
 ·exact aa rfl (Hd h H)
 ·exact Ev p q
 ·obtain H:=(Ae h)▸H;trivial
theorem yR:∀a b:List Str,∃i,cX a b=a.take i
 |[],[]=>⟨0,rfl⟩
 |[],_::_=>⟨0,rfl⟩
 |_::_,[]=>⟨0,rfl⟩
 |x::r,y::t=>by
  simp only[cX];split
  ·exact oE (yR r t) fun i e=>⟨i+1,by refine aa ?_ e;rfl⟩
  ·exact⟨0,rfl⟩
theorem yQ:∀{a b:List Str},cX b a=a↔∃i,b.take i=a
 |[],b=>⟨fun Y=>⟨0,rfl⟩,fun Y=>(by clear Y;cases b<;>rfl)⟩
 |x::r,[]=>⟨fun h=>(by contradiction),fun⟨i,h⟩=>(by obtain h:=Jt▸h;assumption)⟩
 |x::r,y::t=>by
  simp only[cX];constructor
  ·intro h;split at h
   ·rename_i e;obtain rfl:=l8.mp e;obtain⟨i,D⟩:=yQ.mp (kx h).2;exact⟨i+1,by exact aa (aa rfl D) Ju⟩
   ·trivial
  ·rintro⟨i,h⟩;cases i with
   |zero=>trivial
   |succ i=>exact TJ x (kx h) fun H=>aa (aa (aa rfl (yQ.mpr ⟨i,H⟩)) (if_pos rfl)) (kY ..)
theorem qD:jx p q=true↔∃i,i<q.length/\q.take i=p:=by
 delta jx;rw[IZ,Jo];constructor
 ·rintro⟨i,D,e⟩;have:=mT.mp D;exact⟨i.toNat,(rm this.1).mpr this.2,e⟩
 ·rintro⟨i,D,e⟩;exact⟨(i:Int),mT.mpr ⟨lj _,Int.ofNat_lt.mpr D⟩,e⟩
theorem FY(h:jx p q=true):p.length<q.length:=by refine fw p (qD.mp h) fun i D=>?_;exact aa (dW (JB ..) D) A7
theorem Sz(h:jx p q=true)(H:jx q r=true):jx p r=true:=by refine fw p (qD.mp h) fun i D=>?_;refine aH (qD.mp H) fun j A t=>?_;clear h H A;subst t;obtain D:=A7▸D;exact qD.mpr ⟨i,tY D (Bl ..),aa (aa rfl (Bk (fh (tY D (JB ..))))) List.take_take⟩
theorem FC(b:Nm p)(n:Nm q)(h:aM p=aM q):p=q:=aU (aU (aa rfl h) n.sf) b.sf
theorem Ve:N40.all (fun l=>(iE 4).all fun i=>N40.contains (l.take i))=true:=by rfl
theorem Bc(h:l∈N40)(i:Nat):l.take i∈N40:=by
 rcases lp i 4 with D|D
 ·simpa using List.all_eq_true.mp (List.all_eq_true.mp Ve l h) i (List.mem_range.mpr D)
 ·rw[pg (by exact aP [_,_] (.l af lc) (.l fe aj) (.l af aj) tU ((lW h).len) D)];exact h
theorem Mf(a:p∈N40)(r:q∈N40):(!cF (aM p) (aM q)&&cF (aM (cX q p)) (aM p))=jx p q:=by
 have c:cX q p∈N40:=by obtain⟨i,e⟩:=yR q p;rw[e];exact Bc r i
 rw[AM,kr,Iu,l8,qD];have f:cF (aM p) (aM q)=false↔p≠q:=by rw[<- rb,l8];exact⟨fun h e=>h (by rw[e]),fun h e=>h (FC (lW a) (lW r) e)⟩
 rw[f,(⟨FC (lW c) (lW a),fun e=>by rw[e]⟩:aM _=aM p↔cX q p=p),yQ];constructor
 ·rintro⟨h,i,e⟩;rcases lp i q.length with D|D
  ·exact⟨i,D,e⟩
  ·rw[pg D] at e;exact absurd e.symm h
 ·rintro⟨i,D,e⟩;exact⟨fun h=>cQ (FY (qD.mpr ⟨i,D,e⟩)) (congrArg rx h),i,e⟩
theorem Mg{s:List O}(a:p∈N40)(r:q∈N40):az (k+2) 303 [.lst [.str (aM q),.str (aM p)]] s=some (.ret (.str (aM (cX q p))),s):=by
 have c:cX q p∈N40:=by obtain⟨i,e⟩:=yR q p;refine aa ?_ e;exact Bc r i
 refine aa ?_ (Ma (lW r) (lW a) QF (by refine aa ?_ ES;exact lW c));refine aa ?_ ES;rfl
def Ed(ah:Int->List Int)(one two:Int)(S F:List Int)(x y:Int):Prop:=x∈ah y∨(y=one/\one∈S/\x∈S/\x≠one)∨(y=two/\two∈F/\x∈F/\x≠two)
structure wH(ah:Int->List Int)(dep:Int->Nat):Prop where
 tr:∀a b c,a∈ah b->b∈ah c->a∈ah c
 lt:∀a b,a∈ah b->dep a<dep b
 small:∀a,dep a<100
noncomputable def l3(ah:Int->List Int)(one two:Int)(S F:List Int):List Int:=(S.filter fun m=>(ah m).contains one)++F.filter fun m=>(ah m).contains two
noncomputable def gX(ah:Int->List Int)(one two:Int)(F:List Int):List Int:=F.filter fun m=>!decide (m=two)&&(decide (m=one)||(ah m).contains one)
def o5(ah:Int->List Int)(one two:Int)(S F:List Int):Prop:=l3 ah one two S F≠[]∨(gX ah one two F≠[]/\gX ah two one S≠[])
noncomputable def vf(ah:Int->List Int)(one two x:Int):Nat:=if x=one∨one∈ah x then 200 else if x=two∨two∈ah x then 100 else 0
theorem Go{t:Int}{g:List Int}(H:wH ah d)(a:∀x∈g,one∉ah x)(c:∀x∈F,t∉ah x)(C:∀x∈F,x≠t->¬ (x=one∨one∈ah x)):∃f:Int->Nat,∀x y,Ed ah one t g F x y->f x<f y:=by
 refine⟨fun x=>vf ah one t x+d x,fun x y h=>?_⟩;have s:=H.small x;refine(?_:vf ah one t x+d x<vf ah one t y+d y);delta vf;rcases h with h|⟨e,A,b,i⟩|⟨e,A,b,i⟩
 ·by_cases c1:x=one∨one∈ah x
  ·refine aa (aa ?_ (if_pos (.inr (c1.elim (fun e=>e▸h) fun e=>(H.tr one x y) e h)))) (if_pos c1);exact jO (H.lt x y h) _
  ·refine aa ?_ (if_neg c1);by_cases c2:x=t∨t∈ah x
   ·have d2:y=t∨t∈ah y:=.inr (c2.elim (fun e=>e▸h) fun e=>(H.tr t x y) e h);refine aa ?_ (if_pos c2);split
    ·exact aJ [_,_] (.l aF cj) (.l (.a (.a cj af) aI) (.a (.n 200) aj)) tU s
    ·first|exact jO (H.lt x y h) _|(rfl)
   ·refine aa ?_ (if_neg c2);exact aJ [_,_,_] (.l aF aj) (.l (.a (.a (.n 0) af) aI) (.a aA aj)) tU (H.lt x y h)
 ·refine aa (aa (aa ?_ (if_pos (show one=one∨one∈ah one from .inl rfl))) (if_neg (fun q:x=one∨one∈ah x=>q.elim i (a x b)))) e;split<;>(first|exact aJ [_,_] (.l aF cj) (.l (.a (.a cj af) aI) (.a (.n 200) aj)) tU s|exact aJ [_,_] (.l aF cj) (.l (.a (.a (.n 0) af) aI) (.a (.n 200) aj)) tU s|omega)
 ·refine aa (aa (aa (aa ?_ (if_pos (show t=t∨t∈ah t from .inl rfl))) (if_neg (fun q:x=t∨t∈ah x=>q.elim i (c x b)))) (if_neg (C x b i))) e;split<;>(first|exact aJ [_,_] (.l aF cj) (.l (.a (.a (.n 0) af) aI) (.a (.n 200) aj)) tU s|exact aJ [_,_] (.l aF cj) (.l (.a (.a (.n 0) af) aI) (.a cj aj)) tU s|omega)
theorem RC{t:Int}{s:List Int}(h:l3 ah one t s F=[]):(∀x∈s,one∉ah x)/\∀x∈F,t∉ah x:=oA (List.append_eq_nil_iff.mp h) fun a H=>⟨fun x b q=>by have:=List.filter_eq_nil_iff.mp a x b;simp[q] at this,fun x b q=>by have:=List.filter_eq_nil_iff.mp H x b;simp[q] at this⟩
theorem Hy{t:Int}(h:gX ah one t F=[]):∀x∈F,x≠t->¬ (x=one∨one∈ah x):=fun x b i q=>by have:=List.filter_eq_nil_iff.mp h x b;simp[i] at this;exact q.elim this.1 this.2
theorem MB{t:Int}{s:List Int}(h:Ed ah one t s F x y):Ed ah t one F s x y:=h.imp id fun h=>h.symm
section
variable {ah:Int->List Int}{dep f:Int->Nat}{one two:Int}{S F:List Int}
theorem Ti(H:wH ah dep)(h:¬ o5 ah one two S F):∃f:Int->Nat,∀x y,Ed ah one two S F x y->f x<f y:=by
 delta o5 at h;rw[not_or] at h;refine oA (RC (Classical.not_not.mp h.1)) fun a b=>?_;by_cases p:gX ah one two F=[]
 ·exact Go H a b (Hy p)
 ·obtain⟨f,o⟩:=Go H b a (Hy (Classical.not_not.mp fun q=>h.2 ⟨p,q⟩));exact⟨f,fun x y e=>o x y (MB e)⟩
end
theorem J7{f:Int->Nat}(C:∀x y,R x y->f x<f y):∀{l:List Int}{v w:Int},ny R (v::l++[w])->f v<f w:=by
 intro p;induction p with
 |nil=>intro v w h;exact C _ _ h.1
 |cons a r I=>intro v w h;exact Bj (C _ _ h.1) (I h.2)
theorem QZ{f:Int->Nat}(o:∀x y,y∈su x->f x<f y)(h:lv su R):False:=by refine gb h.ex fun v l e Y=>?_;have:=h.adj;exact jQ _ (J7 o (aU this e))
noncomputable def rk:List Int->Int->Nat
 |[],_=>0
 |_::r,x=>if x∈r then rk r x else r.length+1
theorem Gx:∀(l:List Int)(x:Int),rk l x<=l.length
 |[],_=>ck _
 |u::r,x=>by refine(?_:(if x∈r then rk r x else r.length+1)<=_);have:=Gx r x;split<;>simp<;>exact mz this
theorem Gy:∀{l:List Int}{x y:Int},lh su l->x∈l->y∈su x->rk l y<rk l x
 |u::r,x,y,h,b,A=>by
  by_cases Q:x∈r
  ·have:=Gy h.2 Q A;have a:y∈r:=by
    rcases Classical.em _ with q|q
    ·exact q
    ·exfalso;exact q (fin_closed h.2 Q A)
   rewrite[rk,rk];refine aa (aa ?_ (if_pos a)) (if_pos Q);trivial
  ·obtain W:=(List.mem_cons.mp b).resolve_right Q;subst W;rewrite[rk,rk];refine aa (aa ?_ (if_pos (h.1 y A))) (if_neg Q);have:=Gx r y;exact kA this
where fin_closed:∀{l:List Int}{x y:Int},lh su l->x∈l->y∈su x->y∈l
 |u::r,x,y,h,b,A=>by
  rcases List.mem_cons.mp b with rfl|b
  ·exact bD _ (h.1 y A)
  ·exact bD _ (fin_closed h.2 b A)
theorem Mh{two:Int}{S fin:List Int}{K:Int->Prop}(D:∀x y,K y->Ed ah one two S F x y->y∈su x)(i:∀x∈S,K x)(g:∀x∈F,K x)(o:∀a,a∉ah a)(l:S=[]∨one∈S)(W:F=[]∨two∈F)(A:lh su fin)(z:∀x y,y∈su x->x∈fin)(h:o5 ah one two S F):False:=by
 have lt:=fun x y k e=>Gy A (z x y (D x y k e)) (D x y k e);have n:∀s∈S,one∈S:=fun s t=>l.resolve_left fun q=>by obtain t:=q▸t;exact cq t
 have j:∀s∈F,two∈F:=fun s t=>W.resolve_left fun q=>by obtain t:=q▸t;exact cq t
 clear D l W;rcases h with h|⟨v,H⟩
 ·have h:(S.filter fun m=>(ah m).contains one)≠[]∨(F.filter fun m=>(ah m).contains two)≠[]:=by
   by_cases q:(S.filter fun m=>(ah m).contains one)=[]
   ·exact .inr fun C=>h (by delta l3;refine aa (aa ?_ C) q;rfl)
   ·exact .inl q
  rcases h with h|h
  ·obtain⟨s,t⟩:=wQ _ h;obtain⟨t,b⟩:=List.mem_filter.mp t;have b:=by simpa using b
   have u:=lt one s (i s t) (.inl b);exact Bi u (lt s one (i one (n s t)) (.inr (.inl ⟨rfl,n s t,t,by rintro rfl;exact o _ b⟩)))
  ·obtain⟨s,t⟩:=wQ _ h;obtain⟨t,b⟩:=List.mem_filter.mp t;have b:=by simpa using b
   have u:=lt two s (g s t) (.inl b);have w:=lt s two (g two (j s t)) (.inr (.inr ⟨rfl,j s t,t,by rintro rfl;exact o _ b⟩));exact Bi u w
 ·refine oE (wQ _ v) fun m c=>?_;refine oE (wQ _ H) fun f d=>?_;refine oA (List.mem_filter.mp c) fun c c1=>?_;refine oA (List.mem_filter.mp d) fun d c2=>?_;simp only[kr,Iu,decide_eq_false_iff_not,wC,decide_eq_true_eq,IZ] at c1 c2;have w:=lt f one (i one (n f d)) (.inr (.inl ⟨rfl,n f d,d,c2.1⟩));have u:=lt m two (g two (j m c)) (.inr (.inr ⟨rfl,j m c,c,c1.1⟩));have p:rk fin m<=rk fin one:=c1.2.elim (by refine aa ?_;exact ck _) fun e=>fh (lt one m (g m c) (.inl e));have r:rk fin f<=rk fin two:=c2.2.elim (by refine aa ?_;exact ck _) fun e=>fh (lt two f (i f d) (.inl e));exact qh [_,_,_,_] (.l aF aj) (.l aj aA) (.l cI aY) (.l aY af) .f tU u p w r
theorem Ry{f:Int->Nat}(O:pn k bf order)(o:∀x y,x∈bf y->f x<f y)(j:∀x y,x∈bf y->x∈k):∀x,x∈order↔x∈k:=by
 have i:∀N x,f x<N->x∈k->x∈order:=fun N=>by
  induction N with
  |zero=>exact fun x h=>absurd h (wZ _)
  |succ N I=>intro x b H;exact Classical.not_not.mp fun v=>aH (O.max x H v) fun p e a=>a (I p (by have:=o p x e;exact aP [_,_,_] (.l aF aj) (.l bI cI) (.l aF aA) tU this b) (j p x e))
 exact fun x=>⟨O.sub x,i _ x (mA _)⟩
theorem DH{g:Int->Option Int}:∀(l:List Int)(w:Option Int),(∀m∈l,g m=none)->l.foldl (fun w m=>(g m).or w) w=w:=by
 intro p;induction p with
 |nil=>intro _ _;rfl
 |cons m r I=>intro w h;refine aa (aa ?_ (h m bK)) lm;exact I w fun x b=>h x (bD _ b)
theorem PV(hd:order.Nodup)(p:one∈order)(h:(g one).isSome=true)(c:iG bf order)(hb:∀x∈order,(g x).isSome=true->x≠one->x∈bf one):fU g order=g one:=by
 refine dy (List.append_of_mem p) fun l r e=>?_;clear p;subst e;have Q:∀m∈r,g m=none:=fun m a=>by
  cases q:g m with
  |none=>rfl
  |some i=>
   exfalso;have b:m≠one:=by rintro rfl;exact(List.nodup_cons.mp (List.nodup_append.mp hd).2.1).1 a
   have:=c l.length one (by rw[ru (ck _),tZ];rfl) m (hb m (by simp[a]) (by refine aa ?_ q;rfl) b);obtain this:=(Js rfl)▸this;exact(List.nodup_append.mp hd).2.2 m this m (bD _ a) rfl
 delta fU;refine aa (aa (aa ?_ (DH r _ Q)) lm) List.foldl_append;cases q:g one with
 |none=>obtain h:=q▸h;trivial
 |some i=>rfl
def Ak(k:K):List (M Fl):=[aS (c2 B2.max (cC (V.int 5)) (c2 B2.min (cC (V.int 6)) (c1 B1.len (ac 0 0)))) (Tgt.name 1),
  aS
   (bN false 5
    (cT .Add (c1 B1.sum (dg (dg (ac 1 0) (cC V.none) (cC (V.int 60)) (cC V.none)) (ac 0 1) (cC V.none) (ac 1 1)))
     (aX (bY false [cC (V.int 3372),cC (V.int 798),cC (V.int 3187),cC (V.int 3287),cC (V.int 1298),cC (V.int 0)]) (ac 0 1)))
    (j5 (ac 0 1)) { tgt:=Tgt.name 1,ifs:=[] } [])
   (Tgt.name 2),
  aS (bN false 3 (ct k 308 [(false,ac 0 1)]) (iV (ac 0 2)) { tgt:=Tgt.name 1,ifs:=[] } []) (Tgt.name 3),aS (kD (j5 (c1 B1.len (ac 0 3)))) (Tgt.name 4),
  aS
   (bN false 4 (ct k 298 [(false,ct k 284 [(false,cC (V.str "/")),(true,aX (ac 0 1) (cC (V.int 0)))])]) (iV (ac 0 3)) { tgt:=Tgt.name 1,ifs:=[] } [])
   (Tgt.name 5),
  bW
   (aO .NotEq (ac 0 5)
    (bN false 2 (cT .Add (cC (V.str "/")) (bJ k bc "join" (cC (V.str "/")) [(false,aX (ac 0 1) (cC (V.int 1)))])) (iV (ac 0 3)) { tgt:=Tgt.name 1,ifs:=[] } []))
   (au [cA (cC (V.bool false))]) (au [])]
def xj:M Bool:=aO .In (aX (aX (ac 2 3) (ac 0 1)) (cC (V.int 1)))
         (bN false 3 (dg (aX (ac 2 1) (cC (V.int 1))) (cC V.none) (ac 0 1) (cC V.none)) (j5 (c1 B1.len (aX (ac 1 1) (cC (V.int 1))))) { tgt:=Tgt.name 1,ifs:=[] } [])
def uw(k:K):M Bool:=ge [aO .NotEq (aX (ac 2 5) (ac 0 1)) (ac 1 1),aO .Eq (ct k 303 [(false,bY false [ac 1 1,aX (ac 2 5) (ac 0 1)])]) (aX (ac 2 5) (ac 0 1))]
def Al(k:K):List (M Fl):=[
  aS (bN false 4 (bN false 6 (ac 0 1) (iV (ac 1 4)) { tgt:=Tgt.name 1,ifs:=[xj] } []) (iV (ac 0 3)) { tgt:=Tgt.name 1,ifs:=[] } []) (Tgt.name 7),
  bW (aO .NotEq (bN false 4 (bN false 5 (ac 0 1) (iV (ac 1 4)) { tgt:=Tgt.name 1,ifs:=[uw k] } []) (iV (ac 0 5)) { tgt:=Tgt.name 1,ifs:=[] } []) (ac 0 7))
   (au [cA (cC (V.bool false))]) (au []),
  aS
   (bN false 4 (ct k 313 [(false,ac 0 1),(false,aX (aX (ac 1 3) (ac 0 1)) (cC (V.int 2))),(false,aX (aX (ac 1 3) (ac 0 1)) (cC (V.int 3)))])
    (iV (ac 0 4)) { tgt:=Tgt.name 1,ifs:=[] } [])
   (Tgt.name 8),
  aS (bN false 3 (ct k 320 [(false,ac 0 1)]) (iV (ac 0 8)) { tgt:=Tgt.name 1,ifs:=[] } []) (Tgt.name 9)]
section
variable {α:Type}{st:List O}{fr:List (Option V)}{fs:List (List (Option V))}{a:M V}{r:Str}{p:List Str}
theorem SX{a:M V}{r p:α->V}{Q:Nat}:∀{l:List α}{acc:List V}{fr:List (Option V)},fr.length=Q->
  (∀i∈l,∀fr:List (Option V),fr.length=Q->a ⟨fr.set 1 (some (r i))::fs,st⟩=some (p i,⟨fr.set 1 (some (r i))::fs,st⟩))->acc.length+l.length<=sizeMax->
  ∃fr',jk (.name 1) (fun acc=>fm [] (iJ im a [] acc) (pure acc)) (l.map r).length (.vals (l.map r)) acc ⟨fr::fs,st⟩=some (acc++l.map p,⟨fr'::fs,st⟩):=by
 intro l00;induction l00 with
 |nil=>intro acc fr hf h hl;exact⟨fr,by refine(?_:_=some (acc++[],_));refine aa ?_ (dT ..);rfl⟩
 |cons i l ih=>intro acc fr hf h hl;obtain hl:=hl;obtain⟨fr',e⟩:=ih (acc:=acc++[p i]) (fr:=fr.set 1 (some (r i))) (by refine aa ?_ df;trivial) (fun j hj=>h j (bD _ hj)) (by simp;exact bb (dU (mB ..)) hl);refine⟨fr',?_⟩;obtain e:=(iB ..)▸e;exact ao rfl (ao rfl (ao (m7 (h i bK fr hf) (dW (hw ..) hl)) e))
end
section
variable {α:Type}{σ:S}{fr:List (Option V)}{q:List Str}
theorem oF{q:Nat}{l:List α}(h:first σ=some (((l.map R).length,.vals (l.map R)),σ))
  (hg:∀i∈l,∀fr:List (Option V),fr.length=q->elt ⟨fr.set 1 (some (R i))::σ.fs,σ.st⟩=some (P i,⟨fr.set 1 (some (R i))::σ.fs,σ.st⟩)) (hl:l.length<=sizeMax):
  bN false q elt first ⟨.name 1,[]⟩ [] σ=some (.lst (l.map P),σ):=oE (SX Ji hg (jO hl _)) fun fr' e=>ao (ao h (ao rfl (ao e (ao rfl rfl)))) rfl
end
noncomputable def eT(L:Nat):Nat:=if L<6 then 5 else 6
noncomputable def mJ:List Int:=[3372,798,3187,3287,1298,0]
def dw(Ws:List Int)(n:Nat)(i:Int):Int:=((qQ (il (ez (ez Ws none (some 60) none) (some i) none (some (n:Int)))) 0).getD 0)+mJ.getD i.toNat 0
def tr(m:Int):T3:=(d0 m,d1 m,d3 m)
def gd(m:Int):V:=wa (tr m) (d2 m) (d4 m)
theorem za(h:0<=i/\i<6):i∈dig6:=by obtain⟨n,rfl⟩:=wJ h.1;exact(by decide:∀n:Fin 6,(n:Int)∈dig6) ⟨n,Int.ofNat_lt.mp h.2⟩
theorem tt(m:Int):tr m∈trips:=List.mem_flatMap.mpr ⟨_,(za (jZ (by decide))),List.mem_flatMap.mpr ⟨_,(za (jZ (by decide))),List.mem_map.mpr ⟨_,(za (jZ (by decide))),rfl⟩⟩⟩
theorem L3{L:Nat}:(nS .min (.int 6) (.int L)).bind (nS .max (.int 5))=some (.int (eT L)):=by
 refine(?_:some _=_);delta eT;by_cases h:L<6
 ·rw[if_pos h,if_pos (show(L:Int)<6 by exact Int.ofNat_lt.mpr ‹_›),if_neg (show ¬ (L:Int)>5 from fun q=>Nat.not_lt.mpr (wY h) (Int.ofNat_lt.mp q))];rfl
 ·rw[if_neg h,if_neg (show ¬ (L:Int)<6 from fun q=>h (Int.ofNat_lt.mp q))];rfl
abbrev F0(Ws:List Int):List (Option V):=some (iL Ws)::jN 36 none
abbrev NM(Ws:List Int)(i:Int):Int:=dw Ws (eT Ws.length) i
abbrev NS(Ws:List Int)(i:Int):List Str:=bS (tr (NM Ws i))
theorem Mk{st:List O}(hn:n<=6)(h:i∈aG n):fR st (iL mJ) (.int i)=some (.int (mJ.getD i.toNat 0)):=by have h:=mT.mp h;have hl:i.toNat<mJ.length:=(rm h.1).mpr (rl h.2 (Int.ofNat_le.mpr hn));have:=jn (st:=st) (v:=.int (mJ.getD i.toNat 0)) (by rw[gY,eR,iC hl];rfl);exact pa h.1▸this
theorem CH:5<=eT L/\eT L<=6:=by delta eT;split<;>(first|exact⟨(ck _),(jP _)⟩|exact⟨(jP _),(ck _)⟩|omega)
theorem RL(hs:Ws.length<=63):au (Ak (az 5)) ⟨[F0 Ws],[]⟩=some (.next,⟨[(((((F0 Ws).set 1 (some (.int (eT Ws.length)))).set 2 (some (iL ((aG (eT Ws.length)).map (NM Ws))))).set 3 (some (.lst ((aG (eT Ws.length)).map fun i=>gd (NM Ws i))))).set 4 (some (iL (aG (eT Ws.length))))).set 5 (some (.lst ((aG (eT Ws.length)).map fun i=>.str (aM (NS Ws i)))))],[]⟩):=by
 refine oA (CH (L:=Ws.length)) fun n5 n6=>?_;refine oE (Option.bind_eq_some_iff.mp (L3)) fun mn hmn=>aw (a9 (qE rfl (qE rfl (ei rfl (by refine(?_:some _=_);exact aa rfl (bl ..))) hmn.1) hmn.2)) ?_;generalize hn:eT Ws.length=n at n5 n6 ⊢;have Wx:(aG n).length<=sizeMax:=by refine aa ?_ d6;exact bb n6 (by decide)
 have c1:=sW (a:=⟨[(F0 Ws).set 1 (some (.int n))],[]⟩) (q:=5) (l:=aG n) (f:=fun i=>.int (dw Ws n i))
  (elt:=cT .Add (c1 B1.sum (dg (dg (ac 1 0) (cC V.none) (cC (V.int 60)) (cC V.none)) (ac 0 1) (cC V.none) (ac 1 1))) (aX (bY false [cC (V.int 3372),cC (V.int 798),cC (V.int 3187),cC (V.int 3287),cC (V.int 1298),cC (V.int 0)]) (ac 0 1)))
  (first:=j5 (ac 0 1)) (by
   have:=vW (b:=⟨[(F0 Ws).set 1 (some (.int n))],[]⟩) (a:=ac 0 1) (n:=(n:Int)) rfl ⟨rl (by decide) (lj _),Int.ofNat_lt.mpr (dW n6 (by decide))⟩;refine aa (aa (aa (aa ?_ d6) (bl ..)) v1) this;rfl) (fun i hi fr hf=>by
   have hi':=mT.mp hi;have g:ac 0 1 ⟨fr.set 1 (some (.int i))::[(F0 Ws).set 1 (some (.int n))],[]⟩=some (.int i,⟨fr.set 1 (some (.int i))::[(F0 Ws).set 1 (some (.int n))],[]⟩):=cz hf (by decide);have s1:kh [] (iL Ws) .none (.int 60) .none=some (iL (ez Ws none (some 60) none)):=by refine(?_:(some (ez (il Ws) none (some 60) none)).map V.lst=_);refine aa ?_ (FG ..);rfl
   have s2:kh [] (iL (ez Ws none (some 60) none)) (.int i) .none (.int n)=some (iL (ez (ez Ws none (some 60) none) (some i) none (some (n:Int)))):=by refine(?_:(if(some (n:Int))≠some 0 then some (ez (il (ez Ws none (some 60) none)) (some i) none (some (n:Int))) else none).map V.lst=_);rw[if_pos (show some (n:Int)≠some 0 from fun q=>gi (tY (by decide) n5) (AZ (aR q))),FG];rfl
   refine oE (U9 (ez (ez Ws none (some 60) none) (some i) none (some (n:Int))) 0) fun su hsu=>?_;refine eN (x:=.int su) (y:=.int (mJ.getD i.toNat 0)) (ei (gv (gv (cY rfl) rfl rfl rfl s1) g rfl (cY rfl) s2) (by refine(?_:(qQ _ 0).bind _=_);refine aa ?_ hsu;rfl)) (bH (x:=iL mJ) (eO (bv rfl (bv rfl (bv rfl (bv rfl (bv rfl (bv rfl ci)))))) (bC rfl)) g (Mk n6 hi)) ?_;refine(?_:some (V.int (su+mJ.getD i.toNat 0))=_);unfold dw;refine aa ?_ hsu;rfl) Wx
 refine aw (a9 c1) ?_;have c2:=oF (σ:=⟨[((F0 Ws).set 1 (some (.int n))).set 2 (some (.lst ((aG n).map fun i=>.int (dw Ws n i))))],[]⟩) (q:=3) (l:=aG n) (R:=fun i=>.int (dw Ws n i)) (P:=fun i=>gd (dw Ws n i)) (elt:=ct (az 5) 308 [(false,ac 0 1)]) (first:=iV (ac 0 2)) (cb rfl rfl)
  (fun i hi fr hf=>dA (fs:=fr.set 1 (some (.int (dw Ws n i)))::_) (bx (bu (cz hf (by decide)) bz) rfl) (Tk (k:=4) _)) Wx
 refine aw (a9 c2) ?_;refine aw (a9 (v:=iL (aG n)) (fr:=(((F0 Ws).set 1 (some (.int n))).set 2 (some (.lst ((aG n).map fun i=>.int (dw Ws n i))))).set 3 (some (.lst ((aG n).map fun i=>gd (dw Ws n i))))) (vX (vW (n:=(n:Int)) (ei rfl (by refine(?_:some (V.int _)=_);exact aa (aa rfl d6) (bl ..))) ⟨rl (by decide) (lj _),Int.ofNat_lt.mpr (dW n6 (by decide))⟩) (by refine aa ?_ v1;exact if_pos (by refine aa ?_ (bl ..);exact Wx)))) ?_;have c3:=oF (σ:=⟨[((((F0 Ws).set 1 (some (.int n))).set 2 (some (.lst ((aG n).map fun i=>.int (dw Ws n i))))).set 3 (some (.lst ((aG n).map fun i=>gd (dw Ws n i))))).set 4 (some (iL (aG n)))],[]⟩) (q:=4) (l:=aG n) (R:=fun i=>gd (dw Ws n i)) (P:=fun i=>.str (aM (bS (tr (dw Ws n i)))))
  (elt:=ct (az 5) 298 [(false,ct (az 5) 284 [(false,cC (V.str "/")),(true,aX (ac 0 1) (cC (V.int 0)))])]) (first:=iV (ac 0 3)) (cb rfl rfl)
  (fun i hi fr hf=>by
   have hp:∀x∈gP (tr (dw Ws n i)),x.length<=2:=fun x hx=>by
    have WA:∀x∈pcsAll,x.length<=2:=by decide +kernel
    refine WA x ?_;unfold gP at hx;rcases List.mem_cons.mp hx with rfl|hx
    ·exact qB (jZ (by decide))
    ·rcases List.mem_cons.mp hx with rfl|hx
     ·exact qB (jZ (by decide))
     ·refine aa ?_ (List.mem_singleton.mp hx);exact qB (jZ (by decide))
   have C:=rX (tt (dw Ws n i));refine dA (fs:=fr.set 1 (some (gd (dw Ws n i)))::_) (bx (bu (dA (fs:=fr.set 1 (some (gd (dw Ws n i)))::_) (bx (bu rfl (Gg (bH (cz hf (by decide)) rfl rfl) rfl bz)) rfl) ?_) bz) rfl) (Q5 (k:=2) C);refine aa ?_ (dT ..);exact PD (k:=3) hp) Wx
 refine aw (a9 c3) ?_;have c4:=oF (σ:=⟨[(((((F0 Ws).set 1 (some (.int n))).set 2 (some (.lst ((aG n).map fun i=>.int (dw Ws n i))))).set 3 (some (.lst ((aG n).map fun i=>gd (dw Ws n i))))).set 4 (some (iL (aG n)))).set 5 (some (.lst ((aG n).map fun i=>.str (aM (bS (tr (dw Ws n i)))))))],[]⟩) (q:=2) (l:=aG n) (R:=fun i=>gd (dw Ws n i)) (P:=fun i=>.str (aM (bS (tr (dw Ws n i)))))
  (elt:=cT .Add (cC (V.str "/")) (bJ (az 5) bc "join" (cC (V.str "/")) [(false,aX (ac 0 1) (cC (V.int 1)))])) (first:=iV (ac 0 3)) (cb rfl rfl)
  (fun i hi fr hf=>by have N:=(rX (tt (dw Ws n i))).N;refine eN rfl (eP (fs:=fr.set 1 (some (gd (dw Ws n i)))::_) (v:=.str (pB "/" (bS (tr (dw Ws n i))))) rfl rfl rfl (bx (bu (bH (cz hf (by decide)) rfl rfl) bz) rfl) ?_) (zF N);refine(?_:(qb "/" (sl (bS (tr (dw Ws n i))))).bind _=_);refine aa ?_ (yO N.len N.sh);rfl) Wx
 have okp:dD 6 (.lst ((aG n).map fun i=>V.str (aM (bS (tr (dw Ws n i))))))=true:=by refine(?_:(nH _ _).all (dD 5)=true);exact List.all_eq_true.mpr fun v hv=>by refine fw v (List.mem_map.mp hv) fun i hi=>?_;exact vA (rX (tt (dw Ws n i))).N.pok
 exact aw (bP (r:=false) (bh rfl c4 (sM okp)) bo) (by
  clear hs n5 n6 Wx c1 c2 c3 c4 okp;subst hn;have e:iL ((aG (eT Ws.length)).map (NM Ws))=.lst ((aG (eT Ws.length)).map fun i=>V.int (dw Ws (eT Ws.length) i)):=by refine(?_:V.lst (nH _ (nH _ _))=_);refine aa ?_ gB;rfl
  refine aa ?_ e;rfl)
def cZ(n:Nat)(num:Int->Int)(i:Int):List Int:=(aG n).filter fun j=>jx (bS (tr (num j))) (bS (tr (num i)))
def gR(num:Int->Int)(m:Int):En:=zI m (d2 (num m)) (d4 (num m))
theorem Dd:∀a b:List Str,pr (pys (sl a)) (pys (sl b))=(a==b)
 |[],[]=>rfl
 |[],_::_=>rfl
 |_::_,[]=>rfl
 |x::r,y::t=>by refine(?_:pr (.str x::pys (sl r)) (.str y::pys (sl t))=_);rewrite[pr];refine aa ?_ (Dd r t);rfl
theorem VG{ls:List (List Str)}(e:∀t∈p,fL t=true)(c:∀l∈ls,∀t∈l,fL t=true):kj (.lst (sl p)) (ls.map fun l=>.lst (sl l))=some (ls.contains p):=by delta kj;refine aa ?_ (vD e);refine aa ?_ (List.all_eq_true.mpr fun v s=>by exact fw v (List.mem_map.mp s) fun l h=>vD (c l h));refine(?_:some _=_);refine aa (aa ?_ A3) wL;congr 2;funext l;refine(?_:pq (.list _) (.list _)=_);rewrite[pq];refine aa ?_ (Dd ..);exact AL
theorem zl{num:Int->Int}(i:Int):Nm (bS (tr (num i))):=(rX (tt _)).N
theorem tX{n:Int->Int}(i:Int):bS (tr (n i))∈N40:=(rX (tt _)).mem
theorem Kd{st:List O}{num:Int->Int}(h:c[1]?=some (some (.int j)))(H:F[1]?=some (some (gd (num i))))(C:fr0[3]?=some (some (.lst ((aG n).map fun i=>gd (num i)))))(A:j∈aG n):
  xj ⟨c::F::fr0::fs,st⟩=some (jx (bS (tr (num j))) (bS (tr (num i))),⟨c::F::fr0::fs,st⟩):=by
 obtain b:=zl (num:=num) i;obtain comp:=sW (q:=3) (l:=aG (bS _).length) (elt:=dg (aX _ (cC (V.int 1))) (cC V.none) _ (cC V.none)) (first:=j5 _)
  (by have:=vW (b:=⟨c::F::fr0::fs,st⟩) (a:=c1 B1.len (aX _ (cC (V.int 1)))) (ei (bH (cY H) rfl rfl) (by refine(?_:some (V.int _)=_);exact aa rfl (bl ..))) ⟨rl (by decide) (lj _),Int.ofNat_lt.mpr (dW b.len (by decide))⟩;refine aa (aa (aa (aa ?_ d6) (bl ..)) v1) this;rfl)
  (fun s k f o=>by have m:=mT.mp k;have e:=qO (st:=st) (vs:=sl (bS (tr (num i)))) s.toNat;rw[pa m.1,<- wU] at e;exact gv (bH (qJ H) rfl rfl) rfl (cz o (by decide)) rfl e) (by refine aa ?_ d6;have:=b.len;exact z1 rfl this)
 have g:kj (.lst (sl (bS (tr (num j))))) ((aG (bS (tr (num i))).length).map fun s=>V.lst (sl ((bS (tr (num i))).take s.toNat)))=some (jx (bS (tr (num j))) (bS (tr (num i)))):=by
  have:=VG (p:=bS (tr (num j))) (ls:=(aG (bS (tr (num i))).length).map fun s=>(bS (tr (num i))).take s.toNat) (zl (num:=num) j).ok (fun l d t r=>by refine aH (List.mem_map.mp d) fun s Y u=>?_;clear H C comp d Y;subst u;exact b.ok t (wV r))
  obtain this:=gB▸this;exact this
 exact bh (bH (bH (qJ C) (ba h) (f6 (f:=fun i=>gd (num i)) A)) rfl rfl) comp (yz g)
theorem L9{s:List O}{N:Int->Int}(h:a[1]?=some (some (.int j)))(H:F[1]?=some (some (.str (aM (bS (tr (N i)))))))(p:fr0[5]?=some (some (.lst ((aG n).map fun i=>.str (aM (bS (tr (N i))))))))(A:j∈aG n):
  uw (az 5) ⟨a::F::fr0::fs,s⟩=some (jx (bS (tr (N j))) (bS (tr (N i))),⟨a::F::fr0::fs,s⟩):=by
 obtain e:=bH (qJ p) (ba h) (f6 A);refine aU ?_ (Mf (tX j) (tX i));refine jz (bh e (cY H) ne_str) fun Y=>?_;have:=jz (l:=[]) (bh (op:=.Eq) (dA (k:=az 5) (bx (bu (eO (bv (cY H) (bv e ci)) (bC rfl)) bz) rfl) (Mg (tX j) (tX i))) e rfl) fun Y=>rfl;rw[tL] at this;trivial
structure LF(n:Nat)(num:Int->Int)(fr:List (Option V)):Prop where
 len:fr.length=37
 f2:fr[2]?=some (some (iL ((aG n).map num)))
 f4:fr[4]?=some (some (iL (aG n)))
 f7:fr[7]?=some (some (cK n (cZ n num)))
 f8:fr[8]?=some (some (fu n (gR num)))
 f9:fr[9]?=some (some (gT n (gR num)))
theorem Ru:dD 6 (cK n f)=true:=List.all_eq_true.mpr fun v s=>by exact fw v (List.mem_map.mp s) fun i Y=>j9 _
theorem lJ(num:Int->Int)(m:Int):(gR num m).ls=[m]/\(∀t∈(gR num m).ag,fL t=true)/\(gR num m).ag.length<=3:=by
 refine⟨rfl,fun t p=>?_,?_⟩
 ·refine(by decide +kernel:∀t∈(["fig", "Plum", "*"]:List Str),fL t=true) t ?_;have a:t∈gK (d4 (num m)):=by
   rcases List.mem_append.mp p with h|h
   ·exact Jp h
   ·exact wV h
  have e:∀(c:Prop)[Decidable c](s:Str),t∈(if c then _ else[s])->t=s:=fun c Y s h=>by
   split at h
   ·exact(cq h).elim
   ·exact List.mem_singleton.mp h
  rcases List.mem_append.mp a with h|h
  ·refine aa ?_ (e _ _ h);exact bK
  ·rcases List.mem_append.mp h with h|h
   ·refine aa ?_ (e _ _ h);trivial
   ·refine aa ?_ (e _ _ h);trivial
 ·exact aa BG.2 (List.perm_append_comm.length_eq.trans (congrArg _ (List.take_append_drop ..)))
theorem RM(y:n<=6)(e:fr.length=37)(W:fr[2]?=some (some (iL ((aG n).map num))))(C:fr[3]?=some (some (.lst ((aG n).map fun i=>gd (num i)))))(d:fr[4]?=some (some (iL (aG n))))(x:fr[5]?=some (some (.lst ((aG n).map fun i=>.str (aM (bS (tr (num i)))))))):
  ∃fr',au (Al (az 5)) ⟨[fr],[]⟩=some (.next,⟨[fr'],[]⟩)/\LF n num fr':=by
 have B:(aG n).length<=sizeMax:=by refine aa ?_ d6;exact z1 rfl y
 have I:∀(q:Nat) _ (t:M Bool) (P:Int->Bool) (F fr0:List _),fr0[4]?=some (some (iL (aG n)))->(∀j∈aG n,∀f:List _,f.length=q->t ⟨f.set 1 _::F::fr0::[],[]⟩=some _)->
   bN false q _ _ ⟨.name 1,[t]⟩ [] ⟨F::fr0::[],[]⟩=some (iL ((aG n).filter P),⟨F::fr0::[],[]⟩):=fun q hq t P F fr0 h ht=>
  kT (cb (cY h) rfl) ht (fun j A Y f a=>cz a hq) B
 obtain s7:=oF (cb (ba C) rfl)
  (fun i hi f a=>I 6 (by decide) xj _ _ fr d fun j A f2 p=>Kd (by rw[de (by exact p▸bC rfl)]) (by rw[de (by exact aJ [_] (.q af fe) (.l (.a aI aI) af) tU a)]) C A) B
 let b:=fr.set 7 (some (cK n (cZ n num)));have g:∀(k:Nat)(v:Option V)(f:List (Option V))(i:Nat)(o:Option V),i≠k->f[i]?=some o->(f.set k v)[i]?=some o:=fun k v f i o WZ h=>by rw[dO (bB WZ)];exact h
 have s8:=oF (σ:=⟨[b],[]⟩) (q:=4) (l:=aG n) (R:=fun i=>.str (aM (bS (tr (num i))))) (P:=fun i=>iL (cZ n num i)) (elt:=bN false 5 (ac 0 1) (iV (ac 1 4)) { tgt:=Tgt.name 1,ifs:=[uw (az 5)] } []) (first:=iV (ac 0 5)) (cb (ba (g 7 _ _ 5 _ (by decide) x)) rfl)
  (fun i hi f a=>I 5 (by decide) (uw (az 5)) _ _ b (g 7 _ _ 4 _ (by decide) d) fun j A f2 p=>L9 (by rw[de (by exact p▸bC rfl)]) (by rw[de (by exact a▸bC rfl)]) (g 7 _ _ 5 _ (by decide) x) A) B
 have s9:=sW (a:=⟨[b],[]⟩) (q:=4) (l:=aG n) (f:=fun m=>dN (gR num m)) (elt:=ct (az 5) 313 [(false,ac 0 1),(false,aX (aX (ac 1 3) (ac 0 1)) (cC (V.int 2))),(false,aX (aX (ac 1 3) (ac 0 1)) (cC (V.int 3)))]) (first:=iV (ac 0 4)) (cb (ba (g 7 _ _ 4 _ (by decide) d)) rfl)
  (fun m s f a=>by have Q:=mT.mp s;have D:ac 0 1 ⟨f.set 1 (some (.int m))::[b],[]⟩=some (.int m,⟨f.set 1 (some (.int m))::[b],[]⟩):=cz a (by decide);have H:aX (ac 1 3) (ac 0 1) ⟨f.set 1 (some (.int m))::[b],[]⟩=some (gd (num m),⟨f.set 1 (some (.int m))::[b],[]⟩):=bH (cY (g 7 _ _ 3 _ (by decide) C)) D (f6 (f:=fun i=>gd (num i)) s);exact dA (fs:=f.set 1 (some (.int m))::[b]) (bx (bu D (bu (bH H rfl rfl) (bu (bH H rfl rfl) bz))) rfl) (R8 (k:=4) ⟨Q.1,o9 Q.2 (Int.ofNat_lt.mpr (dW y (by decide)))⟩)) B
 have u:b[7]?=some (some (cK n (cZ n num))):=de (by exact e▸bC rfl);let c:=b.set 8 (some (fu n (gR num)));have w:c[8]?=some (some (fu n (gR num))):=de (by refine aa ?_ df;exact e▸bC rfl);have s10:=oF (σ:=⟨[c],[]⟩) (q:=3) (l:=aG n) (R:=fun m=>dN (gR num m)) (P:=fun m=>d5 (gR num m)) (elt:=ct (az 5) 320 [(false,ac 0 1)]) (first:=iV (ac 0 8)) (cb (ba w) rfl)
  (fun m s f a=>dA (fs:=f.set 1 (some (dN (gR num m)))::[c]) (bx (bu (cz a (by decide)) bz) rfl) (To (k:=3) (by have:=(lJ num m).2.2;exact z1 rfl this) (by refine aa ?_ ((lJ num m).1);exact pj _))) B
 refine⟨c.set 9 (some (gT n (gR num))),?_,?_⟩
 ·refine aw (a9 s7) ?_;refine aw (bP (r:=false) (bh s8 (ba u) (sM Ru)) bo) ?_;exact aw (a9 s9) (aw (a9 s10) bo)
 ·have z:c.length=37:=by refine(?_:(A9 (A9 _ _ _) _ _).length=37);refine aa (aa ?_ df) df;exact e
  refine⟨by refine aa ?_ df;exact z,g 9 _ _ 2 _ (by decide) (g 8 _ _ 2 _ (by decide) (g 7 _ _ 2 _ (by decide) W)),g 9 _ _ 4 _ (by decide) (g 8 _ _ 4 _ (by decide) (g 7 _ _ 4 _ (by decide) d)),g 9 _ _ 7 _ (by decide) (g 8 _ _ 7 _ (by decide) u),g 9 _ _ 8 _ (by decide) w,de (by exact z▸bC rfl)⟩
theorem MK:∀(n j:Nat)(h:Nat->List Int),jh j ((iE n).map h)=(iE n).map fun i=>(((j+i:Nat):Int),h i):=by
 intro p;induction p with
 |zero=>intro _ _;rfl
 |succ n I=>intro j h;refine aa (aa (aa (aa (aa ?_ gB) gB) dH) dH) wW;refine(?_:(_,_)::jh _ _=_);refine aa ?_ (I _ _);congr 1;exact ry fun i Y=>congrArg (fun k:Nat=>((k:Int),h (i+1))) (Nat.succ_add_eq_add_succ j i)
theorem C8(f:Int->List Int):jh 0 ((aG n).map f)=(aG n).map fun i=>(i,f i):=by refine aa (aa (aa ?_ gB) (MK ..)) gB;exact ry fun i Y=>by simp
theorem KG{f:Int->List Int}{x:Int}:∀{L:List Int},L.Nodup->dX (L.map fun i=>(i,f i)) x=if x∈L then f x else[]:=by
 intro p;induction p with
 |nil=>intro _;rfl
 |cons i r I=>
  intro h;obtain⟨a,H⟩:=List.nodup_cons.mp h;refine aa (aa (aa ?_ (I H)) rP) dH;by_cases e:x=i
  ·clear h;subst e;exact aa (aa (aa (aa rfl (dT ..)) (if_pos bK)) (if_neg a)) (if_pos rfl)
  ·refine aa (aa ?_ (tV ..)) (if_neg e);by_cases Q:x∈r
   ·exact aa (aa rfl (if_pos (bD _ Q))) (if_pos Q)
   ·exact aa (aa rfl (if_neg fun q=>(List.mem_cons.mp q).elim e Q)) (if_neg Q)
theorem B4{x:Int}:dX (A++B) x=dX A x++dX B x:=by delta dX;exact aa (aa rfl List.flatMap_append) (List.filter_append ..)
theorem Av:iW (A++B)=iW A+iW B:=by delta iW;simp
theorem Vm{f:Int->List Int}(h:∀i,(f i).length<=6):∀L:List Int,iW (L.map fun i=>(i,f i))<=7*L.length:=by
 intro p;induction p with
 |nil=>exact ck _
 |cons i r I=>have:=h i;exact aP [_,_,_] (.l af db) (.l aj (.m 7 aA)) (.l (.a (.a aI af) aj) (.m 7 cI)) tU this (by trivial)
structure i7(st1:List O)(B n:Nat)(Wu:List Int)(np:Int->Int)(su bf:Int->List Int):Prop where
 D:Bd st1 B .none 0 0 Wu np su
 L:Lk np su bf
 ks:∀x,x∈Wu↔x∈aG n
 out:∀x y,x∈bf y->y∈aG n/\x∈aG n
 cl:∀m∈Wu,∀x∈su m,x∈Wu
 len:Wu.length=n
 sul:∀x,(su x).length<=100
 pt:∀seen,ik Wu su [] seen<2000
inductive GQ(n:Nat)(st:List O)(ah:Int->List Int)(wishes:List (Int×List Int)):Prop
 |mk:∀st1 Wu np su bf,az 5 334 [cK n ah,.lst (wishes.map told)] st=some (.ret (.obj st.length),st1)->i7 st1 st.length n Wu np su bf->(∀x∈aG n,bf x=ah x++dX wishes x)->GQ n st ah wishes
theorem GP{st:List O}(v:n<=6)(H:∀i,∀x∈ah i,x∈aG n)(o:∀i,(ah i).length<=6)(u:∀p∈wishes,p.1∈aG n/\∀x∈p.2,x∈aG n)(A:wishes.length<=2)(t:iW wishes<=14):
  GQ n st ah wishes:=by
 have w:iW (jh 0 ((aG n).map ah)++wishes)<=100:=by refine aa (aa ?_ Av) (C8 ..);have:=Vm o (aG n);exact bb (ln (bb this (aa (Bm 7 v) d6)) t) (by decide)
 refine dy (UJ (k:=1) (st:=st) w (by refine aa (aa ?_ d6) (bl ..);exact z1 rfl (ln v A))) fun st1 d hz=>?_;refine dy hz fun np su hz=>?_;refine ju hz fun bf e D L hz=>?_;refine cV hz fun g C s=>?_;rw[C8] at g C;obtain e:=gB▸e;have c:∀x,x∈d↔x∈aG n:=fun x=>by
  rw[g];constructor
  ·rintro⟨p,a,h⟩;rcases List.mem_append.mp a with a|a
   ·obtain⟨i,j,rfl⟩:=List.mem_map.mp a;exact h.elim (fun e=>e▸j) (H i x)
   ·exact h.elim (fun e=>e▸(u p a).1) ((u p a).2 x)
  ·intro h;exact⟨(x,ah x),gZ _ (List.mem_map.mpr ⟨x,h,rfl⟩),.inl rfl⟩
 have z:∀x,bf x=(if x∈aG n then ah x else[])++dX wishes x:=fun x=>by exact aa (aa (aa rfl (KG v7)) B4) (C ..)
 have F:∀x y,x∈dX wishes y->y∈aG n/\x∈aG n:=fun x y h=>by refine aH (List.mem_flatMap.mp h) fun p a b=>?_;obtain⟨a,e⟩:=List.mem_filter.mp a;exact⟨eq_of_beq e▸(u p a).1,(u p a).2 x b⟩
 have q:∀x y,y∈su x↔x∈bf y:=fun x y=>by rw[<- nE,L.su,nE]
 have B:d.length=n:=by rw[<- d6 (n:=n)];exact i6 (mw D.R.nodup fun x=>(c x).mp) (mw v7 fun x=>(c x).mpr)
 have f:∀x y,x∈bf y->y∈aG n/\x∈aG n:=fun x y h=>by
  rw[z] at h;rcases List.mem_append.mp h with h|h
  ·split at h
   ·rename_i P;exact⟨P,H y x h⟩
   ·exact(cq h).elim
  ·exact F x y h
 refine⟨st1,d,np,su,bf,e,⟨D,L,c,f,fun m Y x b=>(c x).mpr (f m x ((q m x).mp b)).1,B,s,fun seen=>?_⟩,fun x b=>by rw[z,if_pos b]⟩;have Q:∀l:List Int,(l.map fun k=>if k∈seen then 0 else 1+(su k).length).sum<=101*l.length:=fun l=>by
  induction l with
  |nil=>exact ck _
  |cons i r I=>simp only[dH,Jq,iD];have:=s i;split<;>(first|exact aJ [_,_] (.l af (.m 101 aj)) (.l (.a (.n 0) af) (.m 101 bI)) tU I|exact aP [_,_,_] (.l af cj) (.l aj (.m 101 aA)) (.l (.a (.a aI af) aj) (.m 101 cI)) tU this I|omega)
 exact dW (Q d) (dW (Bm 101 (B▸v)) (by decide))
theorem iG.sub(h:iG bf order)(k:∀x∈order,∀p∈ah x,p∈bf x):iG ah order:=fun i x e p a=>h i x e p (k x (et e) p a)
theorem LF.set(H:LF n num fr)(j:k≠2/\k≠4/\k≠7/\k≠8/\k≠9):LF n num (fr.set k o):=
 ⟨by refine aa ?_ df;exact H.len,by refine aa ?_ (dO j.1);exact H.f2,by refine aa ?_ (dO j.2.1);exact H.f4,by refine aa ?_ (dO j.2.2.1);exact H.f7,by refine aa ?_ (dO j.2.2.2.1);exact H.f8,by refine aa ?_ (dO j.2.2.2.2);exact H.f9⟩
theorem BH:∀x∈cZ n num i,x∈aG n:=fun x b=>(List.mem_filter.mp b).1
theorem uh(v:n<=6)(i:Int):(cZ n num i).length<=6:=by have:=ky (fun j=>jx (bS (tr (num j))) (bS (tr (num i)))) (aG n);obtain this:=d6▸this;exact bb this v
theorem yp:wH (cZ n num) (fun i=>(bS (tr (num i))).length):=by
 refine⟨fun a b c d H=>?_,fun a b h=>FY (List.mem_filter.mp h).2,fun a=>?_⟩
 ·exact List.mem_filter.mpr ⟨((List.mem_filter.mp d).1),Sz ((List.mem_filter.mp d).2) ((List.mem_filter.mp H).2)⟩
 ·have:=(zl (num:=num) a).len;exact z1 rfl (kA this)
def Am(k:K):List (M Fl):=[aS (ct k 334 [(false,ac 0 7),(false,bY false [])]) (Tgt.name 10),
  bW (gy [aO .NotEq (ct k 341 [(false,ac 0 10)]) (cC (V.str "goes")),
     aO .Is (ct k 356 [(false,ac 0 9),(false,ac 0 8),(false,ac 0 7),(false,ct k 351 [(false,ac 0 10),(false,ac 0 2)])]) (cC V.none)])
   (au [cA (cC (V.bool false))]) (au [])]
theorem i7.hsu(H:i7 st1 B n k np su bf){x y:Int}:y∈su x↔x∈bf y:=by rewrite[<- nE];refine aa ?_ (H.L.su ..);rw[nE]
theorem i7.prep(H:i7 st1 B n k np su bf)(v:n<=6):∃r u,az 4 141 [.obj B] st1=some (r,u)/\Pd u B k np su st1.length (k.filter fun m=>decide (np m=0)) 0 0/\((r=.ret .none/\∃fin,lh su fin/\∀x∈k,x∈fin)∨∃as R,r=.exc (.ref 104) as/\lv su R):=
 SI H.D.R H.D.s H.cl (by refine aa ?_ H.len;exact z1 rfl v) H.pt
theorem i7.order(H:i7 st1 B n k np su bf)(v:n<=6)(D:Pd u B k np su P (k.filter fun m=>decide (np m=0)) 0 0)(c:n<=nums.length):
  ∃order w e a,az 5 351 [.obj B,iL nums] u=some (.ret (iL order),w)/\pn k bf order/\So w B (.obj P) e a:=
 RA D H.L H.cl (by refine aa ?_ H.len;exact z1 rfl v) (fun x=>by have:=H.sul x;exact z1 rfl this) (by refine aa ?_ H.len;trivial)
inductive Bq(n:Nat)(B:Nat)(st1:List O)(bf:Int->List Int)(nums:List Int):Prop
 |mk:∀WV st3 order,az 5 341 [.obj B] st1=some (.ret (.str "goes"),WV)->az 5 351 [.obj B,iL nums] WV=some (.ret (iL order),st3)->order.Nodup->(∀x,x∈order↔x∈aG n)->iG bf order->Bq n B st1 bf nums
theorem i7.goes{f:Int->Nat}(H:i7 st1 B n k np su bf)(v:n<=6)(o:∀x y,x∈bf y->f x<f y)(c:n<=nums.length):
  Bq n B st1 bf nums:=by
 refine fV (H.prep v) fun r u e D q=>dy (H.order v D c) fun order w hz=>dy hz fun Y Y g=>?_;rcases q with⟨rfl,_⟩|⟨_,R,_,Q⟩
 ·exact⟨u,w,order,OU H.D.s e,g.1,g.2.1.nd,fun x=>(Ry g.2.1 o (fun x y h=>(H.ks x).mpr (H.out x y h).2) x).trans (H.ks x),g.2.1.top⟩
 ·exact(QZ (fun x y h=>o x y (H.hsu.mp h)) Q).elim
inductive Br(B:Nat)(st1:List O)(su:Int->List Int)(bf:Int->List Int)(Wu:List Int)(nums:List Int):Prop
 |mk:∀WV st3 st4 WP order,az 5 341 [.obj B] st1=some (.ret (.str "a ring"),WV)->az 5 176 [.obj B] WV=some (.ret (iL WP),st3)->az 5 351 [.obj B,iL nums] st3=some (.ret (iL order),st4)->az 5 341 [.obj B] st4=some (.ret (.str "cannot prepare() more than once"),st4)->lv su WP->pn Wu bf order->∀l,aD WV B=.inst 186 l->Br B st1 su bf Wu nums
theorem i7.ring(H:i7 st1 B n f np su bf)(c:n<=6)(i:∀fin,lh su fin->(∀x∈f,x∈fin)->False)(g:n<=nums.length):
  Br B st1 su bf f nums:=by
 refine fV (H.prep c) fun r u e D q=>?_;rcases q with⟨_,fin,a,b⟩|⟨as,_,rfl,_⟩
 ·exact(i fin a b).elim
 ·have o:=D.lt;refine dy (Dx (k:=4) D.R D.s (aP [_,_,_,_] (.l (.a (.a af aQ) (.m 2 aj)) aA) (.l cI aY) (.l aF aY) tU D.hP o) H.cl (by refine aa ?_ H.len;exact z1 rfl c) H.pt) fun v w hz=>?_;have z:Pd w B f np su st1.length _ 0 0:=⟨D.R.frame (fun j Y h=>hz.2.1 j (eg [_,_,_,_,_] (.l aF (.a (.a aj aQ) (.m 2 aA))) (.l (.a (.a aj aQ) (.m 2 aA)) aY) (.l i4 d9) (.l aF d9) tU h D.hP o)) (eg [_,_,_,_,_] (.l (.a (.a af aQ) (.m 2 aj)) aA) (.l cI aY) (.l aY d9) (.l (.a (.a af aQ) (.m 2 aj)) d9) tU D.hP o hz.2.2.1),by delta So;refine aa ?_ (hz.2.1 B (aP [_,_,_,_] (.l (.a (.a af aQ) (.m 2 aj)) aA) (.l cI aY) (.l aF aY) tU D.hP o));exact D.s,by refine aa ?_ (hz.2.1 _ o);exact D.rd,D.hP,by exact bb o hz.2.2.1⟩;refine dy (H.order c z g) fun order I hz=>?_;obtain⟨l,m,d⟩:=hz;rcases hz.2.2.2 with⟨_,fin,a,b⟩|⟨R,rfl,Q⟩
  ·exact(i fin a b).elim
  ·exact⟨u,w,I,R,order,OV H.D.s e,hz.1,d.1,OW d.2.2,Q,d.2.1,_,D.s⟩
theorem Tw(Q:lv su R)(H:i7 st1 B n k np su bf)(c:n<=6):R.length<=900:=by
 refine gb Q.ex fun v l e hd=>?_;have:∀x∈v::l,x∈aG n:=fun x b=>by
  have:x∈l++[v]:=by
   rcases List.mem_cons.mp b with rfl|b
   ·exact pe _ (.head _)
   ·simp[b]
  obtain⟨i,D⟩:=Jf this;have a:R[i+1]?=some x:=by simp only[e,rt,I9,iC D.1,D.2]
  have h:=by have:=(List.getElem?_eq_some_iff.mp a).1;exact fh this
  have:=xh Q.adj (iC h) a;exact(H.out _ _ (H.hsu.mp this)).1
 have:=mw hd this;obtain this:=d6▸this;refine aa ?_ e;simp at this ⊢;exact aP [_,_] (.l aF aj) (.l aj db) (.l af (.n 898)) tU this c
theorem vl{a:List O}:fp .NotEq a (.str s) (.str t)=some (!cF s t):=rfl
theorem RN{st:List O}(v:n<=6)(F:0<n)(H:LF n num fr):∃fr' A,au (Am (az 5)) ⟨[fr],st⟩=some (.next,⟨[fr'],A⟩)/\LF n num fr':=by
 obtain⟨st1,C,np,su,bf,d,j,z⟩:=GP v (fun i=>BH) (uh v) (fun p e=>(cq e).elim) (dB _) (dB _);have q:∀x y,x∈bf y->x∈cZ n num y:=fun x y h=>by obtain h:=(z y ((j.out x y h).1))▸h;simpa[dX] using h
 obtain⟨D,w,order,l,P,t,c,u⟩:=j.goes v (f:=fun i=>(bS (tr (num i))).length) (fun x y h=>(yp (n:=n) (num:=num)).lt x y (q x y h)) (nums:=(aG n).map num) (by refine aa (aa ?_ d6) (bl ..);exact ck _);have o:=Et (k:=2) (st:=w) (n:=n) (g:=gR num) (ah:=cZ n num) (order:=order) (by exact z1 rfl v) (fun m B=>⟨(lJ num m).1,(lJ num m).2.1,by have:=(lJ num m).2.2;exact z1 rfl this⟩) t c F (u.sub fun x s p e=>by refine aa ?_ (z x ((c x).mp s));exact gZ _ e)
 have a:LF n num (fr.set 10 (some (.obj st.length))):=H.set ⟨by decide,by decide,by decide,by decide,by decide⟩;refine⟨fr.set 10 (some (.obj st.length)),w,?_,a⟩;have b:(fr.set 10 (some (V.obj st.length)))[10]?=some (some (.obj st.length)):=de (by refine aa ?_ H.len;decide);refine aw (a9 (dA (fs:=[fr]) (bx (bu (ba H.f7) (bu (eO ci (dB _)) bz)) rfl) d)) ?_;refine aw (i:=⟨[fr.set 10 (some (.obj st.length))],w⟩) (ao (r:=false) (ao (r:=false) (bh (dA (fs:=[fr.set 10 (some (.obj st.length))]) (bx (bu (ba b) bz) rfl) l) rfl (vl.trans (rfl))) (ao (r:=false) ?_ rfl)) bo) bo;exact bh (dA (fs:=[fr.set 10 (some (.obj st.length))]) (bx (bu (ba a.f9) (bu (ba a.f8) (bu (ba a.f7) (bu (dA (fs:=[fr.set 10 (some (.obj st.length))]) (bx (bu (ba b) (bu (ba a.f2) bz)) rfl) P) bz)))) rfl) o) rfl rfl
def HY:M V:=bN false 3 (dZ [ac 0 1,bN false 3 (ac 0 1) (iV (ac 0 2)) { tgt:=Tgt.name 1,ifs:=[aO .NotEq (ac 0 1) (ac 1 1)] } []])
       (iV (bY false [dZ [ac 0 6,ac 0 11],dZ [ac 0 13,ac 0 12]])) { tgt:=Tgt.names [1,2],ifs:=[aO .In (ac 0 1) (ac 0 2)] } []
def zB(a b:Nat):M V:=bN false 4 (ac 0 1) (iV (ac 0 a)) { tgt:=Tgt.name 1,ifs:=[aO .In (ac 1 b) (aX (ac 1 7) (ac 0 1))] } []
def Aq(a one two:Nat):M V:=bN false 5 (ac 0 1) (iV (ac 0 a)) { tgt:=Tgt.name 1,ifs:=[ge [aO .NotEq (ac 0 1) (ac 1 two),gy [aO .Eq (ac 0 1) (ac 1 one),aO .In (ac 1 one) (aX (ac 1 7) (ac 0 1))]]] } []
def pR:M Bool:=gy [aO .NotEq (ac 0 17) (bY false []),ge [aO .NotEq (ac 0 18) (bY false []),aO .NotEq (ac 0 19) (bY false [])]]
def B6:M V:=bN false 4
                    (cT .Add (aX (ac 1 7) (ac 0 1))
                      (bN false 5 (ac 0 3) (iV (ac 1 15)) { tgt:=Tgt.names [1,2],ifs:=[] } [({ tgt:=Tgt.name 3,ifs:=[aO .Eq (ac 0 1) (ac 1 1)] },iV (ac 0 2))]))
                    (iV (ac 0 4)) { tgt:=Tgt.name 1,ifs:=[] } []
def C4:M V:=bN false 4 (ac 0 1) (iV (ac 0 4))
          { tgt:=Tgt.name 1,ifs:=[aO .Eq (bN false 3 (ac 0 1) (iV (aX (ac 1 20) (ac 0 1))) { tgt:=Tgt.name 1,ifs:=[aO .NotIn (ac 0 1) (ac 2 22)] } []) (bY false [])] } []
noncomputable def dF(one:Int)(S:List Int):List (Int×List Int):=if S.contains one then[(one,S.filter fun m=>!decide (m=one))] else[]
def nr:V->List V
 |.tup [.int l,.lst t]=>if(jo t).contains l then[.tup [.int l,iL ((jo t).filter fun m=>!decide (m=l))]] else[]
 |_=>[]
theorem tB{S:List Int}:nr (.tup [.int one,iL S])=(dF one S).map told:=by refine(?_:(if(jo (il S)).contains one then[V.tup [.int one,iL _]] else[])=_);refine aa ?_ (uS ..);delta dF;split<;>rfl
theorem VS{z:List O}{A:Int}{B:List Int}(u:fr[6]?=some (some (.int one)))(q:fr[13]?=some (some (.int A)))(k:fr[11]?=some (some (iL B)))(g:fr[12]?=some (some (iL F)))(w:B.length<=10)(W:F.length<=10):
  HY ⟨[fr],z⟩=some (.lst ((dF one B++dF A F).map told),⟨[fr],z⟩):=by
 have src:iV _ ⟨[fr],z⟩=some _:=
  cb (eO (bv (gQ (bv (ba u) (bv (ba k) ci)) (bC rfl)) (bv (gQ (bv (ba q) (bv (ba g) ci)) (bC rfl)) ci)) (bC rfl)) rfl
 have c:∀(l:Int)(T:List Int),T.length<=10->∀(f:List _)(acc:List V),f.length=3->acc.length+(nr (.tup [.int l,iL T])).length<=sizeMax->∃b:List _,b.length=3 /\
   fm [aO .In (ac 0 1) (ac 0 2)] (iJ im (dZ [ac 0 1,bN false 3 (ac 0 1) (iV (ac 0 2)) { tgt:=Tgt.name 1,ifs:=[aO .NotEq (ac 0 1) (ac 1 1)] } []]) [] acc) (pure acc) ⟨((f.set 1 (some (.int l))).set 2 (some (iL T)))::[fr],z⟩=some (acc++nr (.tup [.int l,iL T]),⟨b::[fr],z⟩):=by
  intro l T x f acc o h;have I:ac 0 1 ⟨((f.set 1 _).set 2 _)::[fr],z⟩=some (.int l,⟨((f.set 1 _).set 2 (some (iL T)))::[fr],z⟩):=ba (by rw[dO (by decide),de (by exact o▸bC rfl)]);have P:ac 0 2 ⟨((f.set 1 (some (.int l))).set 2 (some (iL T)))::[fr],z⟩=some (iL T,⟨((f.set 1 (some (.int l))).set 2 (some (iL T)))::[fr],z⟩):=ba (by rw[de (by simp;exact dU o.symm)]);refine⟨(f.set 1 (some (.int l))).set 2 (some (iL T)),by simp[o],?_⟩;refine aa ?_ (qF (bh I P (sC l T)));rw[tB] at h ⊢;unfold dF at h ⊢;by_cases e:T.contains l=true
  ·rw[if_pos e] at h ⊢;refine aa ?_ e;refine m7 (gQ (bv I (bv (kT (a:=⟨((f.set 1 (some (.int l))).set 2 (some (iL T)))::[fr],z⟩) (l:=T) (p:=fun m=>!decide (m=l)) (f:=V.int) (cb P rfl) (fun m y f2 a=>bh (cz a (by decide)) (cY (by rw[dO (by decide),de (by exact o▸bC rfl)])) rfl) (fun m y Y f2 a=>cz a (by decide)) (by exact z1 rfl x)) ci)) (bC rfl)) (by exact h)
  ·refine aa (aa (aa (aa ?_ (dT ..)) Jm) (if_neg e)) (if_neg e);rfl
 have d:∀(l:Int)(T:List Int),((dF l T).map told).length<=1:=fun l T=>by unfold dF;split<;>simp
 have:=oC (a:=⟨[fr],z⟩) (n:=3) (t:=.names [1,2]) (ifs:=[aO .In (ac 0 1) (ac 0 2)]) (elt:=dZ [ac 0 1,bN false 3 (ac 0 1) (iV (ac 0 2)) { tgt:=Tgt.name 1,ifs:=[aO .NotEq (ac 0 1) (ac 1 1)] } []])
  (first:=iV (bY false [dZ [ac 0 6,ac 0 11],dZ [ac 0 13,ac 0 12]])) (vs:=[.tup [.int one,iL B],.tup [.int A,iL F]]) (src:=.vals [.tup [.int one,iL B],.tup [.int A,iL F]]) (G:=nr) (r:=[]) src (eH.two (i:=1) (j:=2) (by decide) [(.int one,iL B),(.int A,iL F)])
  (fun v s f acc o h=>by
   rcases List.mem_cons.mp s with rfl|s
   ·exact c one B w f acc o h
   ·obtain rfl:=List.mem_singleton.mp s;exact c A F W f acc o h) (by
   refine(?_:(nr _++(nr _++[])).length<=sizeMax);refine aa (aa (aa (aa ?_ tB) tB) cP) cP;have:=d one B;have:=d A F;unfold sizeMax;simp only[wT];exact z1 rfl (ln (by assumption) this))
 refine this.trans ?_;refine(?_:some (V.lst (nr _++(nr _++[])),_)=_);exact aa (aa (aa (aU rfl fK) (dT ..)) tB) tB
theorem Fu{s:List O}{d:List Int}(e:fr[p]?=some (some (iL d)))(r:fr[q]?=some (some (.int one)))(b:fr[7]?=some (some (cK n ah)))(l:∀x∈d,x∈aG n)(c:d.length<=10):zB p q ⟨[fr],s⟩=some (iL (d.filter fun m=>(ah m).contains one),⟨[fr],s⟩):=
 kT (cb (ba e) rfl) (fun m a f o=>bh (cY r) (bH (cY b) (cz o (by decide)) (f6 (l m a))) (sC one (ah m))) (fun m a Y f o=>cz o (by decide)) (z1 rfl c)
theorem Hz{s:List O}{two:Int}(e:fr[p]?=some (some (iL F)))(h:fr[D]?=some (some (.int one)))(H:fr[C]?=some (some (.int two)))(b:fr[7]?=some (some (cK n ah)))(W:∀x∈F,x∈aG n)(c:F.length<=10):Aq p D C ⟨[fr],s⟩=some (iL (gX ah one two F),⟨[fr],s⟩):=
 kT (cb (ba e) rfl) (fun m a f o=>by
  obtain g:=cz o (by decide);refine jz (bh g (cY H) rfl) fun Y=>?_;have:=jz (l:=[]) (iv (bh (op:=.Eq) g (cY h) rfl) fun Y=>by have:=iv (l:=[]) (bh (cY h) (bH (cY b) g (f6 (W m a))) (sC one (ah m))) fun Y=>rfl;rw[oY] at this;trivial) fun Y=>rfl
  rw[tL] at this;trivial) (fun m a Y f o=>cz o (by decide)) (z1 rfl c)
theorem vk{s:List O}:fp .NotEq s (iL l) (.lst [])=some (!l.isEmpty):=by refine(?_:(md (iL l) _).map (!·)=_);refine aa (aa ?_ wS) (tz (j9 _));rfl
theorem Mi{st:List O}{b:List Int}(h:fr[17]?=some (some (iL o)))(H:fr[18]?=some (some (iL t)))(a:fr[19]?=some (some (iL b))):pR ⟨[fr],st⟩=some (!o.isEmpty||(!t.isEmpty&&!b.isEmpty),⟨[fr],st⟩):=by
 obtain nl:=fun c=>eO ci (dB _);refine iv (bh (ba h) (nl _) vk) fun Y=>?_;have:=iv (l:=[]) (jz (bh (ba H) (nl _) vk) fun Y=>by have:=jz (l:=[]) (bh (ba (st:=st) a) (nl _) vk) fun Y=>rfl;rw[tL] at this;trivial) fun Y=>rfl
 rw[oY] at this;trivial
theorem DC:∀l:List V,l.flatMap (fun v=>[v])=l:=by
 intro p;induction p with
 |nil=>rfl
 |cons v r I=>refine aa (aa ?_ (I)) pc;rfl
noncomputable def xx(m:Int):V->List V
 |.tup [.int l,.lst o]=>if l=m then o else[]
 |_=>[]
theorem B3(m:Int):∀W:List (Int×List Int),(W.map told).flatMap (xx m)=il (dX W m):=by
 intro a;induction a with
 |nil=>rfl
 |cons p W I=>
  refine aa (aa (aa (aa (aa ?_ (show il _=il _++il _ from fK)) rP) (I)) pc) dH;congr 1;refine(?_:(if p.1=m then il p.2 else[])=_);by_cases e:p.1=m
  ·exact aa (aa rfl (if_pos e.symm)) (if_pos e)
  ·refine aa (aa ?_ (if_neg fun q=>e q.symm)) (if_neg e);rfl
theorem KH{st:List O}(g:fr[4]?=some (some (iL (aG n))))(k:fr[7]?=some (some (cK n ah)))(d:fr[15]?=some (some (.lst (wishes.map told))))(y:n<=6)(w:∀m,(ah m).length<=10)(u:∀m,(dX wishes m).length<=100):
  B6 ⟨[fr],st⟩=some (cK n (fun m=>ah m++dX wishes m),⟨[fr],st⟩):=by
 refine sW (cb (ba g) rfl) (fun m x f o=>?_) (by refine aa ?_ d6;exact z1 rfl y);obtain comp:=oC (n:=5) (ifs:=[])
  (r:=[({ tgt:=Tgt.name 3,ifs:=[aO .Eq _ _] },iV _)]) (cb (cY d) rfl) (by
   have:=eH.two (i:=1) (j:=2) (by decide) (wishes.map fun p=>(V.int p.1,iL p.2));obtain this:=gB▸this;exact this) (fun v s f2 acc a h=>by
   refine aH (List.mem_map.mp s) fun p A D=>?_;subst D;have c:((f2.set 1 (some (V.int p.1))).set 2 (some (iL p.2)))[1]?=some (some (.int p.1)):=by rw[dO (by decide),de (by exact a▸bC rfl)]
   have l:(xx m (told p)).length=((il p.2).flatMap fun v=>if p.1=m then[v] else[]).length:=by
    refine(?_:(if p.1=m then il p.2 else[]).length=_);split
    ·exact aa rfl (DC ..)
    ·exact aa rfl (pW ..)
   obtain⟨b,q,e⟩:=vV (I:=fun f=>f.length=5/\f[1]?=some (some (.int p.1))) (t:=.name 3) (G:=fun v=>if p.1=m then[v] else[]) (fs:=f.set 1 (some (.int m))::[fr]) (st:=st) (acc:=acc) (fr:=(f2.set 1 (some (.int p.1))).set 2 (some (iL p.2)))
    (B:=fun acc=>fm [aO .Eq (ac 0 1) (ac 1 1)] (iJ im (ac 0 3) [] acc) (pure acc)) (eH.one 3 (il p.2)) ⟨by simp[a],c⟩ (fun v s f4 acc H h=>by
     refine⟨f4.set 3 (some v),⟨by refine aa ?_ df;exact H.1,by rw[dO (by decide)];exact H.2⟩,?_⟩;have z:aO .Eq (ac 0 1) (ac 1 1) ⟨f4.set 3 (some v)::f.set 1 (some (.int m))::[fr],st⟩=some (decide (p.1=m),⟨f4.set 3 (some v)::f.set 1 (some (.int m))::[fr],st⟩):=bh (ba (by rw[dO (by decide)];exact H.2)) (cY (de (by exact o▸bC rfl))) rfl;refine(?_:fm [aO .Eq (ac 0 1) (ac 1 1)] _ _ ⟨f4.set 3 (some v)::f.set 1 (some (.int m))::[fr],st⟩=_);refine aa ?_ (qF z);by_cases e:p.1=m
     ·rw[if_pos e] at h ⊢;refine aa ?_ (decide_eq_true e);exact m7 (ba (by rw[de (by exact H.1▸bC rfl)])) (by exact h)
     ·refine aa (aa (aa ?_ (dT ..)) (decide_eq_false e)) (if_neg e);rfl) (by refine aU ?_ l;exact h)
   refine⟨b,q.1,?_⟩;have Q:((il p.2).flatMap fun v=>if p.1=m then[v] else[])=xx m (told p):=by
    refine(?_:_=(if p.1=m then il p.2 else[]));split
    ·exact aa rfl (DC ..)
    ·exact aa rfl (pW ..)
   obtain e:=Q▸e;have P:ac 0 2 ⟨((f2.set 1 (some (V.int p.1))).set 2 (some (iL p.2)))::f.set 1 (some (.int m))::[fr],st⟩=some (iL p.2,⟨((f2.set 1 (some (V.int p.1))).set 2 (some (iL p.2)))::f.set 1 (some (.int m))::[fr],st⟩):=ba (by rw[de (by simp;exact a▸bC rfl)]);exact ao (cb P rfl) e) (by refine aa (aa ?_ (bl ..)) (B3 ..);have:=u m;unfold sizeMax;exact z1 rfl this)
 rw[B3] at comp;refine eN (bH (cY k) (cz o (by decide)) (f6 (f:=fun m=>iL (ah m)) x)) comp ?_;rw[jW (by rw[bl,bl];have:=w m;have:=u m;unfold sizeMax;exact z1 rfl (ln (by assumption) this)),<- fK]
theorem MA{st:List O}(e:fr[4]?=some (some (iL (aG n))))(d:fr[20]?=some (some (cK n bf)))(H:fr[22]?=some (some (iL order)))(v:n<=6)(g:∀m,(bf m).length<=1000):
  C4 ⟨[fr],st⟩=some (iL ((aG n).filter fun m=>(bf m).all order.contains),⟨[fr],st⟩):=by
 refine kT (cb (ba e) rfl) (fun m c f o=>?_) (fun m c Y f o=>cz o (by decide)) (by refine aa ?_ d6;exact z1 rfl v);obtain comp:=kT (q:=3) (cb (bH (cY d) (cz o (by decide)) (f6 c)) rfl)
  (fun x b f2 a=>bh (cz a (by decide)) (qJ H) (E7 x order)) (fun x b Y f2 a=>cz a (by decide)) (by have:=g m;exact z1 rfl this)
 refine bh comp (eO ci (dB _)) ((tz (j9 _)).trans ?_);refine aa ?_ wS;congr 1;rw[AM,A6,I6,A1];exact⟨fun h x b=>by simpa using h x b,fun h x b=>by simpa using h x b⟩
def Gw(k:K):M Bool:=gy [jt (cu (ct k 346 [(false,ac 0 21),(false,ac 0 20)])),aO .NotEq (ac 0 23) (bY false []),aO .NotEq (c1 B1.sorted (ac 0 22)) (ac 0 24),
           aO .NotEq (ct k 341 [(false,ac 0 16)]) (cC (V.str "cannot prepare() more than once"))]
def tR(k:K):List (M Fl):=[aS B6 (Tgt.name 20),
        aS (dZ [bJ k bc "_find_cycle" (ac 0 16) [],ct k 351 [(false,ac 0 16),(false,ac 0 2)]]) (Tgt.names [21,22]),
        aS
         (bN false 6 (ac 0 3) (jm (ac 0 22)) { tgt:=Tgt.names [1,2],ifs:=[] }
          [({ tgt:=Tgt.name 3,ifs:=[aO .NotIn (ac 0 3) (dg (ac 1 22) (cC V.none) (ac 0 1) (cC V.none))] },iV (aX (ac 1 20) (ac 0 2)))])
         (Tgt.name 23),
        aS C4 (Tgt.name 24),bW (Gw k) (au [cA (cC (V.bool false))]) (au [])]
def tE(k:K):List (M Fl):=[bW
         (aO .NotEq (ct k 356 [(false,ac 0 9),(false,ac 0 8),(false,ac 0 7),(false,ct k 351 [(false,ac 0 16),(false,ac 0 2)])])
          (dZ [aX (aX (ac 0 8) (ac 0 6)) (cC (V.int 2)),aX (aX (ac 0 8) (ac 0 13)) (cC (V.int 3))]))
         (au [cA (cC (V.bool false))]) (au [])]
def tD(k:K):List (M Fl):=[aS HY (Tgt.name 15),aS (ct k 334 [(false,ac 0 7),(false,ac 0 15)]) (Tgt.name 16),
     aS (cT .Add (zB 11 6) (zB 12 13)) (Tgt.name 17),aS (Aq 12 6 13) (Tgt.name 18),aS (Aq 11 13 6) (Tgt.name 19),
     bW (aO .NotEq (ct k 341 [(false,ac 0 16)]) (jc pR (cC (V.str "a ring")) (cC (V.str "goes")))) (au [cA (cC (V.bool false))]) (au []),
     bW pR (au (tR k)) (au (tE k))]
section
variable {x y:V}{one:Int}{S:List Int}
theorem B5{x y:Int}:x∈dX (dF one S) y↔y=one/\one∈S/\x∈S/\x≠one:=by
 delta dF;by_cases h:S.contains one=true
 ·refine aa (aa ?_ rP) (if_pos h);by_cases e:y=one
  ·simp[(by simpa using h:one∈S),dX]
  ·simp[e,dX]
 ·refine aa ?_ (if_neg h);simp[dX,(by simpa using h:one∉S)]
end
theorem KD{x:Int}:∀W:List (Int×List Int),(dX W x).length<=iW W:=by
 intro a;induction a with
 |nil=>exact ck _
 |cons p W I=>
  have:=I;refine aa (aa ?_ cP) rP;split
  ·exact aJ [_,_,_] (.l af aj) (.l (.a aA af) (.a (.a aI aA) aj)) tU this
  ·exact aJ [_,_,_] (.l af aj) (.l (.a (.n 0) af) (.a (.a aI aA) aj)) tU this
theorem H1{S:List Int}(h:S.length<=6):iW (dF one S)<=7/\(dF one S).length<=1:=by
 delta dF;split
 ·have:=ky (fun m=>!decide (m=one)) S;refine⟨?_,ck _⟩;exact aP [_,_] (.l af aj) (.l aj db) (.l (.a aI af) (.n 7)) tU this h
 ·trivial
theorem HZ{S:List Int}(h:∀x∈S,x∈aG n):∀p∈dF one S,p.1∈aG n/\∀x∈p.2,x∈aG n:=fun p e=>by
 delta dF at e;split at e
 ·rename_i q;refine aa ?_ (List.mem_singleton.mp e);exact⟨h one (by simpa using q),fun x b=>h x (List.mem_filter.mp b).1⟩
 ·exact(cq e).elim
theorem CP{t:Int}{s:List Int}:(!(l3 ah one t s F).isEmpty||(!(gX ah one t F).isEmpty&&!(gX ah t one s).isEmpty))=true↔o5 ah one t s F:=by delta o5;simp
def po(S:List Int)(one:Int):Prop:=one∈S∨(S=[]/\one=-1)
section
variable {n:Nat}{st:List O}{x v:V}{a b c d:M V}{i j one:Int}{bf:Int->List Int}{S order:List Int}{f:Int->Nat}
theorem FJ{f:En->Option Int}(v:0<n)(l:S=(aG n).filter fun m=>(f (g m)).isSome)(h:po S one)(hd:order.Nodup)(a:∀x,x∈order↔x∈aG n)(p:iG bf order)(hb:∀x∈S,x≠one->one∈S->x∈bf one):
  ∃e:En,fR st (fu n g) (.int one)=some (dN e)/\f e=fU (fun m=>f (g m)) order:=by
 have c:∀x,x∈S↔x∈aG n/\(f (g x)).isSome=true:=fun x=>by refine aa ?_ l;rw[Jn]
 rcases h with h|⟨h,rfl⟩
 ·obtain⟨d,H⟩:=(c one).mp h;exact⟨g one,f6 d,(PV hd ((a one).mpr d) H p fun x b t o=>hb x ((c x).mpr ⟨(a x).mp b,t⟩) o h).symm⟩
 ·have j:∀x∈aG n,f (g x)=none:=fun x b=>by
   cases q:f (g x) with
   |none=>rfl
   |some i=>have:x∈S:=(c x).mpr ⟨b,by refine aa ?_ q;rfl⟩;exact(cq (h▸this)).elim
  refine⟨g ((n-1:Nat):Int),yB ?_,?_⟩
  ·delta aG;rw[gB,List.getLast?_map,List.getLast?_range,if_neg (gi v)];rfl
  ·refine aa ?_ (j _ (mT.mpr ⟨lj _,Int.ofNat_lt.mpr (Nat.sub_lt v Nat.one_pos)⟩));exact(DH order none fun m k=>j m ((a m).mp k)).symm
end
theorem UH(hd:order.Nodup)(O:pn k bf order)(j:∀x,x∈k↔x∈aG n):iw order=(aG n).filter fun m=>(bf m).all order.contains:=by
 refine G6 hd (v7.filter _) (fun x=>?_) ((zR.imp iA).filter _);rw[Jn,A1];constructor
 ·intro b;refine⟨(j x).mp (O.sub x b),fun p e=>?_⟩;obtain⟨i,D⟩:=Jf b;have:=O.top i x (by rw[iC D.1,D.2]) p e;simpa using wV this
 ·rintro⟨b,h⟩;exact Classical.not_not.mp fun v=>aH (O.max x ((j x).mpr b) v) fun p e a=>a (by simpa using h p e)
theorem gs{f:List (Option V)}(h:f[i]?=some o)(a:i≠k):(f.set k v)[i]?=some o:=by refine aa ?_ (dO (bB a));exact h
theorem gl{f:List (Option V)}(h:f.length=37):(f.set k v).length=37:=by refine aa ?_ df;exact h
theorem gk{f:List (Option V)}(h:f.length=37)(j:k<37):(f.set k v)[k]?=some v:=de (aP [_,_] (.l aF (.n 37)) (.q aj (.n 37)) (.l aF aj) tU j h)
section
variable {n:Nat}{fr:List (Option V)}{num:Int->Int}{S F:List Int}
structure LP(n:Nat)(num:Int->Int)(S F:List Int)(fr:List (Option V)):Prop where
 L:LF n num fr
 f11:fr[11]?=some (some (iL S))
 f12:fr[12]?=some (some (iL F))
end
theorem LP.set{S:List Int}(H:LP n num S F fr)(j:12<k∨k=6):LP n num S F (fr.set k o):=
 ⟨H.L.set ⟨fun e=>mC j (fun z=>aP [_] (.l (.a (.n 12) aI) af) (.e af aQ) .f tU z e) (fun z=>aP [_] (.q af db) (.e af aQ) .f tU z e),⟨fun e=>mC j (fun z=>aP [_] (.l (.a (.n 12) aI) af) (.e af fe) .f tU z e) (fun z=>aP [_] (.q af db) (.e af fe) .f tU z e),⟨fun e=>mC j (fun z=>aP [_] (.l (.a (.n 12) aI) af) (.e af (.n 7)) .f tU z e) (fun z=>aP [_] (.q af (.n 7)) (.e af db) .f tU e z),⟨fun e=>mC j (fun z=>aP [_] (.l (.a (.n 12) aI) af) (.e af (.n 8)) .f tU z e) (aP [_] (.q af (.n 8)) (.e af db) .f tU e),fun e=>mC j (fun z=>aP [_] (.l (.a (.n 12) aI) af) (.e af (.n 9)) .f tU z e) (aP [_] (.q af (.n 9)) (.e af db) .f tU e)⟩⟩⟩⟩,gs H.f11 (fun e=>mC j (fun z=>aP [_] (.l (.a (.n 12) aI) af) (.q (.n 11) af) .f tU z e) fun z=>aP [_] (.e (.n 11) af) (.e af db) .f tU e z),gs H.f12 (fun e=>mC j (fun z=>aP [_] (.l (.a (.n 12) aI) af) (.q (.n 12) af) .f tU z e) fun z=>aP [_] (.e (.n 12) af) (.e af db) .f tU e z)⟩
theorem Vp{st:List O}{two:Int}{S:List Int}(s:n<=6)(h0:0<n)(H:LP n num S F fr)(h6:fr[6]?=some (some (.int one)))(h13:fr[13]?=some (some (.int two)))
  (hS:S=(aG n).filter fun m=>((gR num m).d).isSome) (hF:F=(aG n).filter fun m=>((gR num m).r).isSome) (p1:po S one) (p2:po F two):
  ∃fr' Wv,au (tD (az 5)) ⟨[fr],st⟩=some (.next,⟨[fr'],Wv⟩)/\LP n num S F fr':=by
 have D:∀x∈S,x∈aG n:=fun x c=>by obtain c:=hS▸c;exact(List.mem_filter.mp c).1
 have A:∀x∈F,x∈aG n:=fun x c=>by obtain c:=hF▸c;exact(List.mem_filter.mp c).1
 have B:S.length<=6:=by have:=ky (fun m=>((gR num m).d).isSome) (aG n);obtain this:=d6▸this;obtain this:=hS.symm▸this;exact aP [_,_] (.l af aj) (.l aj db) (.l af db) tU this s
 have z:F.length<=6:=by have:=ky (fun m=>((gR num m).r).isSome) (aG n);obtain this:=d6▸this;obtain this:=hF.symm▸this;exact aP [_,_] (.l af aj) (.l aj db) (.l af db) tU this s
 have w1:=H1 (one:=one) B;have w2:=H1 (one:=two) z;obtain⟨st1,Wu,np,su,bf,e334,o,hbf⟩:=GP (n:=n) (st:=st) (ah:=cZ n num) (wishes:=dF one S++dF two F) s (fun i=>BH) (uh s)
  (fun p R=>(List.mem_append.mp R).elim (HZ D p) (HZ A p)) (by refine aa ?_ cP;exact aP [_,_] (.l af aI) (.l aj aI) (.l (.a af aj) aQ) tU w1.2 w2.2) (by refine aa ?_ Av;exact aP [_,_] (.l af (.n 7)) (.l aj (.n 7)) (.l (.a af aj) (.n 14)) tU w1.1 w2.1)
 have hed:∀x y,y∈aG n->(x∈bf y↔Ed (cZ n num) one two S F x y):=fun x y hy=>by refine aa ?_ (hbf y hy);rewrite[mx];refine aa ?_ B4;rw[mx,B5,B5];rfl
 have hbw:∀m,(dX (dF one S++dF two F) m).length<=100:=fun m=>by have:=KD (x:=m) (dF one S++dF two F);obtain this:=Av▸this;exact eg [_,_,_] (.l af (.a aj aA)) (.l aj (.n 7)) (.l aA (.n 7)) (.l af cj) tU this w1.1 w2.1
 let fA:=fr.set 15 (some (V.lst ((dF one S++dF two F).map told)));let Q:=fA.set 16 (some (V.obj st.length));let fC:=Q.set 17 (some (iL (l3 (cZ n num) one two S F)));let fD:=fC.set 18 (some (iL (gX (cZ n num) one two F)));let d:=fD.set 19 (some (iL (gX (cZ n num) two one S)));have HA:LP n num S F fA:=H.set (.inl (by decide));have u:LP n num S F Q:=HA.set (.inl (by decide));have W:LP n num S F fC:=u.set (.inl (by decide));have HD:LP n num S F fD:=W.set (.inl (by decide));have C:LP n num S F d:=HD.set (.inl (by decide));have b6:Q[6]?=some (some (.int one)):=gs (gs h6 (by decide)) (by decide);have b13:Q[13]?=some (some (.int two)):=gs (gs h13 (by decide)) (by decide);have c6:fC[6]?=some (some (.int one)):=gs b6 (by decide);have c13:fC[13]?=some (some (.int two)):=gs b13 (by decide);have e15:d[15]?=some (some (V.lst ((dF one S++dF two F).map told))):=gs (gs (gs (gs (gk H.L.len (by decide)) (by decide)) (by decide)) (by decide)) (by decide);have e16:d[16]?=some (some (V.obj st.length)):=gs (gs (gs (gk HA.L.len (by decide)) (by decide)) (by decide)) (by decide);have e17:d[17]?=some (some (iL (l3 (cZ n num) one two S F))):=gs (gs (gk u.L.len (by decide)) (by decide)) (by decide);have e18:d[18]?=some (some (iL (gX (cZ n num) one two F))):=gs (gk W.L.len (by decide)) (by decide);have e19:d[19]?=some (some (iL (gX (cZ n num) two one S))):=gk HD.L.len (by decide);have e6:d[6]?=some (some (.int one)):=gs (gs c6 (by decide)) (by decide);have e13:d[13]?=some (some (.int two)):=gs (gs c13 (by decide)) (by decide);have start:∀q,au [bW (aO .NotEq (ct (az 5) 341 [(false,ac 0 16)]) (jc pR (cC (V.str "a ring")) (cC (V.str "goes")))) (au [cA (cC (V.bool false))]) (au []),bW pR (au (tR (az 5))) (au (tE (az 5)))] ⟨[d],st1⟩=q->au (tD (az 5)) ⟨[fr],st⟩=q:=fun q e=>by
  refine aw (a9 (VS h6 h13 H.f11 H.f12 (by exact aJ [_] (.l af db) (.l af (.n 10)) tU B) (by exact aJ [_] (.l af db) (.l af (.n 10)) tU z))) ?_;refine aw (a9 (dA (fs:=[fA]) (bx (bu (ba HA.L.f7) (bu (ba (gk H.L.len (by decide))) bz)) rfl) e334)) ?_;refine aw (a9 (v:=iL (l3 (cZ n num) one two S F)) (fr:=Q) (eN (Fu u.f11 b6 u.L.f7 D (by exact aJ [_] (.l af db) (.l af (.n 10)) tU B)) (Fu u.f12 b13 u.L.f7 A (by exact aJ [_] (.l af db) (.l af (.n 10)) tU z)) ?_)) ?_
  ·have l1:=ky (fun m=>(cZ n num m).contains one) S;have l2:=ky (fun m=>(cZ n num m).contains two) F;rw[jW (by refine aa (aa ?_ (bl ..)) (bl ..);unfold sizeMax;exact qh [_,_,_,_] (.l af aj) (.l aA aY) (.l aj db) (.l aY db) (.l (.a af aA) dG) tU l1 l2 B z),<- fK];rfl
  refine aw (a9 (Hz (one:=one) (two:=two) W.f12 c6 c13 W.L.f7 A (by exact aJ [_] (.l af db) (.l af (.n 10)) tU z))) ?_;exact aw (a9 (Hz (one:=two) (two:=one) HD.f11 (gs c13 (by decide)) (gs c6 (by decide)) HD.L.f7 D (by exact aJ [_] (.l af db) (.l af (.n 10)) tU B))) e
 have t:∀st,pR ⟨[d],st⟩=some (!(l3 (cZ n num) one two S F).isEmpty||(!(gX (cZ n num) one two F).isEmpty&&!(gX (cZ n num) two one S).isEmpty),⟨[d],st⟩):=fun st=>Mi e17 e18 e19;have nl:n<=((aG n).map num).length:=by refine aa (aa ?_ d6) (bl ..);exact ck _
 by_cases hc:o5 (cZ n num) one two S F
 ·have hb:=CP.mpr hc;obtain t:=hb▸t;have irr:∀a,a∉cZ n num a:=fun a q=>absurd ((yp (n:=n) (num:=num)).lt a a q) (jQ _);obtain⟨WV,T,st4,WP,order,r1,r2,r3,r4,hr,O,l2,hl2⟩:=o.ring s (fun fin h1 h2=>Mh (K:=fun x=>x∈aG n) (su:=su) (fin:=fin) (fun x y hy e=>o.hsu.mpr ((hed x y hy).mpr e)) D A irr (p1.elim .inr fun q=>.inl q.1) (p2.elim .inr fun q=>.inl q.1) h1 (fun x y c=>h2 x ((o.ks x).mpr (o.out x y (o.hsu.mp c)).2)) hc) nl;have hor:∀x∈order,x∈aG n:=fun x c=>(o.ks x).mp (O.sub x c);have htab:cK n (fun m=>cZ n num m++dX (dF one S++dF two F) m)=cK n bf:=congrArg V.lst (ry fun m I=>by exact aa rfl (hbf m I));let fF:=d.set 20 (some (cK n bf));let w:=(fF.set 21 (some (iL WP))).set 22 (some (iL order));let fH:=w.set 23 (some (.lst []));let fI:=fH.set 24 (some (iL (iw order)));have HF':LP n num S F fF:=C.set (.inl (by decide));have HG:LP n num S F w:=(HF'.set (k:=21) (.inl (by decide))).set (.inl (by decide));have HH:LP n num S F fH:=HG.set (.inl (by decide));have HI:LP n num S F fI:=HH.set (.inl (by decide));have f16:fF[16]?=some (some (V.obj st.length)):=gs e16 (by decide);have g20:w[20]?=some (some (cK n bf)):=gs (gs (gk C.L.len (by decide)) (by decide)) (by decide);have g22:w[22]?=some (some (iL order)):=gk (gl HF'.L.len) (by decide);have i16:fI[16]?=some (some (V.obj st.length)):=gs (gs (gs (gs f16 (by decide)) (by decide)) (by decide)) (by decide);have i20:fI[20]?=some (some (cK n bf)):=gs (gs g20 (by decide)) (by decide);have i21:fI[21]?=some (some (iL WP)):=gs (gs (gs (gk HF'.L.len (by decide)) (by decide)) (by decide)) (by decide);have i22:fI[22]?=some (some (iL order)):=gs (gs g22 (by decide)) (by decide);have i23:fI[23]?=some (some (.lst [])):=gs (gk HG.L.len (by decide)) (by decide);have i24:fI[24]?=some (some (iL (iw order))):=gk HH.L.len (by decide);have Wx:order.length<=n:=by have:=mw O.nd hor;obtain this:=d6▸this;exact this
  have hbl:∀m,(bf m).length<=1000:=fun m=>by
   by_cases I:m∈aG n
   ·refine aa (aa ?_ cP) (hbf m I);have:=hbw m;have:=uh (num:=num) s m;exact aP [_,_] (.l af db) (.l aj cj) (.l (.a af aj) d8) tU this (by assumption)
   ·have:bf m=[]:=by
     cases q:bf m with
     |nil=>rfl
     |cons x r=>exact absurd (o.out x m (by refine aa ?_ q;exact bK)).1 I
    refine aa ?_ this;exact dB _
  have sb:=KH (fr:=d) (st:=WV) (wishes:=dF one S++dF two F) C.L.f4 C.L.f7 e15 s (fun m=>by have:=uh (num:=num) s m;exact aJ [_] (.l af db) (.l af (.n 10)) tU this) hbw;obtain sb:=htab▸sb;have sd:=MA (fr:=fH) (st:=st4) (bf:=bf) (order:=order) HH.L.f4 (gs g20 (by decide)) (gs g22 (by decide)) s hbl;obtain sd:=(UH O.nd O o.ks).symm▸sd;have hrun:Gw (az 5) ⟨[fI],st4⟩=some (false,⟨[fI],st4⟩):=by
   refine ao (r:=false) (qH (r:=true) (eX (v:=.bool true) (dA (fs:=[fI]) (bx (bu (ba i21) (bu (ba i20) bz)) rfl) (Tx (k:=4) hr o.L.su (fun x y h=>(o.out x y h).1) (Tw hr o s))) rfl)) ?_;refine ao (r:=false) (bh (ba i23) (eO ci (dB _)) (vk (l:=[]))) ?_;refine ao (r:=false) (bh (x:=iL (iw order)) (ei (ba i22) ?_) (ba i24) (sM (j9 _))) ?_
   ·refine(?_:(if lO (il order)&&decide ((il order).length<60) then some (V.lst ((iw (jo (il order))).map .int)) else none)=_);rw[yH,uS,bl,decide_eq_true (by exact aP [_,_] (.l af aj) (.l aj db) (.l aF (.n 60)) tU Wx s)];rfl
   ·exact ao (r:=false) (bh (dA (fs:=[fI]) (bx (bu (ba i16) bz) rfl) r4) rfl (vl.trans (by refine aa ?_ (kY ..);rfl))) rfl
  refine⟨fI,st4,start _ ?_,HI⟩;refine aw (bP (r:=false) (bh (dA (fs:=[d]) (bx (bu (ba e16) bz) rfl) r1) (qG (r:=true) (t _) rfl) (vl.trans (by refine aa ?_ (kY ..);rfl))) bo) ?_;refine aw (bP (r:=true) (t _) ?_) bo;refine aw (a9 sb) ?_;refine aw (Ga (i:=21) (j:=22) (x:=iL WP) (y:=iL order) (fr:=fF) (by decide) (gQ (bv (oG (fs:=[fF]) (ba f16) (oo hl2 rfl) (bx bz rfl) r2) (bv (dA (fs:=[fF]) (bx (bu (ba f16) (bu (ba HF'.L.f2) bz)) rfl) r3) ci)) (bC rfl))) ?_;refine aw (a9 (C5 (a:=20) (b:=22) (fr0:=w) (n:=n) (bf:=bf) (order:=order) (ba g22) g20 g22 hor O.top)) ?_;exact aw (a9 sd) (aw (bP (r:=false) hrun bo) bo)
 ·have hb:(!(l3 (cZ n num) one two S F).isEmpty||(!(gX (cZ n num) one two F).isEmpty&&!(gX (cZ n num) two one S).isEmpty))=false:=by refine aU ?_ (rb ..);exact fun q=>hc (CP.mp q)
  obtain t:=hb▸t;obtain⟨f,hf⟩:=Ti (yp (n:=n) (num:=num)) hc;obtain⟨WV,T,order,g1,g2,o1,o2,o3⟩:=o.goes s (f:=f) (fun x y h=>hf x y ((hed x y (o.out x y h).1).mp h)) nl;have hedb:∀x∈aG n,∀p∈cZ n num x,p∈bf x:=fun x c p R=>by refine aa ?_ (hbf x c);exact gZ _ R
  have e4:=Et (k:=2) (st:=T) (n:=n) (g:=gR num) (ah:=cZ n num) (order:=order) (by exact aJ [_] (.l af db) (.l af (.n 50)) tU s) (fun m I=>⟨(lJ num m).1,(lJ num m).2.1,by have:=(lJ num m).2.2;exact aJ [_] (.l af lc) (.l af d8) tU this⟩) o1 o2 h0 (o3.sub fun x c p R=>hedb x ((o2 x).mp c) p R);obtain⟨d1,i1,k1⟩:=FJ (st:=T) (g:=gR num) (f:=En.d) h0 hS p1 o1 o2 o3 (fun x c WZ P=>(hed x one (D one P)).mpr (.inr (.inl ⟨rfl,P,c,WZ⟩)));obtain⟨d2,i2,k2⟩:=FJ (st:=T) (g:=gR num) (f:=En.r) h0 hF p2 o1 o2 o3 (fun x c WZ P=>(hed x two (A two P)).mpr (.inr (.inr ⟨rfl,P,c,WZ⟩)));refine⟨d,T,start _ ?_,C⟩;refine aw (bP (r:=false) (bh (dA (fs:=[d]) (bx (bu (ba e16) bz) rfl) g1) (qG (r:=false) (t _) rfl) (vl.trans (by refine aa ?_ (kY ..);rfl))) bo) ?_;refine aw (bP (r:=false) (t _) ?_) bo;have ok:dD 6 (.tup [oi (fU (fun m=>(gR num m).d) order),oi (fU (fun m=>(gR num m).r) order)])=true:=by refine(?_:([oi _,oi _].all (dD 5))=true);refine(?_:(dD 5 (oi _)&&(dD 5 (oi _)&&true))=true);refine aa (aa ?_ (qz ..)) (qz ..);rfl
  refine aw (bP (r:=false) (bh (dA (fs:=[d]) (bx (bu (ba C.L.f9) (bu (ba C.L.f8) (bu (ba C.L.f7) (bu (dA (fs:=[d]) (bx (bu (ba e16) (bu (ba C.L.f2) bz)) rfl) g2) bz)))) rfl) e4)
   (gQ (bv (bH (bH (ba C.L.f8) (ba e6) i1) rfl rfl) (bv (bH (bH (ba C.L.f8) (ba e13) i2) rfl rfl) ci)) (bC rfl)) ?_) bo) bo
  rw[<- k1,<- k2] at ok ⊢;exact sM ok
def Ap(i:Int):M V:=bN false 3 (ac 0 1) (iV (ac 0 4)) { tgt:=Tgt.name 1,ifs:=[aO .IsNot (aX (aX (ac 1 8) (ac 0 1)) (cC (V.int i))) (cC V.none)] } []
def Fy:M V:=bN false 4 (dZ [ac 0 1,ac 0 2]) (iV (kE [ac 0 11,bY false [gm (cC (V.int 1))]])) { tgt:=Tgt.name 1,ifs:=[] }
    [({ tgt:=Tgt.name 2,ifs:=[] },iV (kE [ac 1 12,bY false [gm (cC (V.int 1))]]))]
def An(k:K):List (M Fl):=[aS (Ap 2) (Tgt.name 11),aS (Ap 3) (Tgt.name 12),aS Fy (Tgt.name 14),
  fx (Tgt.names [6,13])
   (iV (dg (dg (cT .Add (ac 0 14) (ac 0 14)) (cT .Mod (aX (ac 0 2) (cC (V.int 0))) (c1 B1.len (ac 0 14))) (cC V.none) (cC V.none)) (cC V.none) (c2 B2.min (cC (V.int 4)) (c1 B1.len (ac 0 14))) (cC V.none)))
   (au (tD k)),
  cA (kC .Eq (bN false 3 (ct k 327 [(false,ac 0 1)]) (iV (ac 0 9)) { tgt:=Tgt.name 1,ifs:=[] } []) (ac 0 8))]
theorem Hw{s:List O}{F:En->Option Int}(D:∀e s,fR s (dN e) (.int i)=some (oi (F e)))(H:LF n num fr)(v:n<=6):Ap i ⟨[fr],s⟩=some (iL ((aG n).filter fun m=>(F (gR num m)).isSome),⟨[fr],s⟩):=
 kT (cb (ba H.f4) rfl) (fun m a g z=>bh (bH (bH (cY H.f8) (cz z (by decide)) (f6 a)) rfl (D _ _)) rfl (Ec _)) (fun m a Y g z=>cz z (by decide)) (by refine aa ?_ d6;exact z1 rfl v)
noncomputable def mZ(S:List Int):List Int:=if S.isEmpty then[-1] else S
theorem Ft{S:List Int}(h:a∈mZ S):po S a:=by
 delta mZ at h;split at h
 ·rename_i e;exact .inr ⟨List.isEmpty_iff.mp e,List.mem_singleton.mp h⟩
 ·exact .inl h
theorem Fs{S:List Int}(h:ac d i b=some (iL S,b)):kE [ac d i,bY false [gm (cC (V.int 1))]] b=some (iL (mZ S),b):=by
 cases S with
 |nil=>exact S6 h rfl (eO (bv (oH rfl) ci) (bC rfl))
 |cons a r=>exact Gd h rfl
def Fv(F:List Int)(v:V):List V:=(il (mZ F)).map fun w=>.tup [v,w]
def jv(S F:List Int):List V:=(il (mZ S)).flatMap (Fv F)
inductive Fx(S:List Int)(F:List Int)(v:V):Prop
 |mk:∀a b,v=.tup [.int a,.int b]->po S a->po F b->Fx S F v
theorem RI{S:List Int}(h:v∈jv S F):Fx S F v:=by refine aH (List.mem_flatMap.mp h) fun w c s=>?_;refine aH (List.mem_map.mp c) fun a l D=>?_;clear c;subst D;exact fw v (List.mem_map.mp s) fun u W=>fw u (List.mem_map.mp W) fun b hb=>⟨a,b,rfl,Ft l,Ft hb⟩
theorem vF{S:List Int}(h:S.length<=6):0<(mZ S).length/\(mZ S).length<=6:=by
 cases S with
 |nil=>trivial
 |cons a r=>exact⟨pj _,h⟩
theorem N7(f:V->List V)(c:Nat)(h:∀v,(f v).length=c):∀l:List V,(l.flatMap f).length=l.length*c:=by
 intro p;induction p with
 |nil=>simp
 |cons v r I=>refine aa (aa (aa (aa (aa (aa ?_ (Nat.succ_mul ..)) iD) (I)) (h ..)) cP) pc;exact i6 (dU (Be ..)) (dU (Be ..))
theorem Fw{S:List Int}(l:S.length<=6)(W:F.length<=6):0<(jv S F).length/\(jv S F).length<=36:=by delta jv;rw[N7 _ (mZ F).length (fun v=>by delta Fv;simp),bl];exact⟨Nat.mul_pos (vF l).1 (vF W).1,JC (vF l).2 (vF W).2⟩
theorem RJ{st:List O}{S:List Int}(k:fr[11]?=some (some (iL S)))(c:fr[12]?=some (some (iL F)))(l:S.length<=6)(W:F.length<=6):Fy ⟨[fr],st⟩=some (.lst (jv S F),⟨[fr],st⟩):=by
 refine oC (cb (Fs (ba k)) rfl) (eH.one 1 _) (fun v s f acc o h=>?_) (z1 rfl (Fw l W).2);obtain⟨j,q,e⟩:=vV (I:=fun f=>f.length=4/\f[1]?=some _) (fs:=[fr]) (st:=st) (fr:=f.set 1 (some v))
  (B:=fun acc=>fm [] (iJ im (dZ [ac 0 1,ac 0 2]) [] acc) _) (eH.one 2 (il _)) ⟨by refine aa ?_ df;exact o,(de (o▸bC rfl))⟩ (fun w u f4 acc H h=>by
   refine⟨f4.set 2 (some w),⟨by refine aa ?_ df;exact H.1,by rw[dO (by decide)];exact H.2⟩,?_⟩;exact m7 (gQ (bv (ba (by rw[dO (by decide)];exact H.2)) (bv (ba (by rw[de (by exact H.1▸bC rfl)])) ci)) (bC rfl)) (by trivial)) (by
   refine aa ?_ (uK ..);trivial)
 rw[uK] at e;exact⟨j,q.1,ao (cb (Fs (cY c)) rfl) e⟩
section
variable {n:Nat}{st:List O}{fr:List (Option V)}{num:Int->Int}{S F:List Int}
inductive HE(n:Nat)(num:Int->Int)(S:List Int)(F:List Int)(vs:List V)(fr:List (Option V))(st:List O):Prop
 |mk:∀fr' Wv,dM (.names [6,13]) (au (tD (az 5))) vs.length (.vals vs) ⟨[fr],st⟩=some (.next,⟨[fr'],Wv⟩)->LP n num S F fr'->HE n num S F vs fr st
end
theorem Vr{S:List Int}(o:n<=6)(k:0<n)(l:S=(aG n).filter fun m=>((gR num m).d).isSome)(W:F=(aG n).filter fun m=>((gR num m).r).isSome):∀(vs:List V)(fr:List (Option V))(st:List O),(∀v∈vs,v∈jv S F)->LP n num S F fr->
  HE n num S F vs fr st:=by
 intro p;induction p with
 |nil=>intro fr st _ H;exact⟨fr,st,rfl,H⟩
 |cons v r I=>intro fr st h H;obtain⟨a,b,rfl,P,q⟩:=RI (h v bK);refine gb (Vp (st:=st) o k ((H.set (.inr rfl)).set (.inl (by decide))) (gs (gk H.L.len (by decide)) (by decide)) (gk (gl H.L.len) (by decide)) l W P q) fun e st1 f c=>?_;obtain⟨fr',s,g,d⟩:=I e st1 (fun w u=>h w (bD _ u)) c;exact⟨fr',s,ao rfl (ao (qI (i:=6) (j:=13) (x:=.int a) (y:=.int b) (by decide)) (ao f g)),d⟩
theorem RO{st:List O}(c:n<=6)(o:0<n)(H:LF n num fr):∃σ',au (An (az 5)) ⟨[fr],st⟩=some (.ret (.bool true),σ'):=by
 obtain⟨F,W⟩:∃F,F=(aG n).filter fun m=>((gR num m).r).isSome:=⟨_,rfl⟩;obtain⟨S,g⟩:∃S,S=(aG n).filter fun m=>((gR num m).d).isSome:=⟨_,rfl⟩;have p:=by have:=ky (fun m=>((gR num m).r).isSome) (aG n);obtain this:=d6▸this;obtain this:=W.symm▸this;exact bb this c
 have u:=by have:=ky (fun m=>((gR num m).d).isSome) (aG n);obtain this:=d6▸this;obtain this:=g.symm▸this;exact bb this c
 have d:=Fw u p;have t:LF n num (fr.set 11 (some (iL S))):=H.set ⟨by decide,by trivial⟩;have b:LP n num S F _:=⟨t.set ⟨by decide,by trivial⟩,gs (gk H.len (by decide)) (by decide),gk t.len (by decide)⟩;obtain B:=b.set (k:=14) (.inl (by decide));obtain I:=Hw (i:=2) (fun Y Y=>rfl) H c;obtain Q:=Hw (i:=3) (fun Y Y=>rfl) t c;obtain⟨j,A⟩:∃j:Nat,nS .min (.int 4) (.int ((jv S F).length:Int))=some (.int j):=by
  refine(?_:∃j:Nat,some (V.int (if((jv S F).length:Int)<4 then((jv S F).length:Int) else 4))=_);split
  ·exact⟨_,rfl⟩
  ·exact⟨4,rfl⟩
 obtain⟨i,D⟩:=wJ (jZ (a:=num 0) (Int.ofNat_lt.mpr d.1)).1;obtain⟨fr',T,e,h⟩:=Vr (S:=S) (F:=F) c o g W (((jv S F++jv S F).drop i).take j) _ st (fun v s=>by have:=Jp (wV s);exact(List.mem_append.mp this).elim id id) B
 have C:dD 6 (fu n (gR num))=true:=by refine(?_:(nH _ _).all (dD 5)=true);exact List.all_eq_true.mpr fun v s=>by refine fw v (List.mem_map.mp s) fun m Y=>?_;refine(?_:([V.lst (sl (gR num m).ag),iL (gR num m).ls,oi (gR num m).d,oi (gR num m).r].all (dD 4))=true);exact pD (vD (lJ num m).2.1) (j9 _) (qz _) (qz _)
 have x:=oF (σ:=⟨[fr'],T⟩) (q:=3) (l:=aG n) (R:=fun m=>d5 (gR num m)) (P:=fun m=>dN (gR num m)) (elt:=ct (az 5) 327 [(false,ac 0 1)]) (first:=iV (ac 0 9)) (cb (ba h.L.f9) rfl)
  (fun m hm f w=>dA (fs:=f.set 1 (some (d5 (gR num m)))::[fr']) (bx (bu (cz w (by decide)) bz) rfl) (As (k:=4))) (by refine aa ?_ d6;exact z1 rfl c)
 refine⟨_,aw (a9 (g.symm▸I)) (aw (a9 (W.symm▸Q)) (aw (a9 (RJ b.f11 b.f12 u p)) (aw (iq (cb (gv (gv (eN (ba (gk b.L.len (by decide))) (ba (gk b.L.len (by decide))) (jW (by exact z1 rfl (ln d.2 d.2)))) (eN (y:=.int ((jv S F).length:Int)) (z:=.int (i:Int)) (bH (ba B.L.f2) rfl (jn (i:=0) (v:=.int (num 0)) ?_)) (ei (ba (gk b.L.len (by decide))) rfl) ?_) rfl rfl (wi i)) rfl (qE rfl (ei (ba (gk b.L.len (by decide))) rfl) A) rfl (qO j)) rfl) e) (dE (fv (sV (r:=true) (bh x (ba h.L.f8) (si C))))))))⟩
 ·rw[gY];have:=Gz (f:=num) (n:=n) (m:=0) ⟨by decide,Int.ofNat_lt.mpr o⟩;refine aa ?_ this;obtain this:=(show(0:Int).toNat=0 from rfl)▸this;rfl
 ·refine un ?_;refine aU ?_ D;exact xz ⟨Int.ofNat_lt.mpr d.1,Int.ofNat_lt.mpr (dW d.2 (by decide))⟩
theorem Lr:az 6 361 [iL f] []=fj [] (au (Ak (az 5)++(Al (az 5)++(Am (az 5)++An (az 5)))) ⟨[F0 f],[]⟩):=by
 have e:az 6 361 [iL f] []=(bif noObjs [iL f]&&true then fj [] (au (Ak (az 5)++(Al (az 5)++(Am (az 5)++An (az 5)))) ⟨[F0 f],[]⟩) else none):=by kernel_rfl!
 rw[e,pC (by refine(?_:(noObj (iL f)&&true)=true);refine aa ?_ (vo ..);rfl)]
theorem law_true(f:List Int)(t:f.length<=63):qg f=some true:=by unfold qg;refine aa ?_ Lr;refine oA (CH (L:=f.length)) fun j c=>?_;have k:=RL t;refine aH (RM (n:=eT f.length) (num:=NM f) (fr:=(((((F0 f).set 1 (some (.int (eT f.length)))).set 2 (some (iL ((aG (eT f.length)).map (NM f))))).set 3 (some (.lst ((aG (eT f.length)).map fun i=>gd (NM f i))))).set 4 (some (iL (aG (eT f.length))))).set 5 (some (.lst ((aG (eT f.length)).map fun i=>.str (aM (NS f i)))))) c rfl rfl rfl rfl rfl) fun a v B=>?_;refine gb (RN (st:=[]) c (by exact bb (Bg ..) j) B) fun F u D b=>?_;refine oE (RO (st:=u) c (by exact bb (Bg ..) j) b) fun d m=>?_;exact aa (aa rfl (yk rfl)) (vQ k (vQ v (vQ D m)))
#print axioms Mine.law_true
theorem Mine.the_law:PySem.Challenge.rw_rt0103_01.Holds:=Mine.head_law Mine.law_true
#print axioms Mine.the_law
end
end Mine
theorem PySem.Challenge.cw_rt0103_01_holds : PySem.Challenge.rw_rt0103_01.Holds := by
  exact Mine.head_law Mine.law_true
