import PyProof.Rows.All
import Wide.All
import OpenK.AllK
import Wide.FinOn
import Lean
import PySem.Challenge.RW_im0110_02
set_option maxRecDepth 100000
set_option Elab.async false
set_option linter.all false
set_option maxHeartbeats 0
set_option genInjectivity false
set_option genSizeOf false
namespace Mine
set_option tactic.hygienic false
open And renaming imp_right->Rg,imp_left->oX
open Array renaming getElem?_eq_getElem->se,size_push->Ck,getElem?_eq_none->Gn,mem_of_getElem?->Wn,getElem?_push_lt->Rz,size_modify->xI
open Bool renaming and_eq_true->Bd,not_eq_true'->Hf,false_ne_true->ng,false_eq_true->Vi,or_eq_true->Vn,beq_eq_decide_eq->JC,eq_iff_iff->UN,or_false->TR
open Classical renaming byContradiction->Qk
open Eq renaming symm->TN
open Exists renaming imp->Mi
open ForInStep renaming yield->uc
open Int renaming toNat_natCast->Ib,fmod_nonneg_of_pos->Xb,fdiv->Rc,eq_ofNat_of_zero_le->Xc,natCast_nonneg->sd,fmod_lt_of_pos->td,fmod->Qf,sub_pos_of_lt->Lg,toNat->ih,ofNat_sub->Dh,fdiv_eq_ediv_of_nonneg->ti,le_trans->Ai,toNat_of_nonneg->sl,toNat_lt->xl,ofNat->Fl,lt_of_lt_of_le->Kr,le_of_lt->Ct,toNat_sub->Qz,sub_nonneg_of_le->pG,lt_add_one_of_le->qG,lt_of_le_of_lt->VI,max_eq_right->RN,min_eq_left->BQ,le_max_left->CQ,sub_sub->o5,pow_pos->p5,le_refl->q5
open List renaming mem_cons_of_mem->ya,mem_cons_self->za,lookup_cons->Ca,replicate->Ha,range->Qa,getD_eq_getElem?_getD->Ra,length_append->Ya,map_cons->vb,mem_of_getElem?->Mb,getElem?_eq_getElem->Wb,length_map->Yb,mem_append_right->jc,length_range->yc,mem_map_of_mem->zd,sublist_cons_self->Jd,length_replicate->Pd,forIn_cons->de,nodup_cons->De,mem_append_left->Oe,mem_cons->Ve,size_toArray->Ye,append_assoc->Ze,map_append->Jf,take_of_length_le->Rf,not_mem_nil->cg,length_cons->fg,append_nil->Dg,getElem?_map->Ig,length_drop->bh,getElem_map->dh,length_take->yi,replicate_succ->Fi,foldl_cons->Si,flatten_cons->yj,set_getElem_self->Rj,range_succ->Jk,length_set->Kk,map_congr_left->Pk,map_nil->rl,forIn_nil->El,getElem_mem->pn,ext_getElem->qn,getElem?_set_self->Sn,nil_append->Un,take_append_drop->To,singleton_append->Uo,length_dropLast->Lp,getElem?_set_ne->Mp,getElem?_range->Fq,getElem_range->zr,take_add_one->Ms,map_map->Qs,all_nil->Ss,getElem_inj->Ot,getD->Pt,filter_cons->Qt,all_eq_true->Rt,eq_nil_of_length_eq_zero->mu,takeWhile->Ow,all_cons->Gz,mem_singleton_self->Pz,length_filter_le->EC,getElem?_eq_none->FC,eraseIdx_sublist->GC,range'->QE,mem_of_mem_take->SE,mem_of_mem_drop->UE,getElem_toArray->VE,takeWhile_cons->oG,set_cons_succ->qI,forIn_toArray->rI,foldl->tI,any_eq_false->UI,zipIdx_cons->lN,getElem_set->oN,cons_append->pN,zipIdx_nil->ON,head?_drop->PN,tail_drop->xQ,drop_zero->yQ,set_set->vW,map_set->wW,any_map->xW,head?->m5,tail->i6
open List.Sublist renaming refl->Tx
open Nat renaming le_trans->Ja,ne_of_lt->Va,lt_of_lt_of_le->Za,le_refl->Ab,zero_le->Zb,mod_two_eq_zero_or_one->Qc,lt_succ_self->Dd,le_add_right->Ed,le_of_ble_eq_true->Sd,le_of_lt->Vd,lt_succ_of_lt->ye,le_succ->ze,ne_of_gt->Ee,sub_add_cancel->Me,lt_irrefl->Xe,mul_le_mul_left->Pf,ble->Wf,le_antisymm->Hg,xor_zero->Kg,blt->Uh,add_sub_of_le->Vh,lt_trans->zi,xor_assoc->Ri,sub_le->Yi,lt_of_lt_of_eq->Zi,lt_of_le_of_lt->aj,one_pos->kj,add_sub_cancel_left->lj,le_of_succ_le->Bj,le_of_eq->Cj,add_comm->Dj,le_sub_one_of_lt->Bk,zero_xor->tl,sub_lt->Rl,sub_pos_of_lt->Cm,succ->Dn,lt_add_of_pos_right->En,le_of_sub_eq_zero->Dp,add_right_comm->Jr,xor_self->yt,mul_comm->zt,lt_or_ge->Bt,shiftLeft_eq->lu,sub_sub->Uv,pow_one->Vv,not_lt_zero->jw,add_le_add->Sx,decEq->dC,xor_comm->DC,sub_eq_zero_of_le->PE,sub_succ_lt_self->lG,add_sub_add_left->mG,sub_lt_sub_left->mI,add_le_add_left->pI,xor_lt_two_pow->QI,mod_lt->RI,eq_zero_or_pos->SI,le_succ_of_le->kN,sub_sub_self->LN,mod_eq_of_lt->MN,le_of_not_lt->NN,zero_lt_one->uQ,strongRecOn->vQ,cast->QR,add_assoc->tW,succ_mul->gX,mul_succ->iX,le_total->jX
open Nat.le renaming intro->Fz
open Ne renaming symm->Hb
open Option renaming isNone_some->OE,map->sW
open Option.some renaming inj->va
open PUnit renaming unit->iw
open Prod renaming fst->mn
open Prod.mk renaming injEq->we,inj->Ih
open PySem PySem.W PySem.Calls PyProof.Rows
open PyProof.Rows renaming Attribute_name->gf,Subscript_->Hh,sub_int->Bm,subscriptTail->Kt,neg_int->Tv,add_int->PI,rshift_int->MR,bitAnd_pp->eX,mul_int->f5,exec_Assign->i5,call_len_slot->j5,callWith_type->l5
open PySem renaming Shared->aa,World->ja,model->ka,Addr->la,wpAny_pure->pa,Around->ua,Program->wa,Str->xa,wpAny_of_eq->Aa,treeTable->Ka,wpAny_holding->Ma,Heap->Na,Expr->Oa,builtinLookup_eq_fast->Pa,Obj->Sa,DictEntry->Ta,wpAny_bind->Ua,wpAny_specialOf->ab,Stmt->cb,NameKind->ub,wpAny_standAt->wb,typeLookup_type->xb,denote->Gb,Thread->Jb,sizeLine->Kb,wpAny_mono->Lb,Result->Ob,wpAny_Constant_int->Rb,wpAny_assign_Name->Sb,wpAny_callSpecial?_slot->Ub,Sem->Vb,wpAny_call_entry->qc,typeLookup->vc,IsRangeIter->wc,checkBuiltinCall->Ac,GenState->Bc,rawInt->Fc,builtinsNs->Hc,execs->Kc,wpAny_assignInOrder_more->Oc,wpAny_newObj_type->Uc,wpAny_field->Zc,mainGlobals->jd,isSubtype_type->pd,compEnvC->qd,Pos->xd,wpAny_execs_nil->Fd,wpAny_seqItems->Qd,entryFor_of_tree->Ud,wpAny_truthy_bool->Zd,foldedSetIterable->ae,Scope->me,interactive->qe,starEach->Ae,Env->Be,wpAny_storeName_local->Ie,wpAny_isTrue_Compare1->Je,recursionLimit->Le,cStatics->Ue,GenOnlyQ->We,callEnvC->ef,Frame->rf,entryFor->xf,wpAny_isInstance->zf,Flow->Af,step->Gf,wpAny_BinOp->Mf,BindsTo->Sf,letOwnedTupleGo->Tf,Params->Vf,exec->ig,Tok->jg,plainId_quiet->qg,cellsFrom->tg,wpAny_pyIter_range->Ag,backTo->Bg,Code->Eg,pyNext->Qg,getMethod->Wg,wpAny_pyIter_list->Xg,lookup_relabel_local->Yg,bootBuiltins->Zg,wpAny_rule->eh,wpAny_comprehension_free->fh,wpAny_attempt->gh,pyIter->wh,getItem->Fh,getAttr->Gh,keeperOf->Xh,swapsWith->mi,table->wi,OsState->xi,wpAny_load->Gi,globalOf->Hi,spliced->Qi,wpAny_Tuple_spliced->Wi,wpAny_Constant_none->Xi,wpAny_assignInOrder_none->mj,start->nj,callWith->oj,Model->pj,Comprehension->qj,wpAny_updateSeq->vj,importedModules->xj,wpAny_setField_rec->zj,isInstance->Aj,wpAny_pyNext_range_item->Kj,specialOf->Lj,wpAny_typeOf->rk,wpAny_pyNext_range_end->sk,call_range_1->uk,FuncData->yl,wpAny_ite_split->Ol,assign->Ql,Drawn->cm,IsRange->dm,wpAny_ite_true->Dm,wpAny_bindName->Em,wpAny_Constant_str->Fm,methodCallForm->Hm,Operator->Im,Args->Jn,wpAny_sequenceKey->Mn,wpAny_letGo->Nn,subDict->Pn,fastTable_eq_tree->Qn,argsOk->Tn,noteFrame->Bp,evalArgs->Cp,Arguments->Fp,wpAny_pyNext_list_item->aq,wpAny_pyIter_rangeiter->dq,wpAny_List->fq,qualnameIn->gq,operate->iq,closureFor->jq,callSpecial?->lq,wpAny_pyNext_list_end->Hq,wpAny_pyIter_listiter->Iq,wpAny_tryCatch->Br,wpAny_point->Cr,wpAny_newFunctionEnv->Dr,subscripted->Gr,binaryOp->Ir,GenAt->Lr,updateSeq->Hs,strValues->Js,seqIndex?->Ks,compareOp->Ls,eval_ListComp->Mt,dictWalkPlain->Nt,wpAny_call->fu,wpAny_assign_Tuple->gu,mainNs->hu,findBy->iu,wpAny_pyIter_slot->aw,wpAny_builtinsFor->bw,mergeMapping->dw,field->ew,dictFind->fw,codeAny_loop->gw,wpAny_pyIter_gen->Nx,seqItems?->Px,builtinOf->Qx,wpAny_noted->zz,wpAny_mkInt->Az,setGen_self->Bz,keywordEach->Cz,bindSpecial->Dz,wpAny_ite_false->Mz,run->Nz,leftWithCleanup->Oz,wpAny_newFunctionEnv_cells->sC,typeIs_int->tC,placesWithHash->uC,newFunctionEnv->vC,isSubtype_stop->wC,genEnv->xC,call_meets->yC,bindL->BC,Slot->CC,IsZip->HC,wpAny_onRaise->gG,table_eq_tree->iG,evalPart_some->jG,attributeBase->kG,storeName->fI,slicePick->iI,outcomeOf->jI,isSubtype->lI,CmpOp->wI,wpAny_mkText->JI,runOwn->KI,plainId->LI,hashInt->MI,codeAny_compStart_list->NI,callerA->OI,BoolOp->XI,codeAny_call_function->iN,wpAny_updateSeq_pair->AN,wpAny_throw->BN,wpAny_nsGet->CN,dictEntries->DN,codeAny_extend_loopS->EN,codeAny_call_builtin->FN,bindC->GN,backToKw->HN,IntMulOk->QN,wpAny_functionCodeX->rQ,wpAny_newTextTuple->KR,wpAny_getItem_list->LR,newExc->NR,staticsAccountedI->jW,slot_list_setitem->kW,setItem->mW,newList->oW,dictSet->qW,wpAny_typeOf_ref->SW,wpAny_pyIter_zip->UW,wpAny_Call_NameR->VW,isSeqSlot->YW,fillsInplaceSlot->ZW,exec_Assign_Name->aX,dictEpoch->bX,compStart->cX,codeAmong->dX,wpAny_with_toks->W4,shortFactorBits->X4,codeAny_builtin->Y4,wpAny_setField->V5,wpAny_If->W5,updateDictKeys->X5,staticOf->Y5,runValue->Z5,retInt->a6,mroOf->b6,guardsOf->c6,firstArgMember->e6,cLine->f6,JoinOk->j6,IsPart->l6
open PySem.AfterImport renaming unique->B6,of_importEnds->C6
open PySem.Around renaming under_plainId->vf
open PySem.Bind renaming madeBy->WE
open PySem.BindsTo renaming of_eq->th
open PySem.Builtin renaming bitXor->Kd,divisionGoesByPylong->Dt,bitAnd->ou,bitOr->rN
open PySem.Builtin.Bytes renaming ownRelease->oe,slotIsOwn->jf,payload->Kf,buffer?->Lf,write->rg,checkResize->yh,subscript?->Jh,lengthHint->Kh,exportsOf->ni,sameRef->Ni,fitsIndex->Rk,exported->zl,takeBufferQuiet?->Ep,newBytearray->Kq,sliceParts->Nr,byteValue->Us,payload?->Et,sliced->qu,takeBuffer?->mX,bindOptional->nX
open PySem.Builtin.Generator renaming genWake->Pp
open PySem.Builtin.Int renaming intBits->Qw
open PySem.Builtin.List renaming listExtendWith->kd,listSameRef->bf,listTooLong->Wh,listLengthHint->Mj,listItems->Tt,listUpdate->w5,listTouch->A5,listSubscript?->B5,listFitsIndex->C5
open PySem.Builtin.Range renaming rangeSize->Bb,small->Jm,rangeFitsLong->kX
open PySem.Builtin.SmallTypes renaming nextOf->Lc,ownedTupleIsFree->qf,ownedTupleHandOut->Hl
open PySem.Builtin.Str renaming tooLong->w6,glued->z6
open PySem.Calls renaming evalArgs_plain->IC
open PySem.Code renaming compStart->Pw,builtin->fC,quiet_builtin->uI
open PySem.Data renaming seq->HQ
open PySem.Env renaming kindOf->bc
open PySem.Expr renaming Compare->zW
open PySem.F renaming slot_range_iterator_next->Bi,slot_zip_next->Np,args_object_init_3->Jq,plain_extend_loop->Mr,args_range_iterator_next_1->Ux,entry_range_iterator_next->Iz,plain_list_iadd->DQ,entry_type_call->FQ,args_zip_next_1->GQ,entry_zip_next->SR,slot_int_rmul->yW
open PySem.Fin renaming again->nu
open PySem.FuncData renaming mk->Hz
open PySem.GenOnly renaming setGen->WI
open PySem.Heap renaming get?_push_of_some->fa,get?_push_size->ra,lt_size->Ba,get?_update_other->Ea,get?_update_self->zc,size_push->Ec,SameBut->Ad,get?_none_of_le->Pe,ExtBut->bj,get?->qN,of_bltView->SN,isNs->o6
open PySem.Heap.ExtBut renaming refl->q6
open PySem.Heap.IsList renaming typeIs->p6
open PySem.Heap.IsSliceOf renaming new->Wv
open PySem.Heap.Ns renaming of_isNs->vn
open PySem.Heap.SameBut renaming update->ug
open PySem.IsRange renaming new->Ts
open PySem.ItemsOf renaming nil->AQ
open PySem.Keeper renaming machine->Xa,frame->zQ
open PySem.Moved renaming refl->nG,eq_with->wQ,trans->uW
open PySem.NameKind renaming free->kc,globalImplicit->Pc,cell->zg
open PySem.Obj renaming mapSeq->Rd,mapDictKeys->So,mapBytearray->ku,data->PR
open PySem.Pin renaming globalOf_eq->tQ
open PySem.Sem renaming pure->si,wrap_wrap->Ak,wrap_congr->mq,wrap->nq,wp_mono->oq,keep_eq_wrap->JN,bind_eq_wrap->KN,wp_keep->Z4
open PySem.Shared renaming asleep_of_life->Rn,heap->YB,rest_eq->jN
open PySem.Str renaming ofString->qa
open PySem.Thread renaming yieldsInsideHandler->bg,atCollectorCode->oh,atExit->Zl,calm->Ro
open PySem.Txt renaming join->OR
open PySem.Value renaming type->od,isInt->Cg,ref->ri,str->Qj,none->Cn,int->Jp,builtin->Rx,isStrOf->sQ
open PySem.Value.ref renaming inj->ff
open PySem.Value.type renaming inj->ME
open PySem.W renaming boot_heap->Ke,through->wj,stepOk->Gm,topFrame->Er,leaveH->Hr,boot_drawn->ju,topRun->Ox,doneF->pW,WellAll->rW,wellAll_cons_inv->XW,WData->g6
open PySem.W.RowW.promised renaming witness->fX
open PySem.W.WData renaming int->Ez
open PySem.World renaming withFollow_self->Nb
@[elab_as_elim] theorem rwG{α:Sort _}{a b:α}{c:α->Prop}(h:a=b)(x:c b):c a:=h.symm▸x
theorem Nc{p:Prop}(h:(p->False)->False):p:=Qk h
theorem q9{α β:Type}{o:Option α}{f:α->Option β}{b:β}(h:o.bind f=some b):∃a,o=some a/\f a=some b:=Option.bind_eq_some_iff.mp h
noncomputable def OK{α:Type _}(o:Option α)(P:α->Prop):Prop:=∀y,o=some y->P y
section
variable{α β:Type _}{P:α->Prop}{o:Option α}
theorem OK.none:OK (none:Option α) P:=λZ e=>nomatch e
theorem OK.some{y:α}(h:P y):OK (some y) P:=λZ e=>va e▸h
theorem OK.bind{o:Option β}{f:β->Option α}(h:∀y,o=.some y->OK (f y) P):OK (o.bind f) P:=by
 cases o
 ·exact OK.none
 ·exact h _ rfl
theorem OK.elim{o:Option β}{b:Option α}{f:β->Option α}(h:∀y,o=.some y->OK (f y) P)(h':OK b P):OK (o.elim b f) P:=by
 cases o
 ·exact h'
 ·exact h _ rfl
theorem OK.bif{c:Bool}(h:c=true->OK o P):OK (bif c then o else .none) P:=by
 cases c
 ·exact OK.none
 ·exact h rfl
theorem OK.bin{c:Bool}(h:c=false->OK o P):OK (bif c then .none else o) P:=by
 cases c
 ·exact h rfl
 ·exact OK.none
theorem OK.t9{c:Bool}{o':Option α}(h:c=true->OK o P)(h':c=false->OK o' P):OK (bif c then o else o') P:=by
 cases c
 ·exact h' rfl
 ·exact h rfl
theorem OK.mono{Q:α->Prop}(h:OK o P)(i:∀y,P y->Q y):OK o Q:=λy e=>i y (h y e)
end
noncomputable def lv(o:PySem.Obj):Option PySem.Obj:=bif o.isFreed then none else some o
noncomputable def gv(o:Option PySem.Obj):Option PySem.Obj:=o.bind lv
theorem OK.live{α:Type _}{P:α->Prop}{o:PySem.Obj}{f:PySem.Obj->Option α}(h:o.isFreed=false->OK (f o) P):OK ((lv o).bind f) P:=by
 unfold Mine.lv
 cases e:o.isFreed
 ·exact h e
 ·exact OK.none
theorem OK.get{α:Type _}{P:α->Prop}{o:Option PySem.Obj}{f:PySem.Obj->Option α}(h:∀y,o=Option.some y->y.isFreed=false->OK (f y) P):OK ((gv o).bind f) P:=by
 cases o with
 |none=>exact OK.none
 |some y=>exact OK.live (h y rfl)
structure rC(σ:Type) where
 ld:σ->la->Option (Sa×σ)
 up:σ->la->(Sa->Sa)->Option σ
 al:σ->Sa->Option (la×σ)
structure el{σ:Type}(O:rC σ)(good:σ->Prop)(R:σ->Na->Prop):Prop where
 ld:∀s a,OK (O.ld s a) λx=>(good x.2->good s)/\∀h,good x.2->R s h->h.get? a=some x.1/\R x.2 h
 up:∀s a f,OK (O.up s a f) λx=>(good x->good s)/\∀h,good x->R s h->(h.get? a).isSome=true/\R x (h.update a f)
 al:∀s o,OK (O.al s o) λx=>(good x.2->good s)/\∀h,good x.2->R s h->x.1=h.objs.size/\R x.2 (h.push o)
theorem Sl{h:Na}{a i:la}{f:Sa->Sa}{o o':Sa}(b:h.get? a=some o)(hf:o'.isFreed=false)(d:i=a/\o'=f o\/i≠a/\h.get? i=some o'):(h.update a f).get? i=some o':=
 d.elim (λq=>by rw[q.1,q.2];exact zc f b (q.2▸hf)) λq=>(Ea h f (Hb q.1)).trans q.2
theorem Vj{h:Na}{a:la}{f:Sa->Sa}:(h.update a f).objs.size=h.objs.size:=xI
theorem Sk{h:Na}{a:la}{o:Sa}(b:h.get? a=some o):(h.get? a).isSome=true:=Option.isSome_of_eq_some b
theorem Xt{h:Na}{o:Sa}{i:la}(hi:i < h.objs.size):(h.push o).get? i=h.get? i:=by
 have e:(h.push o).objs[i]?=h.objs[i]?:=(Rz hi).trans (se hi).symm
 unfold qN
 rw[e]
theorem Zo{h:Na}{o o':Sa}{i:la}(hf:o'.isFreed=false)(d:i=h.objs.size/\o'=o\/h.get? i=some o'):(h.push o).get? i=some o':=
 d.elim (λq=>by rw[q.1,q.2];exact ra h (q.2▸hf)) λq=>fa _ q
theorem om{h:Na}{o:Sa}:(h.push o).objs.size=h.objs.size+1:=Ck _
theorem ey{t:BT}{a i:Nat}{f:Sa->Sa}{o o':Sa}(g:t.get a=some o)(e:(t.set a f).get i=some o'):i=a/\o'=f o\/i≠a/\t.get i=some o':=by
 rw[BT.get_set] at e
 by_cases q:i=a
 ·rw[if_pos q,g] at e;exact .inl ⟨q,(va e).symm⟩
 ·rw[if_neg q] at e;exact .inr ⟨q,e⟩
theorem Pm{t:BT}{a i:Nat}{o o':Sa}(g:((t.ins a o).get a).isSome=true)(e:(t.ins a o).get i=some o'):i=a/\o'=o\/t.get i=some o':=by
 rw[BT.get_ins o t a g] at e
 by_cases q:i=a
 ·rw[if_pos q] at e;exact .inl ⟨q,(va e).symm⟩
 ·rw[if_neg q] at e;exact .inr e
theorem wo{α:Type}{l:List α}{i j:Nat}{x y z:α}(hi:l[i]?=some z)(e:(l.set i x)[j]?=some y):j=i/\y=x\/j≠i/\l[j]?=some y:=by
 by_cases q:j=i
 ·subst q;exact .inl ⟨rfl,(va ((Sn (List.getElem?_eq_some_iff.mp hi).1).symm.trans e)).symm⟩
 ·exact .inr ⟨q,(Mp (Hb q)).symm.trans e⟩
theorem AA{α:Type}{l:List α}{j:Nat}{x y:α}(e:(l++[x])[j]?=some y):j=l.length/\y=x\/l[j]?=some y:=by
 rcases Nat.lt_trichotomy j l.length with q|q|q
 ·exact .inr ((List.getElem?_append_left q).symm.trans e)
 ·subst q;exact .inl ⟨rfl,(va ((List.getElem?_concat_length ..).symm.trans e)).symm⟩
 ·exact nomatch (FC (by rw[Ya];exact q)).symm.trans e
noncomputable abbrev H9:List rf->Bool
 |.ret ..::_=>true
 |_=>false
section
variable{σ:Type}
noncomputable def bk(st:σ)(k:Nat)(r:Ob)(stack:List rf):Option (σ×Nat×Jb):=match stack with
 |fr::rest=>match fr with
  |.ret y _ _ _ c q _=>some (st,k,⟨y r,c,q,rest⟩)
  |_=>none
 |[]=>none
noncomputable def gst(st:σ)(k:Nat):Step->Option (σ×Nat×Jb)
 |.go _ t'=>some (st,k,t')
 |.halt _ _=>none
noncomputable def N9(O:rC σ)(i:Eg->Vb Fin)(p:wa)(w:ja)(st:σ)(k:Nat):Jb->Option (σ×Nat×Jb)
 |⟨j,code,pos,stack⟩=>match j with
  |.load a _ f=>(O.ld st a).bind λ|(o,d)=>some (d,k,⟨f o,code,pos,stack⟩)
  |.update a _ g f=>(O.up st a g).bind λx=>some (x,k,⟨f (),code,pos,stack⟩)
  |.alloc o f=>(O.al st o).bind λ|(a,d)=>some (d,k,⟨f a,code,pos,stack⟩)
  |.fresh f=>some (st,Dn k,⟨f k,code,pos,stack⟩)
  |.ask f=>some (st,k,⟨f ⟨p,w.params⟩,code,pos,stack⟩)
  |.rule _ f=>some (st,k,⟨f (),code,pos,stack⟩)
  |.at q f=>some (st,k,⟨f (),code,q,stack⟩)
  |.point _ f=>some (st,k,⟨f (),code,pos,stack⟩)
  |.stack f=>some (st,k,⟨f ((code,pos)::stack.map Frame.where_),code,pos,stack⟩)
  |.handled b f=>match b with
   |false=>some (st,k,⟨f (topHandled stack),code,pos,stack⟩)
   |true=>none
  |.pure x=>match x with
   |.done f=>bk st k (.ok f) stack
   |.again c=>gst st k (Gf i p w {} ⟨.pure (.again c),code,pos,stack⟩)
  |.raise e=>bk st k (.error e) stack
  |.call c h g l f=>gst st k (Gf i p w {} ⟨.call c h g l f,code,pos,stack⟩)
  |_=>none
end
section
variable{σ:Type}{O:rC σ}{good:σ->Prop}{R:σ->Na->Prop}
noncomputable def pQ(good:σ->Prop)(R:σ->Na->Prop)(a:Eg->Vb Fin)(p:wa)(w:ja)(st:σ)(k:Nat)(t:Jb)(x:σ×Nat×Jb):Prop:=
 (good x.1->good st)/\∀h gs d os,good x.1->R st h->∃h',Gf a p w ⟨h,gs,d,k,os⟩ t=.go ⟨h',gs,d,x.2.1,os⟩ x.2.2/\R x.1 h'
theorem pQ.Ce{a:Eg->Vb Fin}{p:wa}{w:ja}{st:σ}{k k':Nat}{t t':Jb}(e:∀h gs d os,Gf a p w ⟨h,gs,d,k,os⟩ t=.go ⟨h,gs,d,k',os⟩ t'):OK (some (st,k',t')) (pQ good R a p w st k t):=
 OK.some ⟨id,λZ Z Z Z Z r=>⟨_,e ..,r⟩⟩
theorem BR{f:Eg->Vb Fin}{p:wa}{w:ja}{st:σ}{k:Nat}{stack:List rf}{r:Ob}{code:Eg}{pos:xd}{g:Vb Fin}
  (e:∀y a b c i q l rest h gs d os,Gf f p w ⟨h,gs,d,k,os⟩ ⟨g,code,pos,.ret y a b c i q l::rest⟩=.go ⟨h,gs,d,k,os⟩ ⟨y r,i,q,rest⟩):
  OK (bk st k r stack) (pQ good R f p w st k ⟨g,code,pos,stack⟩):=by
 cases stack with
 |nil=>exact OK.none
 |cons fr rest=>
  cases fr with
  |ret=>exact pQ.Ce (e _ _ _ _ _ _ _ _)
  |_=>exact OK.none
theorem BJ(H:el O good R){b:Eg->Vb Fin}{p:wa}{w:ja}{st:σ}{k:Nat}{t:Jb}:OK (N9 O b p w st k t) (pQ good R b p w st k t):=by
 obtain ⟨d,code,pos,stack⟩:=t
 cases d with
 |load a q f=>exact OK.bind λx e=>OK.some ⟨(H.ld _ _ x e).1,λh Z Z Z g r=>((H.ld _ _ x e).2 h g r).elim λq r=>⟨h,by rw[Gf,q],r⟩⟩
 |update a q f g=>exact OK.bind λx e=>OK.some ⟨(H.up _ _ _ x e).1,λh Z Z Z g r=>((H.up _ _ _ x e).2 h g r).elim λq r=>⟨_,by rw[Gf,if_pos q],r⟩⟩
 |alloc o f=>exact OK.bind λx e=>OK.some ⟨(H.al _ _ x e).1,λh Z Z Z g r=>((H.al _ _ x e).2 h g r).elim λq r=>⟨_,by rw[Gf,q],r⟩⟩
 |fresh|ask|rule|«at»|point|stack=>exact pQ.Ce λZ Z Z Z=>rfl
 |handled own f=>cases own with
  |false=>exact pQ.Ce λZ Z Z Z=>rfl
  |true=>exact OK.none
 |pure f=>cases f with
  |done f=>exact BR λZ Z Z Z Z Z Z Z Z Z Z Z=>rfl
  |again c=>exact pQ.Ce λZ Z Z Z=>rfl
 |raise x=>exact BR λZ Z Z Z Z Z Z Z Z Z Z Z=>rfl
 |call c i j l f=>exact pQ.Ce λZ Z Z Z=>rfl
 |_=>exact OK.none
noncomputable def a7(O:rC σ)(NG:σ->Nat->Jb->Option (σ×Nat×Jb))(d:Eg->Vb Fin)(p:wa)(w:ja)(pg:Nat)(Am:Option Value)(e:σ->Nat->Jb->Option (σ×Nat×Jb))(st:σ)(k:Nat)(t:Jb):Option (σ×Nat×Jb):=
 match wj t with
 |true=>some (st,k,t)
 |false=>(NG st k t).elim (bif Gm pg Am t then (N9 O d p w st k t).bind λ|(a,b,c)=>e a b c else none) λ|(a,b,c)=>e a b c
noncomputable def rn(O:rC σ)(NG:σ->Nat->Jb->Option (σ×Nat×Jb))(a:Eg->Vb Fin)(p:wa)(w:ja)(pg:Nat)(Am:Option Value):Nat->σ->Nat->Jb->Option (σ×Nat×Jb)
 |0,st,k,t=>some (st,k,t)
 |n+1,st,k,t=>a7 O NG a p w pg Am (rn O NG a p w pg Am n) st k t
noncomputable def Goes(p:wa)(w:ja)(pg:Nat)(Am:Option Value)(s:aa)(t:Jb)(s':aa)(t':Jb):Prop:=
 ∀N r,Ox Ka p w pg Am N s' t'=some r->∃a,Ox Ka p w pg Am a s t=some r
theorem Goes.refl{p:wa}{w:ja}{pg:Nat}{Am:Option Value}{s:aa}{t:Jb}:Goes p w pg Am s t s t:=λN Z h=>⟨N,h⟩
theorem Goes.trans{p:wa}{w:ja}{pg:Nat}{Am:Option Value}{s s' Ng:aa}{t t' c:Jb}(a:Goes p w pg Am s t s' t')(b:Goes p w pg Am s' t' Ng c):Goes p w pg Am s t Ng c:=
 λN r h=>let ⟨d,h'⟩:=b N r h;a d r h'
variable{NG:σ->Nat->Jb->Option (σ×Nat×Jb)}{p:wa}{w:ja}{pg:Nat}{Am:Option Value}{gs:Array Bc}{d:cm}{t t':Jb}
theorem Goes.one(ht:wj t=false)(b:Gm pg Am t=true){s s':aa}(a:Gf (Gb Ka) p w s t=.go s' t'):Goes p w pg Am s t s' t':=λN r h=>⟨N+1,by
 unfold Ox
 rw[ht,b,a]
 exact h⟩
noncomputable def Gs(good:σ->Prop)(R:σ->Na->Prop)(p:wa)(w:ja)(pg:Nat)(Am:Option Value)(gs:Array Bc)(d:cm)(st:σ)(k:Nat)(t:Jb)(x:σ×Nat×Jb):Prop:=
 (good x.1->good st)/\∀h os,good x.1->R st h->∃h',Goes p w pg Am ⟨h,gs,d,k,os⟩ t ⟨h',gs,d,x.2.1,os⟩ x.2.2/\R x.1 h'
noncomputable def Mx(good:σ->Prop)(R:σ->Na->Prop)(NG:σ->Nat->Jb->Option (σ×Nat×Jb))(p:wa)(w:ja)(pg:Nat)(Am:Option Value)(gs:Array Bc)(d:cm):Prop:=
 ∀st k t,OK (NG st k t) (Gs good R p w pg Am gs d st k t)
theorem Gs.then{st:σ}{k:Nat}{x y:σ×Nat×Jb}(a:Gs good R p w pg Am gs d st k t x)(b:Gs good R p w pg Am gs d x.1 x.2.1 x.2.2 y):Gs good R p w pg Am gs d st k t y:=
 ⟨λg=>a.1 (b.1 g),λh os g r=>(a.2 h os (b.1 g) r).elim λZ q=>(b.2 _ os g q.2).imp λZ c=>⟨q.1.trans c.1,c.2⟩⟩
theorem ES(H:el O good R)(M:Mx good R NG p w pg Am gs d){c:σ->Nat->Jb->Option (σ×Nat×Jb)}(b:∀{st:σ} {k:Nat} {t:Jb},OK (c st k t) (Gs good R p w pg Am gs d st k t)){st:σ}{k:Nat}{t:Jb}:
  OK (a7 O NG (Gb Ka) p w pg Am c st k t) (Gs good R p w pg Am gs d st k t):=by
 delta a7
 cases ht:wj t with
 |true=>exact OK.some ⟨id,λZ Z Z r=>⟨_,.refl,r⟩⟩
 |false=>exact OK.elim (λx e y a=>Gs.then (M _ _ _ x e) (b y a)) (OK.bif λf=>OK.bind λx e y a=>
   Gs.then ⟨(BJ H x e).1,λh os g r=>((BJ H x e).2 h gs d os g r).imp λZ q=>⟨.one ht f q.1,q.2⟩⟩ (b y a))
theorem MJ(H:el O good R)(M:Mx good R NG p w pg Am gs d):∀{n:Nat} {st:σ} {k:Nat} {t:Jb},OK (rn O NG (Gb Ka) p w pg Am n st k t) (Gs good R p w pg Am gs d st k t)
 |0,_,_,_=>OK.some ⟨id,λZ Z Z r=>⟨_,.refl,r⟩⟩
 |n+1,st,k,t=>ES H M (MJ H M (n:=n))
theorem jm(H:el O good R)(M:Mx good R NG p w pg Am gs d){n:Nat}{st a:σ}{k k':Nat}{t t':Jb}(e:rn O NG (Gb Ka) p w pg Am n st k t=some (a,k',t'))(g:good a){h:Na}{os:xi}(r:R st h):
  ∃h',Goes p w pg Am ⟨h,gs,d,k,os⟩ t ⟨h',gs,d,k',os⟩ t'/\R a h':=(MJ H M _ e).2 h os g r
end
noncomputable def Ln:Sa:=⟨.none,none,.freed,#[]⟩
structure T1 where
 t:BT
 n:Nat
noncomputable def ld1(s:T1)(a:la):Option (Sa×T1):=(gv (s.t.get a)).bind λo=>some (o,s)
noncomputable def up1(lo:Nat)(s:T1)(a:la)(f:Sa->Sa):Option T1:=bif Wf lo a then (gv (s.t.get a)).bind λZ=>some ⟨s.t.set a f,s.n⟩ else none
noncomputable def al1(s:T1)(o:Sa):Option (la×T1):=bif ((s.t.ins s.n o).get s.n).isSome then some (s.n,⟨s.t.ins s.n o,Dn s.n⟩) else none
noncomputable def TS(lo:Nat):rC T1:=⟨ld1,up1 lo,al1⟩
theorem UB{o:Sa}(h:o.isFreed=false):alive o=some o:=by
 obtain ⟨c,dd,a,b⟩:=o
 cases a <;> first|rfl|exact nomatch h
structure qQ(lo:Nat)(yb:Na)(s:T1)(h:Na):Prop where
 size:h.objs.size=s.n
 own:∀i o,s.t.get i=some o->o.isFreed=false->h.get? i=some o
 low:∀i,i < lo->h.get? i=yb.get? i
 le:lo<=s.n
theorem lF(lo:Nat)(yb:Na):el (TS lo) (λZ=>True) (qQ lo yb) where
 ld s a:=OK.get λo e q=>OK.some ⟨id,λh Z r=>⟨r.own _ _ e q,r⟩⟩
 up s a f:=OK.bif λb=>OK.get λo e q=>OK.some ⟨id,λh Z r=>have c:=r.own _ _ e q
  ⟨Sk c,Vj.trans r.size,λi o' hi hf=>Sl c hf ((ey e hi).imp_right λq=>⟨q.1,r.own _ _ q.2 hf⟩),
   λi hi=>(Ea h f (Ee (Za hi (Sd b)))).trans (r.low i hi),r.le⟩⟩
 al s o:=OK.bif λg=>OK.some ⟨id,λh Z r=>⟨r.size.symm,om.trans (congrArg (·+1) r.size),
  λi o' hi hf=>Zo hf ((Pm g hi).imp (λq=>⟨q.1.trans r.size.symm,q.2⟩) λq=>r.own _ _ q hf),
  λi hi=>(Xt (Za hi (r.size▸r.le))).trans (r.low i hi),kN r.le⟩⟩
structure T2 where
 old:BT
 m:Nat
 new:List Sa
 hints:List Nat
 obl:List (la×la)
noncomputable def ld2(s:T2)(a:la):Option (Sa×T2):=match s.hints with
 |[]=>none
 |x::b=>match x with
  |0=>(gv (s.old.get a)).bind λo=>some (o,{s with hints:=b})
  |Dn i=>(gv s.new[i]?).bind λo=>some (o,{s with hints:=b,obl:=(a,s.m+140+i)::s.obl})
noncomputable def up2(s:T2)(a:la)(f:Sa->Sa):Option T2:=match s.hints with
 |[]=>none
 |x::b=>match x with
  |0=>none
  |Dn i=>(gv s.new[i]?).bind λo=>some {s with new:=s.new.set i (f o),hints:=b,obl:=(a,s.m+140+i)::s.obl}
noncomputable def al2(s:T2)(o:Sa):Option (la×T2):=some (s.m+140+s.new.length,{s with new:=s.new++[o]})
noncomputable def GY:rC T2:=⟨ld2,up2,al2⟩
noncomputable def HL(s:T2):Prop:=∀p∈s.obl,p.1=p.2
structure FE(ij:Na)(s:T2)(h:Na):Prop where
 fr:∀i,i < s.m+140->h.get? i=ij.get? i
 size:h.objs.size=s.m+140+s.new.length
 old:∀i o,s.old.get i=some o->o.isFreed=false->h.get? i=some o/\i < 140
 own:∀i o,s.new[i]?=some o->o.isFreed=false->h.get? (s.m+140+i)=some o
theorem apart1(a j m i:Nat)(h:a=m+140+i)(y:j < 140):a≠j:=by lia
theorem apart2(a m i j:Nat)(h:a=m+140+i)(y:j≠i):a≠m+140+j:=by lia
theorem aN(a i m j:Nat)(h:a=m+140+i)(y:j < m+140):a≠j:=by lia
theorem AO(ij:Na):el GY HL (FE ij) where
 ld s a:=by
  obtain ⟨old,m,new,hints,obl⟩:=s
  cases hints with
  |nil=>exact OK.none
  |cons x k=>cases x with
   |zero=>exact OK.get λo e q=>OK.some ⟨id,λh Z r=>⟨(r.old _ _ e q).1,r.fr,r.size,r.old,r.own⟩⟩
   |succ i=>exact OK.get λo e q=>OK.some ⟨λg p hp=>g p (.tail _ hp),λh g r=>have c:a=m+140+i:=g _ (.head _);⟨(congrArg h.get? c).trans (r.own _ _ e q),r.fr,r.size,r.old,r.own⟩⟩
 up s a f:=by
  obtain ⟨old,m,new,hints,obl⟩:=s
  cases hints with
  |nil=>exact OK.none
  |cons x k=>cases x with
   |zero=>exact OK.none
   |succ i=>exact OK.get λo e q=>OK.some ⟨λg p hp=>g p (.tail _ hp),λh g r=>have c:a=m+140+i:=g _ (.head _);have d:h.get? a=some o:=(congrArg h.get? c).trans (r.own _ _ e q)
    ⟨Sk d,λj b=>(Ea h f (aN a i m j c b)).trans (r.fr j b),Vj.trans (r.size.trans (congrArg (m+140+·) List.length_set.symm)),
     λj o' b hf=>(r.old j o' b hf).imp_left (Ea h f (apart1 a j m i c (r.old j o' b hf).2)).trans,
     λj o' b hf=>(wo (l:=new) (x:=f o) (y:=o') (j:=j) e b).elim (λq=>Sl d hf (.inl ⟨(congrArg (m+140+·) q.1).trans c.symm,q.2⟩)) λq=>Sl d hf (.inr ⟨Hb (apart2 a m i j c q.1),r.own j o' q.2 hf⟩)⟩⟩
 al s o:=OK.some ⟨id,λh Z r=>⟨r.size.symm,λj b=>(Xt (Za b (Ja (Ed _ _) (Cj r.size.symm)))).trans (r.fr j b),by rw[om,r.size,Ya];rfl,
  λj o' b hf=>(r.old j o' b hf).imp_left λq=>fa _ q,λj o' b hf=>(AA (l:=s.new) (x:=o) b).elim (λq=>Zo hf (.inl ⟨(congrArg (s.m+140+·) q.1).trans r.size.symm,q.2⟩)) λq=>Zo hf (.inr (r.own j o' q hf))⟩⟩
noncomputable def qo{σ:Type}:σ->Nat->Jb->Option (σ×Nat×Jb):=λZ Z Z=>none
noncomputable def T0(P:Vf):BT:=
 (((((((((((BT.nil.ins 0 (boot_o_0 P)).ins 1 (boot_o_1 P)).ins 2 (boot_o_2 P)).ins 3 (boot_o_3 P)).ins 4 (boot_o_4 P)).ins 5 (boot_o_5 P)).ins 6 (boot_o_6 P)).ins 7 (boot_o_7 P)).ins 8 (boot_o_8 P)).ins 9 (boot_o_9 P)).ins 10 (boot_o_10 P))
noncomputable abbrev ki:Option Value:=some (.ref 6)
section
variable{p:wa}{w:ja}{Am:Option Value}{h:Na}{gs:Array Bc}{d:cm}{k:Nat}{os:xi}{code:Eg}{pos:xd}{st:List rf}
theorem ip{pg:Nat}{a:la}{q:Option Value}{f:Sa->Vb Fin}{o:Sa}(b:h.get? a=some o):
  Goes p w pg Am ⟨h,gs,d,k,os⟩ ⟨.load a q f,code,pos,st⟩ ⟨h,gs,d,k,os⟩ ⟨f o,code,pos,st⟩:=λN r H=>by
 refine⟨N+1,?_⟩
 unfold Ox
 have e:wj ⟨.load a q f,code,pos,st⟩=false:=by simp[wj]
 have c:Gm pg Am ⟨.load a q f,code,pos,st⟩=true:=by simp[Gm,Ro,bg,oh,Zl]
 rw[e,c]
 simp only[Gf,b]
 exact H
theorem lx{pg:Nat}{a:la}{q:Option Value}{g:Sa->Sa}{f:Unit->Vb Fin}{o:Sa}(b:h.get? a=some o)(c:Wf pg a=true):
  Goes p w pg Am ⟨h,gs,d,k,os⟩ ⟨.update a q g f,code,pos,st⟩ ⟨h.update a g,gs,d,k,os⟩ ⟨f (),code,pos,st⟩:=λN r H=>by
 refine⟨N+1,?_⟩
 unfold Ox
 have i:wj ⟨.update a q g f,code,pos,st⟩=false:=by simp[wj]
 have e:Gm pg Am ⟨.update a q g f,code,pos,st⟩=true:=by simp[Gm,Ro,bg,oh,Zl,c]
 rw[i,e]
 simp only[Gf,b,Option.isSome_some,if_true]
 exact H
theorem fH{pg:Nat}{a b:la}{x y z:Value}{n:Nat}{dd:Option la}{j:Array (Option Value)}
  (f:h.get? a=some ⟨.type "list",none,.seq #[] 0,#[]⟩) (hb:h.get? b=some ⟨.type "tuple",dd,.seq #[x,y,z] n,j⟩) (l:Wf pg a=true):
  Goes p w pg Am ⟨h,gs,d,k,os⟩ ⟨Gb Ka (.builtin "list.__iadd__" ⟨[.ref a,.ref b],[]⟩),code,pos,st⟩
   ⟨h.update a (Rd (·++#[x,y,z])),gs,d,k,os⟩ ⟨.pure (.done (.ret (.ref a))),code,pos,st⟩:=by
 have e:Gb Ka (.builtin "list.__iadd__" ⟨[.ref a,.ref b],[]⟩)=kd (.ref a) (.ref b) (.ref a):=by kernel_rfl
 rw[e]
 unfold kd
 refine Goes.trans (ip hb) ?_
 show Goes _ _ _ _ _ ⟨(if (bf (.ref a) (.ref b)||od "tuple"==od "list"||od "tuple"==od "tuple")=true then _ else _:Vb Fin),_,_,_⟩ _ _
 have m:(bf (.ref a) (.ref b)||od "tuple"==od "list"||od "tuple"==od "tuple")=true:=by simp
 rw[if_pos m]
 refine Goes.trans (ip hb) ?_
 refine Goes.trans (ip f) ?_
 refine Goes.trans (ip f) ?_
 refine Goes.trans (lx f l) ?_
 have i:=zc (Rd (·++#[x,y,z])) f rfl
 refine Goes.trans (ip i) ?_
 have hp:(Rd (·++#[x,y,z]) {cls:=od "list",data:=HQ #[]}).data.pastItsLine=none:=by kernel_rfl
 have q:((λg=>(si g).bind λ(o:Sa)=>(match o.data.pastItsLine with|some c=>unsupported c|none=>pure ():Vb Unit)) (Rd (·++#[x,y,z]) {cls:=od "list",data:=HQ #[]})).bind
   (λZ=>(ret (ri a):Vb Fin))=si (Fin.done (Flow.ret (ri a))):=by
  show((match (Rd (·++#[x,y,z]) {cls:=od "list",data:=HQ #[]}).data.pastItsLine with|some c=>unsupported c|none=>pure ():Vb Unit)).bind (λZ=>(ret (ri a):Vb Fin))=_
  rw[hp]
  rfl
 exact q▸Goes.refl
end
noncomputable abbrev PP:wa:=PySem.Challenge.pw_im0110_02
noncomputable abbrev Yn:String:="special-get-raises"
noncomputable def Mg:Be:={scope:=PP.main.scope,locals:=hu,globals:=hu,cells:=[],code:=.ref 13,frame:=some 14}
noncomputable def fb:List cb:=behindTheImports PP
noncomputable def Pg:cb:=(fb[12]?).getD (.Pass default)
noncomputable def JM:List cb:=fb.take 12
noncomputable def BB:List cb:=fb.drop 13
set_option tactic.hygienic true
noncomputable def pP:Af->Vb Fin:=λf=>match f with
 |.next=>(Kc (Pg::BB) Mg).wrap pW (Hr Mg) id id
 |f=>pW f
set_option tactic.hygienic false
noncomputable def gA(p:wa)(T:Vf->BT)(w:ja):Option (T1×Nat×Jb):=rn (TS 0) qo (Gb Ka) p w 11 ki 12 ⟨T w.params,11⟩ 181 (topStub p)
noncomputable def gB(p:wa)(T:Vf->BT)(a:Jb)(w:ja):Option (T1×Nat×Jb):=(gA p T w).bind λr=>rn (TS 0) qo (Gb Ka) p w 11 ki 1494 r.1 r.2.1 a
noncomputable def M3(p:wa)(T:Vf->BT)(a:Jb)(w:ja):BT:=match gB p T a w with
 |some (s,_,_)=>s.t
 |none=>.nil
noncomputable def l7:=gA PP T0
noncomputable def ee:Jb:=⟨(blockStart fb Mg).wrap (λZ=>(Kc JM Mg).wrap pP (Hr Mg) id id) .raise id id,.body fb Mg,default,[Er default]⟩
noncomputable def OS:=gB PP T0 ee
noncomputable def tw:=M3 PP T0 ee
noncomputable def aG(p:wa)(T:Vf->BT)(bd:List cb)(a:Be)(w:ja)(b:Bool):Prop:=(gA p T (w.withFollow "special-get-raises" b)).map (λr=>(r.1.n,r.2.1,r.2.2))=some (15,187,⟨Gb Ka (.body bd a),.body bd a,default,[Er default]⟩)
noncomputable def bG(p:wa)(T:Vf->BT)(a X:Jb)(w:ja)(b:Bool):Prop:=(gB p T a (w.withFollow "special-get-raises" b)).map (λr=>(r.1.n,r.2.1,r.2.2))=some (139,400,X)
noncomputable def aOk:=aG PP T0 fb Mg
set_option tactic.hygienic true
noncomputable def bOk:=bG PP T0 ee ⟨pP .next,.body fb Mg,⟨31,0,73,58⟩,[Er default]⟩
lay_quick Mine.aG Mine.bG
set_option tactic.hygienic false
theorem A9(w:ja)(b:Bool):aOk w b:=by
 show aG PP T0 fb Mg w b
 rw[PySem.W.Fast.te9281140160357868910]
 unfold PySem.W.Fast.tw9281140160357868910
 cases b <;> kernel_rfl
theorem u9(w:ja)(b:Bool):bOk w b:=by
 show bG PP T0 ee _ w b
 rw[PySem.W.Fast.te10259913313045349084]
 unfold PySem.W.Fast.tw10259913313045349084
 cases b <;> kernel_rfl
noncomputable def hnt(l:List Nat):Option (Nat×Nat×List Nat):=match l with
 |Dn ib::Dn ia::a=>some (ib,ia,a)
 |_=>none
noncomputable def goT:(r:Step)->Option {t:Jb // ∃s,r=.go s t}
 |.go s t=>some ⟨t,s,rfl⟩
 |.halt _ _=>none
noncomputable def st1:(m:Vb Fin)->Option {x:String×la×la // m=.pure (.again (.builtin x.1 ⟨[.ref x.2.1,.ref x.2.2],[]⟩))}
 |.pure (.again (.builtin id ⟨[.ref a,.ref b],[]⟩))=>some ⟨(id,a,b),rfl⟩
 |_=>none
noncomputable def IV:(o:Sa)->Option (PLift (o=⟨.type "list",none,.seq ⟨[]⟩ 0,⟨[]⟩⟩))
 |⟨.type c,none,.seq ⟨[]⟩ 0,⟨[]⟩⟩=>if h:c="list" then some ⟨h▸rfl⟩ else none
 |_=>none
noncomputable def Q6:(o:Sa)->Option {z:Value×Value×Value // ∃dd n a,o=⟨.type "tuple",dd,.seq ⟨[z.1,z.2.1,z.2.2]⟩ n,a⟩}
 |⟨.type c,dd,.seq ⟨[x,y,z]⟩ n,a⟩=>if h:c="tuple" then some ⟨(x,y,z),dd,n,a,h▸rfl⟩ else none
 |_=>none
noncomputable def IS(s:T2)(a b:la)(ib ia:Nat)(c:List Nat)(x y z:Value):T2:=⟨s.old,s.m,s.new.set ia (Rd (·++#[x,y,z]) ⟨.type "list",none,.seq ⟨[]⟩ 0,⟨[]⟩⟩),c,(a,s.m+140+ia)::(b,s.m+140+ib)::s.obl⟩
noncomputable def UJ(a:la)(t:Jb):Jb:=⟨.pure (.done (.ret (.ref a))),t.code,t.pos,t.stack⟩
noncomputable def a0(c:Eg->Vb Fin)(p:wa)(w:ja)(s:T2)(k:Nat)(t:Jb):Option (T2×Nat×Jb):=
 (st1 t.cur).bind λ|⟨(id,a,b),_⟩=>(hnt s.hints).bind λ|(ib,ia,f)=>s.new[ib]?.bind λd=>s.new[ia]?.bind λe=>(Q6 d).bind λ|⟨(x,y,z),_⟩=>(IV e).bind λZ=>(
  bif (id=="list.__iadd__"&&Wf 11 a)&&Gm 11 ki t then (goT (Gf c p w {} t)).bind λ|⟨t',_⟩=>some (IS s a b ib ia f x y z,k,UJ a t') else none)
section
variable{ij:Na}{w:ja}{gs:Array Bc}{d:cm}{p:wa}{st:T2}
theorem AL{h:Na}{k:Nat}{os:xi}{code:Eg}{pos:xd}{stack:List rf}{a b:la}{z:Value×Value×Value}{n:Nat}{dd:Option la}{e:Array (Option Value)}{t':Jb}{s1:aa}
  (g:Gm 11 ki ⟨.pure (.again (.builtin "list.__iadd__" ⟨[.ref a,.ref b],[]⟩)),code,pos,stack⟩=true) (c:Gf (Gb Ka) p w {} ⟨.pure (.again (.builtin "list.__iadd__" ⟨[.ref a,.ref b],[]⟩)),code,pos,stack⟩=.go s1 t')
  (i:h.get? a=some ⟨.type "list",none,.seq #[] 0,#[]⟩) (hb:h.get? b=some ⟨.type "tuple",dd,.seq #[z.1,z.2.1,z.2.2] n,e⟩) (f:Wf 11 a=true):
  Goes p w 11 ki ⟨h,gs,d,k,os⟩ ⟨.pure (.again (.builtin "list.__iadd__" ⟨[.ref a,.ref b],[]⟩)),code,pos,stack⟩ ⟨h.update a (Rd (·++#[z.1,z.2.1,z.2.2])),gs,d,k,os⟩ (UJ a t'):=by
 obtain rfl:_=t':=(Step.go.inj c).2
 exact(Goes.one (by simp[wj]) g rfl).trans (fH i hb f)
theorem VJ{h:Na}{a b:la}{ib ia:Nat}{f:List Nat}{x y z:Value}{l:Sa}(r:FE ij st h)(e:a=st.m+140+ia)(i:st.new[ia]?=some l)(d:h.get? a=some l)(g:l=⟨.type "list",none,.seq ⟨[]⟩ 0,⟨[]⟩⟩):
  FE ij (IS st a b ib ia f x y z) (h.update a (Rd (·++#[x,y,z]))):=
 ⟨λj c=>(Ea h _ (aN a ia st.m j e c)).trans (r.fr j c),Vj.trans (r.size.trans (congrArg (st.m+140+·) List.length_set.symm)),
  λj o' c hf=>(r.old j o' c hf).imp_left (Ea h _ (apart1 a j st.m ia e (r.old j o' c hf).2)).trans,
  λj o' c hf=>(wo (l:=st.new) (y:=o') (j:=j) i c).elim (λq=>Sl d hf (.inl ⟨(congrArg (st.m+140+·) q.1).trans e.symm,q.2.trans (g▸rfl)⟩)) λq=>Sl d hf (.inr ⟨Hb (apart2 a st.m ia j e q.1),r.own j o' q.2 hf⟩)⟩
theorem RK{k:Nat}{t t':Jb}{id:String}{a b:la}{ib ia:Nat}{A:List Nat}{v f:Sa}{z:Value×Value×Value}{s1:aa}(E:t.cur=.pure (.again (.builtin id ⟨[.ref a,.ref b],[]⟩)))(hb:st.new[ib]?=some v)(x:st.new[ia]?=some f)
  (hz:∃dd n u,v=⟨.type "tuple",dd,.seq ⟨[z.1,z.2.1,z.2.2]⟩ n,u⟩) (l:f=⟨.type "list",none,.seq ⟨[]⟩ 0,⟨[]⟩⟩) (hc:((id=="list.__iadd__"&&Wf 11 a)&&Gm 11 ki t)=true) (i:Gf (Gb Ka) p w {} t=.go s1 t'):
  Gs HL (FE ij) p w 11 ki gs d st k t (IS st a b ib ia A z.1 z.2.1 z.2.2,k,UJ a t'):=by
 obtain ⟨s,code,pos,stack⟩:=t
 obtain ⟨o,D⟩:=Bool.and_eq_true_iff.mp hc
 obtain ⟨j,C⟩:=Bool.and_eq_true_iff.mp o
 obtain rfl:id="list.__iadd__":=eq_of_beq j
 obtain rfl:s=_:=E
 refine⟨λg q B=>g q (.tail _ (.tail _ B)),λh os g r=>hz.elim λdd e=>e.elim λn e=>e.elim λu hz=>?_⟩
 have y:a=st.m+140+ia:=g (a,st.m+140+ia) (.head _)
 have eb:b=st.m+140+ib:=g (b,st.m+140+ib) (.tail _ (.head _))
 have c:h.get? a=some f:=(congrArg h.get? y).trans (r.own _ _ x (l▸rfl))
 exact⟨_,AL D i (c.trans (congrArg some l)) (((congrArg h.get? eb).trans (r.own _ _ hb (hz▸rfl))).trans (congrArg some hz)) C,VJ r y x c l⟩
theorem UO:Mx HL (FE ij) (a0 (Gb Ka) p w) p w 11 ki gs d:=λst k t=>OK.bind λx Z=>OK.bind λf Z=>OK.bind λc hb=>OK.bind λe b=>OK.bind λz Z=>OK.bind λl Z=>OK.bif λhc=>OK.bind λt' Z=>OK.some (t'.2.elim λZ a=>RK x.2 hb b z.2 l.1 hc a)
end
noncomputable def cu:List Nat:=[0,0,0,0,0,0,0,0,0,0,0,0,0,0,0,0,0,0,0,1,1,1,1,1,1,1,1,0,0,0,1,1,1,1,0,0,0,0,0,0,0,0,0,0,0,0,0,0,0,2,3,3,0,5,0,5,0,0,0,5,0,5,0,0,0,0,0]
noncomputable def wD(d:la)(i j l:Value):Sa:=⟨.ref 135,some d,.seq #[i,j,l] 0,#[]⟩
noncomputable def kT:Sa:=⟨.type "dict",none,.dict #[] 0,#[]⟩
noncomputable def NV(p:wa)(T:Vf->BT)(d:Jb)(w:ja)(m k:Nat)(i:Int)(c:jg)(j:Int)(b:jg)(l:Int)(a:jg)(e:Bool)(lv:List Value)(f:Ob->Vb Fin)(bd:List cb)(env:Be)(pos:xd)
  (y:Ob->Vb Fin) (g:Bool) (lv2:List Value) (ar:Jn) (q:xd) (kp:List Value):Option (T2×Nat×Jb):=
 rn GY (a0 (Gb Ka) p w) (Gb Ka) p w 11 ki 119 ⟨M3 p T d w,m,[],cu,[]⟩ k
  ⟨.call (.call (.ref 135) ⟨[.int i c,.int j b,.int l a],[]⟩) none e lv f,.body bd env,pos,[.ret y none g lv2 (.builtin "claim.caller" ar) q kp]⟩
noncomputable def SF(p:wa)(T:Vf->BT)(e:Jb)(w:ja)(b:Bool)(m k:Nat)(i:Int)(d:jg)(j:Int)(c:jg)(l:Int)(a:jg)(h:Bool)(lv:List Value)(f:Ob->Vb Fin)(bd:List cb)(env:Be)(pos:xd)
  (y:Ob->Vb Fin) (g:Bool) (lv2:List Value) (ar:Jn) (q:xd) (kp:List Value):Prop:=
 (NV p T e (w.withFollow "special-get-raises" b) m k i d j c l a h lv f bd env pos y g lv2 ar q kp).map
   (λr=>(r.1.m,r.1.new.length,r.1.new[3]?,r.1.new[4]?,r.1.obl,r.2.1,r.2.2))=
 some (m,5,some kT,some (wD (m+140+3) (.int i d) (.int j c) (.int l a)),(cu.reverse.filter (λx=>!Nat.beq x 0)).map (λx=>(m+140+(x-1),m+140+(x-1))),k+7,
  ⟨f (.ok (.ret (.ref (m+140+4)))),.body bd env,pos,[.ret y none g lv2 (.builtin "claim.caller" ar) q kp]⟩)
noncomputable def o4:=SF PP T0 ee
lay_quick Mine.SF
noncomputable def q7{α:Type}:(l:List α)->Option {a:α // l=[a]}
 |[a]=>some ⟨a,rfl⟩
 |_=>none
section
variable{α β:Type}{M:pj}{A:ua}{E:Value->aa->Prop}{s:aa}
noncomputable def bq(M:pj)(A:ua)(f:α->Vb β)(Q:β->aa->Prop)(E:Value->aa->Prop):α->aa->Prop:=λa s'=>wpAny M A (f a) Q E s'
theorem zb{m:Vb α}{f:α->Vb β}{Q:β->aa->Prop}(h:wpAny M A m (bq M A f Q E) E s):wpAny M A (m>>=f) Q E s:=Ua h
theorem ah{t:Vb α}{Q b:α->aa->Prop}(h:wpAny M A t Q E s)(k:∀a s,Q a s->b a s):wpAny M A t b E s:=PySem.wpAny_mono h k λZ Z q=>q
end
noncomputable abbrev Jc:Value->aa->Prop:=λZ Z=>False
noncomputable abbrev Wa(vs:List Value)(n:Nat):Sa:={cls:=.type "list",dict:=none,data:=.seq vs.toArray n,slots:=#[]}
inductive P where
 |none|bool (b:Bool)|int (i:Int)|il (ns:List Int)|addr (a:la)
noncomputable def VR(h:Na):P->Value->Prop
 |.none,v=>v=.none
 |.bool b,v=>v=.bool b
 |.int i,v=>∃t,v=.int i t
 |.il ns,v=>∃a vs n,v=.ref a/\h.get? a=some (Wa vs n)/\IntsAre vs ns
 |.addr a,v=>v=.ref a
theorem VR.keeps{h h':Na}{p:P}{v:Value}(x:VR h p v)(k:∀b o,h.get? b=some o->h'.get? b=some o):VR h' p v:=by
 cases p with
 |il ns=>obtain ⟨a,vs,n,e,g,i⟩:=x;exact⟨a,vs,n,e,k _ _ g,i⟩
 |_=>exact x
noncomputable def Kp(s s':aa):Prop:=∃h' tk,s'={s with heap:=h',toks:=tk}/\∀b o,s.heap.get? b=some o->h'.get? b=some o
theorem Kp.Ce{s:aa}:Kp s s:=⟨s.heap,s.toks,rfl,λZ Z e=>e⟩
theorem Kp.trans'{d c a:aa}(x:Kp d c)(y:Kp c a):Kp d a:=by
 refine Nc λf=>?_;obtain ⟨h,t,rfl,k⟩:=x
 obtain ⟨h',t',rfl,k'⟩:=y;refine f ?_
 exact⟨h',t',rfl,λb o e=>k' b o (k b o e)⟩
theorem Kp.tok{s:aa}(t:Nat):Kp s {s with toks:=t}:=⟨s.heap,t,rfl,λZ Z e=>e⟩
theorem Kp.push{s:aa}(o:Sa):Kp s {s with heap:=s.heap.push o}:=⟨_,s.toks,rfl,λZ Z e=>fa _ e⟩
theorem Kp.get{s s':aa}(x:Kp s s'){b:la}{o:Sa}(e:s.heap.get? b=some o):s'.heap.get? b=some o:=by
 obtain ⟨h,t,rfl,k⟩:=x;exact k b o e
theorem Kp.vr{s s':aa}(x:Kp s s'){p:P}{v:Value}(e:VR s.heap p v):VR s'.heap p v:=VR.keeps e λZ Z e=>x.get e
structure df(s:aa)(p:P)(fr:Bool)(v:Value)(s':aa):Prop where
 keeps:Kp s s'
 val:VR s'.heap p v
 fresh:fr=true->∀a,v=.ref a->s.heap.get? a=none
theorem Qb{h:Na}:h.get? h.objs.size=none:=by
 cases e:h.get? h.objs.size with
 |none=>rfl
 |some o=>exact absurd (Ba e) (Xe _)
theorem Eb{s s':aa}(x:Kp s s'){a:la}(e:s'.heap.get? a=none):s.heap.get? a=none:=by
 cases q:s.heap.get? a with
 |none=>rfl
 |some o=>rw[x.get q] at e;exact nomatch e
theorem df.after{s s' Ng:aa}{p:P}{fr:Bool}{v:Value}(k:Kp s s')(c:df s' p fr v Ng):df s p fr v Ng:=
 ⟨k.trans' c.keeps,c.val,λh a e=>Eb k (c.fresh h a e)⟩
theorem df.int{s:aa}(i:Int)(t:jg){k:Nat}:df s (.int i) true (.int i t) {s with toks:=k}:=⟨.tok _,⟨t,rfl⟩,λZ a e=>nomatch e⟩
theorem df.C2{s:aa}(i:Int)(t:jg):df s (.int i) true (.int i t) s:=⟨.Ce,⟨t,rfl⟩,λZ a e=>nomatch e⟩
theorem df.bool{s:aa}(b:Bool):df s (.bool b) true (.bool b) s:=⟨.Ce,rfl,λZ a e=>nomatch e⟩
theorem df.none{s:aa}:df s .none true .none s:=⟨.Ce,rfl,λZ a e=>nomatch e⟩
structure Rs where
 p:P
 fr:Bool
 c:Prop
noncomputable def Sm(a:Int):Prop:=-(2 ^ 62) < a/\a < 2 ^ 62
theorem vD{a b:Int}(h:Sm a):QN a b:=by
 delta Sm at h
 unfold QN
 have:Qw a<=64:=intBits_le_64 (by lia) (by lia)
 simp[X4]
 intro q;lia
theorem mA{a b:Int}(h:Sm b):QN a b:=by
 delta Sm at h
 unfold QN
 have:Qw b<=64:=intBits_le_64 (by lia) (by lia)
 simp[X4]
 intro _ q;lia
section
variable{prog:wa}{w:ja}{A:ua}{s:aa}
theorem TY{l:la}{vs:List Value}{k:Nat}{x:Int}{u:jg}{E:Value->aa->Prop}{Q:Value->aa->Prop}
  (a:s.heap.get? l=some (Wa vs k))
  (e:-(2 ^ 63:Int)<=x) (f:x < 2 ^ 63) (d:vs.length*x.toNat<=2 ^ 24)
  (h:Q (.ref s.heap.objs.size) {s with heap:=s.heap.push {cls:=.type "list",data:=.seq (tI (λc b=>c++b) #[] (Ha (if vs.toArray.isEmpty=true then 0 else x.toNat) vs.toArray))}}):
  wpAny (ka prog w) A (Ir .Mult (.ref l) (.int x u)) Q E s:=
 wpAny_binaryOp_repeat_ref (T:="list") (U:="int") (by decide) ⟨_,a,rfl⟩ (λs'=>tC s' x u) noFill_list_mul F.fills_int_mul yW repeat_list F.slot_int_index.lookup
  (yC yW (tC s x u) F.entry_int_rmul (F.args_int_rmul_2 _ _) (int___rmul___int_list x u l vs.toArray k)
   ⟨a,rfl,⟨_,a,rfl⟩,yC F.slot_list_mul ⟨_,a,rfl⟩ F.entry_list_mul (F.args_list_mul_2 _ _)
    (AutoListH.list___mul___list_int_3 l vs.toArray k x u (by simp[C5];lia) (by simp;lia) (by simp[Wh,Kb];lia))
    ⟨a,h⟩⟩)
theorem foldl_rep(vs:List Value):∀(k:Nat) (yg:Array Value),tI (λb a=>b++a) yg (Ha k vs.toArray)=(yg.toList++(Ha k vs).flatten).toArray:=by
 intro k
 induction k with
 |zero=>intro yg;simp
 |succ k c=>
  intro yg
  rw[Fi,Si,c,Fi,yj]
  simp
theorem WJ(vs:List Value)(k:Nat):tI (λb a=>b++a) #[] (Ha (if vs.toArray.isEmpty=true then 0 else k) vs.toArray)=((Ha k vs).flatten).toArray:=by
 cases vs with
 |nil=>simp[List.flatten_replicate_nil]
 |cons v vs=>
  have:((v::vs).toArray.isEmpty)=false:=by simp
  rw[this,foldl_rep];simp
theorem Uu{vs:List Value}{ns:List Int}(h:IntsAre vs ns):∀k:Nat,IntsAre (Ha k vs).flatten (Ha k ns).flatten
 |0=>.nil
 |k+1=>by rw[Fi,Fi,yj,yj];exact h.append (Uu h k)
theorem Vs{a b:Int}(h:Sm b):Dt a b=false:=by
 refine PyProof.noPylong_of_log2 ?_
 delta Sm at h
 by_cases z:b.natAbs=0
 ·rw[z];decide
 ·exact Za ((Nat.log2_lt z).mpr (show b.natAbs < 2 ^ 62 by lia)) (by decide)
noncomputable def HY(op:Im)(a b:Int):Option Rs:=match op with
 |.Add=>some ⟨.int (a+b),true,True⟩
 |.Sub=>some ⟨.int (a-b),true,True⟩
 |.Mult=>some ⟨.int (a*b),true,Sm a\/Sm b⟩
 |.Mod=>some ⟨.int (a.fmod b),true,b≠0⟩
 |.FloorDiv=>some ⟨.int (a.fdiv b),true,b≠0/\Sm b⟩
 |.BitXor=>some ⟨.int (Kd a b),true,True⟩
 |.BitAnd=>some ⟨.int (ou a b),true,True⟩
 |.RShift=>some ⟨.int (a.fdiv (2 ^ b.toNat)),true,0<=b⟩
 |.Pow=>some ⟨.int (a ^ b.toNat),true,0<=b/\b<=1000000/\a.natAbs < 2 ^ 64⟩
 |_=>none
noncomputable def kK(op:Im)(p q:P):Option Rs:=match p with
 |.int a=>(match q with
  |.int b=>HY op a b
  |_=>none)
 |.il a=>(match q with
  |.il b=>(match op with
   |.Add=>some ⟨.il (a++b),true,a.length+b.length<=2 ^ 24⟩
   |_=>none)
  |.int k=>(match op with
   |.Mult=>some ⟨.il (Ha k.toNat a).flatten,true,-(2 ^ 63)<=k/\k < 2 ^ 63/\a.length*k.toNat<=2 ^ 24⟩
   |_=>none)
  |_=>none)
 |_=>none
theorem df.list{vs:List Value}{ns:List Int}(h:IntsAre vs ns)(x:Array Value)(b:x=vs.toArray):df s (.il ns) true (.ref s.heap.objs.size) {s with heap:=s.heap.push {cls:=.type "list",data:=.seq x}}:=by
 subst b
 exact⟨.push _,⟨_,vs,0,rfl,ra _ rfl,h⟩,λZ a e=>by cases e;exact Qb⟩
theorem CO{op:Im}{i j:Int}:OK (HY op i j) λr=>r.c->∀t u,wpAny (ka prog w) A (Ir op (.int i t) (.int j u)) (df s r.p r.fr) Jc s:=by
 cases op with
 |Add=>exact OK.some λZ Z Z=>PI (.int _ _)
 |Sub=>exact OK.some λZ Z Z=>Bm (.int _ _)
 |Mult=>exact OK.some λhc Z Z=>f5 (.int _ _) (hc.elim vD mA)
 |Mod=>exact OK.some λhc Z Z=>mod_int' hc (.int _ _)
 |FloorDiv=>exact OK.some λhc Z Z=>floordiv_int hc.1 (.int _ _) (.inl (Vs hc.2))
 |BitXor=>exact OK.some λZ Z Z=>xor_int (.int _ _)
 |BitAnd=>exact OK.some λZ Z Z=>and_int (.int _ _)
 |RShift=>exact OK.some λhc Z Z=>MR hc (.int _ _)
 |Pow=>exact OK.some λhc Z Z=>pow_int_small hc.1 hc.2.1 hc.2.2 (.int _ _)
 |_=>exact OK.none
noncomputable def D9(prog:wa)(w:ja)(A:ua)(s:aa)(op:Im)(p q:P)(r:Rs):Prop:=r.c->∀a b,VR s.heap p a->VR s.heap q b->wpAny (ka prog w) A (Ir op a b) (df s r.p r.fr) Jc s
theorem HG{op:Im}{p q:P}:OK (kK op p q) (D9 prog w A s op p q):=by
 cases p with
 |int i=>cases q with
  |int j=>exact OK.mono CO λr h hc a b d hb=>d.elim λt e=>hb.elim λu v=>e▸v▸h hc t u
  |_=>exact OK.none
 |il ns=>cases q with
  |il ms=>cases op with
   |Add=>
    refine OK.some λhc a b d hb=>?_
    refine Nc λm=>?_;obtain ⟨l,vs,n,rfl,g,hi⟩:=d
    obtain ⟨l2,o,x,rfl,f,c⟩:=hb;refine m ?_
    refine P.add_list g f (df.list (hi.append c) _ (by simp)) ?_
    rw[Ye,Ye,hi.length,c.length]
    exact Ja hc (by decide)
   |_=>exact OK.none
  |int k=>cases op with
   |Mult=>
    refine OK.some λhc a b d hb=>?_
    refine Nc λm=>?_;obtain ⟨l,vs,n,rfl,g,hi⟩:=d
    obtain ⟨u,rfl⟩:=hb;refine m ?_
    exact TY g hc.1 hc.2.1 (by rw[hi.length];exact hc.2.2) (df.list (Uu hi _) _ (WJ _ _))
   |_=>exact OK.none
  |_=>exact OK.none
 |_=>exact OK.none
theorem eA{op:Im}{p q:P}{r:Rs}{a b:Value}(e:kK op p q=some r)(hc:r.c)(d:VR s.heap p a)(hb:VR s.heap q b):
  wpAny (ka prog w) A (Ir op a b) (df s r.p r.fr) Jc s:=HG r e hc a b d hb
noncomputable def zR(op:wI)(a b:Int):Option (Bool×Prop):=match op with
 |.Eq=>some (decide (a=b),True)
 |.NotEq=>some (decide (a≠b),True)
 |.Lt=>some (decide (a < b),True)
 |.LtE=>some (decide (a<=b),True)
 |.Gt=>some (decide (b < a),True)
 |.GtE=>some (decide (b<=a),True)
 |_=>none
noncomputable def mF(op:wI)(p q:P):Option (Bool×Prop):=match p with
 |.int a=>(match q with
  |.int b=>zR op a b
  |_=>none)
 |.il a=>(match q with
  |.il b=>(match op with
   |.Eq=>some (decide (a=b),True)
   |.NotEq=>some (decide (a≠b),True)
   |_=>none)
  |_=>none)
 |_=>none
theorem qL{vs ws:List Value}{ns ms:List Int}(h:IntsAre vs ns)(g:IntsAre ws ms)(a:ns.length=ms.length):
  (Qa vs.toArray.size).all (λj=>ns.getD j 0==ms.getD j 0)=decide (ns=ms):=by
 rw[UN,Rt,decide_eq_true_eq]
 have d:=h.length
 constructor
 ·intro q
  apply qn a
  intro i c b
  have:=q i (by simp;lia)
  simpa [Ra,c,b] using this
 ·rintro rfl i _;simp
theorem Fy{vs:List Value}{ns:List Int}(h:IntsAre vs ns):∀(j:Nat) (a:j < vs.length),∃t,vs[j]=.int (ns.getD j 0) t:=by
 induction h with
 |nil=>intro j a;exact absurd a (jw _)
 |cons n t _ b=>
  intro j a
  cases j with
  |zero=>exact⟨t,rfl⟩
  |succ j=>simpa using b j (by simpa using a)
open PySem.SeqAt in
theorem yx{ns ms:List Int}{a b:Value}(p:VR s.heap (.il ns) a)(hb:VR s.heap (.il ms) b)(h:A.units < f6):
  wpAny (ka prog w) A (Ls .Eq a b) (λv s'=>v=.bool (decide (ns=ms))/\s'=s) Jc s/\wpAny (ka prog w) A (Ls .NotEq a b) (λv s'=>v=.bool (decide (ns≠ms))/\s'=s) Jc s:=by
 refine Nc λk=>?_;obtain ⟨l,vs,n,rfl,i,hi⟩:=p
 obtain ⟨l2,d,x,rfl,f,g⟩:=hb;refine k ?_
 by_cases hz:ns.length=ms.length
 ·have c:vs.toArray.size=d.toArray.size:=by rw[Ye,Ye,hi.length,g.length,hz]
  have o:∀(j:Nat) (m:j < vs.toArray.size) (j2:j < d.toArray.size),EqAt A.in1 s vs.toArray[j] d.toArray[j] (ns.getD j 0==ms.getD j 0):=by
   intro j m j2
   refine Nc λk=>?_;obtain ⟨t,r⟩:=Fy hi j m
   obtain ⟨u,q⟩:=Fy g j j2;refine k ?_
   rw[VE,VE,r,q]
   exact EqAt.int_int _ _ _ _
  have e:=qL hi g hz
  exact⟨RcAt.lists (e:=λj=>ns.getD j 0==ms.getD j 0) ⟨_,i,rfl,_,rfl⟩ ⟨_,f,rfl,_,rfl⟩ c h o prog w _ _ ⟨congrArg _ e,rfl⟩,
   RcNeAt.lists (e:=λj=>ns.getD j 0==ms.getD j 0) ⟨_,i,rfl,_,rfl⟩ ⟨_,f,rfl,_,rfl⟩ c h o prog w _ _ ⟨by rw[e,decide_not],rfl⟩⟩
 ·have c:(vs.toArray.size != d.toArray.size)=true:=by rw[Ye,Ye,hi.length,g.length];exact bne_iff_ne.mpr hz
  have:¬ns=ms:=λe=>hz (by rw[e])
  exact⟨RcAt.lists_lengths ⟨_,i,rfl,_,rfl⟩ ⟨_,f,rfl,_,rfl⟩ c h prog w _ _ ⟨by rw[decide_eq_false this],rfl⟩,RcNeAt.lists_lengths ⟨_,i,rfl,_,rfl⟩ ⟨_,f,rfl,_,rfl⟩ c h prog w _ _ ⟨by rw[decide_eq_true this],rfl⟩⟩
theorem uM{op:wI}{i j:Int}:OK (zR op i j) λy=>∀t u,wpAny (ka prog w) A (Ls op (.int i t) (.int j u)) (λv s'=>v=.bool y.1/\s'=s) Jc s:=by
 cases op with
 |Eq=>exact OK.some λZ Z=>eq_int ⟨congrArg _ (JC ..),rfl⟩
 |NotEq=>exact OK.some λZ Z=>ne_int ⟨by simp[bne,JC] <;> rfl,rfl⟩
 |Lt=>exact OK.some λZ Z=>lt_int ⟨rfl,rfl⟩
 |LtE=>exact OK.some λZ Z=>le_int ⟨rfl,rfl⟩
 |Gt=>exact OK.some λZ Z=>gt_int ⟨rfl,rfl⟩
 |GtE=>exact OK.some λZ Z=>ge_int ⟨rfl,rfl⟩
 |_=>exact OK.none
noncomputable def C9(prog:wa)(w:ja)(A:ua)(s:aa)(op:wI)(p q:P)(y:Bool×Prop):Prop:=∀a b,VR s.heap p a->VR s.heap q b->A.units < f6->wpAny (ka prog w) A (Ls op a b) (λv s'=>v=.bool y.1/\s'=s) Jc s
theorem GG{op:wI}{p q:P}:OK (mF op p q) (C9 prog w A s op p q):=by
 cases p with
 |int i=>cases q with
  |int j=>exact OK.mono uM λy h a b c hb Z=>c.elim λt e=>hb.elim λu f=>e▸f▸h t u
  |_=>exact OK.none
 |il ns=>cases q with
  |il ms=>cases op with
   |Eq=>exact OK.some λa b c hb d=>(yx c hb d).1
   |NotEq=>exact OK.some λa b c hb d=>(yx c hb d).2
   |_=>exact OK.none
  |_=>exact OK.none
 |_=>exact OK.none
theorem yu{op:wI}{p q:P}{y:Bool×Prop}{a b:Value}(e:mF op p q=some y)(d:VR s.heap p a)(hb:VR s.heap q b)(c:A.units < f6):
  wpAny (ka prog w) A (Ls op a b) (λv s'=>v=.bool y.1/\s'=s) Jc s:=GG y e a b d hb c
end
structure Gl where
 mg:xa->Option Value
 mb:xa->Option Value
 gv:xa->Option P
 gok:∀x p,gv x=some p->∃v,mg x=some v/\∀h,VR h p v
 bok:∀x:xa,x≠"__name__"->mb x=Zg x
 free:∀x∈([qa "len",qa "range",qa "list",qa "max",qa "zip"]:List xa),mg x=none
structure GS(G:Gl)(h:Na):Prop where
 g:h.Ns jd G.mg
 b:h.Ns Hc G.mb
 lim:h.NoLimit
theorem GS.keeps{G:Gl}{h h':Na}(x:GS G h)(k:∀b o,h.get? b=some o->h'.get? b=some o):GS G h':=⟨x.g.keeps k,x.b.keeps k,x.lim.keeps k⟩
noncomputable def Look(env:Be)(h:Na)(x:xa)(v:Value):Prop:=
 (env.kindOf x=some .local/\∃m,h.Ns env.locals m/\m x=some v) \/
 ((env.kindOf x=some .cell\/env.kindOf x=some .free)/\∃c,env.cells.lookup x=some c/\h.IsCell c (some v))
theorem Look.keeps{env:Be}{h h':Na}{x:xa}{v:Value}(l:Look env h x v)(k:∀b o,h.get? b=some o->h'.get? b=some o):Look env h' x v:=by
 rcases l with ⟨a,m,n,e⟩|⟨a,c,e,i⟩
 ·exact .inl ⟨a,m,n.keeps k,e⟩
 ·exact .inr ⟨a,c,e,i.keeps k⟩
structure RE(G:Gl)(env:Be)(σ:List (xa×P))(s:aa):Prop where
 kind:env.scope.kind=.function
 eg:env.globals=jd
 eb:env.builtins=Hc
 gs:GS G s.heap
 look:∀x p,σ.lookup x=some p->∃v,Look env s.heap x v/\VR s.heap p v
 cells:∀x,(env.kindOf x=some .cell\/env.kindOf x=some .free)->(env.cells.lookup x).isSome=true
theorem RE.kp{G:Gl}{env:Be}{σ:List (xa×P)}{s s':aa}(r:RE G env σ s)(k:Kp s s'):RE G env σ s':=
 ⟨r.kind,r.eg,r.eb,r.gs.keeps λZ Z e=>k.get e,λx p e=>by obtain ⟨v,l,q⟩:=r.look x p e;exact⟨v,l.keeps λZ Z e=>k.get e,k.vr q⟩,r.cells⟩
structure GA(n:Nat)(A:ua):Prop where
 hd:A.handled=none
 dp:A.depth+n < Le
 un:A.units+8*n+64 < f6
theorem GA.in1{n:Nat}{A:ua}(g:GA (n+1) A):GA n A.in1:=⟨g.hd,by have:=g.dp;show A.depth+n < _;lia,by have:=g.un;show A.units+1+8*n+64 < _;lia⟩
theorem GA.mono{n m:Nat}{A:ua}(g:GA n A)(h:m<=n):GA m A:=⟨g.hd,by have:=g.dp;lia,by have:=g.un;lia⟩
theorem GA.units{n:Nat}{A:ua}(g:GA n A):A.units < f6:=by have:=g.un;lia
theorem GA.room{n:Nat}{A:ua}(g:GA n A):A.depth < Le:=by have:=g.dp;lia
theorem GA.deeper{n:Nat}{A:ua}(g:GA (n+1) A)(env:Be):GA n (A.deeper env):=⟨g.hd,by have:=g.dp;show A.depth+1+n < _;lia,by have:=g.un;show A.units+3+8*n+64 < _;lia⟩
section
variable{prog:wa}{w:ja}{A:ua}{s:aa}{G:Gl}{env:Be}{σ:List (xa×P)}
theorem Zw{x:xa}{v:Value}{E:Value->aa->Prop}{Q:Value->aa->Prop}(b:env.scope.kind=.function)(l:Look env s.heap x v)(d:(x==("__classdict__":xa))=false)(h:Q v s):
  wpAny (ka prog w) A (loadName env x) Q E s:=by
 rcases l with ⟨a,m,n,e⟩|⟨a|a,c,e,i⟩
 ·exact wpAny_loadName_local b a n e h
 ·exact wpAny_loadName_cell b a e i h
 ·exact wpAny_loadName_free b a e i h d
theorem Md{x:xa}{pos:xd}{v:Value}{E:Value->aa->Prop}{Q:Value->aa->Prop}(b:env.scope.kind=.function)(l:Look env s.heap x v)
  (hd:(x==("__debug__":xa))=false) (a:(x==("__classdict__":xa))=false) (h:Q v s):
  wpAny (ka prog w) A (eval (.Name x pos) env) Q E s:=wpAny_Name (Zw b l a h) hd
theorem sg{x:xa}{pos:xd}{v:Value}{E:Value->aa->Prop}{Q:Value->aa->Prop}(r:RE G env σ s)(a:env.kindOf x=some .globalImplicit)(hv:G.mg x=some v)
  (hd:(x==("__debug__":xa))=false) (h:Q v s):wpAny (ka prog w) A (eval (.Name x pos) env) Q E s:=
 Name_function_global r.kind a (loadGlobal_global (by rw[r.eg];exact r.gs.g) hv h) hd
theorem name_buil{x:xa}{pos:xd}{v:Value}{E:Value->aa->Prop}{Q:Value->aa->Prop}(r:RE G env σ s)(a:env.kindOf x=some .globalImplicit)(hg:G.mg x=none)(hv:Zg x=some v)
  (hm:x≠"__name__") (hd:(x==("__debug__":xa))=false) (h:Q v s):wpAny (ka prog w) A (eval (.Name x pos) env) Q E s:=
 Name_function_global r.kind a (loadGlobal_builtin (by rw[r.eg];exact r.gs.g) hg (by rw[r.eb];exact r.gs.b) (by rw[G.bok x hm];exact hv) h) hd
end
noncomputable def Qe(a:List Int)(k:Int):Int:=if 0<=k then a.getD k.toNat 0 else a.getD (k+a.length).toNat 0
noncomputable def FA:(p:P)->Option {i:Int // p=.int i}
 |.int i=>some ⟨i,rfl⟩
 |_=>none
noncomputable def G2:(p:P)->Option {a:List Int // p=.il a}
 |.il a=>some ⟨a,rfl⟩
 |_=>none
noncomputable def adP:(p:P)->Option {a:la // p=.addr a}
 |.addr a=>some ⟨a,rfl⟩
 |_=>none
theorem vInt{p:P}{i:Int}{h:Na}{v:Value}(e:p=.int i)(x:VR h p v):∃t,v=.int i t:=by subst e;exact x
theorem K6{p:P}{a:List Int}{h:Na}{v:Value}(e:p=.il a)(x:VR h p v):∃l vs m,v=.ref l/\h.get? l=some (Wa vs m)/\IntsAre vs a:=by subst e;exact x
noncomputable def YQ(p q:P):Option Rs:=(G2 p).bind λ|⟨a,_⟩=>(FA q).bind λ|⟨k,_⟩=>some ⟨.int (Qe a k),true,-(a.length:Int)<=k/\k < a.length/\a.length<=2 ^ 24⟩
noncomputable def uA:List Int->Int
 |[]=>0
 |a::l=>l.foldl (λm x=>if x > m then x else m) a
noncomputable def Cd(a b c:Int):List Int:=(Qa (Bb a b c).toNat).map λ(i:Nat)=>a+(i:Int)*c
noncomputable def CR(f:xa)(ps:List P):Option Rs:=(q7 ps).bind λ|⟨p,_⟩=>(G2 p).bind λ|⟨a,_⟩=>(
 bif f==("len":xa) then some ⟨.int a.length,true,a.length<=2 ^ 24⟩
 else bif f==("list":xa) then some ⟨.il a,true,a.length<=2 ^ 24⟩
 else bif f==("max":xa) then some ⟨.int (uA a),true,0 < a.length⟩
 else none)
noncomputable def HI(f:Oa->Option Rs):List Oa->Option (List P×Prop)
 |[]=>some ([],True)
 |e::es=>(f e).bind λ|⟨p,_,c⟩=>(HI f es).bind λ|(ps,c')=>some (p::ps,c/\c')
noncomputable def Gy:List P->Option (List Int)
 |[]=>some []
 |p::ps=>(FA p).bind λ|⟨i,_⟩=>(Gy ps).bind λis=>some (i::is)
noncomputable def n9:(e:Oa)->Option {x:Oa×wI×Oa // ∃pos,e=.Compare x.1 [x.2.1] [x.2.2] pos}
 |.Compare l [op] [r] pos=>some ⟨(l,op,r),pos,rfl⟩
 |_=>none
noncomputable def OW(f:Oa->Option Rs)(e:Oa):Option (Bool×Prop):=
 (n9 e).bind λ|⟨(l,op,r),_⟩=>(bif behindInMarks op r then none else (f l).bind λ|⟨p,_,d⟩=>(f r).bind λ|⟨q,_,a⟩=>(mF op p q).bind λ|(b,c)=>some (b,(d/\a)/\c))
noncomputable def boE:(e:Oa)->Option {x:XI×Oa×Oa // ∃pos,e=.BoolOp x.1 [x.2.1,x.2.2] pos}
 |.BoolOp op [x,y] pos=>some ⟨(op,x,y),pos,rfl⟩
 |_=>none
noncomputable def J4(op:XI)(a b:Bool)(d c:Prop):Bool×Prop:=match op with
 |.And=>(a&&b,d/\(a=true->c))
 |.Or=>(a||b,d/\(a=false->c))
noncomputable def GI(f:Oa->Option Rs)(e:Oa):Option (Bool×Prop):=(boE e).elim (OW f e) λ|⟨(op,x,y),_⟩=>(OW f x).bind λ|(a,d)=>(OW f y).bind λ|(b,c)=>some (J4 op a b d c)
noncomputable def Y9(b:Bool)(p q:P):Option P:=match p with
 |.int i=>(FA q).bind λ|⟨j,_⟩=>some (.int (if b then i else j))
 |.il i=>(G2 q).bind λ|⟨j,_⟩=>some (.il (if b then i else j))
 |_=>none
theorem SS{b:Bool}{p q:P}:OK (Y9 b p q) λr=>r=if b then p else q:=by
 cases p with
 |int i=>exact OK.bind λj Z=>OK.some (by cases b;exact j.2.symm;rfl)
 |il i=>exact OK.bind λj Z=>OK.some (by cases b;exact j.2.symm;rfl)
 |_=>exact OK.none
noncomputable def nmE:(e:Oa)->Option {x:xa // ∃p,e=.Name x p}
 |.Name x p=>some ⟨x,p,rfl⟩
 |_=>none
noncomputable def o9:(e:Oa)->Option {x:xa×List Oa // ∃a pos,e=.Call (.Name x.1 a) x.2 [] pos}
 |.Call (.Name x a) args [] pos=>some ⟨(x,args),a,pos,rfl⟩
 |_=>none
noncomputable def S9(ps:List P)(c:Prop):Option (List Int×Prop):=match ps with
 |[]=>none
 |p::r=>(FA p).bind λ|⟨a,_⟩=>(match r with
  |[]=>some (Cd 0 a 1,c/\Sm a)
  |p::r=>(FA p).bind λ|⟨b,_⟩=>(match r with
   |[]=>some (Cd a b 1,c/\Sm a/\Sm b)
   |p::r=>(FA p).bind λ|⟨k,_⟩=>(match r with
    |[]=>some (Cd a b k,c/\0 < k/\Sm a/\Sm b/\Sm k)
    |_::_=>none)))
noncomputable def d9(f:Oa->Option Rs)(args:List Oa):Option (List Int×Prop):=(HI f args).bind λ|(ps,c)=>S9 ps c
noncomputable def DV(f:Oa->Option Rs)(it:Oa):Option (List Int×Prop):=(f it).bind λ|⟨p,_,c⟩=>(G2 p).bind λ|⟨a,_⟩=>some (a,c)
noncomputable def aE(a:Bool)(f:Oa->Option Rs)(it:Oa):Option (List Int×Prop):=(o9 it).elim (DV f it) λ|⟨(x,args),_⟩=>bif x==("range":xa)&&a then d9 f args else DV f it
theorem sx{f:Oa->Option Rs}{it:Oa}:OK (DV f it) λy=>∃fr,f it=some ⟨.il y.1,fr,y.2⟩:=
 OK.bind λx e=>OK.bind λa Z=>OK.some ⟨x.fr,e.trans (congrArg (λp=>some (⟨p,x.fr,x.c⟩:Rs)) a.2)⟩
theorem qs{b:Bool}{f:Oa->Option Rs}{it:Oa}:OK (aE b f it) λy=>
  (b=true/\∃a args pos,it=.Call (.Name "range" a) args [] pos/\d9 f args=some y)\/∃fr,f it=some ⟨.il y.1,fr,y.2⟩:=
 OK.elim (λx Z=>OK.t9 (λh y e=>have h:=Bool.and_eq_true_iff.mp h;x.2.elim λa q=>q.elim λpos q=>.inl ⟨h.2,a,x.1.2,pos,q.trans (by rw[eq_of_beq h.1]),e⟩) λZ y e=>.inr (sx y e)) λy e=>.inr (sx y e)
noncomputable def zh(sc:List (xa×ub)):Bool:=sc.lookup ("range":xa)==some .globalImplicit
noncomputable def Rs.int?:Option Rs->Int
 |some ⟨.int i,_,_⟩=>i
 |_=>0
noncomputable def Rs.FW:Option Rs->Prop
 |some ⟨.int _,_,c⟩=>c
 |_=>False
noncomputable def fO:Option (Bool×Prop)->Bool
 |some (b,_)=>b
 |none=>false
noncomputable def RX:Option (Bool×Prop)->Prop
 |some (_,c)=>c
 |none=>False
noncomputable def Gd(x:xa):Bool:=x==("__debug__":xa)||x==("__classdict__":xa)
noncomputable def freeOf(scope:me)(σ:List (xa×P)):List (xa×P):=σ.filter λy=>scope.names.lookup y.1==some .free
noncomputable def jh(sc:List (xa×ub))(scope:me):Bool:=
 scope.kind==.function&&scope.names.all (λy=>y.2 != .free||sc.lookup y.1==some .cell||sc.lookup y.1==some .free)&&scope.names.all (λy=>y.2 != .free||scope.names.lookup y.1==some .free)&&scope.names.all (λy=>y.2 != .cell)&&scope.names.all (λy=>y.2 != .local||scope.names.lookup y.1==some .local)
noncomputable def PL(o:Option ub):Bool:=match o with
 |some k=>(match k with
  |.globalImplicit=>true
  |_=>false)
 |none=>false
theorem Zu{o:Option ub}(h:PL o=true):o=some .globalImplicit:=by
 cases o with
 |none=>exact nomatch h
 |some k=>cases k with
  |globalImplicit=>rfl
  |_=>exact nomatch h
noncomputable def P1(o:Option ub):Bool:=match o with
 |some k=>(match k with
  |.local=>true
  |_=>false)
 |none=>false
theorem RG{o:Option ub}(h:P1 o=true):o=some .local:=by
 cases o with
 |none=>exact nomatch h
 |some k=>cases k with
  |«local»=>rfl
  |_=>exact nomatch h
noncomputable def evK(c:Const):Option Rs:=match c with
 |.int i=>some ⟨.int i,true,True⟩
 |.none=>some ⟨.none,true,True⟩
 |.bool b=>some ⟨.bool b,true,True⟩
 |_=>none
noncomputable def evN(G:xa->Option P)(sc:List (xa×ub))(σ:List (xa×P))(x:xa):Option Rs:=
 bif Gd x then none else (σ.lookup x).elim (bif PL (sc.lookup x) then (G x).bind λp=>some ⟨p,false,True⟩ else none) λp=>some ⟨p,false,True⟩
noncomputable def evU(op:UnaryOp)(r:Option Rs):Option Rs:=match op with
 |.USub=>r.bind λ|⟨p,_,c⟩=>(FA p).bind λ|⟨i,_⟩=>some ⟨.int (-i),true,c⟩
 |_=>none
noncomputable def evB(f:Oa->Option Rs)(l:Oa)(op:Im)(r:Oa):Option Rs:=(f l).bind λ|⟨p,_,b⟩=>(f r).bind λ|⟨q,_,a⟩=>(kK op p q).bind λ|⟨x,fr,c⟩=>some ⟨x,fr,(b/\a)/\c⟩
noncomputable def evF(f:Oa->Option Rs)(t b o:Oa):Option Rs:=(GI f t).bind λ|(k,c)=>(f b).bind λ|⟨p,d,g⟩=>(f o).bind λ|⟨q,a,e⟩=>(Y9 k p q).bind λr=>some ⟨r,d&&a,c/\(k=true->g)/\(k=false->e)⟩
noncomputable def zS:(i:Oa)->Option {x:Option Oa×Option Oa // ∃p,i=.Slice x.1 x.2 none p}
 |.Slice a b none p=>some ⟨(a,b),p,rfl⟩
 |_=>none
noncomputable def RP(f:Oa->Option Rs):Option Oa->Option (Option Int×Prop)
 |none=>some (none,True)
 |some x=>(f x).bind λ|⟨p,_,c⟩=>(FA p).bind λ|⟨i,_⟩=>some (some i,c)
noncomputable def P9(a:List Int)(c:Prop)(lo hi:Option Int)(d b:Prop):Option Rs:=match lo with
 |none=>(match hi with
  |none=>none
  |some j=>some ⟨.il (a.take j.toNat),true,(c/\b)/\0<=j/\a.length<=2 ^ 24⟩)
 |some i=>(match hi with
  |none=>some ⟨.il (a.drop i.toNat),true,(c/\d)/\0<=i/\i<=a.length/\a.length<=2 ^ 24⟩
  |some j=>some ⟨.il ((a.drop i.toNat).take (j-i).toNat),true,(c/\d/\b)/\0<=i/\i<=j/\j<=a.length/\a.length<=2 ^ 24⟩)
noncomputable def X3(f:Oa->Option Rs)(a:List Int)(c:Prop)(lo hi:Option Oa):Option Rs:=(RP f lo).bind λ|(i,d)=>(RP f hi).bind λ|(j,b)=>P9 a c i j d b
noncomputable def Y3(f:Oa->Option Rs)(p:P)(c:Prop)(i:Oa):Option Rs:=(f i).bind λ|⟨q,_,b⟩=>(YQ p q).bind λ|⟨x,fr,a⟩=>some ⟨x,fr,(c/\b)/\a⟩
noncomputable def evS(f:Oa->Option Rs)(v i:Oa):Option Rs:=(nmE v).bind λZ=>(f v).bind λ|⟨p,_,c⟩=>((zS i).elim (Y3 f p c i) λ|⟨(lo,hi),_⟩=>(G2 p).bind λ|⟨a,_⟩=>X3 f a c lo hi)
noncomputable def e9(f:Oa->Option Rs)(fn:xa->List P->Option Rs)(sc:List (xa×ub))(σ:List (xa×P))(x:xa)(args:List Oa):Option Rs:=
 bif Gd x then none else (HI f args).bind λ|(ps,c)=>((σ.lookup x).elim (bif PL (sc.lookup x) then (CR x ps).bind (λ|⟨r,fr,a⟩=>some ⟨r,fr,c/\a⟩) else none) λp=>
  (adP p).bind λZ=>bif args.isEmpty then none else (fn x ps).bind λ|⟨r,_,a⟩=>some ⟨r,false,c/\a⟩)
noncomputable def c9:(gs:List qj)->Option {x:xa×Oa×List Oa // ∃p,gs=[⟨.Name x.1 p,x.2.1,x.2.2,0⟩]}
 |[⟨.Name x p,it,a,.ofNat 0⟩]=>some ⟨(x,it,a),p,rfl⟩
 |_=>none
noncomputable def gnR(H:Int->Oa->Option Rs)(a:Oa)(xs:List Int)(c:Prop):List Oa->Option Rs
 |[]=>some ⟨.il (xs.map λv=>Rs.int? (H v a)),true,c/\xs.length<=2 ^ 24/\∀v∈xs,Rs.FW (H v a)⟩
 |t::b=>bif b.isEmpty then some ⟨.il ((xs.filter λv=>fO (GI (H v) t)).map λv=>Rs.int? (H v a)),true,
   c/\xs.length<=2 ^ 24/\∀v∈xs,RX (GI (H v) t)/\(fO (GI (H v) t)=true->Rs.FW (H v a))⟩ else none
noncomputable def evG(f:Oa->Option Rs)(g:List (xa×ub)->List (xa×P)->Oa->Option Rs)(sc:List (xa×ub))(σ:List (xa×P))(b:Oa)(gs:List qj)(scope:me):Option Rs:=
 (c9 gs).bind λ|⟨(y,it,a),_⟩=>(bif jh sc scope&&P1 (scope.names.lookup y) then (aE (zh sc) f it).bind λ|(xs,c)=>gnR (λv=>g scope.names ((y,.int v)::freeOf scope σ)) b xs c a else none)
noncomputable def ev(G:xa->Option P)(fn:xa->List P->Option Rs):Nat->List (xa×ub)->List (xa×P)->Oa->Option Rs
 |0,_,_,_=>none
 |n+1,sc,σ,e=>match e with
  |.Constant c _ _=>evK c
  |.Name x _=>evN G sc σ x
  |.UnaryOp op x _=>evU op (ev G fn n sc σ x)
  |.BinOp l op r _=>evB (ev G fn n sc σ) l op r
  |.Compare l o r p=>(OW (ev G fn n sc σ) (.Compare l o r p)).bind λ|(b,c)=>some ⟨.bool b,true,c⟩
  |.IfExp t b o _=>evF (ev G fn n sc σ) t b o
  |.List es _=>(HI (ev G fn n sc σ) es).bind λ|(ps,c)=>(Gy ps).bind λis=>some ⟨.il is,true,c/\is.length<=2 ^ 24⟩
  |.Subscript v i _=>evS (ev G fn n sc σ) v i
  |.Call f args d p=>(o9 (.Call f args d p)).bind λ|⟨(x,args),_⟩=>e9 (ev G fn n sc σ) fn sc σ x args
  |.ListComp a gs scope _=>evG (ev G fn n sc σ) (ev G fn n) sc σ a gs scope
  |_=>none
noncomputable def Zp(h:Na):List P->List Value->Prop
 |[],[]=>True
 |p::ps,v::vs=>VR h p v/\Zp h ps vs
 |_,_=>False
theorem Zp.keeps{h h':Na}(k:∀b o,h.get? b=some o->h'.get? b=some o):∀{ps:List P} {vs:List Value},Zp h ps vs->Zp h' ps vs
 |[],[],_=>trivial
 |_::_,_::_,x=>⟨x.1.keeps k,Zp.keeps k x.2⟩
 |[],_::_,x=>x.elim
 |_::_,[],x=>x.elim
noncomputable def iW(prog:wa)(w:ja)(N:Nat)(a:la)(ps:List P)(r:P)(s:aa):Prop:=
 ∀(A:ua) (s':aa) (vs:List Value),GA N A->Kp s s'->Zp s'.heap ps vs->wpAny (ka prog w) A (call (.ref a) vs) (df s' r false) Jc s'
structure zk(prog:wa)(w:ja)(N:Nat)(fn:xa->List P->Option Rs)(σ:List (xa×P))(s:aa):Prop where
 func:∀f a,σ.lookup f=some (.addr a)->∃o fd,s.heap.get? a=some o/\o.data=.func fd
 call:∀f a ps r,σ.lookup f=some (.addr a)->fn f ps=some r->r.c->iW prog w N a ps r.p s
theorem zk.kp{prog:wa}{w:ja}{N:Nat}{fn:xa->List P->Option Rs}{σ:List (xa×P)}{s s':aa}(x:zk prog w N fn σ s)(k:Kp s s'):zk prog w N fn σ s':=
 ⟨λf a e=>by obtain ⟨o,fd,g,d⟩:=x.func f a e;exact⟨o,fd,k.get g,d⟩,λf a ps r e q c A Ng vs g k' v=>x.call f a ps r e q c A Ng vs g (k.trans' k') v⟩
structure Sound(prog:wa)(w:ja)(A:ua)(env:Be)(f:Oa->Option Rs)(s:aa):Prop where
 ok:∀e r s',Kp s s'->f e=some r->r.c->wpAny (ka prog w) A (eval e env) (df s' r.p r.fr) Jc s'
 star:∀e p,f (.Starred e p)=none
theorem Sound.kp{prog:wa}{w:ja}{A:ua}{env:Be}{f:Oa->Option Rs}{s s':aa}(x:Sound prog w A env f s)(k:Kp s s'):Sound prog w A env f s':=
 ⟨λe r Ng k' q c=>x.ok e r Ng (k.trans' k') q c,x.star⟩
section
variable{prog:wa}{w:ja}{A:ua}{s:aa}{G:Gl}{env:Be}{σ:List (xa×P)}{f:Oa->Option Rs}
theorem Lh(S:Sound prog w A env f s){e:Oa}{rest:List Oa}{r:Rs}(h:f e=some r):Ae (e::rest) env=(false,eval e env)::Ae rest env:=by
 cases e with
 |Starred e p=>rw[S.star] at h;exact nomatch h
 |_=>rfl
theorem ik{pos:xd}{t:Vb Value}{rest:List (Bool×Vb Value)}:Bg pos ((false,t)::rest)=(false,t)::Bg pos rest:=rfl
theorem Sound.go(S:Sound prog w A env f s){x:Oa}{r:Rs}{s':aa}(k:Kp s s')(e:f x=some r)(hc:r.c){Q:Value->aa->Prop}(H:∀v a,df s' r.p r.fr v a->Q v a):wpAny (ka prog w) A (eval x env) Q Jc s':=
 ah (S.ok x r s' k e hc) H
noncomputable def dW(prog:wa)(w:ja)(A:ua)(env:Be)(s:aa)(pos:xd)(es:List Oa)(y:List P×Prop):Prop:=
 (Bg pos (Ae es env)).any (·.1)=false/\(y.2->wpAny (ka prog w) A (Qi (Bg pos (Ae es env))) (λvs s'=>Kp s s'/\Zp s'.heap y.1 vs) Jc s)
theorem Vy{es:List Oa}:∀{s:aa} (S:Sound prog w A env f s) (pos:xd),OK (HI f es) (dW prog w A env s pos es):=by
 induction es with
 |nil=>exact λS pos=>OK.some ⟨rfl,λZ=>Calls.spliced_nil ⟨.Ce,trivial⟩⟩
 |cons e es d=>exact λS pos=>OK.bind λr h=>OK.bind λq g=>OK.some (by
   delta dW
   rw[Lh S h,ik]
   exact⟨(d S pos q g).1,λhc=>Calls.spliced_cons (S.go .Ce h hc.1 λv c yb=>ah ((d (S.kp yb.keeps) pos q g).2 hc.2) (λvs b a=>⟨yb.keeps.trans' a.1,a.1.vr yb.val,a.2⟩))⟩)
theorem iM{es:List Oa}{ps:List P}{c:Prop}{s:aa}(S:Sound prog w A env f s)(pos:xd)(h:HI f es=some (ps,c))(hc:c):
  (Bg pos (Ae es env)).any (·.1)=false/\wpAny (ka prog w) A (Qi (Bg pos (Ae es env))) (λvs s'=>Kp s s'/\Zp s'.heap ps vs) Jc s:=
 (Vy S pos _ h).imp_right λq=>q hc
noncomputable def TsV(prog:wa)(w:ja)(A:ua)(env:Be)(s:aa)(e:Oa)(y:Bool×Prop):Prop:=y.2->wpAny (ka prog w) A (eval e env) (df s (.bool y.1) true) Jc s
noncomputable def R4(prog:wa)(w:ja)(A:ua)(env:Be)(s:aa)(e:Oa)(y:Bool×Prop):Prop:=y.2->∀a,wpAny (ka prog w) A (isTrue e env a) (λt s'=>t=y.1/\Kp s s') Jc s
theorem tM{n:Nat}(S:Sound prog w A env f s)(g:GA n A){l r:Oa}{op:wI}{p q:Rs}{y:Bool×Prop}(t:f l=some p)(o:f r=some q)(m:mF op p.p q.p=some y)(B:p.c)(z:q.c){Q:Value->aa->Prop}
  (k:∀s',Kp s s'->Q (.bool y.1) s'):wpAny (ka prog w) A (eval l env) (λa h=>wpAny (ka prog w) A (eval r env) (λb d=>wpAny (ka prog w) A (Ls op a b) Q Jc d) Jc h) Jc s:=
 S.go .Ce t B λv h yb=>S.go yb.keeps o z λu d e=>ah (yu m (e.keeps.vr yb.val) e.val g.units) (λx j i=>i.1▸i.2▸k d (yb.keeps.trans' e.keeps))
theorem Wy{n:Nat}(S:Sound prog w A env f s)(g:GA n A){e:Oa}:OK (OW f e) λy=>TsV prog w A env s e y/\R4 prog w A env s e y:=
 OK.bind λx Z=>OK.bin λhm=>OK.bind λp h=>OK.bind λq d=>OK.bind λy c=>OK.some (x.2.elim λpos e=>
  ⟨λhc=>e▸wpAny_Compare1 (hm:=hm) (tM S g h d c hc.1.1 hc.1.2 λs' k=>⟨k,rfl,λZ a q=>nomatch q⟩),
   λhc b=>e▸Je (hm:=hm) (tM S g h d c hc.1.1 hc.1.2 λs' k=>Zd ⟨rfl,k⟩)⟩)
theorem bN{op:XI}{y:Oa}{b:Bool}(h:∀a,wpAny (ka prog w) A (isTrue y env a) (λt s'=>t=b/\Kp s s') Jc s):wpAny (ka prog w) A (allTrue op [y] env) (λt s'=>t=b/\Kp s s') Jc s:=by
 rw[arm_allTrue_cons]
 refine zb (ah (h _) (λt d c=>?_))
 cases op <;> cases t <;> exact pa c
theorem I4{op:XI}{a b:Bool}{c d:Prop}(h:(J4 op a b c d).2):c:=by cases op <;> exact h.1
theorem VV{op:XI}{a b:Bool}{f e:Prop}(hc:(J4 op a b f e).2){m:Vb Bool}{c:aa}(k:Kp s c)(d:e->wpAny (ka prog w) A m (λu s'=>u=b/\Kp s s') Jc c):
  wpAny (ka prog w) A (match op,a with|.And,false=>pure false|.Or,true=>pure true|_,_=>m) (λu s'=>u=(J4 op a b f e).1/\Kp s s') Jc c:=by
 cases op <;> cases a
 ·exact pa ⟨rfl,k⟩
 ·exact d (hc.2 rfl)
 ·exact d (hc.2 rfl)
 ·exact pa ⟨rfl,k⟩
theorem KP{op:XI}{x y:Oa}{pos:xd}{a b:Bool×Prop}(f:R4 prog w A env s x a)(e:∀c,Kp s c->R4 prog w A env c y b):R4 prog w A env s (.BoolOp op [x,y] pos) (J4 op a.1 b.1 a.2 b.2):=λhc d=>by
 refine zb (m:=isTrue x env (eval x env)) (ah (f (I4 hc) _) (λt c yb=>?_))
 obtain ⟨rfl,k⟩:=yb
 exact VV hc k λhb=>ah (bN (op:=op) (e c k hb)) λZ Z q=>⟨q.1,k.trans' q.2⟩
theorem Uy{n:Nat}(S:Sound prog w A env f s)(g:GA n A){e:Oa}:OK (GI f e) (R4 prog w A env s e):=
 OK.elim (λx Z=>OK.bind λZ b=>OK.bind λZ a=>OK.some (x.2.elim λZ e=>e▸KP (Wy S g _ b).2 λZ k=>(Wy (S.kp k) g _ a).2)) (OK.mono (Wy S g) λZ q=>q.2)
theorem AR(S:Sound prog w A env f s)(r:RE G env σ s){x:xa}{v:Value}(k:env.kindOf x=some .globalImplicit)(hg:G.mg x=none)(hv:Zg x=some v)
  (hm:x≠"__name__") (hd:(x==("__debug__":xa))=false) (e:(∃i,v=.builtin i)\/∃i,v=.type i) {a:Oa} {as:List Oa} {ps:List P} {c:Prop} (he:HI f (a::as)=some (ps,c)) (hc:c) {j pos:xd}
  {Q:Value->aa->Prop} (h:∀vs s',Kp s s'->Zp s'.heap ps vs->wpAny (ka prog w) A (call v vs) Q Jc s'):
  wpAny (ka prog w) A (eval (.Call (.Name x j) (a::as) [] pos) env) Q Jc s:=by
 refine VW (name_buil r k hg hv hm hd ?_)
 refine(iM S pos he hc).elim λhp g=>?_
 refine(q9 he).elim λm q=>have l:=q.1;?_
 rw[Lh S l,ik] at hp g ⊢
 have d:wpAny (ka prog w) A (Cp v true ((false,eval a env)::Bg pos (Ae as env)) []) (λa b=>wpAny (ka prog w) A (call v ([]++a.pos) a.kw) Q Jc b) Jc s:=
  IC (ah g (λvs s' h'=>h vs s' h'.1 h'.2))
 rcases e with ⟨i,rfl⟩|⟨i,rfl⟩
 ·exact Calls.callWith_builtin hp d
 ·exact l5 hp d
theorem Zp.nl{h:Na}{vs:List Value}(x:Zp h [] vs):vs=[]:=by
 cases vs with
 |nil=>rfl
 |cons _ _=>exact x.elim
theorem Zp.cn{h:Na}{p:P}{ps:List P}{vs:List Value}(x:Zp h (p::ps) vs):∃v a,vs=v::a/\VR h p v/\Zp h ps a:=by
 cases vs with
 |nil=>exact x.elim
 |cons v a=>exact⟨v,a,rfl,x⟩
theorem Zp.one{h:Na}{p:P}{vs:List Value}(x:Zp h [p] vs):∃v,vs=[v]/\VR h p v:=by
 refine Nc λc=>?_;obtain ⟨v,d,rfl,a,b⟩:=x.cn;refine c ?_
 exact⟨v,by rw[b.nl],a⟩
theorem Zp.two{h:Na}{p q:P}{vs:List Value}(x:Zp h [p,q] vs):∃v u,vs=[v,u]/\VR h p v/\VR h q u:=by
 refine Nc λd=>?_;obtain ⟨v,e,rfl,a,b⟩:=x.cn
 obtain ⟨u,rfl,c⟩:=b.one;refine d ?_
 exact⟨v,u,rfl,a,c⟩
theorem Zp.three{h:Na}{p q r:P}{vs:List Value}(x:Zp h [p,q,r] vs):∃v u t,vs=[v,u,t]/\VR h p v/\VR h q u/\VR h r t:=by
 refine Nc λd=>?_;obtain ⟨v,e,rfl,a,b⟩:=x.cn
 obtain ⟨u,t,rfl,c⟩:=b.two;refine d ?_
 exact⟨v,u,t,rfl,a,c⟩
end
noncomputable def Wt(x:Int)(n:Nat)(c:Int):List Int:=(Qa n).map λ(i:Nat)=>x+(i:Int)*c
theorem Pq(x:Int)(n:Nat)(c:Int):Wt x (n+1) c=x::Wt (x+c) n c:=by
 unfold Wt
 rw[List.range_succ_eq_map,vb,Qs]
 refine congr (congrArg _ (by simp)) (Pk λi Z=>?_)
 show x+((i+1:Nat):Int)*c=x+c+(i:Int)*c
 rw[Int.natCast_add,Int.add_mul];simp;lia
inductive je (h:Na) (I:la):Option la->List Int->Prop
 |list (l:la) (vs:List Value) (n i:Nat) (ns:List Int):h.IsListIter I l i->h.get? l=some (Wa vs n)->IntsAre vs ns->l≠I->je h I (some l) (ns.drop i)
 |range (x left Gf:Int):wc h I x left Gf->je h I none (Wt x left.toNat Gf)
theorem je.keeps{h h':Na}{I:la}{L:Option la}{xs:List Int}(x:je h I L xs)(k:∀b o,b=I\/L=some b->h.get? b=some o->h'.get? b=some o):je h' I L xs:=by
 cases x with
 |list l vs n i ns a b c d=>
  obtain ⟨o,e,r⟩:=a
  exact .list l vs n i ns ⟨o,k _ _ (.inl rfl) e,r⟩ (k _ _ (.inr rfl) b) c d
 |range a b c d=>exact .range a b c (k _ _ (.inl rfl) d)
theorem IntsAre.get{vs:List Value}{ns:List Int}(h:IntsAre vs ns):∀(i:Nat) (x:Int),ns[i]?=some x->∃t,vs[i]?=some (.int x t):=by
 induction h with
 |nil=>intro i x e;cases i <;> cases e
 |cons n t _ a=>
  intro i x e
  cases i with
  |zero=>cases e;exact⟨t,rfl⟩
  |succ i=>simpa using a i x (by simpa using e)
section
variable{prog:wa}{w:ja}{A:ua}{s:aa}{G:Gl}{env:Be}{σ:List (xa×P)}{f:Oa->Option Rs}{E:Value->aa->Prop}
theorem MU{l:Int}(h:0 < l):l.toNat=(l-1).toNat+1:=(Int.eq_succ_of_zero_lt h).elim λn e=>by rw[e];exact congrArg (·+1) (Qz (n+1) 1).symm
set_option tactic.hygienic true
theorem je.next{I:la}{L:Option la}{x:Int}{xs:List Int}{Q:Option Value->aa->Prop}(it:je s.heap I L (x::xs))
  (j:∀h' t tk,je h' I L xs->Ad I s.heap h'->Q (some (.int x t)) {s with heap:=h',toks:=tk}):wpAny (ka prog w) A (Qg (.ref I)) Q E s:=by
 generalize g:x::xs=l at it
 cases it with
 |list l vs n i ns a b c d=>
  have e:ns[i]?=some x:=by
   have:=congrArg m5 g
   rw[PN] at this
   exact this.symm
  refine(IntsAre.get c i x e).elim λt o=>?_
  refine aq a ⟨_,b,rfl,_,rfl⟩ (by simpa using o) λh' hi h=>j h' t s.toks ?_ h
  have m:xs=ns.drop (i+1):=by
   have:=congrArg i6 g
   rw[xQ] at this
   exact this
  rw[m]
  exact .list l vs n (i+1) ns hi (h.extBut _ _ d b) c d
 |range y left Gf r=>
  have f:0 < left:=by
   cases q:left.toNat with
   |zero=>rw[q] at g;exact nomatch g
   |succ k=>exact Int.lt_toNat.mp (q▸Nat.succ_pos k)
  have e:left.toNat=(left-1).toNat+1:=MU f
  rw[e,Pq] at g
  obtain ⟨rfl,rfl⟩:=List.cons.inj g
  exact Kj r f λh' hi h=>j h' _ _ (.range _ _ _ hi) h
set_option tactic.hygienic false
theorem je.done{I:la}{L:Option la}{Q:Option Value->aa->Prop}(it:je s.heap I L [])(g:A.handled=none)
  (h:∀h',bj I s.heap h'->Q none {s with heap:=h'}):wpAny (ka prog w) A (Qg (.ref I)) Q E s:=by
 generalize f:([]:List Int)=l at it
 cases it with
 |list l vs n i ns a b c d=>
  have e:vs.length<=i:=by
   have:=congrArg List.length f
   rw[bh] at this
   have j:=c.length
   simp at this;lia
  exact Hq g a ⟨_,b,rfl,_,rfl⟩ (by simpa using e) h
 |range y left Gf r=>
  have e:left<=0:=by
   cases q:left.toNat with
   |zero=>lia
   |succ k=>rw[q,Pq] at f;exact nomatch f
  exact sk g r e h
noncomputable def Rv(s:aa)(xs:List Int)(a:Value)(s':aa):Prop:=∃I L,a=.ref I/\Kp s s'/\s.heap.get? I=none/\(∀l,L=some l->∃vs n,s'.heap.get? l=some (Wa vs n))/\je s'.heap I L xs
noncomputable def Zm(s:aa)(xs:List Int)(a:Value)(s':aa):Prop:=∃I,a=.ref I/\Kp s s'/\s.heap.get? I=none/\je s'.heap I none xs
theorem Zm.to{s s':aa}{xs:List Int}{v:Value}(x:Zm s xs v s'):Rv s xs v s':=x.elim λI x=>⟨I,none,x.1,x.2.1,x.2.2.1,λZ e=>(nomatch e),x.2.2.2⟩
theorem Zm.after{b a s':aa}{xs:List Int}{v:Value}(k:Kp b a)(x:Zm a xs v s'):Zm b xs v s':=by
 obtain ⟨I,rfl,c,h,i⟩:=x
 exact⟨I,rfl,k.trans' c,Eb k h,i⟩
theorem aH{ns:List Int}{v:Value}(hv:VR s.heap (.il ns) v):wpAny (ka prog w) A (wh v) (Rv s ns) E s:=by
 obtain ⟨a,vs,n,rfl,g,i⟩:=hv
 refine Xg ⟨_,g,rfl,_,rfl⟩ ⟨s.heap.objs.size,some a,rfl,.push _,Qb,?_,?_⟩
 ·intro l e;obtain rfl:=va e;exact⟨vs,n,fa _ g⟩
 ·have:=je.list (h:=s.heap.push {cls:=.type "list_iterator",data:=.fields #[.ref a,.int 0 0]}) (I:=s.heap.objs.size) a vs n 0 ns ⟨_,ra _ rfl,rfl,rfl⟩ (fa _ g) i (Va (Ba g))
  simpa using this
theorem fits_of{i:Int}(h:-(2 ^ 63)<=i)(h':i < 2 ^ 63):kX i=true:=Bool.and_eq_true_iff.mpr ⟨decide_eq_true h,decide_eq_true h'⟩
theorem BG{a b:Int}(c:Sm a)(hb:Sm b):b-a<=2 ^ 63-1:=by have:=c.1;have:=hb.2;lia
theorem FJ{a:Int}(h:Sm a):-(2 ^ 63)<=a:=Ai (by decide) (Ct h.1)
theorem GJ{a:Int}(h:Sm a):a < 2 ^ 63:=Int.lt_trans h.2 (by decide)
set_option tactic.hygienic true
theorem Nh{a b k:Int}(f:0 < k)(g:Sm a)(hb:Sm b)(d:Sm k):Jm a b k=true/\0<=Bb a b k:=by
 have c:0<=Bb a b k/\Bb a b k<=2 ^ 63-1:=by
  unfold Bb
  rw[if_pos f]
  split
  ·rename_i h
   have e:0<=b-a-1:=Int.le_sub_one_of_lt (Lg h)
   exact⟨Int.add_nonneg (Int.ediv_nonneg e (Ct f)) (by decide),Ai (Int.add_le_add_right (Int.ediv_le_self _ e) 1) (by rw[Int.sub_add_cancel];exact BG g hb)⟩
  ·decide
 refine⟨?_,c.1⟩
 have e:-(2 ^ 63)<=b+(k-1):=by have:=hb.1;lia
 have i:b+(k-1) < 2 ^ 63:=by have:=hb.2;have:=d.2;lia
 exact Bool.and_eq_true_iff.mpr ⟨Bool.and_eq_true_iff.mpr ⟨Bool.and_eq_true_iff.mpr ⟨Bool.and_eq_true_iff.mpr ⟨fits_of (FJ g) (GJ g),fits_of (FJ hb) (GJ hb)⟩,fits_of (FJ d) (GJ d)⟩,
  fits_of (Ai (by decide) c.1) (VI c.2 (by decide))⟩,Bool.or_eq_true_iff.mpr (.inr (by rw[if_pos f];exact fits_of e i))⟩
set_option tactic.hygienic false
theorem AD{a b k:Int}{r:la}{t u v:jg}(d:0 < k)(e:Sm a)(hb:Sm b)(c:Sm k)(hr:dm s.heap r a b k t u v):
  wpAny (ka prog w) A (wh (.ref r)) (Zm s (Cd a b k)) E s:=by
 refine(Nh d e hb c).elim λf g=>?_
 refine Ag hr f ⟨s.heap.objs.size,rfl,.push _,Qb,?_⟩
 exact je.range a (Bb a b k) k (ra _ rfl)
theorem Rv.after{b a s':aa}{xs:List Int}{v:Value}(k:Kp b a)(x:Rv a xs v s'):Rv b xs v s':=by
 obtain ⟨I,L,rfl,c,h,d,i⟩:=x
 exact⟨I,L,rfl,k.trans' c,Eb k h,d,i⟩
theorem HJ:Sm 0/\Sm 1:=⟨⟨by decide,by decide⟩,by decide,by decide⟩
theorem boot_range:Zg "range"=some (.type "range"):=by decide +kernel
theorem boot_len:Zg "len"=some (.builtin "len"):=by decide +kernel
theorem boot_list:Zg "list"=some (.type "list"):=by decide +kernel
theorem boot_max:Zg "max"=some (.builtin "max"):=by decide +kernel
theorem Ll{a b k:Int}(h:Sm k):Dt (b-a) k=false:=Vs h
theorem Kp.WQ{s:aa}{o:Sa}{t:Nat}:Kp s {s with heap:=s.heap.push o,toks:=t}:=⟨_,_,rfl,λZ Z e=>fa _ e⟩
theorem XC{s' d:aa}(k:Kp s s')(e:Kp s' d){a b c:Int}{r:la}{t u v:jg}(h0:0 < c)(f:Sm a)(hb:Sm b)(hc:Sm c)(hr:dm d.heap r a b c t u v):wpAny (ka prog w) A (wh (.ref r)) (Zm s (Cd a b c)) Jc d:=
 ah (AD h0 f hb hc hr) (λZ Z q=>q.after (k.trans' e))
theorem HS{ps:List P}{c:Prop}:OK (S9 ps c) λy=>y.2->c/\∀vs s',Kp s s'->Zp s'.heap ps vs->wpAny (ka prog w) A (call (.type "range") vs) (λi f=>wpAny (ka prog w) A (wh i) (Zm s y.1) Jc f) Jc s':=by
 cases ps with
 |nil=>exact OK.none
 |cons p ps=>
  refine OK.bind λa Z=>?_
  cases ps with
  |nil=>exact OK.some λhc=>⟨hc.1,λvs s' k hv=>(Zp.one hv).elim λv q=>(vInt a.2 q.2).elim λt e=>q.1▸e▸uk (XC k .WQ (by decide) HJ.1 hc.2 HJ.2 (Ts _ 0 a.1 1 _ _ _))⟩
  |cons m ps=>
   refine OK.bind λb Z=>?_
   cases ps with
   |nil=>exact OK.some λhc=>⟨hc.1,λvs s' k hv=>(Zp.two hv).elim λv q=>q.elim λu q=>(vInt a.2 q.2.1).elim λt e=>(vInt b.2 q.2.2).elim λt' h=>q.1▸e▸h▸call_range_2 (XC k .WQ (by decide) hc.2.1 hc.2.2 HJ.2 (Ts _ a.1 b.1 1 _ _ _))⟩
   |cons l ps=>
    refine OK.bind λd Z=>?_
    cases ps with
    |nil=>exact OK.some λhc=>⟨hc.1,λvs s' k hv=>(Zp.three hv).elim λv q=>q.elim λu q=>q.elim λx q=>(vInt a.2 q.2.1).elim λt e=>(vInt b.2 q.2.2.1).elim λt' h=>(vInt d.2 q.2.2.2).elim λj g=>
     q.1▸e▸h▸g▸call_range_3 (Int.ne_of_gt hc.2.1) (XC k (.push _) hc.2.1 hc.2.2.1 hc.2.2.2.1 hc.2.2.2.2 (Ts _ a.1 b.1 d.1 _ _ _)) (.inl (Ll hc.2.2.2.2))⟩
    |cons _ _=>exact OK.none
theorem tx(S:Sound prog w A env f s)(r:RE G env σ s){d pos:xd}{args:List Oa}{y:List Int×Prop}
  (h:d9 f args=some y) (hc:y.2) (e:env.kindOf "range"=some .globalImplicit):
  wpAny (ka prog w) A (eval (.Call (.Name "range" d) args [] pos) env) (λc b=>wpAny (ka prog w) A (wh c) (Zm s y.1) Jc b) Jc s:=
 (q9 h).elim λx q=>by
  have z:=HS (prog:=prog) (w:=w) (A:=A) (s:=s) y q.2 hc
  cases args with
  |nil=>obtain rfl:=va q.1;exact nomatch q.2
  |cons a as=>exact AR S r e (G.free _ (.tail _ (.head _))) boot_range (by decide) (by decide) (.inr ⟨_,rfl⟩) q.1 z.1 z.2
theorem sP(S:Sound prog w A env f s){it:Oa}{a:List Int}{fr:Bool}{c:Prop}(e:f it=some ⟨.il a,fr,c⟩)(hc:c):wpAny (ka prog w) A (eval it env) (λd b=>wpAny (ka prog w) A (wh d) (Rv s a) Jc b) Jc s:=
 S.go .Ce e hc λv b yb=>ah (aH yb.val) (λZ Z q=>q.after yb.keeps)
theorem jM{i:Bool}(S:Sound prog w A env f s)(r:RE G env σ s){it:Oa}{xs:List Int}{c:Prop}(h:aE i f it=some (xs,c))(hc:c)
  (a:i=true->env.kindOf "range"=some .globalImplicit):
  wpAny (ka prog w) A (eval it env) (λg b=>wpAny (ka prog w) A (wh g) (Rv s xs) Jc b) Jc s:=
 (qs _ h).elim (λq=>q.2.elim λj d=>d.elim λargs d=>d.elim λpos d=>d.1▸ah (tx S r d.2 hc (a q.1)) (λg b yb=>ah yb (λZ Z q=>q.to))) λq=>q.elim λfr e=>sP S e hc
theorem xy:∀(l:List Int) (m:Int),m<=l.foldl (λm x=>if x > m then x else m) m/\(∀a∈l,a<=l.foldl (λm x=>if x > m then x else m) m)/\(l.foldl (λm x=>if x > m then x else m) m=m\/l.foldl (λm x=>if x > m then x else m) m∈l)
 |[],m=>⟨q5 _,λZ h=>(nomatch h),.inl rfl⟩
 |x::l,m=>by
  rw[Si]
  obtain ⟨d,e,b⟩:=xy l (if x > m then x else m)
  have z:m<=(if x > m then x else m)/\x<=(if x > m then x else m):=by split <;> lia
  refine⟨?_,?_,?_⟩
  ·exact Ai z.1 d
  ·intro a c
   rcases List.mem_cons.mp c with rfl|c
   ·exact Ai z.2 d
   ·exact e a c
  ·refine b.elim (λb=>?_) λb=>?_
   ·rw[b]
    split
    ·exact .inr (.head _)
    ·exact .inl rfl
   ·exact .inr (.tail _ b)
theorem QO{l:List Int}{M:Int}(hm:M∈l)(c:∀a∈l,a<=M):uA l=M:=by
 cases l with
 |nil=>cases hm
 |cons a l=>
  obtain ⟨e,d,b⟩:=xy l a
  show l.foldl _ a=M
  have u:l.foldl (λm x=>if x > m then x else m) a<=M:=by
   refine b.elim (λb=>?_) λb=>?_
   ·rw[b];exact c a (.head _)
   ·exact c _ (.tail _ b)
  have lo:M<=l.foldl (λm x=>if x > m then x else m) a:=by
   rcases List.mem_cons.mp hm with rfl|hm
   ·exact e
   ·exact d M hm
  lia
theorem rA{a:la}{vs:List Value}{n:Nat}{ns:List Int}{Q:Value->aa->Prop}(q:A.handled=none)(l:s.heap.get? a=some (Wa vs n))(hi:IntsAre vs ns)(d:0 < ns.length)
  (h:∀h' tk t,(∀b o,s.heap.get? b=some o->h'.get? b=some o)->Q (.int (uA ns) t) {s with heap:=h',toks:=tk}):wpAny (ka prog w) A (call (.builtin "max") [.ref a]) Q E s:=by
 refine hi.allInts.items.elim λxs k=>?_
 have f:=hi.numsOf
 have g:vs=(intItems xs).toList:=by rw[<- k]
 rw[g,nums_intItems] at f
 have c:xs.size=ns.length:=by rw[<- f];simp
 refine max_intList q (xs:=xs) (k▸⟨_,l,rfl,_,rfl⟩) (c▸d) λv h' tk hv m=>?_
 obtain ⟨t,rfl⟩:=intItems_at hv
 refine(argBest_gt (numAt xs) (xs.size-1)).elim λu r=>?_
 have e:uA ns=numAt xs (argBest (λi j=>decide (numAt xs i > numAt xs j)) (xs.size-1)):=by
  refine QO ?_ λb hb=>?_
  ·rw[numAt_eq,f];exact getD_mem (Zi (aj u (Rl (Zi d c.symm) kj)) c)
  ·obtain ⟨j,p,rfl⟩:=mem_getD hb
   have:=r j (Bk (Zi p c.symm))
   rw[numAt_eq,f] at this
   exact this
 rw[<- e]
 exact h h' tk t m
end
structure Ui(sc:List (xa×ub))(env:Be):Prop where
 glob:∀x,sc.lookup x=some .globalImplicit->env.kindOf x=some .globalImplicit
 cell:∀x,sc.lookup x=some .cell\/sc.lookup x=some .free->env.kindOf x=some .cell\/env.kindOf x=some .free
noncomputable def xe(cells:List (xa×la)):List (xa×ub)->List (xa×la)->List (xa×la)
 |[],yg=>yg
 |(n,k)::r,yg=>if k==.free then xe cells r ((n,(cells.lookup n).getD 0)::yg) else xe cells r yg
theorem Of{scope:me}{env:Be}(h:∀y∈scope.names,y.2=.free->(env.cells.lookup y.1).isSome=true):jq scope env=pure (xe env.cells scope.names []):=by
 dsimp only[jq]
 suffices q:∀(l:List (xa×ub)) (yg:List (xa×la)),(∀y∈l,y.2=.free->(env.cells.lookup y.1).isSome=true)->
   (forIn l yg (λ(x:xa×ub) (cs:List (xa×la))=>(if (x.2==kc)=true then do
    let c <- cellOf env x.1
    pure (uc ((x.1,c)::cs)) else pure (uc cs):Vb (ForInStep (List (xa×la))))):Vb (List (xa×la)))=pure (xe env.cells l yg) by
  have:=q scope.names [] h
  exact(congrArg (λt:Vb (List (xa×la))=>t>>=λcs=>pure cs) this).trans rfl
 intro l
 induction l with
 |nil=>intro yg _;rfl
 |cons y l g=>
  intro yg d
  obtain ⟨n,k⟩:=y
  rw[de]
  unfold xe
  by_cases a:(k==kc)=true
  ·have f:k=.free:=by simpa using a
   refine(Option.isSome_iff_exists.mp (d (n,k) (.head _) f)).elim λc hc=>?_
   have b:env.cells.lookup n=some c:=hc
   rw[if_pos a,if_pos a]
   have e:cellOf env n=pure c:=by unfold cellOf;rw[b]
   rw[e,b]
   exact g ((n,c)::yg) λz hz=>d z (.tail _ hz)
  ·rw[if_neg a,if_neg a]
   exact g yg λz hz=>d z (.tail _ hz)
theorem Ik{cells:List (xa×la)}:∀(l:List (xa×ub)) (yg:List (xa×la)) (x:xa) (c:la),(∀y∈l,y.2=.free->(cells.lookup y.1).isSome=true)->
  (∀c,yg.lookup x=some c->cells.lookup x=some c)->(xe cells l yg).lookup x=some c->cells.lookup x=some c
 |[],yg,x,c,_,b,h=>b c h
 |(n,k)::r,yg,x,c,d,b,h=>by
  unfold xe at h
  by_cases f:(k==kc)=true
  ·rw[if_pos f] at h
   refine Ik r _ x c (λz hz=>d z (.tail _ hz)) (λc' h'=>?_) h
   rw[Ca] at h'
   cases e:x==n with
   |true=>
    rw[e] at h'
    refine(Option.isSome_iff_exists.mp (d (n,k) (.head _) (eq_of_beq f))).elim λa hc=>?_
    have g:cells.lookup n=some a:=hc
    rw[eq_of_beq e]
    rw[g] at h' ⊢
    exact h'
   |false=>rw[e] at h';exact b c' h'
  ·rw[if_neg f] at h
   exact Ik r _ x c (λz hz=>d z (.tail _ hz)) b h
theorem Jj{cells:List (xa×la)}:∀(l:List (xa×ub)) (yg:List (xa×la)) (x:xa),((x,kc)∈l\/(yg.lookup x).isSome=true)->((xe cells l yg).lookup x).isSome=true
 |[],yg,x,h=>by
  rcases h with h|h
  ·cases h
  ·exact h
 |(n,k)::r,yg,x,h=>by
  unfold xe
  by_cases a:(k==kc)=true
  ·rw[if_pos a]
   refine Jj r _ x ?_
   rw[Ca]
   cases b:x==n with
   |true=>exact .inr rfl
   |false=>
    rcases h with h|h
    ·rcases List.mem_cons.mp h with e|h
     ·cases e;simp at b
     ·exact .inl h
    ·exact .inr h
  ·rw[if_neg a]
   refine Jj r _ x ?_
   rcases h with h|h
   ·rcases List.mem_cons.mp h with e|h
    ·cases e;simp at a
    ·exact .inl h
   ·exact .inr h
theorem xc{α:Type}{l:List (xa×α)}{x:xa}{v:α}(h:l.lookup x=some v):(x,v)∈l:=mem_of_lookup h
theorem Oj(scope:me):∀(σ:List (xa×P)) (x:xa) (p:P),(freeOf scope σ).lookup x=some p->scope.names.lookup x=some .free/\σ.lookup x=some p
 |[],_,_,h=>by cases h
 |(y,q)::σ,x,p,h=>by
  unfold freeOf at h
  rw[Qt] at h
  by_cases d:(scope.names.lookup y==some kc)=true
  ·rw[if_pos d,Ca] at h
   rw[Ca]
   cases c:x==y with
   |true=>
    rw[c] at h
    exact⟨by rw[eq_of_beq c];exact eq_of_beq d,h⟩
   |false=>
    rw[c] at h
    exact Oj scope σ x p h
  ·rw[if_neg d] at h
   refine(Oj scope σ x p h).elim λa b=>?_
   refine⟨a,?_⟩
   rw[Ca]
   cases c:x==y with
   |true=>
    exact absurd (by rw[<- eq_of_beq c];exact beq_iff_eq.mpr a) d
   |false=>exact b
structure ue(sc:List (xa×ub))(scope:me):Prop where
 kind:scope.kind=.function
 free:∀y∈scope.names,y.2=.free->sc.lookup y.1=some .cell\/sc.lookup y.1=some .free
 free':∀y∈scope.names,y.2=.free->scope.names.lookup y.1=some .free
 nocell:∀y∈scope.names,y.2≠.cell
 locs:∀y∈scope.names,y.2=.local->scope.names.lookup y.1=some .local
theorem ue.of{sc:List (xa×ub)}{scope:me}(h:jh sc scope=true):ue sc scope:=by
 unfold jh at h
 simp only[Bd,Rt,Vn,beq_iff_eq,bne_iff_ne,ne_eq] at h
 obtain ⟨⟨⟨⟨a,b⟩,b'⟩,c⟩,d⟩:=h
 refine⟨a,λy f e=>?_,λy f e=>?_,λy f=>c y f,λy f e=>?_⟩
 ·rcases b y f with (q|q)|q
  ·exact absurd e q
  ·exact .inl q
  ·exact .inr q
 ·rcases b' y f with q|q
  ·exact absurd e q
  ·exact q
 ·rcases d y f with q|q
  ·exact absurd e q
  ·exact q
set_option tactic.hygienic true
theorem Lm{scope:me}{env:Be}{x:xa}:∀{l:List (xa×ub)} {k:ub},l.lookup x=some k->
  (l.map λ(n,k)=>if (k==kc&&env.scope.kind==.function&&env.kindOf n==some .cell) then (n,zg) else (n,k)).lookup x=some k \/
  (k=.free/\(l.map λ(n,k)=>if (k==kc&&env.scope.kind==.function&&env.kindOf n==some .cell) then (n,zg) else (n,k)).lookup x=some .cell)
 |[],k,h=>by cases h
 |(n,k')::r,k,h=>by
  rw[vb]
  dsimp only
  rw[Ca] at h
  cases a:x==n with
  |true=>
   rw[a] at h
   obtain rfl:=va h
   split
   ·rename_i hc
    right
    simp only[Bd,beq_iff_eq] at hc
    exact⟨hc.1.1,by rw[Ca,a]⟩
   ·left;rw[Ca,a]
  |false=>
   rw[a] at h
   have b:=Lm (scope:=scope) (env:=env) (x:=x) (l:=r) h
   split <;> (rw[Ca,a];exact b)
section
variable{sc:List (xa×ub)}{scope:me}{env:Be}{G:Gl}{σ:List (xa×P)}{s:aa}{C:la}
set_option tactic.hygienic false
theorem Ho(x:xa){k:ub}(h:scope.names.lookup x=some k)(a:k≠.free):(qd scope (xe env.cells scope.names []) C env).kindOf x=some k:=by
 rcases Lm (scope:=scope) (env:=env) h with q|q
 ·exact q
 ·exact absurd q.1 a
theorem xx(x:xa)(h:scope.names.lookup x=some .free):(qd scope (xe env.cells scope.names []) C env).kindOf x=some .cell\/(qd scope (xe env.cells scope.names []) C env).kindOf x=some .free:=by
 rcases Lm (scope:=scope) (env:=env) h with q|q
 ·exact .inr q
 ·exact .inl q.2
set_option tactic.hygienic true
theorem Km{env:Be}{x:xa}:∀{l:List (xa×ub)} {k:ub},(l.map λ(n,k)=>if (k==kc&&env.scope.kind==.function&&env.kindOf n==some .cell) then (n,zg) else (n,k)).lookup x=some k->
  ∃k',l.lookup x=some k'/\(k'=k\/(k'=.free/\k=.cell))
 |[],k,h=>by cases h
 |(n,k')::r,k,h=>by
  rw[vb] at h
  dsimp only at h
  rw[Ca]
  cases a:x==n with
  |true=>
   refine⟨k',rfl,?_⟩
   split at h
   ·rename_i hc
    rw[Ca,a] at h
    obtain rfl:=va h
    exact .inr ⟨eq_of_beq (Bool.and_eq_true_iff.mp (Bool.and_eq_true_iff.mp hc).1).1,rfl⟩
   ·rw[Ca,a] at h
    obtain rfl:=va h
    exact .inl rfl
  |false=>
   have:(r.map λ(n,k)=>if (k==kc&&env.scope.kind==.function&&env.kindOf n==some .cell) then (n,zg) else (n,k)).lookup x=some k:=by
    split at h <;> (rw[Ca,a] at h;exact h)
   exact Km this
set_option tactic.hygienic false
theorem dB(ps:ue sc scope):Ui scope.names (qd scope (xe env.cells scope.names []) C env):=
 ⟨λx h=>Ho x h (by decide),λx h=>by
  rcases h with h|h
  ·exact absurd rfl (ps.nocell _ (xc h))
  ·exact xx x h⟩
theorem Io(ps:ue sc scope)(so:Ui sc env)(r:RE G env σ s):∀y∈scope.names,y.2=.free->(env.cells.lookup y.1).isSome=true:=
 λy a e=>r.cells _ (so.cell _ (ps.free y a e))
set_option tactic.hygienic true
theorem bz(ps:ue sc scope)(so:Ui sc env)(r:RE G env σ s){τ:List (xa×P)}{m:xa->Option Value}(n:s.heap.Ns C m)
  (i:∀x p,τ.lookup x=some p->scope.names.lookup x=some .local/\∃v,m x=some v/\VR s.heap p v):RE G (qd scope (xe env.cells scope.names []) C env) (τ++freeOf scope σ) s:=by
 have j:∀(τ:List (xa×P)) x,(τ++freeOf scope σ).lookup x=match τ.lookup x with|some p=>some p|none=>(freeOf scope σ).lookup x:=by
  intro τ x
  induction τ with
  |nil=>rfl
  |cons y τ k=>
   obtain ⟨y,q⟩:=y
   rw[pN,Ca,Ca]
   cases x==y with
   |true=>rfl
   |false=>exact k
 refine⟨ps.kind,r.eg,r.eb,r.gs,λx p h=>?_,λx h=>?_⟩
 ·rw[j] at h
  split at h
  ·rename_i q e
   obtain rfl:=va h
   refine Nc λd=>?_;obtain ⟨a,v,hm,hv⟩:=i x _ e;refine d ?_
   exact⟨v,.inl ⟨Ho x a (by decide),m,n,hm⟩,hv⟩
  ·refine(Oj scope σ x p h).elim λa b=>?_
   refine Nc λd=>?_;obtain ⟨v,l,hv⟩:=r.look x p b;refine d ?_
   refine⟨v,.inr ⟨xx x a,?_⟩,hv⟩
   have f:=so.cell x (ps.free _ (xc a) rfl)
   rcases l with ⟨l,_⟩|⟨_,c,hc,hi⟩
   ·rcases f with f|f <;> (rw[l] at f;cases f)
   ·refine⟨c,?_,hi⟩
    refine(Option.isSome_iff_exists.mp (Jj (cells:=env.cells) scope.names [] x (.inl (xc a)))).elim λc' g=>?_
    have:=Ik scope.names [] x c' (Io ps so r) (λc h=>by cases h) g
    rw[hc] at this
    obtain rfl:=va this
    exact g
 ·have f:∃k',scope.names.lookup x=some k'/\k'=.free:=by
   rcases h with h|h
   ·refine Nc λd=>?_;obtain ⟨k',a,b⟩:=Km h;refine d ?_
    rcases b with rfl|⟨rfl,_⟩
    ·exact absurd rfl (ps.nocell _ (xc a))
    ·exact⟨_,a,rfl⟩
   ·refine Nc λd=>?_;obtain ⟨k',a,b⟩:=Km h;refine d ?_
    rcases b with rfl|⟨_,e⟩
    ·exact⟨_,a,rfl⟩
    ·cases e
  refine Nc λd=>?_;obtain ⟨_,a,rfl⟩:=f;refine d ?_
  exact Jj scope.names [] x (.inl (xc a))
end
section
variable{prog:wa}{w:ja}{A:ua}{s s₀:aa}{G:Gl}{env:Be}{σ:List (xa×P)}{sc:List (xa×ub)}{scope:me}{E:Value->aa->Prop}
set_option tactic.hygienic false
noncomputable def Xd(h:Na)(D:la)(ns:List Int):Prop:=∃vs n,h.get? D=some (Wa vs n)/\IntsAre vs ns
theorem Xd.keeps{h h':Na}{D:la}{ns:List Int}(x:Xd h D ns)(k:∀o,h.get? D=some o->h'.get? D=some o):Xd h' D ns:=
 x.elim λvs x=>x.elim λn x=>⟨vs,n,k _ x.1,x.2⟩
theorem append_at{D:la}{ns:List Int}{i:Int}{t:jg}{Q:Value->aa->Prop}(l:Xd s.heap D ns)(a:ns.length<=2 ^ 24)
  (h:∀h',Xd h' D (ns++[i])->Ad D s.heap h'->Q .none {s with heap:=h'}):wpAny (ka prog w) A (call (.builtin "list.append") [.ref D,.int i t]) Q E s:=by
 refine Nc λb=>?_;obtain ⟨vs,n,g,hi⟩:=l;refine b ?_
 have c:=hi.length
 refine qc slot_list_append ⟨_,g,rfl⟩ entry_list_append ?_ (args_list_append _ _)
 show wpAny _ _ (Hs D (·.push (.int i t))>>=λZ=>ret .none) _ _ s
 refine zb ?_
 have z:vs.toArray.size<=Kb:=by simp[Kb];lia
 refine vj (hz:=z) (_hz':=by rw[Ck];lia) g rfl (pa ⟨.none,rfl,h _ ?_ (ug ..)⟩)
 have u:=IsL.update (x:=g) (·.push (.int i t))
 refine⟨vs++[.int i t],if ((vs.toArray.push (Jp i t)).size==vs.toArray.size)=true then n else n+1,?_,hi.append (.cons _ _ .nil)⟩
 have e:(vs++[Jp i t]).toArray=vs.toArray.push (Jp i t):=by simp
 delta Wa
 rw[e]
 exact u
theorem av{h:Na}{a:la}(l:h.objs.size<=a):h.get? a=none:=by
 cases e:h.get? a with
 |none=>rfl
 |some o=>exact absurd (Ba e) (Nat.not_lt.mpr l)
theorem je.lt{h:Na}{I:la}{L:Option la}{xs:List Int}(it:je h I L xs):I < h.objs.size:=by
 cases it with
 |list l vs n i ns a b c d=>exact a.elim λo q=>Ba q.1
 |range a b c d=>exact Ba d
theorem SG{x y:xa}{p q:P}(e:[(x,p)].lookup y=some q):y=x/\p=q:=by
 rw[Ca] at e
 cases a:y==x with
 |true=>rw[a] at e;exact⟨eq_of_beq a,va e⟩
 |false=>rw[a] at e;exact nomatch e
structure CS(s₀:aa)(I D C:la)(L:Option la)(gy out:List Int)(s:aa):Prop where
 kp:Kp s₀ s
 it:je s.heap I L gy
 li:Xd s.heap D out
 ns:∃m,s.heap.Ns C m
structure CA(s₀:aa)(I D C:la)(L:Option la):Prop where
 i0:s₀.heap.get? I=none
 d0:s₀.heap.get? D=none
 c0:s₀.heap.get? C=none
 dc:D≠C
 di:D≠I
 ci:C≠I
 l:∀l,L=some l->l≠D/\l≠C
section
variable{I D C:la}{L:Option la}{gy out:List Int}{s':aa}
theorem Ef{h:Na}{a b:la}{o:Sa}(e:h.get? a=some o)(n:h.get? b=none):a≠b:=λq=>nomatch (q▸e:h.get? b=some o).symm.trans n
theorem CS.step(x:CS s₀ I D C L gy out s)(k:Kp s s'):CS s₀ I D C L gy out s':=⟨x.kp.trans' k,x.it.keeps λZ Z Z e=>k.get e,x.li.keeps λZ e=>k.get e,x.ns.imp λZ n=>n.keeps λZ Z e=>k.get e⟩
set_option tactic.hygienic true
theorem CS.next(x:CS s₀ I D C L gy out s)(c:CA s₀ I D C L){g:List Int}{d a:Na}{m:xa->Option Value}{tk:Nat}(i:je d I L g)(j:Ad I s.heap d)(f:Ad C d a)(n:a.Ns C m):CS s₀ I D C L g out {s with heap:=a,toks:=tk}:=
 have up:∀b o,b≠I->b≠C->s.heap.get? b=some o->a.get? b=some o:=λb o p k e=>f.extBut b o k (j.extBut b o p e)
 ⟨x.kp.elim λh q=>q.elim λt q=>⟨a,tk,q.1▸rfl,λb o e=>up b o (Ef e c.i0) (Ef e c.c0) (x.kp.get e)⟩,
  i.keeps λb o q e=>f.extBut b o (q.elim (λq=>q▸Hb c.ci) λq=>(c.l b q).2) e,x.li.keeps λo e=>up D o c.di c.dc e,m,n⟩
set_option tactic.hygienic false
theorem CS.app(x:CS s₀ I D C L gy out s)(c:CA s₀ I D C L){a:List Int}{h':Na}(l:Xd h' D a)(d:Ad D s.heap h'):CS s₀ I D C L gy a {s with heap:=h'}:=
 ⟨x.kp.elim λh q=>q.elim λt q=>⟨h',s.toks,q.1▸rfl,λb o e=>d.extBut b o (Ef e c.d0) (x.kp.get e)⟩,
  x.it.keeps λb o q e=>d.extBut b o (q.elim (λq=>q▸Hb c.di) λq=>(c.l b q).1) e,l,x.ns.imp λm n=>n.sameBut d (Hb c.dc)⟩
end
theorem YG{I:la}{L:Option la}{xs:List Int}{Q:Value->aa->Prop}(it:je s.heap I L xs)(h:Q (.ref I) s):wpAny (ka prog w) A (wh (.ref I)) Q E s:=by
 cases it with
 |list l vs n i ns a b c d=>exact Iq a h
 |range a b c d=>exact dq d h
set_option tactic.hygienic true
theorem wx{j9 iter:Oa}{x:xa}{px:xd}{ifs:List Oa}{pos:xd}{I:la}{L:Option la}{xs:List Int}{n:Nat}(g:GA n A)(ps:ue sc scope)(so:Ui sc env)(hx:scope.names.lookup x=some .local)
  (S1:Kp s₀ s) (M:s₀.heap.get? I=none) (it:je s.heap I L xs) (hL:∀l,L=some l->∃vs n,s.heap.get? l=some (Wa vs n)) (r:RE G env σ s₀) (JW:xs.length<=2 ^ 24) (tst:Int->Bool) (val:Int->Int)
  (Q:∀C s' v,v∈xs->Kp s₀ s'->RE G (qd scope (xe env.cells scope.names []) C env) ((x,.int v)::freeOf scope σ) s'->
   wpAny (ka prog w) A (forIn ifs true λc r=>if r=true then do let ok <- isTrue c (qd scope (xe env.cells scope.names []) C env) (eval c (qd scope (xe env.cells scope.names []) C env));pure (uc ok) else pure (uc r))
    (λok Ng=>ok=tst v/\Kp s' Ng) Jc s')
  (TU:∀C s' v,v∈xs->tst v=true->Kp s₀ s'->RE G (qd scope (xe env.cells scope.names []) C env) ((x,.int v)::freeOf scope σ) s'->
   wpAny (ka prog w) A (eval j9 (qd scope (xe env.cells scope.names []) C env)) (λy Ng=>(∃t,y=.int (val v) t)/\Kp s' Ng) Jc s')
  {RR:Value->la->Ob->aa->Prop}
  (hRR:∀D C h' tk m',s₀.heap.get? D=none->s₀.heap.get? C=none->D≠C->h'.Ns C m'->Xd h' D ((xs.filter tst).map val)->(∀b o,s₀.heap.get? b=some o->h'.get? b=some o)->RR (.ref D) C (.ok .next) {s₀ with heap:=h',toks:=tk}):
  wpAny (ka prog w) A (oW []) (λyg i=>wpAny (ka prog w) A (vC scope env.globals (xe env.cells scope.names []) [] env.qual none .none (some env)) (λcenv Y=>
   codeAny (ka prog w) A (.compStart (.ListComp j9 [⟨.Name x px,iter,ifs,0⟩] scope pos) 0 (.ref I) yg {cenv with scope:=relabel scope env}) (RR yg cenv.locals) Y) Jc i) Jc s:=by
 refine Uc (Dr ps.nocell (λ_ hy=>nomatch hy) (λyb j f=>?_) ps.kind)
 dsimp only at j f ⊢
 generalize Z8:s.heap.push {cls:=.type "list",dict:=none,data:=.seq ([]:List Value).toArray}=V at j f ⊢
 have hC:V.objs.size=s.heap.objs.size+1:=by rw[<- Z8,Ec]
 have J:s.heap.objs.size < V.objs.size:=hC▸Dd _
 have old:∀b o,s.heap.get? b=some o->yb.get? b=some o:=λb o e=>f.extBut b o (Va (zi (Ba e) J)) (fa _ (Z8▸fa _ e))
 have no:∀{a:la},s.heap.objs.size<=a->s₀.heap.get? a=none:=λha=>Eb S1 (av ha)
 have w3:I < s.heap.objs.size:=it.lt
 have T:CA s₀ I s.heap.objs.size V.objs.size L:=⟨M,no (Ab _),no (Vd J),Va J,Ee w3,Ee (zi w3 J),λl e=>(hL l e).elim λvs q=>q.elim λn q=>
  have h:=Ba q;⟨Va h,Va (zi h J)⟩⟩
 have O1:∀{i:aa},CS s₀ I s.heap.objs.size V.objs.size L xs [] i->
   codeAny (ka prog w) A (.compLoop (.ListComp j9 [⟨.Name x px,iter,ifs,0⟩] scope pos) 0 (.ref I) (.ref s.heap.objs.size) (qd scope (xe env.cells scope.names []) V.objs.size env))
    (RR (.ref s.heap.objs.size) V.objs.size) i:=by
  intro i d
  refine codeAny_compLoop_tests (λk s'=>∃done gy,xs=done++gy/\k=gy.length/\CS s₀ I s.heap.objs.size V.objs.size L gy ((done.filter tst).map val) s') ?_ xs.length ⟨[],xs,rfl,rfl,d⟩
  rintro k s' ⟨done,gy,H,rfl,c'⟩
  cases gy with
  |nil=>
   refine je.done c'.it g.hd λgH N=>?_
   rw[Dg] at H
   subst H
   refine Nc λhC=>?_;obtain ⟨h',tk',rfl,k'⟩:=c'.kp;refine hC ?_
   exact c'.ns.elim λm n=>hRR _ _ gH tk' m T.d0 T.c0 T.dc (n.extBut N T.ci) (c'.li.keeps λo e=>N _ o T.di e) λb o e=>N b o (Ef e M) (k' b o e)
  |cons v gy=>
   refine je.next c'.it λgH t z Y1 wJ=>?_
   refine c'.ns.elim λm' n'=>Sb (Ie (Ho x hx (by decide)) (n'.sameBut wJ T.ci) (λH2 OY i=>?_) (by show(scope.kind==.class||(scope.kind==.module&&_))=false;rw[ps.kind];rfl))
   have d:=c'.next (tk:=z+1) T Y1 wJ i OY
   have E:∀{Ng:aa},Kp {s' with heap:=H2,toks:=z+1} Ng->RE G (qd scope (xe env.cells scope.names []) V.objs.size env) ((x,.int v)::freeOf scope σ) Ng:=λkp=>
    bz (τ:=[(x,.int v)]) ps so (r.kp (d.kp.trans' kp)) (m:=λy=>if y=x then some (.int v t) else m' y) (OY.keeps λb o e=>kp.get e) λy p e=>have q:=SG e;⟨q.1.symm▸hx,_,if_pos q.1,q.2▸⟨t,rfl⟩⟩
   generalize ({s' with heap:=H2,toks:=z+1}:aa)=iY at d E ⊢
   have hv:v∈xs:=H▸jc _ (.head _)
   have K2:xs=(done++[v])++gy:=by rw[H,Ze];rfl
   refine Lb (Q _ _ v hv d.kp (E .Ce)) (λok Y xg=>?_) λ_ _ e=>e.elim
   obtain ⟨rfl,B⟩:=xg
   have out:(((done++[v]).filter tst).map val)=((done.filter tst).map val)++(if tst v=true then [val v] else []):=by
    rw[List.filter_append,Jf,Qt]
    split <;> rfl
   cases z8:tst v with
   |false=>
    rw[if_neg ng]
    refine⟨gy.length,Dd _,done++[v],gy,K2,rfl,?_⟩
    rw[out,z8,if_neg ng,Dg]
    exact d.step B
   |true=>
    rw[if_pos rfl]
    refine Lb (TU _ _ v hv z8 (d.kp.trans' B) (E B)) (λy a1C w8=>?_) λ_ _ e=>e.elim
    refine Nc λhC=>?_;obtain ⟨⟨u,rfl⟩,c8⟩:=w8;refine hC ?_
    have A4:=d.step (B.trans' c8)
    refine append_at A4.li ?_ λa2S D7 T6=>⟨gy.length,Dd _,done++[v],gy,K2,rfl,?_⟩
    ·rw[Yb]
     refine Ja (EC _ _) (Ja ?_ JW)
     rw[H,Ya]
     exact Ed _ _
    ·rw[out,z8,if_pos rfl]
     exact A4.app T D7 T6
 have Z1:je yb I L xs:=it.keeps λb o _ e=>old b o e
 have O:CS s₀ I s.heap.objs.size V.objs.size L xs [] {s with heap:=yb,toks:=s.toks+([]:List (xa×Value)).length}:=
  ⟨S1.trans' ⟨yb,_,rfl,old⟩,Z1,⟨[],_,f.extBut _ _ T.dc (fa _ (Z8▸ra _ rfl)),.nil⟩,_,j⟩
 exact NI (O1 O) (YG O.it (O1 O))
end
section
variable{prog:wa}{w:ja}{A:ua}{N:Nat}{G:Gl}{fn:xa->List P->Option Rs}
set_option tactic.hygienic false
theorem Tg{x:xa}(h:Gd x=false):(x==("__debug__":xa))=false/\(x==("__classdict__":xa))=false:=Bool.or_eq_false_iff.mp h
theorem zk.sub{σ:List (xa×P)}{s:aa}{scope:me}{x:xa}{v:Int}(h:zk prog w N fn σ s):zk prog w N fn ((x,.int v)::freeOf scope σ) s:=by
 have b:∀f a,((x,P.int v)::freeOf scope σ).lookup f=some (.addr a)->σ.lookup f=some (.addr a):=by
  intro f a e
  rw[Ca] at e
  split at e
  ·cases e
  ·exact(Oj scope σ f _ e).2
 exact⟨λf a e=>h.func f a (b f a e),λf a ps r e q c=>h.call f a ps r (b f a e) q c⟩
theorem wN{h:Na}{a:la}{vs:List Value}{n:Nat}(e:h.get? a=some (Wa vs n)):h.IsList a vs.toArray:=⟨_,e,rfl,n,rfl⟩
theorem ej{env:Be}{σ:List (xa×P)}{s:aa}{x:xa}{px:xd}{p:P}{Q:Value->aa->Prop}(r:RE G env σ s)(a:Gd x=false)(e:σ.lookup x=some p)
  (h:∀v,VR s.heap p v->Q v s):wpAny (ka prog w) A (eval (.Name x px) env) Q Jc s:=by
 refine Nc λb=>?_;obtain ⟨v,l,hv⟩:=r.look x p e;refine b ?_
 exact Md r.kind l (Tg a).1 (Tg a).2 (h v hv)
theorem LU{s:aa}{b i:Oa}{a:List Int}{k:Int}{l:la}{vs:List Value}{n:Nat}{u:jg}(d:s.heap.get? l=some (Wa vs n))(hi:IntsAre vs a)
  (h0:-(a.length:Int)<=k) (h:k < a.length) (j:a.length<=2 ^ 24) (g:Gr i false (.ref l) (.int k u)=iq [.ref l,.int k u] (Fh (.ref l) (.int k u))):
  wpAny (ka prog w) A (Kt b i (.ref l) (.int k u)) (df s (.int (Qe a k)) true) Jc s:=by
 refine tail_any (wN d).typeIs slot_list_getitem.lookup ?_ g
 delta Qe
 by_cases e:0<=k
 ·rw[if_pos e]
  exact getItem_intsK (wN d) hi e h (by lia) λt=>df.C2 _ t
 ·rw[if_neg e]
  have c:vs.toArray.size=a.length:=by simp[hi.length]
  obtain ⟨t,f⟩:=IntsAre.get hi (k+a.length).toNat (a.getD (k+a.length).toNat 0) (by
   rw[Ra,Wb (by lia)];rfl)
  exact wpAny_getItem_list_neg (wN d) (by lia) (by rw[c];exact h0) (by lia) (by rw[c];simpa using f) (df.C2 _ t)
theorem WC{c s:aa}{l:la}{vs:List Value}{n:Nat}{a:List Int}{ns:List Int}{f d:Value}{lo hi:Option Int}(k:Kp s c)(g:IntsAre (iI vs.toArray lo hi none).toList ns):
  df s (.il ns) true (.ref (c.heap.objs.size+1)) {c with heap:=(c.heap.push {cls:=.type "slice",data:=.fields #[f,d,.none]}).push {cls:=.type "list",data:=.seq (iI vs.toArray lo hi none)}}:=by
 have hz:(c.heap.push {cls:=.type "slice",data:=.fields #[f,d,.none]}).objs.size=c.heap.objs.size+1:=Ec ..
 refine df.after (s':=c) k ⟨⟨_,c.toks,rfl,λb o e=>fa _ (fa _ e)⟩,⟨_,_,0,rfl,?_,g⟩,λZ b e=>?_⟩
 ·rw[<- hz]
  have:=ra (c.heap.push {cls:=.type "slice",data:=.fields #[f,d,.none]}) (o:={cls:=.type "list",data:=.seq (iI vs.toArray lo hi none)}) rfl
  simpa [Wa] using this
 ·cases e
  cases q:c.heap.get? (c.heap.objs.size+1) with
  |none=>rfl
  |some o=>exact absurd (Ba q) (Nat.not_lt.mpr (ze _))
end
section
variable{prog:wa}{w:ja}{A:ua}{N:Nat}{G:Gl}{fn:xa->List P->Option Rs}
theorem gx{h:Na}:∀{ps:List P},OK (Gy ps) λis=>∀vs,Zp h ps vs->IntsAre vs is
 |[]=>OK.some λvs x=>x.nl▸.nil
 |p::ps=>OK.bind λi Z=>OK.bind λis e=>OK.some λvs x=>x.cn.elim λv q=>q.elim λa q=>(vInt i.2 q.2.1).elim λt b=>q.1▸b▸.cons i.1 t (gx is e a q.2.2)
theorem cQ{sc:List (xa×ub)}{σ:List (xa×P)}{env:Be}{s:aa}(g:GA N A)(r:RE G env σ s)(so:Ui sc env){m it:Oa}{x:xa}{px:xd}{j:List Oa}{scope:me}{pos:xd}
  (u:jh sc scope=true) (Y:scope.names.lookup x=some .local) {f:Oa->Option Rs} (S:Sound prog w A env f s) {xs:List Int} {c:Prop} (hI:aE (zh sc) f it=some (xs,c)) (hc:c) (p:xs.length<=2 ^ 24)
  (tst:Int->Bool) (val:Int->Int)
  (d:∀C s' v,v∈xs->Kp s s'->RE G (qd scope (xe env.cells scope.names []) C env) ((x,.int v)::freeOf scope σ) s'->
   wpAny (ka prog w) A (forIn j true λc r=>if r=true then do let ok <- isTrue c (qd scope (xe env.cells scope.names []) C env) (eval c (qd scope (xe env.cells scope.names []) C env));pure (uc ok) else pure (uc r))
    (λok Ng=>ok=tst v/\Kp s' Ng) Jc s')
  (l:∀C s' v,v∈xs->tst v=true->Kp s s'->RE G (qd scope (xe env.cells scope.names []) C env) ((x,.int v)::freeOf scope σ) s'->
   wpAny (ka prog w) A (eval m (qd scope (xe env.cells scope.names []) C env)) (λy Ng=>(∃t,y=.int (val v) t)/\Kp s' Ng) Jc s')
  (hs:∀y,ae it env y=pure y):
  wpAny (ka prog w) A (eval (.ListComp m [⟨.Name x px,it,j,0⟩] scope pos) env) (df s (.il ((xs.filter tst).map val)) true) Jc s:=by
 have ps:=ue.of u
 rw[Mt]
 refine fh (use:=none) rfl hs (Of (Io ps so r)) ps.kind ps.locs ?_
 refine ah (jM S r hI hc λh=>?_) (λxv J yb=>ah yb (λT H k=>?_))
 ·exact so.glob _ (by simpa [zh] using h)
 refine Nc λE=>?_;obtain ⟨I,L,rfl,Q,z,hL,n⟩:=k;refine E ?_
 refine wx (s₀:=s) g ps so Y Q z n hL r p tst val d l ?_
 intro D C h' tk O hD E B hn hl hk
 refine⟨O,hn,λJA M=>?_⟩
 obtain ⟨vs,n',gD,V⟩:=hl
 have i:∀b o,s.heap.get? b=some o->JA.get? b=some o:=λb o e=>M.extBut b o (λq=>by rw[q,E] at e;exact nomatch e) (hk b o e)
 exact⟨⟨JA,tk,rfl,i⟩,⟨D,vs,n',rfl,M.extBut _ _ B gD,V⟩,λZ a e=>by cases e;exact hD⟩
theorem Xf{i:Oa}{o d:Value}(h:∀a b c p,i≠.Slice a b c p):Gr i false o d=iq [o,d] (Fh o d):=by
 cases i <;> first|rfl|exact absurd rfl (h _ _ _ _)
theorem JP{n:Nat}{sc:List (xa×ub)}{σ:List (xa×P)}(e:Oa)(p:xd):ev G.gv fn n sc σ (.Starred e p)=none:=by
 cases n <;> rfl
theorem gM{n:Nat}{sc:List (xa×ub)}{σ:List (xa×P)}(a b c:Option Oa)(p:xd):ev G.gv fn n sc σ (.Slice a b c p)=none:=by
 cases n <;> rfl
set_option tactic.hygienic true
theorem JU{o:Option Rs}(h:Rs.FW o):∃i fr c,o=some ⟨.int i,fr,c⟩/\Rs.int? o=i/\c:=by
 unfold Rs.FW at h
 split at h
 ·rename_i i fr c;exact⟨i,fr,c,rfl,rfl,h⟩
 ·exact h.elim
set_option tactic.hygienic false
theorem Zq{env:Be}{it:Oa}(f:Oa->Option Rs){c:Bool}{y:List Int×Prop}(h:aE c f it=some y)(b:∀a k p,f (.Set a k p)=none)(y:Value):ae it env y=pure y:=by
 have d:∀a k p,it≠.Set a k p:=by
  rintro a k p rfl
  exact(qs _ h).elim (λq=>q.2.elim λZ q=>q.elim λZ q=>q.elim λZ q=>nomatch q.1) λq=>q.elim λfr e=>nomatch (b ..).symm.trans e
 cases it <;> first|rfl|exact absurd rfl (d _ _ _)
theorem hM{n:Nat}{sc:List (xa×ub)}{σ:List (xa×P)}(a:List Oa)(k:Nat)(p:xd):ev G.gv fn n sc σ (.Set a k p)=none:=by
 cases n <;> rfl
end
section
variable{prog:wa}{w:ja}{A:ua}{N:Nat}{G:Gl}{fn:xa->List P->Option Rs}
section
variable{env:Be}{s:aa}{sc:List (xa×ub)}{σ:List (xa×P)}{f:Oa->Option Rs}
noncomputable def EV(prog:wa)(w:ja)(A:ua)(env:Be)(s:aa)(e:Oa)(y:Rs):Prop:=y.c->wpAny (ka prog w) A (eval e env) (df s y.p y.fr) Jc s
theorem CV{c:Const}{k:Nat}{p:xd}:OK (evK c) (EV prog w A env s (.Constant c k p)):=by
 cases c with
 |int i=>exact OK.some λZ=>Rb (df.int _ _)
 |none=>exact OK.some λZ=>Xi df.none
 |bool b=>exact OK.some λZ=>wpAny_Constant_bool (df.bool _)
 |_=>exact OK.none
theorem BV(r:RE G env σ s)(so:Ui sc env){x:xa}{px:xd}:OK (evN G.gv sc σ x) (EV prog w A env s (.Name x px)):=
 OK.bin λa=>OK.elim (λp e=>OK.some λZ=>ej r a e λv hv=>⟨.Ce,hv,λq=>nomatch q⟩)
  (OK.bif λb=>OK.bind λp e=>OK.some λZ=>(G.gok x p e).elim λv q=>sg r (so.glob x (Zu b)) q.1 (Tg a).1 ⟨.Ce,q.2 _,λq=>nomatch q⟩)
theorem xV(S:Sound prog w A env f s){op:UnaryOp}{x:Oa}{p:xd}:OK (evU op (f x)) (EV prog w A env s (.UnaryOp op x p)):=by
 cases op with
 |USub=>exact OK.bind λx e=>OK.bind λi Z=>OK.some λhc=>wpAny_UnaryOp (S.go .Ce e hc λv a h=>(vInt i.2 h.val).elim λt q=>q▸Tv (df.after h.keeps (df.int _ _)))
 |_=>exact OK.none
theorem HV(S:Sound prog w A env f s){l r:Oa}{op:Im}{p:xd}:OK (evB f l op r) (EV prog w A env s (.BinOp l op r p)):=
 OK.bind λa j=>OK.bind λb i=>OK.bind λx h=>OK.some λhc=>Mf (S.go .Ce j hc.1.1 λv g d=>S.go d.keeps i hc.1.2 λu e c=>
  ah (eA h hc.2 (c.keeps.vr d.val) c.val) (λZ Z q=>q.after (d.keeps.trans' c.keeps)))
theorem GV(g:GA N A)(S:Sound prog w A env f s){t b o:Oa}{p:xd}:OK (evF f t b o) (EV prog w A env s (.IfExp t b o p)):=
 OK.bind λk u=>OK.bind λx r=>OK.bind λy n=>OK.bind λi m=>OK.some λhc=>wpAny_IfExp (Lb (Uy S g _ u hc.1 _) (λz j h=>by
  obtain ⟨k,c⟩:=k
  obtain ⟨rfl,d⟩:=h
  have l:=SS i m
  cases z with
  |true=>exact S.go d r (hc.2.1 rfl) λv e a=>⟨d.trans' a.keeps,l.symm▸a.val,λq=>(a.after d).fresh (Bool.and_eq_true_iff.mp q).1⟩
  |false=>exact S.go d n (hc.2.2 rfl) λv e a=>⟨d.trans' a.keeps,l.symm▸a.val,λq=>(a.after d).fresh (Bool.and_eq_true_iff.mp q).2⟩) λZ Z q=>q)
theorem MP(S:Sound prog w A env f s){es:List Oa}{p:xd}:OK ((HI f es).bind λ|(ps,c)=>(Gy ps).bind λis=>some ⟨.il is,true,c/\is.length<=2 ^ 24⟩) (EV prog w A env s (.List es p)):=
 OK.bind λq e=>OK.bind λis d=>OK.some λhc=>fq (ah ((Vy S p q e).2 hc.1) (λvs b a=>have hi:=gx is d vs a.2;⟨by rw[hi.length];exact hc.2,df.after a.1 (df.list hi _ rfl)⟩))
theorem xJ{vs:List Value}{a:List Int}(hI:IntsAre vs a)(h:a.length<=2 ^ 24):vs.toArray.size<=Kb:=by
 rw[Ye,hI.length];exact Ja h (by decide)
theorem OF(S:Sound prog w A env f s){x:Option Oa}:OK (RP f x) λy=>y.2->∀s',Kp s s'->wpAny (ka prog w) A (evalPart x env) (λu Ng=>l6 u y.1/\Kp s' Ng) Jc s':=by
 cases x with
 |none=>exact OK.some λZ s' k=>pa ⟨.none,.Ce⟩
 |some x=>exact OK.bind λr e=>OK.bind λi Z=>OK.some λhc s' k=>S.go k e hc λv a h=>(vInt i.2 h.val).elim λt q=>⟨q▸.int _ _,h.keeps⟩
theorem AS{a:List Int}{c:Prop}{lo hi:Option Int}{e d:Prop}:OK (P9 a c lo hi e d) λy=>y.fr=true/\(y.c->(c/\(lo.isSome=true->e)/\(hi.isSome=true->d))/\a.length<=2 ^ 24/\∃ns,y.p=.il ns/\∀vs,IntsAre vs a->IntsAre (iI vs.toArray lo hi none).toList ns):=by
 have b:∀{p:Prop},(none:Option Int).isSome=true->p:=λq=>nomatch q
 cases lo <;> cases hi
 ·exact OK.none
 ·exact OK.some ⟨rfl,λh=>⟨⟨h.1.1,b,λZ=>h.1.2⟩,h.2.2,_,rfl,λvs hI=>slice_ints_uptoW hI h.2.1⟩⟩
 ·exact OK.some ⟨rfl,λh=>⟨⟨h.1.1,λZ=>h.1.2,b⟩,h.2.2.2,_,rfl,λvs hI=>slice_ints_from hI h.2.1 h.2.2.1⟩⟩
 ·exact OK.some ⟨rfl,λh=>⟨⟨h.1.1,λZ=>h.1.2.1,λZ=>h.1.2.2⟩,h.2.2.2.2,_,rfl,λvs hI=>slice_ints hI h.2.1 h.2.2.1 h.2.2.2.1⟩⟩
theorem ux{x:Option Oa}:OK (RP f x) λy=>(y.1.isSome=true->y.2)->y.2:=by
 cases x with
 |none=>exact OK.some λZ=>trivial
 |some x=>exact OK.bind λr e=>OK.bind λi Z=>OK.some λh=>h rfl
theorem LP(S:Sound prog w A env f s){n:xa}{t:xd}{r:Rs}{a:List Int}(e:f (.Name n t)=some r)(G:r.p=.il a){p pos:xd}{lo hi:Option Oa}:OK (X3 f a r.c lo hi) (EV prog w A env s (.Subscript (.Name n t) (.Slice lo hi none p) pos)):=
 OK.bind λx v=>OK.bind λy u=>λz H hc=>by
  have q:=AS z H
  refine Nc λj=>?_;obtain ⟨⟨E,D,C⟩,hz,ns,ep,i⟩:=q.2 hc;refine j ?_
  refine wpAny_Subscript_list_slice (S.go .Ce e E λo g h=>?_)
  refine ah (OF S x v (ux x v D) g h.keeps) (λJ d b=>?_)
  refine ah (OF S y u (ux y u C) d (h.keeps.trans' b.2)) (λI k xg=>?_)
  refine Nc λj=>?_;obtain ⟨l,vs,m,rfl,B,hI⟩:=K6 G h.val;refine j ?_
  refine⟨l,vs.toArray,x.1,y.1,rfl,wN (xg.2.get (b.2.get B)),xJ hI hz,b.1,xg.1,?_⟩
  rw[ep,q.1]
  exact WC (l:=l) (n:=m) (a:=a) (h.keeps.trans' (b.2.trans' xg.2)) (i vs hI)
theorem jK{p q:P}:OK (YQ p q) λx=>∃a k,p=.il a/\q=.int k/\x=⟨.int (Qe a k),true,-(a.length:Int)<=k/\k < a.length/\a.length<=2 ^ 24⟩:=OK.bind λa Z=>OK.bind λk Z=>OK.some ⟨a.1,k.1,a.2,k.2,rfl⟩
theorem NP(S:Sound prog w A env f s)(h:∀a b c p,f (.Slice a b c p)=none){v i:Oa}{pos:xd}{r:Rs}(e:f v=some r):OK (Y3 f r.p r.c i) (EV prog w A env s (.Subscript v i pos)):=
 OK.bind λq n=>OK.bind λx E=>OK.some λhc=>by
  refine Nc λj=>?_;obtain ⟨a,k,D,C,rfl⟩:=jK x E;refine j ?_
  refine Hh (S.go .Ce e hc.1.1 λo z g=>S.go g.keeps n hc.1.2 λu y d=>?_)
  refine Nc λj=>?_;obtain ⟨l,vs,m,rfl,B,hI⟩:=K6 D g.val
  obtain ⟨t,rfl⟩:=vInt C d.val;refine j ?_
  exact ah (LU (d.keeps.get B) hI hc.2.1 hc.2.2.1 hc.2.2.2 (Xf λa b c p q=>by rw[q,h] at n;exact nomatch n)) (λZ Z q=>q.after (g.keeps.trans' d.keeps))
theorem zV(S:Sound prog w A env f s)(d:∀a b c p,f (.Slice a b c p)=none){v i:Oa}{pos:xd}:OK (evS f v i) (EV prog w A env s (.Subscript v i pos)):=OK.bind λn Z=>by
 refine Nc λg=>?_;obtain ⟨n,px,rfl⟩:=n;refine g ?_
 exact OK.bind λp e=>OK.elim (λx Z=>OK.bind λa Z=>x.2.elim λps q=>q▸LP S e a.2) (NP S d e)
theorem call_one(S:Sound prog w A env f s)(r:RE G env σ s){x:xa}{v:Value}{j pos:xd}{args:List Oa}{y:List P×Prop}{p:P}{a:List Int}{Q:Value->aa->Prop}(o:env.kindOf x=some .globalImplicit)(hg:G.mg x=none)(hv:Zg x=some v)
  (hm:x≠"__name__") (hd:(x==("__debug__":xa))=false) (g:(∃i,v=.builtin i)\/∃i,v=.type i) (e:HI f args=some y) (ep:y.1=[p]) (q:p=.il a) (hc:y.2)
  (h:∀c l ws m,Kp s c->c.heap.get? l=some (Wa ws m)->IntsAre ws a->wpAny (ka prog w) A (call v [.ref l]) Q Jc c):wpAny (ka prog w) A (eval (.Call (.Name x j) args [] pos) env) Q Jc s:=by
 cases args with
 |nil=>obtain rfl:=va e;exact nomatch ep
 |cons b bs=>
  refine AR S r o hg hv hm hd g e hc λvs c d hv=>?_
  obtain ⟨u,rfl,k⟩:=Zp.one (ep▸hv)
  obtain ⟨l,ws,m,rfl,n,hI⟩:=K6 q k
  exact h c l ws m d n hI
theorem UM(g:GA N A)(S:Sound prog w A env f s)(r:RE G env σ s){x:xa}{n pos:xd}{args:List Oa}(j:env.kindOf x=some .globalImplicit){y:List P×Prop}(k:HI f args=some y)(hc:y.2):
  OK (CR x y.1) λrs=>rs.c->wpAny (ka prog w) A (eval (.Call (.Name x n) args [] pos) env) (df s rs.p rs.fr) Jc s:=
 OK.bind λp Z=>OK.bind λa Z=>OK.t9 (λhf=>OK.some λhr=>by
   obtain rfl:=eq_of_beq hf
   refine call_one S r j (G.free _ (.head _)) boot_len (by decide) (by decide) (.inl ⟨_,rfl⟩) k p.2 a.2 hc λe l ws m d i hI=>?_
   refine Calls.call_len_list (wN i) (by have:=xJ hI hr;unfold Kb at this;lia) ?_
   rw[Ye,hI.length]
   exact df.after d (df.int _ _))
  λZ=>OK.t9 (λhf=>OK.some λhr=>by
   obtain rfl:=eq_of_beq hf
   exact call_one S r j (G.free _ (.tail _ (.tail _ (.head _)))) boot_list (by decide) (by decide) (.inr ⟨_,rfl⟩) k p.2 a.2 hc λe l ws m d i hI=>PySem.call_list_seq l (.inl rfl) i rfl rfl (λh' c' h o=>
    df.after d ⟨⟨h',e.toks,rfl,h⟩,⟨_,ws,c',rfl,o,hI⟩,λZ b q=>ff q▸Qb⟩) (xJ hI hr))
  λZ=>OK.bif λhf=>OK.some λhr=>by
   obtain rfl:=eq_of_beq hf
   exact call_one S r j (G.free _ (.tail _ (.tail _ (.tail _ (.head _))))) boot_max (by decide) (by decide) (.inl ⟨_,rfl⟩) k p.2 a.2 hc λe l ws m d i hI=>rA g.hd i hI hr λh' tk t h=>
    df.after d ⟨⟨h',tk,rfl,h⟩,⟨t,rfl⟩,λZ b q=>nomatch q⟩
theorem AV(g:GA N A)(S:Sound prog w A env f s)(r:RE G env σ s)(so:Ui sc env)(F:zk prog w N fn σ s){x:xa}{m pos:xd}{args:List Oa}:OK (e9 f fn sc σ x args) (EV prog w A env s (.Call (.Name x m) args [] pos)):=
 OK.bin λn=>OK.bind λy k=>OK.elim (λp j=>OK.bind λa Z=>OK.bin λz=>OK.bind λq i=>OK.some λhc=>by
   obtain ⟨a,rfl⟩:=a
   cases args with
   |nil=>exact nomatch z
   |cons b bs=>
    refine VW (ej r n j λv hv=>?_)
    obtain rfl:v=.ref a:=hv
    refine Nc λu=>?_;obtain ⟨o,fd,h,hd⟩:=F.func x a j;refine u ?_
    have d:=Vy S pos y k
    unfold dW at d
    refine(q9 k).elim λB l=>?_
    rw[Lh S l.1,ik] at d ⊢
    refine callWith_function (o:=o) (fd:=fd) (IC (ah (d.2 hc.1) (λvs e c=>?_)))
    exact⟨⟨c.1.get h,hd⟩,ah (F.call x a y.1 q j i hc.2 A e vs g c.1 c.2) (λZ Z q=>q.after c.1)⟩)
  (OK.bif λt=>OK.bind λq i=>OK.some λhc=>UM g S r (so.glob x (Zu t)) k hc.1 q i hc.2)
theorem QP(g:GA N A)(S:Sound prog w A env f s)(r:RE G env σ s)(so:Ui sc env)(F:zk prog w N fn σ s){e:Oa}:OK ((o9 e).bind λ|⟨(x,args),_⟩=>e9 f fn sc σ x args) (EV prog w A env s e):=
 OK.bind λx Z y h hc=>x.2.elim λa q=>q.elim λpos q=>by rw[q];exact AV g S r so F y h hc
theorem OP(g:GA N A)(S:Sound prog w A env f s){e:Oa}:OK ((OW f e).bind λ|(b,c)=>some ⟨.bool b,true,c⟩) (EV prog w A env s e):=OK.bind λb a=>OK.some λhc=>(Wy S g b a).1 hc
theorem oS{o:Option (Bool×Prop)}(h:RX o):∃c,o=some (fO o,c)/\c:=by
 cases o with
 |none=>exact h.elim
 |some x=>exact⟨x.2,rfl,h⟩
end
noncomputable def DR(prog:wa)(w:ja)(A:ua)(H:Int->Oa->Option Rs)(b:List Oa)(tst:Int->Bool)(v:Int):Prop:=∀a s',Sound prog w A a (H v) s'->
 wpAny (ka prog w) A (forIn b true λc r=>if r=true then do let ok <- isTrue c a (eval c a);pure (uc ok) else pure (uc r)) (λok Ng=>ok=tst v/\Kp s' Ng) Jc s'
theorem QL(g:GA N A){f:Oa->Option Rs}{H:Int->Oa->Option Rs}{sc:List (xa×ub)}{σ:List (xa×P)}{env:Be}{s:aa}(S:Sound prog w A env f s)(r:RE G env σ s)(so:Ui sc env){x:xa}{px pos:xd}{b it:Oa}{e:List Oa}{scope:me}{y:List Int×Prop}
  (m:∀C s' v,Kp s s'->RE G (qd scope (xe env.cells scope.names []) C env) ((x,.int v)::freeOf scope σ) s'->Sound prog w A (qd scope (xe env.cells scope.names []) C env) (H v) s') (l:jh sc scope=true) (o:scope.names.lookup x=some .local)
  (n:aE (zh sc) f it=some y) (h:∀a k p,f (.Set a k p)=none) (hc:y.2) (hz:y.1.length<=2 ^ 24) (tst:Int->Bool) (d:∀v∈y.1,DR prog w A H e tst v)
  (hv:∀v∈y.1,tst v=true->Rs.FW (H v b)):wpAny (ka prog w) A (eval (.ListComp b [⟨.Name x px,it,e,0⟩] scope pos) env) (df s (.il ((y.1.filter tst).map λv=>Rs.int? (H v b))) true) Jc s:=
 cQ g r so l o S n hc hz tst (λv=>Rs.int? (H v b)) (λC s' v hm k j=>d v hm _ s' (m C s' v k j))
  (λC s' v hm ht k j=>(JU (hv v hm ht)).elim λi q=>q.elim λfr q=>q.elim λc q=>(m C s' v k j).go .Ce q.1 q.2.2 λy Ng h'=>⟨q.2.1.symm▸h'.val,h'.keeps⟩) λy=>Zq f n h y
theorem ZU(g:GA N A){H:Int->Oa->Option Rs}{b:Oa}{xs:List Int}{c:Prop}{a:List Oa}:OK (gnR H b xs c a) λrs=>rs.c->c/\xs.length<=2 ^ 24/\∃tst,(∀v∈xs,DR prog w A H a tst v)/\(∀v∈xs,tst v=true->Rs.FW (H v b)) /\
  rs.fr=true/\rs.p=.il ((xs.filter tst).map λv=>Rs.int? (H v b)):=by
 cases a with
 |nil=>exact OK.some λhc=>⟨hc.1,hc.2.1,λZ=>true,λZ Z Z Z Z=>pa ⟨rfl,.Ce⟩,λv hv Z=>hc.2.2 v hv,rfl,by rw[List.filter_eq_self.mpr λZ Z=>rfl]⟩
 |cons t h=>
  refine OK.bif λe=>OK.some λhc=>⟨hc.1,hc.2.1,λv=>fO (GI (H v) t),λv hv d s' f=>?_,λv hv=>(hc.2.2 v hv).2,rfl,rfl⟩
  rw[List.isEmpty_iff.mp e,de,if_pos rfl]
  exact(oS (hc.2.2 v hv).1).elim λc q=>zb (zb (Lb (Uy f g _ q.1 q.2 _) (λok Ng h'=>pa (pa h')) λZ Z q=>q))
theorem FV(g:GA N A){f:Oa->Option Rs}{h:List (xa×ub)->List (xa×P)->Oa->Option Rs}{sc:List (xa×ub)}{σ:List (xa×P)}{env:Be}{s:aa}(S:Sound prog w A env f s)(r:RE G env σ s)(so:Ui sc env)(F:zk prog w N fn σ s)
  (b:∀a k p,f (.Set a k p)=none) (j:∀sc σ env s,RE G env σ s->Ui sc env->zk prog w N fn σ s->Sound prog w A env (h sc σ) s)
  {c:Oa} {gs:List qj} {scope:me} {pos:xd}:OK (evG f h sc σ c gs scope) (EV prog w A env s (.ListComp c gs scope pos)):=OK.bind λy Z=>OK.bif λd=>OK.bind λxs m rs l hc=>y.2.elim λpx q=>by
 have d:=Bool.and_eq_true_iff.mp d
 have e:=ZU (prog:=prog) (w:=w) g rs l hc
 refine e.2.2.elim λtst z=>?_
 rw[q,z.2.2.1,z.2.2.2]
 exact QL (px:=px) g S r so (λC s' v k i=>j scope.names _ _ s' i (dB (ue.of d.1)) ((F.kp k).sub)) d.1 (RG d.2) m b e.1 e.2.1 tst z.1 z.2.1
theorem Ml(g:GA N A):∀(n:Nat) (sc:List (xa×ub)) (σ:List (xa×P)) (env:Be) (s:aa),RE G env σ s->Ui sc env->zk prog w N fn σ s->Sound prog w A env (ev G.gv fn n sc σ) s
 |0,_,_,_,_,_,_,_=>⟨λe r s' Z h=>(nomatch h),λe p=>rfl⟩
 |n+1,sc,σ,env,s,r,so,F=>by
  refine⟨λe rs m j h hc=>?_,λe p=>JP e p⟩
  have a:=r.kp j
  have d:=F.kp j
  have S:=Ml g n sc σ env m a so d
  cases e with
  |Constant c k p=>exact CV _ h hc
  |Name x p=>exact BV a so _ h hc
  |UnaryOp op x p=>exact xV S _ h hc
  |BinOp l op r p=>exact HV S _ h hc
  |Compare l o r p=>exact OP g S _ h hc
  |IfExp t b o p=>exact GV g S _ h hc
  |List es p=>exact MP S _ h hc
  |Subscript v i p=>exact zV S gM _ h hc
  |Call f args u p=>exact QP g S a so d _ h hc
  |ListComp q gs scope p=>exact FV g S a so d hM (Ml g n) _ h hc
  |_=>exact nomatch h
end
structure St(G:Gl)(env:Be)(rd:List xa)(σ:List (xa×P))(adr:xa->la)(s₀:aa)(K:la->Sa->Prop)(s:aa):Prop where
 kind:env.scope.kind=.function
 eg:env.globals=jd
 eb:env.builtins=Hc
 g0:GS G s₀.heap
 sh:∃h tk,s={s₀ with heap:=h,toks:=tk}
 k0:∀b o,s₀.heap.get? b=some o->K b o
 ks:∀b o,K b o->s.heap.get? b=some o
 ns:∃m,s.heap.Ns env.locals m
 nl:∀o,¬K env.locals o
 ce:∀x c,env.cells.lookup x=some c->∃v,s.heap.IsCell c v
 nc:∀x c,env.cells.lookup x=some c->env.kindOf x=some .cell->∀o,¬K c o
 inj:∀x y c,env.cells.lookup x=some c->env.cells.lookup y=some c->x=y
 cells:∀x,(env.kindOf x=some .cell\/env.kindOf x=some .free)->(env.cells.lookup x).isSome=true
 look:∀x p,σ.lookup x=some p->∃v,Look env s.heap x v/\VR s.heap p v/\∀ns,p=.il ns->v=.ref (adr x)
 new:∀x ns,σ.lookup x=some (.il ns)->x∉rd->∀o,¬K (adr x) o
 apart:∀x y ns ms,x≠y->σ.lookup x=some (.il ns)->σ.lookup y=some (.il ms)->adr x≠adr y
section
variable{prog:wa}{w:ja}{A:ua}{N:Nat}{G:Gl}{env:Be}{rd:List xa}{σ τ:List (xa×P)}{adr:xa->la}{s₀ s s':aa}{K:la->Sa->Prop}
theorem St.kp(x:St G env rd σ adr s₀ K s):Kp s₀ s:=x.sh.elim λh y=>y.elim λt e=>⟨h,t,e,λb o q=>by have:=x.ks b o (x.k0 b o q);rw[e] at this;exact this⟩
theorem St.re(x:St G env rd σ adr s₀ K s):RE G env σ s:=
 ⟨x.kind,x.eg,x.eb,x.g0.keeps λZ Z e=>x.kp.get e,λy p e=>(x.look y p e).elim λv y=>⟨v,y.1,y.2.1⟩,x.cells⟩
theorem St.step(x:St G env rd σ adr s₀ K s)(k:Kp s s'):St G env rd σ adr s₀ K s':=
 {x with
  sh:=(by obtain ⟨h,t,rfl⟩:=x.sh;obtain ⟨h',t',rfl,_⟩:=k;exact⟨h',t',rfl⟩)
  ks:=λb o q=>k.get (x.ks b o q)
  ns:=x.ns.elim λm n=>⟨m,n.keeps λZ Z e=>k.get e⟩
  ce:=λy c e=>(x.ce y c e).elim λv i=>⟨v,i.keeps λZ Z e=>k.get e⟩
  look:=λy p e=>(x.look y p e).elim λv y=>⟨v,y.1.keeps λZ Z e=>k.get e,k.vr y.2.1,y.2.2⟩}
theorem St.sub(x:St G env rd σ adr s₀ K s)(h:∀y p,τ.lookup y=some p->σ.lookup y=some p):St G env rd τ adr s₀ K s:=
 {x with
  look:=λy p e=>x.look y p (h y p e)
  new:=λy ns e=>x.new y ns (h y _ e)
  apart:=λy z ns ms n e a=>x.apart y z ns ms n (h _ _ e) (h _ _ a)}
theorem qy{h:Na}{a c:la}{m:xa->Option Value}{v:Option Value}(n:h.Ns a m)(i:h.IsCell c v):a≠c:=by
 rintro rfl
 obtain ⟨o,es,ep,e,d,_⟩:=n
 obtain ⟨o',b,f⟩:=i
 rw[e] at b;cases b
 rw[d] at f;cases f
theorem tF{h:Na}{a l:la}{m:xa->Option Value}{vs:List Value}{n:Nat}(x:h.Ns a m)(b:h.get? l=some (Wa vs n)):a≠l:=by
 rintro rfl
 obtain ⟨o,es,ep,e,d,_⟩:=x
 rw[e] at b;cases b
 cases d
theorem Bx{h:Na}{c l:la}{v:Option Value}{vs:List Value}{n:Nat}(x:h.IsCell c v)(a:h.get? l=some (Wa vs n)):c≠l:=by
 rintro rfl
 obtain ⟨o,e,d⟩:=x
 rw[e] at a;cases a
 cases d
theorem HO{h:Na}{a:la}{m b:xa->Option Value}(x:h.Ns a m)(y:h.Ns a b):m=b:=by
 refine Nc λi=>?_;obtain ⟨o,es,ep,e,d,_,q⟩:=x
 obtain ⟨o',j,l,c,f,_,g⟩:=y;refine i ?_
 rw[e] at c;cases c
 rw[d] at f;cases f
 funext k
 rw[<- q,<- g]
theorem hJ{h h':Na}{c:la}{p:P}{v:Value}(x:VR h p v)(k:∀b o,b≠c->h.get? b=some o->h'.get? b=some o)(hc:∀l vs n,h.get? l=some (Wa vs n)->l≠c):VR h' p v:=by
 cases p with
 |il ns=>obtain ⟨a,vs,n,e,g,i⟩:=x;exact⟨a,vs,n,e,k _ _ (hc _ _ _ g) g,i⟩
 |_=>exact x
theorem Ge{y z:xa}{p q:P}{σ:List (xa×P)}(e:((y,p)::σ).lookup z=some q):z=y/\p=q\/z≠y/\σ.lookup z=some q:=by
 rw[Ca] at e
 cases hz:z==y with
 |true=>rw[hz] at e;exact .inl ⟨eq_of_beq hz,va e⟩
 |false=>rw[hz] at e;exact .inr ⟨λq=>(nomatch (beq_iff_eq.mpr q).symm.trans hz),e⟩
theorem St.slot(x:St G env rd σ adr s₀ K s){y:xa}{p:P}{v:Value}{a:la}(hv:VR s.heap p v)
  (r:∀ns,p=.il ns->v=.ref a/\(y∉rd->∀o,¬K a o)/\∀z ms,z≠y->σ.lookup z=some (.il ms)->a≠adr z) {c:la} {h':Na} {tk:Nat} (E:Ad c s.heap h') (B:∀o,¬K c o) (j:∀l vs n,s.heap.get? l=some (Wa vs n)->l≠c)
  (w:Look env h' y v) (t:∃m,h'.Ns env.locals m) (A:∀z d,env.cells.lookup z=some d->∃v,h'.IsCell d v) (h:∀z u,z≠y->Look env s.heap z u->Look env h' z u):
  St G env rd ((y,p)::σ) (λz=>if z=y then a else adr z) s₀ K {s with heap:=h',toks:=tk}:=
 have k:∀b o,b≠c->s.heap.get? b=some o->h'.get? b=some o:=λb o hb e=>E.extBut b o hb e
 {x with
  sh:=x.sh.elim λh0 q=>q.elim λH q=>⟨h',tk,q▸rfl⟩
  ks:=λb o e=>k b o (λq=>B o (q▸e)) (x.ks b o e)
  ns:=t
  ce:=A
  look:=λz q e=>(Ge e).elim (λd=>by
    rw[d.1,<- d.2]
    exact⟨v,w,hJ hv k j,λns hp=>(r ns hp).1.trans (congrArg _ (if_pos rfl).symm)⟩) λd=>(x.look z q d.2).imp λu f=>⟨h z u d.1 f.1,hJ f.2.1 k j,λns hp=>(f.2.2 ns hp).trans (congrArg _ (if_neg d.1).symm)⟩
  new:=λz ns e hr=>(Ge e).elim (λd=>by
    show∀o,¬K (if z=y then a else adr z) o
    rw[if_pos d.1]
    exact(r ns d.2).2.1 (d.1▸hr)) λd=>by
    show∀o,¬K (if z=y then a else adr z) o
    rw[if_neg d.1]
    exact x.new z ns d.2 hr
  apart:=λz f ns ms i e D=>by
   show(if z=y then a else adr z)≠(if f=y then a else adr f)
   refine(Ge e).elim (λd=>?_) λd=>(Ge D).elim (λg=>?_) λg=>?_
   ·have C:f≠y:=λq=>i (d.1.trans q.symm)
    rw[if_pos d.1,if_neg C]
    exact(r ns d.2).2.2 f ms C ((Ge D).elim (λg=>absurd g.1 C) λg=>g.2)
   ·rw[if_neg d.1,if_pos g.1]
    exact Hb ((r ms g.2).2.2 z ns d.1 d.2)
   ·rw[if_neg d.1,if_neg g.1]
    exact x.apart z f ns ms i d.2 g.2}
theorem St.bind(x:St G env rd σ adr s₀ K s){y:xa}{p:P}{v:Value}{a:la}(g:env.kindOf y=some .local\/env.kindOf y=some .cell)(hv:VR s.heap p v)
  (r:∀ns,p=.il ns->v=.ref a/\(y∉rd->∀o,¬K a o)/\∀z ms,z≠y->σ.lookup z=some (.il ms)->a≠adr z):
  wpAny (ka prog w) A (fI env y v) (λZ s'=>St G env rd ((y,p)::σ) (λz=>if z=y then a else adr z) s₀ K s') Jc s:=by
 refine x.ns.elim λm hm=>g.elim (λg=>?_) λg=>?_
 ·refine Ie g hm (λh' j f=>?_) (by rw[x.kind];rfl)
  exact x.slot hv r f x.nl (λl vs n e=>Hb (tF hm e)) (.inl ⟨g,_,j,if_pos rfl⟩) ⟨_,j⟩ (λz d e=>(x.ce z d e).imp λu i=>i.sameBut f (Hb (qy hm i))) λz u h k=>
   k.imp (λq=>⟨q.1,q.2.elim λC b=>⟨_,j,(if_neg h).trans (HO hm b.1▸b.2)⟩⟩) λq=>⟨q.1,q.2.imp λc b=>⟨b.1,b.2.sameBut f (Hb (qy hm b.2))⟩⟩
 ·refine(Option.isSome_iff_exists.mp (x.cells y (.inl g))).elim λc hc=>(x.ce y c hc).elim λD i0=>?_
  refine wpAny_storeName_cell x.kind g hc i0 λh' j f=>?_
  have t:env.locals≠c:=qy hm i0
  exact x.slot hv r f (x.nc y c hc g) (λl vs n e=>Hb (Bx i0 e)) (.inr ⟨.inl g,c,hc,j⟩) ⟨m,hm.sameBut f t⟩ (λz d e=>(dC d c).byCases (λq=>⟨_,q▸j⟩) λq=>(x.ce z d e).imp λu i=>i.sameBut f q) λz u h k=>
   k.imp (λq=>⟨q.1,q.2.imp λC b=>⟨b.1.sameBut f t,b.2⟩⟩) λq=>⟨q.1,q.2.imp λd b=>⟨b.1,b.2.sameBut f λB=>h (x.inj z y c (B▸b.1) hc)⟩⟩
theorem St.list(x:St G env rd σ adr s₀ K s){y:xa}{ns:List Int}(e:σ.lookup y=some (.il ns)):Look env s.heap y (.ref (adr y))/\∃vs m,s.heap.get? (adr y)=some (Wa vs m)/\IntsAre vs ns:=
 (x.look y _ e).elim λv a=>a.2.1.elim λl q=>q.elim λvs q=>q.elim λm q=>have z:=ff (q.1.symm.trans (a.2.2 ns rfl));⟨a.2.2 ns rfl▸a.1,vs,m,z▸q.2.1,q.2.2⟩
theorem St.apL(x:St G env rd σ adr s₀ K s){l:la}{vs:List Value}{n:Nat}(e:s.heap.get? l=some (Wa vs n)):env.locals≠l/\∀y c,env.cells.lookup y=some c->c≠l:=
 ⟨x.ns.elim λm hm=>tF hm e,λy c a=>(x.ce y c a).elim λu i=>Bx i e⟩
end
noncomputable def SP(G:Gl)(env:Be)(rd:List xa)(σ:List (xa×P))(adr:xa->la)(as:List xa)(s₀:aa)(K:la->Sa->Prop)(s:aa):Prop:=
 ∃a,(∀z,z∉as->a z=adr z)/\St G env rd σ a s₀ K s
section
variable{prog:wa}{w:ja}{A:ua}{N n:Nat}{G:Gl}{fn:xa->List P->Option Rs}{sc:List (xa×ub)}{env:Be}{rd as:List xa}{σ τ:List (xa×P)}{adr:xa->la}{s₀ s s':aa}
 {K K':la->Sa->Prop} {Q:Af->aa->Prop}
theorem SP.of(x:St G env rd σ adr s₀ K s):SP G env rd σ adr as s₀ K s:=⟨adr,λZ Z=>rfl,x⟩
theorem SP.sub(x:SP G env rd σ adr as s₀ K s)(h:∀y p,τ.lookup y=some p->σ.lookup y=some p):SP G env rd τ adr as s₀ K s:=x.elim λa x=>⟨a,x.1,x.2.sub h⟩
theorem St.weak(x:St G env rd σ adr s₀ K s)(h:∀b o,K' b o->K b o)(h0:∀b o,s₀.heap.get? b=some o->K' b o):St G env rd σ adr s₀ K' s:=
 {x with k0:=h0,ks:=λb o e=>x.ks b o (h b o e),nl:=λo e=>x.nl o (h _ _ e),nc:=λy c a b o e=>x.nc y c a b o (h _ _ e),new:=λy ns a b o e=>x.new y ns a b o (h _ _ e)}
set_option tactic.hygienic true
theorem He{st:cb}{rest:List cb}{R:aa->Prop}(h:wpAny (ka prog w) A (ig st env) (λf s'=>f=.next/\R s') Jc s)(k:∀s',R s'->wpAny (ka prog w) A (Kc rest env) Q Jc s'):
  wpAny (ka prog w) A (Kc (st::rest) env) Q Jc s:=
 wpAny_execs_cons (ah h (λf s' q=>by obtain ⟨rfl,q⟩:=q;exact k s' q))
set_option tactic.hygienic false
theorem Av{p:P}{fr:Bool}{v:Value}(x:St G env rd σ adr s₀ K s)(c:df s p fr v s')(f:∀ns,p=.il ns->fr=true)(y:xa):
  ∃a,∀ns,p=.il ns->v=.ref a/\(y∉rd->∀o,¬K a o)/\∀z ms,z≠y->σ.lookup z=some (.il ms)->a≠adr z:=by
 cases p with
 |il ns=>exact c.val.elim λa q=>q.elim λvs q=>q.elim λm q=>have g:=c.fresh (f ns rfl) a q.1
   ⟨a,λh Z=>⟨q.1,λZ o d=>(nomatch (x.ks a o d).symm.trans g),λz ms Z hz d=>(x.list hz).2.elim λws b=>b.elim λm b=>(nomatch ((congrArg s.heap.get? d).trans b.1).symm.trans g)⟩⟩
 |_=>exact⟨0,λns e=>nomatch e⟩
set_option tactic.hygienic true
theorem ie(g:GA N A)(so:Ui sc env)(F:zk prog w N fn σ s)(x:St G env rd σ adr s₀ K s){y:xa}{k pos:xd}{b:Oa}{r:Rs}(e:ev G.gv fn n sc σ b=some r)(hc:r.c)(l:y∈as)
  (o:env.kindOf y=some .local\/env.kindOf y=some .cell) (h:∀ns,r.p=.il ns->r.fr=true) (m:mi b (some (.Name y k)) pos.line env=pure false):
  wpAny (ka prog w) A (ig (.Assign [.Name y k] b pos) env) (λf s'=>f=.next/\SP G env rd ((y,r.p)::σ) adr as s₀ K s') Jc s:=by
 refine PySem.wpAny_Assign_Name ?_ m
 refine ah ((Ml g n sc σ env s x.re so F).ok b r s .Ce e hc) (λv j yb=>?_)
 refine(Av x yb h y).elim λa t=>?_
 refine ah ((x.step yb.keeps).bind o yb.val t) (λ_ i d=>⟨rfl,_,λz hz=>?_,d⟩)
 exact if_neg λ(q:z=y)=>hz (q▸l)
set_option tactic.hygienic false
theorem SJ(g:GA N A)(so:Ui sc env)(F:zk prog w N fn σ s)(x:St G env rd σ adr s₀ K s){pos:xd}{a:Oa}{r:Rs}(e:ev G.gv fn n sc σ a=some r)(hc:r.c)(h:∀v s',df s r.p r.fr v s'->Q (.ret v) s'):
  wpAny (ka prog w) A (ig (.Return (some a) pos) env) Q Jc s:=
 wpAny_Return_some (ah ((Ml g n sc σ env s x.re so F).ok a r s .Ce e hc) (λv b yb=>h v b yb))
theorem sL(g:GA N A)(so:Ui sc env)(F:zk prog w N fn σ s)(x:St G env rd σ adr s₀ K s){t:Oa}{body a:List cb}{pos:xd}{b:Bool}{c:Prop}(e:GI (ev G.gv fn n sc σ) t=some (b,c))(hc:c)
  (h:b=true->∀s',Kp s s'->St G env rd σ adr s₀ K s'->wpAny (ka prog w) A (Kc body env) Q Jc s') (f:b=false->∀s',Kp s s'->St G env rd σ adr s₀ K s'->wpAny (ka prog w) A (Kc a env) Q Jc s'):
  wpAny (ka prog w) A (ig (.If t body a pos) env) Q Jc s:=by
 refine W5 (ah (Uy (Ml g n sc σ env s x.re so F) g _ e hc _) (λb' d yb=>?_))
 obtain ⟨rfl,k⟩:=yb
 cases b' with
 |true=>exact h rfl d k (x.step k)
 |false=>exact f rfl d k (x.step k)
theorem je.obj{h:Na}{I:la}{L:Option la}{xs:List Int}(it:je h I L xs):∃o vs,h.get? I=some o/\o.data=.fields vs:=by
 cases it with
 |list l vs n i ns a b c d=>obtain ⟨o,e,_,hd⟩:=a;exact⟨o,_,e,hd⟩
 |range a b c d=>exact⟨_,_,d,rfl⟩
theorem Look.but{h h':Na}{x:xa}{v:Value}{I:la}(l:Look env h x v)(d:env.locals≠I)(f:∀y c,env.cells.lookup y=some c->c≠I)(k:∀b o,b≠I->h.get? b=some o->h'.get? b=some o):Look env h' x v:=
 l.imp (Rg (Mi λg=>oX λn'=>n'.at' λo e=>k _ o d e)) (Rg (Mi λc q=>⟨q.1,q.2.imp λo' a=>⟨k c o' (f _ c q.1) a.1,a.2⟩⟩))
theorem IQ{h h':Na}{p:P}{v:Value}{a I:la}(x:VR h p v)(e:∀ns,p=.il ns->v=.ref a)(d:∀ns,p=.il ns->a≠I)(k:∀b o,b≠I->h.get? b=some o->h'.get? b=some o):VR h' p v:=by
 cases p with
 |il ns=>exact x.elim λl q=>q.elim λvs q=>q.elim λc q=>⟨l,vs,c,q.1,k _ _ (ff ((e ns rfl).symm.trans q.1)▸d ns rfl) q.2.1,q.2.2⟩
 |_=>exact x
theorem St.jy(x:St G env rd σ adr s₀ K s){I:la}{h':Na}{tk:Nat}(d:env.locals≠I)(f:∀y c,env.cells.lookup y=some c->c≠I)(g:∀y ns,σ.lookup y=some (.il ns)->adr y≠I)(h:∀o,¬K I o)
  (k:∀b o,b≠I->s.heap.get? b=some o->h'.get? b=some o):St G env rd σ adr s₀ K {s with heap:=h',toks:=tk}:=
 {x with
  sh:=x.sh.elim λh0 q=>q.elim λj q=>⟨h',tk,q▸rfl⟩
  ks:=λb o e=>k b o (λq=>h o (q▸e)) (x.ks b o e)
  ns:=x.ns.imp λm hm=>hm.at' λo e=>k _ o d e
  ce:=λy c e=>(x.ce y c e).imp λv i=>i.imp λo' q=>⟨k c o' (f y c e) q.1,q.2⟩
  look:=λy p e=>(x.look y p e).imp λv a=>⟨a.1.but d f k,IQ a.2.1 a.2.2 (λns q=>g y ns (q▸e)) k,a.2.2⟩}
theorem St.P4(x:St G env rd σ adr s₀ K s){P:la->Sa->Prop}(g:∀b o,P b o->s.heap.get? b=some o)(ap:∀b o,P b o->env.locals≠b/\(∀y c,env.cells.lookup y=some c->c≠b)/\∀y ns,σ.lookup y=some (.il ns)->y∉rd->adr y≠b):
  St G env rd σ adr s₀ (λb a=>K b a\/P b a) s:=
 {x with
  k0:=λb a e=>.inl (x.k0 b a e)
  ks:=λb a q=>q.elim (x.ks b a) (g b a)
  nl:=λa q=>q.elim (x.nl a) λq=>(ap _ _ q).1 rfl
  nc:=λy c d f a q=>q.elim (x.nc y c d f a) λq=>(ap _ _ q).2.1 y c d rfl
  new:=λy ns d f a q=>q.elim (x.new y ns d f a) λq=>(ap _ _ q).2.2 y ns d f rfl}
theorem St.VB(x:St G env rd σ adr s₀ K s){C:la}{o:Sa}(d:s.heap.get? C=some o)(g:env.locals≠C)(h:∀y c,env.cells.lookup y=some c->c≠C)(f:∀y ns,σ.lookup y=some (.il ns)->adr y≠C):
  St G env rd σ adr s₀ (λb a=>K b a\/(b=C/\a=o)) s:=
 x.P4 (λb a q=>by rw[q.1,q.2];exact d) λb a q=>by rw[q.1];exact⟨g,h,λy ns e Z=>f y ns e⟩
theorem St.more(x:St G env rd σ adr s₀ K s){rd':List xa}(h:∀y∈rd,y∈rd'):St G env rd' σ adr s₀ K s:={x with new:=λy ns e q=>x.new y ns e λa=>q (h y a)}
theorem St.M4(x:St G env rd σ adr s₀ K s){I:la}{o:Sa}{vs:Array Value}(f:s.heap.get? I=some o)(hd:o.data=.fields vs):
  env.locals≠I/\(∀y c,env.cells.lookup y=some c->c≠I)/\∀y ns,σ.lookup y=some (.il ns)->adr y≠I:=by
 have d:∀{o':Sa} {a:la},s.heap.get? a=some o'->(∀vs,o'.data≠.fields vs)->a≠I:=λe n q=>n vs ((congrArg PR (va (f.symm.trans (q▸e)))).symm.trans hd)
 refine⟨x.ns.elim λm hm=>hm.elim λo' q=>q.elim λes q=>q.elim λep q=>d q.1 λvs b=>(nomatch q.2.1.symm.trans b),λy c e=>(x.ce y c e).elim λv i=>i.elim λo' q=>d q.1 λvs b=>(nomatch q.2.symm.trans b),λy ns e=>?_⟩
 exact(x.look y _ e).elim λv a=>a.2.1.elim λl q=>q.elim λws q=>q.elim λm q=>ff (q.1.symm.trans (a.2.2 ns rfl))▸d q.2.1 λvs b=>nomatch b
theorem St.other(x:St G env rd σ adr s₀ K s){I:la}{o:Sa}{vs:Array Value}{h':Na}{tk:Nat}(a:s.heap.get? I=some o)(hd:o.data=.fields vs)(c:∀o,¬K I o)(k:∀b o,b≠I->s.heap.get? b=some o->h'.get? b=some o):
  St G env rd σ adr s₀ K {s with heap:=h',toks:=tk}:=have ap:=x.M4 a hd;x.jy ap.1 ap.2.1 ap.2.2 c k
theorem JH{α:Type}{xs rest:List α}{i:Nat}{a:α}(h:xs.drop i=a::rest):xs[i]?=some a/\rest=xs.drop (i+1):=
 ⟨((PN).symm.trans (congrArg m5 h)),(congrArg i6 h).symm.trans xQ⟩
theorem pM{α:Type}{xs:List α}{i:Nat}(h:xs.drop i=[])(hi:i<=xs.length):i=xs.length:=Hg hi (List.drop_eq_nil_iff.mp h)
set_option tactic.hygienic true
theorem ZL(g:GA N A){v:xa}{pv:xd}{body:List cb}(hv:env.kindOf v=some .local\/env.kindOf v=some .cell)(Q:v∈as){σs:Nat->List (xa×P)}{xs:List Int}{I:la}{L:Option la}
  (ia:je s.heap I L xs) (hI:∀o,¬K I o) (hL:∀l,L=some l->∃o,K l o) (x0:SP G env rd (σs 0) adr as s₀ K s)
  (Gf:∀i a K' c s',xs[i]?=some a->(∀b o,K b o->K' b o)->(∀z,z∉as->c z=adr z)->St G env rd ((v,.int a)::σs i) c s₀ K' s'->
   wpAny (ka prog w) A (Kc body env) (λf Ng=>f=.next/\SP G env rd (σs (i+1)) c as s₀ K' Ng) Jc s')
  {R:Ob->aa->Prop} (hR:∀s',SP G env rd (σs xs.length) adr as s₀ K s'->R (.ok .next) s') (EI:env.scope.kind=.function):
  codeAny (ka prog w) A (.forLoop (.Name v pv) (.ref I) body [] env) R s:=by
 refine codeAny_forLoop (λk s'=>∃i,k=xs.length-i/\i<=xs.length/\je s'.heap I L (xs.drop i)/\SP G env rd (σs i) adr as s₀ K s') ?_ xs.length ⟨0,rfl,Zb _,ia,x0⟩
 rintro k s' ⟨i,rfl,hi,d,c,m,O⟩
 refine Nc λE=>?_;obtain ⟨oI,vI,B,D⟩:=d.obj;refine E ?_
 cases H:xs.drop i with
 |nil=>
  rw[H] at d
  refine je.done d g.hd λh' e=>Fd (hR _ ?_)
  rw[<- pM H hi]
  exact⟨c,m,O.other B D hI λb o hb V=>e b o hb V⟩
 |cons a rest=>
  rw[H] at d
  have hg:=JH H
  refine je.next d λh' t tk x sb=>?_
  have M:St G env rd (σs i) c s₀ K {s' with heap:=h',toks:=tk}:=O.other B D hI λb o hb V=>sb.extBut b o hb V
  refine Nc λE=>?_;obtain ⟨o2,v2,n,T⟩:=x.obj;refine E ?_
  have ap:=M.M4 n T
  have x3:=M.VB n ap.1 ap.2.1 ap.2.2
  refine Sb (Lb (x3.bind (p:=.int a) (a:=0) hv ⟨t,rfl⟩ (λns e=>nomatch e)) (λ_ u x4=>?_) λ_ _ q=>q.elim)
  have h:∀z,z∉as->(λz=>if z=v then 0 else c z) z=adr z:=λz hz=>(if_neg λ(q:z=v)=>hz (q▸Q)).trans (m z hz)
  refine Lb (Gf i a _ _ u hg.1 (λb o e=>.inl e) h x4) (λf Y y=>?_) λ_ _ q=>q.elim
  refine Nc λE=>?_;obtain ⟨rfl,r,j,J⟩:=y;refine E ?_
  have C:i < xs.length:=(List.getElem?_eq_some_iff.mp hg.1).1
  refine⟨xs.length-(i+1),mI C (Dd i),i+1,rfl,C,?_,r,λz hz=>(j z hz).trans (h z hz),J.weak (λb o e=>.inl e) O.k0⟩
  rw[<- hg.2]
  exact x.keeps λb o q e=>q.elim (λq=>J.ks b o (.inr ⟨q,va ((q▸e:h'.get? I=some o).symm.trans n)⟩)) λq=>(hL b q).elim λo0 h0=>va ((M.ks b o0 h0).symm.trans e)▸J.ks b o0 (.inl h0)
end
section
variable{prog:wa}{w:ja}{A:ua}{N n:Nat}{G:Gl}{fn:xa->List P->Option Rs}{sc:List (xa×ub)}{env:Be}{rd rd' as:List xa}{σ τ:List (xa×P)}{adr:xa->la}{s₀ s s':aa}
 {K K':la->Sa->Prop} {Q:Af->aa->Prop}
set_option tactic.hygienic false
noncomputable def hW(rd':List xa)(σ:List (xa×P))(adr:xa->la)(s:aa)(xs:List Int)(a:Value)(s':aa):Prop:=
 ∃I L,a=.ref I/\Kp s s'/\s.heap.get? I=none/\je s'.heap I L xs/\∀l,L=some l->∀y ns,y∉rd'->σ.lookup y=some (.il ns)->adr y≠l
theorem je.src{h:Na}{I:la}{L:Option la}{xs:List Int}(ia:je h I L xs):∀l,L=some l->∃vs m,h.get? l=some (Wa vs m):=by
 cases ia with
 |list c vs b j ns g a f d=>exact λl e=>⟨_,_,va e▸a⟩
 |range _ _ _ _=>exact λl e=>nomatch e
set_option tactic.hygienic true
theorem YL(g:GA N A)(x:St G env rd σ adr s₀ K s){v:xa}{pv pos:xd}{it:Oa}{body:List cb}(hv:env.kindOf v=some .local\/env.kindOf v=some .cell)(J:v∈as){σs:Nat->List (xa×P)}{xs:List Int}
  (Q:wpAny (ka prog w) A (eval it env) (λxv t=>wpAny (ka prog w) A (wh xv) (hW rd' σ adr s xs) Jc t) Jc s) (u:∀y,ae it env y=pure y)
  (M:∀y∈rd,y∈rd') (C:∀y∈rd',y∈rd\/(y∉as/\∃ns,σ.lookup y=some (.il ns))) (h0:∀y p,(σs 0).lookup y=some p->σ.lookup y=some p)
  (Gf:∀i a K' c s',xs[i]?=some a->(∀b o,K b o->K' b o)->(∀z,z∉as->c z=adr z)->St G env rd' ((v,.int a)::σs i) c s₀ K' s'->
   wpAny (ka prog w) A (Kc body env) (λf Ng=>f=.next/\SP G env rd' (σs (i+1)) c as s₀ K' Ng) Jc s'):
  wpAny (ka prog w) A (ig (.For (.Name v pv) it body [] pos) env) (λf s'=>f=.next/\SP G env rd (σs xs.length) adr as s₀ K s') Jc s:=by
 refine wpAny_For (ah Q (λxv t yb=>ah yb (λitv n B=>?_))) u
 refine Nc λhC=>?_;obtain ⟨I,L,rfl,k,Y,ia,V⟩:=B
 have x2:=x.step k
 obtain ⟨oI,vI,O,T⟩:=ia.obj;refine hC ?_
 have hI:∀o,¬K I o:=λo q=>by have:=x.ks I o q;rw[Y] at this;cases this
 have d:=ia.src
 let K1:la->Sa->Prop:=λb o=>K b o\/(L=some b/\n.heap.get? b=some o)
 have x3:St G env rd' σ adr s₀ K1 n:=(x2.more M).P4 (λb o q=>q.2) λb o q=>(d b q.1).elim λvs z=>z.elim λm' e=>
  have a:=x2.apL e;⟨a.1,a.2,λy ns e1 E=>V b q.1 y ns E e1⟩
 have C3:∀o,¬K1 I o:=λo q=>q.elim (hI o) λq=>(d _ q.1).elim λvs z=>z.elim λm' e=>nomatch (congrArg PR (va (O.symm.trans e))).symm.trans T
 refine ZL (K:=K1) g hv J ia C3 (λl e=>(d l e).elim λvs q=>q.elim λm q=>⟨_,.inr ⟨e,q⟩⟩) (SP.of (x3.sub h0)) (λi a K' c s' hx hk j D=>Gf i a K' c s' hx (λb o q=>hk b o (.inl q)) j D) ?_ x.kind (R:=λr s'=>match r with
  |.ok f=>f=.next/\SP G env rd (σs xs.length) adr as s₀ K s'|.error e=>cameBackBy (ka prog w) A env Jc e s')
 rintro s' ⟨c,j,D⟩
 refine⟨rfl,c,j,{D.weak (K':=K) (λb o q=>.inl q) x.k0 with new:=?_}⟩
 intro y ns e1 E o q
 by_cases hy:y∈rd'
 ·rcases C y hy with h|⟨h,H,e⟩
  ·exact E h
  ·rw[j y h] at q
   exact x.new y H e E o q
 ·exact D.new y ns e1 hy o (.inl q)
theorem fv(g:GA N A)(so:Ui sc env)(F:zk prog w N fn σ s)(x:St G env rd σ adr s₀ K s){v:xa}{L pos:xd}{it:Oa}{body:List cb}(hv:env.kindOf v=some .local\/env.kindOf v=some .cell)(B:v∈as)
  {σs:Nat->List (xa×P)} {xs:List Int} {c:Prop} (e:aE (zh sc) (ev G.gv fn n sc σ) it=some (xs,c)) (hc:c) (E:∀a fr c,ev G.gv fn n sc σ it=some ⟨.il a,fr,c⟩->fr=true)
  (h0:∀y p,(σs 0).lookup y=some p->σ.lookup y=some p)
  (Gf:∀i a K' j s',xs[i]?=some a->(∀b o,K b o->K' b o)->(∀z,z∉as->j z=adr z)->St G env rd ((v,.int a)::σs i) j s₀ K' s'->
   wpAny (ka prog w) A (Kc body env) (λf Ng=>f=.next/\SP G env rd (σs (i+1)) j as s₀ K' Ng) Jc s'):
  wpAny (ka prog w) A (ig (.For (.Name v L) it body [] pos) env) (λf s'=>f=.next/\SP G env rd (σs xs.length) adr as s₀ K s') Jc s:=by
 have S:=Ml g n sc σ env s x.re so F
 refine YL (rd':=rd) g x hv B ?_ (Zq (env:=env) (it:=it) (ev G.gv fn n sc σ) e (λa k p=>hM a k p)) (λy h=>h) (λy h=>.inl h) h0 Gf
 rcases qs _ e with ⟨q,np,args,pos,rfl,t⟩|⟨fr,t⟩
 ·
  refine ah (tx S x.re t hc (so.glob _ (eq_of_beq q))) (λY d yb=>ah yb (λM J r=>?_))
  obtain ⟨I,rfl,k,H,ia⟩:=r
  exact⟨I,none,rfl,k,H,ia,λl q=>nomatch q⟩
 ·refine ah (S.ok it _ s .Ce t hc) (λu d yb=>?_)
  obtain ⟨l,vs,m,rfl,D,hi⟩:=yb.val
  have O:=yb.fresh (E xs fr c t) l rfl
  refine Xg ⟨_,D,rfl,_,rfl⟩ ⟨d.heap.objs.size,some l,rfl,yb.keeps.trans' (.push _),Eb yb.keeps Qb,?_,?_⟩
  ·have:=je.list (h:=d.heap.push {cls:=.type "list_iterator",data:=.fields #[.ref l,.int 0 0]}) (I:=d.heap.objs.size) l vs m 0 xs ⟨_,ra _ rfl,rfl,rfl⟩ (fa _ D) hi (Va (Ba D))
   simpa using this
  ·intro l' Q y ns hy C q
   obtain rfl:=va Q
   obtain ⟨u,_,V,T⟩:=x.look y _ C
   obtain ⟨b,ws,m',rfl,hb,_⟩:=V
   have:=T ns rfl
   obtain rfl:=ff this
   rw[q,O] at hb;exact nomatch hb
theorem WL(g:GA N A)(x:St G env rd σ adr s₀ K s){v z:xa}{C pos B:xd}{body:List cb}(hv:env.kindOf v=some .local\/env.kindOf v=some .cell)(j:v∈as)(hz:Gd z=false)(d:z∉as)
  {σs:Nat->List (xa×P)} {xs:List Int} (e:σ.lookup z=some (.il xs)) (h0:∀y p,(σs 0).lookup y=some p->σ.lookup y=some p)
  (Gf:∀i a K' c s',xs[i]?=some a->(∀b o,K b o->K' b o)->(∀z,z∉as->c z=adr z)->St G env (z::rd) ((v,.int a)::σs i) c s₀ K' s'->
   wpAny (ka prog w) A (Kc body env) (λf Ng=>f=.next/\SP G env (z::rd) (σs (i+1)) c as s₀ K' Ng) Jc s'):
  wpAny (ka prog w) A (ig (.For (.Name v C) (.Name z B) body [] pos) env) (λf s'=>f=.next/\SP G env rd (σs xs.length) adr as s₀ K s') Jc s:=by
 refine YL (rd':=z::rd) g x hv j ?_ (λ_=>rfl) (λy h=>ya _ h) (λy h=>?_) h0 Gf
 ·refine Nc λt=>?_;obtain ⟨u,L,J,H⟩:=x.look z _ e;refine t ?_
  refine Md x.kind L (Tg hz).1 (Tg hz).2 ?_
  refine Nc λt=>?_;obtain ⟨l,vs,m,rfl,r,hi⟩:=J;refine t ?_
  have k:=H xs rfl
  obtain rfl:=ff k
  refine Xg ⟨_,r,rfl,_,rfl⟩ ⟨s.heap.objs.size,some (adr z),rfl,.push _,Qb,?_,?_⟩
  ·have:=je.list (h:=s.heap.push {cls:=.type "list_iterator",data:=.fields #[.ref (adr z),.int 0 0]}) (I:=s.heap.objs.size) (adr z) vs m 0 xs ⟨_,ra _ rfl,rfl,rfl⟩ (fa _ r) hi (Va (Ba r))
   simpa using this
  ·intro M E y ns D n
   obtain rfl:=va E
   exact x.apart y z ns xs (λq=>D (q▸za ..)) n e
 ·rcases List.mem_cons.mp h with rfl|h
  ·exact .inr ⟨d,xs,e⟩
  ·exact .inl h
end
section
variable{prog:wa}{w:ja}{A:ua}{N n:Nat}{G:Gl}{fn:xa->List P->Option Rs}{sc:List (xa×ub)}{env:Be}{rd rd' as:List xa}{σ τ:List (xa×P)}{adr:xa->la}{s₀ s s':aa}
 {K K':la->Sa->Prop} {Q:Af->aa->Prop}
set_option tactic.hygienic false
theorem St.mut(x:St G env rd σ adr s₀ K s){y:xa}{ns ms:List Int}{vs:List Value}{m:Nat}{h':Na}{tk:Nat}(e:σ.lookup y=some (.il ns))(t:y∉rd)(hg:h'.get? (adr y)=some (Wa vs m))(hi:IntsAre vs ms)
  (k:∀b o,b≠adr y->s.heap.get? b=some o->h'.get? b=some o):St G env rd ((y,.il ms)::σ) adr s₀ K {s with heap:=h',toks:=tk}:=by
 refine(x.list e).2.elim λws q=>q.elim λB q=>?_
 have ap:=x.apL q.1
 exact{x with
  sh:=x.sh.elim λh0 q=>q.elim λA q=>⟨h',tk,q▸rfl⟩
  ks:=λb o q=>k b o (λz=>x.new y ns e t o (z▸q)) (x.ks b o q)
  ns:=x.ns.imp λm hm=>hm.at' λo e=>k _ o ap.1 e
  ce:=λz c e=>(x.ce z c e).imp λv i=>i.imp λo' q=>⟨k c o' (ap.2 z c e) q.1,q.2⟩
  look:=λz p l=>(Ge l).elim (λd=>by
   rw[d.1,<- d.2]
   exact⟨_,(x.list e).1.but ap.1 ap.2 k,⟨adr y,vs,m,rfl,hg,hi⟩,λns h=>rfl⟩) λd=>(x.look z p d.2).imp λv a=>⟨a.1.but ap.1 ap.2 k,IQ a.2.1 a.2.2 (λj q=>x.apart z y j ns d.1 (q▸d.2) e) k,a.2.2⟩
  new:=λz ks l hr=>(Ge l).elim (λd=>d.1▸x.new y ns e t) λd=>x.new z ks d.2 hr
  apart:=λz n ks r g w u=>(Ge w).elim (λd=>(Ge u).elim (λf=>absurd (d.1.trans f.1.symm) g) λf=>d.1▸Hb (x.apart n y r ns f.1 f.2 e)) λd=>
   (Ge u).elim (λf=>f.1▸x.apart z y ks ns d.1 d.2 e) λf=>x.apart z n ks r g d.2 f.2}
theorem SP.trans{b:xa->la}(h:∀z,z∉as->b z=adr z)(x:SP G env rd σ b as s₀ K s):SP G env rd σ adr as s₀ K s:=
 x.elim λa x=>⟨a,λz hz=>(x.1 z hz).trans (h z hz),x.2⟩
theorem Hy{l b:la}{vs ws:List Value}{m i:Nat}{E:Value->aa->Prop}{R:Value->aa->Prop}(j:s.heap.get? l=some (Wa vs m))(hb:s.heap.get? b=some (Wa ws i))(n:vs.length+ws.length<=2 ^ 24)
  (h:R (.ref l) {s with heap:=s.heap.update l (Rd λx=>x++ws.toArray)}):wpAny (ka prog w) A (inplaceOp .Add (.ref l) (.ref b)) R E s:=by
 have g:s.TypeIs (.ref l) "list":=⟨_,j,rfl⟩
 have f:s.TypeIs (.ref b) "list":=⟨_,hb,rfl⟩
 have d:vc (.type "list") (dunderI "add")=pure (some (.builtin "list.__iadd__")):=PySem.F.slot_list_iadd.lookup
 have a:YW (some (.builtin "list.__iadd__"))=true:=by decide +kernel
 delta inplaceOp
 refine Ma ?_
 have e:ZW (.type "list") "add" (Operator.Add==.Add)=pure false:=by
  delta ZW
  show(vc (.type "list") (dunderI "add")>>=λk=>pure (k.isSome&&!YW k))=pure false
  rw[d]
  show(pure ((some (Rx "list.__iadd__")).isSome&&!YW (some (.builtin "list.__iadd__"))):Vb Bool)=_
  rw[a];rfl
 have c:seqSlot? (.type "list") (dunderI "add")=pure (some (.builtin "list.__iadd__")):=PySem.seqSlot_of PySem.F.slot_list_iadd.lookup (by decide +kernel)
 refine zb (rk g (zb (Aa e ?_)))
 show wpAny _ A (if false=true then _ else _) R E s
 rw[if_neg ng]
 refine zb (wpAny_binaryOp1_none (nm:="add") g f noFill_list_add ?_)
 refine zb (Aa c ?_)
 have z:vs.toArray.size<=Kb:=by simp[Kb];lia
 exact zb (eh (yC PySem.F.slot_list_iadd g entry_list_iadd' (PySem.F.args_list_iadd_2 _ _)
  (AutoSeq1.list___iadd___list_list_0 l vs.toArray m b ws.toArray i (by simp[Wh,Kb];lia) z (by simp[Kb];lia)) ⟨j,hb,h⟩))
end
theorem IsL.upd{h:Na}{l:la}{vs ws:List Value}{n:Nat}(x:h.get? l=some (Wa vs n))(f:Array Value->Array Value)(e:f vs.toArray=ws.toArray):
  ∃m,(h.update l (Rd f)).get? l=some (Wa ws m):=by
 have u:=IsL.update (x:=x) f
 rw[e] at u
 exact⟨_,u⟩
theorem bE{vs:List Value}{ns:List Int}(h:IntsAre vs ns):∀k:Nat,IntsAre (vs.eraseIdx k) (ns.eraseIdx k):=by
 induction h with
 |nil=>intro k;exact .nil
 |cons n t h a=>
  intro k
  cases k with
  |zero=>exact h
  |succ k=>exact .cons n t (a k)
theorem IJ{vs:List Value}{ns:List Int}(h:IntsAre vs ns)(v:Int)(u:jg):∀k:Nat,IntsAre (vs.set k (.int v u)) (ns.set k v):=by
 induction h with
 |nil=>intro k;exact .nil
 |cons n t h a=>
  intro k
  cases k with
  |zero=>exact .cons v u h
  |succ k=>exact .cons n t (a k)
section
variable{prog:wa}{w:ja}{A:ua}{N n:Nat}{G:Gl}{fn:xa->List P->Option Rs}{sc:List (xa×ub)}{env:Be}{rd rd' as:List xa}{σ τ:List (xa×P)}{adr:xa->la}{s₀ s s':aa}
 {K K':la->Sa->Prop} {Q:Af->aa->Prop}
set_option tactic.hygienic true
theorem RB(g:GA N A)(so:Ui sc env)(F:zk prog w N fn σ s)(x:St G env rd σ adr s₀ K s){y:xa}{I pos:xd}{h:Oa}{ns ms:List Int}{fr:Bool}{c:Prop}(r:σ.lookup y=some (.il ns))(hr:y∉rd)
  (M:Gd y=false) (e:ev G.gv fn n sc σ h=some ⟨.il ms,fr,c⟩) (hc:c) (Q:env.kindOf y=some .local\/env.kindOf y=some .cell) (u:ns.length+ms.length<=2 ^ 24):
  wpAny (ka prog w) A (ig (.AugAssign (.Name y I) .Add h pos) env) (λf s'=>f=.next/\SP G env rd ((y,.il (ns++ms))::σ) adr as s₀ K s') Jc s:=by
 refine(x.list r).elim λL _=>?_
 refine wpAny_AugAssign_Name (Zw x.kind L (Tg M).2 ?_)
 refine ah ((Ml g n sc σ env s x.re so F).ok h _ s .Ce e hc) (λv i yb=>?_)
 have D:=x.step yb.keeps
 refine Nc λT=>?_;obtain ⟨_,vs,m,k,hi⟩:=D.list r
 obtain ⟨b,ws,V,rfl,hb,C⟩:=yb.val;refine T ?_
 refine Hy k hb (by rw[hi.length,C.length];exact u) ?_
 refine(IsL.upd (ws:=vs++ws) k (λx=>x++ws.toArray) (by simp)).elim λJ l=>?_
 have H:=D.mut (tk:=i.toks) r hr l (hi.append C) λb o hb e=>by rw[Ea _ _ (Hb hb)];exact e
 refine ah (H.bind (y:=y) (p:=.il (ns++ms)) (v:=.ref (adr y)) (a:=adr y) Q ?_ ?_) (λ_ E j=>⟨rfl,_,λz hz=>?_,j.sub ?_⟩)
 ·exact⟨adr y,_,J,rfl,l,hi.append C⟩
 ·exact λks O=>⟨rfl,λ_=>x.new y ns r hr,λz t hz B=>(Ge B).elim (λd=>absurd d.1 hz) λd=>Hb (x.apart z y t ns hz d.2 r)⟩
 ·exact(ite_eq_right_iff.mpr λq=>q▸rfl)
 ·intro z p q
  rw[Ca] at q ⊢
  cases hz:z==y with
  |true=>rw[hz] at q;exact q
  |false=>rw[hz] at q;rw[Ca,hz];exact q
theorem Kx(g:GA N A)(so:Ui sc env)(F:zk prog w N fn σ s)(x:St G env rd σ adr s₀ K s){y:xa}{J ap pos l:xd}{a:Oa}{ns:List Int}{i:Int}{fr:Bool}{c:Prop}(u:σ.lookup y=some (.il ns))(hr:y∉rd)
  (E:Gd y=false) (e:ev G.gv fn n sc σ a=some ⟨.int i,fr,c⟩) (hc:c) (r:ns.length<=2 ^ 24) (d:(ap.endLine==pos.line)=true):
  wpAny (ka prog w) A (ig (.Expr (.Call (.Attribute (.Name y J) "append" ap) [a] [] pos) l) env) (λf s'=>f=.next/\SP G env rd ((y,.il (ns++[i]))::σ) adr as s₀ K s') Jc s:=by
 have S:=Ml g n sc σ env s x.re so F
 have ht:Bg pos (Ae [a] env)=[(false,eval a env)]:=by rw[Lh S e,ik];rfl
 have hi:qe env=false:=by unfold qe;rw[x.kind];rfl
 refine wpAny_Expr (wpAny_Call_append rfl (by rw[ht];rfl) d ht ?_) hi
 refine Nc λk=>?_;obtain ⟨M,vs,m,q,hI⟩:=x.list u;refine k ?_
 refine Md x.kind M (Tg E).1 (Tg E).2 ⟨adr y,vs.toArray,rfl,⟨_,m,q,rfl,rfl,rfl⟩,?_⟩
 refine ah (S.ok a _ s .Ce e hc) (λv h yb=>?_)
 refine Nc λk=>?_;obtain ⟨t,rfl⟩:=yb.val
 have D:=x.step yb.keeps
 obtain ⟨_,p,L,j,C⟩:=D.list u;refine k ?_
 refine append_at ⟨p,L,j,C⟩ r λh' O I=>?_
 refine Nc λk=>?_;obtain ⟨H,Q,B,z⟩:=O;refine k ?_
 exact⟨rfl,SP.of (D.mut (tk:=h.toks) u hr B z λb o hb e=>I.extBut b o hb e)⟩
theorem PS(g:GA N A)(so:Ui sc env)(F:zk prog w N fn σ s)(x:St G env rd σ adr s₀ K s){v y:xa}{pv py ap pos B:xd}{d:Oa}{ns:List Int}{i:Int}{fr:Bool}{c:Prop}(J:σ.lookup y=some (.il ns))(hr:y∉rd)
  (T:Gd y=false) (hvy:v≠y) (H:v∈as) (L:env.kindOf v=some .local\/env.kindOf v=some .cell) (e:ev G.gv fn n sc σ d=some ⟨.int i,fr,c⟩) (hc:c) (h0:0<=i) (h1:i < ns.length) (JW:ns.length<=2 ^ 24) (j:(ap.endLine==pos.line)=true):
  wpAny (ka prog w) A (ig (.Assign [.Name v pv] (.Call (.Attribute (.Name y py) "pop" ap) [d] [] pos) B) env)
   (λf s'=>f=.next/\SP G env rd ((v,.int (ns.getD i.toNat 0))::(y,.il (ns.eraseIdx i.toNat))::σ) adr as s₀ K s') Jc s:=by
 have S:=Ml g n sc σ env s x.re so F
 have ht:Bg pos (Ae [d] env)=[(false,eval d env)]:=by rw[Lh S e,ik];rfl
 refine PySem.wpAny_Assign_Name (wpAny_Call_method1_late rfl j ht ?_) rfl
 refine Nc λM=>?_;obtain ⟨lk,vs,m,D,hI⟩:=x.list J;refine M ?_
 refine Md x.kind lk (Tg T).1 (Tg T).2 ⟨"list","list.pop",PySem.F.plainAttrs_list,PySem.F.slot_list_pop,rfl,⟨_,D,rfl⟩,λa q=>by cases q;exact⟨_,D,rfl⟩,?_⟩
 refine PySem.P.pop_at_list (ah (S.ok d _ s .Ce e hc) (λu r yb=>?_))
 refine Nc λM=>?_;obtain ⟨t,rfl⟩:=yb.val
 have O:=x.step yb.keeps
 obtain ⟨_,l,m1,h,k⟩:=O.list J
 have V:=k.length
 obtain ⟨t',E⟩:=IntsAre.get k i.toNat (ns.getD i.toNat 0) (by rw[Ra,Wb (by lia)];rfl);refine M ?_
 refine⟨l.toArray,m1,i,t,i.toNat,.int (ns.getD i.toNat 0) t',by simp[Kb];lia,rfl,h,fitsIndex_of h0 (by lia),?_,by simpa using E,?_⟩
 ·unfold Ks
  have:¬i < 0:=by lia
  simp[this]
  lia
 refine(IsL.upd (ws:=l.eraseIdx i.toNat) h (λxs=>xs.eraseIdxIfInBounds i.toNat) (by simp)).elim λm2 I=>?_
 have Y:=O.mut (tk:=r.toks) J hr I (bE k i.toNat) λb o hb e=>by rw[Ea _ _ (Hb hb)];exact e
 refine ah (Y.bind (y:=v) (p:=.int (ns.getD i.toNat 0)) (a:=0) L ⟨t',rfl⟩ λks q=>by cases q) (λ_ Q C=>⟨rfl,_,λz hz=>?_,C⟩)
 exact if_neg λ(q:z=v)=>hz (q▸H)
set_option tactic.hygienic false
theorem qw{l:la}{vs:List Value}{m:Nat}{k:Int}{t:jg}{v:Value}{E:Value->aa->Prop}{R:Unit->aa->Prop}(c:s.heap.get? l=some (Wa vs m))(h0:0<=k)(a:k < 2 ^ 63)(g:k < vs.length)
  (e:R () {s with heap:=s.heap.update l (Rd (·.setIfInBounds k.toNat v))}):wpAny (ka prog w) A (mW (.ref l) (.int k t) v) R E s:=by
 have d:=wN c
 delta mW
 try with_reducible refine Ma ?_
 first|refine zb (pa ?_)|skip
 refine zb (Mn d.typeIs (by decide) ?_)
 refine zb (Ub (name:=qa "__setitem__") d.typeIs kW
  (qc kW d.typeIs entry_list_setitem ?_ (args_list_setitem _ _ _)))
 show wpAny _ _ (B5 (.int k t)>>=_) _ _ s
 refine zb (wpAny_listSubscript_int (fitsIndex_of h0 a) ?_)
 obtain ⟨j,rfl⟩:=Xc h0
 have f:j < vs.toArray.size:=by simp;lia
 have b:vs.toArray[j]?=some vs.toArray[j]:=se f
 show wpAny _ _ ((seqItemAt l j>>=λr=>pure (r.map (j,·)))>>=_) _ _ s
 refine zb (zb (wpAny_seqItemAt c rfl (pa ?_)))
 rw[b]
 show wpAny _ _ (setSeqItemAt l j v>>=_) _ _ s
 refine zb (wpAny_setSeqItemAt c rfl ?_)
 first
  |exact zb (pa (pa ⟨.none,rfl,pa e⟩))
  |exact pa ⟨.none,rfl,pa e⟩
set_option tactic.hygienic true
theorem xu(g:GA N A)(so:Ui sc env)(F:zk prog w N fn σ s)(x:St G env rd σ adr s₀ K s){y:xa}{I J pos:xd}{h a:Oa}{ns:List Int}{k v:Int}{fr D:Bool}{c d:Prop}(B:σ.lookup y=some (.il ns))(hr:y∉rd)
  (L:Gd y=false) (e:ev G.gv fn n sc σ a=some ⟨.int v,fr,c⟩) (hc:c) (Y:ev G.gv fn n sc σ h=some ⟨.int k,D,d⟩) (hd:d) (h0:0<=k) (h1:k < ns.length) (T:ns.length<=2 ^ 24)
  (V:mi a (some (.Subscript (.Name y I) h J)) pos.line env=pure false):
  wpAny (ka prog w) A (ig (.Assign [.Subscript (.Name y I) h J] a pos) env) (λf s'=>f=.next/\SP G env rd ((y,.il (ns.set k.toNat v))::σ) adr as s₀ K s') Jc s:=by
 have S:=Ml g n sc σ env s x.re so F
 refine wpAny_Assign_Subscript ?_ V
 refine ah (S.ok a _ s .Ce e hc) (λu p yb=>?_)
 refine Nc λC=>?_;obtain ⟨t,rfl⟩:=yb.val
 have H:=x.step yb.keeps
 obtain ⟨O,vs,m,Q,hI⟩:=H.list B;refine C ?_
 refine Md x.kind O (Tg L).1 (Tg L).2 ?_
 refine ah (S.ok h _ p yb.keeps Y hd) (λu l i=>?_)
 refine Nc λC=>?_;obtain ⟨t',rfl⟩:=i.val
 have E:=H.step i.keeps
 obtain ⟨_,r,m2,j,q⟩:=E.list B;refine C ?_
 have M:=q.length
 refine qw j h0 (by lia) (by lia) ?_
 refine(IsL.upd (ws:=r.set k.toNat (.int v t)) j (λxs=>xs.setIfInBounds k.toNat (.int v t)) (by simp)).elim λm3 z=>?_
 exact⟨rfl,SP.of (E.mut (tk:=l.toks) B hr z (IJ q v t k.toNat) λb o hb e=>by rw[Ea _ _ (Hb hb)];exact e)⟩
end
section
variable{prog:wa}{w:ja}{A:ua}{N n:Nat}{G:Gl}{fn:xa->List P->Option Rs}{sc:List (xa×ub)}{env:Be}{rd rd' as:List xa}{σ τ:List (xa×P)}{adr:xa->la}{s₀ s s':aa}
 {K K':la->Sa->Prop} {Q:Af->aa->Prop}
theorem TB(g:GA N A)(so:Ui sc env)(x:St G env rd σ adr s₀ K s){y v:xa}{E pv i pos:xd}{l it:Oa}{j:List Oa}{scope:me}(O2:jh sc scope=true)(hx:scope.names.lookup v=some .local)
  {f:Oa->Option Rs} (S:Sound prog w A env f s) {xs:List Int} {c:Prop} (hI:aE (zh sc) f it=some (xs,c)) (hc:c) (JW:xs.length<=2 ^ 24) (tst:Int->Bool) (val:Int->Int)
  (k:∀C s' u,u∈xs->Kp s s'->RE G (qd scope (xe env.cells scope.names []) C env) ((v,.int u)::freeOf scope σ) s'->
   wpAny (ka prog w) A (forIn j true λc r=>if r=true then do let ok <- isTrue c (qd scope (xe env.cells scope.names []) C env) (eval c (qd scope (xe env.cells scope.names []) C env));pure (uc ok) else pure (uc r))
    (λok Ng=>ok=tst u/\Kp s' Ng) Jc s')
  (O:∀C s' u,u∈xs->tst u=true->Kp s s'->RE G (qd scope (xe env.cells scope.names []) C env) ((v,.int u)::freeOf scope σ) s'->
   wpAny (ka prog w) A (eval l (qd scope (xe env.cells scope.names []) C env)) (λz Ng=>(∃t,z=.int (val u) t)/\Kp s' Ng) Jc s')
  (B:∀z,ae it env z=pure z) (hya:y∈as) (hk:env.kindOf y=some .local)
  (hsw:mi (.ListComp l [⟨.Name v pv,it,j,0⟩] scope i) (some (.Name y E)) pos.line env=pure true):
  wpAny (ka prog w) A (ig (.Assign [.Name y E] (.ListComp l [⟨.Name v pv,it,j,0⟩] scope i) pos) env) (λf s'=>f=.next/\SP G env rd ((y,.il ((xs.filter tst).map val))::σ) adr as s₀ K s') Jc s:=by
 have ps:=ue.of O2
 rw[exec_Assign_Name_used _ _ _ _ hsw]
 refine zb (wb (zb ?_))
 show wpAny _ A (do let _ <- comprehension (.ListComp l [⟨.Name v pv,it,j,0⟩] scope i) scope env _ (oW []) false (eval it env) (some (Ql (.Name y E) env))) _ _ s
 refine zb (Lb (fh (use:=some (Ql (.Name y E) env)) (Q:=λ_ s'=>SP G env rd ((y,.il ((xs.filter tst).map val))::σ) adr as s₀ K s') rfl B (Of (Io ps so x.re)) ps.kind ps.locs
  (ah (jM S x.re hI hc λh=>so.glob _ (by simpa [zh] using h)) (λxv iY yb=>ah yb (λitv wJ H=>?_)))) (λ_ s' hq=>pa (pa ⟨rfl,hq⟩)) λ_ _ e=>e)
 refine Nc λhC=>?_;obtain ⟨I,L,rfl,k2,Y8,hL,itA⟩:=H;refine hC ?_
 refine wx (RR:=λyg C=>compPost (ka prog w) A Jc (some (Ql (.Name y E) env)) (λ_ s'=>SP G env rd ((y,.il ((xs.filter tst).map val))::σ) adr as s₀ K s') yg C) (s₀:=s) g ps so hx k2 Y8 itA hL x.re JW tst val k O ?_
 intro D C h' tk m' hD hC V hn hl P8
 show wpAny _ A (Ql (.Name y E) env (.ref D)) _ _ _
 have x1:St G env rd σ adr s₀ K {s with heap:=h',toks:=tk}:=x.step ⟨h',tk,rfl,P8⟩
 have IW:∀b o,s.heap.get? b=some o->b≠C:=λb o e q=>nomatch ((congrArg s.heap.get? q).symm.trans e).symm.trans hC
 have T:env.locals≠C:=x.ns.elim λmm hm=>hm.elim λo q=>q.elim λ_ q=>q.elim λ_ q=>IW _ _ q.1
 have Y:∀z c,env.cells.lookup z=some c->c≠C:=λz c e=>(x.ce z c e).elim λu q=>q.elim λo q=>IW _ _ q.1
 have M:∀z ns,σ.lookup z=some (.il ns)->adr z≠C:=λz ns e=>(x.list e).2.elim λvs q=>q.elim λm q=>IW _ _ q.1
 obtain ⟨oC,es,ep,hoC,hdC,hsk,hnf⟩:=id hn
 have x2:=x1.VB hoC T Y M
 obtain ⟨vs,m,gD,iD⟩:=hl
 refine Sb (ah (x2.bind (y:=y) (p:=.il ((xs.filter tst).map val)) (v:=.ref D) (a:=D) (.inl hk) ⟨D,vs,m,rfl,gD,iD⟩ ?_) (λ_ n x3=>?_))
 ·exact λns hns=>⟨rfl,λ_ o q=>q.elim (λq=>(nomatch (x.ks D o q).symm.trans hD)) λq=>V q.1,λz ms hz e q=>(x.list e).2.elim λws z'=>z'.elim λm2 z'=>(nomatch ((congrArg s.heap.get? q).trans z'.1).symm.trans hD)⟩
 ·have J:=x3.ks C oC (.inr ⟨rfl,rfl⟩)
  refine⟨m',⟨oC,es,ep,J,hdC,hsk,hnf⟩,λJA sb=>?_⟩
  have x4:St G env rd ((y,.il ((xs.filter tst).map val))::σ) (λz=>if z=y then D else adr z) s₀ K n:=x3.weak (λb o q=>.inl q) x.k0
  refine⟨_,λz hz=>if_neg λ(q:z=y)=>hz (q▸hya),x4.jy (tk:=n.toks) T Y (λz ns e=>?_) (λo q=>(nomatch (x.ks C o q).symm.trans hC)) λb o hb e=>sb.extBut b o hb e⟩
  show(if z=y then D else adr z)≠C
  refine(Ge e).elim (λd=>?_) λd=>?_
  ·rw[if_pos d.1];exact V
  ·rw[if_neg d.1];exact M z ns d.2
end
set_option tactic.hygienic false
noncomputable abbrev Fw(s:aa):la->Sa->Prop:=λb o=>s.heap.get? b=some o
section
variable{prog:wa}{w:ja}{A:ua}{N n:Nat}{G:Gl}{rd:List xa}{σ:List (xa×P)}{adr:xa->la}{s:aa}
theorem Cx{a:la}{o:Sa}{fd:yl}{body:List cb}{vs:List Value}{binds:List (xa×Value)}{R:Value->aa->Prop}
  (g:GA (N+2) A) (gs:GS G s.heap) (ho:s.heap.get? a=some o) (hd:o.data=.func fd) (Q:s.heap.CodeRec fd.code fd.qualname) (m:fd.body=.stmts body) (hb:Sf s fd ⟨vs,[]⟩ binds)
  (hk:fd.scope.kind=.function) (M:fd.scope.isCoroutine=false) (B:fd.scope.isGenerator=false) (hg:fd.globals=jd) (T:fd.builtins=Hc)
  (k:∀x∈fd.scope.names,x.2≠.cell) (u:∀x∈binds,fd.scope.names.lookup x.1=some .local)
  (l:∀x,fd.scope.names.lookup x=some .free->(fd.closure.lookup x).isSome=true)
  (z:∀x y c,fd.closure.lookup x=some c->fd.closure.lookup y=some c->x=y) (O:∀x c,fd.closure.lookup x=some c->∃v,s.heap.IsCell c v)
  (r:∀x p,σ.lookup x=some p->∃v,VR s.heap p v/\(∀ns,p=.il ns->v=.ref (adr x)/\x∈rd) /\
   ((fd.scope.names.lookup x=some .local/\binds.reverse.lookup x=some v)\/(fd.scope.names.lookup x=some .free/\∃c,fd.closure.lookup x=some c/\s.heap.IsCell c (some v))))
  (V:∀x y ns ms,x≠y->σ.lookup x=some (.il ns)->σ.lookup y=some (.il ms)->adr x≠adr y)
  (h:∀env j,env.scope=fd.scope->GA N (A.deeper env)->St G env rd σ adr s (Fw s) j->
   wpAny (ka prog w) (A.deeper env) (Kc body env) (λf s'=>∃v,f=.ret v/\R v s') Jc j):
  wpAny (ka prog w) A (call (.ref a) vs) R Jc s:=by
 refine fu (iN g.room ho hd M B m Q ?_)
 refine hb _ _ _ _ (Dr k u (λh' t J=>?_) hk)
 have old:∀b o,s.heap.get? b=some o->h'.get? b=some o:=λb o e=>J.extBut b o (Va (Ba e)) (fa _ e)
 refine⟨gs.lim.keeps old,codeAny_func ?_⟩
 generalize d:newEnv fd.scope s.heap.objs.size fd.globals fd.closure (fd.qualname++".<locals>.") (some a) fd.code none fd.builtins=env
 have e1:env.scope=fd.scope:=by subst d;rfl
 have e2:env.locals=s.heap.objs.size:=by subst d;rfl
 have e3:env.globals=fd.globals:=by subst d;rfl
 have D:env.cells=fd.closure:=by subst d;rfl
 have e5:env.builtins=fd.builtins:=by subst d;rfl
 have C:∀x,env.kindOf x=fd.scope.names.lookup x:=λx=>by unfold bc;rw[e1]
 have gd:GA N (A.deeper env):=((g.mono (ze _)).deeper env)
 have E:=h env {s with heap:=h',toks:=s.toks+binds.length} e1 gd ?_
 ·exact Lb E (λf s' q=>by obtain ⟨v,rfl,q⟩:=q;exact q) λZ Z q=>q.elim
 refine{kind:=(by rw[e1];exact hk),eg:=e3.trans hg,eb:=e5.trans T,g0:=gs,sh:=⟨h',_,rfl⟩,k0:=λb o e=>e,ks:=old,ns:=?_,nl:=?_,ce:=?_,nc:=?_,inj:=?_,cells:=?_,look:=?_,new:=?_,apart:=V}
 ·exact⟨_,by rw[e2];exact t⟩
 ·intro o e
  rw[e2] at e
  exact absurd (Ba e) (Xe _)
 ·intro x c e
  rw[D] at e
  obtain ⟨v,i⟩:=O x c e
  exact⟨v,i.keeps old⟩
 ·intro x c e e' o
  rw[C] at e'
  exact absurd rfl (k _ (xc e'))
 ·rw[D];exact z
 ·intro x n
  rw[D]
  rw[C] at n
  rcases n with n|n
  ·exact absurd rfl (k _ (xc n))
  ·exact l x n
 ·intro x p e
  refine Nc λY=>?_;obtain ⟨v,hv,L,hw⟩:=r x p e;refine Y ?_
  refine⟨v,?_,hv.keeps old,λns q=>(L ns q).1⟩
  rcases hw with ⟨I,H⟩|⟨I,c,H,k3⟩
  ·exact .inl ⟨(C x).trans I,_,by rw[e2];exact t,H⟩
  ·exact .inr ⟨.inr ((C x).trans I),c,by rw[D];exact H,k3.keeps old⟩
 ·intro x ns e hr
  refine Nc λY=>?_;obtain ⟨v,_,L,_⟩:=r x _ e;refine Y ?_
  exact absurd (L ns rfl).2 hr
theorem cellsFrom_some:∀(l:List (xa×ub)) (k:Nat) (yg:List (xa×la)) (x:xa),((x,zg)∈l\/(yg.lookup x).isSome=true)->((tg k l yg).lookup x).isSome=true
 |[],k,yg,x,h=>by
  rcases h with h|h
  ·cases h
  ·exact h
 |(n,b)::r,k,yg,x,h=>by
  unfold tg
  by_cases a:(b==zg)=true
  ·rw[if_pos a]
   refine cellsFrom_some r _ _ x ?_
   rw[Ca]
   cases c:x==n with
   |true=>exact .inr rfl
   |false=>
    rcases h with h|h
    ·rcases List.mem_cons.mp h with e|h
     ·cases e;simp at c
     ·exact .inl h
    ·exact .inr h
  ·rw[if_neg a]
   refine cellsFrom_some r _ _ x ?_
   rcases h with h|h
   ·rcases List.mem_cons.mp h with e|h
    ·cases e;simp at a
    ·exact .inl h
   ·exact .inr h
end
noncomputable def xh:Eg->Bool
 |.builtin id _=>!Builtin.Bytes.decodersThatHold.contains id
 |_=>true
noncomputable def JR(a:Ctx):Prop:=xh a.code=true/\∀x∈a.below,xh x.1=true
theorem JR.enter{b:Ctx}(h:JR b){c:Eg}(hc:xh c=true)(hd:Option Value)(p:xd):JR (b.enter c hd p):=
 ⟨hc,λx a=>by
  rcases List.mem_cons.mp a with rfl|a
  ·exact h.1
  ·exact h.2 x a⟩
theorem JR.goto{a:Ctx}(h:JR a){c:Eg}(hc:xh c=true):JR (a.goto c):=⟨hc,h.2⟩
noncomputable def mc{α:Type}(M:pj)(A:ua)(t:Vb α)(Q:α->aa->Prop)(s:aa):Prop:=
 ∀b p,b.In A->JR b->Sem.wp M b t (λa Z s'=>Q a s') (λZ Z Z=>False) p s
noncomputable def rh(M:pj)(A:ua)(c:Eg)(R:Ob->aa->Prop)(s:aa):Prop:=
 ∀a p,a.code=c->a.Below A->JR a->wpCode M a R p s
section
variable{α β:Type}{M:pj}{A:ua}{s:aa}
theorem Fb{t:Vb α}{Q:α->aa->Prop}(h:wpAny M A t Q Jc s):mc M A t Q s:=λb p a Z=>h b p a
theorem Vc{t:Vb α}{Q d:α->aa->Prop}(h:mc M A t Q s)(e:∀a s,Q a s->d a s):mc M A t d s:=
 λc p b cl=>oq M c t (λa Z s=>e a s) (λZ Z Z x=>x) p s (h c p b cl)
theorem Cb{a:α}{Q:α->aa->Prop}(h:Q a s):mc M A (pure a) Q s:=λZ Z Z Z=>h
theorem dj{m:Vb α}{f:α->Vb β}{Q:β->aa->Prop}(h:mc M A m (λa s'=>mc M A (f a) Q s') s):mc M A (m>>=f) Q s:=
 λc p b cl=>by
  rw[Sem.wp_bind']
  exact oq M c m (λa d s' h'=>h' c d b cl) (λZ Z Z x=>x) p s (h c p b cl)
theorem Sg{m:Vb α}{f:α->Vb β}{Q:β->aa->Prop}(h:wpAny M A m (λa s'=>mc M A (f a) Q s') Jc s):mc M A (m>>=f) Q s:=
 dj (Fb h)
theorem ui{m:Vb α}{a:α}{Q:α->aa->Prop}(e:m=pure a)(h:Q a s):mc M A m Q s:=by rw[e];exact Cb h
theorem vg{vs:List Value}{m:Vb α}{Q:α->aa->Prop}(h:mc M A m Q s):mc M A (holding vs m) Q s:=
 λb p a cl=>by rw[Sem.wp_holding];exact h b p a cl
theorem Sz{vs:List Value}{m:Vb α}{Q:α->aa->Prop}(h:mc M A m Q s):mc M A (m.keep vs) Q s:=
 λb p a cl=>by rw[Z4];exact h b p a cl
theorem Sj{m:Vb α}{k:Value->Vb Unit}{Q:α->aa->Prop}(h:mc M A m Q s):mc M A (m.onRaise k) Q s:=
 λb p a cl=>by
  rw[Sem.wp_onRaise]
  exact oq M b m (λZ Z Z x=>x) (λZ Z Z x=>x.elim) p s (h b p a cl)
theorem ZR{c:Bool}{a b:Vb α}{Q:α->aa->Prop}(h:if c then mc M A a Q s else mc M A b Q s):mc M A (if c=true then a else b) Q s:=by
 cases c <;> simpa using h
theorem Fe{c:Bool}{a b:Vb α}{Q:α->aa->Prop}(hc:c=false)(h:mc M A b Q s):mc M A (if c=true then a else b) Q s:=by
 subst hc;exact h
theorem ru{c:Bool}{a b:Vb α}{Q:α->aa->Prop}(hc:c=true)(h:mc M A a Q s):mc M A (if c=true then a else b) Q s:=by
 subst hc;exact h
theorem mh{c:Eg}{R:Ob->aa->Prop}
  (h:mc M (A.under c) (M.den c) (λa s'=>match a with|.done f=>R (.ok f) s'|.again c'=>c'.quiet=true/\xh c'=true/\rh M A c' R s') s):
  rh M A c R s:=λd p hc b cl=>by
 rw[wpCode_iff_wp,hc]
 refine oq M d _ (λa e s' h'=>?_) (λZ Z Z x=>x.elim) p s (h d p (hc▸b.in) cl)
 cases a with
 |done f=>exact h'
 |again c'=>exact⟨h'.1,h'.2.2 (d.goto c') e rfl (b.goto c') (cl.goto h'.2.1)⟩
theorem cO{c:Eg}{h:Option Value}{Q:Af->aa->Prop}(d:xh c=true)
  (hc:rh M (A.mark h) c (λr s'=>∃f,r=.ok f/\Q f s') s) (b:h≠some byPass:=by intro x;exact nomatch x):mc M A (Nz c h) Q s:=
 λe p a cl=>by
  rw[Sem.wp_run]
  exact wpCode_mono (λr s' x=>by obtain ⟨f,rfl,q⟩:=x;exact q) (hc _ p rfl (a.enter c h p b) (cl.enter d h p))
theorem Vx{c:Eg}{Q:Value->aa->Prop}(b:xh c=true)(hc:rh M A c (λr s'=>∃v,r=.ok (.ret v)/\Q v s') s):mc M A (Z5 c) Q s:=
 λd p a cl=>by
  rw[Sem.wp_runValue]
  exact wpCode_mono (λr s' x=>by obtain ⟨f,rfl,q⟩:=x;exact q) (hc _ p rfl (a.enter c none p (by intro x;exact nomatch x)) (cl.enter b none p))
theorem fm{f:Value}{pos:List Value}{a:List (xa×Value)}{Q:Value->aa->Prop}
  (hc:rh M A (.call f ⟨pos,a⟩) (λr s'=>∃v,r=.ok (.ret v)/\Q v s') s):mc M A (call f pos a) Q s:=Vx rfl hc
theorem LC{c:Eg}{env:Be}{Q:Af->aa->Prop}(a:xh c=true)(hc:rh M A c (λr s'=>∃f,r=.ok f/\Q f s') s):mc M A (KI c env) Q s:=by
 delta KI
 exact Sj (cO a hc)
theorem w4{c:Prop}[Decidable c]{α:Type}{t:c->α}{e:¬c->α}{x:α}(h:¬c)(q:e h=x):dite c t e=x:=(dif_neg h).trans q
theorem Ao{a:la}{c:Eg}{p:xd}(hc:xh c=true)(hg:c.isGuard=false):
  (match ((c,p):Eg×xd) with
   |(.builtin "bytearray.__contains__" ⟨v::_,_⟩,_)|(.builtin "bytearray.__mod__" ⟨v::_,_⟩,_)
   |(.builtin "bytearray.__rmod__" ⟨_::v::_,_⟩,_)|(.builtin "_struct.pack_into.held" ⟨v::_,_⟩,_)=>Ni v (.ref a)
   |(.builtin "bytearray.find.held" ⟨_::_::d,_⟩,_)=>d.any (Ni (.ref a))
   |(.builtin id ⟨v::_,_⟩,_)=>Ni v (.ref a)&&Builtin.Bytes.decodersThatHold.contains id
   |_=>false)=false:=by
 cases c with
 |builtin id args=>
  obtain ⟨ps,f⟩:=args
  have b:∀i,guardIds.contains i=true->¬id=i:=by
   rintro i h rfl
   exact Bool.noConfusion ((show guardIds.contains id=false from hg).symm.trans h)
  have e:Builtin.Bytes.decodersThatHold.contains id=false:=(Hf _).mp hc
  delta Ao.match_1
  refine w4 (b "bytearray.__contains__" (by decide +kernel)) ?_
  refine w4 (b "bytearray.__mod__" (by decide +kernel)) ?_
  refine w4 (b "bytearray.__rmod__" (by decide +kernel)) ?_
  refine w4 (b "_struct.pack_into.held" (by decide +kernel)) ?_
  refine w4 (b "bytearray.find.held" (by decide +kernel)) ?_
  cases ps with
  |nil=>rfl
  |cons v r=>exact(congrArg (Ni v (.ref a)&&·) e).trans (Bool.and_false _)
 |_=>rfl
theorem HD{l:List (Eg×xd)}(h:c6 l=[]):∀x∈l,x.1.isGuard=false:=by
 intro x a
 cases q:x.1.isGuard with
 |false=>rfl
 |true=>
  have:x.1∈c6 l:=List.mem_filter.mpr ⟨zd a,q⟩
  rw[h] at this;exact nomatch this
theorem Wx{a:la}{Q:Bool->aa->Prop}(hg:A.guards=some [])(h:Q false s):mc M A (zl (.ref a)) Q s:=λb p g cl=>by
 delta zl
 show Q (((b.code,p)::b.below).any _) s
 have h0:c6 ((b.code,p)::b.below)=[]:=by rw[guardsOf_cons];exact g.2.2.2.1 [] hg
 have i:=HD h0
 have e:∀f:Eg×xd->Bool,(∀x∈((b.code,p)::b.below),f x=false)->(((b.code,p)::b.below).any f)=false:=by
  intro f hf
  rw[UI]
  intro x d
  rw[hf x d];exact ng
 rw[e]
 ·exact h
 ·intro x d
  obtain ⟨c,q⟩:=x
  refine Ao ?_ (i _ d)
  refine(List.mem_cons.mp d).elim (λe=>?_) λd=>?_
  ·cases e;exact cl.1
  ·exact cl.2 _ d
end
section
variable{α β:Type}{M:pj}{A:ua}{s:aa}
noncomputable def kq(M:pj)(A:ua)(f:α->Vb β)(Q:β->aa->Prop):α->aa->Prop:=λa s'=>mc M A (f a) Q s'
theorem Uj{m:Vb α}{f:α->Vb β}{Q:β->aa->Prop}(h:mc M A m (kq M A f Q) s):mc M A (m>>=f) Q s:=dj h
theorem Eh{m:Vb α}{f:α->Vb β}{Q:β->aa->Prop}(h:wpAny M A m (kq M A f Q) Jc s):mc M A (m>>=f) Q s:=Sg h
variable{Q:Af->aa->Prop}{env:Be}
variable{E:Value->aa->Prop}
theorem a1H{a b:cb}(e:a=b)(h:wpAny M A (ig b env) Q E s):wpAny M A (ig a env) Q E s:=e▸h
theorem a1J{a b:List cb}(e:a=b)(h:wpAny M A (Kc b env) Q E s):wpAny M A (Kc a env) Q E s:=e▸h
theorem a1L{a b:Oa}{Q:Value->aa->Prop}(e:a=b)(h:wpAny M A (eval b env) Q E s):wpAny M A (eval a env) Q E s:=e▸h
theorem a1G{a b:cb}(e:a=b)(h:mc M A (ig b env) Q s):mc M A (ig a env) Q s:=e▸h
theorem a1I{a b:List cb}(e:a=b)(h:mc M A (Kc b env) Q s):mc M A (Kc a env) Q s:=e▸h
theorem a1K{a b:Oa}{Q:Value->aa->Prop}(e:a=b)(h:mc M A (eval b env) Q s):mc M A (eval a env) Q s:=e▸h
end
theorem j4(w:ja)(b:Bool)(m k:Nat)(i:Int)(d:jg)(j:Int)(c:jg)(l:Int)(a:jg)(e:Bool)(lv:List Value)(f:Ob->Vb Fin)(bd:List cb)(env:Be)(pos:xd)
  (y:Ob->Vb Fin) (g:Bool) (lv2:List Value) (ar:Jn) (q:xd) (kp:List Value):o4 w b m k i d j c l a e lv f bd env pos y g lv2 ar q kp:=by
 show SF PP T0 ee w b m k i d j c l a e lv f bd env pos y g lv2 ar q kp
 rw[PySem.W.Fast.te2030039064557654347]
 unfold PySem.W.Fast.tw2030039064557654347
 cases b <;> kernel_rfl
noncomputable def iK:rC Unit:=⟨λZ Z=>none,λZ Z Z=>none,λZ Z=>none⟩
noncomputable def Yy(p:wa)(w:ja)(b:Bool)(i:Int)(t:jg)(x:xa)(u:jg)(k:Nat)(K:Bool->Vb Fin)(H:Value->Vb Fin)(gd:Bool->Bool)(lv:List Value->List Value)(code:Eg)(pos:xd)(fr:rf)(st:List rf):Prop:=
 rn iK qo (Gb Ka) p (w.withFollow "special-get-raises" b) 11 ki 11 () k ⟨(eqBool (.int i t) (.str x u)).wrap K H gd lv,code,pos,fr::st⟩=some ((),k,⟨K false,code,pos,fr::st⟩)
noncomputable def Xy(p:wa)(w:ja)(b:Bool)(x:xa)(t:jg)(y:xa)(u:jg)(k:Nat)(K:Bool->Vb Fin)(H:Value->Vb Fin)(gd:Bool->Bool)(lv:List Value->List Value)(code:Eg)(pos:xd)(fr:rf)(st:List rf):Prop:=
 rn iK qo (Gb Ka) p (w.withFollow "special-get-raises" b) 11 ki 4 () k ⟨((richCompare .Eq (.str x t) (.str y u)).bind truthOfDropped).wrap K H gd lv,code,pos,fr::st⟩=some ((),k,⟨K (x.cps.toList==y.cps.toList),code,pos,fr::st⟩)
noncomputable def dE:=Yy PP
noncomputable def cE:=Xy PP
lay_quick Mine.Yy Mine.Xy
theorem UP(w:ja)(b:Bool)(i:Int)(t:jg)(x:xa)(u:jg)(k:Nat)(K:Bool->Vb Fin)(H:Value->Vb Fin)(gd:Bool->Bool)(lv:List Value->List Value)(code:Eg)(pos:xd)(fr:rf)(st:List rf):
  dE w b i t x u k K H gd lv code pos fr st:=by
 unfold dE
 rw[PySem.W.Fast.te11622083179471615764]
 unfold PySem.W.Fast.tw11622083179471615764
 cases b <;> kernel_rfl
theorem TP(w:ja)(b:Bool)(x:xa)(t:jg)(y:xa)(u:jg)(k:Nat)(K:Bool->Vb Fin)(H:Value->Vb Fin)(gd:Bool->Bool)(lv:List Value->List Value)(code:Eg)(pos:xd)(fr:rf)(st:List rf):
  cE w b x t y u k K H gd lv code pos fr st:=by
 unfold cE
 rw[PySem.W.Fast.te1505949693141689665]
 unfold PySem.W.Fast.tw1505949693141689665
 cases b <;> kernel_rfl
noncomputable def kg{α:Type}(w:ja)(gs:Array Bc)(d:cm)(os:xi)(code:Eg)(st:List rf)(h:Na)(k:Nat)(pos:xd)(m:Vb α)(h':Na)(k':Nat)(pos':xd)(a:α):Prop:=
 ∀(K:α->Vb Fin) (H:Value->Vb Fin) (gd:Bool->Bool) (lv:List Value->List Value),
  Goes PP w 11 ki ⟨h,gs,d,k,os⟩ ⟨m.wrap K H gd lv,code,pos,st⟩ ⟨h',gs,d,k',os⟩ ⟨K a,code,pos',st⟩
section
variable{α β:Type}{w:ja}{gs:Array Bc}{d:cm}{os:xi}{code:Eg}{fr:rf}{st:List rf}{h h' JA:Na}{k k' WG:Nat}{pos pos' qm:xd}
theorem fe(a:α):kg w gs d os code st h k pos (si a) h k pos a:=λZ Z Z Z=>Goes.refl
theorem BP{m:Vb α}{f:α->Vb β}{a:α}{b:β}(x:kg w gs d os code st h k pos m h' k' pos' a)(y:kg w gs d os code st h' k' pos' (f a) JA WG qm b):
  kg w gs d os code st h k pos (m.bind f) JA WG qm b:=λK H gd lv=>by
 rw[KN,Ak]
 exact(x _ _ _ _).trans (y K H gd lv)
theorem Wc{m:Vb α}{f:α->Vb β}{a:α}{b:β}(x:kg w gs d os code st h k pos m h' k' pos' a)(y:kg w gs d os code st h' k' pos' (f a) JA WG qm b):
  kg w gs d os code st h k pos (m>>=f) JA WG qm b:=BP x y
theorem xP{m:Vb α}{a:α}(vs:List Value)(x:kg w gs d os code st h k pos m h' k' pos' a):kg w gs d os code st h k pos (m.keep vs) h' k' pos' a:=λK H gd lv=>by
 rw[JN,Ak]
 exact x _ _ _ _
theorem Hj{m:Vb α}{a:α}(vs:List Value)(x:kg w gs d os code st h k pos m h' k' pos' a):kg w gs d os code st h k pos (holding vs m) h' k' pos' a:=by
 unfold holding
 split
 ·exact x
 ·exact xP _ x
theorem Ly{t t':Jb}{s s':aa}(c:wj t=false)(b:Gm 11 ki t=true)(a:Gf (Gb Ka) PP w s t=.go s' t'):Goes PP w 11 ki s t s' t':=λN r H=>by
 refine⟨N+1,?_⟩
 unfold Ox
 rw[c,b,a]
 exact H
theorem du{a:la}{q:Option Value}{f:Sa->Vb α}{o:Sa}{x:α}(b:h.get? a=some o)(y:kg w gs d os code st h k pos (f o) h' k' pos' x):
  kg w gs d os code st h k pos (Sem.load a q f) h' k' pos' x:=λK H gd lv=>Goes.trans (ip b) (y K H gd lv)
theorem My{a:String}{f:Unit->Vb α}{x:α}(y:kg w gs d os code st h k pos (f ()) h' k' pos' x):
  kg w gs d os code st h k pos (Sem.rule a f) h' k' pos' x:=λK H gd lv=>Goes.trans (Ly (by simp[nq,wj]) (by simp[nq,Gm,Ro,bg,oh,Zl]) rfl) (y K H gd lv)
theorem kH{a:la}{q:Option Value}{g:Sa->Sa}{f:Unit->Vb α}{o:Sa}{x:α}(b:h.get? a=some o)(c:Wf 11 a=true)(y:kg w gs d os code st (h.update a g) k pos (f ()) h' k' pos' x):
  kg w gs d os code st h k pos (Sem.update a q g f) h' k' pos' x:=λK H gd lv=>Goes.trans (lx b c) (y K H gd lv)
theorem rR{p:xd}{f:Unit->Vb α}{x:α}(y:kg w gs d os code st h k p (f ()) h' k' pos' x):
  kg w gs d os code st h k pos (Sem.at p f) h' k' pos' x:=λK H gd lv=>Goes.trans (Ly (by simp[nq,wj]) (by simp[nq,Gm,Ro,bg,oh,Zl]) rfl) (y K H gd lv)
theorem ML{o:Sa}{f:la->Vb α}{x:α}(y:kg w gs d os code st (h.push o) k pos (f h.objs.size) h' k' pos' x):
  kg w gs d os code st h k pos (Sem.alloc o f) h' k' pos' x:=λK H gd lv=>Goes.trans (Ly (by simp[nq,wj]) (by simp[nq,Gm,Ro,bg,oh,Zl]) rfl) (y K H gd lv)
theorem Wu{l:List α}{b:β}{f:α->β->Vb (ForInStep β)}(y:∀x∈l,kg w gs d os code st h k pos (f x b) h k pos (.yield b)):
  kg w gs d os code st h k pos (forIn l b f) h k pos b:=by
 induction l with
 |nil=>exact fe b
 |cons x l a=>
  rw[de]
  exact Wc (y x (za ..)) (a λz hz=>y z (ya _ hz))
theorem ko{σ:Type}{good:σ->Prop}{R:σ->Na->Prop}{p:wa}{pg:Nat}{Am:Option Value}:Mx good R qo p w pg Am gs d:=λZ Z Z=>OK.none
theorem BO(h:Na):el iK (λZ=>True) (λZ h'=>h'=h):=⟨λZ Z=>OK.none,λZ Z Z=>OK.none,λZ Z=>OK.none⟩
theorem yq{N:Nat}{t t':Jb}(e:rn iK qo (Gb Ka) PP w 11 ki N () k t=some ((),k',t')):
  Goes PP w 11 ki ⟨h,gs,d,k,os⟩ t ⟨h,gs,d,k',os⟩ t':=by
 exact(jm (BO h) (ko (good:=λZ=>True) (R:=λZ h'=>h'=h)) e trivial rfl).elim λh' q=>q.2▸q.1
theorem AP{i:Int}{t:jg}{x:xa}{u:jg}:kg w gs d os code (fr::st) h k pos (eqBool (.int i t) (.str x u)) h k pos false:=λK H gd lv=>by
 have e:=UP w (w.params.followText Yn) i t x u k K H gd lv code pos fr st
 unfold dE Yy at e
 rw[Nb] at e
 exact yq e
theorem zP{x:xa}{t:jg}{y:xa}{u:jg}(a:x≠y):kg w gs d os code (fr::st) h k pos (eqBool (.str x t) (.str y u)) h k pos false:=λK H gd lv=>by
 have e:=TP w (w.params.followText Yn) x t y u k K H gd lv code pos fr st
 unfold cE Xy at e
 rw[Nb] at e
 have g:=yq (h:=h) (gs:=gs) (d:=d) (os:=os) e
 have hf:(x.cps.toList==y.cps.toList)=false:=by
  refine beq_eq_false_iff_ne.mpr λc=>a ?_
  cases x;cases y
  simp only[Str.mk.injEq]
  exact Array.toList_inj.mp c
 rw[hf] at g
 have hv:¬(Qj x t==Qj y u)=true:=λq=>by
  have:=eq_of_beq q
  injection this with b
  exact a b
 unfold eqBool
 show Goes _ _ _ _ _ ⟨nq K H gd lv (if (Qj x t==Qj y u)=true then _ else _),_,_,_⟩ _ _
 rw[if_neg hv]
 exact g
end
section
variable{α β:Type}{w:ja}{gs:Array Bc}{d:cm}{os:xi}{code:Eg}{fr:rf}{st:List rf}{h h' JA:Na}{k k' WG:Nat}{pos pos' qm:xd}
noncomputable def cx(x:xa)(es:Array Ta):Prop:=∀e∈es,(∃i t,e.key=.int i t)\/∃y t,e.key=.str y t/\y≠x
theorem Xq{a:la}{q:Option Value}{o:Sa}{es:Array Ta}{ep:Nat}(b:h.get? a=some o)(hd:o.data=.dict es ep):kg w gs d os code (fr::st) h k pos (bX a q) h k pos ep:=by
 unfold bX
 refine Wc (du b (fe o)) ?_
 rw[hd]
 exact fe ep
theorem Vk{a:la}{q:Option Value}{o:Sa}{es:Array Ta}{ep:Nat}(b:h.get? a=some o)(hd:o.data=.dict es ep):kg w gs d os code (fr::st) h k pos (DN a q) h k pos es:=by
 unfold DN
 refine Wc (du b (fe o)) ?_
 rw[hd]
 exact fe es
theorem JL{x:xa}{u:jg}{e:Ta}(c:(∃i t,e.key=.int i t)\/∃y t,e.key=.str y t/\y≠x):kg w gs d os code (fr::st) h k pos (eqBool e.key (.str x u)) h k pos false:=by
 rcases c with ⟨i,t,b⟩|⟨y,t,b,a⟩
 ·rw[b];exact AP
 ·rw[b];exact zP a
set_option tactic.hygienic true
theorem vP{a:la}{x:xa}{u:jg}{o:Sa}{es:Array Ta}{ep:Nat}{g:Int}(kh:List Nat)(f:h.get? a=some o)(hd:o.data=.dict es ep)(j:cx x es):
  kg w gs d os code (fr::st) h k pos (Nt a (.str x u) g es kh) h k pos none:=by
 unfold Nt
 refine Wc (Wu (b:=(none,())) λi _=>?_) (fe none)
 split
 ·rename_i e he
  have c:=j e (Wn he)
  split
  ·refine Wc (Xq f hd) (Wc (JL c) (Wc (Xq f hd) ?_))
   rw[if_neg (by simp)]
   rw[if_neg (by simp)]
   exact Wc (My (fe _)) (fe _)
  ·exact fe _
 ·exact fe _
set_option tactic.hygienic false
theorem yP{a:la}{x:xa}{u:jg}{o:Sa}{es:Array Ta}{ep:Nat}{f:Int}(g:h.get? a=some o)(hd:o.data=.dict es ep)(j:cx x es)(hi:(es.all λe=>isExactStrKey e.key)=false):
  kg w gs d os code (fr::st) h k pos (fw a (.str x u) f) h k pos none:=by
 unfold fw
 refine Hj _ (Wc (Vk g hd) ?_)
 have b:((Qj x u::(uC es.size (λi=>es[i]?.map (·.hash)) f).filterMap λi=>es[i]?.map (·.key)).all carriedByValue)=true:=by
  rw[Gz,List.all_eq_true.mpr,Bool.and_true]
  ·rfl
  ·intro v hv
   obtain ⟨i,_,hi⟩:=List.mem_filterMap.mp hv
   cases he:es[i]? with
   |none=>rw[he] at hi;cases hi
   |some e=>
    rw[he] at hi
    obtain rfl:e.key=v:=by simpa using hi
    rcases j e (Wn he) with ⟨i,t,c⟩|⟨y,t,c,l⟩
    ·rw[c];rfl
    ·rw[c];rfl
 dsimp only
 rw[hi,if_neg (by simp),if_pos b]
 exact vP _ g hd j
end
structure T3 where
 t:BT
 b:Nat
 u:BT
 c:Nat
noncomputable def ld3(s:T3)(a:la):Option (Sa×T3):=match Uh a s.b with
 |true=>(gv (s.t.get a)).bind λo=>some (o,s)
 |false=>(gv (s.u.get (a-s.b))).bind λo=>some (o,s)
noncomputable def JQ(s:T3)(a:la)(f:Sa->Sa):Option T3:=bif Wf s.b a then (gv (s.u.get (a-s.b))).bind λZ=>some ⟨s.t,s.b,s.u.set (a-s.b) f,s.c⟩ else none
noncomputable def al3(s:T3)(o:Sa):Option (la×T3):=bif ((s.u.ins s.c o).get s.c).isSome then some (s.b+s.c,⟨s.t,s.b,s.u.ins s.c o,Dn s.c⟩) else none
noncomputable def FY:rC T3:=⟨ld3,JQ,al3⟩
structure WB(yb:Na)(s:T3)(h:Na):Prop where
 size:h.objs.size=s.b+s.c
 old:∀i o,s.t.get i=some o->o.isFreed=false->i < s.b->yb.get? i=some o
 own:∀i o,s.u.get i=some o->o.isFreed=false->h.get? (s.b+i)=some o
 low:∀i,i < s.b->h.get? i=yb.get? i
theorem t3a(a b:Nat)(h:b<=a):b+(a-b)=a:=Vh h
theorem t3b(a b i:Nat)(h:b<=a)(q:i=a-b):b+i=a:=q▸Vh h
theorem t3c(a b i:Nat)(h:b<=a)(q:¬i=a-b):a≠b+i:=λe=>q (Nat.sub_eq_of_eq_add' e).symm
theorem M9(a b i:Nat)(h:b<=a)(q:i < b):a≠i:=Ee (Za q h)
theorem Bq{a b:Nat}(h:Uh a b=true):a < b:=Sd h
theorem WV{a b:Nat}(h:Uh a b=false):b<=a:=NN λq=>by
 have:Uh a b=true:=Nat.ble_eq_true_of_le q
 rw[this] at h;exact nomatch h
structure qC(b:Nat)(u:BT)(h:Na):Prop where
 own:∀i o,u.get i=some o->o.isFreed=false->h.get? (b+i)=some o
theorem qC.at{b:Nat}{u:BT}{h:Na}(w:qC b u h){a:Nat}{o:Sa}(hb:b<=a)(e:u.get (a-b)=some o)(q:o.isFreed=false):h.get? a=some o:=(congrArg h.get? (t3a a b hb)).symm.trans (w.own _ _ e q)
theorem qC.upd{b:Nat}{u:BT}{h:Na}(w:qC b u h){a:Nat}{o:Sa}{f:Sa->Sa}(hb:b<=a)(e:u.get (a-b)=some o)(c:h.get? a=some o):qC b (u.set (a-b) f) (h.update a f):=
 ⟨λi o' hi hf=>Sl c hf ((ey e hi).imp (λq=>⟨t3b a b i hb q.1,q.2⟩) λq=>⟨Hb (t3c a b i hb q.1),w.own _ _ q.2 hf⟩)⟩
theorem qC.push{b c:Nat}{u:BT}{h:Na}(w:qC b u h){o:Sa}(a:h.objs.size=b+c)(g:((u.ins c o).get c).isSome=true):qC b (u.ins c o) (h.push o):=
 ⟨λi o' hi hf=>Zo hf ((Pm g hi).imp (λq=>⟨(congrArg (b+·) q.1).trans a.symm,q.2⟩) λq=>w.own _ _ q hf)⟩
theorem zO(yb:Na):el FY (λZ=>True) (WB yb) where
 ld s a:=by
  show OK (match Uh a s.b with|true=>_|false=>_) _
  cases hb:Uh a s.b with
  |true=>exact OK.get λo e q=>OK.some ⟨id,λh Z r=>⟨(r.low a (Bq hb)).trans (r.old _ _ e q (Bq hb)),r⟩⟩
  |false=>exact OK.get λo e q=>OK.some ⟨id,λh Z r=>⟨qC.at ⟨r.own⟩ (WV hb) e q,r⟩⟩
 up s a f:=OK.bif λhb=>OK.get λo e q=>have hb:=Sd hb
  OK.some ⟨id,λh Z r=>have c:=qC.at ⟨r.own⟩ hb e q
   ⟨Sk c,Vj.trans r.size,r.old,(qC.upd ⟨r.own⟩ hb e c).own,λi hi=>(Ea h f (M9 a s.b i hb hi)).trans (r.low i hi)⟩⟩
 al s o:=OK.bif λg=>OK.some ⟨id,λh Z r=>⟨r.size.symm,om.trans (congrArg (·+1) r.size),r.old,(qC.push ⟨r.own⟩ r.size g).own,
  λi hi=>(Xt (Za hi (Ja (Ed _ _) (Cj r.size.symm)))).trans (r.low i hi)⟩⟩
theorem GL(m:Nat)(obl:List (la×la))(h:obl=(cu.reverse.filter (λx=>!Nat.beq x 0)).map (λx=>(m+140+(x-1),m+140+(x-1)))):∀p∈obl,p.1=p.2:=λp hp=>
 (List.mem_map.mp (h▸hp)).elim λx q=>by rw[<- q.2]
noncomputable def B4(cl:la):(m:Vb Fin)->Option {x:(Int×jg)×(Int×jg)×(Int×jg)×Bool×List Value×(Ob->Vb Fin) // m=.call (.call (.ref cl) ⟨[.int x.1.1 x.1.2,.int x.2.1.1 x.2.1.2,.int x.2.2.1.1 x.2.2.1.2],[]⟩) none x.2.2.2.1 x.2.2.2.2.1 x.2.2.2.2.2}
 |.call (.call (.ref a) ⟨[.int i d,.int j c,.int l b],[]⟩) none g lv f=>if h:a=cl then some ⟨((i,d),(j,c),(l,b),g,lv,f),h▸rfl⟩ else none
 |_=>none
noncomputable def bdO:(c:Eg)->Option {x:List cb×Be // c=.body x.1 x.2}
 |.body b e=>some ⟨(b,e),rfl⟩
 |_=>none
noncomputable def frO:(l:List rf)->Option {x:(Ob->Vb Fin)×Bool×List Value×Jn×xd×List Value // l=[.ret x.1 none x.2.1 x.2.2.1 (.builtin "claim.caller" x.2.2.2.1) x.2.2.2.2.1 x.2.2.2.2.2]}
 |[.ret y none g lv (.builtin id ar) q kp]=>if h:id="claim.caller" then some ⟨(y,g,lv,ar,q,kp),h▸rfl⟩ else none
 |_=>none
noncomputable def u1(s:T3):BT:=s.u.ins s.c Ln
noncomputable def u2(s:T3):BT:=(u1 s).ins (s.c+1) Ln
noncomputable def u3(s:T3):BT:=(u2 s).ins (s.c+2) Ln
noncomputable def u4(dd:Sa)(s:T3):BT:=(u3 s).ins (s.c+3) dd
noncomputable def u5(dd o:Sa)(s:T3):BT:=(u4 dd s).ins (s.c+4) o
structure U5(dd o:Sa)(s:T3):Prop where
 a:((u1 s).get s.c).isSome=true
 b:((u2 s).get (s.c+1)).isSome=true
 c:((u3 s).get (s.c+2)).isSome=true
 d:((u4 dd s).get (s.c+3)).isSome=true
 e:((u5 dd o s).get (s.c+4)).isSome=true
 lo:139<=s.b
 le:140<=s.b+s.c
noncomputable def Z9(dd o:Sa)(s:T3):Bool:=((u1 s).get s.c).isSome&&(((u2 s).get (s.c+1)).isSome&&(((u3 s).get (s.c+2)).isSome&&(((u4 dd s).get (s.c+3)).isSome&&(((u5 dd o s).get (s.c+4)).isSome&&(Wf 139 s.b&&Wf 140 (s.b+s.c))))))
theorem VS{dd o:Sa}{s:T3}(h:Z9 dd o s=true):U5 dd o s:=
 have h:=Bool.and_eq_true_iff.mp h;have e:=Bool.and_eq_true_iff.mp h.2;have d:=Bool.and_eq_true_iff.mp e.2;have c:=Bool.and_eq_true_iff.mp d.2;have b:=Bool.and_eq_true_iff.mp c.2;have a:=Bool.and_eq_true_iff.mp b.2
 ⟨h.1,e.1,d.1,c.1,b.1,Sd a.1,Sd a.2⟩
theorem aS{dd o o':Sa}{s:T3}(u:U5 dd o s){i:Nat}(hi:(u5 dd o s).get i=some o')(hf:o'.isFreed=false):(i=s.c+4/\o'=o)\/(i=s.c+3/\o'=dd)\/s.u.get i=some o':=
 have f:∀{p:Prop} {c:Nat},i=c/\o'=Ln->p:=λq=>nomatch (congrArg Obj.isFreed q.2).symm.trans hf
 (Pm u.e hi).imp_right λhi=>(Pm u.d hi).imp_right λhi=>(Pm u.c hi).elim f λhi=>(Pm u.b hi).elim f λhi=>(Pm u.a hi).elim f id
noncomputable def ZZ(cl:la)(d:la->Value->Value->Value->Sa)(dd:Sa)(a:Nat)(s:T3)(k:Nat)(t:Jb):Option (T3×Nat×Jb):=
 (B4 cl t.cur).bind λx=>(bdO t.code).bind λZ=>(frO t.stack).bind λZ=>(bif Z9 dd (d (s.b+s.c+3) (.int x.1.1.1 x.1.1.2) (.int x.1.2.1.1 x.1.2.1.2) (.int x.1.2.2.1.1 x.1.2.2.1.2)) s then
  some (⟨s.t,s.b,u5 dd (d (s.b+s.c+3) (.int x.1.1.1 x.1.1.2) (.int x.1.2.1.1 x.1.2.1.2) (.int x.1.2.2.1.1 x.1.2.2.1.2)) s,s.c+5⟩,k+a,⟨x.1.2.2.2.2.2 (.ok (.ret (.ref (s.b+s.c+4)))),t.code,t.pos,t.stack⟩) else none)
section
variable{w:ja}{gs:Array Bc}{d:cm}{yb:Na}
theorem yY(a:∀i o,(tw w).get i=some o->o.isFreed=false->yb.get? i=some o/\i < 139){st:T3}{h:Na}{m:Nat}(e:m+140=st.b+st.c)(d:139<=st.b)(r:WB yb st h):FE h ⟨tw w,m,[],cu,[]⟩ h:=
 ⟨λZ Z=>rfl,r.size.trans e.symm,λi o hi hf=>have q:=a i o hi hf;⟨(r.low i (Za q.2 d)).trans q.1,ye q.2⟩,λZ Z hi=>nomatch hi⟩
theorem zY{st:T3}{s':T2}{h h':Na}{dd o:Sa}(u:U5 dd o st)(r:WB yb st h)(R:FE h s' h')(hm:s'.m+140=st.b+st.c)(a:s'.new.length=5)(e:s'.new[3]?=some dd)(d:s'.new[4]?=some o):WB yb ⟨st.t,st.b,u5 dd o st,st.c+5⟩ h':=
 have ad:∀j,s'.m+140+j=st.b+(st.c+j):=λj=>by rw[hm,tW]
 ⟨R.size.trans ((congrArg (s'.m+140+·) a).trans (ad 5)),r.old,λi o' hi hf=>(aS u hi hf).elim (λq=>(congrArg h'.get? ((congrArg (st.b+·) q.1).trans (ad 4).symm)).trans (R.own 4 _ (d.trans (congrArg some q.2.symm)) hf))
   λq=>q.elim (λq=>(congrArg h'.get? ((congrArg (st.b+·) q.1).trans (ad 3).symm)).trans (R.own 3 _ (e.trans (congrArg some q.2.symm)) hf)) λq=>have q:=r.own _ _ q hf;(R.fr _ (hm▸r.size▸Ba q)).trans q,
  λi hi=>(R.fr i (hm▸Za hi (Ed _ _))).trans (r.low i hi)⟩
theorem MV(a:∀i o,(tw w).get i=some o->o.isFreed=false->yb.get? i=some o/\i < 139){st:T3}{k:Nat}{i:Int}{p:jg}{j:Int}{n:jg}{l:Int}{m:jg}{g0:Bool}{A:List Value}{f:Ob->Vb Fin}{b:List cb}{env:Be}{pos:xd}
  {y:Ob->Vb Fin} {g:Bool} {lv:List Value} {ar:Jn} {q:xd} {kp:List Value} (u:U5 kT (wD (st.b+st.c+3) (.int i p) (.int j n) (.int l m)) st):
  Gs (λZ=>True) (WB yb) PP w 11 ki gs d st k ⟨.call (.call (.ref 135) ⟨[.int i p,.int j n,.int l m],[]⟩) none g0 A f,.body b env,pos,[.ret y none g lv (.builtin "claim.caller" ar) q kp]⟩
   (⟨st.t,st.b,u5 kT (wD (st.b+st.c+3) (.int i p) (.int j n) (.int l m)) st,st.c+5⟩,k+7,⟨f (.ok (.ret (.ref (st.b+st.c+4)))),.body b env,pos,[.ret y none g lv (.builtin "claim.caller" ar) q kp]⟩):=by
 have s:st.b+st.c-140+140=st.b+st.c:=Me u.le
 refine⟨λZ=>trivial,λh os Z r=>?_⟩
 have v:=j4 w (w.params.followText Yn) (st.b+st.c-140) k i p j n l m g0 A f b env pos y g lv ar q kp
 unfold o4 SF at v
 rw[Nb,s] at v
 refine(Option.map_eq_some_iff.mp v).elim λz q=>?_
 have e:=Ih q.2
 have G:=Ih e.2
 have E:=Ih G.2
 have D:=Ih E.2
 have C:=Ih D.2
 have B:=Ih C.2
 refine((MJ (AO h) (UO (gs:=gs) (d:=d)) z q.1).2 h os (GL (st.b+st.c-140) z.1.obl (by rw[s];exact C.1)) (yY a s u.lo r)).imp λh' x=>⟨?_,zY u r x.2 (e.1▸s) G.1 E.1 D.1⟩
 have:=x.1
 rw[B.1,B.2] at this
 exact this
theorem ZP(a:∀i o,(tw w).get i=some o->o.isFreed=false->yb.get? i=some o/\i < 139){st:T3}{k:Nat}{i:Int}{n:jg}{j:Int}{m:jg}{l:Int}{h:jg}{g0:Bool}{p:List Value}{f:Ob->Vb Fin}{b:List cb}{env:Be}{pos:xd}
  {y:Ob->Vb Fin} {g:Bool} {lv:List Value} {ar:Jn} {q:xd} {kp:List Value} (u:U5 kT (wD (st.b+st.c+3) (.int i n) (.int j m) (.int l h)) st) {e:Vb Fin} {code:Eg} {stack:List rf}
  (v:e=.call (.call (.ref 135) ⟨[.int i n,.int j m,.int l h],[]⟩) none g0 p f) (s:code=.body b env) (r:stack=[.ret y none g lv (.builtin "claim.caller" ar) q kp]):
  Gs (λZ=>True) (WB yb) PP w 11 ki gs d st k ⟨e,code,pos,stack⟩
   (⟨st.t,st.b,u5 kT (wD (st.b+st.c+3) (.int i n) (.int j m) (.int l h)) st,st.c+5⟩,k+7,⟨f (.ok (.ret (.ref (st.b+st.c+4)))),code,pos,stack⟩):=by
 subst v s r
 exact MV a u
theorem SO(a:∀i o,(tw w).get i=some o->o.isFreed=false->yb.get? i=some o/\i < 139):
  Mx (λZ=>True) (WB yb) (ZZ 135 wD kT 7) PySem.Challenge.pw_im0110_02 w 11 ki gs d:=λZ Z Z=>OK.bind λx Z=>OK.bind λbd Z=>OK.bind λfr Z=>OK.bif λhc=>OK.some (ZP a (VS hc) x.2 bd.2 fr.2)
end
noncomputable def kL(st:cb)(a:Be):List (Option (Vb Value)×Vb Value):=match st with
 |.Assign _ (.Dict ks vs pos) _=>(evalEachOpt ks a).zip ((evalEach vs a).map λv=>do let x <- v;standAt pos;pure x)
 |_=>[]
noncomputable def vY(st:cb)(b:Be)(a n:Nat):List (Vb Value×Vb Value):=(((kL st b).filterMap λ(k,v)=>k.map (·,v)).drop a).take n
noncomputable def qv:=kL Pg Mg
noncomputable def rr:=vY Pg Mg
noncomputable def r1:=rr 0 17
noncomputable def r2:=rr 17 17
noncomputable def CY:=rr 34 10
noncomputable def lO:=rr 44 7
noncomputable def r4:=rr 51 17
noncomputable def r5:=rr 68 8
noncomputable def wg(d:la)(x:Vb Value×Vb Value)(_:PUnit.{1}):Vb (ForInStep PUnit.{1}):=
 x.1>>=λa=>holding [a] x.2>>=λb=>holding [a,b] (qW d a b)>>=λZ=>pure (.yield ⟨⟩)
noncomputable def qh:Sa:=⟨.type "dict",none,.dict #[] 0,#[]⟩
theorem dy{l:List (Vb Value×Vb Value)}(h:¬l.length<=15):Pn l=(alloc qh>>=λd=>holding [.ref d] (rule "dict.display.long">>=λZ=>forIn l iw (wg d)>>=λZ=>pure ())>>=λZ=>pure d):=by
 unfold Pn
 simp only[if_neg h]
 rfl
noncomputable def cJ{α:Type}(p:wa)(T:Vf->BT)(a:Jb)(w:ja)(b:Nat)(u:BT)(c k N:Nat)(m:Vb α)(K:α->Vb Fin)(H:Value->Vb Fin)(gd:Bool->Bool)(lv:List Value->List Value)(bd:List cb)(env:Be)(pos:xd)
  (y:Ob->Vb Fin) (g:Bool) (lv2:List Value) (ar:Jn) (q:xd) (kp:List Value):Option (T3×Nat×Jb):=
 rn FY (ZZ 135 wD kT 7) (Gb Ka) p w 11 ki N ⟨M3 p T a w,b,u,c⟩ k ⟨m.wrap K H gd lv,.body bd env,pos,[.ret y none g lv2 (.builtin "claim.caller" ar) q kp]⟩
noncomputable def vX{α:Type}:=@cJ α PP T0 ee
noncomputable def Hk(d:la)(l:List (Vb Value×Vb Value)):Vb Unit:=
 holding [.ref d] (Pn l)>>=λsub=>
  (holding [.ref d,.ref sub] (dw d (.ref sub) false)).onRaise λx=>do let _ <- holding [.ref d,x] (Z5 (.builtin "proto.let_go" {}))
noncomputable def Ga(L:List Ta)(n:Nat):Sa:=⟨.type "dict",none,.dict ⟨L⟩ n,#[]⟩
noncomputable def hashW(w:ja)(x:xa):Int:=if x.cps.isEmpty=true then 0 else reduceHash (w.params.strHash x.cps)
noncomputable def aD(p:wa)(w:ja)(b:Bool)(x:xa)(u:jg)(k:Nat)(K:Int->Vb Fin)(H:Value->Vb Fin)(gd:Bool->Bool)(lv:List Value->List Value)(code:Eg)(pos:xd)(fr:rf)(st:List rf):Prop:=
 rn iK qo (Gb Ka) p (w.withFollow "special-get-raises" b) 11 ki 7 () k ⟨(pyHash (.str x u)).wrap K H gd lv,code,pos,fr::st⟩=some ((),k+1,⟨K (hashW w x),code,pos,fr::st⟩)
noncomputable def wO(o:Sa):rC (List la):=⟨λs x=>some (o,x::s),λZ Z Z=>none,λZ Z=>none⟩
noncomputable def nL(p:wa)(w:ja)(b:Bool)(a:la)(L:List Ta)(ep:Nat)(k:Nat)(K:Bool->Vb Fin)(H:Value->Vb Fin)(gd:Bool->Bool)(lv:List Value->List Value)(code:Eg)(pos:xd)(fr:rf)(st:List rf):Prop:=
 rn (wO (Ga L ep)) qo (Gb Ka) p (w.withFollow "special-get-raises" b) 11 ki 1 [] k ⟨(Aj (.ref a) (.type "dict")).wrap K H gd lv,code,pos,fr::st⟩=some ([a],k,⟨K true,code,pos,fr::st⟩)
noncomputable def CJ(p:wa)(w:ja)(b:Bool)(a:la)(L:List Ta)(ep:Nat)(k:Nat)(K:Option Value->Vb Fin)(H:Value->Vb Fin)(gd:Bool->Bool)(lv:List Value->List Value)(code:Eg)(pos:xd)(fr:rf)(st:List rf):Prop:=
 rn (wO (Ga L ep)) qo (Gb Ka) p (w.withFollow "special-get-raises" b) 11 ki 1 [] k ⟨(Lj (.ref a) "__iter__").wrap K H gd lv,code,pos,fr::st⟩=some ([a],k,⟨K (some (.builtin "dict.__iter__")),code,pos,fr::st⟩)
noncomputable def ZJ:=aD PP
noncomputable def isOk:=nL PP
noncomputable def yS:=CJ PP
lay_quick Mine.aD Mine.nL Mine.CJ
theorem NS(w:ja)(b:Bool)(x:xa)(u:jg)(k:Nat)(K:Int->Vb Fin)(H:Value->Vb Fin)(gd:Bool->Bool)(lv:List Value->List Value)(code:Eg)(pos:xd)(fr:rf)(st:List rf):
  ZJ w b x u k K H gd lv code pos fr st:=by
 unfold ZJ
 rw[PySem.W.Fast.te4837742037730555451]
 unfold PySem.W.Fast.tw4837742037730555451
 cases b <;> kernel_rfl
theorem B2(w:ja)(b:Bool)(a:la)(L:List Ta)(ep:Nat)(k:Nat)(K:Bool->Vb Fin)(H:Value->Vb Fin)(gd:Bool->Bool)(lv:List Value->List Value)(code:Eg)(pos:xd)(fr:rf)(st:List rf):
  isOk w b a L ep k K H gd lv code pos fr st:=by
 unfold isOk
 rw[PySem.W.Fast.te13064014562274664319]
 unfold PySem.W.Fast.tw13064014562274664319
 cases b <;> kernel_rfl
theorem jY(w:ja)(b:Bool)(a:la)(L:List Ta)(ep:Nat)(k:Nat)(K:Option Value->Vb Fin)(H:Value->Vb Fin)(gd:Bool->Bool)(lv:List Value->List Value)(code:Eg)(pos:xd)(fr:rf)(st:List rf):
  yS w b a L ep k K H gd lv code pos fr st:=by
 unfold yS
 rw[PySem.W.Fast.te17611721155368527934]
 unfold PySem.W.Fast.tw17611721155368527934
 cases b <;> kernel_rfl
section
variable{α β:Type}{w:ja}{gs:Array Bc}{d:cm}{os:xi}{code:Eg}{fr:rf}{st:List rf}{h h' JA:Na}{k k' WG:Nat}{pos pos' qm:xd}
theorem vO{a:la}{o:Sa}(d:h.get? a=some o):el (wO o) (λs=>∀x∈s,x=a) (λZ h'=>h'=h):=
 ⟨λZ b=>OK.some ⟨λg x c=>g x (.tail _ c),λh' g r=>⟨r▸(congrArg h.get? (g b (.head _))).trans d,r⟩⟩,λZ Z Z=>OK.none,λZ Z=>OK.none⟩
theorem Zs{a:la}{o:Sa}(c:h.get? a=some o){N:Nat}{b:List la}(hg:∀x∈b,x=a){t t':Jb}(e:rn (wO o) qo (Gb Ka) PP w 11 ki N [] k t=some (b,k',t')):Goes PP w 11 ki ⟨h,gs,d,k,os⟩ t ⟨h,gs,d,k',os⟩ t':=
 (jm (vO c) (ko (good:=λs=>∀x∈s,x=a) (R:=λZ h'=>h'=h)) e hg rfl).elim λh' q=>q.2▸q.1
theorem nH{a:la}{L:List Ta}{ep:Nat}(b:h.get? a=some (Ga L ep)):kg w gs d os code (fr::st) h k pos (Aj (.ref a) (.type "dict")) h k pos true:=λK H gd lv=>by
 have e:=B2 w (w.params.followText Yn) a L ep k K H gd lv code pos fr st
 unfold isOk nL at e
 rw[Nb] at e
 exact Zs b (λx q=>List.mem_singleton.mp q) e
theorem lH{a:la}{L:List Ta}{ep:Nat}(b:h.get? a=some (Ga L ep)):kg w gs d os code (fr::st) h k pos (Lj (.ref a) "__iter__") h k pos (some (.builtin "dict.__iter__")):=λK H gd lv=>by
 have e:=jY w (w.params.followText Yn) a L ep k K H gd lv code pos fr st
 unfold yS CJ at e
 rw[Nb] at e
 exact Zs b (λx q=>List.mem_singleton.mp q) e
theorem mH{x:xa}{u:jg}:kg w gs d os code (fr::st) h k pos (pyHash (.str x u)) h (k+1) pos (hashW w x):=λK H gd lv=>by
 have e:=NS w (w.params.followText Yn) x u k K H gd lv code pos fr st
 unfold ZJ aD at e
 rw[Nb] at e
 exact yq e
structure Upd(a:la)(L:List Ta)(ep:Nat)(h h':Na):Prop where
 at_:h'.get? a=some (Ga L ep)
 other:∀i,i≠a->h'.get? i=h.get? i
 size:h'.objs.size=h.objs.size
theorem FF{a:la}{L:List Ta}{ep:Nat}{e:Ta}{q:Option Value}(b:h.get? a=some (Ga L ep))(f:Wf 11 a=true)(j:L.length < 1000):
  ∃h',kg w gs d os code (fr::st) h k pos (X5 a (·.push e) q) h' k pos ()/\Upd a (L++[e]) (ep+1) h h':=by
 have g:So (·.push e) (Ga L ep)=Ga (L++[e]) (ep+1):=by
  unfold Ga So
  simp
 have c:=zc (So (·.push e)) b rfl
 rw[g] at c
 refine⟨h.update a (So (·.push e)),?_,c,λi hi=>Ea h _ (Hb hi),?_⟩
 ·unfold X5
  refine Wc (du b (fe _)) ?_
  refine Wc (kH b f (fe _)) ?_
  unfold lookBehind
  refine Wc (du c (fe _)) ?_
  have hp:(Ga (L++[e]) (ep+1)).data.pastItsLine=none:=by
   show(if (⟨L++[e]⟩:Array Ta).size > Kb+1 then some "dict:memory" else none)=none
   rw[if_neg]
   have:(⟨L++[e]⟩:Array Ta).size=L.length+1:=by simp
   rw[this]
   unfold Kb
   lia
  rw[hp]
  exact fe _
 ·show(h.objs.modify a _).size=_
  rw[xI]
noncomputable def fL:Value->Bool
 |.int ..=>true
 |_=>false
noncomputable def Kl(L:List Ta)(e:Ta):Bool:=match e.key with
 |.str x _=>L.all (λa=>match a.key with|.int ..=>true|.str y _=>!(decide (y=x))|_=>false)&&L.any (λa=>!isExactStrKey a.key)
 |.int ..=>L.all (λa=>fL a.key&&!(decide (a.hash=e.hash)))
 |_=>false
theorem gJ{a:la}{b:Value}{c:Int}{es:Array Ta}:kg w gs d os code (fr::st) h k pos (Nt a b c es []) h k pos none:=by
 unfold Nt
 exact Wc (a:=(none,())) (fe _) (fe _)
theorem KA{a:la}{i:Int}{u:jg}{L:List Ta}{ep:Nat}{b:Int}(f:h.get? a=some (Ga L ep))(g:∀e∈L,fL e.key=true/\e.hash≠b):
  kg w gs d os code (fr::st) h k pos (fw a (.int i u) b) h k pos none:=by
 unfold fw
 refine Hj _ (Wc (Vk f rfl) ?_)
 have c:uC (⟨L⟩:Array Ta).size (λi=>(⟨L⟩:Array Ta)[i]?.map (·.hash)) b=[]:=by
  unfold uC
  refine List.filter_eq_nil_iff.mpr λj l=>?_
  intro q
  dsimp only at q
  cases he:(⟨L⟩:Array Ta)[j]? with
  |none=>rw[he] at q;simp at q
  |some e=>
   rw[he] at q
   have hm:e∈L:=by
    have:=Wn he
    simpa using this
   exact(g e hm).2 (by simpa using q)
 dsimp only
 rw[c]
 exact gJ
set_option tactic.hygienic true
theorem bt{a:la}{L:List Ta}{ep:Nat}{e:Ta}(j:h.get? a=some (Ga L ep))(ok:Kl L e=true):
  kg w gs d os code (fr::st) h k pos (fw a e.key e.hash) h k pos none:=by
 delta Kl at ok
 split at ok
 ·rename_i x u f
  rw[f]
  refine(Bool.and_eq_true_iff.mp ok).elim λm l=>?_
  refine yP j rfl ?_ ?_
  ·intro c b
   have hm:c∈L:=by simpa using b
   have:=List.all_eq_true.mp m c hm
   split at this
   ·rename_i i t g;exact .inl ⟨i,t,g⟩
   ·rename_i y t g;exact .inr ⟨y,t,g,by simpa using this⟩
   ·exact nomatch this
  ·obtain ⟨c,hm,b⟩:=List.any_eq_true.mp l
   refine Bool.eq_false_iff.mpr λq=>?_
   have:=Array.all_eq_true'.mp q c (by simpa using hm)
   rw[this] at b
   cases b
 ·rename_i i u f
  rw[f]
  refine KA j λc hm=>?_
  have:=List.all_eq_true.mp ok c hm
  simpa using this
 ·exact nomatch ok
set_option tactic.hygienic false
theorem JD{a:la}{L:List Ta}{ep:Nat}{e:Ta}(b:h.get? a=some (Ga L ep))(f:Wf 11 a=true)(c:L.length < 1000)(ok:Kl L e=true):
  ∃h',kg w gs d os code (fr::st) h k pos (dictPut a e.hash e.key e.val) h' k pos ()/\Upd a (L++[e]) (ep+1) h h':=by
 obtain ⟨h',x,y⟩:=FF (w:=w) (gs:=gs) (d:=d) (os:=os) (code:=code) (fr:=fr) (st:=st) (k:=k) (pos:=pos) (e:=e) (q:=none) b f c
 refine⟨h',?_,y⟩
 unfold dictPut
 exact Wc (bt b ok) x
theorem ID{a:la}{L:List Ta}{ep:Nat}{x:xa}{u:jg}{v:Value}(b:h.get? a=some (Ga L ep))(g:Wf 11 a=true)(f:L.length < 1000)(ok:Kl L ⟨hashW w x,.str x u,v⟩=true):
  ∃h',kg w gs d os code (fr::st) h k pos (qW a (.str x u) v) h' (k+1) pos ()/\Upd a (L++[⟨hashW w x,.str x u,v⟩]) (ep+1) h h':=by
 refine Nc λi=>?_;obtain ⟨h',c,y⟩:=FF (w:=w) (gs:=gs) (d:=d) (os:=os) (code:=code) (fr:=fr) (st:=st) (k:=k+1) (pos:=pos) (e:=⟨hashW w x,.str x u,v⟩) (q:=keyPart (.str x u)) b g f;refine i ?_
 refine⟨h',?_,y⟩
 unfold qW
 refine Hj _ (Wc mH ?_)
 unfold dictSetHashed
 refine Hj _ (Wc (bt (e:=⟨hashW w x,.str x u,v⟩) b ok) ?_)
 exact Wc (My (fe _)) c
end
section
variable{α β:Type}{w:ja}{gs:Array Bc}{d:cm}{os:xi}{code:Eg}{fr:rf}{st:List rf}{h h' JA:Na}{k k' WG:Nat}{pos pos' qm:xd}
noncomputable def sm:List Ta->List Ta->Bool
 |_,[]=>true
 |L,e::M=>Kl L e&&sm (L++[e]) M
theorem Upd.trans{a:la}{L c:List Ta}{ep b:Nat}(x:Upd a L ep h h')(y:Upd a c b h' JA):Upd a c b h JA:=
 ⟨y.at_,λi hi=>(y.other i hi).trans (x.other i hi),y.size.trans x.size⟩
theorem GF{dd a:la}{M:List Ta}{em:Nat}(h:a≠dd){f:Nat->PUnit->Vb (ForInStep PUnit)}
  (hf:∀(i:Nat) (b:Na) (e:Ta) (L:List Ta) (ep:Nat),b.get? a=some (Ga M em)->M[i]?=some e->b.get? dd=some (Ga L ep)->L.length < 1000->Kl L e=true->
   ∃c,kg w gs d os code (fr::st) b k pos (f i ⟨⟩) c k pos (.yield ⟨⟩)/\Upd dd (L++[e]) (ep+1) b c):
  ∀(g M1:List Ta) (L:List Ta) (ep:Nat) (b:Na),M=M1++g->b.get? a=some (Ga M em)->b.get? dd=some (Ga L ep)->L.length+g.length < 1000->sm L g=true->
   ∃c,kg w gs d os code (fr::st) b k pos (forIn (QE M1.length g.length) iw f) c k pos ⟨⟩/\Upd dd (L++g) (ep+g.length) b c
 |[],M1,L,ep,b,_,_,j,_,_=>⟨b,fe _,by rw[Dg];exact j,λZ Z=>rfl,rfl⟩
 |e::g,M1,L,ep,b,m,o,j,r,ok=>by
  simp only[sm,Bd] at ok
  have q:L.length+(g.length+1) < 1000:=by simpa using r
  have hi:M[M1.length]?=some e:=by rw[m];simp
  refine Nc λs=>?_;obtain ⟨n,u,u1⟩:=hf M1.length b e L ep o hi j (by lia) ok.1
  have l:n.get? a=some (Ga M em):=(u1.other a h).trans o
  obtain ⟨t,p,u2⟩:=GF h hf g (M1++[e]) (L++[e]) (ep+1) n (by rw[m];simp) l u1.at_ (by simp;lia) ok.2;refine s ?_
  refine⟨t,?_,?_⟩
  ·rw[fg,List.range'_succ,de]
   have v:(M1++[e]).length=M1.length+1:=by simp
   rw[v] at p
   exact Wc u p
  ·have:=u1.trans u2
   rw[Ze,Uo] at this
   rw[fg,show ep+(g.length+1)=ep+1+g.length by lia]
   exact this
theorem IL{dd a:la}{L M:List Ta}{ep em:Nat}(c:a≠dd)(m:h.get? dd=some (Ga L ep))(hm:h.get? a=some (Ga M em))(t:L.isEmpty=false)(o:Wf 11 dd=true)
  (b:(a==sysModules)=false) (j:L.length+M.length < 1000) (ok:sm L M=true):
  ∃h',kg w gs d os code (fr::st) h k pos (dw dd (.ref a) false) h' k pos ()/\Upd dd (L++M) (ep+M.length) h h':=by
 delta dw
 have body:=GF (w:=w) (gs:=gs) (d:=d) (os:=os) (code:=code) (fr:=fr) (st:=st) (k:=k) (pos:=pos) (M:=M) (em:=em) c
  (f:=λi Z=>do
   let some e:=(<- DN a)[i]?|unsupported "dict.changed-during-merge"
   holding [e.key,e.val] do
    if false then
     if (<- fw dd e.key e.hash).isSome then rule "dict.merge.duplicate-key";raiseNew (<- NR (.type "KeyError") [e.key])
    dictPut dd e.hash e.key e.val
   if (<- bX a) != em then unsupported "dict.changed-during-merge"
   pure (.yield ⟨⟩)) (by
   intro i s e L ep n hi q j ok
   obtain ⟨p,g,u⟩:=JD (w:=w) (gs:=gs) (d:=d) (os:=os) (code:=code) (fr:=fr) (st:=st) (k:=k) (pos:=pos) q o j ok
   refine⟨p,?_,u⟩
   refine Wc (Vk n rfl) ?_
   have l:(⟨M⟩:Array Ta)[i]?=some e:=by simpa using hi
   rw[l]
   refine Wc (Hj _ g) ?_
   refine Wc (Xq ((u.other a c).trans n) rfl) ?_
   rw[if_neg (by simp)]
   exact fe _) M [] L ep h rfl hm m j ok
 obtain ⟨h',g,u⟩:=body
 refine⟨h',?_,u⟩
 refine Wc (nH hm) ?_
 rw[if_pos rfl]
 refine Wc (lH hm) ?_
 have hb:((some (Rx "dict.__iter__"):Option Value)==some (Rx "dict.__iter__"))=true:=by decide
 rw[hb]
 refine Wc (fe true) ?_
 dsimp only
 rw[if_neg (by rw[b];simp)]
 refine Wc (Vk m rfl) ?_
 rw[if_neg (by cases L <;> simp_all)]
 refine Wc (Vk hm rfl) ?_
 refine Wc (Xq hm rfl) ?_
 have r:Qa (⟨M⟩:Array Ta).size=QE ([]:List Ta).length M.length:=by
  rw[List.range_eq_range'];simp
 rw[r]
 exact Wc g (fe _)
end
noncomputable abbrev KV:=Vb Value×Vb Value
noncomputable abbrev vi(x:KV):Option (Vb Value)×Vb Value:=(some x.1,x.2)
noncomputable abbrev Sv:=Option la×List KV
noncomputable def er(Nz:List KV):Option la->Vb (Option la)
 |none=>Pn Nz>>=λa=>pure (some a)
 |some d=>Hk d Nz>>=λZ=>pure (some d)
section
variable{f:Option (Vb Value)×Vb Value->Sv->Vb (ForInStep Sv)}
 (hf:∀(x:KV) (m:Option la) (Nz:List KV),Nz.length+1 < 17->f (vi x) (m,Nz)=pure (.yield (m,Nz++[x])))
 (hg:∀(x:KV) (m:Option la) (Nz:List KV),Nz.length+1=17->f (vi x) (m,Nz)=(er (Nz++[x]) m>>=λm'=>pure (.yield (m',[]))))
include hf in
theorem js:∀(l:List KV) (m:Option la) (Nz:List KV) (rest:List (Option (Vb Value)×Vb Value)),Nz.length+l.length < 17->forIn (l.map vi++rest) (m,Nz) f=forIn rest (m,Nz++l) f
 |[],m,Nz,rest,_=>by simp
 |x::l,m,Nz,rest,h=>by
  have h':Nz.length+(l.length+1) < 17:=by simpa using h
  rw[vb,pN,de,hf x m Nz (by lia),pure_bind]
  show forIn (l.map vi++rest) (m,Nz++[x]) f=_
  rw[js l m (Nz++[x]) rest (by simp;lia),Ze,Uo]
include hf hg in
theorem ir(l:List KV)(m:Option la)(rest:List (Option (Vb Value)×Vb Value))(h:l.length=17):forIn (l.map vi++rest) (m,[]) f=(er l m>>=λc=>forIn rest (c,[]) f):=by
 obtain ⟨b,x,rfl⟩:∃b x,l=b++[x]:=by
  have a:l≠[]:=λe=>by subst e;cases h
  exact⟨l.dropLast,l.getLast a,(List.dropLast_concat_getLast a).symm⟩
 have d:b.length=16:=by simp at h;lia
 rw[Jf,Ze,js hf b m [] _ (by rw[d];decide),vb,rl,Uo,de,hg x m _ (by simp;lia),bind_assoc]
 refine bind_congr λc=>?_
 rw[pure_bind]
end
theorem SD(Nz:List KV)(m:Option la)(h:Nz.isEmpty=false):(if Nz.isEmpty=true then pure m
   else
    match m with
    |none=>do
     let __do_lift <- Pn Nz
     pure (some __do_lift)
    |some d=>do
     let sub <- holding [ri d] (Pn Nz)
     (holding [ri d,ri sub] (dw d (ri sub) false)).onRaise λx=>do
       let _ <- holding [ri d,x] (Z5 (fC "proto.let_go" {}))
       pure ()
     pure (some d):Vb (Option la))=er Nz m:=by
 rw[if_neg (by rw[h];simp)]
 cases m with
 |none=>rfl
 |some d=>
  simp only[er,Hk,bind_assoc]
theorem ys{i l2 g c a:List KV}(u:i.length=17)(t:l2.length=17)(s:g.length=17)(r:c.length=17)(q:a.length < 17)(j:a.isEmpty=false):
  dictDisplay (i.map vi++(l2.map vi++(g.map vi++(c.map vi++a.map vi))))=
   (Pn i>>=λd=>Hk d l2>>=λZ=>Hk d g>>=λZ=>Hk d c>>=λZ=>Hk d a>>=λZ=>pure (.ref d)):=by
 delta dictDisplay
 dsimp only
 have b:=λ(f:Option (Vb Value)×Vb Value->Sv->Vb (ForInStep Sv)) hf hg=>(ir (f:=f) hf hg i none _ u).trans (bind_congr λo=>(ir (f:=f) hf hg l2 o _ t).trans
  (bind_congr λn=>(ir (f:=f) hf hg g n _ s).trans (bind_congr λl=>(ir (f:=f) hf hg c l _ r).trans (bind_congr λk=>
   (congrArg (λz=>forIn z (k,([]:List KV)) f) (Dg (a.map vi)).symm).trans ((js (f:=f) hf a k [] [] (by simpa using q)))))))
 rw[b]
 ·simp only[er,bind_assoc,pure_bind,El,Un]
  simp only[j,Vi,if_false,bind_assoc,pure_bind,Hk]
 ·intro x m Nz h
  show(if ((Nz++[x]).length==17)=true then _ else _)=_
  rw[if_neg (by simp;lia)]
 ·intro x m Nz h
  show(if ((Nz++[x]).length==17)=true then _ else _)=_
  rw[if_pos (by simp;lia)]
  have e:=SD (Nz++[x]) m (by simp)
  exact congrArg (λz:Vb (Option la)=>z>>=λp=>(pure (uc (p,[])):Vb (ForInStep Sv))) e
noncomputable def Ug:xd:=⟨74,6,74,9499⟩
noncomputable def E1:List Ta:=[⟨(-3),.int (-3) 262,.ref 140⟩,⟨(-2),.int (-2) 259,.ref 147⟩,⟨(-2),.int (-1) 256,.ref 160⟩,⟨0,.int 0 253,.ref 173⟩,⟨1,.int 1 492,.ref 192⟩,⟨2,.int 2 538,.ref 217⟩,⟨3,.int 3 584,.ref 242⟩,⟨4,.int 4 630,.ref 267⟩,⟨5,.int 5 676,.ref 292⟩,⟨6,.int 6 742,.ref 327⟩,⟨7,.int 7 788,.ref 352⟩,⟨8,.int 8 854,.ref 387⟩,⟨9,.int 9 930,.ref 427⟩,⟨10,.int 10 1006,.ref 467⟩,⟨11,.int 11 1092,.ref 512⟩,⟨12,.int 12 1168,.ref 552⟩,⟨13,.int 13 1254,.ref 597⟩]
noncomputable def F1:List (Nat×Sa):=[(140,Ga [⟨4238894112,.none,.ref 146⟩] 1),(144,Ga [] 0),(145,⟨.ref 135,some 144,.seq ⟨[.int 1 400,.int 5 401,.int 3 402]⟩ 0,⟨[]⟩⟩),(146,⟨.type "tuple",none,.seq ⟨[.ref 145]⟩ 0,⟨[]⟩⟩),(147,Ga [⟨1,.int 1 264,.ref 153⟩,⟨0,.int 0 266,.ref 159⟩] 2),(151,Ga [] 0),(152,⟨.ref 135,some 151,.seq ⟨[.int 1 412,.int 10 413,.int 5 414]⟩ 0,⟨[]⟩⟩),(153,⟨.type "tuple",none,.seq ⟨[.ref 152]⟩ 0,⟨[]⟩⟩),(157,Ga [] 0),(158,⟨.ref 135,some 157,.seq ⟨[.int 1 422,.int 10 423,.int 4 424]⟩ 0,⟨[]⟩⟩),(159,⟨.type "tuple",none,.seq ⟨[.ref 158]⟩ 0,⟨[]⟩⟩),(160,Ga [⟨1,.int 1 264,.ref 166⟩,⟨0,.int 0 266,.ref 172⟩] 2),(164,Ga [] 0),(165,⟨.ref 135,some 164,.seq ⟨[.int 1 435,.int 17 436,.int 11 437]⟩ 0,⟨[]⟩⟩),(166,⟨.type "tuple",none,.seq ⟨[.ref 165]⟩ 0,⟨[]⟩⟩),(170,Ga [] 0),(171,⟨.ref 135,some 170,.seq ⟨[.int 1 445,.int 17 446,.int 9 447]⟩ 0,⟨[]⟩⟩),(172,⟨.type "tuple",none,.seq ⟨[.ref 171]⟩ 0,⟨[]⟩⟩),(173,Ga [⟨1,.int 1 264,.ref 179⟩,⟨0,.int 0 266,.ref 185⟩,⟨3,.int 3 268,.ref 191⟩] 3),(177,Ga [] 0),(178,⟨.ref 135,some 177,.seq ⟨[.int 1 458,.int 24 459,.int 16 460]⟩ 0,⟨[]⟩⟩),(179,⟨.type "tuple",none,.seq ⟨[.ref 178]⟩ 0,⟨[]⟩⟩),(183,Ga [] 0),(184,⟨.ref 135,some 183,.seq ⟨[.int 1 468,.int 24 469,.int 14 470]⟩ 0,⟨[]⟩⟩),(185,⟨.type "tuple",none,.seq ⟨[.ref 184]⟩ 0,⟨[]⟩⟩),(189,Ga [] 0),(190,⟨.ref 135,some 189,.seq ⟨[.int 1 478,.int 24 479,.int 10 480]⟩ 0,⟨[]⟩⟩),(191,⟨.type "tuple",none,.seq ⟨[.ref 190]⟩ 0,⟨[]⟩⟩),(192,Ga [⟨1,.int 1 264,.ref 198⟩,⟨0,.int 0 266,.ref 204⟩,⟨3,.int 3 268,.ref 210⟩,⟨2,.int 2 270,.ref 216⟩] 4),(196,Ga [] 0),(197,⟨.ref 135,some 196,.seq ⟨[.int 1 493,.int 26 494,.int 19 495]⟩ 0,⟨[]⟩⟩),(198,⟨.type "tuple",none,.seq ⟨[.ref 197]⟩ 0,⟨[]⟩⟩),(202,Ga [] 0),(203,⟨.ref 135,some 202,.seq ⟨[.int 1 503,.int 26 504,.int 16 505]⟩ 0,⟨[]⟩⟩),(204,⟨.type "tuple",none,.seq ⟨[.ref 203]⟩ 0,⟨[]⟩⟩),(208,Ga [] 0),(209,⟨.ref 135,some 208,.seq ⟨[.int 1 513,.int 26 514,.int 13 515]⟩ 0,⟨[]⟩⟩),(210,⟨.type "tuple",none,.seq ⟨[.ref 209]⟩ 0,⟨[]⟩⟩),(214,Ga [] 0),(215,⟨.ref 135,some 214,.seq ⟨[.int 1 523,.int 26 524,.int 9 525]⟩ 0,⟨[]⟩⟩),(216,⟨.type "tuple",none,.seq ⟨[.ref 215]⟩ 0,⟨[]⟩⟩)]
noncomputable def E2:List Ta:=[⟨14,.int 14 1330,.ref 638⟩,⟨15,.int 15 1416,.ref 683⟩,⟨16,.int 16 1502,.ref 728⟩,⟨17,.int 17 1588,.ref 773⟩,⟨18,.int 18 1674,.ref 818⟩,⟨19,.int 19 1760,.ref 863⟩,⟨20,.int 20 1846,.ref 908⟩,⟨21,.int 21 1932,.ref 953⟩,⟨22,.int 22 2008,.ref 993⟩,⟨23,.int 23 2074,.ref 1028⟩,⟨24,.int 24 2160,.ref 1073⟩,⟨25,.int 25 2246,.ref 1118⟩,⟨26,.int 26 2332,.ref 1163⟩,⟨27,.int 27 2418,.ref 1208⟩,⟨28,.int 28 2504,.ref 1253⟩,⟨29,.int 29 2590,.ref 1298⟩,⟨30,.int 30 2676,.ref 1343⟩]
noncomputable def Jt:List Ta:=[⟨31,.int 31 2762,.ref 1389⟩,⟨32,.int 32 2848,.ref 1434⟩,⟨33,.int 33 2924,.ref 1474⟩,⟨34,.int 34 3010,.ref 1519⟩,⟨35,.int 35 3096,.ref 1564⟩,⟨36,.int 36 3182,.ref 1609⟩,⟨37,.int 37 3268,.ref 1654⟩,⟨38,.int 38 3354,.ref 1699⟩,⟨39,.int 39 3440,.ref 1744⟩,⟨40,.int 40 3526,.ref 1789⟩]
noncomputable def Gq(w:ja):List Ta:=[⟨hashW w "R7x43",.str "R7x43" 3612,.ref 1834⟩,⟨hashW w "R7x59",.str "R7x59" 3618,.ref 1835⟩,⟨hashW w "R7x77",.str "R7x77" 3624,.ref 1836⟩,⟨hashW w "R7x99",.str "R7x99" 3630,.ref 1837⟩,⟨hashW w "R7x139",.str "R7x139" 3636,.ref 1838⟩,⟨hashW w "R9x43",.str "R9x43" 3642,.ref 1839⟩,⟨hashW w "R9x59",.str "R9x59" 3648,.ref 1840⟩]
noncomputable def E4(w:ja):List Ta:=[⟨hashW w "R9x77",.str "R9x77" 3654,.ref 1842⟩,⟨hashW w "R9x99",.str "R9x99" 3660,.ref 1843⟩,⟨hashW w "R9x139",.str "R9x139" 3666,.ref 1844⟩,⟨hashW w "R11x27",.str "R11x27" 3672,.ref 1845⟩,⟨hashW w "R11x43",.str "R11x43" 3678,.ref 1846⟩,⟨hashW w "R11x59",.str "R11x59" 3684,.ref 1847⟩,⟨hashW w "R11x77",.str "R11x77" 3690,.ref 1848⟩,⟨hashW w "R11x99",.str "R11x99" 3696,.ref 1849⟩,⟨hashW w "R11x139",.str "R11x139" 3702,.ref 1850⟩,⟨hashW w "R13x27",.str "R13x27" 3708,.ref 1851⟩,⟨hashW w "R13x43",.str "R13x43" 3714,.ref 1852⟩,⟨hashW w "R13x59",.str "R13x59" 3720,.ref 1853⟩,⟨hashW w "R13x77",.str "R13x77" 3726,.ref 1854⟩,⟨hashW w "R13x99",.str "R13x99" 3732,.ref 1855⟩,⟨hashW w "R13x139",.str "R13x139" 3738,.ref 1856⟩,⟨hashW w "R15x43",.str "R15x43" 3744,.ref 1857⟩,⟨hashW w "R15x59",.str "R15x59" 3750,.ref 1858⟩]
noncomputable def E5(w:ja):List Ta:=[⟨hashW w "R15x77",.str "R15x77" 3756,.ref 1860⟩,⟨hashW w "R15x99",.str "R15x99" 3761,.ref 1861⟩,⟨hashW w "R15x139",.str "R15x139" 3766,.ref 1862⟩,⟨hashW w "R17x43",.str "R17x43" 3771,.ref 1863⟩,⟨hashW w "R17x59",.str "R17x59" 3776,.ref 1864⟩,⟨hashW w "R17x77",.str "R17x77" 3781,.ref 1865⟩,⟨hashW w "R17x99",.str "R17x99" 3786,.ref 1866⟩,⟨hashW w "R17x139",.str "R17x139" 3791,.ref 1867⟩]
noncomputable def lp(d:la):List KV->Vb PUnit
 |[]=>si ⟨⟩
 |x::l=>wg d x ⟨⟩>>=λZ=>lp d l
theorem RA(d:la):∀l:List KV,forIn l iw (wg d)=lp d l
 |[]=>rfl
 |x::l=>by
  rw[de]
  show _=(wg d x ⟨⟩>>=λZ=>lp d l)
  rw[<- RA d l]
  simp only[wg,bind_assoc,pure_bind]
noncomputable def BA(x:KV):Vb (Value×Value):=x.1>>=λa=>holding [a] x.2>>=λb=>si (a,b)
noncomputable def Qq(i:Nat):KV:=lO.getD i (si .none,si .none)
noncomputable abbrev Jg(y:Ob->Vb Fin)(g:Bool)(lv2:List Value)(ar:Jn)(q:xd)(kp:List Value):List rf:=[.ret y none g lv2 (.builtin "claim.caller" ar) q kp]
noncomputable def uG(p:wa)(T:Vf->BT)(f:Jb)(st:cb)(h:Be)(a n d tk N c' e:Nat)(F:List (Nat×Sa))(w:ja)(b:Bool)(K:la->Vb Fin)(H:Value->Vb Fin)(gd:Bool->Bool)(lv:List Value->List Value)(bd:List cb)(env:Be)(pos:xd)(y:Ob->Vb Fin)(g:Bool)(lv2:List Value)(ar:Jn)(q:xd)(kp:List Value):Prop:=
 (cJ p T f (w.withFollow "special-get-raises" b) d .nil 0 tk N (Pn (vY st h a n)) K H gd lv bd env pos y g lv2 ar q kp).map (λr=>(r.1.b,r.1.c,r.2.1,r.2.2,F.map λx=>r.1.u.get (x.1-d)))=
  some (d,c',e,⟨K d,.body bd env,Ug,Jg y g lv2 ar q kp⟩,F.map λx=>some x.2)
noncomputable def P6(p:wa)(T:Vf->BT)(a:Jb)(st:cb)(d:Be)(w:ja)(b:Bool)(l2:List KV)(K:PUnit->Vb Fin)(H:Value->Vb Fin)(gd:Bool->Bool)(lv:List Value->List Value)(bd:List cb)(env:Be)(pos:xd)(y:Ob->Vb Fin)(g:Bool)(lv2:List Value)(ar:Jn)(q:xd)(kp:List Value):Prop:=
 (cJ p T a (w.withFollow "special-get-raises" b) 1388 (BT.nil.ins 0 qh) 1 2762 1530 (lp 1388 (vY st d 34 10++l2)) K H gd lv bd env pos y g lv2 ar q kp).map (λr=>(r.1.b,r.1.c,r.2.1,r.2.2,([(1388,Ga Jt 10)]).map λx=>r.1.u.get (x.1-1388)))=
  some (1388,446,3612,⟨(lp 1388 l2).wrap K H gd lv,.body bd env,Ug,Jg y g lv2 ar q kp⟩,([(1388,Ga Jt 10)]).map λx=>some x.2)
noncomputable def vG(p:wa)(T:Vf->BT)(a:Jb)(st:cb)(d:Be)(i:Nat)(x:xa)(w:ja)(b:Bool)(K:(Value×Value)->Vb Fin)(H:Value->Vb Fin)(gd:Bool->Bool)(lv:List Value->List Value)(bd:List cb)(env:Be)(pos:xd)(y:Ob->Vb Fin)(g:Bool)(lv2:List Value)(ar:Jn)(q:xd)(kp:List Value):Prop:=
 (cJ p T a (w.withFollow "special-get-raises" b) (1834+i) .nil 0 (3612+6*i) 32 (BA ((vY st d 44 7).getD i (si .none,si .none))) K H gd lv bd env pos y g lv2 ar q kp).map (λr=>(r.1.b,r.1.c,r.2.1,r.2.2,([]:List (Nat×Sa)).map λx=>r.1.u.get (x.1-(1834+i))))=
  some (1834+i,1,3612+6*i+5,⟨K (.str x (3612+6*i),.ref (1834+i)),.body bd env,Ug,Jg y g lv2 ar q kp⟩,([]:List (Nat×Sa)).map λx=>some x.2)
noncomputable def fS:=uG PP T0 ee Pg Mg 0 17 139 400 1989 498 1330 ((139,Ga E1 17)::F1)
noncomputable def eS:=uG PP T0 ee Pg Mg 17 17 637 1330 2590 751 2762 [(637,Ga E2 17)]
noncomputable def dS:=P6 PP T0 ee Pg Mg
noncomputable def cS(w:ja):=uG PP T0 ee Pg Mg 51 17 1841 3654 750 18 3756 [(1841,Ga (E4 w) 17)] w
noncomputable def bS(w:ja):=uG PP T0 ee Pg Mg 68 8 1859 3756 353 9 3804 [(1859,Ga (E5 w) 8)] w
noncomputable def gC(i:Nat):=vG PP T0 ee Pg Mg i ((["R7x43","R7x59","R7x77","R7x99","R7x139","R9x43","R9x59"]:List xa).getD i "")
lay_quick Mine.uG Mine.P6 Mine.vG
section
variable(w:ja)(b:Bool)(l2:List KV)(K:la->Vb Fin)(K3:PUnit->Vb Fin)(gW:(Value×Value)->Vb Fin)(H:Value->Vb Fin)(gd:Bool->Bool)(lv:List Value->List Value)(bd:List cb)(env:Be)(pos:xd)(y:Ob->Vb Fin)(g:Bool)(lv2:List Value)(ar:Jn)(q:xd)(kp:List Value)
theorem IX:fS w b K H gd lv bd env pos y g lv2 ar q kp:=by
 unfold fS
 rw[PySem.W.Fast.te6900268148125698289]
 unfold PySem.W.Fast.tw6900268148125698289
 cases b <;> kernel_rfl
theorem HX:eS w b K H gd lv bd env pos y g lv2 ar q kp:=by
 unfold eS
 rw[PySem.W.Fast.te6900268148125698289]
 unfold PySem.W.Fast.tw6900268148125698289
 cases b <;> kernel_rfl
theorem FX:cS w b K H gd lv bd env pos y g lv2 ar q kp:=by
 unfold cS
 rw[PySem.W.Fast.te6900268148125698289]
 unfold PySem.W.Fast.tw6900268148125698289
 cases b <;> kernel_rfl
theorem EX:bS w b K H gd lv bd env pos y g lv2 ar q kp:=by
 unfold bS
 rw[PySem.W.Fast.te6900268148125698289]
 unfold PySem.W.Fast.tw6900268148125698289
 cases b <;> kernel_rfl
theorem GX:dS w b l2 K3 H gd lv bd env pos y g lv2 ar q kp:=by
 unfold dS
 rw[PySem.W.Fast.te11274477184840987208]
 unfold PySem.W.Fast.tw11274477184840987208
 cases b <;> kernel_rfl
theorem DX:gC 0 w b gW H gd lv bd env pos y g lv2 ar q kp:=by
 unfold gC
 rw[PySem.W.Fast.te6057288730196198782]
 unfold PySem.W.Fast.tw6057288730196198782
 cases b <;> kernel_rfl
theorem CX:gC 1 w b gW H gd lv bd env pos y g lv2 ar q kp:=by
 unfold gC
 rw[PySem.W.Fast.te6057288730196198782]
 unfold PySem.W.Fast.tw6057288730196198782
 cases b <;> kernel_rfl
theorem BX:gC 2 w b gW H gd lv bd env pos y g lv2 ar q kp:=by
 unfold gC
 rw[PySem.W.Fast.te6057288730196198782]
 unfold PySem.W.Fast.tw6057288730196198782
 cases b <;> kernel_rfl
theorem AX:gC 3 w b gW H gd lv bd env pos y g lv2 ar q kp:=by
 unfold gC
 rw[PySem.W.Fast.te6057288730196198782]
 unfold PySem.W.Fast.tw6057288730196198782
 cases b <;> kernel_rfl
theorem zX:gC 4 w b gW H gd lv bd env pos y g lv2 ar q kp:=by
 unfold gC
 rw[PySem.W.Fast.te6057288730196198782]
 unfold PySem.W.Fast.tw6057288730196198782
 cases b <;> kernel_rfl
theorem yX:gC 5 w b gW H gd lv bd env pos y g lv2 ar q kp:=by
 unfold gC
 rw[PySem.W.Fast.te6057288730196198782]
 unfold PySem.W.Fast.tw6057288730196198782
 cases b <;> kernel_rfl
theorem xX:gC 6 w b gW H gd lv bd env pos y g lv2 ar q kp:=by
 unfold gC
 rw[PySem.W.Fast.te6057288730196198782]
 unfold PySem.W.Fast.tw6057288730196198782
 cases b <;> kernel_rfl
end
noncomputable def uj{α:Type}(w:ja)(gs:Array Bc)(d:cm)(os:xi)(code:Eg)(st:List rf)(h:Na)(k:Nat)(pos:xd)(m:Vb α)(k':Nat)(pos':xd)(a:α)(Post:Na->Prop):Prop:=
 ∀(K:α->Vb Fin) (H:Value->Vb Fin) (gd:Bool->Bool) (lv:List Value->List Value),
  ∃h',Goes PP w 11 ki ⟨h,gs,d,k,os⟩ ⟨m.wrap K H gd lv,code,pos,st⟩ ⟨h',gs,d,k',os⟩ ⟨K a,code,pos',st⟩/\Post h'
section
variable{α β:Type}{w:ja}{gs:Array Bc}{d:cm}{os:xi}{code:Eg}{fr:rf}{st:List rf}{h h' JA:Na}{k k' WG:Nat}{pos pos' qm:xd}
theorem kg.e{m:Vb α}{a:α}{Post:Na->Prop}(x:kg w gs d os code st h k pos m h' k' pos' a)(y:Post h'):uj w gs d os code st h k pos m k' pos' a Post:=λK H gd lv=>⟨h',x K H gd lv,y⟩
theorem uj.bind{m:Vb α}{f:α->Vb β}{a:α}{b:β}{Post c:Na->Prop}(x:uj w gs d os code st h k pos m k' pos' a Post)
  (y:∀h',Post h'->uj w gs d os code st h' k' pos' (f a) WG qm b c):uj w gs d os code st h k pos (m>>=f) WG qm b c:=λK H gd lv=>by
 show∃h',Goes _ _ _ _ _ ⟨(m.bind f).wrap K H gd lv,_,_,_⟩ _ _/\_
 rw[KN,Ak]
 refine Nc λi=>?_;obtain ⟨l,o,g⟩:=x (λa=>(f a).wrap K H gd lv) H gd lv
 obtain ⟨j,n,e⟩:=y l g K H gd lv;refine i ?_
 exact⟨j,o.trans n,e⟩
theorem uj.keep{m:Vb α}{a:α}{Post:Na->Prop}(vs:List Value)(x:uj w gs d os code st h k pos m k' pos' a Post):uj w gs d os code st h k pos (m.keep vs) k' pos' a Post:=λK H gd lv=>by
 rw[JN,Ak]
 exact x _ _ _ _
theorem uj.holding{m:Vb α}{a:α}{Post:Na->Prop}(vs:List Value)(x:uj w gs d os code st h k pos m k' pos' a Post):uj w gs d os code st h k pos (PySem.holding vs m) k' pos' a Post:=by
 delta PySem.holding
 split
 ·exact x
 ·exact x.keep _
theorem uj.onRaise{m:Vb α}{a:α}{Post:Na->Prop}(r:Value->Vb Unit)(x:uj w gs d os code st h k pos m k' pos' a Post):uj w gs d os code st h k pos (m.onRaise r) k' pos' a Post:=λK H gd lv=>by
 rw[Sem.onRaise_eq_wrap,Ak]
 exact x _ _ _ _
theorem uj.pure{a:α}{Post:Na->Prop}(y:Post h):uj w gs d os code st h k pos (si a) k pos a Post:=(fe a).e y
noncomputable def jl(w:ja)(h:Na):Prop:=∀i o,(tw w).get i=some o->o.isFreed=false->h.get? i=some o/\i < 139
structure IE(b n:Nat)(F:List (Nat×Sa))(h h':Na):Prop where
 size:h'.objs.size=n
 low:∀i,i < b->h'.get? i=h.get? i
 facts:∀x∈F,h'.get? x.1=some x.2
theorem Yp(b a:Nat)(h:b<=a):b+(a-b)=a:=Vh h
theorem SQ{b c k N c' k':Nat}{u:BT}{F:List (Nat×Sa)}{m:Vb α}{t':Jb}{K:α->Vb Fin}{H:Value->Vb Fin}{gd:Bool->Bool}{lv:List Value->List Value}{bd:List cb}{env:Be}{pos:xd}
  {y:Ob->Vb Fin} {g:Bool} {lv2:List Value} {ar:Jn} {q:xd} {kp:List Value} (old:jl w h) (hb:139<=b) (j:h.objs.size=b+c) (C:∀i o,u.get i=some o->o.isFreed=false->h.get? (b+i)=some o)
  (a:(vX w b u c k N m K H gd lv bd env pos y g lv2 ar q kp).map (λr=>(r.1.b,r.1.c,r.2.1,r.2.2,F.map λx=>r.1.u.get (x.1-b)))=some (b,c',k',t',F.map λx=>some x.2))
  (D:F.all (λx=>Wf b x.1&&!x.2.isFreed)=true):
  ∃h',Goes PP w 11 ki ⟨h,gs,d,k,os⟩ ⟨m.wrap K H gd lv,.body bd env,pos,Jg y g lv2 ar q kp⟩ ⟨h',gs,d,k',os⟩ t'/\IE b (b+c') F h h':=by
 obtain ⟨⟨s',J,I⟩,p,n⟩:=Option.map_eq_some_iff.mp a
 simp only[we] at n
 obtain ⟨f,B,A,v,t⟩:=n
 subst A v
 unfold vX cJ at p
 have G:WB h ⟨tw w,b,u,c⟩ h:=⟨j,λi o hi hf Z=>(old i o hi hf).1,C,λZ Z=>rfl⟩
 obtain ⟨h',E,R⟩:=jm (gs:=gs) (d:=d) (os:=os) (zO h) (SO old) p trivial G
 refine⟨h',E,?_,?_,?_⟩
 ·rw[R.size,f,B]
 ·intro i hi
  exact R.low i (by rw[f];exact hi)
 ·intro x s
  have e:=(List.map_inj_left.mp t) x s
  have z:=List.all_eq_true.mp D x s
  simp only[Bd,Hf] at z
  have l:=Sd z.1
  have:=R.own _ _ e z.2
  rw[f,Yp b x.1 l] at this
  exact this
theorem cp{b:Nat}:∀i o,BT.nil.get i=some o->o.isFreed=false->h.get? (b+i)=some o:=λi o e=>by cases e
theorem CB{b c k N c' k':Nat}{u:BT}{F:List (Nat×Sa)}{m:Vb α}{a:α}{bd:List cb}{env:Be}{pos pos':xd}
  {y:Ob->Vb Fin} {g:Bool} {lv2:List Value} {ar:Jn} {q:xd} {kp:List Value} (old:jl w h) (hb:139<=b) (f:h.objs.size=b+c) (j:∀i o,u.get i=some o->o.isFreed=false->h.get? (b+i)=some o)
  (e:∀K H gd lv,(vX w b u c k N m K H gd lv bd env pos y g lv2 ar q kp).map (λr=>(r.1.b,r.1.c,r.2.1,r.2.2,F.map λx=>r.1.u.get (x.1-b)))=some (b,c',k',⟨K a,.body bd env,pos',Jg y g lv2 ar q kp⟩,F.map λx=>some x.2))
  (l:F.all (λx=>Wf b x.1&&!x.2.isFreed)=true):
  uj w gs d os (.body bd env) (Jg y g lv2 ar q kp) h k pos m k' pos' a (IE b (b+c') F h):=λK H gd lv=>SQ old hb f j (e K H gd lv) l
theorem jl.grow{b n:Nat}{F:List (Nat×Sa)}(old:jl w h)(x:IE b n F h h')(hb:139<=b):jl w h':=λi o e hf=>
 let ⟨u,v⟩:=old i o e hf;⟨(x.low i (Za v hb)).trans u,v⟩
theorem jl.upd{a:la}{L:List Ta}{ep:Nat}(old:jl w h)(x:Upd a L ep h h')(b:139<=a):jl w h':=λi o e hf=>
 let ⟨u,v⟩:=old i o e hf;⟨(x.other i (λq=>absurd (q▸v) (Nat.not_lt.mpr b))).trans u,v⟩
end
noncomputable def US(w:ja):Prop:=(sm E1 E2&&sm (E1++E2) (Jt++Gq w)&&sm (E1++E2++(Jt++Gq w)) (E4 w)&&sm (E1++E2++(Jt++Gq w)++E4 w) (E5 w))=true
noncomputable def JY(w:ja):Prop:=(Kl Jt ((Gq w).getD 0 ⟨0,.none,.none⟩)&&Kl (Jt++(Gq w).take 1) ((Gq w).getD 1 ⟨0,.none,.none⟩)&&Kl (Jt++(Gq w).take 2) ((Gq w).getD 2 ⟨0,.none,.none⟩)
 && Kl (Jt++(Gq w).take 3) ((Gq w).getD 3 ⟨0,.none,.none⟩)&&Kl (Jt++(Gq w).take 4) ((Gq w).getD 4 ⟨0,.none,.none⟩)&&Kl (Jt++(Gq w).take 5) ((Gq w).getD 5 ⟨0,.none,.none⟩)
 && Kl (Jt++(Gq w).take 6) ((Gq w).getD 6 ⟨0,.none,.none⟩))=true
lay_quick Mine.US Mine.JY
theorem jL:qv=r1.map vi++(r2.map vi++((CY++lO).map vi++(r4.map vi++r5.map vi))):=by kernel_rfl
theorem JS:lO=[Qq 0,Qq 1,Qq 2,Qq 3,Qq 4,Qq 5,Qq 6]:=by kernel_rfl
theorem a8:r1.length=17:=by kernel_rfl
theorem Z7:r2.length=17:=by kernel_rfl
theorem Q1:(CY++lO).length=17:=by kernel_rfl
theorem Y7:r4.length=17:=by kernel_rfl
theorem X7:r5.length=8:=by kernel_rfl
theorem IY(w:ja):US w:=by
 rw[PySem.W.Fast.te13122357061897963115]
 delta PySem.W.Fast.tw13122357061897963115
 kernel_rfl
theorem zu(w:ja):JY w:=by
 rw[PySem.W.Fast.te887163808107397053]
 delta PySem.W.Fast.tw887163808107397053
 kernel_rfl
theorem Wl:E1.length=17/\E2.length=17/\Jt.length=10/\(∀w,(Gq w).length=7)/\(∀w,(E4 w).length=17)/\∀w,(E5 w).length=8:=⟨rfl,rfl,rfl,λZ=>rfl,λZ=>rfl,λZ=>rfl⟩
structure Inv(w:ja)(ij:Na)(n:Nat)(L:List Ta)(ep:Nat)(h:Na):Prop where
 size:h.objs.size=n
 low:∀i,i < 139->h.get? i=ij.get? i
 main:h.get? 139=some (Ga L ep)
 facts:∀x∈F1,h.get? x.1=some x.2
theorem XB:F1.all (λx=>Uh 139 x.1&&Uh x.1 637)=true:=by decide +kernel
theorem FR{x:Nat×Sa}(a:x∈F1):139 < x.1:=by
 have:=List.all_eq_true.mp XB x a
 exact Bq (Bool.and_eq_true_iff.mp this).1
theorem GR{x:Nat×Sa}(a:x∈F1):x.1 < 637:=by
 have:=List.all_eq_true.mp XB x a
 exact Bq (Bool.and_eq_true_iff.mp this).2
section
variable{w:ja}{gs:Array Bc}{d:cm}{os:xi}{h h' JA ij:Na}{k k' WG:Nat}{bd:List cb}{env:Be}{pos pos' qm:xd}
  {y:Ob->Vb Fin} {g:Bool} {lv2:List Value} {ar:Jn} {q:xd} {kp:List Value}
theorem Inv.old{n ep:Nat}{L:List Ta}(I:Inv w ij n L ep h)(o:jl w ij):jl w h:=λi a e hf=>
 let ⟨u,v⟩:=o i a e hf;⟨(I.low i v).trans u,v⟩
theorem Inv.grow{n n' ep:Nat}{L:List Ta}{F:List (Nat×Sa)}(I:Inv w ij n L ep h)(x:IE n n' F h h')(a:637<=n):Inv w ij n' L ep h':=
 ⟨x.size,λi hi=>(x.low i (Za hi (Ja (by decide) a))).trans (I.low i hi),(x.low 139 (Za (by decide) a)).trans I.main,
  λz hz=>(x.low z.1 (Za (GR hz) a)).trans (I.facts z hz)⟩
theorem Inv.upd{n ep a:Nat}{L b:List Ta}(I:Inv w ij n L ep h)(x:Upd 139 b a h h'):Inv w ij n b a h':=
 ⟨x.size.trans I.size,λi hi=>(x.other i (Va hi)).trans (I.low i hi),x.at_,λz hz=>(x.other z.1 (Ee (FR hz))).trans (I.facts z hz)⟩
theorem eu{n n' ep em:Nat}{L M:List Ta}{r:List KV}(I:Inv w ij n L ep h)
  (b:uj w gs d os (.body bd env) (Jg y g lv2 ar q kp) h k pos (Pn r) k' pos' n (IE n n' [(n,Ga M em)] h)) (f:637<=n) (j:L.isEmpty=false) (i:L.length+M.length < 1000) (ok:sm L M=true)
  (a:((n:la)==sysModules)=false):
  uj w gs d os (.body bd env) (Jg y g lv2 ar q kp) h k pos (Hk 139 r) k' pos' () (Inv w ij n' (L++M) (ep+M.length)):=by
 delta Hk
 refine uj.bind (b.holding _) λp G=>?_
 have I1:=I.grow G f
 have hm:=G.facts (n,Ga M em) (Pz _)
 have c:n≠139:=λe=>absurd f (by rw[e];decide)
 refine Nc λl=>?_;obtain ⟨o,m,u2⟩:=IL (w:=w) (gs:=gs) (d:=d) (os:=os) (code:=.body bd env) (fr:=.ret y none g lv2 (.builtin "claim.caller" ar) q kp) (st:=[]) (k:=k') (pos:=pos') c I1.main hm j (by decide) a i ok;refine l ?_
 exact uj.onRaise _ (uj.holding _ (m.e (I1.upd u2)))
structure Qv(w:ja)(xg:Na)(i:Nat)(h:Na):Prop where
 old:jl w h
 size:h.objs.size=1834+i
 main:h.get? 1388=some (Ga (Jt++(Gq w).take i) (10+i))
 low:∀j,j < 1388->h.get? j=xg.get? j
theorem VC(a:la)(x:KV):wg a x ⟨⟩=(BA x>>=λz=>holding [z.1,z.2] (qW a z.1 z.2)>>=λZ=>pure (.yield ⟨⟩)):=by
 unfold wg BA
 show _=((x.1>>=λb=>holding [b] x.2>>=λc=>pure (b,c))>>=_:Vb _)
 simp only[bind_assoc,pure_bind]
theorem TC{α:Type}(l:List α)(i:Nat)(z:α)(h:i < l.length):l.take i++[l.getD i z]=l.take (i+1):=by
 rw[Ms,Ra,Wb h];rfl
theorem pq{xg:Na}{i:Nat}{x:xa}{u:jg}{v:Value}{r:KV}{N:Nat}(I:Qv w xg i h)
  (a:∀K H gd lv,(vX w (1834+i) .nil 0 (3612+6*i) N (BA r) K H gd lv bd env pos y g lv2 ar q kp).map (λz=>(z.1.b,z.1.c,z.2.1,z.2.2,([]:List (Nat×Sa)).map λx=>z.1.u.get (x.1-(1834+i))))=
   some (1834+i,1,3612+6*i+5,⟨K (.str x u,v),.body bd env,Ug,Jg y g lv2 ar q kp⟩,([]:List (Nat×Sa)).map λx=>some x.2))
  (ok:Kl (Jt++(Gq w).take i) ((Gq w).getD i ⟨0,.none,.none⟩)=true) (he:∀_:Unit,(Gq w).getD i ⟨0,.none,.none⟩=⟨hashW w x,.str x u,v⟩) (hi:i < 7:=by decide):
  uj w gs d os (.body bd env) (Jg y g lv2 ar q kp) h (3612+6*i) pos (wg 1388 r ⟨⟩) (3612+6*(i+1)) Ug (.yield ⟨⟩) (Qv w xg (i+1)):=by
 rw[VC]
 refine uj.bind (CB I.old (Ja (by decide) (Ed 1834 i)) I.size cp a rfl) λs G=>?_
 have f:(1388:Nat) < 1834+i:=Za (by decide) (Ed 1834 i)
 have hm:=(G.low 1388 f).trans I.main
 rw[he ()] at ok
 have l:(Jt++(Gq w).take i).length < 1000:=by
  rw[Ya,yi,Wl.2.2.1,Wl.2.2.2.1 w]
  exact aj (pI (Nat.min_le_right i 7) 10) (by decide)
 refine Nc λn=>?_;obtain ⟨o,p,u2⟩:=ID (w:=w) (gs:=gs) (d:=d) (os:=os) (code:=.body bd env) (fr:=.ret y none g lv2 (.builtin "claim.caller" ar) q kp) (st:=[]) (k:=3612+6*i+5) (pos:=Ug) hm (by decide) l ok;refine n ?_
 refine kg.e (Wc (Hj _ p) (fe _)) (?_:Qv w xg (i+1) o)
 refine⟨?_,?_,?_,?_⟩
 ·exact(I.old.grow G (Ja (by decide) (Ed 1834 i))).upd u2 (by decide)
 ·rw[u2.size,G.size];rfl
 ·have:=u2.at_
  rw[<- he (),Ze,TC _ _ _ (by rw[Wl.2.2.2.1 w];exact hi)] at this
  exact this
 ·intro j m
  rw[u2.other j (Va m),G.low j (zi m f)]
  exact I.low j m
theorem Ei{a b:Bool}(h:(a&&b)=true):a=true:=(Bool.and_eq_true_iff.mp h).1
theorem Lx{a b:Bool}(h:(a&&b)=true):b=true:=(Bool.and_eq_true_iff.mp h).2
theorem vw{i:Nat}{K:(Value×Value)->Vb Fin}{H:Value->Vb Fin}{gd:Bool->Bool}{lv:List Value->List Value}(e:gC i w (w.params.followText Yn) K H gd lv bd env pos y g lv2 ar q kp):
  (vX w (1834+i) .nil 0 (3612+6*i) 32 (BA ((vY Pg Mg 44 7).getD i (si .none,si .none))) K H gd lv bd env pos y g lv2 ar q kp).map (λr=>(r.1.b,r.1.c,r.2.1,r.2.2,([]:List (Nat×Sa)).map λx=>r.1.u.get (x.1-(1834+i))))=
  some (1834+i,1,3612+6*i+5,⟨K (.str ((["R7x43","R7x59","R7x77","R7x99","R7x139","R9x43","R9x59"]:List xa).getD i "") (3612+6*i),.ref (1834+i)),.body bd env,Ug,Jg y g lv2 ar q kp⟩,([]:List (Nat×Sa)).map λx=>some x.2):=by
 unfold gC vG at e
 rw[Nb] at e
 exact e
theorem QX(xg:Na)(I:Qv w xg 0 h):uj w gs d os (.body bd env) (Jg y g lv2 ar q kp) h 3612 pos (wg 1388 (Qq 0) ⟨⟩) 3618 Ug (.yield ⟨⟩) (Qv w xg 1):=
 pq (i:=0) I (λK H gd lv=>vw (DX w _ K H gd lv bd env pos y g lv2 ar q kp)) (Ei (Ei (Ei (Ei (Ei (Ei (zu w))))))) (by intro e;rfl)
theorem PX(xg:Na)(I:Qv w xg 1 h):uj w gs d os (.body bd env) (Jg y g lv2 ar q kp) h 3618 pos (wg 1388 (Qq 1) ⟨⟩) 3624 Ug (.yield ⟨⟩) (Qv w xg 2):=
 pq (i:=1) I (λK H gd lv=>vw (CX w _ K H gd lv bd env pos y g lv2 ar q kp)) (Lx (Ei (Ei (Ei (Ei (Ei (zu w))))))) (by intro e;rfl)
theorem OX(xg:Na)(I:Qv w xg 2 h):uj w gs d os (.body bd env) (Jg y g lv2 ar q kp) h 3624 pos (wg 1388 (Qq 2) ⟨⟩) 3630 Ug (.yield ⟨⟩) (Qv w xg 3):=
 pq (i:=2) I (λK H gd lv=>vw (BX w _ K H gd lv bd env pos y g lv2 ar q kp)) (Lx (Ei (Ei (Ei (Ei (zu w)))))) (by intro e;rfl)
theorem NX(xg:Na)(I:Qv w xg 3 h):uj w gs d os (.body bd env) (Jg y g lv2 ar q kp) h 3630 pos (wg 1388 (Qq 3) ⟨⟩) 3636 Ug (.yield ⟨⟩) (Qv w xg 4):=
 pq (i:=3) I (λK H gd lv=>vw (AX w _ K H gd lv bd env pos y g lv2 ar q kp)) (Lx (Ei (Ei (Ei (zu w))))) (by intro e;rfl)
theorem MX(xg:Na)(I:Qv w xg 4 h):uj w gs d os (.body bd env) (Jg y g lv2 ar q kp) h 3636 pos (wg 1388 (Qq 4) ⟨⟩) 3642 Ug (.yield ⟨⟩) (Qv w xg 5):=
 pq (i:=4) I (λK H gd lv=>vw (zX w _ K H gd lv bd env pos y g lv2 ar q kp)) (Lx (Ei (Ei (zu w)))) (by intro e;rfl)
theorem LX(xg:Na)(I:Qv w xg 5 h):uj w gs d os (.body bd env) (Jg y g lv2 ar q kp) h 3642 pos (wg 1388 (Qq 5) ⟨⟩) 3648 Ug (.yield ⟨⟩) (Qv w xg 6):=
 pq (i:=5) I (λK H gd lv=>vw (yX w _ K H gd lv bd env pos y g lv2 ar q kp)) (Lx (Ei (zu w))) (by intro e;rfl)
theorem KX(xg:Na)(I:Qv w xg 6 h):uj w gs d os (.body bd env) (Jg y g lv2 ar q kp) h 3648 pos (wg 1388 (Qq 6) ⟨⟩) 3654 Ug (.yield ⟨⟩) (Qv w xg 7):=
 pq (i:=6) I (λK H gd lv=>vw (xX w _ K H gd lv bd env pos y g lv2 ar q kp)) (Lx (zu w)) (by intro e;rfl)
theorem Fj{x:KV}{l:List KV}{Post c:Na->Prop}(a:uj w gs d os (.body bd env) (Jg y g lv2 ar q kp) h k pos (wg 1388 x ⟨⟩) k' pos' (.yield ⟨⟩) Post)
  (b:∀h',Post h'->uj w gs d os (.body bd env) (Jg y g lv2 ar q kp) h' k' pos' (lp 1388 l) WG qm ⟨⟩ c):uj w gs d os (.body bd env) (Jg y g lv2 ar q kp) h k pos (lp 1388 (x::l)) WG qm ⟨⟩ c:=
 uj.bind a b
theorem BY{xg:Na}(I:Qv w xg 0 h):uj w gs d os (.body bd env) (Jg y g lv2 ar q kp) h 3612 pos (lp 1388 lO) 3654 Ug ⟨⟩ (Qv w xg 7):=by
 rw[JS]
 exact Fj (QX xg I) λZ I=>Fj (PX xg I) λZ I=>Fj (OX xg I) λZ I=>Fj (NX xg I) λZ I=>Fj (MX xg I) λZ I=>Fj (LX xg I) λZ I=>
  Fj (KX xg I) λZ I=>uj.pure I
set_option tactic.hygienic true
theorem f7(old:jl w h)(r:h.objs.size=1388):uj w gs d os (.body bd env) (Jg y g lv2 ar q kp) h 2762 pos (Pn (CY++lO)) 3654 Ug 1388 (IE 1388 1841 [(1388,Ga (Jt++Gq w) 17)] h):=by
 rw[dy (by rw[Q1];decide)]
 have A:(h.push qh).get? 1388=some qh:=by rw[<- r];exact ra h rfl
 have c:∀j,j < 1388->(h.push qh).get? j=h.get? j:=λj m=>by
  have p:j < h.objs.size:=by rw[r];exact m
  have e:(h.push qh).objs[j]?=h.objs[j]?:=by
   show(h.objs.push qh)[j]?=_
   rw[Rz p,se p]
  unfold qN
  rw[e]
 have b:jl w (h.push qh):=λi o e hf=>let ⟨u,v⟩:=old i o e hf;⟨(c i (zi v (by decide))).trans u,v⟩
 have t:(h.push qh).objs.size=1388+1:=by
  show(h.objs.push qh).size=_
  rw[Ck,r]
 have n:uj w gs d os (.body bd env) (Jg y g lv2 ar q kp) (h.push qh) 2762 pos (lp 1388 (CY++lO)) 3654 Ug ⟨⟩ (Qv w (h.push qh) 7):=λK H gd lv=>by
  have G:∀i o,(BT.nil.ins 0 qh).get i=some o->o.isFreed=false->(h.push qh).get? (1388+i)=some o:=by
   intro i o e _
   have N:(BT.nil.ins 0 qh)=BT.node qh .nil .nil:=rfl
   rw[N,BT.get_node] at e
   split at e
   ·rename_i hi
    obtain rfl:=va e
    rw[hi];exact A
   ·split at e <;> cases e
  have e:=GX w (w.params.followText Yn) lO K H gd lv bd env pos y g lv2 ar q kp
  unfold dS P6 at e
  rw[Nb] at e
  obtain ⟨J,M,s⟩:=SQ (gs:=gs) (d:=d) (os:=os) b (by decide) t G e (by rfl)
  have O:Qv w (h.push qh) 0 J:=by
   refine⟨b.grow s (by decide),s.size,?_,λj m=>s.low j m⟩
   have:=s.facts (1388,Ga Jt 10) (Pz _)
   rw[List.take_zero,Dg]
   exact this
  obtain ⟨E,L,C⟩:=BY (gs:=gs) (d:=d) (os:=os) (bd:=bd) (env:=env) (pos:=Ug) (y:=y) (g:=g) (lv2:=lv2) (ar:=ar) (q:=q) (kp:=kp) O K H gd lv
  exact⟨E,M.trans L,C⟩
 have inner:uj w gs d os (.body bd env) (Jg y g lv2 ar q kp) (h.push qh) 2762 pos (holding [.ref 1388] (rule "dict.display.long">>=λ_=>forIn (CY++lO) iw (wg 1388)>>=λ_=>pure ())>>=λ_=>pure 1388) 3654 Ug (1388:la) (IE 1388 1841 [(1388,Ga (Jt++Gq w) 17)] h):=by
  refine uj.bind (a:=()) (k':=3654) (pos':=Ug) (Post:=Qv w (h.push qh) 7) (uj.holding _ (uj.bind (a:=()) (k':=2762) (pos':=pos) ((My (fe ())).e (Post:=λz=>z=h.push qh) rfl) λhz l=>?_)) λI (B:Qv w (h.push qh) 7 I)=>?_
  ·subst l
   rw[RA]
   exact uj.bind n λE C=>uj.pure C
  ·refine uj.pure ⟨B.size,λj m=>(B.low j m).trans (c j m),?_⟩
   intro x D
   rw[List.mem_singleton] at D
   subst D
   have:=B.main
   rw[Rf (by rw[Wl.2.2.2.1 w];exact Ab _)] at this
   exact this
 have al:kg w gs d os (.body bd env) (Jg y g lv2 ar q kp) h 2762 pos (alloc qh) (h.push qh) 2762 pos (1388:la):=by
  have:=ML (w:=w) (gs:=gs) (d:=d) (os:=os) (code:=.body bd env) (st:=Jg y g lv2 ar q kp) (h:=h) (k:=2762) (pos:=pos) (o:=qh) (f:=si) (fe _)
  rw[r] at this
  exact this
 exact uj.bind (al.e (Post:=λz=>z=h.push qh) rfl) λhz l=>by subst l;exact inner
set_option tactic.hygienic false
noncomputable def EE(w:ja):List Ta:=E1++E2++(Jt++Gq w)++E4 w++E5 w
theorem i4(old:jl w h)(t:h.objs.size=139):uj w gs d os (.body bd env) (Jg y g lv2 ar q kp) h 400 pos (dictDisplay qv) 3804 Ug (.ref 139) (Inv w h 1868 (EE w) 76):=by
 have i:sm E1 E2=true/\sm (E1++E2) (Jt++Gq w)=true/\sm (E1++E2++(Jt++Gq w)) (E4 w)=true/\sm (E1++E2++(Jt++Gq w)++E4 w) (E5 w)=true:=by
  have:=IY w
  unfold US at this
  simp only[Bd] at this
  exact⟨this.1.1.1,this.1.1.2,this.1.2,this.2⟩
 refine Nc λu=>?_;obtain ⟨r,p,o,m⟩:=i;refine u ?_
 rw[jL,ys a8 Z7 Q1 Y7 (by rw[X7];decide) (by rfl)]
 refine uj.bind (a:=(139:la)) (CB (b:=139) (c:=0) (c':=498) (F:=(139,Ga E1 17)::F1) old (by decide) t cp (λK H gd lv=>by
  have e:=IX w (w.params.followText Yn) K H gd lv bd env pos y g lv2 ar q kp
  unfold fS uG at e
  rw[Nb] at e
  exact e) (by decide +kernel)) λv f=>?_
 have I1:Inv w h 637 E1 17 v:=⟨f.size,f.low,f.facts _ (za ..),λx s=>f.facts x (ya _ s)⟩
 refine uj.bind (eu (n:=637) (n':=1388) (M:=E2) (em:=17) I1 (CB (b:=637) (c:=0) (c':=751) (I1.old old) (by decide) I1.size cp (λK H gd lv=>by
  have e:=HX w (w.params.followText Yn) K H gd lv bd env Ug y g lv2 ar q kp
  unfold eS uG at e
  rw[Nb] at e
  exact e) (by rfl)) (by decide) (by rfl) (by rw[Wl.1,Wl.2.1];decide) r (by decide)) λD l=>?_
 refine uj.bind (eu (n:=1388) (n':=1841) (M:=Jt++Gq w) (em:=17) l (f7 (l.old old) l.size) (by decide) (by rfl) (by simp only[Ya,Wl.1,Wl.2.1,Wl.2.2.1,Wl.2.2.2.1 w];decide) p (by decide)) λC k=>?_
 refine uj.bind (eu (n:=1841) (n':=1859) (M:=E4 w) (em:=17) k (CB (b:=1841) (c:=0) (c':=18) (k.old old) (by decide) k.size cp (λK H gd lv=>by
  have e:=FX w (w.params.followText Yn) K H gd lv bd env Ug y g lv2 ar q kp
  unfold cS uG at e
  rw[Nb] at e
  exact e) (by rfl)) (by decide) (by rfl) (by simp only[Ya,Wl.1,Wl.2.1,Wl.2.2.1,Wl.2.2.2.1 w,Wl.2.2.2.2.1 w];decide) o (by decide)) λB j=>?_
 refine uj.bind (eu (n:=1859) (n':=1868) (M:=E5 w) (em:=8) j (CB (b:=1859) (c:=0) (c':=9) (j.old old) (by decide) j.size cp (λK H gd lv=>by
  have e:=EX w (w.params.followText Yn) K H gd lv bd env Ug y g lv2 ar q kp
  unfold bS uG at e
  rw[Nb] at e
  exact e) (by rfl)) (by decide) (by rfl) (by simp only[Ya,Wl.1,Wl.2.1,Wl.2.2.1,Wl.2.2.2.1 w,Wl.2.2.2.2.1 w,Wl.2.2.2.2.2 w];decide) m (by decide)) λA z=>?_
 exact uj.pure z
end
noncomputable def ld4(s:T3)(a:la):Option (Sa×T3):=match Uh a 139 with
 |true=>(gv (s.t.get a)).bind λo=>some (o,s)
 |false=>bif Wf s.b a then (gv (s.u.get (a-s.b))).bind λo=>some (o,s) else none
noncomputable def sN(s:T3)(a:la)(f:Sa->Sa):Option T3:=match Uh a 139 with
 |true=>(gv (s.t.get a)).bind λZ=>some ⟨s.t.set a f,s.b,s.u,s.c⟩
 |false=>bif Wf s.b a then (gv (s.u.get (a-s.b))).bind λZ=>some ⟨s.t,s.b,s.u.set (a-s.b) f,s.c⟩ else none
noncomputable def EY:rC T3:=⟨ld4,sN,al3⟩
structure fW(yb:Na)(s:T3)(h:Na):Prop where
 size:h.objs.size=s.b+s.c
 le:139<=s.b
 old:∀i o,s.t.get i=some o->o.isFreed=false->i < 139->h.get? i=some o
 own:∀i o,s.u.get i=some o->o.isFreed=false->h.get? (s.b+i)=some o
 mid:∀i,139<=i->i < s.b->h.get? i=yb.get? i
theorem t4a(a b i:Nat)(h:139<=b)(q:a < 139):a≠b+i:=by lia
theorem t4b(a i:Nat)(q:a < 139)(r:139<=i):a≠i:=by lia
theorem t4c(a b i:Nat)(h:139<=b)(q:b<=a)(r:i < 139):a≠i:=by lia
theorem yO(yb:Na):el EY (λZ=>True) (fW yb) where
 ld s a:=by
  show OK (match Uh a 139 with|true=>_|false=>_) _
  cases hb:Uh a 139 with
  |true=>exact OK.get λo e q=>OK.some ⟨id,λh Z r=>⟨r.old _ _ e q (Bq hb),r⟩⟩
  |false=>exact OK.bif λhb=>OK.get λo e q=>OK.some ⟨id,λh Z r=>⟨qC.at ⟨r.own⟩ (Sd hb) e q,r⟩⟩
 up s a f:=by
  show OK (match Uh a 139 with|true=>_|false=>_) _
  cases hb:Uh a 139 with
  |true=>exact OK.get λo e q=>have hb:=Bq hb;OK.some ⟨id,λh Z r=>have j:=r.old _ _ e q hb
    ⟨Sk j,Vj.trans r.size,r.le,λi o' hi hf l=>Sl j hf ((ey e hi).imp_right λq=>⟨q.1,r.old _ _ q.2 hf l⟩),
     λi o' hi hf=>(Ea h f (t4a a s.b i r.le hb)).trans (r.own _ _ hi hf),λi d c=>(Ea h f (t4b a i hb d)).trans (r.mid i d c)⟩⟩
  |false=>exact OK.bif λhb=>OK.get λo e q=>have hb:=Sd hb;OK.some ⟨id,λh Z r=>have j:=qC.at ⟨r.own⟩ hb e q
    ⟨Sk j,Vj.trans r.size,r.le,λi o' hi hf l=>(Ea h f (t4c a s.b i r.le hb l)).trans (r.old _ _ hi hf l),
     (qC.upd ⟨r.own⟩ hb e j).own,λi d c=>(Ea h f (M9 a s.b i hb c)).trans (r.mid i d c)⟩⟩
 al s o:=OK.bif λg=>OK.some ⟨id,λh Z r=>
  have k:∀i,i < s.b->i < h.objs.size:=λi hi=>Za hi (Ja (Ed _ _) (Cj r.size.symm))
  ⟨r.size.symm,om.trans (congrArg (·+1) r.size),r.le,λi o' hi hf l=>fa _ (r.old _ _ hi hf l),(qC.push ⟨r.own⟩ r.size g).own,λi d c=>(Xt (k i c)).trans (r.mid i d c)⟩⟩
noncomputable def tf:xa×xd×Oa×xd:=match Pg with
 |.Assign [.Name x p] v q=>(x,p,v,q)
 |_=>("",default,.Constant .none 0 default,default)
set_option tactic.hygienic true
noncomputable def kZ:Af->Vb Fin:=λf=>match f with
 |.next=>(Kc BB Mg).wrap pW (Hr Mg) id id
 |f=>pW f
noncomputable def qr(v:Value):Vb Af:=do
 standAt tf.2.1
 bindName Mg tf.1 v
 pure .next
set_option tactic.hygienic false
noncomputable def qp:Jb:=⟨(qr (.ref 139)).wrap kZ (Hr Mg) id id,.body fb Mg,Ug,[Er default]⟩
noncomputable def gZ(p:wa)(T:Vf->BT)(b a:Jb)(w:ja):Option (T3×Nat×Jb):=rn EY qo (Gb Ka) p w 11 ki 2500 ⟨M3 p T b w,1868,.nil,0⟩ 3804 a
noncomputable def zG(p:wa)(T:Vf->BT)(d a:Jb)(w:ja)(b:Bool):Prop:=(gZ p T d a (w.withFollow "special-get-raises" b)).map (λr=>(r.1.b,r.1.c,r.2.1,wj r.2.2))=some (1868,111,4746,true)
noncomputable def vV:=gZ PP T0 ee qp
noncomputable def E6:=zG PP T0 ee qp
lay_quick Mine.zG
theorem D6(w:ja)(b:Bool):E6 w b:=by
 unfold E6
 rw[PySem.W.Fast.te2319240948699276521]
 unfold PySem.W.Fast.tw2319240948699276521
 cases b <;> kernel_rfl
theorem FH:Pg=.Assign [.Name tf.1 tf.2.1] tf.2.2.1 tf.2.2.2:=by kernel_rfl
theorem GH:mi tf.2.2.1 (some (.Name tf.1 tf.2.1)) tf.2.2.2.line Mg=pure false:=by kernel_rfl
theorem nM:eval tf.2.2.1 Mg=(standAt Ug>>=λZ=>dictDisplay qv):=by kernel_rfl
theorem rE:fb=JM++(Pg::BB):=by kernel_rfl
theorem pU{t:BT}{k n:Nat}{x:Sa}(h:((t.ins k x).get k).isSome=true)(b:k < n)(a:∀i o,t.get i=some o->i < n):∀i o,(t.ins k x).get i=some o->i < n:=by
 intro i o e
 rw[BT.get_ins _ _ _ h] at e
 by_cases q:i=k
 ·exact q▸b
 ·rw[if_neg q] at e;exact a i o e
theorem S4{P:Vf}{i:Nat}{o:Sa}(h:(T0 P).get i=some o):i < 11:=by
 have a:∀i o,(T0 P).get i=some o->i < 11:=by
  unfold T0
  iterate 11 refine pU (by rfl) (by decide) ?_
  exact λi o h=>nomatch h
 exact a i o h
theorem boot_abs(P:Vf):Ke P=absHeap (T0 P) 11 (Ke P).life:=by kernel_rfl
theorem HM(P:Vf):qQ 0 (Ke P) ⟨T0 P,11⟩ (Ke P) where
 size:=by rfl
 own:=λi o hi hf=>by
  rw[boot_abs]
  rw[abs_get (S4 hi) hi]
  exact UB hf
 low:=λZ h=>absurd h (jw _)
 le:=Zb _
noncomputable def gS(p:wa)(T:Vf->BT)(b a:Jb)(w:ja):T3:=match gZ p T b a w with
 |some (s,_,_)=>s
 |none=>⟨.nil,0,.nil,0⟩
noncomputable def Tc:=gS PP T0 ee qp
structure gN(w:ja)(h:Na):Prop where
 size:h.objs.size=1979
 old:∀i o,(Tc w).t.get i=some o->o.isFreed=false->i < 139->h.get? i=some o
 own:∀i o,(Tc w).u.get i=some o->o.isFreed=false->h.get? (1868+i)=some o
 ecc:h.get? 139=some (Ga (EE w) 76)
 facts:∀x∈F1,h.get? x.1=some x.2
theorem uP{w:ja}{s s':aa}{t t' a:Jb}(e:t'=a)(g:Goes PP w 11 ki s t s' t'):Goes PP w 11 ki s t s' a:=e▸g
set_option tactic.hygienic true
theorem mJ(w:ja)(gs:Array Bc)(d:cm)(os:xi):
  ∃h t,Goes PP w 11 ki ⟨Ke w.params,gs,d,181,os⟩ (topStub PP) ⟨h,gs,d,4746,os⟩ t/\wj t=true/\gN w h:=by
 have y:=A9 w (w.params.followText Yn)
 have hb:=u9 w (w.params.followText Yn)
 have hz:=D6 w (w.params.followText Yn)
 unfold aOk aG at y
 unfold bOk bG at hb
 unfold E6 zG at hz
 rw[Nb] at y hb hz
 refine Nc λa=>?_;obtain ⟨⟨sA,kA,tA⟩,O,N⟩:=Option.map_eq_some_iff.mp y;refine a ?_
 simp only[we] at N
 refine Nc λa=>?_;obtain ⟨a3,a4,a5⟩:=N
 obtain ⟨⟨sB,kB,tB⟩,M,L⟩:=Option.map_eq_some_iff.mp hb;refine a ?_
 simp only[we] at L
 refine Nc λa=>?_;obtain ⟨J,b4,b5⟩:=L
 obtain ⟨⟨sZ,kZ',Y⟩,D,C⟩:=Option.map_eq_some_iff.mp hz;refine a ?_
 simp only[we] at C
 refine Nc λa=>?_;obtain ⟨j,V,T,Q⟩:=C;refine a ?_
 subst a4 a5 b4 b5 T
 have pT:tw w=sB.t:=by unfold tw M3;rw[M]
 have G:Tc w=sZ:=by unfold Tc gS;rw[D]
 have I:=O
 unfold l7 gA at I
 refine Nc λa=>?_;obtain ⟨h1,g1,R1⟩:=jm (gs:=gs) (d:=d) (os:=os) (lF 0 (Ke w.params)) (ko (good:=λ_=>True) (R:=qQ 0 (Ke w.params))) I trivial (HM w.params);refine a ?_
 have A:=M
 unfold OS gB at A
 rw[O] at A
 refine Nc λa=>?_;obtain ⟨b,g2,B⟩:=jm (gs:=gs) (d:=d) (os:=os) (lF 0 (Ke w.params)) (ko (good:=λ_=>True) (R:=qQ 0 (Ke w.params))) A trivial R1;refine a ?_
 have n:(⟨Gb Ka (.body fb Mg),.body fb Mg,default,[Er default]⟩:Jb)=ee:=by
  unfold ee
  rw[body_wrap]
  refine congrArg (λz=>Thread.mk z _ _ _) (mq _ _ _ (λ_=>?_) λ_=>rfl)
  have q:=execs_app_wrap (env:=Mg) JM (Pg::BB) pW (Hr Mg) id id
  rw[<- rE] at q
  rw[q]
  refine mq _ _ _ (λf=>?_) λ_=>rfl
  cases f <;> rfl
 have G1:Goes PP w 11 ki ⟨Ke w.params,gs,d,181,os⟩ (topStub PP) ⟨b,gs,d,400,os⟩ ⟨pP .next,.body fb Mg,⟨31,0,73,58⟩,[Er default]⟩:=(uP n g1).trans g2
 have old:jl w b:=λi o hi hf=>by
  rw[pT] at hi
  have q:=B.own i o hi hf
  have:=Ba q
  rw[B.size,J] at this
  exact⟨q,this⟩
 have hs:b.objs.size=139:=by rw[B.size,J]
 have ex:uj w gs d os (.body fb Mg) [Er default] b 400 ⟨31,0,73,58⟩ (standAt tf.2.2.2>>=λ_=>eval tf.2.2.1 Mg) 3804 Ug (.ref 139) (Inv w b 1868 (EE w) 76):=by
  refine uj.bind ((rR (fe ())).e (Post:=λz=>z=b) rfl) λhz p=>?_
  subst p
  rw[nM]
  refine uj.bind ((rR (fe ())).e (Post:=λz=>z=hz) rfl) λhy r=>?_
  subst r
  exact i4 old hs
 have m:pP .next=(standAt tf.2.2.2>>=λ_=>eval tf.2.2.1 Mg).wrap (λv=>(qr v).wrap kZ (Hr Mg) id id) (Hr Mg) id id:=by
  show(Kc (Pg::BB) Mg).wrap pW (Hr Mg) id id=_
  rw[execs_cons_wrap]
  have q:ig Pg Mg=((standAt tf.2.2.2>>=λ_=>eval tf.2.2.1 Mg)>>=λv=>qr v):=by
   refine(congrArg (λs=>ig s Mg) FH).trans ((aX _ _ _ _ _ GH).trans ?_)
   simp only[bind_assoc,qr]
  rw[q,Sem.bind_eq_wrap',Ak]
  refine mq _ _ _ (λv=>mq _ _ _ (λf=>?_) λ_=>rfl) λ_=>rfl
  cases f <;> rfl
 refine Nc λa=>?_;obtain ⟨k,E,l⟩:=ex (λv=>(qr v).wrap kZ (Hr Mg) id id) (Hr Mg) id id;refine a ?_
 rw[<- m] at E
 have R3:fW k ⟨tw w,1868,.nil,0⟩ k:=⟨l.size,(by decide:139<=1868),λi o hi hf c=>(l.low i c).trans (old i o hi hf).1,cp,λ_ _ _=>rfl⟩
 have H:=D
 unfold vV gZ at H
 refine Nc λa=>?_;obtain ⟨h4,g4,g⟩:=jm (gs:=gs) (d:=d) (os:=os) (yO k) (ko (good:=λ_=>True) (R:=fW k)) H trivial R3;refine a ?_
 refine⟨h4,Y,(G1.trans E).trans g4,Q,?_,?_,?_,?_,?_⟩
 ·rw[g.size,j,V]
 ·rw[G];exact g.old
 ·rw[G];intro i o hi hf;have:=g.own i o hi hf;rw[j] at this;exact this
 ·rw[g.mid 139 (by decide) (by rw[j];decide)];exact l.main
 ·intro x u
  rw[g.mid x.1 (Vd (FR u)) (by rw[j];exact zi (GR u) (by decide))]
  exact l.facts x u
set_option tactic.hygienic false
noncomputable def xt(a:Nat):Nat:=if a < 128 then 2*a else (2*a)^^^285
noncomputable def ao:Nat->Nat->List Nat
 |0,_=>[]
 |n+1,a=>a::ao n (xt a)
noncomputable def iO:Nat->List Nat->List Value
 |_,[]=>[]
 |t,a::l=>.int (Fl a) t::iO (t+1) l
noncomputable def Lq(B:List cb)(i:Nat):cb:=(B[i]?).getD (.Pass default)
noncomputable def Ji:=Lq fb
noncomputable def yp(B:List cb)(i:Nat)(n:xa):cb:=match (B[i]?).getD (.Pass default) with
 |.ClassDef _ _ _ body _ _ _ _ _ _ _=>(body.find? λst=>match st with|.FunctionDef m ..=>m==n|_=>false).getD (.Pass default)
 |_=>.Pass default
noncomputable def sv:=yp fb
noncomputable def PV(o:Option Sa):Value:=match o with
 |some ⟨_,_,.func f,_⟩=>f.doc
 |_=>.none
noncomputable def iA(o:Option Sa)(i:Nat):Value:=match o with
 |some ⟨_,_,.dict es _,_⟩=>(match es.toList[i]? with|some e=>e.val|none=>.none)
 |_=>.none
noncomputable def br(nm a:xa)(st:cb)(c dc b d:Value):Sa:=match st with
 |.FunctionDef _ args body _ _ _ scope _ _ _=>⟨.type "function",none,.func (Hz nm a args (.stmts body) scope 3 [] c .none dc b none d .none 0),⟨[]⟩⟩
 |_=>Ln
noncomputable def GO(w:ja):Sa:=⟨.none,none,.dict ⟨[]⟩ 0,⟨[]⟩⟩
noncomputable def FO(w:ja):Sa:=Ga [⟨hashW w "__name__",.str "__name__" 165,.str "law_im0110_02" 4732⟩,⟨hashW w "__doc__",.str "__doc__" 166,.none⟩,⟨hashW w "__package__",.str "__package__" 167,.none⟩,⟨hashW w "__loader__",.str "__loader__" 168,.builtin "__main__.__loader__#opaque"⟩,⟨hashW w "__spec__",.str "__spec__" 169,.none⟩,⟨hashW w "__annotations__",.str "__annotations__" 170,.ref 6⟩,⟨hashW w "__builtins__",.str "__builtins__" 171,.ref 4⟩,⟨hashW w "__file__",.str "__file__" 173,.str "/claim/cut.py" 172⟩,⟨hashW w "__cached__",.str "__cached__" 174,.none⟩,⟨hashW w "_wall",.str "_wall" 193,.ref 21⟩,⟨hashW w "_tuplegetter",.str "_tuplegetter" 252,.ref 60⟩,⟨hashW w "VERSION_M4",.str "VERSION_M4" 254,.int 0 253⟩,⟨hashW w "VERSION_M3",.str "VERSION_M3" 257,.int (-1) 256⟩,⟨hashW w "VERSION_M2",.str "VERSION_M2" 260,.int (-2) 259⟩,⟨hashW w "VERSION_M1",.str "VERSION_M1" 263,.int (-3) 262⟩,⟨hashW w "ERROR_LEVEL_L",.str "ERROR_LEVEL_L" 265,.int 1 264⟩,⟨hashW w "ERROR_LEVEL_M",.str "ERROR_LEVEL_M" 267,.int 0 266⟩,⟨hashW w "ERROR_LEVEL_Q",.str "ERROR_LEVEL_Q" 269,.int 3 268⟩,⟨hashW w "ERROR_LEVEL_H",.str "ERROR_LEVEL_H" 271,.int 2 270⟩,⟨hashW w "EC",.str "EC" 399,.ref 135⟩,⟨hashW w "ECC",.str "ECC" 3804,.ref 139⟩,⟨hashW w "GEN_POLY",.str "GEN_POLY" 4122,.ref 1868⟩,⟨hashW w "GALIOS_LOG",.str "GALIOS_LOG" 4379,.ref 1888⟩,⟨hashW w "GALIOS_EXP",.str "GALIOS_EXP" 4636,.ref 1890⟩,⟨hashW w "make_final_message",.str "make_final_message" 4645,.ref 1895⟩,⟨hashW w "make_blocks",.str "make_blocks" 4652,.ref 1900⟩,⟨hashW w "Buffer",.str "Buffer" 4731,.ref 1963⟩,⟨hashW w "_law_LAYOUTS",.str "_law_LAYOUTS" 4739,.ref 1973⟩,⟨hashW w "law",.str "law" 4745,.ref 1978⟩] 29
noncomputable def nK(w:ja):Sa:=⟨.type "module",some 0,.plain,⟨[]⟩⟩
noncomputable def KY(w:ja):Sa:=⟨.type "tuple",none,.seq ⟨[.none]⟩ 0,⟨[]⟩⟩
noncomputable def ZQ(S:T3)(B:List cb)(w:ja):Sa:=br "__get__" "_tuplegetter.__get__" (yp B 2 "__get__") (.ref 36) (.none) (.str "segno.consts" 194) (.ref 42)
noncomputable def EO(w:ja):Sa:=ZQ (Tc w) fb w
noncomputable def Om(w:ja):Sa:=Ga [⟨hashW w "__module__",.str "__module__" 203,.str "segno.consts" 194⟩,⟨hashW w "__firstlineno__",.str "__firstlineno__" 207,.int 5 206⟩,⟨hashW w "__init__",.str "__init__" 216,.ref 35⟩,⟨hashW w "__get__",.str "__get__" 225,.ref 43⟩,⟨hashW w "__set__",.str "__set__" 234,.ref 50⟩,⟨hashW w "__delete__",.str "__delete__" 242,.ref 57⟩,⟨hashW w "__static_attributes__",.str "__static_attributes__" 245,.ref 58⟩,⟨hashW w "__dict__",.str "__dict__" 247,.ref 61⟩,⟨hashW w "__weakref__",.str "__weakref__" 249,.ref 62⟩,⟨hashW w "__doc__",.str "__doc__" 250,.none⟩] 4
noncomputable def Nm(w:ja):Sa:=⟨.type "type",none,.cls {name:="_tuplegetter",bases:=[.type "object"],mro:=[.ref 60,.type "object"],ns:=59,qualname:="_tuplegetter",hasDict:=true,slotNames:=[]},⟨[none,none,some (.str "_tuplegetter" 196),some (.str "_tuplegetter" 204),some (.builtin "object.__new__"),some (.bool true)]⟩⟩
noncomputable def oy(S:T3)(B:List cb)(w:ja):Sa:=Ga [⟨hashW w "index",.str "index" 371,.int 0 365⟩,⟨hashW w "__doc__",.str "__doc__" 373,iA (S.t.get 123) 1⟩] 2
noncomputable def NY(w:ja):Sa:=oy (Tc w) fb w
noncomputable def Ju(w:ja):Sa:=⟨.ref 60,some 123,.plain,⟨[]⟩⟩
noncomputable def ny(S:T3)(B:List cb)(w:ja):Sa:=Ga [⟨hashW w "index",.str "index" 381,.int 1 375⟩,⟨hashW w "__doc__",.str "__doc__" 383,iA (S.t.get 126) 1⟩] 2
noncomputable def MY(w:ja):Sa:=ny (Tc w) fb w
noncomputable def Iu(w:ja):Sa:=⟨.ref 60,some 126,.plain,⟨[]⟩⟩
noncomputable def my(S:T3)(B:List cb)(w:ja):Sa:=Ga [⟨hashW w "index",.str "index" 391,.int 2 385⟩,⟨hashW w "__doc__",.str "__doc__" 393,iA (S.t.get 129) 1⟩] 2
noncomputable def LY(w:ja):Sa:=my (Tc w) fb w
noncomputable def Hu(w:ja):Sa:=⟨.ref 60,some 129,.plain,⟨[]⟩⟩
noncomputable def wk(S:T3)(B:List cb)(w:ja):Sa:=Ga [⟨hashW w "__module__",.str "__module__" 279,.str "segno.consts" 194⟩,⟨hashW w "__firstlineno__",.str "__firstlineno__" 283,.int 31 282⟩,⟨hashW w "__doc__",.str "__doc__" 285,iA (S.t.get 134) 2⟩,⟨hashW w "__slots__",.str "__slots__" 287,.ref 73⟩,⟨hashW w "_fields",.str "_fields" 291,.ref 74⟩,⟨hashW w "_field_defaults",.str "_field_defaults" 292,.ref 75⟩,⟨hashW w "__new__",.str "__new__" 303,.ref 136⟩,⟨hashW w "_make",.str "_make" 325,.ref 91⟩,⟨hashW w "_replace",.str "_replace" 336,.ref 100⟩,⟨hashW w "__replace__",.str "__replace__" 337,.ref 100⟩,⟨hashW w "__repr__",.str "__repr__" 345,.ref 107⟩,⟨hashW w "_asdict",.str "_asdict" 352,.ref 114⟩,⟨hashW w "__getnewargs__",.str "__getnewargs__" 360,.ref 121⟩,⟨hashW w "__match_args__",.str "__match_args__" 364,.ref 122⟩,⟨hashW w "num_blocks",.str "num_blocks" 374,.ref 124⟩,⟨hashW w "num_total",.str "num_total" 384,.ref 127⟩,⟨hashW w "num_data",.str "num_data" 394,.ref 130⟩,⟨hashW w "__static_attributes__",.str "__static_attributes__" 395,.ref 132⟩] 2
noncomputable def fA(w:ja):Sa:=wk (Tc w) fb w
noncomputable def Zf(w:ja):Sa:=⟨.type "type",none,.cls {name:="EC",bases:=[.type "tuple"],mro:=[.ref 135,.type "tuple",.type "object"],ns:=134,qualname:="EC",hasDict:=false,slotNames:=[]},⟨[some (.ref 65),none,some (.str "EC" 272),some (.str "EC" 280),some .none,some (.bool false)]⟩⟩
noncomputable def WS(w:ja):Sa:=⟨.type "code",none,.fields ⟨[.str "__get__" 217,.str "_tuplegetter.__get__" 218,.str "/claim/cut.py" 219,.int 11 0,.int 3 0,.int 0 0,.int 0 0,.int 3 0,.ref 37,.bool true,.int 181 0,.ref 38,.none,.ref 39,.ref 40,.ref 41,.int 223 0,.int 11 0,.str "/claim/cut.py" 224]⟩,⟨[]⟩⟩
noncomputable def ly(w:ja):Sa:=Ga [⟨2,.int 2 3805,.ref 1869⟩,⟨5,.int 5 3809,.ref 1870⟩,⟨6,.int 6 3816,.ref 1871⟩,⟨7,.int 7 3824,.ref 1872⟩,⟨8,.int 8 3833,.ref 1873⟩,⟨10,.int 10 3843,.ref 1874⟩,⟨13,.int 13 3855,.ref 1875⟩,⟨14,.int 14 3870,.ref 1876⟩,⟨15,.int 15 3886,.ref 1877⟩,⟨16,.int 16 3903,.ref 1878⟩,⟨17,.int 17 3921,.ref 1879⟩,⟨18,.int 18 3940,.ref 1880⟩,⟨20,.int 20 3960,.ref 1881⟩,⟨22,.int 22 3982,.ref 1882⟩,⟨24,.int 24 4006,.ref 1883⟩,⟨26,.int 26 4032,.ref 1884⟩,⟨28,.int 28 4060,.ref 1885⟩,⟨30,.int 30 4090,.ref 1887⟩] 18
noncomputable def sD(w:ja):Sa:=⟨.type "tuple",none,.seq ⟨[.int 25 3806,.int 1 3807]⟩ 0,⟨[]⟩⟩
noncomputable def rD(w:ja):Sa:=⟨.type "tuple",none,.seq ⟨[.int 113 3810,.int 164 3811,.int 166 3812,.int 119 3813,.int 10 3814]⟩ 0,⟨[]⟩⟩
noncomputable def Gu(w:ja):Sa:=⟨.type "tuple",none,.seq ⟨[.int 166 3817,.int 0 3818,.int 134 3819,.int 5 3820,.int 176 3821,.int 15 3822]⟩ 0,⟨[]⟩⟩
noncomputable def qD(w:ja):Sa:=⟨.type "tuple",none,.seq ⟨[.int 87 3825,.int 229 3826,.int 146 3827,.int 149 3828,.int 238 3829,.int 102 3830,.int 21 3831]⟩ 0,⟨[]⟩⟩
noncomputable def Fu(w:ja):Sa:=⟨.type "tuple",none,.seq ⟨[.int 175 3834,.int 238 3835,.int 208 3836,.int 249 3837,.int 215 3838,.int 252 3839,.int 196 3840,.int 28 3841]⟩ 0,⟨[]⟩⟩
noncomputable def Eu(w:ja):Sa:=⟨.type "tuple",none,.seq ⟨[.int 251 3844,.int 67 3845,.int 46 3846,.int 61 3847,.int 118 3848,.int 70 3849,.int 64 3850,.int 94 3851,.int 32 3852,.int 45 3853]⟩ 0,⟨[]⟩⟩
noncomputable def pD(w:ja):Sa:=⟨.type "tuple",none,.seq ⟨[.int 74 3856,.int 152 3857,.int 176 3858,.int 100 3859,.int 86 3860,.int 100 3861,.int 106 3862,.int 104 3863,.int 130 3864,.int 218 3865,.int 206 3866,.int 140 3867,.int 78 3868]⟩ 0,⟨[]⟩⟩
noncomputable def mD(w:ja):Sa:=⟨.type "tuple",none,.seq ⟨[.int 199 3871,.int 249 3872,.int 155 3873,.int 48 3874,.int 190 3875,.int 124 3876,.int 218 3877,.int 137 3878,.int 216 3879,.int 87 3880,.int 207 3881,.int 59 3882,.int 22 3883,.int 91 3884]⟩ 0,⟨[]⟩⟩
noncomputable def jT(w:ja):Sa:=⟨.type "tuple",none,.seq ⟨[.int 8 3887,.int 183 3888,.int 61 3889,.int 91 3890,.int 202 3891,.int 37 3892,.int 51 3893,.int 58 3894,.int 58 3895,.int 237 3896,.int 140 3897,.int 124 3898,.int 5 3899,.int 99 3900,.int 105 3901]⟩ 0,⟨[]⟩⟩
noncomputable def iT(w:ja):Sa:=⟨.type "tuple",none,.seq ⟨[.int 120 3904,.int 104 3905,.int 107 3906,.int 109 3907,.int 102 3908,.int 161 3909,.int 76 3910,.int 3 3911,.int 91 3912,.int 191 3913,.int 147 3914,.int 169 3915,.int 182 3916,.int 194 3917,.int 225 3918,.int 120 3919]⟩ 0,⟨[]⟩⟩
noncomputable def lD(w:ja):Sa:=⟨.type "tuple",none,.seq ⟨[.int 43 3922,.int 139 3923,.int 206 3924,.int 78 3925,.int 43 3926,.int 239 3927,.int 123 3928,.int 206 3929,.int 214 3930,.int 147 3931,.int 24 3932,.int 99 3933,.int 150 3934,.int 39 3935,.int 243 3936,.int 163 3937,.int 136 3938]⟩ 0,⟨[]⟩⟩
noncomputable def fT(w:ja):Sa:=⟨.type "tuple",none,.seq ⟨[.int 215 3941,.int 234 3942,.int 158 3943,.int 94 3944,.int 184 3945,.int 97 3946,.int 118 3947,.int 170 3948,.int 79 3949,.int 187 3950,.int 152 3951,.int 148 3952,.int 252 3953,.int 179 3954,.int 5 3955,.int 98 3956,.int 96 3957,.int 153 3958]⟩ 0,⟨[]⟩⟩
noncomputable def eT(w:ja):Sa:=⟨.type "tuple",none,.seq ⟨[.int 17 3961,.int 60 3962,.int 79 3963,.int 50 3964,.int 61 3965,.int 163 3966,.int 26 3967,.int 187 3968,.int 202 3969,.int 180 3970,.int 221 3971,.int 225 3972,.int 83 3973,.int 239 3974,.int 156 3975,.int 164 3976,.int 212 3977,.int 212 3978,.int 188 3979,.int 190 3980]⟩ 0,⟨[]⟩⟩
noncomputable def dT(w:ja):Sa:=⟨.type "tuple",none,.seq ⟨[.int 210 3983,.int 171 3984,.int 247 3985,.int 242 3986,.int 93 3987,.int 230 3988,.int 14 3989,.int 109 3990,.int 221 3991,.int 53 3992,.int 200 3993,.int 74 3994,.int 8 3995,.int 172 3996,.int 98 3997,.int 80 3998,.int 219 3999,.int 134 4000,.int 160 4001,.int 105 4002,.int 165 4003,.int 231 4004]⟩ 0,⟨[]⟩⟩
noncomputable def bT(w:ja):Sa:=⟨.type "tuple",none,.seq ⟨[.int 229 4007,.int 121 4008,.int 135 4009,.int 48 4010,.int 211 4011,.int 117 4012,.int 251 4013,.int 126 4014,.int 159 4015,.int 180 4016,.int 169 4017,.int 152 4018,.int 192 4019,.int 226 4020,.int 228 4021,.int 218 4022,.int 111 4023,.int 0 4024,.int 117 4025,.int 232 4026,.int 87 4027,.int 96 4028,.int 227 4029,.int 21 4030]⟩ 0,⟨[]⟩⟩
noncomputable def ZS(w:ja):Sa:=⟨.type "tuple",none,.seq ⟨[.int 173 4033,.int 125 4034,.int 158 4035,.int 2 4036,.int 103 4037,.int 182 4038,.int 118 4039,.int 17 4040,.int 145 4041,.int 201 4042,.int 111 4043,.int 28 4044,.int 165 4045,.int 53 4046,.int 161 4047,.int 21 4048,.int 245 4049,.int 142 4050,.int 13 4051,.int 102 4052,.int 48 4053,.int 227 4054,.int 153 4055,.int 145 4056,.int 218 4057,.int 70 4058]⟩ 0,⟨[]⟩⟩
noncomputable def YS(w:ja):Sa:=⟨.type "tuple",none,.seq ⟨[.int 168 4061,.int 223 4062,.int 200 4063,.int 104 4064,.int 224 4065,.int 234 4066,.int 108 4067,.int 180 4068,.int 110 4069,.int 190 4070,.int 195 4071,.int 147 4072,.int 205 4073,.int 27 4074,.int 232 4075,.int 201 4076,.int 21 4077,.int 43 4078,.int 245 4079,.int 87 4080,.int 42 4081,.int 195 4082,.int 212 4083,.int 119 4084,.int 242 4085,.int 37 4086,.int 9 4087,.int 123 4088]⟩ 0,⟨[]⟩⟩
noncomputable def jo(w:ja):Sa:=⟨.type "tuple",none,.seq ⟨iO 4123 ((Qa 256).map λa=>(ao 255 1).idxOf a % 255)⟩ 0,⟨[]⟩⟩
noncomputable def Vl(w:ja):Sa:=⟨.type "list",none,.seq ⟨iO 4380 (ao 255 1)++iO 4380 (ao 255 1)⟩ 0,⟨[]⟩⟩
noncomputable def sF(S:T3)(B:List cb)(w:ja):Sa:=br "make_final_message" "make_final_message" (Lq B 17) (.none) (PV (S.u.get (1895-1868))) (.str "segno.encoder" 4637) (.ref 1894)
noncomputable def Yf(w:ja):Sa:=sF (Tc w) fb w
noncomputable def rF(S:T3)(B:List cb)(w:ja):Sa:=br "make_blocks" "make_blocks" (Lq B 18) (.none) (PV (S.u.get (1900-1868))) (.str "segno.encoder" 4637) (.ref 1899)
noncomputable def Vg(w:ja):Sa:=rF (Tc w) fb w
noncomputable def XS(w:ja):Sa:=⟨.type "tuple",none,.seq ⟨[]⟩ 0,⟨[]⟩⟩
noncomputable def kD(w:ja):Sa:=⟨.type "tuple",none,.seq ⟨[.ref 1909]⟩ 0,⟨[]⟩⟩
noncomputable def bu(S:T3)(B:List cb)(w:ja):Sa:=br "__init__" "Buffer.__init__" (yp B 19 "__init__") (.ref 1910) (.none) (.str "segno.encoder" 4637) (.ref 1916)
noncomputable def Du(w:ja):Sa:=bu (Tc w) fb w
noncomputable def au(S:T3)(B:List cb)(w:ja):Sa:=br "extend" "Buffer.extend" (yp B 19 "extend") (.none) (.none) (.str "segno.encoder" 4637) (.ref 1923)
noncomputable def Cu(w:ja):Sa:=au (Tc w) fb w
noncomputable def Zt(S:T3)(B:List cb)(w:ja):Sa:=br "getbits" "Buffer.getbits" (yp B 19 "getbits") (.none) (.none) (.str "segno.encoder" 4637) (.ref 1937)
noncomputable def jD(w:ja):Sa:=Zt (Tc w) fb w
noncomputable def Yt(S:T3)(B:List cb)(w:ja):Sa:=br "toints" "Buffer.toints" (yp B 19 "toints") (.none) (PV (S.u.get (1945-1868))) (.str "segno.encoder" 4637) (.ref 1944)
noncomputable def uq(w:ja):Sa:=Yt (Tc w) fb w
noncomputable def Og(S:T3)(B:List cb)(w:ja):Sa:=Ga [⟨hashW w "__module__",.str "__module__" 4660,.str "segno.encoder" 4637⟩,⟨hashW w "__firstlineno__",.str "__firstlineno__" 4664,.int 141 4663⟩,⟨hashW w "__doc__",.str "__doc__" 4666,iA (S.u.get (1962-1868)) 2⟩,⟨hashW w "__slots__",.str "__slots__" 4669,.ref 1908⟩,⟨hashW w "__init__",.str "__init__" 4677,.ref 1917⟩,⟨hashW w "extend",.str "extend" 4685,.ref 1924⟩,⟨hashW w "append_bits",.str "append_bits" 4694,.ref 1931⟩,⟨hashW w "getbits",.str "getbits" 4701,.ref 1938⟩,⟨hashW w "toints",.str "toints" 4710,.ref 1945⟩,⟨hashW w "__len__",.str "__len__" 4717,.ref 1952⟩,⟨hashW w "__getitem__",.str "__getitem__" 4725,.ref 1959⟩,⟨hashW w "__static_attributes__",.str "__static_attributes__" 4727,.ref 1960⟩,⟨hashW w "_data",.str "_data" 4729,.ref 1964⟩] 2
noncomputable def tq(w:ja):Sa:=Og (Tc w) fb w
noncomputable def Ic(w:ja):Sa:=⟨.type "type",none,.cls {name:="Buffer",bases:=[.type "object"],mro:=[.ref 1963,.type "object"],ns:=1962,qualname:="Buffer",hasDict:=false,slotNames:=["_data"]},⟨[none,none,some (.str "Buffer" 4653),some (.str "Buffer" 4661),some (.builtin "object.__new__"),some (.bool false)]⟩⟩
noncomputable def sq(w:ja):Sa:=⟨.type "member_descriptor",none,.fields ⟨[.str "_data" 4728,.ref 1963,.builtin "proto.slot",.builtin "proto.slot#set",.int 0 0]⟩,⟨[]⟩⟩
noncomputable def qF(S:T3)(B:List cb)(w:ja):Sa:=br "_law_LAYOUTS" "_law_LAYOUTS" (Lq B 21) (.none) (.none) (.str "law_im0110_02" 4732) (.ref 1972)
noncomputable def ky(w:ja):Sa:=qF (Tc w) fb w
noncomputable def pF(S:T3)(B:List cb)(w:ja):Sa:=br "law" "law" (Lq B 22) (.none) (.none) (.str "law_im0110_02" 4732) (.ref 1977)
noncomputable def Au(w:ja):Sa:=pF (Tc w) fb w
noncomputable def wK(w:ja):Sa:=⟨.none,none,.fields ⟨[]⟩,⟨[]⟩⟩
noncomputable def vq(w:ja):Sa:=⟨.type "code",none,.fields ⟨[.str "make_final_message" 4639,.str "make_final_message" 4640,.str "/claim/cut.py" 4641,.int 79 0,.int 3 0,.int 0 0,.int 0 0,.int 3 0,.ref 1891,.bool true,.int 181 0,.ref 1892,.none,.none,.none,.ref 1893,.int 4642 0,.int 79 0,.str "/claim/cut.py" 4643]⟩,⟨[]⟩⟩
noncomputable def vK(w:ja):Sa:=⟨.type "code",none,.fields ⟨[.str "make_blocks" 4646,.str "make_blocks" 4647,.str "/claim/cut.py" 4648,.int 111 0,.int 2 0,.int 0 0,.int 0 0,.int 3 0,.ref 1896,.bool true,.int 181 0,.ref 1897,.none,.none,.none,.ref 1898,.int 4649 0,.int 111 0,.str "/claim/cut.py" 4650]⟩,⟨[]⟩⟩
noncomputable def uK(w:ja):Sa:=⟨.type "code",none,.fields ⟨[.str "__init__" 4670,.str "Buffer.__init__" 4671,.str "/claim/cut.py" 4672,.int 146 0,.int 2 0,.int 0 0,.int 0 0,.int 3 0,.ref 1911,.bool true,.int 181 0,.ref 1912,.none,.ref 1913,.ref 1914,.ref 1915,.int 4675 0,.int 146 0,.str "/claim/cut.py" 4676]⟩,⟨[]⟩⟩
noncomputable def tK(w:ja):Sa:=⟨.type "code",none,.fields ⟨[.str "extend" 4678,.str "Buffer.extend" 4679,.str "/claim/cut.py" 4680,.int 149 0,.int 2 0,.int 0 0,.int 0 0,.int 3 0,.ref 1918,.bool true,.int 181 0,.ref 1919,.none,.ref 1920,.ref 1921,.ref 1922,.int 4683 0,.int 149 0,.str "/claim/cut.py" 4684]⟩,⟨[]⟩⟩
noncomputable def rK(w:ja):Sa:=⟨.type "code",none,.fields ⟨[.str "getbits" 4695,.str "Buffer.getbits" 4696,.str "/claim/cut.py" 4697,.int 155 0,.int 1 0,.int 0 0,.int 0 0,.int 3 0,.ref 1932,.bool true,.int 181 0,.ref 1933,.none,.ref 1934,.ref 1935,.ref 1936,.int 4699 0,.int 155 0,.str "/claim/cut.py" 4700]⟩,⟨[]⟩⟩
noncomputable def qK(w:ja):Sa:=⟨.none,none,.fields ⟨[]⟩,⟨[]⟩⟩
noncomputable def Bu(w:ja):Sa:=⟨.type "code",none,.fields ⟨[.str "toints" 4702,.str "Buffer.toints" 4703,.str "/claim/cut.py" 4704,.int 158 0,.int 1 0,.int 0 0,.int 0 0,.int 3 0,.ref 1939,.bool true,.int 181 0,.ref 1940,.none,.ref 1941,.ref 1942,.ref 1943,.int 4707 0,.int 158 0,.str "/claim/cut.py" 4708]⟩,⟨[]⟩⟩
noncomputable def pK(w:ja):Sa:=⟨.type "code",none,.fields ⟨[.str "_law_LAYOUTS" 4734,.str "_law_LAYOUTS" 4735,.str "/claim/cut.py" 4736,.int 170 0,.int 0 0,.int 0 0,.int 0 0,.int 3 0,.ref 1967,.bool true,.int 181 0,.ref 1968,.none,.ref 1969,.ref 1970,.ref 1971,.int 4737 0,.int 170 0,.str "/claim/cut.py" 4738]⟩,⟨[]⟩⟩
noncomputable def oK(w:ja):Sa:=⟨.none,none,.fields ⟨[]⟩,⟨[]⟩⟩
noncomputable def fD(w:ja):Sa:=⟨.type "code",none,.fields ⟨[.str "law" 4740,.str "law" 4741,.str "/claim/cut.py" 4742,.int 172 0,.int 1 0,.int 0 0,.int 0 0,.int 3 0,.ref 1974,.bool true,.int 181 0,.ref 1975,.none,.none,.none,.ref 1976,.int 4743 0,.int 172 0,.str "/claim/cut.py" 4744]⟩,⟨[]⟩⟩
noncomputable def xR(S:T3)(w:ja):List (Nat×Sa):=[(2,GO w),(3,FO w),(4,nK w),(36,KY w),(43,ZQ S fb w),(59,Om w),(60,Nm w),(123,oy S fb w),(124,Ju w),(126,ny S fb w),(127,Iu w),(129,my S fb w),(130,Hu w),(134,wk S fb w),(135,Zf w),(42,WS w)]
noncomputable def VA(w:ja):List (Nat×Sa):=xR (Tc w) w
noncomputable def wR(S:T3)(w:ja):List (Nat×Sa):=[(1868,ly w),(1869,sD w),(1870,rD w),(1871,Gu w),(1872,qD w),(1873,Fu w),(1874,Eu w),(1875,pD w),(1876,mD w),(1877,jT w),(1878,iT w),(1879,lD w),(1880,fT w),(1881,eT w),(1882,dT w),(1883,bT w),(1884,ZS w),(1885,YS w),(1888,jo w),(1890,Vl w),(1895,sF S fb w),(1900,rF S fb w),(1909,XS w),(1910,kD w),(1917,bu S fb w),(1924,au S fb w),(1938,Zt S fb w),(1945,Yt S fb w),(1962,Og S fb w),(1963,Ic w),(1964,sq w),(1973,qF S fb w),(1978,pF S fb w),(1892,wK w),(1894,vq w),(1899,vK w),(1916,uK w),(1923,tK w),(1937,rK w),(1940,qK w),(1944,Bu w),(1972,pK w),(1975,oK w),(1977,fD w)]
noncomputable def Qy(w:ja):List (Nat×Sa):=wR (Tc w) w
noncomputable def Qp(g:Sa)(w:ja):Na:=⟨⟨[g,Ln,GO w,FO w,nK w]⟩,(Ke w.params).life⟩
noncomputable def Yh(w:ja):Na:=Qp (((Tc w).t.get 0).getD Ln) w
noncomputable def LQ(S:T3)(p:wa)(b a:T3->ja->List (Nat×Sa))(c:Vf->Na)(t:Sa->ja->Na)(w:ja):Prop:=
 ((b S w).map (λx=>S.t.get x.1),(a S w).map (λx=>S.u.get (x.1-1868)),((S.t.get 0).getD Ln).isFreed,(t ((S.t.get 0).getD Ln) w).bltView,(t ((S.t.get 0).getD Ln) w).isNs 0,
  (t ((S.t.get 0).getD Ln) w).accountedOkI (xj p.main.body)&&staticsOk (xj p.main.body) (c w.params) (t ((S.t.get 0).getD Ln) w)&&namesBound p (t ((S.t.get 0).getD Ln) w)&&laidKept (c w.params) (t ((S.t.get 0).getD Ln) w))=
 ((b S w).map (λx=>some x.2),(a S w).map (λx=>some x.2),false,bltViewBooted,true,true)
noncomputable def nJ(p:wa)(T:Vf->BT)(c a:Jb)(e d:T3->ja->List (Nat×Sa))(f:Vf->Na)(t:Sa->ja->Na)(w:ja)(b:Bool):Prop:=LQ (gS p T c a (w.withFollow "special-get-raises" b)) p e d f t (w.withFollow "special-get-raises" b)
noncomputable def Wo:=nJ PP T0 ee qp xR wR Ke Qp
noncomputable def zA(w:ja):Prop:=((VA w).all (λx=>!x.2.isFreed&&Uh x.1 139)&&(Qy w).all (λx=>!x.2.isFreed&&Wf 1868 x.1))=true
lay_quick Mine.nJ
theorem nS(w:ja):Wo w false:=by
 unfold Wo
 rw[PySem.W.Fast.te11235712300286958205]
 unfold PySem.W.Fast.tw11235712300286958205 PySem.W.Fast.tw4225662084336258176
 kernel_rfl
theorem mS(w:ja):Wo w true:=by
 unfold Wo
 rw[PySem.W.Fast.te11235712300286958205]
 unfold PySem.W.Fast.tw11235712300286958205 PySem.W.Fast.tw4225662084336258176
 kernel_rfl
theorem lJ(w:ja)(b:Bool):Wo w b:=by
 cases b
 ·exact nS w
 ·exact mS w
theorem ax(w:ja):zA w:=by
 unfold zA
 kernel_rfl
theorem Ft{h h':Na}(k:xa)(e:h.get? Hc=h'.get? Hc):Qx h k=Qx h' k:=by unfold Qx;rw[e]
structure Ah(w:ja)(h:Na):Prop where
 t:∀x∈VA w,h.get? x.1=some x.2
 u:∀x∈Qy w,h.get? x.1=some x.2
 z:h.get? 0=(Yh w).get? 0
 ecc:h.get? 139=some (Ga (EE w) 76)
 ec:∀x∈F1,h.get? x.1=some x.2
theorem gm(w:ja):((VA w).map (λx=>(Tc w).t.get x.1),(Qy w).map (λx=>(Tc w).u.get (x.1-1868)),
  (((Tc w).t.get 0).getD Ln).isFreed,(Yh w).bltView,(Yh w).isNs 0,
  (Yh w).accountedOkI (xj PP.main.body)&&staticsOk (xj PP.main.body) (Ke w.params) (Yh w)&&namesBound PP (Yh w)&&laidKept (Ke w.params) (Yh w))=
 ((VA w).map (λx=>some x.2),(Qy w).map (λx=>some x.2),false,bltViewBooted,true,true):=by
 have e:=lJ w (w.params.followText Yn)
 unfold Wo nJ LQ at e
 rw[Nb] at e
 exact e
theorem xH(w:ja):(VA w).all (λx=>!x.2.isFreed&&Uh x.1 139)=true:=(Bool.and_eq_true_iff.mp (ax w)).1
theorem wH(w:ja):(Qy w).all (λx=>!x.2.isFreed&&Wf 1868 x.1)=true:=(Bool.and_eq_true_iff.mp (ax w)).2
theorem sS(g:Sa)(w:ja):(Qp g w).get? 0=alive g:=by
 obtain ⟨c,d,a,b⟩:=g
 cases a <;> rfl
theorem rS(g:Sa)(w:ja):(Qp g w).get? 2=some (GO w):=rfl
theorem qS(g:Sa)(w:ja):(Qp g w).get? 3=some (FO w):=rfl
theorem TX(w:ja):(Yh w).get? 0=alive (((Tc w).t.get 0).getD Ln):=sS _ w
theorem NQ(w:ja):(Yh w).get? 2=some (GO w):=rS _ w
theorem MQ(w:ja):(Yh w).get? 3=some (FO w):=qS _ w
theorem gN.wV{w:ja}{h:Na}(F:gN w h):Ah w h:=by
 have e:=gm w
 simp only[we] at e
 obtain ⟨d,c,b,_⟩:=e
 have d:=List.map_inj_left.mp d
 have c:=List.map_inj_left.mp c
 refine⟨λx a=>?_,λx a=>?_,?_,F.ecc,F.facts⟩
 ·have q:=List.all_eq_true.mp (xH w) x a
  simp only[Bd,Hf] at q
  exact F.old _ _ (d x a) q.1 (Bq q.2)
 ·have q:=List.all_eq_true.mp (wH w) x a
  simp only[Bd,Hf] at q
  have:=F.own _ _ (c x a) q.1
  rw[Yp 1868 x.1 (Sd q.2)] at this
  exact this
 ·rw[TX,UB b]
  cases hz:(Tc w).t.get 0 with
  |none=>rw[hz] at b;cases b
  |some o=>
   rw[hz] at b
   exact F.old 0 o hz b (by decide)
section
variable{w:ja}{h:Na}(F:Ah w h)
include F
theorem Ah.GO:h.get? 2=some (GO w):=F.t (2,Mine.GO w) (.head _)
theorem Ah.FO:h.get? 3=some (FO w):=F.t (3,Mine.FO w) (.tail _ (.head _))
theorem Ah.nK:h.get? 4=some (nK w):=F.t (4,Mine.nK w) (.tail _ (.tail _ (.head _)))
theorem Ah.at2:h.get? Ue=(Yh w).get? Ue:=by
 have e:Ue=2:=rfl
 rw[e,NQ];exact F.GO
theorem Ah.QW:h.get? hu=(Yh w).get? hu:=by
 have e:hu=3:=rfl
 rw[e,MQ];exact F.FO
theorem Ah.v9:h.get? Hc=(Yh w).get? Hc:=by
 have e:Hc=0:=rfl
 rw[e];exact F.z
theorem Ah.static(k:xa):Y5 h k=Y5 (Yh w) k:=by unfold Y5;rw[F.at2]
theorem Ah.global(k:xa):Hi h k=Hi (Yh w) k:=by unfold Hi;rw[F.QW]
theorem Ah.builtin(k:xa):Qx h k=Qx (Yh w) k:=Ft k F.v9
end
noncomputable abbrev LL:=PySem.Challenge.rw_im0110_02
theorem rO:PP.bare:=⟨rfl,rfl,rfl,rfl,rfl,by kernel_rfl⟩
theorem qO:opening PP=plainProg PP.main.scope.names:=by kernel_rfl
theorem dK(s:aa):fenceModules? PP s=some s:=by kernel_rfl
theorem pO:opensWell PP=true:=by kernel_rfl
theorem cK:frees LL.row.toRowW=true:=by kernel_rfl
theorem jF:LL.row.toRowW.promised:=⟨[.list []],by kernel_rfl,by kernel_rfl⟩
theorem IM(P:Vf):Hi (Ke P) "__annotations__"=ki:=by kernel_rfl
theorem bF(g:Sa)(w:ja):Hi (Qp g w) "__builtins__"=some (.ref 4):=by kernel_rfl
theorem Sw(g:Sa)(w:ja):Hi (Qp g w) "law"=some (.ref 1978):=by kernel_rfl
theorem Ah.ran{w:ja}{h:Na}(F:Ah w h):jW h (xj PP.main.body)/\staticsBehindTheTop (xj PP.main.body) (Ke w.params) h/\keysAreStrs h hu/\builtinsAsBooted h /\
  builtinsGlobalAsBooted h/\(∀x v,Hi h x=some v->x∈startupNames\/x∈PP.boundNames)/\∀x∈laidNames,Hi h x=Hi (Ke w.params) x:=by
 have e:=gm w
 simp only[we] at e
 refine Nc λb=>?_;obtain ⟨_,_,_,eb,hb,f⟩:=e;refine b ?_
 simp only[Bd] at f
 refine Nc λb=>?_;obtain ⟨⟨⟨l,j⟩,g⟩,i⟩:=f;refine b ?_
 refine⟨?_,λc=>?_,?_,λx a=>?_,⟨4,Mine.nK w,?_,F.nK,rfl,rfl⟩,λx v a=>?_,λx a=>?_⟩
 ·have A:=Heap.accountedI_of_ok l
  unfold jW at A ⊢
  simpa only [F.static] using A
 ·rw[F.static]
  exact statics_of_ok j c
 ·refine Nc λb=>?_;obtain ⟨o,es,n,e,d,k⟩:=Pin.keysAreStrs_of (Bool.and_eq_true_iff.mp g).1;refine b ?_
  exact⟨o,es,n,F.QW.trans e,d,k⟩
 ·rw[F.builtin]
  exact(Pin.builtinOf_eq hb x).trans (SN hb eb x a)
 ·rw[F.global];exact bF _ w
 ·rw[F.global] at a
  exact names_of_bound g x v a
 ·rw[F.global]
  exact laid_of_kept i x a
theorem fx{h:Na}{a:la}(e:h.isNs a=true):∃o,h.get? a=some o:=by
 unfold o6 at e
 cases q:h.get? a with
 |none=>rw[q] at e;cases e
 |some o=>exact⟨o,rfl⟩
theorem Qr(w:ja):(Yh w).isNs 0=true:=by
 have e:=gm w
 simp only[we] at e
 exact e.2.2.2.2.1
theorem Yo(w:ja):(Yh w).isNs jd=true:=by
 have e:=gm w
 simp only[we] at e
 have a:=e.2.2.2.2.2
 simp only[Bd] at a
 exact(Bool.and_eq_true_iff.mp a.1.2).1
theorem hO{w:ja}{os:xi}(z:(⟨Ke w.params,#[],ju,181,os⟩:aa).asleep):
  ∃c:aa,TopRan PP w ⟨Ke w.params,#[],ju,181,os⟩ c/\c.heap.life=(Ke w.params).life/\c.gens=#[]/\Ah w c.heap:=by
 refine Nc λf=>?_;obtain ⟨h,t,g,j,F⟩:=mJ w #[] ju os;refine f ?_
 have r:Ox Ka PP w 11 ki 1 ⟨h,#[],ju,4746,os⟩ t=some ⟨h,#[],ju,4746,os⟩:=by
  unfold Ox;rw[j]
 obtain ⟨N,e⟩:=g 1 _ r
 rw[<- iG] at e
 refine Nc λf=>?_;obtain ⟨a,l,o,fr⟩:=topRun_spec N _ _ _ z e
 have i:=F.wV
 obtain ⟨r1,r2,n,r4,r5,m,k⟩:=i.ran;refine f ?_
 refine⟨_,⟨a,l,jN o,λb p hb d=>fr b p (Ba hb) (λq=>d (.inl q)) (λq=>d (.inr (.inl q))) (λq=>d (.inr (.inr ((IM w.params).trans q)))) hb,r1,r2,n,r4,r5,?_,m,k⟩,l,rfl,i⟩
 intro g hg
 simp at hg
theorem fJ{P:Vf}{h:Na}{v:Value}{k:Int}(x:Well P h v (.int k)):∃t,v=.int k t:=by cases x;exact⟨_,rfl⟩
theorem sG{P:Vf}{h:Na}{v:Value}{xs:List g6}(x:Well P h v (.list xs)):∃a vs,v=.ref a/\h.get? a=some {cls:=.type "list",data:=.seq vs.toArray}/\rW P h vs xs:=by
 cases x with|list a b=>exact⟨_,_,rfl,a,b⟩
theorem Vz{P:Vf}{h:Na}{vs:List Value}(x:rW P h vs []):vs=[]:=by cases x;rfl
theorem Vq{P:Vf}{h:Na}{R:WRecords}:∀{xs:List g6} {vs:List Value},rW P h vs xs->(xs.all λx=>WShape.has R x .int)=true->∃ns:List Int,xs=ns.map Ez/\IntsAre vs ns
 |[],_,x,_=>⟨[],rfl,Vz x▸.nil⟩
 |d::xs,_,x,f=>
  have q:=Bool.and_eq_true_iff.mp f
  (hasW_int q.1).elim λk e=>(XW x).elim λv a=>a.elim λc a=>(fJ (e▸a.2.1)).elim λt g=>
   (Vq a.2.2 q.2).elim λns b=>⟨k::ns,e▸b.1▸rfl,by rw[a.1,g];exact .cons k t b.2⟩
theorem pL{P:Vf}{h:Na}{R:WRecords}{vs:List Value}{args:List g6}(g:WShape.hasAll R args [.list .int]=true)(x:rW P h vs args):
  ∃l ws ns,vs=[.ref l]/\args=[.list (ns.map Ez)]/\h.get? l=some {cls:=.type "list",data:=.seq ws.toArray}/\IntsAre ws ns:=
 (hasAllW_cons g).elim λd q=>q.elim λi q=>(hasW_list q.2.1).elim λxs e=>by
  obtain rfl:=q.1
  obtain rfl:=hasAllW_nil q.2.2
  obtain rfl:=e.1
  exact(XW x).elim λv b=>b.elim λf b=>(sG b.2.1).elim λl a=>a.elim λws a=>
   (Vq a.2.2 ((hasItems_all _ _).symm.trans e.2)).elim λns c=>⟨l,ws,ns,b.1.trans (a.1▸Vz b.2.2▸rfl),c.1▸rfl,a.2.1,c.2⟩
theorem Ah.keep{w:ja}{h h':Na}(F:Ah w h)(k:∀b o,h.get? b=some o->h'.get? b=some o):Ah w h':=
 ⟨λx a=>k _ _ (F.t x a),λx a=>k _ _ (F.u x a),(fx (Qr w)).elim λo c=>(k _ _ (F.z.trans c)).trans c.symm,k _ _ F.ecc,λx a=>k _ _ (F.ec x a)⟩
noncomputable def yf(st:cb):Fp×List cb×me:=match st with
 |.FunctionDef _ args body _ _ _ scope _ _ _=>(args,body,scope)
 |_=>(⟨[],[],none,[],[],none,[]⟩,[],default)
theorem nP:PP.theDef "law"=some ((yf (Ji 22)).1,(yf (Ji 22)).2.1,(yf (Ji 22)).2.2):=by kernel_rfl
theorem mP(w:ja):(Au w).data=.func (Hz "law" "law" (yf (Ji 22)).1 (.stmts (yf (Ji 22)).2.1) (yf (Ji 22)).2.2 3 [] .none .none .none (.str "law_im0110_02" 4732) none (.ref 1977) .none 0):=by kernel_rfl
theorem bx:(yf (Ji 22)).1.defaults=[]/\kwWritten? (yf (Ji 22)).1.kwonlyargs (yf (Ji 22)).1.kw_defaults=some []:=⟨by kernel_rfl,by kernel_rfl⟩
theorem sa{α:Type}{l:List α}{x:α}(i:Nat)(h:l[i]?=some x):x∈l:=Mb h
theorem oO{xs:List g6}(h:LL.row.toRowW.pre.holds [] {args:=[.list xs]}=true):xs.length<=63:=by
 refine NN λq=>?_
 have e:LL.row.toRowW.pre=.and (.not (.lt (.lit (.int 63)) (.len (.arg 0)))) (.lit (.bool true)):=rfl
 rw[e] at h
 have b:(63:Int) < (xs.length:Nat):=by omega
 have a:less? (.int 63) (.int (xs.length:Nat))=some (decide ((63:Int) < (xs.length:Nat))):=by kernel_rfl
 rw[decide_eq_true b] at a
 simp[WTm.holds,WTm.value,a] at h
theorem Tu{h h':Na}{a:la}(e:h.get? a=h'.get? a):h.isNs a=h'.isNs a:=by unfold o6;rw[e]
theorem bL(d:g6):LL.row.toRowW.claim.post [d] (.bool true) [d]=true:=by kernel_rfl
theorem ow{prog:wa}{w:ja}{t:Vb Fin}{s:aa}{R:Ob->aa->Prop}(c:s.asleep)
  (h:mc (ka prog w) OI t (λd s'=>∃f,d=.done f/\(R (.ok f) s'/\Oz s'.gens=false)) s):
  ∃n r s' Ng,runN (Gb wi) prog w n s ⟨t,.builtin "claim.caller" {},default,[]⟩=.halted (jI r) s' /\
   schedN (Gb wi) prog w n (.single s ⟨t,.builtin "claim.caller" {},default,[]⟩)=.halted (jI r) s'/\s'.forget=Ng.forget/\R r Ng:=by
 have o:Sem.wp (ka prog w) ⟨.builtin "claim.caller" {},none,none,[],none⟩ t
   (Sem.finPost (ka prog w) ⟨.builtin "claim.caller" {},none,none,[],none⟩ λr s'=>R r s'/\Oz s'.gens=false)
   (λe Z s'=>R (.error e) s'/\Oz s'.gens=false) default s:=by
  refine oq _ _ t (λd p s' h'=>?_) (λZ Z Z x=>x.elim) _ _ (h _ default caller_in ⟨by decide +kernel,λx j=>(nomatch j)⟩)
  refine Nc λi=>?_;obtain ⟨f,rfl,hf⟩:=h';refine i ?_
  exact hf
 refine Nc λi=>?_;obtain ⟨n,r,b,a,k,l,g,m⟩:=wp_halts_full (M:=ka prog w) (R:=R) c o;refine i ?_
 exact⟨n,r,a,b,l,k,g,m⟩
theorem oE{c:ClaimW}{j:List Value->Vb Fin}{w:ja}{s:aa}{free:la->Prop}{gens:Prop}{g:Na->Prop}(hz:s.asleep)(n:s.gens=#[])
  (m:∀args,c.pre args=true->WData.layableAll args=true->
   ∀ord:List Ta->List Ta,(∀l,(ord l).Perm l)->
   ∃vs a,layAllW c.records (classAt s.heap) w.params ord args s=some (vs,a) /\
    mc (ka c.prog w) OI (j vs) (λB s'=>∃f,B=.done f/\(c.Ends s args vs a (.ok f) s'/\s'.os=s.os/\AllBare s'.gens/\g s'.heap)) a):
  c.CallFrom (λvs=>⟨j vs,.builtin "claim.caller" {},default,[]⟩) w free gens g s:=by
 intro args t z ord u
 refine Nc λG=>?_
 refine(m args t z ord u).elim λvs q=>q.elim λa q=>?_
 have A:=layAllW_rest _ _ _ q.1
 obtain ⟨k,r,s',Ng,p,h,C,D⟩:=ow (R:=λr s'=>c.Ends s args vs a r s'/\s'.os=s.os/\g s'.heap) (Rn A.2.2.2 hz)
  (Vc q.2 λB s' q=>q.imp λf q=>⟨q.1,⟨q.2.1,q.2.2.1,q.2.2.2.2⟩,leftWithCleanup_false_of_bare q.2.2.2.1⟩)
 have e:=Shared.forget_eq C
 refine G ⟨vs,a,q.1,k,_,s',h,(D.1.congr e.1).imp (Mi λv=>And.imp (λ(q:r=.ok (.ret v))=>congrArg jI q) <| Rg <| Rg <| Rg <| oX λd b o y Z=>d b o y)
  (Mi λe=>Mi λH=>Mi λcls=>And.imp (λ(q:r=.error (.ref e))=>congrArg jI q) <| Rg <| Rg <| Rg <| Rg λd b o y Z=>d b o y),
  (λZ i x E=>nomatch (congrArg (·[i]?) n).symm.trans E),e.1▸D.2.2,congrArg Life.seen ((runN_life _ _ _ p).trans A.2.2.2),jN (e.2.2.2.1.trans D.2.1)⟩
theorem Gw(y:∀(w:ja) (s:aa) (l:la) (vs:List Value) (ns:List Int),Ah w s.heap->s.gens=#[]->s.heap.get? l=some {cls:=.type "list",data:=.seq vs.toArray}->IntsAre vs ns->ns.length<=63->
  mc (ka PP w) OI (call (.ref 1978) [.ref l]) (λv s'=>v=.bool true/\OldK s.heap s'.heap/\s'.os=s.os/\AllBare s'.gens) s):LL.Holds:=by
 refine holds_law (by rw[PySem.W.Fast.te9446332074065402090];kernel_rfl) λB=>?_
 refine⟨B,jF,⟨rO,pO,rfl⟩,fX jF,λw=>?_⟩
 have hb:=boot_open qO (by rfl:Wf 600 600=true) dK w
 rw[<- iG] at hb
 refine Nc λp=>?_;obtain ⟨⟨hp,gs,dr,tk,os⟩,h1,h2⟩:=Option.map_eq_some_iff.mp hb
 obtain ⟨s,h4,h5⟩:=Option.bind_eq_some_iff.mp h1;refine p ?_
 have A:=C6 h4
 have H:=h5
 refine⟨⟨s,A⟩,λs' N=>?_⟩
 obtain rfl:s'=s:=B6 N A
 have z:(⟨hp,gs,dr,tk,os⟩:aa).asleep:=Rn (fence_lifeW h5) A.life
 simp only[we] at h2
 refine Nc λp=>?_;obtain ⟨rfl,rfl,rfl,rfl⟩:=h2
 obtain ⟨d,T,Y,hg,F⟩:=hO (w:=w) (os:=os) z;refine p ?_
 have t:d.asleep:=Rn Y z
 refine⟨_,h5,rfl,d,T,?_,λx J=>(nomatch J),λx J=>(nomatch J),?_⟩
 ·intro n V
  have V:n∈(["law"]:List xa):=V
  obtain rfl:=List.mem_singleton.mp V
  have M:=F.u (1978,Au w) (sa 32 rfl)
  exact⟨1978,Au w,_,_,_,_,(F.global _).trans (Sw _ w),M,mP w,nP,rfl,rfl,rfl,rfl,rfl,rfl,rfl,rfl,.inl ⟨bx.1,rfl⟩,[],bx.2,.inl ⟨rfl,rfl⟩⟩
 ·refine oE (c:=LL.row.toRowW.claim) t hg λargs j E ord k=>?_
  refine Nc λp=>?_;obtain ⟨⟨vs,b⟩,f⟩:=Option.isSome_iff_exists.mp (layAllW_isSome (R:=[]) (cl:=classAt d.heap) (P:=w.params) (ord:=ord) (λc hc=>(nomatch hc)) args LL.row.toRowW.args d (pre_splitW (r:=LL.row.toRowW) j).1)
  have keeps:=layAllW_keeps _ _ _ f
  have o:=layAllW_rest _ _ _ f
  obtain ⟨as,O,hin,C⟩:=reads_layAllW k _ _ _ f E b.heap (λZ Z e=>e)
  have L:Laid [] w d b args vs as:=⟨⟨ord,k,f⟩,O,hin,C,keeps,o.1.trans hg,o.2.2.1⟩
  have i:=pre_splitW (r:=LL.row.toRowW) j
  obtain ⟨l,ws,ns,rfl,rfl,Y,hI⟩:=pL (R:=[]) i.1 L.well
  have D:ns.length<=63:=Ja (Cj (Yb Ez).symm) (oO i.2)
  have h:Ah w b.heap:=F.keep keeps
  have Q:b.heap.Ns jd (b.heap.nsMap jd):=vn ((Tu (a:=jd) h.QW).trans (Yo w))
  have hf:b.heap.nsMap jd "law"=some (.ref 1978):=(tQ ((Tu (a:=jd) h.QW).trans (Yo w)) _).symm.trans ((h.global _).trans (Sw _ w))
  obtain ⟨m,M,ha,hap,hm⟩:=frees_parts cK;refine p ?_
  have hi:=ident_freeW M ha hap
  have main:=y w b l ws ns h (o.1.trans hg) Y hI D
  refine⟨_,b,f,?_⟩
  refine Eh (CN Q ?_)
  rw[show b.heap.nsMap jd LL.row.toRowW.name=some (.ref 1978) from hf]
  refine Uj (Vc main (λv s' g=>Cb ?_))
  refine Nc λp=>?_;obtain ⟨rfl,g1,g2,g3⟩:=g;refine p ?_
  have G:GoodWG LL.row.toRowW.claim (classAt d.heap) (ExcName.means d.heap) [.list (ns.map Ez)] b (.ok (.ret (.bool true))) s':=
   ⟨.inl ⟨_,.bool true,[],rfl,λZ=>rfl,.bool _,bL _,λZ=>⟨.nil,λa ha=>(nomatch ha)⟩⟩,g1,g2,g3⟩
  have I:=G.laid (c:=LL.row.toRowW.claim) m rfl hi L
  exact⟨_,rfl,I.1,I.2.1,I.2.2,λq=>(nomatch q)⟩
noncomputable def DF:List Nat:=[1892,1940,1975]
structure Fk(w:ja)(h:Na):Prop where
 t:∀x∈VA w,h.get? x.1=some x.2
 u:∀x∈Qy w,DF.contains x.1=false->h.get? x.1=some x.2
 z:h.get? 0=(Yh w).get? 0
 ecc:h.get? 139=some (Ga (EE w) 76)
 ec:∀x∈F1,h.get? x.1=some x.2
theorem Fk.of{w:ja}{h:Na}(F:Ah w h):Fk w h:=⟨F.t,λx a Z=>F.u x a,F.z,F.ecc,F.ec⟩
theorem Pr(w:ja):∃o,(Yh w).get? 0=some o:=fx (Qr w)
theorem Fk.v9{w:ja}{h:Na}(F:Fk w h):h.get? Hc=(Yh w).get? Hc:=by
 have e:Hc=0:=rfl
 rw[e];exact F.z
theorem Fk.at2{w:ja}{h:Na}(F:Fk w h):h.get? Ue=(Yh w).get? Ue:=by
 have e:Ue=2:=rfl
 rw[e,NQ];exact F.t (2,GO w) (.head _)
theorem Fk.QW{w:ja}{h:Na}(F:Fk w h):h.get? hu=(Yh w).get? hu:=by
 have e:hu=3:=rfl
 rw[e,MQ];exact F.t (3,FO w) (.tail _ (.head _))
theorem Fk.keeps{w:ja}{h h':Na}(F:Fk w h)(k:∀b o,h.get? b=some o->h'.get? b=some o):Fk w h':=
 ⟨λx a=>k _ _ (F.t x a),λx a q=>k _ _ (F.u x a q),by
  refine(Pr w).elim λo c=>?_
  have e:=F.z
  rw[c] at e ⊢
  exact k _ _ e,k _ _ F.ecc,λx a=>k _ _ (F.ec x a)⟩
inductive Cf (α:Type) where
 |top (t:Vb α)
 |sub (t:Vb Fin) (ks:List (Ob->Vb Fin)) (K:Ob->Vb α)
noncomputable def one{σ β:Type}(O:rC σ)(p:wa)(w:ja)(st:σ)(k:Nat)(t:Vb β):Option (σ×Nat×Vb β):=match t with
  |.load a _ f=>(O.ld st a).bind λ|(o,c)=>some (c,k,f o)
  |.update a _ g f=>(O.up st a g).bind λx=>some (x,k,f ())
  |.alloc o f=>(O.al st o).bind λ|(a,c)=>some (c,k,f a)
  |.fresh f=>some (st,Dn k,f k)
  |.ask f=>some (st,k,f ⟨p,w.params⟩)
  |.rule _ f=>some (st,k,f ())
  |.at _ f=>some (st,k,f ())
  |.point _ f=>some (st,k,f ())
  |.handled b f=>match b with
   |false=>some (st,k,f none)
   |true=>none
  |_=>none
noncomputable def nE{β:Type}(t:Vb β):Option (Eg×(Ob->Vb β)):=match t with
 |.call c h _ _ f=>match h with
  |none=>some (c,f)
  |some _=>none
 |_=>none
noncomputable def VQ(t:Vb Fin):Option Ob:=match t with
 |.pure x=>match x with
  |.done f=>some (.ok f)
  |.again _=>none
 |.raise e=>some (.error e)
 |_=>none
noncomputable def O4(t:Vb Fin):Option Eg:=match t with
 |.pure x=>match x with
  |.done _=>none
  |.again c=>some c
 |_=>none
noncomputable def DY{α:Type}(ks:List (Ob->Vb Fin))(K:Ob->Vb α)(r:Ob):Cf α:=match ks with
 |y::a=>.sub (y r) a K
 |[]=>.top (K r)
noncomputable def nx{σ α:Type}(O:rC σ)(d:Eg->Vb Fin)(p:wa)(w:ja)(st:σ)(k:Nat)(c:Cf α):Option (σ×Nat×Cf α):=match c with
 |.top t=>(nE t).elim ((one O p w st k t).bind λ|(a,b,c)=>some (a,b,.top c)) λ|(c,f)=>some (st,k,.sub (d c) [] f)
 |.sub t ks K=>(VQ t).elim ((O4 t).elim ((nE t).elim ((one O p w st k t).bind λ|(a,b,c)=>some (a,b,.sub c ks K)) λ|(c,f)=>some (st,k,.sub (d c) (f::ks) K))
   λc=>bif c.quiet then some (st,k,.sub (d c) ks K) else none) λr=>some (st,k,DY ks K r)
noncomputable def Uk{σ α:Type}(O:rC σ)(d:Eg->Vb Fin)(p:wa)(w:ja):Nat->σ->Nat->Cf α->Option (σ×Nat×Cf α)
 |0,st,k,c=>some (st,k,c)
 |n+1,st,k,c=>(nx O d p w st k c).elim (some (st,k,c)) λ|(a,b,c)=>Uk O d p w n a b c
section
variable{α:Type}{prog:wa}{w:ja}{s:aa}
noncomputable def Il{α:Type}(prog:wa)(w:ja)(t:Vb α)(Q:α->aa->Prop)(E:Value->aa->Prop)(s:aa):Prop:=∀A:ua,A.handled=none->wpAny (ka prog w) A t Q E s
noncomputable def dz(prog:wa)(w:ja)(c:Eg)(R:Ob->aa->Prop)(s:aa):Prop:=∀A:ua,A.handled=none->codeAny (ka prog w) A c R s
noncomputable def M1(prog:wa)(w:ja)(R:Ob->aa->Prop)(t:Vb Fin)(s:aa):Prop:=
 Il prog w t (λa s'=>match a with|.done f=>R (.ok f) s'|.again c'=>c'.quiet=true/\dz prog w c' R s') (λe s'=>R (.error e) s') s
noncomputable def aM(prog:wa)(w:ja):List (Ob->Vb Fin)->(Ob->aa->Prop)->Ob->aa->Prop
 |[],R=>R
 |y::ks,R=>λr s'=>M1 prog w (aM prog w ks R) (y r) s'
noncomputable def eN(prog:wa)(w:ja)(Q:α->aa->Prop)(E:Value->aa->Prop)(c:Cf α)(s:aa):Prop:=match c with
 |.top t=>Il prog w t Q E s
 |.sub t ks K=>M1 prog w (aM prog w ks λr s'=>Il prog w (K r) Q E s') t s
theorem Qm{c:Eg}{R:Ob->aa->Prop}(h:M1 prog w R (Gb wi c) s):dz prog w c R s:=λA b=>
 codeAny_of_tree (Lb (h (A.under c) b) (λa s' q=>by
  cases a with
  |done f=>exact q
  |again c'=>exact⟨q.1,q.2 A b⟩) λZ Z q=>q)
theorem MC{a:la}{q:Option Value}{k:Sa->Vb α}{o:Sa}{Q:α->aa->Prop}{E:Value->aa->Prop}(b:s.heap.get? a=some o)(h:Il prog w (k o) Q E s):Il prog w (.load a q k) Q E s:=
 λA c=>zb (m:=loadPart a q) (f:=k) (wpAny_loadPart b (h A c))
theorem Xx{a:la}{q:Option Value}{f:Sa->Sa}{k:Unit->Vb α}{Q:α->aa->Prop}{E:Value->aa->Prop}(b:(s.heap.get? a).isSome=true)(h:Il prog w (k ()) Q E {s with heap:=s.heap.update a f}):Il prog w (.update a q f k) Q E s:=by
 refine(Option.isSome_iff_exists.mp b).elim λo e=>?_
 exact λA c=>zb (m:=updatePart a q f) (f:=k) (wpAny_updatePart e (h A c))
theorem Tz{o:Sa}{k:la->Vb α}{Q:α->aa->Prop}{E:Value->aa->Prop}(h:Il prog w (k s.heap.objs.size) Q E {s with heap:=s.heap.push o}):Il prog w (.alloc o k) Q E s:=
 λA a=>zb (m:=alloc o) (f:=k) (wpAny_alloc (h A a))
theorem su{c:Eg}{g:Bool}{l:List Value}{k:Ob->Vb α}{Q:α->aa->Prop}{E:Value->aa->Prop}(h:dz prog w c (λr s'=>Il prog w (k r) Q E s') s):Il prog w (.call c none g l k) Q E s:=
 λA a=>PySem.W.X.x_call (codeAny_mono (h (A.mark none) a) λr s' q=>q A a) (by intro x;exact nomatch x)
variable{σ:Type}{O:rC σ}{good:σ->Prop}{R:σ->Na->Prop}
noncomputable def ER{τ:Type}(R:σ->Na->Prop)(a:τ->aa->Prop)(gs:Array Bc)(d:cm)(os:xi)(x:σ×Nat×τ):Prop:=∀h,R x.1 h->a x.2.2 ⟨h,gs,d,x.2.1,os⟩
noncomputable def Cq{τ:Type}(good:σ->Prop)(R:σ->Na->Prop)(a:τ->aa->Prop)(gs:Array Bc)(d:cm)(os:xi)(x y:σ×Nat×τ):Prop:=
 (good y.1->good x.1)/\(good y.1->ER R a gs d os y->ER R a gs d os x)
section
variable{Q:α->aa->Prop}{E:Value->aa->Prop}{gs:Array Bc}{d:cm}{os:xi}{st:σ}{k:Nat}
theorem Cq.Ce{τ:Type}{a:τ->aa->Prop}{x y:σ×Nat×τ}(e:x.1=y.1)(h:∀hp,a y.2.2 ⟨hp,gs,d,y.2.1,os⟩->a x.2.2 ⟨hp,gs,d,x.2.1,os⟩):OK (some y) (Cq good R a gs d os x):=
 OK.some ⟨e▸id,λZ z hp r=>h hp (z hp (e▸r))⟩
theorem mK(H:el O good R){t:Vb α}:OK (one O prog w st k t) (Cq good R (λt=>Il prog w t Q E) gs d os (st,k,t)):=by
 cases t with
 |load a q f=>exact OK.bind λx e=>OK.some ⟨(H.ld _ _ x e).1,λg z h r=>((H.ld _ _ x e).2 h g r).elim λq r=>MC q (z h r)⟩
 |update a q f g=>exact OK.bind λx e=>OK.some ⟨(H.up _ _ _ x e).1,λg z h r=>((H.up _ _ _ x e).2 h g r).elim λq r=>Xx q (z _ r)⟩
 |alloc o f=>exact OK.bind λx e=>OK.some ⟨(H.al _ _ x e).1,λg z h r=>have q:=(H.al _ _ x e).2 h g r;Tz (q.1▸z _ q.2)⟩
 |fresh f=>exact Cq.Ce rfl λZ z A b=>PySem.W.X.x_fresh (z A b)
 |ask f=>exact Cq.Ce rfl λZ z A b=>PySem.W.X.x_ask (z A b)
 |rule t f=>exact Cq.Ce rfl λZ z A b=>PySem.W.X.x_rule (z A b)
 |«at» q f=>exact Cq.Ce rfl λZ z A b=>PySem.W.X.x_at (z A b)
 |point l f=>exact Cq.Ce rfl λZ z A b=>PySem.W.X.x_point (z A b)
 |handled own f=>cases own with
  |false=>exact Cq.Ce rfl λZ z A b=>PySem.W.X.x_handled (by rw[b];exact z A b)
  |true=>exact OK.none
 |_=>exact OK.none
theorem Dx{t:Vb α}:OK (nE t) λx=>∃g l,t=.call x.1 none g l x.2:=by
 cases t with
 |call c h g l f=>cases h with
  |none=>exact OK.some ⟨g,l,rfl⟩
  |some=>exact OK.none
 |_=>exact OK.none
theorem TJ{t:Vb Fin}{s:aa}{R:Ob->aa->Prop}:OK (VQ t) λr=>R r s->M1 prog w R t s:=by
 cases t with
 |pure x=>cases x with
  |done f=>exact OK.some λz A Z=>pa z
  |again c=>exact OK.none
 |raise e=>exact OK.some λz A Z=>BN z
 |_=>exact OK.none
theorem lQ{t:Vb Fin}{s:aa}{R:Ob->aa->Prop}:OK (O4 t) λc=>c.quiet=true->M1 prog w R (Gb wi c) s->M1 prog w R t s:=by
 cases t with
 |pure x=>cases x with
  |done f=>exact OK.none
  |again c=>exact OK.some λa z A Z=>pa ⟨a,Qm z⟩
 |_=>exact OK.none
theorem uO{ks:List (Ob->Vb Fin)}{K:Ob->Vb α}{r:Ob}{s:aa}(z:eN prog w Q E (DY ks K r) s):aM prog w ks (λr s'=>Il prog w (K r) Q E s') r s:=by
 cases ks <;> exact z
theorem PY(H:el O good R){c:Cf α}:OK (nx O (Gb wi) prog w st k c) (Cq good R (eN prog w Q E) gs d os (st,k,c)):=by
 cases c with
 |top t=>exact OK.elim (λx e=>(Dx x e).elim λg q=>q.elim λl q=>Cq.Ce rfl λZ z=>q▸su (Qm z)) (OK.bind λx e=>OK.some (mK H x e))
 |sub t ks K=>
  exact OK.elim (λr e=>Cq.Ce rfl λZ z=>TJ r e (uO z)) (OK.elim (λc e=>OK.bif λa=>Cq.Ce rfl λZ z=>lQ c e a z)
   (OK.elim (λx e=>(Dx x e).elim λg q=>q.elim λl q=>Cq.Ce rfl λZ z=>q▸su (Qm z)) (OK.bind λx e=>OK.some (mK H x e))))
theorem NJ(H:el O good R):∀{n:Nat} {st:σ} {k:Nat} {c:Cf α},OK (Uk O (Gb wi) prog w n st k c) (Cq good R (eN prog w Q E) gs d os (st,k,c))
 |0,_,_,_=>OK.some ⟨id,λZ=>id⟩
 |n+1,st,k,c=>OK.elim (λx e y f=>have a:=PY H x e;have b:=NJ H (n:=n) y f;⟨λg=>a.1 (b.1 g),λg z=>a.2 (b.1 g) (b.2 g z)⟩) (OK.some ⟨id,λZ=>id⟩)
theorem CG(H:el O good R){n:Nat}{st a:σ}{k k':Nat}{c c':Cf α}{h:Na}
  (e:Uk O (Gb Ka) prog w n st k c=some (a,k',c')) (g:good a) (r:R st h) (z:∀h',R a h'->eN prog w Q E c' ⟨h',gs,d,k',os⟩):eN prog w Q E c ⟨h,gs,d,k,os⟩:=by
 rw[<- iG] at e
 exact(NJ H _ e).2 g z h r
end
end
inductive Hn where
 |k (i:Nat)
 |n (i:Nat)
structure T5 where
 fz:Bool
 kn:List (la×Sa)
 m:Nat
 nw:List Sa
 hints:List Hn
 obl:List (la×la)
noncomputable def ldk(s:T5)(a:la)(i:Nat)(c:List Hn):Option (Sa×T5):=s.kn[i]?.bind λ|(b,o)=>some (o,{s with hints:=c,obl:=(a,b)::s.obl})
noncomputable def ldn(s:T5)(a:la)(i:Nat)(b:List Hn):Option (Sa×T5):=(gv s.nw[i]?).bind λo=>some (o,{s with hints:=b,obl:=(a,s.m+i)::s.obl})
noncomputable def ld5(s:T5)(a:la):Option (Sa×T5):=match s.hints with
 |[]=>none
 |x::b=>(match x with
  |.k i=>ldk s a i b
  |.n i=>ldn s a i b)
noncomputable def upk(s:T5)(a:la)(f:Sa->Sa)(i:Nat)(c:List Hn):Option T5:=bif s.fz then none else s.kn[i]?.bind λ|(b,o)=>(lv (f o)).bind λo=>some {s with kn:=s.kn.set i (b,o),hints:=c,obl:=(a,b)::s.obl}
noncomputable def upn(s:T5)(a:la)(f:Sa->Sa)(i:Nat)(b:List Hn):Option T5:=(gv s.nw[i]?).bind λo=>(lv (f o)).bind λo=>some {s with nw:=s.nw.set i o,hints:=b,obl:=(a,s.m+i)::s.obl}
noncomputable def yI(s:T5)(a:la)(f:Sa->Sa):Option T5:=match s.hints with
 |[]=>none
 |x::b=>(match x with
  |.k i=>upk s a f i b
  |.n i=>upn s a f i b)
noncomputable def al5(s:T5)(o:Sa):Option (la×T5):=some (s.m+s.nw.length,{s with nw:=s.nw++[o]})
noncomputable def og:rC T5:=⟨ld5,yI,al5⟩
noncomputable def FL(s:T5):Prop:=∀p∈s.obl,p.1=p.2
structure DE(ij:Na)(s:T5)(h:Na):Prop where
 size:h.objs.size=s.m+s.nw.length
 kn:∀(i:Nat) a o,s.kn[i]?=some (a,o)->h.get? a=some o/\a < s.m
 nd:s.fz=false->∀(i j:Nat) a o o',s.kn[i]?=some (a,o)->s.kn[j]?=some (a,o')->i=j
 nw:∀(i:Nat) o,s.nw[i]?=some o->o.isFreed=false->h.get? (s.m+i)=some o
 rest:∀b o,(∀(i:Nat) a o,s.kn[i]?=some (a,o)->a≠b)->ij.get? b=some o->h.get? b=some o/\b < s.m
theorem Xr(a m i:Nat)(h:a < m):a≠m+i:=by lia
theorem AE(m i j:Nat)(h:i≠j):m+i≠m+j:=by lia
theorem N6{ij h:Na}{s:T5}(r:DE ij s h){a:la}{f:Sa->Sa}{i:Nat}{o:Sa}{B:List Hn}{A:List (la×la)}(D:s.fz=false)(g:s.kn[i]?=some (a,o))(q:(f o).isFreed=false):
  DE ij {s with kn:=s.kn.set i (a,f o),hints:=B,obl:=A} (h.update a f):=
 have v:=r.kn _ _ _ g
 have n:=r.nd D
 have l:∀{j:Nat} {b o'},(s.kn.set i (a,f o))[j]?=some (b,o')->∃o',s.kn[j]?=some (b,o'):=λd=>(wo g d).elim (λq=>⟨o,((congrArg (s.kn[·]?) q.1).trans g).trans (congrArg (λc=>some (c,o)) (congrArg mn q.2).symm)⟩) λq=>⟨_,q.2⟩
 have hi:=(List.getElem?_eq_some_iff.mp g).1
 ⟨Vj.trans r.size,λj b o' d=>(wo g d).elim (λz=>have t:=Ih z.2;⟨Sl v.1 (t.2.symm▸q) (.inl t),t.1.symm▸v.2⟩)
   λq=>(r.kn _ _ _ q.2).imp_left (Ea h f λe=>q.1 (n _ _ _ _ _ (e▸q.2) g)).trans,
  λZ j k b E w d C=>(l d).elim λZ x=>(l C).elim λZ y=>n _ _ _ _ _ x y,
  λj o' d hf=>(Ea h f (Xr a s.m j v.2)).trans (r.nw _ _ d hf),
  λb o' hb e=>have p:a≠b:=hb i a (f o) (Sn hi)
   (r.rest b o' (λj c w d q=>(dC j i).byCases (λu=>p ((congrArg mn (va (g.symm.trans ((congrArg (s.kn[·]?) u).symm.trans d)))).trans q)) λu=>hb j c w ((Mp (Hb u)).trans d) q) e).imp_left (Ea h f p).trans⟩
theorem M6{ij h:Na}{s:T5}(r:DE ij s h){f:Sa->Sa}{i:Nat}{o:Sa}{g:List Hn}{d:List (la×la)}(k:s.nw[i]?=some o)(c:h.get? (s.m+i)=some o):
  DE ij {s with nw:=s.nw.set i (f o),hints:=g,obl:=d} (h.update (s.m+i) f):=
 ⟨Vj.trans (r.size.trans (congrArg (s.m+·) List.length_set.symm)),λj b o' a=>have q:=r.kn _ _ _ a;⟨(Ea h f (Hb (Xr b s.m i q.2))).trans q.1,q.2⟩,r.nd,
  λj o' a hf=>(wo k a).elim (λq=>Sl c hf (.inl ⟨congrArg (s.m+·) q.1,q.2⟩)) λq=>Sl c hf (.inr ⟨AE s.m j i q.1,r.nw _ _ q.2 hf⟩),
  λb o' hb e=>have q:=r.rest b o' hb e;⟨(Ea h f (Hb (Xr b s.m i q.2))).trans q.1,q.2⟩⟩
theorem xO(ij:Na):el og FL (DE ij) where
 ld s a:=by
  obtain ⟨fz,kn,m,nw,hints,obl⟩:=s
  cases hints with
  |nil=>exact OK.none
  |cons x t=>cases x with
   |k i=>exact OK.bind λx e=>OK.some ⟨λg p hp=>g p (.tail _ hp),λh g r=>have d:a=x.1:=g (a,x.1) (.head _);⟨(congrArg h.get? d).trans (r.kn _ x.1 x.2 e).1,r.size,r.kn,r.nd,r.nw,r.rest⟩⟩
   |n i=>exact OK.get λo e q=>OK.some ⟨λg p hp=>g p (.tail _ hp),λh g r=>have d:a=m+i:=g (a,m+i) (.head _);⟨(congrArg h.get? d).trans (r.nw _ _ e q),r.size,r.kn,r.nd,r.nw,r.rest⟩⟩
 up s a f:=by
  obtain ⟨fz,kn,m,nw,hints,obl⟩:=s
  cases hints with
  |nil=>exact OK.none
  |cons x t=>cases x with
   |k i=>cases fz with
    |true=>exact OK.none
    |false=>exact OK.bind λx e=>OK.live λq=>OK.some ⟨λg p hp=>g p (.tail _ hp),λh g r=>by
      obtain rfl:a=x.1:=g (a,x.1) (.head _)
      exact⟨Sk (r.kn _ _ _ e).1,N6 r rfl e q⟩⟩
   |n i=>exact OK.get λo e q=>OK.live λZ=>OK.some ⟨λg p hp=>g p (.tail _ hp),λh g r=>by
     obtain rfl:a=m+i:=g (a,m+i) (.head _)
     exact⟨Sk (r.nw _ _ e q),M6 r e (r.nw _ _ e q)⟩⟩
 al s o:=OK.some ⟨id,λh Z r=>⟨r.size.symm,by rw[om,r.size,Ya];rfl,λj b o' c=>(r.kn _ _ _ c).imp_left (fa _),r.nd,
  λj o' c hf=>(AA (l:=s.nw) (x:=o) c).elim (λq=>Zo hf (.inl ⟨(congrArg (s.m+·) q.1).trans r.size.symm,q.2⟩)) λq=>Zo hf (.inr (r.nw _ _ q hf)),
  λb o' hb e=>(r.rest b o' hb e).imp_left (fa _)⟩⟩
theorem kY{α:Type}{prog:wa}{w:ja}{A:ua}{s:aa}{Q:α->aa->Prop}{E:Value->aa->Prop}{n:Nat}{kn:List (la×Sa)}{fz:Bool}{hints:List Hn}{st:T5}{k:Nat}{t:Vb α}{v:α}
  (l:A.handled=none) (e:Uk og (Gb Ka) prog w n ⟨fz,kn,s.heap.objs.size,[],hints,[]⟩ s.toks (.top t)=some (st,k,.top (.pure v))) (g:FL st)
  (c:∀(i:Nat) a o,kn[i]?=some (a,o)->s.heap.get? a=some o) (nd:fz=false->∀(i j:Nat) a o o',kn[i]?=some (a,o)->kn[j]?=some (a,o')->i=j)
  (h:∀h',DE s.heap st h'->Q v {s with heap:=h',toks:=k}):wpAny (ka prog w) A t Q E s:=by
 obtain ⟨hp,gs,d,tk,os⟩:=s
 have r:DE hp ⟨fz,kn,hp.objs.size,[],hints,[]⟩ hp:=⟨rfl,λi a o e=>⟨c i a o e,Ba (c i a o e)⟩,nd,λi o e=>(nomatch e),λb o Z e=>⟨e,Ba e⟩⟩
 have:=CG (Q:=Q) (E:=E) (gs:=gs) (d:=d) (os:=os) (xO hp) e g r λh' f=>(show Il prog w (.pure v) Q E _ from λA Z=>pa (h h' f))
 exact this A l
theorem BF{h:Na}{kn:List (la×Sa)}(x:∀p∈kn,h.get? p.1=some p.2):∀(i:Nat) a o,kn[i]?=some (a,o)->h.get? a=some o:=λi a o e=>x (a,o) (Mb e)
theorem EF{st:T5}(l:List la)(e:st.obl=l.map λa=>(a,a)):FL st:=by
 intro p hp
 rw[e] at hp
 obtain ⟨a,_,rfl⟩:=List.mem_map.mp hp
 rfl
theorem Te{α:Type}{prog:wa}{w:ja}{A:ua}{s:aa}{Q:α->aa->Prop}{E:Value->aa->Prop}{n:Nat}{kn:List (la×Sa)}{hints:List Hn}{st:T5}{k:Nat}{t:Vb α}{v:α}
  (u:A.handled=none) (e:Uk og (Gb Ka) prog w n ⟨true,kn,s.heap.objs.size,[],hints,[]⟩ s.toks (.top t)=some (st,k,.top (.pure v))) (l:List la) (g:st.obl=l.map λa=>(a,a))
  (d:∀p∈kn,s.heap.get? p.1=some p.2) (c:st.kn=kn) (hm:st.m=s.heap.objs.size)
  (j:∀h',(∀b o,s.heap.get? b=some o->h'.get? b=some o)->(∀(i:Nat) o,st.nw[i]?=some o->o.isFreed=false->h'.get? (s.heap.objs.size+i)=some o)->Q v {s with heap:=h',toks:=k}):wpAny (ka prog w) A t Q E s:=by
 refine kY u e (EF l g) (BF d) (λq=>nomatch q) λh' r=>j h' (λb o e=>?_) (λi o e f=>hm▸r.nw i o e f)
 by_cases hb:∃(i:Nat) (o:Sa),kn[i]?=some (b,o)
 ·obtain ⟨i,o',hi⟩:=hb
  have h:=BF d i b o' hi
  rw[e] at h;cases h
  rw[<- c] at hi
  exact(r.kn i b o hi).1
 ·refine(r.rest b o (λi a o' hi q=>?_) e).1
  rw[c] at hi
  exact hb ⟨i,o',q▸hi⟩
theorem TQ{α:Type}{prog:wa}{w:ja}{A:ua}{s:aa}{Q:α->aa->Prop}{E:Value->aa->Prop}{n:Nat}{b:la}{o o':Sa}{rest:List (la×Sa)}{hints:List Hn}{m:Nat}{obl:List (la×la)}{k:Nat}{t:Vb α}{v:α}
  (G:A.handled=none) (e:Uk og (Gb Ka) prog w n ⟨false,(b,o)::rest,s.heap.objs.size,[],hints,[]⟩ s.toks (.top t)=some (⟨false,(b,o')::rest,m,[],[],obl⟩,k,.top (.pure v))) (l:List la) (g:obl=l.map λa=>(a,a))
  (z:∀p∈(b,o)::rest,s.heap.get? p.1=some p.2) (nd:(b::rest.map (·.1)).Nodup)
  (D:∀h',(∀x c,x≠b->s.heap.get? x=some c->h'.get? x=some c)->h'.get? b=some o'->Q v {s with heap:=h',toks:=k}):wpAny (ka prog w) A t Q E s:=by
 refine kY G e (EF l g) (BF z) (λZ i j a J y hi C=>?_) λh' r=>D h' (λx c B ex=>?_) (r.kn 0 b o' rfl).1
 ·have h:(b::rest.map (·.1))[i]?=some a:=by
   have:=congrArg (sW (·.1)) hi
   rw[<- Ig] at this;exact this
  have f:(b::rest.map (·.1))[j]?=some a:=by
   have:=congrArg (sW (·.1)) C
   rw[<- Ig] at this;exact this
  refine(List.getElem?_eq_some_iff.mp h).elim λu I=>?_
  refine(List.getElem?_eq_some_iff.mp f).elim λL H=>?_
  exact(Ot nd).mp (I.trans H.symm)
 ·by_cases hin:∃(i:Nat) (d:Sa),((b,o')::rest)[i]?=some (x,d)
  ·obtain ⟨i,d,hi⟩:=hin
   cases i with
   |zero=>exact absurd (congrArg mn (va hi)).symm B
   |succ i=>
    have u:=BF z (i+1) x d hi
    rw[ex] at u;cases u
    exact(r.kn (i+1) x c hi).1
  ·exact(r.rest x c (λi a y hi q=>hin ⟨i,y,q▸hi⟩) ex).1
noncomputable abbrev Ld(dd d:la):Sa:=⟨.ref 1963,some dd,.plain,#[some (.ref d)]⟩
noncomputable abbrev mf:Sa:={cls:=.type "dict",data:=.dict #[]}
theorem tj{α:Type}{p:α->Prop}:∀z∈([]:List α),p z:=λZ h=>nomatch h
theorem Dc{α:Type}{p:α->Prop}{a:α}{l:List α}(h:p a)(t:∀z∈l,p z):∀z∈a::l,p z:=List.forall_mem_cons.mpr ⟨h,t⟩
theorem wf{P:ja->Prop}(w:ja)(h:∀a,P (w.withFollow "special-get-raises" a)):P w:=by
 have e:=h (w.params.followText Yn)
 rw[Nb] at e
 exact e
theorem RM:b6 (.type "bytearray")=pure [.type "bytearray",.type "object"]:=by rw[mroOf_type];kernel_rfl
theorem Lw:vc (.type "bytearray") "__new__"=pure (some (.builtin "bytearray.__new__")):=by rw[xb,Pa];kernel_rfl
theorem Rm:CC "bytearray" "__init__" "bytearray.__init__":=
 .of (owner:="bytearray") (n:="__init__") (by rw[xb,Pa];kernel_rfl) (by decide +kernel) (by decide +kernel) (by decide +kernel)
  (.inl (by decide +kernel)) (by rw[pd];kernel_rfl)
theorem PW:TypeCalled "bytearray" "bytearray.__new__" "bytearray.__init__":=
 ⟨by decide +kernel,by decide +kernel,⟨_,_,RM⟩,madeBy_type RM Lw (by decide +kernel),by decide +kernel,by rw[pd];kernel_rfl,Rm⟩
theorem xE(a:Value):Ac "bytearray.__new__" ⟨[.type "bytearray",a],[]⟩=pure ():=by kernel_rfl
theorem pz:xf wi "bytearray.__new__"=some Builtin.«list.__new__»:=
 entryFor_alias (id':="list.__new__") (by rw[Qn];kernel_rfl) (by rfl) (by decide +kernel) (by rw[Qn];kernel_rfl)
theorem Nw:xf wi "bytearray.__init__"=some Builtin.«bytearray.__init__»:=Ud (by kernel_rfl)
theorem yr:LI "bytearray.__new__"=true:=by decide +kernel
theorem jk:lI (.type "bytearray") (.type "bytearray")=pure true:=by rw[pd];kernel_rfl
set_option maxRecDepth 1000000 in
theorem OB:("bytearray.__new__".splitOn ".__new__").headD ""="bytearray":=by simp +decide [String.splitOn,String.splitOnAux]
noncomputable abbrev qb(b:Array UInt8):Sa:={cls:=.type "bytearray",dict:=none,data:=.bytearray b,slots:=#[]}
section
variable{prog:wa}{w:ja}{A:ua}{E:Value->aa->Prop}{s:aa}
theorem eB(a:Value){Q₁:Value->aa->Prop}
  (h:Q₁ (.ref s.heap.objs.size) {s with heap:=s.heap.push (qb #[])}):
  codeAny (ka prog w) A (.call (.builtin "bytearray.__new__") ⟨[.type "bytearray",a],[]⟩) (wants Q₁ E) s:=by
 refine codeAny_of_tree ?_
 show wpAny _ A.in1 (do Ac "bytearray.__new__" ⟨[.type "bytearray",a],[]⟩;again (.builtin "bytearray.__new__" ⟨[.type "bytearray",a],[]⟩)) _ _ s
 refine zb (Aa (xE a) (pa ⟨qg yr _,codeAny_builtin_stack pz rfl λp st=>?_⟩))
 rw[vf yr _]
 refine zb (m:=isType (.type "bytearray")) (Aa (a:=true) rfl ?_)
 refine zb (m:=lI (.type "bytearray") (.type (("bytearray.__new__".splitOn ".__new__").headD ""))) (Aa (a:=true) (by rw[OB];exact jk) ?_)
 rw[OB]
 refine zb (m:=pure (Data.bytearray #[])) (pa ?_)
 refine zb (m:=newObj (.type "bytearray") (.bytearray #[])) (Uc ?_ (by size_fits))
 exact pa h
theorem Xn{self:Value}{T:String}{name:xa}{id:String}{args:List Value}{a:List (xa×Value)}{M:pj}
  {Q:Option Value->aa->Prop} (hT:s.TypeIs self T) (h:CC T name id)
  (hc:mc M A (call (.builtin id) (self::args) a) (λv=>Q (some v)) s):mc M A (lq self name args a) Q s:=by
 simp only[lq]
 refine Sg (ab hT h.lookup ?_)
 simp only[h.bind]
 exact vg (Uj (Cb (Uj (Vc hc λv s' h'=>Cb h'))))
theorem vh{id:String}{args:Jn}{b:Builtin}{R:Ob->aa->Prop}(hb:xf wi id=some b)
  (h:mc (ka prog w) (A.under (.builtin id args)) (b args) (λa s'=>match a with|.done f=>R (.ok f) s'|.again c'=>c'.quiet=true/\xh c'=true/\rh (ka prog w) A c' R s') s):
  rh (ka prog w) A (.builtin id args) R s:=by
 refine mh ?_
 show mc _ _ (match xf wi id with|some b=>b args|none=>unsupported ((withoutEnding? id "#data").getD id)) _ s
 rw[hb];exact h
theorem Li{id:String}{args:Jn}{b:Builtin}{R:Ob->aa->Prop}(g:LI id=true)(c:Builtin.Bytes.decodersThatHold.contains id=false)(hb:xf wi id=some b)
  (h:wpAny (ka prog w) A.in1 (Ac id args) (λZ a=>mc (ka prog w) A.in1 (b args)
   (λe s'=>match e with|.done f=>R (.ok f) s'|.again c'=>c'.quiet=true/\xh c'=true/\rh (ka prog w) A c' R s') a) Jc s):
  rh (ka prog w) A (.call (.builtin id) args) R s:=by
 have d:xh (.builtin id args)=true:=by show(!Builtin.Bytes.decodersThatHold.contains id)=true;rw[c];rfl
 refine mh ?_
 show mc _ A.in1 (do Ac id args;again (.builtin id args)) _ s
 refine Eh (ah h (λZ a yb=>Cb ⟨qg g args,d,vh hb ?_⟩))
 rw[vf g args]
 exact yb
theorem Zx{x:Value}:
  Builtin.«type.__call__» ⟨[.type "bytearray",x],[]⟩=(do
   let a <- holding [.builtin "bytearray.__new__"] (call (.builtin "bytearray.__new__") [.type "bytearray",x] [])
   if !(<- Aj a (.type "bytearray")) then rule "type.call.new-gave-other-type";return <- ret a
   match <- holding [a] (lq a "__init__" [x] []) with
   |none=>ret a
   |some r=>
    if r != .none then
     rule "type.call.init-returned-value"
     raiseError "TypeError" s!"__init__() should return None, not '{← typeNameOf r}'"
    ret a):=by kernel_rfl
theorem mz{x:Value}{Q:Value->aa->Prop}
  (b:Tn "bytearray.__init__" ⟨[.ref s.heap.objs.size,x],[]⟩)
  (h:mc (ka prog w) A.in1.in1 (Builtin.«bytearray.__init__» ⟨[.ref s.heap.objs.size,x],[]⟩)
   (λa s'=>a=.done (.ret .none)/\Q (.ref s.heap.objs.size) s') {s with heap:=s.heap.push (qb #[])}):
  mc (ka prog w) A (call (.type "bytearray") [x]) Q s:=by
 refine fm (mh ?_)
 show mc _ _ (callAny (.type "bytearray") _) _ _
 refine Cb ⟨uI _ (by decide +kernel),(show(!Builtin.Bytes.decodersThatHold.contains "type.__call__")=true by decide +kernel),vh FQ ?_⟩
 rw[Around.under_plain (weight_type_call_type "bytearray" [x] []) (units_type_call_type "bytearray" [x] [])]
 show mc _ _ (Builtin.«type.__call__» ⟨.type "bytearray"::[x],[]⟩) _ _
 rw[Zx]
 refine Eh (Ma (fu (codeAny_mono (eB (E:=Jc) (Q₁:=λv s'=>v=.ref s.heap.objs.size/\s'={s with heap:=s.heap.push (qb #[])}) x ⟨rfl,rfl⟩) λr s' hr=>?_)))
 cases r with
 |error e=>exact hr.elim
 |ok f=>
  cases f with
  |ret c=>
   obtain ⟨rfl,rfl⟩:=hr
   have hT:({s with heap:=s.heap.push (qb #[])}:aa).TypeIs (.ref s.heap.objs.size) "bytearray":=⟨_,ra _ rfl,rfl⟩
   show mc _ _ _ _ _
   refine Eh (zf hT jk ?_)
   refine Fe rfl ?_
   refine Uj (vg (Xn hT Rm (fm (Li (by decide +kernel) (by decide +kernel) Nw ?_))))
   refine Rm.check _ _ _ _ _ _ _ _ hT b ?_
   refine Vc h λa s' hf=>?_
   obtain ⟨rfl,d⟩:=hf
   exact⟨_,rfl,Fe rfl (Cb ⟨_,rfl,d⟩)⟩
  |_=>exact hr.elim
end
theorem vE:vc (.type "bytearray") "__release_buffer__"=pure (some (.builtin "bytearray.__release_buffer__")):=by rw[xb,Pa];kernel_rfl
theorem Fs:vc (.type "bytearray") "__buffer__"=pure (some (.builtin "bytearray.__buffer__")):=by rw[xb,Pa];kernel_rfl
theorem PB:vc (.type "bytearray") "__index__"=pure none:=by rw[xb,Pa];kernel_rfl
theorem cy:vc (.type "tuple") "__index__"=pure none:=by rw[xb,Pa];kernel_rfl
theorem mw:vc (.type "tuple") "__buffer__"=pure none:=by rw[xb,Pa];kernel_rfl
theorem XJ:("bytearray.__release_buffer__".endsWith ("."++"__release_buffer__"))=true:=by decide +kernel
theorem YJ:"bytearray.__release_buffer__".dropRight ("__release_buffer__".length+1)="bytearray":=by decide +kernel
theorem DM:("bytearray.__buffer__".endsWith ("."++"__buffer__"))=true:=by decide +kernel
theorem EM:"bytearray.__buffer__".dropRight ("__buffer__".length+1)="bytearray":=by decide +kernel
theorem dG(v:Value):nX "bytearray.__init__" "bytearray" ["source","encoding","errors"] [v] []=pure [some v,none,none]:=by kernel_rfl
theorem Pb{h:aa}{a:la}{b:Array UInt8}(e:h.heap.get? a=some (qb b)):h.TypeIs (.ref a) "bytearray":=⟨_,e,rfl⟩
section
variable{prog:wa}{w:ja}{A:ua}{E:Value->aa->Prop}{s:aa}
theorem Ul{a:la}{b:Array UInt8}{Q:Bool->aa->Prop}(c:s.heap.get? a=some (qb b))(h:Q false s):wpAny (ka prog w) A (oe (.ref a)) Q E s:=by
 unfold oe jf
 refine zb (zb (ab (Pb c) vE ?_))
 show wpAny _ _ (if (!("bytearray.__release_buffer__".endsWith ("."++"__release_buffer__")))=true then _ else _) _ _ _
 rw[XJ]
 show wpAny _ _ (Aj (.ref a) (.type ("bytearray.__release_buffer__".dropRight ("__release_buffer__".length+1)))) _ _ _
 rw[YJ]
 exact zf (Pb c) jk (pa h)
theorem Oh{a:la}{b:Array UInt8}{Q:Array UInt8->aa->Prop}(c:s.heap.get? a=some (qb b))(h:Q b s):wpAny (ka prog w) A (Kf (.ref a)) Q E s:=by
 unfold Kf Et
 exact zb (zb (Gi c (pa (pa h))))
theorem Sy{a:la}{b:Array UInt8}{Q:Nat->aa->Prop}(c:s.heap.get? a=some (qb b))(h:Q 0 s):wpAny (ka prog w) A (ni (.ref a)) Q E s:=by
 unfold ni
 exact zb (Gi c (pa h))
theorem By{a:la}{b:Array UInt8}{Q:Bool->aa->Prop}(hg:A.guards=some [])(c:s.heap.get? a=some (qb b))(h:Q false s):
  mc (ka prog w) A (zl (.ref a) <||> (do return (<- ni (.ref a)) > 0)) Q s:=by
 unfold orM
 refine Uj (Wx hg ?_)
 show mc _ _ (ni (.ref a)>>=λn=>pure (decide (n > 0))) _ _
 exact Eh (Sy c (Cb h))
theorem cj{a:la}{b b':Array UInt8}{f:Array UInt8->Array UInt8}{Q:Unit->aa->Prop}(c:s.heap.get? a=some (qb b))(hf:f b=b')(hz:b'.size<=Kb)
  (h:∀h',h'.get? a=some (qb b')->Ad a s.heap h'->Q () {s with heap:=h'}):wpAny (ka prog w) A (rg (.ref a) f) Q E s:=by
 subst hf
 unfold rg updateBytearray
 refine zb (Gi c ?_)
 show wpAny _ _ (update a (ku f)>>=λZ=>lookBehind a) _ _ _
 refine zb (wpAny_update c ?_)
 have d:(s.heap.update a (ku f)).get? a=some (qb (f b)):=zc (ku f) c rfl
 refine wpAny_lookBehind d ?_ (h _ d (ug ..))
 show(if (f b).size > Kb then some "bytearray:memory" else none)=none
 rw[if_neg (Nat.not_lt.mpr hz)]
theorem Yk{a:la}{b:Array UInt8}{Q:Unit->aa->Prop}(hg:A.guards=some [])(c:s.heap.get? a=some (qb b))(h:Q () s):mc (ka prog w) A (yh (.ref a)) Q s:=by
 unfold yh
 exact Uj (By hg c (Fe rfl (Cb h)))
theorem VH{a:la}{b:Array UInt8}{id:String}{d:Bool}{Q:Option (Array UInt8)->aa->Prop}(c:s.heap.get? a=some (qb b))(h:Q (some b) s):wpAny (ka prog w) A (Lf id (.ref a) d) Q E s:=by
 unfold Lf
 refine zb (ab (Pb c) Fs ?_)
 show wpAny _ _ (jf (.ref a) "__buffer__">>=_) _ _ _
 unfold jf
 refine zb (zb (ab (Pb c) Fs ?_))
 show wpAny _ _ (if (!("bytearray.__buffer__".endsWith ("."++"__buffer__")))=true then _ else _) _ _ _
 rw[DM]
 show wpAny _ _ (Aj (.ref a) (.type ("bytearray.__buffer__".dropRight ("__buffer__".length+1)))) _ _ _
 rw[EM]
 refine zf (Pb c) jk ?_
 show wpAny _ _ (Lj (.ref a) _>>=_) _ _ _
 refine zb (ab (Pb c) Fs ?_)
 show wpAny _ _ (oe (.ref a)>>=_) _ _ _
 refine zb (Ul c ?_)
 show wpAny _ _ (Kf (.ref a)>>=_) _ _ _
 exact zb (Oh c (pa h))
theorem yB{v:Value}{T:String}{id:String}{a:Bool}{Q:Option (Array UInt8)->aa->Prop}(hT:s.TypeIs v T)(b:vc (.type T) "__buffer__"=pure none)(h:Q none s):wpAny (ka prog w) A (Lf id v a) Q E s:=by
 unfold Lf
 refine zb (ab hT b ?_)
 show wpAny _ _ (Lj v _>>=_) _ _ _
 exact zb (ab hT b (pa h))
end
noncomputable def Ia(ns:List Int):Array UInt8:=(ns.map λn=>n.toNat.toUInt8).toArray
theorem vd(ns:List Int):(Ia ns).size=ns.length:=by simp[Ia]
noncomputable def Bh(ns:List Int):Prop:=∀n∈ns,0<=n/\n < 256
noncomputable def HW:Value->Bool
 |.int i _=>0<=i&&i < 256
 |_=>false
noncomputable def I9:Value->Option UInt8
 |.int i _=>some i.toNat.toUInt8
 |_=>none
theorem EL{vs:List Value}{ns:List Int}(h:IntsAre vs ns)(hr:Bh ns):vs.takeWhile HW=vs/\vs.filterMap I9=ns.map λn=>n.toNat.toUInt8:=by
 induction h with
 |nil=>exact⟨rfl,rfl⟩
 |cons i t _ c=>
  refine(c λn d=>hr n (ya _ d)).elim λa b=>?_
  have h0:=hr i (za ..)
  have hb:HW (.int i t)=true:=by simp[HW,h0.1,h0.2]
  constructor
  ·rw[oG,hb,if_pos rfl,a]
  ·rw[vb,<- b];rfl
theorem Ew:vc (.type "list") "__index__"=pure none:=by rw[xb,Pa];kernel_rfl
theorem xo:vc (.type "list") "__buffer__"=pure none:=by rw[xb,Pa];kernel_rfl
section
variable{prog:wa}{w:ja}{A:ua}{E:Value->aa->Prop}{s:aa}
theorem SameBut.both{a:la}{h d c:Na}(x:Ad a h d)(y:Ad a d c):Ad a h c:=
 ⟨y.1.trans x.1,λb hb=>(y.2 b hb).trans (x.2 b hb)⟩
set_option tactic.hygienic true
theorem Jx{l:la}{o:Sa}{Q:Option xa->aa->Prop}(a:s.heap.get? l=some o)(hp:∀v,o.data≠.prim v)(h:Q none s):wpAny (ka prog w) A (asStr? (.ref l)) Q E s:=by
 unfold asStr?
 refine Ua (Gi a ?_)
 split
 ·rename_i e;exact absurd e (hp _)
 ·exact pa h
theorem ix{a l:la}{i:Sa}{T:String}{vs:List Value}{ns:List Int}{n:Nat}{Q:aa->Prop}(hg:A.guards=some [])(o:s.heap.get? a=some (qb #[]))(y:s.heap.get? l=some i)
  (hT:i.cls=.type T) (hd:i.data=.seq vs.toArray n) (f:T="list"\/T="tuple") (hi:IntsAre vs ns) (hr:Bh ns) (hz:ns.length<=Kb) (r:l≠a)
  (z:∀h',h'.get? a=some (qb (Ia ns))->Ad a s.heap h'->Q {s with heap:=h'}):
  mc (ka prog w) A (Builtin.«bytearray.__init__» ⟨[.ref a,.ref l],[]⟩) (λt s'=>t=.done (.ret .none)/\Q s') s:=by
 unfold Builtin.«bytearray.__init__»
 show mc _ _ (oe (.ref a)>>=_) _ _
 refine Eh (Ul o ?_)
 refine Fe rfl ?_
 refine Uj (ui (dG _) ?_)
 refine Uj (ui (a:=()) rfl ?_)
 refine Uj (ui (a:=()) rfl ?_)
 refine Uj (By hg o ?_)
 refine Fe rfl ?_
 refine Eh (cj (b':=#[]) o rfl (Zb _) λu m g=>?_)
 have c:u.get? l=some i:=(g.2 l r).trans y
 dsimp only
 have d:({s with heap:=u}:aa).TypeIs (.ref l) T:=⟨_,c,hT⟩
 have p:vc (.type T) "__index__"=pure none:=f.elim (λe=>e▸Ew) λe=>e▸cy
 have q:vc (.type T) "__buffer__"=pure none:=f.elim (λe=>e▸xo) λe=>e▸mw
 refine Eh (Jx c (λv e=>nomatch hd.symm.trans e) ?_)
 refine Fe rfl ?_
 refine Uj (ui (a:=()) rfl ?_)
 refine Eh (ab d p ?_)
 refine Fe rfl ?_
 refine Eh (yB d q ?_)
 refine Eh (rk d ?_)
 refine ru (f.elim (λe=>by rw[e];decide) λe=>by rw[e];decide) ?_
 refine Sg (Qd c hd ?_)
 refine(EL hi hr).elim λx C=>?_
 have b:vs.toArray[(Ow HW vs.toArray.toList).length]?=none:=by
  show vs.toArray[(Ow HW vs).length]?=none
  rw[x];exact Gn (Ab _)
 dsimp only
 split
 ·refine Eh (eh ?_)
  refine Eh (cj (b':=Ia ns) m ?_ (by rw[vd];exact hz) λB k j=>?_)
  ·show(List.filterMap I9 (Ow HW vs)).toArray=Ia ns
   rw[x,C];rfl
  ·exact Cb ⟨rfl,z B k (SameBut.both g j)⟩
 ·rename_i h
  exact nomatch b.symm.trans h
 ·rename_i h
  exact absurd (b.symm.trans h) (by simp)
set_option tactic.hygienic false
theorem eH{a l:la}{b:Array UInt8}{Q:aa->Prop}(hg:A.guards=some [])(i:s.heap.get? a=some (qb #[]))(n:s.heap.get? l=some (qb b))(hz:b.size<=Kb)(j:l≠a)
  (o:∀h',h'.get? a=some (qb b)->Ad a s.heap h'->Q {s with heap:=h'}):
  mc (ka prog w) A (Builtin.«bytearray.__init__» ⟨[.ref a,.ref l],[]⟩) (λm s'=>m=.done (.ret .none)/\Q s') s:=by
 unfold Builtin.«bytearray.__init__»
 show mc _ _ (oe (.ref a)>>=_) _ _
 refine Eh (Ul i ?_)
 refine Fe rfl ?_
 refine Uj (ui (dG _) ?_)
 refine Uj (ui (a:=()) rfl ?_)
 refine Uj (ui (a:=()) rfl ?_)
 refine Uj (By hg i ?_)
 refine Fe rfl ?_
 refine Eh (cj (b':=#[]) i rfl (Zb _) λk h d=>?_)
 have c:k.get? l=some (qb b):=(d.2 l j).trans n
 dsimp only
 refine Eh (Jx c (λv e=>by cases e) ?_)
 refine Fe rfl ?_
 refine Uj (ui (a:=()) rfl ?_)
 refine Eh (ab (s:={s with heap:=k}) (Pb c) PB ?_)
 refine Fe rfl ?_
 refine Eh (VH (s:={s with heap:=k}) c ?_)
 refine Eh (eh ?_)
 refine Eh (cj (b':=b) h rfl hz λp g f=>?_)
 exact Cb ⟨rfl,o p g (SameBut.both d f)⟩
theorem Hx(a x:Value):Tn "bytearray.__init__" ⟨[a,x],[]⟩:=by kernel_rfl
theorem Cv{l:la}{c:Sa}{T:String}{vs:List Value}{ns:List Int}{n:Nat}{Q:Value->aa->Prop}(hg:A.guards=some [])(i:s.heap.get? l=some c)
  (hT:c.cls=.type T) (hd:c.data=.seq vs.toArray n) (h:T="list"\/T="tuple") (hi:IntsAre vs ns) (hr:Bh ns) (hz:ns.length<=Kb)
  (j:∀a s',Kp s s'->s.heap.get? a=none->s'.heap.get? a=some (qb (Ia ns))->Q (.ref a) s'):mc (ka prog w) A (call (.type "bytearray") [.ref l]) Q s:=by
 have g:l < s.heap.objs.size:=Ba i
 refine mz (Hx _ _) (ix (A:=A.in1.in1) hg (ra _ rfl) (fa _ i) hT hd h hi hr hz (Va g) λh' f d=>?_)
 refine j _ _ ⟨h',s.toks,rfl,λb o e=>d.extBut b o (Va (Ba e)) (fa _ e)⟩ Qb f
theorem Dv{l:la}{b:Array UInt8}{Q:Value->aa->Prop}(hg:A.guards=some [])(g:s.heap.get? l=some (qb b))(hz:b.size<=Kb)
  (h:∀a s',Kp s s'->s.heap.get? a=none->s'.heap.get? a=some (qb b)->Q (.ref a) s'):mc (ka prog w) A (call (.type "bytearray") [.ref l]) Q s:=by
 have f:l < s.heap.objs.size:=Ba g
 refine mz (Hx _ _) (eH (A:=A.in1.in1) hg (ra _ rfl) (fa _ g) hz (Va f) λh' d c=>?_)
 refine h _ _ ⟨h',s.toks,rfl,λb o e=>c.extBut b o (Va (Ba e)) (fa _ e)⟩ Qb d
end
theorem zH:xf wi "bytearray.extend"=some Builtin.«bytearray.extend»:=Ud (by kernel_rfl)
theorem zo:xf wi "bytearray.extend.loop"=some Builtin.«bytearray.extend.loop»:=Ud (by kernel_rfl)
theorem Iw:xf wi "bytearray.extend.end"=some Builtin.«bytearray.extend.end»:=Ud (by kernel_rfl)
theorem Sh:LI "bytearray.extend.loop"=true:=by decide +kernel
theorem Vp:LI "bytearray.extend.end"=true:=by decide +kernel
theorem mr{id:String}{args:Jn}(h:Builtin.Bytes.decodersThatHold.contains id=false):xh (.builtin id args)=true:=by
 show(!Builtin.Bytes.decodersThatHold.contains id)=true;rw[h];rfl
theorem kv(a x:Value):selfAndOne "bytearray.extend" ⟨[a,x],[]⟩=pure (a,x):=by kernel_rfl
theorem Ru:splitId "list.__len__"=some ("list","__len__"):=by decide +kernel
theorem Hw:vc (.type "generator") "__buffer__"=pure none:=by rw[xb,Pa];kernel_rfl
theorem gz(val:Nat->Int)(i:Nat):Ia ((Qa (i+1)).map val)=(Ia ((Qa i).map val)).push (val i).toNat.toUInt8:=by
 delta Ia
 rw[Jk,Jf,Jf];exact(List.push_toArray ..).symm
section
variable{prog:wa}{w:ja}{A:ua}{s:aa}
theorem nr{i:Int}{t:jg}{E:Value->aa->Prop}{Q:UInt8->aa->Prop}(h0:0<=i)(a:i < 256)(h:Q i.toNat.toUInt8 s):wpAny (ka prog w) A (Us (.int i t)) Q E s:=by
 delta Us
 refine zb (Aa (rfl:asIndex (.int i t)=pure i) ?_)
 have e:(decide (i < 0)||decide (i>=256))=false:=Bool.or_eq_false_iff.mpr ⟨decide_eq_false (Int.not_lt.mpr h0),decide_eq_false (Int.not_le.mpr a)⟩
 show wpAny _ _ (if (decide (i < 0)||decide (i>=256))=true then _ else _) _ _ _
 rw[e]
 exact pa h
theorem mQ{a S:la}{it:Value}{b c:Array UInt8}{R:Ob->aa->Prop}(hg:A.guards=some [])(i:s.heap.get? a=some (qb b))(j:s.heap.get? S=some (qb c))(hz:(b++c).size<=Kb)
  (k:∀h',h'.get? a=some (qb (b++c))->Ad a s.heap h'->R (.ok (.ret .none)) {s with heap:=h'}):
  rh (ka prog w) A (.builtin "bytearray.extend.end" ⟨[.ref a,it,.ref S],[]⟩) R s:=by
 refine vh Iw ?_
 rw[vf Vp _]
 show mc _ _ (point>>=λZ=>Kf (.ref S)>>=λe=>(do
   if !e.isEmpty then yh (.ref a)
   rg (.ref a) (·++e)
   ret .none)) _ _
 refine Sg (Cr (Sg (Oh j ?_)))
 have d:mc (ka prog w) A.in1 (do rg (.ref a) (·++c);ret .none) (λd s'=>match d with|.done f=>R (.ok f) s'|.again c'=>c'.quiet=true/\xh c'=true/\rh (ka prog w) A c' R s') s:=
  Sg (cj i rfl hz λh' h g=>Cb (k h' h g))
 dsimp only
 split
 ·exact Uj (Yk (A:=A.in1) hg i d)
 ·exact d
variable{I:la}{fp wr:List la}{G:Array Bc->Array Bc->Prop}{n:Nat}{P:Nat->Value->Prop}{St:Nat->aa->Prop}
theorem WA{R:Ob->aa->Prop}{it:Value}(W:WalksS prog w A.in1 I fp wr G n P St)(val:Nat->Int)(l:∀i v,P i v->∃t,v=.int (val i) t)(hb:∀i,i < n->0<=val i/\val i < 256)
  (hg:A.guards=some []) {a S:la} (haf:a∉fp) (y:S∉fp) (C:a≠S) {b:Array UInt8} (hz:b.size+n<=Kb):
  ∀(k i:Nat) (s:aa),n-i=k->i<=n->St i s->s.heap.get? S=some (qb (Ia ((Qa i).map val)))->s.heap.get? a=some (qb b)->
   (∀s',Moved (a::S::wr) G s s'->s'.heap.get? a=some (qb (b++Ia ((Qa n).map val)))->R (.ok (.ret .none)) s')->
   rh (ka prog w) A (.builtin "bytearray.extend.loop" ⟨[.ref a,it,.ref I,.ref S],[]⟩) R s:=by
 have u:S∉wr:=λh=>y (W.sub _ h)
 have r:a∉wr:=λh=>haf (W.sub _ h)
 intro k
 induction k with
 |zero=>
  intro i s z hi g E D H
  have hin:i=n:=Hg hi (Dp z)
  subst hin
  refine vh zo ?_
  rw[vf Sh _]
  show mc _ _ (Qg (.ref I)>>=_) _ _
  refine Eh (W.done s _ _ g λs' hm=>?_)
  refine Cb ⟨qg Vp _,mr (by decide +kernel),?_⟩
  refine mQ hg (hm.heap _ _ r D) (hm.heap _ _ u E) (by rw[Array.size_append,vd,Yb,yc];exact hz) λh' j c=>?_
  refine H _ ((hm.mono λx d=>ya _ (ya _ d)).then_heap (Ab _) λx o d e=>(c.2 x (λq=>d (q▸za ..))).trans e) j
 |succ k J=>
  intro i s z hi g E D H
  have f:i < n:=Nat.lt_of_sub_eq_succ z
  refine vh zo ?_
  rw[vf Sh _]
  show mc _ _ (Qg (.ref I)>>=_) _ _
  refine Sg (W.item i s _ _ f g λv s' hP m hm=>?_)
  obtain ⟨t,rfl⟩:=l i v hP
  obtain ⟨M,L⟩:=hb i f
  dsimp only
  refine Eh (Br (Ma (nr M L ?_)))
  refine Eh (Nn ?_)
  refine Eh (cj (b':=Ia ((Qa (i+1)).map val)) (hm.heap _ _ u E) (gz val i).symm (by rw[vd,Yb,yc];exact Ja f (Ja (Nat.le_add_left ..) hz)) λh' j c=>?_)
  refine Cb ⟨qg Sh _,mr (by decide +kernel),J (i+1) _ (congrArg Nat.pred z) f ?_ j ((c.2 a C).trans (hm.heap _ _ r D)) λNg B p=>?_⟩
  ·exact W.frame (i+1) s' h' s'.toks m (Ab _) λx d o e=>(c.2 x (λq=>y (q▸d))).trans e
  ·refine H Ng (uW W.gtrans ((hm.mono λx d=>ya _ (ya _ d)).then_heap (Ab _) λx o d e=>(c.2 x (λq=>d ?_)).trans e) B) p
   rw[q];exact ya _ (za ..)
end
theorem Lv:CC "bytearray" "extend" "bytearray.extend":=
 .of (owner:="bytearray") (n:="extend") (by rw[xb,Pa];kernel_rfl) (by decide +kernel) (by decide +kernel) (by decide +kernel)
  (.inr (by decide +kernel)) (by rw[pd];kernel_rfl)
theorem YD(a x:Value):Tn "bytearray.extend" ⟨[a,x],[]⟩:=by kernel_rfl
noncomputable def Mv(a:la)(s s':aa):Prop:=∃h' tk,s'={s with heap:=h',toks:=tk}/\∀x o,x≠a->s.heap.get? x=some o->h'.get? x=some o
theorem range_getD(ns:List Int):(Qa ns.length).map (λi=>ns.getD i 0)=ns:=by
 apply qn
 ·rw[Yb,yc]
 ·intro i b a
  rw[dh,zr,Ra,Wb a];rfl
section
variable{prog:wa}{w:ja}{A:ua}{s:aa}
theorem Lu{b:Array UInt8}{E:Value->aa->Prop}{Q:Value->aa->Prop}(hz:b.size<=Kb)(h:Q (.ref s.heap.objs.size) {s with heap:=s.heap.push (qb b)}):wpAny (ka prog w) A (Kq b) Q E s:=by
 delta Kq
 exact Uc h hz
theorem iH{l:la}{id:String}{E:Value->aa->Prop}{Q:Unit->aa->Prop}(hT:s.TypeIs (.ref l) "list")(h:Q () s):wpAny (ka prog w) A (Kh id (.ref l)) Q E s:=by
 delta Kh
 refine Ua (ab hT slot_list_len.lookup ?_)
 dsimp only
 rw[Ru]
 dsimp only
 refine zb (zf hT sub_list_self ?_)
 refine Mz rfl ?_
 refine Dm (by decide +kernel) ?_
 exact pa h
theorem BL{v:Value}{id:String}{E:Value->aa->Prop}{Q:Unit->aa->Prop}(hT:s.TypeIs v "generator")(h:Q () s):wpAny (ka prog w) A (Kh id v) Q E s:=by
 delta Kh
 refine zb (ab hT F.gen_no_len ?_)
 dsimp only
 refine Mz (by decide +kernel) ?_
 refine Mz rfl ?_
 refine zb (ab hT F.gen_no_hint ?_)
 exact pa h
theorem zx{a b:la}{o o':Sa}{T U:String}(e:s.heap.get? a=some o)(c:s.heap.get? b=some o')(h:o.cls=.type T)(h':o'.cls=.type U)(n:T≠U):a≠b:=by
 rintro rfl
 have:=va (e.symm.trans c)
 subst this
 rw[h] at h'
 exact n (ME h')
theorem Jo{a:la}{b:Array UInt8}{x:Value}{Q:Value->aa->Prop}(e:s.heap.get? a=some (qb b))
  (h:mc (ka prog w) A.in1 (Builtin.«bytearray.extend» ⟨[.ref a,x],[]⟩)
   (λd s'=>match d with|.done f=>∃v,f=.ret v/\Q v s'|.again c'=>c'.quiet=true/\xh c'=true/\rh (ka prog w) A c' (λr s'=>∃v,r=.ok (.ret v)/\Q v s') s') s):
  mc (ka prog w) A (call (.builtin "bytearray.extend") [.ref a,x]) Q s:=by
 refine fm (Li (by decide +kernel) (by decide +kernel) zH (Lv.check _ _ _ _ _ _ _ _ (Pb e) (YD _ _) (Vc h λd s' hf=>?_)))
 cases d with
 |done f=>obtain ⟨v,rfl,q⟩:=hf;exact⟨v,rfl,q⟩
 |again c=>exact hf
theorem ft{a l:la}{b:Array UInt8}{vs:List Value}{ns:List Int}{m:Nat}{Q:Value->aa->Prop}(hh:A.handled=none)(hg:A.guards=some [])(y:s.heap.get? a=some (qb b))(u:s.heap.get? l=some (Wa vs m))
  (hi:IntsAre vs ns) (hr:Bh ns) (hz:b.size+ns.length<=Kb)
  (hQ:∀s',Mv a s s'->s'.heap.get? a=some (qb (b++Ia ns))->Q .none s'):mc (ka prog w) A (call (.builtin "bytearray.extend") [.ref a,.ref l]) Q s:=by
 refine Jo y ?_
 have M:s.heap.IsList l vs.toArray:=⟨_,u,rfl,m,rfl⟩
 have B:a≠l:=zx y u rfl rfl (by decide)
 have k:l < s.heap.objs.size:=Ba u
 have f:a < s.heap.objs.size:=Ba y
 unfold Builtin.«bytearray.extend»
 refine Uj (ui (kv _ _) ?_)
 refine Eh (ab M.typeIs xo ?_)
 refine Fe rfl ?_
 refine Eh (Br (Xg M ?_))
 generalize g:s.heap.push {cls:=.type "list_iterator",data:=.fields #[.ref l,.int 0 0]}=c
 have z:∀x o,s.heap.get? x=some o->c.get? x=some o:=λx o e=>by rw[<- g];exact fa _ e
 have h:c.objs.size=s.heap.objs.size+1:=by rw[<- g];exact Ec _ _
 have p:c.IsList l vs.toArray:=⟨_,z _ _ u,rfl,m,rfl⟩
 have E:c.IsListIter s.heap.objs.size l 0:=by rw[<- g];exact⟨_,ra _ rfl,rfl,rfl⟩
 have D:({s with heap:=c}:aa).TypeIs (.ref l) "list":=p6 (s:={s with heap:=c}) p
 refine Eh (Ma (iH D ?_))
 refine Eh (Lu (Zb _) ?_)
 have W:=(Walks.list (prog:=prog) (w:=w) (A:=A.in1) hh s.heap.objs.size l (Va k) vs.toArray).toS
 have d:vs.toArray.size=ns.length:=by simp[hi.length]
 have C:c.get? a=some (qb b):=z _ _ y
 have T:l < c.objs.size:=by rw[h];exact ye k
 have a1:a < c.objs.size:=by rw[h];exact ye f
 have V:∀o,(c.push o).objs.size=s.heap.objs.size+2:=λo=>by rw[Ec,h]
 refine Cb ⟨qg Sh _,mr (by decide +kernel),?_⟩
 refine WA (a:=a) (S:=c.objs.size) (b:=b) W (λi=>ns.getD i 0) (λi v hv=>?_) (λi L=>?_) hg ?_ ?_ ?_ (by rw[d];exact hz) vs.toArray.size 0 _ (by lia) (Zb _) ?_ ?_ ?_ λs' hm j=>?_
 ·obtain ⟨n,t,rfl,hn⟩:=IntsAre.at hi i v (by simpa using hv)
  exact⟨t,by simp[Pt,hn]⟩
 ·have:ns.getD i 0∈ns:=by
   have h2:i < ns.length:=by lia
   simp[Pt,Wb h2]
  exact hr _ this
 ·intro q;simp only[Ve,cg,or_false] at q;refine q.elim (λq=>?_) λq=>?_
  ·exact absurd q (Va f)
  ·exact B q
 ·intro q;simp only[Ve,cg,or_false] at q;refine q.elim (λq=>?_) λq=>?_
  ·exact Nat.succ_ne_self _ (h.symm.trans q)
  ·exact absurd q.symm (Va T)
 ·exact Va a1
 ·exact⟨(let ⟨o,e,r⟩:=E;⟨o,fa _ e,r⟩),p.push _⟩
 ·exact ra _ rfl
 ·exact fa _ C
 ·rw[d,range_getD] at j
  refine⟨_,rfl,hQ s' ?_ j⟩
  obtain ⟨J,I,H,G,O⟩:=hm
  obtain ⟨hp,gg,dd,tk,oo⟩:=s'
  simp only at J I H G O ⊢
  refine⟨hp,tk,by rw[I,H,G],λx o Y e=>J x o ?_ (fa _ (z _ _ e))⟩
  have:=Ba e
  simp only[Ve,cg,or_false,not_or]
  have N:x < c.objs.size:=by rw[h];exact ye this
  exact⟨Y,Va N,Va this⟩
end
theorem Mk:vc (.type "bytes") "__buffer__"=pure (some (.builtin "bytes.__buffer__")):=by rw[xb,Pa];kernel_rfl
theorem pE:vc (.type "bytes") "__release_buffer__"=pure none:=by rw[xb,Pa];kernel_rfl
theorem TV:lI (.type "bytes") (.type "bytes")=pure true:=by rw[pd];kernel_rfl
theorem AM:("bytes.__buffer__".endsWith ("."++"__buffer__"))=true:=by decide +kernel
theorem BM:"bytes.__buffer__".dropRight ("__buffer__".length+1)="bytes":=by decide +kernel
theorem FG:xf wi "bytearray.pop"=some Builtin.«bytearray.pop»:=Ud (by kernel_rfl)
theorem NB:CC "bytearray" "pop" "bytearray.pop":=
 .of (owner:="bytearray") (n:="pop") (by rw[xb,Pa];kernel_rfl) (by decide +kernel) (by decide +kernel) (by decide +kernel)
  (.inr (by decide +kernel)) (by rw[pd];kernel_rfl)
theorem bD(a x:Value):Tn "bytearray.pop" ⟨[a,x],[]⟩:=by kernel_rfl
theorem fK(a x:Value):selfAndSome "bytearray.pop" "pop" 0 1 ⟨[a,x],[]⟩=pure (a,[x]):=by kernel_rfl
theorem rv{α:Type}:∀l:List α,l.eraseIdx (l.length-1)=l.dropLast
 |[]=>rfl
 |[x]=>rfl
 |x::y::l=>by
  have:=rv (y::l)
  show(x::y::l).eraseIdx (l.length+1)=x::(y::l).dropLast
  rw[List.eraseIdx_cons_succ,<- this];rfl
section
variable{prog:wa}{w:ja}{A:ua}{s:aa}
theorem wu{b:Array UInt8}{t:jg}{E:Value->aa->Prop}{Q:Bool->aa->Prop}(h:Q true s):wpAny (ka prog w) A (jf (.bytes b t) "__buffer__") Q E s:=by
 delta jf
 refine zb (ab (PySem.W.typeIs_bytes _ _ _) Mk ?_)
 show wpAny _ _ (if (!("bytes.__buffer__".endsWith ("."++"__buffer__")))=true then _ else _) _ _ _
 rw[AM]
 show wpAny _ _ (Aj (.bytes b t) (.type ("bytes.__buffer__".dropRight ("__buffer__".length+1)))) _ _ _
 rw[BM]
 exact zf (PySem.W.typeIs_bytes _ _ _) TV h
theorem UH{b:Array UInt8}{t:jg}{id:String}{a:Bool}{E:Value->aa->Prop}{Q:Option (Array UInt8)->aa->Prop}(h:Q (some b) s):wpAny (ka prog w) A (Lf id (.bytes b t) a) Q E s:=by
 unfold Lf
 refine zb (ab (PySem.W.typeIs_bytes _ _ _) Mk ?_)
 refine zb (wu ?_)
 show wpAny _ _ (Lj (.bytes b t) _>>=_) _ _ _
 refine zb (ab (PySem.W.typeIs_bytes _ _ _) Mk ?_)
 show wpAny _ _ (oe (.bytes b t)>>=_) _ _ _
 unfold oe jf
 refine zb (zb (zb (ab (PySem.W.typeIs_bytes _ _ _) pE (pa (pa ?_)))))
 show wpAny _ _ (Kf (.bytes b t)>>=_) _ _ _
 unfold Kf Et
 exact zb (zb (pa (pa (pa h))))
theorem Ry{a:la}{b c:Array UInt8}{t:jg}{Q:Value->aa->Prop}(hg:A.guards=some [])(g:s.heap.get? a=some (qb b))(hz:(b++c).size<=Kb)
  (k:∀s',Mv a s s'->s'.heap.get? a=some (qb (b++c))->Q .none s'):mc (ka prog w) A (call (.builtin "bytearray.extend") [.ref a,.bytes c t]) Q s:=by
 refine Jo g ?_
 unfold Builtin.«bytearray.extend»
 refine Uj (ui (kv _ _) ?_)
 refine Eh (ab (PySem.W.typeIs_bytes _ _ _) Mk ?_)
 refine ru rfl ?_
 refine Eh (eh ?_)
 refine Eh (Oh g ?_)
 refine Eh (m:=Ep _ _ _) ?_
 unfold Ep mX
 refine zb (gh ?_)
 refine zb (ab (PySem.W.typeIs_bytes _ _ _) Mk ?_)
 refine zb (wu ?_)
 show wpAny _ _ (Lj (.bytes c t) _>>=_) _ _ _
 refine zb (ab (PySem.W.typeIs_bytes _ _ _) Mk ?_)
 refine zb (UH ?_)
 refine pa (pa ?_)
 refine ru rfl ?_
 show mc _ _ ((do
   if !c.isEmpty then yh (.ref a)
   rg (.ref a) (·++c)
   ret .none)) _ _
 have d:mc (ka prog w) A.in1 (do rg (.ref a) (·++c);ret .none) (λd s'=>match d with|.done f=>∃v,f=.ret v/\Q v s'|.again c'=>c'.quiet=true/\xh c'=true/\rh (ka prog w) A c' (λr s'=>∃v,r=.ok (.ret v)/\Q v s') s') s:=
  Eh (cj g rfl hz λh' i h=>Cb ⟨_,rfl,k _ ⟨h',s.toks,rfl,λx o j e=>(h.2 x j).trans e⟩ i⟩)
 split
 ·exact Uj (Yk (A:=A.in1) hg g d)
 ·exact d
variable{I:la}{fp wr:List la}{G:Array Bc->Array Bc->Prop}{n:Nat}{P:Nat->Value->Prop}{St:Nat->aa->Prop}
theorem XD{a:la}{b:Array UInt8}{Q:Value->aa->Prop}(W:WalksS prog w A.in1 I fp wr G n P St)(hT:s.TypeIs (.ref I) "generator")(d:St 0 s)(val:Nat->Int)(c:∀i v,P i v->∃t,v=.int (val i) t)(hb:∀i,i < n->0<=val i/\val i < 256)
  (hg:A.guards=some []) (haf:a∉fp) (j:∀x∈fp,x < s.heap.objs.size) (k:s.heap.get? a=some (qb b)) (hz:b.size+n<=Kb)
  (l:∀s',Moved (a::wr) G s s'->s'.heap.get? a=some (qb (b++Ia ((Qa n).map val)))->Q .none s'):mc (ka prog w) A (call (.builtin "bytearray.extend") [.ref a,.ref I]) Q s:=by
 refine Jo k ?_
 unfold Builtin.«bytearray.extend»
 refine Uj (ui (kv _ _) ?_)
 refine Eh (ab hT Hw ?_)
 refine Fe rfl ?_
 refine Eh (Br (W.self 0 s _ _ d ?_))
 refine Eh (Ma (BL hT ?_))
 refine Eh (Lu (Zb _) ?_)
 have h:a < s.heap.objs.size:=Ba k
 refine Cb ⟨qg Sh _,mr (by decide +kernel),?_⟩
 refine WA (a:=a) (S:=s.heap.objs.size) (b:=b) W val c hb hg haf (λq=>Xe _ (j _ q)) (Va h) hz n 0 _ (by lia) (Zb _) ?_ (ra _ rfl) (fa _ k) λs' hm g=>⟨_,rfl,l s' ?_ g⟩
 ·exact W.frame 0 s _ s.toks d (Ab _) λx f o e=>fa _ e
 ·refine⟨λx o f e=>hm.heap x o ?_ (fa _ e),hm.gens,hm.drawn,hm.os,hm.toks⟩
  have:=Ba e
  simp only[Ve,not_or] at f ⊢
  exact⟨f.1,Va this,f.2⟩
theorem gK{a:la}{b:Array UInt8}{t:jg}{Q:Value->aa->Prop}(hg:A.guards=some [])(d:s.heap.get? a=some (qb b))(hz:b.size<=Kb)(c:0 < b.size)
  (i:∀s' u,Mv a s s'->s'.heap.get? a=some (qb b.pop)->Q (.int (b[b.size-1]'(Rl c kj)).toNat u) s'):mc (ka prog w) A (call (.builtin "bytearray.pop") [.ref a,.int (-1) t]) Q s:=by
 refine fm (Li (by decide +kernel) (by decide +kernel) FG (NB.check _ _ _ _ _ _ _ _ (Pb d) (bD _ _) ?_))
 unfold Builtin.«bytearray.pop»
 refine Uj (ui (fK _ _) ?_)
 dsimp only
 refine Uj (ui (a:=(-1:Int)) (by kernel_rfl) ?_)
 refine Eh (Oh d ?_)
 have p:b.isEmpty=false:=by
  cases q:b.isEmpty with
  |false=>rfl
  |true=>exact absurd (Array.isEmpty_iff_size_eq_zero.mp q) (Ee c)
 have n:Ks (-1) b.size=some (b.size-1):=by
  unfold Ks
  have l:(if (-1:Int) < 0 then -1+(b.size:Int) else -1)=((b.size-1:Nat):Int):=by rw[if_pos (by decide),Dh c,Int.add_comm];rfl
  simp only[l]
  have j:(decide (0<=((b.size-1:Nat):Int))&&decide (((b.size-1:Nat):Int) < (b.size:Int)))=true:=by
   exact Bool.and_eq_true_iff.mpr ⟨decide_eq_true (sd _),decide_eq_true (Int.ofNat_lt.mpr (Rl c kj))⟩
  rw[if_pos j,Ib]
 have m:((Ks (-1) b.size).bind λk=>b[k]?.map (k,·))=some (b.size-1,b[b.size-1]'(Rl c kj)):=by
  rw[n]
  show(b[b.size-1]?).map _=_
  rw[se (Rl c kj)];rfl
 refine Fe p ?_
 rw[m]
 dsimp only
 refine Uj (Yk (A:=A.in1) hg d ?_)
 refine Eh (cj (b':=b.pop) d ?_ (by rw[Array.size_pop];exact Ja (Yi ..) hz) λh' g f=>?_)
 ·have hb:b.size-1 < b.size:=Rl c kj
  show b.eraseIdxIfInBounds (b.size-1)=b.pop
  rw[Array.eraseIdxIfInBounds,dif_pos hb]
  apply Array.ext'
  simp only[Array.toList_eraseIdx,Array.toList_pop]
  exact rv _
 ·delta a6
  refine Eh (Az (Cb ⟨_,rfl,i _ _ ⟨h',_,rfl,λx o h e=>(f.2 x h).trans e⟩ g⟩))
end
noncomputable def NL(a:wa)(S:T3)(B:List cb)(w:ja)(b dd d:la)(pl:Vb Bool)(m k:Nat):Prop:=
 Uk og (Gb Ka) a w 16 ⟨true,[(b,Ld dd d),(1963,Ic w),(1962,Og S B w),(1924,au S B w),(dd,mf)],m,[],[.k 0,.k 1,.k 1,.k 2,.k 0,.k 1,.k 1,.k 2,.k 0,.k 1,.k 1,.k 2,.k 3,.k 0,.k 4],[]⟩ k (.top (Wg (.ref b) "extend" pl))=some (⟨true,[(b,Ld dd d),(1963,Ic w),(1962,Og S B w),(1924,au S B w),(dd,mf)],m,[],[],[(dd,dd),(b,b),(1924,1924),(1962,1962),(1963,1963),(1963,1963),(b,b),(1962,1962),(1963,1963),(1963,1963),(b,b),(1962,1962),(1963,1963),(1963,1963),(b,b)]⟩,k+0,.top (.pure ((.ref 1924,[.ref b]))))
noncomputable def IF(a:wa)(S:T3)(B:List cb)(w:ja)(b dd d:la)(pl:Vb Bool)(m k:Nat):Prop:=
 Uk og (Gb Ka) a w 16 ⟨true,[(b,Ld dd d),(1963,Ic w),(1962,Og S B w),(1938,Zt S B w),(dd,mf)],m,[],[.k 0,.k 1,.k 1,.k 2,.k 0,.k 1,.k 1,.k 2,.k 0,.k 1,.k 1,.k 2,.k 3,.k 0,.k 4],[]⟩ k (.top (Wg (.ref b) "getbits" pl))=some (⟨true,[(b,Ld dd d),(1963,Ic w),(1962,Og S B w),(1938,Zt S B w),(dd,mf)],m,[],[],[(dd,dd),(b,b),(1938,1938),(1962,1962),(1963,1963),(1963,1963),(b,b),(1962,1962),(1963,1963),(1963,1963),(b,b),(1962,1962),(1963,1963),(1963,1963),(b,b)]⟩,k+0,.top (.pure ((.ref 1938,[.ref b]))))
noncomputable def HF(a:wa)(S:T3)(B:List cb)(w:ja)(b dd d:la)(pl:Vb Bool)(m k:Nat):Prop:=
 Uk og (Gb Ka) a w 16 ⟨true,[(b,Ld dd d),(1963,Ic w),(1962,Og S B w),(1945,Yt S B w),(dd,mf)],m,[],[.k 0,.k 1,.k 1,.k 2,.k 0,.k 1,.k 1,.k 2,.k 0,.k 1,.k 1,.k 2,.k 3,.k 0,.k 4],[]⟩ k (.top (Wg (.ref b) "toints" pl))=some (⟨true,[(b,Ld dd d),(1963,Ic w),(1962,Og S B w),(1945,Yt S B w),(dd,mf)],m,[],[],[(dd,dd),(b,b),(1945,1945),(1962,1962),(1963,1963),(1963,1963),(b,b),(1962,1962),(1963,1963),(1963,1963),(b,b),(1962,1962),(1963,1963),(1963,1963),(b,b)]⟩,k+0,.top (.pure ((.ref 1945,[.ref b]))))
noncomputable def bR(a:wa)(S:T3)(B:List cb)(w:ja) (m k:Nat):Prop:=
 Uk og (Gb Ka) a w 1 ⟨true,[(1963,Ic w)],m,[],[.k 0],[]⟩ k (.top (b6 (.ref 1963)))=some (⟨true,[(1963,Ic w)],m,[],[],[(1963,1963)]⟩,k+0,.top (.pure ([.ref 1963,.type "object"])))
noncomputable def QK(a:wa)(S:T3)(B:List cb)(w:ja) (m k:Nat):Prop:=
 Uk og (Gb Ka) a w 2 ⟨true,[(1963,Ic w)],m,[],[.k 0,.k 0],[]⟩ k (.top (WE (.ref 1963)))=some (⟨true,[(1963,Ic w)],m,[],[],[(1963,1963),(1963,1963)]⟩,k+0,.top (.pure (some "object.__new__")))
noncomputable def Ex(a:wa)(S:T3)(B:List cb)(w:ja)(b:la)(m k:Nat):Prop:=
 Uk og (Gb Ka) a w 1 ⟨true,[(1917,bu S B w)],m,[],[.k 0],[]⟩ k (.top (Dz (.ref 1917) (.ref b)))=some (⟨true,[(1917,bu S B w)],m,[],[],[(1917,1917)]⟩,k+0,.top (.pure ((.ref 1917,[.ref b]))))
noncomputable def gL(a:wa)(S:T3)(B:List cb)(w:ja) (m k:Nat):Prop:=
 Uk og (Gb Ka) a w 2 ⟨true,[(1963,Ic w)],m,[],[.k 0,.k 0],[]⟩ k (.top (Xh (.ref 1963)))=some (⟨true,[(1963,Ic w)],m,[],[],[(1963,1963),(1963,1963)]⟩,k+0,.top (.pure (Xa)))
lay_quick Mine.NL Mine.IF Mine.HF Mine.bR Mine.QK Mine.Ex Mine.gL
theorem pH(w:ja)(b dd d:la)(pl:Vb Bool)(m k:Nat):NL PP (Tc w) fb w b dd d  pl  m k:=by
 rw[PySem.W.Fast.te2965221918586658460]
 unfold PySem.W.Fast.tw2965221918586658460
 kernel_rfl
theorem OL{w:ja}{A:ua}{s:aa}{b dd d:la}{pl:Vb Bool}{Q:_->aa->Prop}{E:Value->aa->Prop}(f:A.handled=none)(F:Fk w s.heap)(hb:s.heap.get? b=some (Ld dd d))(a:s.heap.get? dd=some (mf))
  (e:∀h',(∀x o,s.heap.get? x=some o->h'.get? x=some o)->Q ((.ref 1924,[.ref b])) {s with heap:=h',toks:=s.toks+0}):wpAny (ka PP w) A (Wg (.ref b) "extend" pl) Q E s:=
 Te f (pH w b dd d  pl  s.heap.objs.size s.toks) [dd,b,1924,1962,1963,1963,b,1962,1963,1963,b,1962,1963,1963,b] rfl (Dc hb (Dc (F.u (1963,Ic w) (sa 29 rfl) rfl) (Dc (F.u (1962,tq w) (sa 28 rfl) rfl) (Dc (F.u (1924,Cu w) (sa 25 rfl) rfl) (Dc a tj))))) rfl rfl λh' c g=>e h' c
theorem MD(w:ja)(b dd d:la)(pl:Vb Bool)(m k:Nat):IF PP (Tc w) fb w b dd d  pl  m k:=by
 rw[PySem.W.Fast.te16880670990205220711]
 unfold PySem.W.Fast.tw16880670990205220711
 kernel_rfl
theorem cV{w:ja}{A:ua}{s:aa}{b dd d:la}{pl:Vb Bool}{Q:_->aa->Prop}{E:Value->aa->Prop}(f:A.handled=none)(F:Fk w s.heap)(hb:s.heap.get? b=some (Ld dd d))(a:s.heap.get? dd=some (mf))
  (e:∀h',(∀x o,s.heap.get? x=some o->h'.get? x=some o)->Q ((.ref 1938,[.ref b])) {s with heap:=h',toks:=s.toks+0}):wpAny (ka PP w) A (Wg (.ref b) "getbits" pl) Q E s:=
 Te f (MD w b dd d  pl  s.heap.objs.size s.toks) [dd,b,1938,1962,1963,1963,b,1962,1963,1963,b,1962,1963,1963,b] rfl (Dc hb (Dc (F.u (1963,Ic w) (sa 29 rfl) rfl) (Dc (F.u (1962,tq w) (sa 28 rfl) rfl) (Dc (F.u (1938,jD w) (sa 26 rfl) rfl) (Dc a tj))))) rfl rfl λh' c g=>e h' c
theorem LD(w:ja)(b dd d:la)(pl:Vb Bool)(m k:Nat):HF PP (Tc w) fb w b dd d  pl  m k:=by
 rw[PySem.W.Fast.te14117148348024578052]
 unfold PySem.W.Fast.tw14117148348024578052
 kernel_rfl
theorem bV{w:ja}{A:ua}{s:aa}{b dd d:la}{pl:Vb Bool}{Q:_->aa->Prop}{E:Value->aa->Prop}(f:A.handled=none)(F:Fk w s.heap)(hb:s.heap.get? b=some (Ld dd d))(a:s.heap.get? dd=some (mf))
  (e:∀h',(∀x o,s.heap.get? x=some o->h'.get? x=some o)->Q ((.ref 1945,[.ref b])) {s with heap:=h',toks:=s.toks+0}):wpAny (ka PP w) A (Wg (.ref b) "toints" pl) Q E s:=
 Te f (LD w b dd d  pl  s.heap.objs.size s.toks) [dd,b,1945,1962,1963,1963,b,1962,1963,1963,b,1962,1963,1963,b] rfl (Dc hb (Dc (F.u (1963,Ic w) (sa 29 rfl) rfl) (Dc (F.u (1962,tq w) (sa 28 rfl) rfl) (Dc (F.u (1945,uq w) (sa 27 rfl) rfl) (Dc a tj))))) rfl rfl λh' c g=>e h' c
theorem AK(w:ja) (m k:Nat):bR PP (Tc w) fb w  m k:=by
 rw[PySem.W.Fast.te66504109558476152]
 unfold PySem.W.Fast.tw66504109558476152
 kernel_rfl
theorem B7{w:ja}{A:ua}{s:aa} {Q:_->aa->Prop}{E:Value->aa->Prop}(c:A.handled=none)(F:Fk w s.heap)
  (b:∀h',(∀x o,s.heap.get? x=some o->h'.get? x=some o)->Q ([.ref 1963,.type "object"]) {s with heap:=h',toks:=s.toks+0}):wpAny (ka PP w) A (b6 (.ref 1963)) Q E s:=
 Te c (AK w  s.heap.objs.size s.toks) [1963] rfl (Dc (F.u (1963,Ic w) (sa 29 rfl) rfl) tj) rfl rfl λh' a d=>b h' a
theorem MG(w:ja) (m k:Nat):QK PP (Tc w) fb w  m k:=by
 rw[PySem.W.Fast.te14688781468127458245]
 unfold PySem.W.Fast.tw14688781468127458245
 kernel_rfl
theorem YZ{w:ja}{A:ua}{s:aa} {Q:_->aa->Prop}{E:Value->aa->Prop}(c:A.handled=none)(F:Fk w s.heap)
  (b:∀h',(∀x o,s.heap.get? x=some o->h'.get? x=some o)->Q (some "object.__new__") {s with heap:=h',toks:=s.toks+0}):wpAny (ka PP w) A (WE (.ref 1963)) Q E s:=
 Te c (MG w  s.heap.objs.size s.toks) [1963,1963] rfl (Dc (F.u (1963,Ic w) (sa 29 rfl) rfl) tj) rfl rfl λh' a d=>b h' a
theorem jz(w:ja)(b:la)(m k:Nat):Ex PP (Tc w) fb w b  m k:=by
 rw[PySem.W.Fast.te10611065042303821649]
 unfold PySem.W.Fast.tw10611065042303821649
 kernel_rfl
theorem QM{w:ja}{A:ua}{s:aa}{b:la}{Q:_->aa->Prop}{E:Value->aa->Prop}(d:A.handled=none)(F:Fk w s.heap)
  (c:∀h',(∀x o,s.heap.get? x=some o->h'.get? x=some o)->Q ((.ref 1917,[.ref b])) {s with heap:=h',toks:=s.toks+0}):wpAny (ka PP w) A (Dz (.ref 1917) (.ref b)) Q E s:=
 Te d (jz w b  s.heap.objs.size s.toks) [1917] rfl (Dc (F.u (1917,Du w) (sa 24 rfl) rfl) tj) rfl rfl λh' a e=>c h' a
theorem VG(w:ja) (m k:Nat):gL PP (Tc w) fb w  m k:=by
 rw[PySem.W.Fast.te6059043888606586645]
 unfold PySem.W.Fast.tw6059043888606586645
 kernel_rfl
theorem gR{w:ja}{A:ua}{s:aa} {Q:_->aa->Prop}{E:Value->aa->Prop}(c:A.handled=none)(F:Fk w s.heap)
  (b:∀h',(∀x o,s.heap.get? x=some o->h'.get? x=some o)->Q (Xa) {s with heap:=h',toks:=s.toks+0}):wpAny (ka PP w) A (Xh (.ref 1963)) Q E s:=
 Te c (VG w  s.heap.objs.size s.toks) [1963,1963] rfl (Dc (F.u (1963,Ic w) (sa 29 rfl) rfl) tj) rfl rfl λh' a d=>b h' a
set_option tactic.hygienic true
noncomputable abbrev nxK(M:pj)(A:ua)(rest:List cb)(env:Be)(Q:Af->aa->Prop):Af->aa->Prop:=λf s'=>f=.next/\mc M A (Kc rest env) Q s'
set_option tactic.hygienic false
noncomputable abbrev rtK(Q:Af->aa->Prop):Af->aa->Prop:=λf s'=>(∃v,f=.ret v)/\Q f s'
set_option tactic.hygienic true
noncomputable abbrev stK(M:pj)(A:ua)(env:Be)(x:xa)(Q:Af->aa->Prop):Value->aa->Prop:=λv b=>wpAny M A (fI env x v) (λ_ a=>Q .next a) Jc b
noncomputable abbrev exK(Q:Af->aa->Prop):Value->aa->Prop:=λv b=>(∀a,v≠.ref a)/\Q .next b
set_option tactic.hygienic false
noncomputable abbrev rvK(Q:Af->aa->Prop):Value->aa->Prop:=λv a=>Q (.ret v) a
noncomputable abbrev kpK(M:pj)(A:ua)(f:Value)(first:List Value)(Q:Value->aa->Prop):List Value->aa->Prop:=λvs b=>wpAny M A (Xh f) (λZ a=>mc M A (call f (first++vs) []) Q a) Jc b
noncomputable abbrev agK(R:(List Value->aa->Prop)->aa->Prop)(Q:List Value->aa->Prop):Value->aa->Prop:=λv a=>R (λvs=>Q (v::vs)) a
section
variable{prog:wa}{w:ja}{A:ua}{s:aa}
theorem jE{body:List cb}{env:Be}{R:Ob->aa->Prop}
  (h:mc (ka prog w) (A.deeper env) (Kc body env) (λf s'=>R (.ok (.ret (match f with|.ret v=>v|_=>.none))) s') s):rh (ka prog w) A (.func body env) R s:=by
 refine mh ?_
 show mc _ (A.deeper env) (do point;match <- (Kc body env).onRaise (leaving env) with|.ret v=>ret v|_=>ret .none) _ s
 refine Eh (Cr (Uj (Sj (Vc h λf s' h'=>?_))))
 cases f <;> exact Cb h'
theorem Hp{a:la}{args:Jn}{o:Sa}{fd:yl}{body:List cb}{R:Ob->aa->Prop}(f:A.depth < Le)(r:s.heap.get? a=some o)
  (l:o.data=.func fd) (n:fd.scope.isCoroutine=false) (i:fd.scope.isGenerator=false) (g:fd.body=.stmts body) (p:s.heap.CodeRec fd.code fd.qualname)
  (h:wpAny (ka prog w) A.in1 (bindArgs fd args) (λbinds d=>
   wpAny (ka prog w) A.in1 (vC fd.scope fd.globals fd.closure binds (fd.qualname++".<locals>.") (some a) fd.code none fd.builtins)
    (λenv b=>b.heap.NoLimit/\rh (ka prog w) A (.func body env) R b) Jc d) Jc s):
  rh (ka prog w) A (.call (.ref a) args) R s:=by
 refine mh ?_
 show mc _ A.in1 (callAny (.ref a) args) _ s
 refine Sg (m:=load a) (Gi r ?_)
 refine Nc λt=>?_;obtain ⟨c,oc,vs,u,hc,j,k,q⟩:=p;refine t ?_
 rw[l]
 show mc _ A.in1 (callFunction a fd args) _ s
 delta callFunction
 rw[hc,i,n,g]
 rw[hc] at h
 refine Eh (m:=ew (.ref c) 1) (Zc j k q (Uj (Cb ?_)))
 refine Eh (ah h (λbinds d yb=>Eh (ah yb (λenv b e=>?_))))
 exact Eh (wpAny_enterFrame e.1 f (Cb (And.intro rfl ⟨rfl,e.2⟩)))
theorem qB{a:la}{o:Sa}{fd:yl}{body:List cb}{vs:List Value}{binds:List (xa×Value)}{Q:Value->aa->Prop}(c:A.depth < Le)(m:s.heap.get? a=some o)
  (hd:o.data=.func fd) (l:s.heap.CodeRec fd.code fd.qualname) (e:fd.body=.stmts body) (hb:Sf s fd ⟨vs,[]⟩ binds) (g:s.heap.NoLimit) (j:fd.closure=[])
  (k:fd.scope.isCoroutine=false) (i:fd.scope.isGenerator=false) (n:fd.scope.kind=.function)
  (d:∀x∈binds,fd.scope.names.lookup x.1=some .local\/(fd.scope.names.lookup x.1=some .cell/\((tg (s.heap.objs.size+1) fd.scope.names []).lookup x.1).isSome=true))
  (h:∀b,InCallC s (ef fd s.heap.objs.size a).locals (BC (ef fd s.heap.objs.size a).kindOf binds λZ=>none) (ef fd s.heap.objs.size a).cells (GN (ef fd s.heap.objs.size a).kindOf binds λZ=>none) b->
   mc (ka prog w) (A.deeper (ef fd s.heap.objs.size a)) (Kc body (ef fd s.heap.objs.size a)) (λf s'=>Q (match f with|.ret v=>v|_=>.none) s') b):
  mc (ka prog w) A (call (.ref a) vs) Q s:=by
 refine fm (Hp c m hd k i e l (hb _ _ _ _ ?_))
 rw[j]
 refine sC n d λenv he s' x=>?_
 subst he
 exact⟨g.keeps x.toInCall.keep,jE (Vc (h s' x) λf s' q=>⟨_,rfl,q⟩)⟩
variable{env:Be}{Q:Af->aa->Prop}
set_option tactic.hygienic true
theorem te(h:Q .next s):mc (ka prog w) A (Kc [] env) Q s:=Cb h
set_option tactic.hygienic false
theorem La{st:cb}{rest:List cb}(h:mc (ka prog w) A (ig st env) (nxK (ka prog w) A rest env Q) s):mc (ka prog w) A (Kc (st::rest) env) Q s:=by
 rw[execs_cons]
 exact dj (Vc h λf s' q=>by obtain ⟨rfl,q⟩:=q;exact q)
theorem Zj{st:cb}{rest:List cb}(h:mc (ka prog w) A (ig st env) (rtK Q) s):mc (ka prog w) A (Kc (st::rest) env) Q s:=by
 rw[execs_cons]
 exact dj (Vc h λf s' q=>by obtain ⟨⟨v,rfl⟩,q⟩:=q;exact Cb q)
theorem fi{x:xa}{b pos:xd}{a:Oa}(e:mi a (some (.Name x b)) pos.line env=pure false)
  (h:mc (ka prog w) A (eval a env) (stK (ka prog w) A env x Q) s):mc (ka prog w) A (ig (.Assign [.Name x b] a pos) env) Q s:=by
 rw[aX env x b a pos e]
 refine Eh (wb (Uj (Vc h λv d yb=>Eh (wb (Eh (Em (ah yb (λZ c q=>Cb q))))))))
theorem lh{e:Oa}{pos:xd}(hi:qe env=false)(c:mi e none pos.line env=pure false)
  (h:mc (ka prog w) A (eval e env) (exK Q) s):mc (ka prog w) A (ig (.Expr e pos) env) Q s:=by
 rw[exec_Expr env e pos hi c]
 refine Sg (wb (dj (Vc h λv b yb=>?_)))
 obtain ⟨hv,q⟩:=yb
 rw[dropValue_plain (λa e=>hv a e)]
 exact Cb q
theorem Bo{t:Oa}{body a:List cb}{pos:xd}{b:Bool}(h:wpAny (ka prog w) A (isTrue t env (eval t env)) (λb' s'=>b'=b/\(if b then mc (ka prog w) A (Kc body env) Q s' else mc (ka prog w) A (Kc a env) Q s')) Jc s):
  mc (ka prog w) A (ig (.If t body a pos) env) Q s:=by
 rw[exec_If]
 refine Eh (wb (Eh (ah h (λb' s' q=>?_))))
 obtain ⟨rfl,q⟩:=q
 exact ZR q
theorem vp{e:Oa}{pos:xd}(h:mc (ka prog w) A (eval e env) (rvK Q) s):mc (ka prog w) A (ig (.Return (some e) pos) env) Q s:=by
 rw[exec_Return_some]
 exact Eh (wb (Uj (Vc h λv a q=>Cb q)))
theorem Nq{Q:List Value->aa->Prop}(h:Q [] s):mc (ka prog w) A (Qi []) Q s:=Cb h
theorem pw{x:Vb Value}{rest:List (Bool×Vb Value)}{Q:List Value->aa->Prop}(h:mc (ka prog w) A x (λv b=>mc (ka prog w) A (Qi rest) (λvs a=>Q (v::vs) a) b) s):
  mc (ka prog w) A (Qi ((false,x)::rest)) Q s:=by
 show mc _ _ (x>>=λv=>(pure [v]:Vb (List Value))>>=λc=>holding c (Qi rest)>>=λt=>pure (c++t)) _ _
 exact Uj (Vc h λv b yb=>Uj (Cb (Uj (vg (Vc yb λvs a q=>Cb q)))))
theorem AH{f:Value}{x:Vb Value}{rest:List (Bool×Vb Value)}{Q:Jn->aa->Prop}(h:mc (ka prog w) A (Qi ((false,x)::rest)) (λvs a=>Q ⟨vs,[]⟩ a) s):
  mc (ka prog w) A (Cp f true ((false,x)::rest) []) Q s:=by
 unfold Cp
 show mc _ _ (Qi ((false,x)::rest)>>=_) _ _
 refine Uj (Vc h λvs a yb=>?_)
 refine vg ?_
 dsimp only[Ss,if_true]
 refine Uj (Cb (Uj (Cb (Cb ?_))))
 exact yb
theorem ZD{f:Value}{Q:Jn->aa->Prop}(h:Q ⟨[],[]⟩ s):mc (ka prog w) A (Cp f true [] []) Q s:=by
 unfold Cp
 show mc _ _ (Qi []>>=_) _ _
 refine Uj (Nq (Uj (Cb ?_)))
 refine vg ?_
 dsimp only[Ss,if_true]
 refine Uj (Cb (Uj (Cb (Cb ?_))))
 exact h
theorem Dk{E:Value->aa->Prop}{a:List Value}{Q:Unit->aa->Prop}:∀(l:List Value),Q () s->wpAny (ka prog w) A (release.go a l) Q E s
 |[],h=>pa h
 |[_],h=>pa h
 |_::b::l,h=>zb (Ma (Cr (Dk (b::l) h)))
theorem dA{vs:List Value}{m:Vb Value}{Q:Value->aa->Prop}(h:mc (ka prog w) A m Q s):mc (ka prog w) A (iq vs m) Q s:=by
 unfold iq
 refine Uj (vg (Vc h λv s' q=>?_))
 unfold release
 exact Eh (Dk _ (Cb q))
theorem SH{pos:xd}{f:Value}{first:List Value}{args:List (Bool×Vb Value)}{Q:Value->aa->Prop}(d:args.any (·.1)=false)(l:args.length<=30)
  (h:mc (ka prog w) A (Cp f true args []) (λa e=>a.kw=[]/\wpAny (ka prog w) A (Xh f) (λZ b=>mc (ka prog w) A (call f (first++a.pos) []) Q b) Jc e) s):
  mc (ka prog w) A (oj pos f first args []) Q s:=by
 unfold oj
 refine Uj (vg (Vc h λa e yb=>?_))
 obtain ⟨i,g⟩:=yb
 obtain ⟨ap,n⟩:=a
 have i:n=[]:=i
 subst i
 refine Eh (wb ?_)
 have c:∀{t:Vb Value} {b:aa},mc (ka prog w) A t Q b->mc (ka prog w) A (t>>=λr=>holding [r] point>>=λZ=>pure r) Q b:=
  λ{t b} ht=>Uj (Vc ht λr b hr=>Eh (Ma (Cr (Cb hr))))
 rw[d]
 refine Eh (m:=Xh f) (ah g (λk b hc=>?_))
 have j:¬(args.length+2*([]:List (Option xa×Vb Value)).length > 30):=by simp;omega
 cases k with
 |frame=>
  show mc _ _ (if args.length+2*([]:List (Option xa×Vb Value)).length > 30 then _ else _) _ _
  rw[if_neg j]
  exact c (Sz hc)
 |boundFrame=>
  show mc _ _ (if args.length+2*([]:List (Option xa×Vb Value)).length > 30 then _ else _) _ _
  rw[if_neg j]
  exact c (Sz hc)
 |machine=>exact c hc
 |caller=>exact c (dA hc)
noncomputable def XM{M:pj}{A:ua}:List (Vb Value)->(List Value->aa->Prop)->aa->Prop
 |[],Q,s=>Q [] s
 |x::xs,Q,s=>mc M A x (agK (XM (M:=M) (A:=A) xs) Q) s
theorem Mq:∀{xs:List (Vb Value)} {Q:List Value->aa->Prop} {s:aa},XM (M:=ka prog w) (A:=A) xs Q s->mc (ka prog w) A (Qi (xs.map λx=>(false,x))) Q s
 |[],Q,s,h=>Nq h
 |x::xs,Q,s,h=>pw (Vc h λv a yb=>Mq yb)
theorem fc{pos:xd}{f:Value}{first:List Value}{xs:List (Vb Value)}{Q:Value->aa->Prop}(a:xs.length<=30)
  (h:XM (M:=ka prog w) (A:=A) xs (kpK (ka prog w) A f first Q) s):
  mc (ka prog w) A (oj pos f first (xs.map λx=>(false,x)) []) Q s:=by
 have b:(xs.map λx=>(false,x)).any (·.1)=false:=by
  rw[xW];simp
 refine SH b (by simpa using a) ?_
 cases xs with
 |nil=>exact ZD ⟨rfl,h⟩
 |cons x xs=>exact AH (Vc (Mq h) λvs c q=>⟨rfl,q⟩)
end
noncomputable abbrev clK(M:pj)(A:ua)(pos:xd)(args:List Oa)(env:Be)(Q:Value->aa->Prop):Value->aa->Prop:=λf a=>mc M A (oj pos f [] (Bg pos (Ae args env)) []) Q a
noncomputable abbrev mtK(M:pj)(A:ua)(pos:xd)(o:Oa)(name:xa)(args:List Oa)(env:Be)(Q:Value->aa->Prop):Value->aa->Prop:=
 λc b=>wpAny M A (Wg c name (do return (<- importBound o env).getD true)) (λr a=>mc M A (oj pos r.1 r.2 (Bg pos (Ae args env)) []) Q a) Jc b
noncomputable abbrev foK(M:pj)(A:ua)(a:Oa)(body:List cb)(env:Be)(Q:Af->aa->Prop):Value->aa->Prop:=
 λx c=>wpAny M A (wh x) (λit b=>rh M A (.forLoop a it body [] env) (λr s'=>∃f,r=.ok f/\Q f s') b) Jc c
set_option tactic.hygienic true
noncomputable abbrev saK(M:pj)(A:ua)(o:Oa)(d:xa)(env:Be)(Q:Af->aa->Prop):Value->aa->Prop:=
 λv c=>wpAny M A (eval o env) (λe b=>wpAny M A (setAttr e d v) (λ_ a=>Q .next a) Jc b) Jc c
section
variable{prog:wa}{w:ja}{A:ua}{s:aa}{env:Be}
set_option tactic.hygienic false
theorem Fg{x:xa}{a pos:xd}{args:List Oa}{Q:Value->aa->Prop}
  (h:wpAny (ka prog w) A (eval (.Name x a) env) (clK (ka prog w) A pos args env Q) Jc s):
  mc (ka prog w) A (eval (.Call (.Name x a) args [] pos) env) Q s:=by
 show mc _ A (do oj pos (<- eval (.Name x a) env) [] (Bg pos (Ae args env)) (HN pos (Cz [] env))) Q s
 exact Sg h
theorem mcp{o:Oa}{env:Be}{a pos:xd}(b:(a.endLine==pos.line)=true):methodCallPos true o env a pos=pure pos:=by unfold methodCallPos;simp[b]
theorem Th{o:Oa}{name:xa}{a pos:xd}{args:List Oa}{Q:Value->aa->Prop}(d:kG o name env (eval o env)=eval o env)
  (g:Hm args.length (Bg pos (Ae args env)) []=true) (b:(a.endLine==pos.line)=true)
  (h:mc (ka prog w) A (eval o env) (mtK (ka prog w) A pos o name args env Q) s):
  mc (ka prog w) A (eval (.Call (.Attribute o name a) args [] pos) env) Q s:=by
 rw[arm_eval_Call,d]
 refine dj (Vc h λk j yb=>?_)
 refine Sg (wb ?_)
 have c:Hm (args.length+([]:List Keyword).length) (Bg pos (Ae args env)) (HN pos (Cz [] env))=true:=g
 have e:=mcp (o:=o) (env:=env) b
 unfold methodCall
 rw[c]
 refine Sg (Ma (ah yb (λr i q=>?_)))
 obtain ⟨f,first⟩:=r
 exact dj (ui e q)
theorem jr{o:Oa}{b:xa}{d pos:xd}{a:Oa}{Q:Af->aa->Prop}(i:mi a (some (.Attribute o b d)) pos.line env=pure false)
  (h:mc (ka prog w) A (eval a env) (saK (ka prog w) A o b env Q) s):
  mc (ka prog w) A (ig (.Assign [.Attribute o b d] a pos) env) Q s:=by
 rw[plainObj_exec_Assign_Attribute o b d a pos i]
 refine Sg (wb (dj (Vc h λv g yb=>?_)))
 rw[assign_Attribute]
 refine Eh (zb (Ma (ah yb (λj f c=>zb (wb (zb (Ma (ah c (λZ e q=>?_)))))))))
 unfold release
 exact Dk _ (Cb q)
set_option tactic.hygienic true
theorem Wk{c:List Oa}{k:Nat}{b pos:xd}{a:Oa}{Q:Af->aa->Prop}
  (g:swapsWithSole [.Tuple c k b] a pos.line env=pure false) (f:swappedStores [.Tuple c k b] a env=pure none)
  (h:mc (ka prog w) A (eval a env) (λv d=>wpAny (ka prog w) A (Ql (.Tuple c k b) env v) (λ_ e=>Q .next e) Jc d) s):
  mc (ka prog w) A (ig (.Assign [.Tuple c k b] a pos) env) Q s:=by
 rw[i5]
 refine Eh (wb ?_)
 rw[g]
 refine dj (Cb ?_)
 rw[if_neg (by decide)]
 refine Uj (Vc h λv d yb=>?_)
 rw[f]
 refine Uj (Cb ?_)
 show mc _ _ (do assignAll v [Ql (.Tuple c k b) env];pure .next) Q d
 exact Eh (ah yb (λ_ _ x=>Cb x))
theorem Yl{a:Oa}{it:Value}{body:List cb}{R:Ob->aa->Prop}(I:Nat->aa->Prop)
  (ht:∀v,Tf a it v=pure ())
  (qq:∀n s,I n s->wpAny (ka prog w) A (Qg it) (λr b=>match r with
   |none=>R (.ok .next) b
   |some v=>wpAny (ka prog w) A (Ql a env v) (λ_ d=>mc (ka prog w) A (Kc body env) (λf c=>f=.next/\∃m,m < n/\I m c) d) Jc b) Jc s)
  (n:Nat) (h:I n s):rh (ka prog w) A (.forLoop a it body [] env) R s:=by
 induction n using vQ generalizing s with
 |ind n g=>
  refine mh ?_
  show mc _ _ ((forTurn a it body [] env).onRaise (λx=>do Bp x env;theTreesLotGoes x)) _ s
  refine Sj ?_
  dsimp only[forTurn]
  refine Eh (wb (Uj (Sj (Fb (ah (qq n s h) (λr b yb=>?_))))))
  cases r with
  |none=>
   refine Cb ⟨rfl,rfl,mh ?_⟩
   show mc _ _ (do return Fin.done (<- (Kc [] env).onRaise (λx=>do Bp x env;theTreesLotGoes x))) _ b
   exact Uj (Sj (te (Cb yb)))
  |some v=>
   refine Uj (ui (ht v) ?_)
   refine Eh (ah yb (λ_ d e=>Uj (Vc e λf c q=>?_)))
   obtain ⟨rfl,m,hm,hI⟩:=q
   exact Cb ⟨rfl,rfl,g m hm hI⟩
set_option tactic.hygienic false
theorem xp{a b:Oa}{body:List cb}{pos:xd}{Q:Af->aa->Prop}(f:∀x,ae b env x=pure x)
  (h:wpAny (ka prog w) A (eval b env) (foK (ka prog w) A a body env Q) Jc s):
  mc (ka prog w) A (ig (.For a b body [] pos) env) Q s:=by
 rw[exec_For]
 refine Eh (wb (Eh (ah h (λx e yb=>?_))))
 refine Uj (ui (f x) (Eh (wb (Eh (Ma (ah yb (λit d c=>?_)))))))
 exact LC rfl c
end
noncomputable def gvs:List (xa×Int×jg):=[("VERSION_M4",0,253),("VERSION_M3",-1,256),("VERSION_M2",-2,259),("VERSION_M1",-3,262),("ERROR_LEVEL_L",1,264),("ERROR_LEVEL_M",0,266),("ERROR_LEVEL_Q",3,268),("ERROR_LEVEL_H",2,270)]
noncomputable def Gj(x:xa):Option P:=(gvs.lookup x).map λv=>.int v.1
theorem DL(g:Sa)(w:ja):gvs.map (λy=>Hi (Qp g w) y.1)=gvs.map (λy=>some (.int y.2.1 y.2.2)):=by kernel_rfl
theorem MF(g:Sa)(w:ja):([qa "len",qa "range",qa "list",qa "max",qa "zip",qa "bytearray",qa "reversed",qa "int",qa "map",qa "str",qa "issubclass",qa "type",qa "tuple"]:List xa).map (λy=>Hi (Qp g w) y)=Ha 13 none:=by kernel_rfl
noncomputable def JO(w:ja):xa->Option Value:=(Yh w).nsMap jd
noncomputable def mbW(w:ja):xa->Option Value:=(Yh w).nsMap Hc
theorem Wr(w:ja)(x:xa):JO w x=Hi (Yh w) x:=(tQ (Yo w) x).symm
theorem jx{l:List (xa×Int×jg)}{f:xa->Option Value}(h:l.map (λy=>f y.1)=l.map (λy=>some (.int y.2.1 y.2.2))):∀{x:xa} {v:Int×jg},l.lookup x=some v->f x=some (.int v.1 v.2):=by
 induction l with
 |nil=>intro x v e;cases e
 |cons y l a=>
  intro x v e
  simp only[vb,List.cons.injEq] at h
  rw[Ca] at e
  cases q:x==y.1 with
  |true=>
   rw[q] at e
   obtain rfl:=va e
   rw[beq_iff_eq.mp q];exact h.1
  |false=>rw[q] at e;exact a h.2 e
theorem jA{l:List xa}{f:xa->Option Value}{n:Nat}(h:l.map f=Ha n none):∀x∈l,f x=none:=by
 intro x a
 have:f x∈l.map f:=zd a
 rw[h] at this
 exact(List.mem_replicate.mp this).2
theorem pS(w:ja)(x:xa)(a:x≠"__name__"):(Yh w).nsMap Hc x=Zg x:=by
 have e:=gm w
 simp only[we] at e
 refine Nc λb=>?_;obtain ⟨_,_,_,eb,hb,_⟩:=e;refine b ?_
 exact SN hb eb x a
noncomputable def GW(w:ja):Gl where
 mg:=JO w
 mb:=mbW w
 gv:=Gj
 gok:=λx p e=>by
  delta Gj at e
  cases q:gvs.lookup x with
  |none=>rw[q] at e;cases e
  |some v=>
   rw[q] at e
   obtain rfl:=va e
   exact⟨.int v.1 v.2,by rw[Wr];exact jx (DL _ w) q,λh=>⟨v.2,rfl⟩⟩
 bok:=λx a=>pS w x a
 free:=λx a=>by
  rw[Wr]
  refine jA (MF _ w) x ?_
  exact List.contains_iff_mem.mp (List.all_eq_true.mp (by kernel_rfl:List.all _ (λy=>List.contains _ y)=true) x a)
theorem ke(w:ja){x:xa}(h:x∈([qa "len",qa "range",qa "list",qa "max",qa "zip",qa "bytearray",qa "reversed",qa "int",qa "map",qa "str",qa "issubclass",qa "type",qa "tuple"]:List xa)):(GW w).mg x=none:=
 (Wr w x).trans (jA (MF _ w) x h)
theorem cf{w:ja}{h:Na}(F:Fk w h):GS (GW w) h:=by
 refine⟨?_,?_,?_⟩
 ·have e:(Yh w).Ns jd ((Yh w).nsMap jd):=vn (Yo w)
  exact e.at' λo q=>F.QW.trans q
 ·have e:(Yh w).Ns Hc ((Yh w).nsMap Hc):=vn (Qr w)
  exact e.at' λo q=>F.v9.trans q
 ·have a:(Yh w).isNs Ue=true:=by kernel_rfl
  have e:(Yh w).Ns Ue ((Yh w).nsMap Ue):=vn a
  refine⟨_,e.at' λo q=>F.at2.trans q,?_⟩
  rw[<- Pin.staticOf_eq a]
  kernel_rfl
theorem Ff:CC "bytearray" "__getitem__" "bytearray.__getitem__":=
 .of (owner:="bytearray") (n:="__getitem__") (by rw[xb,Pa];kernel_rfl) (by decide +kernel) (by decide +kernel) (by decide +kernel)
  (.inl (by decide +kernel)) (by rw[pd];kernel_rfl)
theorem An:CC "bytearray" "__setitem__" "bytearray.__setitem__":=
 .of (owner:="bytearray") (n:="__setitem__") (by rw[xb,Pa];kernel_rfl) (by decide +kernel) (by decide +kernel) (by decide +kernel)
  (.inl (by decide +kernel)) (by rw[pd];kernel_rfl)
theorem Oo:CC "bytearray" "__len__" "bytearray.__len__":=
 .of (owner:="bytearray") (n:="__len__") (by rw[xb,Pa];kernel_rfl) (by decide +kernel) (by decide +kernel) (by decide +kernel)
  (.inl (by decide +kernel)) (by rw[pd];kernel_rfl)
theorem xr:CC "bytearray" "__iter__" "bytearray.__iter__":=
 .of (owner:="bytearray") (n:="__iter__") (by rw[xb,Pa];kernel_rfl) (by decide +kernel) (by decide +kernel) (by decide +kernel)
  (.inl (by decide +kernel)) (by rw[pd];kernel_rfl)
theorem ji:CC "bytearray_iterator" "__next__" "bytearray_iterator.__next__":=
 .of (owner:="bytearray_iterator") (n:="__next__") (by rw[xb,Pa];kernel_rfl) (by decide +kernel) (by decide +kernel) (by decide +kernel)
  (.inl (by decide +kernel)) (by rw[pd];kernel_rfl)
theorem sr:CC "bytearray_iterator" "__iter__" "bytearray_iterator.__iter__":=
 .of (owner:="bytearray_iterator") (n:="__iter__") (by rw[xb,Pa];kernel_rfl) (by decide +kernel) (by decide +kernel) (by decide +kernel)
  (.inl (by decide +kernel)) (by rw[pd];kernel_rfl)
theorem ym:xf wi "bytearray.__getitem__"=some Builtin.«bytearray.__getitem__»:=Ud (by kernel_rfl)
theorem Es:xf wi "bytearray.__setitem__"=some Builtin.«bytearray.__setitem__»:=Ud (by kernel_rfl)
theorem qz:xf wi "bytearray.__len__"=some Builtin.«bytearray.__len__»:=Ud (by kernel_rfl)
theorem Mw:xf wi "bytearray.__iter__"=some Builtin.«bytearray.__iter__»:=Ud (by kernel_rfl)
theorem Xp:xf wi "bytearray_iterator.__next__"=some Builtin.«bytearray_iterator.__next__»:=Ud (by kernel_rfl)
theorem Bn(a x:Value):Tn "bytearray.__getitem__" ⟨[a,x],[]⟩:=by kernel_rfl
theorem Ht(a x y:Value):Tn "bytearray.__setitem__" ⟨[a,x,y],[]⟩:=by kernel_rfl
theorem QB(a:Value):Tn "bytearray.__len__" ⟨[a],[]⟩:=by kernel_rfl
theorem rz(a:Value):Tn "bytearray.__iter__" ⟨[a],[]⟩:=by kernel_rfl
theorem tr(a:Value):Tn "bytearray_iterator.__next__" ⟨[a],[]⟩:=by kernel_rfl
theorem lz(a:Value):Tn "bytearray_iterator.__iter__" ⟨[a],[]⟩:=by kernel_rfl
noncomputable def nh(h:Na)(a:la)(ns:List Int):Prop:=h.get? a=some (qb (Ia ns))
theorem Ko(ns:List Int)(hb:Bh ns)(j:Nat)(a:j < ns.length):∃x:UInt8,(Ia ns)[j]?=some x/\(x.toNat:Int)=ns.getD j 0:=by
 have b:ns[j]?=some ns[j]:=Wb a
 refine⟨ns[j].toNat.toUInt8,by simp[Ia,b],?_⟩
 have f:=hb ns[j] (pn a)
 have e:ns.getD j 0=ns[j]:=by simp[Pt,b]
 rw[e]
 have d:ns[j].toNat < 256:=by lia
 have c:(ns[j].toNat.toUInt8).toNat=ns[j].toNat:=by
  show(UInt8.ofNat ns[j].toNat).toNat=_
  rw[UInt8.toNat_ofNat'];exact MN d
 rw[c];lia
theorem Bh.take{ns:List Int}(h:Bh ns)(k:Nat):Bh (ns.take k):=λn a=>h n (SE a)
theorem Bh.drop{ns:List Int}(h:Bh ns)(k:Nat):Bh (ns.drop k):=λn a=>h n (UE a)
theorem Bh.append{ns ms:List Int}(h:Bh ns)(g:Bh ms):Bh (ns++ms):=λn a=>(List.mem_append.mp a).elim (h n) (g n)
theorem Bh.set{ns:List Int}(h:Bh ns)(k:Nat){v:Int}(h0:0<=v)(b:v < 256):Bh (ns.set k v):=λn a=>by
 rcases List.mem_or_eq_of_mem_set a with q|rfl
 ·exact h n q
 ·exact⟨h0,b⟩
theorem wB(ns:List Int)(k:Nat)(v:Int):(Ia ns).setIfInBounds k v.toNat.toUInt8=Ia (ns.set k v):=by
 unfold Ia
 rw[wW]
 simp
theorem Zk(ns ms:List Int):Ia ns++Ia ms=Ia (ns++ms):=by simp[Ia]
theorem jQ(ns:List Int)(a b:Nat):(((Qa (b-a)).map (a+·)).filterMap ((Ia ns)[·]?)).toArray=Ia ((ns.drop a).take (b-a)):=by
 rw[pick_run]
 simp[Ia,List.map_drop,List.map_take]
noncomputable def Fo(lo:Option Int)(n:Nat):Nat:=match lo with
 |none=>0
 |some i=>(max 0 (min (if i < 0 then i+n else i) n)).toNat
noncomputable def jt(hi:Option Int)(n:Nat):Nat:=match hi with
 |none=>n
 |some i=>(max 0 (min (if i < 0 then i+n else i) n)).toNat
theorem vx{k n:Nat}(h:k<=n):Fo (some (k:Int)) n=k:=by
 show(max 0 (min (if (k:Int) < 0 then (k:Int)+n else k) (n:Int))).toNat=k
 rw[if_neg (Int.not_lt.mpr (sd k)),BQ (Int.ofNat_le.mpr h),RN (sd k)];rfl
theorem KH(k n:Nat):jt (some (k:Int)) n=min k n:=by
 show(max 0 (min (if (k:Int) < 0 then (k:Int)+n else k) (n:Int))).toNat=_
 rw[if_neg (Int.not_lt.mpr (sd k)),RN (Int.le_min.mpr ⟨sd _,sd _⟩)]
 exact(jX k n).elim (λh=>by rw[Nat.min_eq_left h,BQ (Int.ofNat_le.mpr h)];rfl) λh=>by rw[Nat.min_eq_right h,Int.min_eq_right (Int.ofNat_le.mpr h)];rfl
theorem AG{α:Type _}(l:List α)(i j:Nat):l.take (min (i+j) (i+l.length)-i)=l.take j:=by
 rw[Nat.add_min_add_left,lj,<- List.take_take,Rf (Ab l.length)]
theorem hE(lo hi:Option Int)(n:Nat):sliceBounds lo hi none n=((Fo lo n:Int),(jt hi n:Int),1):=by
 dsimp only[sliceBounds,Option.getD_none,show(1:Int) > 0 by decide,if_true]
 congr 1
 ·cases lo with
  |none=>rfl
  |some i=>exact(sl (CQ ..)).symm
 ·congr 1
  cases hi with
  |none=>rfl
  |some i=>exact(sl (CQ ..)).symm
section
variable{prog:wa}{w:ja}{A:ua}{E:Value->aa->Prop}{s:aa}
theorem ur{i:Int}{t:jg}{Q:Option Int->aa->Prop}(h0:-(2 ^ 63)<=i)(b:i < 2 ^ 63)(h:Q (some i) s):wpAny (ka prog w) A (Jh (.int i t)) Q E s:=by
 unfold Jh
 refine zb (ab (tC s i t) int_index ?_)
 dsimp only[OE,Vi,if_false]
 refine zb (Aa (a:=i) rfl ?_)
 have e:(!Rk i)=false:=by
  unfold Rk
  simp only[Bool.not_eq_false',Bd,decide_eq_true_eq];exact⟨h0,b⟩
 show wpAny _ _ (if (!Rk i)=true then _ else _) _ _ _
 rw[e]
 exact pa h
noncomputable def xm(v:Value):Vb Value:=do
 if v==.none then return .none
 if (<- Lj v "__index__").isNone then
  rule "bytes.slice.part-no-index";raiseError "TypeError" "slice indices must be integers or None or have an __index__ method"
 return Fc (<- asIndex v)
theorem Aq(s:Value):Nr s=(do
  let Gf <- xm (<- ew s 2)
  if Gf==Fc 0 then rule "bytes.slice.step-zero";raiseError "ValueError" "slice step cannot be zero"
  let nj <- xm (<- ew s 0)
  let a <- xm (<- ew s 1)
  return (nj,a,Gf)):=rfl
theorem vk{v:Value}{k:Option Int}{Q:Value->aa->Prop}(hv:l6 v k)(h:Q (rawPart k) s):wpAny (ka prog w) A (xm v) Q E s:=by
 cases hv with
 |none=>exact pa h
 |int i t=>
  unfold xm
  rw[if_neg (show¬((Jp i t==Cn)=true) from ng)]
  refine zb (ab (T:="int") (tC s i t) int_index ?_)
  dsimp only[OE,Vi,if_false]
  exact zb (Aa (a:=i) rfl (pa h))
theorem seqIndex_of{k:Int}{n:Nat}(h0:0<=k)(a:k < n):Ks k n=some k.toNat:=by
 unfold Ks
 have:¬k < 0:=by lia
 simp[this];lia
theorem SM{a:la}{ns:List Int}{k:Int}{t:jg}{Q:Value->aa->Prop}(hb:nh s.heap a ns)(b:Bh ns)(h0:0<=k)(d:k < ns.length)(hz:ns.length<=2 ^ 24)
  (h:∀u tk,Q (.int (ns.getD k.toNat 0) u) {s with toks:=tk}):wpAny (ka prog w) A (Fh (.ref a) (.int k t)) Q E s:=by
 have hT:=Pb hb
 unfold Fh
 try with_reducible refine Ma ?_
 first|refine Ua (pa ?_)|skip
 refine Ua (Mn hT (by decide) ?_)
 refine Ua (Ub (name:=qa "__getitem__") hT Ff
  (qc Ff hT ym ?_ (Bn _ _)))
 unfold Builtin.«bytearray.__getitem__»
 refine Ua (Aa (a:=(.ref a,[.int k t])) rfl ?_)
 dsimp only
 refine Ua (ur (by lia) (by lia) ?_)
 dsimp only
 refine Ua (Oh hb ?_)
 obtain ⟨x,c,hv⟩:=Ko ns b k.toNat (by lia)
 rw[seqIndex_of h0 (by rw[vd];exact d)]
 simp only[Option.bind_some,c]
 unfold a6
 refine Ua (Az (pa ⟨_,rfl,pa ?_⟩))
 rw[hv]
 exact h _ _
theorem TM{a f:la}{ns:List Int}{i g:Value}{lo hi:Option Int}{Q:Value->aa->Prop}(hb:nh s.heap a ns)(l:s.heap.IsSliceOf f i g .none)(pl:l6 i lo)(k:l6 g hi)(hz:ns.length<=2 ^ 24)
  (h:Q (.ref s.heap.objs.size) {s with heap:=s.heap.push (qb (Ia ((ns.drop (Fo lo ns.length)).take (jt hi ns.length-Fo lo ns.length))))}):
  wpAny (ka prog w) A (Fh (.ref a) (.ref f)) Q E s:=by
 have hT:=Pb hb
 refine Nc λn=>?_;obtain ⟨os,b,j,c⟩:=id l;refine n ?_
 have d:s.TypeIs (.ref f) "slice":=⟨os,b,j⟩
 unfold Fh
 try with_reducible refine Ma ?_
 first|refine Ua (pa ?_)|skip
 refine Ua (Mn hT (by decide) ?_)
 refine Ua (Ub (name:=qa "__getitem__") hT Ff
  (qc Ff hT ym ?_ (Bn _ _)))
 unfold Builtin.«bytearray.__getitem__»
 refine Ua (Aa (a:=(.ref a,[.ref f])) rfl ?_)
 dsimp only
 refine Ua (m:=Jh _) ?_
 ·unfold Jh
  refine Ua (ab d slice_no_index ?_)
  simp only[Option.isNone_none,if_true]
  refine pa ?_
  dsimp only
  refine Ua (rk d ?_)
  rw[if_neg (by decide)]
  refine Ua (m:=Nr _) ?_
  rw[Aq]
  refine Ua (Zc b c (x:=.none) rfl (Ua (vk .none ?_)))
  rw[if_neg (by decide)]
  refine Ua (Zc b c (x:=i) rfl (Ua (vk pl ?_)))
  refine Ua (Zc b c (x:=g) rfl (Ua (vk k (pa ?_))))
  dsimp only
  refine Ua (Oh hb ?_)
  refine Ua (Aa (sliceIndices_raw lo hi none _ (by decide)) ?_)
  rw[hE]
  dsimp only
  have e:qu (Ia ns) (Fo lo (Ia ns).size) (jt hi (Ia ns).size) 1=Ia ((ns.drop (Fo lo ns.length)).take (jt hi ns.length-Fo lo ns.length)):=by
   unfold qu
   rw[sliceRange_one,jQ,vd]
  rw[e]
  refine Ua (Lu ?_ (pa ⟨_,rfl,pa h⟩))
  rw[vd]
  exact Ja (List.length_take_le' _ _) (Ja (by rw[bh];exact Yi ..) (Ja hz (by decide)))
theorem ZV{a:la}{ns:List Int}{k v:Int}{t u:jg}{Q:Unit->aa->Prop}(hb:nh s.heap a ns)(h0:0<=k)(f:k < ns.length)(hz:ns.length<=2 ^ 24)(c:0<=v)(b:v < 256)
  (h:∀h',nh h' a (ns.set k.toNat v)->Ad a s.heap h'->Q () {s with heap:=h'}):wpAny (ka prog w) A (mW (.ref a) (.int k t) (.int v u)) Q E s:=by
 have hT:=Pb hb
 unfold mW
 try with_reducible refine Ma ?_
 first|refine Ua (pa ?_)|skip
 refine Ua (Mn hT (by decide) ?_)
 refine Ua (Ub (name:=qa "__setitem__") hT An
  (qc An hT Es ?_ (Ht _ _ _)))
 unfold Builtin.«bytearray.__setitem__»
 rw[if_neg (by simp)]
 dsimp only
 refine Ua (ur (by lia) (by lia) ?_)
 dsimp only
 refine Ua (nr c b ?_)
 refine Ua (Oh hb ?_)
 rw[seqIndex_of h0 (by rw[vd];exact f)]
 dsimp only
 refine Ua (cj (b':=Ia (ns.set k.toNat v)) hb (wB _ _ _) (by rw[vd,Kk];dsimp only[Kb];lia) λh' e d=>?_)
 exact pa ⟨_,rfl,pa (h h' e d)⟩
theorem yE{a:la}{ns:List Int}{Q:Value->aa->Prop}(hb:nh s.heap a ns)(h:Q (.int ns.length s.toks) {s with toks:=s.toks+1}):
  wpAny (ka prog w) A (call (.builtin "bytearray.__len__") [.ref a]) Q E s:=by
 have hT:=Pb hb
 refine qc Oo hT qz ?_ (QB _)
 unfold Builtin.«bytearray.__len__»
 refine zb (Aa (a:=(.ref a,[])) rfl ?_)
 dsimp only
 refine Ua (Oh hb ?_)
 unfold a6
 rw[vd]
 exact zb (Az (pa ⟨_,rfl,h⟩))
theorem Ds{a:la}{ns:List Int}{Q:Value->aa->Prop}(hb:nh s.heap a ns)(hz:ns.length<=2 ^ 24)(h:∀u tk,Q (.int ns.length u) {s with toks:=tk}):
  wpAny (ka prog w) A (call (.builtin "len") [.ref a]) Q E s:=
 j5 (n:=ns.length) (Pb hb) Oo (λc b=>yE hb b) (by lia) (by lia) (h _ _)
noncomputable def jn(h:Na)(it a:la)(i:Nat):Prop:=h.get? it=some {cls:=.type "bytearray_iterator",data:=.fields #[.ref a,Fc i]}
theorem kQ{a:la}{ns:List Int}{Q:Value->aa->Prop}(hb:nh s.heap a ns)(h:Q (.ref s.heap.objs.size) {s with heap:=s.heap.push {cls:=.type "bytearray_iterator",data:=.fields #[.ref a,Fc 0]}}):
  wpAny (ka prog w) A (wh (.ref a)) Q E s:=by
 have hT:=Pb hb
 refine aw hT xr (qc xr hT Mw ?_ (rz _))
 unfold Builtin.«bytearray.__iter__»
 refine zb (Aa (a:=(.ref a,[])) rfl ?_)
 dsimp only
 refine zb (m:=newFields _ _) ?_
 unfold newFields
 exact Uc (pa ⟨_,rfl,"bytearray_iterator",_,⟨_,ra _ rfl,rfl⟩,ji.lookup,h⟩)
theorem Jw:xf wi "bytearray_iterator.__iter__"=some Builtin.«dict_keyiterator.__iter__»:=
 entryFor_alias (id':="dict_keyiterator.__iter__") (by kernel_rfl) (by rfl) (by decide +kernel) (by kernel_rfl)
theorem gQ{it a:la}{i:Nat}{Q:Value->aa->Prop}(b:jn s.heap it a i)(h:Q (.ref it) s):wpAny (ka prog w) A (wh (.ref it)) Q E s:=by
 have hT:s.TypeIs (.ref it) "bytearray_iterator":=⟨_,b,rfl⟩
 refine aw hT sr (qc sr hT Jw ?_ (lz _))
 show wpAny _ _ (ret (.ref it)) _ _ s
 exact pa ⟨_,rfl,"bytearray_iterator",_,hT,ji.lookup,h⟩
theorem iQ{it a:la}{i:Nat}{ns:List Int}{Q:Option Value->aa->Prop}(b:jn s.heap it a i)(hb:nh s.heap a ns)(c:Bh ns)(hi:i < ns.length)
  (h:∀h' u tk,jn h' it a (i+1)->Ad it s.heap h'->Q (some (.int (ns.getD i 0) u)) {s with heap:=h',toks:=tk}):wpAny (ka prog w) A (Qg (.ref it)) Q E s:=by
 have hT:s.TypeIs (.ref it) "bytearray_iterator":=⟨_,b,rfl⟩
 unfold Qg
 refine zb (gh (Ub (name:=qa "__next__") hT ji
  (qc ji hT Xp ?_ (tr _))))
 unfold Builtin.«bytearray_iterator.__next__»
 refine zb (Aa (a:=(.ref it,[])) rfl ?_)
 dsimp only
 refine zb (Zc b rfl (x:=.ref a) rfl ?_)
 dsimp only
 refine Ua (Gi hb ?_)
 dsimp only
 refine Ua (Zc b rfl (x:=Fc i) rfl ?_)
 dsimp only[Fc]
 obtain ⟨x,d,hv⟩:=Ko ns c i hi
 simp only[Ib,d]
 refine zb (V5 b rfl (by simp) ?_)
 unfold a6
 refine zb (Az (pa ⟨_,rfl,pa ?_⟩))
 rw[hv]
 refine h _ _ _ ?_ (ug ..)
 refine(zc _ b rfl).trans ?_
 simp[Obj.mapFields,Fc]
theorem YV{it a:la}{i:Nat}{ns:List Int}{Q:Option Value->aa->Prop}(e:A.handled=none)(c:jn s.heap it a i)(hb:nh s.heap a ns)(hi:ns.length<=i)
  (h:∀h',bj it s.heap h'->Q none {s with heap:=h'}):wpAny (ka prog w) A (Qg (.ref it)) Q E s:=by
 have hT:s.TypeIs (.ref it) "bytearray_iterator":=⟨_,c,rfl⟩
 unfold Qg
 refine zb (gh (Ub (name:=qa "__next__") hT ji
  (qc ji hT Xp ?_ (tr _))))
 unfold Builtin.«bytearray_iterator.__next__»
 refine zb (Aa (a:=(.ref it,[])) rfl ?_)
 dsimp only
 refine zb (Zc c rfl (x:=.ref a) rfl ?_)
 dsimp only
 refine Ua (Gi hb ?_)
 dsimp only
 refine Ua (Zc c rfl (x:=Fc i) rfl ?_)
 dsimp only[Fc]
 have d:(Ia ns)[i]?=none:=by rw[Gn];rw[vd];exact hi
 simp only[Ib,d]
 refine zb (eh (zb (V5 c rfl (by simp) ?_)))
 refine zb (Nn ?_)
 show wpAny _ _ (NR (.type "StopIteration") []>>=_) _ _ _
 refine zb ?_
 simp only[NR,newTuple]
 refine zb (Uc ?_ (by size_fits))
 refine zb (m:=e6 _ _) (Aa (a:=Cn) (by rfl) ?_)
 refine Uc ?_ (by size_fits)
 refine zb (m:=handled) (wpAny_handled ?_)
 rw[show A.in1.handled=none from e]
 refine zb (pa (BN ?_))
 refine zb (zf (T:="StopIteration") (b:=true) ⟨_,ra _ rfl,rfl⟩ wC ?_)
 exact pa (h _ (((ug ..).extBut.push _).push _))
theorem Walks.ba(m:A.handled=none)(I a:la)(g:a≠I)(ns:List Int)(l:Bh ns):
  Walks prog w A I [I,a] [I] ns.length (λi v=>∃u,v=.int (ns.getD i 0) u) (λi h=>jn h I a i/\nh h a ns) where
 sub:=λb hb=>by simp at hb;simp[hb]
 frame:=λZ Z Z st k=>⟨k I (by simp) _ st.1,k a (by simp) _ st.2⟩
 item:=λi s Q E hi st f=>by
  refine iQ st.1 st.2 l hi λh' u tk d c=>?_
  exact f _ h' tk ⟨u,rfl⟩ ⟨d,(c.2 a g).trans st.2⟩ λb o hb e=>c.extBut b o (λh=>hb (by simp[h])) e
 done:=λs Q E st f=>YV m st.1 st.2 (Ab _) λh' j=>f h' s.toks λb o hb e=>j b o (λh=>hb (by simp[h])) e
 self:=λZ Z Z Z st f=>gQ st.1 f
end
theorem BD{vs:Array Value}{ns:List Int}(h:ItemsOf (λi v=>∃u,v=.int (ns.getD i 0) u) vs ns.length):IntsAre vs.toList ns:=by
 refine h.elim λg f=>?_
 have c:∀(ms:List Int) (a:List Value),a.length=ms.length->(∀(i:Nat) v,a[i]?=some v->∃u,v=.int (ms.getD i 0) u)->IntsAre a ms:=by
  intro ms
  induction ms with
  |nil=>intro a b _;cases a with|nil=>exact .nil|cons=>simp at b
  |cons m ms d=>
   intro a b hv
   cases a with
   |nil=>simp at b
   |cons v a=>
    obtain ⟨u,rfl⟩:=hv 0 v rfl
    exact .cons m u (d a (by simpa using b) λi x e=>by simpa using hv (i+1) x (by simpa using e))
 exact c ns vs.toList (by simpa using g) λi v hv=>f i v (by simpa using hv)
theorem oz:splitId "bytearray.__len__"=some ("bytearray","__len__"):=by decide +kernel
section
variable{prog:wa}{w:ja}{A:ua}{E:Value->aa->Prop}{s:aa}
theorem tP{a:la}{ns:List Int}{Q:Bool->aa->Prop}(hb:nh s.heap a ns)(hz:ns.length<=2 ^ 24)
  (h:∀b tk,Q b {s with toks:=tk}):wpAny (ka prog w) A (Mj (.ref a)) Q E s:=by
 have hT:=Pb hb
 unfold Mj
 refine Ua (ab hT Oo.lookup ?_)
 generalize d:("bytearray.__len__":String)=e
 wp_delta
 rw[show splitId e=some ("bytearray","__len__") from by subst d;exact oz]
 subst d
 refine zb (zf (T:="bytearray") (b:=true) hT jk ?_)
 refine Ol (λc=>absurd c (by decide)) (λZ=>?_)
 refine Ol (λc=>?_) (λc=>?_)
 ·exact zb (rk hT (pa (h _ _)))
 refine Ol (λZ=>?_) (λc=>absurd rfl c)
 refine zb (eh ?_)
 refine zb (gh (Ds hb hz λu tk=>?_))
 have f:Wh ((ns.length:Int).toNat)=false:=by simp[Wh,Kb];omega
 refine zb (m:=asInt? _) (pa ?_)
 exact Ol (λc=>absurd c (by rw[f];decide)) (λZ=>pa (h _ _))
theorem Nv{R:Ob->aa->Prop}{r:la}{ns:List Int}(N:A.handled=none)(hr:nh s.heap r ns)(L:Bh ns)(hz:ns.length<=2 ^ 24)(S:la)(m:Value)(p:Nat)(I:s.heap.get? S=some {cls:=.type "list",data:=.seq #[] p})
  (O:∀h' tk g c',(∀b o,b≠S->s.heap.get? b=some o->h'.get? b=some o)->h'.get? S=some {cls:=.type "list",dict:=none,data:=.seq g c',slots:=#[]}->
   ItemsOf (λi v=>∃u,v=.int (ns.getD i 0) u) g ns.length->R (.ok (.ret m)) {s with heap:=h',toks:=tk}):
  wpAny (ka prog w) A.in1 (kd (.ref S) (.ref r) m)
   (λJ s'=>match J with|.done f=>R (.ok f) s'|.again c'=>c'.quiet=true/\codeAny (ka prog w) A c' R s') (λe s'=>R (.error e) s') s:=by
 have n:S≠r:=zx I hr rfl rfl (by decide)
 have C:S < s.heap.objs.size:=Ba I
 have z:r < s.heap.objs.size:=Ba hr
 have x:S≠s.heap.objs.size:=Va C
 have D:r≠s.heap.objs.size:=Va z
 have G:S∉[s.heap.objs.size,r]:=λhm=>by
  simp only[Ve,cg,or_false] at hm
  refine hm.elim (λq=>?_) λq=>?_
  ·exact x q
  ·exact n q
 have W:=(Walks.ba (prog:=prog) (w:=w) (A:=A.in1) N s.heap.objs.size r D ns L).toS
 have y:∀(h:Na) (l tk:Nat),jn h s.heap.objs.size r 0/\nh h r ns->(∀b o,b≠S->s.heap.get? b=some o->h.get? b=some o)->
   h.get? S=some {cls:=.type "list",data:=.seq #[] l}->codeAny (ka prog w) A (.builtin "list.extend.loop" ⟨[.ref S,.ref s.heap.objs.size,m],[]⟩) R {s with heap:=h,toks:=tk}:=by
  intro h l tk E M a
  refine EN W (by rw[sizeLine_eq];omega) S G m ns.length 0 _ #[] l rfl (Zb _) E a (AQ _) λs' g c' hm H B=>?_
  rw[wQ hm]
  refine O s'.heap s'.toks g c' (λb o hb e=>hm.heap b o (λj=>?_) (M b o hb e)) H B
  refine(List.mem_cons.mp j).elim (λY=>?_) λj=>?_
  ·exact hb Y
  ·exact absurd (Ba e) (by rw[List.mem_singleton.mp j];exact Xe _)
 unfold kd
 refine zb (rk (Pb hr) ?_)
 have V:bf (.ref S) (.ref r)=false:=by simp[bf,n]
 have T:(od "bytearray"==od "list")=false:=by decide
 have Q:(od "bytearray"==od "tuple")=false:=by decide
 simp only[V,T,Q,TR,Vi,if_false]
 refine zb (kQ hr ?_)
 have c:nh (s.heap.push {cls:=.type "bytearray_iterator",data:=.fields #[.ref r,Fc 0]}) r ns:=fa _ hr
 refine zb (Ma (tP c hz λbb tk=>?_))
 have d:jn (s.heap.push {cls:=.type "bytearray_iterator",data:=.fields #[.ref r,Fc 0]}) s.heap.objs.size r 0:=ra _ rfl
 have a:=fa {cls:=.type "bytearray_iterator",data:=.fields #[.ref r,Fc 0]} I
 refine Ol (λZ=>?_) (λZ=>pa ⟨qg Mr _,y _ p _ ⟨d,c⟩ (λb o Z e=>fa _ e) a⟩)
 refine zb (eh ?_)
 refine zb ?_
 show wpAny _ _ (Hs S (·.push .none)>>=λZ=>Hs S (·.pop)) _ _ _
 refine zb (vj a rfl ?_)
 have k:=zc (Rd (·.push Cn)) a rfl
 refine vj (hz:=by seq_fits) k rfl ?_
 have t:=zc (Rd (·.pop)) k rfl
 refine pa ⟨qg Mr _,y _ _ _ ⟨?_,?_⟩ (λb o hb e=>?_) t⟩
 ·exact(Ea _ _ x).trans ((Ea _ _ x).trans d)
 ·exact(Ea _ _ n).trans ((Ea _ _ n).trans c)
 ·exact(Ea _ _ (Hb hb)).trans ((Ea _ _ (Hb hb)).trans (fa _ e))
theorem ZF{r:la}{ns:List Int}{Q:Value->aa->Prop}(z:A.handled=none)(hr:nh s.heap r ns)(x:Bh ns)(hz:ns.length<=2 ^ 24)
  (B:∀v s',df s (.il ns) true v s'->Q v s'):wpAny (ka prog w) A (call (.type "list") [.ref r]) Q E s:=by
 refine callType_codes (Q₁:=λg c=>g=.ref s.heap.objs.size/\c={s with heap:=s.heap.push {cls:=.type "list",data:=.seq #[]}}) F.called_list (F.typeCall_list_1 _) F.entry_list_init
  (code_list_new _ ⟨rfl,rfl⟩) λg c yb=>?_
 obtain ⟨rfl,rfl⟩:=yb
 have k:(s.heap.push {cls:=.type "list",data:=.seq #[]}).get? s.heap.objs.size=some {cls:=.type "list",data:=.seq #[]}:=ra _ rfl
 refine⟨⟨_,k,rfl⟩,F.args_list_init_2 _ _,?_⟩
 generalize i:s.heap.push {cls:=.type "list",data:=.seq #[]}=m at k
 have n:nh m r ns:=by rw[<- i];exact fa _ hr
 have u:∀b o,s.heap.get? b=some o->m.get? b=some o:=λb o e=>by rw[<- i];exact fa _ e
 show wpAny _ _ (do let old <- Tt (.ref s.heap.objs.size);w5 (.ref s.heap.objs.size) (λZ=>#[]);letGo old.toList.reverse;kd (.ref s.heap.objs.size) (.ref r) .none) _ _ _
 refine zb ?_
 unfold Tt
 refine zb (Qd k rfl (pa ?_))
 show wpAny _ _ (Hs s.heap.objs.size (λZ=>#[])>>=λZ=>letGo (#[]:Array Value).toList.reverse>>=λZ=>kd (.ref s.heap.objs.size) (.ref r) .none) _ _ _
 refine zb (vj k rfl ?_)
 have d:=zc (Rd (λZ=>(#[]:Array Value))) k rfl
 have p:s.heap.objs.size≠r:=Hb (Va (Ba hr))
 have f:∀b o,b≠s.heap.objs.size->m.get? b=some o->(m.update s.heap.objs.size (Rd (λZ=>(#[]:Array Value)))).get? b=some o:=
  λb o hb e=>(Ea _ _ (Hb hb)).trans e
 refine zb (Nn ?_)
 refine Nv (A:=A.in1) (s:={s with heap:=m.update s.heap.objs.size (Rd (λZ=>(#[]:Array Value)))}) (r:=r) (ns:=ns) z (f r _ (Hb p) n) x hz s.heap.objs.size .none _ d λh' tk l c' y t j=>?_
 refine⟨rfl,B _ _ ⟨⟨h',tk,rfl,λb o e=>?_⟩,⟨_,l.toList,c',rfl,t,BD j⟩,λZ a q=>by cases q;exact Qb⟩⟩
 have h:b≠s.heap.objs.size:=Va (Ba e)
 exact y b o h (f b o h (u b o e))
end
noncomputable def fdOf(o:Sa):yl:=match o.data with
 |.func f=>f
 |_=>Hz "" "" ⟨[],[],none,[],[],none,[]⟩ (.stmts []) default 0 [] .none .none .none .none none .none .none 0
noncomputable def mB(a:wa)(S:T3)(B:List cb)(w:ja)(x:Value)(m k:Nat):Prop:=
 Uk og (Gb Ka) a w 2 ⟨true,[(1963,Ic w)],m,[],[.k 0,.k 0],[]⟩ k (.top (PySem.callAny (.ref 1963) ⟨[x],[]⟩))=some (⟨true,[(1963,Ic w)],m,[],[],[(1963,1963),(1963,1963)]⟩,k+0,.top (.pure (nu (.call (.builtin "type.__call__") ⟨[.ref 1963,x],[]⟩))))
noncomputable def Ax(a:wa)(S:T3)(B:List cb)(w:ja) (m k:Nat):Prop:=
 Uk og (Gb Ka) a w 2 ⟨true,[(1963,Ic w)],m,[],[.k 0,.k 0],[]⟩ k (.top (PySem.callAny (.ref 1963) ⟨[],[]⟩))=some (⟨true,[(1963,Ic w)],m,[],[],[(1963,1963),(1963,1963)]⟩,k+0,.top (.pure (nu (.call (.builtin "type.__call__") ⟨[.ref 1963],[]⟩))))
noncomputable def VF(a:wa)(S:T3)(B:List cb)(w:ja)(x:Value)(m k:Nat):Prop:=
 Uk og (Gb Ka) a w 1 ⟨true,[(1963,Ic w)],m,[],[.k 0],[]⟩ k (.top (Ac "type.__call__" ⟨[.ref 1963,x],[]⟩))=some (⟨true,[(1963,Ic w)],m,[],[],[(1963,1963)]⟩,k+0,.top (.pure (())))
noncomputable def iB(a:wa)(S:T3)(B:List cb)(w:ja) (m k:Nat):Prop:=
 Uk og (Gb Ka) a w 1 ⟨true,[(1963,Ic w)],m,[],[.k 0],[]⟩ k (.top (Ac "type.__call__" ⟨[.ref 1963],[]⟩))=some (⟨true,[(1963,Ic w)],m,[],[],[(1963,1963)]⟩,k+0,.top (.pure (())))
noncomputable def aR(a:wa)(S:T3)(B:List cb)(w:ja)(x:Value)(m k:Nat):Prop:=
 Uk og (Gb Ka) a w 25 ⟨true,[(1963,Ic w),(1962,Og S B w)],m,[],[.k 0,.k 0,.k 0,.k 0,.k 0,.k 0,.k 0,.k 0,.k 0,.k 0,.k 0,.k 0,.k 0,.k 0,.k 0,.k 0,.k 0,.k 1,.k 0,.k 0],[]⟩ k (.top (call (.builtin "object.__new__") [.ref 1963,x]))=some (⟨true,[(1963,Ic w),(1962,Og S B w)],m,[mf,⟨.ref 1963,some (m+0),.plain,#[]⟩],[],[(1963,1963),(1963,1963),(1962,1962),(1963,1963),(1963,1963),(1963,1963),(1963,1963),(1963,1963),(1963,1963),(1963,1963),(1963,1963),(1963,1963),(1963,1963),(1963,1963),(1963,1963),(1963,1963),(1963,1963),(1963,1963),(1963,1963),(1963,1963)]⟩,k+0,.top (.pure (.ref (m+1))))
noncomputable def yK(a:wa)(S:T3)(B:List cb)(w:ja) (m k:Nat):Prop:=
 Uk og (Gb Ka) a w 20 ⟨true,[(1963,Ic w)],m,[],[.k 0,.k 0,.k 0,.k 0,.k 0,.k 0,.k 0,.k 0,.k 0,.k 0,.k 0,.k 0,.k 0,.k 0,.k 0],[]⟩ k (.top (call (.builtin "object.__new__") [.ref 1963]))=some (⟨true,[(1963,Ic w)],m,[mf,⟨.ref 1963,some (m+0),.plain,#[]⟩],[],[(1963,1963),(1963,1963),(1963,1963),(1963,1963),(1963,1963),(1963,1963),(1963,1963),(1963,1963),(1963,1963),(1963,1963),(1963,1963),(1963,1963),(1963,1963),(1963,1963),(1963,1963)]⟩,k+0,.top (.pure (.ref (m+1))))
noncomputable def QQ(a:wa)(S:T3)(B:List cb)(w:ja)(b dd d:la)(m k:Nat):Prop:=
 Uk og (Gb Ka) a w 36 ⟨false,[(b,⟨.ref 1963,some dd,.plain,#[]⟩),(1963,Ic w),(1962,Og S B w),(1964,sq w)],m,[],[.k 0,.k 1,.k 1,.k 2,.k 0,.k 1,.k 0,.k 1,.k 0,.k 1,.k 1,.k 2,.k 3,.k 3,.k 3,.k 3,.k 3,.k 0,.k 1,.k 3,.k 3,.k 3,.k 3,.k 0,.k 1,.k 0],[]⟩ k (.top (setAttr (.ref b) "_data" (.ref d)))=some (⟨false,[(b,Ld dd d),(1963,Ic w),(1962,Og S B w),(1964,sq w)],m,[],[],[(b,b),(1963,1963),(b,b),(1964,1964),(1964,1964),(1964,1964),(1964,1964),(1963,1963),(b,b),(1964,1964),(1964,1964),(1964,1964),(1964,1964),(1964,1964),(1962,1962),(1963,1963),(1963,1963),(b,b),(1963,1963),(b,b),(1963,1963),(b,b),(1962,1962),(1963,1963),(1963,1963),(b,b)]⟩,k+1,.top (.pure (())))
noncomputable def jR(a:wa)(S:T3)(B:List cb)(w:ja)(b dd:la)(m k:Nat):Prop:=
 Uk og (Gb Ka) a w 2 ⟨true,[(b,⟨.ref 1963,some dd,.plain,#[]⟩),(1963,Ic w)],m,[],[.k 0,.k 1],[]⟩ k (.top (Aj (.ref b) (.ref 1963)))=some (⟨true,[(b,⟨.ref 1963,some dd,.plain,#[]⟩),(1963,Ic w)],m,[],[],[(1963,1963),(b,b)]⟩,k+0,.top (.pure (true)))
noncomputable def PQ(a:wa)(S:T3)(B:List cb)(w:ja)(b dd:la)(m k:Nat):Prop:=
 Uk og (Gb Ka) a w 4 ⟨true,[(b,⟨.ref 1963,some dd,.plain,#[]⟩),(1963,Ic w),(1962,Og S B w)],m,[],[.k 0,.k 1,.k 1,.k 2],[]⟩ k (.top (Lj (.ref b) "__init__"))=some (⟨true,[(b,⟨.ref 1963,some dd,.plain,#[]⟩),(1963,Ic w),(1962,Og S B w)],m,[],[],[(1962,1962),(1963,1963),(1963,1963),(b,b)]⟩,k+0,.top (.pure (some (.ref 1917))))
lay_quick Mine.mB Mine.Ax Mine.VF Mine.iB Mine.aR Mine.yK Mine.QQ Mine.jR Mine.PQ
theorem jB(w:ja)(x:Value)(m k:Nat):mB PP (Tc w) fb w x  m k:=by
 rw[PySem.W.Fast.te17368604185384743656]
 unfold PySem.W.Fast.tw17368604185384743656
 kernel_rfl
theorem fQ{w:ja}{A:ua}{s:aa}{x:Value}{Q:_->aa->Prop}{E:Value->aa->Prop}(c:A.handled=none)(F:Fk w s.heap)
  (b:∀h',(∀x o,s.heap.get? x=some o->h'.get? x=some o)->Q (nu (.call (.builtin "type.__call__") ⟨[.ref 1963,x],[]⟩)) {s with heap:=h',toks:=s.toks+0}):wpAny (ka PP w) A (PySem.callAny (.ref 1963) ⟨[x],[]⟩) Q E s:=
 Te c (jB w x  s.heap.objs.size s.toks) [1963,1963] rfl (Dc (F.u (1963,Ic w) (sa 29 rfl) rfl) tj) rfl rfl λh' a d=>b h' a
theorem ez(w:ja) (m k:Nat):Ax PP (Tc w) fb w  m k:=by
 rw[PySem.W.Fast.te10065433611135222030]
 unfold PySem.W.Fast.tw10065433611135222030
 kernel_rfl
theorem vM{w:ja}{A:ua}{s:aa} {Q:_->aa->Prop}{E:Value->aa->Prop}(c:A.handled=none)(F:Fk w s.heap)
  (b:∀h',(∀x o,s.heap.get? x=some o->h'.get? x=some o)->Q (nu (.call (.builtin "type.__call__") ⟨[.ref 1963],[]⟩)) {s with heap:=h',toks:=s.toks+0}):wpAny (ka PP w) A (PySem.callAny (.ref 1963) ⟨[],[]⟩) Q E s:=
 Te c (ez w  s.heap.objs.size s.toks) [1963,1963] rfl (Dc (F.u (1963,Ic w) (sa 29 rfl) rfl) tj) rfl rfl λh' a d=>b h' a
theorem kE(w:ja)(x:Value)(m k:Nat):VF PP (Tc w) fb w x  m k:=by
 rw[PySem.W.Fast.te5297102039542634133]
 unfold PySem.W.Fast.tw5297102039542634133
 kernel_rfl
theorem SV{w:ja}{A:ua}{s:aa}{x:Value}{Q:_->aa->Prop}{E:Value->aa->Prop}(c:A.handled=none)(F:Fk w s.heap)
  (b:∀h',(∀x o,s.heap.get? x=some o->h'.get? x=some o)->Q (()) {s with heap:=h',toks:=s.toks+0}):wpAny (ka PP w) A (Ac "type.__call__" ⟨[.ref 1963,x],[]⟩) Q E s:=
 Te c (kE w x  s.heap.objs.size s.toks) [1963] rfl (Dc (F.u (1963,Ic w) (sa 29 rfl) rfl) tj) rfl rfl λh' a d=>b h' a
theorem fB(w:ja) (m k:Nat):iB PP (Tc w) fb w  m k:=by
 rw[PySem.W.Fast.te9452183915995406272]
 unfold PySem.W.Fast.tw9452183915995406272
 kernel_rfl
theorem eQ{w:ja}{A:ua}{s:aa} {Q:_->aa->Prop}{E:Value->aa->Prop}(c:A.handled=none)(F:Fk w s.heap)
  (b:∀h',(∀x o,s.heap.get? x=some o->h'.get? x=some o)->Q (()) {s with heap:=h',toks:=s.toks+0}):wpAny (ka PP w) A (Ac "type.__call__" ⟨[.ref 1963],[]⟩) Q E s:=
 Te c (fB w  s.heap.objs.size s.toks) [1963] rfl (Dc (F.u (1963,Ic w) (sa 29 rfl) rfl) tj) rfl rfl λh' a d=>b h' a
theorem xK(w:ja)(x:Value)(m k:Nat):aR PP (Tc w) fb w x  m k:=by
 rw[PySem.W.Fast.te2845944172556449152]
 unfold PySem.W.Fast.tw2845944172556449152
 kernel_rfl
theorem z7{w:ja}{A:ua}{s:aa}{x:Value}{Q:_->aa->Prop}{E:Value->aa->Prop}(d:A.handled=none)(F:Fk w s.heap)
  (c:∀h',(∀x o,s.heap.get? x=some o->h'.get? x=some o)->h'.get? (s.heap.objs.size+0)=some (mf)->h'.get? (s.heap.objs.size+1)=some (⟨.ref 1963,some (s.heap.objs.size+0),.plain,#[]⟩)->Q (.ref (s.heap.objs.size+1)) {s with heap:=h',toks:=s.toks+0}):wpAny (ka PP w) A (call (.builtin "object.__new__") [.ref 1963,x]) Q E s:=
 Te d (xK w x  s.heap.objs.size s.toks) [1963,1963,1962,1963,1963,1963,1963,1963,1963,1963,1963,1963,1963,1963,1963,1963,1963,1963,1963,1963] rfl (Dc (F.u (1963,Ic w) (sa 29 rfl) rfl) (Dc (F.u (1962,tq w) (sa 28 rfl) rfl) tj)) rfl rfl λh' b a=>c h' b (a 0 _ rfl rfl) (a 1 _ rfl rfl)
theorem IG(w:ja) (m k:Nat):yK PP (Tc w) fb w  m k:=by
 rw[PySem.W.Fast.te17936210395026563684]
 unfold PySem.W.Fast.tw17936210395026563684
 kernel_rfl
theorem QY{w:ja}{A:ua}{s:aa} {Q:_->aa->Prop}{E:Value->aa->Prop}(d:A.handled=none)(F:Fk w s.heap)
  (c:∀h',(∀x o,s.heap.get? x=some o->h'.get? x=some o)->h'.get? (s.heap.objs.size+0)=some (mf)->h'.get? (s.heap.objs.size+1)=some (⟨.ref 1963,some (s.heap.objs.size+0),.plain,#[]⟩)->Q (.ref (s.heap.objs.size+1)) {s with heap:=h',toks:=s.toks+0}):wpAny (ka PP w) A (call (.builtin "object.__new__") [.ref 1963]) Q E s:=
 Te d (IG w  s.heap.objs.size s.toks) [1963,1963,1963,1963,1963,1963,1963,1963,1963,1963,1963,1963,1963,1963,1963] rfl (Dc (F.u (1963,Ic w) (sa 29 rfl) rfl) tj) rfl rfl λh' b a=>c h' b (a 0 _ rfl rfl) (a 1 _ rfl rfl)
theorem JJ(w:ja)(b dd d:la)(m k:Nat):QQ PP (Tc w) fb w b dd d  m k:=by
 rw[PySem.W.Fast.te2882923237839590586]
 unfold PySem.W.Fast.tw2882923237839590586
 kernel_rfl
theorem Y6{w:ja}{A:ua}{s:aa}{b dd d:la}{Q:_->aa->Prop}{E:Value->aa->Prop}(g:A.handled=none)(F:Fk w s.heap)(hb:s.heap.get? b=some (⟨.ref 1963,some dd,.plain,#[]⟩))(c:b≠1963)(e:b≠1962)(a:b≠1964)
  (f:∀h',(∀x o,x≠b->s.heap.get? x=some o->h'.get? x=some o)->h'.get? b=some (Ld dd d)->Q (()) {s with heap:=h',toks:=s.toks+1}):wpAny (ka PP w) A (setAttr (.ref b) "_data" (.ref d)) Q E s:=
 TQ g (JJ w b dd d  s.heap.objs.size s.toks) [b,1963,b,1964,1964,1964,1964,1963,b,1964,1964,1964,1964,1964,1962,1963,1963,b,1963,b,1963,b,1962,1963,1963,b] rfl (Dc hb (Dc (F.u (1963,Ic w) (sa 29 rfl) rfl) (Dc (F.u (1962,tq w) (sa 28 rfl) rfl) (Dc (F.u (1964,sq w) (sa 30 rfl) rfl) tj)))) (List.nodup_cons.mpr ⟨by simp only[vb,rl,Ve,cg,or_false,not_or];exact⟨c,e,a⟩,by simp only[vb,rl];decide⟩) f
theorem oL(w:ja)(b dd:la)(m k:Nat):jR PP (Tc w) fb w b dd  m k:=by
 rw[PySem.W.Fast.te12302486818002429961]
 unfold PySem.W.Fast.tw12302486818002429961
 kernel_rfl
theorem m8{w:ja}{A:ua}{s:aa}{b dd:la}{Q:_->aa->Prop}{E:Value->aa->Prop}(d:A.handled=none)(F:Fk w s.heap)(hb:s.heap.get? b=some (⟨.ref 1963,some dd,.plain,#[]⟩))
  (c:∀h',(∀x o,s.heap.get? x=some o->h'.get? x=some o)->Q (true) {s with heap:=h',toks:=s.toks+0}):wpAny (ka PP w) A (Aj (.ref b) (.ref 1963)) Q E s:=
 Te d (oL w b dd  s.heap.objs.size s.toks) [1963,b] rfl (Dc hb (Dc (F.u (1963,Ic w) (sa 29 rfl) rfl) tj)) rfl rfl λh' a e=>c h' a
theorem DJ(w:ja)(b dd:la)(m k:Nat):PQ PP (Tc w) fb w b dd  m k:=by
 rw[PySem.W.Fast.te5398172150597840558]
 unfold PySem.W.Fast.tw5398172150597840558
 kernel_rfl
theorem X6{w:ja}{A:ua}{s:aa}{b dd:la}{Q:_->aa->Prop}{E:Value->aa->Prop}(d:A.handled=none)(F:Fk w s.heap)(hb:s.heap.get? b=some (⟨.ref 1963,some dd,.plain,#[]⟩))
  (c:∀h',(∀x o,s.heap.get? x=some o->h'.get? x=some o)->Q (some (.ref 1917)) {s with heap:=h',toks:=s.toks+0}):wpAny (ka PP w) A (Lj (.ref b) "__init__") Q E s:=
 Te d (DJ w b dd  s.heap.objs.size s.toks) [1962,1963,1963,b] rfl (Dc hb (Dc (F.u (1963,Ic w) (sa 29 rfl) rfl) (Dc (F.u (1962,tq w) (sa 28 rfl) rfl) tj))) rfl rfl λh' a e=>c h' a
structure GK(n:Nat)(A:ua):Prop where
 ga:GA n A
 gd:A.guards=some []
theorem GK.mono{n m:Nat}{A:ua}(g:GK n A)(h:m<=n):GK m A:=⟨g.ga.mono h,g.gd⟩
theorem GK.in1{n:Nat}{A:ua}(g:GK (n+1) A):GK n A.in1:=⟨g.ga.in1,g.gd⟩
theorem GK.deeper{n:Nat}{A:ua}(g:GK (n+1) A)(env:Be):GK n (A.deeper env):=⟨g.ga.deeper env,g.gd⟩
noncomputable def ma(b:List cb)(i:Nat):cb:=(b[i]?).getD (.Pass default)
section
variable{prog:wa}{w:ja}{A:ua}{N:Nat}{G:Gl}{rd:List xa}{σ:List (xa×P)}{adr:xa->la}{s s₀:aa}{K:la->Sa->Prop}
theorem yM{a:la}{o:Sa}{fd:yl}{body:List cb}{vs:List Value}{binds:List (xa×Value)}{Q:Value->aa->Prop}
  (g:GK (N+2) A) (ho:s.heap.get? a=some o) (hd:o.data=.func fd) (O:s.heap.CodeRec fd.code fd.qualname) (l:fd.body=.stmts body) (hb:Sf s fd ⟨vs,[]⟩ binds)
  (hk:fd.scope.kind=.function) (M:fd.scope.isCoroutine=false) (B:fd.scope.isGenerator=false) (hg:fd.globals=jd) (T:fd.builtins=Hc) (C:fd.closure=[])
  (u:∀x∈binds,fd.scope.names.lookup x.1=some .local\/(fd.scope.names.lookup x.1=some .cell/\((tg (s.heap.objs.size+1) fd.scope.names []).lookup x.1).isSome=true)) (j:∀x,fd.scope.names.lookup x≠some .free)
  (sh:∃h tk,s={s₀ with heap:=h,toks:=tk}) (g0:GS G s₀.heap) (k0:∀b o,s₀.heap.get? b=some o->K b o) (H:∀b o,K b o->s.heap.get? b=some o)
  (t:∀x p,σ.lookup x=some p->∃v,VR s.heap p v/\(∀ns,p=.il ns->v=.ref (adr x)/\x∈rd) /\
   ((fd.scope.names.lookup x=some .local/\∀kindOf m,(∀y,kindOf y=fd.scope.names.lookup y)->BC kindOf binds m x=some v) \/
    (fd.scope.names.lookup x=some .cell/\∀kindOf m,(∀y,kindOf y=fd.scope.names.lookup y)->GN kindOf binds m x=some v)))
  (V:∀x y ns ms,x≠y->σ.lookup x=some (.il ns)->σ.lookup y=some (.il ms)->adr x≠adr y)
  (h:∀d,GK N (A.deeper (ef fd s.heap.objs.size a))->St G (ef fd s.heap.objs.size a) rd σ adr s₀ K d->Kp s d->
   mc (ka prog w) (A.deeper (ef fd s.heap.objs.size a)) (Kc body (ef fd s.heap.objs.size a)) (λf s'=>Q (match f with|.ret v=>v|_=>.none) s') d):
  mc (ka prog w) A (call (.ref a) vs) Q s:=by
 have gs:GS G s.heap:=g0.keeps λb o e=>H b o (k0 b o e)
 refine qB g.ga.room ho hd O l hb gs.lim C M B hk u λd x=>?_
 generalize i:ef fd s.heap.objs.size a=env at x h ⊢
 have e1:env.scope=fd.scope:=by subst i;rfl
 have e2:env.locals=s.heap.objs.size:=by subst i;rfl
 have e3:env.globals=fd.globals:=by subst i;rfl
 have e4:env.cells=tg (s.heap.objs.size+1) fd.scope.names []:=by subst i;rfl
 have e5:env.builtins=fd.builtins:=by subst i;rfl
 have D:∀x,env.kindOf x=fd.scope.names.lookup x:=λx=>by unfold bc;rw[e1]
 have gd:GK N (A.deeper env):=((g.mono (ze _)).deeper env)
 have L:Kp s d:=by
  refine Nc λn=>?_;obtain ⟨h0,J,e⟩:=x.toInCall.same;refine n ?_
  exact⟨h0,J,e,λb o q=>by have:=x.toInCall.keep b o q;rw[e] at this;exact this⟩
 refine h d gd ?_ L
 refine{kind:=(by rw[e1];exact hk),eg:=e3.trans hg,eb:=e5.trans T,g0:=g0,sh:=?_,k0:=k0,ks:=λb o e=>x.toInCall.keep b o (H b o e),ns:=⟨_,x.toInCall.ns⟩,nl:=?_,ce:=?_,nc:=?_,inj:=?_,cells:=?_,look:=?_,new:=?_,apart:=V}
 ·refine Nc λn=>?_;obtain ⟨h0,J,e⟩:=x.toInCall.same
  obtain ⟨k,t1,I⟩:=sh;refine n ?_
  exact⟨h0,J,by rw[e,I]⟩
 ·intro o e
  rw[e2] at e
  exact absurd (Ba (H _ _ e)) (Xe _)
 ·exact λy c e=>⟨_,x.cell y c e⟩
 ·intro y c e I o q
  have k:=x.above y c (mem_of_lookup e)
  rw[e2] at k
  exact absurd (Ba (H _ _ q)) (Nat.not_lt.mpr (Vd k))
 ·exact λy z c e I=>name_of_addr x.apart (mem_of_lookup e) (mem_of_lookup I)
 ·intro y r
  rw[D] at r
  rcases r with r|r
  ·rw[e4];exact cellsFrom_some _ _ _ y (.inl (xc r))
  ·exact absurd r (j y)
 ·intro y p e
  refine Nc λn=>?_;obtain ⟨v,hv,E,hw⟩:=t y p e;refine n ?_
  rcases hw with ⟨k,Y⟩|⟨k,Y⟩
  ·exact⟨v,.inl ⟨(D y).trans k,_,x.toInCall.ns,Y _ _ D⟩,hv.keeps x.toInCall.keep,λns q=>(E ns q).1⟩
  ·have hc:((tg (s.heap.objs.size+1) fd.scope.names []).lookup y).isSome=true:=cellsFrom_some _ _ _ y (.inl (xc k))
   rw[<- e4] at hc
   obtain ⟨c,hc⟩:=Option.isSome_iff_exists.mp hc
   refine⟨v,.inr ⟨.inl ((D y).trans k),c,hc,?_⟩,hv.keeps x.toInCall.keep,λns q=>(E ns q).1⟩
   have:=x.cell y c hc
   rw[Y _ _ D] at this
   exact this
 ·intro y ns e hr
  refine Nc λn=>?_;obtain ⟨v,_,E,_⟩:=t y _ e;refine n ?_
  exact absurd (E ns rfl).2 hr
noncomputable def sM(o:Sa):Option xa:=match o.data with
 |.fields vs=>match (vs[1]?:Option Value) with
  |some (Qj q _)=>some q
  |_=>none
 |_=>none
set_option tactic.hygienic true
theorem codeRec_of{h:Na}{c:la}{o:Sa}{b:Value}{q:xa}(d:h.get? c=some o)(e:b=.ref c)(a:sM o=some q):h.CodeRec b q:=by
 delta sM at a
 split at a
 ·rename_i vs hd
  split at a
  ·rename_i f t hv
   obtain rfl:=va a
   exact⟨c,o,vs,t,e,d,hd,hv⟩
  ·exact nomatch a
 ·exact nomatch a
structure Fn(o oc:Sa)(c:la)(body:List cb):Prop where
 data:o.data=.func (fdOf o)
 code:(fdOf o).code=.ref c
 cq:sM oc=some (fdOf o).qualname
 bd:(fdOf o).body=.stmts body
 row:((fdOf o).scope.kind,(fdOf o).scope.isCoroutine,(fdOf o).scope.isGenerator,(fdOf o).globals,(fdOf o).builtins,(fdOf o).closure)=(.function,false,false,jd,Hc,[])
 nf:(fdOf o).scope.names.all (λy=>y.2 != .free)=true
set_option tactic.hygienic false
theorem Ur{l:List (xa×ub)}(h:l.all (λy=>y.2 != .free)=true)(x:xa):l.lookup x≠some .free:=by
 intro e
 have:=List.all_eq_true.mp h _ (xc e)
 simp at this
theorem zM{a c:la}{o oc:Sa}{body:List cb}{vs:List Value}{binds:List (xa×Value)}{Q:Value->aa->Prop}(f:Fn o oc c body)
  (g:GK (N+2) A) (n:s.heap.get? a=some o) (hc:s.heap.get? c=some oc) (hb:Sf s (fdOf o) ⟨vs,[]⟩ binds)
  (i:∀x∈binds,(fdOf o).scope.names.lookup x.1=some .local\/((fdOf o).scope.names.lookup x.1=some .cell/\((tg (s.heap.objs.size+1) (fdOf o).scope.names []).lookup x.1).isSome=true))
  (sh:∃h tk,s={s₀ with heap:=h,toks:=tk}) (g0:GS G s₀.heap) (k0:∀b o,s₀.heap.get? b=some o->K b o) (q:∀b o,K b o->s.heap.get? b=some o)
  (j:∀x p,σ.lookup x=some p->∃v,VR s.heap p v/\(∀ns,p=.il ns->v=.ref (adr x)/\x∈rd) /\
   (((fdOf o).scope.names.lookup x=some .local/\∀kindOf m,(∀y,kindOf y=(fdOf o).scope.names.lookup y)->BC kindOf binds m x=some v) \/
    ((fdOf o).scope.names.lookup x=some .cell/\∀kindOf m,(∀y,kindOf y=(fdOf o).scope.names.lookup y)->GN kindOf binds m x=some v)))
  (l:∀x y ns ms,x≠y->σ.lookup x=some (.il ns)->σ.lookup y=some (.il ms)->adr x≠adr y)
  (h:∀d env,env=ef (fdOf o) s.heap.objs.size a->GK N (A.deeper env)->St G env rd σ adr s₀ K d->Kp s d->mc (ka prog w) (A.deeper env) (Kc body env) (λf s'=>Q (match f with|.ret v=>v|_=>.none) s') d):
  mc (ka prog w) A (call (.ref a) vs) Q s:=by
 have e:=f.row
 simp only[we] at e
 exact yM g n f.data (codeRec_of hc f.code f.cq) f.bd hb e.1 e.2.1 e.2.2.1 e.2.2.2.1 e.2.2.2.2.1 e.2.2.2.2.2 i (Ur f.nf) sh g0 k0 q j l λd r x k=>h d _ rfl r x k
theorem Hv{kindOf:xa->Option ub}{x:xa}:∀{binds:List (xa×Value)} {m:xa->Option Value},x∉binds.map (·.1)->BC kindOf binds m x=m x
 |[],m,_=>rfl
 |(n,v)::r,m,h=>by
  simp only[vb,Ve,not_or] at h
  unfold BC
  rw[Hv h.2]
  split
  ·exact if_neg h.1
  ·rfl
theorem Iv{kindOf:xa->Option ub}{x:xa}:∀{binds:List (xa×Value)} {m:xa->Option Value},x∉binds.map (·.1)->GN kindOf binds m x=m x
 |[],m,_=>rfl
 |(n,v)::r,m,h=>by
  simp only[vb,Ve,not_or] at h
  unfold GN
  rw[Iv h.2]
  split
  ·rfl
  ·exact if_neg h.1
theorem Mo{kindOf:xa->Option ub}{x:xa}{v:Value}(a:kindOf x=some .local):∀{binds:List (xa×Value)} {m:xa->Option Value},(binds.map (·.1)).Nodup->binds.lookup x=some v->BC kindOf binds m x=some v
 |[],m,_,h=>nomatch h
 |(n,u)::r,m,nd,h=>by
  simp only[vb,De] at nd
  rw[Ca] at h
  unfold BC
  cases q:x==n with
  |true=>
   have q:=eq_of_beq q
   subst q
   rw[beq_self_eq_true] at h
   obtain rfl:=va h
   rw[Hv nd.1,if_pos a]
   exact if_pos rfl
  |false=>rw[q] at h;exact Mo a nd.2 h
theorem Jv{kindOf:xa->Option ub}{x:xa}{v:Value}(a:kindOf x≠some .local):∀{binds:List (xa×Value)} {m:xa->Option Value},(binds.map (·.1)).Nodup->binds.lookup x=some v->GN kindOf binds m x=some v
 |[],m,_,h=>nomatch h
 |(n,u)::r,m,nd,h=>by
  simp only[vb,De] at nd
  rw[Ca] at h
  unfold GN
  cases q:x==n with
  |true=>
   have q:=eq_of_beq q
   subst q
   rw[beq_self_eq_true] at h
   obtain rfl:=va h
   rw[Iv nd.1,if_neg a]
   exact if_pos rfl
  |false=>rw[q] at h;exact Jv a nd.2 h
noncomputable def Dq(h:Na)(rd:List xa)(adr:xa->la):List (xa×P)->List (xa×Value)->Prop
 |[],_=>True
 |(x,p)::σ,(y,v)::b=>(x=y/\VR h p v/\∀ns,p=.il ns->v=.ref (adr x)/\x∈rd)/\Dq h rd adr σ b
 |_,_=>False
theorem Dq.look{h:Na}{rd:List xa}{adr:xa->la}:∀{σ:List (xa×P)} {b:List (xa×Value)},Dq h rd adr σ b->∀{x:xa} {p:P},σ.lookup x=some p->∃v,b.lookup x=some v/\VR h p v/\∀ns,p=.il ns->v=.ref (adr x)/\x∈rd
 |[],_,_,x,p,e=>nomatch e
 |_::_,[],m,_,_,_=>m.elim
 |(z,q)::σ,(y,v)::b,m,x,p,e=>by
  obtain ⟨⟨rfl,d,c⟩,a⟩:=m
  rw[Ca] at e ⊢
  cases hz:x==z with
  |true=>
   rw[hz] at e
   obtain rfl:=va e
   have hz:=eq_of_beq hz
   subst hz
   exact⟨v,rfl,d,c⟩
  |false=>rw[hz] at e;exact Dq.look a e
noncomputable def Ek(σ:List (xa×P)):Bool:=σ.all λe=>match e.2 with
 |.il _=>false
 |_=>true
theorem Df{σ:List (xa×P)}(h:Ek σ=true){x:xa}{ns:List Int}(e:σ.lookup x=some (.il ns)):False:=by
 have:=List.all_eq_true.mp h _ (xc e)
 simp at this
noncomputable def Vr:List xa->Bool
 |[]=>true
 |x::l=>!(l.contains x)&&Vr l
theorem Lk:∀{l:List xa},Vr l=true->l.Nodup
 |[],_=>.nil
 |x::l,h=>by
  unfold Vr at h
  simp only[Bd,Hf] at h
  refine List.nodup_cons.mpr ⟨λq=>?_,Lk h.2⟩
  have:l.contains x=true:=List.contains_iff_mem.mpr q
  rw[h.1] at this;exact nomatch this
theorem wm{a c:la}{o oc:Sa}{body:List cb}{vs:List Value}{binds:List (xa×Value)}{Q:Value->aa->Prop}(f:Fn o oc c body)
  (g:GK (N+2) A) (u:s.heap.get? a=some o) (hc:s.heap.get? c=some oc) (hb:Sf s (fdOf o) ⟨vs,[]⟩ binds)
  (j:(binds.map (·.1)).all (λx=>(fdOf o).scope.names.lookup x==some .local||(fdOf o).scope.names.lookup x==some .cell)=true) (k:Vr (binds.map (·.1))=true)
  (sh:∃h tk,s={s₀ with heap:=h,toks:=tk}) (g0:GS G s₀.heap) (k0:∀b o,s₀.heap.get? b=some o->K b o) (z:∀b o,K b o->s.heap.get? b=some o)
  (hm:Dq s.heap rd adr σ binds) (r:∀x y ns ms,x≠y->σ.lookup x=some (.il ns)->σ.lookup y=some (.il ms)->adr x≠adr y)
  (h:∀d env,env=ef (fdOf o) s.heap.objs.size a->GK N (A.deeper env)->St G env rd σ adr s₀ K d->Kp s d->mc (ka prog w) (A.deeper env) (Kc body env) (λf s'=>Q (match f with|.ret v=>v|_=>.none) s') d):
  mc (ka prog w) A (call (.ref a) vs) Q s:=by
 have nd:=Lk k
 have i:∀x∈binds,(fdOf o).scope.names.lookup x.1=some .local\/(fdOf o).scope.names.lookup x.1=some .cell:=by
  intro x l
  have:=List.all_eq_true.mp j x.1 (zd l)
  simpa using this
 refine zM f g u hc hb (λx l=>?_) sh g0 k0 z (λx p e=>?_) r h
 ·rcases i x l with q|q
  ·exact .inl q
  ·exact .inr ⟨q,cellsFrom_some _ _ _ _ (.inl (xc q))⟩
 ·refine Nc λB=>?_;obtain ⟨v,t,D,C⟩:=hm.look e;refine B ?_
  refine⟨v,D,C,?_⟩
  rcases i (x,v) (xc t) with q|q
  ·exact .inl ⟨q,λkindOf m n=>Mo ((n x).trans q) nd t⟩
  ·exact .inr ⟨q,λkindOf m n=>Jv (by rw[n x,q];decide) nd t⟩
end
section
variable{prog:wa}{w:ja}{A:ua}{N:Nat}{s:aa}
theorem Ip{id:String}{args:Jn}{b:Builtin}{R:Ob->aa->Prop}(g:(fC id args).quiet=true)(c:Builtin.Bytes.decodersThatHold.contains id=false)(hb:xf wi id=some b)
  (h:wpAny (ka prog w) A.in1 (Ac id args) (λZ a=>mc (ka prog w) (A.under (.builtin id args)) (b args)
   (λe s'=>match e with|.done f=>R (.ok f) s'|.again c'=>c'.quiet=true/\xh c'=true/\rh (ka prog w) A c' R s') a) Jc s):
  rh (ka prog w) A (.call (.builtin id) args) R s:=by
 have d:xh (.builtin id args)=true:=by show(!Builtin.Bytes.decodersThatHold.contains id)=true;rw[c];rfl
 refine mh ?_
 show mc _ A.in1 (do Ac id args;again (.builtin id args)) _ s
 refine Eh (ah h (λZ a yb=>Cb ⟨g,d,vh hb ?_⟩))
 exact yb
theorem tJ(args:Jn):(fC "type.__call__" args).quiet=true:=uI _ (by decide +kernel)
theorem uJ:Builtin.Bytes.decodersThatHold.contains "type.__call__"=false:=by decide +kernel
theorem dQ(C:la)(rest:List Value):Builtin.«type.__call__» ⟨.ref C::rest,[]⟩=(do
  if (<- b6 (.ref C)).isEmpty then rule "type.call.half-made";raiseError "TypeError" s!"cannot create '{← typeName (.ref C)}' instances"
  let new <- match <- WE (.ref C) with
   |some id=>pure (.builtin id)
   |none=>Gh (.ref C) "__new__"
  let a <- holding [new] (call new (.ref C::rest) [])
  if !(<- Aj a (.ref C)) then rule "type.call.new-gave-other-type";return <- ret a
  match <- holding [a] (lq a "__init__" rest []) with
  |none=>ret a
  |some r=>
   if r != .none then
    rule "type.call.init-returned-value"
    raiseError "TypeError" s!"__init__() should return None, not '{← typeNameOf r}'"
   ret a):=rfl
theorem tcU(A:ua)(C:la)(rest:List Value):A.under (.builtin "type.__call__" ⟨.ref C::rest,[]⟩)={A with depth:=A.depth+1,units:=A.units+1}:=by
 delta Around.under
 rfl
theorem GK.cls(g:GK (N+1) A){C:la}{rest:List Value}:GK N (A.under (.builtin "type.__call__" ⟨.ref C::rest,[]⟩)):=by
 rw[tcU]
 exact⟨⟨g.ga.hd,by have:=g.ga.dp;show A.depth+1+N < _;lia,by have:=g.ga.un;show A.units+1+8*N+64 < _;lia⟩,g.gd⟩
end
noncomputable def Ww:Oa:=.Name "" default
noncomputable def aT:cb->Oa
 |.Assign a _ _=>a.headD Ww
 |.AugAssign t _ _ _=>t
 |.For t _ _ _ _=>t
 |_=>Ww
noncomputable def aV:cb->Oa
 |.Assign _ v _=>v
 |.AugAssign _ _ v _=>v
 |.For _ i _ _ _=>i
 |.If t _ _ _=>t
 |.Expr v _=>v
 |.Return (some v) _=>v
 |_=>Ww
noncomputable def aB:cb->List cb
 |.For _ _ b _ _=>b
 |.If _ b _ _=>b
 |.FunctionDef _ _ b _ _ _ _ _ _ _=>b
 |_=>[]
noncomputable def aO:cb->List cb
 |.If _ _ o _=>o
 |_=>[]
noncomputable def aP:cb->xd
 |.Assign _ _ p|.AugAssign _ _ _ p|.For _ _ _ _ p|.If _ _ _ p|.Expr _ p|.Return _ p|.FunctionDef _ _ _ _ _ _ _ _ _ p=>p
 |_=>default
noncomputable def aSc:cb->me
 |.FunctionDef _ _ _ _ _ _ s _ _ _=>s
 |_=>default
noncomputable def aAr:cb->Fp
 |.FunctionDef _ a _ _ _ _ _ _ _ _=>a
 |_=>⟨[],[],none,[],[],none,[]⟩
noncomputable def ch:Oa->Nat->Oa
 |.Attribute v _ _,_=>v
 |.Call f _ _ _,0=>f
 |.Call _ as _ _,i+1=>(as[i]?).getD Ww
 |.Subscript v _ _,0=>v
 |.Subscript _ i _,_=>i
 |.BinOp l _ _ _,0=>l
 |.BinOp _ _ r _,_=>r
 |.Compare l _ _ _,0=>l
 |.Compare _ _ rs _,i+1=>(rs[i]?).getD Ww
 |.UnaryOp _ x _,_=>x
 |.Tuple es _ _,i=>(es[i]?).getD Ww
 |.List es _,i=>(es[i]?).getD Ww
 |.ListComp e _ _ _,0=>e
 |.GeneratorExp e _ _ _,0=>e
 |.Slice l _ _ _,0=>l.getD Ww
 |.Slice _ u _ _,_=>u.getD Ww
 |.IfExp t _ _ _,0=>t
 |.IfExp _ b _ _,1=>b
 |.IfExp _ _ o _,_=>o
 |_,_=>Ww
noncomputable def gens:Oa->List qj
 |.ListComp _ g _ _=>g
 |.GeneratorExp _ g _ _=>g
 |_=>[]
noncomputable def gT(e:Oa)(i:Nat):Oa:=((gens e)[i]?).elim Ww (·.target)
noncomputable def gI(e:Oa)(i:Nat):Oa:=((gens e)[i]?).elim Ww (·.iter)
noncomputable def gF(e:Oa)(i:Nat):Oa:=((gens e)[i]?).elim Ww (·.ifs.headD Ww)
noncomputable def IH:Oa->me
 |.ListComp _ _ s _=>s
 |.GeneratorExp _ _ s _=>s
 |_=>default
noncomputable def xn:List cb:=(yf (sv 19 "__init__")).2.1
theorem qV(w:ja):Fn (Du w) (uK w) 1916 xn:=⟨by kernel_rfl,by kernel_rfl,by kernel_rfl,by kernel_rfl,by kernel_rfl,by kernel_rfl⟩
theorem rP:xn=[.Assign [.Attribute (.Name "self" (ch (aT (ma xn 0)) 0).pos) "_data" (aT (ma xn 0)).pos] (.Call (.Name "bytearray" (ch (aV (ma xn 0)) 0).pos) [.Name "iterable" (ch (aV (ma xn 0)) 1).pos] [] (aV (ma xn 0)).pos) (aP (ma xn 0))]:=by kernel_rfl
theorem aI{w:ja}{s:aa}(F:Fk w s.heap)(b:la)(x:Value):Sf s (fdOf (Du w)) ⟨[.ref b,x],[]⟩ [("self",.ref b),("iterable",x)]:=by
 intro M A E Q c
 show wpAny M A (Px (.ref 1910)>>=_) Q E s
 refine zb (Qd (n:=0) (F.u (1910,kD w) (sa 23 rfl) rfl) (items:=#[.ref 1909]) (by kernel_rfl) ?_)
 exact Aa (a:=([("self",.ref b),("iterable",x)]:List (xa×Value))) (by kernel_rfl) c
theorem tE{w:ja}{s:aa}(F:Fk w s.heap)(b:la):Sf s (fdOf (Du w)) ⟨[.ref b],[]⟩ [("self",.ref b),("iterable",.ref 1909)]:=by
 intro M A E Q c
 show wpAny M A (Px (.ref 1910)>>=_) Q E s
 refine zb (Qd (n:=0) (F.u (1910,kD w) (sa 23 rfl) rfl) (items:=#[.ref 1909]) (by kernel_rfl) ?_)
 exact Aa (a:=([("self",.ref b),("iterable",.ref 1909)]:List (xa×Value))) (by kernel_rfl) c
section
variable{w:ja}{A:ua}{N:Nat}{s:aa}
theorem Fk.uf{h:Na}(F:Fk w h)(i:Nat){x:Nat×Sa}(e:(Qy w)[i]?=some x)(q:DF.contains x.1=false):h.get? x.1=some x.2:=F.u x (sa i e) q
theorem Fk.kp{s s':aa}(F:Fk w s.heap)(k:Kp s s'):Fk w s'.heap:=F.keeps λZ Z e=>k.get e
theorem wq{h:Na}{a c:la}{o o':Sa}(e:h.get? a=some o)(b:h.get? c=some o')(n:o.cls≠o'.cls):a≠c:=by
 rintro rfl
 rw[e] at b
 exact n (congrArg Obj.cls (va b))
theorem zB{b dd x:la}{ns:List Int}{C:Sa}{T:String}{vs:List Value}{n:Nat}{args:List Value}(g:GK (N+6) A)(F:Fk w s.heap)(hb:s.heap.get? b=some ⟨.ref 1963,some dd,.plain,#[]⟩)(pC:s.heap.get? dd=some mf)
  (q:Sf s (fdOf (Du w)) ⟨args,[]⟩ [("self",.ref b),("iterable",.ref x)])
  (hl:s.heap.get? x=some C) (hT:C.cls=.type T) (hd:C.data=.seq vs.toArray n) (M:T="list"\/T="tuple") (hi:IntsAre vs ns) (hr:Bh ns) (hz:ns.length<=Kb) {Q:Value->aa->Prop}
  (hQ:∀s' d,(∃h' tk,s'={s with heap:=h',toks:=tk}/\∀y o,y≠b->s.heap.get? y=some o->h'.get? y=some o)->s'.heap.get? b=some (Ld dd d)->nh s'.heap d ns->s.heap.get? d=none->Q .none s'):
  mc (ka PP w) A (call (.ref 1917) args) Q s:=by
 refine wm (N:=N+4) (G:=GW w) (rd:=[]) (σ:=[("self",.addr b),("iterable",.addr x)]) (adr:=λZ=>0) (s₀:=s) (K:=Fw s) (qV w)
  g (F.uf 24 rfl rfl) (F.uf 36 rfl rfl) q (by kernel_rfl) (by kernel_rfl) ⟨s.heap,s.toks,rfl⟩ (cf F) (λZ Z e=>e) (λZ Z e=>e) ⟨⟨rfl,rfl,nofun⟩,⟨rfl,rfl,nofun⟩,trivial⟩ (λx y ns ms Z e=>(Df rfl e).elim) λc env he p i f=>?_
 have Y:mi (aV (ma xn 0)) (some (aT (ma xn 0))) (aP (ma xn 0)).line env=pure false:=by kernel_rfl
 rw[rP]
 refine La (jr (by kernel_rfl) ?_)
 refine Fg (name_buil i.re (by subst he;kernel_rfl) (ke w (by decide)) (v:=.type "bytearray") (by kernel_rfl) (by decide) (by decide) ?_)
 refine fc (xs:=[eval (.Name "iterable" (ch (aV (ma xn 0)) 1).pos) env]) (show 1<=30 by decide) ?_
 refine Nc λz=>?_;obtain ⟨v,hv,h,_⟩:=i.look "iterable" (.addr x) rfl;refine z ?_
 have h:v=.ref x:=h
 subst h
 refine Fb (Md i.kind hv (by decide) (by decide) ?_)
 refine Aa (a:=Xa) rfl ?_
 refine mz (by kernel_rfl) ?_
 have t:c.heap.get? x=some C:=f.get hl
 have I:x < c.heap.objs.size:=Ba t
 refine ix (a:=c.heap.objs.size) (l:=x) (vs:=vs) (ns:=ns) p.gd (ra _ rfl) (fa _ t) hT hd M hi hr hz (Va I) λB J H=>?_
 have O:∀y o,c.heap.get? y=some o->B.get? y=some o:=λy o e=>(H.2 y (Va (Ba e))).trans (fa _ e)
 have r:Kp c {c with heap:=B}:=⟨B,c.toks,rfl,O⟩
 have m:=i.step r
 refine Nc λz=>?_;obtain ⟨v,hv,h,_⟩:=m.look "self" (.addr b) rfl;refine z ?_
 have h:v=.ref b:=h
 subst h
 refine Md m.kind hv (by decide) (by decide) ?_
 have k:=f.trans' r
 have j:B.get? b=some ⟨.ref 1963,some dd,.plain,#[]⟩:=k.get hb
 have D:Fk w B:=F.kp k
 refine Y6 (d:=c.heap.objs.size) p.ga.hd D j (wq j (D.uf 29 rfl rfl) (by intro e;cases e)) (wq j (D.uf 28 rfl rfl) (by intro e;cases e)) (wq j (D.uf 30 rfl rfl) (by intro e;cases e)) λh3 u L=>⟨rfl,?_⟩
 refine te ?_
 have E:c.heap.objs.size≠b:=Hb (Va (Ba (f.get hb)))
 refine hQ _ c.heap.objs.size ⟨h3,c.toks+1,?_,λy o V e=>u y o V (k.get e)⟩ L (u _ _ E J) (Eb f Qb)
 refine Nc λz=>?_;obtain ⟨hp,tp,ep,_⟩:=f;refine z ?_
 rw[ep]
end
section
variable{w:ja}{A:ua}{N:Nat}{s:aa}
theorem AB{args:List Value}{ns:List Int}(g:GK (N+8) A)(c:Fk w s.heap)
  (j:∀{A:ua} {s':aa} {Q:Value->aa->Prop},A.handled=none->Fk w s'.heap->(∀h',(∀x o,s'.heap.get? x=some o->h'.get? x=some o)->h'.get? (s'.heap.objs.size+0)=some (mf)->h'.get? (s'.heap.objs.size+1)=some (⟨.ref 1963,some (s'.heap.objs.size+0),.plain,#[]⟩)->Q (.ref (s'.heap.objs.size+1)) {s' with heap:=h',toks:=s'.toks+0})->
   wpAny (ka PP w) A (call (.builtin "object.__new__") (.ref 1963::args)) Q Jc s')
  (h:∀{A:ua} {s':aa} {Q:Fin->aa->Prop},A.handled=none->Fk w s'.heap->(∀h',(∀x o,s'.heap.get? x=some o->h'.get? x=some o)->Q (nu (.call (.builtin "type.__call__") ⟨.ref 1963::args,[]⟩)) {s' with heap:=h',toks:=s'.toks+0})->
   wpAny (ka PP w) A (PySem.callAny (.ref 1963) ⟨args,[]⟩) Q Jc s')
  (l:∀{A:ua} {s':aa} {Q:Unit->aa->Prop},A.handled=none->Fk w s'.heap->(∀h',(∀x o,s'.heap.get? x=some o->h'.get? x=some o)->Q (()) {s' with heap:=h',toks:=s'.toks+0})->
   wpAny (ka PP w) A (Ac "type.__call__" ⟨.ref 1963::args,[]⟩) Q Jc s')
  (f:∀{A:ua} {s':aa} {Q:Value->aa->Prop} (b dd:la),GK (N+6) A->Fk w s'.heap->Kp s s'->s'.heap.get? b=some ⟨.ref 1963,some dd,.plain,#[]⟩->s'.heap.get? dd=some mf->
   (∀Ng d,(∃h' tk,Ng={s' with heap:=h',toks:=tk}/\∀y o,y≠b->s'.heap.get? y=some o->h'.get? y=some o)->Ng.heap.get? b=some (Ld dd d)->nh Ng.heap d ns->s'.heap.get? d=none->Q .none Ng)->
   mc (ka PP w) A (call (.ref 1917) (.ref b::args)) Q s')
  {Q:Value->aa->Prop}
  (hQ:∀s' b dd d,Kp s s'->s'.heap.get? b=some (Ld dd d)->s'.heap.get? dd=some mf->nh s'.heap d ns->s.heap.get? b=none->s.heap.get? dd=none->s.heap.get? d=none->Q (.ref b) s'):
  mc (ka PP w) A (call (.ref 1963) args) Q s:=by
 have E:=g.ga.hd
 have Gf:∀{s':aa} {h':Na},(∀x o,s'.heap.get? x=some o->h'.get? x=some o)->Kp s' {s' with heap:=h',toks:=s'.toks+0}:=λhk=>⟨_,_,rfl,hk⟩
 refine fm (mh ?_)
 show mc _ _ (PySem.callAny (.ref 1963) _) _ _
 refine Fb (h E c λh1 k1=>?_)
 have L:=Gf k1
 have F1:=c.kp L
 refine⟨rfl,rfl,Ip (tJ _) uJ FQ (l E F1 λh2 Y=>?_)⟩
 have J:=L.trans' (Gf Y)
 have F2:=c.kp J
 have G:GK (N+7) (A.under (.builtin "type.__call__" ⟨.ref 1963::args,[]⟩)):=g.cls
 have a:=G.ga.hd
 rw[dQ]
 refine Eh (B7 a F2 λh3 V=>?_)
 refine Fe rfl ?_
 have K3:=J.trans' (Gf V)
 refine Eh (YZ a (c.kp K3) λh4 T=>?_)
 have p:=K3.trans' (Gf T)
 refine Uj (Cb ?_)
 refine Eh (Ma (j a (c.kp p) λh5 O v i=>?_))
 have I:=p.trans' (Gf O)
 refine Eh (m8 a (c.kp I) i λh6 m=>?_)
 refine Fe rfl ?_
 have H:=I.trans' (Gf m)
 refine Uj (vg ?_)
 dsimp only[lq]
 refine Eh (X6 a (c.kp H) (m _ _ i) λh7 t=>?_)
 have K7:=H.trans' (Gf t)
 refine vg (Uj ?_)
 refine Fb (QM a (c.kp K7) λh8 r=>?_)
 have n:=K7.trans' (Gf r)
 have C:=r _ _ (t _ _ (m _ _ i))
 have k:=r _ _ (t _ _ (m _ _ v))
 refine Uj (f _ _ (G.mono (ze _)) (c.kp n) n C k λs' d hm z B u=>Cb ?_)
 refine Fe rfl (Cb ⟨_,rfl,?_⟩)
 obtain ⟨h9,M,rfl,D⟩:=hm
 have nb:=Eb p (Pe (ze _))
 have nd:=Eb p (Pe (Ab _))
 refine hQ _ _ _ d ?_ z (D _ _ (by simp) k) B nb nd (Eb n u)
 refine⟨h9,M,rfl,λy o e=>D y o (λq=>?_) (n.get e)⟩
 rw[q,nb] at e;exact nomatch e
theorem CM{l:la}{vs:List Value}{n:Nat}{ns:List Int}(g:GK (N+8) A)(F:Fk w s.heap)(o:s.heap.get? l=some (Wa vs n))(hi:IntsAre vs ns)(hr:Bh ns)(hz:ns.length<=Kb){Q:Value->aa->Prop}
  (p:∀s' b dd d,Kp s s'->s'.heap.get? b=some (Ld dd d)->s'.heap.get? dd=some mf->nh s'.heap d ns->s.heap.get? b=none->s.heap.get? dd=none->s.heap.get? d=none->Q (.ref b) s'):
  mc (ka PP w) A (call (.ref 1963) [.ref l]) Q s:=
 AB g F (λc a h=>z7 c a h) (λc a h=>fQ c a h) (λc a h=>SV c a h)
  (λb dd q a k hb e h=>zB (T:="list") q a hb e (aI a _ _) (k.get o) rfl rfl (.inl rfl) hi hr hz λs' d m j i f=>h s' d m j i f) p
theorem WH(g:GK (N+8) A)(F:Fk w s.heap){Q:Value->aa->Prop}
  (m:∀s' b dd d,Kp s s'->s'.heap.get? b=some (Ld dd d)->s'.heap.get? dd=some mf->nh s'.heap d []->s.heap.get? b=none->s.heap.get? dd=none->s.heap.get? d=none->Q (.ref b) s'):
  mc (ka PP w) A (call (.ref 1963) []) Q s:=
 AB g F (λc a h=>QY c a h) (λc a h=>vM c a h) (λc a h=>eQ c a h)
  (λb dd o a k hb e h=>zB (T:="tuple") (vs:=[]) (n:=0) o a hb e (tE a _) (a.uf 22 rfl rfl) rfl rfl (.inr rfl) .nil (λZ h=>nomatch h) (Zb _) λs' d l j i f=>h s' d l j i f) m
end
noncomputable def nV(a:wa)(S:T3)(B:List cb)(w:ja)(b dd d:la)(m k:Nat):Prop:=
 Uk og (Gb Ka) a w 34 ⟨true,[(b,Ld dd d),(1963,Ic w),(1962,Og S B w),(1964,sq w)],m,[],[.k 0,.k 1,.k 1,.k 2,.k 0,.k 1,.k 1,.k 2,.k 3,.k 3,.k 1,.k 1,.k 2,.k 3,.k 3,.k 3,.k 0,.k 1,.k 3,.k 3,.k 3,.k 3,.k 0,.k 1,.k 0],[]⟩ k (.top (Gh (.ref b) "_data" true))=some (⟨true,[(b,Ld dd d),(1963,Ic w),(1962,Og S B w),(1964,sq w)],m,[],[],[(b,b),(1963,1963),(b,b),(1964,1964),(1964,1964),(1964,1964),(1964,1964),(1963,1963),(b,b),(1964,1964),(1964,1964),(1964,1964),(1962,1962),(1963,1963),(1963,1963),(1964,1964),(1964,1964),(1962,1962),(1963,1963),(1963,1963),(b,b),(1962,1962),(1963,1963),(1963,1963),(b,b)]⟩,k+1,.top (.pure (.ref d)))
noncomputable def Iy(a:wa)(S:T3)(B:List cb)(w:ja) (m k:Nat):Prop:=
 Uk og (Gb Ka) a w 17 ⟨true,[(140,Ga [⟨4238894112,.none,.ref 146⟩] 1)],m,[],[.k 0,.k 0,.k 0,.k 0,.k 0,.k 0,.k 0],[]⟩ k (.top (Fh (.ref 140) .none))=some (⟨true,[(140,Ga [⟨4238894112,.none,.ref 146⟩] 1)],m,[],[],[(140,140),(140,140),(140,140),(140,140),(140,140),(140,140),(140,140)]⟩,k+1,.top (.pure (.ref 146)))
lay_quick Mine.nV Mine.Iy
theorem EP(w:ja)(b dd d:la)(m k:Nat):nV PP (Tc w) fb w b dd d  m k:=wf (P:=λv=>nV PP (Tc w) fb v b dd d  m k) w λa=>by
 rw[PySem.W.Fast.te9785361921439268805]
 unfold PySem.W.Fast.tw9785361921439268805
 cases a <;> kernel_rfl
theorem P5{w:ja}{A:ua}{s:aa}{b dd d:la}{Q:_->aa->Prop}{E:Value->aa->Prop}(e:A.handled=none)(F:Fk w s.heap)(hb:s.heap.get? b=some (Ld dd d))
  (c:∀h',(∀x o,s.heap.get? x=some o->h'.get? x=some o)->Q (.ref d) {s with heap:=h',toks:=s.toks+1}):wpAny (ka PP w) A (Gh (.ref b) "_data" true) Q E s:=
 Te e (EP w b dd d  s.heap.objs.size s.toks) [b,1963,b,1964,1964,1964,1964,1963,b,1964,1964,1964,1962,1963,1963,1964,1964,1962,1963,1963,b,1962,1963,1963,b] rfl (Dc hb (Dc (F.u (1963,Ic w) (sa 29 rfl) rfl) (Dc (F.u (1962,tq w) (sa 28 rfl) rfl) (Dc (F.u (1964,sq w) (sa 30 rfl) rfl) tj)))) rfl rfl λh' a f=>c h' a
theorem FD(w:ja)(m k:Nat):Iy PP (Tc w) fb w m k:=wf (P:=λv=>Iy PP (Tc w) fb v m k) w λa=>by
 rw[PySem.W.Fast.te11088394090330002846]
 unfold PySem.W.Fast.tw11088394090330002846
 cases a <;> kernel_rfl
theorem KU{w:ja}{A:ua}{s:aa} {Q:_->aa->Prop}{E:Value->aa->Prop}(c:A.handled=none)(F:Fk w s.heap)
  (b:∀h',(∀x o,s.heap.get? x=some o->h'.get? x=some o)->Q (.ref 146) {s with heap:=h',toks:=s.toks+1}):wpAny (ka PP w) A (Fh (.ref 140) .none) Q E s:=
 Te c (FD w  s.heap.objs.size s.toks) [140,140,140,140,140,140,140] rfl (Dc (F.ec (140,Ga [⟨4238894112,.none,.ref 146⟩] 1) (sa 0 rfl)) tj) rfl rfl λh' a d=>b h' a
section
variable{prog:wa}{w:ja}{A:ua}{E:Value->aa->Prop}{s:aa}
theorem EH{a b:Int}{t:jg}{y:xa}{u:jg}{Q:Bool->aa->Prop}(h:Q false s):wpAny (ka prog w) A (eqBool (.int a t) (.str y u)) Q E s:=by
 unfold eqBool
 refine Ma ?_
 rw[if_neg (show¬((Jp a t==Qj y u)=true) from ng)]
 exact Ua (EqMixed.eq_int_str (Zd h))
theorem DH{b:Int}{t:jg}{y:xa}{u:jg}{Q:Bool->aa->Prop}(h:Q false s):wpAny (ka prog w) A (eqBool (.str y u) (.int b t)) Q E s:=by
 unfold eqBool
 refine Ma ?_
 rw[if_neg (show¬((Qj y u==Jp b t)=true) from ng)]
 exact Ua (EqMixed.eq_str_int (Zd h))
end
noncomputable def Gk:Int ⊕ xa->Value->Bool
 |.inl i,v=>Cg i v
 |.inr x,v=>sQ x v
theorem uh{k:Int ⊕ xa}{v:Value}(h:Gk k v=true):(∃i t,k=.inl i/\v=.int i t)\/(∃x t,k=.inr x/\v=.str x t):=by
 cases k with
 |inl i=>obtain ⟨t,e⟩:=Value.isInt_shape h;exact .inl ⟨i,t,rfl,e⟩
 |inr x=>obtain ⟨t,e⟩:=Value.isStrOf_shape h;exact .inr ⟨x,t,rfl,e⟩
noncomputable def V1:Value->Option (Int ⊕ xa)
 |.int i _=>some (.inl i)
 |.str x _=>some (.inr x)
 |_=>none
theorem Ys{k:Int ⊕ xa}{v:Value}(h:Gk k v=true):V1 v=some k:=by
 rcases uh h with ⟨i,t,rfl,rfl⟩|⟨x,t,rfl,rfl⟩ <;> rfl
noncomputable def um(prog:wa)(w:ja):KeyKind prog w (Int ⊕ xa) where
 is:=Gk
 hash:=λk=>match k with
  |.inl i=>MI i
  |.inr x=>hashStr w x
 inj:=λv a b d hb=>va ((Ys d).symm.trans (Ys hb))
 byValue:=λk v h=>by rcases uh h with ⟨i,t,rfl,rfl⟩|⟨x,t,rfl,rfl⟩ <;> rfl
 pyHash:=λhv h=>by
  rcases uh hv with ⟨i,t,rfl,rfl⟩|⟨x,t,rfl,rfl⟩
  ·exact wpAny_pyHash_int h
  ·exact wpAny_pyHash_str h
 eqBool:=λc hv h=>by
  rcases uh c with ⟨i,t,rfl,rfl⟩|⟨x,t,rfl,rfl⟩ <;> rcases uh hv with ⟨j,u,rfl,rfl⟩|⟨y,u,rfl,rfl⟩
  ·refine wpAny_eqBool_int ?_
   have e:(i==j)=decide ((Sum.inl i:Int ⊕ xa)=.inl j):=(decide_eq_decide (p:=i=j)).mpr ⟨congrArg Sum.inl,Sum.inl.inj⟩
   rw[e];exact h
  ·exact EH (b:=0) (by rw[decide_eq_false (λe=>nomatch e)] at h;exact h)
  ·exact DH (by rw[decide_eq_false (λe=>nomatch e)] at h;exact h)
  ·refine wpAny_eqBool_str ?_
   have e:(decide (x=y))=decide ((Sum.inr x:Int ⊕ xa)=.inr y):=decide_eq_decide.mpr ⟨congrArg Sum.inr,Sum.inr.inj⟩
   rw[e];exact h
 «strs»:=λk x t v h=>by
  rcases uh h with ⟨i,u,rfl,e⟩|⟨y,u,rfl,e⟩
  ·exact nomatch e
  ·cases e
   cases v <;> rfl
noncomputable def kM(w:ja)(e:Ta):Prop:=(∃i t,e.key=.int i t/\e.hash=MI i)\/(∃x t,e.key=.str x t/\e.hash=hashStr w x)
set_option tactic.hygienic true
theorem mM(w:ja):∀e∈EE w,kM w e:=by
 have b:∀l:List Ta,(l.all λe=>match e.key with|.int i _=>e.hash==MI i|_=>false)=true->∀e∈l,kM w e:=by
  intro l h e he
  have:=List.all_eq_true.mp h e he
  split at this
  ·rename_i i t c;exact .inl ⟨i,t,c,by simpa using this⟩
  ·exact nomatch this
 have a:∀l:List Ta,(l.map (·.hash))=l.map (λe=>match e.key with|.str x _=>hashStr w x|_=>0)->(l.all λe=>match e.key with|.str _ _=>true|_=>false)=true->∀e∈l,kM w e:=by
  intro l j g e he
  have f:=List.map_inj_left.mp j e he
  have d:=List.all_eq_true.mp g e he
  split at d
  ·rename_i x t c
   rw[c] at f
   exact .inr ⟨x,t,c,f⟩
  ·exact nomatch d
 intro e he
 delta EE at he
 simp only[List.mem_append] at he
 rcases he with (((he|he)|(he|he))|he)|he
 ·exact b E1 (by kernel_rfl) e he
 ·exact b E2 (by kernel_rfl) e he
 ·exact b Jt (by kernel_rfl) e he
 ·exact a (Gq w) (by kernel_rfl) (by kernel_rfl) e he
 ·exact a (E4 w) (by kernel_rfl) (by kernel_rfl) e he
 ·exact a (E5 w) (by kernel_rfl) (by kernel_rfl) e he
section
variable{prog:wa}{w:ja}{A:ua}{E:Value->aa->Prop}{s:aa}
set_option tactic.hygienic false
theorem XP(F:Fk w s.heap):s.heap.MapOf (um prog w) 139 (iu Gk (EE w).toArray):=by
 refine⟨_,(EE w).toArray,76,F.ecc,⟨rfl,rfl,rfl⟩,rfl,λe he=>?_,λk=>rfl⟩
 rcases mM w e (by simpa using he) with ⟨i,t,b,a⟩|⟨x,t,b,a⟩
 ·exact⟨.inl i,by rw[b];simp[um,Gk,Cg],a⟩
 ·exact⟨.inr x,by rw[b];simp[um,Gk,sQ],a⟩
theorem YP{v:Int}{t:jg}{r:Value}{Q:Value->aa->Prop}(F:Fk w s.heap)(hv:iu Gk (EE w).toArray (.inl v)=some r)(h:Q r {s with toks:=s.toks+1}):
  wpAny (ka prog w) A (Fh (.ref 139) (.int v t)) Q E s:=
 wpAny_getItem_of (knd:=um prog w) (k:=.inl v) (by simp[um,Gk,Cg]) (XP F) hv h
set_option tactic.hygienic true
theorem ph{d:la}{es:List Ta}{n:Nat}{v:Int}{t:jg}{r:Value}{Q:Value->aa->Prop}(b:s.heap.get? d=some (Ga es n))(a:(es.all λe=>match e.key with|.int i _=>e.hash==MI i|_=>false)=true)
  (hv:iu Cg es.toArray v=some r) (h:Q r {s with toks:=s.toks+1}):wpAny (ka prog w) A (Fh (.ref d) (.int v t)) Q E s:=by
 refine wpAny_getItem_of (knd:=intKind prog w) (k:=v) (f:=iu Cg es.toArray) (by simp[intKind,Cg]) ⟨_,es.toArray,n,b,⟨rfl,rfl,rfl⟩,rfl,λe he=>?_,λk=>rfl⟩ hv h
 have:=List.all_eq_true.mp a e (by simpa using he)
 split at this
 ·rename_i i t a
  exact⟨i,by rw[a];simp[intKind,Cg],eq_of_beq this⟩
 ·exact nomatch this
end
set_option tactic.hygienic false
noncomputable def rJ(a:wa)(S:T3)(B:List cb)(w:ja) (m k:Nat):Prop:=
 Uk og (Gb Ka) a w 3 ⟨true,[(135,Zf w),(134,wk S B w)],m,[],[.k 0,.k 0,.k 1],[]⟩ k (.top (vc (.ref 135) "__getattribute__"))=some (⟨true,[(135,Zf w),(134,wk S B w)],m,[],[],[(134,134),(135,135),(135,135)]⟩,k+0,.top (.pure (some (.builtin "tuple.__getattribute__"))))
noncomputable def Oy(a:wa)(S:T3)(B:List cb)(w:ja)(e ed:la)(ia ib ic:Int)(ta tb tc:Nat)(m k:Nat):Prop:=
 Uk og (Gb Ka) a w 0 ⟨true,[],m,[],[],[]⟩ k (.top (Dz (.builtin "tuple.__getattribute__") (.ref e)))=some (⟨true,[],m,[],[],[]⟩,k+0,.top (.pure ((.builtin "tuple.__getattribute__",[.ref e]))))
noncomputable def OD(a:wa)(S:T3)(B:List cb)(w:ja)(e ed:la)(ia ib ic:Int)(ta tb tc:Nat)(nm:xa)(t:Nat)(m k:Nat):Prop:=
 Uk og (Gb Ka) a w 2 ⟨true,[(e,⟨.ref 135,some ed,.seq ⟨[.int ia ta,.int ib tb,.int ic tc]⟩ 0,⟨[]⟩⟩),(135,Zf w)],m,[],[.k 0,.k 1],[]⟩ k (.top (Ac "tuple.__getattribute__" ⟨[.ref e,.str nm t],[]⟩))=some (⟨true,[(e,⟨.ref 135,some ed,.seq ⟨[.int ia ta,.int ib tb,.int ic tc]⟩ 0,⟨[]⟩⟩),(135,Zf w)],m,[],[],[(135,135),(e,e)]⟩,k+0,.top (.pure (())))
noncomputable def pJ(a:wa)(S:T3)(B:List cb)(w:ja) (m k:Nat):Prop:=
 Uk og (Gb Ka) a w 3 ⟨true,[(135,Zf w),(134,wk S B w)],m,[],[.k 0,.k 0,.k 1],[]⟩ k (.top (vc (.ref 135) "__getattr__"))=some (⟨true,[(135,Zf w),(134,wk S B w)],m,[],[],[(134,134),(135,135),(135,135)]⟩,k+0,.top (.pure (none)))
noncomputable def NC(a:wa)(S:T3)(B:List cb)(w:ja)(e ed:la)(ia ib ic:Int)(ta tb tc:Nat)(m k:Nat):Prop:=
 Uk og (Gb Ka) a w 4 ⟨true,[(e,⟨.ref 135,some ed,.seq ⟨[.int ia ta,.int ib tb,.int ic tc]⟩ 0,⟨[]⟩⟩)],m,[],[.k 0],[]⟩ k (.top (call (.type "type") [.ref e]))=some (⟨true,[(e,⟨.ref 135,some ed,.seq ⟨[.int ia ta,.int ib tb,.int ic tc]⟩ 0,⟨[]⟩⟩)],m,[],[],[(e,e)]⟩,k+0,.top (.pure (.ref 135)))
noncomputable def AJ(a:wa)(S:T3)(B:List cb)(w:ja) (m k:Nat):Prop:=
 Uk og (Gb Ka) a w 6 ⟨true,[(135,Zf w)],m,[],[.k 0,.k 0],[]⟩ k (.top (call (.builtin "issubclass") [.ref 135,.type "tuple"]))=some (⟨true,[(135,Zf w)],m,[],[],[(135,135),(135,135)]⟩,k+0,.top (.pure (.bool true)))
noncomputable def KD(a:wa)(S:T3)(B:List cb)(w:ja)(pl:Vb Bool)(m k:Nat):Prop:=
 Uk og (Gb Ka) a w 4 ⟨true,[],m,[],[],[]⟩ k (.top (Wg (.type "tuple") "__getitem__" pl))=some (⟨true,[],m,[],[],[]⟩,k+1,.top (.pure ((.builtin "tuple.__getitem__",[]))))
noncomputable def WD(a:wa)(S:T3)(B:List cb)(w:ja)(e ed:la)(ia ib ic:Int)(ta tb tc:Nat)(m k:Nat):Prop:=
 Uk og (Gb Ka) a w 12 ⟨true,[(135,Zf w),(134,wk S B w),(124,Ju w),(60,Nm w),(59,Om w)],m,[],[.k 0,.k 0,.k 1,.k 2,.k 3,.k 3,.k 4,.k 2,.k 3,.k 3,.k 4],[]⟩ k (.top (PySem.Builtin.ObjectAttr.find (.ref e) (.ref 135) "num_blocks"))=some (⟨true,[(135,Zf w),(134,wk S B w),(124,Ju w),(60,Nm w),(59,Om w)],m,[],[],[(59,59),(60,60),(60,60),(124,124),(59,59),(60,60),(60,60),(124,124),(134,134),(135,135),(135,135)]⟩,k+0,.top (.pure (PySem.Builtin.ObjectAttr.Found.bind (.ref 43) (.ref 124))))
noncomputable def zL(a:wa)(S:T3)(B:List cb)(w:ja) (m k:Nat):Prop:=
 Uk og (Gb Ka) a w 16 ⟨true,[(124,Ju w),(60,Nm w),(59,Om w),(123,oy S B w)],m,[],[.k 0,.k 1,.k 1,.k 2,.k 0,.k 1,.k 1,.k 2,.k 0,.k 0,.k 1,.k 3],[]⟩ k (.top (Gh (.ref 124) "index" true))=some (⟨true,[(124,Ju w),(60,Nm w),(59,Om w),(123,oy S B w)],m,[],[],[(123,123),(60,60),(124,124),(124,124),(59,59),(60,60),(60,60),(124,124),(59,59),(60,60),(60,60),(124,124)]⟩,k+1,.top (.pure (.int 0 365)))
noncomputable def ED(a:wa)(S:T3)(B:List cb)(w:ja)(e ed:la)(ia ib ic:Int)(ta tb tc:Nat)(m k:Nat):Prop:=
 Uk og (Gb Ka) a w 6 ⟨true,[(e,⟨.ref 135,some ed,.seq ⟨[.int ia ta,.int ib tb,.int ic tc]⟩ 0,⟨[]⟩⟩),(135,Zf w)],m,[],[.k 0,.k 1,.k 0],[]⟩ k (.top (call (.builtin "tuple.__getitem__") [.ref e,.int 0 365]))=some (⟨true,[(e,⟨.ref 135,some ed,.seq ⟨[.int ia ta,.int ib tb,.int ic tc]⟩ 0,⟨[]⟩⟩),(135,Zf w)],m,[],[],[(e,e),(135,135),(e,e)]⟩,k+0,.top (.pure (.int ia ta)))
noncomputable def VD(a:wa)(S:T3)(B:List cb)(w:ja)(e ed:la)(ia ib ic:Int)(ta tb tc:Nat)(m k:Nat):Prop:=
 Uk og (Gb Ka) a w 12 ⟨true,[(135,Zf w),(134,wk S B w),(127,Iu w),(60,Nm w),(59,Om w)],m,[],[.k 0,.k 0,.k 1,.k 2,.k 3,.k 3,.k 4,.k 2,.k 3,.k 3,.k 4],[]⟩ k (.top (PySem.Builtin.ObjectAttr.find (.ref e) (.ref 135) "num_total"))=some (⟨true,[(135,Zf w),(134,wk S B w),(127,Iu w),(60,Nm w),(59,Om w)],m,[],[],[(59,59),(60,60),(60,60),(127,127),(59,59),(60,60),(60,60),(127,127),(134,134),(135,135),(135,135)]⟩,k+0,.top (.pure (PySem.Builtin.ObjectAttr.Found.bind (.ref 43) (.ref 127))))
noncomputable def wL(a:wa)(S:T3)(B:List cb)(w:ja) (m k:Nat):Prop:=
 Uk og (Gb Ka) a w 16 ⟨true,[(127,Iu w),(60,Nm w),(59,Om w),(126,ny S B w)],m,[],[.k 0,.k 1,.k 1,.k 2,.k 0,.k 1,.k 1,.k 2,.k 0,.k 0,.k 1,.k 3],[]⟩ k (.top (Gh (.ref 127) "index" true))=some (⟨true,[(127,Iu w),(60,Nm w),(59,Om w),(126,ny S B w)],m,[],[],[(126,126),(60,60),(127,127),(127,127),(59,59),(60,60),(60,60),(127,127),(59,59),(60,60),(60,60),(127,127)]⟩,k+1,.top (.pure (.int 1 375)))
noncomputable def DD(a:wa)(S:T3)(B:List cb)(w:ja)(e ed:la)(ia ib ic:Int)(ta tb tc:Nat)(m k:Nat):Prop:=
 Uk og (Gb Ka) a w 6 ⟨true,[(e,⟨.ref 135,some ed,.seq ⟨[.int ia ta,.int ib tb,.int ic tc]⟩ 0,⟨[]⟩⟩),(135,Zf w)],m,[],[.k 0,.k 1,.k 0],[]⟩ k (.top (call (.builtin "tuple.__getitem__") [.ref e,.int 1 375]))=some (⟨true,[(e,⟨.ref 135,some ed,.seq ⟨[.int ia ta,.int ib tb,.int ic tc]⟩ 0,⟨[]⟩⟩),(135,Zf w)],m,[],[],[(e,e),(135,135),(e,e)]⟩,k+0,.top (.pure (.int ib tb)))
noncomputable def UD(a:wa)(S:T3)(B:List cb)(w:ja)(e ed:la)(ia ib ic:Int)(ta tb tc:Nat)(m k:Nat):Prop:=
 Uk og (Gb Ka) a w 12 ⟨true,[(135,Zf w),(134,wk S B w),(130,Hu w),(60,Nm w),(59,Om w)],m,[],[.k 0,.k 0,.k 1,.k 2,.k 3,.k 3,.k 4,.k 2,.k 3,.k 3,.k 4],[]⟩ k (.top (PySem.Builtin.ObjectAttr.find (.ref e) (.ref 135) "num_data"))=some (⟨true,[(135,Zf w),(134,wk S B w),(130,Hu w),(60,Nm w),(59,Om w)],m,[],[],[(59,59),(60,60),(60,60),(130,130),(59,59),(60,60),(60,60),(130,130),(134,134),(135,135),(135,135)]⟩,k+0,.top (.pure (PySem.Builtin.ObjectAttr.Found.bind (.ref 43) (.ref 130))))
noncomputable def uL(a:wa)(S:T3)(B:List cb)(w:ja) (m k:Nat):Prop:=
 Uk og (Gb Ka) a w 16 ⟨true,[(130,Hu w),(60,Nm w),(59,Om w),(129,my S B w)],m,[],[.k 0,.k 1,.k 1,.k 2,.k 0,.k 1,.k 1,.k 2,.k 0,.k 0,.k 1,.k 3],[]⟩ k (.top (Gh (.ref 130) "index" true))=some (⟨true,[(130,Hu w),(60,Nm w),(59,Om w),(129,my S B w)],m,[],[],[(129,129),(60,60),(130,130),(130,130),(59,59),(60,60),(60,60),(130,130),(59,59),(60,60),(60,60),(130,130)]⟩,k+1,.top (.pure (.int 2 385)))
noncomputable def CD(a:wa)(S:T3)(B:List cb)(w:ja)(e ed:la)(ia ib ic:Int)(ta tb tc:Nat)(m k:Nat):Prop:=
 Uk og (Gb Ka) a w 6 ⟨true,[(e,⟨.ref 135,some ed,.seq ⟨[.int ia ta,.int ib tb,.int ic tc]⟩ 0,⟨[]⟩⟩),(135,Zf w)],m,[],[.k 0,.k 1,.k 0],[]⟩ k (.top (call (.builtin "tuple.__getitem__") [.ref e,.int 2 385]))=some (⟨true,[(e,⟨.ref 135,some ed,.seq ⟨[.int ia ta,.int ib tb,.int ic tc]⟩ 0,⟨[]⟩⟩),(135,Zf w)],m,[],[],[(e,e),(135,135),(e,e)]⟩,k+0,.top (.pure (.int ic tc)))
lay_quick Mine.rJ Mine.Oy Mine.OD Mine.pJ Mine.NC Mine.AJ Mine.KD Mine.WD Mine.zL Mine.ED Mine.VD Mine.wL Mine.DD Mine.UD Mine.uL Mine.CD
theorem qJ(w:ja)(m k:Nat):rJ PP (Tc w) fb w m k:=wf (P:=λv=>rJ PP (Tc w) fb v m k) w λa=>by
 rw[PySem.W.Fast.te441701149182391740]
 unfold PySem.W.Fast.tw441701149182391740
 cases a <;> kernel_rfl
theorem S6{w:ja}{A:ua}{s:aa} {Q:_->aa->Prop}{E:Value->aa->Prop}(c:A.handled=none)(F:Fk w s.heap)
  (b:∀h',(∀x o,s.heap.get? x=some o->h'.get? x=some o)->Q (some (.builtin "tuple.__getattribute__")) {s with heap:=h',toks:=s.toks+0}):wpAny (ka PP w) A (vc (.ref 135) "__getattribute__") Q E s:=
 Te c (qJ w  s.heap.objs.size s.toks) [134,135,135] rfl (Dc (F.t (135,Zf w) (sa 14 rfl)) (Dc (F.t (134,fA w) (sa 13 rfl)) tj)) rfl rfl λh' a d=>b h' a
theorem PD(w:ja)(e ed:la)(ia ib ic:Int)(ta tb tc:Nat)(m k:Nat):Oy PP (Tc w) fb w e ed  ia ib ic  ta tb tc  m k:=wf (P:=λv=>Oy PP (Tc w) fb v e ed  ia ib ic  ta tb tc  m k) w λa=>by
 rw[PySem.W.Fast.te1181149518473264998]
 unfold PySem.W.Fast.tw1181149518473264998
 cases a <;> kernel_rfl
theorem oV{w:ja}{A:ua}{s:aa}{e ed:la}{ia ib ic:Int}{ta tb tc:Nat}{Q:_->aa->Prop}{E:Value->aa->Prop}(c:A.handled=none)(F:Fk w s.heap)
  (b:∀h',(∀x o,s.heap.get? x=some o->h'.get? x=some o)->Q ((.builtin "tuple.__getattribute__",[.ref e])) {s with heap:=h',toks:=s.toks+0}):wpAny (ka PP w) A (Dz (.builtin "tuple.__getattribute__") (.ref e)) Q E s:=
 Te c (PD w e ed  ia ib ic  ta tb tc  s.heap.objs.size s.toks) [] rfl (λZ hp=>(nomatch hp)) rfl rfl λh' a d=>b h' a
theorem rH(w:ja)(e ed:la)(ia ib ic:Int)(ta tb tc:Nat)(nm:xa)(t:Nat)(m k:Nat):OD PP (Tc w) fb w e ed  ia ib ic  ta tb tc  nm  t  m k:=wf (P:=λv=>OD PP (Tc w) fb v e ed  ia ib ic  ta tb tc  nm  t  m k) w λa=>by
 rw[PySem.W.Fast.te13860471218437604780]
 unfold PySem.W.Fast.tw13860471218437604780
 cases a <;> kernel_rfl
theorem VL{w:ja}{A:ua}{s:aa}{e ed:la}{ia ib ic:Int}{ta tb tc:Nat}{nm:xa}{t:Nat}{Q:_->aa->Prop}{E:Value->aa->Prop}(c:A.handled=none)(F:Fk w s.heap)(he:s.heap.get? e=some (⟨.ref 135,some ed,.seq ⟨[.int ia ta,.int ib tb,.int ic tc]⟩ 0,⟨[]⟩⟩))
  (b:∀h',(∀x o,s.heap.get? x=some o->h'.get? x=some o)->Q (()) {s with heap:=h',toks:=s.toks+0}):wpAny (ka PP w) A (Ac "tuple.__getattribute__" ⟨[.ref e,.str nm t],[]⟩) Q E s:=
 Te c (rH w e ed  ia ib ic  ta tb tc  nm  t  s.heap.objs.size s.toks) [135,e] rfl (Dc he (Dc (F.t (135,Zf w) (sa 14 rfl)) tj)) rfl rfl λh' a d=>b h' a
theorem oJ(w:ja)(m k:Nat):pJ PP (Tc w) fb w m k:=wf (P:=λv=>pJ PP (Tc w) fb v m k) w λa=>by
 rw[PySem.W.Fast.te15105972147591453868]
 unfold PySem.W.Fast.tw15105972147591453868
 cases a <;> kernel_rfl
theorem R6{w:ja}{A:ua}{s:aa} {Q:_->aa->Prop}{E:Value->aa->Prop}(c:A.handled=none)(F:Fk w s.heap)
  (b:∀h',(∀x o,s.heap.get? x=some o->h'.get? x=some o)->Q (none) {s with heap:=h',toks:=s.toks+0}):wpAny (ka PP w) A (vc (.ref 135) "__getattr__") Q E s:=
 Te c (oJ w  s.heap.objs.size s.toks) [134,135,135] rfl (Dc (F.t (135,Zf w) (sa 14 rfl)) (Dc (F.t (134,fA w) (sa 13 rfl)) tj)) rfl rfl λh' a d=>b h' a
theorem wG(w:ja)(e ed:la)(ia ib ic:Int)(ta tb tc:Nat)(m k:Nat):NC PP (Tc w) fb w e ed  ia ib ic  ta tb tc  m k:=wf (P:=λv=>NC PP (Tc w) fb v e ed  ia ib ic  ta tb tc  m k) w λa=>by
 rw[PySem.W.Fast.te12400848034984371637]
 unfold PySem.W.Fast.tw12400848034984371637
 cases a <;> kernel_rfl
theorem JX{w:ja}{A:ua}{s:aa}{e ed:la}{ia ib ic:Int}{ta tb tc:Nat}{Q:_->aa->Prop}{E:Value->aa->Prop}(c:A.handled=none)(F:Fk w s.heap)(he:s.heap.get? e=some (⟨.ref 135,some ed,.seq ⟨[.int ia ta,.int ib tb,.int ic tc]⟩ 0,⟨[]⟩⟩))
  (b:∀h',(∀x o,s.heap.get? x=some o->h'.get? x=some o)->Q (.ref 135) {s with heap:=h',toks:=s.toks+0}):wpAny (ka PP w) A (call (.type "type") [.ref e]) Q E s:=
 Te c (wG w e ed  ia ib ic  ta tb tc  s.heap.objs.size s.toks) [e] rfl (Dc he tj) rfl rfl λh' a d=>b h' a
theorem zJ(w:ja)(m k:Nat):AJ PP (Tc w) fb w m k:=wf (P:=λv=>AJ PP (Tc w) fb v m k) w λa=>by
 rw[PySem.W.Fast.te13009148625063856329]
 unfold PySem.W.Fast.tw13009148625063856329
 cases a <;> kernel_rfl
theorem V6{w:ja}{A:ua}{s:aa} {Q:_->aa->Prop}{E:Value->aa->Prop}(c:A.handled=none)(F:Fk w s.heap)
  (b:∀h',(∀x o,s.heap.get? x=some o->h'.get? x=some o)->Q (.bool true) {s with heap:=h',toks:=s.toks+0}):wpAny (ka PP w) A (call (.builtin "issubclass") [.ref 135,.type "tuple"]) Q E s:=
 Te c (zJ w  s.heap.objs.size s.toks) [135,135] rfl (Dc (F.t (135,Zf w) (sa 14 rfl)) tj) rfl rfl λh' a d=>b h' a
theorem oH(w:ja)(pl:Vb Bool)(m k:Nat):KD PP (Tc w) fb w pl  m k:=wf (P:=λv=>KD PP (Tc w) fb v pl  m k) w λa=>by
 rw[PySem.W.Fast.te8846851719985731363]
 unfold PySem.W.Fast.tw8846851719985731363
 cases a <;> kernel_rfl
theorem H3{w:ja}{A:ua}{s:aa}{pl:Vb Bool}{Q:_->aa->Prop}{E:Value->aa->Prop}(c:A.handled=none)(F:Fk w s.heap)
  (b:∀h',(∀x o,s.heap.get? x=some o->h'.get? x=some o)->Q ((.builtin "tuple.__getitem__",[])) {s with heap:=h',toks:=s.toks+1}):wpAny (ka PP w) A (Wg (.type "tuple") "__getitem__" pl) Q E s:=
 Te c (oH w pl  s.heap.objs.size s.toks) [] rfl (λZ hp=>(nomatch hp)) rfl rfl λh' a d=>b h' a
theorem vH(w:ja)(e ed:la)(ia ib ic:Int)(ta tb tc:Nat)(m k:Nat):WD PP (Tc w) fb w e ed  ia ib ic  ta tb tc  m k:=wf (P:=λv=>WD PP (Tc w) fb v e ed  ia ib ic  ta tb tc  m k) w λa=>by
 rw[PySem.W.Fast.te12702641219404943449]
 unfold PySem.W.Fast.tw12702641219404943449
 cases a <;> kernel_rfl
theorem U3{w:ja}{A:ua}{s:aa}{e ed:la}{ia ib ic:Int}{ta tb tc:Nat}{Q:_->aa->Prop}{E:Value->aa->Prop}(c:A.handled=none)(F:Fk w s.heap)
  (b:∀h',(∀x o,s.heap.get? x=some o->h'.get? x=some o)->Q (PySem.Builtin.ObjectAttr.Found.bind (.ref 43) (.ref 124)) {s with heap:=h',toks:=s.toks+0}):wpAny (ka PP w) A (PySem.Builtin.ObjectAttr.find (.ref e) (.ref 135) "num_blocks") Q E s:=
 Te c (vH w e ed  ia ib ic  ta tb tc  s.heap.objs.size s.toks) [59,60,60,124,59,60,60,124,134,135,135] rfl (Dc (F.t (135,Zf w) (sa 14 rfl)) (Dc (F.t (134,fA w) (sa 13 rfl)) (Dc (F.t (124,Ju w) (sa 8 rfl)) (Dc (F.t (60,Nm w) (sa 6 rfl)) (Dc (F.t (59,Om w) (sa 5 rfl)) tj))))) rfl rfl λh' a d=>b h' a
theorem yL(w:ja)(m k:Nat):zL PP (Tc w) fb w m k:=wf (P:=λv=>zL PP (Tc w) fb v m k) w λa=>by
 rw[PySem.W.Fast.te14363345807669329085]
 unfold PySem.W.Fast.tw14363345807669329085
 cases a <;> kernel_rfl
theorem p8{w:ja}{A:ua}{s:aa} {Q:_->aa->Prop}{E:Value->aa->Prop}(c:A.handled=none)(F:Fk w s.heap)
  (b:∀h',(∀x o,s.heap.get? x=some o->h'.get? x=some o)->Q (.int 0 365) {s with heap:=h',toks:=s.toks+1}):wpAny (ka PP w) A (Gh (.ref 124) "index" true) Q E s:=
 Te c (yL w  s.heap.objs.size s.toks) [123,60,124,124,59,60,60,124,59,60,60,124] rfl (Dc (F.t (124,Ju w) (sa 8 rfl)) (Dc (F.t (60,Nm w) (sa 6 rfl)) (Dc (F.t (59,Om w) (sa 5 rfl)) (Dc (F.t (123,NY w) (sa 7 rfl)) tj)))) rfl rfl λh' a d=>b h' a
theorem dH(w:ja)(e ed:la)(ia ib ic:Int)(ta tb tc:Nat)(m k:Nat):ED PP (Tc w) fb w e ed  ia ib ic  ta tb tc  m k:=wf (P:=λv=>ED PP (Tc w) fb v e ed  ia ib ic  ta tb tc  m k) w λa=>by
 rw[PySem.W.Fast.te18134697359525648013]
 unfold PySem.W.Fast.tw18134697359525648013
 cases a <;> kernel_rfl
theorem A2{w:ja}{A:ua}{s:aa}{e ed:la}{ia ib ic:Int}{ta tb tc:Nat}{Q:_->aa->Prop}{E:Value->aa->Prop}(c:A.handled=none)(F:Fk w s.heap)(he:s.heap.get? e=some (⟨.ref 135,some ed,.seq ⟨[.int ia ta,.int ib tb,.int ic tc]⟩ 0,⟨[]⟩⟩))
  (b:∀h',(∀x o,s.heap.get? x=some o->h'.get? x=some o)->Q (.int ia ta) {s with heap:=h',toks:=s.toks+0}):wpAny (ka PP w) A (call (.builtin "tuple.__getitem__") [.ref e,.int 0 365]) Q E s:=
 Te c (dH w e ed  ia ib ic  ta tb tc  s.heap.objs.size s.toks) [e,135,e] rfl (Dc he (Dc (F.t (135,Zf w) (sa 14 rfl)) tj)) rfl rfl λh' a d=>b h' a
theorem uH(w:ja)(e ed:la)(ia ib ic:Int)(ta tb tc:Nat)(m k:Nat):VD PP (Tc w) fb w e ed  ia ib ic  ta tb tc  m k:=wf (P:=λv=>VD PP (Tc w) fb v e ed  ia ib ic  ta tb tc  m k) w λa=>by
 rw[PySem.W.Fast.te7214748119038969801]
 unfold PySem.W.Fast.tw7214748119038969801
 cases a <;> kernel_rfl
theorem S3{w:ja}{A:ua}{s:aa}{e ed:la}{ia ib ic:Int}{ta tb tc:Nat}{Q:_->aa->Prop}{E:Value->aa->Prop}(c:A.handled=none)(F:Fk w s.heap)
  (b:∀h',(∀x o,s.heap.get? x=some o->h'.get? x=some o)->Q (PySem.Builtin.ObjectAttr.Found.bind (.ref 43) (.ref 127)) {s with heap:=h',toks:=s.toks+0}):wpAny (ka PP w) A (PySem.Builtin.ObjectAttr.find (.ref e) (.ref 135) "num_total") Q E s:=
 Te c (uH w e ed  ia ib ic  ta tb tc  s.heap.objs.size s.toks) [59,60,60,127,59,60,60,127,134,135,135] rfl (Dc (F.t (135,Zf w) (sa 14 rfl)) (Dc (F.t (134,fA w) (sa 13 rfl)) (Dc (F.t (127,Iu w) (sa 10 rfl)) (Dc (F.t (60,Nm w) (sa 6 rfl)) (Dc (F.t (59,Om w) (sa 5 rfl)) tj))))) rfl rfl λh' a d=>b h' a
theorem vL(w:ja)(m k:Nat):wL PP (Tc w) fb w m k:=wf (P:=λv=>wL PP (Tc w) fb v m k) w λa=>by
 rw[PySem.W.Fast.te8034637233595326470]
 unfold PySem.W.Fast.tw8034637233595326470
 cases a <;> kernel_rfl
theorem o8{w:ja}{A:ua}{s:aa} {Q:_->aa->Prop}{E:Value->aa->Prop}(c:A.handled=none)(F:Fk w s.heap)
  (b:∀h',(∀x o,s.heap.get? x=some o->h'.get? x=some o)->Q (.int 1 375) {s with heap:=h',toks:=s.toks+1}):wpAny (ka PP w) A (Gh (.ref 127) "index" true) Q E s:=
 Te c (vL w  s.heap.objs.size s.toks) [126,60,127,127,59,60,60,127,59,60,60,127] rfl (Dc (F.t (127,Iu w) (sa 10 rfl)) (Dc (F.t (60,Nm w) (sa 6 rfl)) (Dc (F.t (59,Om w) (sa 5 rfl)) (Dc (F.t (126,MY w) (sa 9 rfl)) tj)))) rfl rfl λh' a d=>b h' a
theorem cH(w:ja)(e ed:la)(ia ib ic:Int)(ta tb tc:Nat)(m k:Nat):DD PP (Tc w) fb w e ed  ia ib ic  ta tb tc  m k:=wf (P:=λv=>DD PP (Tc w) fb v e ed  ia ib ic  ta tb tc  m k) w λa=>by
 rw[PySem.W.Fast.te5867874083567484761]
 unfold PySem.W.Fast.tw5867874083567484761
 cases a <;> kernel_rfl
theorem n2{w:ja}{A:ua}{s:aa}{e ed:la}{ia ib ic:Int}{ta tb tc:Nat}{Q:_->aa->Prop}{E:Value->aa->Prop}(c:A.handled=none)(F:Fk w s.heap)(he:s.heap.get? e=some (⟨.ref 135,some ed,.seq ⟨[.int ia ta,.int ib tb,.int ic tc]⟩ 0,⟨[]⟩⟩))
  (b:∀h',(∀x o,s.heap.get? x=some o->h'.get? x=some o)->Q (.int ib tb) {s with heap:=h',toks:=s.toks+0}):wpAny (ka PP w) A (call (.builtin "tuple.__getitem__") [.ref e,.int 1 375]) Q E s:=
 Te c (cH w e ed  ia ib ic  ta tb tc  s.heap.objs.size s.toks) [e,135,e] rfl (Dc he (Dc (F.t (135,Zf w) (sa 14 rfl)) tj)) rfl rfl λh' a d=>b h' a
theorem tH(w:ja)(e ed:la)(ia ib ic:Int)(ta tb tc:Nat)(m k:Nat):UD PP (Tc w) fb w e ed  ia ib ic  ta tb tc  m k:=wf (P:=λv=>UD PP (Tc w) fb v e ed  ia ib ic  ta tb tc  m k) w λa=>by
 rw[PySem.W.Fast.te14199685753094800164]
 unfold PySem.W.Fast.tw14199685753094800164
 cases a <;> kernel_rfl
theorem Q3{w:ja}{A:ua}{s:aa}{e ed:la}{ia ib ic:Int}{ta tb tc:Nat}{Q:_->aa->Prop}{E:Value->aa->Prop}(c:A.handled=none)(F:Fk w s.heap)
  (b:∀h',(∀x o,s.heap.get? x=some o->h'.get? x=some o)->Q (PySem.Builtin.ObjectAttr.Found.bind (.ref 43) (.ref 130)) {s with heap:=h',toks:=s.toks+0}):wpAny (ka PP w) A (PySem.Builtin.ObjectAttr.find (.ref e) (.ref 135) "num_data") Q E s:=
 Te c (tH w e ed  ia ib ic  ta tb tc  s.heap.objs.size s.toks) [59,60,60,130,59,60,60,130,134,135,135] rfl (Dc (F.t (135,Zf w) (sa 14 rfl)) (Dc (F.t (134,fA w) (sa 13 rfl)) (Dc (F.t (130,Hu w) (sa 12 rfl)) (Dc (F.t (60,Nm w) (sa 6 rfl)) (Dc (F.t (59,Om w) (sa 5 rfl)) tj))))) rfl rfl λh' a d=>b h' a
theorem tL(w:ja)(m k:Nat):uL PP (Tc w) fb w m k:=wf (P:=λv=>uL PP (Tc w) fb v m k) w λa=>by
 rw[PySem.W.Fast.te17505182119294004898]
 unfold PySem.W.Fast.tw17505182119294004898
 cases a <;> kernel_rfl
theorem n8{w:ja}{A:ua}{s:aa} {Q:_->aa->Prop}{E:Value->aa->Prop}(c:A.handled=none)(F:Fk w s.heap)
  (b:∀h',(∀x o,s.heap.get? x=some o->h'.get? x=some o)->Q (.int 2 385) {s with heap:=h',toks:=s.toks+1}):wpAny (ka PP w) A (Gh (.ref 130) "index" true) Q E s:=
 Te c (tL w  s.heap.objs.size s.toks) [129,60,130,130,59,60,60,130,59,60,60,130] rfl (Dc (F.t (130,Hu w) (sa 12 rfl)) (Dc (F.t (60,Nm w) (sa 6 rfl)) (Dc (F.t (59,Om w) (sa 5 rfl)) (Dc (F.t (129,LY w) (sa 11 rfl)) tj)))) rfl rfl λh' a d=>b h' a
theorem bH(w:ja)(e ed:la)(ia ib ic:Int)(ta tb tc:Nat)(m k:Nat):CD PP (Tc w) fb w e ed  ia ib ic  ta tb tc  m k:=wf (P:=λv=>CD PP (Tc w) fb v e ed  ia ib ic  ta tb tc  m k) w λa=>by
 rw[PySem.W.Fast.te7979593753711545489]
 unfold PySem.W.Fast.tw7979593753711545489
 cases a <;> kernel_rfl
theorem i2{w:ja}{A:ua}{s:aa}{e ed:la}{ia ib ic:Int}{ta tb tc:Nat}{Q:_->aa->Prop}{E:Value->aa->Prop}(c:A.handled=none)(F:Fk w s.heap)(he:s.heap.get? e=some (⟨.ref 135,some ed,.seq ⟨[.int ia ta,.int ib tb,.int ic tc]⟩ 0,⟨[]⟩⟩))
  (b:∀h',(∀x o,s.heap.get? x=some o->h'.get? x=some o)->Q (.int ic tc) {s with heap:=h',toks:=s.toks+0}):wpAny (ka PP w) A (call (.builtin "tuple.__getitem__") [.ref e,.int 2 385]) Q E s:=
 Te c (bH w e ed  ia ib ic  ta tb tc  s.heap.objs.size s.toks) [e,135,e] rfl (Dc he (Dc (F.t (135,Zf w) (sa 14 rfl)) tj)) rfl rfl λh' a d=>b h' a
noncomputable abbrev kpA(M:pj)(A:ua)(f:Value)(first:List Value)(Q:Value->aa->Prop):List Value->aa->Prop:=λvs b=>wpAny M A (Xh f) (λZ a=>wpAny M A (call f (first++vs) []) Q Jc a) Jc b
noncomputable abbrev clA(M:pj)(A:ua)(pos:xd)(args:List Oa)(env:Be)(Q:Value->aa->Prop):Value->aa->Prop:=λb a=>wpAny M A (oj pos b [] (Bg pos (Ae args env)) []) Q Jc a
noncomputable abbrev mtA(M:pj)(A:ua)(pos:xd)(o:Oa)(name:xa)(args:List Oa)(env:Be)(Q:Value->aa->Prop):Value->aa->Prop:=
 λc b=>wpAny M A (Wg c name (do return (<- importBound o env).getD true)) (λr a=>wpAny M A (oj pos r.1 r.2 (Bg pos (Ae args env)) []) Q Jc a) Jc b
section
variable{prog:wa}{w:ja}{A:ua}{s:aa}{env:Be}
noncomputable def vt{M:pj}{A:ua}:List (Vb Value)->(List Value->aa->Prop)->aa->Prop
 |[],Q,s=>Q [] s
 |x::xs,Q,s=>wpAny M A x (agK (vt (M:=M) (A:=A) xs) Q) Jc s
theorem Se:∀{xs:List (Vb Value)} {Q:List Value->aa->Prop} {s:aa},vt (M:=ka prog w) (A:=A) xs Q s->wpAny (ka prog w) A (Qi (xs.map λx=>(false,x))) Q Jc s
 |[],Q,s,h=>pa h
 |x::xs,Q,s,h=>by
  show wpAny _ _ (x>>=λv=>(pure [v]:Vb (List Value))>>=λa=>holding a (Qi (xs.map λx=>(false,x)))>>=λt=>pure (a++t)) _ _ _
  exact zb (ah h (λv c yb=>zb (pa (zb (Ma (ah (Se yb) (λvs b q=>pa q)))))))
theorem BH{f:Value}{xs:List (Vb Value)}{Q:Jn->aa->Prop}(h:vt (M:=ka prog w) (A:=A) xs (λvs a=>Q ⟨vs,[]⟩ a) s):wpAny (ka prog w) A (Cp f true (xs.map λx=>(false,x)) []) Q Jc s:=by
 unfold Cp
 cases xs with
 |nil=>
  show wpAny _ _ (Qi []>>=_) _ _ _
  refine zb (pa (zb (pa ?_)))
  refine Ma ?_
  dsimp only[Ss,if_true]
  exact zb (pa (zb (pa (pa h))))
 |cons x xs=>
  show wpAny _ _ (Qi ((x::xs).map λx=>(false,x))>>=_) _ _ _
  refine zb (ah (Se h) (λvs a yb=>?_))
  refine Ma ?_
  dsimp only[Ss,if_true]
  exact zb (pa (zb (pa (pa yb))))
theorem md{pos:xd}{f:Value}{first:List Value}{xs:List (Vb Value)}{Q:Value->aa->Prop}(C:xs.length<=30)
  (h:vt (M:=ka prog w) (A:=A) xs (kpA (ka prog w) A f first Q) s):
  wpAny (ka prog w) A (oj pos f first (xs.map λx=>(false,x)) []) Q Jc s:=by
 have e:(xs.map λx=>(false,x)).any (·.1)=false:=by
  rw[xW];simp
 unfold oj
 refine zb (Ma (ah (BH (Q:=λa d=>a.kw=[]/\wpAny (ka prog w) A (Xh f) (λZ b=>wpAny (ka prog w) A (call f (first++a.pos) []) Q Jc b) Jc d) ?_) (λa d yb=>?_)))
 ·revert h
  generalize xs=i
  have n:∀(i:List (Vb Value)) (R l:List Value->aa->Prop) (s:aa),(∀vs s,R vs s->l vs s)->vt (M:=ka prog w) (A:=A) i R s->vt (M:=ka prog w) (A:=A) i l s:=by
   intro i
   induction i with
   |nil=>intro R l s z h;exact z _ _ h
   |cons y i E=>intro R l s z h;exact ah h (λv d yb=>E _ _ _ (λvs s q=>z _ _ q) yb)
  exact λh=>n i _ _ s (λvs s q=>⟨rfl,q⟩) h
 obtain ⟨u,j⟩:=yb
 obtain ⟨ap,G⟩:=a
 have u:G=[]:=u
 subst u
 refine zb (wb ?_)
 have c:∀{t:Vb Value} {b:aa},wpAny (ka prog w) A t Q Jc b->wpAny (ka prog w) A (t>>=λr=>holding [r] point>>=λZ=>pure r) Q Jc b:=
  λ{t b} ht=>zb (ah ht (λr b hr=>zb (Ma (Cr (pa hr)))))
 rw[e]
 refine zb (m:=Xh f) (ah j (λk b hc=>?_))
 have B:¬((xs.map λx=>(false,x)).length+2*([]:List (Option xa×Vb Value)).length > 30):=by simp;omega
 have g:∀{t:Vb Value} {vs:List Value},wpAny (ka prog w) A t Q Jc b->wpAny (ka prog w) A (t.keep vs) Q Jc b:=λ{t vs} ht D p o=>by rw[Z4];exact ht D p o
 cases k with
 |frame=>
  show wpAny _ _ (if (xs.map λx=>(false,x)).length+2*([]:List (Option xa×Vb Value)).length > 30 then _ else _) _ _ _
  rw[if_neg B]
  exact c (g hc)
 |boundFrame=>
  show wpAny _ _ (if (xs.map λx=>(false,x)).length+2*([]:List (Option xa×Vb Value)).length > 30 then _ else _) _ _ _
  rw[if_neg B]
  exact c (g hc)
 |machine=>exact c hc
 |caller=>
  refine c ?_
  unfold iq
  refine zb (Ma (ah hc (λv s' q=>?_)))
  unfold release
  exact zb (Dk _ (pa q))
theorem Yc{f:Oa}{pos:xd}{args:List Oa}{Q:Value->aa->Prop}(b:∃x a,f=.Name x a)
  (h:wpAny (ka prog w) A (eval f env) (clA (ka prog w) A pos args env Q) Jc s):
  wpAny (ka prog w) A (eval (.Call f args [] pos) env) Q Jc s:=by
 obtain ⟨x,a,rfl⟩:=b
 show wpAny _ A (do oj pos (<- eval (.Name x a) env) [] (Bg pos (Ae args env)) (HN pos (Cz [] env))) Q Jc s
 exact Ua h
theorem nv{o:Oa}{name:xa}{a pos:xd}{args:List Oa}{Q:Value->aa->Prop}(d:kG o name env (eval o env)=eval o env)
  (g:Hm args.length (Bg pos (Ae args env)) []=true) (b:(a.endLine==pos.line)=true)
  (h:wpAny (ka prog w) A (eval o env) (mtA (ka prog w) A pos o name args env Q) Jc s):
  wpAny (ka prog w) A (eval (.Call (.Attribute o name a) args [] pos) env) Q Jc s:=by
 rw[arm_eval_Call,d]
 refine Ua (ah h (λk j yb=>?_))
 refine Ua (wb ?_)
 have c:Hm (args.length+([]:List Keyword).length) (Bg pos (Ae args env)) (HN pos (Cz [] env))=true:=g
 have e:=mcp (o:=o) (env:=env) b
 unfold methodCall
 rw[c]
 refine Ua (Ma (ah yb (λr i q=>?_)))
 obtain ⟨f,first⟩:=r
 exact Ua (Aa e q)
end
section
variable{prog:wa}{w:ja}{A:ua}{N:Nat}{G:Gl}{σ:List (xa×P)}{adr:xa->la}{rd:List xa}{s:aa}
theorem bp{l:List (xa×ub)}(h:l.all (λy=>y.2 != .cell)=true):∀x∈l,x.2≠.cell:=by
 intro x a e
 have:=List.all_eq_true.mp h x a
 rw[e] at this;exact nomatch this
theorem rB{a c:la}{o oc:Sa}{body:List cb}{vs:List Value}{binds:List (xa×Value)}{R:Value->aa->Prop}(f:Fn o oc c body)
  (g:GA (N+2) A) (gs:GS G s.heap) (E:s.heap.get? a=some o) (hc:s.heap.get? c=some oc) (hb:Sf s (fdOf o) ⟨vs,[]⟩ binds)
  (r:(fdOf o).scope.names.all (λy=>y.2 != .cell)=true) (i:(binds.map (·.1)).all (λx=>(fdOf o).scope.names.lookup x==some .local)=true) (k:Vr (binds.map (·.1))=true)
  (hm:Dq s.heap rd adr σ binds) (t:∀x y ns ms,x≠y->σ.lookup x=some (.il ns)->σ.lookup y=some (.il ms)->adr x≠adr y)
  (h:∀env b,env.scope=(fdOf o).scope->GA N (A.deeper env)->St G env rd σ adr s (Fw s) b->
   wpAny (ka prog w) (A.deeper env) (Kc body env) (λf s'=>∃v,f=.ret v/\R v s') Jc b):
  wpAny (ka prog w) A (call (.ref a) vs) R Jc s:=by
 have e:=f.row
 simp only[we] at e
 have nd:=Lk k
 have loc:∀x∈binds,(fdOf o).scope.names.lookup x.1=some .local:=by
  intro x n
  have:=List.all_eq_true.mp i x.1 (zd n)
  simpa using this
 refine Cx g gs E f.data (codeRec_of hc f.code f.cq) f.bd hb e.1 e.2.1 e.2.2.1 e.2.2.2.1 e.2.2.2.2.1 (bp r) loc (λx n=>absurd n (Ur f.nf x)) (λx y c j Z=>?_) (λx c j=>?_) (λx p ex=>?_) t h
 ·rw[e.2.2.2.2.2] at j;exact nomatch j
 ·rw[e.2.2.2.2.2] at j;exact nomatch j
 ·refine Nc λI=>?_;obtain ⟨v,z,L,J⟩:=hm.look ex;refine I ?_
  refine⟨v,L,J,.inl ⟨loc (x,v) (xc z),?_⟩⟩
  have m:∀(l:List (xa×Value)),(l.map (·.1)).Nodup->l.lookup x=some v->l.reverse.lookup x=some v:=by
   intro l
   induction l with
   |nil=>intro _ q;exact nomatch q
   |cons y l D=>
    intro nd q
    obtain ⟨B,M⟩:=y
    simp only[vb,De] at nd
    rw[List.reverse_cons,List.lookup_append]
    rw[Ca] at q
    cases d:x==B with
    |true=>
     rw[d] at q
     have:=eq_of_beq d
     subst this
     have H:l.reverse.lookup x=none:=by
      cases C:l.reverse.lookup x with
      |none=>rfl
      |some u=>exact absurd (zd (f:=(·.1)) (List.mem_reverse.mp (xc C))) nd.1
     rw[H]
     simpa using q
    |false=>
     rw[d] at q
     rw[D nd.2 q];rfl
  exact m binds nd z
end
theorem xq{s:aa}{h':Na}(n:Nat)(a:∀x o,s.heap.get? x=some o->h'.get? x=some o):Kp s {s with heap:=h',toks:=s.toks+n}:=⟨_,_,rfl,a⟩
noncomputable def Ki:List cb:=(yf (sv 2 "__get__")).2.1
theorem O3(w:ja):Fn (EO w) (WS w) 42 Ki:=⟨by kernel_rfl,by kernel_rfl,by kernel_rfl,by kernel_rfl,by kernel_rfl,by kernel_rfl⟩
theorem jV:Ki=[ma Ki 0,ma Ki 1,ma Ki 2]:=by kernel_rfl
theorem iV:ma Ki 0=.If (.Compare (.Name "obj" (ch (aV (ma Ki 0)) 0).pos) [.Is] [.Constant .none 0 (ch (aV (ma Ki 0)) 1).pos] (aV (ma Ki 0)).pos) (aB (ma Ki 0)) [] (aP (ma Ki 0)):=by kernel_rfl
theorem gV:ma Ki 1=.If (.UnaryOp .Not (ch (aV (ma Ki 1)) 0) (aV (ma Ki 1)).pos) (aB (ma Ki 1)) [] (aP (ma Ki 1)):=by kernel_rfl
theorem fV:ch (aV (ma Ki 1)) 0=.Call (.Name "issubclass" (ch (ch (aV (ma Ki 1)) 0) 0).pos) [.Call (.Name "type" (ch (ch (ch (aV (ma Ki 1)) 0) 1) 0).pos) [.Name "obj" (ch (ch (ch (aV (ma Ki 1)) 0) 1) 1).pos] [] (ch (ch (aV (ma Ki 1)) 0) 1).pos,.Name "tuple" (ch (ch (aV (ma Ki 1)) 0) 2).pos] [] (ch (aV (ma Ki 1)) 0).pos:=by kernel_rfl
theorem eV:ma Ki 2=.Return (some (.Call (.Attribute (.Name "tuple" (ch (ch (aV (ma Ki 2)) 0) 0).pos) "__getitem__" (ch (aV (ma Ki 2)) 0).pos) [.Name "obj" (ch (aV (ma Ki 2)) 1).pos,.Attribute (.Name "self" (ch (ch (aV (ma Ki 2)) 2) 0).pos) "index" (ch (aV (ma Ki 2)) 2).pos] [] (aV (ma Ki 2)).pos)) (aP (ma Ki 2)):=by kernel_rfl
theorem OM{w:ja}{s:aa}(F:Fk w s.heap)(a b c:Value):Sf s (fdOf (EO w)) ⟨[a,b,c],[]⟩ [("self",a),("obj",b),("objtype",c)]:=by
 intro M A E Q d
 show wpAny M A (Px (.ref 36)>>=_) Q E s
 refine zb (Qd (n:=0) (F.t (36,KY w) (sa 3 rfl)) (items:=#[.none]) (by kernel_rfl) ?_)
 exact Aa (a:=([("self",a),("obj",b),("objtype",c)]:List (xa×Value))) (by kernel_rfl) d
noncomputable abbrev Nl(ed:la)(ia ib ic:Int)(ta tb tc:Nat):Sa:=⟨.ref 135,some ed,.seq ⟨[.int ia ta,.int ib tb,.int ic tc]⟩ 0,⟨[]⟩⟩
section
variable{w:ja}{A:ua}{N:Nat}{s:aa}
set_option tactic.hygienic true
theorem eE{e ed a:la}{ia ib ic v:Int}{ta tb tc O:Nat}{k:Int}{tk:Nat}(g:GA (N+4) A)(F:Fk w s.heap)(he:s.heap.get? e=some (Nl ed ia ib ic ta tb tc))
  (p:∀{A:ua} {s':aa} {Q:Value->aa->Prop},A.handled=none->Fk w s'.heap->(∀h',(∀x o,s'.heap.get? x=some o->h'.get? x=some o)->Q (.int k tk) {s' with heap:=h',toks:=s'.toks+1})->wpAny (ka PP w) A (Gh (.ref a) "index" true) Q Jc s')
  (n:∀{A:ua} {s':aa} {Q:Value->aa->Prop},A.handled=none->Fk w s'.heap->s'.heap.get? e=some (Nl ed ia ib ic ta tb tc)->(∀h',(∀x o,s'.heap.get? x=some o->h'.get? x=some o)->Q (.int v O) {s' with heap:=h',toks:=s'.toks+0})->
   wpAny (ka PP w) A (call (.builtin "tuple.__getitem__") [.ref e,.int k tk]) Q Jc s')
  {Q:Value->aa->Prop} (hQ:∀s',Kp s s'->Q (.int v O) s'):wpAny (ka PP w) A (call (.ref 43) [.ref a,.ref e,.ref 135]) Q Jc s:=by
 refine rB (N:=N+2) (G:=GW w) (rd:=[]) (σ:=[("self",.addr a),("obj",.addr e)]) (adr:=λ_=>0) (O3 w) g (cf F) (F.t (43,EO w) (sa 4 rfl)) (F.t (42,WS w) (sa 15 rfl))
  (OM F _ _ _) (by kernel_rfl) (by kernel_rfl) (by kernel_rfl) ⟨⟨rfl,rfl,nofun⟩,⟨rfl,rfl,nofun⟩,trivial⟩ (λx y ns ms _ e=>(Df rfl e).elim) λenv l L z j=>?_
 have nm:∀{x:xa} {r:la} {s':aa} {pos:xd} {Q:Value->aa->Prop},St (GW w) env [] [("self",.addr a),("obj",.addr e)] (λ_=>0) s (Fw s) s'->([("self",.addr a),("obj",.addr e)]:List (xa×P)).lookup x=some (.addr r)->Gd x=false->Q (.ref r) s'->wpAny (ka PP w) (A.deeper env) (eval (.Name x pos) env) Q Jc s':=by
  intro x r s' pos Q B hx Y I
  refine Nc λhC=>?_;obtain ⟨v,hv,m,_⟩:=B.look x _ hx;refine hC ?_
  have m:v=.ref r:=m
  subst m
  exact Md B.kind hv (Tg Y).1 (Tg Y).2 I
 have u:=z.hd
 have D:∀{x:xa} {v:Value} {s':aa} {pos:xd} {Q:Value->aa->Prop},St (GW w) env [] [("self",.addr a),("obj",.addr e)] (λ_=>0) s (Fw s) s'->env.kindOf x=some .globalImplicit->(GW w).mg x=none->Zg x=some v->x≠"__name__"->(x==("__debug__":xa))=false->Q v s'->wpAny (ka PP w) (A.deeper env) (eval (.Name x pos) env) Q Jc s':=
  λB h1 h2 h3 M h5 I=>name_buil B.re h1 h2 h3 M h5 I
 have E:∀x,env.kindOf x=(fdOf (EO w)).scope.names.lookup x:=λx=>by unfold bc;rw[L]
 rw[jV]
 refine wpAny_execs_cons (Lb (Q:=λf h=>f=.next/\Kp l h) ?_ (λf h q=>?_) λ_ _ q=>q)
 ·rw[iV]
  refine W5 (Je (nm j rfl rfl (Xi ?_)))
  refine is_none_ne (by intro q;exact nomatch q) (Zd ?_)
  exact Fd ⟨rfl,.Ce⟩
 obtain ⟨rfl,V⟩:=q
 have c:=j.step V
 refine wpAny_execs_cons (Lb (Q:=λf h=>f=.next/\Kp l h) ?_ (λf T q=>?_) λ_ _ q=>q)
 ·rw[gV,fV]
  refine W5 (isTrue_not ?_)
  refine isTrue_plain ?_
  refine Yc ⟨_,_,rfl⟩ (D c ((E _).trans (by kernel_rfl)) (ke w (by decide)) (v:=.builtin "issubclass") (by kernel_rfl) (by decide) (by decide) ?_)
  refine md (xs:=[eval (.Call _ _ [] _) env,eval (.Name _ _) env]) (show 2<=30 by decide) ?_
  refine Yc ⟨_,_,rfl⟩ (D c ((E _).trans (by kernel_rfl)) (ke w (by decide)) (v:=.type "type") (by kernel_rfl) (by decide) (by decide) ?_)
  refine md (xs:=[eval (.Name _ _) env]) (show 1<=30 by decide) ?_
  refine nm c rfl rfl ?_
  refine Aa (a:=Xa) rfl ?_
  have F2:=F.kp c.kp
  have J:=c.kp.get he
  refine JX (ed:=ed) u F2 J λh3 C=>?_
  have b:=c.step (xq 0 C)
  refine D b ((E _).trans (by kernel_rfl)) (ke w (by decide)) (v:=.type "tuple") (by kernel_rfl) (by decide) (by decide) ?_
  refine Aa (a:=Xa) rfl ?_
  refine V6 u (F.kp b.kp) λM H=>?_
  refine Zd ?_
  refine Fd ⟨rfl,V.trans' ((xq 0 C).trans' (xq 0 H))⟩
 obtain ⟨rfl,C⟩:=q
 have b:=j.step C
 have F3:=F.kp b.kp
 rw[eV]
 refine wpAny_execs_cons (wpAny_Return_some ?_)
 refine nv rfl (by kernel_rfl) (by kernel_rfl) ?_
 refine D b ((E _).trans (by kernel_rfl)) (ke w (by decide)) (v:=.type "tuple") (by kernel_rfl) (by decide) (by decide) ?_
 refine H3 u F3 λM H=>?_
 have d:=b.step (xq 1 H)
 refine md (xs:=[eval (.Name _ _) env,eval (.Attribute _ _ _) env]) (show 2<=30 by decide) ?_
 refine nm d rfl rfl ?_
 refine gf (nm d rfl rfl ?_)
 refine p u (F.kp d.kp) λh5 k5=>?_
 have i:=d.step (xq 1 k5)
 refine Aa (a:=Xa) rfl ?_
 refine n u (F.kp i.kp) (i.kp.get he) λh6 k6=>?_
 exact⟨_,rfl,hQ _ ((i.step (xq 0 k6)).kp)⟩
end
set_option tactic.hygienic false
theorem UL:xf wi "tuple.__getattribute__"=some Builtin.«object.__getattribute__»:=by
 exact entryFor_alias (id':="object.__getattribute__") (by rw[Qn];kernel_rfl) (by rfl) (by decide +kernel) (by rw[Qn];kernel_rfl)
theorem TL:LI "tuple.__getattribute__"=true:=by decide +kernel
section
variable{w:ja}{A:ua}{N:Nat}{s:aa}
theorem az{nm:xa}{e ed a:la}{ia ib ic v:Int}{ta tb tc l:Nat}(g:GA (N+8) A)(F:Fk w s.heap)(he:s.heap.get? e=some (Nl ed ia ib ic ta tb tc))(hed:s.heap.get? ed=some (Ga [] 0))
  (d:∀{A:ua} {s':aa} {Q:Unit->aa->Prop} {E:Value->aa->Prop} {t:Nat},A.handled=none->Fk w s'.heap->s'.heap.get? e=some (Nl ed ia ib ic ta tb tc)->(∀h',(∀x o,s'.heap.get? x=some o->h'.get? x=some o)->Q () {s' with heap:=h',toks:=s'.toks+0})->
   wpAny (ka PP w) A (Ac "tuple.__getattribute__" ⟨[.ref e,.str nm t],[]⟩) Q E s')
  (b:∀{A:ua} {s':aa} {Q:PySem.Builtin.ObjectAttr.Found->aa->Prop} {E:Value->aa->Prop},A.handled=none->Fk w s'.heap->s'.heap.get? e=some (Nl ed ia ib ic ta tb tc)->s'.heap.get? ed=some (Ga [] 0)->(∀h',(∀x o,s'.heap.get? x=some o->h'.get? x=some o)->Q (PySem.Builtin.ObjectAttr.Found.bind (.ref 43) (.ref a)) {s' with heap:=h',toks:=s'.toks+0})->
   wpAny (ka PP w) A (PySem.Builtin.ObjectAttr.find (.ref e) (.ref 135) nm) Q E s')
  (c:∀{A:ua} {s':aa} {Q:Value->aa->Prop},GA (N+4) A->Fk w s'.heap->s'.heap.get? e=some (Nl ed ia ib ic ta tb tc)->(∀Ng,Kp s' Ng->Q (.int v l) Ng)->wpAny (ka PP w) A (call (.ref 43) [.ref a,.ref e,.ref 135]) Q Jc s')
  {Q:Value->aa->Prop} (B:∀s' t,Kp s s'->Q (.int v t) s'):wpAny (ka PP w) A (Gh (.ref e) nm true) Q Jc s:=by
 have f:=g.hd
 delta Gh
 refine zb (JI ?_)
 have j:Kp s {s with toks:=s.toks+1}:=.tok _
 delta getAttrBy
 refine Ma ?_
 refine zb (SW (j.get he) ?_)
 refine Ua (S6 f (F.kp j) λI z=>?_)
 have n:=j.trans' (xq 0 z)
 dsimp only
 rw[if_neg (by decide)]
 unfold getAttrByItsOwn hookBefore
 refine zb ?_
 rw[if_pos (by decide)]
 refine R6 f (F.kp n) λH y=>?_
 have m:=n.trans' (xq 0 y)
 refine zb (gh (Ma ?_))
 delta callGetattribute
 rw[if_neg (by decide)]
 delta boundAndCalled
 refine zb (oV (e:=e) (ed:=ed) (ia:=ia) (ib:=ib) (ic:=ic) (ta:=ta) (tb:=tb) (tc:=tc) f (F.kp m) λG u=>?_)
 have K3:=m.trans' (xq 0 u)
 dsimp only
 show wpAny _ _ (call (.builtin "tuple.__getattribute__") [.ref e,.str nm s.toks] []) _ _ _
 refine fu (FN TL UL (d f (F.kp K3) (K3.get he) λD r=>?_))
 have h:=K3.trans' (xq 0 r)
 unfold Builtin.«object.__getattribute__»
 refine zb (Aa (a:=(.ref e,[.str nm s.toks])) rfl ?_)
 dsimp only
 refine zb (Aa (a:=nm) rfl ?_)
 refine zb (SW (h.get he) ?_)
 refine zb (b (A:=A.in1) f (F.kp h) (h.get he) (h.get hed) λC p=>?_)
 have i:=h.trans' (xq 0 p)
 dsimp only
 delta PySem.Builtin.ObjectAttr.bindTo
 dsimp only
 refine zb (Ma (Lb (c (A:=A.in1) ((g.mono (by lia:N+5<=N+8)).in1) (F.kp i) (i.get he) λs' k=>?_) (λv s' q=>q) λZ Z q=>q.elim))
 refine pa ?_
 exact Aa (a:=.int v l) rfl (B _ _ (i.trans' k))
theorem oM{e ed:la}{ia ib ic:Int}{ta tb tc:Nat}(g:GA (N+8) A)(F:Fk w s.heap)(he:s.heap.get? e=some (Nl ed ia ib ic ta tb tc))(hed:s.heap.get? ed=some (Ga [] 0)){Q:Value->aa->Prop}(c:∀s' t,Kp s s'->Q (.int ib t) s'):
  wpAny (ka PP w) A (Gh (.ref e) "num_total" true) Q Jc s:=
 az g F he hed (λb F h a=>VL b F h a) (λb F h hd a=>S3 (e:=e) (ed:=ed) (ia:=ia) (ib:=ib) (ic:=ic) (ta:=ta) (tb:=tb) (tc:=tc) b F a) (λg F h a=>eE g F h (λb F a=>o8 b F a) (λb F h a=>n2 b F h a) a) c
theorem RF{e ed:la}{ia ib ic:Int}{ta tb tc:Nat}(g:GA (N+8) A)(F:Fk w s.heap)(he:s.heap.get? e=some (Nl ed ia ib ic ta tb tc))(hed:s.heap.get? ed=some (Ga [] 0)){Q:Value->aa->Prop}(c:∀s' t,Kp s s'->Q (.int ic t) s'):
  wpAny (ka PP w) A (Gh (.ref e) "num_data" true) Q Jc s:=
 az g F he hed (λb F h a=>VL b F h a) (λb F h hd a=>Q3 (e:=e) (ed:=ed) (ia:=ia) (ib:=ib) (ic:=ic) (ta:=ta) (tb:=tb) (tc:=tc) b F a) (λg F h a=>eE g F h (λb F a=>n8 b F a) (λb F h a=>i2 b F h a) a) c
theorem HH{e ed:la}{ia ib ic:Int}{ta tb tc:Nat}(g:GA (N+8) A)(F:Fk w s.heap)(he:s.heap.get? e=some (Nl ed ia ib ic ta tb tc))(hed:s.heap.get? ed=some (Ga [] 0)){Q:Value->aa->Prop}(c:∀s' t,Kp s s'->Q (.int ia t) s'):
  wpAny (ka PP w) A (Gh (.ref e) "num_blocks" true) Q Jc s:=
 az g F he hed (λb F h a=>VL b F h a) (λb F h hd a=>U3 (e:=e) (ed:=ed) (ia:=ia) (ib:=ib) (ic:=ic) (ta:=ta) (tb:=tb) (tc:=tc) b F a) (λg F h a=>eE g F h (λb F a=>p8 b F a) (λb F h a=>A2 b F h a) a) c
end
noncomputable def dg(b:Bool):Nat:=if b then 49 else 48
noncomputable def bv(b:Bool):Int:=if b then 1 else 0
noncomputable def GB(h g f e d c b a:Bool):Int:=128*bv h+64*bv g+32*bv f+16*bv e+8*bv d+4*bv c+2*bv b+bv a
noncomputable def allB:Nat->List (List Bool)
 |0=>[[]]
 |n+1=>(allB n).flatMap λl=>[false::l,true::l]
theorem pA:∀(l:List Bool),l∈allB l.length
 |[]=>.head _
 |b::l=>List.mem_flatMap.mpr ⟨l,pA l,by cases b;exact .head _;exact .tail _ (.head _)⟩
theorem fgB:(allB 8).map (λl=>(int_private% "readNumeral") 0 2 (l.map dg))=(allB 8).map λl=>(int_private% "Numeral.value") (GB (l.getD 0 false) (l.getD 1 false) (l.getD 2 false) (l.getD 3 false) (l.getD 4 false) (l.getD 5 false) (l.getD 6 false) (l.getD 7 false)):=by kernel_rfl
theorem AY(h g f e d c b a:Bool):(int_private% "readNumeral") 0 2 [dg h,dg g,dg f,dg e,dg d,dg c,dg b,dg a]=(int_private% "Numeral.value") (GB h g f e d c b a):=
 List.map_inj_left.mp fgB [h,g,f,e,d,c,b,a] (pA [h,g,f,e,d,c,b,a])
theorem dJ{M:pj}{A:ua}{E:Value->aa->Prop}{s:aa}{Q:Value->aa->Prop}{v:Value}{a:List Nat}{n:Int}
  (b:(a.takeWhile (· != 0)).length<=640) (hr:(int_private% "readNumeral") 0 2 (a.takeWhile (· != 0))=(int_private% "Numeral.value") n)
  (c:((a.takeWhile (· != 0)).length==a.length)=true) (h:Q (.int n s.toks) {s with toks:=s.toks+1}):
  wpAny M A ((int_private% "intFromText") v a 2) Q E s:=by
 obtain ⟨hp,g,d,tk,os⟩:=s
 repeat (any_goals (first
  |assumption
  |(with_reducible refine Dm (decide_eq_true b) ?_)
  |(with_reducible refine Dm (decide_eq_true c) ?_)
  |wp_step))
 all_goals (try rw[hr])
 all_goals (try dsimp only)
 repeat (any_goals (first
  |assumption
  |(with_reducible refine Dm (decide_eq_true b) ?_)
  |(with_reducible refine Dm (decide_eq_true c) ?_)
  |wp_step))
structure B9(p:Prop):Prop where
 out:p
structure dI(x:PySem.Str)(n:Int):Prop where
 asc:x.cps.all (· < 128)=true
 nz:x.cps.toList.takeWhile (· != 0)=x.cps.toList
 sz:x.cps.toList.length<=640
 val:(int_private% "readNumeral") 0 2 x.cps.toList=(int_private% "Numeral.value") n
theorem NA{x:PySem.Str}{u t:jg}{n:Int}(b:dI x n):Gives (Builtin.«int.__new__» ⟨[.type "int",.str x u,.int 2 t],[]⟩) (.int n):=
 .of_wp λM A E s Q h=>by
  obtain ⟨hp,g,d,tk,os⟩:=s
  have i:=F.conv_sub_int
  have f:=F.madeHere_int
  have e:typeOf (.str x u)=pure (.type "str"):=rfl
  have c:(if x.cps.all (· < 128)=true then x.cps.toList else Unicode.numberText x.cps.toList)=x.cps.toList:=if_pos b.asc
  have a:=B9.mk (And.intro b c)
  clear b c
  repeat (any_goals (first
   |assumption
   |((with_reducible show wpAny _ _ ((int_private% "intFromText") _ _ _) _ _ _);rw[a.out.2];refine dJ (by rw[a.out.1.nz];exact a.out.1.sz) (by rw[a.out.1.nz];exact a.out.1.val) (by rw[a.out.1.nz];exact beq_self_eq_true _) ?_)
   |wp_step))
  all_goals first|exact⟨_,rfl,h⟩|skip
theorem vu(a b:Value):checkTypeCall "int" ⟨[a,b],[]⟩=pure ():=by kernel_rfl
theorem xw(a b:Value):Ac "int.__new__" ⟨[.type "int",a,b],[]⟩=pure ():=by kernel_rfl
section
variable{prog:wa}{w:ja}{A:ua}{E:Value->aa->Prop}{s:aa}
theorem QH{x:PySem.Str}{t u:jg}{n:Int}{Q:Value->aa->Prop}(b:dI x n)(h:Q (.int n s.toks) {s with toks:=s.toks+1}):wpAny (ka prog w) A (call (.type "int") [.str x t,.int 2 u]) Q E s:=
 callType_new F.called_int F.newNe_int (vu _ _) (xw _ _) (λa=>Jq a _ _) F.entry_int_new (NA b).meets (show(Made.int n).post _ s from⟨rfl,h⟩)
end
noncomputable def jJ(l:List Bool):PySem.Str:=⟨(l.map dg).toArray⟩
theorem hS(j i g f e d c a:Bool):dI (jJ [j,i,g,f,e,d,c,a]) (GB j i g f e d c a):=by
 refine⟨?_,?_,?_,?_⟩
 ·unfold jJ
  simp only[List.all_toArray,List.all_map]
  rw[Rt]
  intro b _
  cases b <;> rfl
 ·have h:∀l:List Bool,(l.map dg).takeWhile (· != 0)=l.map dg:=by
   intro l
   induction l with
   |nil=>rfl
   |cons b l k=>rw[vb,oG,k];cases b <;> rfl
  exact h _
 ·exact(show 8<=640 by decide)
 ·exact AY ..
theorem Di:CC "map" "__next__" "map.__next__":=
 .of (owner:="map") (n:="__next__") (by rw[xb,Pa];kernel_rfl) (by decide +kernel) (by decide +kernel) (by decide +kernel)
  (.inl (by decide +kernel)) (by rw[pd];kernel_rfl)
theorem Rp:CC "map" "__iter__" "map.__iter__":=
 .of (owner:="map") (n:="__iter__") (by rw[xb,Pa];kernel_rfl) (by decide +kernel) (by decide +kernel) (by decide +kernel)
  (.inl (by decide +kernel)) (by rw[pd];kernel_rfl)
theorem Bw:CC "map" "__init__" "object.__init__":=
 .of (owner:="object") (n:="__init__") (by rw[xb,Pa];kernel_rfl) (by decide +kernel) (by decide +kernel) (by decide +kernel)
  (.inl (by decide +kernel)) (by rw[pd];kernel_rfl)
theorem uo:xf wi "map.__next__"=some Builtin.«map.__next__»:=Ud (by kernel_rfl)
theorem Cw:xf wi "map.__new__"=some Builtin.«map.__new__»:=Ud (by kernel_rfl)
theorem Nu:xf wi "map.__iter__"=some Builtin.«dict_keyiterator.__iter__»:=
 entryFor_alias (id':="dict_keyiterator.__iter__") (by kernel_rfl) (by rfl) (by decide +kernel) (by kernel_rfl)
theorem Sp(a:Value):Tn "map.__next__" ⟨[a],[]⟩:=by kernel_rfl
theorem Dw(a:Value):Tn "map.__iter__" ⟨[a],[]⟩:=by kernel_rfl
theorem xF:b6 (.type "map")=pure [.type "map",.type "object"]:=by rw[mroOf_type];kernel_rfl
theorem Qu:vc (.type "map") "__new__"=pure (some (.builtin "map.__new__")):=by rw[xb,Pa];kernel_rfl
theorem cF:lI (.type "map") (.type "map")=pure true:=by rw[pd];kernel_rfl
theorem lE:TypeCalled "map" "map.__new__" "object.__init__":=
 ⟨by decide +kernel,by decide +kernel,⟨_,_,xF⟩,madeBy_type xF Qu (by decide +kernel),by decide +kernel,cF,Bw⟩
theorem uu(a b:Value):checkTypeCall "map" ⟨[a,b],[]⟩=pure ():=by kernel_rfl
theorem uw(a b:Value):Ac "map.__new__" ⟨[.type "map",a,b],[]⟩=pure ():=by kernel_rfl
theorem xD:vc (.type "map") "__len__"=pure none:=by rw[xb,Pa];kernel_rfl
theorem vA:vc (.type "map") "__length_hint__"=pure none:=by rw[xb,Pa];kernel_rfl
noncomputable abbrev wA(h:Na)(l:la):Na:=h.push {cls:=.type "list_iterator",data:=.fields #[.ref l,.int 0 0]}
noncomputable abbrev Yw(h:Na)(l:la):Na:=(wA h l).push {cls:=.type "tuple",data:=.seq #[.ref h.objs.size]}
noncomputable abbrev Ws(h:Na)(l:la):Na:=(Yw h l).push {cls:=.type "map",data:=.fields #[.ref (wA h l).objs.size,.type "str"]}
theorem Aw(l:la)(xs:Array Value):
  Meets (Builtin.«map.__new__» ⟨[.type "map",.type "str",.ref l],[]⟩) (λZ R s=>s.heap.IsList l xs /\
   R (.ok (.ret (.ref (Yw s.heap l).objs.size))) {s with heap:=Ws s.heap l}):=
 .of_wp λprog w A R s h=>by
  obtain ⟨hp,g,d,tk,os⟩:=s;refine h.elim λa h=>?_
  have c:=cF
  have b:Heap.IsList (YB ⟨hp,g,d,tk,os⟩) l xs:=a
  wp_walk using Xg b
  exact⟨_,rfl,h⟩
section
variable{prog:wa}{w:ja}{A:ua}{E:Value->aa->Prop}{s:aa}
theorem wM{l:la}{xs:Array Value}{Q:Value->aa->Prop}(b:s.heap.IsList l xs)
  (h:Q (.ref (Yw s.heap l).objs.size) {s with heap:=Ws s.heap l}):wpAny (ka prog w) A (call (.type "map") [.type "str",.ref l]) Q E s:=by
 refine callType_new lE (by decide) (uu _ _) (uw _ _) (λa=>Jq a _ _) Cw (Aw l xs) ⟨b,?_⟩
 exact⟨⟨_,ra _ rfl,rfl⟩,h⟩
structure fG(h:Na)(M T I l:la)(i:Nat)(vs:Array Value):Prop where
 m:h.get? M=some {cls:=.type "map",data:=.fields #[.ref T,.type "str"]}
 t:h.get? T=some {cls:=.type "tuple",data:=.seq #[.ref I]}
 i:h.IsListIter I l i
 l:h.IsList l vs
theorem NK{M T I l:la}{i:Nat}{vs:Array Value}{Q:Value->aa->Prop}(m:fG s.heap M T I l i vs)(h:Q (.ref M) s):wpAny (ka prog w) A (wh (.ref M)) Q E s:=by
 have hT:s.TypeIs (.ref M) "map":=⟨_,m.m,rfl⟩
 refine aw hT Rp (qc Rp hT Nu ?_ (Dw _))
 show wpAny _ _ (ret (.ref M)) _ _ s
 exact pa ⟨_,rfl,"map",_,hT,Di.lookup,h⟩
theorem PK{M T I l:la}{i:Nat}{vs:Array Value}{n:Int}{u:jg}{Q:Option Value->aa->Prop}(m:fG s.heap M T I l i vs)(hv:vs[i]?=some (.int n u))(j:n.natAbs.log2 < 1920)
  (h:∀h' t tk,h'.IsListIter I l (i+1)->Ad I s.heap h'->Q (some (.str (toString n) t)) {s with heap:=h',toks:=tk}):wpAny (ka prog w) A (Qg (.ref M)) Q E s:=by
 have hT:s.TypeIs (.ref M) "map":=⟨_,m.m,rfl⟩
 delta Qg
 refine zb (gh (Ub (name:=qa "__next__") hT Di
  (qc Di hT uo ?_ (Sp _))))
 unfold Builtin.«map.__next__»
 refine zb (Aa (a:=(.ref M,[])) rfl ?_)
 dsimp only
 refine zb (Zc m.m rfl (x:=.ref T) rfl ?_)
 refine Ua (Qd m.t rfl ?_)
 dsimp only
 simp only[rI,de,El]
 refine zb (zb (zb (Ma ?_)))
 refine wpAny_nextOf_list_item m.i m.l hv λk d b=>?_
 have g:M≠I:=by
  rintro rfl
  obtain ⟨o,e,c,_⟩:=m.i
  have:=m.m
  rw[e] at this;cases this
  exact absurd (ME c) (by decide)
 have f:=(b.2 M g).trans m.m
 refine pa (pa ?_)
 refine zb (Zc f rfl (x:=.type "str") rfl ?_)
 refine zb (Ma (P.str_of_int j ?_))
 refine zb (Nn ?_)
 refine pa ⟨_,rfl,pa ?_⟩
 exact h _ _ _ d b
theorem RO{M T I l:la}{i:Nat}{vs:Array Value}{Q:Option Value->aa->Prop}(f:A.handled=none)(m:fG s.heap M T I l i vs)(hv:vs[i]?=none)
  (h:∀h',bj I s.heap h'->Q none {s with heap:=h'}):wpAny (ka prog w) A (Qg (.ref M)) Q E s:=by
 have hT:s.TypeIs (.ref M) "map":=⟨_,m.m,rfl⟩
 delta Qg
 refine zb (gh (Ub (name:=qa "__next__") hT Di
  (qc Di hT uo ?_ (Sp _))))
 unfold Builtin.«map.__next__»
 refine zb (Aa (a:=(.ref M,[])) rfl ?_)
 dsimp only
 refine zb (Zc m.m rfl (x:=.ref T) rfl ?_)
 refine Ua (Qd m.t rfl ?_)
 dsimp only
 simp only[rI,de,El]
 refine zb (zb (zb (Ma ?_)))
 refine wpAny_nextOf_list_end f m.i m.l hv λg e c he=>?_
 obtain ⟨o,d,hc⟩:=he
 refine zb (zf (T:="StopIteration") (b:=true) ⟨o,d,hc⟩ wC ?_)
 exact pa (h _ c)
theorem Walks.map(x:A.handled=none){M T I l:la}(j:M≠I)(hTI:T≠I)(g:l≠I)(ns:List Int)(vs:List Value)(hi:IntsAre vs ns)(r:∀n∈ns,n.natAbs.log2 < 1920):
  Walks prog w A M [M,T,I,l] [I] ns.length (λi v=>∃t,v=.str (toString (ns.getD i 0)) t) (λi h=>fG h M T I l i vs.toArray) where
 sub:=λb hb=>by simp at hb;simp[hb]
 frame:=λZ Z Z st f=>⟨f M (by simp) _ st.m,f T (by simp) _ st.t,st.i.at λo e=>f I (by simp) o e,st.l.at λo e=>f l (by simp) o e⟩
 item:=λi s Q E a st c=>by
  have k:=hi.length
  refine(Fy hi i (by lia)).elim λu p=>?_
  refine PK st (n:=ns.getD i 0) (u:=u) (by rw[List.getElem?_toArray,Wb (by lia),p]) (r _ ?_) λh' t tk it d=>?_
  ·rw[Ra,Wb a];exact pn a
  ·exact c _ h' tk ⟨t,rfl⟩ ⟨(d.2 M j).trans st.m,(d.2 T hTI).trans st.t,it,st.l.extBut d.extBut g⟩ λb o hb e=>d.extBut b o (λq=>hb (by simp[q])) e
 done:=λs Q E st c=>RO x st (by simp[hi.length]) λh' he=>c h' s.toks λb o hb e=>he b o (λq=>hb (by simp[q])) e
 self:=λZ Z Z Z st c=>NK st c
end
section
variable{prog:wa}{w:ja}{A:ua}{E:Value->aa->Prop}{s:aa}
variable{I:la}{fp wr:List la}{G:Array Bc->Array Bc->Prop}{n:Nat}{P:Nat->Value->Prop}{St:Nat->aa->Prop}
theorem MH{T:String}{Q:List Value->aa->Prop}(z:vc (.type T) "__len__"=pure none)(B:vc (.type T) "__length_hint__"=pure none)(u:(od T==od "list")=false)(t:(od T==od "tuple")=false)
  (W:WalksS prog w A.in1 I fp wr G n P St) (hT:∀i s,St i s->s.TypeIs (.ref I) T) (q:St 0 s) (r:∀b∈fp,b < s.heap.objs.size) (hI:I∈fp)
  (C:∀s' yg,Moved wr G s s'->ItemsOf P yg n->Q yg.toList s') (y:n<=Kb:=by size_fits):wpAny (ka prog w) A (collect (.ref I)) Q E s:=by
 have g:s.heap.objs.size∉fp:=λhm=>Xe _ (r _ hm)
 have v:s.heap.objs.size≠I:=λe=>g (e▸hI)
 unfold collect
 refine zb (wpAny_runValue (Y4 F.entry_proto_collect ?_))
 rw[vf F.plain_proto_collect _]
 show wpAny _ A.in1 (oW []>>=λl=>again (.builtin "list.__iadd__" ⟨[l,.ref I],[]⟩)) _ _ s
 refine zb (Uc ?_)
 refine pa ⟨qg DQ _,Y4 F.entry_list_iadd ?_⟩
 rw[vf DQ _]
 have a:=W.frame 0 s (s.heap.push {cls:=.type "list",data:=.seq ([]:List Value).toArray}) s.toks q (Ab _) λb Z o e=>fa _ e
 show wpAny _ A.in1 (kd (.ref s.heap.objs.size) (.ref I) (.ref s.heap.objs.size)) _ _ _
 unfold kd
 refine Ua (rk (hT 0 _ a) ?_)
 have D:bf (.ref s.heap.objs.size) (.ref I)=false:=by simp[bf,v]
 rw[D,u,t]
 refine zb (m:=wh (.ref I)) (W.self 0 _ _ _ a ?_)
 refine zb (Ma ?_)
 unfold Mj
 refine zb (ab (hT 0 _ a) z ?_)
 show wpAny _ A.in1 (Lj (ri I) (qa "__length_hint__")>>=_) _ _ _
 refine zb (ab (hT 0 _ a) B ?_)
 refine pa ?_
 show wpAny _ A.in1 (rule "list.extend.makes-room">>=λZ=>A5 (.ref s.heap.objs.size)>>=λZ=>
  again (.builtin "list.extend.loop" ⟨[.ref s.heap.objs.size,.ref I,.ref s.heap.objs.size],[]⟩)) _ _ _
 refine zb (eh ?_)
 have d:(s.heap.push {cls:=.type "list",data:=.seq ([]:List Value).toArray}).get? s.heap.objs.size=some {cls:=.type "list",data:=.seq ([]:List Value).toArray}:=ra _ rfl
 refine zb ?_
 show wpAny _ A.in1 (Hs s.heap.objs.size (·.push .none)>>=λZ=>Hs s.heap.objs.size (·.pop)) _ _ _
 refine zb (vj d rfl ?_)
 have c:=zc (Rd (·.push Cn)) d rfl
 refine vj c rfl ?_
 have f:=zc (Rd (·.pop)) c rfl
 have j:∀b o,b≠s.heap.objs.size->(s.heap.push {cls:=.type "list",data:=.seq ([]:List Value).toArray}).get? b=some o->
   (((s.heap.push {cls:=.type "list",data:=.seq ([]:List Value).toArray}).update s.heap.objs.size (Rd (·.push Cn))).update s.heap.objs.size (Rd (·.pop))).get? b=some o:=
  λb o hb e=>(Ea _ _ (Hb hb)).trans ((Ea _ _ (Hb hb)).trans e)
 refine pa ⟨qg Mr _,EN W y _ g _ n 0 _ _ _ rfl (Zb _)
  (W.frame 0 ({s with heap:=s.heap.push {cls:=.type "list",data:=.seq ([]:List Value).toArray}}:aa) _ s.toks a (Ab _) λb hb o e=>j b o (λh=>g (h▸hb)) e) f (AQ P) λs' p c' hm x k=>?_⟩
 show wpAny _ A (load s.heap.objs.size>>=_) _ _ s'
 refine zb (Gi x ?_)
 refine pa (C s' p (Moved.drop_new (o:={cls:=.type "list",data:=.seq ([]:List Value).toArray}) (tk:=s.toks) (uW W.gtrans ((nG W.grefl).then_heap (Ab _) λb o hb e=>?_) hm) (Ab _)) k)
 exact j b o (λh=>hb (h▸za)) e
theorem FU{T:String}{x:PySem.Str}{t:jg}{Q:Value->aa->Prop}(z:vc (.type T) "__len__"=pure none)(J:vc (.type T) "__length_hint__"=pure none)(o:(od T==od "list")=false)(m:(od T==od "tuple")=false)
  (W:WalksS prog w A.in1.in1 I fp wr G n P St) (hT:∀i s,St i s->s.TypeIs (.ref I) T) (d:St 0 s) (C:∀b∈fp,b < s.heap.objs.size) (hI:I∈fp)
  (h:∀i v,P i v->∃y u,v=Qj y u)
  (D:∀s' (l:List (PySem.Str×jg)),Moved wr G s s'->ItemsOf P (Js l).toArray n->j6 x (l.map (·.1))=true/\∀t' k,Q (.str (OR x (l.map (·.1))) t') {s' with toks:=k})
  (B:n<=Kb:=by size_fits):
  wpAny (ka prog w) A (call (.builtin "str.join") [.str x t,.ref I]) Q E s:=by
 refine fu (FN F.slot_str_join.plain F.entry_str_join (F.slot_str_join.check _ _ _ _ _ _ _ _ (typeIs_str _ _ _) (F.args_str_join_2 _ _) ?_))
 rw[join_tree_other]
 refine Ua (rk (hT 0 s d) ?_)
 rw[o,m]
 show wpAny _ A.in1 ((wh (.ref I)).tryCatch _>>=λit=>collect it>>=λitems=>joinTail x items) _ _ s
 refine zb (Br (W.of_in1.self 0 s _ _ d ?_))
 refine zb (MH z J o m W hT d C hI (λs' yg hm c=>?_) B)
 obtain ⟨l,z⟩:=exists_strValues yg.toList λv hv=>by
  obtain ⟨j,H,rfl⟩:=Array.mem_iff_getElem.mp (Array.mem_toList_iff.mp hv)
  exact h j _ (c.2 j _ (se H))
 rw[<- z]
 have f:ItemsOf P (Js l).toArray n:=by rw[z];simpa using c
 refine(D s' l hm f).elim λa e=>?_
 unfold j6 at a
 rw[Hf] at a
 have g:Gives (joinTail x (Js l)) (joinMade x l):=by
  have g0:=gives_joinTail x l a
  cases l with
  |nil=>exact g0
  |cons p r=>cases r with
   |nil=>exact g0
   |cons q L=>exact g0
 exact g prog w A (wants Q E) s' (post_join l ⟨joinFit_length a,e⟩)
end
noncomputable def sB(b:Bool):PySem.Str:=qa (toString (bv b))
theorem RQ(b:Bool):sB b=⟨#[dg b]⟩:=by cases b <;> rfl
theorem BS(b:Bool):(sB b).length=1:=by cases b <;> rfl
theorem dx:∀(l:List Bool) (yg:Array Nat),(l.map sB).foldl (λyg p=>yg++(qa "").cps++p.cps) yg=yg++(l.map dg).toArray
 |[],yg=>by simp
 |b::l,yg=>by
  rw[vb,Si,dx l,RQ]
  have e:(qa "").cps=#[]:=rfl
  rw[e]
  simp
theorem XG(l:List Bool):OR "" (l.map sB)=jJ l:=by
 cases l with
 |nil=>rfl
 |cons b l=>
  unfold OR z6 jJ
  simp only[vb,List.drop_one,List.tail_cons,List.headD_cons]
  have h:=dx l (sB b).cps
  rw[h,RQ]
  simp
theorem DA(l:List Bool)(h:l.length<=1000):j6 "" (l.map sB)=true:=by
 have a:∀(l:List Bool) (n:Nat),(l.map sB).foldl (λn x=>n+x.length+(qa "").length) n=n+l.length:=by
  intro l
  induction l with
  |nil=>intro n;rfl
  |cons b l c=>
   intro n
   rw[vb,Si,c,BS,fg]
   have:(qa "").length=0:=rfl
   lia
 unfold j6
 simp only[List.foldl_toArray]
 rw[a]
 simp[w6,Kb]
 lia
noncomputable def rj(ns:List Int):Int:=ns.foldl (λa b=>2*a+b) 0
noncomputable def ql(ns:List Int):Prop:=∀n∈ns,n=0\/n=1
theorem ql.G4{ns:List Int}(h:ql ns):Bh ns:=λn a=>by rcases h n a with rfl|rfl <;> decide
theorem ql.log{ns:List Int}(h:ql ns):∀n∈ns,n.natAbs.log2 < 1920:=λn a=>by rcases h n a with rfl|rfl <;> decide
theorem ql.c4{ns:List Int}(h:ql ns)(c:ns.length=8):∃l:List Bool,l.length=8/\ns=l.map bv:=by
 refine⟨ns.map λn=>decide (n=1),by simpa using c,?_⟩
 rw[Qs]
 have:∀ms:List Int,ql ms->ms=ms.map (bv∘λn=>decide (n=1)):=by
  intro ms
  induction ms with
  |nil=>intro _;rfl
  |cons m ms a=>
   intro hm
   rw[vb,<- a λn b=>hm n (ya _ b)]
   congr 1
   rcases hm m (za ..) with rfl|rfl <;> rfl
 exact this ns h
@[elab_as_elim] theorem KQ{α:Type}{n:Nat}{P:List α->Prop}{l:List α}(h:l.length=n+1)(k:∀a t,t.length=n->P (a::t)):P l:=by
 cases l with
 |nil=>exact nomatch h
 |cons a t=>exact k a t (Nat.succ.inj h)
theorem kJ{l:List Bool}(h:l.length=8):dI (jJ l) (rj (l.map bv)):=by
 refine KQ h λj l h=>KQ h λi l h=>KQ h λg l h=>KQ h λf l h=>KQ h λd l h=>KQ h λc l h=>KQ h λb l h=>KQ h λa l h=>?_
 obtain rfl:=mu h
 have e:rj ([j,i,g,f,d,c,b,a].map bv)=GB j i g f d c b a:=by
  simp only[rj,GB,vb,rl,Si,List.foldl_nil]
  lia
 rw[e]
 exact hS ..
section
variable{prog:wa}{w:ja}{A:ua}{E:Value->aa->Prop}{s:aa}
theorem iL{l:la}{vs:List Value}{n:Nat}{ns:List Int}{t:jg}{Q:Value->aa->Prop}(G:A.handled=none)(y:s.heap.get? l=some (Wa vs n))(hi:IntsAre vs ns)(hb:ql ns)(B:ns.length=8)
  (H:∀s' t' x,Kp s s'->dI x (rj ns)->Q (.str x t') s'):
  wpAny (ka prog w) A (call (.type "map") [.type "str",.ref l]) (λm d=>wpAny (ka prog w) A (call (.builtin "str.join") [.str "" t,m]) Q E d) E s:=by
 have z:s.heap.IsList l vs.toArray:=⟨_,y,rfl,n,rfl⟩
 refine wM z ?_
 have j:(wA s.heap l).objs.size=s.heap.objs.size+1:=Ec ..
 have h:(Yw s.heap l).objs.size=s.heap.objs.size+2:=by rw[Ec,j]
 have D:(Ws s.heap l).objs.size=s.heap.objs.size+3:=by rw[Ec,h]
 have Y:(Ws s.heap l).get? (Yw s.heap l).objs.size=some _:=ra _ rfl
 have g2:(Ws s.heap l).get? (wA s.heap l).objs.size=some _:=fa _ (ra _ rfl)
 have g1:(Ws s.heap l).get? s.heap.objs.size=some _:=fa _ (fa _ (ra _ rfl))
 have up:∀c o,s.heap.get? c=some o->(Ws s.heap l).get? c=some o:=λc o x=>fa _ (fa _ (fa _ x))
 have f:=Ba y
 have W:=Walks.map (prog:=prog) (w:=w) (A:=A.in1.in1) G (M:=(Yw s.heap l).objs.size) (T:=(wA s.heap l).objs.size) (I:=s.heap.objs.size) (l:=l) (by rw[h];exact Ee (En (by decide))) (by rw[j];exact Ee (Dd _)) (Va f) ns vs hi hb.log
 obtain ⟨u,r,rfl⟩:=hb.c4 B
 refine FU xD vA (by decide) (by decide) W.toS (λi s' st=>⟨_,st.m,rfl⟩) ?_ ?_ (za ..) (λi v hv=>?_) (λs' a hm p=>?_) (by rw[B];decide)
 ·exact⟨Y,g2,⟨_,g1,rfl,rfl⟩,z.at λo e=>up _ o e⟩
 ·intro b hb
  simp only[Ve,cg,or_false] at hb
  show b < (Ws s.heap l).objs.size
  rw[D]
  rw[h,j] at hb
  rcases hb with rfl|rfl|rfl|rfl
  ·exact Dd _
  ·exact En (n:=s.heap.objs.size+1) (k:=2) (by decide)
  ·exact En (by decide)
  ·exact Za f (Ed _ _)
 ·obtain ⟨t,rfl⟩:=hv;exact⟨_,_,rfl⟩
 ·have e:a.map (·.1)=u.map sB:=by
   refine p.elim λC V=>?_
   have g:a.length=u.length:=by
    have:(Js a).toArray.size=a.length:=by simp[Js]
    rw[this] at C
    simpa using C
   apply qn (by simpa using g)
   intro i O N
   have L:i < a.length:=by simpa using O
   have J:i < u.length:=by simpa using N
   refine(V i (.str a[i].1 a[i].2) (by simp[Js,L])).elim λt ht=>?_
   have:=(Value.str.inj ht).1
   simp only[dh]
   rw[this]
   simp[J,sB]
  rw[e]
  refine⟨DA _ (by lia),λt' k=>?_⟩
  rw[XG]
  refine H _ _ _ ?_ (kJ r)
  rw[wQ hm]
  refine⟨s'.heap,k,rfl,λb o e=>hm.heap b o (λq=>?_) (up b o e)⟩
  rw[List.mem_singleton.mp q] at e
  exact absurd (Ba e) (Xe _)
end
noncomputable def sJ:List cb:=(yf (sv 19 "toints")).2.1
noncomputable def YX:Oa:=aV (ma sJ 1)
noncomputable def RC:Oa:=ch YX 0
noncomputable def BW:me:=IH YX
theorem wt{prog:wa}{w:ja}{A:ua}{E:Value->aa->Prop}{s:aa}{env:Be}{a:Oa}{e d:Option Oa}{p pos:xd}{T id:String}{Q:Value->aa->Prop}
  (l:vc (.type T) "__getitem__"=pure (some (.builtin id)))
  (h:wpAny (ka prog w) A (eval a env) (λo j=>wpAny (ka prog w) A (eval (.Slice e d none p) env) (λi b=>b.TypeIs o T/\wpAny (ka prog w) A (Fh o i) Q E b) E j) E s):
  wpAny (ka prog w) A (eval (.Subscript a (.Slice e d none p) pos) env) Q E s:=by
 rw[eval_Subscript]
 refine zb (Lb h (λo j yb=>zb (Ma (ah yb (λi b c=>zb (wb ?_)))))
  λZ Z x=>x)
 have f:wpAny (ka prog w) A (iq [i,o] (Fh o i)) (λr g=>wpAny (ka prog w) A (letTemporaryGo a o r>>=λZ=>pure r) Q E g) E b:=
  wpAny_operating (ah c.2 (λr g k=>zb (wpAny_letTemporaryGo (pa k))))
 first
  |(refine zb ?_
    rw[getitemInPython_of_ne c.1.not_modules]
    refine zb (ab c.1 l ?_)
    first
     |exact pa (zb f)
     |exact zb (pa (zb f))
     |exact zb f)
  |(refine zb (ab c.1 l ?_)
    first
     |exact zb (pa (zb f))
     |exact zb f)
noncomputable def Xk(bs:List Int)(k:Nat):List Int:=(bs.drop k).take 8++Ha (k+8-bs.length) 0
theorem lr{bs:List Int}{k:Nat}(h:k<=bs.length):(Xk bs k).length=8:=by
 unfold Xk
 obtain ⟨d,e⟩:=Nat.le.dest h
 rw[Ya,yi,bh,Pd,<- e,lj,mG,Dj,Nat.sub_add_min_cancel]
theorem As{bs:List Int}(hb:ql bs)(k:Nat):ql (Xk bs k):=by
 intro n a
 exact(List.mem_append.mp a).elim (λh=>hb n (UE (SE h))) λh=>.inl (List.mem_replicate.mp h).2
theorem aY:RC=.Call (.Name "int" (ch RC 0).pos) [ch RC 1,.Constant (.int 2) 0 (ch RC 2).pos] [] RC.pos:=by kernel_rfl
theorem ZX:ch RC 1=.Call (.Attribute (.Constant (.str "") 0 (ch (ch (ch RC 1) 0) 0).pos) "join" (ch (ch RC 1) 0).pos) [ch (ch RC 1) 1] [] (ch RC 1).pos:=by kernel_rfl
noncomputable def zI:Oa:=ch (ch RC 1) 1
theorem VX:zI=.Call (.Name "map" (ch zI 0).pos) [.Name "str" (ch zI 1).pos,.BinOp (ch (ch zI 2) 0) .Add (ch (ch zI 2) 1) (ch zI 2).pos] [] zI.pos:=by kernel_rfl
noncomputable def yG:Oa:=ch (ch zI 2) 0
theorem WX:yG=.Call (.Name "list" (ch yG 0).pos) [.Subscript (.Attribute (.Name "self" (ch (ch (ch yG 1) 0) 0).pos) "_data" (ch (ch yG 1) 0).pos) (.Slice (some (.Name "k" (ch (ch (ch yG 1) 1) 0).pos)) (some (.BinOp (.Name "k" (ch (ch (ch (ch yG 1) 1) 1) 0).pos) .Add (.Constant (.int 8) 0 (ch (ch (ch (ch yG 1) 1) 1) 1).pos) (ch (ch (ch yG 1) 1) 1).pos)) none (ch (ch yG 1) 1).pos) (ch yG 1).pos] [] yG.pos:=by kernel_rfl
noncomputable def QC:Oa:=ch (ch zI 2) 1
theorem UX:QC=.BinOp (.List [.Constant (.int 0) 0 (ch (ch QC 0) 0).pos] (ch QC 0).pos) .Mult (.BinOp (.BinOp (.Name "k" (ch (ch (ch QC 1) 0) 0).pos) .Add (.Constant (.int 8) 0 (ch (ch (ch QC 1) 0) 1).pos) (ch (ch QC 1) 0).pos) .Sub (.Call (.Name "len" (ch (ch (ch QC 1) 1) 0).pos) [.Attribute (.Name "self" (ch (ch (ch (ch QC 1) 1) 1) 0).pos) "_data" (ch (ch (ch QC 1) 1) 1).pos] [] (ch (ch QC 1) 1).pos) (ch QC 1).pos) QC.pos:=by kernel_rfl
section
variable{w:ja}{A:ua}{s:aa}{cenv:Be}
noncomputable abbrev AW(k:Int)(b:la):List (xa×P):=[("k",.int k),("self",.addr b)]
theorem Z3{k:Int}{b:la}{pos:xd}{Q:Value->aa->Prop}(r:RE (GW w) cenv (AW k b) s)(h:∀t,Q (.int k t) s):wpAny (ka PP w) A (eval (.Name "k" pos) cenv) Q Jc s:=by
 refine Nc λa=>?_;obtain ⟨v,hv,t,rfl⟩:=r.look "k" (.int k) rfl;refine a ?_
 exact Md r.kind hv (by decide) (by decide) (h t)
theorem QF{k:Int}{b dd d:la}{c a:xd}{Q:Value->aa->Prop}(i:A.handled=none)(F:Fk w s.heap)(hb:s.heap.get? b=some (Ld dd d))(f:s.heap.get? dd=some mf)(r:RE (GW w) cenv (AW k b) s)(h:∀s',Kp s s'->Q (.ref d) s'):
  wpAny (ka PP w) A (eval (.Attribute (.Name "self" c) "_data" a) cenv) Q Jc s:=by
 refine Nc λg=>?_;obtain ⟨v,hv,rfl⟩:=r.look "self" (.addr b) rfl;refine g ?_
 exact gf (Md r.kind hv (by decide) (by decide) (P5 i F hb λh' e=>h _ (xq 1 e)))
theorem yR{k:Int}{b:la}{d c a:xd}{Q:Value->aa->Prop}(r:RE (GW w) cenv (AW k b) s)(h:∀t s',Kp s s'->Q (.int (k+8) t) s'):
  wpAny (ka PP w) A (eval (.BinOp (.Name "k" d) .Add (.Constant (.int 8) 0 c) a) cenv) Q Jc s:=by
 refine Mf (Z3 r λt=>?_)
 refine Rb ?_
 exact PI (h _ _ (.trans' (.tok _) (.tok _)))
theorem VP{k:Nat}{b dd d:la}{bs:List Int}{Q:Value->aa->Prop}(t:A.handled=none)(F:Fk w s.heap)(hb:s.heap.get? b=some (Ld dd d))(j:s.heap.get? dd=some mf)(hd:nh s.heap d bs)(B:ql bs)(hz:bs.length<=2 ^ 20)(q:k<=bs.length)
  (kl:cenv.kindOf "list"=some .globalImplicit) (r:RE (GW w) cenv (AW k b) s) (h:∀v s',df s (.il ((bs.drop k).take 8)) true v s'->Q v s'):
  wpAny (ka PP w) A (eval yG cenv) Q Jc s:=by
 rw[WX]
 refine Yc ⟨_,_,rfl⟩ (name_buil r kl (ke w (.tail _ (.tail _ (.head _)))) (v:=.type "list") (by kernel_rfl) (by decide) (by decide) ?_)
 refine md (xs:=[eval (.Subscript _ _ _) cenv]) (show 1<=30 by decide) ?_
 refine wt Ff.lookup (QF t F hb j r λs1 p=>?_)
 have r1:=r.kp p
 refine wpAny_Slice ?_
 rw[jG,jG,evalPart_none]
 refine Z3 r1 λn=>?_
 refine yR r1 λm s2 z=>?_
 refine pa ?_
 have f:=p.trans' z
 have l:nh s2.heap d bs:=f.get hd
 have g:nh (s2.heap.push {cls:=.type "slice",data:=.fields #[.int k n,.int (k+8) m,.none]}) d bs:=fa _ l
 refine⟨Pb g,?_⟩
 refine TM (lo:=some (k:Int)) (hi:=some ((k:Int)+8)) g (Wv ..) (.int _ _) (.int _ _) (by lia) ?_
 refine Aa (a:=Xa) rfl ?_
 have e:(bs.drop (Fo (some (k:Int)) bs.length)).take (jt (some ((k:Int)+8)) bs.length-Fo (some (k:Int)) bs.length)=(bs.drop k).take 8:=by
  rw[vx q,show jt (some ((k:Int)+8)) bs.length=min (k+8) bs.length from KH (k+8) _]
  have:=AG (bs.drop k) k 8
  rwa [bh,Vh q] at this
 rw[e]
 generalize i:s2.heap.push {cls:=.type "slice",data:=.fields #[.int k n,.int (k+8) m,.none]}=u
 have y:∀x o,s2.heap.get? x=some o->(u.push (qb (Ia ((bs.drop k).take 8)))).get? x=some o:=λx o e=>fa _ (by rw[<- i];exact fa _ e)
 have K3:Kp s {s2 with heap:=u.push (qb (Ia ((bs.drop k).take 8)))}:=f.trans' ⟨_,_,rfl,y⟩
 refine ZF (ns:=(bs.drop k).take 8) t (ra _ rfl) ((B.G4.drop k).take 8) (by rw[yi];lia) λv s' c=>?_
 exact h v s' (c.after K3)
theorem UA:∀n:Nat,(Ha n ([0]:List Int)).flatten=Ha n 0
 |0=>rfl
 |n+1=>congrArg (0::·) (UA n)
theorem JV{k:Nat}{b dd d:la}{bs:List Int}{Q:Value->aa->Prop}(J:A.handled=none)(F:Fk w s.heap)(hb:s.heap.get? b=some (Ld dd d))(y:s.heap.get? dd=some mf)(hd:nh s.heap d bs)(hz:bs.length<=2 ^ 20)(N:k<=bs.length)
  (kl:cenv.kindOf "len"=some .globalImplicit) (r:RE (GW w) cenv (AW k b) s) (h:∀v s',df s (.il (Ha (k+8-bs.length) 0)) true v s'->Q v s'):
  wpAny (ka PP w) A (eval QC cenv) Q Jc s:=by
 rw[UX]
 refine Mf (fq ?_)
 refine Se (xs:=[eval (.Constant (.int 0) 0 (ch (ch QC 0) 0).pos) cenv]) ?_
 refine Rb ⟨(show 1<=Kb by decide),?_⟩
 generalize q:({s with toks:=s.toks+1}:aa)=s1
 have G:Kp s s1:=q▸.tok _
 have hc:df s1 (.il [0]) true (.ref s1.heap.objs.size) {s1 with heap:=s1.heap.push {cls:=.type "list",data:=.seq #[.int 0 s.toks]}}:=df.list (.cons 0 s.toks .nil) _ rfl
 have f:df s (.il [0]) true (.ref s1.heap.objs.size) _:=hc.after G
 have r1:=r.kp f.keeps
 refine Mf (yR r1 λM s2 D=>?_)
 have c:=f.keeps.trans' D
 have r2:=r.kp c
 refine Yc ⟨_,_,rfl⟩ (name_buil r2 kl (ke w (za ..)) (v:=.builtin "len") (by kernel_rfl) (by decide) (by decide) ?_)
 refine md (xs:=[eval (.Attribute _ _ _) cenv]) (show 1<=30 by decide) ?_
 refine QF J (F.kp c) (c.get hb) (c.get y) r2 λz C=>?_
 have i:=c.trans' C
 refine Aa (a:=Xa) rfl ?_
 refine Ds (i.get hd) (by lia) λu tk=>?_
 refine Bm ?_
 generalize p:({z with toks:=tk}:aa)=g
 have B:Kp z g:=p▸.tok _
 have o:=i.trans' B
 have hv:VR g.heap (.il [0]) (.ref s1.heap.objs.size):=(D.trans' (C.trans' B)).vr f.val
 refine Nc λI=>?_;obtain ⟨l,vs,m,e,H,hi⟩:=hv;refine I ?_
 obtain rfl:=ff e
 have n:=hi.length
 have E:Kp s {g with toks:=g.toks+1}:=o.trans' (.tok _)
 have t:vs.length=1:=n
 refine TY (vs:=vs) (x:=(k:Int)+8-bs.length) (s:={g with toks:=g.toks+1}) H (by lia) (by lia) (by rw[t];lia) ?_
 have hints:=Uu hi ((k:Int)+8-bs.length).toNat
 have j:(Ha ((k:Int)+8-bs.length).toNat ([0]:List Int)).flatten=Ha (k+8-bs.length) 0:=by
  have L:((k:Int)+8-bs.length).toNat=k+8-bs.length:=Qz (k+8) _
  rw[L]
  exact UA _
 rw[j] at hints
 exact h _ _ (df.after E (df.list hints _ (WJ _ _)))
theorem LV{k:Nat}{b dd d:la}{bs:List Int}{Q:Value->aa->Prop}(C:A.handled=none)(F:Fk w s.heap)(hb:s.heap.get? b=some (Ld dd d))(m:s.heap.get? dd=some mf)(hd:nh s.heap d bs)(G:ql bs)(hz:bs.length<=2 ^ 20)(o:k<=bs.length)
  (kn:∀x,cenv.kindOf x=BW.names.lookup x) (r:RE (GW w) cenv (AW k b) s) (h:∀t s',Kp s s'->Q (.int (rj (Xk bs k)) t) s'):
  wpAny (ka PP w) A (eval RC cenv) Q Jc s:=by
 rw[aY]
 refine Yc ⟨_,_,rfl⟩ (name_buil r ((kn _).trans (by kernel_rfl)) (ke w (by decide)) (v:=.type "int") (by kernel_rfl) (by decide) (by decide) ?_)
 refine md (xs:=[eval (ch RC 1) cenv,eval (.Constant (.int 2) 0 (ch RC 2).pos) cenv]) (show 2<=30 by decide) ?_
 rw[ZX]
 refine nv rfl (by kernel_rfl) (by kernel_rfl) ?_
 refine Fm ?_
 generalize q:({s with toks:=s.toks+1}:aa)=s1
 have f:Kp s s1:=q▸.tok _
 refine GM.join ?_
 refine md (xs:=[eval zI cenv]) (show 1<=30 by decide) ?_
 rw[VX]
 have r1:=r.kp f
 refine Yc ⟨_,_,rfl⟩ (name_buil r1 ((kn _).trans (by kernel_rfl)) (ke w (by decide)) (v:=.type "map") (by kernel_rfl) (by decide) (by decide) ?_)
 refine md (xs:=[eval (.Name "str" (ch zI 1).pos) cenv,eval (.BinOp yG .Add QC (ch zI 2).pos) cenv]) (show 2<=30 by decide) ?_
 refine name_buil r1 ((kn _).trans (by kernel_rfl)) (ke w (by decide)) (v:=.type "str") (by kernel_rfl) (by decide) (by decide) ?_
 refine Mf (VP C (F.kp f) (f.get hb) (f.get m) (f.get hd) G hz o ((kn _).trans (by kernel_rfl)) r1 λv2 s2 I=>?_)
 have c:=f.trans' I.keeps
 refine JV C (F.kp c) (c.get hb) (c.get m) (c.get hd) hz o ((kn _).trans (by kernel_rfl)) (r.kp c) λv3 E D=>?_
 have O:=c.trans' D.keeps
 refine Nc λn=>?_;obtain ⟨l1,i,m1,rfl,z,l⟩:=D.keeps.vr I.val
 obtain ⟨l2,g,m2,rfl,y,j⟩:=D.val;refine n ?_
 have T:i.length+g.length=8:=by
  have e:=lr o
  unfold Xk at e
  rw[Ya] at e
  rw[l.length,j.length]
  exact e
 refine P.add_list z y ?_ (by simp only[Ye,Kb];lia)
 have H:df E (.il (Xk bs k)) true _ _:=df.list (s:=E) (l.append j) (i.toArray++g.toArray) (by simp)
 have N:=O.trans' H.keeps
 refine Nc λn=>?_;obtain ⟨l4,J,m4,e4,u,B⟩:=H.val;refine n ?_
 refine Aa (a:=Xa) rfl ?_
 obtain rfl:=ff e4
 refine ah (iL (t:=s.toks) C u B (As G k) (lr o) (Q:=λv s'=>∃x t,v=.str x t/\Kp s s'/\dI x (rj (Xk bs k))) λs' t' x L p=>⟨x,t',rfl,N.trans' L,p⟩) (λv s5 Y=>?_)
 refine Aa (a:=Xa) rfl ?_
 refine ah Y (λv s6 V=>?_)
 refine Nc λn=>?_;obtain ⟨x,t',rfl,M,p⟩:=V;refine n ?_
 refine Rb ?_
 refine Aa (a:=Xa) rfl ?_
 refine QH p ?_
 exact h _ _ (M.trans' (.trans' (.tok _) (.tok _)))
end
noncomputable def Nf:List Nat:=[0,2,3,4,36,43,59,60,123,124,126,127,129,130,134,135,42,139]++F1.map (·.1)++(QE 1868 18++[1888,1890,1895,1900,1909,1910,1917,1924,1938,1945,1962,1963,1964,1973,1978]++[1894,1899,1916,1923,1937,1944,1972,1977])
theorem tV(w:ja):((VA w).map (·.1)).all (λa=>Nf.contains a)=true:=by kernel_rfl
theorem sV(w:ja):((Qy w).map (·.1)).all (λa=>DF.contains a||Nf.contains a)=true:=by kernel_rfl
theorem uV:(F1.map (·.1)).all (λa=>Nf.contains a)=true:=by kernel_rfl
theorem Fk.oF{w:ja}{h h':Na}(F:Fk w h)(k:∀b∈Nf,∀o,h.get? b=some o->h'.get? b=some o):Fk w h' where
 t:=λx a=>k _ (List.contains_iff_mem.mp (List.all_eq_true.mp (tV w) x.1 (zd a))) _ (F.t x a)
 u:=λx a q=>k _ (by
  have:=List.all_eq_true.mp (sV w) x.1 (zd a)
  rw[q,Bool.false_or] at this
  exact List.contains_iff_mem.mp this) _ (F.u x a q)
 z:=by
  obtain ⟨o,c⟩:=Pr w
  have e:=F.z
  rw[c] at e ⊢
  exact k 0 (List.contains_iff_mem.mp (by kernel_rfl:Nf.contains 0=true)) _ e
 ecc:=k 139 (List.contains_iff_mem.mp (by kernel_rfl:Nf.contains 139=true)) _ F.ecc
 ec:=λx a=>k _ (List.contains_iff_mem.mp (List.all_eq_true.mp uV x.1 (zd a))) _ (F.ec x a)
theorem ei{w:ja}{h:Na}(F:Fk w h):∀b∈Nf,∃o,h.get? b=some o:=by
 intro b hb
 have c:∀(l:List (Nat×Sa)),(∀x∈l,h.get? x.1=some x.2)->b∈l.map (·.1)->∃o,h.get? b=some o:=by
  intro l i hm
  obtain ⟨x,d,rfl⟩:=List.mem_map.mp hm
  exact⟨_,i x d⟩
 have e:Nf.all (λa=>a==0||a==139||((VA w).map (·.1)).contains a||(F1.map (·.1)).contains a||(((Qy w).map (·.1)).contains a&&!DF.contains a))=true:=by kernel_rfl
 have q:=List.all_eq_true.mp e b hb
 simp only[Vn,Bd,beq_iff_eq,List.contains_iff_mem,Hf] at q
 rcases q with (((rfl|rfl)|q)|q)|⟨q,f⟩
 ·obtain ⟨o,g⟩:=Pr w
  exact⟨o,by have:=F.z;rw[g] at this;exact this⟩
 ·exact⟨_,F.ecc⟩
 ·exact c _ F.t q
 ·exact c _ F.ec q
 ·obtain ⟨x,d,rfl⟩:=List.mem_map.mp q
  exact⟨_,F.u x d f⟩
theorem Walks.range'{prog:wa}{w:ja}{A:ua}(g:A.handled=none)(I:la)(a c:Int)(n:Nat){fp:List la}(hf:I∈fp):
  Walks prog w A I fp [I] n (λi v=>i < n/\∃t,v=.int (a+i*c) t) (λi h=>wc h I (a+(i:Nat)*c) ((n:Int)-(i:Nat)) c):=
 let W:=Walks.range (prog:=prog) (w:=w) (A:=A) g I a c n
 {sub:=λb hb=>by rw[List.mem_singleton.mp hb];exact hf
  frame:=λi h h' st f=>W.frame i h h' st λb hb o e=>f b (by rw[List.mem_singleton.mp hb];exact hf) o e
  item:=λi s Q E hi st d=>W.item i s Q E hi st λv h' tk hP=>d v h' tk ⟨hi,hP⟩
  done:=λs Q E st d=>W.done s Q E st d
  self:=λi s Q E st d=>W.self i s Q E st d}
structure Dl(w:ja)(B:ua)(a g:Nat)(C I:la)(ex:List la)(n:Nat)(Fv:Nat->Value->Prop)(j:Nat)(s:aa):Prop where
 aC:a≠C
 af:a∉I::(Nf++ex)
 Cf:C∉I::(Nf++ex)
 If:I∉Nf++ex
 gen:Lr PP w B a g C (I::(Nf++ex)) [I] (λ_=>true) n Fv j s
theorem ay:Ue∈Nf:=by decide
theorem bo(n:Nat):passing (λZ=>true) n 0=Qa n:=by
 delta passing
 rw[yQ]
 exact List.filter_eq_self.mpr λZ Z=>rfl
section
variable{w:ja}{B:ua}{a g:Nat}{C I:la}{ex:List la}{n:Nat}{Fv:Nat->Value->Prop}
theorem Dl.walks(h:B.handled=none)(c:B.depth < Le){j:Nat}{s:aa}(x:Dl w B a g C I ex n Fv j s):
  WalksS PP w B a (a::C::I::(Nf++ex)) [C,I] (We g) n Fv (Lr PP w B a g C (I::(Nf++ex)) [I] (λZ=>true) n Fv):=by
 have d:Ue∈Nf++ex:=Oe _ ay
 have W:=WalksS.genexpQ (prog:=PP) (w:=w) h a g C (I::(Nf++ex)) [I] (λZ=>true) n Fv x.aC x.af (λb hb=>by rw[List.mem_singleton.mp hb];exact za ..) c (ya _ d)
  (λe=>x.Cf (e▸ya _ d)) (λq=>x.If (List.mem_singleton.mp q▸d))
 rw[bo] at W
 rw[yc] at W
 exact
  {sub:=W.sub,grefl:=W.grefl,gtrans:=W.gtrans,frame:=W.frame,done:=W.done,self:=W.self
   item:=λj s Q E f st k=>W.item j s Q E f st λv s' hP=>k v s' (by
    obtain ⟨i,hi,l⟩:=hP
    rw[Fq f] at hi
    obtain rfl:=va hi
    exact l)}
end
noncomputable def Yd(h:Na)(c P:la)(ps:Array Value):Prop:=h.IsCode c P ps/\h.TableAt c P ps
theorem Yd.keeps{h h':Na}{c P:la}{ps:Array Value}(x:Yd h c P ps)(a:∀b o,h.get? b=some o->h'.get? b=some o):Yd h' c P ps:=⟨x.1.keeps a,x.2.keeps a⟩
theorem Yd.mv{h h':Na}{c P:la}{ps:Array Value}(x:Yd h c P ps){oc oP:Sa}(w:h.get? c=some oc)(v:h.get? P=some oP)(m:h'.get? c=some oc)(l:h'.get? P=some oP):Yd h' c P ps:=by
 refine Nc λu=>?_;obtain ⟨⟨o,vs,d,q,a,p,f,b,n,op,i,r1,r2,t,r4,r5,s,g,r⟩,⟨o',e,k,y⟩,j⟩:=x;refine u ?_
 rw[w] at i k
 rw[v] at g j
 obtain rfl:=va i
 obtain rfl:=va k
 obtain rfl:=va g
 exact⟨⟨_,vs,d,q,a,p,f,b,n,_,m,r1,r2,t,r4,r5,s,l,r⟩,⟨_,e,m,y⟩,l.trans j⟩
theorem Yd.obj{h:Na}{c P:la}{ps:Array Value}(x:Yd h c P ps):∃o,h.get? c=some o/\(∃vs,o.data=.fields vs)/\c≠P:=by
 refine Nc λi=>?_;obtain ⟨o,vs,d,l,a,k,g,b,j,op,f,r1,r2,q,r4,r5,p,r,n,m,e⟩:=x.1;refine i ?_
 exact⟨o,f,⟨vs,r1⟩,e⟩
theorem Yd.tab{h:Na}{c P:la}{ps:Array Value}(x:Yd h c P ps):h.get? P=some {cls:=.none,data:=.fields ps}:=x.2.2
section
variable{M:pj}{A:ua}{E:Value->aa->Prop}{s:aa}
theorem Ny{env:Be}{c P:la}{ps:Array Value}{pos:xd}{qualname:xa}{scope:me}{Q:Value->aa->Prop}(hc:env.code=.ref c)(a:Yd s.heap c P ps)
  (d:∀v h' tk b,bj P s.heap h'->Yd h' c P b->Q v {s with heap:=h',toks:=tk}):wpAny M A (genexprCode env pos qualname scope) Q E s:=by
 cases e:dX pos ps.toList with
 |none=>exact wpAny_genexprCodeX hc a.1 a.2 e λc' h' tk f Z Z h Z g Z=>d _ h' tk _ f ⟨h,g⟩
 |some v=>exact wpAny_genexprCode_hit hc a.1 e (d v s.heap s.toks ps (λZ Z Z e=>e) a)
noncomputable abbrev Q5(name qualname:xa)(params:Fp)(body:List cb)(scope:me)(globals:la)(cl:List (xa×la))(c b a code doc:Value):yl:=
 {name,qualname,params,body:=.stmts body,scope,globals,closure:=cl,closureTuple:=c,defaults:=b,kwdefaults:=.none,annotations:=none,pyModule:=a,code,doc,builtins:=Hc}
theorem LG{name qualname:xa}{params:Fp}{body:List cb}{scope:me}{env:Be}{N:Value}{mg}{cl:List (xa×la)}{c Pl:la}{ps:Array Value}{pos:xd}
  {d:Nat} {Q:Value->aa->Prop} (m:jq scope env=pure cl) (hg:s.heap.Ns env.globals mg) (l:env.code=.ref c) (p:Yd s.heap c Pl ps)
  (G:dX pos ps.toList=none) (H:env.globals≠Pl) (hb:s.heap.BuiltinsAt mg Pl)
  (h:∀O c' doc h' tk,(cl.isEmpty=true->O=.none)->bj Pl s.heap h'->s.heap.objs.size<=c'->c' < h'.objs.size->Yd h' c Pl (ps++#[Fc pos.line,Fc pos.col,.ref c'])->h'.CodeRec (.ref c') qualname->(∃P',s.heap.objs.size<=P'/\Yd h' c' P' #[])->
   Q (.ref h'.objs.size) {s with heap:=h'.push {cls:=.type "function",data:=.func (Q5 name qualname params body scope env.globals cl O N ((mg "__name__").getD .none) (.ref c') doc)},toks:=tk}):
  wpAny M A (makeTail name qualname params (.stmts body) scope env N .none none pos d) Q E s:=by
 refine Nc λT=>?_;obtain ⟨bm,o,L,v,_,u,J,w,i,j⟩:=hb;refine T ?_
 cases D:cl.isEmpty with
 |true=>
  simp only[makeTail,m,pure_bind,D,if_true]
  refine zb (rQ l p.1 p.2 G λc' h' tk y C B f hrec z hP=>?_)
  have g:=hg.extBut y H
  refine zb (bw g L v (y _ _ u J) w i j ?_)
  refine zb (CN g ?_)
  have n:=λdoc x=>h .none c' doc h' x (λZ=>rfl) y C B ⟨f,z⟩ hrec hP
  cases I:docOf body with
  |none=>exact zb (pa (Uc (n .none tk) (by size_fits)))
  |some t=>exact zb (JI (Uc (n _ _) (by size_fits)))
 |false=>
  simp only[makeTail,m,pure_bind,D,Vi,if_false]
  refine zb (KR ?_)
  have k:∀b o,s.heap.get? b=some o->(s.heap.push _).get? b=some o:=λb o e=>fa {cls:=.type "tuple",data:=.seq ((cl.mergeSort λa b=>a.1.cps.toList<=b.1.cps.toList).map (.ref ·.2)).toArray} e
  refine zb (rQ l (p.1.keeps k) (p.2.keeps k) G λc' h' tk y C B f hrec z hP=>?_)
  have g:=(hg.keeps k).extBut y H
  refine zb (bw g L v (y _ _ u (k _ _ J)) w i j ?_)
  refine zb (CN g ?_)
  have r:s.heap.objs.size<=(s.heap.push {cls:=.type "tuple",data:=.seq ((cl.mergeSort λa b=>a.1.cps.toList<=b.1.cps.toList).map (.ref ·.2)).toArray}).objs.size:=by rw[Ec];exact ze _
  have n:=λdoc x=>h (.ref s.heap.objs.size) c' doc h' x (λq=>by rw[D] at q;exact nomatch q) (λb o hb e=>y b o hb (k b o e)) (Ja r C) B ⟨f,z⟩ hrec (let ⟨P',Y,V⟩:=hP;⟨P',Ja r Y,V⟩)
  cases I:docOf body with
  |none=>exact zb (pa (Uc (n .none tk) (by size_fits)))
  |some t=>exact zb (JI (Uc (n _ _) (by size_fits)))
theorem Tp{name qualname:xa}{params:Fp}{body:List cb}{scope:me}{env:Be}{dv:List Value}{mg}{cl:List (xa×la)}{c Pl:la}{ps:Array Value}
  {pos:xd} {g:Nat} {Q:Value->aa->Prop} (B:params.kwonlyargs=[]) (m:jq scope env=pure cl) (hg:s.heap.Ns env.globals mg) (l:env.code=.ref c)
  (q:Yd s.heap c Pl ps) (y:dX pos ps.toList=none) (D:env.globals≠Pl) (hb:s.heap.BuiltinsAt mg Pl)
  (h:∀n w c' doc h' tk,(cl.isEmpty=true->w=.none)->h'.DefaultsAt s.heap.objs.size dv n->bj Pl s.heap h'->s.heap.objs.size<=c'->c' < h'.objs.size->
   Yd h' c Pl (ps++#[Fc pos.line,Fc pos.col,.ref c'])->h'.CodeRec (.ref c') qualname->(∃P',s.heap.objs.size<=P'/\Yd h' c' P' #[])->
   Q (.ref h'.objs.size) {s with heap:=h'.push {cls:=.type "function",data:=.func (Q5 name qualname params body scope env.globals cl w n ((mg "__name__").getD .none) (.ref c') doc)},toks:=tk}):
  wpAny M A (makeFunction name qualname params (.stmts body) scope env dv [] [] pos g) Q E s:=by
 have I:Pl < s.heap.objs.size:=q.1.lt.2
 rw[makeFunction_eq,B]
 have j:∀(n:Value) (yb:Na),(∀b o,s.heap.get? b=some o->yb.get? b=some o)->s.heap.objs.size<=yb.objs.size->(∀h',bj Pl yb h'->h'.DefaultsAt s.heap.objs.size dv n)->
   wpAny M A (do
     let t <- if ([]:List (xa×Value)).isEmpty then pure none else do
      let a <- alloc {cls:=.type "dict",data:=.dict #[]}
      for (k,v) in ([]:List (xa×Value)) do nsSet a k v
      pure (some a)
     makeTail name qualname params (.stmts body) scope env n .none t pos g) Q E {s with heap:=yb}:=by
  intro n yb f i r
  refine zb (pa ?_)
  exact LG (s:={s with heap:=yb}) m (hg.keeps f) l (q.keeps f) y D (hb.keeps f) λw c' doc h' tk G u C z p hrec x=>
   h n w c' doc h' tk G (r h' u) (λb o H e=>u b o H (f b o e)) (Ja i C) z p hrec (let ⟨P',L,J⟩:=x;⟨P',Ja i L,J⟩)
 cases dv with
 |nil=>exact zb (pa (zb (pa (j .none s.heap (λZ Z e=>e) (Ab _) λZ Z=>Or.inl ⟨rfl,rfl⟩))))
 |cons d N=>
  refine zb (KR (zb (pa ?_)))
  exact j (.ref s.heap.objs.size) _ (λb o e=>fa _ e) (by rw[Ec];lia) λh' u=>
   Or.inr ⟨List.cons_ne_nil _ _,_,rfl,Ab _,u _ _ (Ee I) (ra _ rfl)⟩
end
theorem jC{l:List xa}{z:xa}(h:l.all (λy=>!(y==z))=true){y:xa}(a:y∈l):(y==z)=false:=(Hf _).mp (List.all_eq_true.mp h y a)
theorem LO{l m:List xa}(h:l.all (λy=>m.contains y)=true){y:xa}(a:y∈l):y∈m:=List.contains_iff_mem.mp (List.all_eq_true.mp h y a)
theorem sy{α:Type}{a b:α}{l:List α}(h:a≠b)(t:a∉l):a∉b::l:=λq=>(List.mem_cons.mp q).elim h t
theorem uF{α:Type}{a b:α}{l:List α}(h:a∉b::l):a≠b/\a∉l:=⟨λq=>h (q▸.head _),λq=>h (.tail _ q)⟩
theorem Q4{α:Type}{p:α->Prop}{l m:List α}(h:∀z∈l,p z)(t:∀z∈m,p z):∀z∈l++m,p z:=λz hz=>(List.mem_append.mp hz).elim (h z) (t z)
theorem mg{α:Type}{l:List α}{a:α}(i:Nat)(e:l[i]?=some a):a∈l:=Mb e
theorem gp{h:Na}{P x:la}{ps:Array Value}{o:Sa}(hP:h.get? P=some {cls:=.none,data:=.fields ps})(e:h.get? x=some o)(a:∀vs,o.data≠.fields vs):x≠P:=by
 rintro rfl
 obtain rfl:=va (hP.symm.trans e)
 exact a _ rfl
section
variable{G:Gl}{env:Be}{s:aa}
theorem sR{scope:me}{cl:List (xa×la)}{C:la}{code:Value}{x:xa}{p:P}{v:Value}{frees:List (xa×P)}{m:xa->Option Value}(f:scope.kind=.function)(hg:env.globals=jd)(gs:GS G s.heap)
  (a:scope.names.lookup x=some .local) (b:s.heap.Ns C m) (hm:m x=some v) (hv:VR s.heap p v)
  (hf:∀y q,frees.lookup y=some q->scope.names.lookup y=some .free/\∃c u,cl.lookup y=some c/\s.heap.IsCell c (some u)/\VR s.heap q u)
  (hc:∀y,(scope.names.lookup y=some .cell\/scope.names.lookup y=some .free)->(cl.lookup y).isSome=true):
  RE G (xC scope cl C code Hc env) ((x,p)::frees) s:=by
 refine⟨f,hg,rfl,gs,λy q e=>?_,hc⟩
 exact(Ge e).elim (λd=>by rw[d.1,<- d.2];exact⟨v,.inl ⟨a,m,b,hm⟩,hv⟩) λd=>have h:=hf y q d.2;h.2.elim λc z=>z.imp λu z=>⟨.inr ⟨.inr h.1,c,z.1,z.2.1⟩,z.2.2⟩
end
theorem BK(w:ja):JO w "__builtins__"=some (.ref 4):=(Wr w _).trans (bF _ w)
theorem LF{w:ja}{A:ua}{s:aa}{env:Be}{D f:Oa}{x:xa}{px pos:xd}{scope:me}{cl:List (xa×la)}{cc PT:la}{ps:Array Value}{ex:List la}{a c:Int}{n:Nat}{Fv:Nat->Value->Prop}{Q:Value->aa->Prop}
  (hh:A.handled=none) (N:A.depth < Le) (F:Fk w s.heap) (hg:env.globals=jd) (hb:env.builtins=Hc)
  (hco:scope.isCoroutine=false) (Y:jq scope env=pure cl) (Z2:∀y∈scope.names,y.2≠.cell) (h0:scope.names.lookup (".0":xa)=some NameKind.local) (hx:scope.names.lookup x=some .local) (l:scope.kind=.function)
  (V:env.code=.ref cc) (hH:Yd s.heap cc PT ps) (hPT:PT∉Nf++ex) (jH:∀b∈ex,∃o,s.heap.get? b=some o)
  (Q8:wpAny (ka PP w) A (eval f env) (λxv E=>wpAny (ka PP w) A (wh xv) (λit d=>∃I,it=.ref I/\Kp s d/\s.heap.get? I=none/\wc d.heap I a n c) Jc E) Jc s)
  (hs:∀x,genFold f env x=pure x)
  (TU:∀(C:la) (code:Value) (A':ua) (i:Nat) (t:jg) (m:xa->Option Value) (s':aa),A'.handled=none->i < n->(∀b∈Nf++ex,∀o,s.heap.get? b=some o->s'.heap.get? b=some o)->s'.heap.Ns C m->m x=some (.int (a+i*c) t)->
   wpAny (ka PP w) A' (eval D (xC scope cl C code Hc env)) (λy Ng=>Fv i y/\Kp s' Ng) Jc s')
  (hQ:∀a' C I h' tk gs L,gs.bare=true->s.heap.get? a'=none->s.heap.get? C=none->s.heap.get? I=none->(∀b o,b≠PT->s.heap.get? b=some o->h'.get? b=some o)->Yd h' cc PT L->
   (∀B:ua,B.handled=none->Dl w B a' s.gens.size C I ex n Fv 0 {s with heap:=h',gens:=s.gens.push gs,toks:=tk})->h'.IsGen a' s.gens.size->(∀b∈[C,I],∃o,h'.get? b=some o)->
   Q (.ref a') {s with heap:=h',gens:=s.gens.push gs,toks:=tk}):
  wpAny (ka PP w) A (eval (.GeneratorExp D [⟨.Name x px,f,[],0⟩] scope pos) env) Q Jc s:=by
 have gs0:=cf F
 refine wpAny_GeneratorExp_make hco Y Z2 h0 l N (Lb Q8 (λxv E yb=>Lb yb (λit d gH=>?_) λZ Z e=>e.elim) λZ Z e=>e.elim) hs
 refine Nc λhC=>?_;obtain ⟨I,rfl,k2,hI,hri⟩:=gH;refine hC ?_
 have F2:=F.kp k2
 refine⟨gs0.lim.keeps λZ Z e=>k2.get e,?_⟩
 refine Ny V (hH.keeps λZ Z e=>k2.get e) λcode k z L hxb H=>?_
 have X8:I≠PT:=λq=>nomatch hH.tab.symm.trans ((congrArg s.heap.get? q).symm.trans hI)
 have ad:∀b∈Nf++ex,∃o,s.heap.get? b=some o:=λb hb=>(List.mem_append.mp hb).elim (ei F b) (jH b)
 have hIf:I∉Nf++ex:=λq=>(ad I q).elim λo e=>nomatch e.symm.trans hI
 have JQ:∀b o,b≠PT->s.heap.get? b=some o->k.get? b=some o:=λb o hb e=>hxb b o hb (k2.get e)
 have F3:Fk w k:=F.oF λb hb o e=>JQ b o (λq=>hPT (q▸Oe _ hb)) e
 have g3:=cf F3
 refine bw (bm:=4) (o:=nK w) (by rw[hg];exact g3.g) (BK w) (by decide) (F3.t (4,nK w) (sa 2 rfl)) rfl rfl rfl ?_
 intro u O M
 dsimp only at O M ⊢
 have M5:∀b o,s.heap.get? b=some o->b < k.objs.size:=λb o e=>(dC b PT).byCases (λhb=>hb▸Ba H.tab) λhb=>Ba (JQ b o hb e)
 have r:wc k I a n c:=hxb I _ X8 hri
 have B3:I < k.objs.size:=Ba r
 have sz4:u.objs.size=k.objs.size+1:=by rw[M.1,Ec]
 have fresh:∀b,k.objs.size<=b->s.heap.get? b=none:=λb hb=>by
  cases e:s.heap.get? b with
  |none=>rfl
  |some o=>exact absurd (M5 b o e) (Nat.not_lt.mpr hb)
 have sN:∀b o,k.get? b=some o->u.get? b=some o:=λb o e=>M.extBut b o (Va (Ba e)) (fa _ e)
 generalize hob:({cls:=.type "generator",data:=.fields #[.int d.gens.size 0,.str "<genexpr>" (z+1),.str (env.qual++"<genexpr>") (z+1+1)]}:Sa)=G
 have yI:∀b o,k.get? b=some o->(u.push G).get? b=some o:=λb o e=>fa _ (sN b o e)
 have T:d.gens=s.gens:=by obtain ⟨_,_,e,_⟩:=k2;rw[e]
 have mR:∀(h:Na) (g:Array Bc) (t:Nat),({d with heap:=h,gens:=g,toks:=t}:aa)={s with heap:=h,gens:=g,toks:=t}:=λh g t=>by obtain ⟨_,_,e,_⟩:=k2;rw[e]
 have J:(u.push G).IsGen u.objs.size s.gens.size:=by
  rw[<- T,<- hob]
  exact⟨_,_,_,ra _ rfl,rfl,rfl,rfl⟩
 have F5:Fk w (u.push G):=F3.keeps yI
 have key:=hQ u.objs.size k.objs.size I (u.push G) (z+1+1+1) (.fresh (.compStart (.GeneratorExp D [⟨.Name x px,f,[],0⟩] scope pos) 0 (.ref I) .none (xC scope cl k.objs.size code Hc env))) L rfl
  (fresh _ (by lia)) (fresh _ (Ab _)) hI (λb o hb e=>yI b o (JQ b o hb e)) (H.keeps yI) (λB hB=>?_) J (λb hb=>?_)
 ·have e:({d with heap:=u.push G,gens:=d.gens.push (.fresh (.compStart (.GeneratorExp D [⟨.Name x px,f,[],0⟩] scope pos) 0 (.ref I) .none (xC scope cl k.objs.size code Hc env))),toks:=z+1+1+1}:aa)=_:=mR _ _ _
  rw[T] at e
  rw[<- e] at key
  rw[T]
  exact key
 rotate_left
 ·exact Dc (p:=λb=>∃o,(u.push G).get? b=some o) ((O.push G).elim λo q=>q.elim λZ q=>q.elim λZ q=>⟨o,q.1⟩) (Dc ⟨_,yI I _ r⟩ tj) b hb
 have j:∀b,k.objs.size<=b->b∉I::(Nf++ex):=λb hb=>sy (Ee (Za B3 hb)) λq=>(ad b q).elim λo e=>absurd (M5 b o e) (Nat.not_lt.mpr hb)
 refine⟨by lia,j _ (by lia),j _ (Ab _),hIf,?_⟩
 refine GenAt.fresh (A:=B) (cenv:=xC scope cl k.objs.size code Hc env) (m:=λy=>if y=".0" then some (.ref I) else none) hB
  (λA' hA=>Walks.range' hA I a c n (za ..)) (λZ=>true) Fv hx (by simp[xC,l]) hco (j _ (Ab _)) ?_ J (Array.getElem?_push_size ..) ?_ (O.push _) (cf F5).lim
 ·refine⟨λA' E' i v s' m' hA hP KW hm hkp=>pa ⟨rfl,⟨_,_,rfl,λZ Z e=>e⟩⟩,λA' E' i v s' m' hA hP hpz KW hm hkp=>?_⟩
  refine Nc λhC=>?_;obtain ⟨hi,t,rfl⟩:=hP;refine hC ?_
  refine Lb (TU k.objs.size code A' i t m' s' hA hi (λb hb o e=>?_) KW hm) (λy Ng q=>⟨q.1,?_⟩) λZ Z q=>q.elim
  ·have hbP:b≠PT:=λq=>hPT (q▸hb)
   exact hkp b (ya _ hb) (λq=>hIf (List.mem_singleton.mp q▸hb)) o (yI b o (JQ b o hbP e))
  ·exact q.2
 ·have h5:wc (u.push G) I a n c:=yI I _ r
  show wc _ I (a+((0:Nat):Int)*c) ((n:Int)-((0:Nat):Int)) c
  simpa using h5
theorem RD(w:ja):Fn (uq w) (Bu w) 1944 sJ:=⟨by kernel_rfl,by kernel_rfl,by kernel_rfl,by kernel_rfl,by kernel_rfl,by kernel_rfl⟩
theorem dY:sJ=[ma sJ 0,ma sJ 1]:=by kernel_rfl
noncomputable def OV(st:cb):PySem.Str:=match st with
 |.Expr (.Constant (.str x) _ _) _=>x
 |_=>""
theorem cY:ma sJ 0=.Expr (.Constant (.str (OV (ma sJ 0))) 0 (aV (ma sJ 0)).pos) (aP (ma sJ 0)):=by kernel_rfl
noncomputable def AI:Oa:=gI YX 0
theorem bY:ma sJ 1=.Return (some (.GeneratorExp RC [⟨.Name "k" (gT YX 0).pos,AI,[],0⟩] BW YX.pos)) (aP (ma sJ 1)):=by kernel_rfl
theorem XX:AI=.Call (.Name "range" (ch AI 0).pos) [.Constant (.int 0) 0 (ch AI 1).pos,.Call (.Name "len" (ch (ch AI 2) 0).pos) [.Attribute (.Name "self" (ch (ch (ch AI 2) 1) 0).pos) "_data" (ch (ch AI 2) 1).pos] [] (ch AI 2).pos,.Constant (.int 8) 0 (ch AI 3).pos] [] AI.pos:=by kernel_rfl
theorem ZH{w:ja}{s:aa}(a:Value):Sf s (fdOf (uq w)) ⟨[a],[]⟩ [("self",a)]:=th (by kernel_rfl)
theorem ZC(n:Nat):Bb 0 (n:Int) 8=(((n+7) / 8:Nat):Int):=by
 unfold Bb
 simp only[show(8:Int) > 0 by decide,if_true]
 by_cases h:(0:Int) < n
 ·simp only[h,if_true]
  lia
 ·have:n=0:=by lia
  subst this
  simp
noncomputable abbrev Ey(f:Nat->Int):Nat->Value->Prop:=λi v=>∃t,v=.int (f i) t
section
variable{w:ja}{A:ua}{N:Nat}{s:aa}
noncomputable def fN(PT:la)(s:aa)(h:Na):Prop:=∀b o,b≠PT->s.heap.get? b=some o->h.get? b=some o
theorem PH{b dd d:la}{bs:List Int}{ps:Array Value}(g:GK (N+8) A)(F:Fk w s.heap)(hb:s.heap.get? b=some (Ld dd d))(pC:s.heap.get? dd=some mf)(hd:nh s.heap d bs)(hB:ql bs)(hz:bs.length<=2 ^ 20)
  (L:Yd s.heap 1944 1940 ps) {Q:Value->aa->Prop}
  (hQ:∀a C I c h' tk gs T,gs.bare=true->s.heap.get? a=none->s.heap.get? C=none->s.heap.get? I=none->s.heap.get? c=none->fN 1940 s h'->Yd h' 1944 1940 T->h'.IsGen a s.gens.size->(∀b∈[C,I,c],∃o,h'.get? b=some o)->
   (∀B:ua,B.handled=none->Dl w B a s.gens.size C I [b,dd,d,c] ((bs.length+7) / 8) (Ey λi=>rj (Xk bs (8*i))) 0 {s with heap:=h',gens:=s.gens.push gs,toks:=tk})->
   Q (.ref a) {s with heap:=h',gens:=s.gens.push gs,toks:=tk}):
  mc (ka PP w) A (call (.ref 1945) [.ref b]) Q s:=by
 refine wm (N:=N+4) (G:=GW w) (rd:=[]) (σ:=[("self",.addr b)]) (adr:=λZ=>0) (s₀:=s) (K:=Fw s) (RD w)
  (g.mono (by lia)) (F.uf 27 rfl rfl) (F.uf 40 rfl rfl) (ZH _) (by kernel_rfl) (by kernel_rfl) ⟨s.heap,s.toks,rfl⟩ (cf F) (λZ Z e=>e) (λZ Z e=>e) ⟨⟨rfl,rfl,nofun⟩,trivial⟩ (λx y ns ms Z e=>(Df rfl e).elim) λE env he J KC UG=>?_
 have IA:env.code=.ref 1944:=by subst he;exact(RD w).code
 have EI:env.scope=(fdOf (uq w)).scope:=by subst he;rfl
 have M:env.cells=tg (s.heap.objs.size+1) (fdOf (uq w)).scope.names []:=by subst he;rfl
 have ek:∀x,env.kindOf x=(fdOf (uq w)).scope.names.lookup x:=λx=>by unfold bc;rw[EI]
 rw[dY]
 refine La ?_
 rw[cY]
 refine lh (by subst he;kernel_rfl) (by kernel_rfl) (Fb (Fm ⟨λa e=>(by cases e),rfl,?_⟩))
 generalize mR:({E with toks:=E.toks+1}:aa)=j
 have iR:Kp E j:=mR▸.tok _
 have l:=KC.step iR
 have f:=UG.trans' iR
 have F2:=F.kp f
 refine Zj ?_
 rw[bY]
 refine vp (Fb ?_)
 refine(l.look "self" (.addr b) rfl).elim λv z=>?_
 have hk0:env.kindOf "self"=some zg:=(ek _).trans (by kernel_rfl)
 have hcx:∃c,env.cells.lookup ("self":xa)=some c/\j.heap.IsCell c (some (.ref b)):=z.1.elim (λq=>nomatch hk0.symm.trans q.1) λq=>q.2.imp λc q=>⟨q.1,(show v=.ref b from z.2.1)▸q.2⟩
 refine hcx.elim λc q=>?_
 have hc:=q.1
 have r:=q.2
 have e0:tg (s.heap.objs.size+1) (fdOf (uq w)).scope.names []=[(("self":xa),s.heap.objs.size+1)]:=by kernel_rfl
 have Y2:env.cells=[(("self":xa),c)]:=by
  rw[M,e0] at hc ⊢
  exact congrArg (λx=>[(("self":xa),x)]) (va (show some (s.heap.objs.size+1)=some c from hc))
 have p:s.heap.get? c=none:=by
  cases e:s.heap.get? c with
  |none=>rfl
  |some o=>exact absurd e (l.nc "self" c hc hk0 o)
 have Z6:=l.re
 refine Nc λhC=>?_;obtain ⟨_,t2',O,_⟩:=id f;refine hC ?_
 have H:j.gens=s.gens:=by rw[O]
 refine LF (cl:=[("self",c)]) (cc:=1944) (PT:=1940) (ps:=ps) (ex:=[b,dd,d,c]) (a:=0) (c:=8) (n:=(bs.length+7) / 8) (Fv:=λi v=>∃t,v=.int (rj (Xk bs (8*i))) t)
  J.ga.hd J.ga.room F2 l.eg l.eb (by kernel_rfl) ?_ (bp (by kernel_rfl)) (by kernel_rfl) (by kernel_rfl) (by kernel_rfl) IA (L.keeps λZ Z e=>f.get e) ?_ ?_ ?_ (λZ=>rfl) ?_ ?_
 ·rw[Of (scope:=BW) (env:=env) ?_]
  ·rw[Y2];kernel_rfl
  ·intro y V V2
   rw[Y2]
   have:BW.names.all (λy=>y.2 != .free||y.1=="self")=true:=by kernel_rfl
   have q:=List.all_eq_true.mp this y V
   rw[V2] at q
   have q:y.1="self":=by simpa using q
   rw[q];rfl
 ·have nf:∀{x:la} {o:Sa},s.heap.get? x=some o->(∀vs,o.data≠.fields vs)->(1940:la)≠x:=λe hn=>(gp L.tab e hn).symm
  exact λq=>(List.mem_append.mp q).elim (λq=>absurd q (by decide)) (sy (nf hb λZ q=>nomatch q) (sy (nf pC λZ q=>nomatch q) (sy (nf hd λZ q=>nomatch q) (sy (λq=>nomatch L.tab.symm.trans ((congrArg s.heap.get? q).trans p)) λq=>nomatch q))))
 ·exact Dc ⟨_,f.get hb⟩ (Dc ⟨_,f.get pC⟩ (Dc ⟨_,f.get hd⟩ (Dc (r.imp λo q=>q.1) tj)))
 ·rw[XX]
  refine Yc ⟨_,_,rfl⟩ (name_buil Z6 ((ek _).trans (by kernel_rfl)) (ke w (.tail _ (.head _))) (v:=.type "range") (by kernel_rfl) (by decide) (by decide) ?_)
  refine md (xs:=[eval (.Constant (.int 0) 0 (ch AI 1).pos) env,eval (.Call _ _ [] _) env,eval (.Constant (.int 8) 0 (ch AI 3).pos) env]) (show 3<=30 by decide) ?_
  refine Rb ?_
  generalize yN:({j with toks:=j.toks+1}:aa)=U6
  have k3:Kp j U6:=yN▸.tok _
  have D:=l.step k3
  refine Yc ⟨_,_,rfl⟩ (name_buil D.re ((ek _).trans (by kernel_rfl)) (ke w (za ..)) (v:=.builtin "len") (by kernel_rfl) (by decide) (by decide) ?_)
  refine md (xs:=[eval (.Attribute _ _ _) env]) (show 1<=30 by decide) ?_
  refine Nc λhC=>?_;obtain ⟨v,hv,Y,_⟩:=D.look "self" (.addr b) rfl;refine hC ?_
  have Y:v=.ref b:=Y
  subst Y
  have X1:=f.trans' k3
  refine gf (Md D.kind hv (by decide) (by decide) (P5 J.ga.hd (F.kp X1) (X1.get hb) λh4 hk4=>?_))
  have k4:=k3.trans' (xq 1 hk4)
  have k04:=f.trans' k4
  refine Aa (a:=Xa) rfl ?_
  refine Ds (k04.get hd) (by lia) λu tk=>?_
  refine Rb ?_
  refine Aa (a:=Xa) rfl ?_
  refine call_range_3 (by decide) ?_ (.inl (Ll (by unfold Sm;lia)))
  have I8:=λ(h:Na) (t1 t2 t3:jg)=>Ts h 0 (bs.length:Int) 8 t1 t2 t3
  refine Ag (I8 _ _ _ _) ?_ ⟨_,rfl,k4.trans' ?_,?_,?_⟩
  ·exact(Nh (by decide) (by unfold Sm;lia) (by unfold Sm;lia) (by unfold Sm;lia)).1
  ·exact⟨_,_,rfl,λZ Z e=>fa _ (fa _ e)⟩
  ·exact Eb (k4.trans' (.tok _)) (Pe (by rw[Ec];exact ze _))
  ·show wc _ _ _ _ _
   have:=ra (o:={cls:=.type "range_iterator",data:=.fields #[Fc 0,Fc (Bb 0 (bs.length:Int) 8),Fc 8]}) (h4.push {cls:=.type "range",data:=.fields #[.int 0 j.toks,.int bs.length u,.int 8 tk]}) rfl
   rw[ZC] at this
   rw[ZC]
   exact this
 ·intro C code A' i t m s' hA hi hk hn hm
  have ad:∀z∈Nf,∀o,j.heap.get? z=some o->s'.heap.get? z=some o:=λz hz o e=>hk z (Oe _ hz) o e
  have F':=F2.oF ad
  have hb':=hk b (jc _ (za ..)) _ (f.get hb)
  have U8:=hk dd (jc _ (.tail _ (.head _))) _ (f.get pC)
  have hd':nh s'.heap d bs:=hk d (jc _ (.tail _ (.tail _ (.head _)))) _ (f.get hd)
  have i3:s'.heap.IsCell c (some (.ref b)):=by obtain ⟨o,e,q⟩:=r;exact⟨o,hk c (jc _ (.tail _ (.tail _ (.tail _ (.head _))))) _ e,q⟩
  have e8:(0:Int)+(i:Int)*8=((8*i:Nat):Int):=by lia
  rw[e8] at hm
  refine LV (k:=8*i) (b:=b) (dd:=dd) (d:=d) (bs:=bs) hA F' hb' U8 hd' hB hz (by lia) (λx=>rfl) ?_ λt Ng k=>⟨⟨t,rfl⟩,k⟩
  refine sR (x:="k") (v:=.int ((8*i:Nat):Int) t) (m:=m) (by kernel_rfl) l.eg (cf F') (by kernel_rfl) hn hm ⟨t,rfl⟩ ?_ ?_
  ·exact λy q e=>have z:=SG e;by rw[z.1];exact⟨by kernel_rfl,c,.ref b,rfl,i3,z.2▸rfl⟩
  ·have e1:BW.names.all (λy=>y.2 != .cell&&(y.2 != .free||y.1=="self"))=true:=by kernel_rfl
   have:∀{y k},BW.names.lookup y=some k->(k != .cell&&(k != .free||y=="self"))=true:=λhk=>List.all_eq_true.mp e1 _ (xc hk)
   exact λy V=>V.elim (λV=>nomatch this V) λV=>by rw[eq_of_beq (show(y=="self")=true from this V)];rfl
 ·intro a C I h' tk gs T h1 h2 h3 h4 h5 h6 h7 h8 h9
  have e:∀(h:Na) (g:Array Bc) (t:Nat),({j with heap:=h,gens:=g,toks:=t}:aa)={s with heap:=h,gens:=g,toks:=t}:=λh g t=>by rw[O]
  rw[H] at h7 h8
  rw[H]
  refine⟨⟨_,rfl⟩,?_⟩
  have key:=hQ a C I c h' tk gs T h1 (Eb f h2) (Eb f h3) (Eb f h4) p (λz o hz q=>h5 z o hz (f.get q)) h6 h8
   (Dc (h9 _ (.head _)) (Dc (h9 _ (.tail _ (.head _))) (Dc (r.imp λo q=>h5 _ o (λq'=>nomatch L.tab.symm.trans ((congrArg s.heap.get? q').symm.trans p)) q.1) tj))) (λB hB=>e _ _ _▸h7 B hB)
  rw[<- e] at key
  exact key
end
theorem Qo{h h':Na}{a:la}{g:Nat}(x:h.IsGen a g)(k:∀o,h.get? a=some o->h'.get? a=some o):h'.IsGen a g:=
 x.elim λo y=>y.elim λnm y=>y.elim λb y=>⟨o,nm,b,k o y.1,y.2⟩
section
variable{prog:wa}{w:ja}{A:ua}{E:Value->aa->Prop}{s:aa}
theorem iy{it:la}{x left Gf:Int}{Q:Value->aa->Prop}(a:wc s.heap it x left Gf)(b:0 < left)
  (c:∀h',wc h' it (x+Gf) (left-1) Gf->Ad it s.heap h'->Q (.int x s.toks) {s with heap:=h',toks:=s.toks+1}):
  wpAny (ka prog w) A (Lc (.ref it)) Q E s:=by
 have hT:s.TypeIs (.ref it) "range_iterator":=⟨_,a,rfl⟩
 unfold Lc
 refine zb (Ub (name:=qa "__next__") hT Bi
  (yC Bi hT Iz (Ux _) (AutoRange.range_iterator___next___range_iterator_1 it x left Gf (by lia)) ⟨a,?_⟩))
 exact pa (c _ (zc _ (zc _ a rfl) rfl) ((ug ..).trans (ug ..)))
theorem Sr{it:la}{x left Gf:Int}{Q:Value->aa->Prop}(d:A.handled=none)(b:wc s.heap it x left Gf)(c:left<=0)
  (f:∀h' e,bj it s.heap h'->(∃o,h'.get? e=some o/\o.cls=.type "StopIteration")->E (.ref e) {s with heap:=h'}):
  wpAny (ka prog w) A (Lc (.ref it)) Q E s:=by
 have hT:s.TypeIs (.ref it) "range_iterator":=⟨_,b,rfl⟩
 unfold Lc
 refine zb (Ub (name:=qa "__next__") hT Bi
  (qc Bi hT Iz ?_ (Ux _)))
 show wpAny _ _ (ew (.ref it) 0>>=_) _ _ s
 refine zb (Zc b rfl (x:=Fc x) rfl ?_)
 show wpAny _ _ (ew (.ref it) 1>>=_) _ _ s
 refine zb (Zc b rfl (x:=Fc left) rfl ?_)
 show wpAny _ _ (ew (.ref it) 2>>=_) _ _ s
 refine zb (Zc b rfl (x:=Fc Gf) rfl ?_)
 show wpAny _ _ (if left<=0 then _ else _) _ _ s
 rw[if_pos c]
 refine zb (eh ?_)
 refine zb ?_
 show wpAny _ _ (NR (.type "StopIteration") []>>=_) _ _ _
 refine zb ?_
 dsimp only[NR,newTuple]
 refine zb (Uc ?_ (by size_fits))
 refine zb (m:=e6 _ _) (Aa (a:=Cn) (by rfl) ?_)
 refine Uc ?_ (by size_fits)
 dsimp only[raiseNew]
 refine zb (wpAny_handled ?_)
 first|rw[show A.in1.handled=none from d]|rw[d]
 refine zb (pa (BN ?_))
 exact f _ _ (((q6 it s.heap).push _).push _) ⟨_,ra _ rfl,rfl⟩
theorem v7{n j m:Nat}(a:j < n)(hm:n-j=m+1):n-1-m=j:=by rw[Uv,Dj 1 m,<- hm,LN (Vd a)]
set_option tactic.hygienic true
theorem ND{a:la}{g:Nat}{C:la}{fp wr:List la}{n:Nat}{F:Nat->Value->Prop}(hh:A.handled=none)(haC:a≠C)(haf:a∉fp)(u:∀b∈wr,b∈fp)
  (q:A.depth < Le) (hcs:Ue∈fp) (L:Ue≠C) (J:Ue∉wr) {j:Nat} (I:j < n) (st:Lr prog w A a g C fp wr (λ_=>true) n F j s) {Q:Value->aa->Prop}
  (hQ:∀v s',F j v->Lr prog w A a g C fp wr (λ_=>true) n F (j+1) s'->Moved (C::wr) (We g) s s'->Q v s'):
  wpAny (ka prog w) A (Lc (.ref a)) Q E s:=by
 refine Nc λD=>?_;obtain ⟨hg,T,gs,l,t⟩:=st;refine D ?_
 have p:(passing (λ_=>true) n 0).length=n:=by rw[bo,yc]
 rw[p] at t
 refine Nc λD=>?_;obtain ⟨m,hm⟩:∃m,n-j=m+1:=⟨n-j-1,(Me (Cm I)).symm⟩;refine D ?_
 rw[hm] at t
 refine W4 (Ab s.toks) ?_
 have k:=t (s.setGen g .running) (λ_ _ _ e=>e)
 unfold Lc
 refine zb (Ub (name:=qa "__next__") hg.typeIs slot_gen_next
  (qc slot_gen_next hg.typeIs entry_gen_next ?_ (args_gen_next _)))
 show wpAny _ A.in1 (Pp (.ref a) (.send .none)) _ _ s
 unfold Pp
 refine zb (Ma (wpAny_genNumber hg (zb (wpAny_genState l ?_))))
 have O:∀v c d,d.bare=true->genProto C fp wr (λ_=>true) n F m (s.setGen g .running) v c (λV Ng=>d.Goes (ka prog w) A.in1 (λn s₀ r c=>r=.ok .next/\(n=0/\GenSince C wr s₀ c)) (genProto C fp wr (λ_=>true) n F) m V Ng)->
   s.toks<=(c.setGen g d).toks->Q v (c.setGen g d):=by
  intro v c d hb hv H
  refine Nc λD=>?_;obtain ⟨⟨i,hi,hF⟩,⟨yb,G,rfl,f⟩,z⟩:=hv;refine D ?_
  rw[bo,yc] at hi
  have B:n-1-m=j:=v7 I hm
  rw[B,Fq I] at hi
  obtain rfl:=va hi
  have M:a∉wr:=λh=>haf (u a h)
  refine hQ v _ hF ⟨Qo hg λo=>f a o haC M,(T.elim λY y=>⟨Y,y.1.at' λo e=>f Ue o L J e,y.2⟩),d,Bz (gs:=.running) (Bz l),λNg N=>?_⟩
   ⟨λb o hb e=>f b o (λh=>hb (h▸za ..)) (λh=>hb (ya _ h)) e,GenOnlyQ.of ((WI s g .running).trans (WI _ g d)) (Bz (gs:=.running) (Bz l)) hb,rfl,rfl,H⟩
  rw[p]
  have e:n-(j+1)=m:=congrArg Nat.pred hm
  rw[e]
  exact z Ng N
 cases gs with
 |running=>exact k.elim
 |finished=>exact k.elim
 |_=>
  refine zb (wpAny_roomToWake T q ?_)
  show wpAny _ A.in1 (.resume g (.send .none) [] _) _ _ s
  refine wpAny_resumeQ l k (λx c hx=>?_) (λv c d hb hv=>?_)
  ·exact absurd hx.2.1 (Nat.succ_ne_zero m)
  ·exact pa ⟨v,rfl,pa (O v c d hb hv)⟩
end
set_option tactic.hygienic false
noncomputable abbrev YN(h:Na)(a b c:Int):Na:=h.push {cls:=.type "range_iterator",data:=.fields #[Fc a,Fc (Bb a b c),Fc c]}
noncomputable abbrev XN(h:Na)(a b c:Int)(g:la):Na:=(YN h a b c).push {cls:=.type "tuple",data:=.seq #[.ref h.objs.size,.ref g]}
noncomputable abbrev WN(h:Na)(a b c:Int)(g:la):Na:=(XN h a b c g).push {cls:=.type "tuple",data:=.seq #[.none,.none]}
noncomputable abbrev rG(h:Na)(a b c:Int)(g:la):Na:=(WN h a b c g).push {cls:=.type "zip",data:=.fields #[.none,.bool false,.bool false,.ref (YN h a b c).objs.size,.ref (XN h a b c g).objs.size]}
theorem HE{h:Na}{a:la}{g:Nat}(x:h.IsGen a g)(o:Sa):(h.push o).IsGen a g:=
 Qo x λZ=>fa o
theorem wy(r ga:la)(a b c:Int)(t u v:jg)(g:Nat)(e:Jm a b c=true):
  Meets (Builtin.«zip.__new__» ⟨[.type "zip",.ref r,.ref ga],[]⟩) (λZ R s=>dm s.heap r a b c t u v/\s.heap.IsGen ga g /\
   R (.ok (.ret (.ref (WN s.heap a b c ga).objs.size))) {s with heap:=rG s.heap a b c ga}):=
 .of_wp λprog w A R s h=>by
  obtain ⟨hp,k,d,tk,os⟩:=s;obtain ⟨hr,hg,h⟩:=h
  have j:=sub_zip
  have i:dm (YB ⟨hp,k,d,tk,os⟩) r a b c t u v:=hr
  have f:Heap.IsGen (YB ⟨hp.push {cls:=.type "range_iterator",data:=.fields #[Fc a,Fc (Bb a b c),Fc c]},k,d,tk,os⟩) ga g:=HE hg _
  wp_walk using Ag i e,Nx f
  exact⟨_,rfl,h⟩
section
variable{prog:wa}{w:ja}{A:ua}{E:Value->aa->Prop}{s:aa}
theorem nB{r ga:la}{a b c:Int}{t u v:jg}{g:Nat}{Q:Value->aa->Prop}(hr:dm s.heap r a b c t u v)(j:Jm a b c=true)(hg:s.heap.IsGen ga g)
  (h:∀h',HC h' (s.heap.objs.size+3) (s.heap.objs.size+1) (s.heap.objs.size+2) .none->IsPair h' (s.heap.objs.size+1) (.ref s.heap.objs.size) (.ref ga)->
   IsPair h' (s.heap.objs.size+2) .none .none->wc h' s.heap.objs.size a (Bb a b c) c->h'.objs.size=s.heap.objs.size+4->
   (∀c o,s.heap.get? c=some o->h'.get? c=some o)->Q (.ref (s.heap.objs.size+3)) {s with heap:=h'}):
  wpAny (ka prog w) A (call (.type "zip") [.ref r,.ref ga]) Q E s:=by
 refine callType_new F.called_zip (by decide) (F.typeCall_zip_2 _ _) (F.newCall_zip_2 _ _) (λi=>Jq i _ _) F.entry_zip_new
  (wy r ga a b c t u v g j) ⟨hr,hg,?_⟩
 have f:(YN s.heap a b c).objs.size=s.heap.objs.size+1:=Ec ..
 have e:(XN s.heap a b c ga).objs.size=s.heap.objs.size+2:=by rw[Ec,f]
 have d:(WN s.heap a b c ga).objs.size=s.heap.objs.size+3:=by rw[Ec,e]
 have n:(rG s.heap a b c ga).objs.size=s.heap.objs.size+4:=by rw[Ec,d]
 have k:(rG s.heap a b c ga).get? (WN s.heap a b c ga).objs.size=some _:=ra _ rfl
 have l:(rG s.heap a b c ga).get? (XN s.heap a b c ga).objs.size=some _:=fa _ (ra _ rfl)
 have m:(rG s.heap a b c ga).get? (YN s.heap a b c).objs.size=some _:=fa _ (fa _ (ra _ rfl))
 have p:(rG s.heap a b c ga).get? s.heap.objs.size=some _:=fa _ (fa _ (fa _ (ra _ rfl)))
 show _/\_
 rw[f,e,d] at k
 rw[e] at l
 rw[f] at m
 rw[d]
 exact⟨⟨_,k,rfl⟩,h _ k m l p n λc o x=>fa _ (fa _ (fa _ (fa _ x)))⟩
structure ZG(prog:wa)(w:ja)(A:ua)(z TI TO I1 a:la)(g:Nat)(C:la)(fp wr:List la)(m n:Nat)(Fv:Nat->Value->Prop)(f0:Value)(j:Nat)(s:aa):Prop where
 hz:HC s.heap z TI TO f0
 hTI:IsPair s.heap TI (.ref I1) (.ref a)
 hTO:∃x y,IsPair s.heap TO x y
 hI:wc s.heap I1 (j:Int) ((m:Int)-j) 1
 hg:Lr prog w A.in1 a g C fp wr (λ_=>true) n Fv j s
structure RW(z TI TO I1 a C:la)(fp wr:List la):Prop where
 nd:z≠TI/\z≠TO/\z≠I1/\TI≠TO/\TI≠I1/\TO≠I1
 out:∀b∈a::C::fp,b≠z/\b≠TI/\b≠TO/\b≠I1
 haC:a≠C
 haf:a∉fp
 sub:∀b∈wr,b∈fp
 cs:Ue∈fp
 cC:Ue≠C
 cw:Ue∉wr
theorem dt{a:la}{g:Nat}{C:la}{fp wr:List la}{n:Nat}{Fv:Nat->Value->Prop}{j:Nat}(x:Lr prog w A a g C fp wr (λZ=>true) n Fv j s)(d:Ue∈fp){s':aa}(hg:s'.gens[g]?=s.gens[g]?)
  (c:∀b∈a::C::fp,∀o,s.heap.get? b=some o->s'.heap.get? b=some o):Lr prog w A a g C fp wr (λZ=>true) n Fv j s':=
 ⟨Qo x.1 (c a (za ..)),
  (x.2.1.elim λh y=>⟨h,y.1.at' λo e=>c Ue (ya _ (ya _ d)) o e,y.2⟩),
  x.2.2.elim λgs y=>⟨gs,by rw[hg];exact y.1,λNg f=>y.2 Ng λb hb o e=>f b hb o (c b (ya _ hb) o e)⟩⟩
theorem Rh{a:la}{g:Nat}{C:la}{fp wr:List la}{n:Nat}{Fv:Nat->Value->Prop}{j:Nat}(x:Lr prog w A a g C fp wr (λZ=>true) n Fv j s)(c:Ue∈fp){s':aa}(hg:s'.gens=s.gens)
  (d:∀b∈a::C::fp,∀o,s.heap.get? b=some o->s'.heap.get? b=some o):Lr prog w A a g C fp wr (λZ=>true) n Fv j s':=
 dt x c (congrArg (·[g]?) hg) d
variable{z TI TO I1 a:la}{g:Nat}{C:la}{fp wr:List la}{m n:Nat}{Fv:Nat->Value->Prop}{j:Nat}
theorem VN(hh:A.handled=none)(L2:A.in1.depth < Le)(D:RW z TI TO I1 a C fp wr)(hj:j < m)(hn:j < n)(x:ZG prog w A z TI TO I1 a g C fp wr m n Fv .none j s){Q:Option Value->aa->Prop}
  (hQ:∀T v t s',Fv j v->IsPair s'.heap T (.int j t) v->ZG prog w A z TI TO I1 a g C fp wr m n Fv (Fc T) (j+1) s'->Moved (z::TO::I1::C::wr) (We g) s s'->Q (some (.ref T)) s'):
  wpAny (ka prog w) A (Qg (.ref z)) Q E s:=by
 refine Nc λhC=>?_;obtain ⟨hz,hTI,⟨p,q,hTO⟩,hI,hg⟩:=x
 obtain ⟨d1,d2,d3,d4,d5,d6⟩:=D.nd;refine hC ?_
 have hT:s.TypeIs (.ref z) "zip":=⟨_,hz,rfl⟩
 refine W4 (Ab s.toks) ?_
 unfold Qg
 refine zb (gh (Ub (name:=qa "__next__") hT Np
  (qc Np hT SR ?_ (GQ _))))
 show wpAny _ A.in1 (ew (.ref z) 2>>=_) _ _ _
 refine zb (Zc hz rfl (x:=.bool false) rfl ?_)
 show wpAny _ _ (ew (.ref z) 3>>=_) _ _ _
 refine zb (Zc hz rfl (x:=.ref TI) rfl ?_)
 refine zb (Qd hTI rfl ?_)
 show wpAny _ _ (qf (.ref z)>>=_) _ _ _
 refine zb ?_
 unfold qf
 refine zb (Zc hz rfl (x:=.none) rfl (pa ?_))
 dsimp only[if_true]
 refine zb (eh ?_)
 refine zb (Zc hz rfl (x:=.ref TO) rfl ?_)
 refine zb (zj hz (show 0 < 5 by decide) λyb u H=>?_)
 replace u:HC yb z TI TO .ellipsis:=u
 refine zb ?_
 dsimp only[lN,ON,de,El]
 refine zb (zb (gG ?_))
 show wpAny _ _ (Lc (.ref I1)>>=_) _ _ _
 have C3:wc yb I1 (j:Int) ((m:Int)-j) 1:=H.extBut _ _ d3.symm hI
 refine zb (iy C3 (Lg (Int.ofNat_lt.mpr hj)) λgH WU G=>pa ?_)
 have M:IsPair gH TO p q:=G.extBut _ _ d6 (H.extBut _ _ d2.symm hTO)
 refine zb (Qd M rfl ?_)
 refine zb (AN M λJ k B=>?_)
 replace k:IsPair J TO (.int j s.toks) q:=k
 refine zb (Nn (pa ?_))
 refine zb (zb (gG ?_))
 show wpAny _ _ (Lc (.ref a)>>=_) _ _ _
 have k3:∀b o,b≠z->b≠TO->b≠I1->s.heap.get? b=some o->J.get? b=some o:=λb o b1 b2 b3 e=>B.extBut _ _ b2 (G.extBut _ _ b3 (H.extBut _ _ b1 e))
 have nR:Lr prog w A.in1 a g C fp wr (λZ=>true) n Fv j {s with heap:=J,toks:=s.toks+1}:=Rh hg D.cs rfl λb hb o e=>k3 b o (D.out b hb).1 (D.out b hb).2.2.1 (D.out b hb).2.2.2 e
 refine zb (ND (A:=A.in1) hh D.haC D.haf D.sub L2 D.cs D.cC D.cw hn nR λv O hF hg4 N=>pa ?_)
 have H8:∀b,b∈C::wr->b∈a::C::fp:=Dc (.tail _ (.head _)) λb hb=>.tail _ (.tail _ (D.sub b hb))
 have own:∀b,(b=z\/b=TI\/b=TO\/b=I1)->b∉C::wr:=λb hb q=>have d:=D.out b (H8 b q);hb.elim d.1 λhb=>hb.elim d.2.1 λhb=>hb.elim d.2.2.1 d.2.2.2
 have L:IsPair O.heap TO (.int j s.toks) q:=N.heap TO _ (own TO (.inr (.inr (.inl rfl)))) k
 refine zb (Qd L rfl ?_)
 refine zb (AN L λf i y=>?_)
 replace i:IsPair f TO (.int j s.toks) v:=i
 refine zb (Nn (pa (pa ?_)))
 refine zb (Qd i rfl ?_)
 refine zb (wpAny_newTuple ?_)
 have kz:∀b o,(b=z\/b=TI\/b=I1)->J.get? b=some o->f.get? b=some o:=λb o hb e=>
  y.extBut _ _ (hb.elim (λh=>h▸d2) λhb=>hb.elim (λh=>h▸d4) λh=>h▸d6.symm) (N.heap b o (own b (hb.imp id λhb=>hb.imp id .inr)) e)
 have V:HC f z TI TO .ellipsis:=kz z _ (.inl rfl) (B.extBut _ _ d2 (G.extBut _ _ d3 u))
 have VU:IsPair f TI (.ref I1) (.ref a):=kz TI _ (.inr (.inl rfl)) (k3 _ _ d1.symm d4 d5 hTI)
 have pR:wc f I1 ((j:Int)+1) ((m:Int)-j-1) 1:=kz I1 _ (.inr (.inr rfl)) (B.extBut _ _ d6.symm WU)
 have k5:∀b o,b∉z::TO::I1::C::wr->s.heap.get? b=some o->f.get? b=some o:=λb o hb e=>by
  exact y.extBut _ _ (λq=>hb (q▸.tail _ (.head _))) (N.heap b o (λq=>hb (.tail _ (.tail _ (.tail _ q)))) (k3 b o (λq=>hb (q▸.head _)) (λq=>hb (q▸.tail _ (.head _))) (λq=>hb (q▸.tail _ (.tail _ (.head _)))) e))
 have LW:Lr prog w A.in1 a g C fp wr (λZ=>true) n Fv (j+1) {O with heap:=f}:=Rh hg4 D.cs rfl λb hb o e=>y.extBut _ _ (D.out b hb).2.2.1 e
 have J2:z < f.objs.size:=Ba V
 show wpAny _ _ (Hl (.ref z) (.ref f.objs.size)>>=_) _ _ _
 refine zb ?_
 unfold Hl
 have I2:HC (f.push {cls:=.type "tuple",data:=.seq #[.int j s.toks,v]}) z TI TO .ellipsis:=fa _ V
 refine zb (zj I2 (by simp) λv8 r lR=>?_)
 replace r:HC v8 z TI TO (Fc f.objs.size):=r
 refine zj r (by simp) λI l Y=>?_
 replace l:HC I z TI TO (Fc f.objs.size):=l
 have up:∀c o,c≠z->f.get? c=some o->I.get? c=some o:=λc o c1 e=>Y.extBut _ _ c1 (lR.extBut _ _ c1 (fa _ e))
 have p3:IsPair I f.objs.size (.int j s.toks) v:=Y.extBut _ _ (Ee J2) (lR.extBut _ _ (Ee J2) (ra _ rfl))
 refine pa ⟨_,rfl,pa λhtk=>?_⟩
 refine hQ f.objs.size v s.toks {O with heap:=I} hF p3 ⟨l,up _ _ d1.symm VU,⟨_,_,up _ _ d2.symm i⟩,?_,?_⟩ ⟨?_,N.gens,N.drawn,N.os,?_⟩
 ·have e1:((j:Int)+1)=(((j+1:Nat)):Int):=rfl
  have e2:(m:Int)-j-1=(m:Int)-((j+1:Nat):Int):=o5 _ _ 1
  rw[e1,e2] at pR
  exact up _ _ d3.symm pR
 ·exact Rh LW D.cs rfl λb hb o e=>up _ _ (D.out b hb).1 e
 ·exact λb o hb e=>up b o (λq=>hb (q▸za ..)) (k5 b o hb e)
 ·exact htk
end
section
variable{prog:wa}{w:ja}{A:ua}{E:Value->aa->Prop}{s:aa}
variable{z TI TO I1 a:la}{g:Nat}{C:la}{fp wr:List la}{m n:Nat}{Fv:Nat->Value->Prop}{j:Nat}
theorem UR(N:A.handled=none)(D:RW z TI TO I1 a C fp wr)(x:ZG prog w A z TI TO I1 a g C fp wr m n Fv .none m s){Q:Option Value->aa->Prop}
  (O:∀h',(∀b o,b≠z->b≠TO->b≠I1->s.heap.get? b=some o->h'.get? b=some o)->Q none {s with heap:=h'}):
  wpAny (ka prog w) A (Qg (.ref z)) Q E s:=by
 obtain ⟨hz,hTI,⟨p,q,hTO⟩,hI,hg⟩:=x
 obtain ⟨d1,d2,G,d4,d5,d6⟩:=D.nd
 have hT:s.TypeIs (.ref z) "zip":=⟨_,hz,rfl⟩
 have u:∀{B:Value->aa->Prop} {I:Fin->aa->Prop},(∀h' e,(∀c o,c≠z->c≠TO->c≠I1->s.heap.get? c=some o->h'.get? c=some o)->(∃o,h'.get? e=some o/\o.cls=.type "StopIteration")->B (.ref e) {s with heap:=h'})->
   wpAny (ka prog w) A.in1 (Builtin.«zip.__next__» ⟨[.ref z],[]⟩) I B s:=by
  intro B I V
  show wpAny _ _ (ew (.ref z) 2>>=_) _ _ _
  refine zb (Zc hz rfl (x:=.bool false) rfl ?_)
  show wpAny _ _ (ew (.ref z) 3>>=_) _ _ _
  refine zb (Zc hz rfl (x:=.ref TI) rfl ?_)
  refine zb (Qd hTI rfl ?_)
  show wpAny _ _ (qf (.ref z)>>=_) _ _ _
  refine zb ?_
  unfold qf
  refine zb (Zc hz rfl (x:=.none) rfl (pa ?_))
  dsimp only[if_true]
  refine zb (eh ?_)
  refine zb (Zc hz rfl (x:=.ref TO) rfl ?_)
  refine zb (zj hz (by simp) λyb d j=>?_)
  replace d:HC yb z TI TO .ellipsis:=d
  refine zb ?_
  dsimp only[lN,ON,de,El]
  refine zb (zb (gG ?_))
  show wpAny _ _ (Lc (.ref I1)>>=_) _ _ _
  have y:wc yb I1 (m:Int) ((m:Int)-m) 1:=j.extBut _ _ G.symm hI
  refine zb (Sr N y (by lia) λr e i he=>?_)
  obtain ⟨J,k,t⟩:=he
  have f:HC r z TI TO .ellipsis:=i _ _ G d
  have v:e≠z:=λx=>by subst x;rw[f] at k;obtain rfl:=va k;simp at t
  refine zj f (by simp) λl Z h=>V l e (λc o H Z Y x=>h.extBut _ _ H (i _ _ Y (j.extBut _ _ H x))) ⟨J,h.extBut _ _ v k,t⟩
 unfold Qg
 refine zb (gh (Ub (name:=qa "__next__") hT Np
  (qc Np hT SR (u λh' e M he=>?_) (GQ _))))
 obtain ⟨o,L,hc⟩:=he
 refine zb (zf (T:="StopIteration") (b:=true) ⟨o,L,hc⟩ wC ?_)
 exact pa (O _ M)
theorem pX{T:Nat}{d:List Oa}{k:Nat}{pos:xd}(D:RW z TI TO I1 a C fp wr)(x:ZG prog w A z TI TO I1 a g C fp wr m n Fv (Fc T) j s){Q:Unit->aa->Prop}
  (h:∀h',ZG prog w A z TI TO I1 a g C fp wr m n Fv .none j {s with heap:=h'}->(∀b o,b≠z->s.heap.get? b=some o->h'.get? b=some o)->Q () {s with heap:=h'}):
  wpAny (ka prog w) A (Tf (.Tuple d k pos) (.ref z) (.ref T)) Q E s:=by
 refine Nc λi=>?_;obtain ⟨hz,hTI,⟨p,q,hTO⟩,hI,hg⟩:=x
 obtain ⟨t,r,l,y,v,u⟩:=D.nd;refine i ?_
 refine wpAny_letOwnedTupleGo_zip hz λh' f c=>h h' ⟨f,c.extBut _ _ t.symm hTI,⟨p,q,c.extBut _ _ r.symm hTO⟩,c.extBut _ _ l.symm hI,?_⟩ λb o hb e=>c.extBut _ _ hb e
 exact Rh hg D.cs rfl λb hb o e=>c.extBut _ _ (D.out b hb).1 e
theorem Ut{f0:Value}(D:RW z TI TO I1 a C fp wr)(x:ZG prog w A z TI TO I1 a g C fp wr m n Fv f0 j s){h':Na}{tk:Nat}
  (c:∀b∈z::TI::TO::I1::a::C::fp,∀o,s.heap.get? b=some o->h'.get? b=some o):ZG prog w A z TI TO I1 a g C fp wr m n Fv f0 j {s with heap:=h',toks:=tk}:=by
 refine Nc λd=>?_;obtain ⟨hz,hTI,⟨p,q,hTO⟩,hI,hg⟩:=x;refine d ?_
 refine⟨c _ (.head _) _ hz,c _ (.tail _ (.head _)) _ hTI,⟨p,q,c _ (.tail _ (.tail _ (.head _))) _ hTO⟩,c _ (.tail _ (.tail _ (.tail _ (.head _)))) _ hI,Rh hg D.cs rfl λb hb o e=>c b ?_ o e⟩
 exact ya _ (ya _ (ya _ (ya _ hb)))
end
section
variable{prog:wa}{w:ja}{A:ua}{s:aa}{env:Be}
theorem Bs{t d g:Oa}{p:List Oa}{rest:List qj}{scope:me}{cl:List (xa×la)}{pos:xd}{it:Value}(k:∀y∈scope.names,y.2≠.cell)(j:scope.kind=.function)
  (i:∀(s':aa) (Q:Value->aa->Prop) (E:Value->aa->Prop),Kp s s'->Q it s'->wpAny (ka prog w) A (wh it) Q E s') {RR:Value->la->Ob->aa->Prop}
  (h:∀D C s',Kp s s'->s.heap.get? D=none->s.heap.get? C=none->D≠C->s'.heap.get? D=some (Wa [] 0)->s'.heap.Ns C (λZ=>none)->
   codeAny (ka prog w) A (.compLoop (.ListComp t (⟨d,g,p,0⟩::rest) scope pos) 0 it (.ref D) (qd scope cl C env)) (RR (.ref D) C) s'):
  wpAny (ka prog w) A (oW []) (λyg n=>wpAny (ka prog w) A (vC scope env.globals cl [] env.qual none .none (some env)) (λcenv m=>
   codeAny (ka prog w) A (.compStart (.ListComp t (⟨d,g,p,0⟩::rest) scope pos) 0 it yg {cenv with scope:=relabel scope env}) (RR yg cenv.locals) m) Jc n) Jc s:=by
 refine Uc (Dr k (by intro y B;simp at B) (λyb c a=>?_) j)
 dsimp only at c a ⊢
 generalize l:s.heap.push {cls:=.type "list",dict:=none,data:=.seq ([]:List Value).toArray}=u at c a ⊢
 have z:u.objs.size=s.heap.objs.size+1:=by rw[<- l,Ec]
 have r:s.heap.objs.size≠u.objs.size:=by rw[z];exact Va (Dd _)
 have old:∀b o,s.heap.get? b=some o->yb.get? b=some o:=λb o e=>a.extBut b o (by rw[z];exact Va (ye (Ba e))) (fa _ (l▸fa _ e))
 have v:s.heap.get? s.heap.objs.size=none:=Qb
 have x:s.heap.get? u.objs.size=none:=Pe (by rw[z];exact ze _)
 have q:yb.get? s.heap.objs.size=some (Wa [] 0):=a.extBut _ _ r (fa _ (l▸ra _ rfl))
 have f:=h s.heap.objs.size u.objs.size {s with heap:=yb,toks:=s.toks+([]:List (xa×Value)).length} ⟨yb,_,rfl,old⟩ v x r q c
 exact NI f (i _ _ _ ⟨yb,_,rfl,old⟩ f)
set_option tactic.hygienic true
theorem cz{l i:Oa}{b:List Oa}{k:Nat}{a:xd}{scope:me}{pos:xd}{it yg:Value}{R:Ob->aa->Prop}(I:Nat->aa->Prop)
  (qq:∀n s,I n s->wpAny (ka prog w) A (Qg it) (λr d=>match r with
   |none=>R (.ok .next) d
   |some v=>wpAny (ka prog w) A (Tf (.Tuple b k a) it v) (λ_ c=>wpAny (ka prog w) A (Ql (.Tuple b k a) env v) (λ_ g=>wpAny (ka prog w) A (eval l env) (λx f=>
     wpAny (ka prog w) A (call (.builtin "list.append") [yg,x]) (λ_ e=>∃m,m < n/\I m e) Jc f) Jc g) Jc c) Jc d) Jc s)
  (n:Nat) (h:I n s):
  codeAny (ka prog w) A (.compLoop (.ListComp l [⟨.Tuple b k a,i,[],0⟩] scope pos) 0 it yg env) R s:=by
 refine gw rfl I (λn s hI=>?_) n h
 show wpAny _ _ ((compTurn (.ListComp l [⟨.Tuple b k a,i,[],0⟩] scope pos) 0 it yg env).onRaise (λx=>do Bp x env;theTreesLotGoes x)) _ _ s
 refine zz ?_
 rw[compTurn_list1]
 refine zb (wb (zb (Lb (qq n s hI) (λr d yb=>?_) λ_ _ h'=>h'.elim)))
 cases r with
 |none=>exact pa yb
 |some v=>
  refine zb (Lb yb (λ_ c j=>?_) λ_ _ h'=>h'.elim)
  exact zb (Lb j (λ_ g p=>zb (zb (Lb p (λx f o=>zb (Lb o
   (λ_ e xg=>pa (pa ⟨rfl,xg⟩)) λ_ _ h'=>h'.elim)) λ_ _ h'=>h'.elim))) λ_ _ h'=>h'.elim)
variable{z TI TO I1 a:la}{g:Nat}{C:la}{fp wr:List la}{m n:Nat}{f:Nat->Int}
theorem YI{p p1 p2 L pos:xd}{kx:Nat}{O:Oa}{scope:me}{D Cc:la}{cenv:Be}{R:Ob->aa->Prop}(hh:A.handled=none)(B:A.in1.depth < Le)(Z:RW z TI TO I1 a C fp wr)
  (hk:cenv.scope.kind=.function) (O8:cenv.kindOf "k"=some .local) (l:cenv.kindOf "word"=some .local) (hC:cenv.locals=Cc) (hmn:m<=n) (hz:m<=2 ^ 24)
  (hD0:D∉z::TI::TO::I1::a::C::fp) (hC0:Cc∉z::TI::TO::I1::a::C::fp) (E3:D≠Cc)
  (x:ZG prog w A z TI TO I1 a g C fp wr m n (Ey f) .none 0 s) (hD:s.heap.get? D=some (Wa [] 0)) (hn:s.heap.Ns Cc (λ_=>none))
  (hR:∀s' mm,Moved (D::Cc::z::TO::I1::C::wr) (We g) s s'->Xd s'.heap D ((Qa m).map f)->s'.heap.Ns Cc mm->R (.ok .next) s'):
  codeAny (ka prog w) A (.compLoop (.ListComp (.Name "word" p) [⟨.Tuple [.Name "k" p1,.Name "word" p2] kx L,O,[],0⟩] scope pos) 0 (.ref z) (.ref D) cenv) R s:=by
 have gr:∀a:Array Bc,We g a a:=λ_=>.inl rfl
 have gt:∀a b c:Array Bc,We g a b->We g b c->We g a c:=λ_ _ _ x y=>x.trans y
 have wz:∀b,b∈z::TO::I1::C::wr->b∈z::TI::TO::I1::a::C::fp:=Dc (.head _) (Dc (.tail _ (.tail _ (.head _))) (Dc (.tail _ (.tail _ (.tail _ (.head _)))) (Dc (.tail _ (.tail _ (.tail _ (.tail _ (.tail _ (.head _)))))) λb hb=>.tail _ (.tail _ (.tail _ (.tail _ (.tail _ (.tail _ (Z.sub b hb)))))))))
 refine cz (λk s'=>∃i mm,i<=m/\k=m-i/\ZG prog w A z TI TO I1 a g C fp wr m n (Ey f) .none i s'/\Xd s'.heap D ((Qa i).map f)/\s'.heap.Ns Cc mm /\
  Moved (D::Cc::z::TO::I1::C::wr) (We g) s s') ?_ m ⟨0,_,Zb _,rfl,x,⟨[],0,hD,.nil⟩,hn,nG gr⟩
 rintro k s' ⟨i,mm,hi,rfl,xz,hl,Y,hm⟩
 have N:∀{b},b∈z::TI::TO::I1::a::C::fp->b≠Cc:=λhb q=>hC0 (q▸hb)
 have M:∀{b},b∈z::TI::TO::I1::a::C::fp->b≠D:=λhb q=>hD0 (q▸hb)
 by_cases h:i < m
 ·refine VN hh B Z h (Za h hmn) xz λT v t s1 hF hT J E=>?_
  obtain ⟨u,rfl⟩:=hF
  have S2:Xd s1.heap D ((Qa i).map f):=hl.keeps λo e=>E.heap D o (λq=>hD0 (wz D q)) e
  have V:s1.heap.Ns Cc mm:=Y.at' λo e=>E.heap Cc o (λq=>hC0 (wz Cc q)) e
  refine pX Z J λH I j=>?_
  have hTz:T≠z:=wq hT J.hz (by simp)
  have hT2:IsPair H T (.int i t) (.int (f i) u):=j _ _ hTz hT
  have zm:z∈z::TI::TO::I1::a::C::fp:=za ..
  have M8:Xd H D ((Qa i).map f):=S2.keeps λo e=>j _ o (Hb (M zm)) e
  have Q:H.Ns Cc mm:=V.at' λo e=>j _ o (Hb (N zm)) e
  have hm2:Moved (D::Cc::z::TO::I1::C::wr) (We g) s {s1 with heap:=H}:=
   (hm.trans gt (E.mono λb hb=>ya _ (ya _ hb))).then_heap (tk:=s1.toks) (Ab _) λb o hb e=>j b o (λq=>hb (q▸.tail _ (.tail _ (.head _)))) e
  refine gu (items:=#[.int i t,.int (f i) u]) hh ⟨_,hT2,rfl,_,rfl⟩ rfl rfl λh3 he3=>?_
  have d:∀b o,H.get? b=some o->h3.get? b=some o:=λb o e=>he3 b o (Va (Ba e)) e
  subst hC
  have xz3:=Ut (tk:=s1.toks) Z I λb hb o e=>d b o e
  refine Oc (Sb (Ie O8 (Q.keeps d) (λh4 hn4 xN=>?_) (by rw[hk];rfl)))
  refine Oc (Sb (Ie l hn4 (λh5 hn5 hs5=>?_) (by rw[hk];rfl)))
  refine mj ?_
  have yI:∀b o,b≠cenv.locals->H.get? b=some o->h5.get? b=some o:=λb o hb e=>hs5.extBut b o hb (xN.extBut b o hb (d b o e))
  have xz5:=Ut (tk:=s1.toks+1+1) Z I λb hb o e=>yI b o (N hb) e
  have R2:Xd h5 D ((Qa i).map f):=M8.keeps λo e=>yI _ o E3 e
  refine Md (v:=.int (f i) u) hk (.inl ⟨l,_,hn5,if_pos rfl⟩) (by decide) (by decide) ?_
  refine append_at R2 (by rw[Yb,yc];lia) λh6 Q2 r=>?_
  refine⟨m-(i+1),lG _ _ h,i+1,_,h,rfl,Ut (tk:=s1.toks+1+1) Z xz5 λb hb o e=>r.extBut _ o (M hb) e,?_,hn5.sameBut r (Hb E3),?_⟩
  ·rw[Jk,Jf];exact Q2
  ·refine hm2.then_heap (tk:=s1.toks+1+1) (Ed _ 2) λb o hb e=>?_
   exact r.extBut b o (λq=>hb (q▸.head _)) (yI b o (λq=>hb (q▸.tail _ (.head _))) e)
 ·have:i=m:=Hg hi (Nat.not_lt.mp h)
  refine UR hh Z (this▸xz) λh' G=>?_
  refine hR _ mm (hm.then_heap (tk:=s'.toks) (Ab _) λb o hb e=>G b o (λq=>hb (q▸.tail _ (.tail _ (.head _)))) (λq=>hb (q▸.tail _ (.tail _ (.tail _ (.head _))))) (λq=>hb (q▸.tail _ (.tail _ (.tail _ (.tail _ (.head _)))))) e) ?_ ?_
  ·exact(this▸hl:Xd _ _ ((Qa m).map f)).keeps λo e=>G _ o (Hb (M (.head _))) (Hb (M (.tail _ (.tail _ (.head _))))) (Hb (M (.tail _ (.tail _ (.tail _ (.head _)))))) e
  ·exact Y.at' λo e=>G _ o (Hb (N (.head _))) (Hb (N (.tail _ (.tail _ (.head _))))) (Hb (N (.tail _ (.tail _ (.tail _ (.head _)))))) e
end
section
variable{prog:wa}{w:ja}{A:ua}{s:aa}{env:Be}
variable{a:la}{g:Nat}{C:la}{fp wr:List la}{m n:Nat}{f:Nat->Int}
set_option tactic.hygienic false
theorem cL{wr:List la}{G:Array Bc->Array Bc->Prop}{s c a:aa}(k:Kp s c)(h:Moved wr G c a):(∀b o,b∉wr->s.heap.get? b=some o->a.heap.get? b=some o)/\G s.gens a.gens/\a.drawn=s.drawn/\a.os=s.os:=by
 refine Nc λf=>?_;obtain ⟨h',tk,rfl,d⟩:=k;refine f ?_
 exact⟨λb o hb e=>h.heap b o hb (d b o e),h.gens,h.drawn,h.os⟩
theorem ZI{p p1 p2 G pos:xd}{kx:Nat}{j:Oa}{scope:me}{cl:List (xa×la)}(hh:A.handled=none)(l:A.in1.depth < Le)
  (u:∀y∈scope.names,y.2≠.cell) (i:scope.kind=.function) (r:∀y∈scope.names,y.2=.local->scope.names.lookup y.1=some .local) (t:jq scope env=pure cl)
  (O8:scope.names.lookup ("k":xa)=some NameKind.local) (Y:scope.names.lookup ("word":xa)=some NameKind.local) (hs:∀y,ae j env y=pure y) (V:m<=n) (hz:m<=2 ^ 24)
  (Q8:wpAny (ka prog w) A (eval j env) (λxv d=>∃z TI TO I1,xv=.ref z/\Kp s d/\RW z TI TO I1 a C fp wr/\ZG prog w A z TI TO I1 a g C fp wr m n (Ey f) .none 0 d /\
   (∀b∈z::TI::TO::I1::a::C::fp,∃o,d.heap.get? b=some o)/\s.heap.get? z=none/\s.heap.get? TO=none/\s.heap.get? I1=none) Jc s)
  {Q:Value->aa->Prop}
  (hQ:∀D s',s.heap.get? D=none->Xd s'.heap D ((Qa m).map f)->(∀b o,b∉C::wr->s.heap.get? b=some o->s'.heap.get? b=some o)->We g s.gens s'.gens->s'.drawn=s.drawn->s'.os=s.os->Q (.ref D) s'):
  wpAny (ka prog w) A (eval (.ListComp (.Name "word" p) [⟨.Tuple [.Name "k" p1,.Name "word" p2] kx G,j,[],0⟩] scope pos) env) Q Jc s:=by
 rw[Mt]
 refine fh (use:=none) rfl hs t i r (ah Q8 (λxv d yb=>?_))
 refine Nc λB=>?_;obtain ⟨z,TI,TO,I1,rfl,O,Z,x,hfp,nz,M,N⟩:=yb;refine B ?_
 refine UW x.hz ?_
 refine Bs u i (λs' Q E k hq=>UW (k.get x.hz) hq) λD Cc H k2 hD B I D3 hn=>?_
 have out:∀{b},d.heap.get? b=none->b∉z::TI::TO::I1::a::C::fp:=λhb q=>by
  refine(hfp _ q).elim λo e=>?_
  rw[hb] at e;exact nomatch e
 have x2:ZG prog w A z TI TO I1 a g C fp wr m n (Ey f) .none 0 H:=by
  refine Nc λB=>?_;obtain ⟨h,tk,rfl,kk⟩:=id k2;refine B ?_
  exact Ut Z x λb U o e=>kk b o e
 refine YI (cenv:=qd scope cl Cc env) hh l Z i (Yg O8) (Yg Y) rfl V hz (out hD) (out B) I x2 D3 hn λs' mm hm hl T=>?_
 refine⟨mm,T,λJA sb=>?_⟩
 obtain ⟨q1,q2,q3,q4⟩:=cL (O.trans' k2) hm
 have J:=Eb O hD
 have L:=Eb O B
 have v:∀{b c:la} {o:Sa},s.heap.get? b=some o->s.heap.get? c=none->b≠c:=λe e' q=>by rw[q,e'] at e;exact nomatch e
 refine hQ D {s' with heap:=JA} J (hl.keeps λo e=>sb.extBut _ o I e) (λb o hb e=>sb.extBut b o (v e L) (q1 b o ?_ e)) q2 q3 q4
 simp only[Ve,not_or] at hb ⊢
 exact⟨v e J,v e L,v e nz,v e M,v e N,hb.1,hb.2⟩
end
noncomputable def QD(a:wa)(S:T3)(B:List cb)(w:ja)(l:la)(m k:Nat):Prop:=
 Uk og (Gb Ka) a w 15 ⟨true,[(l,Wa [] 0)],m,[],[.k 0,.k 0,.k 0,.k 0,.k 0,.k 0],[]⟩ k (.top (Gh (.ref l) "append" true))=some (⟨true,[(l,Wa [] 0)],m,[⟨.type "builtin_function_or_method",none,.fields #[.builtin "list.append",.ref l],#[]⟩],[],[(l,l),(l,l),(l,l),(l,l),(l,l),(l,l)]⟩,k+1,.top (.pure (.ref (m+0))))
noncomputable def ZM(c:wa)(S:T3)(B:List cb)(w:ja)(b M a:la)(m k:Nat):Prop:=
 Uk og (Gb Ka) c w 10 ⟨false,[(b,Wa [] 0),(M,⟨.type "builtin_function_or_method",none,.fields #[.builtin "list.append",.ref b],#[]⟩)],m,[],[.k 1,.k 0,.k 0,.k 0,.k 0,.k 0,.k 0],[]⟩ k (.top (call (.ref M) [.ref a]))=some (⟨false,[(b,Wa [.ref a] 1),(M,⟨.type "builtin_function_or_method",none,.fields #[.builtin "list.append",.ref b],#[]⟩)],m,[],[],[(b,b),(b,b),(b,b),(b,b),(b,b),(b,b),(M,M)]⟩,k+0,.top (.pure (.none)))
lay_quick Mine.QD Mine.ZM
theorem sH(w:ja)(l:la)(m k:Nat):QD PP (Tc w) fb w l  m k:=wf (P:=λv=>QD PP (Tc w) fb v l  m k) w λa=>by
 rw[PySem.W.Fast.te10718114106526991644]
 unfold PySem.W.Fast.tw10718114106526991644
 cases a <;> kernel_rfl
theorem tR{w:ja}{A:ua}{s:aa}{l:la}{Q:_->aa->Prop}{E:Value->aa->Prop}(e:A.handled=none)(F:Fk w s.heap)(b:s.heap.get? l=some (Wa [] 0))
  (d:∀h',(∀x o,s.heap.get? x=some o->h'.get? x=some o)->h'.get? (s.heap.objs.size+0)=some (⟨.type "builtin_function_or_method",none,.fields #[.builtin "list.append",.ref l],#[]⟩)->Q (.ref (s.heap.objs.size+0)) {s with heap:=h',toks:=s.toks+1}):wpAny (ka PP w) A (Gh (.ref l) "append" true) Q E s:=
 Te e (sH w l  s.heap.objs.size s.toks) [l,l,l,l,l,l] rfl (Dc b tj) rfl rfl λh' c a=>d h' c (a 0 _ rfl rfl)
theorem YM(w:ja)(b M a:la)(m k:Nat):ZM PP (Tc w) fb w b M a  m k:=wf (P:=λv=>ZM PP (Tc w) fb v b M a  m k) w λc=>by
 rw[PySem.W.Fast.te4534339836146073256]
 unfold PySem.W.Fast.tw4534339836146073256
 cases c <;> kernel_rfl
theorem w9{w:ja}{A:ua}{s:aa}{b M a:la}{Q:_->aa->Prop}{E:Value->aa->Prop}(e:A.handled=none)(F:Fk w s.heap)(hb:s.heap.get? b=some (Wa [] 0))(f:s.heap.get? M=some (⟨.type "builtin_function_or_method",none,.fields #[.builtin "list.append",.ref b],#[]⟩))(d:b≠M)
  (c:∀h',(∀x o,x≠b->s.heap.get? x=some o->h'.get? x=some o)->h'.get? b=some (Wa [.ref a] 1)->Q (.none) {s with heap:=h',toks:=s.toks+0}):wpAny (ka PP w) A (call (.ref M) [.ref a]) Q E s:=
 TQ e (YM w b M a  s.heap.objs.size s.toks) [b,b,b,b,b,b,M] rfl (Dc hb (Dc f tj)) (List.nodup_cons.mpr ⟨by simp only[vb,rl,Ve,cg,or_false,not_or];exact d,by simp only[vb,rl];simp⟩) c
noncomputable def Kn(h:Na)(a:la):Na:=h.update a λZ=>{cls:=.none,data:=.freed}
theorem Tq{h:Na}{a b:la}(hb:b≠a):(Kn h a).get? b=h.get? b:=Ea h _ (Hb hb)
theorem tm{h:Na}{a:la}:(Kn h a).get? a=none:=by
 delta Kn Heap.update qN
 rw[Array.getElem?_modify,if_pos rfl]
 cases h.objs[a]? <;> rfl
theorem fo{h:Na}{a b:la}{o:Sa}(e:(Kn h a).get? b=some o):h.get? b=some o:=by
 by_cases q:b=a
 ·subst q;rw[tm] at e;exact nomatch e
 ·rw[Tq q] at e;exact e
noncomputable def KL(B:la->Sa->Prop)(L:List (la×Sa)):la->Sa->Prop:=λb o=>B b o\/(b,o)∈L
structure Ap(env:Be)(a:la):Prop where
 loc:env.locals≠a
 cel:∀y c,env.cells.lookup y=some c->c≠a
section
variable{prog:wa}{w:ja}{A:ua}{N:Nat}{G:Gl}{env:Be}{rd:List xa}{σ τ:List (xa×P)}{adr:xa->la}{s₀ s s':aa}{B K K':la->Sa->Prop}{L:List (la×Sa)}
theorem St.ap(x:St G env rd σ adr s₀ K s){a:la}(h:s.heap.get? a=none):Ap env a:=by
 refine x.ns.elim λm hm=>?_
 refine⟨?_,?_⟩
 ·rintro rfl
  obtain ⟨o,_,_,e,_⟩:=hm
  rw[h] at e;exact nomatch e
 ·rintro y c e rfl
  obtain ⟨v,o,b,_⟩:=x.ce y c e
  rw[h] at b;exact nomatch b
theorem St.add(x:St G env rd σ adr s₀ (KL B L) s)(i:Ek σ=true){a:la}{o:Sa}(ap:Ap env a)(h:s.heap.get? a=some o):St G env rd σ adr s₀ (KL B ((a,o)::L)) s:=by
 refine{x with k0:=λb d e=>?_,ks:=?_,nl:=?_,nc:=?_,new:=λy ns e=>(Df i e).elim}
 ·exact(x.k0 b d e).elim .inl λq=>.inr (.tail _ q)
 ·exact λb d q=>q.elim (λq=>x.ks b d (.inl q)) λq=>(List.mem_cons.mp q).elim (λe=>by rw[(Ih e).1,(Ih e).2];exact h) λq=>x.ks b d (.inr q)
 ·exact λd q=>q.elim (λq=>x.nl d (.inl q)) λq=>(List.mem_cons.mp q).elim (λe=>ap.loc (congrArg mn e)) λq=>x.nl d (.inr q)
 ·exact λy c f g d q=>q.elim (λq=>x.nc y c f g d (.inl q)) λq=>(List.mem_cons.mp q).elim (λe=>ap.cel y c f (congrArg mn e)) λq=>x.nc y c f g d (.inr q)
theorem St.less(x:St G env rd σ adr s₀ (KL B L) s){a:List (la×Sa)}(h:∀e∈a,e∈L)(h0:∀b o,s₀.heap.get? b=some o->B b o):St G env rd σ adr s₀ (KL B a) s:=
 x.weak (λb o q=>q.elim .inl λq=>.inr (h _ q)) λb o e=>.inl (h0 b o e)
theorem Yx{h h':Na}{p:P}{v:Value}(x:VR h p v)(n:∀ns,p≠.il ns):VR h' p v:=by
 cases p with
 |il ns=>exact absurd rfl (n ns)
 |_=>exact x
theorem uD{σ:List (xa×P)}(h:Ek σ=true){x:xa}{p:P}(e:σ.lookup x=some p):∀ns,p≠.il ns:=λns q=>Df h (q▸e)
end
structure SX(w:ja)(env:Be)(σ:List (xa×P))(s₀:aa)(B:la->Sa->Prop)(L:List (la×Sa))(s:aa):Prop where
 st:St (GW w) env [] σ (λ_=>0) s₀ (KL B L) s
 nl:Ek σ=true
 h0:∀b o,s₀.heap.get? b=some o->B b o
 ap:∀e∈L,Ap env e.1
 nb:∀e∈L,∀o,¬B e.1 o
 nd:(L.map (·.1)).Nodup
section
variable{w:ja}{A:ua}{env:Be}{σ τ:List (xa×P)}{s₀ s s':aa}{B:la->Sa->Prop}{L:List (la×Sa)}
theorem SX.kp(x:SX w env σ s₀ B L s):Kp s₀ s:=x.st.kp
theorem SX.base(x:SX w env σ s₀ B L s){b:la}{o:Sa}(h:B b o):s.heap.get? b=some o:=x.st.ks b o (.inl h)
theorem SX.get(x:SX w env σ s₀ B L s){b:la}{o:Sa}(i:Nat)(h:L[i]?=some (b,o)):s.heap.get? b=some o:=x.st.ks b o (.inr (Mb h))
theorem SX.step(x:SX w env σ s₀ B L s)(k:Kp s s'):SX w env σ s₀ B L s':={x with st:=x.st.step k}
theorem SX.sub(x:SX w env σ s₀ B L s)(h:∀y p,τ.lookup y=some p->σ.lookup y=some p)(a:Ek τ=true):SX w env τ s₀ B L s:={x with st:=x.st.sub h,nl:=a}
theorem SX.less(x:SX w env σ s₀ B L s){a:List (la×Sa)}(h:a.Sublist L):SX w env σ s₀ B a s:=
 {x with st:=x.st.less (λe q=>h.subset q) x.h0,ap:=λe q=>x.ap e (h.subset q),nb:=λe q=>x.nb e (h.subset q),nd:=x.nd.sublist (h.map _)}
theorem SX.new(x:SX w env σ s₀ B L s){a:la}{o:Sa}(h:s.heap.get? a=none)(k:Kp s s')(b:s'.heap.get? a=some o):SX w env σ s₀ B ((a,o)::L) s':=by
 have ap:=x.st.ap h
 have nl:∀e∈L,e.1≠a:=λe he=>Ef (x.st.ks e.1 e.2 (.inr he)) h
 exact{st:=(x.st.step k).add x.nl ap b,nl:=x.nl,h0:=x.h0,ap:=List.forall_mem_cons.mpr ⟨ap,x.ap⟩,nb:=List.forall_mem_cons.mpr ⟨λo' hb=>(nomatch (x.base hb).symm.trans h),x.nb⟩,nd:=by rw[vb];exact List.nodup_cons.mpr ⟨λq=>(List.mem_map.mp q).elim λe z=>nl e z.1 z.2,x.nd⟩}
theorem SX.put(x:SX w env σ s₀ B L s)(i:Nat){a:la}{o o':Sa}(h:L[i]?=some (a,o)){h':Na}{tk:Nat}(k:∀b o,b≠a->s.heap.get? b=some o->h'.get? b=some o)(z:h'.get? a=some o'):
  SX w env σ s₀ B (L.set i (a,o')) {s with heap:=h',toks:=tk}:=by
 refine(List.getElem?_eq_some_iff.mp h).elim λhi n=>?_
 have hm:(a,o)∈L:=Mb h
 have ap:=x.ap _ hm
 have d:∀e∈L.set i (a,o'),e=(a,o')\/(e∈L/\e.1≠a):=by
  intro e he
  obtain ⟨j,l,rfl⟩:=List.mem_iff_getElem.mp he
  rw[oN]
  rw[Kk] at l
  by_cases q:i=j
  ·rw[if_pos q];exact .inl rfl
  ·rw[if_neg q]
   refine .inr ⟨pn l,λu=>q ?_⟩
   have A:j < (L.map (·.1)).length:=by simpa using l
   have g:i < (L.map (·.1)).length:=by simpa using hi
   have m:(L.map (·.1))[i]=(L.map (·.1))[j]:=by
    rw[dh,dh,n];exact u.symm
   exact(Ot x.nd).mp m
 have f:(L.set i (a,o')).map (·.1)=L.map (·.1):=by
  have g:i < (L.map (·.1)).length:=by simpa using hi
  have m:(L.map (·.1))[i]=a:=by rw[dh,n]
  rw[wW]
  show(L.map (·.1)).set i a=_
  have:=Rj g
  rw[m] at this
  exact this
 have t:St (GW w) env [] σ (λZ=>0) s₀ (λb c=>B b c\/((b,c)∈L/\b≠a)) s:=x.st.weak (λb c q=>q.elim .inl λq=>.inr q.1) λb c e=>.inl (x.h0 b c e)
 have r:=t.jy (h':=h') (tk:=tk) ap.loc ap.cel (λy ns e=>(Df x.nl e).elim) (λc q=>q.elim (x.nb _ hm c) λq=>q.2 rfl) k
 have p:=r.VB (C:=a) (o:=o') z ap.loc ap.cel (λy ns e=>(Df x.nl e).elim)
 refine{st:=p.weak (λb c q=>?_) λb c e=>.inl (x.h0 b c e),nl:=x.nl,h0:=x.h0,ap:=λe q=>?_,nb:=λe q=>?_,nd:=by rw[f];exact x.nd}
 ·rcases q with q|q
  ·exact .inl (.inl q)
  ·rcases d _ q with q|⟨q,v⟩
   ·cases q;exact .inr ⟨rfl,rfl⟩
   ·exact .inl (.inr ⟨q,v⟩)
 ·rcases d _ q with rfl|⟨q,_⟩
  ·exact ap
  ·exact x.ap e q
 ·rcases d _ q with rfl|⟨q,_⟩
  ·exact x.nb (a,o) hm
  ·exact x.nb e q
theorem SX.bind(x:SX w env σ s₀ B L s){y:xa}{p:P}{v:Value}(b:env.kindOf y=some .local\/env.kindOf y=some .cell)(hv:VR s.heap p v)(hp:∀ns,p≠.il ns){Q:Unit->aa->Prop}
  (c:∀s',SX w env ((y,p)::σ) s₀ B L s'->Q () s'):wpAny (ka PP w) A (fI env y v) Q Jc s:=by
 refine ah (x.st.bind (a:=0) b hv λns e=>absurd e (hp ns)) (λZ s' h=>c s' {x with st:=?_,nl:=?_})
 ·have e:(λz=>if z=y then 0 else (λZ=>0:xa->la) z)=λZ=>0:=by funext z;split <;> rfl
  rw[e] at h
  exact h
 ·delta Ek
  rw[Gz]
  refine Bool.and_eq_true_iff.mpr ⟨?_,x.nl⟩
  cases p with
  |il ns=>exact absurd rfl (hp ns)
  |_=>rfl
theorem SX.Gp(x:SX w env σ s₀ B L s){y:xa}{r:la}{pos:xd}{Q:Value->aa->Prop}(c:σ.lookup y=some (.addr r))(b:Gd y=false)(d:Q (.ref r) s):wpAny (ka PP w) A (eval (.Name y pos) env) Q Jc s:=by
 refine Nc λe=>?_;obtain ⟨v,hv,a,_⟩:=x.st.look y _ c;refine e ?_
 have a:v=.ref r:=a
 subst a
 exact Md x.st.kind hv (Tg b).1 (Tg b).2 d
theorem SX.iC(x:SX w env σ s₀ B L s){y:xa}{i:Int}{pos:xd}{Q:Value->aa->Prop}(c:σ.lookup y=some (.int i))(b:Gd y=false)(d:∀t,Q (.int i t) s):wpAny (ka PP w) A (eval (.Name y pos) env) Q Jc s:=by
 refine Nc λe=>?_;obtain ⟨v,hv,a,_⟩:=x.st.look y _ c
 obtain ⟨t,rfl⟩:=a;refine e ?_
 exact Md x.st.kind hv (Tg b).1 (Tg b).2 (d t)
end
noncomputable abbrev Al(x left Gf:Int):Sa:={cls:=.type "range_iterator",dict:=none,data:=.fields #[Fc x,Fc left,Fc Gf],slots:=#[]}
noncomputable abbrev EW(a b c:Int)(t u v:jg):Sa:={cls:=.type "range",dict:=none,data:=.fields #[.int a t,.int b u,.int c v],slots:=#[]}
noncomputable abbrev gO(t:la)(i:Nat):Sa:={cls:=.type "tuple_iterator",dict:=none,data:=.fields #[.ref t,.int i 0],slots:=#[]}
section
variable{w:ja}{A:ua}{env:Be}{σ τ:List (xa×P)}{s₀ s s':aa}{B:la->Sa->Prop}{L:List (la×Sa)}
theorem SX.qU(x:SX w env σ s₀ B ((a,o)::L) s){h':Na}{tk:Nat}(k:∀b o,b≠a->s.heap.get? b=some o->h'.get? b=some o):SX w env σ s₀ B L {s with heap:=h',toks:=tk}:=by
 have ap:=x.ap (a,o) (za ..)
 have nd:=x.nd
 rw[vb,De] at nd
 have c:=x.less (Jd (a,o) L)
 refine{c with st:=c.st.jy (h':=h') (tk:=tk) ap.loc ap.cel (λy ns e=>(Df x.nl e).elim) (λd q=>q.elim (x.nb (a,o) (za ..) d) λq=>nd.1 (List.mem_map.mpr ⟨_,q,rfl⟩)) k}
set_option tactic.hygienic true
theorem jv(r:A.handled=none){v:xa}{q:xd}{body:List cb}{I:la}{n:Nat}(hv:env.kindOf v=some .local\/env.kindOf v=some .cell)(σs:Nat->List (xa×P))(c:Nat->List (la×Sa))
  (l:SX w env (σs 0) s₀ B ((I,Al 0 n 1)::c 0) s)
  (Gf:∀(i:Nat) s',i < n->SX w env ((v,.int i)::σs i) s₀ B ((I,Al ((i:Int)+1) ((n:Int)-i-1) 1)::c i) s'->
   mc (ka PP w) A (Kc body env) (λf Ng=>f=.next/\SX w env (σs (i+1)) s₀ B ((I,Al ((i:Int)+1) ((n:Int)-i-1) 1)::c (i+1)) Ng) s')
  {R:Ob->aa->Prop} (t:∀s',SX w env (σs n) s₀ B (c n) s'->R (.ok .next) s'):
  rh (ka PP w) A (.forLoop (.Name v q) (.ref I) body [] env) R s:=by
 refine Yl (λk s'=>∃i:Nat,k=n-i/\i<=n/\SX w env (σs i) s₀ B ((I,Al i ((n:Int)-i) 1)::c i) s') (λ_=>rfl) ?_ n ⟨0,rfl,Zb _,by simpa using l⟩
 rintro k s' ⟨i,rfl,hi,x⟩
 have hI:wc s'.heap I i ((n:Int)-i) 1:=x.get 0 rfl
 by_cases a:i < n
 ·refine Kj hI (Lg (Int.ofNat_lt.mpr a)) λh' d m=>?_
  have j:=x.put 0 rfl (o':=Al ((i:Int)+1) ((n:Int)-i-1) 1) (h':=h') (tk:=s'.toks+1) (λb o hb e=>m.extBut b o hb e) d
  refine Sb (j.bind (p:=.int i) hv ⟨_,rfl⟩ nofun λs2 h=>?_)
  refine Vc (Gf i s2 a h) λf u g=>⟨g.1,n-(i+1),lG _ _ a,i+1,rfl,a,?_⟩
  rw[show(n:Int)-((i+1:Nat):Int)=(n:Int)-i-1 from(o5 (n:Int) i 1).symm]
  exact g.2
 ·have:i=n:=Hg hi (Nat.not_lt.mp a)
  subst this
  refine sk r hI (Int.le_of_eq (Int.sub_self _)) λh' he=>t _ ?_
  exact x.qU (tk:=s'.toks) λb o hb e=>he b o hb e
theorem QA(l:A.handled=none){v:xa}{j:xd}{body:List cb}{I:la}(hv:env.kindOf v=some .local\/env.kindOf v=some .cell)(d:SX w env σ s₀ B ((I,Al 0 1 1)::L) s){R:Ob->aa->Prop}
  (Gf:∀s',SX w env ((v,.int 0)::σ) s₀ B ((I,Al 1 0 1)::L) s'->mc (ka PP w) A (Kc body env) (λf Ng=>f=.next/\Ng.heap.get? I=some (Al 1 0 1) /\
   ∀h',(∀b o,b≠I->Ng.heap.get? b=some o->h'.get? b=some o)->R (.ok .next) {Ng with heap:=h'}) s'):
  rh (ka PP w) A (.forLoop (.Name v j) (.ref I) body [] env) R s:=by
 refine Yl (λk s'=>(k=1/\s'=s)\/(k=0/\s'.heap.get? I=some (Al 1 0 1)/\∀h',(∀b o,b≠I->s'.heap.get? b=some o->h'.get? b=some o)->R (.ok .next) {s' with heap:=h'})) (λ_=>rfl) ?_ 1 (.inl ⟨rfl,rfl⟩)
 rintro k s' (⟨rfl,rfl⟩|⟨rfl,hI,m⟩)
 ·have hI:wc s'.heap I 0 1 1:=d.get 0 rfl
  refine Kj hI (by decide) λh' a i=>?_
  have h:=d.put 0 rfl (o':=Al 1 0 1) (h':=h') (tk:=s'.toks+1) (λb o hb e=>i.extBut b o hb e) a
  refine Sb (h.bind (p:=.int 0) hv ⟨_,rfl⟩ nofun λs2 g=>?_)
  exact Vc (Gf s2 g) λf n c=>⟨c.1,0,kj,.inr ⟨rfl,c.2.1,c.2.2⟩⟩
 ·refine sk l hI (by decide) λh' he=>?_
  exact m h' λb o hb e=>he b o hb e
theorem PA(r:A.handled=none){v:xa}{q:xd}{body:List cb}{I t e:la}{m:Nat}(hv:env.kindOf v=some .local\/env.kindOf v=some .cell)(c:SX w env σ s₀ B ((I,gO t 0)::L) s)
  {ot:Sa} (ht:B t ot) (hot:ot.cls=.type "tuple"/\ot.data=.seq #[.ref e] m) {R:Ob->aa->Prop}
  (Gf:∀a s',SX w env ((v,.addr e)::σ) s₀ B ((I,a)::L) s'->mc (ka PP w) A (Kc body env) (λf Ng=>f=.next/\Ng.heap.get? I=some a/\Ng.heap.get? t=some ot /\
   ∀h',(∀b o,b≠I->Ng.heap.get? b=some o->h'.get? b=some o)->R (.ok .next) {Ng with heap:=h'}) s'):
  rh (ka PP w) A (.forLoop (.Name v q) (.ref I) body [] env) R s:=by
 refine Yl (λk s'=>(k=1/\s'=s)\/(k=0/\s'.heap.IsTupleIter I t 1/\s'.heap.get? t=some ot /\
  ∀h',(∀b o,b≠I->s'.heap.get? b=some o->h'.get? b=some o)->R (.ok .next) {s' with heap:=h'})) (λ_=>rfl) ?_ 1 (.inl ⟨rfl,rfl⟩)
 rintro k s' (⟨rfl,rfl⟩|⟨rfl,hI,d,u⟩)
 ·have hI:s'.heap.get? I=some (gO t 0):=c.get 0 rfl
  refine wpAny_pyNext_tuple_item (i:=0) (t:=t) (items:=#[.ref e]) (x:=.ref e) ⟨_,hI,rfl,rfl⟩ ⟨_,c.base ht,hot.1,_,hot.2⟩ rfl λh' g n=>?_
  refine Nc λy=>?_;obtain ⟨a,D,C,z⟩:=g;refine y ?_
  have l:=c.put 0 rfl (o':=a) (h':=h') (tk:=s'.toks) (λb o hb e=>n.extBut b o hb e) D
  refine Sb (l.bind (p:=.addr e) hv rfl nofun λs2 j=>?_)
  exact Vc (Gf a s2 j) λf E h=>⟨h.1,0,kj,.inr ⟨rfl,⟨a,h.2.1,C,z⟩,h.2.2⟩⟩
 ·refine wpAny_pyNext_tuple_end r (i:=1) (t:=t) (items:=#[.ref e]) hI ⟨_,d,hot.1,_,hot.2⟩ rfl λh' he=>?_
  exact u h' λb o hb e=>he b o hb e
end
set_option tactic.hygienic false
noncomputable def ZA:List Int:=(ao 510 1).map Fl
noncomputable def sj:List Int:=(Qa 256).map λa=>Fl ((ao 255 1).idxOf a % 255)
noncomputable def rq:List Value->Option (List Int)
 |[]=>some []
 |.int i _::vs=>match rq vs with
  |some is=>some (i::is)
  |none=>none
 |_::_=>none
set_option tactic.hygienic true
theorem Xo:∀{vs:List Value} {ns:List Int},rq vs=some ns->IntsAre vs ns
 |[],ns,e=>by cases e;exact .nil
 |v::vs,ns,e=>by
  cases v with
  |int i t=>
   unfold rq at e
   split at e
   ·rename_i is a
    obtain rfl:=va e
    exact .cons i t (Xo a)
   ·cases e
  |_=>cases e
set_option tactic.hygienic false
noncomputable def Qh(o:Sa):List Value:=match o.data with
 |.seq xs _=>xs.toList
 |_=>[]
theorem HP(w:ja):Vl w=Wa (Qh (Vl w)) 0:=by kernel_rfl
theorem fM(w:ja):rq (Qh (Vl w))=some ZA:=by kernel_rfl
theorem iP(w:ja):jo w=⟨.type "tuple",none,.seq (Qh (jo w)).toArray 0,#[]⟩:=by kernel_rfl
theorem TK(w:ja):rq (Qh (jo w))=some sj:=by kernel_rfl
theorem XA:ZA.length=510:=by kernel_rfl
theorem Uq:sj.length=256:=by kernel_rfl
noncomputable abbrev Bf(vs:List Value)(n:Nat):Sa:=⟨.type "tuple",none,.seq vs.toArray n,#[]⟩
section
variable{prog:wa}{w:ja}{A:ua}{s:aa}
theorem Yj{ns:List Int}{k:Nat}(h:k < ns.length):ns[k]?=some (ns.getD k 0):=by
 rw[Wb h];simp[Pt,h]
theorem Xz{b a:Oa}{t:la}{vs:List Value}{n:Nat}{ns:List Int}{k:Int}{u:jg}{Q:Value->aa->Prop}(ht:s.heap.get? t=some (Bf vs n))(hi:IntsAre vs ns)(h0:0<=k)(f:k < ns.length)(e:ns.length<=2 ^ 24)
  (d:Gr a false (.ref t) (.int k u)=iq [.ref t,.int k u] (Fh (.ref t) (.int k u))) (h:∀u,Q (.int (ns.getD k.toNat 0) u) s):wpAny (ka prog w) A (Kt b a (.ref t) (.int k u)) Q Jc s:=by
 refine(IntsAre.get hi k.toNat _ (Yj (by lia))).elim λv hv=>?_
 have c:IsTup s.heap t vs.toArray:=⟨_,ht,rfl,n,rfl⟩
 refine tail_any c.typeIs slot_tuple_getitem.lookup (getItem_tuple c (by lia) (by lia) (j:=k.toNat) ?_ (by simpa using hv) (h v)) d
 exact seqIndex_of h0 (by have:=hi.length;simp;lia)
theorem TG{b a:Oa}{l:la}{vs:List Value}{n:Nat}{ns:List Int}{k:Int}{u:jg}{Q:Value->aa->Prop}(c:s.heap.get? l=some (Wa vs n))(hi:IntsAre vs ns)(h0:0<=k)(e:k < ns.length)(f:ns.length<=2 ^ 24)
  (d:Gr a false (.ref l) (.int k u)=iq [.ref l,.int k u] (Fh (.ref l) (.int k u))) (h:∀u,Q (.int (ns.getD k.toNat 0) u) s):wpAny (ka prog w) A (Kt b a (.ref l) (.int k u)) Q Jc s:=by
 refine tail_any (wN c).typeIs slot_list_getitem.lookup ?_ d
 exact getItem_intsK (wN c) hi h0 e (by lia) λt=>h t
theorem cG{c b:Oa}{a:la}{ns:List Int}{k:Int}{u:jg}{Q:Value->aa->Prop}(hb:nh s.heap a ns)(d:Bh ns)(h0:0<=k)(f:k < ns.length)(hz:ns.length<=2 ^ 24)
  (e:Gr b false (.ref a) (.int k u)=iq [.ref a,.int k u] (Fh (.ref a) (.int k u))) (h:∀u tk,Q (.int (ns.getD k.toNat 0) u) {s with toks:=tk}):wpAny (ka prog w) A (Kt c b (.ref a) (.int k u)) Q Jc s:=
 tail_any (Pb hb) Ff.lookup (SM hb d h0 f hz h) e
end
theorem cD:∀a b:Nat,(a^^^b)+(a&&&b)=a|||b:=by
 intro a
 induction a using vQ with
 |ind a i=>
  intro b
  by_cases j:a=0
  ·subst j;simp
  ·have h:=i (a / 2) (by lia) (b / 2)
   have m:(a^^^b) / 2=a / 2^^^b / 2:=Nat.xor_div_two
   have l:(a&&&b) / 2=a / 2&&&b / 2:=Nat.and_div_two
   have k:(a|||b) / 2=a / 2|||b / 2:=Nat.or_div_two
   have g:(a^^^b) % 2=(a % 2+b % 2) % 2:=by
    have:=Nat.xor_mod_two_pow (a:=a) (b:=b) (n:=1)
    rw[Vv] at this
    rw[this]
    rcases Qc a with d|d <;> rcases Qc b with c|c <;> rw[d,c] <;> rfl
   have f:(a&&&b) % 2=(a % 2)*(b % 2):=by
    have:=Nat.and_mod_two_pow (a:=a) (b:=b) (n:=1)
    rw[Vv] at this
    rw[this]
    rcases Qc a with d|d <;> rcases Qc b with c|c <;> rw[d,c] <;> rfl
   have e:(a|||b) % 2=a % 2+b % 2-(a % 2)*(b % 2):=by
    have:=Nat.or_mod_two_pow (a:=a) (b:=b) (n:=1)
    rw[Vv] at this
    rw[this]
    rcases Qc a with d|d <;> rcases Qc b with c|c <;> rw[d,c] <;> rfl
   rcases Qc a with d|d <;> rcases Qc b with c|c <;> rw[d,c] at g f e <;> lia
theorem bl(a b:Nat):Kd (a:Int) (b:Int)=((a^^^b:Nat):Int):=by
 have h:=cD a b
 have g:rN (a:Int) (b:Int)=((a|||b:Nat):Int):=by
  unfold rN ou Builtin.bitNot
  have d:¬(0:Int)<=-(a:Int)-1:=by lia
  have c:¬(0:Int)<=-(b:Int)-1:=by lia
  simp only[d,c,decide_false]
  have f:(-(-(a:Int)-1)-1).toNat=a:=by lia
  have e:(-(-(b:Int)-1)-1).toNat=b:=by lia
  rw[f,e]
  lia
 unfold Kd
 rw[g,eX (sd a) (sd b)]
 dsimp only[Ib]
 lia
noncomputable def Ph:List cb:=(yf (Ji 18)).2.1
noncomputable def ro:List cb:=aB (ma Ph 7)
noncomputable def Ci:List cb:=aB (ma ro 3)
noncomputable def qA:List cb:=aB (ma Ci 5)
noncomputable def kC:List cb:=aB (ma qA 1)
noncomputable def Jz:List cb:=aB (ma kC 1)
theorem rZ:Jz=[.AugAssign (.Subscript (.Name "error_block" (ch (aT (ma Jz 0)) 0).pos) (.BinOp (.BinOp (.Name "k" (ch (ch (ch (aT (ma Jz 0)) 1) 0) 0).pos) .Add (.Name "n" (ch (ch (ch (aT (ma Jz 0)) 1) 0) 1).pos) (ch (ch (aT (ma Jz 0)) 1) 0).pos) .Add (.Constant (.int 1) 0 (ch (ch (aT (ma Jz 0)) 1) 1).pos) (ch (aT (ma Jz 0)) 1).pos) (aT (ma Jz 0)).pos) .BitXor
 (.Subscript (.Name "gen_exp" (ch (aV (ma Jz 0)) 0).pos) (.BinOp (.Name "lcoef" (ch (ch (aV (ma Jz 0)) 1) 0).pos) .Add (.Subscript (.Name "gen" (ch (ch (ch (aV (ma Jz 0)) 1) 1) 0).pos) (.Name "n" (ch (ch (ch (aV (ma Jz 0)) 1) 1) 1).pos) (ch (ch (aV (ma Jz 0)) 1) 1).pos) (ch (aV (ma Jz 0)) 1).pos) (aV (ma Jz 0)).pos) (aP (ma Jz 0))]:=by kernel_rfl
noncomputable def Bl(gen:List Int)(k:Nat)(a:Int):Nat->List Int->List Int
 |0,ns=>ns
 |n+1,ns=>(Bl gen k a n ns).set (k+n+1) (Kd ((Bl gen k a n ns).getD (k+n+1) 0) (ZA.getD (a+gen.getD n 0).toNat 0))
noncomputable def Ti(gen:List Int)(a:Nat):Nat->List Int->List Int
 |0,ns=>ns
 |k+1,ns=>if (Ti gen a k ns).getD k 0=0 then Ti gen a k ns else Bl gen k (sj.getD ((Ti gen a k ns).getD k 0).toNat 0) a (Ti gen a k ns)
theorem Co(gen:List Int)(k:Nat)(a:Int):∀(n:Nat) (ns:List Int),(Bl gen k a n ns).length=ns.length
 |0,_=>rfl
 |n+1,ns=>by unfold Bl;rw[Kk];exact Co gen k a n ns
theorem ak(gen:List Int)(a:Nat):∀(k:Nat) (ns:List Int),(Ti gen a k ns).length=ns.length
 |0,_=>rfl
 |k+1,ns=>by
  unfold Ti
  split
  ·exact ak gen a k ns
  ·rw[Co];exact ak gen a k ns
theorem iz{a b:Int}(c:0<=a/\a < 256)(hb:0<=b/\b < 256):0<=Kd a b/\Kd a b < 256:=by
 obtain ⟨x,rfl⟩:=Xc c.1
 obtain ⟨y,rfl⟩:=Xc hb.1
 rw[bl]
 have:=QI (x:=x) (y:=y) (n:=8) (by lia) (by lia)
 lia
theorem Bh.getD{ns:List Int}(h:Bh ns)(k:Nat):0<=ns.getD k 0/\ns.getD k 0 < 256:=by
 refine(Bt k ns.length).elim (λq=>?_) λq=>?_
 ·have:=Yj q
  exact h _ (Mb this)
 ·have:ns.getD k 0=0:=by simp[Pt,FC q]
  rw[this];decide
theorem XF{ns:List Int}(h:(ns.all λn=>decide (0<=n)&&decide (n < 256))=true):Bh ns:=λn a=>by
 have:=List.all_eq_true.mp h n a
 simpa using this
theorem YA:Bh ZA:=XF (by kernel_rfl)
theorem VK:Bh sj:=XF (by kernel_rfl)
theorem jP:(sj.all λn=>decide (n < 255))=true:=by kernel_rfl
theorem ov(gen:List Int)(k:Nat)(a:Int):∀(n:Nat) (ns:List Int),Bh ns->Bh (Bl gen k a n ns)
 |0,_,h=>h
 |n+1,ns,h=>by
  unfold Bl
  have b:=ov gen k a n ns h
  have:=iz (b.getD (k+n+1)) (YA.getD (a+gen.getD n 0).toNat)
  exact b.set _ this.1 this.2
theorem Eo(gen:List Int)(a:Nat):∀(k:Nat) (ns:List Int),Bh ns->Bh (Ti gen a k ns)
 |0,_,h=>h
 |k+1,ns,h=>by
  unfold Ti
  split
  ·exact Eo gen a k ns h
  ·exact ov _ _ _ _ _ (Eo gen a k ns h)
section
variable{w:ja}{A:ua}{N:Nat}{env:Be}{σ:List (xa×P)}{s₀ s s':aa}{B:la->Sa->Prop}{L:List (la×Sa)}
theorem SX.tail{y:xa}{p:P}(x:SX w env ((y,p)::σ) s₀ B L s)(h:σ.lookup y=none):SX w env σ s₀ B L s:=by
 refine x.sub (λz q e=>?_) ?_
 ·rw[Ca]
  cases hz:z==y with
  |true=>
   have:=eq_of_beq hz
   subst this
   rw[h] at e;exact nomatch e
  |false=>exact e
 ·have:=x.nl
  unfold Ek at this
  rw[Gz,Bd] at this
  exact this.2
set_option tactic.hygienic true
theorem DT{eb gt:la}{gvs:List Value}{gn:Nat}{gen ns:List Int}{k n:Nat}{c:Int}{i:Nat}(x:SX w env σ s₀ B L s)(t:L[i]?=some (eb,qb (Ia ns)))(D:Bh ns)(hz:ns.length<=2 ^ 20)
  (h1:σ.lookup ("error_block":xa)=some (.addr eb)) (Y:σ.lookup ("k":xa)=some (.int k)) (E:σ.lookup ("n":xa)=some (.int n)) (V:σ.lookup ("gen_exp":xa)=some (.addr 1890)) (T:σ.lookup ("lcoef":xa)=some (.int c)) (O:σ.lookup ("gen":xa)=some (.addr gt))
  (b1:B 1890 (Vl w)) (b2:B gt (Bf gvs gn)) (hg:IntsAre gvs gen) (hgl:gen.length<=255) (hgb:∀g∈gen,0<=g/\g < 255) (I:n < gen.length) (hk:k+n+1 < ns.length) (J:0<=c/\c < 255) {Q:Af->aa->Prop}
  (N:∀s',SX w env σ s₀ B (L.set i (eb,qb (Ia (ns.set (k+n+1) (Kd (ns.getD (k+n+1) 0) (ZA.getD (c+gen.getD n 0).toNat 0)))))) s'->Q .next s'):
  wpAny (ka PP w) A (Kc Jz env) Q Jc s:=by
 rw[rZ]
 refine wpAny_execs_cons (wpAny_AugAssign_SubscriptAny ?_)
 refine x.Gp h1 (by decide) ?_
 refine Mf (Mf (x.iC Y (by decide) λt1=>x.iC E (by decide) λt2=>PI ?_))
 have x1:=x.step (s':={s with toks:=s.toks+1}) (.tok _)
 refine Rb (PI ?_)
 generalize p:({s with toks:=_}:aa)=s2
 have H:Kp s s2:=p▸.tok _
 have z:=x.step H
 have q:nh s2.heap eb ns:=z.get i t
 have e1:((k:Int)+n+1)=((k+n+1:Nat):Int):=by lia
 rw[e1]
 refine SM q D (by lia) (by lia) (by lia) λu tk=>?_
 generalize m:({s2 with toks:=tk}:aa)=h
 have a:=z.step (m▸.tok _:Kp s2 h)
 refine Hh (a.Gp V (by decide) (Mf (a.iC T (by decide) λt3=>Hh (a.Gp O (by decide) (a.iC E (by decide) λt4=>?_)))))
 refine Xz (a.base b2) hg (by lia) (by lia) (by lia) (Xf (by intros;simp)) λt5=>?_
 refine PI ?_
 generalize l:({h with toks:=h.toks+1}:aa)=f
 have y:=a.step (l▸.tok _:Kp h f)
 have M:0<=gen.getD n 0/\gen.getD n 0 < 255:=hgb _ (Mb (Yj I))
 have d:=y.base b1
 rw[HP w] at d
 dsimp only[Ib]
 refine TG d (Xo (fM w)) (by lia) (by rw[XA];lia) (by rw[XA];lia) (Xf (by intros;simp)) λt6=>?_
 refine ixor_int ?_
 generalize j:({f with toks:=f.toks+1}:aa)=C
 have v:=y.step (j▸.tok _:Kp f C)
 have hv:=iz (D.getD (k+n+1)) (YA.getD (c+gen.getD n 0).toNat)
 refine ZV (v.get i t) (by lia) (by lia) (by lia) hv.1 hv.2 λh' r G=>Fd (N _ ?_)
 exact v.put (tk:=C.toks) i t (λb o hb e=>G.extBut b o hb e) r
end
set_option tactic.hygienic false
theorem uY(n:Nat):Bb 0 (n:Int) 1=n:=by
 delta Bb
 simp only[show(1:Int) > 0 by decide,if_true]
 split <;> lia
theorem MZ:kC=[ma kC 0,ma kC 1]:=by kernel_rfl
theorem LZ:ma kC 0=.Assign [.Name "lcoef" (aT (ma kC 0)).pos] (.Subscript (.Name "gen_log" (ch (aV (ma kC 0)) 0).pos) (.Name "coef" (ch (aV (ma kC 0)) 1).pos) (aV (ma kC 0)).pos) (aP (ma kC 0)):=by kernel_rfl
theorem KZ:ma kC 1=.For (.Name "n" (aT (ma kC 1)).pos) (.Name "range_error_words" (aV (ma kC 1)).pos) Jz [] (aP (ma kC 1)):=by kernel_rfl
theorem wZ:qA=[ma qA 0,ma qA 1]:=by kernel_rfl
theorem vZ:ma qA 0=.Assign [.Name "coef" (aT (ma qA 0)).pos] (.Subscript (.Name "error_block" (ch (aV (ma qA 0)) 0).pos) (.Name "k" (ch (aV (ma qA 0)) 1).pos) (aV (ma qA 0)).pos) (aP (ma qA 0)):=by kernel_rfl
theorem uZ:ma qA 1=.If (.Compare (.Name "coef" (ch (aV (ma qA 1)) 0).pos) [.NotEq] [.Constant (.int 0) 0 (ch (aV (ma qA 1)) 1).pos] (aV (ma qA 1)).pos) kC [] (aP (ma qA 1)):=by kernel_rfl
theorem ag{σ:List (xa×P)}{y:xa}{p:P}:((y,p)::σ).lookup y=some p:=by rw[Ca,beq_self_eq_true]
theorem Zh{σ:List (xa×P)}{y z:xa}{p q:P}(e:σ.lookup y=some p)(h:σ.lookup z=none):((z,q)::σ).lookup y=some p:=by
 rw[Ca]
 cases a:y==z with
 |true=>have:=eq_of_beq a;subst this;rw[h] at e;exact nomatch e
 |false=>exact e
theorem Tb{σ:List (xa×P)}{y z:xa}{q:P}(e:σ.lookup y=none)(h:(y==z)=false):((z,q)::σ).lookup y=none:=by
 rw[Ca,h];exact e
theorem Mc{σ:List (xa×P)}{y z:xa}{p q:P}(e:σ.lookup y=some p)(h:(y==z)=false):((z,q)::σ).lookup y=some p:=by
 rw[Ca,h];exact e
section
variable{w:ja}{A:ua}{N:Nat}{env:Be}{σ:List (xa×P)}{s₀ s s':aa}{B:la->Sa->Prop}{L:List (la×Sa)}
theorem get_set{a:la}{o o':Sa}{i:Nat}(h:L[i]?=some (a,o)):(L.set i (a,o'))[i]?=some (a,o'):=by
 rw[Sn (List.getElem?_eq_some_iff.mp h).1]
set_option tactic.hygienic true
theorem EK(C:A.handled=none)(h:env.kindOf "n"=some NameKind.local){eb gt R:la}{gvs:List Value}{gn:Nat}{gen ns:List Int}{k:Nat}{a:Int}{i:Nat}{t u v:jg}(x:SX w env σ s₀ B L s)(l:L[i]?=some (eb,qb (Ia ns)))(r:Bh ns)(hz:ns.length<=2 ^ 20)
  (D:(R,EW 0 gen.length 1 t u v)∈L) (h0:σ.lookup ("range_error_words":xa)=some (.addr R)) (c:σ.lookup ("n":xa)=none)
  (M:σ.lookup ("error_block":xa)=some (.addr eb)) (J:σ.lookup ("k":xa)=some (.int k)) (I:σ.lookup ("gen_exp":xa)=some (.addr 1890)) (H:σ.lookup ("lcoef":xa)=some (.int a)) (G:σ.lookup ("gen":xa)=some (.addr gt))
  (T:B 1890 (Vl w)) (O:B gt (Bf gvs gn)) (hg:IntsAre gvs gen) (hgl:gen.length<=255) (hgb:∀g∈gen,0<=g/\g < 255) (Y:k+gen.length < ns.length) (f:0<=a/\a < 255) {Q:Af->aa->Prop}
  (E:∀s',SX w env σ s₀ B (L.set i (eb,qb (Ia (Bl gen k a gen.length ns)))) s'->Q .next s'):
  mc (ka PP w) A (ig (ma kC 1) env) Q s:=by
 rw[KZ]
 have hi:=(List.getElem?_eq_some_iff.mp l).1
 refine xp (λ_=>rfl) (x.Gp h0 (by decide) ?_)
 have j:dm s.heap R 0 gen.length 1 t u v:=x.st.ks R _ (.inr D)
 refine Ag j (Nh (by decide) (by unfold Sm;lia) (by unfold Sm;lia) (by unfold Sm;lia)).1 ?_
 have q:SX w env σ s₀ B ((s.heap.objs.size,Al 0 gen.length 1)::L) {s with heap:=s.heap.push (Al 0 gen.length 1)}:=x.new Qb (.push _) (ra _ rfl)
 rw[uY]
 have N:(L.set i (eb,qb (Ia (Bl gen k a 0 ns))))=L:=by
  delta Bl
  have:=Rj hi
  rw[(List.getElem?_eq_some_iff.mp l).2] at this
  exact this
 refine jv (n:=gen.length) C (.inl h) (λ_=>σ) (λn=>L.set i (eb,qb (Ia (Bl gen k a n ns)))) ?_ (λn s2 z d=>?_) λs2 d=>⟨_,rfl,E s2 d⟩
 ·rw[N];exact q
 have b:∀{y:xa} {p:P},σ.lookup y=some p->((("n":xa),P.int n)::σ).lookup y=some p:=λe=>Zh e c
 refine Fb (DT (i:=i+1) (ns:=Bl gen k a n ns) (k:=k) (n:=n) d ?_ (ov _ _ _ _ _ r) (by rw[Co];exact hz) (b M) (b J) rfl (b I) (b H) (b G) T O hg hgl hgb z (by rw[Co];lia) f λV o=>⟨rfl,?_⟩)
 ·show(L.set i _)[i]?=_
  exact get_set l
 ·have m:=o.tail c
  have e:List.set ((s.heap.objs.size,Al (n+1) ((gen.length:Int)-n-1) 1)::L.set i (eb,qb (Ia (Bl gen k a n ns)))) (i+1) (eb,qb (Ia ((Bl gen k a n ns).set (k+n+1) (Kd ((Bl gen k a n ns).getD (k+n+1) 0) (ZA.getD (a+gen.getD n 0).toNat 0)))))=
    (s.heap.objs.size,Al (n+1) ((gen.length:Int)-n-1) 1)::L.set i (eb,qb (Ia (Bl gen k a (n+1) ns))):=by
   rw[qI,vW];rfl
  rw[e] at m
  exact m
set_option tactic.hygienic false
theorem UK{c:Int}(h:0<=c/\c < 256):0<=sj.getD c.toNat 0/\sj.getD c.toNat 0 < 255:=by
 have q:c.toNat < sj.length:=by rw[Uq];lia
 have hm:=Mb (Yj q)
 have a:=List.all_eq_true.mp jP _ hm
 exact⟨(VK _ hm).1,by simpa using a⟩
set_option tactic.hygienic true
theorem HK(g:GK N A)(z:env.kindOf "n"=some NameKind.local)(D:env.kindOf "coef"=some NameKind.local)(C:env.kindOf "lcoef"=some NameKind.local){eb gt R:la}{gvs:List Value}{gn:Nat}{gen ns:List Int}{k:Nat}{i:Nat}{t u v:jg}
  (x:SX w env ((("k":xa),P.int k)::σ) s₀ B L s) (l:L[i]?=some (eb,qb (Ia ns))) (n:Bh ns) (hz:ns.length<=2 ^ 20)
  (Y:(R,EW 0 gen.length 1 t u v)∈L) (h0:σ.lookup ("range_error_words":xa)=some (.addr R)) (c:σ.lookup ("k":xa)=none) (o:σ.lookup ("n":xa)=none) (d:σ.lookup ("coef":xa)=none) (r:σ.lookup ("lcoef":xa)=none)
  (H:σ.lookup ("error_block":xa)=some (.addr eb)) (h4:σ.lookup ("gen_exp":xa)=some (.addr 1890)) (h5:σ.lookup ("gen_log":xa)=some (.addr 1888)) (h6:σ.lookup ("gen":xa)=some (.addr gt))
  (b1:B 1890 (Vl w)) (b3:B 1888 (jo w)) (b2:B gt (Bf gvs gn)) (hg:IntsAre gvs gen) (hgl:gen.length<=255) (hgb:∀g∈gen,0<=g/\g < 255) (V:k+gen.length < ns.length) {Q:Af->aa->Prop}
  (G:∀s',SX w env σ s₀ B (L.set i (eb,qb (Ia (if ns.getD k 0=0 then ns else Bl gen k (sj.getD (ns.getD k 0).toNat 0) gen.length ns)))) s'->Q .next s'):
  mc (ka PP w) A (Kc qA env) Q s:=by
 have hi:=(List.getElem?_eq_some_iff.mp l).1
 have hc:=n.getD k
 rw[wZ]
 refine La (Fb ?_)
 rw[vZ]
 refine PySem.wpAny_Assign_Name ?_ (by kernel_rfl)
 refine Hh (x.Gp (Zh H c) (by decide) (x.iC ag (by decide) λt1=>?_))
 refine cG (x.get i l) n (by lia) (by lia) (by lia) (Xf (by intros;simp)) λt2 tk=>?_
 have T:=x.step (.tok tk)
 refine T.bind (p:=.int (ns.getD k 0)) (.inl D) ⟨_,rfl⟩ nofun λs2 E=>⟨rfl,?_⟩
 refine La ?_
 rw[uZ]
 have I:∀{y:xa} {p:P},σ.lookup y=some p->((("coef":xa),P.int (ns.getD k 0))::(("k":xa),P.int k)::σ).lookup y=some p:=λ{y p} e=>by
  exact Zh (Zh e c) (Tb d (by decide))
 refine Bo (b:=decide (ns.getD k 0≠0)) (Je (E.iC ag (by decide) λt3=>Rb ?_))
 refine Lb (yu (op:=.NotEq) (p:=.int (ns.getD k 0)) (q:=.int 0) rfl ⟨_,rfl⟩ ⟨_,rfl⟩ g.ga.units) (λv s3 h3=>?_) λ_ _ q=>q.elim
 obtain ⟨rfl,rfl⟩:=h3
 refine Zd ⟨rfl,?_⟩
 have f:=E.step (s':={s2 with toks:=s2.toks+1}) (.tok _)
 by_cases a:ns.getD k 0=0
 ·rw[if_neg (show¬(decide (ns.getD k 0≠0)=true) from λq=>of_decide_eq_true q a)]
  refine te ⟨rfl,te (G _ ?_)⟩
  rw[if_pos a]
  have:=(f.tail (Tb d (by decide))).tail c
  have J:=Rj hi
  rw[(List.getElem?_eq_some_iff.mp l).2] at J
  rw[J]
  exact this
 ·rw[if_pos (show decide (ns.getD k 0≠0)=true from decide_eq_true a)]
  rw[MZ]
  refine La (Fb ?_)
  rw[LZ]
  refine PySem.wpAny_Assign_Name ?_ (by kernel_rfl)
  refine Hh (f.Gp (I h5) (by decide) (f.iC ag (by decide) λt4=>?_))
  have j:=f.base b3
  rw[iP w] at j
  refine Xz j (Xo (TK w)) hc.1 (by rw[Uq];exact hc.2) (by rw[Uq];decide) (Xf (by intros;simp)) λt5=>?_
  refine f.bind (p:=.int (sj.getD (ns.getD k 0).toNat 0)) (.inl C) ⟨_,rfl⟩ nofun λs4 O=>⟨rfl,?_⟩
  refine La ?_
  have h:∀{q:P},((("coef":xa),q)::(("k":xa),P.int k)::σ).lookup ("lcoef":xa)=none:=Tb (Tb r (by decide)) (by decide)
  have m:∀{y:xa} {p:P},σ.lookup y=some p->((("lcoef":xa),P.int (sj.getD (ns.getD k 0).toNat 0))::(("coef":xa),P.int (ns.getD k 0))::(("k":xa),P.int k)::σ).lookup y=some p:=λe=>Zh (I e) h
  refine EK (k:=k) (gen:=gen) g.ga.hd z O l n hz Y (m h0) (Tb (Tb (Tb o (by decide)) (by decide)) (by decide)) (m H) ?_ (m h4) ag (m h6) b1 b2 hg hgl hgb V (UK hc) λs5 M=>⟨rfl,te ⟨rfl,te (G _ ?_)⟩⟩
  ·exact Mc (Mc ag (by decide)) (by decide)
  ·rw[if_neg a]
   exact((M.tail h).tail (Tb d (by decide))).tail c
end
set_option tactic.hygienic false
noncomputable def Yu(b:wa)(S:T3)(B:List cb)(w:ja)(a:la)(bs:Array UInt8)(pl:Vb Bool)(m k:Nat):Prop:=
 Uk og (Gb Ka) b w 5 ⟨true,[(a,qb bs)],m,[],[.k 0,.k 0,.k 0,.k 0],[]⟩ k (.top (Wg (.ref a) "extend" pl))=some (⟨true,[(a,qb bs)],m,[],[],[(a,a),(a,a),(a,a),(a,a)]⟩,k+0,.top (.pure ((.builtin "bytearray.extend",[.ref a]))))
noncomputable def Xu(b:wa)(S:T3)(B:List cb)(w:ja)(a:la)(bs:Array UInt8)(pl:Vb Bool)(m k:Nat):Prop:=
 Uk og (Gb Ka) b w 5 ⟨true,[(a,qb bs)],m,[],[.k 0,.k 0,.k 0,.k 0],[]⟩ k (.top (Wg (.ref a) "pop" pl))=some (⟨true,[(a,qb bs)],m,[],[],[(a,a),(a,a),(a,a),(a,a)]⟩,k+0,.top (.pure ((.builtin "bytearray.pop",[.ref a]))))
lay_quick Mine.Yu Mine.Xu
theorem MA(w:ja)(a:la)(bs:Array UInt8)(pl:Vb Bool)(m k:Nat):Yu PP (Tc w) fb w a  bs  pl  m k:=wf (P:=λv=>Yu PP (Tc w) fb v a  bs  pl  m k) w λb=>by
 rw[PySem.W.Fast.te5537129210570090827]
 unfold PySem.W.Fast.tw5537129210570090827
 cases b <;> kernel_rfl
theorem JF{w:ja}{A:ua}{s:aa}{a:la}{bs:Array UInt8}{pl:Vb Bool}{Q:_->aa->Prop}{E:Value->aa->Prop}(e:A.handled=none)(F:Fk w s.heap)(c:s.heap.get? a=some (qb bs))
  (d:∀h',(∀x o,s.heap.get? x=some o->h'.get? x=some o)->Q ((.builtin "bytearray.extend",[.ref a])) {s with heap:=h',toks:=s.toks+0}):wpAny (ka PP w) A (Wg (.ref a) "extend" pl) Q E s:=
 Te e (MA w a  bs  pl  s.heap.objs.size s.toks) [a,a,a,a] rfl (Dc c tj) rfl rfl λh' b f=>d h' b
theorem LA(w:ja)(a:la)(bs:Array UInt8)(pl:Vb Bool)(m k:Nat):Xu PP (Tc w) fb w a  bs  pl  m k:=wf (P:=λv=>Xu PP (Tc w) fb v a  bs  pl  m k) w λb=>by
 rw[PySem.W.Fast.te2680633334085346994]
 unfold PySem.W.Fast.tw2680633334085346994
 cases b <;> kernel_rfl
theorem CP{w:ja}{A:ua}{s:aa}{a:la}{bs:Array UInt8}{pl:Vb Bool}{Q:_->aa->Prop}{E:Value->aa->Prop}(e:A.handled=none)(F:Fk w s.heap)(c:s.heap.get? a=some (qb bs))
  (d:∀h',(∀x o,s.heap.get? x=some o->h'.get? x=some o)->Q ((.builtin "bytearray.pop",[.ref a])) {s with heap:=h',toks:=s.toks+0}):wpAny (ka PP w) A (Wg (.ref a) "pop" pl) Q E s:=
 Te e (LA w a  bs  pl  s.heap.objs.size s.toks) [a,a,a,a] rfl (Dc c tj) rfl rfl λh' b f=>d h' b
theorem EZ:Ci=[ma Ci 0,ma Ci 1,ma Ci 2,ma Ci 3,ma Ci 4,ma Ci 5,ma Ci 6]:=by kernel_rfl
noncomputable def CI:Oa:=ch (aV (ma Ci 0)) 1
noncomputable def PO:Oa:=gI CI 0
theorem DZ:ma Ci 0=.Assign [.Name "block" (aT (ma Ci 0)).pos] (.Call (.Name "bytearray" (ch (aV (ma Ci 0)) 0).pos) [CI] [] (aV (ma Ci 0)).pos) (aP (ma Ci 0)):=by kernel_rfl
theorem tZ:CI=.ListComp (.Name "word" (ch CI 0).pos) [⟨.Tuple [.Name "k" (ch (gT CI 0) 0).pos,.Name "word" (ch (gT CI 0) 1).pos] 0 (gT CI 0).pos,PO,[],0⟩] (IH CI) CI.pos:=by kernel_rfl
theorem qZ:PO=.Call (.Name "zip" (ch PO 0).pos) [.Call (.Name "range" (ch (ch PO 1) 0).pos) [.Attribute (.Name "ec_info" (ch (ch (ch PO 1) 1) 0).pos) "num_data" (ch (ch PO 1) 1).pos] [] (ch PO 1).pos,.Name "codewords" (ch PO 2).pos] [] PO.pos:=by kernel_rfl
theorem A7:∀n:Nat,n+3≠n+1/\n+3≠n+2/\n+3≠n/\n+1≠n+2/\n+1≠n/\n+2≠n:=λn=>by lia
theorem SY:∀n b:Nat,b < n->b≠n+3/\b≠n+1/\b≠n+2/\b≠n:=λn b h=>by lia
theorem uU{l:List (xa×ub)}(h:l.all (λy=>y.2 != .local||l.lookup y.1==some .local)=true):∀y∈l,y.2=.local->l.lookup y.1=some .local:=λy a e=>by
 have:=List.all_eq_true.mp h y a
 rw[e] at this
 simpa using this
section
variable{w:ja}{A:ua}{N:Nat}{env:Be}{σ:List (xa×P)}{s₀ s s':aa}{B:la->Sa->Prop}{L:List (la×Sa)}
theorem SX.move(x:SX w env σ s₀ B L s){wr:List la}(a:∀b∈wr,Ap env b/\(∀o,¬B b o)/\∀e∈L,e.1≠b)(k:∀b o,b∉wr->s.heap.get? b=some o->s'.heap.get? b=some o)(hd:s'.drawn=s.drawn)(f:s'.os=s.os):
  SX w env σ {s₀ with gens:=s'.gens} B L s':=by
 refine x.st.ns.elim λm hm=>?_
 have i:env.locals∉wr:=λq=>(a _ q).1.loc rfl
 have j:∀y c,env.cells.lookup y=some c->c∉wr:=λy c e q=>(a _ q).1.cel y c e rfl
 refine{x with st:={x.st with sh:=?_,ks:=?_,ns:=⟨m,hm.at' λo e=>k _ o i e⟩,ce:=λy c e=>?_,look:=λy p e=>?_}}
 ·obtain ⟨h0,A,rfl⟩:=x.st.sh
  obtain ⟨h',C,g,t',o'⟩:=s'
  have hd:g=_:=hd
  have f:o'=_:=f
  subst hd f
  exact⟨h',t',rfl⟩
 ·rintro b o (q|q)
  ·exact k b o (λhb=>(a b hb).2.1 o q) (x.base q)
  ·exact k b o (λhb=>(a b hb).2.2 _ q rfl) (x.st.ks b o (.inr q))
 ·obtain ⟨v,o',d,g⟩:=x.st.ce y c e
  exact⟨v,o',k c o' (j y c e) d,g⟩
 ·obtain ⟨v,z,u,t⟩:=x.st.look y p e
  refine⟨v,?_,Yx u (uD x.nl e),t⟩
  rcases z with ⟨h,l,n',d⟩|⟨h,c,d,o',n,r⟩
  ·exact .inl ⟨h,l,n'.at' λo e=>k _ o i e,d⟩
  ·exact .inr ⟨h,c,d,o',k c o' (j y c d) n,r⟩
set_option tactic.hygienic true
theorem LK(g:GK (N+9) A)(F:Fk w s.heap)(Y:env.scope=(fdOf (Vg w)).scope){a C I ec ed:la}{gi room n:Nat}{ex:List la}{f:Nat->Int}{oa O M:Sa}{ib:Int}{ta tb tc:Nat}
  (x:SX w env σ s₀ B ((a,oa)::(C,O)::(I,M)::L) s) (jH:∀b∈ex,∃o,s.heap.get? b=some o)
  (h1:σ.lookup ("ec_info":xa)=some (.addr ec)) (h2:σ.lookup ("codewords":xa)=some (.addr a)) (he:s.heap.get? ec=some (Nl ed 1 ib room ta tb tc)) (hed:s.heap.get? ed=some (Ga [] 0))
  (hg:Dl w A.in1 a gi C I ex n (Ey f) 0 s) (hn:room<=n) (hr:room<=200) (hf:∀i,i < room->0<=f i/\f i < 256) {Q:Af->aa->Prop}
  (hQ:∀bk s',We gi s.gens s'.gens->SX w env ((("block":xa),P.addr bk)::σ) {s₀ with gens:=s'.gens} B ((bk,qb (Ia ((Qa room).map f)))::L) s'->Q .next s'):
  mc (ka PP w) A (ig (ma Ci 0) env) Q s:=by
 have E:∀x,env.kindOf x=(fdOf (Vg w)).scope.names.lookup x:=λx=>by unfold bc;rw[Y]
 have r:=x.st.re
 rw[DZ]
 refine fi (by kernel_rfl) ?_
 refine Fg (name_buil r ((E _).trans (by kernel_rfl)) (ke w (by decide)) (v:=.type "bytearray") (by kernel_rfl) (by decide) (by decide) ?_)
 refine fc (xs:=[eval CI env]) (show 1<=30 by decide) ?_
 have hh:=g.ga.hd
 have l:A.in1.depth < Le:=((g.mono (by lia:1<=N+9)).in1).ga.room
 have k:∀b∈a::C::I::(Nf++ex),∃o,s.heap.get? b=some o:=by
  exact Dc ⟨_,x.get 0 rfl⟩ (Dc ⟨_,x.get 1 rfl⟩ (Dc ⟨_,x.get 2 rfl⟩ (Q4 (ei F) jH)))
 have c:Ue∈Nf++ex:=Oe _ ay
 refine Fb ?_
 rw[tZ]
 refine ZI (cl:=[]) (a:=a) (g:=gi) (C:=C) (fp:=I::(Nf++ex)) (wr:=[I]) (m:=room) (n:=n) (f:=f) hh l (bp (by kernel_rfl)) (by kernel_rfl) (uU (by kernel_rfl)) ?_ (by kernel_rfl) (by kernel_rfl) (λ_=>rfl) hn (by lia) ?_ ?_
 ·rw[Of (scope:=IH CI) (env:=env) ?_]
  ·kernel_rfl
  ·intro y hy V2
   have:(IH CI).names.all (λy=>y.2 != .free)=true:=by kernel_rfl
   have q:=List.all_eq_true.mp this y hy
   rw[V2] at q
   cases q
 ·rw[qZ]
  refine Yc ⟨_,_,rfl⟩ (name_buil r ((E _).trans (by kernel_rfl)) (ke w (by decide)) (v:=.type "zip") (by kernel_rfl) (by decide) (by decide) ?_)
  refine md (xs:=[eval (.Call _ _ [] _) env,eval (.Name _ _) env]) (show 2<=30 by decide) ?_
  refine Yc ⟨_,_,rfl⟩ (name_buil r ((E _).trans (by kernel_rfl)) (ke w (.tail _ (.head _))) (v:=.type "range") (by kernel_rfl) (by decide) (by decide) ?_)
  refine md (xs:=[eval (.Attribute _ _ _) env]) (show 1<=30 by decide) ?_
  refine gf (x.Gp h1 (by decide) (RF (N:=N) (g.ga.mono (by lia)) F he hed λs1 t1 k1=>?_))
  refine Aa (a:=Xa) rfl ?_
  refine uk ?_
  generalize t:({s1 with heap:=s1.heap.push _,toks:=s1.toks+1+1}:aa)=s2
  have k2:Kp s1 s2:=t▸⟨_,_,rfl,λ_ _ e=>fa _ e⟩
  have d:=k1.trans' k2
  have hr2:dm s2.heap s1.heap.objs.size 0 room 1 s1.toks t1 (s1.toks+1):=t▸ra _ rfl
  refine(x.step d).Gp h2 (by decide) ?_
  refine Aa (a:=Xa) rfl ?_
  have u:Lr PP w A.in1 a gi C (I::(Nf++ex)) [I] (λ_=>true) n (Ey f) 0 s2:=by
   refine Rh hg.gen (ya _ c) ?_ λb hb o e=>d.get e
   refine Nc λz=>?_;obtain ⟨_,_,e,_⟩:=d;refine z ?_
   rw[e]
  refine nB hr2 (Nh (by decide) (by unfold Sm;lia) (by unfold Sm;lia) (by unfold Sm;lia)).1 u.1 λh' z1 z2 z3 H z5 G=>?_
  have k3:Kp s2 {s2 with heap:=h'}:=⟨h',s2.toks,rfl,G⟩
  have V:∀b∈a::C::I::(Nf++ex),b < s2.heap.objs.size:=λb hb=>by
   refine(k b hb).elim λo e=>?_
   exact Ba (d.get e)
  have fr:∀b,s2.heap.objs.size<=b->s.heap.get? b=none:=λb hb=>Eb d (Pe hb)
  refine⟨s2.heap.objs.size+3,s2.heap.objs.size+1,s2.heap.objs.size+2,s2.heap.objs.size,rfl,d.trans' k3,⟨A7 _,λb hb=>SY _ _ (V b hb),hg.aC,hg.af,λb hb=>by rw[List.mem_singleton.mp hb];exact za ..,ya _ c,λq=>hg.Cf (q▸ya _ c),λq=>hg.If (List.mem_singleton.mp q▸c)⟩,⟨z1,z2,⟨_,_,z3⟩,?_,?_⟩,?_,fr _ (by lia),fr _ (by lia),fr _ (by lia)⟩
  ·rw[uY] at H
   show wc h' s2.heap.objs.size ((0:Nat):Int) ((room:Int)-((0:Nat):Int)) 1
   simpa using H
  ·exact Rh u (ya _ c) rfl λb hb o e=>G b o e
  ·exact Dc ⟨_,z1⟩ (Dc ⟨_,z2⟩ (Dc ⟨_,z3⟩ (Dc ⟨_,H⟩ λb hb=>(k b hb).imp λo e=>G b o (d.get e))))
 ·intro D J hD hl hk3 R8 hdr hos
  show wpAny _ _ (Xh (.type "bytearray")) _ _ _
  refine Aa (a:=Xa) rfl ?_
  refine Nc λz=>?_;obtain ⟨vs,m,S2,hi⟩:=hl;refine z ?_
  refine Cv (T:="list") g.gd S2 rfl rfl (.inl rfl) hi ?_ ?_ λbk s4 k4 hbn n3=>?_
  ·intro v hv
   refine Nc λz=>?_;obtain ⟨i,hi,rfl⟩:=List.mem_map.mp hv;refine z ?_
   exact hf i (List.mem_range.mp hi)
  ·rw[Yb,yc];simp only[Kb];lia
  have x1:SX w env σ s₀ B L s:=x.less (by exact(Jd _ _).trans ((Jd _ _).trans (Jd _ _)))
  have nd:=x.nd
  have d2:=List.nodup_cons.mp (List.nodup_cons.mp nd).2
  have d3:=List.nodup_cons.mp d2.2
  have jC:∀{b:la},b∉L.map (·.1)->∀e∈L,e.1≠b:=λh e he q=>h (q▸zd he)
  have x2:SX w env σ {s₀ with gens:=J.gens} B L J:=x1.move (wr:=[C,I]) (Dc ⟨x.ap (C,O) (.tail _ (.head _)),x.nb (C,O) (.tail _ (.head _)),jC (uF d2.1).2⟩ (Dc ⟨x.ap (I,M) (.tail _ (.tail _ (.head _))),x.nb (I,M) (.tail _ (.tail _ (.head _))),jC d3.1⟩ tj)) hk3 hdr hos
  refine(x2.new hbn k4 n3).bind (p:=.addr bk) (.inl ((E _).trans (by kernel_rfl))) rfl nofun λs5 x5=>?_
  have j:s5.gens=J.gens:=x5.st.sh.elim λ_ q=>q.elim λ_ e=>by rw[e]
  refine hQ bk s5 (by rw[j];exact R8) ?_
  rw[j]
  exact x5
end
set_option tactic.hygienic false
theorem CZ:ma Ci 1=.Expr (.Call (.Name "append_data_block" (ch (aV (ma Ci 1)) 0).pos) [.Name "block" (ch (aV (ma Ci 1)) 1).pos] [] (aV (ma Ci 1)).pos) (aP (ma Ci 1)):=by kernel_rfl
theorem BZ:ma Ci 2=.Assign [.Name "len_data" (aT (ma Ci 2)).pos] (.Call (.Name "len" (ch (aV (ma Ci 2)) 0).pos) [.Name "block" (ch (aV (ma Ci 2)) 1).pos] [] (aV (ma Ci 2)).pos) (aP (ma Ci 2)):=by kernel_rfl
theorem AZ:ma Ci 3=.Assign [.Name "error_block" (aT (ma Ci 3)).pos] (.Call (.Name "bytearray" (ch (aV (ma Ci 3)) 0).pos) [.Name "block" (ch (aV (ma Ci 3)) 1).pos] [] (aV (ma Ci 3)).pos) (aP (ma Ci 3)):=by kernel_rfl
theorem zZ:ma Ci 4=.Expr (.Call (.Attribute (.Name "error_block" (ch (ch (aV (ma Ci 4)) 0) 0).pos) "extend" (ch (aV (ma Ci 4)) 0).pos) [.BinOp (.List [.Constant (.int 0) 0 (ch (ch (ch (aV (ma Ci 4)) 1) 0) 0).pos] (ch (ch (aV (ma Ci 4)) 1) 0).pos) .Mult (.Name "num_error_words" (ch (ch (aV (ma Ci 4)) 1) 1).pos) (ch (aV (ma Ci 4)) 1).pos] [] (aV (ma Ci 4)).pos) (aP (ma Ci 4)):=by kernel_rfl
theorem yZ:ma Ci 5=.For (.Name "k" (aT (ma Ci 5)).pos) (.Call (.Name "range" (ch (aV (ma Ci 5)) 0).pos) [.Name "len_data" (ch (aV (ma Ci 5)) 1).pos] [] (aV (ma Ci 5)).pos) qA [] (aP (ma Ci 5)):=by kernel_rfl
theorem xZ:ma Ci 6=.Expr (.Call (.Name "append_error_block" (ch (aV (ma Ci 6)) 0).pos) [.Subscript (.Name "error_block" (ch (ch (aV (ma Ci 6)) 1) 0).pos) (.Slice (some (.Name "len_data" (ch (ch (ch (aV (ma Ci 6)) 1) 1) 0).pos)) none none (ch (ch (aV (ma Ci 6)) 1) 1).pos) (ch (aV (ma Ci 6)) 1).pos] [] (aV (ma Ci 6)).pos) (aP (ma Ci 6)):=by kernel_rfl
theorem d7(n:Nat):(Ha ((n:Int)).toNat [(0:Int)]).flatten=Ha n 0:=by simp
noncomputable abbrev Po(D:la):Sa:=⟨.type "builtin_function_or_method",none,.fields #[.builtin "list.append",.ref D],#[]⟩
section
variable{w:ja}{A:ua}{N:Nat}{env:Be}{σ:List (xa×P)}{s₀ s s':aa}{B:la->Sa->Prop}{L:List (la×Sa)}
theorem SX.ne(x:SX w env σ s₀ B L s){i j:Nat}{a b:la}{o o':Sa}(hi:L[i]?=some (a,o))(c:L[j]?=some (b,o'))(h:i≠j):a≠b:=by
 refine(List.getElem?_eq_some_iff.mp hi).elim λk m=>?_
 refine(List.getElem?_eq_some_iff.mp c).elim λf l=>?_
 intro q
 have g:i < (L.map (·.1)).length:=by simpa using k
 have d:j < (L.map (·.1)).length:=by simpa using f
 have e:(L.map (·.1))[i]=(L.map (·.1))[j]:=by
  rw[dh,dh,m,l];exact q
 exact h ((Ot x.nd).mp e)
theorem SX.fk(x:SX w env σ s₀ B L s)(F:Fk w s₀.heap):Fk w s.heap:=F.kp x.kp
set_option tactic.hygienic true
theorem Xw(g:GK N A)(F:Fk w s₀.heap){nm:xa}{C p f:xd}{e:Oa}{M D:la}{i j:Nat}(x:SX w env σ s₀ B L s)(h:σ.lookup nm=some (.addr M))(E:Gd nm=false)
  (hi:qe env=false) (G:mi (.Call (.Name nm C) [e] [] p) none f.line env=pure false) (u:Bg p (Ae [e] env)=[eval e env].map λx=>(false,x)) {Q:Af->aa->Prop}
  (m:wpAny (ka PP w) A (eval e env) (λv d=>∃bk b,v=.ref bk/\SX w env σ s₀ B b d/\b[i]?=some (D,Wa [] 0)/\b[j]?=some (M,Po D) /\
   ∀c,SX w env σ s₀ B (b.set i (D,Wa [.ref bk] 1)) c->Q .next c) Jc s):
  mc (ka PP w) A (ig (.Expr (.Call (.Name nm C) [e] [] p) f) env) Q s:=by
 refine lh hi G ?_
 refine Fg (x.Gp h E ?_)
 show mc _ _ (oj _ _ _ (Bg _ _) _) _ _
 rw[u]
 refine fc (xs:=[eval e env]) (show 1<=30 by decide) ?_
 refine Fb (Lb m (λv d yb=>?_) λ_ _ q=>q.elim)
 refine Nc λI=>?_;obtain ⟨bk,b,rfl,l,t,r,H⟩:=yb;refine I ?_
 have y:i≠j:=by
  rintro rfl
  rw[t] at r
  have:=congrArg (λo:Option (la×Sa)=>o.map λq=>q.2.cls) r
  simp at this
 have n:=l.get j r
 refine zb (Gi n ?_)
 refine Aa (a:=Xa) rfl ?_
 refine Fb (w9 g.ga.hd (l.fk F) (l.get i t) n (l.ne t r y) λh' k z=>⟨(λa q=>(by cases q)),?_⟩)
 exact H _ (l.put i t k z)
theorem CT(b:env.scope=(fdOf (Vg w)).scope){bk:la}{ns:List Int}{i:Nat}(x:SX w env σ s₀ B L s)(h:σ.lookup ("block":xa)=some (.addr bk))(f:L[i]?=some (bk,qb (Ia ns)))(hz:ns.length<=2 ^ 20){Q:Af->aa->Prop}
  (e:∀s',SX w env ((("len_data":xa),P.int ns.length)::σ) s₀ B L s'->Q .next s'):mc (ka PP w) A (ig (ma Ci 2) env) Q s:=by
 have c:∀x,env.kindOf x=(fdOf (Vg w)).scope.names.lookup x:=λx=>by unfold bc;rw[b]
 rw[BZ]
 refine Fb (PySem.wpAny_Assign_Name ?_ (by kernel_rfl))
 refine Yc ⟨_,_,rfl⟩ (name_buil x.st.re ((c _).trans (by kernel_rfl)) (ke w (za ..)) (v:=.builtin "len") (by kernel_rfl) (by decide) (by decide) ?_)
 refine md (xs:=[eval (.Name _ _) env]) (show 1<=30 by decide) ?_
 refine x.Gp h (by decide) ?_
 refine Aa (a:=Xa) rfl ?_
 refine Ds (x.get i f) (by lia) λu tk=>?_
 exact(x.step (.tok tk)).bind (p:=.int ns.length) (.inl ((c _).trans (by kernel_rfl))) ⟨_,rfl⟩ nofun λs2 d=>e s2 d
theorem NO(g:GK N A)(b:env.scope=(fdOf (Vg w)).scope){bk:la}{ns:List Int}{i:Nat}(x:SX w env σ s₀ B L s)(h:σ.lookup ("block":xa)=some (.addr bk))(l:L[i]?=some (bk,qb (Ia ns)))(hz:ns.length<=2 ^ 20){Q:Af->aa->Prop}
  (k:∀eb s',SX w env ((("error_block":xa),P.addr eb)::σ) s₀ B ((eb,qb (Ia ns))::L) s'->Q .next s'):mc (ka PP w) A (ig (ma Ci 3) env) Q s:=by
 have c:∀x,env.kindOf x=(fdOf (Vg w)).scope.names.lookup x:=λx=>by unfold bc;rw[b]
 rw[AZ]
 refine fi (by kernel_rfl) ?_
 refine Fg (name_buil x.st.re ((c _).trans (by kernel_rfl)) (ke w (by decide)) (v:=.type "bytearray") (by kernel_rfl) (by decide) (by decide) ?_)
 refine fc (xs:=[eval (.Name "block" (ch (aV (ma Ci 3)) 1).pos) env]) (show 1<=30 by decide) ?_
 refine Fb (x.Gp h (by decide) ?_)
 show wpAny _ _ (Xh (.type "bytearray")) _ _ _
 refine Aa (a:=Xa) rfl ?_
 refine Dv g.gd (x.get i l) (by rw[vd];simp only[Kb];lia) λeb s2 f j m=>?_
 exact(x.new j f m).bind (p:=.addr eb) (.inl ((c _).trans (by kernel_rfl))) rfl nofun λe d=>k eb e d
theorem KG(g:GK N A){eb:la}{ns:List Int}{i:Nat}{b:Nat}(x:SX w env σ s₀ B L s)(h:σ.lookup ("error_block":xa)=some (.addr eb))(G:σ.lookup ("num_error_words":xa)=some (.int b))(z:b<=255)
  (hi:qe env=false) (F:Fk w s₀.heap) (c:L[i]?=some (eb,qb (Ia ns))) (hz:ns.length<=2 ^ 20) {Q:Af->aa->Prop}
  (E:∀s',SX w env σ s₀ B (L.set i (eb,qb (Ia (ns++Ha b 0)))) s'->Q .next s'):mc (ka PP w) A (ig (ma Ci 4) env) Q s:=by
 rw[zZ]
 refine lh hi (by kernel_rfl) ?_
 refine Th rfl (by kernel_rfl) (by kernel_rfl) ?_
 refine Fb (x.Gp h (by decide) ?_)
 refine JF g.ga.hd (x.fk F) (x.get i c) λh' k=>?_
 have r:=x.step (xq 0 k)
 refine fc (xs:=[eval (.BinOp _ _ _ _) env]) (show 1<=30 by decide) ?_
 refine Fb (Mf (fq ?_))
 refine Se (xs:=[eval (.Constant (.int 0) 0 (ch (ch (ch (aV (ma Ci 4)) 1) 0) 0).pos) env]) ?_
 refine Rb ⟨(show 1<=Kb by decide),?_⟩
 have hc:=df.list (s:={s with heap:=h',toks:=s.toks+0+1}) (vs:=[.int 0 (s.toks+0)]) (ns:=[0]) (.cons 0 _ .nil) #[.int 0 (s.toks+0)] rfl
 have y:Kp {s with heap:=h',toks:=s.toks+0} _:=(Kp.tok (s.toks+0+1)).trans' hc.keeps
 have f:=r.step y
 refine f.iC G (by decide) λt=>?_
 refine Lb (eA (op:=.Mult) (p:=.il [0]) (q:=.int b) rfl ⟨by lia,by lia,by simp;lia⟩ hc.val ⟨_,rfl⟩) (λv J o=>?_) λ_ _ q=>q.elim
 refine Nc λd=>?_;obtain ⟨l,vs,m,rfl,D,hI⟩:=o.val;refine d ?_
 have e:=f.step o.keeps
 have hI:IntsAre vs (Ha b 0):=by
  rw[<- d7 b];exact hI
 show wpAny _ _ (Xh (.builtin "bytearray.extend")) _ _ _
 refine Aa (a:=Xa) rfl ?_
 show mc _ _ (call (.builtin "bytearray.extend") [.ref eb,.ref l]) _ _
 refine ft g.ga.hd g.gd (e.get i c) D hI (λn C=>by rw[(List.mem_replicate.mp C).2];decide) (by rw[vd,Pd];simp only[Kb];lia) λI hm j=>?_
 rw[Zk] at j
 refine Nc λd=>?_;obtain ⟨M,H,rfl,u⟩:=hm;refine d ?_
 exact⟨(λa q=>(by cases q)),E _ (e.put i c u j)⟩
end
section
variable{w:ja}{A:ua}{N:Nat}{env:Be}{σ:List (xa×P)}{s₀ s s':aa}{B:la->Sa->Prop}{L:List (la×Sa)}
set_option tactic.hygienic false
theorem bA{i:Nat}{e:la×Sa}(h:L[i]?=some e):L.set i e=L:=by
 obtain ⟨hi,rfl⟩:=List.getElem?_eq_some_iff.mp h
 exact Rj hi
theorem eW{n:Nat}(h:n<=2 ^ 20):Sm n:=⟨Kr (by decide) (sd n),VI (Int.ofNat_le.mpr h) (by decide)⟩
set_option tactic.hygienic true
theorem IK(g:GK N A)(f:env.scope=(fdOf (Vg w)).scope){eb gt R:la}{gvs:List Value}{gn:Nat}{gen ns:List Int}{room:Nat}{i:Nat}{t u v:jg}
  (x:SX w env σ s₀ B L s) (D:L[i]?=some (eb,qb (Ia ns))) (T:Bh ns) (hz:ns.length<=2 ^ 20) (h7:σ.lookup ("len_data":xa)=some (.int room))
  (V:(R,EW 0 gen.length 1 t u v)∈L) (h0:σ.lookup ("range_error_words":xa)=some (.addr R)) (p:σ.lookup ("k":xa)=none) (l:σ.lookup ("n":xa)=none) (r:σ.lookup ("coef":xa)=none) (m:σ.lookup ("lcoef":xa)=none)
  (h1:σ.lookup ("error_block":xa)=some (.addr eb)) (h4:σ.lookup ("gen_exp":xa)=some (.addr 1890)) (h5:σ.lookup ("gen_log":xa)=some (.addr 1888)) (h6:σ.lookup ("gen":xa)=some (.addr gt))
  (b1:B 1890 (Vl w)) (b3:B 1888 (jo w)) (b2:B gt (Bf gvs gn)) (hg:IntsAre gvs gen) (hgl:gen.length<=255) (hgb:∀g∈gen,0<=g/\g < 255) (H:room+gen.length=ns.length) {Q:Af->aa->Prop}
  (Y:∀s',SX w env σ s₀ B (L.set i (eb,qb (Ia (Ti gen gen.length room ns)))) s'->Q .next s'):
  mc (ka PP w) A (ig (ma Ci 5) env) Q s:=by
 have c:∀x,env.kindOf x=(fdOf (Vg w)).scope.names.lookup x:=λx=>by unfold bc;rw[f]
 rw[yZ]
 refine xp (λ_=>rfl) ?_
 refine Yc ⟨_,_,rfl⟩ (name_buil x.st.re ((c _).trans (by kernel_rfl)) (ke w (.tail _ (.head _))) (v:=.type "range") (by kernel_rfl) (by decide) (by decide) ?_)
 refine md (xs:=[eval (.Name _ _) env]) (show 1<=30 by decide) ?_
 refine x.iC h7 (by decide) λM=>?_
 refine Aa (a:=Xa) rfl ?_
 refine uk ?_
 generalize b:({s with heap:=s.heap.push _,toks:=s.toks+1+1}:aa)=s1
 have O:Kp s s1:=b▸⟨_,_,rfl,λ_ _ e=>fa _ e⟩
 have h:dm s1.heap s.heap.objs.size 0 room 1 s.toks M (s.toks+1):=b▸ra _ rfl
 have J:=x.step O
 refine Ag h (Nh (by decide) ⟨by decide,by decide⟩ (eW (Ja (Fz H) hz)) ⟨by decide,by decide⟩).1 ?_
 have I:SX w env σ s₀ B ((s1.heap.objs.size,Al 0 room 1)::L) {s1 with heap:=s1.heap.push (Al 0 room 1)}:=J.new Qb (.push _) (ra _ rfl)
 rw[uY]
 refine jv (n:=room) g.ga.hd (.inl ((c _).trans (by kernel_rfl))) (λ_=>σ) (λk=>L.set i (eb,qb (Ia (Ti gen gen.length k ns)))) ?_ (λk G y d=>?_) λG d=>⟨_,rfl,Y G d⟩
 ·have:L.set i (eb,qb (Ia (Ti gen gen.length 0 ns)))=L:=bA D
  rw[this];exact I
 ·refine HK (t:=t) (u:=u) (v:=v) (i:=i+1) (ns:=Ti gen gen.length k ns) (k:=k) (gen:=gen) (R:=R) g ((c _).trans (by kernel_rfl)) ((c _).trans (by kernel_rfl)) ((c _).trans (by kernel_rfl)) d ?_ (Eo _ _ _ _ T) (by rw[ak];exact hz) ?_ h0 p l r m h1 h4 h5 h6 b1 b3 b2 hg hgl hgb (by rw[ak,<- H];exact Nat.add_lt_add_right y _) λs4 E=>⟨rfl,?_⟩
  ·show(L.set i _)[i]?=_
   exact get_set (o:=qb (Ia ns)) D
  ·refine ya _ ?_
   refine(List.getElem?_of_mem V).elim λj z=>?_
   have C:i≠j:=by
    rintro rfl
    rw[D] at z
    have:=congrArg (λo:Option (la×Sa)=>o.map λq=>q.2.cls) z
    simp[qb] at this
   refine Mb (i:=j) ?_
   rw[Mp C];exact z
  ·have e:List.set ((s1.heap.objs.size,Al (k+1) ((room:Int)-k-1) 1)::L.set i (eb,qb (Ia (Ti gen gen.length k ns)))) (i+1) (eb,qb (Ia (if (Ti gen gen.length k ns).getD k 0=0 then Ti gen gen.length k ns else Bl gen k (sj.getD ((Ti gen gen.length k ns).getD k 0).toNat 0) gen.length (Ti gen gen.length k ns))))=
     (s1.heap.objs.size,Al (k+1) ((room:Int)-k-1) 1)::L.set i (eb,qb (Ia (Ti gen gen.length (k+1) ns))):=by
    rw[qI,vW];rfl
   rw[e] at E
   exact E
theorem MO(g:GK N A)(F:Fk w s₀.heap)(hi:qe env=false){eb M D:la}{ns:List Int}{room i j l:Nat}(x:SX w env σ s₀ B L s)(v:σ.lookup ("error_block":xa)=some (.addr eb))(u:σ.lookup ("len_data":xa)=some (.int room))(r:σ.lookup ("append_error_block":xa)=some (.addr M))
  (n:L[l]?=some (eb,qb (Ia ns))) (p:L[i]?=some (D,Wa [] 0)) (m:L[j]?=some (M,Po D)) (hz:ns.length<=2 ^ 20) (hr:room<=ns.length) {Q:Af->aa->Prop}
  (k:∀f s',SX w env σ s₀ B ((f,qb (Ia (ns.drop room)))::L.set i (D,Wa [.ref f] 1)) s'->Q .next s'):mc (ka PP w) A (ig (ma Ci 6) env) Q s:=by
 rw[xZ]
 refine Xw (i:=i+1) (j:=j+1) (D:=D) (M:=M) g F x r (by decide) hi (by kernel_rfl) (by kernel_rfl) ?_
 refine wt Ff.lookup (x.Gp v (by decide) ?_)
 refine wpAny_Slice ?_
 rw[jG,evalPart_none]
 refine x.iC u (by decide) λt=>?_
 refine pa (pa ?_)
 have d:nh s.heap eb ns:=x.get l n
 have c:nh (s.heap.push {cls:=.type "slice",data:=.fields #[.int room t,.none,.none]}) eb ns:=fa _ d
 refine⟨Pb c,?_⟩
 refine TM (lo:=some (room:Int)) (hi:=none) c (Wv ..) (.int _ _) .none (Ja hz (by decide)) ?_
 have e:(ns.drop (Fo (some (room:Int)) ns.length)).take (jt none ns.length-Fo (some (room:Int)) ns.length)=ns.drop room:=by
  rw[vx hr]
  exact Rf (Cj bh)
 rw[e]
 refine⟨_,_,rfl,x.new (a:=(s.heap.push {cls:=.type "slice",data:=.fields #[.int room t,.none,.none]}).objs.size) (Pe (by rw[Ec];exact ze _)) ⟨_,s.toks,rfl,λb o q=>fa _ (fa _ q)⟩ (ra _ rfl),p,m,λs2 h=>k _ s2 h⟩
end
set_option tactic.hygienic false
theorem PF{α:Type}:∀(l:List α) (i:Nat) (h:i < l.length),(l[i]::l.eraseIdx i).Perm l
 |a::l,0,_=>.refl _
 |a::l,i+1,h=>by
  have hi:i < l.length:=by simpa using h
  have b:=PF l i hi
  show(l[i]::a::l.eraseIdx i).Perm (a::l)
  exact(List.Perm.swap a l[i] _).trans (b.cons a)
section
variable{w:ja}{A:ua}{N:Nat}{env:Be}{σ:List (xa×P)}{s₀ s s':aa}{B:la->Sa->Prop}{L:List (la×Sa)}
theorem SX.perm(x:SX w env σ s₀ B L s){a:List (la×Sa)}(h:a.Perm L):SX w env σ s₀ B a s:=
 {x with st:=x.st.less (λe q=>h.subset q) x.h0,ap:=λe q=>x.ap e (h.subset q),nb:=λe q=>x.nb e (h.subset q),nd:=(h.map _).nodup_iff.mpr x.nd}
theorem SX.front(x:SX w env σ s₀ B L s)(i:Nat){e:la×Sa}(h:L[i]?=some e):SX w env σ s₀ B (e::L.eraseIdx i) s:=by
 obtain ⟨hi,rfl⟩:=List.getElem?_eq_some_iff.mp h
 exact x.perm (PF L i hi)
theorem SX.drop(x:SX w env σ s₀ B L s)(i:Nat):SX w env σ s₀ B (L.eraseIdx i) s:=x.less (GC ..)
set_option tactic.hygienic true
theorem JK(g:GK (N+9) A)(F:Fk w s₀.heap)(h:env.scope=(fdOf (Vg w)).scope)(hi:qe env=false){a C I ec ed gt R Ii It M1 M2 Y V:la}{gi room n gn:Nat}{ex:List la}{f:Nat->Int}{oa oC oI H G:Sa}{ib:Int}{ta tb tc:Nat}{gvs:List Value}{gen:List Int}{t u v:jg}{rest:List (la×Sa)}
  (x:SX w env ((("i":xa),P.int 0)::σ) s₀ B ((a,oa)::(C,oC)::(I,oI)::(Ii,H)::(R,EW 0 gen.length 1 t u v)::(It,G)::(M2,Po V)::(M1,Po Y)::(V,Wa [] 0)::(Y,Wa [] 0)::rest) s) (jH:∀b∈ex,∃o,s.heap.get? b=some o)
  (h1:σ.lookup ("ec_info":xa)=some (.addr ec)) (h2:σ.lookup ("codewords":xa)=some (.addr a)) (h3:σ.lookup ("append_data_block":xa)=some (.addr M1)) (h4:σ.lookup ("append_error_block":xa)=some (.addr M2)) (h5:σ.lookup ("gen_log":xa)=some (.addr 1888)) (h6:σ.lookup ("gen_exp":xa)=some (.addr 1890))
  (h7:σ.lookup ("gen":xa)=some (.addr gt)) (h8:σ.lookup ("num_error_words":xa)=some (.int gen.length)) (h9:σ.lookup ("range_error_words":xa)=some (.addr R))
  (m:∀y∈([qa "i",qa "k",qa "n",qa "coef",qa "lcoef",qa "block",qa "len_data",qa "error_block"]:List xa),σ.lookup y=none)
  (he:s.heap.get? ec=some (Nl ed 1 ib room ta tb tc)) (hed:s.heap.get? ed=some (Ga [] 0))
  (hg:Dl w A.in1 a gi C I ex n (Ey f) 0 s) (hn:room<=n) (hr:room<=200) (hf:∀i,i < room->0<=f i/\f i < 256)
  (b1:B 1890 (Vl w)) (b3:B 1888 (jo w)) (b2:B gt (Bf gvs gn)) (hgi:IntsAre gvs gen) (hgl:gen.length<=255) (hgb:∀g∈gen,0<=g/\g < 255) {Q:Af->aa->Prop}
  (hQ:∀bk T s',We gi s.gens s'.gens->SX w env σ {s₀ with gens:=s'.gens} B ((Ii,H)::(It,G)::(V,Wa [.ref T] 1)::(Y,Wa [.ref bk] 1)::(bk,qb (Ia ((Qa room).map f))) ::
   (T,qb (Ia ((Ti gen gen.length room ((Qa room).map f++Ha gen.length 0)).drop room)))::rest) s'->Q .next s'):
  mc (ka PP w) A (Kc Ci env) Q s:=by
 have z:((Qa room).map f).length=room:=by rw[Yb,yc]
 generalize c:(Qa room).map f=data at z hQ
 have hby:Bh data:=λv hv=>by
  rw[<- c] at hv
  obtain ⟨i,hi,rfl⟩:=List.mem_map.mp hv
  exact hf i (List.mem_range.mp hi)
 rw[EZ]
 have li:σ.lookup ("i":xa)=none:=m _ (za ..)
 have up:∀{y:xa} {p:P},σ.lookup y=some p->((("i":xa),P.int 0)::σ).lookup y=some p:=λe=>Zh e li
 refine La (LK g (x.fk F) h x jH (up h1) (up h2) he hed hg hn hr hf λbk s1 g1 E=>⟨rfl,?_⟩)
 rw[c] at E
 generalize r:({s₀ with gens:=s1.gens}:aa)=k at E
 have F1:Fk w k.heap:=r▸F
 have up1:∀{y:xa} {p q:P},σ.lookup y=some p->((("block":xa),q)::(("i":xa),P.int 0)::σ).lookup y=some p:=λe=>Zh (up e) (Tb (m _ (by decide)) (by decide))
 refine La ?_
 rw[CZ]
 refine Xw (i:=7) (j:=5) (M:=M1) (D:=Y) (g.mono (Zb _)) F1 E (up1 h3) (by decide) hi (by kernel_rfl) (by kernel_rfl) ?_
 refine E.Gp ag (by decide) ⟨bk,_,rfl,E,rfl,rfl,λs2 x2=>⟨rfl,?_⟩⟩
 refine La (CT (i:=0) (ns:=data) h x2 ag rfl (by lia) λs3 x3=>⟨rfl,?_⟩)
 rw[z] at x3
 refine La (NO (i:=0) (ns:=data) (g.mono (Zb _)) h x3 (Mc ag (by decide)) rfl (by lia) λeb s4 x4=>⟨rfl,?_⟩)
 have sN:∀{y:xa} {p q q1 q2:P},σ.lookup y=some p->((("error_block":xa),q)::(("len_data":xa),q1)::(("block":xa),q2)::(("i":xa),P.int 0)::σ).lookup y=some p:=
  λe=>Zh (Zh (up1 e) (Tb (Tb (m _ (by decide)) (by decide)) (by decide))) (Tb (Tb (Tb (m _ (by decide)) (by decide)) (by decide)) (by decide))
 have d:∀{y:xa} {q q1 q2:P},y∈([qa "k",qa "n",qa "coef",qa "lcoef"]:List xa)->((("error_block":xa),q)::(("len_data":xa),q1)::(("block":xa),q2)::(("i":xa),P.int 0)::σ).lookup y=none:=by
  exact λJ=>Tb (Tb (Tb (Tb (m _ (LO rfl J)) (jC rfl J)) (jC rfl J)) (jC rfl J)) (jC rfl J)
 refine La (KG (i:=0) (ns:=data) (g.mono (Zb _)) x4 ag (sN h8) hgl hi F1 rfl (by lia) λs5 x5=>⟨rfl,?_⟩)
 have O:Bh (data++Ha gen.length 0):=hby.append λv hv=>by rw[(List.mem_replicate.mp hv).2];decide
 have R2:(data++Ha gen.length (0:Int)).length=room+gen.length:=by rw[Ya,Pd,z]
 refine La (IK (i:=0) (ns:=data++Ha gen.length 0) (room:=room) (gen:=gen) (R:=R) (t:=t) (u:=u) (v:=v) (g.mono (Zb _)) h x5 rfl O (by lia) (Mc ag (by decide)) ?_ (sN h9) (d (by decide)) (d (by decide)) (d (by decide)) (d (by decide)) ag (sN h6) (sN h5) (sN h7) b1 b3 b2 hgi hgl hgb (by rw[R2]) λs6 x6=>⟨rfl,?_⟩)
 ·first|exact mg 0 rfl|exact mg 1 rfl|exact mg 2 rfl|exact mg 3 rfl|exact mg 4 rfl|exact mg 5 rfl|exact mg 6 rfl|exact mg 7 rfl|exact mg 8 rfl
 refine La (MO (l:=0) (i:=7) (j:=5) (M:=M2) (D:=V) (ns:=Ti gen gen.length room (data++Ha gen.length 0)) (room:=room) (g.mono (Zb _)) F1 hi x6 ag (Mc ag (by decide)) (sN h4) rfl rfl rfl (by rw[ak];lia) (by rw[ak];lia) λT s7 x7=>⟨rfl,te ?_⟩)
 have L:s7.gens=s1.gens:=by
  obtain ⟨_,_,e⟩:=x7.st.sh
  rw[e,<- r]
 refine hQ bk T s7 (by rw[L];exact g1) ?_
 have e0:({s₀ with gens:=s7.gens}:aa)=k:=by rw[L,r]
 rw[e0]
 have x8:=(((x7.tail (Tb (Tb (Tb (m _ (by decide)) (by decide)) (by decide)) (by decide))).tail (Tb (Tb (m _ (by decide)) (by decide)) (by decide))).tail (Tb (m _ (by decide)) (by decide))).tail li
 have x9:=(((x8.drop 1).drop 3).drop 4).drop 4
 exact((((x9.front 1 rfl).front 5 rfl).front 5 rfl).front 5 rfl).front 5 rfl
end
set_option tactic.hygienic false
theorem JZ:ro=[ma ro 0,ma ro 1,ma ro 2,ma ro 3]:=by kernel_rfl
theorem IZ:ma ro 0=.Assign [.Name "num_error_words" (aT (ma ro 0)).pos] (.BinOp (.Attribute (.Name "ec_info" (ch (ch (aV (ma ro 0)) 0) 0).pos) "num_total" (ch (aV (ma ro 0)) 0).pos) .Sub (.Attribute (.Name "ec_info" (ch (ch (aV (ma ro 0)) 1) 0).pos) "num_data" (ch (aV (ma ro 0)) 1).pos) (aV (ma ro 0)).pos) (aP (ma ro 0)):=by kernel_rfl
theorem HZ:ma ro 1=.Assign [.Name "gen" (aT (ma ro 1)).pos] (.Subscript (.Name "GEN_POLY" (ch (aV (ma ro 1)) 0).pos) (.Name "num_error_words" (ch (aV (ma ro 1)) 1).pos) (aV (ma ro 1)).pos) (aP (ma ro 1)):=by kernel_rfl
theorem GZ:ma ro 2=.Assign [.Name "range_error_words" (aT (ma ro 2)).pos] (.Call (.Name "range" (ch (aV (ma ro 2)) 0).pos) [.Name "num_error_words" (ch (aV (ma ro 2)) 1).pos] [] (aV (ma ro 2)).pos) (aP (ma ro 2)):=by kernel_rfl
theorem FZ:ma ro 3=.For (.Name "i" (aT (ma ro 3)).pos) (.Call (.Name "range" (ch (aV (ma ro 3)) 0).pos) [.Attribute (.Name "ec_info" (ch (ch (aV (ma ro 3)) 1) 0).pos) "num_blocks" (ch (aV (ma ro 3)) 1).pos] [] (aV (ma ro 3)).pos) Ci [] (aP (ma ro 3)):=by kernel_rfl
theorem Yz(g:Sa)(w:ja):([qa "GALIOS_LOG",qa "GALIOS_EXP",qa "GEN_POLY",qa "ECC",qa "make_blocks",qa "make_final_message",qa "Buffer",qa "_law_LAYOUTS"]:List xa).map (λy=>Hi (Qp g w) y)=
  [some (.ref 1888),some (.ref 1890),some (.ref 1868),some (.ref 139),some (.ref 1900),some (.ref 1895),some (.ref 1963),some (.ref 1973)]:=by kernel_rfl
theorem Yq{i:Nat}{y:xa}{v:Value}(w:ja)(h:([qa "GALIOS_LOG",qa "GALIOS_EXP",qa "GEN_POLY",qa "ECC",qa "make_blocks",qa "make_final_message",qa "Buffer",qa "_law_LAYOUTS"]:List xa)[i]?=some y)
  (h':([some (.ref 1888),some (.ref 1890),some (.ref 1868),some (.ref 139),some (.ref 1900),some (.ref 1895),some (.ref 1963),some (.ref 1973)]:List (Option Value))[i]?=some (some v)):(GW w).mg y=some v:=by
 have e:=Yz (((Tc w).t.get 0).getD Ln) w
 rw[<- e,Ig,h] at h'
 exact(Wr w y).trans (va h')
noncomputable def xk(o:Sa):List Ta:=match o.data with
 |.dict es ..=>es.toList
 |_=>[]
noncomputable def NW(w:ja):List Ta:=xk (ly w)
theorem XU(w:ja):ly w=Ga (NW w) 18:=by kernel_rfl
theorem G3(w:ja):((NW w).all λe=>match e.key with|.int i _=>e.hash==MI i|_=>false)=true:=by kernel_rfl
section
variable{w:ja}{A:ua}{N:Nat}{env:Be}{σ:List (xa×P)}{s₀ s s':aa}{B:la->Sa->Prop}{L:List (la×Sa)}
theorem YU{v:Int}{t:jg}{r:Value}{Q:Value->aa->Prop}(F:Fk w s.heap)(hv:iu Cg (NW w).toArray v=some r)(h:Q r {s with toks:=s.toks+1}):wpAny (ka PP w) A (Fh (.ref 1868) (.int v t)) Q Jc s:=by
 have a:=F.uf 0 rfl rfl
 have a:s.heap.get? 1868=some (ly w):=a
 rw[XU w] at a
 exact ph a (G3 w) hv h
theorem SX.same{a:Be}{c:List (xa×P)}{g:la->Sa->Prop}{f:List (la×Sa)}(x:SX w env σ s₀ B L s)(d:SX w a c s₀ g f s'){b:la}(hb:(∃o,s₀.heap.get? b=some o)\/∃o,(b,o)∈L/\(b,o)∈f)(o:Sa)(e:s.heap.get? b=some o):
  s'.heap.get? b=some o:=by
 exact hb.elim (λq=>q.elim λo' h=>va ((x.kp.get h).symm.trans e)▸d.kp.get h) λq=>q.elim λo' h=>va ((x.st.ks b o' (.inr h.1)).symm.trans e)▸d.st.ks b o' (.inr h.2)
theorem qx{B:ua}{a g:Nat}{C I:la}{ex:List la}{n:Nat}{Fv:Nat->Value->Prop}(x:Dl w B a g C I ex n Fv 0 s)(hg:s'.gens=s.gens)(c:∀b∈a::C::I::(Nf++ex),∀o,s.heap.get? b=some o->s'.heap.get? b=some o):Dl w B a g C I ex n Fv 0 s':=
 {x with gen:=Rh x.gen (ya _ (Oe _ ay)) hg c}
theorem SX.gens(x:SX w env σ s₀ B L s):s.gens=s₀.gens:=x.st.sh.elim λZ q=>q.elim λZ e=>by rw[e]
set_option tactic.hygienic true
theorem OO(g:GK (N+9) A)(F:Fk w s₀.heap)(O:env.scope=(fdOf (Vg w)).scope)(hi:qe env=false){a C I ec ed gt It M1 M2 D1 D2:la}{gi room total n gn:Nat}{ex:List la}{f:Nat->Int}{oa oC oI L:Sa}{ta tb tc:Nat}{gvs:List Value}{gen:List Int}{rest:List (la×Sa)}
  (x:SX w env ((("ec_info":xa),P.addr ec)::σ) s₀ B ((It,L)::(M2,Po D2)::(M1,Po D1)::(D2,Wa [] 0)::(D1,Wa [] 0)::(a,oa)::(C,oC)::(I,oI)::rest) s) (jH:∀b∈ex,(∃o,s₀.heap.get? b=some o)\/∃o,(b,o)∈rest)
  (h2:σ.lookup ("codewords":xa)=some (.addr a)) (h3:σ.lookup ("append_data_block":xa)=some (.addr M1)) (h4:σ.lookup ("append_error_block":xa)=some (.addr M2)) (h5:σ.lookup ("gen_log":xa)=some (.addr 1888)) (h6:σ.lookup ("gen_exp":xa)=some (.addr 1890))
  (j:∀y∈([qa "i",qa "k",qa "n",qa "coef",qa "lcoef",qa "block",qa "len_data",qa "error_block",qa "ec_info",qa "num_error_words",qa "gen",qa "range_error_words"]:List xa),σ.lookup y=none)
  (he:s₀.heap.get? ec=some (Nl ed 1 total room ta tb tc)) (hed:s₀.heap.get? ed=some (Ga [] 0)) (hgp:iu Cg (NW w).toArray ((total:Int)-room)=some (.ref gt))
  (hg:Dl w A.in1 a gi C I ex n (Ey f) 0 s) (hn:room<=n) (hr:room<=200) (hf:∀i,i < room->0<=f i/\f i < 256)
  (b1:B 1890 (Vl w)) (b3:B 1888 (jo w)) (b2:B gt (Bf gvs gn)) (hgi:IntsAre gvs gen) (hgl:gen.length<=255) (hgt:room+gen.length=total) (hgb:∀g∈gen,0<=g/\g < 255) {Q:Af->aa->Prop}
  (hQ:∀bk ck s',We gi s.gens s'.gens->SX w env ((("ec_info":xa),P.addr ec)::σ) {s₀ with gens:=s'.gens} B ((It,L)::(D2,Wa [.ref ck] 1)::(D1,Wa [.ref bk] 1)::(bk,qb (Ia ((Qa room).map f))) ::
   (ck,qb (Ia ((Ti gen gen.length room ((Qa room).map f++Ha gen.length 0)).drop room)))::rest) s'->Q .next s'):
  mc (ka PP w) A (Kc ro env) Q s:=by
 have t:∀x,env.kindOf x=(fdOf (Vg w)).scope.names.lookup x:=λx=>by unfold bc;rw[O]
 rw[JZ]
 refine La (Fb ?_)
 rw[IZ]
 refine PySem.wpAny_Assign_Name (Mf (gf (x.Gp ag (by decide) (oM (N:=N) (g.ga.mono (by lia)) (x.fk F) (x.kp.get he) (x.kp.get hed) λs1 t1 k1=>?_)))) (by kernel_rfl)
 have G:=x.step k1
 refine gf (G.Gp ag (by decide) (RF (N:=N) (g.ga.mono (by lia)) (G.fk F) (G.kp.get he) (G.kp.get hed) λs2 t2 k2=>?_))
 have x2:=G.step k2
 refine Bm ?_
 have e1:((total:Int)-room)=(gen.length:Int):=by lia
 rw[e1] at hgp ⊢
 refine(x2.step (.tok _)).bind (p:=.int gen.length) (.inl ((t _).trans (by kernel_rfl))) ⟨_,rfl⟩ nofun λs3 D=>⟨rfl,?_⟩
 refine La (Fb ?_)
 rw[HZ]
 refine PySem.wpAny_Assign_Name (Hh (sg D.st.re ((t _).trans (by kernel_rfl)) (Yq (i:=2) w rfl rfl) (by decide) (D.iC ag (by decide) λt3=>?_))) (by kernel_rfl)
 have hT:s3.TypeIs (.ref 1868) "dict":=⟨_,(D.fk F).uf 0 rfl rfl,rfl⟩
 refine tail_any hT slot_dict_getitem.lookup (YU (D.fk F) hgp ?_) (Xf λ_ _ _ _ q=>nomatch q)
 refine(D.step (.tok _)).bind (p:=.addr gt) (.inl ((t _).trans (by kernel_rfl))) rfl nofun λh x4=>⟨rfl,?_⟩
 refine La (Fb ?_)
 rw[GZ]
 refine PySem.wpAny_Assign_Name ?_ (by kernel_rfl)
 refine Yc ⟨_,_,rfl⟩ (name_buil x4.st.re ((t _).trans (by kernel_rfl)) (ke w (.tail _ (.head _))) (v:=.type "range") (by kernel_rfl) (by decide) (by decide) ?_)
 refine md (xs:=[eval (.Name _ _) env]) (show 1<=30 by decide) ?_
 refine x4.iC (Mc ag (by decide)) (by decide) λt4=>?_
 refine Aa (a:=Xa) rfl ?_
 refine uk ?_
 have x5:SX w env _ s₀ B ((h.heap.objs.size,EW 0 gen.length 1 h.toks t4 (h.toks+1))::_) {h with heap:=h.heap.push (EW 0 gen.length 1 h.toks t4 (h.toks+1)),toks:=h.toks+1+1}:=x4.new Qb ⟨_,_,rfl,λ_ _ e=>fa _ e⟩ (ra _ rfl)
 refine x5.bind (p:=.addr h.heap.objs.size) (.inl ((t _).trans (by kernel_rfl))) rfl nofun λs6 u=>⟨rfl,?_⟩
 refine La ?_
 rw[FZ]
 refine xp (λ_=>rfl) ?_
 refine Yc ⟨_,_,rfl⟩ (name_buil u.st.re ((t _).trans (by kernel_rfl)) (ke w (.tail _ (.head _))) (v:=.type "range") (by kernel_rfl) (by decide) (by decide) ?_)
 refine md (xs:=[eval (.Attribute _ _ _) env]) (show 1<=30 by decide) ?_
 refine gf (u.Gp (Mc (Mc (Mc ag (by decide)) (by decide)) (by decide)) (by decide) (HH (N:=N) (g.ga.mono (by lia)) (u.fk F) (u.kp.get he) (u.kp.get hed) λr t7 k7=>?_))
 have x7:=u.step k7
 refine Aa (a:=Xa) rfl ?_
 refine uk ?_
 generalize T:({r with heap:=r.heap.push _,toks:=r.toks+1+1}:aa)=H
 have k8:Kp r H:=T▸⟨_,_,rfl,λ_ _ e=>fa _ e⟩
 have hr8:dm H.heap r.heap.objs.size 0 (1:Nat) 1 r.toks t7 (r.toks+1):=T▸ra _ rfl
 have x8:=x7.step k8
 refine Ag hr8 (Nh (by decide) (by unfold Sm;lia) (by unfold Sm;lia) (by unfold Sm;lia)).1 ?_
 rw[uY]
 have x9:=x8.new (a:=H.heap.objs.size) (o:=Al 0 1 1) (s':={H with heap:=H.heap.push (Al 0 1 1)}) Qb (.push _) (ra _ rfl)
 refine QA g.ga.hd (.inl ((t _).trans (by kernel_rfl))) x9 λJ c=>?_
 have k:=((c.front 9 rfl).front 9 rfl).front 9 rfl
 have dp:∀{b:la} {o:Sa} {l m:List (la×Sa)},(b,o)∈m->(b,o)∈l++m:=λe=>jc _ e
 have Y:∀b∈ex,∃o,J.heap.get? b=some o:=λb hb=>(jH b hb).elim (Mi λo e=>c.kp.get e) (Mi λo e=>c.st.ks b o (.inr (dp (l:=[_,_,_,_,_,_,_,_,_,_]) e)))
 have V:Dl w A.in1 a gi C I ex n (Ey f) 0 J:=by
  have m:=λz hz o e=>x.same c (b:=z) (hz:(∃o,s₀.heap.get? z=some o)\/_) o e
  exact qx hg (c.gens.trans x.gens.symm) (Dc (m _ (.inr ⟨oa,mg 5 rfl,mg 7 rfl⟩)) (Dc (m _ (.inr ⟨oC,mg 6 rfl,mg 8 rfl⟩)) (Dc (m _ (.inr ⟨oI,mg 7 rfl,mg 9 rfl⟩)) (Q4 (λz hz=>m z (.inl (ei F z hz)))
   λz hz=>m z ((jH z hz).imp_right (Mi λo e=>⟨dp (l:=[_,_,_,_,_,_,_,_]) e,dp (l:=[_,_,_,_,_,_,_,_,_,_]) e⟩))))))
 have upE:∀{y:xa} {p:P},σ.lookup y=some p->((("ec_info":xa),P.addr ec)::σ).lookup y=some p:=λe=>Zh e (j _ (by decide))
 have upN:∀{y:xa} {p q:P},σ.lookup y=some p->((("num_error_words":xa),q)::(("ec_info":xa),P.addr ec)::σ).lookup y=some p:=λe=>Zh (upE e) (Tb (j _ (by decide)) (by decide))
 have upG:∀{y:xa} {p q q1:P},σ.lookup y=some p->((("gen":xa),q1)::(("num_error_words":xa),q)::(("ec_info":xa),P.addr ec)::σ).lookup y=some p:=λe=>Zh (upN e) (Tb (Tb (j _ (by decide)) (by decide)) (by decide))
 have d:∀{y:xa} {p q q1 q2:P},σ.lookup y=some p->((("range_error_words":xa),q2)::(("gen":xa),q1)::(("num_error_words":xa),q)::(("ec_info":xa),P.addr ec)::σ).lookup y=some p:=λe=>Zh (upG e) (Tb (Tb (Tb (j _ (by decide)) (by decide)) (by decide)) (by decide))
 refine JK (gi:=gi) (n:=n) (ex:=ex) (f:=f) (room:=room) (gen:=gen) (ta:=ta) (tb:=tb) (tc:=tc) (ib:=total) g F O hi k Y (Mc (Mc (Mc ag (by decide)) (by decide)) (by decide)) (d h2) (d h3) (d h4) (d h5) (d h6) (Mc ag (by decide)) (Mc (Mc ag (by decide)) (by decide)) ag ?_ (k.kp.get he) (k.kp.get hed) V hn hr hf b1 b3 b2 hgi hgl hgb λbk ck DW g12 E=>⟨rfl,E.get 0 rfl,λh' P8=>⟨_,rfl,rfl,te ?_⟩⟩
 ·exact λy M=>Tb (Tb (Tb (Tb (j y (Oe [_,_,_,_] M)) (jC rfl M)) (jC rfl M)) (jC rfl M)) (jC rfl M)
 have I6:=E.qU (h':=h') (tk:=DW.toks) P8
 have uX:=((I6.tail (Tb (Tb (Tb (j _ (by decide)) (by decide)) (by decide)) (by decide))).tail (Tb (Tb (j _ (by decide)) (by decide)) (by decide))).tail (Tb (j _ (by decide)) (by decide))
 refine hQ bk ck _ ?_ uX
 exact c.gens.trans x.gens.symm▸g12
end
set_option tactic.hygienic false
theorem SA(w:ja):Fn (Vg w) (vK w) 1899 Ph:=⟨by kernel_rfl,by kernel_rfl,by kernel_rfl,by kernel_rfl,by kernel_rfl,by kernel_rfl⟩
theorem JB{w:ja}{s:aa}(a b:Value):Sf s (fdOf (Vg w)) ⟨[a,b],[]⟩ [("ec_infos",a),("buff",b)]:=th (by kernel_rfl)
theorem XZ:Ph=[ma Ph 0,ma Ph 1,ma Ph 2,ma Ph 3,ma Ph 4,ma Ph 5,ma Ph 6,ma Ph 7,ma Ph 8]:=by kernel_rfl
theorem WZ:ma Ph 0=.Expr (.Constant (.str (OV (ma Ph 0))) 0 (aV (ma Ph 0)).pos) (aP (ma Ph 0)):=by kernel_rfl
theorem VZ:ma Ph 1=.Assign [.Name "codewords" (aT (ma Ph 1)).pos] (.Call (.Attribute (.Name "buff" (ch (ch (aV (ma Ph 1)) 0) 0).pos) "toints" (ch (aV (ma Ph 1)) 0).pos) [] [] (aV (ma Ph 1)).pos) (aP (ma Ph 1)):=by kernel_rfl
theorem UZ:ma Ph 2=.Assign [.Tuple [.Name "data_blocks" (ch (aT (ma Ph 2)) 0).pos,.Name "error_blocks" (ch (aT (ma Ph 2)) 1).pos] 0 (aT (ma Ph 2)).pos] (.Tuple [.List [] (ch (aV (ma Ph 2)) 0).pos,.List [] (ch (aV (ma Ph 2)) 1).pos] 0 (aV (ma Ph 2)).pos) (aP (ma Ph 2)):=by kernel_rfl
theorem TZ:ma Ph 3=.Assign [.Name "append_data_block" (aT (ma Ph 3)).pos] (.Attribute (.Name "data_blocks" (ch (aV (ma Ph 3)) 0).pos) "append" (aV (ma Ph 3)).pos) (aP (ma Ph 3)):=by kernel_rfl
theorem RZ:ma Ph 4=.Assign [.Name "append_error_block" (aT (ma Ph 4)).pos] (.Attribute (.Name "error_blocks" (ch (aV (ma Ph 4)) 0).pos) "append" (aV (ma Ph 4)).pos) (aP (ma Ph 4)):=by kernel_rfl
theorem QZ:ma Ph 5=.Assign [.Name "gen_log" (aT (ma Ph 5)).pos] (.Name "GALIOS_LOG" (aV (ma Ph 5)).pos) (aP (ma Ph 5)):=by kernel_rfl
theorem PZ:ma Ph 6=.Assign [.Name "gen_exp" (aT (ma Ph 6)).pos] (.Name "GALIOS_EXP" (aV (ma Ph 6)).pos) (aP (ma Ph 6)):=by kernel_rfl
theorem OZ:ma Ph 7=.For (.Name "ec_info" (aT (ma Ph 7)).pos) (.Name "ec_infos" (aV (ma Ph 7)).pos) ro [] (aP (ma Ph 7)):=by kernel_rfl
theorem NZ:ma Ph 8=.Return (some (.Tuple [.Name "data_blocks" (ch (aV (ma Ph 8)) 0).pos,.Name "error_blocks" (ch (aV (ma Ph 8)) 1).pos] 0 (aV (ma Ph 8)).pos)) (aP (ma Ph 8)):=by kernel_rfl
theorem zT(w:ja)(n a:Nat):swappedStores [.Tuple [.Name "data_blocks" (ch (aT (ma Ph 2)) 0).pos,.Name "error_blocks" (ch (aT (ma Ph 2)) 1).pos] 0 (aT (ma Ph 2)).pos] (.Tuple [.List [] (ch (aV (ma Ph 2)) 0).pos,.List [] (ch (aV (ma Ph 2)) 1).pos] 0 (aV (ma Ph 2)).pos) (ef (fdOf (Vg w)) n a)=
 pure (some [qa "data_blocks",qa "error_blocks"]):=by kernel_rfl
theorem yT(w:ja)(n a:Nat):swapsWithSole [.Tuple [.Name "data_blocks" (ch (aT (ma Ph 2)) 0).pos,.Name "error_blocks" (ch (aT (ma Ph 2)) 1).pos] 0 (aT (ma Ph 2)).pos] (.Tuple [.List [] (ch (aV (ma Ph 2)) 0).pos,.List [] (ch (aV (ma Ph 2)) 1).pos] 0 (aV (ma Ph 2)).pos) (aP (ma Ph 2)).line (ef (fdOf (Vg w)) n a)=
 pure false:=by kernel_rfl
section
variable{w:ja}{A:ua}{N:Nat}{env:Be}{σ:List (xa×P)}{s₀ s s':aa}{B:la->Sa->Prop}{L:List (la×Sa)}
theorem Nj{a:la}{o:Sa}{fd:yl}(h:s.heap.get? a=some o)(hd:o.data=.func fd){Q:Keeper->aa->Prop}(b:Q zQ s):wpAny (ka PP w) A (Xh (.ref a)) Q Jc s:=by
 refine Ua (Gi h ?_)
 refine Aa (a:=zQ) ?_ b
 rw[hd]
theorem SX.yk(x:SX w env σ s₀ B L s){a:la}{o:Sa}(ap:Ap env a)(nb:∀o,¬B a o)(nl:∀e∈L,e.1≠a)(h:s.heap.get? a=some o):SX w env σ s₀ B ((a,o)::L) s:=by
 exact{st:=x.st.add x.nl ap h,nl:=x.nl,h0:=x.h0,ap:=List.forall_mem_cons.mpr ⟨ap,x.ap⟩,nb:=List.forall_mem_cons.mpr ⟨nb,x.nb⟩,nd:=by rw[vb];exact List.nodup_cons.mpr ⟨λq=>(List.mem_map.mp q).elim λe z=>nl e z.1 z.2,x.nd⟩}
theorem Fk.off{h:Na}(F:Fk w h){a:la}(d:a∉Nf):Fk w (Kn h a):=F.oF λb hb o e=>by
 have c:b≠a:=λq=>d (q▸hb)
 rw[Tq c];exact e
theorem SX.start{K:la->Sa->Prop}(x:St (GW w) env [] σ (λZ=>0) s₀ K s)(a:Ek σ=true):SX w env σ s₀ K [] s:=
 {st:=x.weak (λb o q=>q.elim id λq=>(nomatch q)) λb o e=>.inl (x.k0 b o e),nl:=a,h0:=x.k0,ap:=λZ q=>(nomatch q),nb:=λZ q=>(nomatch q),nd:=.nil}
set_option tactic.hygienic true
theorem FK(z:A.handled=none)(f:env.scope=(fdOf (Vg w)).scope){d g:Nat}(he:env=ef (fdOf (Vg w)) d g)(x:SX w env σ s₀ B L s){Q:Af->aa->Prop}
  (C:∀l k s',SX w env ((("data_blocks":xa),P.addr l)::(("error_blocks":xa),P.addr k)::σ) s₀ B ((k,Wa [] 0)::(l,Wa [] 0)::L) s'->Q .next s'):wpAny (ka PP w) A (ig (ma Ph 2) env) Q Jc s:=by
 have j:∀x,env.kindOf x=(fdOf (Vg w)).scope.names.lookup x:=λx=>by unfold bc;rw[f]
 rw[UZ]
 refine Assign_Tuple_swapped (names:=["data_blocks","error_blocks"]) ?_ (he▸yT w d g) (he▸zT w d g)
 refine Wi (Se (xs:=[eval (.List [] _) env,eval (.List [] _) env]) ?_)
 refine fq (Se (xs:=[]) ?_)
 refine⟨Zb _,?_⟩
 have i:=x.new (a:=s.heap.objs.size) (o:=Wa [] 0) (s':={s with heap:=s.heap.push (Wa [] 0)}) Qb (.push _) (ra _ rfl)
 generalize v:({s with heap:=s.heap.push (Wa [] 0)}:aa)=s1 at i
 refine fq (Se (xs:=[]) ?_)
 refine⟨Zb _,?_⟩
 have h:=i.new (a:=s1.heap.objs.size) (o:=Wa [] 0) (s':={s1 with heap:=s1.heap.push (Wa [] 0)}) Qb (.push _) (ra _ rfl)
 generalize u:({s1 with heap:=s1.heap.push (Wa [] 0)}:aa)=s2 at h
 refine⟨(show 2<=Kb by decide),?_⟩
 have ht:({s2 with heap:=s2.heap.push (Bf [.ref s.heap.objs.size,.ref s1.heap.objs.size] 0)}:aa).heap.IsTuple s2.heap.objs.size #[.ref s.heap.objs.size,.ref s1.heap.objs.size]:=⟨_,ra _ rfl,rfl,_,rfl⟩
 have c:([qa "data_blocks",qa "error_blocks"]:List xa).length=(#[ri s.heap.objs.size,ri s1.heap.objs.size]:Array Value).size:=rfl
 rw[c]
 refine wpAny_unpackItems_tuple z ht λh' he=>?_
 have t:Kp s2 {s2 with heap:=h'}:=⟨h',_,rfl,λb o e=>he b o (Va (by show b < (s2.heap.push _).objs.size;rw[Ec];exact ye (Ba e))) (fa _ e)⟩
 have q:=h.step t
 show wpAny _ _ (assignInOrder [bindName env (qa "error_blocks"),bindName env (qa "data_blocks")] [.ref s1.heap.objs.size,.ref s.heap.objs.size]) _ _ _
 refine Oc (Em (q.bind (y:=qa "error_blocks") (p:=.addr s1.heap.objs.size) (.inl ((j _).trans (by kernel_rfl))) rfl nofun λD n=>?_))
 refine Oc (Em (n.bind (y:=qa "data_blocks") (p:=.addr s.heap.objs.size) (.inl ((j _).trans (by kernel_rfl))) rfl nofun λr m=>?_))
 exact mj (C _ _ r m)
end
set_option tactic.hygienic false
theorem Wz:∀(ns:List Int) (a:Int),ql ns->0<=a->0<=ns.foldl (λa b=>2*a+b) a/\ns.foldl (λa b=>2*a+b) a < (a+1)*2 ^ ns.length
 |[],a,_,h=>by simp;lia
 |n::ns,a,hb,h=>by
  have d:=hb n (za ..)
  have c:=Wz ns (2*a+n) (λm hm=>hb m (ya _ hm)) (by rcases d with rfl|rfl <;> lia)
  rw[Si,fg,Int.pow_succ]
  refine⟨c.1,Kr c.2 ?_⟩
  have hp:(0:Int)<=2 ^ ns.length:=Ct (p5 (by decide))
  have e:2*a+n+1<=(a+1)*2:=by rcases d with rfl|rfl <;> lia
  calc (2*a+n+1)*2 ^ ns.length<=((a+1)*2)*2 ^ ns.length:=Int.mul_le_mul_of_nonneg_right e hp
   _=(a+1)*(2 ^ ns.length*2):=by rw[Int.mul_assoc,Int.mul_comm 2 (2 ^ ns.length)]
theorem Rw{ns:List Int}(h:ql ns)(a:ns.length=8):0<=rj ns/\rj ns < 256:=by
 have:=Wz ns 0 h (q5 _)
 rw[a] at this
 exact this
section
variable{w:ja}{A:ua}{N:Nat}{env:Be}{σ:List (xa×P)}{s₀ s s':aa}{B:la->Sa->Prop}{L:List (la×Sa)}
noncomputable def Gg(gen:List Int)(data:List Int):List Int:=(Ti gen gen.length data.length (data++Ha gen.length 0)).drop data.length
theorem pB(g:GK (N+14) A)(F:Fk w s.heap){b dd d t ec ed gt:la}{bs:List Int}{ps:Array Value}{ot:Sa}{m room total gn ta tb tc:Nat}{gvs:List Value}{gen:List Int}
  (hb:s.heap.get? b=some (Ld dd d)) (pC:s.heap.get? dd=some mf) (hd:nh s.heap d bs) (hB:ql bs) (hz:bs.length<=2 ^ 11) (hH:Yd s.heap 1944 1940 ps)
  (ht:s.heap.get? t=some ot) (hot:ot.cls=.type "tuple"/\ot.data=.seq #[.ref ec] m) (tn:t≠1940) (he:s.heap.get? ec=some (Nl ed 1 total room ta tb tc)) (en:ec≠1940) (hed:s.heap.get? ed=some (Ga [] 0)) (edn:ed≠1940)
  (hgp:iu Cg (NW w).toArray ((total:Int)-room)=some (.ref gt)) (hgt:s.heap.get? gt=some (Bf gvs gn)) (gtn:gt≠1940) (hgi:IntsAre gvs gen) (hgl:room+gen.length=total) (hgb:∀g∈gen,0<=g/\g < 255) (hn:room<=(bs.length+7) / 8) (hr:total<=200)
  {Q:Value->aa->Prop}
  (hQ:∀T D1 D2 bk ck h' tk gs' j7,fN 1940 s h'->Yd h' 1944 1940 j7->((∀y∈s.gens,y.bare=true)->∀y∈gs',y.bare=true)->h'.get? T=some (Bf [.ref D1,.ref D2] 0)->h'.get? D1=some (Wa [.ref bk] 1)->h'.get? D2=some (Wa [.ref ck] 1)->
   nh h' bk ((Qa room).map λi=>rj (Xk bs (8*i)))->nh h' ck (Gg gen ((Qa room).map λi=>rj (Xk bs (8*i))))->(∀x∈[T,D1,D2,bk,ck],s.heap.get? x=none)->([T,D1,D2,bk,ck]:List la).Nodup->
   Q (.ref T) {s with heap:=h',toks:=tk,gens:=gs'}):
  mc (ka PP w) A (call (.ref 1900) [.ref t,.ref b]) Q s:=by
 have F0:Fk w (Kn s.heap 1940):=F.off (by decide)
 have hP:=hH.tab
 have n40:∀{x:la} {o:Sa},s.heap.get? x=some o->(∀vs,o.data≠.fields vs)->x≠1940:=λe hn=>gp hP e hn
 refine wm (N:=N+12) (G:=GW w) (rd:=[]) (σ:=[("ec_infos",.addr t),("buff",.addr b)]) (adr:=λZ=>0) (s₀:={s with heap:=Kn s.heap 1940}) (K:=λx o=>(Kn s.heap 1940).get? x=some o) (SA w)
  (g.mono (by lia)) (F.uf 21 rfl rfl) (F.uf 35 rfl rfl) (JB _ _) (by kernel_rfl) (by kernel_rfl) ⟨s.heap,s.toks,rfl⟩ (cf F0) (λZ Z e=>e) (λZ Z e=>fo e) ⟨⟨rfl,rfl,nofun⟩,⟨rfl,rfl,nofun⟩,trivial⟩ (λx y ns ms Z e=>(Df rfl e).elim) λY env W2 v rX UG=>?_
 have KC:=SX.start rX rfl
 have EI:env.scope=(fdOf (Vg w)).scope:=by subst W2;rfl
 have hi:qe env=false:=by subst W2;kernel_rfl
 have PU:env.locals=s.heap.objs.size:=by subst W2;rfl
 have UU:env.cells=[]:=by subst W2;kernel_rfl
 have ek:∀x,env.kindOf x=(fdOf (Vg w)).scope.names.lookup x:=λx=>by unfold bc;rw[EI]
 have N4:Ap env 1940:=⟨λq=>absurd (Ba hP) (by rw[<- q,PU];exact Xe _),λy c e=>by rw[UU] at e;cases e⟩
 rw[XZ]
 refine La ?_
 rw[WZ]
 refine lh hi (by kernel_rfl) (Fb (Fm ⟨λa e=>(by cases e),rfl,?_⟩))
 generalize mR:({Y with toks:=Y.toks+1}:aa)=V
 have iR:Kp Y V:=mR▸.tok _
 have ZN:=KC.step iR
 have M:=UG.trans' iR
 have F2:=F.kp M
 refine La ?_
 rw[VZ]
 refine fi (by kernel_rfl) ?_
 refine Th rfl (by kernel_rfl) (by kernel_rfl) ?_
 refine Fb (ZN.Gp (Mc ag (by decide)) (by decide) ?_)
 refine bV v.ga.hd F2 (M.get hb) (M.get pC) λh3 k3=>?_
 have D:=ZN.step (xq 0 k3)
 have B:=M.trans' (xq 0 k3)
 have F3:=F.kp B
 refine fc (xs:=[]) (show 0<=30 by decide) ?_
 refine Nj (F3.uf 27 rfl rfl) (RD w).data ?_
 refine PH (N:=N+4) (v.mono (by lia)) F3 (B.get hb) (B.get pC) (B.get hd) hB (by lia) (hH.keeps λZ Z e=>B.get e) λa C I c h4 tk4 b9 i7 CL na nC nI nc QU OU SU jH hG=>?_
 generalize yN:({V with heap:=h3,toks:=V.toks+0}:aa)=u at *
 generalize xN:({u with heap:=h4,gens:=u.gens.push b9,toks:=tk4}:aa)=E at *
 have U2:E.heap=h4:=by rw[<- xN]
 have J:=hG ((A.deeper env).in1) v.ga.hd
 have hP3:=B.get hP
 have RU:u.gens=s.gens:=by obtain ⟨_,_,e,_⟩:=B;rw[e]
 have RY:∀o:Sa,¬(Kn s.heap 1940).get? 1940=some o:=λo q=>by rw[tm] at q;cases q
 have F6:SX w env _ {({s with heap:=Kn s.heap 1940}:aa) with gens:=E.gens} (λz o=>(Kn s.heap 1940).get? z=some o) [] E:=D.move (wr:=[1940]) (λz hz=>by
   rw[List.mem_singleton.mp hz]
   exact⟨N4,RY,λe q=>(nomatch q)⟩)
  (λz o hz e=>by rw[U2];exact QU z o (λq=>hz (by simp[q])) e) (by rw[<- xN]) (by rw[<- xN])
 have I5:∀{z:la},u.heap.get? z=none->∀o,¬(Kn s.heap 1940).get? z=some o:=λhz o q=>by
  have:=D.base q
  rw[hz] at this;cases this
 have L:∀{z:la},u.heap.get? z=none->(1940:la)≠z:=λhz q=>by rw[<- q,hP3] at hz;cases hz
 obtain ⟨oC,hC⟩:=jH C (za ..)
 obtain ⟨oI,hI⟩:=jH I (.tail _ (.head _))
 obtain ⟨oc,hc⟩:=jH c (.tail _ (.tail _ (.head _)))
 obtain ⟨oa,ha⟩:∃oa,h4.get? a=some oa:=by obtain ⟨o,_,_,e,_⟩:=SU;exact⟨o,e⟩
 have hp4:=OU.tab
 rw[<- U2] at hC hI hc ha hp4
 have y1:=F6.yk N4 RY (λe q=>(nomatch q)) hp4
 have y2:=y1.yk (D.st.ap nc) (I5 nc) (λe q=>by rw[List.mem_singleton.mp q];exact L nc) hc
 have y3:=y2.yk (D.st.ap nI) (I5 nI) (λe q=>by
  rcases List.mem_cons.mp q with rfl|q
  ·exact λq2=>J.If (q2▸jc _ (.tail _ (.tail _ (.tail _ (.head _)))))
  ·rw[List.mem_singleton.mp q];exact L nI) hI
 have y4:=y3.yk (D.st.ap nC) (I5 nC) (λe q=>by
  rcases List.mem_cons.mp q with rfl|q
  ·exact λq2=>J.Cf (q2▸za ..)
  rcases List.mem_cons.mp q with rfl|q
  ·exact λq2=>J.Cf (q2▸ya _ (jc _ (.tail _ (.tail _ (.tail _ (.head _))))))
  ·rw[List.mem_singleton.mp q];exact L nC) hC
 have y5:=y4.yk (D.st.ap na) (I5 na) (λe q=>by
  rcases List.mem_cons.mp q with rfl|q
  ·exact λq2=>J.aC q2.symm
  rcases List.mem_cons.mp q with rfl|q
  ·exact λq2=>J.af (q2▸za ..)
  rcases List.mem_cons.mp q with rfl|q
  ·exact λq2=>J.af (q2▸ya _ (jc _ (.tail _ (.tail _ (.tail _ (.head _))))))
  ·rw[List.mem_singleton.mp q];exact L na) ha
 have l:∀{z:la} {o:Sa},s.heap.get? z=some o->z≠1940->(Kn s.heap 1940).get? z=some o:=λe hz=>by rw[Tq hz];exact e
 refine y5.bind (p:=.addr a) (.inl ((ek _).trans (by kernel_rfl))) rfl nofun λs5 x5=>⟨rfl,?_⟩
 have j3:=n40 hb (λvs q=>by cases q)
 have oR:=n40 pC (λvs q=>by cases q)
 have X2:=n40 hd (λvs q=>by cases q)
 have F4:Fk w ({({s with heap:=Kn s.heap 1940}:aa) with gens:=E.gens}:aa).heap:=F0
 refine La (Fb (FK v.ga.hd EI W2 x5 λD1 D2 s6 x6=>⟨rfl,?_⟩))
 refine La (Fb ?_)
 rw[TZ]
 refine PySem.wpAny_Assign_Name (gf (x6.Gp ag (by decide) (tR v.ga.hd (x6.fk F4) (x6.get 1 rfl) λh7 k7 J8=>?_))) (by kernel_rfl)
 have x7:=x6.new (a:=s6.heap.objs.size+0) (o:=Po D1) Qb (xq 1 k7) J8
 refine x7.bind (p:=.addr (s6.heap.objs.size+0)) (.inl ((ek _).trans (by kernel_rfl))) rfl nofun λs8 x8=>⟨rfl,?_⟩
 refine La (Fb ?_)
 rw[RZ]
 refine PySem.wpAny_Assign_Name (gf (x8.Gp (Mc (Mc ag (by decide)) (by decide)) (by decide) (tR v.ga.hd (x8.fk F4) (x8.get 1 rfl) λh9 k9 hn9=>?_))) (by kernel_rfl)
 have x9:=x8.new (a:=s8.heap.objs.size+0) (o:=Po D2) Qb (xq 1 k9) hn9
 refine x9.bind (p:=.addr (s8.heap.objs.size+0)) (.inl ((ek _).trans (by kernel_rfl))) rfl nofun λG5 D5=>⟨rfl,?_⟩
 refine La (Fb ?_)
 rw[QZ]
 refine PySem.wpAny_Assign_Name (sg D5.st.re ((ek _).trans (by kernel_rfl)) (Yq (i:=0) w rfl rfl) (by decide) ?_) (by kernel_rfl)
 refine D5.bind (p:=.addr 1888) (.inl ((ek _).trans (by kernel_rfl))) rfl nofun λs11 G9=>⟨rfl,?_⟩
 refine La (Fb ?_)
 rw[PZ]
 refine PySem.wpAny_Assign_Name (sg G9.st.re ((ek _).trans (by kernel_rfl)) (Yq (i:=1) w rfl rfl) (by decide) ?_) (by kernel_rfl)
 refine G9.bind (p:=.addr 1890) (.inl ((ek _).trans (by kernel_rfl))) rfl nofun λDW J6=>⟨rfl,?_⟩
 refine La ?_
 rw[OZ]
 refine xp (λZ=>rfl) (J6.Gp (Mc (Mc (Mc (Mc (Mc (Mc (Mc ag (by decide)) (by decide)) (by decide)) (by decide)) (by decide)) (by decide)) (by decide)) (by decide) ?_)
 have A8:=J6.base (l ht tn)
 refine wpAny_pyIter_tuple (items:=#[.ref ec]) ⟨_,A8,hot.1,m,hot.2⟩ ?_
 have I6:=J6.new (a:=DW.heap.objs.size) (o:=gO t 0) (s':={DW with heap:=DW.heap.push (gO t 0)}) Qb (.push _) (ra _ rfl)
 refine PA v.ga.hd (.inl ((ek _).trans (by kernel_rfl))) I6 (l ht tn) hot λoIt Q9 uX=>?_
 have H:Q9.gens=E.gens:=uX.gens
 have S8:Dl w ((A.deeper env).in1) a u.gens.size C I [b,dd,d,c] ((bs.length+7) / 8) (Ey λi=>rj (Xk bs (8*i))) 0 Q9:=by
  have m:=λz hz o e=>y5.same uX (b:=z) (hz:(∃o,(Kn s.heap 1940).get? z=some o)\/_) o e
  exact qx J (by rw[H]) (Dc (m _ (.inr ⟨oa,mg 0 rfl,mg 5 rfl⟩)) (Dc (m _ (.inr ⟨oC,mg 1 rfl,mg 6 rfl⟩)) (Dc (m _ (.inr ⟨oI,mg 2 rfl,mg 7 rfl⟩)) (Q4 (λz hz=>m z (.inl (ei F4 z hz)))
   (Dc (m _ (.inl ⟨_,l hb j3⟩)) (Dc (m _ (.inl ⟨_,l pC oR⟩)) (Dc (m _ (.inl ⟨_,l hd X2⟩)) (Dc (m _ (.inr ⟨oc,mg 3 rfl,mg 8 rfl⟩)) tj))))))))
 have hB2:∀i,i < room->0<=rj (Xk bs (8*i))/\rj (Xk bs (8*i)) < 256:=λi hi=>Rw (As hB _) (lr (by lia))
 refine OO (N:=N+3) (ex:=[b,dd,d,c]) (rest:=[(c,oc),(1940,{cls:=.none,data:=.fields i7})]) (gi:=u.gens.size) (n:=(bs.length+7) / 8) (f:=λi=>rj (Xk bs (8*i))) (gen:=gen) (gvs:=gvs) (gn:=gn) (room:=room) (total:=total) (ta:=ta) (tb:=tb) (tc:=tc) v F4 EI hi uX ?_ rfl rfl rfl rfl rfl ?_ (l he en) (l hed edn) hgp S8 hn (by lia) hB2 ?_ ?_ (l hgt gtn) hgi (by lia) hgl hgb λbk ck O g15 H6=>⟨rfl,H6.get 0 rfl,H6.base (l ht tn),λh16 N8=>⟨_,rfl,rfl,?_⟩⟩
 ·exact Dc (.inl ⟨_,l hb j3⟩) (Dc (.inl ⟨_,l pC oR⟩) (Dc (.inl ⟨_,l hd X2⟩) (Dc (.inr ⟨oc,.head _⟩) tj)))
 ·exact Dc rfl (Dc rfl (Dc rfl (Dc rfl (Dc rfl (Dc rfl (Dc rfl (Dc rfl (Dc rfl (Dc rfl (Dc rfl (Dc rfl tj)))))))))))
 ·exact F4.uf 19 rfl rfl
 ·exact F4.uf 18 rfl rfl
 have k:=H6.qU (h':=h16) (tk:=O.toks) N8
 generalize C8:({O with heap:=h16,toks:=O.toks}:aa)=r at k
 have a3E:r.gens=O.gens:=by rw[<- C8]
 refine Zj ?_
 rw[NZ]
 refine vp (Fb (Wi (Se (xs:=[eval (.Name "data_blocks" _) env,eval (.Name "error_blocks" _) env]) ?_)))
 refine k.Gp rfl (by decide) (k.Gp rfl (by decide) ⟨(show 2<=Kb by decide),⟨_,rfl⟩,?_⟩)
 have cls:∀{z:la} {o:Sa},s.heap.get? z=some o->∃o',r.heap.get? z=some o':=λ{z o} e=>by
  by_cases q:z=1940
  ·subst q;exact⟨_,k.get 5 rfl⟩
  ·exact⟨_,k.base (l e q)⟩
 have fr:∀(i:Nat) {z:la} {o:Sa},([(D2,Wa [.ref ck] 1),(D1,Wa [.ref bk] 1),(bk,qb (Ia ((Qa room).map λi=>rj (Xk bs (8*i))))),(ck,qb (Ia ((Ti gen gen.length room ((Qa room).map (λi=>rj (Xk bs (8*i)))++Ha gen.length 0)).drop room))),(c,oc),(1940,{cls:=.none,data:=.fields i7})]:List (la×Sa))[i]?=some (z,o)->i≠5->s.heap.get? z=none:=by
  intro i z o e hi5
  have h40:z≠1940:=k.ne e (j:=5) rfl hi5
  cases q:s.heap.get? z with
  |none=>rfl
  |some o'=>exact absurd (l q h40) (k.nb _ (Mb e) o')
 have up:∀{z:la} {o:Sa},r.heap.get? z=some o->(r.heap.push (Bf [.ref D1,.ref D2] 0)).get? z=some o:=λe=>fa _ e
 have frT:s.heap.get? r.heap.objs.size=none:=by
  cases q:s.heap.get? r.heap.objs.size with
  |none=>rfl
  |some o=>obtain ⟨o',e'⟩:=cls q;exact absurd (Ba e') (Xe _)
 have hdl:((Qa room).map λi=>rj (Xk bs (8*i))).length=room:=by rw[Yb,yc]
 have key:=hQ r.heap.objs.size D1 D2 bk ck (r.heap.push (Bf [.ref D1,.ref D2] 0)) r.toks O.gens i7 (λz o hz e=>up (k.base (l e hz))) ?_ ?_ (ra _ rfl) (up (k.get 1 rfl)) (up (k.get 0 rfl)) (up (k.get 2 rfl)) ?_ ?_ ?_
 ·have g9:∀X,({r with heap:=X}:aa)={s with heap:=X,toks:=r.toks,gens:=O.gens}:=λX=>by
   obtain ⟨h,tk,e⟩:=k.st.sh
   rw[e]
  show Q (.ref r.heap.objs.size) {r with heap:=r.heap.push (Bf [.ref D1,.ref D2] 0)}
  rw[g9]
  exact key
 ·have e1:E.heap.get? 1944=some (Bu w):=y5.kp.get (F4.uf 40 rfl rfl)
  rw[U2] at e1
  exact OU.mv e1 OU.tab (up (k.kp.get (F4.uf 40 rfl rfl))) (up (k.get 5 rfl))
 ·intro o3
  refine g15.bare λy hy=>?_
  rw[H,<- xN] at hy
  have hy:y∈u.gens.push b9:=hy
  rw[RU] at hy
  rcases Array.mem_push.mp hy with hy|rfl
  ·exact o3 y hy
  ·exact CL
 ·unfold Gg
  rw[hdl]
  exact up (k.get 3 rfl)
 ·exact Dc frT (Dc (fr 1 rfl (by decide)) (Dc (fr 0 rfl (by decide)) (Dc (fr 2 rfl (by decide)) (Dc (fr 3 rfl (by decide)) tj))))
 ·have t:=λi z o (e:_=some (z,o))=>Ee (Ba (k.get (b:=z) (o:=o) i e))
  have n:=λi j a o b o' e e'=>k.ne (i:=i) (j:=j) (a:=a) (b:=b) (o:=o) (o':=o') e e'
  exact .cons (Dc (t 1 _ _ rfl) (Dc (t 0 _ _ rfl) (Dc (t 2 _ _ rfl) (Dc (t 3 _ _ rfl) tj)))) (.cons (Dc (n 1 0 _ _ _ _ rfl rfl (by decide)) (Dc (n 1 2 _ _ _ _ rfl rfl (by decide)) (Dc (n 1 3 _ _ _ _ rfl rfl (by decide)) tj)))
   (.cons (Dc (n 0 2 _ _ _ _ rfl rfl (by decide)) (Dc (n 0 3 _ _ _ _ rfl rfl (by decide)) tj)) (.cons (Dc (n 2 3 _ _ _ _ rfl rfl (by decide)) tj) (.cons tj .nil))))
end
noncomputable def ve:List cb:=(yf (Ji 17)).2.1
theorem iZ:ve=[ma ve 0,ma ve 1,ma ve 2,ma ve 3,ma ve 4,ma ve 5,ma ve 6,ma ve 7,ma ve 8,ma ve 9,ma ve 10,ma ve 11,ma ve 12,ma ve 13]:=by kernel_rfl
theorem hZ:ma ve 0=.Expr (.Constant (.str (OV (ma ve 0))) 0 (aV (ma ve 0)).pos) (aP (ma ve 0)):=by kernel_rfl
noncomputable def vS:Fp:=aAr (ma ve 1)
noncomputable def jO:List cb:=aB (ma ve 1)
noncomputable def OQ:me:=aSc (ma ve 1)
noncomputable def K9:Oa:=(vS.defaults.headD Ww)
theorem fZ:ma ve 1=.FunctionDef "to_binary" vS jO [] none [] OQ none "to_binary" (aP (ma ve 1)):=by kernel_rfl
theorem vJ:vS.kwonlyargs=[]/\vS.kw_defaults=[]/\vS.defaults=[.Constant (.int 8) 0 K9.pos]:=by
 refine⟨by kernel_rfl,by kernel_rfl,by kernel_rfl⟩
section
variable{w:ja}{A:ua}{N:Nat}{env:Be}{σ:List (xa×P)}{s₀ s s':aa}{B:la->Sa->Prop}{L:List (la×Sa)}
theorem tD{l:List (xa×ub)}(h:l.all (λy=>y.2 != .free)=true):∀y∈l,y.2≠.free:=λy a=>by
 have:=List.all_eq_true.mp h y a
 simpa using this
theorem bAt(F:Fk w s.heap){Pl:la}(h:Pl≠4):s.heap.BuiltinsAt (JO w) Pl:=
 ⟨4,nK w,BK w,by decide,by decide,Hb h,F.t (4,nK w) (sa 2 rfl),rfl,rfl,rfl⟩
noncomputable abbrev Rr(w:ja)(q:xa)(a:Value)(c':la)(doc:Value):yl:=defFd "to_binary" q vS jO OQ jd a .none none ((JO w "__name__").getD .none) (.ref c') doc
set_option tactic.hygienic true
theorem aQ(hh:A.handled=none)(x:SX w env σ s₀ B L s)(F:Fk w s.heap)(G:env.code=.ref 1894)(H:Yd s.heap 1894 1892 #[])(ap:Ap env 1892)(nb:∀o,¬B 1892 o)(nl:∀e∈L,e.1≠1892)(hk:env.kindOf "to_binary"=some zg){Q:Af->aa->Prop}
  (hQ:∀f c' P' T t doc op oc oP s',SX w env ((("to_binary":xa),P.addr f)::σ) s₀ B ((f,⟨.type "function",none,.func (Rr w (gq env "to_binary" "to_binary") (.ref T) c' doc),#[]⟩)::(T,Bf [.int 8 t] 0)::(c',oc)::(P',oP)::(1892,op)::L) s'->
   (∃O,∀h:Na,h.get? 1894=some (vq w)->h.get? 1892=some op->Yd h 1894 1892 O)->(∀h:Na,h.get? c'=some oc->h.CodeRec (.ref c') (gq env "to_binary" "to_binary"))->(∀h:Na,h.get? c'=some oc->h.get? P'=some oP->Yd h c' P' #[])->Q .next s'):
  wpAny (ka PP w) A (ig (ma ve 1) env) Q Jc s:=by
 rw[fZ,exec_def,defaultsOf_eq,vJ.2.1,vJ.2.2]
 refine zb (wb (zb (Ma ?_)))
 refine zb ?_
 show wpAny _ _ (eval (.Constant (.int 8) 0 K9.pos) env>>=λv=>holding [v] (evalAll [])>>=λr=>pure (v::r)) _ _ _
 refine zb (Rb (zb (Ma (pa (pa ?_)))))
 refine zb (Ma (pa ?_))
 refine Ma ?_
 refine zb (Aa (a:=[]) (by kernel_rfl) ?_)
 have gs:=cf F
 have hcN:∀h:Na,s.heap.get? 1894=some (vq w):=λ_=>F.uf 34 rfl rfl
 refine Tp (s:={s with toks:=s.toks+1}) (mg:=JO w) (c:=1894) (Pl:=1892) (ps:=#[]) (cl:=[]) vJ.1 (closureFor_none (tD (by kernel_rfl))) (by rw[x.st.eg];exact gs.g) G H rfl (by rw[x.st.eg];decide) (bAt F (by decide))
  λdV ct c' doc h' tk hct E V m N5 j hrec Y=>?_
 obtain ⟨P',i,d⟩:=Y
 obtain rfl:=hct rfl
 dsimp only at V m i E ⊢
 rcases E with ⟨q,_⟩|⟨_,T,rfl,l,hT⟩
 ·exact nomatch q
 refine d.obj.elim λoc q=>j.obj.elim λo1 u=>?_
 rw[x.st.eg] at *
 generalize I:({cls:=.type "function",data:=.func (Q5 "to_binary" (gq env "to_binary" "to_binary") vS jO OQ jd [] .none (.ref T) ((JO w "__name__").getD .none) (.ref c') doc)}:Sa)=J
 have up:∀{z:la} {o:Sa},h'.get? z=some o->(h'.push J).get? z=some o:=λe=>fa _ e
 have hf:(h'.push J).get? h'.objs.size=some J:=ra _ (by rw[<- I];rfl)
 have fr:∀{z:la},s.heap.objs.size<=z->s.heap.get? z=none:=λh=>Pe h
 have k:s.heap.objs.size<=h'.objs.size:=Ja m (Vd N5)
 have y:∀{z:la},s.heap.objs.size<=z->∀e∈L,e.1≠z:=λ{z} h e he=>Ef (x.st.ks e.1 e.2 (.inr he)) (fr h)
 have C:∀{z:la},s.heap.objs.size<=z->∀o,¬B z o:=λh o q=>nomatch (x.base q).symm.trans (fr h)
 have D:∀{z:la},s.heap.objs.size<=z->(1892:la)≠z:=λh=>Ef H.tab (fr h)
 have y0:SX w env σ s₀ B L {s with heap:=h'.push J,toks:=tk}:=by
  have:=x.move (s':={s with heap:=h'.push J,toks:=tk}) (wr:=[1892]) (λb hb=>by rw[List.mem_singleton.mp hb];exact⟨ap,nb,nl⟩) (λb o hb e=>up (V b o (λq=>hb (q▸.head _)) e)) rfl rfl
  have e:({s₀ with gens:=s.gens}:aa)=s₀:=by rw[x.gens]
  rw[e] at this
  exact this
 have cT:∀{z:la} {o:Sa},h'.get? z=some o->(∃vs,o.data=.fields vs)->z≠T:=λe n q=>n.elim λvs n=>nomatch n.symm.trans (congrArg PR (va (e.symm.trans ((congrArg h'.get? q).trans hT))))
 have y1:=y0.yk ap nb nl (up j.tab)
 have y2:=y1.yk (x.st.ap (fr i)) (C i) (Dc (D i) (y i)) (up d.tab)
 have y3:=y2.yk (x.st.ap (fr m)) (C m) (Dc (Hb q.2.2) (Dc (D m) (y m))) (up q.1)
 have y4:=y3.yk (x.st.ap (fr l)) (C l) (Dc (cT q.1 q.2.1) (Dc (cT d.tab ⟨_,rfl⟩) (Dc (D l) (y l)))) (up hT)
 have y5:=y4.yk (x.st.ap (fr k)) (C k) (Dc (Va (Ba hT)) (Dc (Va (Ba q.1)) (Dc (Va (Ba d.tab)) (Dc (D k) (y k))))) hf
 refine zb (wb (zb (Em ?_)))
 refine y5.bind (p:=.addr h'.objs.size) (.inr hk) rfl nofun λs' x'=>pa ?_
 have e94:h'.get? 1894=some (vq w):=V _ _ (by decide) (F.uf 34 rfl rfl)
 rw[<- I] at x'
 refine hQ h'.objs.size c' P' T _ doc _ oc _ s' x' ⟨_,λh M a2=>j.mv e94 j.tab M a2⟩ (λh M=>?_) (λh M a2=>d.mv q.1 d.tab M a2)
 exact hrec.elim λc2 z=>z.elim λo2 z=>z.elim λN z=>z.elim λt2 z=>by
  obtain rfl:=ff z.1
  exact⟨c',oc,N,t2,rfl,M,va (z.2.1.symm.trans q.1)▸z.2.2⟩
end
set_option tactic.hygienic false
noncomputable def PJ(a:wa)(S:T3)(B:List cb)(w:ja)(r:la)(t u v:Nat)(m k:Nat):Prop:=
 Uk og (Gb Ka) a w 18 ⟨true,[(r,⟨.type "range",none,.fields #[.int 0 t,.int 8 u,.int 1 v],#[]⟩)],m,[],[.k 0,.k 0,.k 0,.k 0,.k 0,.n 0],[]⟩ k (.top (call (.type "reversed") [.ref r]))=some (⟨true,[(r,⟨.type "range",none,.fields #[.int 0 t,.int 8 u,.int 1 v],#[]⟩)],m,[⟨.type "range_iterator",none,.fields #[Fc 7,Fc 8,Fc (-1)],#[]⟩],[],[(m+0,m+0),(r,r),(r,r),(r,r),(r,r),(r,r)]⟩,k+0,.top (.pure (.ref (m+0))))
noncomputable def RJ(a:wa)(S:T3)(B:List cb)(w:ja)(r:la)(t u v:Nat)(m k:Nat):Prop:=
 Uk og (Gb Ka) a w 18 ⟨true,[(r,⟨.type "range",none,.fields #[.int 0 t,.int 4 u,.int 1 v],#[]⟩)],m,[],[.k 0,.k 0,.k 0,.k 0,.k 0,.n 0],[]⟩ k (.top (call (.type "reversed") [.ref r]))=some (⟨true,[(r,⟨.type "range",none,.fields #[.int 0 t,.int 4 u,.int 1 v],#[]⟩)],m,[⟨.type "range_iterator",none,.fields #[Fc 3,Fc 4,Fc (-1)],#[]⟩],[],[(m+0,m+0),(r,r),(r,r),(r,r),(r,r),(r,r)]⟩,k+0,.top (.pure (.ref (m+0))))
lay_quick Mine.PJ Mine.RJ
theorem OJ(w:ja)(r:la)(t u v:Nat)(m k:Nat):PJ PP (Tc w) fb w r  t u v  m k:=wf (P:=λz=>PJ PP (Tc w) fb z r  t u v  m k) w λa=>by
 rw[PySem.W.Fast.te5317632168000474261]
 unfold PySem.W.Fast.tw5317632168000474261
 cases a <;> kernel_rfl
theorem b7{w:ja}{A:ua}{s:aa}{r:la}{t u v:Nat}{Q:_->aa->Prop}{E:Value->aa->Prop}(d:A.handled=none)(F:Fk w s.heap)(hr:s.heap.get? r=some (⟨.type "range",none,.fields #[.int 0 t,.int 8 u,.int 1 v],#[]⟩))
  (c:∀h',(∀x o,s.heap.get? x=some o->h'.get? x=some o)->h'.get? (s.heap.objs.size+0)=some (⟨.type "range_iterator",none,.fields #[Fc 7,Fc 8,Fc (-1)],#[]⟩)->Q (.ref (s.heap.objs.size+0)) {s with heap:=h',toks:=s.toks+0}):wpAny (ka PP w) A (call (.type "reversed") [.ref r]) Q E s:=
 Te d (OJ w r  t u v  s.heap.objs.size s.toks) [s.heap.objs.size+0,r,r,r,r,r] rfl (Dc hr tj) rfl rfl λh' b a=>c h' b (a 0 _ rfl rfl)
theorem QJ(w:ja)(r:la)(t u v:Nat)(m k:Nat):RJ PP (Tc w) fb w r  t u v  m k:=wf (P:=λz=>RJ PP (Tc w) fb z r  t u v  m k) w λa=>by
 rw[PySem.W.Fast.te14584128549814875804]
 unfold PySem.W.Fast.tw14584128549814875804
 cases a <;> kernel_rfl
theorem c7{w:ja}{A:ua}{s:aa}{r:la}{t u v:Nat}{Q:_->aa->Prop}{E:Value->aa->Prop}(d:A.handled=none)(F:Fk w s.heap)(hr:s.heap.get? r=some (⟨.type "range",none,.fields #[.int 0 t,.int 4 u,.int 1 v],#[]⟩))
  (c:∀h',(∀x o,s.heap.get? x=some o->h'.get? x=some o)->h'.get? (s.heap.objs.size+0)=some (⟨.type "range_iterator",none,.fields #[Fc 3,Fc 4,Fc (-1)],#[]⟩)->Q (.ref (s.heap.objs.size+0)) {s with heap:=h',toks:=s.toks+0}):wpAny (ka PP w) A (call (.type "reversed") [.ref r]) Q E s:=
 Te d (QJ w r  t u v  s.heap.objs.size s.toks) [s.heap.objs.size+0,r,r,r,r,r] rfl (Dc hr tj) rfl rfl λh' b a=>c h' b (a 0 _ rfl rfl)
section
variable{prog:wa}{w:ja}{A:ua}{N:Nat}{G:Gl}{rd:List xa}{σ:List (xa×P)}{adr:xa->la}{s s₀:aa}{K:la->Sa->Prop}
theorem uB{a:la}{o:Sa}{fd:yl}{body:List cb}{vs:List Value}{binds:List (xa×Value)}{R:Value->aa->Prop}
  (g:GA (N+2) A) (gs:GS G s.heap) (ho:s.heap.get? a=some o) (hd:o.data=.func fd) (J:s.heap.CodeRec fd.code fd.qualname) (l:fd.body=.stmts body) (hb:Sf s fd ⟨vs,[]⟩ binds)
  (T:fd.scope.kind=.function) (I:fd.scope.isCoroutine=false) (t:fd.scope.isGenerator=false) (hg:fd.globals=jd) (L:fd.builtins=Hc) (u:fd.closure=[])
  (r:(binds.map (·.1)).all (λx=>fd.scope.names.lookup x==some .local||fd.scope.names.lookup x==some .cell)=true) (C:Vr (binds.map (·.1))=true) (k:∀x,fd.scope.names.lookup x≠some .free)
  (hm:Dq s.heap rd adr σ binds) (M:∀x y ns ms,x≠y->σ.lookup x=some (.il ns)->σ.lookup y=some (.il ms)->adr x≠adr y)
  (h:∀i env,env=ef fd s.heap.objs.size a->GA N (A.deeper env)->St G env rd σ adr s (Fw s) i->wpAny (ka prog w) (A.deeper env) (Kc body env) (λf s'=>∃v,f=.ret v/\R v s') Jc i):
  wpAny (ka prog w) A (call (.ref a) vs) R Jc s:=by
 have nd:=Lk C
 have j:∀x∈binds,fd.scope.names.lookup x.1=some .local\/fd.scope.names.lookup x.1=some .cell:=by
  intro x E
  have:=List.all_eq_true.mp r x.1 (zd E)
  simpa using this
 refine fu (iN g.room ho hd I t l J (hb _ _ _ _ ?_))
 rw[u]
 refine sC T (λx E=>?_) λenv he i x=>?_
 ·rcases j x E with q|q
  ·exact .inl q
  ·exact .inr ⟨q,cellsFrom_some _ _ _ _ (.inl (xc q))⟩
 have H:env=ef fd s.heap.objs.size a:=he
 clear he
 subst H
 refine⟨gs.lim.keeps x.toInCall.keep,codeAny_func ?_⟩
 generalize d:ef fd s.heap.objs.size a=env at x ⊢
 have e1:env.scope=fd.scope:=by subst d;rfl
 have Y:env.locals=s.heap.objs.size:=by subst d;rfl
 have e3:env.globals=fd.globals:=by subst d;rfl
 have V:env.cells=tg (s.heap.objs.size+1) fd.scope.names []:=by subst d;rfl
 have e5:env.builtins=fd.builtins:=by subst d;rfl
 have B:∀x,env.kindOf x=fd.scope.names.lookup x:=λx=>by unfold bc;rw[e1]
 have gd:GA N (A.deeper env):=((g.mono (ze _)).deeper env)
 have D:=h i env d.symm gd ?_
 ·exact Lb D (λf s' q=>by obtain ⟨v,rfl,q⟩:=q;exact q) λZ Z q=>q.elim
 refine{kind:=(by rw[e1];exact T),eg:=e3.trans hg,eb:=e5.trans L,g0:=gs,sh:=x.toInCall.same,k0:=λb o e=>e,ks:=x.toInCall.keep,ns:=⟨_,x.toInCall.ns⟩,nl:=?_,ce:=?_,nc:=?_,inj:=?_,cells:=?_,look:=?_,new:=?_,apart:=M}
 ·intro o e
  rw[Y] at e
  exact absurd (Ba e) (Xe _)
 ·exact λy c e=>⟨_,x.cell y c e⟩
 ·intro y c e e' o q
  have n:=x.above y c (mem_of_lookup e)
  rw[Y] at n
  exact absurd (Ba q) (Nat.not_lt.mpr (Vd n))
 ·exact λy z c e e'=>name_of_addr x.apart (mem_of_lookup e) (mem_of_lookup e')
 ·intro y m
  rw[B] at m
  rcases m with m|m
  ·rw[V];exact cellsFrom_some _ _ _ y (.inl (xc m))
  ·exact absurd m (k y)
 ·intro y p e
  refine Nc λO=>?_;obtain ⟨v,n,h2,Q⟩:=hm.look e;refine O ?_
  refine⟨v,?_,h2.keeps x.toInCall.keep,λns q=>(Q ns q).1⟩
  rcases j (y,v) (xc n) with q|q
  ·exact .inl ⟨(B y).trans q,_,x.toInCall.ns,Mo ((B y).trans q) nd n⟩
  ·have hc:((tg (s.heap.objs.size+1) fd.scope.names []).lookup y).isSome=true:=cellsFrom_some _ _ _ y (.inl (xc q))
   rw[<- V] at hc
   refine(Option.isSome_iff_exists.mp hc).elim λc hc=>?_
   refine .inr ⟨.inl ((B y).trans q),c,hc,?_⟩
   have:=x.cell y c hc
   rw[Jv (by rw[B y,q];decide) nd n] at this
   exact this
 ·intro y ns e hr
  refine Nc λO=>?_;obtain ⟨v,_,_,Q⟩:=hm.look e;refine O ?_
  exact absurd (Q ns rfl).2 hr
end
noncomputable def uN:Oa:=aV (ma jO 0)
noncomputable def uS:Oa:=ch uN 0
noncomputable def tS:Oa:=gI uN 0
theorem hY:jO=[ma jO 0]:=by kernel_rfl
theorem gY:ma jO 0=.Return (some (.GeneratorExp uS [⟨.Name "i" (gT uN 0).pos,tS,[],0⟩] (IH uN) uN.pos)) (aP (ma jO 0)):=by kernel_rfl
theorem eY:tS=.Call (.Name "reversed" (ch tS 0).pos) [.Call (.Name "range" (ch (ch tS 1) 0).pos) [.Name "length" (ch (ch tS 1) 1).pos] [] (ch tS 1).pos] [] tS.pos:=by kernel_rfl
theorem fY:uS=.BinOp (.BinOp (.Name "val" (ch (ch uS 0) 0).pos) .RShift (.Name "i" (ch (ch uS 0) 1).pos) (ch uS 0).pos) .BitAnd (.Constant (.int 1) 0 (ch uS 1).pos) uS.pos:=by kernel_rfl
noncomputable def Cs(v:Int)(n i:Nat):Int:=ou (v.fdiv (2 ^ (n-1-i))) 1
section
variable{w:ja}{A:ua}{N:Nat}{s:aa}
theorem YH{q:xa}{T c':la}{doc x:Value}{t:jg}(hT:s.heap.get? T=some (Bf [.int 8 t] 0)):Sf s (Rr w q (.ref T) c' doc) ⟨[x],[]⟩ [("val",x),("length",.int 8 t)]:=by
 intro M A E Q b
 show wpAny M A (Px (.ref T)>>=_) Q E s
 refine zb (Qd (n:=0) hT (items:=#[.int 8 t]) rfl ?_)
 exact Aa (a:=([("val",x),("length",.int 8 t)]:List (xa×Value))) (by kernel_rfl) b
theorem XH{q:xa}{T c':la}{doc x y:Value}{t:jg}(hT:s.heap.get? T=some (Bf [.int 8 t] 0)):Sf s (Rr w q (.ref T) c' doc) ⟨[x,y],[]⟩ [("val",x),("length",y)]:=by
 intro M A E Q b
 show wpAny M A (Px (.ref T)>>=_) Q E s
 refine zb (Qd (n:=0) hT (items:=#[.int 8 t]) rfl ?_)
 exact Aa (a:=([("val",x),("length",y)]:List (xa×Value))) (by kernel_rfl) b
theorem xY{n i:Nat}(h:i < n):(n:Int)-1+(i:Int)*-1=((n-1-i:Nat):Int):=by
 rw[Dh (Bk h),Dh (aj (Zb i) h),Int.mul_neg,Int.mul_one];rfl
theorem oB{f T c' P':la}{q:xa}{doc:Value}{ps:Array Value}{args:List Value}{v:Int}{n:Nat}{x1 x2:Value}(g:GA (N+4) A)(F:Fk w s.heap)(hf:s.heap.get? f=some ⟨.type "function",none,.func (Rr w q (.ref T) c' doc),#[]⟩)(hrec:s.heap.CodeRec (.ref c') q)(hH:Yd s.heap c' P' ps)(hP:P'∉Nf)
  (hb:Sf s (Rr w q (.ref T) c' doc) ⟨args,[]⟩ [("val",x1),("length",x2)]) (h1:∃u,x1=.int v u) (h2:∃u,x2=.int n u) (hn:1<=n/\n<=8)
  (E8:∀{A:ua} {s':aa} {r:la} {t u v:Nat} {Q:Value->aa->Prop},A.handled=none->Fk w s'.heap->s'.heap.get? r=some ⟨.type "range",none,.fields #[.int 0 t,.int n u,.int 1 v],#[]⟩->
   (∀h',(∀x o,s'.heap.get? x=some o->h'.get? x=some o)->h'.get? (s'.heap.objs.size+0)=some ⟨.type "range_iterator",none,.fields #[Fc ((n:Int)-1),Fc n,Fc (-1)],#[]⟩->Q (.ref (s'.heap.objs.size+0)) {s' with heap:=h',toks:=s'.toks+0})->wpAny (ka PP w) A (call (.type "reversed") [.ref r]) Q Jc s')
  {Q:Value->aa->Prop}
  (hQ:∀a C I c h' tk gs V,gs.bare=true->s.heap.get? a=none->s.heap.get? C=none->s.heap.get? I=none->s.heap.get? c=none->fN P' s h'->Yd h' c' P' V->h'.IsGen a s.gens.size->(∀b∈[C,I,c],∃o,h'.get? b=some o)->
   (∀B:ua,B.handled=none->Dl w B a s.gens.size C I [c] n (Ey (Cs v n)) 0 {s with heap:=h',gens:=s.gens.push gs,toks:=tk})->
   Q (.ref a) {s with heap:=h',gens:=s.gens.push gs,toks:=tk}):
  wpAny (ka PP w) A (call (.ref f) args) Q Jc s:=by
 refine Nc λH=>?_;obtain ⟨u1,rfl⟩:=h1
 obtain ⟨u2,rfl⟩:=h2;refine H ?_
 refine uB (N:=N+2) (G:=GW w) (rd:=[]) (σ:=[("val",.int v),("length",.int n)]) (adr:=λZ=>0) (body:=jO) g (cf F) hf rfl hrec rfl hb (by kernel_rfl) (by kernel_rfl) (by kernel_rfl) rfl rfl rfl (by kernel_rfl) (by kernel_rfl) (Ur (by kernel_rfl))
  ⟨⟨rfl,⟨_,rfl⟩,nofun⟩,⟨rfl,⟨_,rfl⟩,nofun⟩,trivial⟩ (λx y ns ms Z e=>(Df rfl e).elim) λd env he J j=>?_
 have l:=j.kp
 have EI:env.scope=OQ:=by subst he;rfl
 have IA:env.code=.ref c':=by subst he;rfl
 have L:env.cells=tg (s.heap.objs.size+1) OQ.names []:=by subst he;rfl
 have ek:∀x,env.kindOf x=OQ.names.lookup x:=λx=>by unfold bc;rw[EI]
 rw[hY]
 refine wpAny_execs_cons ?_
 rw[gY]
 refine wpAny_Return_some ?_
 have F1:=F.kp l
 refine Nc λH=>?_;obtain ⟨vv,hv,⟨uv,rfl⟩,_⟩:=j.look "val" (.int v) rfl;refine H ?_
 obtain ⟨c,hc,D⟩:∃c,env.cells.lookup ("val":xa)=some c/\d.heap.IsCell c (some (.int v uv)):=by
  rcases hv with ⟨q,_⟩|⟨_,c,h1,h2⟩
  ·rw[ek] at q
   have:OQ.names.lookup ("val":xa)=some zg:=by kernel_rfl
   rw[this] at q;exact nomatch q
  ·exact⟨c,h1,h2⟩
 have e0:tg (s.heap.objs.size+1) OQ.names []=[(("val":xa),s.heap.objs.size+1)]:=by kernel_rfl
 have Y2:env.cells=[(("val":xa),c)]:=by
  rw[L,e0] at hc ⊢
  exact congrArg (λx=>[(("val":xa),x)]) (va (show some (s.heap.objs.size+1)=some c from hc))
 have p:s.heap.get? c=none:=by
  cases e:s.heap.get? c with
  |none=>rfl
  |some o=>exact absurd e (j.nc "val" c hc ((ek _).trans (by kernel_rfl)) o)
 have M:=j.re
 refine Nc λH=>?_;obtain ⟨_,t2',O,_⟩:=id l;refine H ?_
 have E:d.gens=s.gens:=by rw[O]
 refine LF (cl:=[("val",c)]) (cc:=c') (PT:=P') (ps:=ps) (ex:=[c]) (a:=(n:Int)-1) (c:=-1) (n:=n) (Fv:=λi y=>∃t,y=.int (Cs v n i) t)
  J.hd J.room F1 j.eg j.eb (by kernel_rfl) ?_ (bp (by kernel_rfl)) (by kernel_rfl) (by kernel_rfl) (by kernel_rfl) IA (hH.keeps λZ Z e=>l.get e) ?_ ?_ ?_ (λZ=>rfl) ?_ ?_
 ·rw[Of (scope:=IH uN) (env:=env) ?_]
  ·rw[Y2];kernel_rfl
  ·intro y Y V2
   rw[Y2]
   have:(IH uN).names.all (λy=>y.2 != .free||y.1=="val")=true:=by kernel_rfl
   have q:=List.all_eq_true.mp this y Y
   rw[V2] at q
   have q:y.1="val":=by simpa using q
   rw[q];rfl
 ·exact λq=>(List.mem_append.mp q).elim hP λq=>nomatch hH.tab.symm.trans ((congrArg s.heap.get? (List.mem_singleton.mp q)).trans p)
 ·intro z hz
  rw[List.mem_singleton.mp hz]
  refine Nc λH=>?_;obtain ⟨o,e,_⟩:=D;refine H ?_
  exact⟨o,e⟩
 ·rw[eY]
  refine Yc ⟨_,_,rfl⟩ (name_buil M ((ek _).trans (by kernel_rfl)) (ke w (by decide)) (v:=.type "reversed") (by kernel_rfl) (by decide) (by decide) ?_)
  refine md (xs:=[eval (.Call _ _ [] _) env]) (show 1<=30 by decide) ?_
  refine Yc ⟨_,_,rfl⟩ (name_buil M ((ek _).trans (by kernel_rfl)) (ke w (.tail _ (.head _))) (v:=.type "range") (by kernel_rfl) (by decide) (by decide) ?_)
  refine md (xs:=[eval (.Name _ _) env]) (show 1<=30 by decide) ?_
  refine Nc λH=>?_;obtain ⟨vl,hvl,⟨ul,rfl⟩,_⟩:=j.look "length" (.int n) rfl;refine H ?_
  refine Md j.kind hvl (by decide) (by decide) ?_
  refine Aa (a:=Xa) rfl ?_
  refine uk ?_
  refine Aa (a:=Xa) rfl ?_
  generalize yN:({d with heap:=d.heap.push _,toks:=d.toks+1+1}:aa)=s3
  have k3:Kp d s3:=yN▸⟨_,_,rfl,λZ Z e=>fa _ e⟩
  have G8:dm s3.heap d.heap.objs.size 0 n 1 d.toks ul (d.toks+1):=yN▸ra _ rfl
  refine E8 J.hd (F1.kp k3) G8 λh4 k4 O5=>?_
  have k4':Kp s3 {s3 with heap:=h4,toks:=s3.toks+0}:=xq 0 k4
  have hI:wc h4 (s3.heap.objs.size+0) ((n:Int)-1) n (-1):=O5
  refine dq hI ⟨_,rfl,k3.trans' k4',Eb k3 Qb,hI⟩
 ·intro C code A' i t m s' hA hi hk KW hm'
  have ad:∀z∈Nf,∀o,d.heap.get? z=some o->s'.heap.get? z=some o:=λz hz o e=>hk z (Oe _ hz) o e
  have F':=F1.oF ad
  have i3:s'.heap.IsCell c (some (.int v uv)):=by obtain ⟨o,e,q⟩:=D;exact⟨o,hk c (jc _ (za ..)) _ e,q⟩
  rw[xY hi] at hm'
  have r':RE (GW w) (xC (IH uN) [("val",c)] C code Hc env) [("i",.int ((n-1-i:Nat):Int)),("val",.int v)] s':=by
   refine sR (x:="i") (v:=.int ((n-1-i:Nat):Int) t) (m:=m) (by kernel_rfl) j.eg (cf F') (by kernel_rfl) KW hm' ⟨t,rfl⟩ ?_ ?_
   ·exact λy q e=>by rw[(SG e).1,<- (SG e).2];exact⟨by kernel_rfl,c,.int v uv,rfl,i3,⟨_,rfl⟩⟩
   ·have e1:(IH uN).names.all (λy=>y.2 != .cell&&(y.2 != .free||y.1=="val"))=true:=by kernel_rfl
    have:∀{y k},(IH uN).names.lookup y=some k->(k != .cell&&(k != .free||y=="val"))=true:=λhk=>List.all_eq_true.mp e1 _ (xc hk)
    exact λy Y=>Y.elim (λY=>nomatch this Y) λY=>by rw[eq_of_beq (show(y=="val")=true from this Y)];rfl
  rw[fY]
  refine Mf (Mf (ej r' rfl rfl λv1 h1=>ej r' rfl rfl λv2 h2=>?_))
  refine Nc λH=>?_;obtain ⟨w1,rfl⟩:=h1
  obtain ⟨w2,rfl⟩:=h2;refine H ?_
  refine MR (by omega) (Rb (and_int ⟨⟨_,rfl⟩,?_⟩))
  exact⟨s'.heap,_,rfl,λZ Z e=>e⟩
 ·intro a C I h' tk gs V h1 h2 h3 h4 h5 h6 h7 h8 h9
  have e:∀(h:Na) (g:Array Bc) (t:Nat),({d with heap:=h,gens:=g,toks:=t}:aa)={s with heap:=h,gens:=g,toks:=t}:=λh g t=>by rw[O]
  rw[E] at h7 h8
  rw[E]
  refine⟨_,rfl,?_⟩
  have key:=hQ a C I c h' tk gs V h1 (Eb l h2) (Eb l h3) (Eb l h4) p (λz o hz q=>h5 z o hz (l.get q)) h6 h8
   (Dc (h9 _ (.head _)) (Dc (h9 _ (.tail _ (.head _))) (Dc (D.imp λo q=>h5 _ o (λq'=>nomatch hH.tab.symm.trans ((congrArg s.heap.get? q').symm.trans p)) q.1) tj))) (λB hB=>e _ _ _▸h7 B hB)
  rw[<- e] at key
  exact key
end
section
variable{prog:wa}{w:ja}{A:ua}{s:aa}{env:Be}{R:Ob->aa->Prop}
noncomputable abbrev DI(a d i0 c f g b e:Oa)(scope:me)(pos:xd):Oa:=.ListComp a [⟨d,i0,[],0⟩,⟨c,f,[g],0⟩,⟨b,e,[],0⟩] scope pos
set_option tactic.hygienic true
theorem iS(a e i0 d f g b c:Oa)(scope:me)(pos:xd)(it yg:Value)(env:Be):
  compTurn (DI a e i0 d f g b c scope pos) 2 it yg env=(standAt c.pos>>=λ_=>Qg it>>=λr=>match r with
   |none=>pure (.done .next)
   |some v=>Tf b it v>>=λ_=>Ql b env v>>=λ_=>
    (eval a env>>=λx=>call (.builtin "list.append") [yg,x]>>=λ_=>pure ())>>=λ_=>
     again (.compLoop (DI a e i0 d f g b c scope pos) 2 it yg env)):=by rfl
theorem kS(a c i0 e b h d g:Oa)(scope:me)(pos:xd)(it yg:Value)(env:Be):
  compTurn (DI a c i0 e b h d g scope pos) 0 it yg env=(standAt i0.pos>>=λ_=>Qg it>>=λr=>match r with
   |none=>pure (.done .next)
   |some v=>Tf c it v>>=λ_=>Ql c env v>>=λ_=>
     eval b env>>=λx=>standAt b.pos>>=λ_=>ae b env x>>=λx=>holding [x] (wh x)>>=λf=>KI (.compStart (DI a c i0 e b h d g scope pos) 1 f yg env) env>>=λ_=>
     again (.compLoop (DI a c i0 e b h d g scope pos) 0 it yg env)):=by
 unfold compTurn
 rfl
theorem jS(a h i0 d e f g b:Oa)(scope:me)(pos:xd)(it yg:Value)(env:Be):
  compTurn (DI a h i0 d e f g b scope pos) 1 it yg env=(standAt e.pos>>=λ_=>Qg it>>=λr=>match r with
   |none=>pure (.done .next)
   |some v=>Tf d it v>>=λ_=>Ql d env v>>=λ_=>
    (forIn [f] true λc r=>if r=true then do let ok <- PySem.isTrue c env (eval c env);pure (uc ok) else pure (uc r))>>=λok=>if ok=true then
     eval b env>>=λx=>standAt b.pos>>=λ_=>ae b env x>>=λx=>holding [x] (wh x)>>=λi=>KI (.compStart (DI a h i0 d e f g b scope pos) 2 i yg env) env>>=λ_=>
     again (.compLoop (DI a h i0 d e f g b scope pos) 1 it yg env) else again (.compLoop (DI a h i0 d e f g b scope pos) 1 it yg env)):=by
 unfold compTurn
 rfl
set_option tactic.hygienic false
noncomputable def Cy(p:Nat->xd)(i0:Oa)(nm:xa)(scope:me):Oa:=
 DI (.Name "bit" (p 0)) (.Name "k" (p 1)) i0 (.Name "block" (p 2)) (.Name nm (p 3)) (.Compare (.Name "k" (p 4)) [.Lt] [.Call (.Name "len" (p 5)) [.Name "block" (p 6)] [] (p 7)] (p 8)) (.Name "bit" (p 9))
  (.Call (.Name "to_binary" (p 10)) [.Subscript (.Name "block" (p 11)) (.Name "k" (p 12)) (p 13)] [] (p 14)) scope (p 15)
noncomputable def vB(scope:me)(C:la)(env:Be):Be:=qd scope (xe env.cells scope.names []) C env
section
variable{p:Nat->xd}{i0:Oa}{nm:xa}{scope:me}{it yg:Value}{e:Be}
set_option tactic.hygienic true
theorem dO:compTurn (Cy p i0 nm scope) 2 it yg e=(standAt (p 14)>>=λ_=>Qg it>>=λr=>match r with
   |none=>pure (.done .next)
   |some v=>Tf (.Name "bit" (p 9)) it v>>=λ_=>Ql (.Name "bit" (p 9)) e v>>=λ_=>
    (eval (.Name "bit" (p 0)) e>>=λx=>call (.builtin "list.append") [yg,x]>>=λ_=>pure ())>>=λ_=>again (.compLoop (Cy p i0 nm scope) 2 it yg e)):=iS ..
theorem aF:compTurn (Cy p i0 nm scope) 0 it yg e=(standAt i0.pos>>=λ_=>Qg it>>=λr=>match r with
   |none=>pure (.done .next)
   |some v=>Tf (.Name "k" (p 1)) it v>>=λ_=>Ql (.Name "k" (p 1)) e v>>=λ_=>
     eval (.Name nm (p 3)) e>>=λx=>standAt (p 3)>>=λ_=>ae (.Name nm (p 3)) e x>>=λx=>holding [x] (wh x)>>=λa=>KI (.compStart (Cy p i0 nm scope) 1 a yg e) e>>=λ_=>
     again (.compLoop (Cy p i0 nm scope) 0 it yg e)):=kS ..
theorem ZE:compTurn (Cy p i0 nm scope) 1 it yg e=(standAt (p 3)>>=λ_=>Qg it>>=λr=>match r with
   |none=>pure (.done .next)
   |some v=>Tf (.Name "block" (p 2)) it v>>=λ_=>Ql (.Name "block" (p 2)) e v>>=λ_=>
    (forIn [zW (.Name "k" (p 4)) [.Lt] [.Call (.Name "len" (p 5)) [.Name "block" (p 6)] [] (p 7)] (p 8)] true λc r=>if r=true then do let ok <- PySem.isTrue c e (eval c e);pure (uc ok) else pure (uc r))>>=λok=>if ok=true then
     eval (.Call (.Name "to_binary" (p 10)) [.Subscript (.Name "block" (p 11)) (.Name "k" (p 12)) (p 13)] [] (p 14)) e>>=λx=>standAt (p 14)>>=λ_=>ae (.Call (.Name "to_binary" (p 10)) [.Subscript (.Name "block" (p 11)) (.Name "k" (p 12)) (p 13)] [] (p 14)) e x>>=λx=>
      holding [x] (wh x)>>=λa=>KI (.compStart (Cy p i0 nm scope) 2 a yg e) e>>=λ_=>
     again (.compLoop (Cy p i0 nm scope) 1 it yg e) else again (.compLoop (Cy p i0 nm scope) 1 it yg e)):=jS ..
end
set_option tactic.hygienic false
theorem aA{e:Oa}{d:Nat}{it yg:Value}{gc:qj}(b:(clausesOf e)[d]?=some gc)(g:(Pw e d it yg env).quiet=true)(hf:(Pw e d it yg env).isFrame=false)(f:(gc.is_async != 0)=false)
  (a:∀(Q:Value->aa->Prop) (E:Value->aa->Prop),Q it s->wpAny (ka prog w) (A.under (.compStart e d it yg env)) (wh it) Q E s) (c:(Code.compLoop e d it yg env).quiet=true)
  (h:codeAny (ka prog w) A (.compLoop e d it yg env) R s):codeAny (ka prog w) A (.compStart e d it yg env) R s:=by
 refine codeAny_of_tree ?_
 show wpAny _ _ (if (Pw e d it yg env).isFrame then (cX e d it yg env).onRaise (leaving env) else (cX e d it yg env).onRaise (λx=>do Bp x env;standAt theWindowsPlace)) _ _ s
 rw[hf]
 refine wpAny_notedAt ?_
 unfold cX
 simp only[b,Option.elim_some,f]
 show wpAny _ _ (ask>>=_) _ _ s
 refine zb (wpAny_askSetting (wpAny_ite ?_))
 split
 ·exact pa ⟨c,h⟩
 ·refine zb (eh ?_)
  refine zb (wb ?_)
  exact zb (a _ _ (pa ⟨c,h⟩))
end
section
variable{w:ja}{A:ua}{s:aa}{R:Ob->aa->Prop}
set_option tactic.hygienic true
theorem rU{p:Nat->xd}{i0:Oa}{nm:xa}{scope:me}{a C I D Cc:la}{gi n:Nat}{ex:List la}{f:Nat->Int}{cenv:Be}{ns:List Int}{m:xa->Option Value}(hh:A.handled=none)(l:A.depth < Le)
  (Y:cenv.scope.kind=.function) (h1:cenv.kindOf "bit"=some NameKind.local) (T:cenv.locals=Cc) (hg:Dl w A a gi C I ex n (Ey f) 0 s) (hz:ns.length+n<=2 ^ 20)
  (r:D∉a::C::I::(Nf++ex)) (t:Cc∉a::C::I::(Nf++ex)) (M:D≠Cc) (hD:Xd s.heap D ns) (hn:s.heap.Ns Cc m)
  (hR:∀s' z,Moved [D,Cc,C,I] (We gi) s s'->Xd s'.heap D (ns++(Qa n).map f)->s'.heap.Ns Cc z->R (.ok .next) s'):
  codeAny (ka PP w) A (.compLoop (Cy p i0 nm scope) 2 (.ref a) (.ref D) cenv) R s:=by
 have W:=hg.walks hh l
 have gr:∀a:Array Bc,We gi a a:=λ_=>.inl rfl
 have gt:∀a b c:Array Bc,We gi a b->We gi b c->We gi a c:=λ_ _ _ x y=>x.trans y
 subst T
 have g:∀{b:la},b∉a::C::I::(Nf++ex)->b∉[C,I]:=λhb q=>hb (W.sub _ q)
 refine gw rfl (λk s'=>∃i z,i<=n/\k=n-i/\Lr PP w A a gi C (I::(Nf++ex)) [I] (λ_=>true) n (Ey f) i s'/\Xd s'.heap D (ns++(Qa i).map f)/\s'.heap.Ns cenv.locals z /\
  Moved [D,cenv.locals,C,I] (We gi) s s') (λk s' hI=>?_) n ⟨0,m,Zb _,rfl,hg.gen,by simpa using hD,hn,nG gr⟩
 refine Nc λT=>?_;obtain ⟨i,z,hi,rfl,E,V,H,hm⟩:=hI;refine T ?_
 show wpAny _ _ ((compTurn (Cy p i0 nm scope) 2 (.ref a) (.ref D) cenv).onRaise (λx=>do Bp x cenv;theTreesLotGoes x)) _ _ s'
 refine zz ?_
 rw[dO]
 refine zb (wb (zb ?_))
 by_cases L:i < n
 ·refine W.item i s' _ _ L E λv s1 hF B d=>?_
  obtain ⟨u,rfl⟩:=hF
  have Q:Xd s1.heap D (ns++(Qa i).map f):=V.keeps λo e=>d.heap D o (g r) e
  have G:s1.heap.Ns cenv.locals z:=H.at' λo e=>d.heap _ o (g t) e
  refine zb (Aa (a:=()) rfl ?_)
  refine zb (Sb (Ie h1 G (λh2 J j=>?_) (by rw[Y];rfl)))
  refine zb (zb (Md (v:=.int (f i) u) Y (.inl ⟨h1,_,J,if_pos rfl⟩) (by decide) (by decide) ?_))
  have O:Xd h2 D (ns++(Qa i).map f):=Q.keeps λo e=>j.extBut _ o M e
  refine zb (append_at O (by rw[Ya,Yb,yc];lia) λh3 N h=>pa (pa ⟨rfl,n-(i+1),by lia,i+1,_,L,rfl,?_,?_,J.sameBut h (Hb M),?_⟩))
  ·refine W.frame (i+1) s1 h3 (s1.toks+1) B (ze _) λb hb o e=>h.extBut b o (λq=>r (q▸hb)) (j.extBut b o (λq=>t (q▸hb)) e)
  ·rw[Jk,Jf,<- Ze];exact N
  ·refine(hm.trans gt (d.mono λb hb=>ya _ (ya _ hb))).then_heap (tk:=s1.toks+1) (ze _) λb o hb e=>?_
   exact h.extBut b o (λq=>hb (q▸.head _)) (j.extBut b o (λq=>hb (q▸.tail _ (.head _))) e)
 ·have:i=n:=by lia
  subst this
  refine W.done s' _ _ E λs1 d=>pa ?_
  refine hR s1 z (hm.trans gt (d.mono λb hb=>ya _ (ya _ hb))) ?_ ?_
  ·exact V.keeps λo e=>d.heap D o (g r) e
  ·exact H.at' λo e=>d.heap _ o (g t) e
end
structure MS(P' c':la)(s s':aa):Prop where
 hp:∀b o,b≠P'->s.heap.get? b=some o->s'.heap.get? b=some o
 gb:(∀y∈s.gens,y.bare=true)->∀y∈s'.gens,y.bare=true
 gk:∀g,g < s.gens.size->s'.gens[g]?=s.gens[g]?
 dr:s'.drawn=s.drawn
 os:s'.os=s.os
 ok:∃ps,Yd s'.heap c' P' ps
structure CW(w:ja)(env:Be)(σ:List (xa×P))(s₀:aa)(B:la->Sa->Prop)(L:List (la×Sa))(s:aa)(P' f T c' X bk:la)(nm q:xa)(doc:Value)(t:jg)(oc:Sa)(data:List Int):Prop where
 x:SX w env σ s₀ B L s
 fk:Fk w s₀.heap
 ap:Ap env P'
 nb:∀o,¬B P' o
 nl:∀e∈L,e.1≠P'
 pf:P'∉Nf
 hP:∃o,s.heap.get? P'=some o
 hf:KL B L f ⟨.type "function",none,.func (Rr w q (.ref T) c' doc),#[]⟩
 hT:KL B L T (Bf [.int 8 t] 0)
 hc:KL B L c' oc
 hrec:∀h:Na,h.get? c'=some oc->h.CodeRec (.ref c') q
 hX:KL B L X (Wa [.ref bk] 1)
 hb:KL B L bk (qb (Ia data))
 lf:σ.lookup ("to_binary":xa)=some (.addr f)
 lX:σ.lookup nm=some (.addr X)
 by':Bh data
 len:data.length<=200
section
variable{w:ja}{A:ua}{N:Nat}{env:Be}{σ:List (xa×P)}{s₀ s s' Ng:aa}{B:la->Sa->Prop}{L:List (la×Sa)}{P' f T c' X bk:la}{nm q:xa}{doc:Value}{t:jg}{oc:Sa}{data:List Int}
set_option tactic.hygienic false
theorem CW.at(c:CW w env σ s₀ B L s P' f T c' X bk nm q doc t oc data)(m:MS P' c' s s'):SX w env σ {s₀ with gens:=s'.gens} B L s':=
 c.x.move (wr:=[P']) (λb hb=>by rw[List.mem_singleton.mp hb];exact⟨c.ap,c.nb,c.nl⟩) (λb o hb e=>m.hp b o (λq=>hb (by simp[q])) e) m.dr m.os
theorem MS.step(m:MS P' c' s s')(k:Kp s' Ng):MS P' c' s Ng:=by
 obtain ⟨h,tk,rfl,c⟩:=k
 refine m.ok.elim λps a=>?_
 exact⟨λb o hb e=>c b o (m.hp b o hb e),m.gb,m.gk,m.dr,m.os,ps,a.keeps c⟩
theorem MS.size(m:MS P' c' s s'):s.gens.size<=s'.gens.size:=by
 refine(Bt s'.gens.size s.gens.size).elim (λh=>?_) λh=>?_
 ·have:=m.gk s'.gens.size h
  rw[Gn (Ab _),se h] at this
  cases this
 ·exact h
theorem OA{g k:Nat}{a b:Array Bc}(x:We g a b)(h:k≠g):b[k]?=a[k]?:=by
 rcases x with rfl|⟨⟨_,c⟩,_⟩
 ·rfl
 ·exact c k h
theorem MS.but(m:MS P' c' s s'){wr:List la}{G:Array Bc->Array Bc->Prop}(h:Moved wr G s' Ng)(t:∀a b,G a b->(∀y∈a,y.bare=true)->∀y∈b,y.bare=true)(p:∀a b,G a b->∀g,g < s.gens.size->b[g]?=a[g]?)(n:∀b∈wr,s.heap.get? b=none)(hP:P'∉wr)(hc:c'∉wr):MS P' c' s Ng:=by
 refine m.ok.elim λps c=>?_
 refine Nc λu=>?_;obtain ⟨o,vs,k,x,d,w,l,f,v,op,j,r1,r2,A,r4,r5,z,i,r⟩:=id c.1;refine u ?_
 refine⟨λb o hb e=>h.heap b o (λq=>?_) (m.hp b o hb e),λhb=>t _ _ h.gens (m.gb hb),λg hg=>(p _ _ h.gens g hg).trans (m.gk g hg),h.drawn.trans m.dr,h.os.trans m.os,ps,c.mv j i (h.heap _ _ hc j) (h.heap _ _ hP i)⟩
 rw[n b q] at e;cases e
theorem CW.one(c:CW w env σ s₀ B L s P' f T c' X bk nm q doc t oc data)(m:MS P' c' s s'){I:la}{h':Na}{tk:Nat}(n:s.heap.get? I=none)(ht:s'.toks<=tk)(k:∀b o,b≠I->s'.heap.get? b=some o->h'.get? b=some o):MS P' c' s {s' with heap:=h',toks:=tk}:=
 m.but (wr:=[I]) (G:=λa b=>b=a) ⟨λb o hb e=>k b o (λq=>hb (q▸.head _)) e,rfl,rfl,rfl,ht⟩ (λa b e h=>e▸h) (λa b e g Z=>by rw[e]) (λb hb=>List.mem_singleton.mp hb▸n)
  (λq=>c.hP.elim λo e=>nomatch e.symm.trans ((congrArg s.heap.get? (List.mem_singleton.mp q)).trans n)) (λq=>nomatch (c.x.st.ks _ _ c.hc).symm.trans ((congrArg s.heap.get? (List.mem_singleton.mp q)).trans n))
end
theorem zq{scope:me}{y:xa}{p:P}(h:scope.names.lookup y=some .free):∀{σ:List (xa×P)},σ.lookup y=some p->(freeOf scope σ).lookup y=some p
 |[],e=>nomatch e
 |(z,q)::σ,e=>by
  unfold freeOf
  rw[Qt]
  rw[Ca] at e
  cases a:y==z with
  |true=>
   rw[a] at e
   have hz:=eq_of_beq a
   subst hz
   rw[if_pos (by rw[h];rfl),Ca,a]
   exact e
  |false=>
   rw[a] at e
   have b:=zq (scope:=scope) h (σ:=σ) e
   split
   ·rw[Ca,a];exact b
   ·exact b
noncomputable def oi(v:Int):List Int:=(Qa 8).map (Cs v 8)
section
variable{w:ja}{A:ua}{N:Nat}{env:Be}{σ:List (xa×P)}{s₀ s s1:aa}{B:la->Sa->Prop}{L:List (la×Sa)}{P' f T c' X bk:la}{nm q:xa}{doc:Value}{t:jg}{oc:Sa}{data:List Int}
variable{sc:List (xa×ub)}{scope:me}
theorem CW.old(c:CW w env σ s₀ B L s P' f T c' X bk nm q doc t oc data){b:la}{o:Sa}(h:KL B L b o):s.heap.get? b=some o/\b≠P':=
 ⟨c.x.st.ks b o h,λq=>h.elim (λh=>c.nb o (q▸h)) λh=>c.nl _ h q⟩
theorem CW.now(c:CW w env σ s₀ B L s P' f T c' X bk nm q doc t oc data)(m:MS P' c' s s1){b:la}{o:Sa}(h:KL B L b o):s1.heap.get? b=some o:=m.hp b o (c.old h).2 (c.old h).1
theorem CW.eP(c:CW w env σ s₀ B L s P' f T c' X bk nm q doc t oc data){b:la}(hb:s.heap.get? b=none):b≠P':=λq=>c.hP.elim λo e=>nomatch e.symm.trans ((congrArg s.heap.get? q).symm.trans hb)
theorem CW.ec(c:CW w env σ s₀ B L s P' f T c' X bk nm q doc t oc data){b:la}(hb:s.heap.get? b=none):b≠c':=λq=>nomatch (c.old c.hc).1.symm.trans ((congrArg s.heap.get? q).symm.trans hb)
theorem MS.fresh(m:MS P' c' s s1){b:la}(h:s1.heap.get? b=none):s.heap.get? b=none:=by
 cases e:s.heap.get? b with
 |none=>rfl
 |some o=>exact m.ok.elim λps a=>(dC b P').byCases (λq=>nomatch ((congrArg s1.heap.get? q).symm.trans h).symm.trans a.tab) λq=>nomatch (m.hp b o q e).symm.trans h
structure LS(P' c':la)(s s1:aa)(D Cc Zv:la)(out:List Int)(s2:aa):Prop where
 m:MS P' c' s s2
 l:Xd s2.heap D out
 n:∃mm,s2.heap.Ns Cc mm
 fr:∀b o,b∉[D,Cc,Zv,P']->s1.heap.get? b=some o->s2.heap.get? b=some o
structure KS(sc:List (xa×ub))(scope:me)(env:Be):Prop where
 pl:ue sc scope
 so:Ui sc env
 b:scope.names.lookup ("block":xa)=some NameKind.local
 k:scope.names.lookup ("k":xa)=some NameKind.local
 bit:scope.names.lookup ("bit":xa)=some NameKind.local
 t:scope.names.lookup ("to_binary":xa)=some kc
 ln:scope.names.lookup ("len":xa)=some Pc
theorem KS.T9(K:KS sc scope env)(c:CW w env σ s₀ B L s P' f T c' X bk nm q doc t oc data)(m:MS P' c' s s1){Cc:la}{mm:xa->Option Value}{k:Nat}{tk:jg}(a:mm "k"=some (.int k tk))
  (g:s1.heap.Ns Cc λy=>if y=("block":xa) then some (.ref bk) else mm y):RE (GW w) (vB scope Cc env) (([(("block":xa),P.addr bk),(("k":xa),P.int k)]:List (xa×P))++freeOf scope σ) s1:=
 bz K.pl K.so (c.at m).st.re g λy p e=>(Ge e).elim (λd=>by rw[d.1,<- d.2];exact⟨K.b,.ref bk,if_pos rfl,rfl⟩) λd=>by rw[(SG d.2).1,<- (SG d.2).2];exact⟨K.k,.int k tk,(if_neg (by decide)).trans a,tk,rfl⟩
theorem xG{p:Nat->xd}{i0:Oa}{Cc:la}{mm:xa->Option Value}{k:Nat}{tk:jg}(g:GA (N+8) A)(c:CW w env σ s₀ B L s P' f T c' X bk nm q doc t oc data)(m:MS P' c' s s1)(K:KS sc scope env)(H:mm "k"=some (.int k tk))(hk:k < data.length)
  (hn:s1.heap.Ns Cc λy=>if y=("block":xa) then some (.ref bk) else mm y) {α:Type} {F:Value->Vb α} {G:Vb α} {Q:α->aa->Prop}
  (hQ:∀a C I c2 s2,MS P' c' s s2->(∀b o,b≠P'->s1.heap.get? b=some o->s2.heap.get? b=some o)->s2.heap.IsGen a (s2.gens.size-1)->s.gens.size<=s2.gens.size-1->
   Dl w A a (s2.gens.size-1) C I [c2] 8 (Ey (Cs (data.getD k 0) 8)) 0 s2->(∀b∈[a,C,I,c2],s1.heap.get? b=none)->wpAny (ka PP w) A (F (.ref a)) Q Jc s2):
  wpAny (ka PP w) A ((forIn [zW (.Name "k" (p 4)) [.Lt] [.Call (.Name "len" (p 5)) [.Name "block" (p 6)] [] (p 7)] (p 8)] true λc r=>if r=true then do let ok <- PySem.isTrue c (vB scope Cc env) (eval c (vB scope Cc env));pure (uc ok) else pure (uc r))>>=λok=>if ok=true then
   eval (.Call (.Name "to_binary" (p 10)) [.Subscript (.Name "block" (p 11)) (.Name "k" (p 12)) (p 13)] [] (p 14)) (vB scope Cc env)>>=F else G) Q Jc s1:=by
 have r3:=K.T9 c m H hn
 refine Ua (wpAny_tests_one (Je (ej (x:="k") (p:=.int k) r3 (by decide) rfl λv1 h1=>?_)))
 obtain ⟨u1,rfl⟩:=h1
 refine Yc ⟨_,_,rfl⟩ (name_buil r3 (Ho "len" K.ln (by decide)) (ke w (za ..)) (v:=.builtin "len") (by kernel_rfl) (by decide) (by decide) ?_)
 refine md (xs:=[eval (.Name _ _) _]) (show 1<=30 by decide) (ej (x:="block") (p:=.addr bk) r3 (by decide) rfl λv2 h2=>?_)
 obtain rfl:v2=.ref bk:=h2
 refine Aa (a:=Xa) rfl ?_
 have P2:=c.len
 refine Ds (c.now m c.hb) (by lia) λu2 u=>?_
 refine Lb (yu (op:=.Lt) (p:=.int k) (q:=.int data.length) rfl ⟨_,rfl⟩ ⟨_,rfl⟩ g.units) (λv M h4=>?_) λZ Z q=>q.elim
 obtain ⟨rfl,rfl⟩:=h4
 rw[show decide ((k:Int) < (data.length:Int))=true from decide_eq_true (Int.ofNat_lt.mpr hk)]
 refine Zd ?_
 rw[if_pos rfl]
 have V:Kp s1 {s1 with toks:=u}:=.tok _
 generalize ({s1 with toks:=u}:aa)=M at V ⊢
 have m4:=m.step V
 have r4:=K.T9 c m4 H (hn.keeps λZ Z e=>V.get e)
 refine zb (Yc ⟨_,_,rfl⟩ (ej (x:="to_binary") (p:=.addr f) r4 (by decide) (Mc (Mc (zq K.t c.lf) (by decide)) (by decide)) λv3 h3=>?_))
 obtain rfl:v3=.ref f:=h3
 refine md (xs:=[eval (.Subscript _ _ _) _]) (show 1<=30 by decide) (Hh (ej (x:="block") (p:=.addr bk) r4 (by decide) rfl λv5 h5=>ej (x:="k") (p:=.int k) r4 (by decide) rfl λv6 Y=>?_))
 obtain rfl:v5=.ref bk:=h5
 obtain ⟨u6,rfl⟩:=Y
 refine cG (c.now m4 c.hb) c.by' (by lia) (by lia) (by lia) (Xf λZ Z Z Z q=>nomatch q) λu7 l=>?_
 have k5:Kp M {M with toks:=l}:=.tok _
 generalize ({M with toks:=l}:aa)=i at k5 ⊢
 have d:=m4.step k5
 refine d.ok.elim λps5 E=>Nj (c.now d c.hf) rfl ?_
 refine oB (N:=N+4) (n:=8) (v:=data.getD k 0) (g.mono (by lia)) ((c.at d).fk c.fk) (c.now d c.hf) (c.hrec _ (c.now d c.hc)) E c.pf (YH (c.now d c.hT)) ⟨_,rfl⟩ ⟨_,rfl⟩ ⟨by decide,by decide⟩ (λhA F hr hq=>b7 hA F hr hq) λa C I c2 Y J9 h W9 j na nC nI nc QU D J jH hG=>?_
 have z:=V.trans' k5
 have up:∀b o,b≠P'->s1.heap.get? b=some o->Y.get? b=some o:=λb o hb e=>QU b o hb (z.get e)
 have O:∀{b:la},i.heap.get? b=none->s1.heap.get? b=none:=λe=>Eb z e
 have hz:(i.gens.push h).size-1=i.gens.size:=by rw[Ck];rfl
 refine hQ a C I c2 _ ⟨λb o hb e=>up b o hb (m.hp b o hb e),λhb y hy=>(Array.mem_push.mp hy).elim (d.gb hb y) λq=>q▸j,λg hg=>?_,d.dr,d.os,W9,D⟩ up ?_ ?_ ?_ (Dc (O na) (Dc (O nC) (Dc (O nI) (Dc (O nc) tj))))
 ·show(i.gens.push h)[g]?=_
  rw[Array.getElem?_push,if_neg (Va (Za hg d.size))]
  exact d.gk g hg
 ·show Y.IsGen a ((i.gens.push h).size-1)
  rw[hz];exact J
 ·show s.gens.size<=(i.gens.push h).size-1
  rw[hz];exact d.size
 ·show Dl w A a ((i.gens.push h).size-1) _ _ _ _ _ _ _
  rw[hz];exact hG A g.hd
theorem OC{p:Nat->xd}{i0:Oa}{Zv D Cc:la}{ns:List Int}{mm:xa->Option Value}{k:Nat}{tk:jg}(g:GA (N+8) A)(c:CW w env σ s₀ B L s P' f T c' X bk nm q doc t oc data)(m1:MS P' c' s s1)(K:KS sc scope env)
  (C3:s1.heap.IsListIter Zv X 0) (hD:Xd s1.heap D ns) (hn:s1.heap.Ns Cc mm) (hmk:mm "k"=some (.int k tk)) (hk:k < data.length) (hz:ns.length<=2 ^ 19)
  (nD:s.heap.get? D=none) (Y:s.heap.get? Cc=none) (nI:s.heap.get? Zv=none) (V:D≠Cc) (O:D≠Zv) (y:Cc≠Zv) {Q:Fin->aa->Prop}
  (hQ:∀s2,s2.heap.IsListIter Zv X 1->LS P' c' s s1 D Cc Zv (ns++oi (data.getD k 0)) s2->Q (.again (.compLoop (Cy p i0 nm scope) 1 (.ref Zv) (.ref D) (vB scope Cc env))) s2):
  wpAny (ka PP w) A (compTurn (Cy p i0 nm scope) 1 (.ref Zv) (.ref D) (vB scope Cc env)) Q Jc s1:=by
 have J:(vB scope Cc env).scope.kind=.function:=K.pl.kind
 rw[ZE]
 refine zb (wb (zb (aq C3 ⟨_,c.now m1 c.hX,rfl,_,rfl⟩ (x:=.ref bk) rfl λG WU j=>?_)))
 refine zb (Aa (a:=()) rfl (zb (Sb (Ie (Yg K.b) (hn.sameBut j y) (λv r i=>?_) (by rw[J];rfl)))))
 have m3:=c.one (tk:=s1.toks+1) (c.one (tk:=s1.toks) m1 nI (Ab _) λb o hb e=>j.extBut b o hb e) Y (ze _) λb o hb e=>i.extBut b o hb e
 have H:Xd v D ns:=hD.keeps λo e=>i.extBut _ o V (j.extBut _ o O e)
 have B3:v.IsListIter Zv X 1:=WU.extBut i.extBut (Hb y)
 have JQ:∀b o,b≠Zv->b≠Cc->s1.heap.get? b=some o->v.get? b=some o:=λb o b1 b2 e=>i.extBut b o b2 (j.extBut b o b1 e)
 refine xG (N:=N) (i0:=i0) g c m3 K hmk hk r λa C I c2 s6 m6 d m JW hG no=>?_
 have n4:=List.forall_mem_cons.mp no
 have n5:=List.forall_mem_cons.mp n4.2
 have n6:=List.forall_mem_cons.mp n5.2
 have n7:=List.forall_mem_cons.mp n6.2
 refine zb (wb (zb (Aa (a:=.ref a) rfl (zb (Ma (Nx m (zb (wpAny_runOwn ?_))))))))
 have Q2:Xd s6.heap D ns:=H.keeps λo e=>d _ o (c.eP nD) e
 have hn6:=r.at' λo e=>d _ o (c.eP Y) e
 have out:∀{z:la} {o:Sa},v.get? z=some o->s.heap.get? z=none->z∉a::C::I::(Nf++[c2]):=λ{z o} e n=>sy (Ef e n4.1) (sy (Ef e n5.1) (sy (Ef e n6.1)
  λq=>(List.mem_append.mp q).elim (λq=>(ei (c.x.fk c.fk) z q).elim λo' e'=>nomatch e'.symm.trans n) λq=>Ef e n7.1 (List.mem_singleton.mp q)))
 refine aA (gc:=⟨.Name "bit" (p 9),_,[],0⟩) rfl rfl rfl rfl (λQ E hq=>Nx m hq) rfl ?_
 have hDo:∃o,v.get? D=some o:=H.elim λvs q=>q.elim λn q=>⟨_,q.1⟩
 have hCo:∃o,v.get? Cc=some o:=r.elim λo q=>q.elim λZ q=>q.elim λZ q=>⟨_,q.1⟩
 refine hDo.elim λoD eD=>hCo.elim λoC eC=>?_
 refine rU (f:=Cs (data.getD k 0) 8) (C:=C) (I:=I) (n:=8) (ex:=[c2]) (ns:=ns) g.hd g.room J (Yg K.bit) rfl hG (by lia) (out eD nD) (out eC Y) V Q2 hn6 λs7 mm7 u hl7 J8=>pa ?_
 have hw:∀b∈[D,Cc,C,I],s.heap.get? b=none:=Dc nD (Dc Y (Dc (m3.fresh n5.1) (Dc (m3.fresh n6.1) tj)))
 have l:∀{b:la} {o:Sa},v.get? b=some o->b≠D->b≠Cc->b∉[D,Cc,C,I]:=λ{b o} e h1 G=>sy h1 (sy G (sy (Ef e n5.1) (sy (Ef e n6.1) λq=>nomatch q)))
 have m7:=m6.but u (λa b h=>h.bare) (λa b h g hg=>OA h (Va (Za hg JW))) hw (λq=>c.eP (hw _ q) rfl) (λq=>c.ec (hw _ q) rfl)
 refine hQ s7 ?_ ⟨m7,hl7,⟨mm7,J8⟩,λb o hb e=>?_⟩
 ·exact B3.imp λoI q=>⟨u.heap _ _ (l q.1 (Hb O) (Hb y)) (d _ _ (c.eP nI) q.1),q.2⟩
 ·have h1:=uF hb
  have G:=uF h1.2
  have M:=uF G.2
  have e3:=JQ b o M.1 G.1 e
  exact u.heap _ _ (l e3 h1.1 G.1) (d _ _ (λq=>M.2 (q▸.head _)) e3)
set_option tactic.hygienic true
theorem sU{p:Nat->xd}{i0:Oa}{Zv D Cc:la}{ns:List Int}{mm:xa->Option Value}{k:Nat}{tk:jg}(g:GA (N+8) A)(c:CW w env σ s₀ B L s P' f T c' X bk nm q doc t oc data)(G:MS P' c' s s1)(K:KS sc scope env)
  (r:s1.heap.IsListIter Zv X 0) (M:Xd s1.heap D ns) (H:s1.heap.Ns Cc mm) (i:mm "k"=some (.int k tk)) (I:k < data.length) (hz:ns.length<=2 ^ 19)
  (z:s.heap.get? D=none) (C:s.heap.get? Cc=none) (y:s.heap.get? Zv=none) (v:D≠Cc) (a:D≠Zv) (d:Cc≠Zv)
  (J:∀s2,LS P' c' s s1 D Cc Zv (ns++oi (data.getD k 0)) s2->R (.ok .next) s2):
  codeAny (ka PP w) A (.compLoop (Cy p i0 nm scope) 1 (.ref Zv) (.ref D) (vB scope Cc env)) R s1:=by
 refine gw rfl (λn s'=>(n=1/\s'=s1)\/(n=0/\s'.heap.IsListIter Zv X 1/\LS P' c' s s1 D Cc Zv (ns++oi (data.getD k 0)) s')) (λn s' hI=>?_) 1 (.inl ⟨rfl,rfl⟩)
 show wpAny _ A ((compTurn (Cy p i0 nm scope) 1 (.ref Zv) (.ref D) (vB scope Cc env)).onRaise (λx=>do Bp x (vB scope Cc env);theTreesLotGoes x)) _ _ s'
 refine zz (Lb (E:=Jc) ?_ (λ_ _ q=>q) λ_ _ e=>e.elim)
 rcases hI with ⟨rfl,rfl⟩|⟨rfl,u,x⟩
 ·exact OC g c G K r M H i I hz z C y v a d λs2 j x=>⟨rfl,0,uQ,.inr ⟨rfl,j,x⟩⟩
 ·rw[ZE]
  refine zb (wb (zb (Hq g.hd u ⟨_,c.now x.m c.hX,rfl,_,rfl⟩ rfl λO h=>pa ?_)))
  exact J {s' with heap:=O} ⟨c.one (tk:=s'.toks) x.m y (Ab _) λb o hb e=>h b o hb e,x.l.keeps λo e=>h _ o a e,x.n.imp λm n=>n.extBut h d,λb o hb e=>h b o (λq=>hb (q▸.tail _ (.tail _ (.head _)))) (x.fr b o hb e)⟩
end
set_option tactic.hygienic false
noncomputable def jb(l:List Int):List Int:=(l.map oi).flatten
theorem Nk(v:Int):(oi v).length=8:=by simp[oi]
theorem Wd:∀l:List Int,(jb l).length=8*l.length
 |[]=>rfl
 |v::l=>by
  have:=Wd l
  unfold jb at this ⊢
  rw[vb,yj,Ya,Nk,this,fg];lia
theorem DB(l:List Int)(k:Nat)(h:k < l.length):jb (l.take (k+1))=jb (l.take k)++oi (l.getD k 0):=by
 delta jb
 rw[Ms,Jf,List.flatten_append,Yj h]
 simp
section
variable{w:ja}{A:ua}{N:Nat}{env:Be}{σ:List (xa×P)}{s₀ s s1:aa}{B:la->Sa->Prop}{L:List (la×Sa)}{P' f T c' X bk:la}{nm q:xa}{doc:Value}{t:jg}{oc:Sa}{data:List Int}
variable{sc:List (xa×ub)}{scope:me}{R:Ob->aa->Prop}
theorem PC{p:Nat->xd}{i0:Oa}{d D Cc:la}{mm:xa->Option Value}{k:Nat}(g:GA (N+8) A)(c:CW w env σ s₀ B L s P' f T c' X bk nm q doc t oc data)(m1:MS P' c' s s1)(K:KS sc scope env)
  (r:scope.names.lookup nm=some kc) (V:Gd nm=false) (Y8:wc s1.heap d k ((data.length:Int)-k) 1) (hD:Xd s1.heap D (jb (data.take k))) (hn:s1.heap.Ns Cc mm) (z:k < data.length)
  (nD:s.heap.get? D=none) (nC:s.heap.get? Cc=none) (nI:s.heap.get? d=none) (J:D≠Cc) (I:D≠d) (v:Cc≠d) {Q:Fin->aa->Prop}
  (hQ:∀s2,MS P' c' s s2->Xd s2.heap D (jb (data.take (k+1)))->(∃mm,s2.heap.Ns Cc mm)->wc s2.heap d ((k+1:Nat):Int) ((data.length:Int)-((k+1:Nat):Int)) 1->Q (.again (.compLoop (Cy p i0 nm scope) 0 (.ref d) (.ref D) (vB scope Cc env))) s2):
  wpAny (ka PP w) A (compTurn (Cy p i0 nm scope) 0 (.ref d) (.ref D) (vB scope Cc env)) Q Jc s1:=by
 have hkc:(vB scope Cc env).scope.kind=.function:=K.pl.kind
 have P2:=c.len
 rw[aF]
 refine zb (wb (zb (Kj Y8 (by lia) λh2 WU j=>?_)))
 refine zb (Aa (a:=()) rfl (zb (Sb (Ie (Yg K.k) (hn.sameBut j v) (λh u i=>?_) (by rw[hkc];rfl)))))
 have O:=c.one (tk:=s1.toks+1+1) (c.one (tk:=s1.toks+1) m1 nI (ze _) λb o hb e=>j.extBut b o hb e) nC (ze _) λb o hb e=>i.extBut b o hb e
 have C:Xd h D (jb (data.take k)):=hD.keeps λo e=>i.extBut _ o J (j.extBut _ o I e)
 have H:wc h d ((k:Int)+1) ((data.length:Int)-k-1) 1:=i.extBut _ _ (Hb v) WU
 have r3:RE (GW w) (vB scope Cc env) (([(("k":xa),P.int k)]:List (xa×P))++freeOf scope σ) _:=bz K.pl K.so (c.at O).st.re u λy p e=>by rw[(SG e).1,<- (SG e).2];exact⟨K.k,.int k s1.toks,if_pos rfl,_,rfl⟩
 have hnk:(nm==("k":xa))=false:=by
  cases hy:nm==("k":xa) with
  |false=>rfl
  |true=>rw[eq_of_beq hy,K.k] at r;exact nomatch r
 refine zb (ej (x:=nm) (p:=.addr X) r3 V (Mc (zq r c.lX) hnk) λv1 h1=>?_)
 obtain rfl:v1=.ref X:=h1
 have hX3:=c.now O c.hX
 refine zb (wb (zb (Aa (a:=.ref X) rfl (zb (Ma (Xg ⟨_,hX3,rfl,_,rfl⟩ (zb (wpAny_runOwn ?_))))))))
 have up:∀{b o},h.get? b=some o->(h.push {cls:=.type "list_iterator",data:=.fields #[.ref X,.int 0 0]}).get? b=some o:=λe=>fa _ e
 have m4:=O.step (.push {cls:=.type "list_iterator",data:=.fields #[.ref X,.int 0 0]})
 have G:(h.push {cls:=.type "list_iterator",data:=.fields #[.ref X,.int 0 0]}).IsListIter h.objs.size X 0:=⟨_,ra _ rfl,rfl,rfl⟩
 have Y:∀{b o},h.get? b=some o->b≠h.objs.size:=λe=>Va (Ba e)
 refine aA (gc:=⟨.Name "block" (p 2),.Name nm (p 3),[_],0⟩) rfl rfl rfl rfl (λQ E hq=>Iq G hq) rfl ?_
 refine sU (k:=k) (tk:=s1.toks) (ns:=jb (data.take k)) g c m4 K G (C.keeps λo e=>up e) (u.keeps λZ Z e=>up e) (if_pos rfl) z (by rw[Wd,yi];lia) nD nC (O.fresh Qb) J
  (C.elim λZ q=>q.elim λZ q=>Y q.1) (u.elim λZ q=>q.elim λZ q=>q.elim λZ q=>Y q.1) λs5 M=>pa ?_
 refine hQ s5 M.m ?_ M.n ?_
 ·rw[DB data k z];exact M.l
 ·rw[show(data.length:Int)-((k+1:Nat):Int)=(data.length:Int)-k-1 by lia]
  exact M.fr d _ (sy (Hb I) (sy (Hb v) (sy (Y H) (sy (c.eP nI) λq=>nomatch q)))) (up H)
set_option tactic.hygienic true
theorem tU{p:Nat->xd}{i0:Oa}{a D Cc:la}{mm:xa->Option Value}(g:GA (N+8) A)(c:CW w env σ s₀ B L s P' f T c' X bk nm q doc t oc data)(Q:MS P' c' s s1)(K:KS sc scope env)
  (v:scope.names.lookup nm=some kc) (r:Gd nm=false) (y:wc s1.heap a 0 data.length 1) (hD:Xd s1.heap D []) (Y:s1.heap.Ns Cc mm)
  (I:s.heap.get? D=none) (J:s.heap.get? Cc=none) (G:s.heap.get? a=none) (C:D≠Cc) (l:D≠a) (m:Cc≠a)
  (hR:∀s2,MS P' c' s s2->Xd s2.heap D (jb data)->(∃mm,s2.heap.Ns Cc mm)->R (.ok .next) s2):
  codeAny (ka PP w) A (.compLoop (Cy p i0 nm scope) 0 (.ref a) (.ref D) (vB scope Cc env)) R s1:=by
 refine gw rfl (λn s'=>∃k:Nat,k<=data.length/\n=data.length-k/\MS P' c' s s'/\Xd s'.heap D (jb (data.take k))/\(∃mm,s'.heap.Ns Cc mm)/\wc s'.heap a k ((data.length:Int)-k) 1) (λn s' hI=>?_) data.length
  ⟨0,Zb _,rfl,Q,hD,⟨mm,Y⟩,by simpa using y⟩
 refine Nc λhC=>?_;obtain ⟨k,hk,rfl,H,h,⟨u,i⟩,j⟩:=hI;refine hC ?_
 show wpAny _ A ((compTurn (Cy p i0 nm scope) 0 (.ref a) (.ref D) (vB scope Cc env)).onRaise (λx=>do Bp x (vB scope Cc env);theTreesLotGoes x)) _ _ s'
 refine zz (Lb (E:=Jc) ?_ (λ_ _ q=>q) λ_ _ e=>e.elim)
 by_cases d:k < data.length
 ·exact PC g c H K v r j h i d I J G C l m λs2 O l2 M V=>⟨rfl,data.length-(k+1),mI d (Dd k),k+1,d,rfl,O,l2,M,V⟩
 ·obtain rfl:k=data.length:=Hg hk (Nat.not_lt.mp d)
  rw[aF]
  refine zb (wb (zb (sk g.hd j (by lia) λh2 z=>pa ?_)))
  rw[List.take_length] at h
  exact hR {s' with heap:=h2} (c.one (tk:=s'.toks) H G (Ab _) λb o hb e=>z b o hb e) (h.keeps λo e=>z _ o l e) ⟨u,i.extBut z m⟩
end
section
variable{w:ja}{A:ua}{N:Nat}{env:Be}{σ:List (xa×P)}{s₀ s s1:aa}{B:la->Sa->Prop}{L:List (la×Sa)}
variable{sc:List (xa×ub)}{scope:me}{R:Ob->aa->Prop}
set_option tactic.hygienic false
theorem LH{pe pl H5 pcl pos pi:xd}{nm:xa}{X bk:la}{data:List Int}(g:GA (N+8) A)(F:Fk w s₀.heap)(x:SX w env σ s₀ B L s)(so:Ui sc env)(d:ue sc scope)(kb:scope.names.lookup ("block":xa)=some NameKind.local)(U1:scope.names.lookup ("len":xa)=some Pc)
  (lX:σ.lookup nm=some (.addr X)) (O6:Gd nm=false) (hX:KL B L X (Wa [.ref bk] 1)) (hb:KL B L bk (qb (Ia data))) (hz:data.length<=2 ^ 20) {Q:Value->aa->Prop}
  (hQ:∀D s',Kp s s'->Xd s'.heap D [(data.length:Int)]->Q (.ref D) s'):
  wpAny (ka PP w) A (eval (.ListComp (.Call (.Name "len" pl) [.Name "block" H5] [] pcl) [⟨.Name "block" pe,.Name nm pi,[],0⟩] scope pos) env) Q Jc s:=by
 have hh:=g.hd
 have r:=x.st.re
 rw[Mt]
 refine fh (use:=none) rfl (λZ=>rfl) (Of (Io d so r)) d.kind d.locs ?_
 refine x.Gp lX O6 ?_
 have u:=x.st.ks _ _ hX
 refine Xg ⟨_,u,rfl,_,rfl⟩ ?_
 generalize V:({s with heap:=s.heap.push {cls:=.type "list_iterator",data:=.fields #[.ref X,.int 0 0]}}:aa)=s1
 have k1:Kp s s1:=V▸.push _
 have l:s1.heap.IsListIter s.heap.objs.size X 0:=V▸⟨_,ra _ rfl,rfl,rfl⟩
 have nI:s.heap.get? s.heap.objs.size=none:=Qb
 generalize s.heap.objs.size=I at l nI
 refine Nc λi=>?_;obtain ⟨oIt,eIt,_⟩:=id l;refine i ?_
 refine Bs d.nocell d.kind (λs' Q E k hq=>Iq (l.at λo e=>k.get e) hq) λD C s2 k2 hD i z D3 hn=>?_
 have nD:=Eb k1 hD
 have nC:=Eb k1 i
 have G:D≠I:=λq=>by rw[q,eIt] at hD;exact nomatch hD
 have H:C≠I:=λq=>by rw[q,eIt] at i;exact nomatch i
 have WU:s2.heap.IsListIter I X 0:=l.at λo e=>k2.get e
 have T:=k1.trans' k2
 refine codeAny_compLoop_list (λn s'=>(n=1/\s'=s2)\/(n=0/\∃mm,Kp s s'/\Xd s'.heap D [(data.length:Int)]/\s'.heap.Ns C mm/\s'.heap.IsListIter I X 1)) (λn s' hI=>?_) 1 (.inl ⟨rfl,rfl⟩)
 refine Lb (E:=Jc) (Q:=_) ?_ (λZ Z q=>q) λZ Z e=>e.elim
 rcases hI with ⟨rfl,rfl⟩|⟨rfl,mm,k',hl',KW,hI'⟩
 ·refine aq WU ⟨_,T.get u,rfl,_,rfl⟩ (x:=.ref bk) rfl λh3 B3 t=>?_
  have hn3:h3.Ns C (λZ=>none):=hn.sameBut t H
  refine Lb (E:=Jc) ?_ (λZ Z q=>q) λZ Z e=>e.elim
  refine Sb (Ie (Yg kb) hn3 (λj f c=>?_) (by rw[show(qd scope (xe env.cells scope.names []) C env).scope.kind=.function from d.kind];rfl))
  have f:j.Ns C (λy=>if y=("block":xa) then some (.ref bk) else none):=f
  have c:Ad C h3 j:=c
  have J:∀{b o},s.heap.get? b=some o->b≠I/\b≠C/\b≠D:=λe=>⟨Ef e nI,Ef e nC,Ef e nD⟩
  have k4:Kp s {s' with heap:=j,toks:=s'.toks+1}:=by
   refine Nc λi=>?_;obtain ⟨h,tk,e,O⟩:=T;refine i ?_
   subst e
   exact⟨j,_,rfl,λb o e=>c.extBut _ _ (J e).2.1 (t.extBut _ _ (J e).1 (O b o e))⟩
  have Y:Xd j D []:=⟨[],0,c.extBut _ _ z (t.extBut _ _ G D3),.nil⟩
  have O5:j.IsListIter I X 1:=B3.extBut c.extBut (Hb H)
  generalize xN:({s' with heap:=j,toks:=s'.toks+1}:aa)=s4 at k4 ⊢
  have U2:s4.heap=j:=by rw[<- xN]
  rw[<- U2] at f Y O5
  have r4:RE (GW w) (qd scope (xe env.cells scope.names []) C env) (([(("block":xa),P.addr bk)]:List (xa×P))++freeOf scope σ) s4:=by
   exact bz d so (x.step k4).st.re f λy p e=>by rw[(SG e).1,<- (SG e).2];exact⟨kb,.ref bk,if_pos rfl,rfl⟩
  refine Lb (E:=Jc) ?_ (λZ Z q=>q) λZ Z e=>e.elim
  refine Yc ⟨_,_,rfl⟩ (name_buil r4 (Ho "len" U1 (by decide)) (ke w (za ..)) (v:=.builtin "len") (by kernel_rfl) (by decide) (by decide) ?_)
  refine md (xs:=[eval (.Name _ _) _]) (show 1<=30 by decide) ?_
  refine ej (x:="block") (p:=.addr bk) r4 (by decide) rfl λv2 h2=>?_
  have h2:v2=.ref bk:=h2
  subst h2
  refine Aa (a:=Xa) rfl ?_
  have n3:nh s4.heap bk data:=(x.step k4).st.ks _ _ hb
  refine Ds n3 (by lia) λu2 tk2=>?_
  refine Lb (E:=Jc) ?_ (λZ Z q=>q) λZ Z e=>e.elim
  refine append_at Y (by decide) λh5 R2 m=>⟨0,by lia,.inr ⟨rfl,_,?_,R2,f.sameBut m (Hb z),O5.extBut m.extBut (Hb G)⟩⟩
  refine Nc λi=>?_;obtain ⟨h,tk,e,O⟩:=k4;refine i ?_
  refine⟨h5,tk2,by rw[e],λb o M=>m.extBut _ _ (J M).2.2 ?_⟩
  rw[e];exact O b o M
 ·refine Hq hh hI' ⟨_,k'.get u,rfl,_,rfl⟩ rfl λh3 e3=>?_
  refine⟨mm,KW.extBut e3 H,λj c=>?_⟩
  have J:∀{b o},s.heap.get? b=some o->b≠I/\b≠C:=λe=>⟨Ef e nI,Ef e nC⟩
  refine hQ D {s' with heap:=j} ?_ (hl'.keeps λo e=>c.extBut _ o z (e3 _ o G e))
  refine Nc λi=>?_;obtain ⟨h,tk,e,O⟩:=k';refine i ?_
  subst e
  exact⟨j,tk,rfl,λb o M=>c.extBut _ _ (J M).2 (e3 _ _ (J M).1 (O b o M))⟩
end
section
variable{w:ja}{A:ua}{N:Nat}{env:Be}{σ:List (xa×P)}{s₀ s s1:aa}{B:la->Sa->Prop}{L:List (la×Sa)}{P' f T c' X bk:la}{nm q:xa}{doc:Value}{t:jg}{oc:Sa}{data:List Int}
variable{sc:List (xa×ub)}{scope Mh:me}{R:Ob->aa->Prop}
theorem iE{pos pb O M pk pl H5 V G J I H j pe pt Y r1 r2 r3 r4 r5 r6 r7 r8 r9 rp:xd}(g:GA (N+8) A)(c:CW w env σ s₀ B L s P' f T c' X bk nm q doc t oc data)(hH:∃ps,Yd s.heap c' P' ps)
  (so:Ui sc env) (kr:env.kindOf "range"=some Pc) (km:env.kindOf "max"=some Pc)
  (o7:ue sc Mh) (l8:Mh.names.lookup ("block":xa)=some NameKind.local) (i8:Mh.names.lookup ("len":xa)=some Pc)
  (d:ue sc scope) (kb:scope.names.lookup ("block":xa)=some NameKind.local) (kk:scope.names.lookup ("k":xa)=some NameKind.local) (j8:scope.names.lookup ("bit":xa)=some NameKind.local) (kt:scope.names.lookup ("to_binary":xa)=some kc) (U1:scope.names.lookup ("len":xa)=some Pc) (d8:scope.names.lookup nm=some kc) (y:Gd nm=false)
  {Q:Value->aa->Prop} (hQ:∀D s',s.heap.get? D=none->MS P' c' s s'->Xd s'.heap D (jb data)->Q (.ref D) s'):
  wpAny (ka PP w) A (eval (DI (.Name "bit" pe) (.Name "k" M) (.Call (.Name "range" r1) [.Call (.Name "max" r2) [.ListComp (.Call (.Name "len" r3) [.Name "block" r4] [] r5) [⟨.Name "block" r6,.Name nm r7,[],0⟩] Mh r8] [] r9] [] rp) (.Name "block" pb) (.Name nm O)
   (.Compare (.Name "k" pk) [.Lt] [.Call (.Name "len" pl) [.Name "block" H5] [] Y] V) (.Name "bit" pt) (.Call (.Name "to_binary" G) [.Subscript (.Name "block" J) (.Name "k" I) H] [] j) scope pos) env) Q Jc s:=by
 have hh:=g.hd
 have P2:=c.len
 have r:=c.x.st.re
 have m0:MS P' c' s s:=⟨λZ Z Z e=>e,λh=>h,λZ Z=>rfl,rfl,rfl,hH⟩
 rw[Mt]
 refine fh (use:=none) rfl (λZ=>rfl) (Of (Io d so r)) d.kind d.locs ?_
 refine Yc ⟨_,_,rfl⟩ (name_buil r kr (ke w (.tail _ (.head _))) (v:=.type "range") (by kernel_rfl) (by decide) (by decide) ?_)
 refine md (xs:=[eval (.Call _ _ [] _) env]) (show 1<=30 by decide) ?_
 refine Yc ⟨_,_,rfl⟩ (name_buil r km (ke w (by decide)) (v:=.builtin "max") (by kernel_rfl) (by decide) (by decide) ?_)
 refine md (xs:=[eval (.ListComp _ _ _ _) env]) (show 1<=30 by decide) ?_
 refine LH g c.fk c.x so o7 l8 i8 c.lX y c.hX c.hb (by lia) λD1 s1 k1 S2=>?_
 refine Aa (a:=Xa) rfl ?_
 obtain ⟨vs1,n1,g1,i1⟩:=S2
 refine rA hh g1 i1 (by simp) λh2 m u2 kk2=>?_
 have e2:uA [(data.length:Int)]=data.length:=rfl
 rw[e2]
 have k2:Kp s1 {s1 with heap:=h2,toks:=m}:=⟨h2,m,rfl,kk2⟩
 generalize mR:({s1 with heap:=h2,toks:=m}:aa)=s2 at k2 ⊢
 refine Aa (a:=Xa) rfl ?_
 refine uk ?_
 generalize yN:({s2 with heap:=s2.heap.push _,toks:=s2.toks+1+1}:aa)=l
 have k3:Kp s2 l:=yN▸⟨_,_,rfl,λZ Z e=>fa _ e⟩
 have G8:dm l.heap s2.heap.objs.size 0 data.length 1 s2.toks u2 (s2.toks+1):=yN▸ra _ rfl
 refine Ag G8 (Nh (by decide) (by unfold Sm;lia) (by unfold Sm;lia) (by unfold Sm;lia)).1 ?_
 rw[uY]
 have X1:=(k1.trans' k2).trans' k3
 have nI:=Eb X1 Qb
 have hI:wc ({l with heap:=l.heap.push (Al 0 data.length 1)}:aa).heap l.heap.objs.size 0 data.length 1:=ra _ rfl
 generalize xN:({l with heap:=l.heap.push (Al 0 data.length 1)}:aa)=s4 at hI ⊢
 have k4:Kp l s4:=xN▸.push _
 have n:=X1.trans' k4
 generalize l.heap.objs.size=It at hI nI
 refine Bs d.nocell d.kind (λs' Q E k hq=>dq (k.get hI) hq) λD C s5 k5 hD hC E3 D3 hn=>?_
 have k05:=n.trans' k5
 have nD:=Eb n hD
 have nC:=Eb n hC
 have dDI:D≠It:=λq=>by rw[q,hI] at hD;exact nomatch hD
 have dCI:C≠It:=λq=>by rw[q,hI] at hC;exact nomatch hC
 refine tU (p:=λi=>([pe,M,pb,O,pk,pl,H5,Y,V,pt,G,J,I,H,j,pos]:List xd).getD i default) (sc:=sc) g c (m0.step k05) ⟨d,so,kb,kk,j8,kt,U1⟩ d8 y (k5.get hI) ⟨[],0,D3,.nil⟩ hn nD nC nI E3 dDI dCI λs6 m6 Q2 u=>?_
 exact u.elim λmm6 u=>⟨mm6,u,λh7 z=>hQ D {s6 with heap:=h7} nD (c.one (tk:=s6.toks) m6 nC (Ab _) λb o hb e=>z.extBut b o hb e) (Q2.keeps λo e=>z.extBut _ o E3 e)⟩
end
noncomputable def zN:List cb:=(yf (sv 19 "extend")).2.1
theorem et(w:ja):Fn (Cu w) (tK w) 1923 zN:=⟨by kernel_rfl,by kernel_rfl,by kernel_rfl,by kernel_rfl,by kernel_rfl,by kernel_rfl⟩
theorem W3:zN=[ma zN 0]:=by kernel_rfl
theorem V3:ma zN 0=.Expr (.Call (.Attribute (.Attribute (.Name "self" (ch (ch (ch (aV (ma zN 0)) 0) 0) 0).pos) "_data" (ch (ch (aV (ma zN 0)) 0) 0).pos) "extend" (ch (aV (ma zN 0)) 0).pos) [.Name "iterable" (ch (aV (ma zN 0)) 1).pos] [] (aV (ma zN 0)).pos) (aP (ma zN 0)):=by kernel_rfl
theorem PM{w:ja}{s:aa}(a b:Value):Sf s (fdOf (Cu w)) ⟨[a,b],[]⟩ [("self",a),("iterable",b)]:=th (by kernel_rfl)
noncomputable def mV:List cb:=(yf (sv 19 "getbits")).2.1
theorem bM(w:ja):Fn (jD w) (rK w) 1937 mV:=⟨by kernel_rfl,by kernel_rfl,by kernel_rfl,by kernel_rfl,by kernel_rfl,by kernel_rfl⟩
theorem J3:mV=[ma mV 0]:=by kernel_rfl
theorem I3:ma mV 0=.Return (some (.Attribute (.Name "self" (ch (aV (ma mV 0)) 0).pos) "_data" (aV (ma mV 0)).pos)) (aP (ma mV 0)):=by kernel_rfl
theorem bI{w:ja}{s:aa}(a:Value):Sf s (fdOf (jD w)) ⟨[a],[]⟩ [("self",a)]:=th (by kernel_rfl)
section
variable{w:ja}{A:ua}{N:Nat}{s:aa}
theorem Bv{b dd d:la}{v:Value}{bs:Array UInt8}(g:GK (N+2) A)(F:Fk w s.heap)(hb:s.heap.get? b=some (Ld dd d))(hd:s.heap.get? d=some (qb bs)){Q:Value->aa->Prop}
  (hin:∀c j,GK N j->Kp s c->mc (ka PP w) j (call (.builtin "bytearray.extend") [.ref d,v]) (λu s'=>u=.none/\Q .none s') c):
  mc (ka PP w) A (call (.ref 1924) [.ref b,v]) Q s:=by
 have e:=(et w).row
 simp only[we] at e
 refine qB (binds:=[("self",.ref b),("iterable",v)]) g.ga.room (F.uf 25 rfl rfl) (et w).data (codeRec_of (F.uf 37 rfl rfl) (et w).code (et w).cq) (et w).bd (PM _ _) (cf F).lim e.2.2.2.2.2 e.2.1 e.2.2.1 e.1 ?_ λc x=>?_
 ·intro y B
  simp only[Ve,cg,or_false] at B
  rcases B with rfl|rfl
  ·exact .inl (by kernel_rfl)
  ·exact .inl (by kernel_rfl)
 generalize f:ef (fdOf (Cu w)) s.heap.objs.size 1924=env at x ⊢
 have i:GK N (A.deeper env):=(g.mono (ze _)).deeper env
 have m:env.scope.kind=.function:=by subst f;exact e.1
 have n:∀x,env.kindOf x=(fdOf (Cu w)).scope.names.lookup x:=λx=>by subst f;rfl
 have k:Kp s c:=by
  obtain ⟨h0,E,e⟩:=x.toInCall.same
  exact⟨h0,E,e,λb o q=>by have:=x.toInCall.keep b o q;rw[e] at this;exact this⟩
 have H:BC env.kindOf [("self",.ref b),("iterable",v)] (λZ=>none) "self"=some (.ref b):=Mo ((n _).trans (by kernel_rfl)) (Lk (by kernel_rfl)) rfl
 have G:BC env.kindOf [("self",.ref b),("iterable",v)] (λZ=>none) "iterable"=some v:=Mo ((n _).trans (by kernel_rfl)) (Lk (by kernel_rfl)) rfl
 rw[W3]
 refine La ?_
 rw[V3]
 refine lh (by subst f;kernel_rfl) (by kernel_rfl) ?_
 refine Th rfl (by kernel_rfl) (by kernel_rfl) ?_
 refine Fb (gf (NameLC x m ((n _).trans (by kernel_rfl)) H (P5 i.ga.hd (F.kp k) (k.get hb) λI t=>?_) (by decide)))
 have l:=k.trans' (xq 1 t)
 refine JF i.ga.hd (F.kp l) (l.get hd) λC r=>?_
 have p:=l.trans' (xq 0 r)
 refine fc (xs:=[eval (.Name "iterable" _) env]) (show 1<=30 by decide) ?_
 have z:Kp c {c with heap:=C,toks:=c.toks+1+0}:=⟨C,_,rfl,λb o q=>r _ _ (t _ _ q)⟩
 have D:=x.kept (tk:=c.toks+1+0) (λb o q=>r _ _ (t _ _ q))
 refine Fb (NameLC D m ((n _).trans (by kernel_rfl)) G ?_ (by decide))
 show wpAny _ _ (Xh (.builtin "bytearray.extend")) _ _ _
 refine Aa (a:=Xa) rfl ?_
 show mc _ _ (call (.builtin "bytearray.extend") [.ref d,v]) _ _
 refine Vc (hin _ _ i p) λu s' h=>?_
 obtain ⟨rfl,h⟩:=h
 exact⟨(λa q=>(by cases q)),rfl,te h⟩
theorem RH{b dd d:la}(g:GK (N+2) A)(F:Fk w s.heap)(hb:s.heap.get? b=some (Ld dd d)){Q:Value->aa->Prop}(k:∀s',Kp s s'->Q (.ref d) s'):
  mc (ka PP w) A (call (.ref 1938) [.ref b]) Q s:=by
 refine wm (N:=N) (G:=GW w) (rd:=[]) (σ:=[("self",.addr b)]) (adr:=λZ=>0) (s₀:=s) (K:=Fw s) (bM w)
  g (F.uf 26 rfl rfl) (F.uf 38 rfl rfl) (bI _) (by kernel_rfl) (by kernel_rfl) ⟨s.heap,s.toks,rfl⟩ (cf F) (λZ Z e=>e) (λZ Z e=>e) ⟨⟨rfl,rfl,nofun⟩,trivial⟩ (λx y ns ms Z e=>(Df rfl e).elim) λi env he h c a=>?_
 refine Nc λl=>?_;obtain ⟨v,hv,f,_⟩:=c.look "self" (.addr b) rfl;refine l ?_
 have f:v=.ref b:=f
 subst f
 rw[J3]
 refine Zj ?_
 rw[I3]
 refine vp (Fb (gf (Md c.kind hv (by decide) (by decide) (P5 h.ga.hd (F.kp a) (a.get hb) λm j=>⟨⟨_,rfl⟩,k _ (a.trans' (xq 1 j))⟩))))
end
noncomputable def lP(nm:xa)(p:Nat->xd)(scope Mh:me):Oa:=
 DI (.Name "bit" (p 0)) (.Name "k" (p 1)) (.Call (.Name "range" (p 2)) [.Call (.Name "max" (p 3)) [.ListComp (.Call (.Name "len" (p 4)) [.Name "block" (p 5)] [] (p 6)) [⟨.Name "block" (p 7),.Name nm (p 8),[],0⟩] Mh (p 9)] [] (p 10)] [] (p 11)) (.Name "block" (p 12)) (.Name nm (p 13))
  (.Compare (.Name "k" (p 14)) [.Lt] [.Call (.Name "len" (p 15)) [.Name "block" (p 16)] [] (p 17)] (p 18)) (.Name "bit" (p 19)) (.Call (.Name "to_binary" (p 20)) [.Subscript (.Name "block" (p 21)) (.Name "k" (p 22)) (p 23)] [] (p 24)) scope (p 25)
noncomputable def XQ(e:Oa)(i:Nat):xd:=
 [(ch e 0).pos,(gT e 0).pos,(ch (gI e 0) 0).pos,(ch (ch (gI e 0) 1) 0).pos,(ch (ch (ch (ch (gI e 0) 1) 1) 0) 0).pos,(ch (ch (ch (ch (gI e 0) 1) 1) 0) 1).pos,(ch (ch (ch (gI e 0) 1) 1) 0).pos,(gT (ch (ch (gI e 0) 1) 1) 0).pos,(gI (ch (ch (gI e 0) 1) 1) 0).pos,(ch (ch (gI e 0) 1) 1).pos,(ch (gI e 0) 1).pos,(gI e 0).pos,(gT e 1).pos,(gI e 1).pos,(ch (gF e 1) 0).pos,(ch (ch (gF e 1) 1) 0).pos,(ch (ch (gF e 1) 1) 1).pos,(ch (gF e 1) 1).pos,(gF e 1).pos,(gT e 2).pos,(ch (gI e 2) 0).pos,(ch (ch (gI e 2) 1) 0).pos,(ch (ch (gI e 2) 1) 1).pos,(ch (gI e 2) 1).pos,(gI e 2).pos].getD i e.pos
noncomputable def pZ:Oa:=ch (aV (ma ve 7)) 1
noncomputable def lZ:Oa:=ch (aV (ma ve 9)) 1
noncomputable def IW(e:Oa):me:=IH (ch (ch (gI e 0) 1) 1)
theorem oZ:pZ=lP "data_blocks" (XQ pZ) (IH pZ) (IW pZ):=by kernel_rfl
theorem jZ:lZ=lP "error_blocks" (XQ lZ) (IH lZ) (IW lZ):=by kernel_rfl
theorem ZY:ma ve 7=.Expr (.Call (.Attribute (.Name "res" (ch (ch (aV (ma ve 7)) 0) 0).pos) "extend" (ch (aV (ma ve 7)) 0).pos) [pZ] [] (aV (ma ve 7)).pos) (aP (ma ve 7)):=by kernel_rfl
theorem vT:ma ve 9=.Expr (.Call (.Attribute (.Name "res" (ch (ch (aV (ma ve 9)) 0) 0).pos) "extend" (ch (aV (ma ve 9)) 0).pos) [lZ] [] (aV (ma ve 9)).pos) (aP (ma ve 9)):=by kernel_rfl
theorem IB{v:Int}(h:0<=v)(n i:Nat):Cs v n i=0\/Cs v n i=1:=by
 delta Cs
 have h0:0<=v.fdiv (2 ^ (n-1-i)):=Int.fdiv_nonneg h (Ct (p5 (by decide)))
 rw[eX h0 (by decide)]
 have:(v.fdiv (2 ^ (n-1-i))).toNat&&&(1:Int).toNat=(v.fdiv (2 ^ (n-1-i))).toNat % 2:=Nat.and_one_is_mod _
 rw[this]
 exact(Qc _).imp (congrArg QR) (congrArg QR)
theorem sE{v:Int}(h:0<=v):ql (oi v):=λb hb=>by
 obtain ⟨i,_,rfl⟩:=List.mem_map.mp hb
 exact IB h 8 i
theorem Lo{l:List Int}(h:Bh l):ql (jb l):=λb hb=>by
 refine Nc λa=>?_;obtain ⟨m,hm,hb⟩:=List.mem_flatten.mp hb
 obtain ⟨v,hv,rfl⟩:=List.mem_map.mp hm;refine a ?_
 exact sE (h v hv).1 b hb
noncomputable def qk(c P:la)(oc oP:Sa):Prop:=∃ps,∀h:Na,h.get? c=some oc->h.get? P=some oP->Yd h c P ps
theorem qk.of{h:Na}{c P:la}{ps:Array Value}{oc:Sa}(x:Yd h c P ps)(e:h.get? c=some oc):∃oP,h.get? P=some oP/\qk c P oc oP:=by
 refine Nc λk=>?_;obtain ⟨o,vs,g,q,b,p,j,d,n,op,a,r1,r2,t,r4,r5,s,f,r⟩:=id x.1;refine k ?_
 have i:=a
 rw[e] at a
 obtain rfl:=va a
 exact⟨op,f,ps,λh' m l=>x.mv i f m l⟩
section
variable{w:ja}{A:ua}{N:Nat}{env:Be}{σ:List (xa×P)}{s₀ s s1:aa}{B:la->Sa->Prop}{L:List (la×Sa)}{P' f T c' X bk rb rdd rd:la}{nm q:xa}{doc:Value}{t:jg}{oc oP:Sa}{data old:List Int}
theorem SX.fwd(x:SX w env σ s₀ B L s){b:la}{o:Sa}(h:KL B L b o):s.heap.get? b=some o:=x.st.ks b o h
theorem KL.cons{e:la×Sa}{b:la}{o:Sa}(h:KL B L b o):KL B (e::L) b o:=h.elim .inl λh=>.inr (ya _ h)
set_option tactic.hygienic true
theorem oA(g:GK (N+10) A)(F:Fk w s₀.heap)(EI:env.scope=(fdOf (Yf w)).scope)(hi:qe env=false){scope Mh:me}{p:Nat->xd}{v p2 u p4:xd}{ird:Nat}(so:Ui env.scope.names env)
  (hs:mi (.Call (.Attribute (.Name "res" v) "extend" p2) [lP nm p scope Mh] [] u) none p4.line env=pure false) (hb1:kG (.Name "res" v) "extend" env (eval (.Name "res" v) env)=eval (.Name "res" v) env)
  (hm:Hm [lP nm p scope Mh].length (Bg u (Ae [lP nm p scope Mh] env)) []=true) (hl:(p2.endLine==u.line)=true) (B8:Bg u (Ae [lP nm p scope Mh] env)=[eval (lP nm p scope Mh) env].map λx=>(false,x))
  (o7:jh env.scope.names Mh=true) (l8:Mh.names.lookup ("block":xa)=some NameKind.local) (i8:Mh.names.lookup ("len":xa)=some Pc)
  (pl0:jh env.scope.names scope=true) (kb:scope.names.lookup ("block":xa)=some NameKind.local) (kk:scope.names.lookup ("k":xa)=some NameKind.local) (H:scope.names.lookup ("bit":xa)=some NameKind.local) (kt:scope.names.lookup ("to_binary":xa)=some kc) (U1:scope.names.lookup ("len":xa)=some Pc) (d8:scope.names.lookup nm=some kc) (O6:Gd nm=false)
  (kr:env.kindOf "range"=some Pc) (km:env.kindOf "max"=some Pc)
  (x:SX w env σ s₀ B ((P',oP)::L) s) (code:qk c' P' oc oP) (pf:P'∉Nf)
  (hf:KL B L f ⟨.type "function",none,.func (Rr w q (.ref T) c' doc),#[]⟩) (hT:KL B L T (Bf [.int 8 t] 0)) (hc:KL B L c' oc) (hrec:∀h:Na,h.get? c'=some oc->h.CodeRec (.ref c') q) (hX:KL B L X (Wa [.ref bk] 1)) (MW:KL B L bk (qb (Ia data)))
  (lf:σ.lookup ("to_binary":xa)=some (.addr f)) (lX:σ.lookup nm=some (.addr X)) (by':Bh data) (len:data.length<=200)
  (G:σ.lookup ("res":xa)=some (.addr rb)) (M:KL B L rb (Ld rdd rd)) (J:KL B L rdd mf) (b:L[ird]?=some (rd,qb (Ia old))) (hz:old.length<=2 ^ 18) {Q:Af->aa->Prop}
  (hQ:∀z s',qk c' P' oc z->((∀y∈s.gens,y.bare=true)->∀y∈s'.gens,y.bare=true)->(∀g,g < s.gens.size->s'.gens[g]?=s.gens[g]?)->
   SX w env σ {s₀ with gens:=s'.gens} B ((P',z)::L.set ird (rd,qb (Ia (old++jb data)))) s'->Q .next s'):
  mc (ka PP w) A (ig (.Expr (.Call (.Attribute (.Name "res" v) "extend" p2) [lP nm p scope Mh] [] u) p4) env) Q s:=by
 refine lh hi hs ?_
 refine Th hb1 hm hl ?_
 refine Fb (x.Gp G (by decide) ?_)
 refine OL g.ga.hd (x.fk F) (x.fwd M.cons) (x.fwd J.cons) λh1 k1=>?_
 have I:Kp s {s with heap:=h1,toks:=s.toks+0}:=xq 0 k1
 generalize D8:({s with heap:=h1,toks:=s.toks+0}:aa)=s1 at I ⊢
 have l:=x.step I
 have k:s1.gens=s.gens:=by rw[<- D8]
 rw[B8]
 refine fc (xs:=[eval (lP nm p scope Mh) env]) (show 1<=30 by decide) ?_
 have nd:=l.nd
 rw[vb,De] at nd
 have V:=l.ap (P',oP) (za ..)
 have E:=l.nb (P',oP) (za ..)
 have d:∀e∈L,e.1≠P':=λe he q=>nd.1 (List.mem_map.mpr ⟨e,he,q⟩)
 have c:CW w env σ s₀ B L s1 P' f T c' X bk nm q doc t oc data:=⟨l.less (Jd _ _),F,V,E,d,pf,⟨oP,l.get 0 rfl⟩,hf,hT,hc,hrec,hX,MW,lf,lX,by',len⟩
 refine(id code).elim λps O2=>?_
 refine Fb (iE (N:=N) (sc:=env.scope.names) (g.ga.mono (by lia)) c ⟨ps,O2 _ (c.x.fwd hc) (l.get 0 rfl)⟩ so kr km (ue.of o7) l8 i8 (ue.of pl0) kb kk H kt U1 d8 O6 λD s2 nD m M8=>?_)
 have o:=c.at m
 have F2:Fk w s2.heap:=o.fk F
 refine Nj (F2.uf 25 rfl rfl) (et w).data ?_
 show mc _ _ (call (.ref 1924) [.ref rb,.ref D]) _ _
 refine Bv (N:=N+8) (g.mono (by lia)) F2 (o.fwd M) (o.get ird b) λr A3 g3 Y=>?_
 obtain ⟨vs,n,gD,iD⟩:=M8
 have x3:=o.step Y
 refine ft g3.ga.hd g3.gd (x3.get ird b) (Y.get gD) iD (Lo by').G4 (by rw[vd,Wd];dsimp only[Kb];lia) λs4 hm4 h4=>?_
 rw[Zk] at h4
 obtain ⟨h5,t5,rfl,k5⟩:=hm4
 have x4:=x3.put (tk:=t5) ird b k5 h4
 refine m.ok.elim λps2 O=>?_
 obtain ⟨oP2,eP2,cd2⟩:=qk.of O (o.fwd hc)
 have C:P'≠rd:=λq=>d _ (Mb b) q.symm
 have i:r.gens=s2.gens:=by obtain ⟨_,_,e,_⟩:=Y;rw[e]
 refine⟨rfl,λa q=>(by cases q),?_⟩
 refine hQ oP2 _ cd2 (λhb=>?_) (λg hg=>?_) ?_
 ·show∀y∈r.gens,_
  rw[i]
  exact m.gb (by rw[k];exact hb)
 ·show r.gens[g]?=_
  rw[i,m.gk g (by rw[k];exact hg),k]
 ·have e:({s₀ with gens:=r.gens}:aa)={s₀ with gens:=s2.gens}:=by rw[i]
  show SX w env σ ({s₀ with gens:=r.gens}:aa) B _ _
  rw[e]
  refine x4.yk V E (λe he=>?_) (k5 _ _ C (Y.get eP2))
  obtain ⟨j,hj,rfl⟩:=List.mem_iff_getElem.mp he
  rw[oN]
  split
  ·exact Hb C
  ·exact d _ (pn _)
end
set_option tactic.hygienic false
noncomputable def BI:List cb:=aB (ma ve 5)
noncomputable def JG:Oa:=ch (aV (ma BI 0)) 1
theorem XY:BI=[ma BI 0]:=by kernel_rfl
theorem WY:ma BI 0=.Assign [.Name "cw_four" (aT (ma BI 0)).pos] (.Call (.Name "to_binary" (ch (aV (ma BI 0)) 0).pos) [JG,.Constant (.int 4) 0 (ch (aV (ma BI 0)) 2).pos] [] (aV (ma BI 0)).pos) (aP (ma BI 0)):=by kernel_rfl
theorem VY:JG=.BinOp (.Call (.Attribute (.Subscript (.Name "data_blocks" (ch (ch (ch (ch JG 0) 0) 0) 0).pos) (.Constant (.int 0) 0 (ch (ch (ch (ch JG 0) 0) 0) 1).pos) (ch (ch (ch JG 0) 0) 0).pos) "pop" (ch (ch JG 0) 0).pos) [.UnaryOp .USub (.Constant (.int 1) 0 (ch (ch (ch JG 0) 1) 0).pos) (ch (ch JG 0) 1).pos] [] (ch JG 0).pos) .RShift (.Constant (.int 4) 0 (ch JG 1).pos) JG.pos:=by kernel_rfl
section
variable{w:ja}{A:ua}{N:Nat}{env:Be}{s:aa}
theorem bB{l r:Oa}{op:Im}{pos:xd}{Q:Value->aa->Prop}(h:mc (ka PP w) A (eval l env) (λa d=>wpAny (ka PP w) A (eval r env) (λb c=>wpAny (ka PP w) A (Ir op a b) Q Jc c) Jc d) s):
  mc (ka PP w) A (eval (.BinOp l op r pos) env) Q s:=by
 rw[eval_BinOp]
 exact Uj (Vc h λa d yb=>Eh (Ma (ah yb (λb c e=>Eh (wb (dA (Fb e)))))))
theorem xB(ns:List Int):(Ia ns).pop=Ia ns.dropLast:=by
 unfold Ia
 simp[List.map_dropLast]
theorem mT(g:GK (N+10) A){σ:List (xa×P)}{s₀:aa}{B:la->Sa->Prop}{L:List (la×Sa)}(F:Fk w s₀.heap)(x:SX w env σ s₀ B L s){X bk:la}{data:List Int}{i:Nat}(lX:σ.lookup ("data_blocks":xa)=some (.addr X))(hX:KL B L X (Wa [.ref bk] 1))(hb:L[i]?=some (bk,qb (Ia data)))
  (by':Bh data) (f:0 < data.length) (hz:data.length<=200) {Q:Value->aa->Prop}
  (C:∀s' t,s'.gens=s.gens->SX w env σ s₀ B (L.set i (bk,qb (Ia data.dropLast))) s'->Q (.int (data.getD (data.length-1) 0 / 16) t) s'):
  mc (ka PP w) A (eval JG env) Q s:=by
 rw[VY]
 refine bB ?_
 refine Th rfl (by kernel_rfl) (by kernel_rfl) ?_
 refine Fb (Hh (x.Gp lX (by decide) (Rb ?_)))
 have e:=x.step (s':={s with toks:=s.toks+1}) (.tok _)
 have d:({s with toks:=s.toks+1}:aa).heap.IsList X #[.ref bk]:=⟨_,e.fwd hX,rfl,_,rfl⟩
 refine tail_any d.typeIs slot_list_getitem.lookup (LR d (by decide) (by decide) rfl ?_) (Xf (by intros;simp))
 refine CP g.ga.hd (e.fk F) (e.get i hb) λo z=>?_
 have q:=e.step (xq 0 z)
 refine fc (xs:=[eval (.UnaryOp _ _ _) env]) (show 1<=30 by decide) ?_
 refine Fb (wpAny_UnaryOp (Rb (Tv ?_)))
 generalize c:({s with heap:=o,toks:=_}:aa)=s2
 have y:Kp ({s with heap:=o,toks:=s.toks+1+0}:aa) s2:=c▸.tok _
 have m:=q.step y
 have h:s2.gens=s.gens:=by rw[<- c]
 show wpAny _ _ (Xh (.builtin "bytearray.pop")) _ _ _
 refine Aa (a:=Xa) rfl ?_
 show mc _ _ (call (.builtin "bytearray.pop") [.ref bk,.int (-1) _]) _ _
 have b:(Ia data).size=data.length:=vd data
 refine gK g.gd (m.get i hb) (by rw[b];dsimp only[Kb];lia) (by rw[b];exact f) λG u hm n=>?_
 refine Nc λj=>?_;obtain ⟨H,r,rfl,v⟩:=hm;refine j ?_
 rw[xB] at n
 have p:=m.put (tk:=r) i hb v n
 refine Nc λj=>?_;obtain ⟨l,E,D⟩:=Ko data by' (data.length-1) (by lia);refine j ?_
 have ev:(((Ia data)[(Ia data).size-1]'(by rw[b];lia)).toNat:Int)=data.getD (data.length-1) 0:=by
  rw[<- D]
  have:(Ia data)[(Ia data).size-1]?=some l:=by rw[b];exact E
  rw[se (by rw[b];lia)] at this
  rw[va this]
 refine Rb (MR (by decide) ?_)
 rw[ev]
 have k:(data.getD (data.length-1) 0).fdiv (2 ^ (4:Int).toNat)=data.getD (data.length-1) 0 / 16:=by
  show(data.getD (data.length-1) 0).fdiv 16=_
  exact ti _ (by decide)
 rw[k]
 exact C _ _ h (p.step (.tok _))
end
section
variable{w:ja}{A:ua}{N:Nat}{env:Be}{σ:List (xa×P)}{s₀ s:aa}{B:la->Sa->Prop}{L:List (la×Sa)}{P' f T c':la}{q:xa}{doc:Value}{t:jg}{oc oP:Sa}
theorem SX.tob(g:GA (N+4) A)(F:Fk w s₀.heap)(x:SX w env σ s₀ B ((P',oP)::L) s)(code:qk c' P' oc oP)(pf:P'∉Nf)
  (hf:KL B L f ⟨.type "function",none,.func (Rr w q (.ref T) c' doc),#[]⟩) (hT:KL B L T (Bf [.int 8 t] 0)) (hc:KL B L c' oc) (hrec:∀h:Na,h.get? c'=some oc->h.CodeRec (.ref c') q)
  {args:List Value} {v:Int} {n:Nat} {x1 x2:Value} (hb:Sf s (Rr w q (.ref T) c' doc) ⟨args,[]⟩ [("val",x1),("length",x2)]) (h1:∃u,x1=.int v u) (h2:∃u,x2=.int n u) (hn:1<=n/\n<=8)
  (H:∀{A:ua} {s':aa} {r:la} {t u v:Nat} {Q:Value->aa->Prop},A.handled=none->Fk w s'.heap->s'.heap.get? r=some ⟨.type "range",none,.fields #[.int 0 t,.int n u,.int 1 v],#[]⟩->
   (∀h',(∀x o,s'.heap.get? x=some o->h'.get? x=some o)->h'.get? (s'.heap.objs.size+0)=some ⟨.type "range_iterator",none,.fields #[Fc ((n:Int)-1),Fc n,Fc (-1)],#[]⟩->Q (.ref (s'.heap.objs.size+0)) {s' with heap:=h',toks:=s'.toks+0})->wpAny (ka PP w) A (call (.type "reversed") [.ref r]) Q Jc s')
  {Q:Value->aa->Prop}
  (hQ:∀a C I Y G oC oI l i gs s',gs.bare=true->s'.gens=s.gens.push gs->qk c' P' oc i->SX w env σ {s₀ with gens:=s'.gens} B ((a,G)::(C,oC)::(I,oI)::(Y,l)::(P',i)::L) s'->
   (∀B0:ua,B0.handled=none->Dl w B0 a s.gens.size C I [Y] n (Ey (Cs v n)) 0 s')->s'.heap.IsGen a s.gens.size->Q (.ref a) s'):
  wpAny (ka PP w) A (call (.ref f) args) Q Jc s:=by
 refine(id code).elim λps O2=>?_
 have nd:=x.nd
 rw[vb,De] at nd
 have apP:=x.ap (P',oP) (za ..)
 have p:=x.nb (P',oP) (za ..)
 have m:∀e∈L,e.1≠P':=λe he q=>nd.1 (List.mem_map.mpr ⟨e,he,q⟩)
 have E:=x.less (Jd (P',oP) L)
 refine oB (N:=N) g (x.fk F) (E.fwd hf) (hrec _ (E.fwd hc)) (O2 _ (E.fwd hc) (x.get 0 rfl)) pf hb h1 h2 hn H λa C I Y h' tk gs j7 D na nC nI nc M hH j y hG=>?_
 have c:=hG A.in1 g.hd
 generalize k:({s with heap:=h',gens:=s.gens.push gs,toks:=tk}:aa)=s' at hG c ⊢
 have J:s'.heap=h':=by rw[<- k]
 have y0:=E.move (s':=s') (wr:=[P']) (λb hb=>by rw[List.mem_singleton.mp hb];exact⟨apP,p,m⟩) (λb o hb e=>by rw[J];exact M b o (λq=>hb (q▸.head _)) e) (by rw[<- k]) (by rw[<- k])
 have i3:h'.get? c'=some oc:=M _ _ (λq=>hc.elim (λhc=>p _ (q▸hc)) λhc=>m _ hc q) (E.fwd hc)
 refine(qk.of hH i3).elim λi qP=>?_
 have V:=qP.1
 have cd':=qP.2
 refine(y C (za ..)).elim λoC eC=>?_
 refine(y I (.tail _ (.head _))).elim λoI eI=>?_
 refine(y Y (.tail _ (.tail _ (.head _)))).elim λl O=>?_
 refine(show∃G,h'.get? a=some G from j.elim λo q=>q.elim λZ q=>q.elim λZ q=>⟨o,q.1⟩).elim λG ea=>?_
 rw[<- J] at V eC eI O ea j
 have nb:∀{z:la},s.heap.get? z=none->∀o,¬B z o:=λhz o q=>nomatch (x.base q).symm.trans hz
 have nl:∀{z:la},s.heap.get? z=none->∀e∈(P',i)::L,e.1≠z:=λ{z} hz=>Dc (Ef (x.get 0 rfl) hz) λe he=>Ef (E.st.ks e.1 e.2 (.inr he)) hz
 have y1:=y0.yk apP p m V
 have y2:=y1.yk (x.st.ap nc) (nb nc) (nl nc) O
 have y3:=y2.yk (x.st.ap nI) (nb nI) (Dc (λd=>c.If (d▸jc _ (.head _))) (nl nI)) eI
 have y4:=y3.yk (x.st.ap nC) (nb nC) (Dc (λd=>c.Cf (d▸.head _)) (Dc (λd=>c.Cf (d▸.tail _ (jc _ (.head _)))) (nl nC))) eC
 have y5:=y4.yk (x.st.ap na) (nb na) (Dc (λd=>c.aC d.symm) (Dc (λd=>c.af (d▸.head _)) (Dc (λd=>c.af (d▸.tail _ (jc _ (.head _)))) (nl na)))) ea
 exact hQ a C I Y G oC oI l i gs s' D (by rw[<- k]) cd' y5 hG j
end
noncomputable def DK:List cb:=aB (ma ve 8)
theorem nZ:DK=[ma DK 0]:=by kernel_rfl
theorem mZ:ma DK 0=.Expr (.Call (.Attribute (.Name "res" (ch (ch (aV (ma DK 0)) 0) 0).pos) "extend" (ch (aV (ma DK 0)) 0).pos) [.Name "cw_four" (ch (aV (ma DK 0)) 1).pos] [] (aV (ma DK 0)).pos) (aP (ma DK 0)):=by kernel_rfl
section
variable{w:ja}{A:ua}{N:Nat}{env:Be}{σ:List (xa×P)}{s₀ s s':aa}{B:la->Sa->Prop}{L:List (la×Sa)}
theorem cv{B:ua}{a g:Nat}{C I:la}{ex:List la}{n:Nat}{Fv:Nat->Value->Prop}(x:Dl w B a g C I ex n Fv 0 s)(hg:s'.gens[g]?=s.gens[g]?)(c:∀b∈a::C::I::(Nf++ex),∀o,s.heap.get? b=some o->s'.heap.get? b=some o):Dl w B a g C I ex n Fv 0 s':=
 {x with gen:=dt x.gen (ya _ (Oe _ ay)) hg c}
set_option tactic.hygienic true
theorem KO(g:GK (N+10) A)(F:Fk w s₀.heap)(hi:qe env=false){a C I D rb rdd rd:la}{M p m J:Sa}{gi n ird j2:Nat}{f:Nat->Int}{old:List Int}
  (x:SX w env σ s₀ B ((a,M)::(C,p)::(I,m)::L) s) (hG:∀B0:ua,B0.handled=none->Dl w B0 a gi C I [D] n (Ey f) 0 s) (SU:s.heap.IsGen a gi) (hc2:L[j2]?=some (D,J)) (hj:j2≠ird)
  (lc:σ.lookup ("cw_four":xa)=some (.addr a)) (O:σ.lookup ("res":xa)=some (.addr rb)) (V:KL B L rb (Ld rdd rd)) (T:KL B L rdd mf) (hrd:L[ird]?=some (rd,qb (Ia old))) (hz:old.length+n<=2 ^ 18) (hf:∀i,i < n->0<=f i/\f i < 256) {Q:Af->aa->Prop}
  (hQ:∀s',We gi s.gens s'.gens->SX w env σ {s₀ with gens:=s'.gens} B ((rd,qb (Ia (old++(Qa n).map f)))::L.eraseIdx ird) s'->Q .next s'):
  mc (ka PP w) A (ig (ma DK 0) env) Q s:=by
 rw[mZ]
 refine lh hi (by kernel_rfl) ?_
 refine Th rfl (by kernel_rfl) (by kernel_rfl) ?_
 refine Fb (x.Gp O (by decide) ?_)
 refine OL g.ga.hd (x.fk F) (x.fwd V.cons.cons.cons) (x.fwd T.cons.cons.cons) λh1 k1=>?_
 have r:Kp s {s with heap:=h1,toks:=s.toks+0}:=xq 0 k1
 generalize D8:({s with heap:=h1,toks:=s.toks+0}:aa)=s1 at r ⊢
 have H:=x.step r
 refine fc (xs:=[eval (.Name "cw_four" _) env]) (show 1<=30 by decide) ?_
 refine Fb (H.Gp lc (by decide) ?_)
 have F1:Fk w s1.heap:=H.fk F
 refine Nj (F1.uf 25 rfl rfl) (et w).data ?_
 show mc _ _ (call (.ref 1924) [.ref rb,.ref a]) _ _
 have c:((a,M)::(C,p)::(I,m)::L)[ird+3]?=some (rd,qb (Ia old)):=hrd
 refine Bv (N:=N+8) (g.mono (by lia)) F1 (H.fwd V.cons.cons.cons) (H.get (ird+3) c) λE A3 g3 k3=>?_
 have d:=H.step k3
 have t:=r.trans' k3
 have nR:E.gens=s.gens:=t.elim λ_ q=>q.elim λ_ q=>by rw[q.1]
 have hG3:Dl w A3.in1 a gi C I [D] n (Ey f) 0 E:=cv (hG A3.in1 g3.ga.hd) (by rw[nR]) λb _ o e=>t.get e
 have W:=Dl.walks (B:=A3.in1) (show A3.in1.handled=none from g3.ga.hd) (((g3.mono (by lia:1<=N+8)).in1).ga.room) hG3
 have nd:=d.nd
 have l:((a,M)::(C,p)::(I,m)::L)[j2+3]?=some (D,J):=hc2
 have rda:rd≠a:=d.ne c (j:=0) rfl (by lia)
 have rdC:rd≠C:=d.ne c (j:=1) rfl (by lia)
 have rdI:rd≠I:=d.ne c (j:=2) rfl (by lia)
 have rdc:rd≠D:=d.ne c l (by lia)
 have F3:Fk w E.heap:=d.fk F
 have W8:∀b∈a::C::I::(Nf++[D]),∃o,E.heap.get? b=some o:=by
  exact Dc ⟨_,d.get 0 rfl⟩ (Dc ⟨_,d.get 1 rfl⟩ (Dc ⟨_,d.get 2 rfl⟩ (Q4 (ei F3) (Dc ⟨_,d.get (j2+3) l⟩ tj))))
 have Y:rd∉a::C::I::(Nf++[D]):=sy rda (sy rdC (sy rdI λq=>(List.mem_append.mp q).elim (λq=>(ei F rd q).elim λo e=>d.nb _ (Mb c) o (d.h0 _ _ e)) λq=>rdc (List.mem_singleton.mp q)))
 have u:E.heap.IsGen a gi:=Qo SU λ_=>t.get
 refine XD (b:=Ia old) W u.typeIs hG3.gen f (λi v h=>h) hf g3.gd Y (λz hz=>(W8 z hz).elim λo e=>Ba e) (d.get (ird+3) c) (by rw[vd];simp only[Kb];lia) λs4 hm h4=>?_
 rw[Zk] at h4
 refine⟨rfl,λa q=>(nomatch q),hQ s4 (by rw[<- nR];exact hm.gens) ?_⟩
 have x3':SX w env σ s₀ B (L.eraseIdx ird) E:=(d.less ((Jd _ _).trans ((Jd _ _).trans (Jd _ _)))).drop ird
 have eL:((a,M)::(C,p)::(I,m)::L).eraseIdx (ird+3)=(a,M)::(C,p)::(I,m)::L.eraseIdx ird:=rfl
 have G:=d.front (ird+3) c
 rw[eL] at G
 have ndp:=G.nd
 have d1:=List.nodup_cons.mp ndp
 have d2:=List.nodup_cons.mp d1.2
 have d3:=List.nodup_cons.mp d2.2
 have d4:=List.nodup_cons.mp d3.2
 have k:=(uF (uF (uF d1.1).2).2).2
 have jC:∀{b:la},b∉(L.eraseIdx ird).map (·.1)->∀e∈L.eraseIdx ird,e.1≠b:=λh e he q=>h (q▸zd he)
 have y:=x3'.move (s':=s4) (wr:=[rd,C,I]) (Dc ⟨G.ap _ (.head _),G.nb _ (.head _),jC k⟩ (Dc ⟨d.ap (C,p) (.tail _ (.head _)),d.nb (C,p) (.tail _ (.head _)),jC (uF d3.1).2⟩ (Dc ⟨d.ap (I,m) (.tail _ (.tail _ (.head _))),d.nb (I,m) (.tail _ (.tail _ (.head _))),jC d4.1⟩ tj))) (λb o hb e=>hm.heap b o hb e) hm.drawn hm.os
 exact y.yk (G.ap _ (za ..)) (G.nb _ (za ..)) (jC k) h4
end
set_option tactic.hygienic false
noncomputable def qE(a:wa)(S:T3)(B:List cb)(w:ja)(t u:Nat)(m k:Nat):Prop:=
 Uk og (Gb Ka) a w 9 ⟨true,[],m,[],[],[]⟩ k (.top (Ir .Mult (.bytes #[0] t) (.int 0 u)))=some (⟨true,[],m,[],[],[]⟩,k+1,.top (.pure (.bytes #[] k)))
lay_quick Mine.qE
theorem TH(w:ja)(t u:Nat)(m k:Nat):qE PP (Tc w) fb w t u  m k:=wf (P:=λv=>qE PP (Tc w) fb v t u  m k) w λa=>by
 rw[PySem.W.Fast.te15337615429528248673]
 unfold PySem.W.Fast.tw15337615429528248673
 cases a <;> kernel_rfl
theorem H4{w:ja}{A:ua}{s:aa}{t u:Nat}{Q:_->aa->Prop}{E:Value->aa->Prop}(c:A.handled=none)(F:Fk w s.heap)
  (b:∀h',(∀x o,s.heap.get? x=some o->h'.get? x=some o)->Q (.bytes #[] s.toks) {s with heap:=h',toks:=s.toks+1}):wpAny (ka PP w) A (Ir .Mult (.bytes #[0] t) (.int 0 u)) Q E s:=
 Te c (TH w t u  s.heap.objs.size s.toks) [] rfl (λZ hp=>(nomatch hp)) rfl rfl λh' a d=>b h' a
theorem Py(w:ja):Fn (Yf w) (vq w) 1894 ve:=⟨by kernel_rfl,by kernel_rfl,by kernel_rfl,by kernel_rfl,by kernel_rfl,by kernel_rfl⟩
theorem uE{w:ja}{s:aa}(a b c:Value):Sf s (fdOf (Yf w)) ⟨[a,b,c],[]⟩ [("version",a),("error",b),("buff",c)]:=th (by kernel_rfl)
theorem eZ:ma ve 2=.Assign [.Name "ec_infos" (aT (ma ve 2)).pos] (.Subscript (.Subscript (.Name "ECC" (ch (ch (aV (ma ve 2)) 0) 0).pos) (.Name "version" (ch (ch (aV (ma ve 2)) 0) 1).pos) (ch (aV (ma ve 2)) 0).pos) (.Name "error" (ch (aV (ma ve 2)) 1).pos) (aV (ma ve 2)).pos) (aP (ma ve 2)):=by kernel_rfl
theorem dZ:ma ve 3=.Assign [.Tuple [.Name "data_blocks" (ch (aT (ma ve 3)) 0).pos,.Name "error_blocks" (ch (aT (ma ve 3)) 1).pos] 0 (aT (ma ve 3)).pos] (.Call (.Name "make_blocks" (ch (aV (ma ve 3)) 0).pos) [.Name "ec_infos" (ch (aV (ma ve 3)) 1).pos,.Name "buff" (ch (aV (ma ve 3)) 2).pos] [] (aV (ma ve 3)).pos) (aP (ma ve 3)):=by kernel_rfl
theorem cZ:ma ve 4=.Assign [.Name "cw_four" (aT (ma ve 4)).pos] (.Constant .none 0 (aV (ma ve 4)).pos) (aP (ma ve 4)):=by kernel_rfl
theorem bZ:ma ve 5=.If (.Compare (.Name "version" (ch (aV (ma ve 5)) 0).pos) [.In] [.Tuple [.Name "VERSION_M1" (ch (ch (aV (ma ve 5)) 1) 0).pos,.Name "VERSION_M3" (ch (ch (aV (ma ve 5)) 1) 1).pos] 0 (ch (aV (ma ve 5)) 1).pos] (aV (ma ve 5)).pos) BI [] (aP (ma ve 5)):=by kernel_rfl
theorem aZ:ma ve 6=.Assign [.Name "res" (aT (ma ve 6)).pos] (.Call (.Name "Buffer" (ch (aV (ma ve 6)) 0).pos) [] [] (aV (ma ve 6)).pos) (aP (ma ve 6)):=by kernel_rfl
theorem YY:ma ve 8=.If (.Compare (.Name "cw_four" (ch (aV (ma ve 8)) 0).pos) [.IsNot] [.Constant .none 0 (ch (aV (ma ve 8)) 1).pos] (aV (ma ve 8)).pos) DK [] (aP (ma ve 8)):=by kernel_rfl
theorem uT:ma ve 10=.Assign [.Name "remainder" (aT (ma ve 10)).pos] (.Constant (.int 0) 0 (aV (ma ve 10)).pos) (aP (ma ve 10)):=by kernel_rfl
noncomputable def zw:cb:=ma ve 11
noncomputable def yw:cb:=ma (aO zw) 0
noncomputable def vy:cb:=ma (aO yw) 0
noncomputable def m9(e:Oa)(is:List Int):List Oa:=(Qa is.length).map λi=>.Constant (.int (is.getD i 0)) 0 (ch e i).pos
theorem rT:zw=.If (.Compare (.Name "version" (ch (aV zw) 0).pos) [.In] [.Tuple (m9 (ch (aV zw) 1) [2,3,4,5,6]) 0 (ch (aV zw) 1).pos] (aV zw).pos) (aB zw) [yw] (aP zw):=by kernel_rfl
theorem qT:yw=.If (.Compare (.Name "version" (ch (aV yw) 0).pos) [.In] [.Tuple (m9 (ch (aV yw) 1) [14,15,16,17,18,19,20,28,29,30,31,32,33,34]) 0 (ch (aV yw) 1).pos] (aV yw).pos) (aB yw) [vy] (aP yw):=by kernel_rfl
theorem oT:vy=.If (.Compare (.Name "version" (ch (aV vy) 0).pos) [.In] [.Tuple (m9 (ch (aV vy) 1) [21,22,23,24,25,26,27]) 0 (ch (aV vy) 1).pos] (aV vy).pos) (aB vy) [] (aP vy):=by kernel_rfl
noncomputable def xT:Oa:=ch (aV (ma ve 12)) 1
theorem tT:ma ve 12=.Expr (.Call (.Attribute (.Name "res" (ch (ch (aV (ma ve 12)) 0) 0).pos) "extend" (ch (aV (ma ve 12)) 0).pos) [.BinOp (.Constant (.bytes [0]) 0 (ch xT 0).pos) .Mult (.Name "remainder" (ch xT 1).pos) xT.pos] [] (aV (ma ve 12)).pos) (aP (ma ve 12)):=by kernel_rfl
theorem sT:ma ve 13=.Return (some (.Name "res" (aV (ma ve 13)).pos)) (aP (ma ve 13)):=by kernel_rfl
noncomputable def RV(e:Oa)(is:List Int):List (Int×xd):=(Qa is.length).map λi=>(is.getD i 0,(ch e i).pos)
section
variable{w:ja}{A:ua}{N:Nat}{env:Be}{σ:List (xa×P)}{s₀ s s':aa}{B:la->Sa->Prop}{L:List (la×Sa)}
theorem rt:∀(l:List (Int×xd)) {Q:List Value->aa->Prop} {s:aa},(∀vs s',IntsAre vs (l.map (·.1))->Kp s s'->Q vs s')->vt (M:=ka PP w) (A:=A) (l.map λp=>eval (.Constant (.int p.1) 0 p.2) env) Q s
 |[],Q,s,h=>h [] s .nil .Ce
 |p::l,Q,s,h=>by
  show wpAny (ka PP w) A (eval (.Constant (.int p.1) 0 p.2) env) (λv a=>vt (l.map λp=>eval (.Constant (.int p.1) 0 p.2) env) (λvs=>Q (v::vs)) a) Jc s
  refine Rb (rt l λvs s' hi k=>h _ s' (.cons _ _ hi) ((Kp.tok _).trans' k))
theorem rL{e d f:xd}{es:List Oa}{l:List (Int×xd)}{v:Int}{body a:List cb}{pos:xd}(x:SX w env σ s₀ B L s)(lv:σ.lookup ("version":xa)=some (.int v))(c:Bg d (Ae es env)=(l.map λp=>eval (.Constant (.int p.1) 0 p.2) env).map λx=>(false,x))(i:l.length<=30)(hv:((l.map (·.1)).any (·==v))=false)
  {Q:Af->aa->Prop} (h:∀s',Kp s s'->mc (ka PP w) A (Kc a env) Q s'):
  mc (ka PP w) A (ig (.If (.Compare (.Name "version" e) [.In] [.Tuple es 0 d] f) body a pos) env) Q s:=by
 refine Bo (b:=false) (Je (x.iC lv (by decide) λt=>Wi ?_))
 rw[c]
 refine Se (rt l λvs s1 hi g=>⟨?_,?_⟩)
 ·have:=hi.length
  rw[Yb] at this
  dsimp only[Kb];lia
 ·refine in_tuple_ints (ns:=l.map (·.1)) ⟨_,ra _ rfl,rfl,_,rfl⟩ (by simpa using hi) ?_
  rw[hv]
  refine Zd ⟨rfl,?_⟩
  exact h _ (g.trans' (.push _))
set_option tactic.hygienic true
theorem lT{v:Int}(x:SX w env σ s₀ B L s)(lv:σ.lookup ("version":xa)=some (.int v))(hv:v<=1){Q:Af->aa->Prop}(h:∀s',Kp s s'->Q .next s'):mc (ka PP w) A (ig (ma ve 11) env) Q s:=by
 have a:∀(l:List Int),(l.all λi=>decide (1 < i))=true->(l.any (·==v))=false:=λl e=>by
  rw[UI]
  intro i hi
  have:=List.all_eq_true.mp e i hi
  have:1 < i:=by simpa using this
  simp;lia
 show mc _ _ (ig zw env) _ _
 rw[rT]
 refine rL (l:=RV (ch (aV zw) 1) [2,3,4,5,6]) x lv (by kernel_rfl) (by decide) (a _ (by kernel_rfl)) λs1 b=>La (Vc (Q:=λf s'=>f=.next/\Kp s s') ?_ λf s' q=>⟨q.1,te (by rw[q.1] at *;exact h s' q.2)⟩)
 rw[qT]
 refine rL (l:=RV (ch (aV yw) 1) [14,15,16,17,18,19,20,28,29,30,31,32,33,34]) (x.step b) lv (by kernel_rfl) (by decide) (a _ (by kernel_rfl)) λs2 c=>La ?_
 rw[oT]
 refine rL (l:=RV (ch (aV vy) 1) [21,22,23,24,25,26,27]) (x.step (b.trans' c)) lv (by kernel_rfl) (by decide) (a _ (by kernel_rfl)) λg d=>te ⟨rfl,te ⟨rfl,b.trans' (c.trans' d)⟩⟩
end
structure Ym where
 v:Int
 pe:P
 inner:Nat
 t:Nat
 ot:Sa
 m:Nat
 ec:Nat
 ed:Nat
 total:Nat
 room:Nat
 ta:Nat
 tb:Nat
 tc:Nat
 gt:Nat
 gn:Nat
 gvs:List Value
 gen:List Int
structure nk(w:ja)(y:Ym):Prop where
 hv:iu Gk (EE w).toArray (.inl y.v)=some (.ref y.inner)
 hin:∀{h:Na},Fk w h->∃o,h.get? y.inner=some o/\o.cls=.type "dict"
 hlev:∀{A:ua} {s':aa} {lv:Value} {Q:Value->aa->Prop},VR s'.heap y.pe lv->A.handled=none->Fk w s'.heap->(∀Ng,Kp s' Ng->Q (.ref y.t) Ng)->wpAny (ka PP w) A (Fh (.ref y.inner) lv) Q Jc s'
 ht:∀{h:Na},Fk w h->h.get? y.t=some y.ot
 hot:y.ot.cls=.type "tuple"/\y.ot.data=.seq #[.ref y.ec] y.m
 he:∀{h:Na},Fk w h->h.get? y.ec=some (Nl y.ed 1 y.total y.room y.ta y.tb y.tc)
 hed:∀{h:Na},Fk w h->h.get? y.ed=some (Ga [] 0)
 hgp:iu Cg (NW w).toArray ((y.total:Int)-y.room)=some (.ref y.gt)
 hgt:∀{h:Na},Fk w h->h.get? y.gt=some (Bf y.gvs y.gn)
 hgi:rq y.gvs=some y.gen
 hgl:y.room+y.gen.length=y.total
 hgb:(y.gen.all λg=>decide (0<=g)&&decide (g < 255))=true
 hr:y.total<=200
 hrm:1<=y.room
 n40:y.t≠1940/\y.ec≠1940/\y.ed≠1940/\y.gt≠1940
 hvl:y.v<=1
 npe:∀ns,y.pe≠.il ns
section
variable{w:ja}{A:ua}{N:Nat}{env:Be}{σ:List (xa×P)}{s₀ s:aa}{B:la->Sa->Prop}{L:List (la×Sa)}
theorem nT(m:A.handled=none)(F:Fk w s₀.heap)(b:env.scope=(fdOf (Yf w)).scope){y:Ym}(ok:nk w y)(x:SX w env σ s₀ B L s)(lv:σ.lookup ("version":xa)=some (.int y.v))(le:σ.lookup ("error":xa)=some y.pe){Q:Af->aa->Prop}
  (n:∀s',SX w env ((("ec_infos":xa),P.addr y.t)::σ) s₀ B L s'->Q .next s'):wpAny (ka PP w) A (ig (ma ve 2) env) Q Jc s:=by
 have e:∀x,env.kindOf x=(fdOf (Yf w)).scope.names.lookup x:=λx=>by unfold bc;rw[b]
 rw[eZ]
 refine PySem.wpAny_Assign_Name (Hh (Hh (sg x.st.re ((e _).trans (by kernel_rfl)) (Yq (i:=3) w rfl rfl) (by decide) (x.iC lv (by decide) λq=>?_)))) (by kernel_rfl)
 have F1:=x.fk F
 have hT:s.TypeIs (.ref 139) "dict":=⟨_,F1.ecc,rfl⟩
 refine tail_any hT slot_dict_getitem.lookup (YP F1 ok.hv ?_) (Xf (by intros;simp))
 have a:=x.step (s':={s with toks:=s.toks+1}) (.tok _)
 have f:=a.fk F
 refine Nc λd=>?_;obtain ⟨j,l,c,_⟩:=a.st.look "error" _ le;refine d ?_
 refine Md a.st.kind l (by decide) (by decide) ?_
 refine Nc λd=>?_;obtain ⟨r,o,ci⟩:=ok.hin f;refine d ?_
 refine tail_any (T:="dict") ⟨_,o,ci⟩ slot_dict_getitem.lookup (ok.hlev c m f λs2 k=>?_) (Xf (by intros;simp))
 exact(a.step k).bind (p:=.addr y.t) (.inl ((e _).trans (by kernel_rfl))) rfl nofun λh g=>n h g
end
set_option tactic.hygienic false
noncomputable def wordsOf(bs:List Int)(room:Nat):List Int:=(Qa room).map λi=>rj (Xk bs (8*i))
noncomputable def qi(h:Na):Na:=Kn (Kn h 1940) 1892
theorem Gx{h:Na}{b:la}{o:Sa}(e:h.get? b=some o)(c:b≠1940)(a:b≠1892):(qi h).get? b=some o:=by
 unfold qi
 rw[Tq a,Tq c];exact e
theorem Fx{h:Na}{b:la}{o:Sa}(e:(qi h).get? b=some o):h.get? b=some o:=fo (fo e)
theorem Kv{h:Na}{o:Sa}:¬(qi h).get? 1940=some o:=λe=>by
 unfold qi at e
 have:=fo e
 rw[tm] at this;exact nomatch this
theorem MB{h:Na}{o:Sa}:¬(qi h).get? 1892=some o:=λe=>by
 unfold qi at e
 rw[tm] at e;exact nomatch e
theorem M5:∀z n:Nat,z < n->z≠n+1+1+1/\z≠n+1+1/\z≠n+1:=λz n h=>by lia
theorem SX.apart{w:ja}{env:Be}{σ:List (xa×P)}{s₀ s:aa}{B:la->Sa->Prop}{L:List (la×Sa)}(x:SX w env σ s₀ B L s)(i:Nat){a:la}{o:Sa}(h:L[i]?=some (a,o)):∀e∈L.eraseIdx i,e.1≠a:=by
 have nd:=(x.front i h).nd
 rw[vb,De] at nd
 exact λe he q=>nd.1 (List.mem_map.mpr ⟨e,he,q⟩)
section
variable{w:ja}{A:ua}{N:Nat}{s:aa}
theorem Yr{x y:xa}{c d:la}{l:List (xa×la)}(e:((y,d)::l).lookup x=some c):d=c\/l.lookup x=some c:=by
 rw[Ca] at e
 cases h:x==y with
 |true=>rw[h] at e;exact .inl (va e)
 |false=>rw[h] at e;exact .inr e
theorem GP(g:GK (N+20) A)(F:Fk w s.heap){y:Ym}(ok:nk w y){b dd d:la}{bs:List Int}{g7:Array Value}{tv:jg}{lv:Value}
  (K8:VR s.heap y.pe lv) (hb:s.heap.get? b=some (Ld dd d)) (pC:s.heap.get? dd=some mf) (hd:nh s.heap d bs) (hB:ql bs) (hz:bs.length<=2 ^ 11) (hn:y.room<=(bs.length+7) / 8) (C:Yd s.heap 1944 1940 g7) (B:Yd s.heap 1894 1892 #[])
  {Q:Value->aa->Prop}
  (hK:∀env f c' P' T t D1 D2 bk ck oc oP m k doc E,env=ef (fdOf (Yf w)) s.heap.objs.size 1895->GK (N+18) (A.deeper env)->((∀y∈s.gens,y.bare=true)->∀y∈E.gens,y.bare=true)->qk 1944 1940 (Bu w) k->qk 1894 1892 (vq w) m->qk c' P' oc oP->
   P'∉Nf->(∀h:Na,h.get? c'=some oc->h.CodeRec (.ref c') (gq env "to_binary" "to_binary"))->
   SX w env [("cw_four",.none),("error_blocks",.addr D2),("data_blocks",.addr D1),("ec_infos",.addr y.t),("to_binary",.addr f),("version",.int y.v),("error",y.pe),("buff",.addr b)] {s with heap:=qi s.heap,gens:=E.gens} (λz o=>(qi s.heap).get? z=some o)
    [(P',oP),(ck,qb (Ia (Gg y.gen (wordsOf bs y.room)))),(bk,qb (Ia (wordsOf bs y.room))),(D2,Wa [.ref ck] 1),(D1,Wa [.ref bk] 1),(1940,k),(f,⟨.type "function",none,.func (Rr w (gq env "to_binary" "to_binary") (.ref T) c' doc),#[]⟩),(T,Bf [.int 8 t] 0),(c',oc),(1892,m)] E->
   mc (ka PP w) (A.deeper env) (Kc [ma ve 5,ma ve 6,ma ve 7,ma ve 8,ma ve 9,ma ve 10,ma ve 11,ma ve 12,ma ve 13] env) (λf s'=>Q (match f with|.ret v=>v|_=>.none) s') E):
  mc (ka PP w) A (call (.ref 1895) [.int y.v tv,lv,.ref b]) Q s:=by
 have F0:Fk w (qi s.heap):=(F.off (by decide)).off (by decide)
 have D:=C.tab
 have e92:=B.tab
 have hpe:Ek [("version",P.int y.v),("error",y.pe),("buff",P.addr b)]=true:=by
  have:=ok.npe
  cases h:y.pe with
  |il ns=>exact absurd h (this ns)
  |_=>rfl
 refine wm (N:=N+18) (G:=GW w) (rd:=[]) (σ:=[("version",.int y.v),("error",y.pe),("buff",.addr b)]) (adr:=λZ=>0) (s₀:={s with heap:=qi s.heap}) (K:=λx o=>(qi s.heap).get? x=some o) (Py w)
  (g.mono (by lia)) (F.uf 20 rfl rfl) (F.uf 34 rfl rfl) (uE _ _ _) (by kernel_rfl) (by kernel_rfl) ⟨s.heap,s.toks,rfl⟩ (cf F0) (λZ Z e=>e) (λZ Z e=>Fx e) ⟨⟨rfl,⟨_,rfl⟩,nofun⟩,⟨rfl,K8,λns q=>absurd q (ok.npe ns)⟩,⟨rfl,rfl,nofun⟩,trivial⟩ (λx y ns ms Z e=>(Df hpe e).elim) λr env n l Y UG=>?_
 have KC:=SX.start Y hpe
 have EI:env.scope=(fdOf (Yf w)).scope:=by subst n;rfl
 have hi:qe env=false:=by subst n;kernel_rfl
 have IA:env.code=.ref 1894:=by subst n;exact(Py w).code
 have PU:env.locals=s.heap.objs.size:=by subst n;rfl
 have UU:env.cells=tg (s.heap.objs.size+1) (fdOf (Yf w)).scope.names []:=by subst n;rfl
 have ek:∀x,env.kindOf x=(fdOf (Yf w)).scope.names.lookup x:=λx=>by unfold bc;rw[EI]
 have z9:∀{z:la} {o:Sa},s.heap.get? z=some o->Ap env z:=by
  intro z o e
  have N5:=Ba e
  refine⟨λq=>absurd N5 (by rw[<- q,PU];exact Xe _),λyy c ec=>?_⟩
  rw[UU] at ec
  have e3:tg (s.heap.objs.size+1) (fdOf (Yf w)).scope.names []=[(("error_blocks":xa),s.heap.objs.size+1+1+1),(("data_blocks":xa),s.heap.objs.size+1+1),(("to_binary":xa),s.heap.objs.size+1)]:=by kernel_rfl
  rw[e3] at ec
  refine Nc λhC=>?_;obtain ⟨l1,l2,l3⟩:=M5 _ _ N5;refine hC ?_
  exact(Yr ec).elim (λd=>d▸Hb l1) λec=>(Yr ec).elim (λd=>d▸Hb l2) λec=>(Yr ec).elim (λd=>d▸Hb l3) λec=>nomatch ec
 rw[iZ]
 refine La ?_
 rw[hZ]
 refine lh hi (by kernel_rfl) (Fb (Fm ⟨λa e=>(nomatch e),rfl,?_⟩))
 generalize mR:({r with toks:=r.toks+1}:aa)=wJ
 have iR:Kp r wJ:=mR▸.tok _
 have ZN:=KC.step iR
 have u:=UG.trans' iR
 have G6:=ZN.yk (z9 D) (λo q=>Kv q) (λe q=>(nomatch q)) (u.get D)
 refine La (Fb (aQ l.ga.hd G6 (F.kp u) IA (B.keeps λZ Z e=>u.get e) (z9 e92) (λo q=>MB q) (λe q=>by rw[List.mem_singleton.mp q];exact(by decide:(1940:Nat)≠1892)) ((ek _).trans (by kernel_rfl)) λf c' P' T t doc m oc oP s4 x4 C4 cr2 cc2=>⟨rfl,?_⟩))
 have pf:P'∉Nf:=λq=>(ei F0 P' q).elim λo e=>x4.nb (P',oP) (.tail _ (.tail _ (.tail _ (.head _)))) o e
 refine La (Fb (nT l.ga.hd F0 EI ok x4 (Mc ag (by decide)) (Mc (Mc ag (by decide)) (by decide)) λE j=>⟨rfl,?_⟩))
 have F5:Fk w E.heap:=j.fk F0
 have nf:∀{z:la} {o:Sa},s.heap.get? z=some o->(∀vs,o.data≠.fields vs)->(qi s.heap).get? z=some o:=by
  exact λe hn=>Gx e (gp D e hn) (gp e92 e hn)
 have V8:=j.base (nf hb (λvs q=>nomatch q))
 have T8:=j.base (nf pC (λvs q=>nomatch q))
 have hd5:=j.base (nf hd (λvs q=>nomatch q))
 refine(qk.of C (F.uf 40 rfl rfl)).elim λa1Z V9=>?_
 obtain rfl:=va (D.symm.trans V9.1)
 have D4:=V9.2
 refine(id D4).elim λX9 N2=>?_
 refine La ?_
 rw[dZ]
 refine Wk rfl rfl ?_
 refine Fg (sg j.st.re ((ek _).trans (by kernel_rfl)) (Yq (i:=4) w rfl rfl) (by decide) ?_)
 refine fc (xs:=[eval (.Name "ec_infos" (ch (aV (ma ve 3)) 1).pos) env,eval (.Name "buff" (ch (aV (ma ve 3)) 2).pos) env]) (show 2<=30 by decide) ?_
 refine Fb (j.Gp ag (by decide) (Fb (j.Gp (Mc (Mc (Mc (Mc ag (by decide)) (by decide)) (by decide)) (by decide)) (by decide) ?_)))
 refine Nj (F5.uf 21 rfl rfl) (SA w).data ?_
 show mc _ _ (call (.ref 1900) [.ref y.t,.ref b]) _ _
 have hgb:∀g∈y.gen,0<=g/\g < 255:=λv hv=>have q:=Bool.and_eq_true_iff.mp (List.all_eq_true.mp ok.hgb v hv);⟨of_decide_eq_true q.1,of_decide_eq_true q.2⟩
 refine pB (N:=N+4) (l.mono (by lia)) F5 V8 T8 hd5 hB hz (N2 _ (j.kp.get (F0.uf 40 rfl rfl)) (j.get 5 rfl)) (ok.ht F5) ok.hot ok.n40.1 (ok.he F5) ok.n40.2.1 (ok.hed F5) ok.n40.2.2.1 ok.hgp (ok.hgt F5) ok.n40.2.2.2 (Xo ok.hgi) ok.hgl hgb hn ok.hr λT3 D1 D2 bk ck h6 J9 gs6 W9 QU O CL hT3 hD1 hD2 MW hck L hnd=>?_
 generalize J:({E with heap:=h6,toks:=J9,gens:=gs6}:aa)=s6 at *
 have hh6:s6.heap=h6:=by rw[<- J]
 have hg6:s6.gens=gs6:=by rw[<- J]
 rw[<- hh6] at QU O hT3 hD1 hD2 MW hck
 have LW:E.gens=s.gens:=j.gens
 have V:=z9 D
 have M:∀o:Sa,¬(qi s.heap).get? 1940=some o:=λo q=>Kv q
 have y0:=(j.drop 5).move (s':=s6) (wr:=[1940]) (λz hz=>by
   rw[List.mem_singleton.mp hz]
   exact⟨V,M,j.apart 5 rfl⟩)
  (λz o hz e=>QU z o (λq=>hz (q▸.head _)) e) (by rw[<- J]) (by rw[<- J])
 refine Nc λhC=>?_;obtain ⟨k,i9,p9⟩:=qk.of O (QU 1944 _ (by decide) (j.kp.get (F0.uf 40 rfl rfl)));refine hC ?_
 have I:∀{z:la},E.heap.get? z=none->∀o,¬(qi s.heap).get? z=some o:=λhz o q=>nomatch (j.base q).symm.trans hz
 have H:∀{z:la},E.heap.get? z=none->∀e∈(1940,k)::List.eraseIdx _ 5,e.1≠z:=λ{z} hz=>Dc (Ef (j.get 5 rfl) hz) λe he=>Ef ((j.drop 5).st.ks e.1 e.2 (.inr he)) hz
 have d1:=List.nodup_cons.mp hnd
 have d2:=List.nodup_cons.mp d1.2
 have d3:=List.nodup_cons.mp d2.2
 have d4:=List.nodup_cons.mp d3.2
 have m1:=uF d2.1
 have m2:=uF m1.2
 have m3:=uF d3.1
 have f1:=L D1 (.tail _ (.head _))
 have f2:=L D2 (.tail _ (.tail _ (.head _)))
 have f3:=L bk (.tail _ (.tail _ (.tail _ (.head _))))
 have f4:=L ck (.tail _ (.tail _ (.tail _ (.tail _ (.head _)))))
 have y1:=y0.yk V M (j.apart 5 rfl) i9
 have y2:=y1.yk (j.st.ap f1) (I f1) (H f1) hD1
 have y3:=y2.yk (j.st.ap f2) (I f2) (Dc m1.1 (H f2)) hD2
 have y4:=y3.yk (j.st.ap f3) (I f3) (Dc m3.1 (Dc m2.1 (H f3))) MW
 have y5:=y4.yk (j.st.ap f4) (I f4) (Dc (uF d4.1).1 (Dc (uF m3.2).1 (Dc (uF m2.2).1 (H f4)))) hck
 refine gu (items:=#[.ref D1,.ref D2]) l.ga.hd ⟨_,hT3,rfl,_,rfl⟩ rfl rfl λh7 he7=>?_
 have k7:Kp s6 {s6 with heap:=h7}:=⟨h7,_,rfl,λz o e=>he7 z o (Va (Ba e)) e⟩
 have y6:=y5.step k7
 refine Oc (Sb (y6.bind (y:=qa "data_blocks") (p:=.addr D1) (.inr ((ek _).trans (by kernel_rfl))) rfl nofun λs8 y8=>?_))
 refine Oc (Sb (y8.bind (y:=qa "error_blocks") (p:=.addr D2) (.inr ((ek _).trans (by kernel_rfl))) rfl nofun λs9 y9=>?_))
 refine mj ⟨rfl,?_⟩
 refine La (Fb ?_)
 rw[cZ]
 refine PySem.wpAny_Assign_Name (Xi ?_) (by kernel_rfl)
 refine y9.bind (y:=qa "cw_four") (p:=.none) (.inl ((ek _).trans (by kernel_rfl))) rfl nofun λG5 E9=>⟨rfl,?_⟩
 have g10:G5.gens=s6.gens:=E9.gens
 have qX:=E9.front 8 rfl
 rw[<- g10] at qX
 refine hK env f c' P' T t D1 D2 bk ck oc oP m k doc G5 n l (λo3=>?_) p9 C4 ⟨#[],cc2⟩ pf cr2 qX
 rw[g10,hg6]
 exact CL (by rw[LW];exact o3)
end
theorem qR(w:ja){y:xa}{v:Int×jg}(h:gvs.lookup y=some v):(GW w).mg y=some (.int v.1 v.2):=(Wr w y).trans (jx (DL _ w) h)
theorem cB{M:pj}{A:ua}{E:Value->aa->Prop}{s:aa}{env:Be}{b:List UInt8}{k:Nat}{pos:xd}{Q:Value->aa->Prop}(h:Q (.bytes b.toArray s.toks) {s with toks:=s.toks+1}):wpAny M A (eval (.Constant (.bytes b) k pos) env) Q E s:=λZ Z Z=>h
section
variable{w:ja}{A:ua}{N:Nat}{env:Be}{σ:List (xa×P)}{s₀ s:aa}{B:la->Sa->Prop}{L:List (la×Sa)}
set_option tactic.hygienic true
theorem zF(a:env.scope=(fdOf (Yf w)).scope){v:Int}{half:Bool}(x:SX w env σ s₀ B L s)(lv:σ.lookup ("version":xa)=some (.int v))(hv:(([-3,-1]:List Int).any (·==v))=half)
  {Q:Af->aa->Prop} (ht:half=true->∀s',Kp s s'->mc (ka PP w) A (Kc BI env) Q s') (hf:half=false->∀s',Kp s s'->Q .next s'):
  mc (ka PP w) A (ig (ma ve 5) env) Q s:=by
 have c:∀x,env.kindOf x=(fdOf (Yf w)).scope.names.lookup x:=λx=>by unfold bc;rw[a]
 rw[bZ]
 refine Bo (b:=half) (Je (x.iC lv (by decide) λt=>Wi (Se (xs:=[eval (.Name "VERSION_M1" _) env,eval (.Name "VERSION_M3" _) env]) ?_)))
 refine sg x.st.re ((c _).trans (by kernel_rfl)) (qR w rfl) (by decide) ?_
 refine sg x.st.re ((c _).trans (by kernel_rfl)) (qR w rfl) (by decide) ?_
 refine⟨(show 2<=Kb by decide),?_⟩
 refine in_tuple_ints (ns:=[-3,-1]) ⟨_,ra _ rfl,rfl,_,rfl⟩ (.cons _ _ (.cons _ _ .nil)) ?_
 rw[hv]
 refine Zd ⟨rfl,?_⟩
 cases half with
 |true=>exact ht rfl _ (.push _)
 |false=>exact te (hf rfl _ (.push _))
theorem CK(g:GK (N+10) A)(F:Fk w s₀.heap)(j:env.scope=(fdOf (Yf w)).scope)(x:SX w env σ s₀ B L s){Q:Af->aa->Prop}
  (D:∀rb rdd rd s',SX w env ((("res":xa),P.addr rb)::σ) s₀ B ((rd,qb (Ia []))::(rdd,mf)::(rb,Ld rdd rd)::L) s'->Q .next s'):mc (ka PP w) A (ig (ma ve 6) env) Q s:=by
 have n:∀x,env.kindOf x=(fdOf (Yf w)).scope.names.lookup x:=λx=>by unfold bc;rw[j]
 rw[aZ]
 refine fi (by kernel_rfl) ?_
 refine Fg (sg x.st.re ((n _).trans (by kernel_rfl)) (Yq (i:=6) w rfl rfl) (by decide) ?_)
 refine fc (xs:=[]) (show 0<=30 by decide) ?_
 refine gR g.ga.hd (x.fk F) λE C=>?_
 have h:Kp s {s with heap:=E,toks:=s.toks+0}:=xq 0 C
 have a:=x.step h
 refine WH (N:=N) (g.mono (by lia)) (a.fk F) λs2 b dd d z hb f hd nb c nd=>?_
 have G:dd≠b:=wq f hb (by intro e;exact nomatch e)
 have l:d≠b:=wq hd hb (by intro e;exact nomatch e)
 have k:d≠dd:=wq hd f (by decide)
 have u:=a.new nb z hb
 have m:=a.st.ap c
 have t:=u.yk m (λo q=>nomatch (a.base q).symm.trans c) (Dc (Hb G) λe he=>Ef (a.st.ks e.1 e.2 (.inr he)) c) f
 have r:=t.yk (a.st.ap nd) (λo q=>nomatch (a.base q).symm.trans nd) (Dc (Hb k) (Dc (Hb l) λe he=>Ef (a.st.ks e.1 e.2 (.inr he)) nd)) hd
 exact r.bind (p:=.addr b) (.inl ((n _).trans (by kernel_rfl))) rfl nofun λy v=>D b dd d y v
set_option tactic.hygienic false
theorem yF(g:GK (N+10) A)(F:Fk w s₀.heap)(m:env.scope=(fdOf (Yf w)).scope)(hi:qe env=false){v:Int}{rb rdd rd:la}{bits:List Int}(x:SX w env σ s₀ B L s)(lv:σ.lookup ("version":xa)=some (.int v))(hv:v<=1)(c:σ.lookup ("res":xa)=some (.addr rb))
  (f:KL B L rb (Ld rdd rd)) (e:KL B L rdd mf) {i:Nat} (b:L[i]?=some (rd,qb (Ia bits))) (hz:bits.length<=2 ^ 18) {Q:Af->aa->Prop}
  (O:∀τ s',SX w env τ s₀ B L s'->Q (.ret (.ref rb)) s'):mc (ka PP w) A (Kc [ma ve 10,ma ve 11,ma ve 12,ma ve 13] env) Q s:=by
 have V:∀x,env.kindOf x=(fdOf (Yf w)).scope.names.lookup x:=λx=>by unfold bc;rw[m]
 refine La (Fb ?_)
 rw[uT]
 refine PySem.wpAny_Assign_Name (Rb ?_) (by kernel_rfl)
 refine(x.step (.tok _)).bind (p:=.int 0) (.inl ((V _).trans (by kernel_rfl))) ⟨_,rfl⟩ nofun λs1 t=>⟨rfl,?_⟩
 refine La (lT t (Mc lv (by decide)) hv λs2 J=>⟨rfl,?_⟩)
 have d:=t.step J
 refine La ?_
 rw[tT]
 refine lh hi (by kernel_rfl) ?_
 refine Th rfl (by kernel_rfl) (by kernel_rfl) ?_
 refine Fb (d.Gp (Mc c (by decide)) (by decide) ?_)
 refine OL g.ga.hd (d.fk F) (d.fwd f) (d.fwd e) λz I=>?_
 have l:Kp s2 {s2 with heap:=z,toks:=s2.toks+0}:=xq 0 I
 have r:=d.step l
 generalize M:({s2 with heap:=z,toks:=s2.toks+0}:aa)=u at r ⊢
 refine fc (xs:=[eval (.BinOp _ _ _ _) env]) (show 1<=30 by decide) ?_
 refine Fb (Mf (cB ?_))
 have k:=r.step (s':={u with toks:=u.toks+1}) (.tok _)
 refine k.iC ag (by decide) λt4=>?_
 refine H4 g.ga.hd (k.fk F) λh5 H=>?_
 have h:=k.step (xq 1 H)
 have C:=h.fk F
 refine Nj (C.uf 25 rfl rfl) (et w).data ?_
 show mc _ _ (call (.ref 1924) [.ref rb,.bytes #[] _]) _ _
 refine Bv (N:=N+8) (g.mono (by lia)) C (h.fwd f) (h.get i b) λs6 A6 T G=>?_
 have o:=h.step G
 refine Ry T.gd (o.get i b) (by simp[vd,Kb];lia) λs7 n y=>?_
 obtain ⟨h8,D,rfl,E⟩:=n
 have Y:Ia bits++#[]=Ia bits:=by simp
 rw[Y] at y
 have j:=o.put (tk:=D) i b E y
 rw[bA b] at j
 refine⟨rfl,λa q=>(nomatch q),rfl,?_⟩
 refine Zj ?_
 rw[sT]
 exact vp (Fb (j.Gp (Mc c (by decide)) (by decide) ⟨⟨_,rfl⟩,O _ _ j⟩))
end
noncomputable def HB(v:Int):List Int:=(Qa 4).map (Cs v 4)
section
variable{w:ja}{A:ua}{N:Nat}{env:Be}{σ:List (xa×P)}{s₀ s:aa}{B:la->Sa->Prop}{L:List (la×Sa)}{P' f T c' X bk rb rdd rd:la}{nm q:xa}{doc:Value}{t:jg}{oc oP:Sa}{data old:List Int}
theorem EJ:Ui env.scope.names env:=⟨λZ h=>h,λZ h=>h⟩
set_option tactic.hygienic true
theorem uy(g:GK (N+10) A)(F:Fk w s₀.heap)(a:env.scope=(fdOf (Yf w)).scope)(hi:qe env=false)(which:Bool){ird:Nat}
  (x:SX w env σ s₀ B ((P',oP)::L) s) (code:qk c' P' oc oP) (pf:P'∉Nf)
  (hf:KL B L f ⟨.type "function",none,.func (Rr w q (.ref T) c' doc),#[]⟩) (hT:KL B L T (Bf [.int 8 t] 0)) (hc:KL B L c' oc) (hrec:∀h:Na,h.get? c'=some oc->h.CodeRec (.ref c') q) (hX:KL B L X (Wa [.ref bk] 1)) (k:KL B L bk (qb (Ia data)))
  (lf:σ.lookup ("to_binary":xa)=some (.addr f)) (lX:σ.lookup (if which then ("data_blocks":xa) else ("error_blocks":xa))=some (.addr X)) (by':Bh data) (len:data.length<=200)
  (c:σ.lookup ("res":xa)=some (.addr rb)) (j:KL B L rb (Ld rdd rd)) (d:KL B L rdd mf) (i:L[ird]?=some (rd,qb (Ia old))) (hz:old.length<=2 ^ 18) {Q:Af->aa->Prop}
  (m:∀e s',qk c' P' oc e->((∀y∈s.gens,y.bare=true)->∀y∈s'.gens,y.bare=true)->(∀g,g < s.gens.size->s'.gens[g]?=s.gens[g]?)->
   SX w env σ {s₀ with gens:=s'.gens} B ((P',e)::L.set ird (rd,qb (Ia (old++jb data)))) s'->Q .next s'):
  mc (ka PP w) A (ig (if which then ma ve 7 else ma ve 9) env) Q s:=by
 have l:∀x,env.kindOf x=(fdOf (Yf w)).scope.names.lookup x:=λx=>by unfold bc;rw[a]
 have b:env.scope.names=(fdOf (Yf w)).scope.names:=by rw[a]
 cases which with
 |true=>
  rw[if_pos rfl,ZY,oZ]
  exact oA (nm:="data_blocks") g F a hi EJ (by kernel_rfl) rfl rfl (by kernel_rfl) rfl (by rw[b];kernel_rfl) (by kernel_rfl) (by kernel_rfl) (by rw[b];kernel_rfl) (by kernel_rfl) (by kernel_rfl) (by kernel_rfl) (by kernel_rfl) (by kernel_rfl) (by kernel_rfl) (by decide) ((l _).trans (by kernel_rfl)) ((l _).trans (by kernel_rfl))
   x code pf hf hT hc hrec hX k lf lX by' len c j d i hz m
 |false=>
  rw[if_neg (by decide),vT,jZ]
  exact oA (nm:="error_blocks") g F a hi EJ (by kernel_rfl) rfl rfl (by kernel_rfl) rfl (by rw[b];kernel_rfl) (by kernel_rfl) (by kernel_rfl) (by rw[b];kernel_rfl) (by kernel_rfl) (by kernel_rfl) (by kernel_rfl) (by kernel_rfl) (by kernel_rfl) (by kernel_rfl) (by decide) ((l _).trans (by kernel_rfl)) ((l _).trans (by kernel_rfl))
   x code pf hf hT hc hrec hX k lf lX by' len c j d i hz m
end
section
variable{w:ja}{A:ua}{N:Nat}{env:Be}{σ:List (xa×P)}{s₀ s:aa}{B:la->Sa->Prop}{L:List (la×Sa)}
set_option tactic.hygienic false
theorem kl(i:Nat){b:la}{o:Sa}(h:L[i]?=some (b,o)):KL B L b o:=.inr (Mb h)
theorem ml(i:Nat){e:la×Sa}(h:L[i]?=some e):e∈L:=Mb h
set_option tactic.hygienic true
theorem cR(x:SX w env σ s₀ B L s){p:P}(d:σ.lookup ("cw_four":xa)=some p){Q:Af->aa->Prop}
  (ht:∀a,p=.addr a->mc (ka PP w) A (Kc DK env) Q s) (hf:p=.none->Q .next s) (hp:p=.none\/∃a,p=.addr a):mc (ka PP w) A (ig (ma ve 8) env) Q s:=by
 refine Nc λe=>?_;obtain ⟨v,hv,c,_⟩:=x.st.look "cw_four" _ d;refine e ?_
 rw[YY]
 rcases hp with rfl|⟨a,rfl⟩
 ·have c:v=.none:=c
  subst c
  refine Bo (b:=false) (Je (Md x.st.kind hv (by decide) (by decide) (Xi ?_)))
  refine Aa (a:=.bool false) rfl (Zd ⟨rfl,te (hf rfl)⟩)
 ·have c:v=.ref a:=c
  subst c
  refine Bo (b:=true) (Je (Md x.st.kind hv (by decide) (by decide) (Xi ?_)))
  refine Aa (a:=.bool true) rfl (Zd ⟨rfl,ht a rfl⟩)
set_option tactic.hygienic false
theorem eM(g:GK (N+10) A)(F:Fk w s₀.heap)(c:env.scope=(fdOf (Yf w)).scope)(hi:qe env=false){v:Int}{pe:P}{t' b P' r bk C z f T c':la}{W K:List Int}{oc oP j d:Sa}{t:jg}{doc:Value}{q:xa}
  (x:SX w env [("cw_four",.none),("error_blocks",.addr z),("data_blocks",.addr C),("ec_infos",.addr t'),("to_binary",.addr f),("version",.int v),("error",pe),("buff",.addr b)] s₀ B
    [(P',oP),(r,qb (Ia K)),(bk,qb (Ia W)),(z,Wa [.ref r] 1),(C,Wa [.ref bk] 1),(1940,j),(f,⟨.type "function",none,.func (Rr w q (.ref T) c' doc),#[]⟩),(T,Bf [.int 8 t] 0),(c',oc),(1892,d)] s)
  (code:qk c' P' oc oP) (pf:P'∉Nf) (hrec:∀h:Na,h.get? c'=some oc->h.CodeRec (.ref c') q) (hv:v<=1) (hh:(([-3,-1]:List Int).any (·==v))=false) (bW:Bh W) (bK:Bh K) (lW:W.length<=200) (lK:K.length<=200) {Q:Af->aa->Prop}
  (hQ:∀τ rb rdd rd k s',((∀y∈s.gens,y.bare=true)->∀y∈s'.gens,y.bare=true)->SX w env τ {s₀ with gens:=s'.gens} B k s'->(1940,j)∈k->(1892,d)∈k->(rb,Ld rdd rd)∈k->(rdd,mf)∈k->(rd,qb (Ia (jb W++jb K)))∈k->Q (.ret (.ref rb)) s'):
  mc (ka PP w) A (Kc [ma ve 5,ma ve 6,ma ve 7,ma ve 8,ma ve 9,ma ve 10,ma ve 11,ma ve 12,ma ve 13] env) Q s:=by
 refine La (zF (half:=false) c x rfl hh (λq=>nomatch q) λZ s1 J=>⟨rfl,?_⟩)
 have O:=x.step J
 have hg1:s1.gens=s.gens:=by obtain ⟨_,_,e,_⟩:=J;rw[e]
 refine La (CK g F c O λrb rdd rd s2 G=>⟨rfl,?_⟩)
 have m:s2.gens=s.gens:=by rw[G.gens,<- x.gens]
 have L:=G.front 3 rfl
 refine La (uy (which:=true) (ird:=0) (q:=q) (doc:=doc) (T:=T) (f:=f) (t:=t) (X:=C) (bk:=bk) (data:=W) (rb:=rb) (rdd:=rdd) (rd:=rd) (old:=[]) g F c hi L code pf (kl 8 rfl) (kl 9 rfl) (kl 10 rfl) hrec (kl 6 rfl) (kl 4 rfl) rfl rfl bW lW rfl (kl 2 rfl) (kl 1 rfl) rfl (by decide)
  λoP3 V u o gk3 E=>⟨rfl,?_⟩)
 refine La (cR E (p:=.none) rfl (λa q=>nomatch q) (λZ=>⟨rfl,?_⟩) (.inl rfl))
 refine La (uy (s₀:={s₀ with gens:=V.gens}) (which:=false) (ird:=0) (q:=q) (doc:=doc) (T:=T) (f:=f) (t:=t) (X:=z) (bk:=r) (data:=K) (rb:=rb) (rdd:=rdd) (rd:=rd) (old:=[]++jb W) g F c hi E u pf (kl 8 rfl) (kl 9 rfl) (kl 10 rfl) hrec (kl 5 rfl) (kl 3 rfl) rfl rfl bK lK rfl (kl 2 rfl) (kl 1 rfl) rfl (by rw[Un,Wd];lia)
  λY I cd4 n gk4 M=>⟨rfl,?_⟩)
 refine yF (s₀:={s₀ with gens:=I.gens}) (i:=1) (bits:=[]++jb W++jb K) g F c hi M (v:=v) rfl hv rfl (kl 3 rfl) (kl 2 rfl) rfl (by simp[Wd];lia) λτ H D=>?_
 have l:H.gens=I.gens:=D.gens
 have:=hQ τ rb rdd rd _ H (λhb=>?_) (by rw[l];exact D) (ml 8 rfl) (ml 12 rfl) (ml 3 rfl) (ml 2 rfl) (ml 1 rfl)
 ·exact this
 ·rw[l]
  exact n (o (by rw[m];exact hb))
end
section
variable{w:ja}{A:ua}{N:Nat}{env:Be}{σ:List (xa×P)}{s₀ s:aa}{B:la->Sa->Prop}{L:List (la×Sa)}
theorem dM(g:GK (N+10) A)(F:Fk w s₀.heap)(c:env.scope=(fdOf (Yf w)).scope)(hi:qe env=false){v:Int}{pe:P}{t' b P' ck bk D1 D2 f T c':la}{W K:List Int}{oc oP l k:Sa}{t:jg}{doc:Value}{q:xa}
  (x:SX w env [("cw_four",.none),("error_blocks",.addr D2),("data_blocks",.addr D1),("ec_infos",.addr t'),("to_binary",.addr f),("version",.int v),("error",pe),("buff",.addr b)] s₀ B
    [(P',oP),(ck,qb (Ia K)),(bk,qb (Ia W)),(D2,Wa [.ref ck] 1),(D1,Wa [.ref bk] 1),(1940,l),(f,⟨.type "function",none,.func (Rr w q (.ref T) c' doc),#[]⟩),(T,Bf [.int 8 t] 0),(c',oc),(1892,k)] s)
  (code:qk c' P' oc oP) (pf:P'∉Nf) (hrec:∀h:Na,h.get? c'=some oc->h.CodeRec (.ref c') q) (hv:v<=1) (hh:(([-3,-1]:List Int).any (·==v))=true) (bW:Bh W) (bK:Bh K) (lW:W.length<=200) (lK:K.length<=200) (nW:0 < W.length) {Q:Af->aa->Prop}
  (hQ:∀τ rb rdd rd L s',((∀y∈s.gens,y.bare=true)->∀y∈s'.gens,y.bare=true)->SX w env τ {s₀ with gens:=s'.gens} B L s'->(1940,l)∈L->(1892,k)∈L->(rb,Ld rdd rd)∈L->(rdd,mf)∈L->
   (rd,qb (Ia (jb W.dropLast++HB (W.getD (W.length-1) 0 / 16)++jb K)))∈L->Q (.ret (.ref rb)) s'):
  mc (ka PP w) A (Kc [ma ve 5,ma ve 6,ma ve 7,ma ve 8,ma ve 9,ma ve 10,ma ve 11,ma ve 12,ma ve 13] env) Q s:=by
 have ek:∀x,env.kindOf x=(fdOf (Yf w)).scope.names.lookup x:=λx=>by unfold bc;rw[c]
 have u:0<=W.getD (W.length-1) 0 / 16:=by
  have:=(bW.getD (W.length-1)).1
  lia
 refine La (zF (half:=true) c x rfl hh (λZ s1 k1=>?_) λq=>nomatch q)
 have x1:=x.step k1
 have hg1:s1.gens=s.gens:=k1.elim λZ q=>q.elim λZ q=>by rw[q.1]
 rw[XY]
 refine La ?_
 rw[WY]
 refine fi (by kernel_rfl) ?_
 refine Fg (x1.Gp rfl (by decide) ?_)
 refine fc (xs:=[eval JG env,eval (.Constant (.int 4) 0 (ch (aV (ma BI 0)) 2).pos) env]) (show 2<=30 by decide) ?_
 refine mT (N:=N) (i:=2) g F x1 rfl (kl 4 rfl) rfl bW nW lW λs2 t2 hg2 x2=>?_
 refine Fb (Rb ?_)
 have x3:=x2.step (s':={s2 with toks:=s2.toks+1}) (.tok _)
 generalize yN:({s2 with toks:=s2.toks+1}:aa)=O at x3
 have nR:O.gens=s.gens:=by rw[<- yN];exact hg2.trans hg1
 refine Nj (x3.fwd (kl 6 rfl)) rfl ?_
 refine Fb (SX.tob (N:=N+6) (n:=4) (v:=W.getD (W.length-1) 0 / 16) (q:=q) (T:=T) (doc:=doc) (t:=t) (g.ga.mono (by lia)) F x3 code pf (kl 5 rfl) (kl 6 rfl) (kl 7 rfl) hrec (XH (x3.fwd (kl 7 rfl))) ⟨_,rfl⟩ ⟨_,rfl⟩ ⟨by decide,by decide⟩ (λhA F hr hq=>c7 hA F hr hq)
  λa C I c2 oa oC oI oc2 oP4 b9 d n3 Y cd4 J hG4 E=>?_)
 refine J.bind (y:=qa "cw_four") (p:=.addr a) (.inl ((ek _).trans (by kernel_rfl))) rfl nofun λs5 x5=>⟨rfl,te ⟨rfl,?_⟩⟩
 have F4:Fk w ({s₀ with gens:=d.gens}:aa).heap:=F
 have LW:s5.gens=d.gens:=x5.gens
 refine La (CK (s₀:={s₀ with gens:=d.gens}) g F4 c x5 λrb rdd rd s6 x6=>⟨rfl,?_⟩)
 have G:s6.gens=d.gens:=x6.gens
 have y6:=x6.front 7 rfl
 have bWd:Bh W.dropLast:=λn hn=>bW n ((List.dropLast_sublist _).subset hn)
 refine La (uy (s₀:={s₀ with gens:=d.gens}) (which:=true) (ird:=0) (q:=q) (doc:=doc) (T:=T) (f:=f) (t:=t) (X:=D1) (bk:=bk) (data:=W.dropLast) (rb:=rb) (rdd:=rdd) (rd:=rd) (old:=[]) g F4 c hi y6 cd4 pf (kl 12 rfl) (kl 13 rfl) (kl 14 rfl) hrec (kl 10 rfl) (kl 8 rfl) rfl rfl bWd (by rw[Lp];lia) rfl (kl 2 rfl) (kl 1 rfl) rfl (by decide)
  λoP7 j cd7 gb7 gk7 x7=>⟨rfl,?_⟩)
 have F7:Fk w ({s₀ with gens:=j.gens}:aa).heap:=F
 have H:=((x7.front 6 rfl).front 6 rfl).front 6 rfl
 have hgi:j.gens[O.gens.size]?=d.gens[O.gens.size]?:=by
  rw[gk7 _ (by rw[G,Y,Ck];exact Dd _),G]
 have m:∀z∈a::C::I::(Nf++[c2]),∀o,d.heap.get? z=some o->j.heap.get? z=some o:=by
  have same:∀{z:la} {ob:Sa},d.heap.get? z=some ob->j.heap.get? z=some ob->∀o,d.heap.get? z=some o->j.heap.get? z=some o:=λe4 e7 o e=>(e4.symm.trans e)▸e7
  exact Dc (same (J.get 0 rfl) (H.get 0 rfl)) (Dc (same (J.get 1 rfl) (H.get 1 rfl)) (Dc (same (J.get 2 rfl) (H.get 2 rfl)) (Q4 (λz hz=>(ei F z hz).elim λob eb=>same (J.kp.get eb) (H.kp.get eb)) (Dc (same (J.get 3 rfl) (H.get 7 rfl)) tj))))
 have hG7:∀B0:ua,B0.handled=none->Dl w B0 a O.gens.size C I [c2] 4 (Ey (Cs (W.getD (W.length-1) 0 / 16) 4)) 0 j:=λB0 hB=>cv (hG4 B0 hB) hgi m
 have D:j.heap.IsGen a O.gens.size:=Qo E (m a (za ..))
 refine La (cR x7 (p:=.addr a) rfl (λa' ea=>?_) (λq=>nomatch q) (.inr ⟨a,rfl⟩))
 rw[nZ]
 refine La (KO (s₀:={s₀ with gens:=j.gens}) (n:=4) (ird:=1) (j2:=4) (rb:=rb) (rdd:=rdd) (rd:=rd) g F7 hi H hG7 D rfl (by decide) rfl rfl (kl 3 rfl) (kl 2 rfl) rfl (by rw[Un,Wd,Lp];lia)
  (λi Z=>by rcases IB u 4 i with h|h <;> rw[h] <;> decide) λs8 g8 x8=>⟨rfl,te ⟨rfl,?_⟩⟩)
 have F8:Fk w ({s₀ with gens:=s8.gens}:aa).heap:=F
 have y8:=x8.front 1 rfl
 refine La (uy (s₀:={s₀ with gens:=s8.gens}) (which:=false) (ird:=0) (q:=q) (doc:=doc) (T:=T) (f:=f) (t:=t) (X:=D2) (bk:=ck) (data:=K) (rb:=rb) (rdd:=rdd) (rd:=rd) g F8 c hi y8 cd7 pf (kl 9 rfl) (kl 10 rfl) (kl 11 rfl) hrec (kl 6 rfl) (kl 4 rfl) rfl rfl bK lK rfl (kl 2 rfl) (kl 1 rfl) rfl (by rw[Un,Ya,Wd,Lp,Yb,yc];lia)
  λoP9 s9 cd9 gb9 gk9 x9=>⟨rfl,?_⟩)
 have F9:Fk w ({s₀ with gens:=s9.gens}:aa).heap:=F
 refine yF (s₀:={s₀ with gens:=s9.gens}) (i:=1) (v:=v) (rb:=rb) (rdd:=rdd) (rd:=rd) (bits:=[]++jb W.dropLast++HB (W.getD (W.length-1) 0 / 16)++jb K) g F9 c hi x9 rfl hv rfl (kl 3 rfl) (kl 2 rfl) rfl
  (by simp[Wd,HB];lia) λτ V M=>?_
 have r:V.gens=s9.gens:=M.gens
 refine hQ τ rb rdd rd _ V (λhb=>?_) (by rw[r];exact M) (ml 9 rfl) (ml 13 rfl) (ml 3 rfl) (ml 2 rfl) (ml 1 rfl)
 rw[r]
 refine gb9 (g8.bare (gb7 λy hy=>?_))
 rw[G,Y,nR] at hy
 exact(Array.mem_push.mp hy).elim (hb y) λq=>q▸n3
end
noncomputable def Ij(half:Bool)(W K:List Int):List Int:=if half then jb W.dropLast++HB (W.getD (W.length-1) 0 / 16)++jb K else jb W++jb K
theorem Tj(bs:List Int)(room:Nat):(wordsOf bs room).length=room:=by simp[wordsOf]
theorem Uz{bs:List Int}(h:ql bs){room:Nat}(a:room<=(bs.length+7) / 8):Bh (wordsOf bs room):=λv hv=>by
 obtain ⟨i,hi,rfl⟩:=List.mem_map.mp hv
 have hi:=List.mem_range.mp hi
 exact Rw (As h _) (lr (by lia))
theorem zv{gen W:List Int}(h:Bh W):Bh (Gg gen W):=
 (Eo _ _ _ _ (h.append λv hv=>by rw[(List.mem_replicate.mp hv).2];decide)).drop _
theorem yv(gen W:List Int):(Gg gen W).length=gen.length:=by
 delta Gg
 rw[bh,ak,Ya,Pd];exact lj ..
section
variable{w:ja}{A:ua}{N:Nat}{s:aa}
theorem mE(g:GK (N+20) A)(F:Fk w s.heap){y:Ym}(ok:nk w y){b dd d:la}{bs:List Int}{m:Array Value}{tv:jg}{lv:Value}{half:Bool}
  (Y:VR s.heap y.pe lv) (hb:s.heap.get? b=some (Ld dd d)) (pC:s.heap.get? dd=some mf) (hd:nh s.heap d bs) (hB:ql bs) (hz:bs.length<=2 ^ 11) (hn:y.room<=(bs.length+7) / 8) (j:Yd s.heap 1944 1940 m) (i:Yd s.heap 1894 1892 #[])
  (hh:(([-3,-1]:List Int).any (·==y.v))=half) {Q:Value->aa->Prop}
  (hQ:∀rb rdd rd h' tk C,(∀z o,z≠1940->z≠1892->s.heap.get? z=some o->h'.get? z=some o)->(∃ps,Yd h' 1944 1940 ps)->(∃ps,Yd h' 1894 1892 ps)->((∀y∈s.gens,y.bare=true)->∀y∈C,y.bare=true)->
   h'.get? rb=some (Ld rdd rd)->h'.get? rdd=some mf->nh h' rd (Ij half (wordsOf bs y.room) (Gg y.gen (wordsOf bs y.room)))->Q (.ref rb) {s with heap:=h',toks:=tk,gens:=C}):
  mc (ka PP w) A (call (.ref 1895) [.int y.v tv,lv,.ref b]) Q s:=by
 have F0:Fk w (qi s.heap):=(F.off (by decide)).off (by decide)
 refine GP (N:=N) g F ok Y hb pC hd hB hz hn j i λenv f c' P' T t D1 D2 bk ck oc oP n p doc l u g5 V8 D4 C4 code pf hrec x5=>?_
 have r:env.scope=(fdOf (Yf w)).scope:=by subst u;rfl
 have hi:qe env=false:=by subst u;kernel_rfl
 have bW:=Uz hB hn
 have bK:=zv (gen:=y.gen) bW
 have hgl:=ok.hgl
 have hr:=ok.hr
 have hrm:=ok.hrm
 have lW:(wordsOf bs y.room).length<=200:=by rw[Tj];lia
 have lK:(Gg y.gen (wordsOf bs y.room)).length<=200:=by rw[yv];lia
 have F5:Fk w ({s with heap:=qi s.heap,gens:=l.gens}:aa).heap:=F0
 have D:∀(τ:List (xa×P)) rb rdd rd (a:List (la×Sa)) (s':aa),((∀y∈l.gens,y.bare=true)->∀y∈s'.gens,y.bare=true)->
   SX w env τ {({s with heap:=qi s.heap,gens:=l.gens}:aa) with gens:=s'.gens} (λz o=>(qi s.heap).get? z=some o) a s'->(1940,p)∈a->(1892,n)∈a->(rb,Ld rdd rd)∈a->(rdd,mf)∈a->
   (rd,qb (Ia (Ij half (wordsOf bs y.room) (Gg y.gen (wordsOf bs y.room)))))∈a->Q (.ref rb) s':=by
  intro τ rb rdd rd a s' k c O M L q J
  refine D4.elim λI G=>?_
  refine C4.elim λH E=>?_
  have V:=hQ rb rdd rd s'.heap s'.toks s'.gens (λz o B x e=>c.base (Gx e B x)) ⟨I,G _ (c.kp.get (F0.uf 40 rfl rfl)) (c.st.ks _ _ (.inr O))⟩ ⟨H,E _ (c.kp.get (F0.uf 34 rfl rfl)) (c.st.ks _ _ (.inr M))⟩ (λh=>k (V8 h))
   (c.st.ks _ _ (.inr L)) (c.st.ks _ _ (.inr q)) (c.st.ks _ _ (.inr J))
  have g9:s'={s with heap:=s'.heap,toks:=s'.toks,gens:=s'.gens}:=by
   refine Nc λhC=>?_;obtain ⟨h,tk,e⟩:=c.st.sh;refine hC ?_
   rw[e]
  rw[g9]
  exact V
 cases half with
 |false=>
  exact eM (s₀:={s with heap:=qi s.heap,gens:=l.gens}) (N:=N+8) (g5.mono (by lia)) F5 r hi x5 code pf hrec ok.hvl hh bW bK lW lK λτ rb rdd rd a s' B x h3 h4 h5 h6 h7=>D τ rb rdd rd a s' B x h3 h4 h5 h6 h7
 |true=>
  exact dM (s₀:={s with heap:=qi s.heap,gens:=l.gens}) (N:=N+8) (g5.mono (by lia)) F5 r hi x5 code pf hrec ok.hvl hh bW bK lW lK (by rw[Tj];exact hrm) λτ rb rdd rd a s' B x h3 h4 h5 h6 h7=>D τ rb rdd rd a s' B x h3 h4 h5 h6 h7
end
noncomputable def Xv(a:Nat):Sa:=(F1.lookup a).getD Ln
noncomputable def yn(w:ja)(o:Sa):List Int:=(rq (Qh o)).getD []
noncomputable def ly0(w:ja):Ym:=⟨-3,.none,140,146,⟨.type "tuple",none,.seq ⟨[.ref 145]⟩ 0,⟨[]⟩⟩,0,145,144,5,3,400,401,402,1869,0,Qh (sD w),yn w (sD w)⟩
theorem UT(w:ja):nk w (ly0 w) where
 hv:=by kernel_rfl
 hin:=λF=>⟨_,F.ec (140,Ga [⟨4238894112,.none,.ref 146⟩] 1) (sa 0 rfl),by kernel_rfl⟩
 hlev:=λ{A s' lv Q} a b F h=>by
  have a:lv=.none:=a
  subst a
  exact KU b F λh' k=>h _ (xq 1 k)
 ht:=λF=>F.ec (146,⟨.type "tuple",none,.seq ⟨[.ref 145]⟩ 0,⟨[]⟩⟩) (sa 3 rfl)
 hot:=⟨by kernel_rfl,by kernel_rfl⟩
 he:=λF=>F.ec (145,⟨.ref 135,some 144,.seq ⟨[.int 1 400,.int 5 401,.int 3 402]⟩ 0,⟨[]⟩⟩) (sa 2 rfl)
 hed:=λF=>F.ec (144,Ga [] 0) (sa 1 rfl)
 hgp:=by kernel_rfl
 hgt:=λF=>(F.uf 1 rfl rfl).trans (by kernel_rfl)
 hgi:=by kernel_rfl
 hgl:=by kernel_rfl
 hgb:=by kernel_rfl
 hr:=by show(5:Nat)<=200;decide
 hrm:=by show 1<=(3:Nat);decide
 n40:=⟨by show(146:Nat)≠1940;decide,by show(145:Nat)≠1940;decide,by show(144:Nat)≠1940;decide,by show(1869:Nat)≠1940;decide⟩
 hvl:=by show(-3:Int)<=1;decide
 npe:=nofun
noncomputable def ly1(w:ja):Ym:=⟨-2,.int 1,147,153,⟨.type "tuple",none,.seq ⟨[.ref 152]⟩ 0,⟨[]⟩⟩,0,152,151,10,5,412,413,414,1870,0,Qh (rD w),yn w (rD w)⟩
theorem RT(w:ja):nk w (ly1 w) where
 hv:=by kernel_rfl
 hin:=λF=>⟨_,F.ec (147,Ga [⟨1,.int 1 264,.ref 153⟩,⟨0,.int 0 266,.ref 159⟩] 2) (sa 4 rfl),by kernel_rfl⟩
 hlev:=λ{A s' lv Q} a b F h=>by
  obtain ⟨u,rfl⟩:=a
  exact ph (es:=xk (Xv 147)) (n:=match (Xv 147).data with|.dict _ n=>n|_=>0) ((F.ec (147,Ga [⟨1,.int 1 264,.ref 153⟩,⟨0,.int 0 266,.ref 159⟩] 2) (sa 4 rfl)).trans (by kernel_rfl)) (by kernel_rfl) (by kernel_rfl) (h _ (.tok _))
 ht:=λF=>F.ec (153,⟨.type "tuple",none,.seq ⟨[.ref 152]⟩ 0,⟨[]⟩⟩) (sa 7 rfl)
 hot:=⟨by kernel_rfl,by kernel_rfl⟩
 he:=λF=>F.ec (152,⟨.ref 135,some 151,.seq ⟨[.int 1 412,.int 10 413,.int 5 414]⟩ 0,⟨[]⟩⟩) (sa 6 rfl)
 hed:=λF=>F.ec (151,Ga [] 0) (sa 5 rfl)
 hgp:=by kernel_rfl
 hgt:=λF=>(F.uf 2 rfl rfl).trans (by kernel_rfl)
 hgi:=by kernel_rfl
 hgl:=by kernel_rfl
 hgb:=by kernel_rfl
 hr:=by show(10:Nat)<=200;decide
 hrm:=by show 1<=(5:Nat);decide
 n40:=⟨by show(153:Nat)≠1940;decide,by show(152:Nat)≠1940;decide,by show(151:Nat)≠1940;decide,by show(1870:Nat)≠1940;decide⟩
 hvl:=by show(-2:Int)<=1;decide
 npe:=nofun
noncomputable def ly2(w:ja):Ym:=⟨-2,.int 0,147,159,⟨.type "tuple",none,.seq ⟨[.ref 158]⟩ 0,⟨[]⟩⟩,0,158,157,10,4,422,423,424,1871,0,Qh (Gu w),yn w (Gu w)⟩
theorem QT(w:ja):nk w (ly2 w) where
 hv:=by kernel_rfl
 hin:=λF=>⟨_,F.ec (147,Ga [⟨1,.int 1 264,.ref 153⟩,⟨0,.int 0 266,.ref 159⟩] 2) (sa 4 rfl),by kernel_rfl⟩
 hlev:=λ{A s' lv Q} a b F h=>by
  obtain ⟨u,rfl⟩:=a
  exact ph (es:=xk (Xv 147)) (n:=match (Xv 147).data with|.dict _ n=>n|_=>0) ((F.ec (147,Ga [⟨1,.int 1 264,.ref 153⟩,⟨0,.int 0 266,.ref 159⟩] 2) (sa 4 rfl)).trans (by kernel_rfl)) (by kernel_rfl) (by kernel_rfl) (h _ (.tok _))
 ht:=λF=>F.ec (159,⟨.type "tuple",none,.seq ⟨[.ref 158]⟩ 0,⟨[]⟩⟩) (sa 10 rfl)
 hot:=⟨by kernel_rfl,by kernel_rfl⟩
 he:=λF=>F.ec (158,⟨.ref 135,some 157,.seq ⟨[.int 1 422,.int 10 423,.int 4 424]⟩ 0,⟨[]⟩⟩) (sa 9 rfl)
 hed:=λF=>F.ec (157,Ga [] 0) (sa 8 rfl)
 hgp:=by kernel_rfl
 hgt:=λF=>(F.uf 3 rfl rfl).trans (by kernel_rfl)
 hgi:=by kernel_rfl
 hgl:=by kernel_rfl
 hgb:=by kernel_rfl
 hr:=by show(10:Nat)<=200;decide
 hrm:=by show 1<=(4:Nat);decide
 n40:=⟨by show(159:Nat)≠1940;decide,by show(158:Nat)≠1940;decide,by show(157:Nat)≠1940;decide,by show(1871:Nat)≠1940;decide⟩
 hvl:=by show(-2:Int)<=1;decide
 npe:=nofun
noncomputable def ly3(w:ja):Ym:=⟨-1,.int 1,160,166,⟨.type "tuple",none,.seq ⟨[.ref 165]⟩ 0,⟨[]⟩⟩,0,165,164,17,11,435,436,437,1871,0,Qh (Gu w),yn w (Gu w)⟩
theorem OT(w:ja):nk w (ly3 w) where
 hv:=by kernel_rfl
 hin:=λF=>⟨_,F.ec (160,Ga [⟨1,.int 1 264,.ref 166⟩,⟨0,.int 0 266,.ref 172⟩] 2) (sa 11 rfl),by kernel_rfl⟩
 hlev:=λ{A s' lv Q} a b F h=>by
  obtain ⟨u,rfl⟩:=a
  exact ph (es:=xk (Xv 160)) (n:=match (Xv 160).data with|.dict _ n=>n|_=>0) ((F.ec (160,Ga [⟨1,.int 1 264,.ref 166⟩,⟨0,.int 0 266,.ref 172⟩] 2) (sa 11 rfl)).trans (by kernel_rfl)) (by kernel_rfl) (by kernel_rfl) (h _ (.tok _))
 ht:=λF=>F.ec (166,⟨.type "tuple",none,.seq ⟨[.ref 165]⟩ 0,⟨[]⟩⟩) (sa 14 rfl)
 hot:=⟨by kernel_rfl,by kernel_rfl⟩
 he:=λF=>F.ec (165,⟨.ref 135,some 164,.seq ⟨[.int 1 435,.int 17 436,.int 11 437]⟩ 0,⟨[]⟩⟩) (sa 13 rfl)
 hed:=λF=>F.ec (164,Ga [] 0) (sa 12 rfl)
 hgp:=by kernel_rfl
 hgt:=λF=>(F.uf 3 rfl rfl).trans (by kernel_rfl)
 hgi:=by kernel_rfl
 hgl:=by kernel_rfl
 hgb:=by kernel_rfl
 hr:=by show(17:Nat)<=200;decide
 hrm:=by show 1<=(11:Nat);decide
 n40:=⟨by show(166:Nat)≠1940;decide,by show(165:Nat)≠1940;decide,by show(164:Nat)≠1940;decide,by show(1871:Nat)≠1940;decide⟩
 hvl:=by show(-1:Int)<=1;decide
 npe:=nofun
noncomputable def ly4(w:ja):Ym:=⟨-1,.int 0,160,172,⟨.type "tuple",none,.seq ⟨[.ref 171]⟩ 0,⟨[]⟩⟩,0,171,170,17,9,445,446,447,1873,0,Qh (Fu w),yn w (Fu w)⟩
theorem NT(w:ja):nk w (ly4 w) where
 hv:=by kernel_rfl
 hin:=λF=>⟨_,F.ec (160,Ga [⟨1,.int 1 264,.ref 166⟩,⟨0,.int 0 266,.ref 172⟩] 2) (sa 11 rfl),by kernel_rfl⟩
 hlev:=λ{A s' lv Q} a b F h=>by
  obtain ⟨u,rfl⟩:=a
  exact ph (es:=xk (Xv 160)) (n:=match (Xv 160).data with|.dict _ n=>n|_=>0) ((F.ec (160,Ga [⟨1,.int 1 264,.ref 166⟩,⟨0,.int 0 266,.ref 172⟩] 2) (sa 11 rfl)).trans (by kernel_rfl)) (by kernel_rfl) (by kernel_rfl) (h _ (.tok _))
 ht:=λF=>F.ec (172,⟨.type "tuple",none,.seq ⟨[.ref 171]⟩ 0,⟨[]⟩⟩) (sa 17 rfl)
 hot:=⟨by kernel_rfl,by kernel_rfl⟩
 he:=λF=>F.ec (171,⟨.ref 135,some 170,.seq ⟨[.int 1 445,.int 17 446,.int 9 447]⟩ 0,⟨[]⟩⟩) (sa 16 rfl)
 hed:=λF=>F.ec (170,Ga [] 0) (sa 15 rfl)
 hgp:=by kernel_rfl
 hgt:=λF=>(F.uf 5 rfl rfl).trans (by kernel_rfl)
 hgi:=by kernel_rfl
 hgl:=by kernel_rfl
 hgb:=by kernel_rfl
 hr:=by show(17:Nat)<=200;decide
 hrm:=by show 1<=(9:Nat);decide
 n40:=⟨by show(172:Nat)≠1940;decide,by show(171:Nat)≠1940;decide,by show(170:Nat)≠1940;decide,by show(1873:Nat)≠1940;decide⟩
 hvl:=by show(-1:Int)<=1;decide
 npe:=nofun
noncomputable def ly5(w:ja):Ym:=⟨0,.int 1,173,179,⟨.type "tuple",none,.seq ⟨[.ref 178]⟩ 0,⟨[]⟩⟩,0,178,177,24,16,458,459,460,1873,0,Qh (Fu w),yn w (Fu w)⟩
theorem MT(w:ja):nk w (ly5 w) where
 hv:=by kernel_rfl
 hin:=λF=>⟨_,F.ec (173,Ga [⟨1,.int 1 264,.ref 179⟩,⟨0,.int 0 266,.ref 185⟩,⟨3,.int 3 268,.ref 191⟩] 3) (sa 18 rfl),by kernel_rfl⟩
 hlev:=λ{A s' lv Q} a b F h=>by
  obtain ⟨u,rfl⟩:=a
  exact ph (es:=xk (Xv 173)) (n:=match (Xv 173).data with|.dict _ n=>n|_=>0) ((F.ec (173,Ga [⟨1,.int 1 264,.ref 179⟩,⟨0,.int 0 266,.ref 185⟩,⟨3,.int 3 268,.ref 191⟩] 3) (sa 18 rfl)).trans (by kernel_rfl)) (by kernel_rfl) (by kernel_rfl) (h _ (.tok _))
 ht:=λF=>F.ec (179,⟨.type "tuple",none,.seq ⟨[.ref 178]⟩ 0,⟨[]⟩⟩) (sa 21 rfl)
 hot:=⟨by kernel_rfl,by kernel_rfl⟩
 he:=λF=>F.ec (178,⟨.ref 135,some 177,.seq ⟨[.int 1 458,.int 24 459,.int 16 460]⟩ 0,⟨[]⟩⟩) (sa 20 rfl)
 hed:=λF=>F.ec (177,Ga [] 0) (sa 19 rfl)
 hgp:=by kernel_rfl
 hgt:=λF=>(F.uf 5 rfl rfl).trans (by kernel_rfl)
 hgi:=by kernel_rfl
 hgl:=by kernel_rfl
 hgb:=by kernel_rfl
 hr:=by show(24:Nat)<=200;decide
 hrm:=by show 1<=(16:Nat);decide
 n40:=⟨by show(179:Nat)≠1940;decide,by show(178:Nat)≠1940;decide,by show(177:Nat)≠1940;decide,by show(1873:Nat)≠1940;decide⟩
 hvl:=by show(0:Int)<=1;decide
 npe:=nofun
noncomputable def ly6(w:ja):Ym:=⟨0,.int 0,173,185,⟨.type "tuple",none,.seq ⟨[.ref 184]⟩ 0,⟨[]⟩⟩,0,184,183,24,14,468,469,470,1874,0,Qh (Eu w),yn w (Eu w)⟩
theorem JT(w:ja):nk w (ly6 w) where
 hv:=by kernel_rfl
 hin:=λF=>⟨_,F.ec (173,Ga [⟨1,.int 1 264,.ref 179⟩,⟨0,.int 0 266,.ref 185⟩,⟨3,.int 3 268,.ref 191⟩] 3) (sa 18 rfl),by kernel_rfl⟩
 hlev:=λ{A s' lv Q} a b F h=>by
  obtain ⟨u,rfl⟩:=a
  exact ph (es:=xk (Xv 173)) (n:=match (Xv 173).data with|.dict _ n=>n|_=>0) ((F.ec (173,Ga [⟨1,.int 1 264,.ref 179⟩,⟨0,.int 0 266,.ref 185⟩,⟨3,.int 3 268,.ref 191⟩] 3) (sa 18 rfl)).trans (by kernel_rfl)) (by kernel_rfl) (by kernel_rfl) (h _ (.tok _))
 ht:=λF=>F.ec (185,⟨.type "tuple",none,.seq ⟨[.ref 184]⟩ 0,⟨[]⟩⟩) (sa 24 rfl)
 hot:=⟨by kernel_rfl,by kernel_rfl⟩
 he:=λF=>F.ec (184,⟨.ref 135,some 183,.seq ⟨[.int 1 468,.int 24 469,.int 14 470]⟩ 0,⟨[]⟩⟩) (sa 23 rfl)
 hed:=λF=>F.ec (183,Ga [] 0) (sa 22 rfl)
 hgp:=by kernel_rfl
 hgt:=λF=>(F.uf 6 rfl rfl).trans (by kernel_rfl)
 hgi:=by kernel_rfl
 hgl:=by kernel_rfl
 hgb:=by kernel_rfl
 hr:=by show(24:Nat)<=200;decide
 hrm:=by show 1<=(14:Nat);decide
 n40:=⟨by show(185:Nat)≠1940;decide,by show(184:Nat)≠1940;decide,by show(183:Nat)≠1940;decide,by show(1874:Nat)≠1940;decide⟩
 hvl:=by show(0:Int)<=1;decide
 npe:=nofun
noncomputable def ly7(w:ja):Ym:=⟨0,.int 3,173,191,⟨.type "tuple",none,.seq ⟨[.ref 190]⟩ 0,⟨[]⟩⟩,0,190,189,24,10,478,479,480,1876,0,Qh (mD w),yn w (mD w)⟩
theorem IT(w:ja):nk w (ly7 w) where
 hv:=by kernel_rfl
 hin:=λF=>⟨_,F.ec (173,Ga [⟨1,.int 1 264,.ref 179⟩,⟨0,.int 0 266,.ref 185⟩,⟨3,.int 3 268,.ref 191⟩] 3) (sa 18 rfl),by kernel_rfl⟩
 hlev:=λ{A s' lv Q} a b F h=>by
  obtain ⟨u,rfl⟩:=a
  exact ph (es:=xk (Xv 173)) (n:=match (Xv 173).data with|.dict _ n=>n|_=>0) ((F.ec (173,Ga [⟨1,.int 1 264,.ref 179⟩,⟨0,.int 0 266,.ref 185⟩,⟨3,.int 3 268,.ref 191⟩] 3) (sa 18 rfl)).trans (by kernel_rfl)) (by kernel_rfl) (by kernel_rfl) (h _ (.tok _))
 ht:=λF=>F.ec (191,⟨.type "tuple",none,.seq ⟨[.ref 190]⟩ 0,⟨[]⟩⟩) (sa 27 rfl)
 hot:=⟨by kernel_rfl,by kernel_rfl⟩
 he:=λF=>F.ec (190,⟨.ref 135,some 189,.seq ⟨[.int 1 478,.int 24 479,.int 10 480]⟩ 0,⟨[]⟩⟩) (sa 26 rfl)
 hed:=λF=>F.ec (189,Ga [] 0) (sa 25 rfl)
 hgp:=by kernel_rfl
 hgt:=λF=>(F.uf 8 rfl rfl).trans (by kernel_rfl)
 hgi:=by kernel_rfl
 hgl:=by kernel_rfl
 hgb:=by kernel_rfl
 hr:=by show(24:Nat)<=200;decide
 hrm:=by show 1<=(10:Nat);decide
 n40:=⟨by show(191:Nat)≠1940;decide,by show(190:Nat)≠1940;decide,by show(189:Nat)≠1940;decide,by show(1876:Nat)≠1940;decide⟩
 hvl:=by show(0:Int)<=1;decide
 npe:=nofun
noncomputable def ly8(w:ja):Ym:=⟨1,.int 1,192,198,⟨.type "tuple",none,.seq ⟨[.ref 197]⟩ 0,⟨[]⟩⟩,0,197,196,26,19,493,494,495,1872,0,Qh (qD w),yn w (qD w)⟩
theorem HT(w:ja):nk w (ly8 w) where
 hv:=by kernel_rfl
 hin:=λF=>⟨_,F.ec (192,Ga [⟨1,.int 1 264,.ref 198⟩,⟨0,.int 0 266,.ref 204⟩,⟨3,.int 3 268,.ref 210⟩,⟨2,.int 2 270,.ref 216⟩] 4) (sa 28 rfl),by kernel_rfl⟩
 hlev:=λ{A s' lv Q} a b F h=>by
  obtain ⟨u,rfl⟩:=a
  exact ph (es:=xk (Xv 192)) (n:=match (Xv 192).data with|.dict _ n=>n|_=>0) ((F.ec (192,Ga [⟨1,.int 1 264,.ref 198⟩,⟨0,.int 0 266,.ref 204⟩,⟨3,.int 3 268,.ref 210⟩,⟨2,.int 2 270,.ref 216⟩] 4) (sa 28 rfl)).trans (by kernel_rfl)) (by kernel_rfl) (by kernel_rfl) (h _ (.tok _))
 ht:=λF=>F.ec (198,⟨.type "tuple",none,.seq ⟨[.ref 197]⟩ 0,⟨[]⟩⟩) (sa 31 rfl)
 hot:=⟨by kernel_rfl,by kernel_rfl⟩
 he:=λF=>F.ec (197,⟨.ref 135,some 196,.seq ⟨[.int 1 493,.int 26 494,.int 19 495]⟩ 0,⟨[]⟩⟩) (sa 30 rfl)
 hed:=λF=>F.ec (196,Ga [] 0) (sa 29 rfl)
 hgp:=by kernel_rfl
 hgt:=λF=>(F.uf 4 rfl rfl).trans (by kernel_rfl)
 hgi:=by kernel_rfl
 hgl:=by kernel_rfl
 hgb:=by kernel_rfl
 hr:=by show(26:Nat)<=200;decide
 hrm:=by show 1<=(19:Nat);decide
 n40:=⟨by show(198:Nat)≠1940;decide,by show(197:Nat)≠1940;decide,by show(196:Nat)≠1940;decide,by show(1872:Nat)≠1940;decide⟩
 hvl:=by show(1:Int)<=1;decide
 npe:=nofun
noncomputable def ly9(w:ja):Ym:=⟨1,.int 0,192,204,⟨.type "tuple",none,.seq ⟨[.ref 203]⟩ 0,⟨[]⟩⟩,0,203,202,26,16,503,504,505,1874,0,Qh (Eu w),yn w (Eu w)⟩
theorem FT(w:ja):nk w (ly9 w) where
 hv:=by kernel_rfl
 hin:=λF=>⟨_,F.ec (192,Ga [⟨1,.int 1 264,.ref 198⟩,⟨0,.int 0 266,.ref 204⟩,⟨3,.int 3 268,.ref 210⟩,⟨2,.int 2 270,.ref 216⟩] 4) (sa 28 rfl),by kernel_rfl⟩
 hlev:=λ{A s' lv Q} a b F h=>by
  obtain ⟨u,rfl⟩:=a
  exact ph (es:=xk (Xv 192)) (n:=match (Xv 192).data with|.dict _ n=>n|_=>0) ((F.ec (192,Ga [⟨1,.int 1 264,.ref 198⟩,⟨0,.int 0 266,.ref 204⟩,⟨3,.int 3 268,.ref 210⟩,⟨2,.int 2 270,.ref 216⟩] 4) (sa 28 rfl)).trans (by kernel_rfl)) (by kernel_rfl) (by kernel_rfl) (h _ (.tok _))
 ht:=λF=>F.ec (204,⟨.type "tuple",none,.seq ⟨[.ref 203]⟩ 0,⟨[]⟩⟩) (sa 34 rfl)
 hot:=⟨by kernel_rfl,by kernel_rfl⟩
 he:=λF=>F.ec (203,⟨.ref 135,some 202,.seq ⟨[.int 1 503,.int 26 504,.int 16 505]⟩ 0,⟨[]⟩⟩) (sa 33 rfl)
 hed:=λF=>F.ec (202,Ga [] 0) (sa 32 rfl)
 hgp:=by kernel_rfl
 hgt:=λF=>(F.uf 6 rfl rfl).trans (by kernel_rfl)
 hgi:=by kernel_rfl
 hgl:=by kernel_rfl
 hgb:=by kernel_rfl
 hr:=by show(26:Nat)<=200;decide
 hrm:=by show 1<=(16:Nat);decide
 n40:=⟨by show(204:Nat)≠1940;decide,by show(203:Nat)≠1940;decide,by show(202:Nat)≠1940;decide,by show(1874:Nat)≠1940;decide⟩
 hvl:=by show(1:Int)<=1;decide
 npe:=nofun
noncomputable def G7(w:ja):Ym:=⟨1,.int 3,192,210,⟨.type "tuple",none,.seq ⟨[.ref 209]⟩ 0,⟨[]⟩⟩,0,209,208,26,13,513,514,515,1875,0,Qh (pD w),yn w (pD w)⟩
theorem XO(w:ja):nk w (G7 w) where
 hv:=by kernel_rfl
 hin:=λF=>⟨_,F.ec (192,Ga [⟨1,.int 1 264,.ref 198⟩,⟨0,.int 0 266,.ref 204⟩,⟨3,.int 3 268,.ref 210⟩,⟨2,.int 2 270,.ref 216⟩] 4) (sa 28 rfl),by kernel_rfl⟩
 hlev:=λ{A s' lv Q} a b F h=>by
  obtain ⟨u,rfl⟩:=a
  exact ph (es:=xk (Xv 192)) (n:=match (Xv 192).data with|.dict _ n=>n|_=>0) ((F.ec (192,Ga [⟨1,.int 1 264,.ref 198⟩,⟨0,.int 0 266,.ref 204⟩,⟨3,.int 3 268,.ref 210⟩,⟨2,.int 2 270,.ref 216⟩] 4) (sa 28 rfl)).trans (by kernel_rfl)) (by kernel_rfl) (by kernel_rfl) (h _ (.tok _))
 ht:=λF=>F.ec (210,⟨.type "tuple",none,.seq ⟨[.ref 209]⟩ 0,⟨[]⟩⟩) (sa 37 rfl)
 hot:=⟨by kernel_rfl,by kernel_rfl⟩
 he:=λF=>F.ec (209,⟨.ref 135,some 208,.seq ⟨[.int 1 513,.int 26 514,.int 13 515]⟩ 0,⟨[]⟩⟩) (sa 36 rfl)
 hed:=λF=>F.ec (208,Ga [] 0) (sa 35 rfl)
 hgp:=by kernel_rfl
 hgt:=λF=>(F.uf 7 rfl rfl).trans (by kernel_rfl)
 hgi:=by kernel_rfl
 hgl:=by kernel_rfl
 hgb:=by kernel_rfl
 hr:=by show(26:Nat)<=200;decide
 hrm:=by show 1<=(13:Nat);decide
 n40:=⟨by show(210:Nat)≠1940;decide,by show(209:Nat)≠1940;decide,by show(208:Nat)≠1940;decide,by show(1875:Nat)≠1940;decide⟩
 hvl:=by show(1:Int)<=1;decide
 npe:=nofun
noncomputable def E7(w:ja):Ym:=⟨1,.int 2,192,216,⟨.type "tuple",none,.seq ⟨[.ref 215]⟩ 0,⟨[]⟩⟩,0,215,214,26,9,523,524,525,1879,0,Qh (lD w),yn w (lD w)⟩
theorem WO(w:ja):nk w (E7 w) where
 hv:=by kernel_rfl
 hin:=λF=>⟨_,F.ec (192,Ga [⟨1,.int 1 264,.ref 198⟩,⟨0,.int 0 266,.ref 204⟩,⟨3,.int 3 268,.ref 210⟩,⟨2,.int 2 270,.ref 216⟩] 4) (sa 28 rfl),by kernel_rfl⟩
 hlev:=λ{A s' lv Q} a b F h=>by
  obtain ⟨u,rfl⟩:=a
  exact ph (es:=xk (Xv 192)) (n:=match (Xv 192).data with|.dict _ n=>n|_=>0) ((F.ec (192,Ga [⟨1,.int 1 264,.ref 198⟩,⟨0,.int 0 266,.ref 204⟩,⟨3,.int 3 268,.ref 210⟩,⟨2,.int 2 270,.ref 216⟩] 4) (sa 28 rfl)).trans (by kernel_rfl)) (by kernel_rfl) (by kernel_rfl) (h _ (.tok _))
 ht:=λF=>F.ec (216,⟨.type "tuple",none,.seq ⟨[.ref 215]⟩ 0,⟨[]⟩⟩) (sa 40 rfl)
 hot:=⟨by kernel_rfl,by kernel_rfl⟩
 he:=λF=>F.ec (215,⟨.ref 135,some 214,.seq ⟨[.int 1 523,.int 26 524,.int 9 525]⟩ 0,⟨[]⟩⟩) (sa 39 rfl)
 hed:=λF=>F.ec (214,Ga [] 0) (sa 38 rfl)
 hgp:=by kernel_rfl
 hgt:=λF=>(F.uf 11 rfl rfl).trans (by kernel_rfl)
 hgi:=by kernel_rfl
 hgl:=by kernel_rfl
 hgb:=by kernel_rfl
 hr:=by show(26:Nat)<=200;decide
 hrm:=by show 1<=(9:Nat);decide
 n40:=⟨by show(216:Nat)≠1940;decide,by show(215:Nat)≠1940;decide,by show(214:Nat)≠1940;decide,by show(1879:Nat)≠1940;decide⟩
 hvl:=by show(1:Int)<=1;decide
 npe:=nofun
noncomputable def K5:List cb:=(yf (Ji 21)).2.1
noncomputable def J5:Oa:=aV (ma K5 0)
theorem uR(w:ja):Fn (ky w) (pK w) 1972 K5:=⟨by kernel_rfl,by kernel_rfl,by kernel_rfl,by kernel_rfl,by kernel_rfl,by kernel_rfl⟩
theorem MM{w:ja}{s:aa}:Sf s (fdOf (ky w)) ⟨[],[]⟩ []:=th (by kernel_rfl)
noncomputable def ZK:List (List P):=[[.int (-3),.none,.int 5,.int 3],[.int (-2),.int 1,.int 10,.int 5],[.int (-2),.int 0,.int 10,.int 4],[.int (-1),.int 1,.int 17,.int 11],[.int (-1),.int 0,.int 17,.int 9],
 [.int 0,.int 1,.int 24,.int 16],[.int 0,.int 0,.int 24,.int 14],[.int 0,.int 3,.int 24,.int 10],[.int 1,.int 1,.int 26,.int 19],[.int 1,.int 0,.int 26,.int 16],[.int 1,.int 3,.int 26,.int 13],[.int 1,.int 2,.int 26,.int 9]]
noncomputable def VT(h:Na)(ps:List P)(v:Value):Prop:=∃T vs,v=.ref T/\h.get? T=some (Bf vs 0)/\Zp h ps vs
noncomputable def oQ(h:Na):List (List P)->List Value->Prop
 |[],[]=>True
 |p::ps,v::vs=>VT h p v/\oQ h ps vs
 |_,_=>False
theorem VT.keeps{h h':Na}(k:∀b o,h.get? b=some o->h'.get? b=some o){ps:List P}{v:Value}(x:VT h ps v):VT h' ps v:=
 x.elim λT y=>y.elim λvs y=>⟨T,vs,y.1,k _ _ y.2.1,Zp.keeps k y.2.2⟩
theorem oQ.keeps{h h':Na}(k:∀b o,h.get? b=some o->h'.get? b=some o):∀{ps:List (List P)} {vs:List Value},oQ h ps vs->oQ h' ps vs
 |[],[],_=>trivial
 |_::_,_::_,x=>⟨x.1.keeps k,oQ.keeps k x.2⟩
 |[],_::_,x=>x.elim
 |_::_,[],x=>x.elim
theorem oQ.at{h:Na}:∀{ps:List (List P)} {vs:List Value},oQ h ps vs->ps.length=vs.length/\∀(i:Nat) (p:List P),ps[i]?=some p->∃v,vs[i]?=some v/\VT h p v
 |[],[],_=>⟨rfl,λi p e=>by simp at e⟩
 |p::ps,v::vs,x=>by
  refine(x.2.at).elim λb a=>?_
  refine⟨by simp[b],λi q e=>?_⟩
  cases i with
  |zero=>cases e;exact⟨v,rfl,x.1⟩
  |succ i=>exact a i q (by simpa using e)
 |[],_::_,x=>x.elim
 |_::_,[],x=>x.elim
theorem Zp.len{h:Na}:∀{ps:List P} {vs:List Value},Zp h ps vs->ps.length=vs.length
 |[],[],_=>rfl
 |_::_,_::_,x=>by simp[x.2.len]
 |[],_::_,x=>x.elim
 |_::_,[],x=>x.elim
noncomputable def tuE:(e:Oa)->Option {x:List Oa×Nat×xd // e=.Tuple x.1 x.2.1 x.2.2}
 |.Tuple es k p=>some ⟨(es,k,p),rfl⟩
 |_=>none
noncomputable def yV(f:Oa->Option Rs):List Oa->Option (List (List P)×Prop)
 |[]=>some ([],True)
 |e::r=>(tuE e).bind λx=>(HI f x.1.1).bind λy=>(yV f r).bind λz=>some (y.1::z.1,y.2/\z.2)
section
variable{prog:wa}{w:ja}{A:ua}{N:Nat}{env:Be}{s:aa}
theorem lS{f:Oa->Option Rs}(S:Sound prog w A env f s){es:List Oa}{k:Nat}{pos:xd}{ps:List P}{c:Prop}(e:HI f es=some (ps,c))(hc:c)(d:ps.length<=100):
  wpAny (ka prog w) A (eval (.Tuple es k pos) env) (λv s'=>Kp s s'/\VT s'.heap ps v) Jc s:=by
 refine Wi (Lb (iM S pos e hc).2 (λvs a yb=>?_) λZ Z q=>q)
 refine yb.elim λb hv=>?_
 refine⟨by rw[<- hv.len];dsimp only[Kb];lia,b.trans' (.push _),_,vs,rfl,ra _ rfl,hv.keeps λZ Z e=>fa _ e⟩
theorem eO{f:Oa->Option Rs}(pos:xd):∀{es:List Oa} {s:aa} (S:Sound prog w A env f s),OK (yV f es) λy=>y.2->(∀p∈y.1,p.length<=100)->
  wpAny (ka prog w) A (Qi (Bg pos (Ae es env))) (λvs s'=>Kp s s'/\oQ s'.heap y.1 vs) Jc s:=by
 intro es
 induction es with
 |nil=>exact λZ=>OK.some λZ Z=>spliced_nil ⟨.Ce,trivial⟩
 |cons x es g=>
  refine λS=>OK.bind λx Z=>OK.bind λy i=>OK.bind λz h=>OK.some λhc d=>?_
  obtain ⟨x,rfl⟩:=x
  exact spliced_cons (Lb (lS (k:=x.2.1) S i hc.1 (d _ (za ..))) (λv c yb=>Lb (g (S.kp yb.1) z h hc.2 λp hp=>d p (ya _ hp)) (λvs b a=>⟨yb.1.trans' a.1,yb.2.keeps λZ Z e=>a.1.get e,a.2⟩) λZ Z q=>q) λZ Z q=>q)
noncomputable def VO:List (xa×ub):=(yf (Ji 21)).2.2.names
theorem p0:K5=[.Return (some J5) (aP (ma K5 0))]:=by kernel_rfl
noncomputable def b0:List Oa:=match J5 with
 |.List es _=>es
 |_=>[]
theorem l0:J5=.List b0 J5.pos:=by kernel_rfl
noncomputable def aW:Nat->Prop
 |0=>True
 |n+1=>(True/\True/\True/\True/\True)/\aW n
theorem eG:∀n,aW n
 |0=>trivial
 |n+1=>⟨⟨trivial,trivial,trivial,trivial,trivial⟩,eG n⟩
theorem j0:yV (ev Gj (λZ Z=>none) 4 VO []) b0=some (ZK,aW 12):=by kernel_rfl
theorem YK:∀p∈ZK,p.length<=100:=λp hp=>by
 have:ZK.all (λp=>decide (p.length<=100))=true:=by kernel_rfl
 exact of_decide_eq_true (List.all_eq_true.mp this p hp)
theorem Oi{σ:List (xa×P)}(h:∀f a,σ.lookup f=some (.addr a)->False):zk prog w N (λZ Z=>none) σ s:=
 ⟨λf a e=>(h f a e).elim,λf a ps r e=>(h f a e).elim⟩
theorem xM(g:GA (N+4) A)(F:Fk w s.heap):wpAny (ka PP w) A (call (.ref 1973) []) (λv s'=>∃L j,v=.ref L/\Kp s s'/\s'.heap.get? L=some (Wa j 0)/\oQ s'.heap ZK j) Jc s:=by
 refine rB (N:=N+2) (G:=GW w) (rd:=[]) (σ:=[]) (adr:=λZ=>0) (uR w) g (cf F) (F.uf 31 rfl rfl) (F.uf 41 rfl rfl) MM (by kernel_rfl) (by kernel_rfl) (by kernel_rfl) trivial (λx y ns ms Z e=>by cases e) λenv c i h b=>?_
 have n:∀x,env.kindOf x=(fdOf (ky w)).scope.names.lookup x:=λx=>by unfold bc;rw[i]
 have m:(fdOf (ky w)).scope.names=VO:=by kernel_rfl
 have so:Ui VO env:=⟨λx e=>by rw[n,m];exact e,λx e=>by rw[n,m];exact e⟩
 have S:=Ml (prog:=PP) (w:=w) (fn:=λZ Z=>none) h 4 VO [] env c b.re so (Oi λf a e=>by cases e)
 rw[p0]
 refine wpAny_execs_cons (wpAny_Return_some ?_)
 rw[l0]
 refine fq (Lb (eO _ S _ j0 (eG _) YK) (λvs l d=>?_) λZ Z q=>q)
 refine d.elim λk hv=>?_
 refine⟨by rw[<- hv.at.1];decide,_,rfl,_,vs,rfl,b.kp.trans' (k.trans' (.push _)),ra _ rfl,hv.keeps λZ Z e=>fa _ e⟩
end
noncomputable def Od:List cb:=(yf (Ji 22)).2.1
noncomputable def Hd:List (xa×ub):=(yf (Ji 22)).2.2.names
noncomputable def ud:List xa:=["numbers","version","level","total","room","checks","half","bits","place","word","sent","start","bit","power","spoilt","places","turn","number","logs","powers","words","rest"]
theorem N1:Od=[ma Od 0,ma Od 1,ma Od 2,ma Od 3,ma Od 4,ma Od 5,ma Od 6,ma Od 7,ma Od 8,ma Od 9,ma Od 10,ma Od 11,ma Od 12,ma Od 13,ma Od 14,ma Od 15,ma Od 16,ma Od 17,ma Od 18,ma Od 19,ma Od 20,ma Od 21,ma Od 22]:=by kernel_rfl
noncomputable abbrev Um(x:xa)(st:cb):cb:=.Assign [.Name x (aT st).pos] (aV st) (aP st)
theorem lw0:ma Od 0=Um "numbers" (ma Od 0):=by kernel_rfl
theorem lw2:ma Od 2=Um "checks" (ma Od 2):=by kernel_rfl
theorem lw3:ma Od 3=Um "half" (ma Od 3):=by kernel_rfl
theorem lw4:ma Od 4=Um "bits" (ma Od 4):=by kernel_rfl
theorem lw9:ma Od 9=Um "sent" (ma Od 9):=by kernel_rfl
theorem W7:ma Od 10=Um "words" (ma Od 10):=by kernel_rfl
theorem U7:ma Od 12=Um "powers" (ma Od 12):=by kernel_rfl
theorem T7:ma Od 13=Um "logs" (ma Od 13):=by kernel_rfl
theorem S7:ma Od 14=Um "power" (ma Od 14):=by kernel_rfl
theorem O7:ma Od 18=Um "spoilt" (ma Od 18):=by kernel_rfl
theorem J7:ma Od 21=Um "start" (ma Od 21):=by kernel_rfl
theorem lw6:ma Od 6=.AugAssign (.Name "bits" (aT (ma Od 6)).pos) .Add (aV (ma Od 6)) (aP (ma Od 6)):=by kernel_rfl
theorem lw8:ma Od 8=.If (aV (ma Od 8)) (aB (ma Od 8)) [] (aP (ma Od 8)):=by kernel_rfl
theorem P7:ma Od 17=.If (aV (ma Od 17)) (aB (ma Od 17)) [] (aP (ma Od 17)):=by kernel_rfl
noncomputable abbrev FP(x:xa)(st:cb):cb:=.For (.Name x (aT st).pos) (aV st) (aB st) [] (aP st)
theorem lw5:ma Od 5=FP "place" (ma Od 5):=by kernel_rfl
theorem V7:ma Od 11=FP "start" (ma Od 11):=by kernel_rfl
theorem R7:ma Od 15=FP "place" (ma Od 15):=by kernel_rfl
theorem M7:ma Od 20=FP "turn" (ma Od 20):=by kernel_rfl
theorem I7:ma Od 22=.Return (some (aV (ma Od 22))) (aP (ma Od 22)):=by kernel_rfl
noncomputable def dR:List cb:=aB (ma Od 5)
noncomputable def Kz:List cb:=aB (ma Od 11)
noncomputable def xA:List cb:=aB (ma Od 15)
noncomputable def Lz:List cb:=aB (ma Od 20)
theorem B1:dR=[Um "word" (ma dR 0),.AugAssign (.Name "bits" (aT (ma dR 1)).pos) .Add (aV (ma dR 1)) (aP (ma dR 1))]:=by kernel_rfl
theorem Z0:Kz=[Um "word" (ma Kz 0),.For (.Name "bit" (aT (ma Kz 1)).pos) (aV (ma Kz 1)) [Um "word" (ma (aB (ma Kz 1)) 0)] [] (aP (ma Kz 1)),
 .Expr (.Call (.Attribute (.Name "words" (ch (ch (aV (ma Kz 2)) 0) 0).pos) "append" (ch (aV (ma Kz 2)) 0).pos) [ch (aV (ma Kz 2)) 1] [] (aV (ma Kz 2)).pos) (aP (ma Kz 2))]:=by kernel_rfl
theorem j1:xA=[.Expr (.Call (.Attribute (.Name "powers" (ch (ch (aV (ma xA 0)) 0) 0).pos) "append" (ch (aV (ma xA 0)) 0).pos) [ch (aV (ma xA 0)) 1] [] (aV (ma xA 0)).pos) (aP (ma xA 0)),
 .Assign [.Subscript (.Name "logs" (ch (aT (ma xA 1)) 0).pos) (ch (aT (ma xA 1)) 1) (aT (ma xA 1)).pos] (aV (ma xA 1)) (aP (ma xA 1)),Um "power" (ma xA 2)]:=by kernel_rfl
theorem C1:Lz=[Um "number" (ma Lz 0),.Assign [.Name "place" (aT (ma Lz 1)).pos] (.Call (.Attribute (.Name "places" (ch (ch (aV (ma Lz 1)) 0) 0).pos) "pop" (ch (aV (ma Lz 1)) 0).pos) [ch (aV (ma Lz 1)) 1] [] (aV (ma Lz 1)).pos) (aP (ma Lz 1)),
 .Assign [.Subscript (.Name "words" (ch (aT (ma Lz 2)) 0).pos) (ch (aT (ma Lz 2)) 1) (aT (ma Lz 2)).pos] (aV (ma Lz 2)) (aP (ma Lz 2))]:=by kernel_rfl
theorem YR(a b c:Nat):a^^^(b^^^c)=b^^^(a^^^c):=by rw[<- Ri,DC a b,Ri]
theorem XE(a b:Nat):a^^^(a^^^b)=b:=by rw[<- Ri,yt,tl]
theorem Vt{a b:Nat}(h:a^^^b=0):a=b:=by
 have:=XE a b
 rw[h,Kg] at this;exact this
theorem bJ(a b c d:Nat):(a^^^b)^^^(c^^^d)=(a^^^c)^^^(b^^^d):=by
 rw[Ri,Ri,YR b c d]
theorem Vo{a b:Nat}(c:a < 256)(hb:b < 256):a^^^b < 256:=QI (n:=8) c hb
theorem aJ(a:Nat):xt a=(2*a)^^^(if a < 128 then 0 else 285):=by unfold xt;split <;> simp
theorem bQ(a b:Nat):2*(a^^^b)=(2*a)^^^(2*b):=by
 have:=@Nat.shiftLeft_xor_distrib 1 a b
 rw[lu,lu,lu,Vv] at this
 rw[zt 2,zt 2 a,zt 2 b];exact this
theorem QV{a:Nat}(h:a < 256):a < 128/\a / 128=0\/¬a < 128/\a / 128=1:=
 (Bt a 128).imp (λq=>⟨q,Nat.div_eq_of_lt q⟩) λq=>⟨Nat.not_lt.mpr q,Nat.div_eq_of_lt_le (by simpa using q) (by simpa using h)⟩
theorem WR{a b:Nat}(d:a < 256)(hb:b < 256):xt (a^^^b)=xt a^^^xt b:=by
 rw[aJ,aJ,aJ,bQ,bJ]
 refine congrArg _ ?_
 have h:(a^^^b) / 128=(a / 128)^^^(b / 128):=@Nat.xor_div_two_pow a b 7
 have e:∀{p:Prop},(0:Nat)=1->p:=λq=>nomatch q
 refine(QV (Vo d hb)).elim (λc=>?_) λc=>?_ <;> refine(QV d).elim (λx=>?_) λx=>?_ <;> refine(QV hb).elim (λy=>?_) λy=>?_ <;> rw[c.2,x.2,y.2] at h
 ·rw[if_pos c.1,if_pos x.1,if_pos y.1];rfl
 ·exact nomatch h
 ·exact nomatch h
 ·rw[if_pos c.1,if_neg x.1,if_neg y.1];rfl
 ·exact nomatch h
 ·rw[if_neg c.1,if_pos x.1,if_neg y.1];rfl
 ·rw[if_neg c.1,if_neg x.1,if_pos y.1];rfl
 ·exact nomatch h
theorem bO:((Qa 256).all λa=>decide (xt a < 256))=true:=by decide +kernel
theorem sX{a:Nat}(h:a < 256):xt a < 256:=of_decide_eq_true (List.all_eq_true.mp bO a (List.mem_range.mpr h))
noncomputable def it:Nat->Nat->Nat
 |0,a=>a
 |n+1,a=>xt (it n a)
theorem gj(m n a:Nat):it (m+n) a=it m (it n a):=by
 induction m with
 |zero=>rw[Nat.zero_add];rfl
 |succ m b=>rw[Nat.succ_add];show xt (it (m+n) a)=xt (it m (it n a));rw[b]
theorem Su(m n a:Nat):it m (it n a)=it n (it m a):=by rw[<- gj,<- gj,Dj]
theorem Xj{a:Nat}(h:a < 256):∀n,it n a < 256
 |0=>h
 |n+1=>sX (Xj h n)
theorem Zr{a b:Nat}(c:a < 256)(hb:b < 256):∀n,it n (a^^^b)=it n a^^^it n b
 |0=>rfl
 |n+1=>by show xt (it n (a^^^b))=_;rw[Zr c hb n,WR (Xj c n) (Xj hb n)];rfl
theorem ai:∀n,it n 0=0
 |0=>rfl
 |n+1=>by show xt (it n 0)=0;rw[ai n];rfl
theorem Sq:∀(n a:Nat),(ao n a).length=n
 |0,_=>rfl
 |n+1,a=>by show(ao n (xt a)).length+1=n+1;rw[Sq n]
theorem tX(n a:Nat):it n (xt a)=it (n+1) a:=(gj n 1 a).symm
theorem Zn:∀(n a k:Nat),k < n->(ao n a)[k]?=some (it k a)
 |0,_,_,h=>nomatch h
 |n+1,a,0,_=>rfl
 |n+1,a,k+1,h=>by
  show(ao n (xt a))[k]?=_
  rw[Zn n (xt a) k (Nat.lt_of_succ_lt_succ h),tX]
theorem IU:it 255 1=1:=by decide +kernel
theorem DO:((ao 255 1).tail.contains 1)=false:=by decide +kernel
theorem sO:((Qa 256).all λa=>a==0||(ao 255 1).contains a)=true:=by decide +kernel
noncomputable def lg(a:Nat):Nat:=(ao 255 1).idxOf a % 255
theorem fR(a:Nat):lg a < 255:=RI _ (by decide)
theorem EA{a:Nat}(h:a < 256)(h0:a≠0):it (lg a) 1=a:=by
 have:=List.all_eq_true.mp sO a (List.mem_range.mpr h)
 simp only[Vn,beq_iff_eq,h0,false_or] at this
 have hm:a∈ao 255 1:=List.contains_iff_mem.mp this
 have hi:=List.idxOf_lt_length_iff.mpr hm
 have e:=List.getElem_idxOf hi
 rw[Sq] at hi
 have g:=Zn 255 1 _ hi
 rw[Wb (by rw[Sq];exact hi),e] at g
 delta lg
 rw[MN hi]
 exact(va g).symm
theorem Dy{a:Nat}(h:a < 256):it 255 a=a:=by
 by_cases h0:a=0
 ·subst h0;exact ai _
 ·have e:=EA h h0
  rw[<- e,Su,IU]
theorem mL{a:Nat}(h:a < 256)(n:Nat):it (n % 255) a=it n a:=by
 have b:∀q,it (255*q) a=a:=by
  intro q
  induction q with
  |zero=>rfl
  |succ q c=>rw[iX,gj,Dy h,c]
 have e:=Nat.mod_add_div n 255
 have:it n a=it (n % 255+255*(n / 255)) a:=by rw[e]
 rw[this,gj,b]
theorem lL{a:Nat}(h:a < 256)(h0:a≠0)(n:Nat):it n a≠0:=λq=>by
 have e:it (255-n % 255) (it (n % 255) a)=0:=by rw[mL h,q,ai]
 have b:=RI n (show 255 > 0 by decide)
 rw[<- gj,Me (Vd b),Dy h] at e
 exact h0 e
theorem HU{a:Nat}(h:a < 256)(h0:a≠0){j:Nat}(c:j < 255)(e:it j a=a):j=0:=by
 have d:=EA h h0
 rw[<- d,Su] at e
 have f:it j 1=1:=by
  have b:it (255-lg a) (it (lg a) (it j 1))=it (255-lg a) (it (lg a) 1):=by rw[e]
  rw[<- gj (255-lg a),<- gj (255-lg a),Me (Vd (fR a)),Dy (Xj (by decide) j),Dy (by decide)] at b
  exact b
 refine(SI j).elim (λh=>?_) λh=>?_
 ·exact h
 ·have g:=Zn 255 1 j c
  rw[f] at g
  have:1∈(ao 255 1).tail:=by
   rw[List.mem_iff_getElem?]
   refine⟨j-1,?_⟩
   rw[List.getElem?_tail,Me h];exact g
  have q:=DO
  rw[List.contains_iff_mem.mpr this] at q
  cases q
theorem GU{a:Nat}(h:a < 256)(h0:a≠0):∀{i j:Nat},i < 255->j < 255->it i a=it j a->i=j:=by
 have b:∀{i j:Nat},i<=j->j < 255->it i a=it j a->i=j:=by
  intro i j c d e
  have f:it (j-i) (it i a)=it i a:=by rw[<- gj,Me c];exact e.symm
  have:=HU (Xj h i) (lL h h0 i) (aj (Yi _ _) d) f
  exact Hg c (Dp this)
 intro i j hi d e
 refine(jX i j).elim (λq=>?_) λq=>?_
 ·exact b q d e
 ·exact(b q hi e.symm).symm
noncomputable def hv(r:Nat)(f:Nat->Nat):Nat->Nat
 |0=>0
 |n+1=>it r (hv r f n)^^^f n
theorem Wq{r:Nat}{f g:Nat->Nat}:∀{n:Nat},(∀j,j < n->f j=g j)->hv r f n=hv r g n
 |0,_=>rfl
 |n+1,h=>by unfold hv;rw[Wq λj a=>h j (ye a),h n (Dd n)]
theorem Vu{r:Nat}{f:Nat->Nat}(h:∀j,f j < 256):∀n,hv r f n < 256
 |0=>by show 0 < 256;decide
 |n+1=>Vo (Xj (Vu h n) r) (h n)
theorem Ky{r:Nat}{f g:Nat->Nat}(hf:∀j,f j < 256)(hg:∀j,g j < 256):∀n,hv r (λj=>f j^^^g j) n=hv r f n^^^hv r g n
 |0=>by show 0=0^^^0;rfl
 |n+1=>by unfold hv;rw[Ky hf hg n,Zr (Vu hf n) (Vu hg n),bJ]
theorem GD{r:Nat}{f:Nat->Nat}(hf:∀j,f j < 256)(a:Nat):∀b,hv r f (a+b)=it (r*b) (hv r f a)^^^hv r (λj=>f (a+j)) b
 |0=>by show hv r f a=it 0 _^^^0;rw[Kg];rfl
 |b+1=>by
  show it r (hv r f (a+b))^^^f (a+b)=it (r*(b+1)) _^^^(it r (hv r (λj=>f (a+j)) b)^^^f (a+b))
  rw[GD hf a b,Zr (Xj (Vu hf a) _) (Vu (λj=>hf _) b),<- gj,iX,Dj r,Ri]
theorem Jy{r:Nat}{f:Nat->Nat}{n:Nat}(h:∀j,j < n->f j=0):hv r f n=0:=by
 induction n with
 |zero=>rfl
 |succ n a=>unfold hv;rw[a λj b=>h j (ye b),h n (Dd n),ai];rfl
theorem CF{r:Nat}{f:Nat->Nat}(hf:∀j,f j < 256){a m z:Nat}(c:∀j,j < a->f j=0)(b:∀j,j < z->f (a+m+j)=0):hv r f (a+m+z)=it (r*z) (hv r (λj=>f (a+j)) m):=by
 rw[GD hf (a+m) z,Jy b,Kg,GD hf a m,Jy c,ai,tl]
theorem kR{r k:Nat}{f:Nat->Nat}(hf:∀j,f j < 256):∀n,hv r (λj=>it k (f j)) n=it k (hv r f n)
 |0=>(ai k).symm
 |n+1=>by unfold hv;rw[kR hf n,Zr (Xj (Vu hf n) r) (hf n),Su]
noncomputable def DP(gen:List Nat)(c:Nat):Nat->Nat
 |0=>c
 |i+1=>it (gen.getD i 0) c
noncomputable def rx(gen:List Nat):Bool:=(Qa gen.length).all λr=>hv r (DP gen 1) (gen.length+1)==0
theorem kV{gen:List Nat}{c:Nat}(h:c < 256):∀j,DP gen c j < 256
 |0=>h
 |_+1=>Xj h _
theorem lV(gen:List Nat)(k:Nat):(λj=>DP gen (it k 1) j)=λj=>it k (DP gen 1 j):=by
 funext j
 cases j with
 |zero=>rfl
 |succ j=>exact Su _ _ _
theorem RL{gen:List Nat}(h:rx gen=true){r c:Nat}(hr:r < gen.length)(hc:c < 256):hv r (DP gen c) (gen.length+1)=0:=by
 by_cases h0:c=0
 ·subst h0
  refine Jy λj Z=>?_
  cases j with
  |zero=>rfl
  |succ j=>exact ai _
 ·have e:=List.all_eq_true.mp h r (List.mem_range.mpr hr)
  have e:hv r (DP gen 1) (gen.length+1)=0:=by simpa using e
  have q:DP gen c=λj=>it (lg c) (DP gen 1 j):=by
   have:=lV gen (lg c)
   rw[EA hc h0] at this
   exact this
  rw[q,kR (kV (by decide)),e,ai]
noncomputable def dv(gen:List Nat)(f:Nat->Nat):Nat->Nat->Nat
 |0,j=>f j
 |k+1,j=>dv gen f k j^^^(if k < j/\j<=k+gen.length then it (gen.getD (j-k-1) 0) (dv gen f k k) else 0)
theorem TF{gen:List Nat}{f:Nat->Nat}(hf:∀j,f j < 256):∀k j,dv gen f k j < 256
 |0,j=>hf j
 |k+1,j=>by
  unfold dv
  refine Vo (TF hf k j) ?_
  split
  ·exact Xj (TF hf k k) _
  ·decide
noncomputable def nA(gen:List Nat)(f:Nat->Nat)(k j:Nat):Nat:=if j < k then 0 else dv gen f k j
theorem Mu{gen:List Nat}{f:Nat->Nat}(hf:∀j,f j < 256)(k j:Nat):nA gen f k j < 256:=by
 delta nA
 split
 ·decide
 ·exact TF hf k j
theorem zK{gen:List Nat}{f:Nat->Nat}(hf:∀j,f j < 256)(h:rx gen=true){r k z:Nat}(hr:r < gen.length):
  hv r (nA gen f (k+1)) (k+(gen.length+1)+z)=hv r (nA gen f k) (k+(gen.length+1)+z):=by
 have dl:∀j,nA gen f (k+1) j^^^nA gen f k j < 256:=λj=>Vo (Mu hf _ j) (Mu hf _ j)
 have e:hv r (λj=>nA gen f (k+1) j^^^nA gen f k j) (k+(gen.length+1)+z)=0:=by
  rw[CF dl]
  ·have q:hv r (λj=>nA gen f (k+1) (k+j)^^^nA gen f k (k+j)) (gen.length+1)=hv r (DP gen (dv gen f k k)) (gen.length+1):=by
    refine Wq λj a=>?_
    delta nA
    cases j with
    |zero=>rw[if_pos (show k+0 < k+1 from Dd k),if_neg (show¬k+0 < k from Xe k),tl];rfl
    |succ j=>
     rw[if_neg (by lia),if_neg (by lia)]
     show dv gen f k (k+(j+1))^^^_^^^dv gen f k (k+(j+1))=it (gen.getD j 0) _
     rw[if_pos (by lia),show k+(j+1)-k-1=j by lia,DC,XE]
   rw[q,RL h hr (TF hf k k),ai]
  ·intro j a
   delta nA
   rw[if_pos (ye a),if_pos a];rfl
  ·intro j a
   delta nA
   rw[if_neg (by lia),if_neg (by lia)]
   show dv gen f k _^^^_^^^dv gen f k _=0
   rw[if_neg (by lia),Kg,yt]
 rw[Ky (Mu hf _) (Mu hf _)] at e
 exact Vt e
theorem C7{k n g:Nat}(h:k+1<=n):k+(g+1)+(n-k-1)=n+g:=by rw[Uv,<- tW,Jr k g 1,Jr,Vh h]
theorem wF{gen:List Nat}{f:Nat->Nat}(hf:∀j,f j < 256)(h:rx gen=true){r n:Nat}(hr:r < gen.length):∀k,k<=n->hv r (nA gen f k) (n+gen.length)=hv r f (n+gen.length)
 |0,_=>Wq λj Z=>by unfold nA;rw[if_neg (jw _)];rfl
 |k+1,a=>by
  rw[<- wF hf h hr k (Bj a)]
  have:=zK hf h (r:=r) (k:=k) (z:=n-k-1) hr
  rw[C7 a] at this
  exact this
theorem OH{gen:List Nat}{f c:Nat->Nat}(hf:∀j,f j < 256)(h:rx gen=true){r n:Nat}(hr:r < gen.length)(h0:∀j,n<=j->f j=0)
  (hc:∀j,j < n+gen.length->c j=if j < n then f j else dv gen f n j):hv r c (n+gen.length)=0:=by
 have e:hv r c (n+gen.length)=hv r (λj=>f j^^^nA gen f n j) (n+gen.length):=by
  refine Wq λj a=>?_
  rw[hc j a]
  delta nA
  split
  ·rw[Kg]
  ·rw[h0 j (by lia),tl]
 rw[e,Ky hf (Mu hf n),wF hf h hr n (Ab _),yt]
noncomputable def UC(r:Nat):List (Nat×Nat)->Nat
 |[]=>0
 |p::l=>it (r*p.1) p.2^^^UC r l
theorem yJ{r:Nat}:∀{l:List (Nat×Nat)},(∀p∈l,p.2 < 256)->UC r l < 256
 |[],_=>by show 0 < 256;decide
 |p::l,h=>Vo (Xj (h p (za ..)) _) (yJ λq a=>h q (ya _ a))
theorem Zz(q r:Nat):∀{l:List (Nat×Nat)},(∀p∈l,p.2 < 256)->UC r (l.map λp=>(p.1,it p.1 p.2^^^it q p.2))=UC (r+1) l^^^it q (UC r l)
 |[],_=>by show 0=0^^^it q 0;rw[ai];rfl
 |p::l,h=>by
  have hp:=h p (za ..)
  have a:∀p∈l,p.2 < 256:=λq b=>h q (ya _ b)
  show it (r*p.1) (it p.1 p.2^^^it q p.2)^^^UC r (l.map _)=(it ((r+1)*p.1) p.2^^^UC (r+1) l)^^^it q (it (r*p.1) p.2^^^UC r l)
  rw[Zz q r a,Zr (Xj hp _) (Xj hp _),Zr (Xj hp _) (yJ a),<- gj,Su q,gX,bJ]
theorem wX:∀(n:Nat) (l:List (Nat×Nat)),l.length=n->n≠0->(l.map (·.1)).Nodup->(∀p∈l,p.1 < 255/\p.2 < 256/\p.2≠0)->∀s,∃r,s<=r/\r < s+n/\UC r l≠0
 |0,_,_,h,_,_,_=>absurd rfl h
 |n+1,[],e,_,_,_,_=>by cases e
 |n+1,p::l,e,_,nd,hb,s=>by
  have hp:=hb p (za ..)
  have j:∀q∈l,q.1 < 255/\q.2 < 256/\q.2≠0:=λq d=>hb q (ya _ d)
  rw[vb,De] at nd
  by_cases v:n=0
  ·subst v
   have:l=[]:=mu (by simpa using e)
   subst this
   refine⟨s,Ab _,by lia,?_⟩
   show it (s*p.1) p.2^^^0≠0
   rw[Kg]
   exact lL hp.2.1 hp.2.2 _
  ·refine Qk λi=>?_
   have f:∀r,s<=r->r < s+(n+1)->UC r (p::l)=0:=λr m w=>Qk λq=>i ⟨r,m,w,q⟩
   have hz:∀q∈l,it q.1 q.2^^^it p.1 q.2 < 256/\it q.1 q.2^^^it p.1 q.2≠0:=by
    intro q d
    refine Nc λx=>?_;obtain ⟨a,b,c⟩:=j q d;refine x ?_
    refine⟨Vo (Xj b _) (Xj b _),λz=>?_⟩
    have:=GU b c a hp.1 (Vt z)
    exact nd.1 (List.mem_map.mpr ⟨q,d,this⟩)
   obtain ⟨r,m,w,y⟩:=wX n (l.map λq=>(q.1,it q.1 q.2^^^it p.1 q.2)) (by simpa using e) v
    (by rw[Qs];exact nd.2) (λq d=>by obtain ⟨u,g,rfl⟩:=List.mem_map.mp d;exact⟨(j u g).1,hz u g⟩) s
   refine y ?_
   have k:∀q∈l,q.2 < 256:=λq d=>(j q d).2.1
   rw[Zz _ _ k]
   have t:=f r m (by lia)
   have o:=f (r+1) (by lia) (by lia)
   have t:it (r*p.1) p.2=UC r l:=Vt t
   have o:it ((r+1)*p.1) p.2=UC (r+1) l:=Vt o
   rw[<- t,<- o,<- gj,gX,Dj,yt]
theorem NU{r n a:Nat}{f:Nat->Nat}(hf:∀j,f j < 256){e:Nat}(he:e < 256)(d:a < n):hv r (λj=>if j=a then f j^^^e else f j) n=hv r f n^^^it (r*(n-1-a)) e:=by
 have q:(λj=>if j=a then f j^^^e else f j)=λj=>f j^^^(if j=a then e else 0):=by
  funext j
  split
  ·rfl
  ·rw[Kg]
 have b:∀j,(if j=a then e else 0) < 256:=λj=>by
  split
  ·exact he
  ·decide
 rw[q,Ky hf b]
 congr 1
 have:=CF (r:=r) b (a:=a) (m:=1) (z:=n-1-a) (λj c=>if_neg (by lia)) (λj c=>if_neg (by lia))
 rw[show a+1+(n-1-a)=n by rw[Uv,Dj 1 a];exact Nat.add_sub_cancel' d] at this
 rw[this]
 show it _ (it r 0^^^(if a=a then e else 0))=_
 rw[ai,tl,if_pos rfl]
noncomputable def nN(ns:List Int)(j:Nat):Nat:=(ns.getD j 0).toNat
theorem lA{ns:List Int}(h:Bh ns)(j:Nat):nN ns j < 256:=by have:=h.getD j;unfold nN;lia
theorem vF{ns:List Int}(h:Bh ns)(j:Nat):ns.getD j 0=(nN ns j:Int):=by have:=h.getD j;unfold nN;lia
theorem fs{f:Nat->Int}{l:List Nat}{n x:Nat}(h:l[n]?=some x):(l.map f).getD n 0=f x:=by
 rw[Ra,Ig,h];rfl
theorem IP{n:Nat}(h:n < 510):ZA.getD n 0=((it n 1:Nat):Int):=fs (f:=Fl) (Zn 510 1 n h)
theorem AF{a:Nat}(h:a < 256):sj.getD a 0=((lg a:Nat):Int):=fs (f:=λa=>Fl ((ao 255 1).idxOf a % 255)) (Fq h)
theorem mx{l:List Int}{i j:Nat}{v:Int}(h:i < l.length):(l.set i v).getD j 0=if j=i then v else l.getD j 0:=by
 rw[Ra,Ra,List.getElem?_set]
 by_cases q:i=j
 ·rw[if_pos q,if_pos q.symm,if_pos h];rfl
 ·rw[if_neg q,if_neg (Hb q)]
theorem Zy(gen:List Int)(k:Nat)(a:Int)(j:Nat):∀(n:Nat) (ns:List Int),k+n < ns.length->
  (Bl gen k a n ns).getD j 0=if k < j/\j<=k+n then Kd (ns.getD j 0) (ZA.getD (a+gen.getD (j-k-1) 0).toNat 0) else ns.getD j 0
 |0,ns,_=>by rw[if_neg (by lia)];rfl
 |n+1,ns,h=>by
  unfold Bl
  rw[mx (by rw[Co];lia),Zy gen k a j n ns (by lia)]
  by_cases q:j=k+n+1
  ·subst q
   rw[if_pos rfl,if_pos (by lia),Zy gen k a _ n ns (by lia),if_neg (by lia),show k+n+1-k-1=n by lia]
  ·rw[if_neg q]
   by_cases b:k < j/\j<=k+n
   ·rw[if_pos b,if_pos (by lia)]
   ·rw[if_neg b,if_neg (by lia)]
theorem qH(gen:List Int)(i:Nat):(gen.map ih).getD i 0=(gen.getD i 0).toNat:=by
 rw[Ra,Ra,Ig]
 cases gen[i]? <;> rfl
theorem lM{gen ns:List Int}(hg:∀g∈gen,0<=g/\g < 255)(h:Bh ns)(j:Nat):∀k,k+gen.length<=ns.length->nN (Ti gen gen.length k ns) j=dv (gen.map ih) (nN ns) k j
 |0,_=>rfl
 |k+1,f=>by
  have a:=λj=>lM hg h j k (by lia)
  have hb:=Eo gen gen.length k ns h
  have d:=ak gen gen.length k ns
  have b:Ti gen gen.length (k+1) ns=if (Ti gen gen.length k ns).getD k 0=0 then Ti gen gen.length k ns else Bl gen k (sj.getD ((Ti gen gen.length k ns).getD k 0).toNat 0) gen.length (Ti gen gen.length k ns):=rfl
  unfold dv
  rw[Yb,<- a j,<- a k,b]
  clear b a
  generalize Ti gen gen.length k ns=E at hb d ⊢
  have h0:E.getD k 0=(nN E k:Int):=vF hb k
  by_cases e:E.getD k 0=0
  ·rw[if_pos e]
   rw[h0] at e
   have e:nN E k=0:=by lia
   rw[e,ai]
   split <;> exact(Kg _).symm
  ·rw[if_neg e]
   rw[h0] at e
   have e:nN E k≠0:=λq=>e (by rw[q];rfl)
   show((Bl _ _ _ _ _).getD j 0).toNat=_
   rw[Zy gen k _ j gen.length _ (by lia),h0,Ib,AF (lA hb k)]
   by_cases q:k < j/\j<=k+gen.length
   ·rw[if_pos q,if_pos q]
    have hgi:=hg (gen.getD (j-k-1) 0) (Mb (Yj (by lia)))
    rw[qH,vF hb j]
    refine(Xc hgi.1).elim λg eg=>?_
    rw[eg] at hgi ⊢
    have c:=fR (nN E k)
    rw[show(((lg (nN E k):Nat):Int)+(g:Int)).toNat=g+lg (nN E k) by lia,IP (by lia),bl,Ib,Ib,gj,EA (lA hb k) e]
   ·rw[if_neg q,if_neg q];exact(Kg _).symm
theorem vm{a b:List Int}(j:Nat):(a++b).getD j 0=if j < a.length then a.getD j 0 else b.getD (j-a.length) 0:=by
 rw[Ra,List.getElem?_append]
 split <;> rw[Ra]
theorem ox(n j:Nat):(Ha n (0:Int)).getD j 0=0:=by
 rw[Ra,List.getElem?_replicate];split <;> rfl
theorem NH{gen W:List Int}(hg:∀g∈gen,0<=g/\g < 255)(h:Bh W)(ok:rx (gen.map ih)=true){r:Nat}(hr:r < gen.length):hv r (nN (W++Gg gen W)) (W.length+gen.length)=0:=by
 have hb:Bh (W++Ha gen.length 0):=h.append λv hv=>by rw[(List.mem_replicate.mp hv).2];decide
 have:=OH (gen:=gen.map ih) (f:=nN (W++Ha gen.length 0)) (c:=nN (W++Gg gen W)) (n:=W.length) (r:=r) (lA hb) ok (by rw[Yb];exact hr) (λj a=>?_) (λj a=>?_)
 ·rw[Yb] at this;exact this
 ·delta nN
  rw[vm,if_neg (by lia),ox];rfl
 ·rw[Yb] at a
  rw[<- lM hg hb j W.length (by simp)]
  delta nN
  rw[vm]
  by_cases q:j < W.length
  ·rw[if_pos q,if_pos q,vm,if_pos q]
  ·rw[if_neg q,if_neg q]
   delta Gg
   rw[Ra,List.getElem?_drop,show W.length+(j-W.length)=j by lia,<- Ra]
noncomputable def eF:List cb:=aB (ma Od 16)
noncomputable def Ar:me:=aSc (ma Od 16)
noncomputable def tY:Fp:=aAr (ma Od 16)
theorem Q7:ma Od 16=.FunctionDef "rest" tY eF [] none [] Ar none "rest" (aP (ma Od 16)):=by kernel_rfl
noncomputable def UQ:List cb:=aB (ma eF 1)
noncomputable def R9:List cb:=aB (ma UQ 0)
theorem sY:eF=[Um "whole" (ma eF 0),.For (.Name "word" (aT (ma eF 1)).pos) (.Name "words" (aV (ma eF 1)).pos) UQ [] (aP (ma eF 1)),.Return (some (aV (ma eF 2))) (aP (ma eF 2))]:=by kernel_rfl
theorem rY:UQ=[.If (aV (ma UQ 0)) [Um "whole" (ma R9 0)] [] (aP (ma UQ 0)),Um "whole" (ma UQ 1)]:=by kernel_rfl
noncomputable def ry(σ:List (xa×P)):Bool:=σ.all λe=>match e.2 with
 |.addr _=>false
 |_=>true
theorem Ej{σ:List (xa×P)}(h:ry σ=true){x:xa}{a:la}(e:σ.lookup x=some (.addr a)):False:=by
 have:=List.all_eq_true.mp h _ (xc e)
 simp at this
noncomputable abbrev Pj:xa->List P->Option Rs:=λZ Z=>none
noncomputable def Sub(τ σ:List (xa×P)):Prop:=∀y p,τ.lookup y=some p->σ.lookup y=some p
theorem Sub.Ce{σ:List (xa×P)}:Sub σ σ:=λZ Z e=>e
theorem Sub.skip{τ σ:List (xa×P)}{x:xa}{p:P}(h:Sub τ σ)(b:τ.lookup x=none):Sub τ ((x,p)::σ):=λy q e=>by
 rw[Ca]
 cases a:y==x with
 |true=>rw[eq_of_beq a,b] at e;exact nomatch e
 |false=>exact h y q e
theorem Sub.cons{τ σ:List (xa×P)}{x:xa}{p:P}(h:Sub τ σ):Sub ((x,p)::τ) ((x,p)::σ):=λy q e=>by
 rw[Ca] at e ⊢
 cases a:y==x with
 |true=>rw[a] at e;exact e
 |false=>rw[a] at e;exact h y q e
theorem Sub.swap{σ:List (xa×P)}{x y:xa}{p q:P}(h:x≠y):Sub ((x,p)::(y,q)::σ) ((y,q)::(x,p)::σ):=λz r e=>by
 rw[Ca] at e ⊢
 cases hz:z==x with
 |true=>
  rw[hz] at e
  have:=eq_of_beq hz
  subst this
  have a:(z==y)=false:=by simpa using h
  rw[a,Ca,hz];exact e
 |false=>
  rw[hz] at e
  have e:((y,q)::σ).lookup z=some r:=e
  rw[Ca] at e
  cases a:z==y with
  |true=>rw[a] at e;exact e
  |false=>rw[a] at e;rw[Ca,hz];exact e
noncomputable def Rq:List Int:=(ao 255 1).map Fl
theorem eK:Rq.length=255:=by unfold Rq;rw[Yb,Sq]
theorem tO{n:Nat}(h:n < 255):Rq.getD n 0=((it n 1:Nat):Int):=fs (f:=Fl) (Zn 255 1 n h)
theorem TA(a b:Nat):Qf (a:Int) (b:Int)=((a % b:Nat):Int):=by
 rw[Int.fmod_eq_emod_of_nonneg _ (by lia)];rfl
theorem DS{h r:Nat}(a:h < 256)(h0:h≠0):Qe Rq ((Qe sj (h:Int)+(r:Int)).fmod 255)=((it r h:Nat):Int):=by
 have c:Qe sj (h:Int)=((lg h:Nat):Int):=by
  unfold Qe
  rw[if_pos (by lia),Ib,AF a]
 have b:(((lg h:Nat):Int)+(r:Int)).fmod 255=(((lg h+r) % 255:Nat):Int):=by
  rw[show((lg h:Nat):Int)+(r:Int)=((lg h+r:Nat):Int) by lia];exact TA _ 255
 rw[c,b]
 unfold Qe
 rw[if_pos (by lia),Ib,tO (RI _ (by decide)),mL (by decide),Dj,gj,EA a h0]
noncomputable def vN(r:Int)(ws:List Int):List (xa×P):=[("root",.int r),("words",.il ws),("powers",.il Rq),("logs",.il sj)]
theorem pY(r:Int)(ws:List Int):ev Gj Pj 9 Ar.names (vN r ws) (aV (ma eF 0))=some ⟨.int 0,true,True⟩:=by rfl
theorem oY(r:Int)(ws:List Int)(h a:Int):GI (ev Gj Pj 9 Ar.names (("word",.int a)::("whole",.int h)::vN r ws)) (aV (ma UQ 0))=some (decide (h≠0),(True/\True)/\True):=by rfl
theorem nY(r:Int)(ws:List Int)(h a:Int):∃c,ev Gj Pj 9 Ar.names (("word",.int a)::("whole",.int h)::vN r ws) (aV (ma R9 0))=some ⟨.int (Qe Rq ((Qe sj h+r).fmod 255)),true,c⟩ /\
  (0<=h->h < 256->c):=by
 refine⟨_,rfl,λh0 f=>?_⟩
 have e:=Uq
 have l2:=eK
 have d:=Xb (Qe sj h+r) (show(0:Int) < 255 by decide)
 have b:=td (Qe sj h+r) (show(0:Int) < 255 by decide)
 refine⟨⟨trivial,⟨⟨⟨⟨⟨trivial,trivial⟩,by lia,by lia,by lia⟩,trivial⟩,trivial⟩,trivial⟩,show(255:Int)≠0 by decide⟩,by lia,by lia,by lia⟩
theorem mY(r:Int)(ws:List Int)(h a:Int):ev Gj Pj 9 Ar.names (("whole",.int h)::("word",.int a)::vN r ws) (aV (ma UQ 1))=some ⟨.int (Kd h a),true,(True/\True)/\True⟩:=by rfl
theorem lY(r:Int)(ws:List Int)(h:Int):ev Gj Pj 9 Ar.names (("whole",.int h)::vN r ws) (aV (ma eF 2))=some ⟨.int h,false,True⟩:=by rfl
section
variable{w:ja}{A:ua}{N:Nat}{env:Be}{adr:xa->la}{s₀ s:aa}{K:la->Sa->Prop}
theorem DG(g:GA N A)(t:env.scope=Ar){r:Nat}{ws:List Int}(x:St (GW w) env ["words","powers","logs"] (vN r ws) adr s₀ K s)(z:Bh ws):
  wpAny (ka PP w) A (Kc eF env) (λf s'=>∃v,f=.ret v/\df s₀ (.int (hv r (nN ws) ws.length:Nat)) false v s') Jc s:=by
 have m:∀y,env.kindOf y=Ar.names.lookup y:=λy=>by unfold bc;rw[t]
 have so:Ui Ar.names env:=⟨λx e=>by rw[m];exact e,λx e=>by rw[m];exact e⟩
 have p:env.kindOf "whole"=some .local:=(m _).trans (by kernel_rfl)
 have H:env.kindOf "word"=some .local:=(m _).trans (by kernel_rfl)
 have d:=lA z
 rw[sY]
 refine He (ie (as:=["whole","word"]) g so (Oi λf a e=>Ej rfl e) x (pY r ws) trivial (za ..) (.inl p) nofun (by kernel_rfl)) λs1 o=>?_
 refine Nc λb=>?_;obtain ⟨D,_,o⟩:=o;refine b ?_
 refine He (WL (as:=["whole","word"]) (σs:=λi=>(("whole":xa),P.int (hv r (nN ws) i:Nat))::vN r ws) g o (.inl H) (.tail _ (.head _)) (by decide) (by decide) (xs:=ws) rfl Sub.Ce ?_) λs2 l=>?_
 ·intro i a K' h s' I _ _ E
  have L:a=(nN ws i:Int):=by
   rw[<- vF z,Ra,I];rfl
  subst L
  have J:=Vu (r:=r) d i
  rw[rY]
  refine He (R:=SP (GW w) env ["words","words","powers","logs"] (("whole",.int (it r (hv r (nN ws) i):Nat))::("word",.int (nN ws i:Nat))::vN r ws) h ["whole","word"] s₀ K') (sL g so (Oi λf a e=>Ej rfl e) E (oY _ _ _ _) ⟨⟨trivial,trivial⟩,trivial⟩ (λhb u Z k=>?_) λhb u Z k=>?_) λO n=>?_
  ·have h0:hv r (nN ws) i≠0:=λq=>by rw[q] at hb;simp at hb
   refine Nc λb=>?_;obtain ⟨c,e,hc⟩:=nY r ws (hv r (nN ws) i:Nat) (nN ws i:Nat);refine b ?_
   rw[DS J h0] at e
   refine He (ie (as:=["whole","word"]) g so (Oi λf a e=>Ej rfl e) k e (hc (by lia) (by lia)) (za ..) (.inl p) nofun (by kernel_rfl)) λG j=>?_
   exact Fd ⟨rfl,j.sub (Sub.cons (Sub.cons (Sub.skip Sub.Ce rfl)))⟩
  ·have h0:hv r (nN ws) i=0:=by simpa using hb
   rw[h0] at k
   rw[h0,ai]
   exact Fd ⟨rfl,SP.of (k.sub (Sub.swap (by decide)))⟩
  ·refine Nc λb=>?_;obtain ⟨B,M,n⟩:=n;refine b ?_
   refine He (ie (as:=["whole","word"]) g so (Oi λf a e=>Ej rfl e) n (mY _ _ _ _) ⟨⟨trivial,trivial⟩,trivial⟩ (za ..) (.inl p) nofun (by kernel_rfl)) λG j=>?_
   rw[bl] at j
   exact Fd ⟨rfl,(j.trans M).sub (Sub.cons (Sub.skip (Sub.skip Sub.Ce rfl) rfl))⟩
 ·refine Nc λb=>?_;obtain ⟨C,_,l⟩:=l;refine b ?_
  refine wpAny_execs_cons (SJ g so (Oi λf a e=>Ej rfl e) l (lY _ _ _) trivial λv u c=>⟨v,rfl,c.after l.kp⟩)
end
noncomputable def p7:(ps:List P)->Option {r:Int // ps=[.int r]}
 |[.int r]=>some ⟨r,rfl⟩
 |_=>none
noncomputable def pV(ws:List Int):xa->List P->Option Rs:=λf ps=>bif f==("rest":xa) then (p7 ps).bind λr=>some ⟨.int (hv r.1.toNat (nN ws) ws.length:Nat),false,0<=r.1⟩ else none
@[elab_as_elim] theorem N3{ws:List Int}{M:xa->List P->Rs->Prop}{f:xa}{ps:List P}{r:Rs}(h:pV ws f ps=some r)(k:∀a,M "rest" [.int a] ⟨.int (hv a.toNat (nN ws) ws.length:Nat),false,0<=a⟩):M f ps r:=
 (OK.bif λe=>OK.bind λx Z=>OK.some (by obtain ⟨x,rfl⟩:=x;rw[eq_of_beq e];exact k x):OK (pV ws f ps) (M f ps)) r h
noncomputable abbrev qY(w:ja)(env:Be)(q:xa)(a:Value)(c':la)(doc:Value):yl:=Q5 "rest" q tY eF Ar jd (xe env.cells Ar.names []) a .none ((JO w "__name__").getD .none) (.ref c') doc
noncomputable def Xm(w:ja)(env:Be)(K:la->Sa->Prop)(f:la):Prop:=
 ∃q a c' doc oc,K f {cls:=.type "function",data:=.func (qY w env q a c' doc)}/\K c' oc/\∀h:Na,h.get? c'=some oc->h.CodeRec (.ref c') q
theorem Xm.more{w:ja}{env:Be}{K K':la->Sa->Prop}{f:la}(x:Xm w env K f)(h:∀b o,K b o->K' b o):Xm w env K' f:=
 x.elim λq x=>x.elim λa x=>x.elim λc' x=>x.elim λdoc x=>x.elim λoc x=>⟨q,a,c',doc,oc,h _ _ x.1,h _ _ x.2.1,x.2.2⟩
section
variable{w:ja}{A:ua}{N:Nat}{env:Be}{rd:List xa}{σ:List (xa×P)}{adr:xa->la}{s₀ s:aa}{K:la->Sa->Prop}
theorem St.WK(x:St (GW w) env rd σ adr s₀ K s){y:xa}{ns:List Int}(e:σ.lookup y=some (.il ns))(b:env.kindOf y=some .cell):∃c,env.cells.lookup y=some c/\s.heap.IsCell c (some (.ref (adr y))):=by
 refine(x.list e).elim λa Z=>?_
 rcases a with ⟨k,_⟩|⟨_,c,f,d⟩
 ·rw[b] at k;exact nomatch k
 ·exact⟨c,f,d⟩
theorem dF{rn:Int}{ws:List Int}(c:σ.lookup ("words":xa)=some (.il ws))(b:σ.lookup ("powers":xa)=some (.il Rq))(a:σ.lookup ("logs":xa)=some (.il sj)){y:xa}{ns:List Int}(h:(vN rn ws).lookup y=some (.il ns)):σ.lookup y=some (.il ns):=
 (Ge h).elim (λq=>nomatch q.2) λh=>(Ge h.2).elim (λq=>by rw[q.1,<- q.2];exact c) λh=>(Ge h.2).elim (λq=>by rw[q.1,<- q.2];exact b) λh=>by rw[(SG h.2).1,<- (SG h.2).2];exact a
theorem iF(F0:Fk w s₀.heap)(J:env.scope.names=Hd)(x:St (GW w) env rd σ adr s₀ K s){f:la}{ws:List Int}(hf:Xm w env K f)(hw:Bh ws)(T:σ.lookup ("words":xa)=some (.il ws))(Q:σ.lookup ("powers":xa)=some (.il Rq))(O:σ.lookup ("logs":xa)=some (.il sj))
  (ho:∀g a,σ.lookup g=some (.addr a)->a=f):zk PP w (N+2) (pV ws) σ s:=by
 obtain ⟨q,ct,c',doc,oc,Y,k2,k3⟩:=hf
 have ek:∀y,env.kindOf y=Hd.lookup y:=λy=>by unfold bc;rw[J]
 refine⟨λg a e=>?_,λg a ps r e hr hc A s' vs gA k n=>?_⟩
 ·obtain rfl:=ho g a e
  exact⟨_,_,x.ks _ _ Y,rfl⟩
 ·obtain rfl:=ho g a e
  revert hc n k gA vs s' A
  refine N3 hr λr0 (hc:0<=r0) A s' vs gA k n=>?_
  obtain ⟨rn,rfl⟩:=Xc hc
  obtain ⟨v,rfl,t,rfl⟩:=n.one
  have b:=x.step k
  have j:∀z c,(xe env.cells Ar.names []).lookup z=some c->env.cells.lookup z=some c:=λz c=>Ik Ar.names [] z c (λy i I=>b.cells y.1 ((by
   have:Ar.names.all (λy=>y.2 != .free||Hd.lookup y.1==some .cell)=true:=by kernel_rfl
   have:=List.all_eq_true.mp this y i
   rw[I] at this
   exact .inl ((ek _).trans (beq_iff_eq.mp this))))) (λc e=>nomatch e)
  have H:∀(y:xa) (ns:List Int),σ.lookup y=some (.il ns)->Hd.lookup y=some .cell->(y,kc)∈Ar.names->∃c,(xe env.cells Ar.names []).lookup y=some c/\s'.heap.IsCell c (some (.ref (adr y))):=by
   intro y ns l i hm
   obtain ⟨c,c1,c2⟩:=b.WK l ((ek y).trans i)
   refine(Option.isSome_iff_exists.mp (Jj (cells:=env.cells) Ar.names [] y (.inl hm))).elim λd hd=>?_
   have:=j y d hd
   rw[c1] at this
   obtain rfl:=va this
   exact⟨_,hd,c2⟩
  have E:∀y:xa,Ar.names.contains (y,kc)=true->(y,kc)∈Ar.names:=λy h=>List.contains_iff_mem.mp h
  refine Cx (N:=N) (G:=GW w) (rd:=["words","powers","logs"]) (σ:=vN rn ws) (adr:=adr) (binds:=[("root",.int rn t)]) (body:=eF) gA (cf ((F0.kp b.kp))) (b.ks _ _ Y) rfl (k3 _ (b.ks _ _ k2)) rfl (th (by kernel_rfl)) (by kernel_rfl) (by kernel_rfl) (by kernel_rfl) rfl rfl
   (λy i=>bne_iff_ne.mp (List.all_eq_true.mp (show Ar.names.all (λy=>y.2 != .cell)=true by kernel_rfl) y i))
   (λy i=>by rw[List.mem_singleton.mp i];kernel_rfl)
   (λy i=>Jj Ar.names [] y (.inl (xc i)))
   (λy z c B u=>b.inj y z c (j _ _ B) (j _ _ u)) (λy c B=>b.ce y c (j _ _ B)) ?_ ?_ λa4z V D g' C=>?_
  ·have L:∀(y:xa) (ns:List Int),σ.lookup y=some (.il ns)->Hd.lookup y=some .cell->Ar.names.contains (y,kc)=true->Ar.names.lookup y=some .free->(["words","powers","logs"]:List xa).contains y=true->
     ∃v,VR s'.heap (.il ns) v/\(∀ms,P.il ns=.il ms->v=.ref (adr y)/\y∈(["words","powers","logs"]:List xa))/\((Ar.names.lookup y=some .local/\([("root",.int rn t)]:List (xa×Value)).reverse.lookup y=some v)\/(Ar.names.lookup y=some .free/\∃c,(xe env.cells Ar.names []).lookup y=some c/\s'.heap.IsCell c (some v))):=
    λy ns e B u h3 h4=>(b.list e).elim λZ q=>q.elim λvs q=>q.elim λm q=>⟨_,⟨_,vs,m,rfl,q⟩,λZ Z=>⟨rfl,List.contains_iff_mem.mp h4⟩,.inr ⟨h3,H y ns e B (E _ u)⟩⟩
   exact λy p l=>(Ge l).elim (λq=>by rw[q.1,<- q.2];exact⟨_,⟨t,rfl⟩,nofun,.inl ⟨by kernel_rfl,rfl⟩⟩) λl=>(Ge l.2).elim (λq=>by rw[q.1,<- q.2];exact L _ _ T (by kernel_rfl) (by kernel_rfl) (by kernel_rfl) (by kernel_rfl)) λl=>(Ge l.2).elim (λq=>by rw[q.1,<- q.2];exact L _ _ Q (by kernel_rfl) (by kernel_rfl) (by kernel_rfl) (by kernel_rfl)) λl=>
    have q:=SG l.2
    by rw[q.1,<- q.2];exact L _ _ O (by kernel_rfl) (by kernel_rfl) (by kernel_rfl) (by kernel_rfl)
  ·exact λy z ns ms M B u=>b.apart y z ns ms M (dF T Q O B) (dF T Q O u)
  ·refine ah (DG g' D C hw) (λfl s2 u=>?_)
   obtain ⟨v,hv,o⟩:=u
   exact⟨v,hv,by rw[Ib];exact o⟩
end
theorem KJ:tY.kwonlyargs=[]/\tY.kw_defaults=[]/\tY.defaults=[]:=⟨by kernel_rfl,by kernel_rfl,by kernel_rfl⟩
section
variable{w:ja}{A:ua}{N:Nat}{env:Be}{rd:List xa}{σ:List (xa×P)}{adr:xa->la}{s₀ s:aa}{K:la->Sa->Prop}
theorem St.apN(x:St (GW w) env rd σ adr s₀ K s){I:la}(h:s.heap.get? I=none):env.locals≠I/\(∀y c,env.cells.lookup y=some c->c≠I)/\∀y ns,σ.lookup y=some (.il ns)->adr y≠I:=by
 have a:=x.ap h
 exact⟨a.loc,a.cel,λy ns e=>(x.list e).2.elim λvs q=>q.elim λm q=>Ef q.1 h⟩
set_option tactic.hygienic true
theorem rM(hh:A.handled=none)(F:Fk w s.heap)(G:env.scope.names=Hd)(x:St (GW w) env rd σ adr s₀ K s)(i:env.code=.ref 1977)(d:Yd s.heap 1977 1975 #[])(hK:∀o,¬K 1975 o){Q:Af->aa->Prop}
  (hQ:∀f K' v D s',St (GW w) env rd (("rest",.addr f)::σ) v s₀ K' s'->(∀b o,K b o->K' b o)->K' 1975 {cls:=.none,data:=.fields D}->Xm w env K' f->Q .next s'):
  wpAny (ka PP w) A (ig (ma Od 16) env) Q Jc s:=by
 have J:∀y,env.kindOf y=Hd.lookup y:=λy=>by unfold bc;rw[G]
 rw[Q7,exec_def,defaultsOf_eq,KJ.2.1,KJ.2.2]
 refine zb (wb (zb (Ma ?_)))
 refine zb (Aa (a:=[]) (by kernel_rfl) ?_)
 refine zb (Ma (Aa (a:=[]) (by kernel_rfl) ?_))
 refine Ma ?_
 refine zb (Aa (a:=[]) (by kernel_rfl) ?_)
 have gs:=cf F
 refine Tp (s:=s) (mg:=JO w) (c:=1977) (Pl:=1975) (ps:=#[]) KJ.1 (Of (scope:=Ar) λy hy E=>x.cells y.1 (by
   have:Ar.names.all (λy=>y.2 != .free||Hd.lookup y.1==some .cell)=true:=by kernel_rfl
   have:=List.all_eq_true.mp this y hy
   rw[E] at this
   exact .inl ((J _).trans (by simpa using this)))) (by rw[x.eg];exact gs.g) i d rfl (by rw[x.eg];decide) (bAt F (by decide))
  λdV L c' doc h' tk hct u hx n I m hrec htb=>?_
 rcases u with ⟨_,rfl⟩|⟨q,_⟩
 case inr=>exact absurd rfl q
 have H:=hrec
 refine Nc λhC=>?_;obtain ⟨c2,oc,C,t2,ec,g2,d2,Y⟩:=hrec;refine hC ?_
 obtain rfl:=ff ec
 rw[x.eg]
 generalize r:({cls:=.type "function",data:=.func (qY w env (gq env "rest" "rest") L c' doc)}:Sa)=B
 have up:∀{z:la} {o:Sa},h'.get? z=some o->(h'.push B).get? z=some o:=λe=>fa _ e
 have hf:(h'.push B).get? h'.objs.size=some B:=ra _ (by rw[<- r];rfl)
 have fr:∀{z:la},s.heap.objs.size<=z->s.heap.get? z=none:=λh=>Pe h
 have t:s.heap.objs.size<=h'.objs.size:=Ja n (Vd I)
 have l:=x.M4 d.tab rfl
 have k:=x.apN (fr n)
 have j:=x.apN (fr t)
 have V:=x.other (h':=h'.push B) (tk:=tk) d.tab rfl hK λb o hb e=>up (hx b o hb e)
 have T:=V.VB (up m.tab) l.1 l.2.1 l.2.2
 have O:=T.VB (up g2) k.1 k.2.1 k.2.2
 have N:=O.VB hf j.1 j.2.1 j.2.2
 refine zb (wb (zb (Em (ah (N.bind (y:="rest") (p:=.addr h'.objs.size) (a:=0) (.inr ((J _).trans (by kernel_rfl))) rfl nofun) (λ_ s' M=>pa ?_)))))
 refine hQ _ _ _ _ s' M (λb o q=>.inl (.inl (.inl q))) (.inl (.inl (.inr ⟨rfl,rfl⟩))) ⟨_,L,c',doc,oc,.inr ⟨rfl,r⟩,.inl (.inr ⟨rfl,rfl⟩),λh e=>⟨_,_,C,t2,rfl,e,d2,Y⟩⟩
end
set_option tactic.hygienic false
noncomputable def II(pe:P):Prop:=pe=.none\/∃i,pe=.int i
structure U4(w:ja)(k:Nat)(y:Ym):Prop where
 row:ZK[k]?=some [.int y.v,y.pe,.int y.total,.int y.room]
 ok:nk w y
 gk:rx (y.gen.map ih)=true
 tot:y.total<=26
 gt:y.room < y.total
 pes:II y.pe
theorem b8(w:ja):∀k,k < 12->∃y,U4 w k y
 |0,_=>⟨_,by kernel_rfl,UT w,by kernel_rfl,(by decide:5<=26),(by decide:3 < 5),.inl rfl⟩
 |1,_=>⟨_,by kernel_rfl,RT w,by kernel_rfl,(by decide:10<=26),(by decide:5 < 10),.inr ⟨_,rfl⟩⟩
 |2,_=>⟨_,by kernel_rfl,QT w,by kernel_rfl,(by decide:10<=26),(by decide:4 < 10),.inr ⟨_,rfl⟩⟩
 |3,_=>⟨_,by kernel_rfl,OT w,by kernel_rfl,(by decide:17<=26),(by decide:11 < 17),.inr ⟨_,rfl⟩⟩
 |4,_=>⟨_,by kernel_rfl,NT w,by kernel_rfl,(by decide:17<=26),(by decide:9 < 17),.inr ⟨_,rfl⟩⟩
 |5,_=>⟨_,by kernel_rfl,MT w,by kernel_rfl,(by decide:24<=26),(by decide:16 < 24),.inr ⟨_,rfl⟩⟩
 |6,_=>⟨_,by kernel_rfl,JT w,by kernel_rfl,(by decide:24<=26),(by decide:14 < 24),.inr ⟨_,rfl⟩⟩
 |7,_=>⟨_,by kernel_rfl,IT w,by kernel_rfl,(by decide:24<=26),(by decide:10 < 24),.inr ⟨_,rfl⟩⟩
 |8,_=>⟨_,by kernel_rfl,HT w,by kernel_rfl,(by decide:26<=26),(by decide:19 < 26),.inr ⟨_,rfl⟩⟩
 |9,_=>⟨_,by kernel_rfl,FT w,by kernel_rfl,(by decide:26<=26),(by decide:16 < 26),.inr ⟨_,rfl⟩⟩
 |10,_=>⟨_,by kernel_rfl,XO w,by kernel_rfl,(by decide:26<=26),(by decide:13 < 26),.inr ⟨_,rfl⟩⟩
 |11,_=>⟨_,by kernel_rfl,WO w,by kernel_rfl,(by decide:26<=26),(by decide:9 < 26),.inr ⟨_,rfl⟩⟩
 |n+12,h=>by lia
theorem vR(w:ja):Fn (Au w) (fD w) 1977 Od:=⟨by kernel_rfl,by kernel_rfl,by kernel_rfl,by kernel_rfl,by kernel_rfl,by kernel_rfl⟩
theorem NM{w:ja}{s:aa}(v:Value):Sf s (fdOf (Au w)) ⟨[v],[]⟩ [("script",v)]:=th (by kernel_rfl)
noncomputable def mU:Oa:=ch (aV (ma Od 1)) 1
theorem A1:mU=.BinOp (ch mU 0) .Mod (ch mU 1) mU.pos:=by kernel_rfl
noncomputable def tN(i:Nat):Oa:=ch (aT (ma Od 1)) i
theorem lw1:ma Od 1=.Assign [.Tuple [.Name "version" (tN 0).pos,.Name "level" (tN 1).pos,.Name "total" (tN 2).pos,.Name "room" (tN 3).pos] 0 (aT (ma Od 1)).pos]
 (.Subscript (.Call (.Name "_law_LAYOUTS" (ch (ch (aV (ma Od 1)) 0) 0).pos) [] [] (ch (aV (ma Od 1)) 0).pos) mU (aV (ma Od 1)).pos) (aP (ma Od 1)):=by kernel_rfl
noncomputable def Ou(ns:List Int):List Int:=if decide (0 < (ns.length:Int))=true then List.take (ih 30) ns else [0]
set_option tactic.hygienic true
theorem zD(ns:List Int):0 < (Ou ns).length/\(Ou ns).length<=30:=by
 unfold Ou
 split
 ·rename_i h
  have h:0 < (ns.length:Int):=of_decide_eq_true h
  rw[yi]
  exact⟨Nat.lt_min.mpr ⟨by decide,Int.ofNat_lt.mp h⟩,Nat.min_le_left ..⟩
 ·exact⟨by decide,by decide⟩
set_option tactic.hygienic false
theorem U0(ns:List Int):∃c,ev Gj Pj 9 Hd [("script",.il ns)] (aV (ma Od 0))=some ⟨.il (Ou ns),true,c⟩/\(ns.length<=2 ^ 24->c):=
 ⟨_,rfl,λh=>⟨⟨⟨⟨⟨trivial,trivial⟩,h⟩,trivial⟩,trivial⟩,λZ=>⟨⟨trivial,trivial⟩,by decide,h⟩,λZ=>⟨⟨trivial,trivial⟩,by decide⟩⟩⟩
theorem S0(nums:List Int):∃c,ev Gj Pj 9 Hd [("numbers",.il nums)] mU=some ⟨.int ((Qe nums 0).fmod 12),true,c⟩/\(0 < nums.length->nums.length<=30->c):=
 ⟨_,rfl,λb a=>⟨⟨⟨⟨trivial,trivial⟩,by lia,by lia,by lia⟩,trivial⟩,by decide⟩⟩
theorem vo{z y:xa}(hz:z∉ud)(a:y∈ud):z≠y:=λq=>hz (q▸a)
theorem yA:ud.all (λx=>Hd.lookup x==some .local||Hd.lookup x==some .cell)=true:=by kernel_rfl
section
variable{w:ja}{A:ua}{N:Nat}{env:Be}{rd:List xa}{σ:List (xa×P)}{adr:xa->la}{s₀ s:aa}{K:la->Sa->Prop}
theorem Nd(a:env.scope.names=Hd){x:xa}(b:x∈ud):env.kindOf x=some .local\/env.kindOf x=some .cell:=by
 have:=List.all_eq_true.mp yA x b
 unfold bc
 rw[a]
 simpa using this
theorem Up(a:env.scope.names=Hd):Ui Hd env:=⟨λx e=>by unfold bc;rw[a];exact e,λx e=>by unfold bc;rw[a];exact e⟩
theorem St.YF(x:St (GW w) env rd σ adr s₀ K s){y:xa}{p:P}{v:Value}(b:env.kindOf y=some .local\/env.kindOf y=some .cell)(hv:VR s.heap p v)(hp:∀ns,p≠.il ns){Q:Unit->aa->Prop}
  (c:∀s',St (GW w) env rd ((y,p)::σ) (λz=>if z=y then 0 else adr z) s₀ K s'->Q () s'):wpAny (ka PP w) A (fI env y v) Q Jc s:=
 ah (x.bind (a:=0) b hv λns e=>absurd e (hp ns)) (λZ s' h=>c s' h)
theorem Zp.four{h:Na}{p q r t:P}{vs:List Value}{G:Prop}(x:Zp h [p,q,r,t] vs)(k:∀a b c d,vs=[a,b,c,d]->VR h p a->VR h q b->VR h r c->VR h t d->G):G:=
 x.cn.elim λa y=>y.elim λe y=>y.2.2.three.elim λb z=>z.elim λc z=>z.elim λd z=>k a b c d (z.1▸y.1) y.2.1 z.2.1 z.2.2.1 z.2.2.2
set_option tactic.hygienic true
theorem wU(g:GA (N+4) A)(F0:Fk w s₀.heap)(d:env.scope.names=Hd){nums:List Int}(h0:0 < nums.length)(h1:nums.length<=30){y:Ym}(m:U4 w ((Qe nums 0).fmod 12).toNat y)(x:St (GW w) env rd [("numbers",.il nums)] adr s₀ K s){Q:Af->aa->Prop}
  (hQ:∀s',SP (GW w) env rd [("room",.int y.room),("total",.int y.total),("level",y.pe),("version",.int y.v),("numbers",.il nums)] adr ud s₀ K s'->Q .next s'):mc (ka PP w) A (ig (ma Od 1) env) Q s:=by
 have ek:∀y,env.kindOf y=Hd.lookup y:=λy=>by unfold bc;rw[d]
 rw[lw1]
 refine Wk rfl rfl (Fb (Hh (Yc ⟨_,_,rfl⟩ (sg x.re ((ek _).trans (by kernel_rfl)) (Yq (i:=7) w rfl rfl) (by decide) (md (xs:=[]) (by decide) ?_)))))
 have F:=F0.kp x.kp
 refine Nj (F.uf 31 rfl rfl) (uR w).data ?_
 show wpAny _ _ (call (.ref 1973) []) _ _ _
 refine ah (xM (N:=N) g F) (λv s1 h=>?_)
 refine Nc λD=>?_;obtain ⟨L,ts,rfl,k1,hL,q⟩:=h
 have E:=x.step k1
 obtain ⟨c,e,hc⟩:=S0 nums;refine D ?_
 refine ah ((Ml g 9 Hd _ env s1 E.re (Up d) (Oi λf a e=>Ej rfl e)).ok mU _ s1 .Ce e (hc h0 h1)) (λiv s2 l=>?_)
 obtain ⟨t,rfl⟩:=l.val
 have V:=E.step l.keeps
 have m0:=Xb (Qe nums 0) (show(0:Int) < 12 by decide)
 have m1:=td (Qe nums 0) (show(0:Int) < 12 by decide)
 refine q.at.elim λ_ B=>?_
 refine Nc λD=>?_;obtain ⟨tv,n,T,vs,rfl,hT,hV⟩:=B _ _ m.row;refine D ?_
 have j:=l.keeps.get hL
 have C:=l.keeps.get hT
 refine tail_any (wN j).typeIs slot_list_getitem.lookup (LR (wN j) m0 (by lia) (by simpa using n) ?_) (Xf (by intro a b c p;rw[A1];simp))
 refine hV.four λv1 v2 v3 Y e4 q1 q2 q3 q4=>?_
 refine gu (items:=#[v1,v2,v3,Y]) g.hd ⟨_,e4▸C,rfl,_,rfl⟩ rfl rfl λG u=>?_
 have k7:Kp s2 {s2 with heap:=G}:=⟨G,_,rfl,λz o e=>u z o (Va (Ba e)) e⟩
 have O:=V.step k7
 have k:∀{p:P} {v:Value} {h:Na},(∀ns,p≠.il ns)->VR s1.heap p v->VR h p v:=λhp r=>Yx r hp
 refine Oc (Sb (O.YF (y:="version") (Nd d (by decide)) (k (p:=.int y.v) nofun q1) nofun λs4 M=>?_))
 refine Oc (Sb (M.YF (y:="level") (Nd d (by decide)) (k m.ok.npe q2) m.ok.npe λs5 J=>?_))
 refine Oc (Sb (J.YF (y:="total") (Nd d (by decide)) (k (p:=.int y.total) nofun q3) nofun λs6 I=>?_))
 refine Oc (Sb (I.YF (y:="room") (Nd d (by decide)) (k (p:=.int y.room) nofun q4) nofun λs7 H=>?_))
 refine mj (hQ s7 ⟨_,λz hz=>?_,H⟩)
 simp only[if_neg (vo hz (show("room":xa)∈ud by decide)),if_neg (vo hz (show("total":xa)∈ud by decide)),if_neg (vo hz (show("level":xa)∈ud by decide)),if_neg (vo hz (show("version":xa)∈ud by decide))]
end
set_option tactic.hygienic false
theorem YC(a b:Int):(Bb a b 1).toNat=(b-a).toNat:=by
 rw[rangeSize_nat];rfl
theorem Uw(a b:Int):Cd a b 1=(Qa (b-a).toNat).map λ(i:Nat)=>a+i:=by
 delta Cd
 rw[YC]
 exact Pk λi Z=>by lia
theorem fy{n i:Nat}{x:Int}(h:(Cd 0 n 1)[i]?=some x):x=i/\i < n:=by
 rw[Uw,Ig] at h
 cases e:(Qa ((n:Int)-0).toNat)[i]? with
 |none=>rw[e] at h;cases h
 |some j=>
  rw[e] at h
  obtain rfl:=va h
  refine(List.getElem?_eq_some_iff.mp e).elim λb a=>?_
  rw[zr] at a
  rw[yc] at b
  subst a
  exact⟨by show(0:Int)+(i:Int)=i;lia,by lia⟩
theorem Oq(n:Nat):(Cd 0 n 1).length=n:=by rw[Uw];simp
theorem fF(n:Nat):Cd 0 n 1=(Qa n).map λ(i:Nat)=>(i:Int):=by
 rw[Uw]
 simp
theorem NF(n:Nat):(Ha n [(0:Int)]).flatten=Ha n 0:=by
 induction n with
 |zero=>rfl
 |succ n a=>rw[Fi,yj,a];rfl
noncomputable def wd(nums:List Int)(p:Int):Int:=Qf (Qe nums (Qf p (nums.length:Int))+37*p+1) 256
noncomputable def Wm(nums:List Int)(n:Nat):List Int:=(Qa n).map λ(p:Nat)=>wd nums p
theorem YE(nums:List Int)(p:Int):0<=wd nums p/\wd nums p < 256:=⟨Xb _ (by decide),td _ (by decide)⟩
theorem BE(nums:List Int)(n:Nat):Bh (Wm nums n):=λv hv=>by
 obtain ⟨p,_,rfl⟩:=List.mem_map.mp hv
 exact YE nums p
theorem nQ(nums:List Int)(n:Nat):Wm nums (n+1)=Wm nums n++[wd nums n]:=by unfold Wm;rw[Jk,Jf];rfl
theorem Ov(nums:List Int)(n:Nat):(Wm nums n).length=n:=by unfold Wm;simp
theorem EB(l:List Int)(v:Int):jb (l++[v])=jb l++oi v:=by unfold jb;simp
theorem LM{v:Int}(h:0<=v):(Cd 0 8 1).map (λb=>Qf (Rc v (2 ^ (7-b).toNat)) 2)=oi v:=by
 obtain ⟨n,rfl⟩:=Xc h
 rw[show(8:Int)=((8:Nat):Int) from rfl,fF,Qs]
 delta oi
 refine Pk λi hi=>?_
 have hi:=List.mem_range.mp hi
 show Qf (Rc (n:Int) (2 ^ (7-(i:Int)).toNat)) 2=Cs n 8 i
 delta Cs
 rw[show(7-(i:Int)).toNat=8-1-i from Qz 7 i]
 have e:Rc (n:Int) (2 ^ (8-1-i))=((n / 2 ^ (8-1-i):Nat):Int):=by
  rw[ti _ (by exact_mod_cast Zb _)]
  exact_mod_cast rfl
 rw[e,eX (sd _) (by decide)]
 refine(TA _ 2).trans ?_
 have:(1:Int).toNat=2 ^ 1-1:=rfl
 rw[this,Nat.and_two_pow_sub_one_eq_mod,Ib]
noncomputable def hb(v:Int):Bool:=decide (v=-3)||decide (v=-1)
noncomputable def mC(v:Int):Int:=if hb v=true then 4 else 0
noncomputable def HA(v:Int):Nat:=if hb v=true then 4 else 0
theorem yo(v:Int):mC v=(HA v:Int):=by unfold mC HA;split <;> rfl
theorem Xl(v:Int):HA v=0\/HA v=4:=by unfold HA;split <;> simp
noncomputable abbrev L1(nums:List Int)(v:Int)(total room:Nat)(pe:P):List (xa×P):=[("room",.int room),("total",.int total),("level",pe),("version",.int v),("numbers",.il nums)]
noncomputable abbrev L3(nums:List Int)(v:Int)(total room:Nat)(pe:P):List (xa×P):=("half",.int (mC v))::("checks",.int ((total:Int)-room))::L1 nums v total room pe
theorem nA1{nums:List Int}{v:Int}{total room:Nat}{pe:P}(h:II pe):ry (L1 nums v total room pe)=true:=by rcases h with rfl|⟨i,rfl⟩ <;> rfl
theorem fnA{w:ja}{N:Nat}{σ:List (xa×P)}{s:aa}(h:ry σ=true):zk PP w N Pj σ s:=Oi λf a e=>Ej h e
theorem Yv{w:ja}{N:Nat}{nums:List Int}{v:Int}{total room:Nat}{pe:P}(k:Nat)(a:II pe){σ:List (xa×P)}{s:aa}(h:ry (σ.take k)=true)(e:σ.drop k=L1 nums v total room pe):zk PP w N Pj σ s:=
 fnA (by rw[<- To k σ,e];exact List.all_append.trans (Bool.and_eq_true_iff.mpr ⟨h,nA1 a⟩))
noncomputable def mN(v:Int)(room:Nat):Nat:=room-HA v / 4
noncomputable def Td(nums:List Int)(v:Int)(room:Nat):List Int:=jb (Wm nums (mN v room))++Ha (HA v) 0
section
variable(nums bits:List Int)(v:Int)(total room:Nat)(fj tu:Int)(pe:P)
theorem R0:∃c,ev Gj Pj 9 Hd (L1 nums v total room pe) (aV (ma Od 2))=some ⟨.int ((total:Int)-room),true,c⟩/\c:=⟨_,rfl,⟨trivial,trivial⟩,trivial⟩
theorem Q0:∃c,ev Gj Pj 9 Hd (("checks",.int ((total:Int)-room))::L1 nums v total room pe) (aV (ma Od 3))=some ⟨.int (mC v),true,c⟩/\c:=
 ⟨_,rfl,⟨⟨⟨trivial,trivial⟩,trivial⟩,λZ=>⟨⟨trivial,trivial⟩,trivial⟩⟩,λZ=>trivial,λZ=>trivial⟩
theorem O0:∃c,ev Gj Pj 9 Hd (L3 nums v total room pe) (aV (ma Od 4))=some ⟨.il [],true,c⟩/\c:=⟨_,rfl,trivial,by decide⟩
theorem N0:∃c,aE (zh Hd) (ev Gj Pj 9 Hd (("bits",.il bits)::L3 nums v total room pe)) (aV (ma Od 5))=some (Cd 0 ((room:Int)-Rc (mC v) 4) 1,c)/\(room<=26->c):=by
 refine⟨_,rfl,λh=>?_⟩
 simp only[true_and,and_true]
 refine⟨⟨by decide,by unfold Sm;decide⟩,?_⟩
 delta Sm
 rcases Xl v with e|e <;> rw[yo,e]
 ·have:Rc ((0:Nat):Int) 4=0:=by decide
  omega
 ·have:Rc ((4:Nat):Int) 4=1:=by decide
  omega
theorem YT:∀a fr c,ev Gj Pj 9 Hd (("bits",.il bits)::L3 nums v total room pe) (aV (ma Od 5))=some ⟨.il a,fr,c⟩->fr=true:=λa fr c e=>by
 have h:ev Gj Pj 9 Hd (("bits",.il bits)::L3 nums v total room pe) (aV (ma Od 5))=none:=by rfl
 rw[h] at e;exact nomatch e
theorem J0:∃c,ev Gj Pj 9 Hd (("place",.int fj)::("bits",.il bits)::L3 nums v total room pe) (aV (ma dR 0))=some ⟨.int (wd nums fj),true,c⟩/\(0 < nums.length->nums.length<=30->c):=by
 refine⟨_,rfl,λe d=>?_⟩
 have b:=Xb fj (show(0:Int) < (nums.length:Int) by omega)
 have a:=td fj (show(0:Int) < (nums.length:Int) by omega)
 simp only[true_and,and_true]
 exact⟨⟨⟨⟨by omega,by omega⟩,by omega,by omega,by omega⟩,.inl (by unfold Sm;decide)⟩,by decide⟩
theorem I0:∃c,ev Gj Pj 9 Hd (("word",.int tu)::("place",.int fj)::("bits",.il bits)::L3 nums v total room pe) (aV (ma dR 1))=some ⟨.il ((Cd 0 8 1).map λb=>Qf (Rc tu (2 ^ (7-b).toNat)) 2),true,c⟩/\c:=by
 refine⟨_,rfl,⟨⟨trivial,trivial⟩,by unfold Sm;decide⟩,by decide,λb hb=>?_⟩
 have hb:0<=b/\b < 8:=by
  rw[show(8:Int)=((8:Nat):Int) from rfl,fF] at hb
  obtain ⟨j,a,rfl⟩:=List.mem_map.mp hb
  have:=List.mem_range.mp a
  omega
 have hp:((2:Int) ^ (7-b).toNat)≠0/\Sm ((2:Int) ^ (7-b).toNat):=by
  have:(7-b).toNat < 8:=by omega
  generalize (7-b).toNat=k at this ⊢
  match k,this with
  |0,_=>exact⟨by decide,by unfold Sm;decide⟩
  |1,_=>exact⟨by decide,by unfold Sm;decide⟩
  |2,_=>exact⟨by decide,by unfold Sm;decide⟩
  |3,_=>exact⟨by decide,by unfold Sm;decide⟩
  |4,_=>exact⟨by decide,by unfold Sm;decide⟩
  |5,_=>exact⟨by decide,by unfold Sm;decide⟩
  |6,_=>exact⟨by decide,by unfold Sm;decide⟩
  |7,_=>exact⟨by decide,by unfold Sm;decide⟩
  |n+8,h=>omega
 show(((True/\(True/\(True/\True)/\True)/\0<=7-b/\7-b<=1000000/\Int.natAbs 2 < 2 ^ 64)/\(2:Int) ^ (7-b).toNat≠0/\Sm (2 ^ (7-b).toNat))/\True)/\(2:Int)≠0
 simp only[true_and,and_true]
 exact⟨⟨⟨by omega,by omega,by decide⟩,hp⟩,by decide⟩
theorem M0:∃c,ev Gj Pj 9 Hd (("bits",.il bits)::L3 nums v total room pe) (aV (ma Od 6))=some ⟨.il (Ha (mC v).toNat [0]).flatten,true,c⟩/\c:=
 ⟨_,rfl,⟨⟨⟨trivial,trivial⟩,by decide⟩,trivial⟩,by
  rcases Xl v with e|e <;> rw[yo,e] <;> decide⟩
end
section
variable{w:ja}{A:ua}{N:Nat}{env:Be}{rd:List xa}{σ:List (xa×P)}{adr:xa->la}{s₀ s:aa}{K:la->Sa->Prop}{Q:Af->aa->Prop}
set_option tactic.hygienic true
theorem jj{st:cb}{rest:List cb}{R:aa->Prop}(h:wpAny (ka PP w) A (ig st env) (λf s'=>f=.next/\R s') Jc s)(k:∀s',R s'->mc (ka PP w) A (Kc rest env) Q s'):
  mc (ka PP w) A (Kc (st::rest) env) Q s:=La (Fb (ah h (λf s' q=>⟨q.1,k s' q.2⟩)))
variable{nums:List Int}{v:Int}{total room:Nat}{pe:P}
set_option tactic.hygienic false
theorem EU(g:GA N A)(a:env.scope.names=Hd)(b:II pe)(x:SP (GW w) env rd (L1 nums v total room pe) adr ud s₀ K s){rest:List cb}
  (l:∀s',SP (GW w) env rd (("bits",.il [])::L3 nums v total room pe) adr ud s₀ K s'->mc (ka PP w) A (Kc rest env) Q s'):
  mc (ka PP w) A (Kc (ma Od 2::ma Od 3::ma Od 4::rest) env) Q s:=by
 have so:=Up a
 refine Nc λc=>?_;obtain ⟨H,r,j⟩:=x
 obtain ⟨D,y,o⟩:=R0 nums v total room pe;refine c ?_
 rw[lw2,lw3,lw4]
 refine jj (ie (as:=ud) g so (Yv 0 b rfl rfl) j y o (by decide) (Nd a (by decide)) (by intro _ _;rfl) (by kernel_rfl)) λs2 f=>?_
 refine Nc λc=>?_;obtain ⟨G,q,i⟩:=f.trans r
 obtain ⟨C,u,n⟩:=Q0 nums v total room pe;refine c ?_
 refine jj (ie (as:=ud) g so (Yv 1 b rfl rfl) i u n (by decide) (Nd a (by decide)) (by intro _ _;rfl) (by kernel_rfl)) λz e=>?_
 refine Nc λc=>?_;obtain ⟨E,p,h⟩:=e.trans q
 obtain ⟨B,t,m⟩:=O0 nums v total room pe;refine c ?_
 exact jj (ie (as:=ud) g so (Yv 2 b rfl rfl) h t m (by decide) (Nd a (by decide)) (by intro _ _;rfl) (by kernel_rfl)) λk d=>l k (d.trans p)
theorem DU(g:GA N A)(b:env.scope.names=Hd)(d:II pe)(j:("bits":xa)∉rd)(h0:0 < nums.length)(L:nums.length<=30)(hr:1<=room)(k:room<=26)(x:SP (GW w) env rd (("bits",.il [])::L3 nums v total room pe) adr ud s₀ K s){rest:List cb}
  (H:∀s',SP (GW w) env rd (("bits",.il (Td nums v room))::L3 nums v total room pe) adr ud s₀ K s'->mc (ka PP w) A (Kc rest env) Q s'):
  mc (ka PP w) A (Kc (ma Od 5::ma Od 6::rest) env) Q s:=by
 have so:=Up b
 refine Nc λf=>?_;obtain ⟨a1,T,C⟩:=x
 obtain ⟨c5,r,J⟩:=N0 nums [] v total room pe;refine f ?_
 have em:(room:Int)-Rc (mC v) 4=(mN v room:Nat):=by
  delta mN
  exact(Xl v).elim (λe=>by rw[yo,e];exact Int.sub_zero _) λe=>by rw[yo,e];exact(Dh hr).symm
 rw[em] at r
 have h:mN v room<=26:=Ja (Yi ..) k
 rw[lw5,lw6]
 refine jj (fv (as:=ud) (σs:=λi=>(("bits":xa),P.il (jb (Wm nums i)))::L3 nums v total room pe) g so (Yv 3 d rfl rfl) C (Nd b (by decide)) (by decide) r (J k) (by exact YT nums [] v total room pe) (by exact Sub.Ce) ?_) λs2 o=>?_
 ·intro i a K' u s' E _ G D
  obtain ⟨rfl,hi⟩:=fy E
  show wpAny _ _ (Kc dR env) _ _ _
  rw[B1]
  refine Nc λf=>?_;obtain ⟨c,e,hc⟩:=J0 nums (jb (Wm nums i)) v total room i pe;refine f ?_
  refine He (ie (as:=ud) g so (Yv 4 d rfl rfl) D e (hc h0 L) (by decide) (Nd b (by decide)) (by intro _ _;rfl) (by kernel_rfl)) λp l=>?_
  refine Nc λf=>?_;obtain ⟨a3,M,z⟩:=l
  obtain ⟨c',t,m⟩:=I0 nums (jb (Wm nums i)) v total room i (wd nums i) pe;refine f ?_
  rw[LM (YE nums i).1] at t
  refine He (RB (as:=ud) g so (Yv 5 d rfl rfl) z (y:="bits") rfl j (by decide) t m (Nd b (by decide)) ?_) λV n=>?_
  ·rw[Wd,Ov]
   delta oi
   rw[Yb,yc]
   exact Ja (Pf 8 hi) (Ja (Pf 8 h) (by decide))
  ·rw[<- EB,<- nQ] at n
   exact Fd ⟨rfl,(n.trans M).sub (Sub.cons (Sub.skip (Sub.skip (Sub.skip Sub.Ce rfl) rfl) rfl))⟩
 ·rw[Oq] at o
  refine Nc λf=>?_;obtain ⟨a2,O,B⟩:=o.trans T
  obtain ⟨Y,q,I⟩:=M0 nums (jb (Wm nums (mN v room))) v total room pe;refine f ?_
  rw[NF,yo,Ib] at q
  refine jj (RB (as:=ud) g so (Yv 3 d rfl rfl) B (y:="bits") rfl j (by decide) q I (Nd b (by decide)) ?_) λp l=>H p ?_
  ·rw[Wd,Ov,Pd]
   exact Ja (Sx (Pf 8 h) ((Xl v).elim (λe=>by rw[e];decide) λe=>Cj e)) (by decide:8*26+4<=_)
  ·exact(l.trans O).sub (Sub.cons (Sub.skip Sub.Ce rfl))
end
noncomputable abbrev xS(ps:Array Value):Sa:={cls:=.none,data:=.fields ps}
theorem Ah.code{w:ja}{h:Na}(F:Ah w h):Yd h 1944 1940 #[]/\Yd h 1894 1892 #[]/\Yd h 1977 1975 #[]:=by
 have a:TriplesOk (#[]:Array Value).toList:=by simp[TriplesOk]
 have g:=F.u (1944,Bu w) (sa 40 rfl)
 have f:=F.u (1940,qK w) (sa 39 rfl)
 have e:=F.u (1894,vq w) (sa 34 rfl)
 have d:=F.u (1892,wK w) (sa 33 rfl)
 have c:=F.u (1977,fD w) (sa 43 rfl)
 have b:=F.u (1975,oK w) (sa 42 rfl)
 exact⟨⟨⟨_,_,_,_,_,_,_,_,_,_,g,rfl,rfl,rfl,rfl,rfl,rfl,f,rfl,a,by decide⟩,⟨_,_,g,rfl,rfl,rfl⟩,f⟩,
  ⟨⟨_,_,_,_,_,_,_,_,_,_,e,rfl,rfl,rfl,rfl,rfl,rfl,d,rfl,a,by decide⟩,⟨_,_,e,rfl,rfl,rfl⟩,d⟩,
  ⟨⟨_,_,_,_,_,_,_,_,_,_,c,rfl,rfl,rfl,rfl,rfl,rfl,b,rfl,a,by decide⟩,⟨_,_,c,rfl,rfl,rfl⟩,b⟩⟩
noncomputable def H7:Oa:=ch (aV (ma Od 7)) 1
noncomputable def nU:Oa:=ch (ch H7 0) 0
theorem lw7:ma Od 7=.Assign [.Name "sent" (aT (ma Od 7)).pos] (.Call (.Name "list" (ch (aV (ma Od 7)) 0).pos) [.Call (.Attribute (.Call (.Name "make_final_message" (ch nU 0).pos) [.Name "version" (ch nU 1).pos,.Name "level" (ch nU 2).pos,.Call (.Name "Buffer" (ch (ch nU 3) 0).pos) [.Name "bits" (ch (ch nU 3) 1).pos] [] (ch nU 3).pos] [] nU.pos) "getbits" (ch H7 0).pos) [] [] H7.pos] [] (aV (ma Od 7)).pos) (aP (ma Od 7)):=by kernel_rfl
section
variable{w:ja}{A:ua}{N:Nat}{env:Be}{rd:List xa}{σ:List (xa×P)}{adr:xa->la}{s₀ s s' sI:aa}{K:la->Sa->Prop}{Q:Af->aa->Prop}
theorem St.UY(x:St (GW w) env rd σ adr s₀ K s){wr:List la}(a:∀b∈wr,(env.locals≠b/\(∀y c,env.cells.lookup y=some c->c≠b)/\∀y ns,σ.lookup y=some (.il ns)->adr y≠b)/\∀o,¬K b o)
  (k:∀b o,b∉wr->s.heap.get? b=some o->s'.heap.get? b=some o) (hd:s'.drawn=s.drawn) (h:s'.os=s.os):St (GW w) env rd σ adr {s₀ with gens:=s'.gens} K s':=by
 refine x.ns.elim λm hm=>?_
 have r:env.locals∉wr:=λq=>(a _ q).1.1 rfl
 have t:∀y c,env.cells.lookup y=some c->c∉wr:=λy c e q=>(a _ q).1.2.1 y c e rfl
 have A:∀y ns,σ.lookup y=some (.il ns)->adr y∉wr:=λy ns e q=>(a _ q).1.2.2 y ns e rfl
 refine{x with sh:=?_,ks:=?_,ns:=⟨m,hm.at' λo e=>k _ o r e⟩,ce:=λy c e=>?_,look:=λy p e=>?_}
 ·obtain ⟨h0,E,rfl⟩:=x.sh
  obtain ⟨h',G,j,t',o'⟩:=s'
  have hd:j=_:=hd
  have h:o'=_:=h
  subst hd h
  exact⟨h',t',rfl⟩
 ·exact λb o q=>k b o (λhb=>(a b hb).2 o q) (x.ks b o q)
 ·obtain ⟨v,o',d,j⟩:=x.ce y c e
  exact⟨v,o',k c o' (t y c e) d,j⟩
 ·obtain ⟨v,D,z,u⟩:=x.look y p e
  refine⟨v,?_,?_,u⟩
  ·rcases D with ⟨n,f,n',d⟩|⟨n,c,d,o',B,C⟩
   ·exact .inl ⟨n,f,n'.at' λo e=>k _ o r e,d⟩
   ·exact .inr ⟨n,c,d,o',k c o' (t y c d) B,C⟩
  ·cases p with
   |il ns=>
    obtain ⟨l,vs,f,rfl,g,i⟩:=z
    have:=u ns rfl
    obtain rfl:=ff this
    exact⟨adr y,vs,f,rfl,k _ _ (A y ns e) g,i⟩
   |_=>exact z
noncomputable def K7(sI:aa)(p q:Array Value):la->Sa->Prop:=λb o=>((sI.heap.get? b=some o/\b≠1940/\b≠1892)\/(b=1940/\o=xS p))\/(b=1892/\o=xS q)
theorem St.w7(x:St (GW w) env rd σ adr s₀ K s){y:xa}{p:P}{pos:xd}{Q:Value->aa->Prop}(e:σ.lookup y=some p)(a:Gd y=false)(b:∀v,VR s.heap p v->Q v s):wpAny (ka PP w) A (eval (.Name y pos) env) Q Jc s:=by
 refine Nc λc=>?_;obtain ⟨v,f,d,_⟩:=x.look y _ e;refine c ?_
 exact Md x.kind f (Tg a).1 (Tg a).2 (b v d)
set_option tactic.hygienic true
theorem vU(g:GK (N+24) A)(FI:Ah w sI.heap)(Y:∀b o,s₀.heap.get? b=some o->sI.heap.get? b=some o/\b≠1940/\b≠1892)(M:Fk w s₀.heap)(o3:∀z∈s.gens,z.bare=true)(G:env.scope.names=Hd){y:Ym}(ok:nk w y){bits:List Int}(hB:ql bits)(hz:bits.length<=2 ^ 11)(hn:y.room<=(bits.length+7) / 8)
  (l1:σ.lookup ("version":xa)=some (.int y.v)) (l2:σ.lookup ("level":xa)=some y.pe) (l3:σ.lookup ("bits":xa)=some (.il bits)) (x:SP (GW w) env rd σ adr ud s₀ (Fw sI) s)
  {half:Bool} (hh:(([-3,-1]:List Int).any (·==y.v))=half) (hf:Bh (Ij half (wordsOf bits y.room) (Gg y.gen (wordsOf bits y.room)))/\(Ij half (wordsOf bits y.room) (Gg y.gen (wordsOf bits y.room))).length<=2 ^ 24)
  (hQ:∀s' p q,(∀z∈s'.gens,z.bare=true)->SP (GW w) env rd (("sent",.il (Ij half (wordsOf bits y.room) (Gg y.gen (wordsOf bits y.room))))::σ) adr ud {s₀ with gens:=s'.gens} (K7 sI p q) s'->Q .next s'):
  mc (ka PP w) A (ig (ma Od 7) env) Q s:=by
 have ek:∀y,env.kindOf y=Hd.lookup y:=λy=>by unfold bc;rw[G]
 refine Nc λhC=>?_;obtain ⟨a1,f1,x⟩:=x
 have F:=M.kp x.kp
 obtain ⟨D4,C4,_⟩:=FI.code;refine hC ?_
 have kI:∀b o,sI.heap.get? b=some o->s.heap.get? b=some o:=λb o e=>x.ks b o e
 rw[lw7]
 refine fi (by kernel_rfl) ?_
 refine Fg (name_buil x.re ((ek _).trans (by kernel_rfl)) (ke w (.tail _ (.tail _ (.head _)))) (v:=.type "list") (by kernel_rfl) (by decide) (by decide) ?_)
 refine fc (xs:=[eval (.Call (.Attribute _ "getbits" _) [] [] _) env]) (show 1<=30 by decide) ?_
 refine Th rfl (by kernel_rfl) (by kernel_rfl) ?_
 refine Fg (sg x.re ((ek _).trans (by kernel_rfl)) (Yq (i:=5) w rfl rfl) (by decide) ?_)
 refine fc (xs:=[eval (.Name "version" _) env,eval (.Name "level" _) env,eval (.Call (.Name "Buffer" _) [.Name "bits" _] [] _) env]) (show 3<=30 by decide) ?_
 refine Fb (x.w7 l1 (by decide) λvv V=>Fb (x.w7 l2 (by decide) λlv K8=>?_))
 obtain ⟨tv,rfl⟩:=V
 refine Fg (sg x.re ((ek _).trans (by kernel_rfl)) (Yq (i:=6) w rfl rfl) (by decide) ?_)
 refine fc (xs:=[eval (.Name "bits" _) env]) (show 1<=30 by decide) ?_
 refine Fb (x.w7 l3 (by decide) λbv hbv=>?_)
 refine Nc λhC=>?_;obtain ⟨lb,bvs,bm,rfl,hlb,hib⟩:=hbv;refine hC ?_
 refine gR g.ga.hd F λh1 k1=>?_
 have m:Kp s {s with heap:=h1,toks:=s.toks+0}:=xq 0 k1
 generalize D8:({s with heap:=h1,toks:=s.toks+0}:aa)=s1 at m
 have x1:=x.step m
 refine CM (N:=N+2) (g.mono (by lia)) (M.kp x1.kp) (m.get hlb) hib hB.G4 (by simp only[Kb];lia) λs2 b dd d k2 hbb pC hd _ _ _=>?_
 have J:=x1.step k2
 have F2:=M.kp J.kp
 have C:=m.trans' k2
 refine Nj (F2.uf 20 rfl rfl) (Py w).data ?_
 show mc _ _ (call (.ref 1895) [.int y.v tv,lv,.ref b]) _ _
 have B:Yd s2.heap 1944 1940 #[]:=D4.keeps λb o e=>C.get (kI b o e)
 have u:Yd s2.heap 1894 1892 #[]:=C4.keeps λb o e=>C.get (kI b o e)
 refine mE (N:=N) (g.mono (by lia)) F2 ok (Yx K8 ok.npe) hbb pC hd hB hz hn B u hh λrb rdd O h3 t3 g3 k3 l k b3 D r t=>?_
 refine l.elim λp l=>?_
 refine k.elim λq k=>?_
 generalize n:({s2 with heap:=h3,toks:=t3,gens:=g3}:aa)=c
 have hh3:c.heap=h3:=by rw[<- n]
 have nR:c.gens=g3:=by rw[<- n]
 rw[<- hh3] at k3 l k D r t
 have h:=J.M4 B.tab rfl
 have f:=J.M4 u.tab rfl
 have y2:St (GW w) env rd σ a1 s₀ (λb o=>sI.heap.get? b=some o/\b≠1940/\b≠1892) s2:=J.weak (λb o q=>q.1) Y
 have y3:=y2.UY (s':=c) (wr:=[1940,1892]) (λz hz=>by
   rcases List.mem_cons.mp hz with rfl|hz
   ·exact⟨h,λo q=>q.2.1 rfl⟩
   ·rw[List.mem_singleton.mp hz];exact⟨f,λo q=>q.2.2 rfl⟩)
  (λz o hz e=>k3 z o (λq=>hz (q▸.head _)) (λq=>hz (q▸.tail _ (.head _))) e) (by rw[<- n]) (by rw[<- n])
 have I:=(y3.VB l.tab h.1 h.2.1 h.2.2).VB k.tab f.1 f.2.1 f.2.2
 have I:St (GW w) env rd σ a1 {s₀ with gens:=c.gens} (K7 sI p q) c:=I
 have F3:Fk w c.heap:=Fk.kp (s:={s₀ with gens:=c.gens}) M I.kp
 have R8:s2.gens=s.gens:=by obtain ⟨_,_,e,_⟩:=C;rw[e]
 have hb3:∀z∈c.gens,z.bare=true:=by rw[nR];exact b3 (by rw[R8];exact o3)
 refine cV g.ga.hd F3 D r λh5 k5=>?_
 have j:Kp c {c with heap:=h5,toks:=c.toks+0}:=xq 0 k5
 generalize hs5:({c with heap:=h5,toks:=c.toks+0}:aa)=s5 at j
 have y5:=I.step j
 have F5:=F3.kp j
 refine fc (xs:=[]) (show 0<=30 by decide) ?_
 refine Nj (F5.uf 26 rfl rfl) (bM w).data ?_
 show mc _ _ (call (.ref 1938) [.ref rb]) _ _
 refine RH (N:=N) (g.mono (by lia)) F5 (j.get D) λs6 k6=>?_
 have E:=j.trans' k6
 have y6:=y5.step k6
 refine Aa (a:=Xa) rfl ?_
 show mc _ _ (call (.type "list") [.ref O]) _ _
 refine Fb (ZF g.ga.hd (E.get t) hf.1 hf.2 λv s7 L=>?_)
 refine(Av y6 L (λ_ _=>rfl) "sent").elim λa ha=>?_
 have hg7:s7.gens=c.gens:=by obtain ⟨_,_,e,_⟩:=E.trans' L.keeps;rw[e]
 refine ah ((y6.step L.keeps).bind (y:="sent") (Nd G (by decide)) L.val ha) (λ_ s8 y8=>?_)
 have H:s8.gens=c.gens:=by obtain ⟨_,_,e⟩:=y8.sh;rw[e]
 have T:=hQ s8 p q (by rw[H];exact hb3) (by
  rw[H]
  exact⟨_,λz hz=>(if_neg (vo hz (by decide))).trans (f1 z hz),y8⟩)
 exact T
end
set_option tactic.hygienic false
theorem iJ{v:Int}(h:0<=v/\v < 256):rj (oi v)=v:=by
 have a:((Qa 256).all λn=>rj (oi (n:Int))==(n:Int))=true:=by decide +kernel
 obtain ⟨n,rfl⟩:=Xc h.1
 have:=List.all_eq_true.mp a n (List.mem_range.mpr (by omega))
 simpa using this
theorem nt(v:Int)(l:List Int):jb (v::l)=oi v++jb l:=by unfold jb;simp
theorem Gv(l m:List Int):jb (l++m)=jb l++jb m:=by unfold jb;simp
theorem l9:∀(l:List Int) (t:List Int) (i:Nat),i < l.length->((jb l++t).drop (8*i)).take 8=oi (l.getD i 0)
 |[],_,_,h=>by simp at h
 |v::l,t,0,_=>by
  rw[nt]
  show((oi v++jb l++t).drop 0).take 8=oi v
  rw[yQ,Ze,List.take_append_of_le_length (by rw[Nk];exact Ab _),Rf (by rw[Nk];exact Ab _)]
 |v::l,t,i+1,h=>by
  rw[nt,Ze,show 8*(i+1)=(oi v).length+8*i by rw[Nk];omega,List.drop_length_add_append]
  exact l9 l t i (by simpa using h)
noncomputable def WW(nums:List Int)(v:Int)(room:Nat):List Int:=Wm nums (mN v room)++Ha (HA v / 4) 0
theorem cN{nums:List Int}{v:Int}{room:Nat}(h:1<=room):(WW nums v room).length=room:=by
 unfold WW mN
 rw[Ya,Ov,Pd]
 exact Me ((Xl v).elim (λe=>by rw[e];exact Zb _) λe=>by rw[e];exact h)
theorem cW(nums:List Int)(v:Int)(room:Nat):Bh (WW nums v room):=(BE nums _).append λx a=>by rw[(List.mem_replicate.mp a).2];decide
theorem Pu(nums:List Int)(v:Int)(room:Nat):(Td nums v room).length=8*mN v room+HA v:=by
 unfold Td
 rw[Ya,Wd,Ov,Pd]
theorem Xs(nums:List Int)(v:Int)(room:Nat):ql (Td nums v room):=λn a=>by
 unfold Td at a
 refine(List.mem_append.mp a).elim (λh=>?_) λh=>?_
 ·exact Lo (BE nums _) n h
 ·exact .inl (List.mem_replicate.mp h).2
set_option tactic.hygienic true
theorem eJ{nums:List Int}{v:Int}{room:Nat}(h:1<=room):wordsOf (Td nums v room) room=WW nums v room:=by
 refine qn (by rw[Tj,cN h]) λi a d=>?_
 rw[Tj] at a
 have g:(wordsOf (Td nums v room) room)[i]'(by rw[Tj];exact a)=rj (Xk (Td nums v room) (8*i)):=by simp[wordsOf]
 have f:(WW nums v room)[i]=(WW nums v room).getD i 0:=by rw[Ra,Wb d];rfl
 rw[g,f]
 have ml:=Ov nums (mN v room)
 by_cases q:i < mN v room
 ·unfold Xk
  have e:=l9 (Wm nums (mN v room)) (Ha (HA v) 0) i (by rw[ml];exact q)
  rw[show Td nums v room=jb (Wm nums (mN v room))++Ha (HA v) 0 from rfl,e]
  have z:8*i+8-(jb (Wm nums (mN v room))++Ha (HA v) 0).length=0:=by
   rw[Ya,Wd,ml];exact PE (Ja (Pf 8 q) (Ed ..))
  rw[z,List.replicate_zero,Dg]
  have hb:=(BE nums (mN v room)).getD i
  rw[iJ hb]
  unfold WW
  rw[vm,if_pos (by rw[ml];exact q)]
 ·have hm:HA v=4/\i=mN v room:=by
   unfold mN at q ⊢
   exact(Xl v).elim (λe=>by rw[e] at q;exact absurd a q) λe=>by rw[e] at q ⊢;exact⟨rfl,Hg (Bk a) (Nat.not_lt.mp q)⟩
  obtain ⟨b,hi⟩:=hm
  have e:Xk (Td nums v room) (8*i)=Ha 8 0:=by
   unfold Xk
   rw[Pu,b,hi,show 8*mN v room+8-(8*mN v room+4)=4 from mG _ 8 4]
   unfold Td
   rw[b,List.drop_append_of_le_length (by rw[Wd,ml];exact Ab _),List.drop_of_length_le (by rw[Wd,ml];exact Ab _)]
   rfl
  rw[e]
  unfold WW
  rw[vm,ox]
  split
  ·rename_i c
   exact absurd (Zi c ml) q
  ·decide
set_option tactic.hygienic false
theorem cM{nums:List Int}{v:Int}{room:Nat}(h:1<=room)(K:List Int):Ij (hb v) (WW nums v room) K=Td nums v room++jb K:=by
 unfold Ij WW Td HA
 cases hb v with
 |false=>
  show jb (Wm nums _++Ha (0 / 4) 0)++jb K=jb (Wm nums _)++Ha 0 0++jb K
  simp
 |true=>
  show jb ((Wm nums _++[0]).dropLast)++HB ((Wm nums _++[0]).getD ((Wm nums _++[0]).length-1) 0 / 16)++jb K=jb (Wm nums _)++Ha 4 0++jb K
  have e:(Wm nums (mN v room)++[0]).getD ((Wm nums (mN v room)++[0]).length-1) 0=0:=by
   rw[vm,Ya,if_neg (by simp)]
   simp
  rw[List.dropLast_concat,e]
  congr 2
theorem kO(nums:List Int)(v:Int)(room:Nat)(K:List Int):Td nums v room++Ha (HA v) 0++jb K=jb (WW nums v room++K):=by
 rw[Gv]
 congr 1
 unfold Td WW
 rw[Gv,Ze]
 congr 1
 have:=Xl v
 rcases this with e|e <;> rw[e] <;> decide
noncomputable abbrev L7(Wj bits nums:List Int)(v:Int)(total room:Nat)(pe:P):List (xa×P):=("sent",.il Wj)::("bits",.il bits)::L3 nums v total room pe
noncomputable abbrev L8(Wj nums:List Int)(v:Int)(total room:Nat)(pe:P):List (xa×P):=("sent",.il Wj)::L3 nums v total room pe
section
variable(nums bits Wj yd pl ll:List Int)(v:Int)(total room:Nat)(fj tu nj bit Jl:Int)(pe:P)
theorem L0:∃c,GI (ev Gj Pj 9 Hd (L7 Wj bits nums v total room pe)) (aV (ma Od 8))=some (decide ((Wj.length:Int)≠8*(total:Int)-mC v)||decide (Wj.take (ih (bits.length:Int))≠bits),c)/\(Wj.length<=2 ^ 20->bits.length<=2 ^ 20->c):=by
 refine⟨_,rfl,λb a=>?_⟩
 simp only[true_and,and_true]
 exact⟨⟨by lia,.inl (by unfold Sm;decide)⟩,λZ=>⟨by lia,by lia,by lia⟩⟩
theorem K0:∃c,ev Gj Pj 9 Hd (L7 Wj bits nums v total room pe) (aV (ma Od 9))=some ⟨.il (bits++(Ha (mC v).toNat [0]).flatten++Wj.drop (ih (bits.length:Int))),true,c⟩/\(bits.length<=Wj.length->Wj.length<=2 ^ 20->c):=by
 refine⟨_,rfl,λb a=>?_⟩
 simp only[true_and,and_true]
 rw[NF,yo]
 have:=Xl v
 simp only[Ya,Pd,bh,Ib,List.length_singleton]
 exact⟨⟨⟨⟨by decide,by lia,by lia,by lia⟩,by lia⟩,by lia,by lia,by lia,by lia⟩,by lia⟩
theorem kU:∃c,ev Gj Pj 9 Hd (L8 Wj nums v total room pe) (aV (ma Od 10))=some ⟨.il [],true,c⟩/\c:=⟨_,rfl,trivial,by decide⟩
theorem jU:∃c,aE (zh Hd) (ev Gj Pj 9 Hd (("words",.il yd)::L8 Wj nums v total room pe)) (aV (ma Od 11))=some (Cd 0 (8*(total:Int)) 8,c)/\(total<=26->c):=by
 refine⟨_,rfl,λh=>?_⟩
 simp only[true_and,and_true]
 delta Sm
 exact⟨.inl (by decide),by decide,by decide,by lia,by decide⟩
theorem dP:∀a fr c,ev Gj Pj 9 Hd (("words",.il yd)::L8 Wj nums v total room pe) (aV (ma Od 11))=some ⟨.il a,fr,c⟩->fr=true:=λa fr c e=>by
 have h:ev Gj Pj 9 Hd (("words",.il yd)::L8 Wj nums v total room pe) (aV (ma Od 11))=none:=by rfl
 rw[h] at e;exact nomatch e
noncomputable abbrev L9:List (xa×P):=("word",.int tu)::("start",.int nj)::("words",.il yd)::L8 Wj nums v total room pe
theorem A0:ev Gj Pj 9 Hd (("start",.int nj)::("words",.il yd)::L8 Wj nums v total room pe) (aV (ma Kz 0))=some ⟨.int 0,true,True⟩:=by rfl
theorem z0:∃c,aE (zh Hd) (ev Gj Pj 9 Hd (L9 nums Wj yd v total room tu nj pe)) (aV (ma Kz 1))=some ((Wj.drop nj.toNat).take (nj+8-nj).toNat,c)/\(0<=nj->nj+8<=Wj.length->Wj.length<=2 ^ 20->c):=by
 refine⟨_,rfl,λh0 b a=>?_⟩
 simp only[true_and,and_true]
 exact⟨by lia,by lia,by lia,by lia⟩
theorem XT:∀a fr c,ev Gj Pj 9 Hd (L9 nums Wj yd v total room tu nj pe) (aV (ma Kz 1))=some ⟨.il a,fr,c⟩->fr=true:=λa fr c e=>by
 have h:∃b c',ev Gj Pj 9 Hd (L9 nums Wj yd v total room tu nj pe) (aV (ma Kz 1))=some ⟨.il b,true,c'⟩:=⟨_,_,rfl⟩
 obtain ⟨b,c',h⟩:=h
 rw[h] at e;cases e;rfl
theorem w0:∃c,ev Gj Pj 9 Hd (("bit",.int bit)::L9 nums Wj yd v total room tu nj pe) (aV (ma (aB (ma Kz 1)) 0))=some ⟨.int (2*tu+bit),true,c⟩/\c:=by
 refine⟨_,rfl,?_⟩
 simp only[true_and,and_true]
 exact .inl (by unfold Sm;decide)
theorem u0:ev Gj Pj 9 Hd (L9 nums Wj yd v total room tu nj pe) (ch (aV (ma Kz 2)) 1)=some ⟨.int tu,false,True⟩:=by rfl
noncomputable abbrev L4:List (xa×P):=("words",.il yd)::L3 nums v total room pe
theorem iU:∃c,ev Gj Pj 9 Hd (L4 nums yd v total room pe) (aV (ma Od 12))=some ⟨.il [],true,c⟩/\c:=⟨_,rfl,trivial,by decide⟩
theorem hU:∃c,ev Gj Pj 9 Hd (("powers",.il [])::L4 nums yd v total room pe) (aV (ma Od 13))=some ⟨.il (Ha (ih 256) [0]).flatten,true,c⟩/\c:=⟨_,rfl,⟨⟨⟨trivial,trivial⟩,by decide⟩,trivial⟩,by decide⟩
theorem gU:ev Gj Pj 9 Hd (("logs",.il ll)::("powers",.il pl)::L4 nums yd v total room pe) (aV (ma Od 14))=some ⟨.int 1,true,True⟩:=by rfl
noncomputable abbrev L5:List (xa×P):=("power",.int Jl)::("logs",.il ll)::("powers",.il pl)::L4 nums yd v total room pe
theorem fU:∃c,aE (zh Hd) (ev Gj Pj 9 Hd (L5 nums yd pl ll v total room Jl pe)) (aV (ma Od 15))=some (Cd 0 255 1,c)/\c:=⟨_,rfl,⟨trivial,trivial⟩,by unfold Sm;decide⟩
theorem cP:∀a fr c,ev Gj Pj 9 Hd (L5 nums yd pl ll v total room Jl pe) (aV (ma Od 15))=some ⟨.il a,fr,c⟩->fr=true:=λa fr c e=>by
 have h:ev Gj Pj 9 Hd (L5 nums yd pl ll v total room Jl pe) (aV (ma Od 15))=none:=by rfl
 rw[h] at e;exact nomatch e
theorem H0:ev Gj Pj 9 Hd (("place",.int fj)::L5 nums yd pl ll v total room Jl pe) (ch (aV (ma xA 0)) 1)=some ⟨.int Jl,false,True⟩:=by rfl
noncomputable abbrev L6:List (xa×P):=("powers",.il pl)::("place",.int fj)::("power",.int Jl)::("logs",.il ll)::L4 nums yd v total room pe
theorem G0:ev Gj Pj 9 Hd (L6 nums yd pl ll v total room fj Jl pe) (ch (aT (ma xA 1)) 1)=some ⟨.int Jl,false,True⟩:=by rfl
theorem E0:ev Gj Pj 9 Hd (L6 nums yd pl ll v total room fj Jl pe) (aV (ma xA 1))=some ⟨.int fj,false,True⟩:=by rfl
theorem D0:∃c,ev Gj Pj 9 Hd (("logs",.il ll)::("powers",.il pl)::("place",.int fj)::("power",.int Jl)::L4 nums yd v total room pe) (aV (ma xA 2))=some ⟨.int (if decide (Jl < 128)=true then 2*Jl else Kd (2*Jl) 285),true,c⟩/\c:=by
 refine⟨_,rfl,?_⟩
 simp only[true_and,and_true]
 exact⟨λZ=>.inl (by unfold Sm;decide),λZ=>.inl (by unfold Sm;decide)⟩
end
noncomputable def EG(n:Nat):List Int:=(Qa n).map λk=>((it k 1:Nat):Int)
noncomputable def XK:Nat->List Int
 |0=>Ha 256 0
 |n+1=>(XK n).set (it n 1) n
theorem nO:EG 255=Rq:=by decide +kernel
theorem kP:XK 255=sj:=by decide +kernel
theorem aK(n:Nat):EG (n+1)=EG n++[((it n 1:Nat):Int)]:=by unfold EG;rw[Jk,Jf];rfl
theorem mO(n:Nat):(EG n).length=n:=by unfold EG;simp
theorem Ay:∀n,(XK n).length=256
 |0=>Pd
 |n+1=>by unfold XK;rw[Kk];exact Ay n
theorem XR{p:Nat}(h:p < 256):(if decide ((p:Int) < 128)=true then 2*(p:Int) else Kd (2*(p:Int)) 285)=((xt p:Nat):Int):=by
 delta xt
 by_cases q:p < 128
 ·rw[if_pos (by simp;lia),if_pos q];lia
 ·rw[if_neg (by simp;lia),if_neg q]
  have:=bl (2*p) 285
  rw[<- this]
  rfl
theorem tG(l:List Int)(b:Int):rj (l++[b])=2*rj l+b:=by unfold rj;rw[List.foldl_append];rfl
theorem take_snoc{l:List Int}{i:Nat}{a:Int}(h:l[i]?=some a):l.take (i+1)=l.take i++[a]:=by
 rw[Ms,h];rfl
theorem wY(n:Nat):Cd 0 (8*(n:Int)) 8=(Qa n).map λ(i:Nat)=>8*(i:Int):=by
 delta Cd
 have e:8*(n:Int)=((8*n:Nat):Int):=by lia
 rw[e,ZC,show(8*n+7) / 8=n by lia,Ib]
 exact Pk λi Z=>by lia
theorem LJ{n i:Nat}{x:Int}(h:(Cd 0 (8*(n:Int)) 8)[i]?=some x):x=8*(i:Int)/\i < n:=by
 rw[wY,Ig] at h
 cases e:(Qa n)[i]? with
 |none=>rw[e] at h;cases h
 |some j=>
  rw[e] at h
  obtain rfl:=va h
  refine(List.getElem?_eq_some_iff.mp e).elim λb a=>?_
  rw[zr] at a
  rw[yc] at b
  subst a
  exact⟨rfl,b⟩
section
variable{w:ja}{A:ua}{N:Nat}{env:Be}{rd:List xa}{σ:List (xa×P)}{adr:xa->la}{s₀ s:aa}{K:la->Sa->Prop}{Q:Af->aa->Prop}
variable{nums:List Int}{v:Int}{total room:Nat}{pe:P}
theorem zE{Kw:List Int}(c:1<=room)(b:room<=total)(a:Kw.length=total-room):(Td nums v room++jb Kw).length+HA v=8*total:=by
 rw[Ya,Pu,Wd,a]
 delta mN
 have k:8*room+8*(total-room)=8*total:=(Nat.mul_add 8 room _).symm.trans (congrArg (8*·) (Vh b))
 exact(Xl v).elim (λe=>by rw[e];exact k) λe=>by rw[e];exact(Jr (8*(room-1)+4) _ 4).trans ((congrArg (8*·+_) (Me c)).trans k)
theorem WM{Kw:List Int}(d:1<=room)(c:room<=total)(b:total<=26)(a:Kw.length=total-room):(Td nums v room++jb Kw).length<=2 ^ 20:=
 Ja (Fz (zE d c a)) (Ja (Pf 8 b) (by decide))
theorem VM(Kw:List Int):(Td nums v room).length<=(Td nums v room++jb Kw).length:=by
 rw[Ya];exact Ed _ _
theorem q8{a b c:Int}(h:a+c=b):a=b-c:=h▸(Int.add_sub_cancel a c).symm
theorem K4{Kw:List Int}(c:1<=room)(b:room<=total)(a:Kw.length=total-room):(decide (((Td nums v room++jb Kw).length:Int)≠8*(total:Int)-mC v)||decide ((Td nums v room++jb Kw).take (ih ((Td nums v room).length:Int))≠Td nums v room))=false:=by
 rw[Ib,List.take_left,yo,decide_eq_false (not_not_intro (q8 (congrArg QR (zE c b a)))),decide_eq_false (not_not_intro rfl)];rfl
theorem CU(g:GA N A)(a:env.scope.names=Hd)(b:II pe)(i:1<=room)(h:room<=total)(j:total<=26){Kw:List Int}(f:Kw.length=total-room)
  (x:SP (GW w) env rd (L7 (Td nums v room++jb Kw) (Td nums v room) nums v total room pe) adr ud s₀ K s) {rest:List cb}
  (B:∀s',SP (GW w) env rd (("words",.il [])::L8 (jb (WW nums v room++Kw)) nums v total room pe) adr ud s₀ K s'->mc (ka PP w) A (Kc rest env) Q s'):
  mc (ka PP w) A (Kc (ma Od 8::ma Od 9::ma Od 10::rest) env) Q s:=by
 have so:=Up a
 refine Nc λd=>?_;obtain ⟨I,G,u⟩:=x
 obtain ⟨c,e,hc⟩:=L0 nums (Td nums v room) (Td nums v room++jb Kw) v total room pe;refine d ?_
 rw[K4 i h f] at e
 rw[lw8,lw9,W7]
 refine jj (R:=SP (GW w) env rd (L7 (Td nums v room++jb Kw) (Td nums v room) nums v total room pe) I ud s₀ K) (sL g so (Yv 4 b rfl rfl) u e (hc (WM i h j f) (Ja (VM Kw) (WM i h j f))) (λq=>nomatch q) (λZ s' Z y=>Fd ⟨rfl,SP.of y⟩)) λs2 p=>?_
 refine Nc λd=>?_;obtain ⟨O,E,t⟩:=p.trans G
 obtain ⟨L,m,C⟩:=K0 nums (Td nums v room) (Td nums v room++jb Kw) v total room pe;refine d ?_
 rw[NF,yo,Ib,Ib,List.drop_left,kO] at m
 refine jj (ie (as:=ud) g so (Yv 4 b rfl rfl) t m (C (VM Kw) (WM i h j f)) (by decide) (Nd a (by decide)) (by intro _ _;rfl) (by kernel_rfl)) λJ o=>?_
 refine Nc λd=>?_;obtain ⟨M,D,r⟩:=((o.trans E).sub (τ:=L8 (jb (WW nums v room++Kw)) nums v total room pe) (Sub.cons (Sub.skip (Sub.skip Sub.Ce rfl) rfl)))
 obtain ⟨H,l,k⟩:=kU nums (jb (WW nums v room++Kw)) v total room pe;refine d ?_
 exact jj (ie (as:=ud) g so (Yv 3 b rfl rfl) r l k (by decide) (Nd a (by decide)) (by intro _ _;rfl) (by kernel_rfl)) λz n=>B z (n.trans D)
theorem BU(g:GA N A)(d:env.scope.names=Hd)(f:II pe)(n:("words":xa)∉rd)(O:total<=26){C:List Int}(h:C.length=total)(hb:Bh C)
  (x:SP (GW w) env rd (("words",.il [])::L8 (jb C) nums v total room pe) adr ud s₀ K s) {rest:List cb}
  (M:∀s',SP (GW w) env rd (L4 nums C v total room pe) adr ud s₀ K s'->mc (ka PP w) A (Kc rest env) Q s'):
  mc (ka PP w) A (Kc (ma Od 11::rest) env) Q s:=by
 have so:=Up d
 refine Nc λh=>?_;obtain ⟨a1,f1,G⟩:=x
 have lc:=Wd C
 obtain ⟨c,e,hc⟩:=jU nums (jb C) [] v total room pe;refine h ?_
 rw[V7]
 refine jj (fv (as:=ud) (σs:=λi=>(("words":xa),P.il (C.take i))::L8 (jb C) nums v total room pe) g so (Yv 4 f rfl rfl) G (Nd d (by decide)) (by decide) e (hc O) (by exact dP nums (jb C) [] v total room pe) (by exact Sub.Ce) ?_) λs2 r=>?_
 ·intro i a K' z s' J _ L H
  obtain ⟨rfl,hi⟩:=LJ J
  show wpAny _ _ (Kc Kz env) _ _ _
  rw[Z0]
  refine He (ie (as:=ud) g so (Yv 5 f rfl rfl) H (A0 nums (jb C) (C.take i) v total room (8*i) pe) trivial (by decide) (Nd d (by decide)) (by intro _ _;rfl) (by kernel_rfl)) λs3 B=>?_
  refine Nc λh=>?_;obtain ⟨a3,Y,E⟩:=B
  obtain ⟨c',u,o⟩:=z0 nums (jb C) (C.take i) v total room 0 (8*i) pe;refine h ?_
  have e1:((jb C).drop (8*(i:Int)).toNat).take (8*(i:Int)+8-8*(i:Int)).toNat=oi (C.getD i 0):=by
   have:=l9 C [] i (by lia)
   rw[Dg] at this
   rw[show(8*(i:Int)).toNat=8*i by lia,show(8*(i:Int)+8-8*(i:Int)).toNat=8 by lia]
   exact this
  rw[e1] at u
  refine He (fv (as:=ud) (σs:=λj=>(("word":xa),P.int (rj ((oi (C.getD i 0)).take j)))::("start",.int (8*i))::("words",.il (C.take i))::L8 (jb C) nums v total room pe) g so (Yv 6 f rfl rfl) E (Nd d (by decide)) (by decide) u (o (by lia) (by lia) (by lia))
   (by exact XT nums (jb C) (C.take i) v total room 0 (8*i) pe) (by exact Sub.Ce) ?_) λs4 q=>?_
  ·intro j b K'' p Ng m _ t l
   refine Nc λh=>?_;obtain ⟨c2,e2,T⟩:=w0 nums (jb C) (C.take i) v total room (rj ((oi (C.getD i 0)).take j)) (8*i) b pe;refine h ?_
   refine He (ie (as:=ud) g so (Yv 7 f rfl rfl) l e2 T (by decide) (Nd d (by decide)) (by intro _ _;rfl) (by kernel_rfl)) λI k=>?_
   rw[<- tG,<- take_snoc m] at k
   exact Fd ⟨rfl,k.sub (Sub.cons (Sub.skip (Sub.skip Sub.Ce rfl) rfl))⟩
  ·rw[Nk,Rf (by rw[Nk];exact Ab _),iJ (hb.getD i)] at q
   refine Nc λh=>?_;obtain ⟨a4,V,D⟩:=q.trans Y;refine h ?_
   refine He (Kx (as:=ud) g so (Yv 6 f rfl rfl) D (y:="words") rfl n (by decide) (u0 nums (jb C) (C.take i) v total room (C.getD i 0) (8*i) pe) trivial (by rw[yi];lia) (by kernel_rfl)) λI k=>?_
   rw[<- take_snoc (Yj (by lia))] at k
   exact Fd ⟨rfl,(k.trans V).sub (Sub.cons (Sub.skip (Sub.skip (Sub.skip Sub.Ce rfl) rfl) rfl))⟩
 ·have ll:(Cd 0 (8*(total:Int)) 8).length=total:=by rw[wY];simp
  rw[ll,Rf (by lia)] at r
  exact M s2 ((r.trans f1).sub (Sub.cons (Sub.skip Sub.Ce rfl)))
theorem AU(g:GA N A)(c:env.scope.names=Hd)(b:II pe)(m:("powers":xa)∉rd)(e:("logs":xa)∉rd){C:List Int}
  (x:SP (GW w) env rd (L4 nums C v total room pe) adr ud s₀ K s) {rest:List cb}
  (hQ:∀s',SP (GW w) env rd (("logs",.il sj)::("powers",.il Rq)::L4 nums C v total room pe) adr ud s₀ K s'->mc (ka PP w) A (Kc rest env) Q s'):
  mc (ka PP w) A (Kc (ma Od 12::ma Od 13::ma Od 14::ma Od 15::rest) env) Q s:=by
 have so:=Up c
 refine Nc λd=>?_;obtain ⟨a1,f1,J⟩:=x
 obtain ⟨c12,z,q⟩:=iU nums C v total room pe;refine d ?_
 rw[U7,T7,S7,R7]
 refine jj (ie (as:=ud) g so (Yv 3 b rfl rfl) J z q (by decide) (Nd c (by decide)) (by intro _ _;rfl) (by kernel_rfl)) λs2 H=>?_
 refine Nc λd=>?_;obtain ⟨a2,f2,I⟩:=H.trans f1
 obtain ⟨c13,f,p⟩:=hU nums C v total room pe;refine d ?_
 rw[NF] at f
 refine jj (ie (as:=ud) g so (Yv 4 b rfl rfl) I f p (by decide) (Nd c (by decide)) (by intro _ _;rfl) (by kernel_rfl)) λT j=>?_
 refine Nc λd=>?_;obtain ⟨a3,t,l⟩:=j.trans f2;refine d ?_
 refine jj (ie (as:=ud) g so (Yv 5 b rfl rfl) l (gU nums C [] _ v total room pe) trivial (by decide) (Nd c (by decide)) (by intro _ _;rfl) (by kernel_rfl)) λO h=>?_
 refine Nc λd=>?_;obtain ⟨a4,r,k⟩:=h.trans t
 obtain ⟨c15,u,o⟩:=fU nums C [] (Ha (ih 256) 0) v total room 1 pe;refine d ?_
 refine jj (fv (as:=ud) (σs:=λi=>L5 nums C (EG i) (XK i) v total room (it i 1:Nat) pe) g so (Yv 6 b rfl rfl) k (Nd c (by decide)) (by decide) u o (by exact cP nums C [] _ v total room 1 pe) (by exact Sub.Ce) ?_) λM B=>?_
 ·intro i a K' E s' V _ Y L
  obtain ⟨rfl,hi⟩:=fy (n:=255) V
  have hp:it i 1 < 256:=Xj (by decide) i
  show wpAny _ _ (Kc xA env) _ _ _
  rw[j1]
  refine He (Kx (as:=ud) g so (Yv 7 b rfl rfl) L (y:="powers") rfl m (by decide) (H0 nums C (EG i) (XK i) v total room i (it i 1:Nat) pe) trivial (by rw[mO];lia) (by kernel_rfl)) λT j=>?_
  rw[<- aK] at j
  refine Nc λd=>?_;obtain ⟨a3,t,l⟩:=j.sub (τ:=L6 nums C (EG (i+1)) (XK i) v total room i (it i 1:Nat) pe) (Sub.cons (Sub.cons (Sub.cons (Sub.cons (Sub.skip Sub.Ce rfl)))));refine d ?_
  refine He (xu (as:=ud) g so (Yv 7 b rfl rfl) l (y:="logs") rfl e (by decide) (E0 nums C (EG (i+1)) (XK i) v total room i (it i 1:Nat) pe) trivial (G0 nums C (EG (i+1)) (XK i) v total room i (it i 1:Nat) pe) trivial (by lia) (by rw[Ay];lia) (by rw[Ay];lia) (by kernel_rfl)) λO h=>?_
  rw[Ib] at h
  refine Nc λd=>?_;obtain ⟨a4,r,k⟩:=(h.trans t).sub (τ:=("logs",.il (XK (i+1)))::("powers",.il (EG (i+1)))::("place",.int i)::("power",.int (it i 1:Nat))::L4 nums C v total room pe) (Sub.cons (Sub.cons (Sub.cons (Sub.cons (Sub.skip Sub.Ce rfl)))))
  obtain ⟨c3,D,h3⟩:=D0 nums C (EG (i+1)) (XK (i+1)) v total room i (it i 1:Nat) pe;refine d ?_
  rw[XR hp] at D
  refine He (ie (as:=ud) g so (Yv 7 b rfl rfl) k D h3 (by decide) (Nd c (by decide)) (by intro _ _;rfl) (by kernel_rfl)) λs6 G=>?_
  exact Fd ⟨rfl,(G.trans r).sub (Sub.cons (Sub.cons (Sub.cons (Sub.skip (Sub.skip Sub.Ce rfl) rfl))))⟩
 ·have ll:(Cd 0 255 1).length=255:=Oq 255
  rw[ll,nO,kP] at B
  exact hQ M ((B.trans r).sub (Sub.skip Sub.Ce rfl))
end
section
variable{prog:wa}{w:ja}{A:ua}{N n:Nat}{G:Gl}{fn:xa->List P->Option Rs}{sc:List (xa×ub)}{env:Be}{rd as:List xa}{σ:List (xa×P)}{adr:xa->la}{s₀ s:aa}{K:la->Sa->Prop}
set_option tactic.hygienic true
theorem cI(g:GA N A)(so:Ui sc env)(F:zk prog w N fn σ s)(x:St G env rd σ adr s₀ K s){y v:xa}{q r b pos:xd}{a it t:Oa}{scope:me}(i:jh sc scope=true)(B:scope.names.lookup v=some .local)
  {xs:List Int} {c:Prop} (hI:aE (zh sc) (ev G.gv fn n sc σ) it=some (xs,c)) (hc:c) (m:xs.length<=2 ^ 24) {tst:Int->Bool} {val:Int->Int}
  (ht:∀u,u∈xs->∃c,GI (ev G.gv fn n scope.names ((v,.int u)::freeOf scope σ)) t=some (tst u,c)/\c)
  (he:∀u,u∈xs->∃fr c,ev G.gv fn n scope.names ((v,.int u)::freeOf scope σ) a=some ⟨.int (val u),fr,c⟩/\c)
  (d:∀z,ae it env z=pure z) (j:y∈as) (D:env.kindOf y=some .local)
  (o:mi (.ListComp a [⟨.Name v r,it,[t],0⟩] scope b) (some (.Name y q)) pos.line env=pure true):
  wpAny (ka prog w) A (ig (.Assign [.Name y q] (.ListComp a [⟨.Name v r,it,[t],0⟩] scope b) pos) env) (λf s'=>f=.next/\SP G env rd ((y,.il ((xs.filter tst).map val))::σ) adr as s₀ K s') Jc s:=by
 have S:=Ml (prog:=prog) (w:=w) (fn:=fn) g n sc σ env s x.re so F
 have inner:∀C s' u,Kp s s'->RE G (qd scope (xe env.cells scope.names []) C env) ((v,.int u)::freeOf scope σ) s'->
   Sound prog w A (qd scope (xe env.cells scope.names []) C env) (ev G.gv fn n scope.names ((v,.int u)::freeOf scope σ)) s':=λC s' u k h=>
  Ml g n scope.names _ _ s' h (dB (ue.of i)) ((F.kp k).sub)
 refine TB g so x i B S hI hc m tst val (λC s' u l k h=>?_) (λC s' u l _ k h=>?_) d j D o
 ·refine Nc λp=>?_;obtain ⟨c,e,hc⟩:=ht u l;refine p ?_
  rw[de,if_pos rfl]
  refine zb (zb (ah (Uy (inner C s' u k h) g _ e hc _) (λok Ng h'=>?_)))
  obtain ⟨rfl,k'⟩:=h'
  exact pa (pa ⟨rfl,k'⟩)
 ·refine Nc λp=>?_;obtain ⟨fr,c,e,hc⟩:=he u l;refine p ?_
  refine ah ((inner C s' u k h).ok a _ s' .Ce e hc) (λz Ng h'=>⟨h'.val,h'.keeps⟩)
end
set_option tactic.hygienic false
noncomputable abbrev V4(f:la)(yd nums:List Int)(v:Int)(total room:Nat)(pe:P):List (xa×P):=("rest",.addr f)::("logs",.il sj)::("powers",.il Rq)::L4 nums yd v total room pe
section
variable(f:la)(nums yd kh:List Int)(v:Int)(total room:Nat)(fj nj sf qq Ku:Int)(pe:P)
theorem eU:∃c,GI (ev Gj (pV yd) 9 Hd (V4 f yd nums v total room pe)) (aV (ma Od 17))=some (decide (((hv (ih (Qf (Qe nums (Rc (nums.length:Int) 2)) ((total:Int)-room))) (nN yd) yd.length:Nat):Int)≠0),c) /\
  (0 < nums.length->nums.length<=30->room < total->c):=by
 refine⟨_,rfl,λe d b=>?_⟩
 have m:=Xb (Qe nums (Rc (nums.length:Int) 2)) (show(0:Int) < (total:Int)-room by lia)
 simp only[true_and,and_true]
 have a:Rc (nums.length:Int) 2=((nums.length / 2:Nat):Int):=by rw[ti _ (by decide)];rfl
 refine⟨⟨⟨⟨by lia,by decide,by unfold Sm;decide⟩,?_⟩,by lia⟩,m⟩
 rw[a]
 exact⟨by lia,by lia,by lia⟩
theorem dU:∃c,ev Gj Pj 9 Hd (V4 f yd nums v total room pe) (aV (ma Od 18))=some ⟨.int (1+Qf (Rc (Qe nums (-1)) 2) ((total:Int)-room)),true,c⟩/\(0 < nums.length->nums.length<=30->room < total->c):=by
 refine⟨_,rfl,λd b a=>?_⟩
 simp only[true_and,and_true]
 exact⟨⟨⟨by lia,by lia,by lia⟩,by decide,by unfold Sm;decide⟩,by lia⟩
noncomputable abbrev S5:List (xa×P):=("spoilt",.int sf)::V4 f yd nums v total room pe
noncomputable def OG:Oa:=aV (ma Od 19)
noncomputable def gE:Oa->qj
 |.ListComp _ gs _ _=>gs.headD ⟨Ww,Ww,[],0⟩
 |_=>⟨Ww,Ww,[],0⟩
noncomputable def yD:me:=match OG with
 |.ListComp _ _ s _=>s
 |_=>default
noncomputable def lU:Oa:=(gE OG).ifs.headD Ww
theorem N7:ma Od 19=.Assign [.Name "places" (aT (ma Od 19)).pos] (.ListComp (ch OG 0) [⟨.Name "place" (gE OG).target.pos,(gE OG).iter,[lU],0⟩] yD OG.pos) (aP (ma Od 19)):=by kernel_rfl
theorem cU:∃c,aE (zh Hd) (ev Gj Pj 9 Hd (S5 f nums yd v total room sf pe)) (gE OG).iter=some (Cd 0 total 1,c)/\(total<=26->c):=⟨_,rfl,λh=>⟨⟨trivial,trivial⟩,by unfold Sm;lia⟩⟩
theorem ZO(u:Int):∃c,GI (ev Gj Pj 9 yD.names (("place",.int u)::freeOf yD (S5 f nums yd v total room sf pe))) lU=some (decide (mC v=0)||decide (u≠(room:Int)-1),c)/\c:=by
 refine⟨_,rfl,?_⟩
 simp only[true_and,and_true]
 exact λZ=>trivial
theorem bP(u:Int):∃fr c,ev Gj Pj 9 yD.names (("place",.int u)::freeOf yD (S5 f nums yd v total room sf pe)) (ch OG 0)=some ⟨.int u,fr,c⟩/\c:=⟨_,_,rfl,trivial⟩
noncomputable abbrev R5:List (xa×P):=("places",.il kh)::S5 f nums yd v total room sf pe
theorem bU:∃c,aE (zh Hd) (ev Gj Pj 9 Hd (R5 f nums yd kh v total room sf pe)) (aV (ma Od 20))=some (Cd 0 sf 1,c)/\(0<=sf->sf<=26->c):=⟨_,rfl,λh h'=>⟨⟨trivial,trivial⟩,by unfold Sm;lia⟩⟩
theorem YO:∀a fr c,ev Gj Pj 9 Hd (R5 f nums yd kh v total room sf pe) (aV (ma Od 20))=some ⟨.il a,fr,c⟩->fr=true:=λa fr c e=>by
 have h:ev Gj Pj 9 Hd (R5 f nums yd kh v total room sf pe) (aV (ma Od 20))=none:=by rfl
 rw[h] at e;exact nomatch e
noncomputable abbrev LT(qq:Int)(kh yd:List Int):List (xa×P):=("turn",.int qq)::("places",.il kh)::("words",.il yd)::("spoilt",.int sf)::("rest",.addr f)::("logs",.il sj)::("powers",.il Rq)::L3 nums v total room pe
theorem Y0:∃c,ev Gj Pj 9 Hd (LT f nums v total room sf pe qq kh yd) (aV (ma Lz 0))=some ⟨.int (Qe nums (Qf (qq+1) (nums.length:Int))),true,c⟩/\(0 < nums.length->nums.length<=30->c):=by
 refine⟨_,rfl,λe d=>?_⟩
 have b:=Xb (qq+1) (show(0:Int) < (nums.length:Int) by lia)
 have a:=td (qq+1) (show(0:Int) < (nums.length:Int) by lia)
 simp only[true_and,and_true]
 exact⟨⟨by lia,by lia⟩,by lia,by lia,by lia⟩
theorem X0:∃c,ev Gj Pj 9 Hd (("number",.int Ku)::LT f nums v total room sf pe qq kh yd) (ch (aV (ma Lz 1)) 1)=some ⟨.int (Qf (Rc Ku 3+5*qq) (kh.length:Int)),true,c⟩/\(0 < kh.length->kh.length<=26->c):=by
 refine⟨_,rfl,λb a=>?_⟩
 simp only[true_and,and_true]
 exact⟨⟨⟨⟨by decide,by unfold Sm;decide⟩,.inl (by unfold Sm;decide)⟩,by lia⟩,by lia⟩
theorem W0:ev Gj Pj 9 Hd (("place",.int fj)::("number",.int Ku)::LT f nums v total room sf pe qq kh yd) (ch (aT (ma Lz 2)) 1)=some ⟨.int fj,false,True⟩:=by rfl
theorem V0:∃c,ev Gj Pj 9 Hd (("place",.int fj)::("number",.int Ku)::LT f nums v total room sf pe qq kh yd) (aV (ma Lz 2))=some ⟨.int (Kd (Qe yd fj) (1+Qf (Ku+13*qq) 255)),true,c⟩/\(0<=fj->fj < yd.length->yd.length<=26->c):=by
 refine⟨_,rfl,λd b a=>?_⟩
 simp only[true_and,and_true]
 exact⟨⟨by lia,by lia,by lia⟩,.inl (by unfold Sm;decide),by decide⟩
noncomputable abbrev LE(kh yd:List Int):List (xa×P):=("places",.il kh)::("words",.il yd)::("spoilt",.int sf)::("rest",.addr f)::("logs",.il sj)::("powers",.il Rq)::L3 nums v total room pe
theorem aU:∃c,ev Gj Pj 9 Hd (LE f nums v total room sf pe kh yd) (aV (ma Od 21))=some ⟨.int (Qf (Rc (Qe nums (Rc (nums.length:Int) 2)) 5) ((total:Int)-room-sf+1)),true,c⟩/\(0 < nums.length->nums.length<=30->sf<=(total:Int)-room->c):=by
 refine⟨_,rfl,λe d b=>?_⟩
 have a:Rc (nums.length:Int) 2=((nums.length / 2:Nat):Int):=by rw[ti _ (by decide)];rfl
 simp only[true_and,and_true]
 rw[a]
 exact⟨⟨⟨⟨by lia,by decide,by unfold Sm;decide⟩,by lia,by lia,by lia⟩,by decide,by unfold Sm;decide⟩,by lia⟩
theorem ZT:∃c,ev Gj (pV yd) 9 Hd (("start",.int nj)::LE f nums v total room sf pe kh yd) (aV (ma Od 22))=some ⟨.bool (decide (0 < uA ((Cd nj (nj+sf) 1).map λr=>((hv r.toNat (nN yd) yd.length:Nat):Int)))),true,c⟩ /\
  (0<=nj->nj<=26->1<=sf->sf<=26->c):=by
 refine⟨_,rfl,λh g e d=>?_⟩
 simp only[true_and,and_true]
 have a:(Cd nj (nj+sf) 1).length=sf.toNat:=by rw[Uw];simp;lia
 refine⟨⟨⟨by unfold Sm;lia,by unfold Sm;lia⟩,by rw[a];lia,λr hr=>?_⟩,by rw[Yb,a];lia⟩
 rw[Uw] at hr
 refine Nc λb=>?_;obtain ⟨i,_,rfl⟩:=List.mem_map.mp hr;refine b ?_
 show(True/\True)/\0<=nj+(i:Int)
 exact⟨⟨trivial,trivial⟩,by lia⟩
end
noncomputable def PT(kf:Nat->Nat->Nat)(P0:List Int):Nat->List Int
 |0=>P0
 |t+1=>(PT kf P0 t).eraseIdx (kf t (PT kf P0 t).length)
noncomputable def cA(kf:Nat->Nat->Nat)(P0:List Int)(t:Nat):Int:=(PT kf P0 t).getD (kf t (PT kf P0 t).length) 0
noncomputable def WT(kf:Nat->Nat->Nat)(P0:List Int)(am:Nat->Int)(C:List Int):Nat->List Int
 |0=>C
 |t+1=>(WT kf P0 am C t).set (cA kf P0 t).toNat (Kd (Qe (WT kf P0 am C t) (cA kf P0 t)) (am t))
noncomputable def ET(kf:Nat->Nat->Nat)(P0:List Int)(am:Nat->Int)(total:Nat):Nat->List (Nat×Nat)
 |0=>[]
 |t+1=>(total-1-(cA kf P0 t).toNat,(am t).toNat)::ET kf P0 am total t
theorem CH{l:List Int}(h:l.Nodup){i:Nat}(hi:i < l.length):l.getD i 0∉l.eraseIdx i:=by
 rw[Ra,Wb hi,List.eraseIdx_eq_take_drop_succ]
 have e:l=l.take i++l[i]::l.drop (i+1):=by rw[<- List.drop_eq_getElem_cons hi,To]
 rw[e,List.nodup_append] at h
 obtain ⟨_,a,b⟩:=h
 rw[De] at a
 intro q
 refine(List.mem_append.mp q).elim (λq=>?_) λq=>?_
 ·exact b _ q _ (za ..) rfl
 ·exact a.1 q
section
variable{kf:Nat->Nat->Nat}{P0 C:List Int}{am:Nat->Int}{total:Nat}
set_option tactic.hygienic true
theorem yz(b:∀t n,0 < n->kf t n < n):∀t,(PT kf P0 t).length=P0.length-t
 |0=>rfl
 |t+1=>by
  unfold PT
  have a:=yz b t
  rw[List.length_eraseIdx]
  split
  ·rw[a,Uv]
  ·rename_i q
   exact(SI (PT kf P0 t).length).elim (λh=>h.trans (PE (kN (Dp (a.symm.trans h)))).symm) λh=>absurd (b t _ h) q
set_option tactic.hygienic false
theorem vz:∀{t t':Nat},t<=t'->(PT kf P0 t').Sublist (PT kf P0 t)
 |t,0,h=>by rw[Nat.le_zero.mp h];exact Tx _
 |t,t'+1,h=>by
  refine(Bt t (t'+1)).elim (λq=>?_) λq=>?_
  ·exact(GC _ _).trans (vz (Nat.le_of_lt_succ q))
  ·rw[Hg h q];exact Tx _
theorem kF(a:∀t n,0 < n->kf t n < n){t:Nat}(h:t < P0.length):cA kf P0 t∈PT kf P0 t:=by
 have b:=yz (P0:=P0) a t
 exact Mb (Yj (a t _ (b▸Cm h)))
theorem QS(b:∀t n,0 < n->kf t n < n)(nd:P0.Nodup){i j:Nat}(a:i < j)(c:j < P0.length):cA kf P0 j≠cA kf P0 i:=λe=>by
 have g:=yz (P0:=P0) b i
 have f:(PT kf P0 i).Nodup:=nd.sublist (vz (t:=0) (Zb _))
 have h:=CH f (b i _ (g▸Cm (zi a c)))
 have d:cA kf P0 j∈PT kf P0 (i+1):=(vz (kf:=kf) (P0:=P0) (show i+1<=j from a)).subset (kF b c)
 rw[e] at d
 exact h d
theorem Tr(a:∀t n,0 < n->kf t n < n)(hP:∀p∈P0,0<=p/\p < (total:Int)){t:Nat}(h:t < P0.length):0<=cA kf P0 t/\cA kf P0 t < (total:Int):=
 hP _ ((vz (t:=0) (Zb _)).subset (kF a h))
theorem uz:∀t,(WT kf P0 am C t).length=C.length
 |0=>rfl
 |t+1=>by unfold WT;rw[Kk];exact uz t
theorem Vw{l:List Int}{k:Int}(h:0<=k):Qe l k=l.getD k.toNat 0:=by unfold Qe;rw[if_pos h]
theorem CE(b:∀t n,0 < n->kf t n < n)(hP:∀p∈P0,0<=p/\p < (total:Int))(d:Bh C)(c:∀t,0<=am t/\am t < 256):∀t,t<=P0.length->Bh (WT kf P0 am C t)
 |0,_=>d
 |t+1,h=>by
  unfold WT
  have a:=CE b hP d c t (Bj h)
  rw[Vw (Tr b hP h).1]
  have:=iz (a.getD (cA kf P0 t).toNat) (c t)
  exact a.set _ this.1 this.2
theorem hN:∀t,(ET kf P0 am total t).length=t
 |0=>rfl
 |t+1=>by unfold ET;rw[fg,hN t]
theorem JE:∀{t:Nat} {p:Nat×Nat},p∈ET kf P0 am total t->∃i,i < t/\p=(total-1-(cA kf P0 i).toNat,(am i).toNat)
 |0,p,h=>by cases h
 |t+1,p,h=>(List.mem_cons.mp h).elim (λh=>⟨t,Dd t,h⟩) λh=>(JE h).imp λi q=>⟨ye q.1,q.2⟩
theorem RS{a b:Int}(d:0<=a/\a < (total:Int))(hb:0<=b/\b < (total:Int))(e:total-1-a.toNat=total-1-b.toNat):b=a:=
 have h:∀{c:Int},0<=c/\c < (total:Int)->total-1-(total-1-c.toNat)=c.toNat:=λh=>LN (Bk ((xl h.1).mpr h.2))
 (sl hb.1).symm.trans ((congrArg Fl ((h hb).symm.trans ((congrArg (total-1 - ·) e.symm).trans (h d)))).trans (sl d.1))
theorem HR(a:∀t n,0 < n->kf t n < n)(nd:P0.Nodup)(hP:∀p∈P0,0<=p/\p < (total:Int)):∀t,t<=P0.length->((ET kf P0 am total t).map (·.1)).Nodup
 |0,_=>.nil
 |t+1,h=>by
  unfold ET
  rw[vb,De]
  exact⟨λq=>(List.mem_map.mp q).elim λp z=>(JE z.1).elim λi y=>QS a nd y.1 h (RS (Tr a hP (zi y.1 h)) (Tr a hP h) ((congrArg mn y.2).symm.trans z.2)),HR a nd hP t (Bj h)⟩
theorem dN(d:∀t n,0 < n->kf t n < n)(hP:∀p∈P0,0<=p/\p < (total:Int))(i:Bh C)(g:C.length=total)(c:∀t,0<=am t/\am t < 256)(r:Nat):∀t,t<=P0.length->
  hv r (nN (WT kf P0 am C t)) total=hv r (nN C) total^^^UC r (ET kf P0 am total t)
 |0,_=>(Kg _).symm
 |t+1,h=>by
  have k:=dN d hP i g c r t (Bj h)
  have hb:=CE d hP i c t (Bj h)
  have b:=Tr d hP h
  have f:(cA kf P0 t).toNat < total:=(xl b.1).mpr b.2
  have e:nN (WT kf P0 am C (t+1))=λj=>if j=(cA kf P0 t).toNat then nN (WT kf P0 am C t) j^^^(am t).toNat else nN (WT kf P0 am C t) j:=by
   funext j
   show(((WT kf P0 am C t).set _ _).getD j 0).toNat=_
   rw[mx (by rw[uz,g];exact f)]
   by_cases q:j=(cA kf P0 t).toNat
   ·rw[if_pos q,if_pos q,Vw b.1,<- q,vF hb j]
    refine(Xc (c t).1).elim λa l=>?_
    rw[l,bl];rfl
   ·rw[if_neg q,if_neg q];rfl
  rw[e,NU (lA hb) ((xl (c t).1).mpr (c t).2) f,k,Ri]
  congr 1
  show UC r (ET kf P0 am total t)^^^_=it _ _^^^UC r (ET kf P0 am total t)
  rw[DC]
theorem seen(e:∀t n,0 < n->kf t n < n)(nd:P0.Nodup)(hP:∀p∈P0,0<=p/\p < (total:Int))(j:Bh C)(h:C.length=total)(d:∀t,1<=am t/\am t < 256)(ht:total<=255){a:Nat}(h0:∀r,r < a->hv r (nN C) total=0){n s:Nat}(g:1<=n)(b:n<=P0.length)(f:s+n<=a):
  ∃r,s<=r/\r < s+n/\hv r (nN (WT kf P0 am C n)) total≠0:=by
 have c:∀t,0<=am t/\am t < 256:=λt=>⟨Ai (by decide) (d t).1,(d t).2⟩
 refine(wX n (ET kf P0 am total n) (hN n) (Ee g) (HR e nd hP n b) (λp hp=>(JE hp).elim λi z=>z.2 ▸
  ⟨aj (Yi _ _) (Za (Rl (show 0 < total by have:=Tr e hP (Za z.1 b);lia) uQ) ht),(xl (c i).1).mpr (d i).2,by have:=d i;show(am i).toNat≠0;lia⟩) s).imp λr z=>⟨z.1,z.2.1,?_⟩
 rw[dN e hP j h c r n b,h0 r (Za z.2.1 f),tl]
 exact z.2.2
end
theorem MK{l:List Int}{x:Int}(h:x∈l):x<=uA l:=by
 cases l with
 |nil=>cases h
 |cons a l=>
  obtain ⟨c,b,_⟩:=xy l a
  rcases List.mem_cons.mp h with rfl|h
  ·exact c
  ·exact b x h
noncomputable def dD(f:la):List (xa×P)->Prop
 |[]=>True
 |(_,.addr a)::σ=>a=f/\dD f σ
 |_::σ=>dD f σ
theorem nF{f:la}:∀{σ:List (xa×P)},dD f σ->∀g a,σ.lookup g=some (.addr a)->a=f
 |[],_,g,a,e=>by cases e
 |(x,p)::σ,h,g,a,e=>by
  rw[Ca] at e
  cases hg:g==x with
  |true=>
   rw[hg] at e
   obtain rfl:=va e
   exact h.1
  |false=>
   rw[hg] at e
   refine nF (σ:=σ) ?_ g a e
   cases p with
   |addr b=>exact h.2
   |_=>exact h
theorem rm{f:la}:∀{σ τ:List (xa×P)},dD f σ->dD f τ->dD f (σ++τ)
 |[],_,_,h=>h
 |(_,.addr _)::_,_,h,k=>⟨h.1,rm h.2 k⟩
 |(_,.int _)::σ,_,h,k=>rm (σ:=σ) h k
 |(_,.il _)::σ,_,h,k=>rm (σ:=σ) h k
 |(_,.bool _)::σ,_,h,k=>rm (σ:=σ) h k
 |(_,.none)::σ,_,h,k=>rm (σ:=σ) h k
theorem Mm{f:la}{nums:List Int}{v:Int}{total room:Nat}{pe:P}(k:Nat)(b:II pe){σ:List (xa×P)}(h:dD f (σ.take k))(e:σ.drop k=L1 nums v total room pe):∀g a,σ.lookup g=some (.addr a)->a=f:=
 nF (by rw[<- To k σ,e];exact rm h (by rcases b with rfl|⟨_,rfl⟩ <;> trivial))
noncomputable def T4(σ:List (xa×P)):List (xa×P)->Prop
 |[]=>True
 |(x,p)::τ=>σ.lookup x=some p/\T4 σ τ
theorem Vm{σ:List (xa×P)}:∀{τ:List (xa×P)},T4 σ τ->Sub τ σ
 |[],_,y,p,e=>by cases e
 |(x,q)::τ,h,y,p,e=>by
  rw[Ca] at e
  cases a:y==x with
  |true=>
   rw[a] at e
   obtain rfl:=va e
   rw[eq_of_beq a];exact h.1
  |false=>rw[a] at e;exact Vm h.2 y p e
noncomputable def dn(nums:List Int)(t:Nat):Int:=Qe nums (Qf ((t:Int)+1) (nums.length:Int))
noncomputable def dk(nums:List Int)(t n:Nat):Nat:=(Qf (Rc (dn nums t) 3+5*t) (n:Int)).toNat
noncomputable def da(nums:List Int)(t:Nat):Int:=1+Qf (dn nums t+13*t) 255
theorem qM(nums:List Int)(t n:Nat)(h:0 < n):dk nums t n < n:=by
 delta dk
 have b:=Xb (Rc (dn nums t) 3+5*t) (show(0:Int) < (n:Int) by omega)
 have a:=td (Rc (dn nums t) 3+5*t) (show(0:Int) < (n:Int) by omega)
 omega
theorem z4(nums:List Int)(t:Nat):1<=da nums t/\da nums t < 256:=by
 delta da
 have b:=Xb (dn nums t+13*t) (show(0:Int) < 255 by decide)
 have a:=td (dn nums t+13*t) (show(0:Int) < 255 by decide)
 omega
noncomputable def QG(v:Int)(total room:Nat):List Int:=(Cd 0 total 1).filter λu=>decide (mC v=0)||decide (u≠(room:Int)-1)
theorem Tw(n:Nat):(Cd 0 n 1).Nodup:=by
 rw[fF]
 delta List.Nodup
 rw[List.pairwise_map]
 exact List.nodup_range.imp λh q=>h (Int.ofNat.inj q)
theorem gP(v:Int)(total room:Nat):(QG v total room).Nodup:=(Tw total).sublist List.filter_sublist
theorem zy{v:Int}{total room:Nat}:∀p∈QG v total room,0<=p/\p < (total:Int):=λp hp=>by
 have:=(List.mem_filter.mp hp).1
 rw[fF] at this
 obtain ⟨i,hi,rfl⟩:=List.mem_map.mp this
 have:=List.mem_range.mp hi
 omega
theorem yH{l:List Int}(h:l.Nodup)(a:Int):l.length<=(l.filter λu=>decide (u≠a)).length+1:=by
 induction l with
 |nil=>simp
 |cons b l c=>
  rw[De] at h
  by_cases q:b=a
  ·subst q
   have:(l.filter λu=>decide (u≠b))=l:=List.filter_eq_self.mpr λu d=>by
    simp;rintro rfl;exact h.1 d
   rw[List.filter_cons_of_neg (by simp),this];simp
  ·rw[List.filter_cons_of_pos (by simpa using q),fg,fg]
   have:=c h.2
   omega
theorem SK(v:Int)(total room:Nat):total<=(QG v total room).length+1/\(QG v total room).length<=total:=by
 have l:=Oq total
 have h:=yH (Tw total) ((room:Int)-1)
 delta QG
 refine⟨?_,Ja (EC _ _) (by omega)⟩
 by_cases q:mC v=0
 ·have e:((Cd 0 total 1).filter λu=>decide (mC v=0)||decide (u≠(room:Int)-1))=Cd 0 total 1:=List.filter_eq_self.mpr λu Z=>by simp[q]
  rw[e];omega
 ·have e:((Cd 0 total 1).filter λu=>decide (mC v=0)||decide (u≠(room:Int)-1))=(Cd 0 total 1).filter λu=>decide (u≠(room:Int)-1):=by
   congr 1
   funext u
   simp[q]
  rw[e];omega
noncomputable def PG(nums:List Int)(total room:Nat):Int:=1+Qf (Rc (Qe nums (-1)) 2) ((total:Int)-room)
theorem fP(nums:List Int){total room:Nat}(h:room < total):1<=PG nums total room/\PG nums total room<=(total:Int)-room:=by
 delta PG
 have b:=Xb (Rc (Qe nums (-1)) 2) (show(0:Int) < (total:Int)-room from Lg (Int.ofNat_lt.mpr h))
 have a:=td (Rc (Qe nums (-1)) 2) (show(0:Int) < (total:Int)-room from Lg (Int.ofNat_lt.mpr h))
 omega
section
variable{w:ja}{A:ua}{N:Nat}{env:Be}{rd:List xa}{σ:List (xa×P)}{adr:xa->la}{s₀ s:aa}{K:la->Sa->Prop}{Q:Af->aa->Prop}
variable{nums:List Int}{v:Int}{total room:Nat}{pe:P}{f:la}
theorem rV(x:St (GW w) env rd σ adr s₀ K s)(hf:Xm w env K f)(c:∀g a,σ.lookup g=some (.addr a)->a=f):zk PP w N Pj σ s:=by
 refine Nc λd=>?_;obtain ⟨q,h,c',doc,oc,b,_⟩:=hf;refine d ?_
 refine⟨λg a e=>?_,λZ Z Z Z Z q=>by cases q⟩
 obtain rfl:=c g a e
 exact⟨_,_,x.ks _ _ b,rfl⟩
theorem C0(a:env.blockKind=.function)(b:env.kindOf "places"=some .local):mi (.ListComp (ch OG 0) [⟨.Name "place" (gE OG).target.pos,(gE OG).iter,[lU],0⟩] yD OG.pos) (some (.Name "places" (aT (ma Od 19)).pos)) (aP (ma Od 19)).line env=pure true:=by
 show(pure (env.blockKind==.function&&env.kindOf "places"==some .local&&(aT (ma Od 19)).pos.line==OG.pos.line&&!(yD.names.any λ(n,k)=>n==("places":xa)&&(k==.local||k==.cell))):Vb Bool)=pure true
 rw[a,b]
 kernel_rfl
theorem zU(g:GA (N+2) A)(F0:Fk w s₀.heap)(b:env.scope.names=Hd)(k:env.blockKind=.function)(d:II pe)(i:0 < nums.length)(h:nums.length<=30)(a:room < total)(l:total<=26){C:List Int}(T:C.length=total)(hb:Bh C)(hz:∀r,r < total-room->hv r (nN C) total=0)(hf:Xm w env K f)
  (x:St (GW w) env rd (V4 f C nums v total room pe) adr s₀ K s) {rest:List cb}
  (V:∀s',SP (GW w) env rd (LE f nums v total room (PG nums total room) pe (QG v total room) C) adr ud s₀ K s'->mc (ka PP w) A (Kc rest env) Q s'):
  mc (ka PP w) A (Kc (ma Od 17::ma Od 18::ma Od 19::rest) env) Q s:=by
 have so:=Up b
 refine Nc λj=>?_;obtain ⟨c,e,hc⟩:=eU f nums C v total room pe;refine j ?_
 have O:=Xb (Qe nums (Rc (nums.length:Int) 2)) (show(0:Int) < (total:Int)-room from Lg (Int.ofNat_lt.mpr a))
 have M:=td (Qe nums (Rc (nums.length:Int) 2)) (show(0:Int) < (total:Int)-room from Lg (Int.ofNat_lt.mpr a))
 have eb:decide (((hv (ih (Qf (Qe nums (Rc (nums.length:Int) 2)) ((total:Int)-room))) (nN C) C.length:Nat):Int)≠0)=false:=by
  rw[T,hz _ ((xl O).mpr (by rw[Dh (Vd a)];exact M))];rfl
 rw[eb] at e
 rw[P7,O7,N7]
 refine jj (R:=SP (GW w) env rd (V4 f C nums v total room pe) adr ud s₀ K) (sL (N:=N+2) (fn:=pV C) g so (iF F0 b x hf hb rfl rfl rfl (Mm 6 d ⟨rfl,trivial⟩ rfl)) x e (hc i h a) (λq=>by cases q) (λZ s' Z J=>Fd ⟨rfl,SP.of J⟩)) λs2 I=>?_
 refine Nc λj=>?_;obtain ⟨a2,f2,D⟩:=I
 obtain ⟨c18,t,o⟩:=dU f nums C v total room pe;refine j ?_
 refine jj (ie (as:=ud) g so (rV D hf (Mm 6 d ⟨rfl,trivial⟩ rfl)) D t (o i h a) (by decide) (Nd b (by decide)) (by intro _ _;rfl) (by kernel_rfl)) λs3 H=>?_
 refine Nc λj=>?_;obtain ⟨a3,Y,B⟩:=H.trans f2
 have E:∀y,env.kindOf y=Hd.lookup y:=λy=>by unfold bc;rw[b]
 obtain ⟨c19,p,m⟩:=cU f nums C v total room (PG nums total room) pe;refine j ?_
 refine jj (cI (as:=ud) (n:=9) (fn:=Pj) g so (rV B hf (Mm 7 d ⟨rfl,trivial⟩ rfl)) B (by kernel_rfl) (by kernel_rfl) p (m l) (by rw[Oq];omega) (tst:=λu=>decide (mC v=0)||decide (u≠(room:Int)-1)) (val:=λu=>u)
  (λu Z=>ZO f nums C v total room _ pe u) (λu Z=>bP f nums C v total room _ pe u) (λZ=>rfl) (by decide) ((E _).trans (by kernel_rfl)) (C0 k ((E _).trans (by kernel_rfl)))) λL G=>?_
 refine V L ?_
 have z:=G.trans Y
 rw[List.map_id'] at z
 exact z.sub (Vm ⟨rfl,rfl,rfl,rfl,rfl,rfl,rfl,rfl,rfl,rfl,rfl,rfl,rfl,trivial⟩)
end
section
variable{w:ja}{A:ua}{N:Nat}{env:Be}{rd:List xa}{σ:List (xa×P)}{adr:xa->la}{s₀ s:aa}{K:la->Sa->Prop}{Q:Af->aa->Prop}
variable{nums:List Int}{v:Int}{total room:Nat}{pe:P}{f:la}
theorem yU(g:GA (N+2) A)(b:env.scope.names=Hd)(d:II pe)(r:("places":xa)∉rd)(q:("words":xa)∉rd)(z:0 < nums.length)(u:nums.length<=30)(D:total<=26){C P0:List Int}(hl:C.length=total)
  (hP:∀p∈P0,0<=p/\p < (total:Int)) (o:P0.length<=26) {n:Nat} (B:n<=P0.length) (hf:Xm w env K f)
  (x:SP (GW w) env rd (LE f nums v total room n pe P0 C) adr ud s₀ K s) {rest:List cb}
  (hQ:∀s',SP (GW w) env rd (LE f nums v total room n pe (PT (dk nums) P0 n) (WT (dk nums) P0 (da nums) C n)) adr ud s₀ K s'->mc (ka PP w) A (Kc rest env) Q s'):
  mc (ka PP w) A (Kc (ma Od 20::rest) env) Q s:=by
 have so:=Up b
 refine Nc λh=>?_;obtain ⟨a1,f1,x1⟩:=x
 have l:=x1.sub (τ:=R5 f nums C P0 v total room n pe) (Vm ⟨rfl,rfl,rfl,rfl,rfl,rfl,rfl,rfl,rfl,rfl,rfl,rfl,rfl,trivial⟩)
 obtain ⟨c,e,hc⟩:=bU f nums C P0 v total room n pe;refine h ?_
 rw[M7]
 refine jj (fv (as:=ud) (σs:=λt=>LE f nums v total room n pe (PT (dk nums) P0 t) (WT (dk nums) P0 (da nums) C t)) g so (rV l hf (Mm 8 d ⟨rfl,trivial⟩ rfl)) l (Nd b (by decide)) (by decide) e (hc (sd n) (Int.ofNat_le.mpr (Ja B o))) (by exact YO f nums C P0 v total room n pe)
  (by exact Vm ⟨rfl,rfl,rfl,rfl,rfl,rfl,rfl,rfl,rfl,rfl,rfl,rfl,rfl,trivial⟩) ?_) λs2 E=>?_
 ·intro i a K' V s' hx hK ha' I
  obtain ⟨rfl,hi⟩:=fy hx
  have k:=hf.more hK
  have T:=yz (P0:=P0) (qM nums) i
  have O:=(uz (kf:=dk nums) (P0:=P0) (am:=da nums) (C:=C) i).trans hl
  have j:0 < (PT (dk nums) P0 i).length:=by rw[T];exact Cm (Za hi B)
  have m:(PT (dk nums) P0 i).length<=26:=by rw[T];exact Ja (Yi ..) o
  show wpAny _ _ (Kc Lz env) _ _ _
  rw[C1]
  refine Nc λh=>?_;obtain ⟨c0,e0,h0⟩:=Y0 f nums (WT (dk nums) P0 (da nums) C i) (PT (dk nums) P0 i) v total room n i pe;refine h ?_
  refine He (ie (as:=ud) g so (rV I k (Mm 9 d ⟨rfl,trivial⟩ rfl)) I e0 (h0 z u) (by decide) (Nd b (by decide)) (by intro _ _;rfl) (by kernel_rfl)) λs3 y3=>?_
  refine Nc λh=>?_;obtain ⟨a3,f3,H⟩:=y3
  obtain ⟨c1,e1,h1⟩:=X0 f nums (WT (dk nums) P0 (da nums) C i) (PT (dk nums) P0 i) v total room n i (dn nums i) pe;refine h ?_
  have m0:=Xb (Rc (dn nums i) 3+5*i) (Int.ofNat_lt.mpr j)
  have m1:=td (Rc (dn nums i) 3+5*i) (Int.ofNat_lt.mpr j)
  refine He (PS (as:=ud) g so (rV H k (Mm 10 d ⟨rfl,trivial⟩ rfl)) H (v:="place") (y:="places") rfl r (by decide) (by decide) (by decide) (Nd b (by decide)) e1 (h1 j m) m0 m1 (Ja m (by decide)) (by kernel_rfl)) λs4 y4=>?_
  refine Nc λh=>?_;obtain ⟨a4,f4,G⟩:=(y4.trans f3).sub (τ:=("place",.int (cA (dk nums) P0 i))::("number",.int (dn nums i))::LT f nums v total room n pe i (PT (dk nums) P0 (i+1)) (WT (dk nums) P0 (da nums) C i)) (Vm ⟨rfl,rfl,rfl,rfl,rfl,rfl,rfl,rfl,rfl,rfl,rfl,rfl,rfl,rfl,rfl,rfl,trivial⟩);refine h ?_
  refine(Tr (qM nums) hP (Za hi B)).elim λM p1=>?_
  have L:cA (dk nums) P0 i < ((WT (dk nums) P0 (da nums) C i).length:Int):=by rw[O];exact p1
  have J:(WT (dk nums) P0 (da nums) C i).length<=26:=by rw[O];exact D
  refine Nc λh=>?_;obtain ⟨c3,e3,h3⟩:=V0 f nums (WT (dk nums) P0 (da nums) C i) (PT (dk nums) P0 (i+1)) v total room (cA (dk nums) P0 i) n i (dn nums i) pe;refine h ?_
  refine He (xu (as:=ud) g so (rV G k (Mm 11 d ⟨rfl,trivial⟩ rfl)) G (y:="words") rfl q (by decide) e3 (h3 M L J) (W0 f nums _ _ v total room _ n i (dn nums i) pe) trivial M L (Ja J (by decide)) (by kernel_rfl)) λs5 Y=>?_
  exact Fd ⟨rfl,(Y.trans f4).sub (Vm ⟨rfl,rfl,rfl,rfl,rfl,rfl,rfl,rfl,rfl,rfl,rfl,rfl,rfl,trivial⟩)⟩
 ·rw[Oq] at E
  exact hQ s2 (E.trans f1)
theorem xU(g:GA (N+2) A)(Y:Fk w s₀.heap)(d:env.scope.names=Hd)(l:II pe)(z:0 < nums.length)(y:nums.length<=30)(k:room < total)(q:total<=26){W B:List Int}(O:W.length=total)(hb:Bh W){n:Nat}(M:1<=n)(m:n<=total-room)(hf:Xm w env K f)
  (j:∀st,st+n<=total-room->∃r,st<=r/\r < st+n/\hv r (nN W) total≠0)
  (x:SP (GW w) env rd (LE f nums v total room n pe B W) adr ud s₀ K s) (T:∀s',(∃h tk,s'={s₀ with heap:=h,toks:=tk})->(∀b o,K b o->s'.heap.get? b=some o)->Q (.ret (.bool true)) s'):
  mc (ka PP w) A (Kc [ma Od 21,ma Od 22] env) Q s:=by
 have so:=Up d
 refine Nc λp=>?_;obtain ⟨a1,f1,C⟩:=x
 obtain ⟨c,e,hc⟩:=aU f nums W B v total room n pe;refine p ?_
 rw[J7,I7]
 have t:(n:Int)<=(total:Int)-room:=by rw[<- Dh (Vd k)];exact Int.ofNat_le.mpr m
 refine jj (ie (as:=ud) g so (rV C hf (Mm 8 l ⟨rfl,trivial⟩ rfl)) C e (hc z y t) (by decide) (Nd d (by decide)) (by intro _ _;rfl) (by kernel_rfl)) λs2 I=>?_
 refine Nc λp=>?_;obtain ⟨a2,f2,i⟩:=I
 have E:=Xb (Rc (Qe nums (Rc (nums.length:Int) 2)) 5) (qG (pG t))
 have D:=td (Rc (Qe nums (Rc (nums.length:Int) 2)) 5) (qG (pG t))
 generalize Qf (Rc (Qe nums (Rc (nums.length:Int) 2)) 5) ((total:Int)-room-n+1)=st at E D i
 obtain ⟨c2,H,V⟩:=ZT f nums W B v total room st n pe
 obtain ⟨a,rfl⟩:=Xc E;refine p ?_
 have G:a+n<=total-room:=Int.ofNat_le.mp (by rw[Dh (Vd k)];exact Int.add_le_of_le_sub_right (Int.le_of_lt_add_one D))
 have eb:decide (0 < uA ((Cd (a:Int) ((a:Int)+n) 1).map λr=>((hv r.toNat (nN W) W.length:Nat):Int)))=true:=by
  refine Nc λp=>?_;obtain ⟨r,r1,r2,L⟩:=j a G;refine p ?_
  have hm:((hv r (nN W) total:Nat):Int)∈(Cd (a:Int) ((a:Int)+n) 1).map λr=>((hv r.toNat (nN W) W.length:Nat):Int):=by
   refine List.mem_map.mpr ⟨(r:Int),?_,by rw[Ib,O]⟩
   rw[Uw]
   exact List.mem_map.mpr ⟨r-a,List.mem_range.mpr (by lia),by lia⟩
  exact decide_eq_true (Kr (Int.ofNat_lt.mpr (Nat.pos_of_ne_zero L)) (MK hm))
 rw[eb] at H
 refine Zj (Fb (SJ (N:=N+2) (fn:=pV W) g so (iF Y d i hf hb rfl rfl rfl (Mm 9 l ⟨rfl,trivial⟩ rfl)) i H (V (sd a) (Int.ofNat_le.mpr (Ja (Ed ..) (Ja G (Ja (Yi ..) q)))) (Int.ofNat_le.mpr M) (Int.ofNat_le.mpr (Ja m (Ja (Yi ..) q)))) λJ s' c'=>?_))
 have u:J=.bool true:=c'.val
 subst u
 exact⟨⟨_,rfl⟩,T s' ((i.step c'.keeps).sh) ((i.step c'.keeps).ks)⟩
end
noncomputable def qt(h:Na):Na:=Kn (qi h) 1975
theorem zp{h:Na}{b:la}{o:Sa}(e:(qt h).get? b=some o):h.get? b=some o/\(b≠1940/\b≠1892)/\b≠1975:=by
 have a:=fo e
 refine⟨Fx a,⟨?_,?_⟩,?_⟩
 ·rintro rfl;exact Kv a
 ·rintro rfl;exact MB a
 ·rintro rfl
  unfold qt at e
  rw[tm] at e;cases e
theorem LB{h:Na}:∀b o,(qt h).get? b=some o->h.get? b=some o/\b≠1940/\b≠1892:=λb o e=>⟨(zp e).1,(zp e).2.1⟩
theorem eR{nums:List Int}{v:Int}{room:Nat}(h:1<=room):(Td nums v room).length+HA v=8*room:=by
 have:=zE (nums:=nums) (v:=v) (Kw:=[]) h (Ab room) (Nat.sub_self room).symm
 rwa [show jb []=[] from rfl,Dg] at this
theorem oU{nums:List Int}{v:Int}{room:Nat}(h:1<=room)(a:room<=26):(Td nums v room).length<=2 ^ 11:=Ja (Fz (eR h)) (Ja (Pf 8 a) (by decide))
theorem J1{nums:List Int}{v:Int}{room:Nat}(h:1<=room):room<=((Td nums v room).length+7) / 8:=
 (Nat.le_div_iff_mul_le (by decide)).mpr (by rw[zt,<- eR (nums:=nums) (v:=v) h];exact pI ((Xl v).elim (λe=>by rw[e];decide) λe=>by rw[e];decide) _)
theorem W6{n t r p:Nat}(h:(n:Int)<=(t:Int)-r)(a:r < t)(b:1<=r)(pl:t<=p+1):n<=t-r/\n<=p:=
 have e:n<=t-r:=Int.ofNat_le.mp (by rw[Dh (Vd a)];exact h)
 ⟨e,Nat.le_of_succ_le_succ (Ja (Sx e b) (by rw[Me (Vd a)];exact pl))⟩
theorem aL(w:ja)(s:aa)(l:la)(vs:List Value)(ns:List Int)(FI:Ah w s.heap)(hg:s.gens=#[])(hl:s.heap.get? l=some {cls:=.type "list",data:=.seq vs.toArray})(hI:IntsAre vs ns)(h63:ns.length<=63):
  mc (ka PP w) OI (call (.ref 1978) [.ref l]) (λv s'=>v=.bool true/\OldK s.heap s'.heap/\s'.os=s.os/\AllBare s'.gens) s:=by
 have F:Fk w s.heap:=.of FI
 have F0:Fk w (qt s.heap):=((F.off (by decide)).off (by decide)).off (by decide)
 have g:GK 60 OI:=⟨⟨rfl,by decide,by decide⟩,rfl⟩
 refine wm (N:=58) (G:=GW w) (rd:=["script"]) (σ:=[("script",.il ns)]) (adr:=λZ=>l) (s₀:={s with heap:=qt s.heap}) (K:=Fw s) (vR w) g (F.uf 32 rfl rfl) (F.uf 43 rfl rfl) (NM _) (by kernel_rfl) (by kernel_rfl) ⟨s.heap,s.toks,rfl⟩ (cf F0)
  (λZ Z e=>(zp e).1) (λZ Z e=>e) ⟨⟨rfl,⟨l,vs,0,rfl,hl,hI⟩,λZ Z=>⟨rfl,by simp⟩⟩,trivial⟩ (λx y ns' ms hne e1 e2=>?_) λiY env M a KC UG=>?_
 ·exact absurd ((congrArg mn (List.mem_singleton.mp (xc e1))).trans (congrArg mn (List.mem_singleton.mp (xc e2))).symm) hne
 have i:env.scope.names=Hd:=by subst M;kernel_rfl
 have MW:env.blockKind=.function:=by subst M;kernel_rfl
 have O:env.code=.ref 1977:=by subst M;exact(vR w).code
 have so:=Up i
 rw[N1]
 refine Nc λm=>?_;obtain ⟨c0,e0,h0⟩:=U0 ns;refine m ?_
 rw[lw0]
 refine jj (ie (as:=ud) a.ga so (by exact fnA rfl) KC e0 (h0 (Ja h63 (by decide))) (by decide) (Nd i (by decide)) (by intro _ _;rfl) (by kernel_rfl)) λs2 y2=>?_
 refine Nc λm=>?_;obtain ⟨n0,Y⟩:=zD ns
 generalize a0k:Ou ns=nums at y2 n0 Y
 obtain ⟨a2,f2,x2⟩:=y2.sub (τ:=[("numbers",.il nums)]) (Vm ⟨rfl,trivial⟩);refine m ?_
 have q0:=Xb (Qe nums 0) (show(0:Int) < 12 by decide)
 have q1:=td (Qe nums 0) (show(0:Int) < 12 by decide)
 obtain ⟨y,A⟩:=b8 w ((Qe nums 0).fmod 12).toNat ((xl q0).mpr q1)
 have k:=A.pes
 have gl:=A.ok.hgl
 have D:=A.ok.hrm
 have j:=A.tot
 have V:=A.gt
 have U9:=Ja (Vd V) j
 refine La (wU (N:=54) a.ga F0 i n0 Y A x2 λs3 y3=>⟨rfl,?_⟩)
 refine EU a.ga i k y3 λs4 y4=>?_
 refine DU a.ga i k (by decide) n0 Y D U9 y4 λs5 y5=>?_
 have bW:=cW nums y.v y.room
 have wl:=cN (nums:=nums) (v:=y.v) D
 have hw:=eJ (nums:=nums) (v:=y.v) D
 have bK:=zv (gen:=y.gen) bW
 have lK:=yv y.gen (WW nums y.v y.room)
 have H:=cM (nums:=nums) (v:=y.v) D (Gg y.gen (WW nums y.v y.room))
 have ge:y.gen.length=y.total-y.room:=by rw[<- gl,lj]
 have lB:=oU (nums:=nums) (v:=y.v) D U9
 have LW:s5.gens=s.gens:=by obtain ⟨_,_,x5⟩:=y5;obtain ⟨_,_,e⟩:=x5.sh;rw[e]
 refine La (vU (N:=34) (sI:=s) (half:=hb y.v) (σ:=("bits",.il (Td nums y.v y.room))::L3 nums y.v y.total y.room y.pe) (y:=y) (bits:=Td nums y.v y.room) a FI LB F0 (by rw[LW,hg];exact λz hz=>absurd hz (Array.not_mem_empty z)) i A.ok (Xs nums y.v y.room) lB (J1 D) (by rfl) (by rfl) (by rfl) y5 ?_ ?_ λs6 p q hb6 y6=>⟨rfl,?_⟩)
 ·show((-3:Int)==y.v||((-1:Int)==y.v||false))=(decide (y.v=-3)||decide (y.v=-1))
  rw[TR,UN]
  simp only[Vn,beq_iff_eq,decide_eq_true_eq]
  exact⟨λh=>h.imp TN TN,λh=>h.imp TN TN⟩
 ·rw[hw,H]
  refine⟨(Xs nums y.v y.room).G4.append (Lo bK).G4,?_⟩
  rw[Ya,Wd,lK]
  exact Ja (Sx lB (Pf 8 (Ja (Ja (Cj ge) (Yi ..)) j))) (by decide)
 rw[hw,H] at y6
 refine CU a.ga i k D (Vd V) j (Kw:=Gg y.gen (WW nums y.v y.room)) (lK.trans ge) y6 λs7 y7=>?_
 have bC:Bh (WW nums y.v y.room++Gg y.gen (WW nums y.v y.room)):=bW.append bK
 have lC:(WW nums y.v y.room++Gg y.gen (WW nums y.v y.room)).length=y.total:=by rw[Ya,wl,lK];exact gl
 have hgb:∀g∈y.gen,0<=g/\g < 255:=λv hv=>by
  have q:=Bool.and_eq_true_iff.mp (List.all_eq_true.mp A.ok.hgb v hv)
  exact⟨of_decide_eq_true q.1,of_decide_eq_true q.2⟩
 have zC:∀r,r < y.total-y.room->hv r (nN (WW nums y.v y.room++Gg y.gen (WW nums y.v y.room))) y.total=0:=λr hr=>by
  have:=NH hgb bW A.gk (r:=r) (Zi hr ge.symm)
  rw[wl,gl] at this;exact this
 generalize WW nums y.v y.room++Gg y.gen (WW nums y.v y.room)=C at y7 bC lC zC
 refine BU a.ga i k (by decide) j lC bC y7 λs8 y8=>?_
 refine AU a.ga i k (by decide) (by decide) y8 λs9 y9=>?_
 refine Nc λm=>?_;obtain ⟨a9,f9,x9⟩:=y9;refine m ?_
 have x9':St (GW w) env ["script"] (("logs",.il sj)::("powers",.il Rq)::L4 nums C y.v y.total y.room y.pe) a9 {({s with heap:=qt s.heap}:aa) with gens:=s6.gens} (λb o=>K7 s p q b o/\b≠1975) s9:=
  x9.weak (λb o h=>h.1) λb o (e:(qt s.heap).get? b=some o)=>⟨.inl (.inl (LB b o e)),(zp e).2.2⟩
 refine Nc λm=>?_;obtain ⟨i40,i92,i75⟩:=FI.code;refine m ?_
 have t8:Yd s9.heap 1977 1975 #[]:=by
  refine Nc λm=>?_;obtain ⟨⟨o,vs',d,r⟩,t⟩:=i75.2;refine m ?_
  have e1:=x9.ks 1977 o (.inl (.inl ⟨d,by decide,by decide⟩))
  have e2:=x9.ks 1975 _ (.inl (.inl ⟨t,by decide,by decide⟩))
  exact i75.mv d t e1 e2
 refine La (Fb (rM a.ga.hd (F0.kp (s:={({s with heap:=qt s.heap}:aa) with gens:=s6.gens}) x9.kp) i x9' O t8 (λo h=>h.2 rfl) λf K' a4S j7 G5 D5 Q k75 L=>⟨rfl,?_⟩))
 refine zU (N:=56) a.ga F0 i MW k n0 Y V j lC bC zC L D5 λs11 qX=>?_
 refine Nc λm=>?_;obtain ⟨J,O9⟩:=fP nums V
 generalize hsp:PG nums y.total y.room=sp at qX J O9
 obtain ⟨n,rfl⟩:=Xc (Ai (by decide) J)
 obtain ⟨pl1,pl2⟩:=SK y.v y.total y.room
 obtain ⟨nb,np⟩:=W6 O9 V D pl1;refine m ?_
 have n1':1<=n:=Int.ofNat_le.mp J
 have dl:=qM nums
 have di:=z4 nums
 refine yU (N:=56) a.ga i k (by decide) (by decide) n0 Y j lC zy (Ja pl2 j) (n:=n) np L qX λDW y12=>?_
 refine xU (N:=56) a.ga F0 i k n0 Y V j (by rw[uz];exact lC) (CE dl zy bC (λt=>⟨Ai (by decide) (di t).1,(di t).2⟩) n np) n1' nb L
  (λst B8=>seen dl (gP _ _ _) zy bC lC di (Ja j (by decide)) zC n1' np B8) y12 λu hsh B=>?_
 refine⟨rfl,?_,?_,?_⟩
 ·refine Nc λm=>?_;obtain ⟨t40,t92,t75⟩:=FI.code;refine m ?_
  have k40:=B _ _ (Q 1940 _ ⟨.inl (.inr ⟨rfl,rfl⟩),by decide⟩)
  have k92:=B _ _ (Q 1892 _ ⟨.inr ⟨rfl,rfl⟩,by decide⟩)
  have E:=B _ _ k75
  have I:∀{c T:la} {ps:Array Value} {o:Sa},Yd s.heap c T #[]->s.heap.get? T=some o->u.heap.get? T=some (xS ps)->asItWas s.heap u.heap T o:=by
   intro c T ps o ic eo e
   have e0:=ic.tab
   rw[e0] at eo
   obtain rfl:=va eo
   exact .inr (.inl ⟨ic.2.isCodeTable,rfl,#[],ps,rfl,by rw[Array.empty_append];exact e⟩)
  have old:∀b o,s.heap.get? b=some o->asItWas s.heap u.heap b o/\∃o',u.heap.get? b=some o':=by
   intro b o e
   by_cases b1:b=1940
   ·subst b1;exact⟨I t40 e k40,_,k40⟩
   by_cases b2:b=1892
   ·subst b2;exact⟨I t92 e k92,_,k92⟩
   by_cases b3:b=1975
   ·subst b3;exact⟨I t75 e E,_,E⟩
   have:=B b o (Q b o ⟨.inl (.inl ⟨e,b1,b2⟩),b3⟩)
   exact⟨.inl this,o,this⟩
  exact⟨λb o e=>(old b o e).1,λb o e=>(old b o e).2⟩
 ·obtain ⟨_,_,e⟩:=hsh;rw[e]
 ·obtain ⟨_,_,e⟩:=hsh;rw[e];exact hb6
end Mine
open PySem PySem.W PyProof.Rows
theorem PySem.Challenge.cw_im0110_02_holds : PySem.Challenge.rw_im0110_02.Holds :=
  Mine.Gw Mine.aL
