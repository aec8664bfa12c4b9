import PyProof.Rows.All
import Wide.All
import OpenK.AllK
import Wide.FinOn
import Lean
import PySem.Challenge.RW_im0110_01
set_option maxRecDepth 100000
set_option Elab.async false
set_option linter.all false
set_option maxHeartbeats 0
set_option genInjectivity false
set_option genSizeOf false
namespace Mine
set_option tactic.hygienic false
open And renaming imp_right->Wh,imp_left->S5
open Array renaming getElem?_eq_getElem->xh,getElem?_eq_none->Cp,size_push->Mp,mem_of_getElem?->Up,getElem?_push_lt->KC,size_modify->iM,mem_push->HS
open Bool renaming and_eq_true_iff->wa,and_eq_true->Pd,not_eq_true'->Ge,false_ne_true->ih,false_eq_true->Zj,or_eq_false_iff->Vl,or_eq_true_iff->ft,or_eq_true->sy,beq_eq_decide_eq->DF,eq_iff_iff->ES,or_false->GX,and_true->HX
open Classical renaming byContradiction->Uc
open Exists renaming imp->Rj
open ForInStep renaming yield->Tc
open HAdd renaming hAdd->a3i
open Int renaming natCast_nonneg->Ja,toNat_natCast->Bb,ofNat_lt->jc,ofNat->Je,eq_ofNat_of_zero_le->Ke,fmod_nonneg_of_pos->bf,toNat_of_nonneg->gf,lt_of_lt_of_le->Af,ofNat_le->Xf,ofNat_sub->fh,lt_of_le_of_lt->kh,fmod_lt_of_pos->lh,le_trans->Ph,fmod->Qh,toNat_lt->Aj,add_sub_cancel->jk,toNat->zk,le_of_lt->Sk,fdiv->Uk,sub_pos_of_lt->yo,negSucc->zo,toNat_sub->Ko,neg_nonpos_of_nonneg->Lo,zero_add->Rp,lt_trans->Sp,add_comm->Tp,not_lt->vu,max_eq_right->Rw,le_max_left->Hy,fmod_eq_emod_of_nonneg->rA,fdiv_eq_ediv_of_nonneg->uA,add_nonneg->vA,mul_comm->AF,sub_sub->RJ,mul_one->SJ,sub_eq_add_neg->DM,sub_le_self->fW,min_eq_left->gW,sub_self->N5,le_of_eq->O5,pow_pos->a2s,le_refl->a2t
open Int.ofNat renaming inj->vh
open List renaming mem_cons_of_mem->pa,getD_eq_getElem?_getD->ua,mem_cons_self->va,all_eq_true->Aa,mem_singleton->Ca,range->Ea,lookup_cons->Ka,mem_cons->La,mem_map->Ma,replicate->Qa,getElem?_eq_getElem->Sa,contains_iff_mem->Ua,length_map->cb,getElem?_eq_some_iff->xb,mem_of_getElem?->Cb,nodup_cons->Lb,map_cons->Mb,length_append->Nb,mem_range->zc,length_range->Ac,map_append->Ic,mem_append_right->Mc,length_replicate->Zd,length_take->de,mem_append_left->qe,zipWith->se,mem_append->we,mem_map_of_mem->ze,forall_mem_cons->Pe,take_of_length_le->Ye,getElem?_map->ef,forIn_cons->rf,take_length->Df,size_toArray->Qf,map_congr_left->Wf,length_set->ag,not_mem_nil->rg,map_map->vg,append_nil->Gh,append_assoc->Nh,getElem?_range->fi,length_drop->ji,getElem_map->ki,ext_getElem->mi,sublist_cons_self->Ci,mem_replicate->Di,range_succ->Li,mem_filter->Mi,getElem?_eq_none->Si,length_cons->wj,cons_append->xj,replicate_succ->Hj,foldl_cons->Xj,map_inj_left->Jk,flatten_cons->Kk,set_getElem_self->yl,getElem_mem->Ll,length_zipWith->ym,map_nil->Om,forIn_nil->Xm,take_add_one->Qn,nodup_append->Rn,all_cons->xo,getElem?_set_self->Lp,take_append_drop->Mq,singleton_append->Nq,length_filter_le->Oq,getElem?_toArray->Pq,mem_of_mem_take->Dr,getElem?_set_ne->Er,filter_sublist->dt,filter_eq_self->et,pairwise_map->av,all_nil->cv,nodup_range->dw,getElem_inj->ew,getD->fw,filter_cons->gw,take_append_of_le_length->Pw,eq_nil_of_length_eq_zero->Qw,takeWhile->oz,drop_eq_getElem_cons->pA,eq_of_mem_replicate->tC,mem_singleton_self->GC,getElem?_replicate->HC,filter_cons_of_pos->IC,filter_cons_of_neg->JC,map_set->ZE,length_pos_of_mem->aF,eraseIdx_sublist->zF,range'->SH,mem_of_mem_drop->TH,mem_iff_getElem->UH,getElem_toArray->VH,getElem?_append->WH,takeWhile_cons->QJ,set_cons_succ->aM,forIn_toArray->bM,foldl->cM,filter_append->dM,Nodup->eM,take_zipWith->AM,getElem?_set->BM,any_eq_false->CM,zipIdx_cons->NR,getElem_set->OR,zipIdx_nil->xS,nil_append->yS,head?_drop->zS,take_succ->ZV,tail_drop->aW,drop_zero->cW,set_set->H4,any_map->I4,head?->a2r,tail->a3c
open List.Sublist renaming refl->qA
open Nat renaming le_trans->ka,lt_of_lt_of_le->ya,ne_of_lt->Na,le_succ_of_le->Xa,le_add_right->Za,le_refl->yb,add_comm->Rb,sub_add_cancel->Yb,zero_le->fc,le_of_lt->uc,succ_le_succ->Dc,add_le_add_left->Ec,zero_xor->Kc,lt_succ_self->Xc,le_of_eq->Yc,lt_of_le_of_lt->jd,lt_succ_of_lt->Cd,xor_zero->Fd,ne_of_gt->Td,lt_irrefl->je,le_of_not_lt->ye,mul_le_mul_left->Be,le_of_ble_eq_true->De,le_succ->Se,xor_assoc->We,not_lt->yf,add_right_comm->zf,sub_le->Rf,le_of_succ_le_succ->Sf,le_of_lt_succ->Tf,add_sub_of_le->Vf,xor_self->xg,add_le_add_right->Dg,add_sub_cancel_left->Jg,le_antisymm->Og,lt_of_succ_lt_succ->Xg,ble->Yg,lt_add_of_pos_right->ui,lt_of_lt_of_eq->Hi,blt->Ji,min_eq_left->Qi,le_add_left->Ri,sub_pos_of_lt->ej,le_of_succ_le->fj,le_sub_one_of_lt->sj,min_le_right->yj,lt_trans->zj,xor_comm->Rk,min_eq_right->Ol,le_sub_of_add_le->Wl,add_left_cancel->Nm,mod_lt->Bn,sub_sub->wo,succ->Bp,succ_mul->Np,mul_comm->Pp,le_mul_of_pos_left->Qp,min_le_left->Lq,le_of_sub_eq_zero->yr,sub_succ_lt_self->Cs,sub_lt_sub_left->wt,lt_of_le_of_ne->tu,eq_zero_or_pos->uu,succ_pos->Nv,succ_add->Ov,lt_or_ge->Qv,lt_of_succ_lt->Rv,sub_sub_self->Nw,shiftLeft_eq->Ow,two_mul->qy,zero_lt_one->Ey,not_lt_zero->Fy,div_add_mod->Gy,le_of_add_le_add_right->oA,add_assoc->FC,decEq->YE,zero_mul->xF,mul_succ->yF,sub_eq_zero_of_le->QH,add_sub_add_right->RH,one_pos->LJ,not_succ_le_self->MJ,le_add_of_sub_le->NJ,add_lt_add_right->OJ,add_sub_cancel'->YL,add_lt_add_left->ZL,xor_lt_two_pow->xM,sub_lt->yM,max_le->zM,lt_succ_of_le->MR,mod_eq_of_lt->uS,le_max_right->vS,strongRecOn->WV,cast->DX,add_le_add->EX,zero_add->K5,le_total->M5,not_le->a3b
open Nat.succ renaming inj->bt
open Ne renaming symm->qb
open Option renaming isSome_iff_exists->Ud,map_eq_some_iff->Qg,bind_eq_some_iff->nA,isNone_some->PH,map->D4
open Option.some renaming inj->xa
open PUnit renaming unit->Dy
open Prod renaming fst->gp
open Prod.mk renaming injEq->Ie,inj->Ui
open Sum renaming inr->H5,inl->I5
open PySem PySem.W PySem.Calls PyProof.Rows
open Option renaming some->ac,none->a6
open Bool renaming true->a8,false->be
open PyProof.Rows renaming Attribute_name->ig,Subscript_->Mj,sub_int->vo,subscriptTail->Zv,add_int->wM,bitAnd_pp->G5,neg_int->a2l,mul_int->a2m,iadd_int->a2n,exec_Assign->a2o,call_len_slot->a2p,callWith_type->a2q
open PySem renaming Shared->aa,model->ja,wpAny_pure->la,Addr->ma,World->sa,Str->Ba,wpAny_of_eq->Ga,Expr->Oa,Program->Pa,treeTable->Ra,wpAny_holding->Ta,Stmt->Ya,builtinLookup_eq_fast->ab,DictEntry->fb,wpAny_bind->jb,wpAny_standAt->Fb,wpAny_specialOf->Ib,Obj->Jb,wpAny_assign_Name->Ob,typeLookup_type->Pb,wpAny_mono->Ub,denote->Vb,Thread->Wb,Heap->Xb,sizeLine->mc,wpAny_callSpecial?_slot->wc,Sem->xc,wpAny_assignInOrder_more->Bc,NameKind->Lc,execs->Oc,wpAny_call_entry->Pc,IsRangeIter->Vc,Around->Wc,checkBuiltinCall->od,wpAny_Constant_int->qd,typeLookup->sd,builtinsNs->td,wpAny_newObj_type->Ed,wpAny_field->Jd,mainGlobals->Kd,Pos->Sd,compEnvC->Xd,Result->Yd,rawInt->ee,wpAny_storeName_local->ie,isSubtype_type->ke,Scope->He,wpAny_truthy_bool->Le,foldedSetIterable->Me,GenState->Oe,wpAny_seqItems->Ze,entryFor_of_tree->cf,starEach->mf,wpAny_isTrue_Compare1->tf,recursionLimit->xf,wpAny_execs_nil->Ef,Flow->Ff,swapsWith->Lf,lookup_relabel_local->Mf,interactive->Nf,cStatics->Of,callEnvC->bg,GenOnlyQ->fg,step->og,Frame->sg,wpAny_isInstance->Bg,exec->Cg,wpAny_comprehension_free->Hg,wpAny_BinOp->Mg,entryFor->Ng,letOwnedTupleGo->Vg,Params->Wg,BindsTo->mh,cellsFrom->uh,wpAny_pyIter_range->Dh,backTo->Eh,Code->Hh,pyNext->Vh,wpAny_pyIter_list->ai,bootBuiltins->ei,wpAny_rule->oi,wpAny_attempt->qi,wpAny_assignInOrder_none->ri,plainId_quiet->si,pyIter->Gi,getAttr->Ti,globalOf->ij,getMethod->oj,OsState->vj,wpAny_load->Jj,table->Kj,keeperOf->Lj,spliced->Uj,getItem->Vj,call_range_1->Wj,wpAny_Tuple_spliced->ak,wpAny_Constant_none->ik,callWith->Ak,Model->Bk,Comprehension->Ck,wpAny_updateSeq->Gk,importedModules->Ik,wpAny_setField_rec->Nk,isInstance->Pk,assign->Qk,wpAny_pyNext_range_item->el,specialOf->jl,Env->Al,wpAny_typeOf->Ml,wpAny_pyNext_range_end->Nl,Tok->xm,IsRange->Pm,FuncData->Qm,wpAny_ite_split->An,Drawn->Pn,wpAny_ite_true->Ao,wpAny_bindName->Bo,wpAny_assign_Tuple->Co,wpAny_Constant_str->Eo,methodCallForm->Ho,Operator->Jo,Args->Dp,wpAny_sequenceKey->Fp,wpAny_letGo->Gp,subDict->Hp,fastTable_eq_tree->Ip,wpAny_pyIter_zip->sr,noteFrame->ur,evalArgs->xr,Arguments->Ar,wpAny_pyNext_list_item->Tr,wpAny_pyIter_rangeiter->Ur,wpAny_List->Vr,qualnameIn->Wr,operate->Xr,closureFor->Yr,callSpecial?->Zr,argsOk->fs,wpAny_pyNext_list_end->nt,wpAny_pyIter_listiter->vt,wpAny_point->nu,wpAny_newFunctionEnv->ou,subscripted->ru,GenAt->wu,updateSeq->Xu,strValues->Yu,compareOp->Zu,eval_ListComp->aw,dictWalkPlain->bw,wpAny_call->Iw,mainNs->Jw,findBy->Kw,wpAny_pyIter_slot->vy,wpAny_builtinsFor->wy,mergeMapping->xy,field->zy,dictFind->Ay,codeAny_loop->By,binaryOp->Cy,wpAny_pyIter_gen->fA,builtinOf->jA,wpAny_noted->mC,setGen_self->pC,keywordEach->qC,bindSpecial->rC,IsZip->uC,run->CC,leftWithCleanup->EC,wpAny_tryCatch->oF,wpAny_newFunctionEnv_cells->pF,typeIs_int->qF,placesWithHash->rF,newFunctionEnv->sF,isSubtype_stop->tF,genEnv->uF,call_meets->vF,bindL->wF,wpAny_letOwnedTupleGo_zip->NH,wpAny_onRaise->GJ,table_eq_tree->HJ,evalPart_some->IJ,attributeBase->JJ,Slot->KJ,storeName->PL,slicePick->QL,seqItems?->RL,outcomeOf->TL,isSubtype->UL,CmpOp->gM,wpAny_mkText->pM,runOwn->qM,plainId->rM,newList->sM,hashInt->tM,codeAny_compStart_list->uM,callerA->vM,BoolOp->HM,exec_Assign_Name_used->JR,codeAny_call_function->KR,wpAny_updateSeq_pair->hS,wpAny_throw->iS,wpAny_nsGet->jS,wpAny_mkInt->kS,wpAny_AugAssign_Name->lS,dictEntries->mS,codeAny_extend_loopS->nS,codeAny_call_builtin->oS,bindC->pS,backToKw->qS,IntMulOk->AS,wpAny_functionCodeX->SV,wpAny_newTextTuple->yX,newExc->zX,staticsAccountedI->o4,slot_list_setitem->w4,setItem->z4,dictSet->B4,wpAny_typeOf_ref->m5,wpAny_Call_NameR->n5,seqIndex?->p5,isSeqSlot->q5,fillsInplaceSlot->w5,exec_Assign_Name->A5,dictEpoch->B5,compStart->C5,codeAmong->D5,wpAny_with_toks->a2h,shortFactorBits->a2i,codeAny_builtin->a2j,wpAny_setField->a2P,wpAny_If->a2Q,wpAny_Compare1->a2R,updateDictKeys->a2S,staticOf->a2T,runValue->a2U,mroOf->a2V,guardsOf->a2W,firstArgMember->a2X,carriedByValue->a2Y,cLine->a2Z,JoinOk->a3d,IsPart->a3e
open PySem.AfterImport renaming unique->a3l,of_importEnds->a3m
open PySem.Around renaming under_plainId->wg
open PySem.Bind renaming madeBy->XH
open PySem.BindsTo renaming of_eq->Ih
open PySem.Builtin renaming bitXor->Jc,bitNot->qk,divisionGoesByPylong->Sv,bitAnd->Tw,bitOr->QR
open PySem.Builtin.Bytes renaming decodersThatHold->Sb,ownRelease->Xe,slotIsOwn->kg,payload->Kg,buffer?->Lg,write->th,checkResize->Ni,subscript?->Vi,exportsOf->pj,sameRef->Sj,fitsIndex->Am,exported->Rm,takeBufferQuiet?->zr,newBytearray->zt,sliceParts->yu,lengthHint->zu,byteValue->jv,payload?->Tv,sliced->Uw,takeBuffer?->Q5,bindOptional->R5
open PySem.Builtin.Generator renaming genWake->Hr
open PySem.Builtin.Int renaming intBits->qz
open PySem.Builtin.List renaming listExtendWith->Nd,listSameRef->Yf,listTooLong->gj,listLengthHint->ll,listItems->iw,listUpdate->a2u,listTouch->a2v,listSubscript?->a2w,listFitsIndex->a2x
open PySem.Builtin.Range renaming rangeSize->Gb,small->Lk,rangeFitsLong->P5
open PySem.Builtin.SmallTypes renaming nextOf->yd,ownedTupleIsFree->pg,ownedTupleHandOut->Ym
open PySem.Builtin.Str renaming tooLong->a3j,glued->a3k
open PySem.Calls renaming evalArgs_plain->CF
open PySem.Code renaming compStart->pz,builtin->bF,quiet_builtin->fM
open PySem.Data renaming seq->mW
open PySem.Env renaming kindOf->Md
open PySem.Expr renaming Compare->M4
open PySem.F renaming slot_range_iterator_next->Bj,slot_zip_next->Gr,args_object_init_3->yt,plain_extend_loop->xu,args_range_iterator_next_1->wA,entry_range_iterator_next->wC,plain_list_iadd->iW,entry_type_call->jW,args_zip_next_1->kW,entry_zip_next->FX,slot_str_join->J4,slot_int_rmul->K4
open PySem.Fin renaming again->Sw
open PySem.FuncData renaming mk->vC
open PySem.GenOnly renaming setGen->EM
open PySem.Heap renaming get?_push_of_some->ea,get?_push_size->qa,lt_size->Ha,get?_update_other->Ia,get?_update_self->Zc,size_push->pd,SameBut->Rd,get?_none_of_le->Qe,ExtBut->nk,get?->PR,of_bltView->DS,isNs->a3f
open PySem.Heap.ExtBut renaming refl->a3h
open PySem.Heap.IsList renaming typeIs->a3g
open PySem.Heap.IsSliceOf renaming new->ry
open PySem.Heap.Ns renaming of_isNs->ip
open PySem.Heap.SameBut renaming update->wh
open PySem.IsRange renaming new->fv
open PySem.ItemsOf renaming nil->eW
open PySem.Keeper renaming machine->vb,frame->dW
open PySem.Moved renaming refl->PJ,eq_with->YV,trans->G4
open PySem.NameKind renaming free->Nc,globalImplicit->Dd,cell->Bh
open PySem.Obj renaming mapSeq->Ce,mapDictKeys->Kq,mapBytearray->Mw,data->CX
open PySem.Pin renaming globalOf_eq->VV
open PySem.Sem renaming pure->rj,wrap_wrap->Ul,wrap_congr->qs,wrap->As,wp_mono->Bs,keep_eq_wrap->rS,bind_eq_wrap->tS,wp_keep->a2k
open PySem.Shared renaming asleep_of_life->Jp,heap->XE,rest_eq->LR
open PySem.Str renaming ofString->ra
open PySem.Thread renaming yieldsInsideHandler->eh,atCollectorCode->zi,atExit->Nn,calm->Jq
open PySem.Txt renaming join->AX
open PySem.Value renaming type->Wd,isInt->Fh,ref->qj,str->sl,int->Io,none->yp,isStrOf_shape->js,builtin->lA,isInt_shape->WL,isStrOf->TV
open PySem.Value.ref renaming inj->cg
open PySem.Value.str renaming inj->VL
open PySem.Value.type renaming inj->OH
open PySem.W renaming boot_heap->vf,through->Hk,stepOk->Fo,topFrame->qu,leaveH->su,boot_drawn->Lw,topRun->iA,doneF->A4,WellAll->C4,wellAll_cons_inv->o5,WData->a3a
open PySem.W.RowW.promised renaming witness->J5
open PySem.W.WData renaming int->sC
open PySem.World renaming withFollow_self->Zb
variable{E:Value->aa->Prop}{s:aa}{Q:Value->aa->Prop}{w:sa}{A:Wc}{σ:List (Ba×P)}{a:ma}{ns:List Int}{h:Xb}{vs:List Value}{π:Pa}{ν:Al}{ς:aa}{n:Nat}{B:ma->Jb->Prop}{L:List (ma×Jb)}{R:Yd->aa->Prop}{sc:List (Ba×Lc)}{o:Jb}{N:Nat}{s':aa}{b:ma}{v:Value}{δ:Ba->ma}{k:Nat}{K:ma->Jb->Prop}{h':Xb}{fn:Ba->List P->Option Rs}{t:xm}{rd:List Ba}{i:Nat}{τ:List (Ba×P)}{gs:Array Oe}{ps:Array Value}{p:P}{l:ma}{u:xm}
@[elab_as_elim] theorem rwG{α:Sort _}{a b:α}{c:α->Prop}(h:a=b)(x:c b):c a:=h.symm▸x
theorem ue{p:Prop}(h:(p->False)->False):p:=Uc h
theorem bnd{α β:Type}{o:Option α}{f:α->Option β}{b:β}(h:o.bind f=ac b):∃a,o=ac a/\f a=ac b:=nA.mp h
def OK{α:Type _}(o:Option α)(P:α->Prop):Prop:=∀y,o=ac y->P y
section
variable{α β:Type _}{P:α->Prop}{o:Option α}
theorem OK.none:OK (a6:Option α) P:=λZ e=>nomatch e
theorem OK.some{y:α}(h:P y):OK (ac y) P:=λZ e=>xa e▸h
theorem OK.bind{o:Option β}{f:β->Option α}(h:∀y,o=.some y->OK (f y) P):OK (o.bind f) P:=by
 cases o
 ·exact OK.none
 ·exact h _ rfl
theorem OK.elim{o:Option β}{b:Option α}{f:β->Option α}(h:∀y,o=.some y->OK (f y) P)(h':OK b P):OK (o.elim b f) P:=by
 cases o
 ·exact h'
 ·exact h _ rfl
theorem OK.bif{c:Bool}(h:c=a8->OK o P):OK (bif c then o else .none) P:=by
 cases c
 ·exact OK.none
 ·exact h rfl
theorem OK.bin{c:Bool}(h:c=be->OK o P):OK (bif c then .none else o) P:=by
 cases c
 ·exact h rfl
 ·exact OK.none
theorem OK.bib{c:Bool}{o':Option α}(h:c=a8->OK o P)(h':c=be->OK o' P):OK (bif c then o else o') P:=by
 cases c
 ·exact h' rfl
 ·exact h rfl
theorem OK.mono{Q:α->Prop}(h:OK o P)(i:∀y,P y->Q y):OK o Q:=λy e=>i y (h y e)
end
noncomputable def lv(o:PySem.Obj):Option PySem.Obj:=bif o.isFreed then a6 else ac o
noncomputable def gv(o:Option PySem.Obj):Option PySem.Obj:=o.bind lv
theorem OK.live{α:Type _}{P:α->Prop}{o:PySem.Obj}{f:PySem.Obj->Option α}(h:o.isFreed=be->OK (f o) P):OK ((lv o).bind f) P:=by
 unfold Mine.lv;cases e:o.isFreed
 ·exact h e
 ·exact OK.none
theorem OK.get{α:Type _}{P:α->Prop}{o:Option PySem.Obj}{f:PySem.Obj->Option α}(h:∀y,o=Option.some y->y.isFreed=be->OK (f y) P):OK ((gv o).bind f) P:=by
 cases o with
 |none=>exact OK.none
 |some y=>exact OK.live (h y rfl)
structure nF(σ:Type) where
 ld:σ->ma->Option (Jb×σ)
 up:σ->ma->(Jb->Jb)->Option σ
 al:σ->Jb->Option (ma×σ)
structure Lm{σ:Type}(O:nF σ)(good:σ->Prop)(R:σ->Xb->Prop):Prop where
 ld:∀s a,OK (O.ld s a) λx=>(good x.2->good s)/\∀h,good x.2->R s h->h.get? a=ac x.1/\R x.2 h
 up:∀s a f,OK (O.up s a f) λx=>(good x->good s)/\∀h,good x->R s h->(h.get? a).isSome=a8/\R x (h.update a f)
 al:∀s o,OK (O.al s o) λx=>(good x.2->good s)/\∀h,good x.2->R s h->x.1=h.objs.size/\R x.2 (h.push o)
theorem En{i:ma}{f:Jb->Jb}{o':Jb}(b:h.get? a=ac o)(hf:o'.isFreed=be)(d:i=a/\o'=f o\/i≠a/\h.get? i=ac o'):(h.update a f).get? i=ac o':=
 d.elim (λq=>by rw[q.1,q.2];exact Zc f b (q.2▸hf)) λq=>(Ia h f (qb q.1)).trans q.2
theorem El{f:Jb->Jb}:(h.update a f).objs.size=h.objs.size:=iM
theorem Bm(b:h.get? a=ac o):(h.get? a).isSome=a8:=Option.isSome_of_eq_some b
theorem tw{i:ma}(hi:i < h.objs.size):(h.push o).get? i=h.get? i:=by
 have e:(h.push o).objs[i]?=h.objs[i]?:=(KC hi).trans (xh hi).symm;unfold PR;rw[e]
theorem Vq{o':Jb}{i:ma}(hf:o'.isFreed=be)(d:i=h.objs.size/\o'=o\/h.get? i=ac o'):(h.push o).get? i=ac o':=
 d.elim (λq=>by rw[q.1,q.2];exact qa h (q.2▸hf)) λq=>ea _ q
theorem Un:(h.push o).objs.size=h.objs.size+1:=Mp _
theorem KA{t:BT}{a:Nat}{f:Jb->Jb}{o':Jb}(g:t.get a=ac o)(e:(t.set a f).get i=ac o'):i=a/\o'=f o\/i≠a/\t.get i=ac o':=by
 rw[BT.get_set] at e;by_cases q:i=a
 ·rw[if_pos q,g] at e;exact .inl ⟨q,(xa e).symm⟩
 ·rw[if_neg q] at e;exact .inr ⟨q,e⟩
theorem Vo{t:BT}{a:Nat}{o':Jb}(g:((t.ins a o).get a).isSome=a8)(e:(t.ins a o).get i=ac o'):i=a/\o'=o\/t.get i=ac o':=by
 rw[BT.get_ins o t a g] at e;by_cases q:i=a
 ·rw[if_pos q] at e;exact .inl ⟨q,(xa e).symm⟩
 ·rw[if_neg q] at e;exact .inr e
theorem qq{α:Type}{l:List α}{j:Nat}{x y z:α}(hi:l[i]?=ac z)(e:(l.set i x)[j]?=ac y):j=i/\y=x\/j≠i/\l[j]?=ac y:=by
 by_cases q:j=i
 ·subst q;exact .inl ⟨rfl,(xa ((Lp (xb.mp hi).1).symm.trans e)).symm⟩
 ·exact .inr ⟨q,(Er (qb q)).symm.trans e⟩
theorem FD{α:Type}{l:List α}{j:Nat}{x y:α}(e:(l++[x])[j]?=ac y):j=l.length/\y=x\/l[j]?=ac y:=by
 rcases Nat.lt_trichotomy j l.length with q|q|q
 ·exact .inr ((List.getElem?_append_left q).symm.trans e)
 ·subst q;exact .inl ⟨rfl,(xa ((List.getElem?_concat_length ..).symm.trans e)).symm⟩
 ·exact nomatch (Si (by rw[Nb];exact q)).symm.trans e
noncomputable abbrev a6c:List sg->Bool
 |.ret ..::_=>a8
 |_=>be
section
variable{σ:Type}
noncomputable def bk(st:σ)(k:Nat)(r:Yd)(stack:List sg):Option (σ×Nat×Wb):=match stack with
 |fr::rest=>match fr with
  |.ret y _ _ _ c q _=>ac (st,k,⟨y r,c,q,rest⟩)
  |_=>a6
 |[]=>a6
noncomputable def gst(st:σ)(k:Nat):Step->Option (σ×Nat×Wb)
 |.go _ t'=>ac (st,k,t')
 |.halt _ _=>a6
noncomputable def stp(O:nF σ)(i:Hh->xc Fin)(p:Pa)(w:sa)(st:σ)(k:Nat):Wb->Option (σ×Nat×Wb)
 |⟨j,code,pos,stack⟩=>match j with
  |.load a _ f=>(O.ld st a).bind λ|(o,d)=>ac (d,k,⟨f o,code,pos,stack⟩)
  |.update a _ g f=>(O.up st a g).bind λx=>ac (x,k,⟨f (),code,pos,stack⟩)
  |.alloc o f=>(O.al st o).bind λ|(a,d)=>ac (d,k,⟨f a,code,pos,stack⟩)
  |.fresh f=>ac (st,Bp k,⟨f k,code,pos,stack⟩)
  |.ask f=>ac (st,k,⟨f ⟨p,w.params⟩,code,pos,stack⟩)
  |.rule _ f=>ac (st,k,⟨f (),code,pos,stack⟩)
  |.at q f=>ac (st,k,⟨f (),code,q,stack⟩)
  |.point _ f=>ac (st,k,⟨f (),code,pos,stack⟩)
  |.stack f=>ac (st,k,⟨f ((code,pos)::stack.map Frame.where_),code,pos,stack⟩)
  |.handled b f=>match b with
   |false=>ac (st,k,⟨f (topHandled stack),code,pos,stack⟩)
   |true=>a6
  |.pure x=>match x with
   |.done f=>bk st k (.ok f) stack
   |.again c=>gst st k (og i p w {} ⟨.pure (.again c),code,pos,stack⟩)
  |.raise e=>bk st k (.error e) stack
  |.call c h g l f=>gst st k (og i p w {} ⟨.call c h g l f,code,pos,stack⟩)
  |_=>a6
end
section
variable{σ:Type}{O:nF σ}{good:σ->Prop}{R:σ->Xb->Prop}
def QV(good:σ->Prop)(R:σ->Xb->Prop)(a:Hh->xc Fin)(p:Pa)(w:sa)(st:σ)(k:Nat)(t:Wb)(x:σ×Nat×Wb):Prop:=
 (good x.1->good st)/\∀h gs d os,good x.1->R st h->∃h',og a p w ⟨h,gs,d,k,os⟩ t=.go ⟨h',gs,d,x.2.1,os⟩ x.2.2/\R x.1 h'
theorem QV.Pg{a:Hh->xc Fin}{p:Pa}{st:σ}{k':Nat}{t t':Wb}(e:∀h gs d os,og a p w ⟨h,gs,d,k,os⟩ t=.go ⟨h,gs,d,k',os⟩ t'):OK (ac (st,k',t')) (QV good R a p w st k t):=
 OK.some ⟨id,λZ Z Z Z Z r=>⟨_,e ..,r⟩⟩
theorem oX{f:Hh->xc Fin}{p:Pa}{st:σ}{stack:List sg}{r:Yd}{code:Hh}{pos:Sd}{g:xc Fin}
  (e:∀y a b c i q l rest h gs d os,og f p w ⟨h,gs,d,k,os⟩ ⟨g,code,pos,.ret y a b c i q l::rest⟩=.go ⟨h,gs,d,k,os⟩ ⟨y r,i,q,rest⟩):
  OK (bk st k r stack) (QV good R f p w st k ⟨g,code,pos,stack⟩):=by
 cases stack with
 |nil=>exact OK.none
 |cons fr rest=>
  cases fr with
  |ret=>exact QV.Pg (e _ _ _ _ _ _ _ _)
  |_=>exact OK.none
theorem qN(H:Lm O good R){b:Hh->xc Fin}{p:Pa}{st:σ}{t:Wb}:OK (stp O b p w st k t) (QV good R b p w st k t):=by
 obtain ⟨d,code,pos,stack⟩:=t;cases d with
 |load a q f=>exact OK.bind λx e=>OK.some ⟨(H.ld _ _ x e).1,λh Z Z Z g r=>((H.ld _ _ x e).2 h g r).elim λq r=>⟨h,by rw[og,q],r⟩⟩
 |update a q f g=>exact OK.bind λx e=>OK.some ⟨(H.up _ _ _ x e).1,λh Z Z Z g r=>((H.up _ _ _ x e).2 h g r).elim λq r=>⟨_,by rw[og,if_pos q],r⟩⟩
 |alloc o f=>exact OK.bind λx e=>OK.some ⟨(H.al _ _ x e).1,λh Z Z Z g r=>((H.al _ _ x e).2 h g r).elim λq r=>⟨_,by rw[og,q],r⟩⟩
 |fresh|ask|rule|«at»|point|stack=>exact QV.Pg λZ Z Z Z=>rfl
 |handled own f=>cases own with
  |false=>exact QV.Pg λZ Z Z Z=>rfl
  |true=>exact OK.none
 |pure f=>cases f with
  |done f=>exact oX λZ Z Z Z Z Z Z Z Z Z Z Z=>rfl
  |again c=>exact QV.Pg λZ Z Z Z=>rfl
 |raise x=>exact oX λZ Z Z Z Z Z Z Z Z Z Z Z=>rfl
 |call c i j l f=>exact QV.Pg λZ Z Z Z=>rfl
 |_=>exact OK.none
noncomputable def rn1(O:nF σ)(rK:σ->Nat->Wb->Option (σ×Nat×Wb))(d:Hh->xc Fin)(p:Pa)(w:sa)(oh:Nat)(ro:Option Value)(e:σ->Nat->Wb->Option (σ×Nat×Wb))(st:σ)(k:Nat)(t:Wb):Option (σ×Nat×Wb):=
 match Hk t with
 |true=>ac (st,k,t)
 |false=>(rK st k t).elim (bif Fo oh ro t then (stp O d p w st k t).bind λ|(a,b,c)=>e a b c else a6) λ|(a,b,c)=>e a b c
noncomputable def rn(O:nF σ)(rK:σ->Nat->Wb->Option (σ×Nat×Wb))(a:Hh->xc Fin)(p:Pa)(w:sa)(oh:Nat)(ro:Option Value):Nat->σ->Nat->Wb->Option (σ×Nat×Wb)
 |0,st,k,t=>ac (st,k,t)
 |n+1,st,k,t=>rn1 O rK a p w oh ro (rn O rK a p w oh ro n) st k t
def Goes(p:Pa)(w:sa)(oh:Nat)(ro:Option Value)(s:aa)(t:Wb)(s':aa)(t':Wb):Prop:=
 ∀N r,iA Ra p w oh ro N s' t'=ac r->∃a,iA Ra p w oh ro a s t=ac r
theorem Goes.refl{p:Pa}{oh:Nat}{ro:Option Value}{t:Wb}:Goes p w oh ro s t s t:=λN Z h=>⟨N,h⟩
theorem Goes.trans{p:Pa}{oh:Nat}{ro:Option Value}{Sg:aa}{t t' c:Wb}(a:Goes p w oh ro s t s' t')(b:Goes p w oh ro s' t' Sg c):Goes p w oh ro s t Sg c:=
 λN r h=>let ⟨d,h'⟩:=b N r h;a d r h'
variable{rK:σ->Nat->Wb->Option (σ×Nat×Wb)}{p:Pa}{oh:Nat}{ro:Option Value}{d:Pn}{t t':Wb}
theorem Goes.one(ht:Hk t=be)(hk:Fo oh ro t=a8)(a:og (Vb Ra) p w s t=.go s' t'):Goes p w oh ro s t s' t':=λN r h=>⟨N+1,by
 unfold iA;rw[ht,hk,a];exact h⟩
def Wu(good:σ->Prop)(R:σ->Xb->Prop)(p:Pa)(w:sa)(oh:Nat)(ro:Option Value)(gs:Array Oe)(d:Pn)(st:σ)(k:Nat)(t:Wb)(x:σ×Nat×Wb):Prop:=
 (good x.1->good st)/\∀h os,good x.1->R st h->∃h',Goes p w oh ro ⟨h,gs,d,k,os⟩ t ⟨h',gs,d,x.2.1,os⟩ x.2.2/\R x.1 h'
def eA(good:σ->Prop)(R:σ->Xb->Prop)(rK:σ->Nat->Wb->Option (σ×Nat×Wb))(p:Pa)(w:sa)(oh:Nat)(ro:Option Value)(gs:Array Oe)(d:Pn):Prop:=
 ∀st k t,OK (rK st k t) (Wu good R p w oh ro gs d st k t)
theorem Wu.then{st:σ}{x y:σ×Nat×Wb}(a:Wu good R p w oh ro gs d st k t x)(b:Wu good R p w oh ro gs d x.1 x.2.1 x.2.2 y):Wu good R p w oh ro gs d st k t y:=
 ⟨λg=>a.1 (b.1 g),λh os g r=>(a.2 h os (b.1 g) r).elim λZ q=>(b.2 _ os g q.2).imp λZ c=>⟨q.1.trans c.1,c.2⟩⟩
theorem yY(H:Lm O good R)(M:eA good R rK p w oh ro gs d){c:σ->Nat->Wb->Option (σ×Nat×Wb)}(b:∀{st:σ} {k:Nat} {t:Wb},OK (c st k t) (Wu good R p w oh ro gs d st k t)){st:σ}{t:Wb}:
  OK (rn1 O rK (Vb Ra) p w oh ro c st k t) (Wu good R p w oh ro gs d st k t):=by
 delta rn1;cases ht:Hk t with
 |true=>exact OK.some ⟨id,λZ Z Z r=>⟨_,.refl,r⟩⟩
 |false=>exact OK.elim (λx e y a=>Wu.then (M _ _ _ x e) (b y a)) (OK.bif λhk=>OK.bind λx e y a=>
   Wu.then ⟨(qN H x e).1,λh os g r=>((qN H x e).2 h gs d os g r).imp λZ q=>⟨.one ht hk q.1,q.2⟩⟩ (b y a))
theorem FN(H:Lm O good R)(M:eA good R rK p w oh ro gs d):∀{n:Nat} {st:σ} {k:Nat} {t:Wb},OK (rn O rK (Vb Ra) p w oh ro n st k t) (Wu good R p w oh ro gs d st k t)
 |0,_,_,_=>OK.some ⟨id,λZ Z Z r=>⟨_,.refl,r⟩⟩
 |n+1,st,k,t=>yY H M (FN H M (n:=n))
theorem Tn(H:Lm O good R)(M:eA good R rK p w oh ro gs d){st a:σ}{k':Nat}{t t':Wb}(e:rn O rK (Vb Ra) p w oh ro n st k t=ac (a,k',t'))(g:good a){os:vj}(r:R st h):
  ∃h',Goes p w oh ro ⟨h,gs,d,k,os⟩ t ⟨h',gs,d,k',os⟩ t'/\R a h':=(FN H M _ e).2 h os g r
end
noncomputable def Ep:Jb:=⟨.none,a6,.freed,#[]⟩
structure T1 where
 t:BT
 n:Nat
noncomputable def ld1(s:T1)(a:ma):Option (Jb×T1):=(gv (s.t.get a)).bind λo=>ac (o,s)
noncomputable def up1(lo:Nat)(s:T1)(a:ma)(f:Jb->Jb):Option T1:=bif Yg lo a then (gv (s.t.get a)).bind λZ=>ac ⟨s.t.set a f,s.n⟩ else a6
noncomputable def al1(s:T1)(o:Jb):Option (ma×T1):=bif ((s.t.ins s.n o).get s.n).isSome then ac (s.n,⟨s.t.ins s.n o,Bp s.n⟩) else a6
noncomputable def OY(lo:Nat):nF T1:=⟨ld1,up1 lo,al1⟩
theorem UE(h:o.isFreed=be):alive o=ac o:=by
 obtain ⟨c,dd,a,b⟩:=o;cases a <;> first|rfl|exact nomatch h
structure RV(lo:Nat)(Eb:Xb)(s:T1)(h:Xb):Prop where
 size:h.objs.size=s.n
 own:∀i o,s.t.get i=ac o->o.isFreed=be->h.get? i=ac o
 low:∀i,i < lo->h.get? i=Eb.get? i
 le:lo<=s.n
theorem yI(lo:Nat)(Eb:Xb):Lm (OY lo) (λZ=>True) (RV lo Eb) where
 ld s a:=OK.get λo e q=>OK.some ⟨id,λh Z r=>⟨r.own _ _ e q,r⟩⟩
 up s a f:=OK.bif λb=>OK.get λo e q=>OK.some ⟨id,λh Z r=>have c:=r.own _ _ e q
  ⟨Bm c,El.trans r.size,λi o' hi hf=>En c hf ((KA e hi).imp_right λq=>⟨q.1,r.own _ _ q.2 hf⟩),
   λi hi=>(Ia h f (Td (ya hi (De b)))).trans (r.low i hi),r.le⟩⟩
 al s o:=OK.bif λg=>OK.some ⟨id,λh Z r=>⟨r.size.symm,Un.trans (congrArg (·+1) r.size),
  λi o' hi hf=>Vq hf ((Vo g hi).imp (λq=>⟨q.1.trans r.size.symm,q.2⟩) λq=>r.own _ _ q hf),
  λi hi=>(tw (ya hi (r.size▸r.le))).trans (r.low i hi),Xa r.le⟩⟩
structure T2 where
 old:BT
 m:Nat
 new:List Jb
 hints:List Nat
 obl:List (ma×ma)
noncomputable def ld2(s:T2)(a:ma):Option (Jb×T2):=match s.hints with
 |[]=>a6
 |x::b=>match x with
  |0=>(gv (s.old.get a)).bind λo=>ac (o,{s with hints:=b})
  |Bp i=>(gv s.new[i]?).bind λo=>ac (o,{s with hints:=b,obl:=(a,s.m+140+i)::s.obl})
noncomputable def up2(s:T2)(a:ma)(f:Jb->Jb):Option T2:=match s.hints with
 |[]=>a6
 |x::b=>match x with
  |0=>a6
  |Bp i=>(gv s.new[i]?).bind λo=>ac {s with new:=s.new.set i (f o),hints:=b,obl:=(a,s.m+140+i)::s.obl}
noncomputable def al2(s:T2)(o:Jb):Option (ma×T2):=ac (s.m+140+s.new.length,{s with new:=s.new++[o]})
noncomputable def W7:nF T2:=⟨ld2,up2,al2⟩
def cQ(s:T2):Prop:=∀p∈s.obl,p.1=p.2
structure KH(vk:Xb)(s:T2)(h:Xb):Prop where
 fr:∀i,i < s.m+140->h.get? i=vk.get? i
 size:h.objs.size=s.m+140+s.new.length
 old:∀i o,s.old.get i=ac o->o.isFreed=be->h.get? i=ac o/\i < 140
 own:∀i o,s.new[i]?=ac o->o.isFreed=be->h.get? (s.m+140+i)=ac o
theorem apart1(a j m i:Nat)(h:a=m+140+i)(y:j < 140):a≠j:=λe=>Td (ya y (ka (Ri 140 m) (Za _ i))) (h.symm.trans e)
theorem apart2(a m i j:Nat)(h:a=m+140+i)(y:j≠i):a≠m+140+j:=λe=>y (Nm (h.symm.trans e)).symm
theorem yR(a i m j:Nat)(h:a=m+140+i)(y:j < m+140):a≠j:=λe=>Td (ya y (Za (m+140) i)) (h.symm.trans e)
theorem CT(vk:Xb):Lm W7 cQ (KH vk) where
 ld s a:=by
  obtain ⟨old,m,new,hints,obl⟩:=s;cases hints with
  |nil=>exact OK.none
  |cons x k=>cases x with
   |zero=>exact OK.get λo e q=>OK.some ⟨id,λh Z r=>⟨(r.old _ _ e q).1,r.fr,r.size,r.old,r.own⟩⟩
   |succ i=>exact OK.get λo e q=>OK.some ⟨λg p hp=>g p (.tail _ hp),λh g r=>have c:a=m+140+i:=g _ (.head _);⟨(congrArg h.get? c).trans (r.own _ _ e q),r.fr,r.size,r.old,r.own⟩⟩
 up s a f:=by
  obtain ⟨old,m,new,hints,obl⟩:=s;cases hints with
  |nil=>exact OK.none
  |cons x k=>cases x with
   |zero=>exact OK.none
   |succ i=>exact OK.get λo e q=>OK.some ⟨λg p hp=>g p (.tail _ hp),λh g r=>have c:a=m+140+i:=g _ (.head _);have d:h.get? a=ac o:=(congrArg h.get? c).trans (r.own _ _ e q)
    ⟨Bm d,λj b=>(Ia h f (yR a i m j c b)).trans (r.fr j b),El.trans (r.size.trans (congrArg (m+140+·) ag.symm)),
     λj o' b hf=>(r.old j o' b hf).imp_left (Ia h f (apart1 a j m i c (r.old j o' b hf).2)).trans,
     λj o' b hf=>(qq (l:=new) (x:=f o) (y:=o') (j:=j) e b).elim (λq=>En d hf (.inl ⟨(congrArg (m+140+·) q.1).trans c.symm,q.2⟩)) λq=>En d hf (.inr ⟨qb (apart2 a m i j c q.1),r.own j o' q.2 hf⟩)⟩⟩
 al s o:=OK.some ⟨id,λh Z r=>⟨r.size.symm,λj b=>(tw (ya b (ka (Za _ _) (Yc r.size.symm)))).trans (r.fr j b),by rw[Un,r.size,Nb];rfl,
  λj o' b hf=>(r.old j o' b hf).imp_left λq=>ea _ q,λj o' b hf=>(FD (l:=s.new) (x:=o) b).elim (λq=>Vq hf (.inl ⟨(congrArg (s.m+140+·) q.1).trans r.size.symm,q.2⟩)) λq=>Vq hf (.inr (r.own j o' q hf))⟩⟩
noncomputable def mq{σ:Type}:σ->Nat->Wb->Option (σ×Nat×Wb):=λZ Z Z=>a6
noncomputable def T0(P:Wg):BT:=
 (((((((((((BT.nil.ins 0 (boot_o_0 P)).ins 1 (boot_o_1 P)).ins 2 (boot_o_2 P)).ins 3 (boot_o_3 P)).ins 4 (boot_o_4 P)).ins 5 (boot_o_5 P)).ins 6 (boot_o_6 P)).ins 7 (boot_o_7 P)).ins 8 (boot_o_8 P)).ins 9 (boot_o_9 P)).ins 10 (boot_o_10 P))
noncomputable abbrev nj:Option Value:=ac (.ref 6)
section
variable{p:Pa}{ro:Option Value}{d:Pn}{os:vj}{code:Hh}{pos:Sd}{st:List sg}
theorem br{oh:Nat}{q:Option Value}{f:Jb->xc Fin}(b:h.get? a=ac o):
  Goes p w oh ro ⟨h,gs,d,k,os⟩ ⟨.load a q f,code,pos,st⟩ ⟨h,gs,d,k,os⟩ ⟨f o,code,pos,st⟩:=λN r H=>by
 refine⟨N+1,?_⟩
 unfold iA;have e:Hk ⟨.load a q f,code,pos,st⟩=be:=by simp[Hk]
 have c:Fo oh ro ⟨.load a q f,code,pos,st⟩=a8:=by simp[Fo,Jq,eh,zi,Nn]
 rw[e,c];simp only[og,b];exact H
theorem Iz{oh:Nat}{q:Option Value}{g:Jb->Jb}{f:Unit->xc Fin}(b:h.get? a=ac o)(c:Yg oh a=a8):
  Goes p w oh ro ⟨h,gs,d,k,os⟩ ⟨.update a q g f,code,pos,st⟩ ⟨h.update a g,gs,d,k,os⟩ ⟨f (),code,pos,st⟩:=λN r H=>by
 refine⟨N+1,?_⟩
 unfold iA;have i:Hk ⟨.update a q g f,code,pos,st⟩=be:=by simp[Hk]
 have e:Fo oh ro ⟨.update a q g f,code,pos,st⟩=a8:=by simp[Fo,Jq,eh,zi,Nn,c]
 rw[i,e];simp only[og,b,Option.isSome_some,if_true];exact H
theorem FK{oh:Nat}{x y z:Value}{dd:Option ma}{j:Array (Option Value)}
  (f:h.get? a=ac ⟨.type "list",a6,.seq #[] 0,#[]⟩) (hb:h.get? b=ac ⟨.type "tuple",dd,.seq #[x,y,z] n,j⟩) (hn:Yg oh a=a8):
  Goes p w oh ro ⟨h,gs,d,k,os⟩ ⟨Vb Ra (.builtin "list.__iadd__" ⟨[.ref a,.ref b],[]⟩),code,pos,st⟩
   ⟨h.update a (Ce (·++#[x,y,z])),gs,d,k,os⟩ ⟨.pure (.done (.ret (.ref a))),code,pos,st⟩:=by
 have e:Vb Ra (.builtin "list.__iadd__" ⟨[.ref a,.ref b],[]⟩)=Nd (.ref a) (.ref b) (.ref a):=by kernel_rfl
 rw[e];unfold Nd;refine Goes.trans (br hb) ?_;show Goes _ _ _ _ _ ⟨(if (Yf (.ref a) (.ref b)||Wd "tuple"==Wd "list"||Wd "tuple"==Wd "tuple")=a8 then _ else _:xc Fin),_,_,_⟩ _ _
 have h1:(Yf (.ref a) (.ref b)||Wd "tuple"==Wd "list"||Wd "tuple"==Wd "tuple")=a8:=by simp
 rw[if_pos h1];refine Goes.trans (br hb) ?_;refine Goes.trans (br f) ?_;refine Goes.trans (br f) ?_;refine Goes.trans (Iz f hn) ?_;have i:=Zc (Ce (·++#[x,y,z])) f rfl;refine Goes.trans (br i) ?_;have hp:(Ce (·++#[x,y,z]) {cls:=Wd "list",data:=mW #[]}).data.pastItsLine=a6:=by kernel_rfl
 have l:((λg=>(rj g).bind λ(o:Jb)=>(match o.data.pastItsLine with|some c=>unsupported c|none=>pure ():xc Unit)) (Ce (·++#[x,y,z]) {cls:=Wd "list",data:=mW #[]})).bind
   (λZ=>(ret (qj a):xc Fin))=rj (Fin.done (Flow.ret (qj a))):=by
  show((match (Ce (·++#[x,y,z]) {cls:=Wd "list",data:=mW #[]}).data.pastItsLine with|some c=>unsupported c|none=>pure ():xc Unit)).bind (λZ=>(ret (qj a):xc Fin))=_
  rw[hp];rfl
 exact l▸Goes.refl
end
noncomputable abbrev PP:Pa:=PySem.Challenge.pw_im0110_01
noncomputable abbrev aq:String:="special-get-raises"
noncomputable def Sh:Al:={scope:=PP.main.scope,locals:=Jw,globals:=Jw,cells:=[],code:=.ref 13,frame:=ac 14}
noncomputable def Hb:List Ya:=behindTheImports PP
noncomputable def Uh:Ya:=(Hb[12]?).getD (.Pass default)
noncomputable def dR:List Ya:=Hb.take 12
noncomputable def uE:List Ya:=Hb.drop 13
set_option tactic.hygienic true in
noncomputable def DU:Ff->xc Fin:=λf=>match f with
 |.next=>(Oc (Uh::uE) Sh).wrap A4 (su Sh) id id
 |f=>A4 f
noncomputable def gA(p:Pa)(T:Wg->BT)(w:sa):Option (T1×Nat×Wb):=rn (OY 0) mq (Vb Ra) p w 11 nj 12 ⟨T w.params,11⟩ 181 (topStub p)
noncomputable def gB(p:Pa)(T:Wg->BT)(a:Wb)(w:sa):Option (T1×Nat×Wb):=(gA p T w).bind λr=>rn (OY 0) mq (Vb Ra) p w 11 nj 1494 r.1 r.2.1 a
noncomputable def gPT(p:Pa)(T:Wg->BT)(a:Wb)(w:sa):BT:=match gB p T a w with
 |some (s,_,_)=>s.t
 |none=>.nil
noncomputable def a3W:=gA PP T0
noncomputable def Te:Wb:=⟨(blockStart Hb Sh).wrap (λZ=>(Oc dR Sh).wrap DU (su Sh) id id) .raise id id,.body Hb Sh,default,[qu default]⟩
noncomputable def FY:=gB PP T0 Te
noncomputable def My:=gPT PP T0 Te
def aG(p:Pa)(T:Wg->BT)(bd:List Ya)(a:Al)(w:sa)(b:Bool):Prop:=(gA p T (w.withFollow "special-get-raises" b)).map (λr=>(r.1.n,r.2.1,r.2.2))=ac (15,187,⟨Vb Ra (.body bd a),.body bd a,default,[qu default]⟩)
def bG(p:Pa)(T:Wg->BT)(a X:Wb)(w:sa)(b:Bool):Prop:=(gB p T a (w.withFollow "special-get-raises" b)).map (λr=>(r.1.n,r.2.1,r.2.2))=ac (139,400,X)
noncomputable def aOk:=aG PP T0 Hb Sh
set_option tactic.hygienic true in
noncomputable def bOk:=bG PP T0 Te ⟨DU .next,.body Hb Sh,⟨31,0,73,58⟩,[qu default]⟩
lay_quick Mine.aG Mine.bG
theorem a5T(w:sa)(b:Bool):aOk w b:=by
 show aG PP T0 Hb Sh w b
 rw[Fast.te9281140160357868910];unfold Fast.tw9281140160357868910;cases b <;> kernel_rfl
theorem a5O(w:sa)(b:Bool):bOk w b:=by
 show bG PP T0 Te _ w b
 rw[Fast.te10259913313045349084];unfold Fast.tw10259913313045349084;cases b <;> kernel_rfl
noncomputable def hnt(l:List Nat):Option (Nat×Nat×List Nat):=match l with
 |Bp ib::Bp ia::a=>ac (ib,ia,a)
 |_=>a6
noncomputable def goT:(r:Step)->Option {t:Wb // ∃s,r=.go s t}
 |.go s t=>ac ⟨t,s,rfl⟩
 |.halt _ _=>a6
noncomputable def st1:(m:xc Fin)->Option {x:String×ma×ma // m=.pure (.again (.builtin x.1 ⟨[.ref x.2.1,.ref x.2.2],[]⟩))}
 |.pure (.again (.builtin id ⟨[.ref a,.ref b],[]⟩))=>ac ⟨(id,a,b),rfl⟩
 |_=>a6
noncomputable def W2:(o:Jb)->Option (PLift (o=⟨.type "list",a6,.seq ⟨[]⟩ 0,⟨[]⟩⟩))
 |⟨.type c,a6,.seq ⟨[]⟩ 0,⟨[]⟩⟩=>if h:c="list" then ac ⟨h▸rfl⟩ else a6
 |_=>a6
noncomputable def a3D:(o:Jb)->Option {z:Value×Value×Value // ∃dd n a,o=⟨.type "tuple",dd,.seq ⟨[z.1,z.2.1,z.2.2]⟩ n,a⟩}
 |⟨.type c,dd,.seq ⟨[x,y,z]⟩ n,a⟩=>if h:c="tuple" then ac ⟨(x,y,z),dd,n,a,h▸rfl⟩ else a6
 |_=>a6
noncomputable def AY(s:T2)(a b:ma)(ib ia:Nat)(c:List Nat)(x y z:Value):T2:=⟨s.old,s.m,s.new.set ia (Ce (·++#[x,y,z]) ⟨.type "list",a6,.seq ⟨[]⟩ 0,⟨[]⟩⟩),c,(a,s.m+140+ia)::(b,s.m+140+ib)::s.obl⟩
noncomputable def LN(a:ma)(t:Wb):Wb:=⟨.pure (.done (.ret (.ref a))),t.code,t.pos,t.stack⟩
noncomputable def a0b(c:Hh->xc Fin)(p:Pa)(w:sa)(s:T2)(k:Nat)(t:Wb):Option (T2×Nat×Wb):=
 (st1 t.cur).bind λ|⟨(id,a,b),_⟩=>(hnt s.hints).bind λ|(ib,ia,e)=>s.new[ib]?.bind λob=>s.new[ia]?.bind λd=>(a3D ob).bind λ|⟨(x,y,z),_⟩=>(W2 d).bind λZ=>(
  bif (id=="list.__iadd__"&&Yg 11 a)&&Fo 11 nj t then (goT (og c p w {} t)).bind λ|⟨t',_⟩=>ac (AY s a b ib ia e x y z,k,LN a t') else a6)
section
variable{vk:Xb}{d:Pn}{p:Pa}{st:T2}
theorem RP{os:vj}{code:Hh}{pos:Sd}{stack:List sg}{z:Value×Value×Value}{dd:Option ma}{e:Array (Option Value)}{t':Wb}{s1:aa}
  (hk:Fo 11 nj ⟨.pure (.again (.builtin "list.__iadd__" ⟨[.ref a,.ref b],[]⟩)),code,pos,stack⟩=a8) (c:og (Vb Ra) p w {} ⟨.pure (.again (.builtin "list.__iadd__" ⟨[.ref a,.ref b],[]⟩)),code,pos,stack⟩=.go s1 t')
  (f:h.get? a=ac ⟨.type "list",a6,.seq #[] 0,#[]⟩) (hb:h.get? b=ac ⟨.type "tuple",dd,.seq #[z.1,z.2.1,z.2.2] n,e⟩) (hn:Yg 11 a=a8):
  Goes p w 11 nj ⟨h,gs,d,k,os⟩ ⟨.pure (.again (.builtin "list.__iadd__" ⟨[.ref a,.ref b],[]⟩)),code,pos,stack⟩ ⟨h.update a (Ce (·++#[z.1,z.2.1,z.2.2])),gs,d,k,os⟩ (LN a t'):=by
 obtain rfl:_=t':=(Step.go.inj c).2
 exact(Goes.one (by simp[Hk]) hk rfl).trans (FK f hb hn)
theorem MN{ib ia:Nat}{f:List Nat}{x y z:Value}{l:Jb}(r:KH vk st h)(e:a=st.m+140+ia)(g:st.new[ia]?=ac l)(d:h.get? a=ac l)(hl:l=⟨.type "list",a6,.seq ⟨[]⟩ 0,⟨[]⟩⟩):
  KH vk (AY st a b ib ia f x y z) (h.update a (Ce (·++#[x,y,z]))):=
 ⟨λj c=>(Ia h _ (yR a ia st.m j e c)).trans (r.fr j c),El.trans (r.size.trans (congrArg (st.m+140+·) ag.symm)),
  λj o' c hf=>(r.old j o' c hf).imp_left (Ia h _ (apart1 a j st.m ia e (r.old j o' c hf).2)).trans,
  λj o' c hf=>(qq (l:=st.new) (y:=o') (j:=j) g c).elim (λq=>En d hf (.inl ⟨(congrArg (st.m+140+·) q.1).trans e.symm,q.2.trans (hl▸rfl)⟩)) λq=>En d hf (.inr ⟨qb (apart2 a st.m ia j e q.1),r.own j o' q.2 hf⟩)⟩
theorem ZO{t t':Wb}{id:String}{ib ia:Nat}{y:List Nat}{ob f:Jb}{z:Value×Value×Value}{s1:aa}(B:t.cur=.pure (.again (.builtin id ⟨[.ref a,.ref b],[]⟩)))(hb:st.new[ib]?=ac ob)(v:st.new[ia]?=ac f)
  (hz:∃dd n u,ob=⟨.type "tuple",dd,.seq ⟨[z.1,z.2.1,z.2.2]⟩ n,u⟩) (l:f=⟨.type "list",a6,.seq ⟨[]⟩ 0,⟨[]⟩⟩) (hc:((id=="list.__iadd__"&&Yg 11 a)&&Fo 11 nj t)=a8) (i:og (Vb Ra) p w {} t=.go s1 t'):
  Wu cQ (KH vk) p w 11 nj gs d st k t (AY st a b ib ia y z.1 z.2.1 z.2.2,k,LN a t'):=by
 obtain ⟨s,code,pos,stack⟩:=t;obtain ⟨o,hk⟩:=wa.mp hc;obtain ⟨j,hn⟩:=wa.mp o;obtain rfl:id="list.__iadd__":=eq_of_beq j;obtain rfl:s=_:=B;refine⟨λg q A=>g q (.tail _ (.tail _ A)),λh os g r=>hz.elim λdd e=>e.elim λn e=>e.elim λu hz=>?_⟩
 have x:a=st.m+140+ia:=g (a,st.m+140+ia) (.head _);have eb:b=st.m+140+ib:=g (b,st.m+140+ib) (.tail _ (.head _));have c:h.get? a=ac f:=(congrArg h.get? x).trans (r.own _ _ v (l▸rfl));exact⟨_,RP hk i (c.trans (congrArg ac l)) (((congrArg h.get? eb).trans (r.own _ _ hb (hz▸rfl))).trans (congrArg ac hz)) hn,MN r x v c l⟩
theorem nU:eA cQ (KH vk) (a0b (Vb Ra) p w) p w 11 nj gs d:=λst k t=>OK.bind λx Z=>OK.bind λe Z=>OK.bind λob hb=>OK.bind λc b=>OK.bind λz Z=>OK.bind λl Z=>OK.bif λhc=>OK.bind λt' Z=>OK.some (t'.2.elim λZ a=>ZO x.2 hb b z.2 l.1 hc a)
end
noncomputable def Ew:List Nat:=[0,0,0,0,0,0,0,0,0,0,0,0,0,0,0,0,0,0,0,1,1,1,1,1,1,1,1,0,0,0,1,1,1,1,0,0,0,0,0,0,0,0,0,0,0,0,0,0,0,2,3,3,0,5,0,5,0,0,0,5,0,5,0,0,0,0,0]
noncomputable def yG(d:ma)(i j l:Value):Jb:=⟨.ref 135,ac d,.seq #[i,j,l] 0,#[]⟩
noncomputable def oZ:Jb:=⟨.type "dict",a6,.dict #[] 0,#[]⟩
noncomputable def c3(p:Pa)(T:Wg->BT)(c:Wb)(w:sa)(m k:Nat)(i:Int)(ti:xm)(j:Int)(b:xm)(l:Int)(a:xm)(d:Bool)(lv:List Value)(f:Yd->xc Fin)(bd:List Ya)(ν:Al)(pos:Sd)
  (y:Yd->xc Fin) (g:Bool) (lv2:List Value) (ar:Dp) (q:Sd) (kp:List Value):Option (T2×Nat×Wb):=
 rn W7 (a0b (Vb Ra) p w) (Vb Ra) p w 11 nj 119 ⟨gPT p T c w,m,[],Ew,[]⟩ k
  ⟨.call (.call (.ref 135) ⟨[.int i ti,.int j b,.int l a],[]⟩) a6 d lv f,.body bd ν,pos,[.ret y a6 g lv2 (.builtin "claim.caller" ar) q kp]⟩
noncomputable def pJ(p:Pa)(T:Wg->BT)(d:Wb)(w:sa)(b:Bool)(m k:Nat)(i:Int)(ti:xm)(j:Int)(c:xm)(l:Int)(a:xm)(e:Bool)(lv:List Value)(f:Yd->xc Fin)(bd:List Ya)(ν:Al)(pos:Sd)
  (y:Yd->xc Fin) (g:Bool) (lv2:List Value) (ar:Dp) (q:Sd) (kp:List Value):Prop:=
 (c3 p T d (w.withFollow "special-get-raises" b) m k i ti j c l a e lv f bd ν pos y g lv2 ar q kp).map
   (λr=>(r.1.m,r.1.new.length,r.1.new[3]?,r.1.new[4]?,r.1.obl,r.2.1,r.2.2))=
 ac (m,5,ac oZ,ac (yG (m+140+3) (.int i ti) (.int j c) (.int l a)),(Ew.reverse.filter (λx=>!Nat.beq x 0)).map (λx=>(m+140+(x-1),m+140+(x-1))),k+7,
  ⟨f (.ok (.ret (.ref (m+140+4)))),.body bd ν,pos,[.ret y a6 g lv2 (.builtin "claim.caller" ar) q kp]⟩)
noncomputable def a1J:=pJ PP T0 Te
lay_quick Mine.pJ
noncomputable def a3Y{α:Type}:(l:List α)->Option {a:α // l=[a]}
 |[a]=>ac ⟨a,rfl⟩
 |_=>a6
section
variable{α β:Type}{M:Bk}
def bq(M:Bk)(A:Wc)(f:α->xc β)(Q:β->aa->Prop)(E:Value->aa->Prop):α->aa->Prop:=λa s'=>wpAny M A (f a) Q E s'
theorem Kb{m:xc α}{f:α->xc β}{Q:β->aa->Prop}(h:wpAny M A m (bq M A f Q E) E s):wpAny M A (m>>=f) Q E s:=jb h
theorem Ig{t:xc α}{Q b:α->aa->Prop}(h:wpAny M A t Q E s)(k:∀a s,Q a s->b a s):wpAny M A t b E s:=PySem.wpAny_mono h k λZ Z q=>q
end
abbrev Hc:Value->aa->Prop:=λZ Z=>False
noncomputable abbrev wb(vs:List Value)(n:Nat):Jb:={cls:=.type "list",dict:=a6,data:=.seq vs.toArray n,slots:=#[]}
inductive P where
 |none|bool (b:Bool)|int (i:Int)|il (ns:List Int)|addr (a:ma)
def VR(h:Xb):P->Value->Prop
 |.none,v=>v=.none
 |.bool b,v=>v=.bool b
 |.int i,v=>∃t,v=.int i t
 |.il ns,v=>∃a vs n,v=.ref a/\h.get? a=ac (wb vs n)/\IntsAre vs ns
 |.addr a,v=>v=.ref a
theorem VR.keeps(x:VR h p v)(k:∀b o,h.get? b=ac o->h'.get? b=ac o):VR h' p v:=by
 cases p with
 |il ns=>obtain ⟨a,vs,n,e,g,i⟩:=x;exact⟨a,vs,n,e,k _ _ g,i⟩
 |_=>exact x
def Kp(s s':aa):Prop:=∃h' tk,s'={s with heap:=h',toks:=tk}/\∀b o,s.heap.get? b=ac o->h'.get? b=ac o
theorem Kp.Pg:Kp s s:=⟨s.heap,s.toks,rfl,λZ Z e=>e⟩
theorem Kp.trans'{d c a:aa}(x:Kp d c)(y:Kp c a):Kp d a:=by
 refine ue λhC=>?_;obtain ⟨h,t,rfl,k⟩:=x;obtain ⟨h',t',rfl,k'⟩:=y;refine hC ?_;exact⟨h',t',rfl,λb o e=>k' b o (k b o e)⟩
theorem Kp.tok(t:Nat):Kp s {s with toks:=t}:=⟨s.heap,t,rfl,λZ Z e=>e⟩
theorem Kp.push(o:Jb):Kp s {s with heap:=s.heap.push o}:=⟨_,s.toks,rfl,λZ Z e=>ea _ e⟩
theorem Kp.get(x:Kp s s')(e:s.heap.get? b=ac o):s'.heap.get? b=ac o:=by
 obtain ⟨h,t,rfl,k⟩:=x;exact k b o e
theorem Kp.vr(x:Kp s s')(e:VR s.heap p v):VR s'.heap p v:=VR.keeps e λZ Z e=>x.get e
structure Pf(s:aa)(p:P)(fr:Bool)(v:Value)(s':aa):Prop where
 keeps:Kp s s'
 val:VR s'.heap p v
 fresh:fr=a8->∀a,v=.ref a->s.heap.get? a=a6
theorem bc:h.get? h.objs.size=a6:=by
 cases e:h.get? h.objs.size with
 |none=>rfl
 |some o=>exact absurd (Ha e) (je _)
theorem Ab(x:Kp s s')(e:s'.heap.get? a=a6):s.heap.get? a=a6:=by
 cases q:s.heap.get? a with
 |none=>rfl
 |some o=>rw[x.get q] at e;exact nomatch e
theorem Pf.after{Sg:aa}{fr:Bool}(k:Kp s s')(c:Pf s' p fr v Sg):Pf s p fr v Sg:=
 ⟨k.trans' c.keeps,c.val,λh a e=>Ab k (c.fresh h a e)⟩
theorem Pf.int(i:Int)(t:xm):Pf s (.int i) a8 (.int i t) {s with toks:=k}:=⟨.tok _,⟨t,rfl⟩,λZ a e=>nomatch e⟩
theorem Pf.a0K(i:Int)(t:xm):Pf s (.int i) a8 (.int i t) s:=⟨.Pg,⟨t,rfl⟩,λZ a e=>nomatch e⟩
theorem Pf.bool(b:Bool):Pf s (.bool b) a8 (.bool b) s:=⟨.Pg,rfl,λZ a e=>nomatch e⟩
theorem Pf.none:Pf s .none a8 .none s:=⟨.Pg,rfl,λZ a e=>nomatch e⟩
structure Rs where
 p:P
 fr:Bool
 c:Prop
def Sm(a:Int):Prop:=-(2 ^ 62) < a/\a < 2 ^ 62
theorem xG{a b:Int}(h:Sm a):AS a b:=by
 unfold AS;have:qz a<=64:=intBits_le_64 (Sk (Sp (by decide) h.1)) (Sp h.2 (by decide));simp[a2i];intro q;lia
theorem tD{a b:Int}(h:Sm b):AS a b:=by
 unfold AS;have:qz b<=64:=intBits_le_64 (Sk (Sp (by decide) h.1)) (Sp h.2 (by decide));simp[a2i];intro _ q;lia
theorem t8{x:Int}
  (hl:s.heap.get? l=ac (wb vs k))
  (d:-(2 ^ 63:Int)<=x) (e:x < 2 ^ 63) (c:vs.length*x.toNat<=2 ^ 24)
  (h:Q (.ref s.heap.objs.size) {s with heap:=s.heap.push {cls:=.type "list",data:=.seq (cM (λb a=>b++a) #[] (Qa (if vs.toArray.isEmpty=a8 then 0 else x.toNat) vs.toArray))}}):
  wpAny (ja π w) A (Cy .Mult (.ref l) (.int x u)) Q E s:=
 wpAny_binaryOp_repeat_ref (T:="list") (U:="int") (by decide) ⟨_,hl,rfl⟩ (λs'=>qF s' x u) noFill_list_mul F.fills_int_mul K4 repeat_list F.slot_int_index.lookup
  (vF K4 (qF s x u) F.entry_int_rmul (F.args_int_rmul_2 _ _) (int___rmul___int_list x u l vs.toArray k)
   ⟨hl,rfl,⟨_,hl,rfl⟩,vF F.slot_list_mul ⟨_,hl,rfl⟩ F.entry_list_mul (F.args_list_mul_2 _ _)
    (AutoListH.list___mul___list_int_3 l vs.toArray k x u (by simp[a2x];lia) (by simp;lia) (by simp[gj,mc];lia))
    ⟨hl,h⟩⟩)
theorem foldl_rep(vs:List Value):∀(k:Nat) (jh:Array Value),cM (λb a=>b++a) jh (Qa k vs.toArray)=(jh.toList++(Qa k vs).flatten).toArray:=by
 intro k;induction k with
 |zero=>intro jh;simp
 |succ k c=>
  intro jh;rw[Hj,Xj,c,Hj,Kk]
  simp
theorem NN(vs:List Value)(k:Nat):cM (λb a=>b++a) #[] (Qa (if vs.toArray.isEmpty=a8 then 0 else k) vs.toArray)=((Qa k vs).flatten).toArray:=by
 cases vs with
 |nil=>simp[List.flatten_replicate_nil]
 |cons v vs=>
  have:((v::vs).toArray.isEmpty)=be:=by simp
  rw[this,foldl_rep];simp
theorem Bx{vs:List Value}{ns:List Int}(h:IntsAre vs ns):∀k:Nat,IntsAre (Qa k vs).flatten (Qa k ns).flatten
 |0=>.nil
 |k+1=>by rw[Hj,Hj,Kk,Kk];exact h.append (Bx h k)
theorem Sm.abs{b:Int}(h:Sm b):b.natAbs < 2 ^ 62:=by
 cases b with
 |ofNat n=>exact jc.mp (Af h.2 (by decide))
 |negSucc n=>exact jc.mp (Af (Int.neg_lt_neg h.1) (by decide))
theorem qv{a b:Int}(h:Sm b):Sv a b=be:=
 PyProof.noPylong_of_log2 ((uu b.natAbs).elim (λz=>z▸by decide) λz=>ya ((Nat.log2_lt (Td z)).mpr h.abs) (by decide))
noncomputable def X7(op:Jo)(a b:Int):Option Rs:=match op with
 |.Add=>ac ⟨.int (a+b),a8,True⟩
 |.Sub=>ac ⟨.int (a-b),a8,True⟩
 |.Mult=>ac ⟨.int (a*b),a8,Sm a\/Sm b⟩
 |.Mod=>ac ⟨.int (a.fmod b),a8,b≠0⟩
 |.FloorDiv=>ac ⟨.int (a.fdiv b),a8,b≠0/\Sm b⟩
 |.BitXor=>ac ⟨.int (Jc a b),a8,True⟩
 |.BitAnd=>ac ⟨.int (Tw a b),a8,True⟩
 |.RShift=>ac ⟨.int (a.fdiv (2 ^ b.toNat)),a8,0<=b⟩
 |.Pow=>ac ⟨.int (a ^ b.toNat),a8,0<=b/\b<=1000000/\a.natAbs < 2 ^ 64⟩
 |_=>a6
noncomputable def hO(op:Jo)(p q:P):Option Rs:=match p with
 |.int a=>(match q with
  |.int b=>X7 op a b
  |_=>a6)
 |.il a=>(match q with
  |.il b=>(match op with
   |.Add=>ac ⟨.il (a++b),a8,a.length+b.length<=2 ^ 24⟩
   |_=>a6)
  |.int k=>(match op with
   |.Mult=>ac ⟨.il (Qa k.toNat a).flatten,a8,-(2 ^ 63)<=k/\k < 2 ^ 63/\a.length*k.toNat<=2 ^ 24⟩
   |_=>a6)
  |_=>a6)
 |_=>a6
theorem Pf.list(h:IntsAre vs ns)(x:Array Value)(b:x=vs.toArray):Pf s (.il ns) a8 (.ref s.heap.objs.size) {s with heap:=s.heap.push {cls:=.type "list",data:=.seq x}}:=by
 subst b;exact⟨.push _,⟨_,vs,0,rfl,qa _ rfl,h⟩,λZ a e=>by cases e;exact bc⟩
theorem ET{op:Jo}{i j:Int}:OK (X7 op i j) λr=>r.c->∀t u,wpAny (ja π w) A (Cy op (.int i t) (.int j u)) (Pf s r.p r.fr) Hc s:=by
 cases op with
 |Add=>exact OK.some λZ Z Z=>wM (.int _ _)
 |Sub=>exact OK.some λZ Z Z=>vo (.int _ _)
 |Mult=>exact OK.some λhc Z Z=>a2m (.int _ _) (hc.elim xG tD)
 |Mod=>exact OK.some λhc Z Z=>mod_int' hc (.int _ _)
 |FloorDiv=>exact OK.some λhc Z Z=>floordiv_int hc.1 (.int _ _) (.inl (qv hc.2))
 |BitXor=>exact OK.some λZ Z Z=>xor_int (.int _ _)
 |BitAnd=>exact OK.some λZ Z Z=>and_int (.int _ _)
 |RShift=>exact OK.some λhc Z Z=>rshift_int hc (.int _ _)
 |Pow=>exact OK.some λhc Z Z=>pow_int_small hc.1 hc.2.1 hc.2.2 (.int _ _)
 |_=>exact OK.none
def a5W(π:Pa)(w:sa)(A:Wc)(s:aa)(op:Jo)(p q:P)(r:Rs):Prop:=r.c->∀a b,VR s.heap p a->VR s.heap q b->wpAny (ja π w) A (Cy op a b) (Pf s r.p r.fr) Hc s
theorem iK{op:Jo}{q:P}:OK (hO op p q) (a5W π w A s op p q):=by
 cases p with
 |int i=>cases q with
  |int j=>exact OK.mono ET λr h hc a b d hb=>d.elim λt e=>hb.elim λu m=>e▸m▸h hc t u
  |_=>exact OK.none
 |il ns=>cases q with
  |il ms=>cases op with
   |Add=>
    refine OK.some λhc a b d hb=>?_;refine ue λhC=>?_;obtain ⟨l,vs,n,rfl,hl,hi⟩:=d;obtain ⟨l2,g,n2,rfl,f,c⟩:=hb;refine hC ?_;refine P.add_list hl f (Pf.list (hi.append c) _ (by simp)) ?_;rw[Qf,Qf,hi.length,c.length];exact ka hc (by decide)
   |_=>exact OK.none
  |int k=>cases op with
   |Mult=>
    refine OK.some λhc a b d hb=>?_;refine ue λhC=>?_;obtain ⟨l,vs,n,rfl,hl,hi⟩:=d;obtain ⟨u,rfl⟩:=hb;refine hC ?_;exact t8 hl hc.1 hc.2.1 (by rw[hi.length];exact hc.2.2) (Pf.list (Bx hi _) _ (NN _ _))
   |_=>exact OK.none
  |_=>exact OK.none
 |_=>exact OK.none
theorem jD{op:Jo}{q:P}{r:Rs}{a b:Value}(e:hO op p q=ac r)(hc:r.c)(d:VR s.heap p a)(hb:VR s.heap q b):
  wpAny (ja π w) A (Cy op a b) (Pf s r.p r.fr) Hc s:=iK r e hc a b d hb
noncomputable def mX(op:gM)(a b:Int):Option (Bool×Prop):=match op with
 |.Eq=>ac (decide (a=b),True)
 |.NotEq=>ac (decide (a≠b),True)
 |.Lt=>ac (decide (a < b),True)
 |.LtE=>ac (decide (a<=b),True)
 |.Gt=>ac (decide (b < a),True)
 |.GtE=>ac (decide (b<=a),True)
 |_=>a6
noncomputable def zI(op:gM)(p q:P):Option (Bool×Prop):=match p with
 |.int a=>(match q with
  |.int b=>mX op a b
  |_=>a6)
 |.il a=>(match q with
  |.il b=>(match op with
   |.Eq=>ac (decide (a=b),True)
   |.NotEq=>ac (decide (a≠b),True)
   |_=>a6)
  |_=>a6)
 |_=>a6
theorem DP{ws:List Value}{ms:List Int}(h:IntsAre vs ns)(g:IntsAre ws ms)(hl:ns.length=ms.length):
  (Ea vs.toArray.size).all (λj=>ns.getD j 0==ms.getD j 0)=decide (ns=ms):=by
 rw[ES,Aa,decide_eq_true_eq];have h1:=h.length;constructor
 ·intro q;apply mi hl
  intro i h2 a;have:=q i (by simp;lia)
  simpa [ua,h2,a] using this
 ·rintro rfl i _;simp
theorem oB(h:IntsAre vs ns):∀(j:Nat) (h1:j < vs.length),∃t,vs[j]=.int (ns.getD j 0) t:=by
 induction h with
 |nil=>intro j h1;exact absurd h1 (Fy _)
 |cons n t _ a=>
  intro j h1;cases j with
  |zero=>exact⟨t,rfl⟩
  |succ j=>simpa using a j (by simpa using h1)
open PySem.SeqAt in
theorem Rz{ms:List Int}{a b:Value}(o:VR s.heap (.il ns) a)(hb:VR s.heap (.il ms) b)(h:A.units < a2Z):
  wpAny (ja π w) A (Zu .Eq a b) (λv s'=>v=.bool (decide (ns=ms))/\s'=s) Hc s/\wpAny (ja π w) A (Zu .NotEq a b) (λv s'=>v=.bool (decide (ns≠ms))/\s'=s) Hc s:=by
 refine ue λhC=>?_;obtain ⟨l,vs,n,rfl,hl,hi⟩:=o;obtain ⟨l2,d,n2,rfl,f,g⟩:=hb;refine hC ?_;by_cases hz:ns.length=ms.length
 ·have c:vs.toArray.size=d.toArray.size:=by rw[Qf,Qf,hi.length,g.length,hz]
  have m:∀(j:Nat) (k:j < vs.toArray.size) (i:j < d.toArray.size),EqAt A.in1 s vs.toArray[j] d.toArray[j] (ns.getD j 0==ms.getD j 0):=by
   intro j k i;refine ue λhC=>?_;obtain ⟨t,q⟩:=oB hi j k;obtain ⟨u,p⟩:=oB g j i;refine hC ?_;rw[VH,VH,q,p];exact EqAt.int_int _ _ _ _
  have e:=DP hi g hz;exact⟨RcAt.lists (e:=λj=>ns.getD j 0==ms.getD j 0) ⟨_,hl,rfl,_,rfl⟩ ⟨_,f,rfl,_,rfl⟩ c h m π w _ _ ⟨congrArg _ e,rfl⟩,
   RcNeAt.lists (e:=λj=>ns.getD j 0==ms.getD j 0) ⟨_,hl,rfl,_,rfl⟩ ⟨_,f,rfl,_,rfl⟩ c h m π w _ _ ⟨by rw[e,decide_not],rfl⟩⟩
 ·have c:(vs.toArray.size != d.toArray.size)=a8:=by rw[Qf,Qf,hi.length,g.length];exact bne_iff_ne.mpr hz
  have:¬ns=ms:=λe=>hz (by rw[e]);exact⟨RcAt.lists_lengths ⟨_,hl,rfl,_,rfl⟩ ⟨_,f,rfl,_,rfl⟩ c h π w _ _ ⟨by rw[decide_eq_false this],rfl⟩,RcNeAt.lists_lengths ⟨_,hl,rfl,_,rfl⟩ ⟨_,f,rfl,_,rfl⟩ c h π w _ _ ⟨by rw[decide_eq_true this],rfl⟩⟩
theorem OQ{op:gM}{i j:Int}:OK (mX op i j) λy=>∀t u,wpAny (ja π w) A (Zu op (.int i t) (.int j u)) (λv s'=>v=.bool y.1/\s'=s) Hc s:=by
 cases op with
 |Eq=>exact OK.some λZ Z=>eq_int ⟨congrArg _ (DF ..),rfl⟩
 |NotEq=>exact OK.some λZ Z=>ne_int ⟨by simp[bne,DF] <;> rfl,rfl⟩
 |Lt=>exact OK.some λZ Z=>lt_int ⟨rfl,rfl⟩
 |LtE=>exact OK.some λZ Z=>le_int ⟨rfl,rfl⟩
 |Gt=>exact OK.some λZ Z=>gt_int ⟨rfl,rfl⟩
 |GtE=>exact OK.some λZ Z=>ge_int ⟨rfl,rfl⟩
 |_=>exact OK.none
def a5V(π:Pa)(w:sa)(A:Wc)(s:aa)(op:gM)(p q:P)(y:Bool×Prop):Prop:=∀a b,VR s.heap p a->VR s.heap q b->A.units < a2Z->wpAny (ja π w) A (Zu op a b) (λv s'=>v=.bool y.1/\s'=s) Hc s
theorem gK{op:gM}{q:P}:OK (zI op p q) (a5V π w A s op p q):=by
 cases p with
 |int i=>cases q with
  |int j=>exact OK.mono OQ λy h a b c hb Z=>c.elim λt e=>hb.elim λu f=>e▸f▸h t u
  |_=>exact OK.none
 |il ns=>cases q with
  |il ms=>cases op with
   |Eq=>exact OK.some λa b c hb d=>(Rz c hb d).1
   |NotEq=>exact OK.some λa b c hb d=>(Rz c hb d).2
   |_=>exact OK.none
  |_=>exact OK.none
 |_=>exact OK.none
theorem Mt{op:gM}{q:P}{y:Bool×Prop}{a b:Value}(e:zI op p q=ac y)(d:VR s.heap p a)(hb:VR s.heap q b)(c:A.units < a2Z):
  wpAny (ja π w) A (Zu op a b) (λv s'=>v=.bool y.1/\s'=s) Hc s:=gK y e a b d hb c
structure Gl where
 mg:Ba->Option Value
 mb:Ba->Option Value
 gv:Ba->Option P
 gok:∀x p,gv x=ac p->∃v,mg x=ac v/\∀h,VR h p v
 bok:∀x:Ba,x≠"__name__"->mb x=ei x
 free:∀x∈([ra "len",ra "range",ra "list",ra "max",ra "zip"]:List Ba),mg x=a6
structure GS(G:Gl)(h:Xb):Prop where
 g:h.Ns Kd G.mg
 b:h.Ns td G.mb
 lim:h.NoLimit
theorem GS.keeps{G:Gl}(x:GS G h)(k:∀b o,h.get? b=ac o->h'.get? b=ac o):GS G h':=⟨x.g.keeps k,x.b.keeps k,x.lim.keeps k⟩
def Look(ν:Al)(h:Xb)(x:Ba)(v:Value):Prop:=
 (ν.kindOf x=ac .local/\∃m,h.Ns ν.locals m/\m x=ac v) \/
 ((ν.kindOf x=ac .cell\/ν.kindOf x=ac .free)/\∃c,ν.cells.lookup x=ac c/\h.IsCell c (ac v))
theorem Look.keeps{x:Ba}(l:Look ν h x v)(k:∀b o,h.get? b=ac o->h'.get? b=ac o):Look ν h' x v:=by
 rcases l with ⟨a,m,n,e⟩|⟨a,c,e,i⟩
 ·exact .inl ⟨a,m,n.keeps k,e⟩
 ·exact .inr ⟨a,c,e,i.keeps k⟩
structure RE(G:Gl)(ν:Al)(σ:List (Ba×P))(s:aa):Prop where
 kind:ν.scope.kind=.function
 eg:ν.globals=Kd
 eb:ν.builtins=td
 gs:GS G s.heap
 look:∀x p,σ.lookup x=ac p->∃v,Look ν s.heap x v/\VR s.heap p v
 cells:∀x,(ν.kindOf x=ac .cell\/ν.kindOf x=ac .free)->(ν.cells.lookup x).isSome=a8
theorem RE.kp{G:Gl}(r:RE G ν σ s)(k:Kp s s'):RE G ν σ s':=
 ⟨r.kind,r.eg,r.eb,r.gs.keeps λZ Z e=>k.get e,λx p e=>by obtain ⟨v,l,q⟩:=r.look x p e;exact⟨v,l.keeps λZ Z e=>k.get e,k.vr q⟩,r.cells⟩
structure GA(n:Nat)(A:Wc):Prop where
 hd:A.handled=a6
 dp:A.depth+n < xf
 un:A.units+8*n+64 < a2Z
theorem gaU{u c:Nat}(hk:k<=8)(h:u+8*(n+1)+64 < c):u+k+8*n+64 < c:=
 jd (Dg (ka (Yc (FC ..)) (Ec (ka (Yc (Rb k _)) (Ec hk _)) _)) 64) h
theorem GA.in1(g:GA (n+1) A):GA n A.in1:=⟨g.hd,Rv g.dp,gaU (k:=1) (by decide) g.un⟩
theorem GA.mono{m:Nat}(g:GA n A)(h:m<=n):GA m A:=⟨g.hd,jd (Ec h _) g.dp,jd (Dg (Ec (Be 8 h) _) 64) g.un⟩
theorem GA.units(g:GA n A):A.units < a2Z:=jd (ka (Za _ _) (Za _ _)) g.un
theorem GA.room(g:GA n A):A.depth < xf:=jd (Za _ _) g.dp
theorem GA.deeper(g:GA (n+1) A)(ν:Al):GA n (A.deeper ν):=⟨g.hd,jd (Yc (Nat.succ_add_eq_add_succ ..)) g.dp,gaU (k:=3) (by decide) g.un⟩
section
variable{G:Gl}
theorem Ju{x:Ba}(hk:ν.scope.kind=.function)(l:Look ν s.heap x v)(hn:(x==("__classdict__":Ba))=be)(h:Q v s):
  wpAny (ja π w) A (loadName ν x) Q E s:=by
 rcases l with ⟨a,m,n,e⟩|⟨a|a,c,e,i⟩
 ·exact wpAny_loadName_local hk a n e h
 ·exact wpAny_loadName_cell hk a e i h
 ·exact wpAny_loadName_free hk a e i h hn
theorem vd{x:Ba}{pos:Sd}(hk:ν.scope.kind=.function)(l:Look ν s.heap x v)
  (hd:(x==("__debug__":Ba))=be) (hn:(x==("__classdict__":Ba))=be) (h:Q v s):
  wpAny (ja π w) A (eval (.Name x pos) ν) Q E s:=wpAny_Name (Ju hk l hn h) hd
theorem Tg{x:Ba}{pos:Sd}(r:RE G ν σ s)(a:ν.kindOf x=ac .globalImplicit)(hv:G.mg x=ac v)
  (hd:(x==("__debug__":Ba))=be) (h:Q v s):wpAny (ja π w) A (eval (.Name x pos) ν) Q E s:=
 Name_function_global r.kind a (loadGlobal_global (by rw[r.eg];exact r.gs.g) hv h) hd
theorem name_buil{x:Ba}{pos:Sd}(r:RE G ν σ s)(a:ν.kindOf x=ac .globalImplicit)(hg:G.mg x=a6)(hv:ei x=ac v)
  (hm:x≠"__name__") (hd:(x==("__debug__":Ba))=be) (h:Q v s):wpAny (ja π w) A (eval (.Name x pos) ν) Q E s:=
 Name_function_global r.kind a (loadGlobal_builtin (by rw[r.eg];exact r.gs.g) hg (by rw[r.eb];exact r.gs.b) (by rw[G.bok x hm];exact hv) h) hd
end
noncomputable def ae(a:List Int)(k:Int):Int:=if 0<=k then a.getD k.toNat 0 else a.getD (k+a.length).toNat 0
noncomputable def ID:(p:P)->Option {i:Int // p=.int i}
 |.int i=>ac ⟨i,rfl⟩
 |_=>a6
noncomputable def ilP:(p:P)->Option {a:List Int // p=.il a}
 |.il a=>ac ⟨a,rfl⟩
 |_=>a6
noncomputable def adP:(p:P)->Option {a:ma // p=.addr a}
 |.addr a=>ac ⟨a,rfl⟩
 |_=>a6
theorem vInt{i:Int}(e:p=.int i)(x:VR h p v):∃t,v=.int i t:=by subst e;exact x
theorem vIl{a:List Int}(e:p=.il a)(x:VR h p v):∃l vs m,v=.ref l/\h.get? l=ac (wb vs m)/\IntsAre vs a:=by subst e;exact x
noncomputable def EW(p q:P):Option Rs:=(ilP p).bind λ|⟨a,_⟩=>(ID q).bind λ|⟨k,_⟩=>ac ⟨.int (ae a k),a8,-(a.length:Int)<=k/\k < a.length/\a.length<=2 ^ 24⟩
noncomputable def VO:List Int->Int
 |[]=>0
 |a::l=>l.foldl (λm x=>if x > m then x else m) a
noncomputable def yg(a b c:Int):List Int:=(Ea (Gb a b c).toNat).map λ(i:Nat)=>a+(i:Int)*c
noncomputable def qX(f:Ba)(ps:List P):Option Rs:=(a3Y ps).bind λ|⟨p,_⟩=>(ilP p).bind λ|⟨a,_⟩=>(
 bif f==("len":Ba) then ac ⟨.int a.length,a8,a.length<=2 ^ 24⟩
 else bif f==("list":Ba) then ac ⟨.il a,a8,a.length<=2 ^ 24⟩
 else bif f==("max":Ba) then ac ⟨.int (VO a),a8,0 < a.length⟩
 else a6)
noncomputable def kJ(f:Oa->Option Rs):List Oa->Option (List P×Prop)
 |[]=>ac ([],True)
 |e::es=>(f e).bind λ|⟨p,_,c⟩=>(kJ f es).bind λ|(ps,c')=>ac (p::ps,c/\c')
noncomputable def pB:List P->Option (List Int)
 |[]=>ac []
 |p::ps=>(ID p).bind λ|⟨i,_⟩=>(pB ps).bind λis=>ac (i::is)
noncomputable def Z4{P:Oa->Type}(h:∀op x y p,Option (P (.BoolOp op [x,y] p)))(g:∀l op r p,Option (P (.Compare l [op] [r] p)))(nm:∀x p,Option (P (.Name x p)))
  (cl:∀x c as p,Option (P (.Call (.Name x c) as [] p))) (f:∀a b p,Option (P (.Slice a b a6 p))) (d:∀es k p,Option (P (.Tuple es k p))):∀e,Option (P e)
 |.BoolOp op [x,y] p=>h op x y p
 |.Compare l [op] [r] p=>g l op r p
 |.Name x p=>nm x p
 |.Call (.Name x c) as [] p=>cl x c as p
 |.Slice a b a6 p=>f a b p
 |.Tuple es k p=>d es k p
 |_=>a6
noncomputable def p8{α β:Type}{P:α->β->Type}(a:α)(b:β):Option (P a b):=a6
noncomputable def XR{α β d:Type}{P:α->β->d->Type}(a:α)(b:β)(c:d):Option (P a b c):=a6
noncomputable def sG{α β f e:Type}{P:α->β->f->e->Type}(a:α)(b:β)(c:f)(d:e):Option (P a b c d):=a6
noncomputable def a5J:(e:Oa)->Option {x:Oa×gM×Oa // ∃pos,e=.Compare x.1 [x.2.1] [x.2.2] pos}:=Z4 sG (λl op r pos=>ac ⟨(l,op,r),pos,rfl⟩) p8 sG XR XR
noncomputable def c5(f:Oa->Option Rs)(e:Oa):Option (Bool×Prop):=
 (a5J e).bind λ|⟨(l,op,r),_⟩=>(bif behindInMarks op r then a6 else (f l).bind λ|⟨p,_,d⟩=>(f r).bind λ|⟨q,_,a⟩=>(zI op p q).bind λ|(b,c)=>ac (b,(d/\a)/\c))
noncomputable def boE:(e:Oa)->Option {x:HM×Oa×Oa // ∃pos,e=.BoolOp x.1 [x.2.1,x.2.2] pos}:=Z4 (λop x y pos=>ac ⟨(op,x,y),pos,rfl⟩) sG p8 sG XR XR
noncomputable def boR(op:HM)(a b:Bool)(d c:Prop):Bool×Prop:=match op with
 |.And=>(a&&b,d/\(a=a8->c))
 |.Or=>(a||b,d/\(a=be->c))
noncomputable def eS(f:Oa->Option Rs)(e:Oa):Option (Bool×Prop):=(boE e).elim (c5 f e) λ|⟨(op,x,y),_⟩=>(c5 f x).bind λ|(a,d)=>(c5 f y).bind λ|(b,c)=>ac (boR op a b d c)
noncomputable def pif(b:Bool)(p q:P):Option P:=match p with
 |.int i=>(ID q).bind λ|⟨j,_⟩=>ac (.int (if b then i else j))
 |.il i=>(ilP q).bind λ|⟨j,_⟩=>ac (.il (if b then i else j))
 |_=>a6
theorem NY{b:Bool}{q:P}:OK (pif b p q) λr=>r=if b then p else q:=by
 cases p with
 |int i=>exact OK.bind λj Z=>OK.some (by cases b;exact j.2.symm;rfl)
 |il i=>exact OK.bind λj Z=>OK.some (by cases b;exact j.2.symm;rfl)
 |_=>exact OK.none
noncomputable def nmE:(e:Oa)->Option {x:Ba // ∃p,e=.Name x p}:=Z4 sG sG (λx p=>ac ⟨x,p,rfl⟩) sG XR XR
noncomputable def clE:(e:Oa)->Option {x:Ba×List Oa // ∃a pos,e=.Call (.Name x.1 a) x.2 [] pos}:=Z4 sG sG p8 (λx a args pos=>ac ⟨(x,args),a,pos,rfl⟩) XR XR
noncomputable def rg3(ps:List P)(c:Prop):Option (List Int×Prop):=match ps with
 |[]=>a6
 |p::r=>(ID p).bind λ|⟨a,_⟩=>(match r with
  |[]=>ac (yg 0 a 1,c/\Sm a)
  |p::r=>(ID p).bind λ|⟨b,_⟩=>(match r with
   |[]=>ac (yg a b 1,c/\Sm a/\Sm b)
   |p::r=>(ID p).bind λ|⟨k,_⟩=>(match r with
    |[]=>ac (yg a b k,c/\0 < k/\Sm a/\Sm b/\Sm k)
    |_::_=>a6)))
noncomputable def evR(f:Oa->Option Rs)(args:List Oa):Option (List Int×Prop):=(kJ f args).bind λ|(ps,c)=>rg3 ps c
noncomputable def Q2(f:Oa->Option Rs)(it:Oa):Option (List Int×Prop):=(f it).bind λ|⟨p,_,c⟩=>(ilP p).bind λ|⟨a,_⟩=>ac (a,c)
noncomputable def fS(a:Bool)(f:Oa->Option Rs)(it:Oa):Option (List Int×Prop):=(clE it).elim (Q2 f it) λ|⟨(x,args),_⟩=>bif x==("range":Ba)&&a then evR f args else Q2 f it
theorem Lz{f:Oa->Option Rs}{it:Oa}:OK (Q2 f it) λy=>∃fr,f it=ac ⟨.il y.1,fr,y.2⟩:=
 OK.bind λx e=>OK.bind λa Z=>OK.some ⟨x.fr,e.trans (congrArg (λp=>ac (⟨p,x.fr,x.c⟩:Rs)) a.2)⟩
theorem Qu{b:Bool}{f:Oa->Option Rs}{it:Oa}:OK (fS b f it) λy=>
  (b=a8/\∃a args pos,it=.Call (.Name "range" a) args [] pos/\evR f args=ac y)\/∃fr,f it=ac ⟨.il y.1,fr,y.2⟩:=
 OK.elim (λx Z=>OK.bib (λh y e=>have h:=wa.mp h;x.2.elim λa q=>q.elim λpos q=>.inl ⟨h.2,a,x.1.2,pos,q.trans (by rw[eq_of_beq h.1]),e⟩) λZ y e=>.inr (Lz y e)) λy e=>.inr (Lz y e)
noncomputable def Yl(sc:List (Ba×Lc)):Bool:=sc.lookup ("range":Ba)==ac .globalImplicit
noncomputable def Rs.int?:Option Rs->Int
 |some ⟨.int i,_,_⟩=>i
 |_=>0
def Rs.T4:Option Rs->Prop
 |some ⟨.int _,_,c⟩=>c
 |_=>False
noncomputable def VS:Option (Bool×Prop)->Bool
 |some (b,_)=>b
 |none=>be
noncomputable def N6:Option (Bool×Prop)->Prop
 |some (_,c)=>c
 |none=>False
noncomputable def qc(x:Ba):Bool:=x==("__debug__":Ba)||x==("__classdict__":Ba)
noncomputable def freeOf(scope:He)(σ:List (Ba×P)):List (Ba×P):=σ.filter λy=>scope.names.lookup y.1==ac .free
noncomputable def Zg(sc:List (Ba×Lc))(scope:He):Bool:=
 scope.kind==.function&&scope.names.all (λy=>y.2 != .free||sc.lookup y.1==ac .cell||sc.lookup y.1==ac .free)&&scope.names.all (λy=>y.2 != .free||scope.names.lookup y.1==ac .free)&&scope.names.all (λy=>y.2 != .cell)&&scope.names.all (λy=>y.2 != .local||scope.names.lookup y.1==ac .local)
noncomputable def iQ(o:Option Lc):Bool:=match o with
 |some k=>(match k with
  |.globalImplicit=>a8
  |_=>be)
 |none=>be
theorem Fx{o:Option Lc}(h:iQ o=a8):o=ac .globalImplicit:=by
 cases o with
 |none=>exact nomatch h
 |some k=>cases k with
  |globalImplicit=>rfl
  |_=>exact nomatch h
noncomputable def a0r(o:Option Lc):Bool:=match o with
 |some k=>(match k with
  |.local=>a8
  |_=>be)
 |none=>be
theorem tK{o:Option Lc}(h:a0r o=a8):o=ac .local:=by
 cases o with
 |none=>exact nomatch h
 |some k=>cases k with
  |«local»=>rfl
  |_=>exact nomatch h
noncomputable def evK(c:Const):Option Rs:=match c with
 |.int i=>ac ⟨.int i,a8,True⟩
 |.none=>ac ⟨.none,a8,True⟩
 |.bool b=>ac ⟨.bool b,a8,True⟩
 |_=>a6
noncomputable def evN(G:Ba->Option P)(sc:List (Ba×Lc))(σ:List (Ba×P))(x:Ba):Option Rs:=
 bif qc x then a6 else (σ.lookup x).elim (bif iQ (sc.lookup x) then (G x).bind λp=>ac ⟨p,be,True⟩ else a6) λp=>ac ⟨p,be,True⟩
noncomputable def evU(op:UnaryOp)(r:Option Rs):Option Rs:=match op with
 |.USub=>r.bind λ|⟨p,_,c⟩=>(ID p).bind λ|⟨i,_⟩=>ac ⟨.int (-i),a8,c⟩
 |_=>a6
noncomputable def evB(f:Oa->Option Rs)(l:Oa)(op:Jo)(r:Oa):Option Rs:=(f l).bind λ|⟨p,_,b⟩=>(f r).bind λ|⟨q,_,a⟩=>(hO op p q).bind λ|⟨x,fr,c⟩=>ac ⟨x,fr,(b/\a)/\c⟩
noncomputable def evF(f:Oa->Option Rs)(t b o:Oa):Option Rs:=(eS f t).bind λ|(k,c)=>(f b).bind λ|⟨p,d,g⟩=>(f o).bind λ|⟨q,a,e⟩=>(pif k p q).bind λr=>ac ⟨r,d&&a,c/\(k=a8->g)/\(k=be->e)⟩
noncomputable def tY:(i:Oa)->Option {x:Option Oa×Option Oa // ∃p,i=.Slice x.1 x.2 a6 p}:=Z4 sG sG p8 sG (λa b p=>ac ⟨(a,b),p,rfl⟩) XR
noncomputable def iV(f:Oa->Option Rs):Option Oa->Option (Option Int×Prop)
 |none=>ac (a6,True)
 |some x=>(f x).bind λ|⟨p,_,c⟩=>(ID p).bind λ|⟨i,_⟩=>ac (ac i,c)
noncomputable def slR(a:List Int)(c:Prop)(lo hi:Option Int)(d b:Prop):Option Rs:=match lo with
 |none=>(match hi with
  |none=>a6
  |some j=>ac ⟨.il (a.take j.toNat),a8,(c/\b)/\0<=j/\a.length<=2 ^ 24⟩)
 |some i=>(match hi with
  |none=>ac ⟨.il (a.drop i.toNat),a8,(c/\d)/\0<=i/\i<=a.length/\a.length<=2 ^ 24⟩
  |some j=>ac ⟨.il ((a.drop i.toNat).take (j-i).toNat),a8,(c/\d/\b)/\0<=i/\i<=j/\j<=a.length/\a.length<=2 ^ 24⟩)
noncomputable def a1D(f:Oa->Option Rs)(a:List Int)(c:Prop)(lo hi:Option Oa):Option Rs:=(iV f lo).bind λ|(i,d)=>(iV f hi).bind λ|(j,b)=>slR a c i j d b
noncomputable def a1E(f:Oa->Option Rs)(p:P)(c:Prop)(i:Oa):Option Rs:=(f i).bind λ|⟨q,_,b⟩=>(EW p q).bind λ|⟨x,fr,a⟩=>ac ⟨x,fr,(c/\b)/\a⟩
noncomputable def evS(f:Oa->Option Rs)(v i:Oa):Option Rs:=(nmE v).bind λZ=>(f v).bind λ|⟨p,_,c⟩=>((tY i).elim (a1E f p c i) λ|⟨(lo,hi),_⟩=>(ilP p).bind λ|⟨a,_⟩=>a1D f a c lo hi)
noncomputable def evQ(f:Oa->Option Rs)(fn:Ba->List P->Option Rs)(sc:List (Ba×Lc))(σ:List (Ba×P))(x:Ba)(args:List Oa):Option Rs:=
 bif qc x then a6 else (kJ f args).bind λ|(ps,c)=>((σ.lookup x).elim (bif iQ (sc.lookup x) then (qX x ps).bind (λ|⟨r,fr,a⟩=>ac ⟨r,fr,c/\a⟩) else a6) λp=>
  (adP p).bind λZ=>bif args.isEmpty then a6 else (fn x ps).bind λ|⟨r,_,a⟩=>ac ⟨r,be,c/\a⟩)
noncomputable def a5C:(gs:List Ck)->Option {x:Ba×Oa×List Oa // ∃p,gs=[⟨.Name x.1 p,x.2.1,x.2.2,0⟩]}
 |[⟨.Name x p,it,ifs,.ofNat 0⟩]=>ac ⟨(x,it,ifs),p,rfl⟩
 |_=>a6
noncomputable def gnR(H:Int->Oa->Option Rs)(a:Oa)(xs:List Int)(c:Prop):List Oa->Option Rs
 |[]=>ac ⟨.il (xs.map λv=>Rs.int? (H v a)),a8,c/\xs.length<=2 ^ 24/\∀v∈xs,Rs.T4 (H v a)⟩
 |t::b=>bif b.isEmpty then ac ⟨.il ((xs.filter λv=>VS (eS (H v) t)).map λv=>Rs.int? (H v a)),a8,
   c/\xs.length<=2 ^ 24/\∀v∈xs,N6 (eS (H v) t)/\(VS (eS (H v) t)=a8->Rs.T4 (H v a))⟩ else a6
noncomputable def evG(f:Oa->Option Rs)(g:List (Ba×Lc)->List (Ba×P)->Oa->Option Rs)(sc:List (Ba×Lc))(σ:List (Ba×P))(a:Oa)(gs:List Ck)(scope:He):Option Rs:=
 (a5C gs).bind λ|⟨(y,it,ifs),_⟩=>(bif Zg sc scope&&a0r (scope.names.lookup y) then (fS (Yl sc) f it).bind λ|(xs,c)=>gnR (λv=>g scope.names ((y,.int v)::freeOf scope σ)) a xs c ifs else a6)
noncomputable def ev(G:Ba->Option P)(fn:Ba->List P->Option Rs):Nat->List (Ba×Lc)->List (Ba×P)->Oa->Option Rs
 |0,_,_,_=>a6
 |n+1,sc,σ,e=>match e with
  |.Constant c _ _=>evK c
  |.Name x _=>evN G sc σ x
  |.UnaryOp op x _=>evU op (ev G fn n sc σ x)
  |.BinOp l op r _=>evB (ev G fn n sc σ) l op r
  |.Compare l o r p=>(c5 (ev G fn n sc σ) (.Compare l o r p)).bind λ|(b,c)=>ac ⟨.bool b,a8,c⟩
  |.IfExp t b o _=>evF (ev G fn n sc σ) t b o
  |.List es _=>(kJ (ev G fn n sc σ) es).bind λ|(ps,c)=>(pB ps).bind λis=>ac ⟨.il is,a8,c/\is.length<=2 ^ 24⟩
  |.Subscript v i _=>evS (ev G fn n sc σ) v i
  |.Call f args d p=>(clE (.Call f args d p)).bind λ|⟨(x,args),_⟩=>evQ (ev G fn n sc σ) fn sc σ x args
  |.ListComp a gs scope _=>evG (ev G fn n sc σ) (ev G fn n) sc σ a gs scope
  |_=>a6
def qr(h:Xb):List P->List Value->Prop
 |[],[]=>True
 |p::ps,v::vs=>VR h p v/\qr h ps vs
 |_,_=>False
theorem qr.keeps{h h':Xb}(k:∀b o,h.get? b=ac o->h'.get? b=ac o):∀{ps:List P} {vs:List Value},qr h ps vs->qr h' ps vs
 |[],[],_=>trivial
 |_::_,_::_,x=>⟨x.1.keeps k,qr.keeps k x.2⟩
 |[],_::_,x=>x.elim
 |_::_,[],x=>x.elim
def j4(π:Pa)(w:sa)(N:Nat)(a:ma)(ps:List P)(r:P)(s:aa):Prop:=
 ∀(A:Wc) (s':aa) (vs:List Value),GA N A->Kp s s'->qr s'.heap ps vs->wpAny (ja π w) A (call (.ref a) vs) (Pf s' r be) Hc s'
structure Ek(π:Pa)(w:sa)(N:Nat)(fn:Ba->List P->Option Rs)(σ:List (Ba×P))(s:aa):Prop where
 func:∀f a,σ.lookup f=ac (.addr a)->∃o fd,s.heap.get? a=ac o/\o.data=.func fd
 call:∀f a ps r,σ.lookup f=ac (.addr a)->fn f ps=ac r->r.c->j4 π w N a ps r.p s
theorem Ek.kp(x:Ek π w N fn σ s)(k:Kp s s'):Ek π w N fn σ s':=
 ⟨λf a e=>by obtain ⟨o,fd,g,d⟩:=x.func f a e;exact⟨o,fd,k.get g,d⟩,λf a ps r e q c A Sg vs g k' v=>x.call f a ps r e q c A Sg vs g (k.trans' k') v⟩
structure Kf(π:Pa)(w:sa)(A:Wc)(ν:Al)(f:Oa->Option Rs)(s:aa):Prop where
 ok:∀e r s',Kp s s'->f e=ac r->r.c->wpAny (ja π w) A (eval e ν) (Pf s' r.p r.fr) Hc s'
 star:∀e p,f (.Starred e p)=a6
theorem Kf.kp{f:Oa->Option Rs}(x:Kf π w A ν f s)(k:Kp s s'):Kf π w A ν f s':=
 ⟨λe r Sg k' q c=>x.ok e r Sg (k.trans' k') q c,x.star⟩
section
variable{G:Gl}{f:Oa->Option Rs}
theorem Xi(S:Kf π w A ν f s){e:Oa}{rest:List Oa}{r:Rs}(h:f e=ac r):mf (e::rest) ν=(be,eval e ν)::mf rest ν:=by
 cases e with
 |Starred e p=>rw[S.star] at h;exact nomatch h
 |_=>rfl
theorem Jl{pos:Sd}{t:xc Value}{rest:List (Bool×xc Value)}:Eh pos ((be,t)::rest)=(be,t)::Eh pos rest:=rfl
theorem Kf.go(S:Kf π w A ν f s){x:Oa}{r:Rs}(k:Kp s s')(e:f x=ac r)(hc:r.c)(H:∀v a,Pf s' r.p r.fr v a->Q v a):wpAny (ja π w) A (eval x ν) Q Hc s':=
 Ig (S.ok x r s' k e hc) H
def W3(π:Pa)(w:sa)(A:Wc)(ν:Al)(s:aa)(pos:Sd)(es:List Oa)(y:List P×Prop):Prop:=
 (Eh pos (mf es ν)).any (·.1)=be/\(y.2->wpAny (ja π w) A (Uj (Eh pos (mf es ν))) (λvs s'=>Kp s s'/\qr s'.heap y.1 vs) Hc s)
theorem GB{es:List Oa}:∀{s:aa} (S:Kf π w A ν f s) (pos:Sd),OK (kJ f es) (W3 π w A ν s pos es):=by
 induction es with
 |nil=>exact λS pos=>OK.some ⟨rfl,λZ=>Calls.spliced_nil ⟨.Pg,trivial⟩⟩
 |cons e es d=>exact λS pos=>OK.bind λr h=>OK.bind λq g=>OK.some (by
   delta W3;rw[Xi S h,Jl];exact⟨(d S pos q g).1,λhc=>Calls.spliced_cons (S.go .Pg h hc.1 λv c Eb=>Ig ((d (S.kp Eb.keeps) pos q g).2 hc.2) (λvs b a=>⟨Eb.keeps.trans' a.1,a.1.vr Eb.val,a.2⟩))⟩)
theorem CQ{es:List Oa}{ps:List P}{c:Prop}(S:Kf π w A ν f s)(pos:Sd)(h:kJ f es=ac (ps,c))(hc:c):
  (Eh pos (mf es ν)).any (·.1)=be/\wpAny (ja π w) A (Uj (Eh pos (mf es ν))) (λvs s'=>Kp s s'/\qr s'.heap ps vs) Hc s:=
 (GB S pos _ h).imp_right λq=>q hc
def TsV(π:Pa)(w:sa)(A:Wc)(ν:Al)(s:aa)(e:Oa)(y:Bool×Prop):Prop:=y.2->wpAny (ja π w) A (eval e ν) (Pf s (.bool y.1) a8) Hc s
def TsT(π:Pa)(w:sa)(A:Wc)(ν:Al)(s:aa)(e:Oa)(y:Bool×Prop):Prop:=y.2->∀a,wpAny (ja π w) A (isTrue e ν a) (λt s'=>t=y.1/\Kp s s') Hc s
theorem NQ(S:Kf π w A ν f s)(g:GA n A){l r:Oa}{op:gM}{p q:Rs}{y:Bool×Prop}(t:f l=ac p)(o:f r=ac q)(m:zI op p.p q.p=ac y)(B:p.c)(z:q.c)
  (k:∀s',Kp s s'->Q (.bool y.1) s'):wpAny (ja π w) A (eval l ν) (λa h=>wpAny (ja π w) A (eval r ν) (λb d=>wpAny (ja π w) A (Zu op a b) Q Hc d) Hc h) Hc s:=
 S.go .Pg t B λv h Eb=>S.go Eb.keeps o z λu d e=>Ig (Mt m (e.keeps.vr Eb.val) e.val g.units) (λx j i=>i.1▸i.2▸k d (Eb.keeps.trans' e.keeps))
theorem HB(S:Kf π w A ν f s)(g:GA n A){e:Oa}:OK (c5 f e) λy=>TsV π w A ν s e y/\TsT π w A ν s e y:=
 OK.bind λx Z=>OK.bin λhm=>OK.bind λp h=>OK.bind λq d=>OK.bind λy c=>OK.some (x.2.elim λpos e=>
  ⟨λhc=>e▸a2R (hm:=hm) (NQ S g h d c hc.1.1 hc.1.2 λs' k=>⟨k,rfl,λZ a q=>nomatch q⟩),
   λhc b=>e▸tf (hm:=hm) (NQ S g h d c hc.1.1 hc.1.2 λs' k=>Le ⟨rfl,k⟩)⟩)
theorem CR{op:HM}{y:Oa}{b:Bool}(h:∀a,wpAny (ja π w) A (isTrue y ν a) (λt s'=>t=b/\Kp s s') Hc s):wpAny (ja π w) A (allTrue op [y] ν) (λt s'=>t=b/\Kp s s') Hc s:=by
 rw[arm_allTrue_cons];refine Kb (Ig (h _) (λt d c=>?_));cases op <;> cases t <;> exact la c
theorem a1V{op:HM}{a b:Bool}{c d:Prop}(h:(boR op a b c d).2):c:=by cases op <;> exact h.1
theorem H3{op:HM}{a b:Bool}{f e:Prop}(hc:(boR op a b f e).2){m:xc Bool}{c:aa}(k:Kp s c)(d:e->wpAny (ja π w) A m (λu s'=>u=b/\Kp s s') Hc c):
  wpAny (ja π w) A (match op,a with|.And,be=>pure be|.Or,a8=>pure a8|_,_=>m) (λu s'=>u=(boR op a b f e).1/\Kp s s') Hc c:=by
 cases op <;> cases a
 ·exact la ⟨rfl,k⟩
 ·exact d (hc.2 rfl)
 ·exact d (hc.2 rfl)
 ·exact la ⟨rfl,k⟩
theorem YU{op:HM}{x y:Oa}{pos:Sd}{a b:Bool×Prop}(h1:TsT π w A ν s x a)(h2:∀c,Kp s c->TsT π w A ν c y b):TsT π w A ν s (.BoolOp op [x,y] pos) (boR op a.1 b.1 a.2 b.2):=λhc d=>by
 refine Kb (m:=isTrue x ν (eval x ν)) (Ig (h1 (a1V hc) _) (λt c Eb=>?_));obtain ⟨rfl,k⟩:=Eb;exact H3 hc k λhb=>Ig (CR (op:=op) (h2 c k hb)) λZ Z q=>⟨q.1,k.trans' q.2⟩
theorem hH(S:Kf π w A ν f s)(g:GA n A){e:Oa}:OK (eS f e) (TsT π w A ν s e):=
 OK.elim (λx Z=>OK.bind λZ b=>OK.bind λZ a=>OK.some (x.2.elim λZ e=>e▸YU (HB S g _ b).2 λZ k=>(HB (S.kp k) g _ a).2)) (OK.mono (HB S g) λZ q=>q.2)
theorem TQ(S:Kf π w A ν f s)(r:RE G ν σ s){x:Ba}(k:ν.kindOf x=ac .globalImplicit)(hg:G.mg x=a6)(hv:ei x=ac v)
  (hm:x≠"__name__") (hd:(x==("__debug__":Ba))=be) (e:(∃i,v=.builtin i)\/∃i,v=.type i) {a:Oa} {as:List Oa} {ps:List P} {c:Prop} (he:kJ f (a::as)=ac (ps,c)) (hc:c) {j pos:Sd} (h:∀vs s',Kp s s'->qr s'.heap ps vs->wpAny (ja π w) A (call v vs) Q Hc s'):
  wpAny (ja π w) A (eval (.Call (.Name x j) (a::as) [] pos) ν) Q Hc s:=by
 refine n5 (name_buil r k hg hv hm hd ?_)
 refine(CQ S pos he hc).elim λhp g=>?_
 refine(bnd he).elim λm q=>have l:=q.1;?_
 rw[Xi S l,Jl] at hp g ⊢;have d:wpAny (ja π w) A (xr v a8 ((be,eval a ν)::Eh pos (mf as ν)) []) (λa b=>wpAny (ja π w) A (call v ([]++a.pos) a.kw) Q Hc b) Hc s:=
  CF (Ig g (λvs s' h'=>h vs s' h'.1 h'.2))
 rcases e with ⟨i,rfl⟩|⟨i,rfl⟩
 ·exact Calls.callWith_builtin hp d
 ·exact a2q hp d
theorem qr.nl(x:qr h [] vs):vs=[]:=by
 cases vs with
 |nil=>rfl
 |cons _ _=>exact x.elim
theorem qr.cn{ps:List P}(x:qr h (p::ps) vs):∃v a,vs=v::a/\VR h p v/\qr h ps a:=by
 cases vs with
 |nil=>exact x.elim
 |cons v a=>exact⟨v,a,rfl,x⟩
theorem qr.one(x:qr h [p] vs):∃v,vs=[v]/\VR h p v:=by
 refine ue λhC=>?_;obtain ⟨v,c,rfl,a,b⟩:=x.cn;refine hC ?_;exact⟨v,by rw[b.nl],a⟩
theorem qr.two{q:P}(x:qr h [p,q] vs):∃v u,vs=[v,u]/\VR h p v/\VR h q u:=by
 refine ue λhC=>?_;obtain ⟨v,d,rfl,a,b⟩:=x.cn;obtain ⟨u,rfl,c⟩:=b.one;refine hC ?_;exact⟨v,u,rfl,a,c⟩
theorem qr.three{q r:P}(x:qr h [p,q,r] vs):∃v u t,vs=[v,u,t]/\VR h p v/\VR h q u/\VR h r t:=by
 refine ue λhC=>?_;obtain ⟨v,d,rfl,a,b⟩:=x.cn;obtain ⟨u,t,rfl,c⟩:=b.two;refine hC ?_;exact⟨v,u,t,rfl,a,c⟩
end
noncomputable def qw(x:Int)(n:Nat)(c:Int):List Int:=(Ea n).map λ(i:Nat)=>x+(i:Int)*c
theorem Ht(x:Int)(n:Nat)(c:Int):qw x (n+1) c=x::qw (x+c) n c:=by
 unfold qw;rw[List.range_succ_eq_map,Mb,vg];refine congr (congrArg _ (by simp)) (Wf λi Z=>?_);show x+((i+1:Nat):Int)*c=x+c+(i:Int)*c
 rw[Int.natCast_add,Int.add_mul];simp;lia
inductive Ve (h:Xb) (I:ma):Option ma->List Int->Prop
 |list (l:ma) (vs:List Value) (n i:Nat) (ns:List Int):h.IsListIter I l i->h.get? l=ac (wb vs n)->IntsAre vs ns->l≠I->Ve h I (ac l) (ns.drop i)
 |range (x left og:Int):Vc h I x left og->Ve h I a6 (qw x left.toNat og)
theorem Ve.keeps{I:ma}{L:Option ma}{xs:List Int}(x:Ve h I L xs)(k:∀b o,b=I\/L=ac b->h.get? b=ac o->h'.get? b=ac o):Ve h' I L xs:=by
 cases x with
 |list l vs n i ns a b c d=>
  obtain ⟨o,e,r⟩:=a;exact .list l vs n i ns ⟨o,k _ _ (.inl rfl) e,r⟩ (k _ _ (.inr rfl) b) c d
 |range a b c d=>exact .range a b c (k _ _ (.inl rfl) d)
theorem IntsAre.get(h:IntsAre vs ns):∀(i:Nat) (x:Int),ns[i]?=ac x->∃t,vs[i]?=ac (.int x t):=by
 induction h with
 |nil=>intro i x e;cases i <;> cases e
 |cons n t _ a=>
  intro i x e;cases i with
  |zero=>cases e;exact⟨t,rfl⟩
  |succ i=>simpa using a i x (by simpa using e)
section
variable{G:Gl}{f:Oa->Option Rs}
theorem A0{l:Int}(h:0 < l):l.toNat=(l-1).toNat+1:=(Int.eq_succ_of_zero_lt h).elim λn e=>by rw[e];exact congrArg (·+1) (Ko (n+1) 1).symm
set_option tactic.hygienic true in
theorem Ve.next{I:ma}{L:Option ma}{x:Int}{xs:List Int}{Q:Option Value->aa->Prop}(it:Ve s.heap I L (x::xs))
  (h:∀h' t tk,Ve h' I L xs->Rd I s.heap h'->Q (ac (.int x t)) {s with heap:=h',toks:=tk}):wpAny (ja π w) A (Vh (.ref I)) Q E s:=by
 generalize hl:x::xs=l at it;cases it with
 |list l vs n i ns a b c d=>
  have e:ns[i]?=ac x:=by
   have:=congrArg a2r hl;rw[zS] at this;exact this.symm
  refine(IntsAre.get c i x e).elim λt m=>?_
  refine Tr a ⟨_,b,rfl,_,rfl⟩ (by simpa using m) λh' hi g=>h h' t s.toks ?_ g;have j:xs=ns.drop (i+1):=by
   have:=congrArg a3c hl;rw[aW] at this;exact this
  rw[j];exact .list l vs n (i+1) ns hi (g.extBut _ _ d b) c d
 |range y left og r=>
  have f:0 < left:=by
   cases q:left.toNat with
   |zero=>rw[q] at hl;exact nomatch hl
   |succ k=>exact Int.lt_toNat.mp (q▸Nv k)
  have e:left.toNat=(left-1).toNat+1:=A0 f;rw[e,Ht] at hl;obtain ⟨rfl,rfl⟩:=List.cons.inj hl;exact el r f λh' hi g=>h h' _ _ (.range _ _ _ hi) g
theorem Ve.done{I:ma}{L:Option ma}{Q:Option Value->aa->Prop}(it:Ve s.heap I L [])(f:A.handled=a6)
  (g:∀h',nk I s.heap h'->Q a6 {s with heap:=h'}):wpAny (ja π w) A (Vh (.ref I)) Q E s:=by
 generalize hl:([]:List Int)=l at it;cases it with
 |list l vs n i ns a b c d=>
  have e:vs.length<=i:=by
   have:=congrArg List.length hl;rw[ji] at this;have h2:=c.length;simp at this;lia
  exact nt f a ⟨_,b,rfl,_,rfl⟩ (by simpa using e) g
 |range y left og r=>
  have e:left<=0:=by
   cases q:left.toNat with
   |zero=>lia
   |succ k=>rw[q,Ht] at hl;exact nomatch hl
  exact Nl f r e g
def my(s:aa)(xs:List Int)(a:Value)(s':aa):Prop:=∃I L,a=.ref I/\Kp s s'/\s.heap.get? I=a6/\(∀l,L=ac l->∃vs n,s'.heap.get? l=ac (wb vs n))/\Ve s'.heap I L xs
def bp(s:aa)(xs:List Int)(a:Value)(s':aa):Prop:=∃I,a=.ref I/\Kp s s'/\s.heap.get? I=a6/\Ve s'.heap I a6 xs
theorem bp.to{xs:List Int}(x:bp s xs v s'):my s xs v s':=x.elim λI x=>⟨I,a6,x.1,x.2.1,x.2.2.1,λZ e=>(nomatch e),x.2.2.2⟩
theorem bp.after{b a:aa}{xs:List Int}(k:Kp b a)(x:bp a xs v s'):bp b xs v s':=by
 obtain ⟨I,rfl,c,h,i⟩:=x;exact⟨I,rfl,k.trans' c,Ab k h,i⟩
theorem zK(hv:VR s.heap (.il ns) v):wpAny (ja π w) A (Gi v) (my s ns) E s:=by
 obtain ⟨a,vs,n,rfl,g,i⟩:=hv;refine ai ⟨_,g,rfl,_,rfl⟩ ⟨s.heap.objs.size,ac a,rfl,.push _,bc,?_,?_⟩
 ·intro l e;obtain rfl:=xa e;exact⟨vs,n,ea _ g⟩
 ·have:=Ve.list (h:=s.heap.push {cls:=.type "list_iterator",data:=.fields #[.ref a,.int 0 0]}) (I:=s.heap.objs.size) a vs n 0 ns ⟨_,qa _ rfl,rfl,rfl⟩ (ea _ g) i (Na (Ha g))
  simpa using this
theorem fits_of{i:Int}(h:-(2 ^ 63)<=i)(h':i < 2 ^ 63):P5 i=a8:=wa.mpr ⟨decide_eq_true h,decide_eq_true h'⟩
theorem cK{a b:Int}(c:Sm a)(hb:Sm b):b-a<=2 ^ 63-1:=by have:=c.1;have:=hb.2;lia
theorem wN{a:Int}(h:Sm a):-(2 ^ 63)<=a:=Ph (by decide) (Sk h.1)
theorem xN{a:Int}(h:Sm a):a < 2 ^ 63:=Sp h.2 (by decide)
set_option tactic.hygienic true in
theorem ni{a b k:Int}(hk:0 < k)(e:Sm a)(hb:Sm b)(d:Sm k):Lk a b k=a8/\0<=Gb a b k:=by
 have c:0<=Gb a b k/\Gb a b k<=2 ^ 63-1:=by
  unfold Gb;rw[if_pos hk];split
  ·rename_i h
   have h1:0<=b-a-1:=Int.le_sub_one_of_lt (yo h);exact⟨vA (Int.ediv_nonneg h1 (Sk hk)) (by decide),Ph (Int.add_le_add_right (Int.ediv_le_self _ h1) 1) (by rw[Int.sub_add_cancel];exact cK e hb)⟩
  ·decide
 refine⟨?_,c.1⟩
 have h1:-(2 ^ 63)<=b+(k-1):=by have:=hb.1;lia
 have h2:b+(k-1) < 2 ^ 63:=by have:=hb.2;have:=d.2;lia
 exact wa.mpr ⟨wa.mpr ⟨wa.mpr ⟨wa.mpr ⟨fits_of (wN e) (xN e),fits_of (wN hb) (xN hb)⟩,fits_of (wN d) (xN d)⟩,
  fits_of (Ph (by decide) c.1) (kh c.2 (by decide))⟩,ft.mpr (.inr (by rw[if_pos hk];exact fits_of h1 h2))⟩
theorem IG{a b k:Int}{r:ma}{v:xm}(hk:0 < k)(d:Sm a)(hb:Sm b)(c:Sm k)(hr:Pm s.heap r a b k t u v):
  wpAny (ja π w) A (Gi (.ref r)) (bp s (yg a b k)) E s:=by
 refine(ni hk d hb c).elim λh1 h2=>?_
 refine Dh hr h1 ⟨s.heap.objs.size,rfl,.push _,bc,?_⟩;exact Ve.range a (Gb a b k) k (qa _ rfl)
theorem my.after{b a:aa}{xs:List Int}(k:Kp b a)(x:my a xs v s'):my b xs v s':=by
 obtain ⟨I,L,rfl,c,h,hl,i⟩:=x;exact⟨I,L,rfl,k.trans' c,Ab k h,hl,i⟩
theorem ZC:Sm 0/\Sm 1:=⟨⟨by decide,by decide⟩,by decide,by decide⟩
theorem boot_range:ei "range"=ac (.type "range"):=by decide +kernel
theorem boot_len:ei "len"=ac (.builtin "len"):=by decide +kernel
theorem boot_list:ei "list"=ac (.type "list"):=by decide +kernel
theorem boot_max:ei "max"=ac (.builtin "max"):=by decide +kernel
theorem qn{a b k:Int}(h:Sm k):Sv (b-a) k=be:=qv h
theorem Kp.zW{t:Nat}:Kp s {s with heap:=s.heap.push o,toks:=t}:=⟨_,_,rfl,λZ Z e=>ea _ e⟩
theorem cG{d:aa}(k:Kp s s')(e:Kp s' d){a b c:Int}{r:ma}{v:xm}(h0:0 < c)(f:Sm a)(hb:Sm b)(hc:Sm c)(hr:Pm d.heap r a b c t u v):wpAny (ja π w) A (Gi (.ref r)) (bp s (yg a b c)) Hc d:=
 Ig (IG h0 f hb hc hr) (λZ Z q=>q.after (k.trans' e))
theorem zY{ps:List P}{c:Prop}:OK (rg3 ps c) λy=>y.2->c/\∀vs s',Kp s s'->qr s'.heap ps vs->wpAny (ja π w) A (call (.type "range") vs) (λi f=>wpAny (ja π w) A (Gi i) (bp s y.1) Hc f) Hc s':=by
 cases ps with
 |nil=>exact OK.none
 |cons p ps=>
  refine OK.bind λa Z=>?_;cases ps with
  |nil=>exact OK.some λhc=>⟨hc.1,λvs s' k hv=>(qr.one hv).elim λv q=>(vInt a.2 q.2).elim λt e=>q.1▸e▸Wj (cG k .zW (by decide) ZC.1 hc.2 ZC.2 (fv _ 0 a.1 1 _ _ _))⟩
  |cons m ps=>
   refine OK.bind λb Z=>?_;cases ps with
   |nil=>exact OK.some λhc=>⟨hc.1,λvs s' k hv=>(qr.two hv).elim λv q=>q.elim λu q=>(vInt a.2 q.2.1).elim λt e=>(vInt b.2 q.2.2).elim λt' h=>q.1▸e▸h▸call_range_2 (cG k .zW (by decide) hc.2.1 hc.2.2 ZC.2 (fv _ a.1 b.1 1 _ _ _))⟩
   |cons l ps=>
    refine OK.bind λd Z=>?_;cases ps with
    |nil=>exact OK.some λhc=>⟨hc.1,λvs s' k hv=>(qr.three hv).elim λv q=>q.elim λu q=>q.elim λx q=>(vInt a.2 q.2.1).elim λt e=>(vInt b.2 q.2.2.1).elim λt' h=>(vInt d.2 q.2.2.2).elim λj g=>
     q.1▸e▸h▸g▸call_range_3 (Int.ne_of_gt hc.2.1) (cG k (.push _) hc.2.1 hc.2.2.1 hc.2.2.2.1 hc.2.2.2.2 (fv _ a.1 b.1 d.1 _ _ _)) (.inl (qn hc.2.2.2.2))⟩
    |cons _ _=>exact OK.none
theorem Mz(S:Kf π w A ν f s)(r:RE G ν σ s){d pos:Sd}{args:List Oa}{y:List Int×Prop}
  (h:evR f args=ac y) (hc:y.2) (hk:ν.kindOf "range"=ac .globalImplicit):
  wpAny (ja π w) A (eval (.Call (.Name "range" d) args [] pos) ν) (λc b=>wpAny (ja π w) A (Gi c) (bp s y.1) Hc b) Hc s:=
 (bnd h).elim λx q=>by
  have z:=zY (π:=π) (w:=w) (A:=A) (s:=s) y q.2 hc;cases args with
  |nil=>obtain rfl:=xa q.1;exact nomatch q.2
  |cons a as=>exact TQ S r hk (G.free _ (.tail _ (.head _))) boot_range (by decide) (by decide) (.inr ⟨_,rfl⟩) q.1 z.1 z.2
theorem GU(S:Kf π w A ν f s){it:Oa}{a:List Int}{fr:Bool}{c:Prop}(e:f it=ac ⟨.il a,fr,c⟩)(hc:c):wpAny (ja π w) A (eval it ν) (λd b=>wpAny (ja π w) A (Gi d) (my s a) Hc b) Hc s:=
 S.go .Pg e hc λv b Eb=>Ig (zK Eb.val) (λZ Z q=>q.after Eb.keeps)
theorem FQ{i:Bool}(S:Kf π w A ν f s)(r:RE G ν σ s){it:Oa}{xs:List Int}{c:Prop}(h:fS i f it=ac (xs,c))(hc:c)
  (a:i=a8->ν.kindOf "range"=ac .globalImplicit):
  wpAny (ja π w) A (eval it ν) (λg b=>wpAny (ja π w) A (Gi g) (my s xs) Hc b) Hc s:=
 (Qu _ h).elim (λq=>q.2.elim λj d=>d.elim λargs d=>d.elim λpos d=>d.1▸Ig (Mz S r d.2 hc (a q.1)) (λg b Eb=>Ig Eb (λZ Z q=>q.to))) λq=>q.elim λfr e=>GU S e hc
theorem PI:∀(l:List Int) (m:Int),m<=l.foldl (λm x=>if x > m then x else m) m/\(∀a∈l,a<=l.foldl (λm x=>if x > m then x else m) m)/\(l.foldl (λm x=>if x > m then x else m) m=m\/l.foldl (λm x=>if x > m then x else m) m∈l)
 |[],m=>⟨a2t _,λZ h=>(nomatch h),.inl rfl⟩
 |x::l,m=>by
  rw[Xj];obtain ⟨h1,h2,b⟩:=PI l (if x > m then x else m);have z:m<=(if x > m then x else m)/\x<=(if x > m then x else m):=by split <;> lia
  refine⟨?_,?_,?_⟩
  ·exact Ph z.1 h1
  ·intro a c;rcases La.mp c with rfl|c
   ·exact Ph z.2 h1
   ·exact h2 a c
  ·refine b.elim (λb=>?_) λb=>?_
   ·rw[b];split
    ·exact .inr (.head _)
    ·exact .inl rfl
   ·exact .inr (.tail _ b)
theorem kU{l:List Int}{M:Int}(hm:M∈l)(c:∀a∈l,a<=M):VO l=M:=by
 cases l with
 |nil=>cases hm
 |cons a l=>
  obtain ⟨h1,h2,b⟩:=PI l a;show l.foldl _ a=M
  have u:l.foldl (λm x=>if x > m then x else m) a<=M:=by
   refine b.elim (λb=>?_) λb=>?_
   ·rw[b];exact c a (.head _)
   ·exact c _ (.tail _ b)
  have lo:M<=l.foldl (λm x=>if x > m then x else m) a:=by
   rcases La.mp hm with rfl|hm
   ·exact h1
   ·exact h2 M hm
  lia
theorem AD(l:A.handled=a6)(hl:s.heap.get? a=ac (wb vs n))(hi:IntsAre vs ns)(d:0 < ns.length)
  (h:∀h' tk t,(∀b o,s.heap.get? b=ac o->h'.get? b=ac o)->Q (.int (VO ns) t) {s with heap:=h',toks:=tk}):wpAny (ja π w) A (call (.builtin "max") [.ref a]) Q E s:=by
 refine hi.allInts.items.elim λxs g=>?_;have hn:=hi.numsOf;have f:vs=(intItems xs).toList:=by rw[<- g]
 rw[f,nums_intItems] at hn;have c:xs.size=ns.length:=by rw[<- hn];simp
 refine max_intList l (xs:=xs) (g▸⟨_,hl,rfl,_,rfl⟩) (c▸d) λv h' tk hv hk=>?_;obtain ⟨t,rfl⟩:=intItems_at hv
 refine(argBest_gt (numAt xs) (xs.size-1)).elim λh1 h2=>?_
 have e:VO ns=numAt xs (argBest (λi j=>decide (numAt xs i > numAt xs j)) (xs.size-1)):=by
  refine kU ?_ λb hb=>?_
  ·rw[numAt_eq,hn];exact getD_mem (Hi (jd h1 (yM (Hi d c.symm) LJ)) c)
  ·obtain ⟨j,k,rfl⟩:=mem_getD hb;have:=h2 j (sj (Hi k c.symm));rw[numAt_eq,hn] at this;exact this
 rw[<- e];exact h h' tk t hk
end
structure uj(sc:List (Ba×Lc))(ν:Al):Prop where
 glob:∀x,sc.lookup x=ac .globalImplicit->ν.kindOf x=ac .globalImplicit
 cell:∀x,sc.lookup x=ac .cell\/sc.lookup x=ac .free->ν.kindOf x=ac .cell\/ν.kindOf x=ac .free
noncomputable def jf(cells:List (Ba×ma)):List (Ba×Lc)->List (Ba×ma)->List (Ba×ma)
 |[],jh=>jh
 |(n,k)::r,jh=>if k==.free then jf cells r ((n,(cells.lookup n).getD 0)::jh) else jf cells r jh
theorem qg{scope:He}(h:∀y∈scope.names,y.2=.free->(ν.cells.lookup y.1).isSome=a8):Yr scope ν=pure (jf ν.cells scope.names []):=by
 dsimp only[Yr]
 suffices q:∀(l:List (Ba×Lc)) (jh:List (Ba×ma)),(∀y∈l,y.2=.free->(ν.cells.lookup y.1).isSome=a8)->
   (forIn l jh (λ(x:Ba×Lc) (cs:List (Ba×ma))=>(if (x.2==Nc)=a8 then do
    let c <- cellOf ν x.1
    pure (Tc ((x.1,c)::cs)) else pure (Tc cs):xc (ForInStep (List (Ba×ma))))):xc (List (Ba×ma)))=pure (jf ν.cells l jh) by
  have:=q scope.names [] h
  exact(congrArg (λt:xc (List (Ba×ma))=>t>>=λcs=>pure cs) this).trans rfl
 intro l;induction l with
 |nil=>intro jh _;rfl
 |cons y l f=>
  intro jh b;obtain ⟨n,k⟩:=y;rw[rf];unfold jf;by_cases hk:(k==Nc)=a8
  ·have d:k=.free:=by simpa using hk
   refine(Ud.mp (b (n,k) (.head _) d)).elim λc hc=>?_
   have a:ν.cells.lookup n=ac c:=hc;rw[if_pos hk,if_pos hk];have e:cellOf ν n=pure c:=by unfold cellOf;rw[a]
   rw[e,a];exact f ((n,c)::jh) λz hz=>b z (.tail _ hz)
  ·rw[if_neg hk,if_neg hk];exact f jh λz hz=>b z (.tail _ hz)
theorem jm{cells:List (Ba×ma)}:∀(l:List (Ba×Lc)) (jh:List (Ba×ma)) (x:Ba) (c:ma),(∀y∈l,y.2=.free->(cells.lookup y.1).isSome=a8)->
  (∀c,jh.lookup x=ac c->cells.lookup x=ac c)->(jf cells l jh).lookup x=ac c->cells.lookup x=ac c
 |[],jh,x,c,_,b,h=>b c h
 |(n,k)::r,jh,x,c,d,b,h=>by
  unfold jf at h;by_cases hk:(k==Nc)=a8
  ·rw[if_pos hk] at h;refine jm r _ x c (λz hz=>d z (.tail _ hz)) (λc' h'=>?_) h;rw[Ka] at h';cases e:x==n with
   |true=>
    rw[e] at h'
    refine(Ud.mp (d (n,k) (.head _) (eq_of_beq hk))).elim λa hc=>?_
    have f:cells.lookup n=ac a:=hc;rw[eq_of_beq e];rw[f] at h' ⊢;exact h'
   |false=>rw[e] at h';exact b c' h'
  ·rw[if_neg hk] at h;exact jm r _ x c (λz hz=>d z (.tail _ hz)) b h
theorem bl{cells:List (Ba×ma)}:∀(l:List (Ba×Lc)) (jh:List (Ba×ma)) (x:Ba),((x,Nc)∈l\/(jh.lookup x).isSome=a8)->((jf cells l jh).lookup x).isSome=a8
 |[],jh,x,h=>by
  rcases h with h|h
  ·cases h
  ·exact h
 |(n,k)::r,jh,x,h=>by
  unfold jf;by_cases hk:(k==Nc)=a8
  ·rw[if_pos hk];refine bl r _ x ?_;rw[Ka];cases a:x==n with
   |true=>exact .inr rfl
   |false=>
    rcases h with h|h
    ·rcases La.mp h with e|h
     ·cases e;simp at a
     ·exact .inl h
    ·exact .inr h
  ·rw[if_neg hk];refine bl r _ x ?_;rcases h with h|h
   ·rcases La.mp h with e|h
    ·cases e;simp at hk
    ·exact .inl h
   ·exact .inr h
theorem Qc{α:Type}{l:List (Ba×α)}{x:Ba}{v:α}(h:l.lookup x=ac v):(x,v)∈l:=mem_of_lookup h
theorem Ej(scope:He):∀(σ:List (Ba×P)) (x:Ba) (p:P),(freeOf scope σ).lookup x=ac p->scope.names.lookup x=ac .free/\σ.lookup x=ac p
 |[],_,_,h=>by cases h
 |(y,q)::σ,x,p,h=>by
  unfold freeOf at h;rw[gw] at h;by_cases d:(scope.names.lookup y==ac Nc)=a8
  ·rw[if_pos d,Ka] at h;rw[Ka];cases c:x==y with
   |true=>
    rw[c] at h;exact⟨by rw[eq_of_beq c];exact eq_of_beq d,h⟩
   |false=>
    rw[c] at h;exact Ej scope σ x p h
  ·rw[if_neg d] at h
   refine(Ej scope σ x p h).elim λa b=>?_
   refine⟨a,?_⟩
   rw[Ka];cases c:x==y with
   |true=>
    exact absurd (by rw[<- eq_of_beq c];exact beq_iff_eq.mpr a) d
   |false=>exact b
structure xe(sc:List (Ba×Lc))(scope:He):Prop where
 kind:scope.kind=.function
 free:∀y∈scope.names,y.2=.free->sc.lookup y.1=ac .cell\/sc.lookup y.1=ac .free
 free':∀y∈scope.names,y.2=.free->scope.names.lookup y.1=ac .free
 nocell:∀y∈scope.names,y.2≠.cell
 locs:∀y∈scope.names,y.2=.local->scope.names.lookup y.1=ac .local
theorem xe.of{scope:He}(h:Zg sc scope=a8):xe sc scope:=by
 unfold Zg at h;simp only[Pd,Aa,sy,beq_iff_eq,bne_iff_ne,ne_eq] at h;obtain ⟨⟨⟨⟨a,b⟩,b'⟩,c⟩,d⟩:=h;refine⟨a,λy f e=>?_,λy f e=>?_,λy f=>c y f,λy f e=>?_⟩
 ·rcases b y f with (q|q)|q
  ·exact absurd e q
  ·exact .inl q
  ·exact .inr q
 ·rcases b' y f with q|q
  ·exact absurd e q
  ·exact q
 ·rcases d y f with q|q
  ·exact absurd e q
  ·exact q
set_option tactic.hygienic true in
theorem Po{scope:He}{ν:Al}{x:Ba}:∀{l:List (Ba×Lc)} {k:Lc},l.lookup x=ac k->
  (l.map λ(n,k)=>if (k==Nc&&ν.scope.kind==.function&&ν.kindOf n==ac .cell) then (n,Bh) else (n,k)).lookup x=ac k \/
  (k=.free/\(l.map λ(n,k)=>if (k==Nc&&ν.scope.kind==.function&&ν.kindOf n==ac .cell) then (n,Bh) else (n,k)).lookup x=ac .cell)
 |[],k,h=>by cases h
 |(n,k')::r,k,h=>by
  rw[Mb];dsimp only;rw[Ka] at h;cases a:x==n with
  |true=>
   rw[a] at h;obtain rfl:=xa h;split
   ·rename_i hc
    right
    simp only[Pd,beq_iff_eq] at hc;exact⟨hc.1.1,by rw[Ka,a]⟩
   ·left;rw[Ka,a]
  |false=>
   rw[a] at h;have b:=Po (scope:=scope) (ν:=ν) (x:=x) (l:=r) h;split <;> (rw[Ka,a];exact b)
section
variable{scope:He}{G:Gl}{C:ma}
theorem Bq(x:Ba){k:Lc}(h:scope.names.lookup x=ac k)(hk:k≠.free):(Xd scope (jf ν.cells scope.names []) C ν).kindOf x=ac k:=by
 rcases Po (scope:=scope) (ν:=ν) h with q|q
 ·exact q
 ·exact absurd q.1 hk
theorem Qz(x:Ba)(h:scope.names.lookup x=ac .free):(Xd scope (jf ν.cells scope.names []) C ν).kindOf x=ac .cell\/(Xd scope (jf ν.cells scope.names []) C ν).kindOf x=ac .free:=by
 rcases Po (scope:=scope) (ν:=ν) h with q|q
 ·exact .inr q
 ·exact .inl q.2
set_option tactic.hygienic true in
theorem Oo{ν:Al}{x:Ba}:∀{l:List (Ba×Lc)} {k:Lc},(l.map λ(n,k)=>if (k==Nc&&ν.scope.kind==.function&&ν.kindOf n==ac .cell) then (n,Bh) else (n,k)).lookup x=ac k->
  ∃k',l.lookup x=ac k'/\(k'=k\/(k'=.free/\k=.cell))
 |[],k,h=>by cases h
 |(n,k')::r,k,h=>by
  rw[Mb] at h;dsimp only at h;rw[Ka];cases a:x==n with
  |true=>
   refine⟨k',rfl,?_⟩
   split at h
   ·rename_i hc
    rw[Ka,a] at h;obtain rfl:=xa h;exact .inr ⟨eq_of_beq (wa.mp (wa.mp hc).1).1,rfl⟩
   ·rw[Ka,a] at h;obtain rfl:=xa h;exact .inl rfl
  |false=>
   have:(r.map λ(n,k)=>if (k==Nc&&ν.scope.kind==.function&&ν.kindOf n==ac .cell) then (n,Bh) else (n,k)).lookup x=ac k:=by
    split at h <;> (rw[Ka,a] at h;exact h)
   exact Oo this
theorem Qx(ps:xe sc scope):uj scope.names (Xd scope (jf ν.cells scope.names []) C ν):=
 ⟨λx h=>Bq x h (by decide),λx h=>by
  rcases h with h|h
  ·exact absurd rfl (ps.nocell _ (Qc h))
  ·exact Qz x h⟩
theorem bo(ps:xe sc scope)(so:uj sc ν)(r:RE G ν σ s):∀y∈scope.names,y.2=.free->(ν.cells.lookup y.1).isSome=a8:=
 λy a e=>r.cells _ (so.cell _ (ps.free y a e))
set_option tactic.hygienic true in
theorem Rx(ps:xe sc scope)(so:uj sc ν)(r:RE G ν σ s){m:Ba->Option Value}(hn:s.heap.Ns C m)
  (f:∀x p,τ.lookup x=ac p->scope.names.lookup x=ac .local/\∃v,m x=ac v/\VR s.heap p v):RE G (Xd scope (jf ν.cells scope.names []) C ν) (τ++freeOf scope σ) s:=by
 have g:∀(τ:List (Ba×P)) x,(τ++freeOf scope σ).lookup x=match τ.lookup x with|some p=>ac p|none=>(freeOf scope σ).lookup x:=by
  intro τ x;induction τ with
  |nil=>rfl
  |cons y τ i=>
   obtain ⟨y,q⟩:=y;rw[xj,Ka,Ka];cases x==y with
   |true=>rfl
   |false=>exact i
 refine⟨ps.kind,r.eg,r.eb,r.gs,λx p h=>?_,λx h=>?_⟩
 ·rw[g] at h;split at h
  ·rename_i q e
   obtain rfl:=xa h;refine ue λhC=>?_;obtain ⟨a,v,hm,hv⟩:=f x _ e;refine hC ?_;exact⟨v,.inl ⟨Bq x a (by decide),m,hn,hm⟩,hv⟩
  ·refine(Ej scope σ x p h).elim λa b=>?_
   refine ue λhC=>?_;obtain ⟨v,l,hv⟩:=r.look x p b;refine hC ?_;refine⟨v,.inr ⟨Qz x a,?_⟩,hv⟩
   have hk:=so.cell x (ps.free _ (Qc a) rfl);rcases l with ⟨l,_⟩|⟨_,c,hc,hi⟩
   ·rcases hk with hk|hk <;> (rw[l] at hk;cases hk)
   ·refine⟨c,?_,hi⟩
    refine(Ud.mp (bl (cells:=ν.cells) scope.names [] x (.inl (Qc a)))).elim λc' d=>?_
    have:=jm scope.names [] x c' (bo ps so r) (λc h=>by cases h) d;rw[hc] at this;obtain rfl:=xa this;exact d
 ·have hk:∃k',scope.names.lookup x=ac k'/\k'=.free:=by
   rcases h with h|h
   ·refine ue λhC=>?_;obtain ⟨k',a,b⟩:=Oo h;refine hC ?_;rcases b with rfl|⟨rfl,_⟩
    ·exact absurd rfl (ps.nocell _ (Qc a))
    ·exact⟨_,a,rfl⟩
   ·refine ue λhC=>?_;obtain ⟨k',a,b⟩:=Oo h;refine hC ?_;rcases b with rfl|⟨_,e⟩
    ·exact⟨_,a,rfl⟩
    ·cases e
  refine ue λhC=>?_;obtain ⟨_,a,rfl⟩:=hk;refine hC ?_;exact bl scope.names [] x (.inl (Qc a))
end
section
variable{G:Gl}{scope:He}
def fe(h:Xb)(D:ma)(ns:List Int):Prop:=∃vs n,h.get? D=ac (wb vs n)/\IntsAre vs ns
theorem fe.keeps{D:ma}(x:fe h D ns)(k:∀o,h.get? D=ac o->h'.get? D=ac o):fe h' D ns:=
 x.elim λvs x=>x.elim λn x=>⟨vs,n,k _ x.1,x.2⟩
theorem append_at{D:ma}{i:Int}(l:fe s.heap D ns)(a:ns.length<=2 ^ 24)
  (h:∀h',fe h' D (ns++[i])->Rd D s.heap h'->Q .none {s with heap:=h'}):wpAny (ja π w) A (call (.builtin "list.append") [.ref D,.int i t]) Q E s:=by
 refine ue λhC=>?_;obtain ⟨vs,n,g,hi⟩:=l;refine hC ?_;have hl:=hi.length;refine Pc slot_list_append ⟨_,g,rfl⟩ entry_list_append ?_ (args_list_append _ _);show wpAny _ _ (Xu D (·.push (.int i t))>>=λZ=>ret .none) _ _ s
 refine Kb ?_;have z:vs.toArray.size<=mc:=by simp[mc];lia
 refine Gk (hz:=z) (_hz':=by rw[Mp];lia) g rfl (la ⟨.none,rfl,h _ ?_ (wh ..)⟩);have u:=IsL.update (x:=g) (·.push (.int i t));refine⟨vs++[.int i t],if ((vs.toArray.push (Io i t)).size==vs.toArray.size)=a8 then n else n+1,?_,hi.append (.cons _ _ .nil)⟩
 have e:(vs++[Io i t]).toArray=vs.toArray.push (Io i t):=by simp
 delta wb;rw[e];exact u
theorem Gx(l:h.objs.size<=a):h.get? a=a6:=by
 cases e:h.get? a with
 |none=>rfl
 |some o=>exact absurd (Ha e) (yf.mpr l)
theorem Ve.lt{I:ma}{L:Option ma}{xs:List Int}(it:Ve h I L xs):I < h.objs.size:=by
 cases it with
 |list l vs n i ns a b c d=>exact a.elim λo q=>Ha q.1
 |range a b c d=>exact Ha d
theorem jF{x y:Ba}{q:P}(e:[(x,p)].lookup y=ac q):y=x/\p=q:=by
 rw[Ka] at e;cases a:y==x with
 |true=>rw[a] at e;exact⟨eq_of_beq a,xa e⟩
 |false=>rw[a] at e;exact nomatch e
structure CS(ς:aa)(I D C:ma)(L:Option ma)(MA out:List Int)(s:aa):Prop where
 kp:Kp ς s
 it:Ve s.heap I L MA
 li:fe s.heap D out
 ns:∃m,s.heap.Ns C m
structure CA(ς:aa)(I D C:ma)(L:Option ma):Prop where
 i0:ς.heap.get? I=a6
 d0:ς.heap.get? D=a6
 c0:ς.heap.get? C=a6
 dc:D≠C
 di:D≠I
 ci:C≠I
 l:∀l,L=ac l->l≠D/\l≠C
section
variable{I D C:ma}{L:Option ma}{MA out:List Int}
theorem dh(e:h.get? a=ac o)(n:h.get? b=a6):a≠b:=λq=>nomatch (q▸e:h.get? b=ac o).symm.trans n
theorem CS.step(x:CS ς I D C L MA out s)(k:Kp s s'):CS ς I D C L MA out s':=⟨x.kp.trans' k,x.it.keeps λZ Z Z e=>k.get e,x.li.keeps λZ e=>k.get e,x.ns.imp λZ n=>n.keeps λZ Z e=>k.get e⟩
set_option tactic.hygienic true in
theorem CS.next(x:CS ς I D C L MA out s)(c:CA ς I D C L){g:List Int}{d a:Xb}{m:Ba->Option Value}{tk:Nat}(i:Ve d I L g)(j:Rd I s.heap d)(f:Rd C d a)(n:a.Ns C m):CS ς I D C L g out {s with heap:=a,toks:=tk}:=
 have up:∀b o,b≠I->b≠C->s.heap.get? b=ac o->a.get? b=ac o:=λb o p k e=>f.extBut b o k (j.extBut b o p e)
 ⟨x.kp.elim λh q=>q.elim λt q=>⟨a,tk,q.1▸rfl,λb o e=>up b o (dh e c.i0) (dh e c.c0) (x.kp.get e)⟩,
  i.keeps λb o q e=>f.extBut b o (q.elim (λq=>q▸qb c.ci) λq=>(c.l b q).2) e,x.li.keeps λo e=>up D o c.di c.dc e,m,n⟩
theorem CS.app(x:CS ς I D C L MA out s)(c:CA ς I D C L){a:List Int}(l:fe h' D a)(d:Rd D s.heap h'):CS ς I D C L MA a {s with heap:=h'}:=
 ⟨x.kp.elim λh q=>q.elim λt q=>⟨h',s.toks,q.1▸rfl,λb o e=>d.extBut b o (dh e c.d0) (x.kp.get e)⟩,
  x.it.keeps λb o q e=>d.extBut b o (q.elim (λq=>q▸qb c.di) λq=>(c.l b q).1) e,l,x.ns.imp λm n=>n.sameBut d (qb c.dc)⟩
end
theorem yK{I:ma}{L:Option ma}{xs:List Int}(it:Ve s.heap I L xs)(h:Q (.ref I) s):wpAny (ja π w) A (Gi (.ref I)) Q E s:=by
 cases it with
 |list l vs n i ns a b c d=>exact vt a h
 |range a b c d=>exact Ur d h
set_option tactic.hygienic true in
theorem Pz{elt iter:Oa}{x:Ba}{px:Sd}{ifs:List Oa}{pos:Sd}{I:ma}{L:Option ma}{xs:List Int}(g:GA n A)(ps:xe sc scope)(so:uj sc ν)(hx:scope.names.lookup x=ac .local)
  (a0y:Kp ς s) (N:ς.heap.get? I=a6) (it:Ve s.heap I L xs) (hL:∀l,L=ac l->∃vs n,s.heap.get? l=ac (wb vs n)) (r:RE G ν σ ς) (aS:xs.length<=2 ^ 24) (z:Int->Bool) (val:Int->Int)
  (T:∀C s' v,v∈xs->Kp ς s'->RE G (Xd scope (jf ν.cells scope.names []) C ν) ((x,.int v)::freeOf scope σ) s'->
   wpAny (ja π w) A (forIn ifs a8 λc r=>if r=a8 then do let ok <- isTrue c (Xd scope (jf ν.cells scope.names []) C ν) (eval c (Xd scope (jf ν.cells scope.names []) C ν));pure (Tc ok) else pure (Tc r))
    (λok Sg=>ok=z v/\Kp s' Sg) Hc s')
  (VP:∀C s' v,v∈xs->z v=a8->Kp ς s'->RE G (Xd scope (jf ν.cells scope.names []) C ν) ((x,.int v)::freeOf scope σ) s'->
   wpAny (ja π w) A (eval elt (Xd scope (jf ν.cells scope.names []) C ν)) (λy Sg=>(∃t,y=.int (val v) t)/\Kp s' Sg) Hc s')
  {RR:Value->ma->Yd->aa->Prop}
  (hRR:∀D C h' tk m',ς.heap.get? D=a6->ς.heap.get? C=a6->D≠C->h'.Ns C m'->fe h' D ((xs.filter z).map val)->(∀b o,ς.heap.get? b=ac o->h'.get? b=ac o)->RR (.ref D) C (.ok .next) {ς with heap:=h',toks:=tk}):
  wpAny (ja π w) A (sM []) (λjh i=>wpAny (ja π w) A (sF scope ν.globals (jf ν.cells scope.names []) [] ν.qual a6 .none (ac ν)) (λcenv l7=>
   codeAny (ja π w) A (.compStart (.ListComp elt [⟨.Name x px,iter,ifs,0⟩] scope pos) 0 (.ref I) jh {cenv with scope:=relabel scope ν}) (RR jh cenv.locals) l7) Hc i) Hc s:=by
 refine Ed (ou ps.nocell (λ_ hy=>nomatch hy) (λEb j f=>?_) ps.kind);dsimp only at j f ⊢;generalize hH2:s.heap.push {cls:=.type "list",dict:=a6,data:=.seq ([]:List Value).toArray}=Y at j f ⊢;have hC:Y.objs.size=s.heap.objs.size+1:=by rw[<- hH2,pd]
 have M:s.heap.objs.size < Y.objs.size:=hC▸Xc _;have old:∀b o,s.heap.get? b=ac o->Eb.get? b=ac o:=λb o e=>f.extBut b o (Na (zj (Ha e) M)) (ea _ (hH2▸ea _ e));have no:∀{a:ma},s.heap.objs.size<=a->ς.heap.get? a=a6:=λha=>Ab a0y (Gx ha);have a1j:I < s.heap.objs.size:=it.lt;have V:CA ς I s.heap.objs.size Y.objs.size L:=⟨N,no (yb _),no (uc M),Na M,Td a1j,Td (zj a1j M),λl e=>(hL l e).elim λvs q=>q.elim λn q=>
  have h:=Ha q;⟨Na h,Na (zj h M)⟩⟩
 have a0q:∀{i:aa},CS ς I s.heap.objs.size Y.objs.size L xs [] i->
   codeAny (ja π w) A (.compLoop (.ListComp elt [⟨.Name x px,iter,ifs,0⟩] scope pos) 0 (.ref I) (.ref s.heap.objs.size) (Xd scope (jf ν.cells scope.names []) Y.objs.size ν))
    (RR (.ref s.heap.objs.size) Y.objs.size) i:=by
  intro i d;refine codeAny_compLoop_tests (λk s'=>∃done MA,xs=done++MA/\k=MA.length/\CS ς I s.heap.objs.size Y.objs.size L MA ((done.filter z).map val) s') ?_ xs.length ⟨[],xs,rfl,rfl,d⟩
  rintro k s' ⟨done,MA,J,rfl,c'⟩
  cases MA with
  |nil=>
   refine Ve.done c'.it g.hd λHK O=>?_;rw[Gh] at J;subst J;refine ue λhC=>?_;obtain ⟨h',tk',rfl,k'⟩:=c'.kp;refine hC ?_;exact c'.ns.elim λm n=>hRR _ _ HK tk' m V.d0 V.c0 V.dc (n.extBut O V.ci) (c'.li.keeps λo e=>O _ o V.di e) λb o e=>O b o (dh e N) (k' b o e)
  |cons v MA=>
   refine Ve.next c'.it λHK t B a0E kN=>?_;refine c'.ns.elim λm' n'=>Ob (ie (Bq x hx (by decide)) (n'.sameBut kN V.ci) (λa0M i8 i=>?_) (by show(scope.kind==.class||(scope.kind==.module&&_))=be;rw[ps.kind];rfl));have d:=c'.next (tk:=B+1) V a0E kN i i8;have H:∀{Sg:aa},Kp {s' with heap:=a0M,toks:=B+1} Sg->RE G (Xd scope (jf ν.cells scope.names []) Y.objs.size ν) ((x,.int v)::freeOf scope σ) Sg:=λkp=>
    Rx (τ:=[(x,.int v)]) ps so (r.kp (d.kp.trans' kp)) (m:=λy=>if y=x then ac (.int v t) else m' y) (i8.keeps λb o e=>kp.get e) λy p e=>have q:=jF e;⟨q.1.symm▸hx,_,if_pos q.1,q.2▸⟨t,rfl⟩⟩
   generalize ({s' with heap:=a0M,toks:=B+1}:aa)=o7 at d H ⊢;have hv:v∈xs:=J▸Mc _ (.head _);have a0P:xs=(done++[v])++MA:=by rw[J,Nh];rfl
   refine Ub (T _ _ v hv d.kp (H .Pg)) (λok l7 Ah=>?_) λ_ _ e=>e.elim
   obtain ⟨rfl,E⟩:=Ah;have out:(((done++[v]).filter z).map val)=((done.filter z).map val)++(if z v=a8 then [val v] else []):=by
    rw[dM,Ic,gw];split <;> rfl
   cases hv':z v with
   |false=>
    rw[if_neg ih];refine⟨MA.length,Xc _,done++[v],MA,a0P,rfl,?_⟩
    rw[out,hv',if_neg ih,Gh];exact d.step E
   |true=>
    rw[if_pos rfl];refine Ub (VP _ _ v hv hv' (d.kp.trans' E) (H E)) (λy a7O a5b=>?_) λ_ _ e=>e.elim
    refine ue λhC=>?_;obtain ⟨⟨u,rfl⟩,a4R⟩:=a5b;refine hC ?_;have a1P:=d.step (E.trans' a4R);refine append_at a1P.li ?_ λa9e a4z a3G=>⟨MA.length,Xc _,done++[v],MA,a0P,rfl,?_⟩
    ·rw[cb];refine ka (Oq _ _) (ka ?_ aS);rw[J,Nb];exact Za _ _
    ·rw[out,hv',if_pos rfl];exact a1P.app V a4z a3G
 have a0F:Ve Eb I L xs:=it.keeps λb o _ e=>old b o e;have Q:CS ς I s.heap.objs.size Y.objs.size L xs [] {s with heap:=Eb,toks:=s.toks+([]:List (Ba×Value)).length}:=
  ⟨a0y.trans' ⟨Eb,_,rfl,old⟩,a0F,⟨[],_,f.extBut _ _ V.dc (ea _ (hH2▸qa _ rfl)),.nil⟩,_,j⟩
 exact uM (a0q Q) (yK Q.it (a0q Q))
end
section
variable{G:Gl}
theorem Eg{x:Ba}(h:qc x=be):(x==("__debug__":Ba))=be/\(x==("__classdict__":Ba))=be:=Vl.mp h
theorem Ek.sub{scope:He}{x:Ba}{v:Int}(h:Ek π w N fn σ s):Ek π w N fn ((x,.int v)::freeOf scope σ) s:=by
 have b:∀f a,((x,P.int v)::freeOf scope σ).lookup f=ac (.addr a)->σ.lookup f=ac (.addr a):=by
  intro f a e;rw[Ka] at e;split at e
  ·cases e
  ·exact(Ej scope σ f _ e).2
 exact⟨λf a e=>h.func f a (b f a e),λf a ps r e q c=>h.call f a ps r (b f a e) q c⟩
theorem UI(e:h.get? a=ac (wb vs n)):h.IsList a vs.toArray:=⟨_,e,rfl,n,rfl⟩
theorem Ij{x:Ba}{px:Sd}(r:RE G ν σ s)(a:qc x=be)(e:σ.lookup x=ac p)
  (h:∀v,VR s.heap p v->Q v s):wpAny (ja π w) A (eval (.Name x px) ν) Q Hc s:=by
 refine ue λhC=>?_;obtain ⟨v,l,hv⟩:=r.look x p e;refine hC ?_;exact vd r.kind l (Eg a).1 (Eg a).2 (h v hv)
theorem z0{b i:Oa}{a:List Int}{k:Int}(hl:s.heap.get? l=ac (wb vs n))(hi:IntsAre vs a)
  (h0:-(a.length:Int)<=k) (h1:k < a.length) (h2:a.length<=2 ^ 24) (e:ru i be (.ref l) (.int k u)=Xr [.ref l,.int k u] (Vj (.ref l) (.int k u))):
  wpAny (ja π w) A (Zv b i (.ref l) (.int k u)) (Pf s (.int (ae a k)) a8) Hc s:=by
 refine tail_any (UI hl).typeIs slot_list_getitem.lookup ?_ e;delta ae;by_cases hk:0<=k
 ·rw[if_pos hk];exact getItem_intsK (UI hl) hi hk h1 (by lia) λt=>Pf.a0K _ t
 ·rw[if_neg hk];have c:vs.toArray.size=a.length:=by simp[hi.length]
  obtain ⟨t,d⟩:=IntsAre.get hi (k+a.length).toNat (a.getD (k+a.length).toNat 0) (by
   rw[ua,Sa (by lia)];rfl)
  exact wpAny_getItem_list_neg (UI hl) (by lia) (by rw[c];exact h0) (by lia) (by rw[c];simpa using d) (Pf.a0K _ t)
theorem XF{c:aa}{l:ma}{n:Nat}{a:List Int}{f d:Value}{lo hi:Option Int}(k:Kp s c)(g:IntsAre (QL vs.toArray lo hi a6).toList ns):
  Pf s (.il ns) a8 (.ref (c.heap.objs.size+1)) {c with heap:=(c.heap.push {cls:=.type "slice",data:=.fields #[f,d,.none]}).push {cls:=.type "list",data:=.seq (QL vs.toArray lo hi a6)}}:=by
 have hz:(c.heap.push {cls:=.type "slice",data:=.fields #[f,d,.none]}).objs.size=c.heap.objs.size+1:=pd ..;refine Pf.after (s':=c) k ⟨⟨_,c.toks,rfl,λb o e=>ea _ (ea _ e)⟩,⟨_,_,0,rfl,?_,g⟩,λZ b e=>?_⟩
 ·rw[<- hz];have:=qa (c.heap.push {cls:=.type "slice",data:=.fields #[f,d,.none]}) (o:={cls:=.type "list",data:=.seq (QL vs.toArray lo hi a6)}) rfl
  simpa [wb] using this
 ·cases e
  cases q:c.heap.get? (c.heap.objs.size+1) with
  |none=>rfl
  |some o=>exact absurd (Ha q) (yf.mpr (Se _))
end
section
variable{G:Gl}
theorem Fz{h:Xb}:∀{ps:List P},OK (pB ps) λis=>∀vs,qr h ps vs->IntsAre vs is
 |[]=>OK.some λvs x=>x.nl▸.nil
 |p::ps=>OK.bind λi Z=>OK.bind λis e=>OK.some λvs x=>x.cn.elim λv q=>q.elim λa q=>(vInt i.2 q.2.1).elim λt b=>q.1▸b▸.cons i.1 t (Fz is e a q.2.2)
theorem vV(g:GA N A)(r:RE G ν σ s)(so:uj sc ν){m it:Oa}{x:Ba}{px:Sd}{ifs:List Oa}{scope:He}{pos:Sd}
  (u:Zg sc scope=a8) (V:scope.names.lookup x=ac .local) {f:Oa->Option Rs} (S:Kf π w A ν f s) {xs:List Int} {c:Prop} (hI:fS (Yl sc) f it=ac (xs,c)) (hc:c) (p:xs.length<=2 ^ 24)
  (d:Int->Bool) (val:Int->Int)
  (i:∀C s' v,v∈xs->Kp s s'->RE G (Xd scope (jf ν.cells scope.names []) C ν) ((x,.int v)::freeOf scope σ) s'->
   wpAny (ja π w) A (forIn ifs a8 λc r=>if r=a8 then do let ok <- isTrue c (Xd scope (jf ν.cells scope.names []) C ν) (eval c (Xd scope (jf ν.cells scope.names []) C ν));pure (Tc ok) else pure (Tc r))
    (λok Sg=>ok=d v/\Kp s' Sg) Hc s')
  (l:∀C s' v,v∈xs->d v=a8->Kp s s'->RE G (Xd scope (jf ν.cells scope.names []) C ν) ((x,.int v)::freeOf scope σ) s'->
   wpAny (ja π w) A (eval m (Xd scope (jf ν.cells scope.names []) C ν)) (λy Sg=>(∃t,y=.int (val v) t)/\Kp s' Sg) Hc s')
  (Y:∀y,Me it ν y=pure y):
  wpAny (ja π w) A (eval (.ListComp m [⟨.Name x px,it,ifs,0⟩] scope pos) ν) (Pf s (.il ((xs.filter d).map val)) a8) Hc s:=by
 have ps:=xe.of u;rw[aw];refine Hg (use:=a6) rfl Y (qg (bo ps so r)) ps.kind ps.locs ?_;refine Ig (FQ S r hI hc λh=>?_) (λxv H Eb=>Ig Eb (λQ E k=>?_))
 ·exact so.glob _ (by simpa [Yl] using h)
 refine ue λhC=>?_;obtain ⟨I,L,rfl,O,z,hL,n⟩:=k;refine hC ?_;refine Pz (ς:=s) g ps so V O z n hL r p d val i l ?_;intro D C h' tk M hD hC B hn hl hk;refine⟨M,hn,λyC J=>?_⟩
 obtain ⟨vs,n',gD,T⟩:=hl;have j:∀b o,s.heap.get? b=ac o->yC.get? b=ac o:=λb o e=>J.extBut b o (λq=>by rw[q,hC] at e;exact nomatch e) (hk b o e);exact⟨⟨yC,tk,rfl,j⟩,⟨D,vs,n',rfl,J.extBut _ _ B gD,T⟩,λZ a e=>by cases e;exact hD⟩
theorem Jh{i:Oa}{o d:Value}(h:∀a b c p,i≠.Slice a b c p):ru i be o d=Xr [o,d] (Vj o d):=by
 cases i <;> first|rfl|exact absurd rfl (h _ _ _ _)
theorem XU(e:Oa)(p:Sd):ev G.gv fn n sc σ (.Starred e p)=a6:=by
 cases n <;> rfl
theorem AQ(a b c:Option Oa)(p:Sd):ev G.gv fn n sc σ (.Slice a b c p)=a6:=by
 cases n <;> rfl
set_option tactic.hygienic true in
theorem w0{o:Option Rs}(h:Rs.T4 o):∃i fr c,o=ac ⟨.int i,fr,c⟩/\Rs.int? o=i/\c:=by
 unfold Rs.T4 at h;split at h
 ·rename_i i fr c;exact⟨i,fr,c,rfl,rfl,h⟩
 ·exact h.elim
theorem Wt{it:Oa}(f:Oa->Option Rs){c:Bool}{y:List Int×Prop}(h:fS c f it=ac y)(b:∀a k p,f (.Set a k p)=a6)(y:Value):Me it ν y=pure y:=by
 have hn:∀a k p,it≠.Set a k p:=by
  rintro a k p rfl
  exact(Qu _ h).elim (λq=>q.2.elim λZ q=>q.elim λZ q=>q.elim λZ q=>nomatch q.1) λq=>q.elim λfr e=>nomatch (b ..).symm.trans e
 cases it <;> first|rfl|exact absurd rfl (hn _ _ _)
theorem BQ(a:List Oa)(k:Nat)(p:Sd):ev G.gv fn n sc σ (.Set a k p)=a6:=by
 cases n <;> rfl
end
section
variable{G:Gl}
section
variable{f:Oa->Option Rs}
def EV(π:Pa)(w:sa)(A:Wc)(ν:Al)(s:aa)(e:Oa)(y:Rs):Prop:=y.c->wpAny (ja π w) A (eval e ν) (Pf s y.p y.fr) Hc s
theorem P2{c:Const}{p:Sd}:OK (evK c) (EV π w A ν s (.Constant c k p)):=by
 cases c with
 |int i=>exact OK.some λZ=>qd (Pf.int _ _)
 |none=>exact OK.some λZ=>ik Pf.none
 |bool b=>exact OK.some λZ=>wpAny_Constant_bool (Pf.bool _)
 |_=>exact OK.none
theorem O2(r:RE G ν σ s)(so:uj sc ν){x:Ba}{px:Sd}:OK (evN G.gv sc σ x) (EV π w A ν s (.Name x px)):=
 OK.bin λa=>OK.elim (λp e=>OK.some λZ=>Ij r a e λv hv=>⟨.Pg,hv,λq=>nomatch q⟩)
  (OK.bif λhk=>OK.bind λp e=>OK.some λZ=>(G.gok x p e).elim λv q=>Tg r (so.glob x (Fx hk)) q.1 (Eg a).1 ⟨.Pg,q.2 _,λq=>nomatch q⟩)
theorem I2(S:Kf π w A ν f s){op:UnaryOp}{x:Oa}{p:Sd}:OK (evU op (f x)) (EV π w A ν s (.UnaryOp op x p)):=by
 cases op with
 |USub=>exact OK.bind λx e=>OK.bind λi Z=>OK.some λhc=>wpAny_UnaryOp (S.go .Pg e hc λv a h=>(vInt i.2 h.val).elim λt q=>q▸a2l (Pf.after h.keeps (Pf.int _ _)))
 |_=>exact OK.none
theorem U2(S:Kf π w A ν f s){l r:Oa}{op:Jo}{p:Sd}:OK (evB f l op r) (EV π w A ν s (.BinOp l op r p)):=
 OK.bind λa j=>OK.bind λb i=>OK.bind λx h=>OK.some λhc=>Mg (S.go .Pg j hc.1.1 λv g d=>S.go d.keeps i hc.1.2 λu e c=>
  Ig (jD h hc.2 (c.keeps.vr d.val) c.val) (λZ Z q=>q.after (d.keeps.trans' c.keeps)))
theorem S2(g:GA N A)(S:Kf π w A ν f s){t b o:Oa}{p:Sd}:OK (evF f t b o) (EV π w A ν s (.IfExp t b o p)):=
 OK.bind λk u=>OK.bind λx r=>OK.bind λy n=>OK.bind λi m=>OK.some λhc=>wpAny_IfExp (Ub (hH S g _ u hc.1 _) (λz j h=>by
  obtain ⟨k,c⟩:=k;obtain ⟨rfl,d⟩:=h;have l:=NY i m;cases z with
  |true=>exact S.go d r (hc.2.1 rfl) λv e a=>⟨d.trans' a.keeps,l.symm▸a.val,λq=>(a.after d).fresh (wa.mp q).1⟩
  |false=>exact S.go d n (hc.2.2 rfl) λv e a=>⟨d.trans' a.keeps,l.symm▸a.val,λq=>(a.after d).fresh (wa.mp q).2⟩) λZ Z q=>q)
theorem cV(S:Kf π w A ν f s){es:List Oa}{p:Sd}:OK ((kJ f es).bind λ|(ps,c)=>(pB ps).bind λis=>ac ⟨.il is,a8,c/\is.length<=2 ^ 24⟩) (EV π w A ν s (.List es p)):=
 OK.bind λq e=>OK.bind λis d=>OK.some λhc=>Vr (Ig ((GB S p q e).2 hc.1) (λvs b a=>have hi:=Fz is d vs a.2;⟨by rw[hi.length];exact hc.2,Pf.after a.1 (Pf.list hi _ rfl)⟩))
theorem lN{a:List Int}(hI:IntsAre vs a)(h:a.length<=2 ^ 24):vs.toArray.size<=mc:=by
 rw[Qf,hI.length];exact ka h (by decide)
theorem lJ(S:Kf π w A ν f s){x:Option Oa}:OK (iV f x) λy=>y.2->∀s',Kp s s'->wpAny (ja π w) A (evalPart x ν) (λu Sg=>a3e u y.1/\Kp s' Sg) Hc s':=by
 cases x with
 |none=>exact OK.some λZ s' k=>la ⟨.none,.Pg⟩
 |some x=>exact OK.bind λr e=>OK.bind λi Z=>OK.some λhc s' k=>S.go k e hc λv a h=>(vInt i.2 h.val).elim λt q=>⟨q▸.int _ _,h.keeps⟩
theorem uY{a:List Int}{c:Prop}{lo hi:Option Int}{e d:Prop}:OK (slR a c lo hi e d) λy=>y.fr=a8/\(y.c->(c/\(lo.isSome=a8->e)/\(hi.isSome=a8->d))/\a.length<=2 ^ 24/\∃ns,y.p=.il ns/\∀vs,IntsAre vs a->IntsAre (QL vs.toArray lo hi a6).toList ns):=by
 have b:∀{p:Prop},(a6:Option Int).isSome=a8->p:=λq=>nomatch q
 cases lo <;> cases hi
 ·exact OK.none
 ·exact OK.some ⟨rfl,λh=>⟨⟨h.1.1,b,λZ=>h.1.2⟩,h.2.2,_,rfl,λvs hI=>slice_ints_uptoW hI h.2.1⟩⟩
 ·exact OK.some ⟨rfl,λh=>⟨⟨h.1.1,λZ=>h.1.2,b⟩,h.2.2.2,_,rfl,λvs hI=>slice_ints_from hI h.2.1 h.2.2.1⟩⟩
 ·exact OK.some ⟨rfl,λh=>⟨⟨h.1.1,λZ=>h.1.2.1,λZ=>h.1.2.2⟩,h.2.2.2.2,_,rfl,λvs hI=>slice_ints hI h.2.1 h.2.2.1 h.2.2.2.1⟩⟩
theorem Nz{x:Option Oa}:OK (iV f x) λy=>(y.1.isSome=a8->y.2)->y.2:=by
 cases x with
 |none=>exact OK.some λZ=>trivial
 |some x=>exact OK.bind λr e=>OK.bind λi Z=>OK.some λh=>h rfl
theorem bV(S:Kf π w A ν f s){n:Ba}{k:Sd}{r:Rs}{a:List Int}(e:f (.Name n k)=ac r)(B:r.p=.il a){p pos:Sd}{lo hi:Option Oa}:OK (a1D f a r.c lo hi) (EV π w A ν s (.Subscript (.Name n k) (.Slice lo hi a6 p) pos)):=
 OK.bind λx u=>OK.bind λy t=>λz C hc=>by
  have q:=uY z C;refine ue λhC=>?_;obtain ⟨⟨h1,h2,v⟩,hz,ns,ep,i⟩:=q.2 hc;refine hC ?_;refine wpAny_Subscript_list_slice (S.go .Pg e h1 λo g h=>?_);refine Ig (lJ S x u (Nz x u h2) g h.keeps) (λE d b=>?_);refine Ig (lJ S y t (Nz y t v) d (h.keeps.trans' b.2)) (λD j Ah=>?_);refine ue λhC=>?_;obtain ⟨l,vs,m,rfl,hl,hI⟩:=vIl B h.val;refine hC ?_;refine⟨l,vs.toArray,x.1,y.1,rfl,UI (Ah.2.get (b.2.get hl)),lN hI hz,b.1,Ah.1,?_⟩
  rw[ep,q.1];exact XF (l:=l) (n:=m) (a:=a) (h.keeps.trans' (b.2.trans' Ah.2)) (i vs hI)
theorem gO{q:P}:OK (EW p q) λx=>∃a k,p=.il a/\q=.int k/\x=⟨.int (ae a k),a8,-(a.length:Int)<=k/\k < a.length/\a.length<=2 ^ 24⟩:=OK.bind λa Z=>OK.bind λk Z=>OK.some ⟨a.1,k.1,a.2,k.2,rfl⟩
theorem eV(S:Kf π w A ν f s)(h:∀a b c p,f (.Slice a b c p)=a6){v i:Oa}{pos:Sd}{r:Rs}(e:f v=ac r):OK (a1E f r.p r.c i) (EV π w A ν s (.Subscript v i pos)):=
 OK.bind λq j=>OK.bind λx C=>OK.some λhc=>by
  refine ue λhC=>?_;obtain ⟨a,k,B,z,rfl⟩:=gO x C;refine hC ?_;refine Mj (S.go .Pg e hc.1.1 λo y g=>S.go g.keeps j hc.1.2 λu n d=>?_);refine ue λhC=>?_;obtain ⟨l,vs,m,rfl,hl,hI⟩:=vIl B g.val;obtain ⟨t,rfl⟩:=vInt z d.val;refine hC ?_;exact Ig (z0 (d.keeps.get hl) hI hc.2.1 hc.2.2.1 hc.2.2.2 (Jh λa b c p q=>by rw[q,h] at j;exact nomatch j)) (λZ Z q=>q.after (g.keeps.trans' d.keeps))
theorem K2(S:Kf π w A ν f s)(d:∀a b c p,f (.Slice a b c p)=a6){v i:Oa}{pos:Sd}:OK (evS f v i) (EV π w A ν s (.Subscript v i pos)):=OK.bind λn Z=>by
 refine ue λhC=>?_;obtain ⟨n,px,rfl⟩:=n;refine hC ?_;exact OK.bind λp e=>OK.elim (λx Z=>OK.bind λa Z=>x.2.elim λps q=>q▸bV S e a.2) (eV S d e)
theorem call_one(S:Kf π w A ν f s)(r:RE G ν σ s){x:Ba}{j pos:Sd}{args:List Oa}{y:List P×Prop}{a:List Int}(hk:ν.kindOf x=ac .globalImplicit)(hg:G.mg x=a6)(hv:ei x=ac v)
  (hm:x≠"__name__") (hd:(x==("__debug__":Ba))=be) (g:(∃i,v=.builtin i)\/∃i,v=.type i) (e:kJ f args=ac y) (ep:y.1=[p]) (n:p=.il a) (hc:y.2)
  (h:∀c l ws m,Kp s c->c.heap.get? l=ac (wb ws m)->IntsAre ws a->wpAny (ja π w) A (call v [.ref l]) Q Hc c):wpAny (ja π w) A (eval (.Call (.Name x j) args [] pos) ν) Q Hc s:=by
 cases args with
 |nil=>obtain rfl:=xa e;exact nomatch ep
 |cons b bs=>
  refine TQ S r hk hg hv hm hd g e hc λvs c d hv=>?_;obtain ⟨u,rfl,k⟩:=qr.one (ep▸hv);obtain ⟨l,ws,m,rfl,hl,hI⟩:=vIl n k;exact h c l ws m d hl hI
theorem tR(g:GA N A)(S:Kf π w A ν f s)(r:RE G ν σ s){x:Ba}{j pos:Sd}{args:List Oa}(hk:ν.kindOf x=ac .globalImplicit){y:List P×Prop}(i:kJ f args=ac y)(hc:y.2):
  OK (qX x y.1) λrs=>rs.c->wpAny (ja π w) A (eval (.Call (.Name x j) args [] pos) ν) (Pf s rs.p rs.fr) Hc s:=
 OK.bind λp Z=>OK.bind λa Z=>OK.bib (λhf=>OK.some λhr=>by
   obtain rfl:=eq_of_beq hf;refine call_one S r hk (G.free _ (.head _)) boot_len (by decide) (by decide) (.inl ⟨_,rfl⟩) i p.2 a.2 hc λe l ws m d hl hI=>?_;refine Calls.call_len_list (UI hl) (by have:=lN hI hr;unfold mc at this;lia) ?_;rw[Qf,hI.length];exact Pf.after d (Pf.int _ _))
  λZ=>OK.bib (λhf=>OK.some λhr=>by
   obtain rfl:=eq_of_beq hf;exact call_one S r hk (G.free _ (.tail _ (.tail _ (.head _)))) boot_list (by decide) (by decide) (.inr ⟨_,rfl⟩) i p.2 a.2 hc λe l ws m d hl hI=>PySem.call_list_seq l (.inl rfl) hl rfl rfl (λh' c' h hn=>
    Pf.after d ⟨⟨h',e.toks,rfl,h⟩,⟨_,ws,c',rfl,hn,hI⟩,λZ b q=>cg q▸bc⟩) (lN hI hr))
  λZ=>OK.bif λhf=>OK.some λhr=>by
   obtain rfl:=eq_of_beq hf;exact call_one S r hk (G.free _ (.tail _ (.tail _ (.tail _ (.head _))))) boot_max (by decide) (by decide) (.inl ⟨_,rfl⟩) i p.2 a.2 hc λe l ws m d hl hI=>AD g.hd hl hI hr λh' tk t h=>
    Pf.after d ⟨⟨h',tk,rfl,h⟩,⟨t,rfl⟩,λZ b q=>nomatch q⟩
theorem N2(g:GA N A)(S:Kf π w A ν f s)(r:RE G ν σ s)(so:uj sc ν)(F:Ek π w N fn σ s){x:Ba}{m pos:Sd}{args:List Oa}:OK (evQ f fn sc σ x args) (EV π w A ν s (.Call (.Name x m) args [] pos)):=
 OK.bin λn=>OK.bind λy k=>OK.elim (λp j=>OK.bind λa Z=>OK.bin λt=>OK.bind λq i=>OK.some λhc=>by
   obtain ⟨a,rfl⟩:=a;cases args with
   |nil=>exact nomatch t
   |cons b bs=>
    refine n5 (Ij r n j λv hv=>?_);obtain rfl:v=.ref a:=hv;refine ue λhC=>?_;obtain ⟨o,fd,h,hd⟩:=F.func x a j;refine hC ?_;have d:=GB S pos y k;unfold W3 at d
    refine(bnd k).elim λu l=>?_
    rw[Xi S l.1,Jl] at d ⊢;refine callWith_function (o:=o) (fd:=fd) (CF (Ig (d.2 hc.1) (λvs e c=>?_)));exact⟨⟨c.1.get h,hd⟩,Ig (F.call x a y.1 q j i hc.2 A e vs g c.1 c.2) (λZ Z q=>q.after c.1)⟩)
  (OK.bif λhk=>OK.bind λq i=>OK.some λhc=>tR g S r (so.glob x (Fx hk)) k hc.1 q i hc.2)
theorem gV(g:GA N A)(S:Kf π w A ν f s)(r:RE G ν σ s)(so:uj sc ν)(F:Ek π w N fn σ s){e:Oa}:OK ((clE e).bind λ|⟨(x,args),_⟩=>evQ f fn sc σ x args) (EV π w A ν s e):=
 OK.bind λx Z y h hc=>x.2.elim λa q=>q.elim λpos q=>by rw[q];exact N2 g S r so F y h hc
theorem fV(g:GA N A)(S:Kf π w A ν f s){e:Oa}:OK ((c5 f e).bind λ|(b,c)=>ac ⟨.bool b,a8,c⟩) (EV π w A ν s e):=OK.bind λb a=>OK.some λhc=>(HB S g b a).1 hc
theorem cY{o:Option (Bool×Prop)}(h:N6 o):∃c,o=ac (VS o,c)/\c:=by
 cases o with
 |none=>exact h.elim
 |some x=>exact⟨x.2,rfl,h⟩
end
def sX(π:Pa)(w:sa)(A:Wc)(H:Int->Oa->Option Rs)(ifs:List Oa)(b:Int->Bool)(v:Int):Prop:=∀a s',Kf π w A a (H v) s'->
 wpAny (ja π w) A (forIn ifs a8 λc r=>if r=a8 then do let ok <- isTrue c a (eval c a);pure (Tc ok) else pure (Tc r)) (λok Sg=>ok=b v/\Kp s' Sg) Hc s'
theorem jQ(g:GA N A){f:Oa->Option Rs}{H:Int->Oa->Option Rs}(S:Kf π w A ν f s)(r:RE G ν σ s)(so:uj sc ν){x:Ba}{px pos:Sd}{d it:Oa}{ifs:List Oa}{scope:He}{y:List Int×Prop}
  (m:∀C s' v,Kp s s'->RE G (Xd scope (jf ν.cells scope.names []) C ν) ((x,.int v)::freeOf scope σ) s'->Kf π w A (Xd scope (jf ν.cells scope.names []) C ν) (H v) s') (l:Zg sc scope=a8) (o:scope.names.lookup x=ac .local)
  (n:fS (Yl sc) f it=ac y) (h:∀a k p,f (.Set a k p)=a6) (hc:y.2) (hz:y.1.length<=2 ^ 24) (b:Int->Bool) (e:∀v∈y.1,sX π w A H ifs b v)
  (hv:∀v∈y.1,b v=a8->Rs.T4 (H v d)):wpAny (ja π w) A (eval (.ListComp d [⟨.Name x px,it,ifs,0⟩] scope pos) ν) (Pf s (.il ((y.1.filter b).map λv=>Rs.int? (H v d))) a8) Hc s:=
 vV g r so l o S n hc hz b (λv=>Rs.int? (H v d)) (λC s' v hm k j=>e v hm _ s' (m C s' v k j))
  (λC s' v hm ht k j=>(w0 (hv v hm ht)).elim λi q=>q.elim λfr q=>q.elim λc q=>(m C s' v k j).go .Pg q.1 q.2.2 λy Sg h'=>⟨q.2.1.symm▸h'.val,h'.keeps⟩) λy=>Wt f n h y
theorem W0(g:GA N A){H:Int->Oa->Option Rs}{b:Oa}{xs:List Int}{c:Prop}{ifs:List Oa}:OK (gnR H b xs c ifs) λrs=>rs.c->c/\xs.length<=2 ^ 24/\∃a,(∀v∈xs,sX π w A H ifs a v)/\(∀v∈xs,a v=a8->Rs.T4 (H v b)) /\
  rs.fr=a8/\rs.p=.il ((xs.filter a).map λv=>Rs.int? (H v b)):=by
 cases ifs with
 |nil=>exact OK.some λhc=>⟨hc.1,hc.2.1,λZ=>a8,λZ Z Z Z Z=>la ⟨rfl,.Pg⟩,λv hv Z=>hc.2.2 v hv,rfl,by rw[et.mpr λZ Z=>rfl]⟩
 |cons t h=>
  refine OK.bif λe=>OK.some λhc=>⟨hc.1,hc.2.1,λv=>VS (eS (H v) t),λv hv d s' f=>?_,λv hv=>(hc.2.2 v hv).2,rfl,rfl⟩;rw[List.isEmpty_iff.mp e,rf,if_pos rfl]
  exact(cY (hc.2.2 v hv).1).elim λc q=>Kb (Kb (Ub (hH f g _ q.1 q.2 _) (λok Sg h'=>la (la h')) λZ Z q=>q))
theorem R2(g:GA N A){f:Oa->Option Rs}{h:List (Ba×Lc)->List (Ba×P)->Oa->Option Rs}(S:Kf π w A ν f s)(r:RE G ν σ s)(so:uj sc ν)(F:Ek π w N fn σ s)
  (b:∀a k p,f (.Set a k p)=a6) (l:∀sc σ ν s,RE G ν σ s->uj sc ν->Ek π w N fn σ s->Kf π w A ν (h sc σ) s)
  {c:Oa} {gs:List Ck} {scope:He} {pos:Sd}:OK (evG f h sc σ c gs scope) (EV π w A ν s (.ListComp c gs scope pos)):=OK.bind λy Z=>OK.bif λd=>OK.bind λxs n rs m hc=>y.2.elim λpx q=>by
 have d:=wa.mp d;have e:=W0 (π:=π) (w:=w) g rs m hc;refine e.2.2.elim λi z=>?_;rw[q,z.2.2.1,z.2.2.2];exact jQ (px:=px) g S r so (λC s' v k j=>l scope.names _ _ s' j (Qx (xe.of d.1)) ((F.kp k).sub)) d.1 (tK d.2) n b e.1 e.2.1 i z.1 z.2.1
theorem Mk(g:GA N A):∀(n:Nat) (sc:List (Ba×Lc)) (σ:List (Ba×P)) (ν:Al) (s:aa),RE G ν σ s->uj sc ν->Ek π w N fn σ s->Kf π w A ν (ev G.gv fn n sc σ) s
 |0,_,_,_,_,_,_,_=>⟨λe r s' Z h=>(nomatch h),λe p=>rfl⟩
 |n+1,sc,σ,ν,s,r,so,F=>by
  refine⟨λe rs m j h hc=>?_,λe p=>XU e p⟩
  have a:=r.kp j;have d:=F.kp j;have S:=Mk g n sc σ ν m a so d;cases e with
  |Constant c k p=>exact P2 _ h hc
  |Name x p=>exact O2 a so _ h hc
  |UnaryOp op x p=>exact I2 S _ h hc
  |BinOp l op r p=>exact U2 S _ h hc
  |Compare l o r p=>exact fV g S _ h hc
  |IfExp t b o p=>exact S2 g S _ h hc
  |List es p=>exact cV S _ h hc
  |Subscript v i p=>exact K2 S AQ _ h hc
  |Call f args u p=>exact gV g S a so d _ h hc
  |ListComp q gs scope p=>exact R2 g S a so d BQ (Mk g n) _ h hc
  |_=>exact nomatch h
end
noncomputable def mI:List Ba:=["line","now","old"]
noncomputable def ov:List Ba:="rests"::mI
structure St(G:Gl)(ν:Al)(rd:List Ba)(σ:List (Ba×P))(δ:Ba->ma)(ς:aa)(K:ma->Jb->Prop)(s:aa):Prop where
 kind:ν.scope.kind=.function
 eg:ν.globals=Kd
 eb:ν.builtins=td
 g0:GS G ς.heap
 sh:∃h tk,s={ς with heap:=h,toks:=tk}
 k0:∀b o,ς.heap.get? b=ac o->K b o
 ks:∀b o,K b o->s.heap.get? b=ac o
 ns:∃m,s.heap.Ns ν.locals m
 nl:∀o,¬K ν.locals o
 ce:∀x c,ν.cells.lookup x=ac c->∃v,s.heap.IsCell c v
 nc:∀x c,ν.cells.lookup x=ac c->ν.kindOf x=ac .cell->∀o,¬K c o
 inj:∀x y c,ν.cells.lookup x=ac c->ν.cells.lookup y=ac c->x=y
 cells:∀x,(ν.kindOf x=ac .cell\/ν.kindOf x=ac .free)->(ν.cells.lookup x).isSome=a8
 look:∀x p,σ.lookup x=ac p->∃v,Look ν s.heap x v/\VR s.heap p v/\∀ns,p=.il ns->v=.ref (δ x)
 new:∀x ns,σ.lookup x=ac (.il ns)->x∉rd->x∉mI->∀o,¬K (δ x) o
 apart:∀x y ns ms,x∉ov->x≠y->σ.lookup x=ac (.il ns)->σ.lookup y=ac (.il ms)->δ x≠δ y
section
variable{G:Gl}
theorem St.kp(x:St G ν rd σ δ ς K s):Kp ς s:=x.sh.elim λh y=>y.elim λt e=>⟨h,t,e,λb o q=>by have:=x.ks b o (x.k0 b o q);rw[e] at this;exact this⟩
theorem St.re(x:St G ν rd σ δ ς K s):RE G ν σ s:=
 ⟨x.kind,x.eg,x.eb,x.g0.keeps λZ Z e=>x.kp.get e,λy p e=>(x.look y p e).elim λv y=>⟨v,y.1,y.2.1⟩,x.cells⟩
theorem St.step(x:St G ν rd σ δ ς K s)(k:Kp s s'):St G ν rd σ δ ς K s':=
 {x with
  sh:=(by obtain ⟨h,t,rfl⟩:=x.sh;obtain ⟨h',t',rfl,_⟩:=k;exact⟨h',t',rfl⟩)
  ks:=λb o q=>k.get (x.ks b o q)
  ns:=x.ns.elim λm n=>⟨m,n.keeps λZ Z e=>k.get e⟩
  ce:=λy c e=>(x.ce y c e).elim λv i=>⟨v,i.keeps λZ Z e=>k.get e⟩
  look:=λy p e=>(x.look y p e).elim λv y=>⟨v,y.1.keeps λZ Z e=>k.get e,k.vr y.2.1,y.2.2⟩}
theorem St.sub(x:St G ν rd σ δ ς K s)(h:∀y p,τ.lookup y=ac p->σ.lookup y=ac p):St G ν rd τ δ ς K s:=
 {x with
  look:=λy p e=>x.look y p (h y p e)
  new:=λy ns e=>x.new y ns (h y _ e)
  apart:=λy z ns ms r n e a=>x.apart y z ns ms r n (h _ _ e) (h _ _ a)}
theorem TA{c:ma}{m:Ba->Option Value}{v:Option Value}(n:h.Ns a m)(i:h.IsCell c v):a≠c:=by
 rintro rfl
 obtain ⟨o,es,ep,e,d,_⟩:=n;obtain ⟨o',b,d'⟩:=i;rw[e] at b;cases b;rw[d] at d';cases d'
theorem II{m:Ba->Option Value}(x:h.Ns a m)(b:h.get? l=ac (wb vs n)):a≠l:=by
 rintro rfl
 obtain ⟨o,es,ep,e,d,_⟩:=x;rw[e] at b;cases b;cases d
theorem Vz{c:ma}{v:Option Value}(x:h.IsCell c v)(a:h.get? l=ac (wb vs n)):c≠l:=by
 rintro rfl
 obtain ⟨o,e,d⟩:=x;rw[e] at a;cases a;cases d
theorem MT{m b:Ba->Option Value}(x:h.Ns a m)(y:h.Ns a b):m=b:=by
 refine ue λhC=>?_;obtain ⟨o,es,ep,e,d,_,q⟩:=x;obtain ⟨o',g,i,c,d',_,f⟩:=y;refine hC ?_;rw[e] at c;cases c;rw[d] at d';cases d'
 funext k
 rw[<- q,<- f]
theorem TM{c:ma}(x:VR h p v)(k:∀b o,b≠c->h.get? b=ac o->h'.get? b=ac o)(hc:∀l vs n,h.get? l=ac (wb vs n)->l≠c):VR h' p v:=by
 cases p with
 |il ns=>obtain ⟨a,vs,n,e,g,i⟩:=x;exact⟨a,vs,n,e,k _ _ (hc _ _ _ g) g,i⟩
 |_=>exact x
theorem Gd{y z:Ba}{q:P}(e:((y,p)::σ).lookup z=ac q):z=y/\p=q\/z≠y/\σ.lookup z=ac q:=by
 rw[Ka] at e;cases hz:z==y with
 |true=>rw[hz] at e;exact .inl ⟨eq_of_beq hz,xa e⟩
 |false=>rw[hz] at e;exact .inr ⟨λq=>(nomatch (beq_iff_eq.mpr q).symm.trans hz),e⟩
theorem St.slot(x:St G ν rd σ δ ς K s){y:Ba}(hv:VR s.heap p v)
  (hl:∀ns,p=.il ns->v=.ref a/\(y∉rd->y∉mI->∀o,¬K a o)/\∀z ms,z≠y->(y∉ov\/z∉ov)->σ.lookup z=ac (.il ms)->a≠δ z) {c:ma} {tk:Nat} (C:Rd c s.heap h') (A:∀o,¬K c o) (j:∀l vs n,s.heap.get? l=ac (wb vs n)->l≠c)
  (t:Look ν h' y v) (r:∃m,h'.Ns ν.locals m) (w:∀z d,ν.cells.lookup z=ac d->∃v,h'.IsCell d v) (h:∀z u,z≠y->Look ν s.heap z u->Look ν h' z u):
  St G ν rd ((y,p)::σ) (λz=>if z=y then a else δ z) ς K {s with heap:=h',toks:=tk}:=
 have k:∀b o,b≠c->s.heap.get? b=ac o->h'.get? b=ac o:=λb o hb e=>C.extBut b o hb e
 {x with
  sh:=x.sh.elim λh0 q=>q.elim λD q=>⟨h',tk,q▸rfl⟩
  ks:=λb o e=>k b o (λq=>A o (q▸e)) (x.ks b o e)
  ns:=r
  ce:=w
  look:=λz q e=>(Gd e).elim (λd=>by
    rw[d.1,<- d.2];exact⟨v,t,TM hv k j,λns hp=>(hl ns hp).1.trans (congrArg _ (if_pos rfl).symm)⟩) λd=>(x.look z q d.2).imp λu f=>⟨h z u d.1 f.1,TM f.2.1 k j,λns hp=>(f.2.2 ns hp).trans (congrArg _ (if_neg d.1).symm)⟩
  new:=λz ns e hr g=>(Gd e).elim (λd=>by
    show∀o,¬K (if z=y then a else δ z) o
    rw[if_pos d.1]
    exact(hl ns d.2).2.1 (d.1▸hr) (d.1▸g)) λd=>by
    show∀o,¬K (if z=y then a else δ z) o
    rw[if_neg d.1];exact x.new z ns d.2 hr g
  apart:=λz f ns ms hr i e B=>by
   show(if z=y then a else δ z)≠(if f=y then a else δ f)
   refine(Gd e).elim (λd=>?_) λd=>(Gd B).elim (λd'=>?_) λd'=>?_
   ·have h2:f≠y:=λq=>i (d.1.trans q.symm);rw[if_pos d.1,if_neg h2]
    exact(hl ns d.2).2.2 f ms h2 (.inl (d.1▸hr)) ((Gd B).elim (λd'=>absurd d'.1 h2) λd'=>d'.2)
   ·rw[if_neg d.1,if_pos d'.1];exact qb ((hl ms d'.2).2.2 z ns d.1 (.inr hr) d.2)
   ·rw[if_neg d.1,if_neg d'.1];exact x.apart z f ns ms hr i d.2 d'.2}
theorem St.bind(x:St G ν rd σ δ ς K s){y:Ba}(hk:ν.kindOf y=ac .local\/ν.kindOf y=ac .cell)(hv:VR s.heap p v)
  (hl:∀ns,p=.il ns->v=.ref a/\(y∉rd->y∉mI->∀o,¬K a o)/\∀z ms,z≠y->(y∉ov\/z∉ov)->σ.lookup z=ac (.il ms)->a≠δ z):
  wpAny (ja π w) A (PL ν y v) (λZ s'=>St G ν rd ((y,p)::σ) (λz=>if z=y then a else δ z) ς K s') Hc s:=by
 refine x.ns.elim λm hm=>hk.elim (λhk=>?_) λhk=>?_
 ·refine ie hk hm (λh' hn f=>?_) (by rw[x.kind];rfl);exact x.slot hv hl f x.nl (λl vs n e=>qb (II hm e)) (.inl ⟨hk,_,hn,if_pos rfl⟩) ⟨_,hn⟩ (λz d e=>(x.ce z d e).imp λu i=>i.sameBut f (qb (TA hm i))) λz u g h=>
   h.imp (λq=>⟨q.1,q.2.elim λr b=>⟨_,hn,(if_neg g).trans (MT hm b.1▸b.2)⟩⟩) λq=>⟨q.1,q.2.imp λc b=>⟨b.1,b.2.sameBut f (qb (TA hm b.2))⟩⟩
 ·refine(Ud.mp (x.cells y (.inl hk))).elim λc hc=>(x.ce y c hc).elim λt i0=>?_
  refine wpAny_storeName_cell x.kind hk hc i0 λh' hn f=>?_;have j:ν.locals≠c:=TA hm i0;exact x.slot hv hl f (x.nc y c hc hk) (λl vs n e=>qb (Vz i0 e)) (.inr ⟨.inl hk,c,hc,hn⟩) ⟨m,hm.sameBut f j⟩ (λz d e=>(YE d c).byCases (λq=>⟨_,q▸hn⟩) λq=>(x.ce z d e).imp λu i=>i.sameBut f q) λz u g h=>
   h.imp (λq=>⟨q.1,q.2.imp λr b=>⟨b.1.sameBut f j,b.2⟩⟩) λq=>⟨q.1,q.2.imp λd b=>⟨b.1,b.2.sameBut f λk=>g (x.inj z y c (k▸b.1) hc)⟩⟩
theorem St.list(x:St G ν rd σ δ ς K s){y:Ba}(e:σ.lookup y=ac (.il ns)):Look ν s.heap y (.ref (δ y))/\∃vs m,s.heap.get? (δ y)=ac (wb vs m)/\IntsAre vs ns:=
 (x.look y _ e).elim λv a=>a.2.1.elim λl q=>q.elim λvs q=>q.elim λm q=>have z:=cg (q.1.symm.trans (a.2.2 ns rfl));⟨a.2.2 ns rfl▸a.1,vs,m,z▸q.2.1,q.2.2⟩
theorem St.apL(x:St G ν rd σ δ ς K s)(e:s.heap.get? l=ac (wb vs n)):ν.locals≠l/\∀y c,ν.cells.lookup y=ac c->c≠l:=
 ⟨x.ns.elim λm hm=>II hm e,λy c a=>(x.ce y c a).elim λu i=>Vz i e⟩
end
def SP(G:Gl)(ν:Al)(rd:List Ba)(σ:List (Ba×P))(δ:Ba->ma)(as:List Ba)(ς:aa)(K:ma->Jb->Prop)(s:aa):Prop:=
 ∃a,(∀z,z∉as->a z=δ z)/\St G ν rd σ a ς K s
section
variable{G:Gl}{as:List Ba}
 {K':ma->Jb->Prop} {Q:Ff->aa->Prop}
theorem SP.of(x:St G ν rd σ δ ς K s):SP G ν rd σ δ as ς K s:=⟨δ,λZ Z=>rfl,x⟩
theorem SP.sub(x:SP G ν rd σ δ as ς K s)(h:∀y p,τ.lookup y=ac p->σ.lookup y=ac p):SP G ν rd τ δ as ς K s:=x.elim λa x=>⟨a,x.1,x.2.sub h⟩
theorem St.weak(x:St G ν rd σ δ ς K s)(h:∀b o,K' b o->K b o)(h0:∀b o,ς.heap.get? b=ac o->K' b o):St G ν rd σ δ ς K' s:=
 {x with k0:=h0,ks:=λb o e=>x.ks b o (h b o e),nl:=λo e=>x.nl o (h _ _ e),nc:=λy c a b o e=>x.nc y c a b o (h _ _ e),new:=λy ns a b c o e=>x.new y ns a b c o (h _ _ e)}
set_option tactic.hygienic true in
theorem zb{st:Ya}{rest:List Ya}{R:aa->Prop}(h:wpAny (ja π w) A (Cg st ν) (λf s'=>f=.next/\R s') Hc s)(k:∀s',R s'->wpAny (ja π w) A (Oc rest ν) Q Hc s'):
  wpAny (ja π w) A (Oc (st::rest) ν) Q Hc s:=
 wpAny_execs_cons (Ig h (λf s' q=>by obtain ⟨rfl,q⟩:=q;exact k s' q))
theorem Wx{fr:Bool}(x:St G ν rd σ δ ς K s)(c:Pf s p fr v s')(f:∀ns,p=.il ns->fr=a8)(y:Ba):
  ∃a,∀ns,p=.il ns->v=.ref a/\(y∉rd->y∉mI->∀o,¬K a o)/\∀z ms,z≠y->(y∉ov\/z∉ov)->σ.lookup z=ac (.il ms)->a≠δ z:=by
 cases p with
 |il ns=>exact c.val.elim λa q=>q.elim λvs q=>q.elim λm q=>have hn:=c.fresh (f ns rfl) a q.1
   ⟨a,λg Z=>⟨q.1,λZ Z o d=>(nomatch (x.ks a o d).symm.trans hn),λz ms Z Z hz d=>(x.list hz).2.elim λws b=>b.elim λm b=>(nomatch ((congrArg s.heap.get? d).trans b.1).symm.trans hn)⟩⟩
 |_=>exact⟨0,λns e=>nomatch e⟩
set_option tactic.hygienic true
theorem JL(g:GA N A)(so:uj sc ν)(F:Ek π w N fn σ s)(x:St G ν rd σ δ ς K s){y:Ba}{k pos:Sd}{b:Oa}{r:Rs}(e:ev G.gv fn n sc σ b=ac r)(hc:r.c)(l:y∈as)
  (hk:ν.kindOf y=ac .local\/ν.kindOf y=ac .cell) (h:∀ns,r.p=.il ns->r.fr=a8) (m:Lf b (ac (.Name y k)) pos.line ν=pure be):
  wpAny (ja π w) A (Cg (.Assign [.Name y k] b pos) ν) (λf s'=>f=.next/\SP G ν rd ((y,r.p)::σ) δ as ς K s') Hc s:=by
 refine PySem.wpAny_Assign_Name ?_ m;refine Ig ((Mk g n sc σ ν s x.re so F).ok b r s .Pg e hc) (λv j Eb=>?_)
 refine(Wx x Eb h y).elim λa o=>?_
 refine Ig ((x.step Eb.keeps).bind hk Eb.val o) (λ_ i d=>⟨rfl,_,λz hz=>?_,d⟩);exact if_neg λ(q:z=y)=>hz (q▸l)
theorem fC(x:St G ν rd σ δ ς K s){y z:Ba}{j i pos:Sd}(hz:σ.lookup z=ac (.il ns))(k:qc z=be)(c:y∈mI)(d:z∈ov)(l:y∈as)
  (hk:ν.kindOf y=ac .local\/ν.kindOf y=ac .cell) (m:Lf (.Name z i) (ac (.Name y j)) pos.line ν=pure be):
  wpAny (ja π w) A (Cg (.Assign [.Name y j] (.Name z i) pos) ν) (λf s'=>f=.next/\SP G ν rd ((y,.il ns)::σ) δ as ς K s') Hc s:=by
 refine PySem.wpAny_Assign_Name ?_ m
 refine(x.look z _ hz).elim λu q=>vd x.kind q.1 (Eg k).1 (Eg k).2 ?_
 refine Ig (x.bind (y:=y) (p:=.il ns) (a:=δ z) hk q.2.1 λms e=>⟨q.2.2 ns rfl,λ_ h=>absurd c h,λv ks _ hr n=>?_⟩) (λ_ g b=>⟨rfl,_,λv hv=>if_neg λ(q:v=y)=>hv (q▸l),b⟩);have hv:v∉ov:=hr.resolve_left λh=>h (.tail _ c);exact qb (x.apart v z ks ns hv (λq=>hv (q▸d)) n hz)
theorem ME(x:St G ν rd σ δ ς K s){y z:Ba}{k j pos:Sd}(hz:σ.lookup z=ac (.il ns))(l:qc z=be)(g:y∈mI)(d:z∉ov)(n:y∈as)
  (hk:ν.kindOf y=ac .local\/ν.kindOf y=ac .cell) (o:Lf (.Name z j) (ac (.Name y k)) pos.line ν=pure be) (b:∀v p,τ.lookup v=ac p->v≠z/\σ.lookup v=ac p):
  wpAny (ja π w) A (Cg (.Assign [.Name y k] (.Name z j) pos) ν) (λf s'=>f=.next/\SP G ν rd ((y,.il ns)::τ) δ as ς K s') Hc s:=by
 refine PySem.wpAny_Assign_Name ?_ o
 refine(x.look z _ hz).elim λu q=>vd x.kind q.1 (Eg l).1 (Eg l).2 ?_
 refine Ig ((x.sub λv p e=>(b v p e).2).bind (y:=y) (p:=.il ns) (a:=δ z) hk q.2.1 λms e=>⟨q.2.2 ns rfl,λ_ h=>absurd g h,λv ks _ hr m=>?_⟩) (λ_ i c=>⟨rfl,_,λv hv=>if_neg λ(q:v=y)=>hv (q▸n),c⟩);exact x.apart z v ns ks d (qb (b v _ m).1) hz (b v _ m).2
set_option tactic.hygienic false
theorem dG(g:GA N A)(so:uj sc ν)(F:Ek π w N fn σ s)(x:St G ν rd σ δ ς K s){pos:Sd}{a:Oa}{r:Rs}(e:ev G.gv fn n sc σ a=ac r)(hc:r.c)(h:∀v s',Pf s r.p r.fr v s'->Q (.ret v) s'):
  wpAny (ja π w) A (Cg (.Return (ac a) pos) ν) Q Hc s:=
 wpAny_Return_some (Ig ((Mk g n sc σ ν s x.re so F).ok a r s .Pg e hc) (λv b Eb=>h v b Eb))
theorem HP(g:GA N A)(so:uj sc ν)(F:Ek π w N fn σ s)(x:St G ν rd σ δ ς K s){t:Oa}{body a:List Ya}{pos:Sd}{b:Bool}{c:Prop}(e:eS (ev G.gv fn n sc σ) t=ac (b,c))(hc:c)
  (h1:b=a8->∀s',Kp s s'->St G ν rd σ δ ς K s'->wpAny (ja π w) A (Oc body ν) Q Hc s') (h2:b=be->∀s',Kp s s'->St G ν rd σ δ ς K s'->wpAny (ja π w) A (Oc a ν) Q Hc s'):
  wpAny (ja π w) A (Cg (.If t body a pos) ν) Q Hc s:=by
 refine a2Q (Ig (hH (Mk g n sc σ ν s x.re so F) g _ e hc _) (λb' d Eb=>?_));obtain ⟨rfl,k⟩:=Eb;cases b' with
 |true=>exact h1 rfl d k (x.step k)
 |false=>exact h2 rfl d k (x.step k)
theorem Ve.obj{I:ma}{L:Option ma}{xs:List Int}(it:Ve h I L xs):∃o vs,h.get? I=ac o/\o.data=.fields vs:=by
 cases it with
 |list l vs n i ns a b c d=>obtain ⟨o,e,_,hd⟩:=a;exact⟨o,_,e,hd⟩
 |range a b c d=>exact⟨_,_,d,rfl⟩
theorem Look.but{x:Ba}{I:ma}(l:Look ν h x v)(d:ν.locals≠I)(hC:∀y c,ν.cells.lookup y=ac c->c≠I)(k:∀b o,b≠I->h.get? b=ac o->h'.get? b=ac o):Look ν h' x v:=
 l.imp (Wh (Rj λf=>S5 λn'=>n'.at' λo e=>k _ o d e)) (Wh (Rj λc q=>⟨q.1,q.2.imp λo' a=>⟨k c o' (hC _ c q.1) a.1,a.2⟩⟩))
theorem nW{I:ma}(x:VR h p v)(e:∀ns,p=.il ns->v=.ref a)(hl:∀ns,p=.il ns->a≠I)(k:∀b o,b≠I->h.get? b=ac o->h'.get? b=ac o):VR h' p v:=by
 cases p with
 |il ns=>exact x.elim λl q=>q.elim λvs q=>q.elim λc q=>⟨l,vs,c,q.1,k _ _ (cg ((e ns rfl).symm.trans q.1)▸hl ns rfl) q.2.1,q.2.2⟩
 |_=>exact x
theorem St.fx(x:St G ν rd σ δ ς K s){I:ma}{tk:Nat}(d:ν.locals≠I)(hC:∀y c,ν.cells.lookup y=ac c->c≠I)(hl:∀y ns,σ.lookup y=ac (.il ns)->δ y≠I)(f:∀o,¬K I o)
  (k:∀b o,b≠I->s.heap.get? b=ac o->h'.get? b=ac o):St G ν rd σ δ ς K {s with heap:=h',toks:=tk}:=
 {x with
  sh:=x.sh.elim λh0 q=>q.elim λg q=>⟨h',tk,q▸rfl⟩
  ks:=λb o e=>k b o (λq=>f o (q▸e)) (x.ks b o e)
  ns:=x.ns.imp λm hm=>hm.at' λo e=>k _ o d e
  ce:=λy c e=>(x.ce y c e).imp λv i=>i.imp λo' q=>⟨k c o' (hC y c e) q.1,q.2⟩
  look:=λy p e=>(x.look y p e).imp λv a=>⟨a.1.but d hC k,nW a.2.1 a.2.2 (λns q=>hl y ns (q▸e)) k,a.2.2⟩}
theorem St.a2c(x:St G ν rd σ δ ς K s){P:ma->Jb->Prop}(g:∀b o,P b o->s.heap.get? b=ac o)(ap:∀b o,P b o->ν.locals≠b/\(∀y c,ν.cells.lookup y=ac c->c≠b)/\∀y ns,σ.lookup y=ac (.il ns)->y∉rd->y∉mI->δ y≠b):
  St G ν rd σ δ ς (λb ob=>K b ob\/P b ob) s:=
 {x with
  k0:=λb ob e=>.inl (x.k0 b ob e)
  ks:=λb ob q=>q.elim (x.ks b ob) (g b ob)
  nl:=λob q=>q.elim (x.nl ob) λq=>(ap _ _ q).1 rfl
  nc:=λy c a d ob q=>q.elim (x.nc y c a d ob) λq=>(ap _ _ q).2.1 y c a rfl
  new:=λy ns a d f ob q=>q.elim (x.new y ns a d f ob) λq=>(ap _ _ q).2.2 y ns a d f rfl}
theorem St.gC(x:St G ν rd σ δ ς K s){C:ma}(a:s.heap.get? C=ac o)(d:ν.locals≠C)(hC:∀y c,ν.cells.lookup y=ac c->c≠C)(hl:∀y ns,σ.lookup y=ac (.il ns)->δ y≠C):
  St G ν rd σ δ ς (λb ob=>K b ob\/(b=C/\ob=o)) s:=
 x.a2c (λb ob q=>by rw[q.1,q.2];exact a) λb ob q=>by rw[q.1];exact⟨d,hC,λy ns e Z Z=>hl y ns e⟩
theorem St.more(x:St G ν rd σ δ ς K s){rd':List Ba}(h:∀y∈rd,y∈rd'):St G ν rd' σ δ ς K s:={x with new:=λy ns e q a=>x.new y ns e (λb=>q (h y b)) a}
theorem St.apF(x:St G ν rd σ δ ς K s){I:ma}{vs:Array Value}(f:s.heap.get? I=ac o)(hd:o.data=.fields vs):
  ν.locals≠I/\(∀y c,ν.cells.lookup y=ac c->c≠I)/\∀y ns,σ.lookup y=ac (.il ns)->δ y≠I:=by
 have d:∀{o':Jb} {a:ma},s.heap.get? a=ac o'->(∀vs,o'.data≠.fields vs)->a≠I:=λe n q=>n vs ((congrArg CX (xa (f.symm.trans (q▸e)))).symm.trans hd);refine⟨x.ns.elim λm hm=>hm.elim λo' q=>q.elim λes q=>q.elim λep q=>d q.1 λvs b=>(nomatch q.2.1.symm.trans b),λy c e=>(x.ce y c e).elim λv i=>i.elim λo' q=>d q.1 λvs b=>(nomatch q.2.symm.trans b),λy ns e=>?_⟩
 exact(x.look y _ e).elim λv a=>a.2.1.elim λl q=>q.elim λws q=>q.elim λm q=>cg (q.1.symm.trans (a.2.2 ns rfl))▸d q.2.1 λvs b=>nomatch b
theorem St.other(x:St G ν rd σ δ ς K s){I:ma}{vs:Array Value}{tk:Nat}(a:s.heap.get? I=ac o)(hd:o.data=.fields vs)(c:∀o,¬K I o)(k:∀b o,b≠I->s.heap.get? b=ac o->h'.get? b=ac o):
  St G ν rd σ δ ς K {s with heap:=h',toks:=tk}:=have ap:=x.apF a hd;x.fx ap.1 ap.2.1 ap.2.2 c k
theorem oL{α:Type}{xs rest:List α}{a:α}(h:xs.drop i=a::rest):xs[i]?=ac a/\rest=xs.drop (i+1):=
 ⟨((zS).symm.trans (congrArg a2r h)),(congrArg a3c h).symm.trans aW⟩
theorem KQ{α:Type}{xs:List α}(h:xs.drop i=[])(hi:i<=xs.length):i=xs.length:=Og hi (List.drop_eq_nil_iff.mp h)
set_option tactic.hygienic true in
theorem rQ(g:GA N A){v:Ba}{pv:Sd}{body:List Ya}(hv:ν.kindOf v=ac .local\/ν.kindOf v=ac .cell)(Q:v∈as){d:Nat->List (Ba×P)}{xs:List Int}{I:ma}{L:Option ma}
  (ia:Ve s.heap I L xs) (hI:∀o,¬K I o) (hL:∀l,L=ac l->∃o,K l o) (x0:SP G ν rd (d 0) δ as ς K s)
  (og:∀i a K' c s',xs[i]?=ac a->(∀b o,K b o->K' b o)->(∀z,z∉as->c z=δ z)->St G ν rd ((v,.int a)::d i) c ς K' s'->
   wpAny (ja π w) A (Oc body ν) (λf Sg=>f=.next/\SP G ν rd (d (i+1)) c as ς K' Sg) Hc s') (hR:∀s',SP G ν rd (d xs.length) δ as ς K s'->R (.ok .next) s') (hsc:ν.scope.kind=.function):
  codeAny (ja π w) A (.forLoop (.Name v pv) (.ref I) body [] ν) R s:=by
 refine codeAny_forLoop (λk s'=>∃i,k=xs.length-i/\i<=xs.length/\Ve s'.heap I L (xs.drop i)/\SP G ν rd (d i) δ as ς K s') ?_ xs.length ⟨0,rfl,fc _,ia,x0⟩
 rintro k s' ⟨i,rfl,hi,h,c,n,O⟩
 refine ue λhC=>?_;obtain ⟨oI,vI,C,E⟩:=h.obj;refine hC ?_;cases H:xs.drop i with
 |nil=>
  rw[H] at h;refine Ve.done h g.hd λh' e=>Ef (hR _ ?_);rw[<- KQ H hi];exact⟨c,n,O.other C E hI λb o hb V=>e b o hb V⟩
 |cons a rest=>
  rw[H] at h;have hg:=oL H;refine Ve.next h λh' t tk y sb=>?_;have M:St G ν rd (d i) c ς K {s' with heap:=h',toks:=tk}:=O.other C E hI λb o hb V=>sb.extBut b o hb V;refine ue λhC=>?_;obtain ⟨o2,v2,r,T⟩:=y.obj;refine hC ?_;have ap:=M.apF r T;have x3:=M.gC r ap.1 ap.2.1 ap.2.2;refine Ob (Ub (x3.bind (p:=.int a) (a:=0) hv ⟨t,rfl⟩ (λns e=>nomatch e)) (λ_ x x4=>?_) λ_ _ q=>q.elim);have j:∀z,z∉as->(λz=>if z=v then 0 else c z) z=δ z:=λz hz=>(if_neg λ(q:z=v)=>hz (q▸Q)).trans (n z hz);refine Ub (og i a _ _ x hg.1 (λb o e=>.inl e) j x4) (λf Y B=>?_) λ_ _ q=>q.elim
  refine ue λhC=>?_;obtain ⟨rfl,u,m,J⟩:=B;refine hC ?_;have D:i < xs.length:=(xb.mp hg.1).1;refine⟨xs.length-(i+1),wt D (Xc i),i+1,rfl,D,?_,u,λz hz=>(m z hz).trans (j z hz),J.weak (λb o e=>.inl e) O.k0⟩
  rw[<- hg.2];exact y.keeps λb o q e=>q.elim (λq=>J.ks b o (.inr ⟨q,xa ((q▸e:h'.get? I=ac o).symm.trans r)⟩)) λq=>(hL b q).elim λo0 h0=>xa ((M.ks b o0 h0).symm.trans e)▸J.ks b o0 (.inl h0)
end
section
variable{G:Gl}{rd' as:List Ba}
 {K':ma->Jb->Prop} {Q:Ff->aa->Prop}
def i4(rd':List Ba)(σ:List (Ba×P))(δ:Ba->ma)(s:aa)(xs:List Int)(a:Value)(s':aa):Prop:=
 ∃I L,a=.ref I/\Kp s s'/\s.heap.get? I=a6/\Ve s'.heap I L xs/\∀l,L=ac l->∀y ns,y∉rd'->y∉mI->σ.lookup y=ac (.il ns)->δ y≠l
theorem Ve.src{I:ma}{L:Option ma}{xs:List Int}(ia:Ve h I L xs):∀l,L=ac l->∃vs m,h.get? l=ac (wb vs m):=by
 cases ia with
 |list c vs b j ns g a f d=>exact λl e=>⟨_,_,xa e▸a⟩
 |range _ _ _ _=>exact λl e=>nomatch e
set_option tactic.hygienic true
theorem qQ(g:GA N A)(x:St G ν rd σ δ ς K s){v:Ba}{pv pos:Sd}{it:Oa}{body:List Ya}(hv:ν.kindOf v=ac .local\/ν.kindOf v=ac .cell)(O:v∈as){n:Nat->List (Ba×P)}{xs:List Int}
  (V:wpAny (ja π w) A (eval it ν) (λxv u=>wpAny (ja π w) A (Gi xv) (i4 rd' σ δ s xs) Hc u) Hc s) (B:∀y,Me it ν y=pure y)
  (Q:∀y∈rd,y∈rd') (D:∀y∈rd',y∈rd\/(y∉as/\∃ns,σ.lookup y=ac (.il ns))) (h0:∀y p,(n 0).lookup y=ac p->σ.lookup y=ac p)
  (og:∀i a K' c s',xs[i]?=ac a->(∀b o,K b o->K' b o)->(∀z,z∉as->c z=δ z)->St G ν rd' ((v,.int a)::n i) c ς K' s'->
   wpAny (ja π w) A (Oc body ν) (λf Sg=>f=.next/\SP G ν rd' (n (i+1)) c as ς K' Sg) Hc s'):
  wpAny (ja π w) A (Cg (.For (.Name v pv) it body [] pos) ν) (λf s'=>f=.next/\SP G ν rd (n xs.length) δ as ς K s') Hc s:=by
 refine wpAny_For (Ig V (λxv u Eb=>Ig Eb (λitv t C=>?_))) B;refine ue λhC=>?_;obtain ⟨I,L,rfl,k,hIn,ia,hap⟩:=C;have x2:=x.step k;obtain ⟨oI,vI,T,Y⟩:=ia.obj;refine hC ?_;have hI:∀o,¬K I o:=λo q=>by have:=x.ks I o q;rw[hIn] at this;cases this
 have d:=ia.src
 let K1:ma->Jb->Prop:=λb o=>K b o\/(L=ac b/\t.heap.get? b=ac o)
 have x3:St G ν rd' σ δ ς K1 t:=(x2.more Q).a2c (λb o q=>q.2) λb o q=>(d b q.1).elim λvs z=>z.elim λm' e=>
  have a:=x2.apL e;⟨a.1,a.2,λy ns e1 J H=>hap b q.1 y ns J H e1⟩
 have Q0:∀o,¬K1 I o:=λo q=>q.elim (hI o) λq=>(d _ q.1).elim λvs z=>z.elim λm' e=>nomatch (congrArg CX (xa (T.symm.trans e))).symm.trans Y
 refine rQ (K:=K1) g hv O ia Q0 (λl e=>(d l e).elim λvs q=>q.elim λm q=>⟨_,.inr ⟨e,q⟩⟩) (SP.of (x3.sub h0)) (λi a K' c s' hx hk j E=>og i a K' c s' hx (λb o q=>hk b o (.inl q)) j E) ?_ x.kind (R:=λr s'=>match r with
  |.ok f=>f=.next/\SP G ν rd (n xs.length) δ as ς K s'|.error e=>cameBackBy (ja π w) A ν Hc e s')
 rintro s' ⟨c,j,E⟩
 refine⟨rfl,c,j,{E.weak (K':=K) (λb o q=>.inl q) x.k0 with new:=?_}⟩
 intro y ns e1 J H o q;by_cases hy:y∈rd'
 ·rcases D y hy with h|⟨h,M,e⟩
  ·exact J h
  ·rw[j y h] at q;exact x.new y M e J H o q
 ·exact E.new y ns e1 hy H o (.inl q)
theorem V1(g:GA N A)(so:uj sc ν)(F:Ek π w N fn σ s)(x:St G ν rd σ δ ς K s){v:Ba}{L pos:Sd}{it:Oa}{body:List Ya}(hv:ν.kindOf v=ac .local\/ν.kindOf v=ac .cell)(C:v∈as)
  {r:Nat->List (Ba×P)} {xs:List Int} {c:Prop} (e:fS (Yl sc) (ev G.gv fn n sc σ) it=ac (xs,c)) (hc:c) (E:∀a fr c,ev G.gv fn n sc σ it=ac ⟨.il a,fr,c⟩->fr=a8)
  (h0:∀y p,(r 0).lookup y=ac p->σ.lookup y=ac p)
  (og:∀i a K' j s',xs[i]?=ac a->(∀b o,K b o->K' b o)->(∀z,z∉as->j z=δ z)->St G ν rd ((v,.int a)::r i) j ς K' s'->
   wpAny (ja π w) A (Oc body ν) (λf Sg=>f=.next/\SP G ν rd (r (i+1)) j as ς K' Sg) Hc s'):
  wpAny (ja π w) A (Cg (.For (.Name v L) it body [] pos) ν) (λf s'=>f=.next/\SP G ν rd (r xs.length) δ as ς K s') Hc s:=by
 have S:=Mk g n sc σ ν s x.re so F;refine qQ (rd':=rd) g x hv C ?_ (Wt (ν:=ν) (it:=it) (ev G.gv fn n sc σ) e (λa k p=>BQ a k p)) (λy h=>h) (λy h=>.inl h) h0 og;rcases Qu _ e with ⟨q,np,args,pos,rfl,B⟩|⟨fr,B⟩
 ·
  refine Ig (Mz S x.re B hc (so.glob _ (eq_of_beq q))) (λY d Eb=>Ig Eb (λM J t=>?_));obtain ⟨I,rfl,k,H,ia⟩:=t;exact⟨I,a6,rfl,k,H,ia,λl q=>nomatch q⟩
 ·refine Ig (S.ok it _ s .Pg B hc) (λu d Eb=>?_);obtain ⟨l,vs,m,rfl,hl,hi⟩:=Eb.val;have hn:=Eb.fresh (E xs fr c B) l rfl;refine ai ⟨_,hl,rfl,_,rfl⟩ ⟨d.heap.objs.size,ac l,rfl,Eb.keeps.trans' (.push _),Ab Eb.keeps bc,?_,?_⟩
  ·have:=Ve.list (h:=d.heap.push {cls:=.type "list_iterator",data:=.fields #[.ref l,.int 0 0]}) (I:=d.heap.objs.size) l vs m 0 xs ⟨_,qa _ rfl,rfl,rfl⟩ (ea _ hl) hi (Na (Ha hl))
   simpa using this
  ·intro l' Q y ns hy O D q;obtain rfl:=xa Q;obtain ⟨u,_,V,T⟩:=x.look y _ D;obtain ⟨b,ws,m',rfl,hb,_⟩:=V;have:=T ns rfl;obtain rfl:=cg this;rw[q,hn] at hb;exact nomatch hb
theorem pQ(g:GA N A)(x:St G ν rd σ δ ς K s){v z:Ba}{H pos E:Sd}{body:List Ya}(hv:ν.kindOf v=ac .local\/ν.kindOf v=ac .cell)(B:v∈as)(hz:qc z=be)(r:z∉as)
  {d:Nat->List (Ba×P)} {xs:List Int} (e:σ.lookup z=ac (.il xs)) (h0:∀y p,(d 0).lookup y=ac p->σ.lookup y=ac p)
  (og:∀i a K' c s',xs[i]?=ac a->(∀b o,K b o->K' b o)->(∀z,z∉as->c z=δ z)->St G ν (z::rd) ((v,.int a)::d i) c ς K' s'->
   wpAny (ja π w) A (Oc body ν) (λf Sg=>f=.next/\SP G ν (z::rd) (d (i+1)) c as ς K' Sg) Hc s')
  (n:z∉ov\/("rests":Ba)∈rd:=by first|exact .inl (by decide)|exact .inr (by decide)):
  wpAny (ja π w) A (Cg (.For (.Name v H) (.Name z E) body [] pos) ν) (λf s'=>f=.next/\SP G ν rd (d xs.length) δ as ς K s') Hc s:=by
 refine qQ (rd':=z::rd) g x hv B ?_ (λ_=>rfl) (λy h=>pa _ h) (λy h=>?_) h0 og
 ·refine ue λhC=>?_;obtain ⟨u,O,M,L⟩:=x.look z _ e;refine hC ?_;refine vd x.kind O (Eg hz).1 (Eg hz).2 ?_;refine ue λhC=>?_;obtain ⟨l,vs,m,rfl,hl,hi⟩:=M;refine hC ?_;have C:=L xs rfl;obtain rfl:=cg C;refine ai ⟨_,hl,rfl,_,rfl⟩ ⟨s.heap.objs.size,ac (δ z),rfl,.push _,bc,?_,?_⟩
  ·have:=Ve.list (h:=s.heap.push {cls:=.type "list_iterator",data:=.fields #[.ref (δ z),.int 0 0]}) (I:=s.heap.objs.size) (δ z) vs m 0 xs ⟨_,qa _ rfl,rfl,rfl⟩ (ea _ hl) hi (Na (Ha hl))
   simpa using this
  ·intro Q J y ns D t k;obtain rfl:=xa J;have j:y≠z:=λq=>D (q▸va ..);exact n.elim (λh=>qb (x.apart z y xs ns h (qb j) e k)) λh=>x.apart y z ns xs (λq=>(La.mp q).elim (λq=>D (q▸pa _ h)) t) j k e
 ·rcases La.mp h with rfl|h
  ·exact .inr ⟨r,xs,e⟩
  ·exact .inl h
end
section
variable{G:Gl}{rd' as:List Ba}
 {K':ma->Jb->Prop} {Q:Ff->aa->Prop}
set_option tactic.hygienic false
theorem St.mut(x:St G ν rd σ δ ς K s){y:Ba}{ms:List Int}{m:Nat}{tk:Nat}(e:σ.lookup y=ac (.il ns))(u:y∉rd)(f:y∉mI)(w:∀z ks,z≠y->σ.lookup z=ac (.il ks)->δ y≠δ z)(hg:h'.get? (δ y)=ac (wb vs m))(hi:IntsAre vs ms)
  (k:∀b o,b≠δ y->s.heap.get? b=ac o->h'.get? b=ac o):St G ν rd ((y,.il ms)::σ) δ ς K {s with heap:=h',toks:=tk}:=by
 refine(x.list e).2.elim λws q=>q.elim λD q=>?_
 have ap:=x.apL q.1
 exact{x with
  sh:=x.sh.elim λh0 q=>q.elim λC q=>⟨h',tk,q▸rfl⟩
  ks:=λb o q=>k b o (λz=>x.new y ns e u f o (z▸q)) (x.ks b o q)
  ns:=x.ns.imp λm hm=>hm.at' λo e=>k _ o ap.1 e
  ce:=λz c e=>(x.ce z c e).imp λv i=>i.imp λo' q=>⟨k c o' (ap.2 z c e) q.1,q.2⟩
  look:=λz p n=>(Gd n).elim (λd=>by
   rw[d.1,<- d.2];exact⟨_,(x.list e).1.but ap.1 ap.2 k,⟨δ y,vs,m,rfl,hg,hi⟩,λns h=>rfl⟩) λd=>(x.look z p d.2).imp λv a=>⟨a.1.but ap.1 ap.2 k,nW a.2.1 a.2.2 (λj q=>qb (w z j d.1 (q▸d.2))) k,a.2.2⟩
  new:=λz ks n hr l=>(Gd n).elim (λd=>d.1▸x.new y ns e u f) λd=>x.new z ks d.2 hr l
  apart:=λz r ks t hr g B A=>(Gd B).elim (λd=>(Gd A).elim (λd'=>absurd (d.1.trans d'.1.symm) g) λd'=>d.1▸w r t d'.1 d'.2) λd=>
   (Gd A).elim (λd'=>d'.1▸x.apart z y ks ns hr d.1 d.2 e) λd'=>x.apart z r ks t hr g d.2 d'.2}
theorem St.lZ(x:St G ν rd σ δ ς K s){y:Ba}{ms:List Int}{m:Nat}{tk:Nat}(e:σ.lookup y=ac (.il ns))(c:y∉rd)(a:y∉ov)(hg:h'.get? (δ y)=ac (wb vs m))(hi:IntsAre vs ms)
  (k:∀b o,b≠δ y->s.heap.get? b=ac o->h'.get? b=ac o):St G ν rd ((y,.il ms)::σ) δ ς K {s with heap:=h',toks:=tk}:=
 x.mut e c (λh=>a (.tail _ h)) (λz ks h d=>x.apart y z ns ks a (qb h) e d) hg hi k
theorem SP.trans{b:Ba->ma}(h:∀z,z∉as->b z=δ z)(x:SP G ν rd σ b as ς K s):SP G ν rd σ δ as ς K s:=
 x.elim λa x=>⟨a,λz hz=>(x.1 z hz).trans (h z hz),x.2⟩
theorem qB{ws:List Value}{m i:Nat}{R:Value->aa->Prop}(hl:s.heap.get? l=ac (wb vs m))(hb:s.heap.get? b=ac (wb ws i))(k:vs.length+ws.length<=2 ^ 24)
  (h:R (.ref l) {s with heap:=s.heap.update l (Ce λx=>x++ws.toArray)}):wpAny (ja π w) A (inplaceOp .Add (.ref l) (.ref b)) R E s:=by
 have g:s.TypeIs (.ref l) "list":=⟨_,hl,rfl⟩;have f:s.TypeIs (.ref b) "list":=⟨_,hb,rfl⟩;have d:sd (.type "list") (dunderI "add")=pure (ac (.builtin "list.__iadd__")):=PySem.F.slot_list_iadd.lookup;have a:q5 (ac (.builtin "list.__iadd__"))=a8:=by decide +kernel
 delta inplaceOp;refine Ta ?_;have e:w5 (.type "list") "add" (Operator.Add==.Add)=pure be:=by
  delta w5
  show(sd (.type "list") (dunderI "add")>>=λj=>pure (j.isSome&&!q5 j))=pure be
  rw[d]
  show(pure ((ac (lA "list.__iadd__")).isSome&&!q5 (ac (.builtin "list.__iadd__"))):xc Bool)=_
  rw[a];rfl
 have c:seqSlot? (.type "list") (dunderI "add")=pure (ac (.builtin "list.__iadd__")):=PySem.seqSlot_of PySem.F.slot_list_iadd.lookup (by decide +kernel);refine Kb (Ml g (Kb (Ga e ?_)));show wpAny _ A (if be=a8 then _ else _) R E s
 rw[if_neg ih];refine Kb (wpAny_binaryOp1_none (nm:="add") g f noFill_list_add ?_);refine Kb (Ga c ?_);have z:vs.toArray.size<=mc:=by simp[mc];lia
 exact Kb (oi (vF PySem.F.slot_list_iadd g entry_list_iadd' (PySem.F.args_list_iadd_2 _ _)
  (AutoSeq1.list___iadd___list_list_0 l vs.toArray m b ws.toArray i (by simp[gj,mc];lia) z (by simp[mc];lia)) ⟨hl,hb,h⟩))
end
theorem IsL.upd{ws:List Value}(x:h.get? l=ac (wb vs n))(f:Array Value->Array Value)(e:f vs.toArray=ws.toArray):
  ∃m,(h.update l (Ce f)).get? l=ac (wb ws m):=by
 have u:=IsL.update (x:=x) f;rw[e] at u;exact⟨_,u⟩
theorem iH(h:IntsAre vs ns):∀k:Nat,IntsAre (vs.eraseIdx k) (ns.eraseIdx k):=by
 induction h with
 |nil=>intro k;exact .nil
 |cons n t h a=>
  intro k;cases k with
  |zero=>exact h
  |succ k=>exact .cons n t (a k)
theorem yN(h:IntsAre vs ns)(v:Int)(u:xm):∀k:Nat,IntsAre (vs.set k (.int v u)) (ns.set k v):=by
 induction h with
 |nil=>intro k;exact .nil
 |cons n t h a=>
  intro k;cases k with
  |zero=>exact .cons v u h
  |succ k=>exact .cons n t (a k)
section
variable{G:Gl}{rd' as:List Ba}
 {K':ma->Jb->Prop} {Q:Ff->aa->Prop}
set_option tactic.hygienic true
theorem uR(g:GA N A)(so:uj sc ν)(F:Ek π w N fn σ s)(x:St G ν rd σ δ ς K s){y:Ba}{J pos:Sd}{i:Oa}{ms:List Int}{fr:Bool}{c:Prop}(hl:σ.lookup y=ac (.il ns))(hr:y∉rd)
  (O:qc y=be) (e:ev G.gv fn n sc σ i=ac ⟨.il ms,fr,c⟩) (hc:c) (hk:ν.kindOf y=ac .local\/ν.kindOf y=ac .cell) (B:ns.length+ms.length<=2 ^ 24) (j:y∉ov:=by decide):
  wpAny (ja π w) A (Cg (.AugAssign (.Name y J) .Add i pos) ν) (λf s'=>f=.next/\SP G ν rd ((y,.il (ns++ms))::σ) δ as ς K s') Hc s:=by
 refine(x.list hl).elim λM _=>?_
 refine lS (Ju x.kind M (Eg O).2 ?_);refine Ig ((Mk g n sc σ ν s x.re so F).ok i _ s .Pg e hc) (λv k Eb=>?_);have E:=x.step Eb.keeps;refine ue λhC=>?_;obtain ⟨_,vs,m,r,hi⟩:=E.list hl;obtain ⟨b,ws,T,rfl,hb,D⟩:=Eb.val;refine hC ?_;refine qB r hb (by rw[hi.length,D.length];exact B) ?_
 refine(IsL.upd (ws:=vs++ws) r (λx=>x++ws.toArray) (by simp)).elim λL t=>?_
 have I:=E.lZ (tk:=k.toks) hl hr j t (hi.append D) λb o hb e=>by rw[Ia _ _ (qb hb)];exact e
 refine Ig (I.bind (y:=y) (p:=.il (ns++ms)) (v:=.ref (δ y)) (a:=δ y) hk ?_ ?_) (λ_ H l=>⟨rfl,_,λz hz=>?_,l.sub ?_⟩)
 ·exact⟨δ y,_,L,rfl,t,hi.append D⟩
 ·exact λks Q=>⟨rfl,λ_ _=>x.new y ns hl hr (λh=>j (.tail _ h)),λz u hz _ C=>(Gd C).elim (λd=>absurd d.1 hz) λd=>x.apart y z ns u j (qb hz) hl d.2⟩
 ·exact(ite_eq_right_iff.mpr λq=>q▸rfl)
 ·intro z p q;rw[Ka] at q ⊢;cases hz:z==y with
  |true=>rw[hz] at q;exact q
  |false=>rw[hz] at q;rw[Ka,hz];exact q
theorem ML(g:GA N A)(so:uj sc ν)(F:Ek π w N fn σ s)(x:St G ν rd σ δ ς K s){y:Ba}{O ap pos l:Sd}{a:Oa}{i:Int}{fr:Bool}{c:Prop}(hl:σ.lookup y=ac (.il ns))(hr:y∉rd)
  (J:qc y=be) (e:ev G.gv fn n sc σ a=ac ⟨.int i,fr,c⟩) (hc:c) (B:ns.length<=2 ^ 24) (d:(ap.endLine==pos.line)=a8) (C:y∉mI:=by decide) (H:y∉ov\/∀z ms,σ.lookup z=ac (.il ms)->z≠y->z∉ov:=by exact .inl (by decide)):
  wpAny (ja π w) A (Cg (.Expr (.Call (.Attribute (.Name y O) "append" ap) [a] [] pos) l) ν) (λf s'=>f=.next/\SP G ν rd ((y,.il (ns++[i]))::σ) δ as ς K s') Hc s:=by
 have S:=Mk g n sc σ ν s x.re so F;have ht:Eh pos (mf [a] ν)=[(be,eval a ν)]:=by rw[Xi S e,Jl];rfl
 have hi:Nf ν=be:=by unfold Nf;rw[x.kind];rfl
 refine wpAny_Expr (wpAny_Call_append rfl (by rw[ht];rfl) d ht ?_) hi;refine ue λhC=>?_;obtain ⟨T,vs,m,u,hI⟩:=x.list hl;refine hC ?_;refine vd x.kind T (Eg J).1 (Eg J).2 ⟨δ y,vs.toArray,rfl,⟨_,m,u,rfl,rfl,rfl⟩,?_⟩;refine Ig (S.ok a _ s .Pg e hc) (λv j Eb=>?_);refine ue λhC=>?_;obtain ⟨t,rfl⟩:=Eb.val;have p:=x.step Eb.keeps;obtain ⟨_,r,Q,k,I⟩:=p.list hl;refine hC ?_;refine append_at ⟨r,Q,k,I⟩ B λh' V M=>?_;refine ue λhC=>?_;obtain ⟨L,Y,E,D⟩:=V;refine hC ?_;exact⟨rfl,SP.of (p.mut (tk:=j.toks) hl hr C (λz ks h e=>H.elim (λq=>p.apart y z ns ks q (qb h) hl e) λq=>qb (p.apart z y ks ns (q z ks e h) h e hl)) E D λb o hb e=>M.extBut b o hb e)⟩
theorem GY(g:GA N A)(so:uj sc ν)(F:Ek π w N fn σ s)(x:St G ν rd σ δ ς K s){v y:Ba}{pv Y ap pos B:Sd}{d:Oa}{i:Int}{fr:Bool}{c:Prop}(hl:σ.lookup y=ac (.il ns))(hr:y∉rd)
  (Q:qc y=be) (hvy:v≠y) (H:v∈as) (L:ν.kindOf v=ac .local\/ν.kindOf v=ac .cell) (e:ev G.gv fn n sc σ d=ac ⟨.int i,fr,c⟩) (hc:c) (h0:0<=i) (h1:i < ns.length) (aS:ns.length<=2 ^ 24) (j:(ap.endLine==pos.line)=a8) (J:y∉ov:=by decide):
  wpAny (ja π w) A (Cg (.Assign [.Name v pv] (.Call (.Attribute (.Name y Y) "pop" ap) [d] [] pos) B) ν)
   (λf s'=>f=.next/\SP G ν rd ((v,.int (ns.getD i.toNat 0))::(y,.il (ns.eraseIdx i.toNat))::σ) δ as ς K s') Hc s:=by
 have S:=Mk g n sc σ ν s x.re so F;have ht:Eh pos (mf [d] ν)=[(be,eval d ν)]:=by rw[Xi S e,Jl];rfl
 refine PySem.wpAny_Assign_Name (wpAny_Call_method1_late rfl j ht ?_) rfl;refine ue λhC=>?_;obtain ⟨lk,vs,m,D,hI⟩:=x.list hl;refine hC ?_;refine vd x.kind lk (Eg Q).1 (Eg Q).2 ⟨"list","list.pop",PySem.F.plainAttrs_list,PySem.F.slot_list_pop,rfl,⟨_,D,rfl⟩,λa q=>by cases q;exact⟨_,D,rfl⟩,?_⟩;refine PySem.P.pop_at_list (Ig (S.ok d _ s .Pg e hc) (λu r Eb=>?_));refine ue λhC=>?_;obtain ⟨t,rfl⟩:=Eb.val;have M:=x.step Eb.keeps;obtain ⟨_,l,m1,h,k⟩:=M.list hl;have T:=k.length;obtain ⟨t',E⟩:=IntsAre.get k i.toNat (ns.getD i.toNat 0) (by rw[ua,Sa ((Aj h0).mpr h1)];rfl);refine hC ?_;refine⟨l.toArray,m1,i,t,i.toNat,.int (ns.getD i.toNat 0) t',by simp[mc];lia,rfl,h,fitsIndex_of h0 (by lia),?_,by simpa using E,?_⟩
 ·unfold p5;have:¬i < 0:=vu.mpr h0;simp[this];lia
 refine(IsL.upd (ws:=l.eraseIdx i.toNat) h (λxs=>xs.eraseIdxIfInBounds i.toNat) (by simp)).elim λm2 I=>?_
 have V:=M.lZ (tk:=r.toks) hl hr J I (iH k i.toNat) λb o hb e=>by rw[Ia _ _ (qb hb)];exact e
 refine Ig (V.bind (y:=v) (p:=.int (ns.getD i.toNat 0)) (a:=0) L ⟨t',rfl⟩ λks q=>by cases q) (λ_ O C=>⟨rfl,_,λz hz=>?_,C⟩);exact if_neg λ(q:z=v)=>hz (q▸H)
set_option tactic.hygienic false
theorem Ly{m:Nat}{k:Int}{R:Unit->aa->Prop}(hl:s.heap.get? l=ac (wb vs m))(h0:0<=k)(a:k < 2 ^ 63)(hn:k < vs.length)
  (d:R () {s with heap:=s.heap.update l (Ce (·.setIfInBounds k.toNat v))}):wpAny (ja π w) A (z4 (.ref l) (.int k t) v) R E s:=by
 have c:=UI hl;delta z4
 try with_reducible refine Ta ?_
 first|refine Kb (la ?_)|skip
 refine Kb (Fp c.typeIs (by decide) ?_);refine Kb (wc (name:=ra "__setitem__") c.typeIs w4
  (Pc w4 c.typeIs entry_list_setitem ?_ (args_list_setitem _ _ _)))
 show wpAny _ _ (a2w (.int k t)>>=_) _ _ s
 refine Kb (wpAny_listSubscript_int (fitsIndex_of h0 a) ?_);obtain ⟨j,rfl⟩:=Ke h0;have e:j < vs.toArray.size:=by simp;lia
 have b:vs.toArray[j]?=ac vs.toArray[j]:=xh e;show wpAny _ _ ((seqItemAt l j>>=λr=>pure (r.map (j,·)))>>=_) _ _ s
 refine Kb (Kb (wpAny_seqItemAt hl rfl (la ?_)));rw[b];show wpAny _ _ (setSeqItemAt l j v>>=_) _ _ s
 refine Kb (wpAny_setSeqItemAt hl rfl ?_)
 first
  |exact Kb (la (la ⟨.none,rfl,la d⟩))
  |exact la ⟨.none,rfl,la d⟩
set_option tactic.hygienic true
theorem YF(g:GA N A)(so:uj sc ν)(F:Ek π w N fn σ s)(x:St G ν rd σ δ ς K s){y:Ba}{H I pos:Sd}{h a:Oa}{k v:Int}{fr C:Bool}{c d:Prop}(hl:σ.lookup y=ac (.il ns))(hr:y∉rd)
  (J:qc y=be) (e:ev G.gv fn n sc σ a=ac ⟨.int v,fr,c⟩) (hc:c) (V:ev G.gv fn n sc σ h=ac ⟨.int k,C,d⟩) (hd:d) (h0:0<=k) (h1:k < ns.length) (Q:ns.length<=2 ^ 24)
  (T:Lf a (ac (.Subscript (.Name y H) h I)) pos.line ν=pure be) (B:y∉ov:=by decide):
  wpAny (ja π w) A (Cg (.Assign [.Subscript (.Name y H) h I] a pos) ν) (λf s'=>f=.next/\SP G ν rd ((y,.il (ns.set k.toNat v))::σ) δ as ς K s') Hc s:=by
 have S:=Mk g n sc σ ν s x.re so F;refine wpAny_Assign_Subscript ?_ T;refine Ig (S.ok a _ s .Pg e hc) (λu p Eb=>?_);refine ue λhC=>?_;obtain ⟨t,rfl⟩:=Eb.val;have E:=x.step Eb.keeps;obtain ⟨M,vs,m,O,hI⟩:=E.list hl;refine hC ?_;refine vd x.kind M (Eg J).1 (Eg J).2 ?_;refine Ig (S.ok h _ p Eb.keeps V hd) (λu l i=>?_);refine ue λhC=>?_;obtain ⟨t',rfl⟩:=i.val;have D:=E.step i.keeps;obtain ⟨_,r,m2,j,q⟩:=D.list hl;refine hC ?_;have L:=q.length;refine Ly j h0 (by lia) (by lia) ?_
 refine(IsL.upd (ws:=r.set k.toNat (.int v t)) j (λxs=>xs.setIfInBounds k.toNat (.int v t)) (by simp)).elim λY z=>?_
 exact⟨rfl,SP.of (D.lZ (tk:=l.toks) hl hr B z (yN q v t k.toNat) λb o hb e=>by rw[Ia _ _ (qb hb)];exact e)⟩
end
section
variable{G:Gl}{rd' as:List Ba}
 {K':ma->Jb->Prop} {Q:Ff->aa->Prop}
theorem PE(g:GA N A)(so:uj sc ν)(x:St G ν rd σ δ ς K s){y v:Ba}{E pv j pos:Sd}{l it:Oa}{ifs:List Oa}{scope:He}(hps:Zg sc scope=a8)(hx:scope.names.lookup v=ac .local)
  {f:Oa->Option Rs} (S:Kf π w A ν f s) {xs:List Int} {c:Prop} (hI:fS (Yl sc) f it=ac (xs,c)) (hc:c) (aS:xs.length<=2 ^ 24) (i:Int->Bool) (val:Int->Int)
  (k:∀C s' u,u∈xs->Kp s s'->RE G (Xd scope (jf ν.cells scope.names []) C ν) ((v,.int u)::freeOf scope σ) s'->
   wpAny (ja π w) A (forIn ifs a8 λc r=>if r=a8 then do let ok <- isTrue c (Xd scope (jf ν.cells scope.names []) C ν) (eval c (Xd scope (jf ν.cells scope.names []) C ν));pure (Tc ok) else pure (Tc r))
    (λok Sg=>ok=i u/\Kp s' Sg) Hc s')
  (O:∀C s' u,u∈xs->i u=a8->Kp s s'->RE G (Xd scope (jf ν.cells scope.names []) C ν) ((v,.int u)::freeOf scope σ) s'->
   wpAny (ja π w) A (eval l (Xd scope (jf ν.cells scope.names []) C ν)) (λz Sg=>(∃t,z=.int (val u) t)/\Kp s' Sg) Hc s')
  (B:∀z,Me it ν z=pure z) (hya:y∈as) (hk:ν.kindOf y=ac .local)
  (hsw:Lf (.ListComp l [⟨.Name v pv,it,ifs,0⟩] scope j) (ac (.Name y E)) pos.line ν=pure a8):
  wpAny (ja π w) A (Cg (.Assign [.Name y E] (.ListComp l [⟨.Name v pv,it,ifs,0⟩] scope j) pos) ν) (λf s'=>f=.next/\SP G ν rd ((y,.il ((xs.filter i).map val))::σ) δ as ς K s') Hc s:=by
 have ps:=xe.of hps;rw[JR _ _ _ _ hsw];refine Kb (Fb (Kb ?_));show wpAny _ A (do let _ <- comprehension (.ListComp l [⟨.Name v pv,it,ifs,0⟩] scope j) scope ν _ (sM []) be (eval it ν) (ac (Qk (.Name y E) ν))) _ _ s
 refine Kb (Ub (Hg (use:=ac (Qk (.Name y E) ν)) (Q:=λ_ s'=>SP G ν rd ((y,.il ((xs.filter i).map val))::σ) δ as ς K s') rfl B (qg (bo ps so x.re)) ps.kind ps.locs
  (Ig (FQ S x.re hI hc λh=>so.glob _ (by simpa [Yl] using h)) (λxv o7 Eb=>Ig Eb (λitv kN H=>?_)))) (λ_ s' hq=>la (la ⟨rfl,hq⟩)) λ_ _ e=>e)
 refine ue λhC=>?_;obtain ⟨I,L,rfl,k2,hI0,hL,itA⟩:=H;refine hC ?_;refine Pz (RR:=λjh C=>compPost (ja π w) A Hc (ac (Qk (.Name y E) ν)) (λ_ s'=>SP G ν rd ((y,.il ((xs.filter i).map val))::σ) δ as ς K s') jh C) (ς:=s) g ps so hx k2 hI0 itA hL x.re aS i val k O ?_;intro D C h' tk m' hD hC V hn hl hk';show wpAny _ A (Qk (.Name y E) ν (.ref D)) _ _ _
 have x1:St G ν rd σ δ ς K {s with heap:=h',toks:=tk}:=x.step ⟨h',tk,rfl,hk'⟩;have ZR:∀b o,s.heap.get? b=ac o->b≠C:=λb o e q=>nomatch ((congrArg s.heap.get? q).symm.trans e).symm.trans hC
 have T:ν.locals≠C:=x.ns.elim λmm hm=>hm.elim λo q=>q.elim λ_ q=>q.elim λ_ q=>ZR _ _ q.1;have Y:∀z c,ν.cells.lookup z=ac c->c≠C:=λz c e=>(x.ce z c e).elim λu q=>q.elim λo q=>ZR _ _ q.1;have M:∀z ns,σ.lookup z=ac (.il ns)->δ z≠C:=λz ns e=>(x.list e).2.elim λvs q=>q.elim λm q=>ZR _ _ q.1;obtain ⟨oC,es,ep,hoC,hdC,hsk,hnf⟩:=id hn;have x2:=x1.gC hoC T Y M;obtain ⟨vs,m,gD,iD⟩:=hl;refine Ob (Ig (x2.bind (y:=y) (p:=.il ((xs.filter i).map val)) (v:=.ref D) (a:=D) (.inl hk) ⟨D,vs,m,rfl,gD,iD⟩ ?_) (λ_ n x3=>?_))
 ·exact λns hns=>⟨rfl,λ_ _ o q=>q.elim (λq=>(nomatch (x.ks D o q).symm.trans hD)) λq=>V q.1,λz ms hz _ e q=>(x.list e).2.elim λws z'=>z'.elim λm2 z'=>(nomatch ((congrArg s.heap.get? q).trans z'.1).symm.trans hD)⟩
 ·have J:=x3.ks C oC (.inr ⟨rfl,rfl⟩);refine⟨m',⟨oC,es,ep,J,hdC,hsk,hnf⟩,λyC sb=>?_⟩
  have x4:St G ν rd ((y,.il ((xs.filter i).map val))::σ) (λz=>if z=y then D else δ z) ς K n:=x3.weak (λb o q=>.inl q) x.k0;refine⟨_,λz hz=>if_neg λ(q:z=y)=>hz (q▸hya),x4.fx (tk:=n.toks) T Y (λz ns e=>?_) (λo q=>(nomatch (x.ks C o q).symm.trans hC)) λb o hb e=>sb.extBut b o hb e⟩
  show(if z=y then D else δ z)≠C
  refine(Gd e).elim (λd=>?_) λd=>?_
  ·rw[if_pos d.1];exact V
  ·rw[if_neg d.1];exact M z ns d.2
end
set_option tactic.hygienic false
abbrev Uv(s:aa):ma->Jb->Prop:=λb o=>s.heap.get? b=ac o
section
variable{G:Gl}
theorem Wz{fd:Qm}{body:List Ya}{binds:List (Ba×Value)}{R:Value->aa->Prop}
  (g:GA (N+2) A) (gs:GS G s.heap) (ho:s.heap.get? a=ac o) (hd:o.data=.func fd) (O:s.heap.CodeRec fd.code fd.qualname) (m:fd.body=.stmts body) (hb:mh s fd ⟨vs,[]⟩ binds)
  (hk:fd.scope.kind=.function) (L:fd.scope.isCoroutine=be) (B:fd.scope.isGenerator=be) (hg:fd.globals=Kd) (Q:fd.builtins=td)
  (k:∀x∈fd.scope.names,x.2≠.cell) (u:∀x∈binds,fd.scope.names.lookup x.1=ac .local)
  (l:∀x,fd.scope.names.lookup x=ac .free->(fd.closure.lookup x).isSome=a8)
  (z:∀x y c,fd.closure.lookup x=ac c->fd.closure.lookup y=ac c->x=y) (M:∀x c,fd.closure.lookup x=ac c->∃v,s.heap.IsCell c v)
  (r:∀x p,σ.lookup x=ac p->∃v,VR s.heap p v/\(∀ns,p=.il ns->v=.ref (δ x)/\x∈rd) /\
   ((fd.scope.names.lookup x=ac .local/\binds.reverse.lookup x=ac v)\/(fd.scope.names.lookup x=ac .free/\∃c,fd.closure.lookup x=ac c/\s.heap.IsCell c (ac v))))
  (T:∀x y ns ms,x∉ov->x≠y->σ.lookup x=ac (.il ns)->σ.lookup y=ac (.il ms)->δ x≠δ y)
  (h:∀ν j,ν.scope=fd.scope->GA N (A.deeper ν)->St G ν rd σ δ s (Uv s) j->
   wpAny (ja π w) (A.deeper ν) (Oc body ν) (λf s'=>∃v,f=.ret v/\R v s') Hc j):
  wpAny (ja π w) A (call (.ref a) vs) R Hc s:=by
 refine Iw (KR g.room ho hd L B m O ?_);refine hb _ _ _ _ (ou k u (λh' t J=>?_) hk);have old:∀b o,s.heap.get? b=ac o->h'.get? b=ac o:=λb o e=>J.extBut b o (Na (Ha e)) (ea _ e);refine⟨gs.lim.keeps old,codeAny_func ?_⟩
 generalize d:newEnv fd.scope s.heap.objs.size fd.globals fd.closure (fd.qualname++".<locals>.") (ac a) fd.code a6 fd.builtins=ν;have Y:ν.scope=fd.scope:=by subst d;rfl
 have V:ν.locals=s.heap.objs.size:=by subst d;rfl
 have e3:ν.globals=fd.globals:=by subst d;rfl
 have D:ν.cells=fd.closure:=by subst d;rfl
 have e5:ν.builtins=fd.builtins:=by subst d;rfl
 have C:∀x,ν.kindOf x=fd.scope.names.lookup x:=λx=>by unfold Md;rw[Y]
 have gd:GA N (A.deeper ν):=((g.mono (Se _)).deeper ν);have E:=h ν {s with heap:=h',toks:=s.toks+binds.length} Y gd ?_
 ·exact Ub E (λf s' q=>by obtain ⟨v,rfl,q⟩:=q;exact q) λZ Z q=>q.elim
 refine{kind:=(by rw[Y];exact hk),eg:=e3.trans hg,eb:=e5.trans Q,g0:=gs,sh:=⟨h',_,rfl⟩,k0:=λb o e=>e,ks:=old,ns:=?_,nl:=?_,ce:=?_,nc:=?_,inj:=?_,cells:=?_,look:=?_,new:=?_,apart:=T}
 ·exact⟨_,by rw[V];exact t⟩
 ·intro o e;rw[V] at e;exact absurd (Ha e) (je _)
 ·intro x c e;rw[D] at e;obtain ⟨v,i⟩:=M x c e;exact⟨v,i.keeps old⟩
 ·intro x c e e' o;rw[C] at e';exact absurd rfl (k _ (Qc e'))
 ·rw[D];exact z
 ·intro x n;rw[D];rw[C] at n;rcases n with n|n
  ·exact absurd rfl (k _ (Qc n))
  ·exact l x n
 ·intro x p e;refine ue λhC=>?_;obtain ⟨v,hv,hl,hw⟩:=r x p e;refine hC ?_;refine⟨v,?_,hv.keeps old,λns q=>(hl ns q).1⟩
  rcases hw with ⟨I,H⟩|⟨I,c,H,k3⟩
  ·exact .inl ⟨(C x).trans I,_,by rw[V];exact t,H⟩
  ·exact .inr ⟨.inr ((C x).trans I),c,by rw[D];exact H,k3.keeps old⟩
 ·intro x ns e hr;refine ue λhC=>?_;obtain ⟨v,_,hl,_⟩:=r x _ e;refine hC ?_;exact absurd (hl ns rfl).2 hr
theorem cellsFrom_some:∀(l:List (Ba×Lc)) (k:Nat) (jh:List (Ba×ma)) (x:Ba),((x,Bh)∈l\/(jh.lookup x).isSome=a8)->((uh k l jh).lookup x).isSome=a8
 |[],k,jh,x,h=>by
  rcases h with h|h
  ·cases h
  ·exact h
 |(n,a)::r,k,jh,x,h=>by
  unfold uh;by_cases hk:(a==Bh)=a8
  ·rw[if_pos hk];refine cellsFrom_some r _ _ x ?_;rw[Ka];cases b:x==n with
   |true=>exact .inr rfl
   |false=>
    rcases h with h|h
    ·rcases La.mp h with e|h
     ·cases e;simp at b
     ·exact .inl h
    ·exact .inr h
  ·rw[if_neg hk];refine cellsFrom_some r _ _ x ?_;rcases h with h|h
   ·rcases La.mp h with e|h
    ·cases e;simp at hk
    ·exact .inl h
   ·exact .inr h
end
noncomputable def Ki:Hh->Bool
 |.builtin id _=>!Sb.contains id
 |_=>a8
def xX(a:Ctx):Prop:=Ki a.code=a8/\∀x∈a.below,Ki x.1=a8
theorem xX.enter{b:Ctx}(h:xX b){c:Hh}(hc:Ki c=a8)(hd:Option Value)(p:Sd):xX (b.enter c hd p):=
 ⟨hc,λx a=>by
  rcases La.mp a with rfl|a
  ·exact h.1
  ·exact h.2 x a⟩
theorem xX.goto{a:Ctx}(h:xX a){c:Hh}(hc:Ki c=a8):xX (a.goto c):=⟨hc,h.2⟩
def zd{α:Type}(M:Bk)(A:Wc)(t:xc α)(Q:α->aa->Prop)(s:aa):Prop:=
 ∀b p,b.In A->xX b->Sem.wp M b t (λa Z s'=>Q a s') (λZ Z Z=>False) p s
def Bi(M:Bk)(A:Wc)(c:Hh)(R:Yd->aa->Prop)(s:aa):Prop:=
 ∀a p,a.code=c->a.Below A->xX a->wpCode M a R p s
section
variable{α β:Type}{M:Bk}
theorem kc{t:xc α}{Q:α->aa->Prop}(h:wpAny M A t Q Hc s):zd M A t Q s:=λb p a Z=>h b p a
theorem Od{t:xc α}{Q d:α->aa->Prop}(h:zd M A t Q s)(e:∀a s,Q a s->d a s):zd M A t d s:=
 λc p b cl=>Bs M c t (λa Z s=>e a s) (λZ Z Z x=>x) p s (h c p b cl)
theorem Qb{a:α}{Q:α->aa->Prop}(h:Q a s):zd M A (pure a) Q s:=λZ Z Z Z=>h
theorem rk{m:xc α}{f:α->xc β}{Q:β->aa->Prop}(h:zd M A m (λa s'=>zd M A (f a) Q s') s):zd M A (m>>=f) Q s:=
 λc p b cl=>by
  rw[Sem.wp_bind'];exact Bs M c m (λa d s' h'=>h' c d b cl) (λZ Z Z x=>x) p s (h c p b cl)
theorem Xh{m:xc α}{f:α->xc β}{Q:β->aa->Prop}(h:wpAny M A m (λa s'=>zd M A (f a) Q s') Hc s):zd M A (m>>=f) Q s:=
 rk (kc h)
theorem Vk{m:xc α}{a:α}{Q:α->aa->Prop}(e:m=pure a)(h:Q a s):zd M A m Q s:=by rw[e];exact Qb h
theorem yh{m:xc α}{Q:α->aa->Prop}(h:zd M A m Q s):zd M A (holding vs m) Q s:=
 λb p a cl=>by rw[Sem.wp_holding];exact h b p a cl
theorem NC{m:xc α}{Q:α->aa->Prop}(h:zd M A m Q s):zd M A (m.keep vs) Q s:=
 λb p a cl=>by rw[a2k];exact h b p a cl
theorem Dl{m:xc α}{k:Value->xc Unit}{Q:α->aa->Prop}(h:zd M A m Q s):zd M A (m.onRaise k) Q s:=
 λb p a cl=>by
  rw[Sem.wp_onRaise];exact Bs M b m (λZ Z Z x=>x) (λZ Z Z x=>x.elim) p s (h b p a cl)
theorem NX{c:Bool}{a b:xc α}{Q:α->aa->Prop}(h:if c then zd M A a Q s else zd M A b Q s):zd M A (if c=a8 then a else b) Q s:=by
 cases c <;> simpa using h
theorem jg{c:Bool}{a b:xc α}{Q:α->aa->Prop}(hc:c=be)(h:zd M A b Q s):zd M A (if c=a8 then a else b) Q s:=by
 subst hc;exact h
theorem Ww{c:Bool}{a b:xc α}{Q:α->aa->Prop}(hc:c=a8)(h:zd M A a Q s):zd M A (if c=a8 then a else b) Q s:=by
 subst hc;exact h
theorem wi{c:Hh}
  (h:zd M (A.under c) (M.den c) (λa s'=>match a with|.done f=>R (.ok f) s'|.again c'=>c'.quiet=a8/\Ki c'=a8/\Bi M A c' R s') s):
  Bi M A c R s:=λd p hc b cl=>by
 rw[wpCode_iff_wp,hc];refine Bs M d _ (λa e s' h'=>?_) (λZ Z Z x=>x.elim) p s (h d p (hc▸b.in) cl);cases a with
 |done f=>exact h'
 |again c'=>exact⟨h'.1,h'.2.2 (d.goto c') e rfl (b.goto c') (cl.goto h'.2.1)⟩
theorem SS{c:Hh}{h:Option Value}{Q:Ff->aa->Prop}(d:Ki c=a8)
  (hc:Bi M (A.mark h) c (λr s'=>∃f,r=.ok f/\Q f s') s) (b:h≠ac byPass:=by intro x;exact nomatch x):zd M A (CC c h) Q s:=
 λe p a cl=>by
  rw[Sem.wp_run];exact wpCode_mono (λr s' x=>by obtain ⟨f,rfl,q⟩:=x;exact q) (hc _ p rfl (a.enter c h p b) (cl.enter d h p))
theorem yA{c:Hh}(b:Ki c=a8)(hc:Bi M A c (λr s'=>∃v,r=.ok (.ret v)/\Q v s') s):zd M A (a2U c) Q s:=
 λd p a cl=>by
  rw[Sem.wp_runValue];exact wpCode_mono (λr s' x=>by obtain ⟨f,rfl,q⟩:=x;exact q) (hc _ p rfl (a.enter c a6 p (by intro x;exact nomatch x)) (cl.enter b a6 p))
theorem Yp{f:Value}{pos:List Value}{a:List (Ba×Value)}
  (hc:Bi M A (.call f ⟨pos,a⟩) (λr s'=>∃v,r=.ok (.ret v)/\Q v s') s):zd M A (call f pos a) Q s:=yA rfl hc
theorem GF{c:Hh}{Q:Ff->aa->Prop}(a:Ki c=a8)(hc:Bi M A c (λr s'=>∃f,r=.ok f/\Q f s') s):zd M A (qM c ν) Q s:=by
 delta qM;exact Dl (SS a hc)
theorem dnx{c:Prop}[Decidable c]{α:Type}{t:c->α}{e:¬c->α}{x:α}(h:¬c)(q:e h=x):dite c t e=x:=(dif_neg h).trans q
theorem wq{a:ma}{c:Hh}{p:Sd}(hc:Ki c=a8)(hg:c.isGuard=be):
  (match ((c,p):Hh×Sd) with
   |(.builtin "bytearray.__contains__" ⟨v::_,_⟩,_)|(.builtin "bytearray.__mod__" ⟨v::_,_⟩,_)
   |(.builtin "bytearray.__rmod__" ⟨_::v::_,_⟩,_)|(.builtin "_struct.pack_into.held" ⟨v::_,_⟩,_)=>Sj v (.ref a)
   |(.builtin "bytearray.find.held" ⟨_::_::d,_⟩,_)=>d.any (Sj (.ref a))
   |(.builtin id ⟨v::_,_⟩,_)=>Sj v (.ref a)&&Sb.contains id
   |_=>be)=be:=by
 cases c with
 |builtin id args=>
  obtain ⟨ps,e⟩:=args;have b:∀i,guardIds.contains i=a8->¬id=i:=by
   rintro i h rfl
   exact Bool.noConfusion ((show guardIds.contains id=be from hg).symm.trans h)
  have hn:Sb.contains id=be:=(Ge _).mp hc;delta wq.match_1;refine dnx (b "bytearray.__contains__" (by decide +kernel)) ?_;refine dnx (b "bytearray.__mod__" (by decide +kernel)) ?_;refine dnx (b "bytearray.__rmod__" (by decide +kernel)) ?_;refine dnx (b "_struct.pack_into.held" (by decide +kernel)) ?_;refine dnx (b "bytearray.find.held" (by decide +kernel)) ?_;cases ps with
  |nil=>rfl
  |cons v r=>exact(congrArg (Sj v (.ref a)&&·) hn).trans (Bool.and_false _)
 |_=>rfl
theorem OG{l:List (Hh×Sd)}(h:a2W l=[]):∀x∈l,x.1.isGuard=be:=by
 intro x a;cases q:x.1.isGuard with
 |false=>rfl
 |true=>
  have:x.1∈a2W l:=Mi.mpr ⟨ze a,q⟩;rw[h] at this;exact nomatch this
theorem zA{Q:Bool->aa->Prop}(hg:A.guards=ac [])(h:Q be s):zd M A (Rm (.ref a)) Q s:=λb p g cl=>by
 delta Rm;show Q (((b.code,p)::b.below).any _) s
 have h0:a2W ((b.code,p)::b.below)=[]:=by rw[guardsOf_cons];exact g.2.2.2.1 [] hg
 have hn:=OG h0;have e:∀f:Hh×Sd->Bool,(∀x∈((b.code,p)::b.below),f x=be)->(((b.code,p)::b.below).any f)=be:=by
  intro f hf;rw[CM];intro x d;rw[hf x d];exact ih
 rw[e]
 ·exact h
 ·intro x d;obtain ⟨c,q⟩:=x;refine wq ?_ (hn _ d)
  refine(La.mp d).elim (λe=>?_) λd=>?_
  ·cases e;exact cl.1
  ·exact cl.2 _ d
end
section
variable{α β:Type}{M:Bk}
def kq(M:Bk)(A:Wc)(f:α->xc β)(Q:β->aa->Prop):α->aa->Prop:=λa s'=>zd M A (f a) Q s'
theorem om{m:xc α}{f:α->xc β}{Q:β->aa->Prop}(h:zd M A m (kq M A f Q) s):zd M A (m>>=f) Q s:=rk h
theorem Nj{m:xc α}{f:α->xc β}{Q:β->aa->Prop}(h:wpAny M A m (kq M A f Q) Hc s):zd M A (m>>=f) Q s:=Xh h
variable{Q:Ff->aa->Prop}
theorem a3P{a b:Ya}(e:a=b)(h:wpAny M A (Cg b ν) Q E s):wpAny M A (Cg a ν) Q E s:=e▸h
theorem Oj{a b:List Ya}(e:a=b)(h:wpAny M A (Oc b ν) Q E s):wpAny M A (Oc a ν) Q E s:=e▸h
end
theorem a1I(w:sa)(b:Bool)(m k:Nat)(i:Int)(ti:xm)(j:Int)(c:xm)(l:Int)(a:xm)(d:Bool)(lv:List Value)(f:Yd->xc Fin)(bd:List Ya)(ν:Al)(pos:Sd)
  (y:Yd->xc Fin) (g:Bool) (lv2:List Value) (ar:Dp) (q:Sd) (kp:List Value):a1J w b m k i ti j c l a d lv f bd ν pos y g lv2 ar q kp:=by
 show pJ PP T0 Te w b m k i ti j c l a d lv f bd ν pos y g lv2 ar q kp
 rw[Fast.te15105972147591453868];unfold Fast.tw15105972147591453868;cases b <;> kernel_rfl
noncomputable def eO:nF Unit:=⟨λZ Z=>a6,λZ Z Z=>a6,λZ Z=>a6⟩
def JB(p:Pa)(w:sa)(b:Bool)(i:Int)(t:xm)(x:Ba)(u:xm)(k:Nat)(K:Bool->xc Fin)(H:Value->xc Fin)(gd:Bool->Bool)(lv:List Value->List Value)(code:Hh)(pos:Sd)(fr:sg)(st:List sg):Prop:=
 rn eO mq (Vb Ra) p (w.withFollow "special-get-raises" b) 11 nj 11 () k ⟨(eqBool (.int i t) (.str x u)).wrap K H gd lv,code,pos,fr::st⟩=ac ((),k,⟨K be,code,pos,fr::st⟩)
def IB(p:Pa)(w:sa)(b:Bool)(x:Ba)(t:xm)(y:Ba)(u:xm)(k:Nat)(K:Bool->xc Fin)(H:Value->xc Fin)(gd:Bool->Bool)(lv:List Value->List Value)(code:Hh)(pos:Sd)(fr:sg)(st:List sg):Prop:=
 rn eO mq (Vb Ra) p (w.withFollow "special-get-raises" b) 11 nj 4 () k ⟨((richCompare .Eq (.str x t) (.str y u)).bind truthOfDropped).wrap K H gd lv,code,pos,fr::st⟩=ac ((),k,⟨K (x.cps.toList==y.cps.toList),code,pos,fr::st⟩)
noncomputable def kH:=JB PP
noncomputable def jH:=IB PP
lay_quick Mine.JB Mine.IB
theorem kV(w:sa)(b:Bool)(i:Int)(t:xm)(x:Ba)(u:xm)(k:Nat)(K:Bool->xc Fin)(H:Value->xc Fin)(gd:Bool->Bool)(lv:List Value->List Value)(code:Hh)(pos:Sd)(fr:sg)(st:List sg):
  kH w b i t x u k K H gd lv code pos fr st:=by
 unfold kH;rw[Fast.te8021781204166452691];unfold Fast.tw8021781204166452691;cases b <;> kernel_rfl
theorem jV(w:sa)(b:Bool)(x:Ba)(t:xm)(y:Ba)(u:xm)(k:Nat)(K:Bool->xc Fin)(H:Value->xc Fin)(gd:Bool->Bool)(lv:List Value->List Value)(code:Hh)(pos:Sd)(fr:sg)(st:List sg):
  jH w b x t y u k K H gd lv code pos fr st:=by
 unfold jH;rw[Fast.te8157759897032262837];unfold Fast.tw8157759897032262837;cases b <;> kernel_rfl
def gh{α:Type}(w:sa)(gs:Array Oe)(d:Pn)(os:vj)(code:Hh)(st:List sg)(h:Xb)(k:Nat)(pos:Sd)(m:xc α)(h':Xb)(k':Nat)(pos':Sd)(a:α):Prop:=
 ∀(K:α->xc Fin) (H:Value->xc Fin) (gd:Bool->Bool) (lv:List Value->List Value),
  Goes PP w 11 nj ⟨h,gs,d,k,os⟩ ⟨m.wrap K H gd lv,code,pos,st⟩ ⟨h',gs,d,k',os⟩ ⟨K a,code,pos',st⟩
section
variable{α β:Type}{d:Pn}{os:vj}{code:Hh}{fr:sg}{st:List sg}{yC:Xb}{k' Lu:Nat}{pos pos' Wn:Sd}
theorem Ue(a:α):gh w gs d os code st h k pos (rj a) h k pos a:=λZ Z Z Z=>Goes.refl
theorem RU{m:xc α}{f:α->xc β}{a:α}{b:β}(x:gh w gs d os code st h k pos m h' k' pos' a)(y:gh w gs d os code st h' k' pos' (f a) yC Lu Wn b):
  gh w gs d os code st h k pos (m.bind f) yC Lu Wn b:=λK H gd lv=>by
 rw[tS,Ul]
 exact(x _ _ _ _).trans (y K H gd lv)
theorem Hd{m:xc α}{f:α->xc β}{a:α}{b:β}(x:gh w gs d os code st h k pos m h' k' pos' a)(y:gh w gs d os code st h' k' pos' (f a) yC Lu Wn b):
  gh w gs d os code st h k pos (m>>=f) yC Lu Wn b:=RU x y
theorem NU{m:xc α}{a:α}(vs:List Value)(x:gh w gs d os code st h k pos m h' k' pos' a):gh w gs d os code st h k pos (m.keep vs) h' k' pos' a:=λK H gd lv=>by
 rw[rS,Ul];exact x _ _ _ _
theorem Yk{m:xc α}{a:α}(vs:List Value)(x:gh w gs d os code st h k pos m h' k' pos' a):gh w gs d os code st h k pos (holding vs m) h' k' pos' a:=by
 unfold holding;split
 ·exact x
 ·exact NU _ x
theorem wB{t t':Wb}(c:Hk t=be)(b:Fo 11 nj t=a8)(a:og (Vb Ra) PP w s t=.go s' t'):Goes PP w 11 nj s t s' t':=λN r H=>by
 refine⟨N+1,?_⟩
 unfold iA;rw[c,b,a];exact H
theorem Fw{q:Option Value}{f:Jb->xc α}{x:α}(b:h.get? a=ac o)(y:gh w gs d os code st h k pos (f o) h' k' pos' x):
  gh w gs d os code st h k pos (Sem.load a q f) h' k' pos' x:=λK H gd lv=>Goes.trans (br b) (y K H gd lv)
theorem xB{a:String}{f:Unit->xc α}{x:α}(y:gh w gs d os code st h k pos (f ()) h' k' pos' x):
  gh w gs d os code st h k pos (Sem.rule a f) h' k' pos' x:=λK H gd lv=>Goes.trans (wB (by simp[As,Hk]) (by simp[As,Fo,Jq,eh,zi,Nn]) rfl) (y K H gd lv)
theorem LK{q:Option Value}{g:Jb->Jb}{f:Unit->xc α}{x:α}(b:h.get? a=ac o)(c:Yg 11 a=a8)(y:gh w gs d os code st (h.update a g) k pos (f ()) h' k' pos' x):
  gh w gs d os code st h k pos (Sem.update a q g f) h' k' pos' x:=λK H gd lv=>Goes.trans (Iz b c) (y K H gd lv)
theorem bX{p:Sd}{f:Unit->xc α}{x:α}(y:gh w gs d os code st h k p (f ()) h' k' pos' x):
  gh w gs d os code st h k pos (Sem.at p f) h' k' pos' x:=λK H gd lv=>Goes.trans (wB (by simp[As,Hk]) (by simp[As,Fo,Jq,eh,zi,Nn]) rfl) (y K H gd lv)
theorem fQ{f:ma->xc α}{x:α}(y:gh w gs d os code st (h.push o) k pos (f h.objs.size) h' k' pos' x):
  gh w gs d os code st h k pos (Sem.alloc o f) h' k' pos' x:=λK H gd lv=>Goes.trans (wB (by simp[As,Hk]) (by simp[As,Fo,Jq,eh,zi,Nn]) rfl) (y K H gd lv)
theorem Dx{l:List α}{b:β}{f:α->β->xc (ForInStep β)}(y:∀x∈l,gh w gs d os code st h k pos (f x b) h k pos (.yield b)):
  gh w gs d os code st h k pos (forIn l b f) h k pos b:=by
 induction l with
 |nil=>exact Ue b
 |cons x l a=>
  rw[rf];exact Hd (y x (va ..)) (a λz hz=>y z (pa _ hz))
theorem lq{σ:Type}{good:σ->Prop}{R:σ->Xb->Prop}{p:Pa}{oh:Nat}{ro:Option Value}:eA good R mq p w oh ro gs d:=λZ Z Z=>OK.none
theorem DT(h:Xb):Lm eO (λZ=>True) (λZ h'=>h'=h):=⟨λZ Z=>OK.none,λZ Z Z=>OK.none,λZ Z=>OK.none⟩
theorem Ss{t t':Wb}(e:rn eO mq (Vb Ra) PP w 11 nj N () k t=ac ((),k',t')):
  Goes PP w 11 nj ⟨h,gs,d,k,os⟩ t ⟨h,gs,d,k',os⟩ t':=by
 exact(Tn (DT h) (lq (good:=λZ=>True) (R:=λZ h'=>h'=h)) e trivial rfl).elim λh' q=>q.2▸q.1
theorem QU{i:Int}{x:Ba}:gh w gs d os code (fr::st) h k pos (eqBool (.int i t) (.str x u)) h k pos be:=λK H gd lv=>by
 have e:=kV w (w.params.followText aq) i t x u k K H gd lv code pos fr st;unfold kH JB at e;rw[Zb] at e;exact Ss e
theorem PU{x:Ba}{y:Ba}(a:x≠y):gh w gs d os code (fr::st) h k pos (eqBool (.str x t) (.str y u)) h k pos be:=λK H gd lv=>by
 have e:=jV w (w.params.followText aq) x t y u k K H gd lv code pos fr st;unfold jH IB at e;rw[Zb] at e;have g:=Ss (h:=h) (gs:=gs) (d:=d) (os:=os) e;have hf:(x.cps.toList==y.cps.toList)=be:=by
  refine beq_eq_false_iff_ne.mpr λhl=>a ?_;cases x;cases y
  simp only[Str.mk.injEq];exact Array.toList_inj.mp hl
 rw[hf] at g;have hv:¬(sl x t==sl y u)=a8:=λq=>by
  have:=eq_of_beq q
  injection this with b
  exact a b
 unfold eqBool;show Goes _ _ _ _ _ ⟨As K H gd lv (if (sl x t==sl y u)=a8 then _ else _),_,_,_⟩ _ _
 rw[if_neg hv];exact g
end
section
variable{α β:Type}{d:Pn}{os:vj}{code:Hh}{fr:sg}{st:List sg}{yC:Xb}{k' Lu:Nat}{pos pos' Wn:Sd}
def Cz(x:Ba)(es:Array fb):Prop:=∀e∈es,(∃i t,e.key=.int i t)\/∃y t,e.key=.str y t/\y≠x
theorem Ut{q:Option Value}{es:Array fb}{ep:Nat}(b:h.get? a=ac o)(hd:o.data=.dict es ep):gh w gs d os code (fr::st) h k pos (B5 a q) h k pos ep:=by
 unfold B5;refine Hd (Fw b (Ue o)) ?_;rw[hd];exact Ue ep
theorem Gm{q:Option Value}{es:Array fb}{ep:Nat}(b:h.get? a=ac o)(hd:o.data=.dict es ep):gh w gs d os code (fr::st) h k pos (mS a q) h k pos es:=by
 unfold mS;refine Hd (Fw b (Ue o)) ?_;rw[hd];exact Ue es
theorem eQ{x:Ba}{e:fb}(hk:(∃i t,e.key=.int i t)\/∃y t,e.key=.str y t/\y≠x):gh w gs d os code (fr::st) h k pos (eqBool e.key (.str x u)) h k pos be:=by
 rcases hk with ⟨i,t,b⟩|⟨y,t,b,a⟩
 ·rw[b];exact QU
 ·rw[b];exact PU a
set_option tactic.hygienic true in
theorem MU{x:Ba}{es:Array fb}{ep:Nat}{j:Int}(c:List Nat)(g:h.get? a=ac o)(hd:o.data=.dict es ep)(hk:Cz x es):
  gh w gs d os code (fr::st) h k pos (bw a (.str x u) j es c) h k pos a6:=by
 unfold bw;refine Hd (Dx (b:=(a6,())) λi _=>?_) (Ue a6);split
 ·rename_i e he
  have f:=hk e (Up he);split
  ·refine Hd (Ut g hd) (Hd (eQ f) (Hd (Ut g hd) ?_));rw[if_neg (by simp)];rw[if_neg (by simp)];exact Hd (xB (Ue _)) (Ue _)
  ·exact Ue _
 ·exact Ue _
theorem OU{x:Ba}{es:Array fb}{ep:Nat}{f:Int}(g:h.get? a=ac o)(hd:o.data=.dict es ep)(hk:Cz x es)(hi:(es.all λe=>isExactStrKey e.key)=be):
  gh w gs d os code (fr::st) h k pos (Ay a (.str x u) f) h k pos a6:=by
 unfold Ay;refine Yk _ (Hd (Gm g hd) ?_);have b:((sl x u::(rF es.size (λi=>es[i]?.map (·.hash)) f).filterMap λi=>es[i]?.map (·.key)).all a2Y)=a8:=by
  rw[xo,Aa.mpr,HX]
  ·rfl
  ·intro v hv;obtain ⟨i,_,hi⟩:=List.mem_filterMap.mp hv;cases he:es[i]? with
   |none=>rw[he] at hi;cases hi
   |some e=>
    rw[he] at hi;obtain rfl:e.key=v:=by simpa using hi
    rcases hk e (Up he) with ⟨i,t,c⟩|⟨y,t,c,j⟩
    ·rw[c];rfl
    ·rw[c];rfl
 dsimp only;rw[hi,if_neg (by simp),if_pos b];exact MU _ g hd hk
end
structure T3 where
 t:BT
 b:Nat
 u:BT
 c:Nat
noncomputable def ld3(s:T3)(a:ma):Option (Jb×T3):=match Ji a s.b with
 |true=>(gv (s.t.get a)).bind λo=>ac (o,s)
 |false=>(gv (s.u.get (a-s.b))).bind λo=>ac (o,s)
noncomputable def kM(s:T3)(a:ma)(f:Jb->Jb):Option T3:=bif Yg s.b a then (gv (s.u.get (a-s.b))).bind λZ=>ac ⟨s.t,s.b,s.u.set (a-s.b) f,s.c⟩ else a6
noncomputable def al3(s:T3)(o:Jb):Option (ma×T3):=bif ((s.u.ins s.c o).get s.c).isSome then ac (s.b+s.c,⟨s.t,s.b,s.u.ins s.c o,Bp s.c⟩) else a6
noncomputable def V7:nF T3:=⟨ld3,kM,al3⟩
structure VE(Eb:Xb)(s:T3)(h:Xb):Prop where
 size:h.objs.size=s.b+s.c
 old:∀i o,s.t.get i=ac o->o.isFreed=be->i < s.b->Eb.get? i=ac o
 own:∀i o,s.u.get i=ac o->o.isFreed=be->h.get? (s.b+i)=ac o
 low:∀i,i < s.b->h.get? i=Eb.get? i
theorem t3a(a b:Nat)(h:b<=a):b+(a-b)=a:=Vf h
theorem t3b(a b i:Nat)(h:b<=a)(q:i=a-b):b+i=a:=q▸Vf h
theorem t3c(a b i:Nat)(h:b<=a)(q:¬i=a-b):a≠b+i:=λe=>q (Nat.sub_eq_of_eq_add' e).symm
theorem t3d(a b i:Nat)(h:b<=a)(q:i < b):a≠i:=Td (ya q h)
theorem Ws{a b:Nat}(h:Ji a b=a8):a < b:=De h
theorem N3{a b:Nat}(h:Ji a b=be):b<=a:=ye λq=>by
 have:Ji a b=a8:=Nat.ble_eq_true_of_le q;rw[this] at h;exact nomatch h
structure mF(b:Nat)(u:BT)(h:Xb):Prop where
 own:∀i o,u.get i=ac o->o.isFreed=be->h.get? (b+i)=ac o
theorem mF.at{b:Nat}{u:BT}(w:mF b u h){a:Nat}(hb:b<=a)(e:u.get (a-b)=ac o)(q:o.isFreed=be):h.get? a=ac o:=(congrArg h.get? (t3a a b hb)).symm.trans (w.own _ _ e q)
theorem mF.upd{b:Nat}{u:BT}(w:mF b u h){a:Nat}{f:Jb->Jb}(hb:b<=a)(e:u.get (a-b)=ac o)(c:h.get? a=ac o):mF b (u.set (a-b) f) (h.update a f):=
 ⟨λi o' hi hf=>En c hf ((KA e hi).imp (λq=>⟨t3b a b i hb q.1,q.2⟩) λq=>⟨qb (t3c a b i hb q.1),w.own _ _ q.2 hf⟩)⟩
theorem mF.push{b c:Nat}{u:BT}(w:mF b u h)(a:h.objs.size=b+c)(g:((u.ins c o).get c).isSome=a8):mF b (u.ins c o) (h.push o):=
 ⟨λi o' hi hf=>Vq hf ((Vo g hi).imp (λq=>⟨(congrArg (b+·) q.1).trans a.symm,q.2⟩) λq=>w.own _ _ q hf)⟩
theorem zT(Eb:Xb):Lm V7 (λZ=>True) (VE Eb) where
 ld s a:=by
  show OK (match Ji a s.b with|true=>_|false=>_) _
  cases hb:Ji a s.b with
  |true=>exact OK.get λo e q=>OK.some ⟨id,λh Z r=>⟨(r.low a (Ws hb)).trans (r.old _ _ e q (Ws hb)),r⟩⟩
  |false=>exact OK.get λo e q=>OK.some ⟨id,λh Z r=>⟨mF.at ⟨r.own⟩ (N3 hb) e q,r⟩⟩
 up s a f:=OK.bif λhb=>OK.get λo e q=>have hb:=De hb
  OK.some ⟨id,λh Z r=>have c:=mF.at ⟨r.own⟩ hb e q
   ⟨Bm c,El.trans r.size,r.old,(mF.upd ⟨r.own⟩ hb e c).own,λi hi=>(Ia h f (t3d a s.b i hb hi)).trans (r.low i hi)⟩⟩
 al s o:=OK.bif λg=>OK.some ⟨id,λh Z r=>⟨r.size.symm,Un.trans (congrArg (·+1) r.size),r.old,(mF.push ⟨r.own⟩ r.size g).own,
  λi hi=>(tw (ya hi (ka (Za _ _) (Yc r.size.symm)))).trans (r.low i hi)⟩⟩
theorem bQ(m:Nat)(obl:List (ma×ma))(h:obl=(Ew.reverse.filter (λx=>!Nat.beq x 0)).map (λx=>(m+140+(x-1),m+140+(x-1)))):∀p∈obl,p.1=p.2:=λp hp=>
 (Ma.mp (h▸hp)).elim λx q=>by rw[<- q.2]
noncomputable def a1Q(cl:ma):(m:xc Fin)->Option {x:(Int×xm)×(Int×xm)×(Int×xm)×Bool×List Value×(Yd->xc Fin) // m=.call (.call (.ref cl) ⟨[.int x.1.1 x.1.2,.int x.2.1.1 x.2.1.2,.int x.2.2.1.1 x.2.2.1.2],[]⟩) a6 x.2.2.2.1 x.2.2.2.2.1 x.2.2.2.2.2}
 |.call (.call (.ref a) ⟨[.int i ti,.int j c,.int l b],[]⟩) a6 g lv f=>if h:a=cl then ac ⟨((i,ti),(j,c),(l,b),g,lv,f),h▸rfl⟩ else a6
 |_=>a6
noncomputable def bdO:(c:Hh)->Option {x:List Ya×Al // c=.body x.1 x.2}
 |.body b e=>ac ⟨(b,e),rfl⟩
 |_=>a6
noncomputable def frO:(l:List sg)->Option {x:(Yd->xc Fin)×Bool×List Value×Dp×Sd×List Value // l=[.ret x.1 a6 x.2.1 x.2.2.1 (.builtin "claim.caller" x.2.2.2.1) x.2.2.2.2.1 x.2.2.2.2.2]}
 |[.ret y a6 g lv (.builtin id ar) q kp]=>if h:id="claim.caller" then ac ⟨(y,g,lv,ar,q,kp),h▸rfl⟩ else a6
 |_=>a6
noncomputable def u1(s:T3):BT:=s.u.ins s.c Ep
noncomputable def u2(s:T3):BT:=(u1 s).ins (s.c+1) Ep
noncomputable def u3(s:T3):BT:=(u2 s).ins (s.c+2) Ep
noncomputable def u4(dd:Jb)(s:T3):BT:=(u3 s).ins (s.c+3) dd
noncomputable def u5(dd o:Jb)(s:T3):BT:=(u4 dd s).ins (s.c+4) o
structure U5(dd o:Jb)(s:T3):Prop where
 a:((u1 s).get s.c).isSome=a8
 b:((u2 s).get (s.c+1)).isSome=a8
 c:((u3 s).get (s.c+2)).isSome=a8
 d:((u4 dd s).get (s.c+3)).isSome=a8
 e:((u5 dd o s).get (s.c+4)).isSome=a8
 lo:139<=s.b
 le:140<=s.b+s.c
noncomputable def ok3(dd o:Jb)(s:T3):Bool:=((u1 s).get s.c).isSome&&(((u2 s).get (s.c+1)).isSome&&(((u3 s).get (s.c+2)).isSome&&(((u4 dd s).get (s.c+3)).isSome&&(((u5 dd o s).get (s.c+4)).isSome&&(Yg 139 s.b&&Yg 140 (s.b+s.c))))))
theorem QY{dd:Jb}{s:T3}(h:ok3 dd o s=a8):U5 dd o s:=
 have h:=wa.mp h;have h1:=wa.mp h.2;have h2:=wa.mp h1.2;have c:=wa.mp h2.2;have b:=wa.mp c.2;have a:=wa.mp b.2
 ⟨h.1,h1.1,h2.1,c.1,b.1,De a.1,De a.2⟩
theorem OX{dd o':Jb}{s:T3}(u:U5 dd o s)(hi:(u5 dd o s).get i=ac o')(hf:o'.isFreed=be):(i=s.c+4/\o'=o)\/(i=s.c+3/\o'=dd)\/s.u.get i=ac o':=
 have f:∀{p:Prop} {c:Nat},i=c/\o'=Ep->p:=λq=>nomatch (congrArg Obj.isFreed q.2).symm.trans hf
 (Vo u.e hi).imp_right λhi=>(Vo u.d hi).imp_right λhi=>(Vo u.c hi).elim f λhi=>(Vo u.b hi).elim f λhi=>(Vo u.a hi).elim f id
noncomputable def a0a(cl:ma)(d:ma->Value->Value->Value->Jb)(dd:Jb)(a:Nat)(s:T3)(k:Nat)(t:Wb):Option (T3×Nat×Wb):=
 (a1Q cl t.cur).bind λx=>(bdO t.code).bind λZ=>(frO t.stack).bind λZ=>(bif ok3 dd (d (s.b+s.c+3) (.int x.1.1.1 x.1.1.2) (.int x.1.2.1.1 x.1.2.1.2) (.int x.1.2.2.1.1 x.1.2.2.1.2)) s then
  ac (⟨s.t,s.b,u5 dd (d (s.b+s.c+3) (.int x.1.1.1 x.1.1.2) (.int x.1.2.1.1 x.1.2.1.2) (.int x.1.2.2.1.1 x.1.2.2.1.2)) s,s.c+5⟩,k+a,⟨x.1.2.2.2.2.2 (.ok (.ret (.ref (s.b+s.c+4)))),t.code,t.pos,t.stack⟩) else a6)
section
variable{d:Pn}{Eb:Xb}
theorem H7(a:∀i o,(My w).get i=ac o->o.isFreed=be->Eb.get? i=ac o/\i < 139){st:T3}{m:Nat}(hn:m+140=st.b+st.c)(d:139<=st.b)(r:VE Eb st h):KH h ⟨My w,m,[],Ew,[]⟩ h:=
 ⟨λZ Z=>rfl,r.size.trans hn.symm,λi o hi hf=>have q:=a i o hi hf;⟨(r.low i (ya q.2 d)).trans q.1,Cd q.2⟩,λZ Z hi=>nomatch hi⟩
theorem I7{st:T3}{s':T2}{dd:Jb}(u:U5 dd o st)(r:VE Eb st h)(R:KH h s' h')(hm:s'.m+140=st.b+st.c)(hl:s'.new.length=5)(d:s'.new[3]?=ac dd)(a:s'.new[4]?=ac o):VE Eb ⟨st.t,st.b,u5 dd o st,st.c+5⟩ h':=
 have ad:∀j,s'.m+140+j=st.b+(st.c+j):=λj=>by rw[hm,FC]
 ⟨R.size.trans ((congrArg (s'.m+140+·) hl).trans (ad 5)),r.old,λi o' hi hf=>(OX u hi hf).elim (λq=>(congrArg h'.get? ((congrArg (st.b+·) q.1).trans (ad 4).symm)).trans (R.own 4 _ (a.trans (congrArg ac q.2.symm)) hf))
   λq=>q.elim (λq=>(congrArg h'.get? ((congrArg (st.b+·) q.1).trans (ad 3).symm)).trans (R.own 3 _ (d.trans (congrArg ac q.2.symm)) hf)) λq=>have q:=r.own _ _ q hf;(R.fr _ (hm▸r.size▸Ha q)).trans q,
  λi hi=>(R.fr i (hm▸ya hi (Za _ _))).trans (r.low i hi)⟩
theorem Z2(a:∀i o,(My w).get i=ac o->o.isFreed=be->Eb.get? i=ac o/\i < 139){st:T3}{i:Int}{ti:xm}{j:Int}{n:xm}{l:Int}{m:xm}{g0:Bool}{v:List Value}{f:Yd->xc Fin}{b:List Ya}{pos:Sd}
  {y:Yd->xc Fin} {g:Bool} {lv:List Value} {ar:Dp} {q:Sd} {kp:List Value} (u:U5 oZ (yG (st.b+st.c+3) (.int i ti) (.int j n) (.int l m)) st):
  Wu (λZ=>True) (VE Eb) PP w 11 nj gs d st k ⟨.call (.call (.ref 135) ⟨[.int i ti,.int j n,.int l m],[]⟩) a6 g0 v f,.body b ν,pos,[.ret y a6 g lv (.builtin "claim.caller" ar) q kp]⟩
   (⟨st.t,st.b,u5 oZ (yG (st.b+st.c+3) (.int i ti) (.int j n) (.int l m)) st,st.c+5⟩,k+7,⟨f (.ok (.ret (.ref (st.b+st.c+4)))),.body b ν,pos,[.ret y a6 g lv (.builtin "claim.caller" ar) q kp]⟩):=by
 have hn:st.b+st.c-140+140=st.b+st.c:=Yb u.le;refine⟨λZ=>trivial,λh os Z r=>?_⟩
 have p:=a1I w (w.params.followText aq) (st.b+st.c-140) k i ti j n l m g0 v f b ν pos y g lv ar q kp;unfold a1J pJ at p;rw[Zb,hn] at p
 refine(Qg.mp p).elim λz q=>?_
 have e:=Ui q.2;have D:=Ui e.2;have C:=Ui D.2;have B:=Ui C.2;have A:=Ui B.2;have x:=Ui A.2
 refine((FN (CT h) (nU (gs:=gs) (d:=d)) z q.1).2 h os (bQ (st.b+st.c-140) z.1.obl (by rw[hn];exact A.1)) (H7 a hn u.lo r)).imp λh' s=>⟨?_,I7 u r s.2 (e.1▸hn) D.1 C.1 B.1⟩
 have:=s.1;rw[x.1,x.2] at this;exact this
theorem qV(a:∀i o,(My w).get i=ac o->o.isFreed=be->Eb.get? i=ac o/\i < 139){st:T3}{i:Int}{ti:xm}{j:Int}{m:xm}{l:Int}{h:xm}{g0:Bool}{n:List Value}{f:Yd->xc Fin}{b:List Ya}{pos:Sd}
  {y:Yd->xc Fin} {g:Bool} {lv:List Value} {ar:Dp} {q:Sd} {kp:List Value} (u:U5 oZ (yG (st.b+st.c+3) (.int i ti) (.int j m) (.int l h)) st) {e:xc Fin} {code:Hh} {stack:List sg}
  (s:e=.call (.call (.ref 135) ⟨[.int i ti,.int j m,.int l h],[]⟩) a6 g0 n f) (r:code=.body b ν) (p:stack=[.ret y a6 g lv (.builtin "claim.caller" ar) q kp]):
  Wu (λZ=>True) (VE Eb) PP w 11 nj gs d st k ⟨e,code,pos,stack⟩
   (⟨st.t,st.b,u5 oZ (yG (st.b+st.c+3) (.int i ti) (.int j m) (.int l h)) st,st.c+5⟩,k+7,⟨f (.ok (.ret (.ref (st.b+st.c+4)))),code,pos,stack⟩):=by
 subst s r p;exact Z2 a u
theorem mU(a:∀i o,(My w).get i=ac o->o.isFreed=be->Eb.get? i=ac o/\i < 139):
  eA (λZ=>True) (VE Eb) (a0a 135 yG oZ 7) PySem.Challenge.pw_im0110_01 w 11 nj gs d:=λZ Z Z=>OK.bind λx Z=>OK.bind λbd Z=>OK.bind λfr Z=>OK.bif λhc=>OK.some (qV a (QY hc) x.2 bd.2 fr.2)
end
noncomputable def vP(st:Ya)(a:Al):List (Option (xc Value)×xc Value):=match st with
 |.Assign _ (.Dict ks vs pos) _=>(evalEachOpt ks a).zip ((evalEach vs a).map λv=>do let x <- v;standAt pos;pure x)
 |_=>[]
noncomputable def E7(st:Ya)(b:Al)(a n:Nat):List (xc Value×xc Value):=(((vP st b).filterMap λ(k,v)=>k.map (·,v)).drop a).take n
noncomputable def Ox:=vP Uh Sh
noncomputable def rr:=E7 Uh Sh
noncomputable def r1:=rr 0 17
noncomputable def r2:=rr 17 17
noncomputable def M7:=rr 34 10
noncomputable def jT:=rr 44 7
noncomputable def r4:=rr 51 17
noncomputable def r5:=rr 68 8
noncomputable def zh(d:ma)(x:xc Value×xc Value)(_:PUnit.{1}):xc (ForInStep PUnit.{1}):=
 x.1>>=λa=>holding [a] x.2>>=λb=>holding [a,b] (B4 d a b)>>=λZ=>pure (.yield ⟨⟩)
noncomputable def Ai:Jb:=⟨.type "dict",a6,.dict #[] 0,#[]⟩
theorem JA{l:List (xc Value×xc Value)}(h:¬l.length<=15):Hp l=(alloc Ai>>=λd=>holding [.ref d] (rule "dict.display.long">>=λZ=>forIn l Dy (zh d)>>=λZ=>pure ())>>=λZ=>pure d):=by
 unfold Hp;simp only[if_neg h];rfl
noncomputable def NM{α:Type}(p:Pa)(T:Wg->BT)(a:Wb)(w:sa)(b:Nat)(u:BT)(c k N:Nat)(m:xc α)(K:α->xc Fin)(H:Value->xc Fin)(gd:Bool->Bool)(lv:List Value->List Value)(bd:List Ya)(ν:Al)(pos:Sd)
  (y:Yd->xc Fin) (g:Bool) (lv2:List Value) (ar:Dp) (q:Sd) (kp:List Value):Option (T3×Nat×Wb):=
 rn V7 (a0a 135 yG oZ 7) (Vb Ra) p w 11 nj N ⟨gPT p T a w,b,u,c⟩ k ⟨m.wrap K H gd lv,.body bd ν,pos,[.ret y a6 g lv2 (.builtin "claim.caller" ar) q kp]⟩
noncomputable def e6{α:Type}:=@NM α PP T0 Te
noncomputable def gm(d:ma)(l:List (xc Value×xc Value)):xc Unit:=
 holding [.ref d] (Hp l)>>=λsub=>
  (holding [.ref d,.ref sub] (xy d (.ref sub) be)).onRaise λx=>do let _ <- holding [.ref d,x] (a2U (.builtin "proto.let_go" {}))
noncomputable def Va(L:List fb)(n:Nat):Jb:=⟨.type "dict",a6,.dict ⟨L⟩ n,#[]⟩
noncomputable def hashW(w:sa)(x:Ba):Int:=if x.cps.isEmpty=a8 then 0 else reduceHash (w.params.strHash x.cps)
def fG(p:Pa)(w:sa)(b:Bool)(x:Ba)(u:xm)(k:Nat)(K:Int->xc Fin)(H:Value->xc Fin)(gd:Bool->Bool)(lv:List Value->List Value)(code:Hh)(pos:Sd)(fr:sg)(st:List sg):Prop:=
 rn eO mq (Vb Ra) p (w.withFollow "special-get-raises" b) 11 nj 7 () k ⟨(pyHash (.str x u)).wrap K H gd lv,code,pos,fr::st⟩=ac ((),k+1,⟨K (hashW w x),code,pos,fr::st⟩)
noncomputable def vT(o:Jb):nF (List ma):=⟨λs x=>ac (o,x::s),λZ Z Z=>a6,λZ Z=>a6⟩
def zP(p:Pa)(w:sa)(b:Bool)(a:ma)(L:List fb)(ep:Nat)(k:Nat)(K:Bool->xc Fin)(H:Value->xc Fin)(gd:Bool->Bool)(lv:List Value->List Value)(code:Hh)(pos:Sd)(fr:sg)(st:List sg):Prop:=
 rn (vT (Va L ep)) mq (Vb Ra) p (w.withFollow "special-get-raises" b) 11 nj 1 [] k ⟨(Pk (.ref a) (.type "dict")).wrap K H gd lv,code,pos,fr::st⟩=ac ([a],k,⟨K a8,code,pos,fr::st⟩)
def rN(p:Pa)(w:sa)(b:Bool)(a:ma)(L:List fb)(ep:Nat)(k:Nat)(K:Option Value->xc Fin)(H:Value->xc Fin)(gd:Bool->Bool)(lv:List Value->List Value)(code:Hh)(pos:Sd)(fr:sg)(st:List sg):Prop:=
 rn (vT (Va L ep)) mq (Vb Ra) p (w.withFollow "special-get-raises" b) 11 nj 1 [] k ⟨(jl (.ref a) "__iter__").wrap K H gd lv,code,pos,fr::st⟩=ac ([a],k,⟨K (ac (.builtin "dict.__iter__")),code,pos,fr::st⟩)
noncomputable def SN:=fG PP
noncomputable def isOk:=zP PP
noncomputable def rY:=rN PP
lay_quick Mine.fG Mine.zP Mine.rN
theorem DY(w:sa)(b:Bool)(x:Ba)(u:xm)(k:Nat)(K:Int->xc Fin)(H:Value->xc Fin)(gd:Bool->Bool)(lv:List Value->List Value)(code:Hh)(pos:Sd)(fr:sg)(st:List sg):
  SN w b x u k K H gd lv code pos fr st:=by
 unfold SN;rw[Fast.te12519646170950736167];unfold Fast.tw12519646170950736167;cases b <;> kernel_rfl
theorem a0J(w:sa)(b:Bool)(a:ma)(L:List fb)(ep:Nat)(k:Nat)(K:Bool->xc Fin)(H:Value->xc Fin)(gd:Bool->Bool)(lv:List Value->List Value)(code:Hh)(pos:Sd)(fr:sg)(st:List sg):
  isOk w b a L ep k K H gd lv code pos fr st:=by
 unfold isOk;rw[Fast.te11064794592318595900];unfold Fast.tw11064794592318595900;cases b <;> kernel_rfl
theorem w7(w:sa)(b:Bool)(a:ma)(L:List fb)(ep:Nat)(k:Nat)(K:Option Value->xc Fin)(H:Value->xc Fin)(gd:Bool->Bool)(lv:List Value->List Value)(code:Hh)(pos:Sd)(fr:sg)(st:List sg):
  rY w b a L ep k K H gd lv code pos fr st:=by
 unfold rY;rw[Fast.te17876129163355585007];unfold Fast.tw17876129163355585007;cases b <;> kernel_rfl
section
variable{α β:Type}{d:Pn}{os:vj}{code:Hh}{fr:sg}{st:List sg}{yC:Xb}{k' Lu:Nat}{pos pos' Wn:Sd}
theorem uT(d:h.get? a=ac o):Lm (vT o) (λs=>∀x∈s,x=a) (λZ h'=>h'=h):=
 ⟨λZ b=>OK.some ⟨λg x c=>g x (.tail _ c),λh' g r=>⟨r▸(congrArg h.get? (g b (.head _))).trans d,r⟩⟩,λZ Z Z=>OK.none,λZ Z=>OK.none⟩
theorem Av(c:h.get? a=ac o){b:List ma}(hg:∀x∈b,x=a){t t':Wb}(e:rn (vT o) mq (Vb Ra) PP w 11 nj N [] k t=ac (b,k',t')):Goes PP w 11 nj ⟨h,gs,d,k,os⟩ t ⟨h,gs,d,k',os⟩ t':=
 (Tn (uT c) (lq (good:=λs=>∀x∈s,x=a) (R:=λZ h'=>h'=h)) e hg rfl).elim λh' q=>q.2▸q.1
theorem PK{L:List fb}{ep:Nat}(b:h.get? a=ac (Va L ep)):gh w gs d os code (fr::st) h k pos (Pk (.ref a) (.type "dict")) h k pos a8:=λK H gd lv=>by
 have e:=a0J w (w.params.followText aq) a L ep k K H gd lv code pos fr st;unfold isOk zP at e;rw[Zb] at e;exact Av b (λx q=>Ca.mp q) e
theorem MK{L:List fb}{ep:Nat}(b:h.get? a=ac (Va L ep)):gh w gs d os code (fr::st) h k pos (jl (.ref a) "__iter__") h k pos (ac (.builtin "dict.__iter__")):=λK H gd lv=>by
 have e:=w7 w (w.params.followText aq) a L ep k K H gd lv code pos fr st;unfold rY rN at e;rw[Zb] at e;exact Av b (λx q=>Ca.mp q) e
theorem NK{x:Ba}:gh w gs d os code (fr::st) h k pos (pyHash (.str x u)) h (k+1) pos (hashW w x):=λK H gd lv=>by
 have e:=DY w (w.params.followText aq) x u k K H gd lv code pos fr st;unfold SN fG at e;rw[Zb] at e;exact Ss e
structure Upd(a:ma)(L:List fb)(ep:Nat)(h h':Xb):Prop where
 at_:h'.get? a=ac (Va L ep)
 other:∀i,i≠a->h'.get? i=h.get? i
 size:h'.objs.size=h.objs.size
theorem ZI{L:List fb}{ep:Nat}{e:fb}{q:Option Value}(b:h.get? a=ac (Va L ep))(c:Yg 11 a=a8)(g:L.length < 1000):
  ∃h',gh w gs d os code (fr::st) h k pos (a2S a (·.push e) q) h' k pos ()/\Upd a (L++[e]) (ep+1) h h':=by
 have f:Kq (·.push e) (Va L ep)=Va (L++[e]) (ep+1):=by
  unfold Va Kq
  simp
 have h1:=Zc (Kq (·.push e)) b rfl;rw[f] at h1;refine⟨h.update a (Kq (·.push e)),?_,h1,λi hi=>Ia h _ (qb hi),?_⟩
 ·unfold a2S;refine Hd (Fw b (Ue _)) ?_;refine Hd (LK b c (Ue _)) ?_;unfold lookBehind;refine Hd (Fw h1 (Ue _)) ?_;have hp:(Va (L++[e]) (ep+1)).data.pastItsLine=a6:=by
   show(if (⟨L++[e]⟩:Array fb).size > mc+1 then ac "dict:memory" else a6)=a6
   rw[if_neg];have:(⟨L++[e]⟩:Array fb).size=L.length+1:=by simp
   rw[this];unfold mc;lia
  rw[hp];exact Ue _
 ·show(h.objs.modify a _).size=_
  rw[iM]
noncomputable def qP:Value->Bool
 |.int ..=>a8
 |_=>be
noncomputable def pn(L:List fb)(e:fb):Bool:=match e.key with
 |.str x _=>L.all (λa=>match a.key with|.int ..=>a8|.str y _=>!(decide (y=x))|_=>be)&&L.any (λa=>!isExactStrKey a.key)
 |.int ..=>L.all (λa=>qP a.key&&!(decide (a.hash=e.hash)))
 |_=>be
theorem SM{b:Value}{c:Int}{es:Array fb}:gh w gs d os code (fr::st) h k pos (bw a b c es []) h k pos a6:=by
 unfold bw;exact Hd (a:=(a6,())) (Ue _) (Ue _)
theorem MD{i:Int}{L:List fb}{ep:Nat}{b:Int}(f:h.get? a=ac (Va L ep))(hk:∀e∈L,qP e.key=a8/\e.hash≠b):
  gh w gs d os code (fr::st) h k pos (Ay a (.int i u) b) h k pos a6:=by
 unfold Ay;refine Yk _ (Hd (Gm f rfl) ?_);have c:rF (⟨L⟩:Array fb).size (λi=>(⟨L⟩:Array fb)[i]?.map (·.hash)) b=[]:=by
  unfold rF;refine List.filter_eq_nil_iff.mpr λj g=>?_;intro q;dsimp only at q;cases he:(⟨L⟩:Array fb)[j]? with
  |none=>rw[he] at q;simp at q
  |some e=>
   rw[he] at q;have hm:e∈L:=by
    have:=Up he
    simpa using this
   exact(hk e hm).2 (by simpa using q)
 dsimp only;rw[c];exact SM
set_option tactic.hygienic true in
theorem Bv{L:List fb}{ep:Nat}{e:fb}(g:h.get? a=ac (Va L ep))(ok:pn L e=a8):
  gh w gs d os code (fr::st) h k pos (Ay a e.key e.hash) h k pos a6:=by
 delta pn at ok;split at ok
 ·rename_i x u f
  rw[f]
  refine(wa.mp ok).elim λo1 j=>?_
  refine OU g rfl ?_ ?_
  ·intro c b;have hm:c∈L:=by simpa using b
   have:=Aa.mp o1 c hm;split at this
   ·rename_i i t hk;exact .inl ⟨i,t,hk⟩
   ·rename_i y t hk;exact .inr ⟨y,t,hk,by simpa using this⟩
   ·exact nomatch this
  ·obtain ⟨c,hm,b⟩:=List.any_eq_true.mp j;refine Bool.eq_false_iff.mpr λq=>?_;have:=Array.all_eq_true'.mp q c (by simpa using hm);rw[this] at b;cases b
 ·rename_i i u f
  rw[f];refine MD g λc hm=>?_;have:=Aa.mp ok c hm
  simpa using this
 ·exact nomatch ok
theorem QG{L:List fb}{ep:Nat}{e:fb}(b:h.get? a=ac (Va L ep))(f:Yg 11 a=a8)(c:L.length < 1000)(ok:pn L e=a8):
  ∃h',gh w gs d os code (fr::st) h k pos (dictPut a e.hash e.key e.val) h' k pos ()/\Upd a (L++[e]) (ep+1) h h':=by
 obtain ⟨h',x,y⟩:=ZI (w:=w) (gs:=gs) (d:=d) (os:=os) (code:=code) (fr:=fr) (st:=st) (k:=k) (pos:=pos) (e:=e) (q:=a6) b f c;refine⟨h',?_,y⟩
 unfold dictPut;exact Hd (Bv b ok) x
theorem PG{L:List fb}{ep:Nat}{x:Ba}(b:h.get? a=ac (Va L ep))(g:Yg 11 a=a8)(f:L.length < 1000)(ok:pn L ⟨hashW w x,.str x u,v⟩=a8):
  ∃h',gh w gs d os code (fr::st) h k pos (B4 a (.str x u) v) h' (k+1) pos ()/\Upd a (L++[⟨hashW w x,.str x u,v⟩]) (ep+1) h h':=by
 refine ue λhC=>?_;obtain ⟨h',c,y⟩:=ZI (w:=w) (gs:=gs) (d:=d) (os:=os) (code:=code) (fr:=fr) (st:=st) (k:=k+1) (pos:=pos) (e:=⟨hashW w x,.str x u,v⟩) (q:=keyPart (.str x u)) b g f;refine hC ?_;refine⟨h',?_,y⟩
 unfold B4;refine Yk _ (Hd NK ?_);unfold dictSetHashed;refine Yk _ (Hd (Bv (e:=⟨hashW w x,.str x u,v⟩) b ok) ?_);exact Hd (xB (Ue _)) c
end
section
variable{α β:Type}{d:Pn}{os:vj}{code:Hh}{fr:sg}{st:List sg}{yC:Xb}{k' Lu:Nat}{pos pos' Wn:Sd}
noncomputable def Xn:List fb->List fb->Bool
 |_,[]=>a8
 |L,e::M=>pn L e&&Xn (L++[e]) M
theorem Upd.trans{L c:List fb}{ep b:Nat}(x:Upd a L ep h h')(y:Upd a c b h' yC):Upd a c b h yC:=
 ⟨y.at_,λi hi=>(y.other i hi).trans (x.other i hi),y.size.trans x.size⟩
theorem aJ{dd a:ma}{M:List fb}{em:Nat}(h:a≠dd){f:Nat->PUnit->xc (ForInStep PUnit)}
  (hf:∀(i:Nat) (b:Xb) (e:fb) (L:List fb) (ep:Nat),b.get? a=ac (Va M em)->M[i]?=ac e->b.get? dd=ac (Va L ep)->L.length < 1000->pn L e=a8->
   ∃c,gh w gs d os code (fr::st) b k pos (f i ⟨⟩) c k pos (.yield ⟨⟩)/\Upd dd (L++[e]) (ep+1) b c):
  ∀(g M1:List fb) (L:List fb) (ep:Nat) (b:Xb),M=M1++g->b.get? a=ac (Va M em)->b.get? dd=ac (Va L ep)->L.length+g.length < 1000->Xn L g=a8->
   ∃c,gh w gs d os code (fr::st) b k pos (forIn (SH M1.length g.length) Dy f) c k pos ⟨⟩/\Upd dd (L++g) (ep+g.length) b c
 |[],M1,L,ep,b,_,_,h2,_,_=>⟨b,Ue _,by rw[Gh];exact h2,λZ Z=>rfl,rfl⟩
 |e::g,M1,L,ep,b,hM,h1,h2,hl,ok=>by
  simp only[Xn,Pd] at ok;have n:L.length+(g.length+1) < 1000:=by simpa using hl
  have hi:M[M1.length]?=ac e:=by rw[hM];simp
  refine ue λhC=>?_;obtain ⟨l,g1,u1⟩:=hf M1.length b e L ep h1 hi h2 (by lia) ok.1;have j:l.get? a=ac (Va M em):=(u1.other a h).trans h1;obtain ⟨o,m,u2⟩:=aJ h hf g (M1++[e]) (L++[e]) (ep+1) l (by rw[hM];simp) j u1.at_ (by simp;lia) ok.2;refine hC ?_;refine⟨o,?_,?_⟩
  ·rw[wj,List.range'_succ,rf];have p:(M1++[e]).length=M1.length+1:=by simp
   rw[p] at m;exact Hd g1 m
  ·have:=u1.trans u2;rw[Nh,Nq] at this;rw[wj,show ep+(g.length+1)=ep+1+g.length by lia];exact this
theorem dQ{dd:ma}{L M:List fb}{ep em:Nat}(c:a≠dd)(l:h.get? dd=ac (Va L ep))(hm:h.get? a=ac (Va M em))(q:L.isEmpty=be)(m:Yg 11 dd=a8)
  (b:(a==sysModules)=be) (hl:L.length+M.length < 1000) (ok:Xn L M=a8):
  ∃h',gh w gs d os code (fr::st) h k pos (xy dd (.ref a) be) h' k pos ()/\Upd dd (L++M) (ep+M.length) h h':=by
 delta xy;have body:=aJ (w:=w) (gs:=gs) (d:=d) (os:=os) (code:=code) (fr:=fr) (st:=st) (k:=k) (pos:=pos) (M:=M) (em:=em) c
  (f:=λi Z=>do
   let ac e:=(<- mS a)[i]?|unsupported "dict.changed-during-merge"
   holding [e.key,e.val] do
    if be then
     if (<- Ay dd e.key e.hash).isSome then rule "dict.merge.duplicate-key";raiseNew (<- zX (.type "KeyError") [e.key])
    dictPut dd e.hash e.key e.val
   if (<- B5 a) != em then unsupported "dict.changed-during-merge"
   pure (.yield ⟨⟩)) (by
   intro i p e L ep h1 hi h2 hl ok;obtain ⟨n,g,u⟩:=QG (w:=w) (gs:=gs) (d:=d) (os:=os) (code:=code) (fr:=fr) (st:=st) (k:=k) (pos:=pos) h2 m hl ok;refine⟨n,?_,u⟩
   refine Hd (Gm h1 rfl) ?_;have j:(⟨M⟩:Array fb)[i]?=ac e:=by simpa using hi
   rw[j];refine Hd (Yk _ g) ?_;refine Hd (Ut ((u.other a c).trans h1) rfl) ?_;rw[if_neg (by simp)];exact Ue _) M [] L ep h rfl hm l hl ok
 obtain ⟨h',g,u⟩:=body;refine⟨h',?_,u⟩
 refine Hd (PK hm) ?_;rw[if_pos rfl];refine Hd (MK hm) ?_;have hb:((ac (lA "dict.__iter__"):Option Value)==ac (lA "dict.__iter__"))=a8:=by decide
 rw[hb];refine Hd (Ue a8) ?_;dsimp only;rw[if_neg (by rw[b];simp)];refine Hd (Gm l rfl) ?_;rw[if_neg (by cases L <;> simp_all)];refine Hd (Gm hm rfl) ?_;refine Hd (Ut hm rfl) ?_;have o:Ea (⟨M⟩:Array fb).size=SH ([]:List fb).length M.length:=by
  rw[List.range_eq_range'];simp
 rw[o];exact Hd g (Ue _)
end
noncomputable abbrev KV:=xc Value×xc Value
noncomputable abbrev tj(x:KV):Option (xc Value)×xc Value:=(ac x.1,x.2)
noncomputable abbrev oy:=Option ma×List KV
noncomputable def Xt(CC:List KV):Option ma->xc (Option ma)
 |none=>Hp CC>>=λa=>pure (ac a)
 |some d=>gm d CC>>=λZ=>pure (ac d)
section
variable{f:Option (xc Value)×xc Value->oy->xc (ForInStep oy)}
 (hf:∀(x:KV) (m:Option ma) (CC:List KV),CC.length+1 < 17->f (tj x) (m,CC)=pure (.yield (m,CC++[x])))
 (hg:∀(x:KV) (m:Option ma) (CC:List KV),CC.length+1=17->f (tj x) (m,CC)=(Xt (CC++[x]) m>>=λm'=>pure (.yield (m',[]))))
include hf in
theorem Pu:∀(l:List KV) (m:Option ma) (CC:List KV) (rest:List (Option (xc Value)×xc Value)),CC.length+l.length < 17->forIn (l.map tj++rest) (m,CC) f=forIn rest (m,CC++l) f
 |[],m,CC,rest,_=>by simp
 |x::l,m,CC,rest,h=>by
  have h':CC.length+(l.length+1) < 17:=by simpa using h
  rw[Mb,xj,rf,hf x m CC (by lia),pure_bind];show forIn (l.map tj++rest) (m,CC++[x]) f=_
  rw[Pu l m (CC++[x]) rest (by simp;lia),Nh,Nq]
include hf hg in
theorem Yt(l:List KV)(m:Option ma)(rest:List (Option (xc Value)×xc Value))(h:l.length=17):forIn (l.map tj++rest) (m,[]) f=(Xt l m>>=λc=>forIn rest (c,[]) f):=by
 obtain ⟨b,x,rfl⟩:∃b x,l=b++[x]:=by
  have a:l≠[]:=λe=>by subst e;cases h
  exact⟨l.dropLast,l.getLast a,(List.dropLast_concat_getLast a).symm⟩
 have hl:b.length=16:=by simp at h;lia
 rw[Ic,Nh,Pu hf b m [] _ (by rw[hl];decide),Mb,Om,Nq,rf,hg x m _ (by simp;lia),bind_assoc];refine bind_congr λc=>?_;rw[pure_bind]
end
theorem bH(CC:List KV)(m:Option ma)(h:CC.isEmpty=be):(if CC.isEmpty=a8 then pure m
   else
    match m with
    |none=>do
     let __do_lift <- Hp CC
     pure (ac __do_lift)
    |some d=>do
     let sub <- holding [qj d] (Hp CC)
     (holding [qj d,qj sub] (xy d (qj sub) be)).onRaise λx=>do
       let _ <- holding [qj d,x] (a2U (bF "proto.let_go" {}))
       pure ()
     pure (ac d):xc (Option ma))=Xt CC m:=by
 rw[if_neg (by rw[h];simp)];cases m with
 |none=>rfl
 |some d=>
  simp only[Xt,gm,bind_assoc]
theorem Ru{l1 l2 g c a:List KV}(h1:l1.length=17)(h2:l2.length=17)(r:g.length=17)(q:c.length=17)(p:a.length < 17)(i:a.isEmpty=be):
  dictDisplay (l1.map tj++(l2.map tj++(g.map tj++(c.map tj++a.map tj))))=
   (Hp l1>>=λd=>gm d l2>>=λZ=>gm d g>>=λZ=>gm d c>>=λZ=>gm d a>>=λZ=>pure (.ref d)):=by
 delta dictDisplay;dsimp only;have b:=λ(f:Option (xc Value)×xc Value->oy->xc (ForInStep oy)) hf hg=>(Yt (f:=f) hf hg l1 a6 _ h1).trans (bind_congr λn=>(Yt (f:=f) hf hg l2 n _ h2).trans
  (bind_congr λl=>(Yt (f:=f) hf hg g l _ r).trans (bind_congr λk=>(Yt (f:=f) hf hg c k _ q).trans (bind_congr λj=>
   (congrArg (λz=>forIn z (j,([]:List KV)) f) (Gh (a.map tj)).symm).trans ((Pu (f:=f) hf a j [] [] (by simpa using p)))))))
 rw[b]
 ·simp only[Xt,bind_assoc,pure_bind,Xm,yS];simp only[i,Zj,if_false,bind_assoc,pure_bind,gm]
 ·intro x m CC h
  show(if ((CC++[x]).length==17)=a8 then _ else _)=_
  rw[if_neg (by simp;lia)]
 ·intro x m CC h
  show(if ((CC++[x]).length==17)=a8 then _ else _)=_
  rw[if_pos (by simp;lia)];have e:=bH (CC++[x]) m (by simp);exact congrArg (λz:xc (Option ma)=>z>>=λo=>(pure (Tc (o,[])):xc (ForInStep oy))) e
noncomputable def Yh:Sd:=⟨74,6,74,9499⟩
noncomputable def E1:List fb:=[⟨(-3),.int (-3) 262,.ref 140⟩,⟨(-2),.int (-2) 259,.ref 147⟩,⟨(-2),.int (-1) 256,.ref 160⟩,⟨0,.int 0 253,.ref 173⟩,⟨1,.int 1 492,.ref 192⟩,⟨2,.int 2 538,.ref 217⟩,⟨3,.int 3 584,.ref 242⟩,⟨4,.int 4 630,.ref 267⟩,⟨5,.int 5 676,.ref 292⟩,⟨6,.int 6 742,.ref 327⟩,⟨7,.int 7 788,.ref 352⟩,⟨8,.int 8 854,.ref 387⟩,⟨9,.int 9 930,.ref 427⟩,⟨10,.int 10 1006,.ref 467⟩,⟨11,.int 11 1092,.ref 512⟩,⟨12,.int 12 1168,.ref 552⟩,⟨13,.int 13 1254,.ref 597⟩]
noncomputable def F1:List (Nat×Jb):=[(140,Va [⟨4238894112,.none,.ref 146⟩] 1),(144,Va [] 0),(145,⟨.ref 135,ac 144,.seq ⟨[.int 1 400,.int 5 401,.int 3 402]⟩ 0,⟨[]⟩⟩),(146,⟨.type "tuple",a6,.seq ⟨[.ref 145]⟩ 0,⟨[]⟩⟩),(147,Va [⟨1,.int 1 264,.ref 153⟩,⟨0,.int 0 266,.ref 159⟩] 2),(151,Va [] 0),(152,⟨.ref 135,ac 151,.seq ⟨[.int 1 412,.int 10 413,.int 5 414]⟩ 0,⟨[]⟩⟩),(153,⟨.type "tuple",a6,.seq ⟨[.ref 152]⟩ 0,⟨[]⟩⟩),(157,Va [] 0),(158,⟨.ref 135,ac 157,.seq ⟨[.int 1 422,.int 10 423,.int 4 424]⟩ 0,⟨[]⟩⟩),(159,⟨.type "tuple",a6,.seq ⟨[.ref 158]⟩ 0,⟨[]⟩⟩),(160,Va [⟨1,.int 1 264,.ref 166⟩,⟨0,.int 0 266,.ref 172⟩] 2),(164,Va [] 0),(165,⟨.ref 135,ac 164,.seq ⟨[.int 1 435,.int 17 436,.int 11 437]⟩ 0,⟨[]⟩⟩),(166,⟨.type "tuple",a6,.seq ⟨[.ref 165]⟩ 0,⟨[]⟩⟩),(170,Va [] 0),(171,⟨.ref 135,ac 170,.seq ⟨[.int 1 445,.int 17 446,.int 9 447]⟩ 0,⟨[]⟩⟩),(172,⟨.type "tuple",a6,.seq ⟨[.ref 171]⟩ 0,⟨[]⟩⟩),(173,Va [⟨1,.int 1 264,.ref 179⟩,⟨0,.int 0 266,.ref 185⟩,⟨3,.int 3 268,.ref 191⟩] 3),(177,Va [] 0),(178,⟨.ref 135,ac 177,.seq ⟨[.int 1 458,.int 24 459,.int 16 460]⟩ 0,⟨[]⟩⟩),(179,⟨.type "tuple",a6,.seq ⟨[.ref 178]⟩ 0,⟨[]⟩⟩),(183,Va [] 0),(184,⟨.ref 135,ac 183,.seq ⟨[.int 1 468,.int 24 469,.int 14 470]⟩ 0,⟨[]⟩⟩),(185,⟨.type "tuple",a6,.seq ⟨[.ref 184]⟩ 0,⟨[]⟩⟩),(189,Va [] 0),(190,⟨.ref 135,ac 189,.seq ⟨[.int 1 478,.int 24 479,.int 10 480]⟩ 0,⟨[]⟩⟩),(191,⟨.type "tuple",a6,.seq ⟨[.ref 190]⟩ 0,⟨[]⟩⟩),(192,Va [⟨1,.int 1 264,.ref 198⟩,⟨0,.int 0 266,.ref 204⟩,⟨3,.int 3 268,.ref 210⟩,⟨2,.int 2 270,.ref 216⟩] 4),(196,Va [] 0),(197,⟨.ref 135,ac 196,.seq ⟨[.int 1 493,.int 26 494,.int 19 495]⟩ 0,⟨[]⟩⟩),(198,⟨.type "tuple",a6,.seq ⟨[.ref 197]⟩ 0,⟨[]⟩⟩),(202,Va [] 0),(203,⟨.ref 135,ac 202,.seq ⟨[.int 1 503,.int 26 504,.int 16 505]⟩ 0,⟨[]⟩⟩),(204,⟨.type "tuple",a6,.seq ⟨[.ref 203]⟩ 0,⟨[]⟩⟩),(208,Va [] 0),(209,⟨.ref 135,ac 208,.seq ⟨[.int 1 513,.int 26 514,.int 13 515]⟩ 0,⟨[]⟩⟩),(210,⟨.type "tuple",a6,.seq ⟨[.ref 209]⟩ 0,⟨[]⟩⟩),(214,Va [] 0),(215,⟨.ref 135,ac 214,.seq ⟨[.int 1 523,.int 26 524,.int 9 525]⟩ 0,⟨[]⟩⟩),(216,⟨.type "tuple",a6,.seq ⟨[.ref 215]⟩ 0,⟨[]⟩⟩)]
noncomputable def E2:List fb:=[⟨14,.int 14 1330,.ref 638⟩,⟨15,.int 15 1416,.ref 683⟩,⟨16,.int 16 1502,.ref 728⟩,⟨17,.int 17 1588,.ref 773⟩,⟨18,.int 18 1674,.ref 818⟩,⟨19,.int 19 1760,.ref 863⟩,⟨20,.int 20 1846,.ref 908⟩,⟨21,.int 21 1932,.ref 953⟩,⟨22,.int 22 2008,.ref 993⟩,⟨23,.int 23 2074,.ref 1028⟩,⟨24,.int 24 2160,.ref 1073⟩,⟨25,.int 25 2246,.ref 1118⟩,⟨26,.int 26 2332,.ref 1163⟩,⟨27,.int 27 2418,.ref 1208⟩,⟨28,.int 28 2504,.ref 1253⟩,⟨29,.int 29 2590,.ref 1298⟩,⟨30,.int 30 2676,.ref 1343⟩]
noncomputable def Yv:List fb:=[⟨31,.int 31 2762,.ref 1389⟩,⟨32,.int 32 2848,.ref 1434⟩,⟨33,.int 33 2924,.ref 1474⟩,⟨34,.int 34 3010,.ref 1519⟩,⟨35,.int 35 3096,.ref 1564⟩,⟨36,.int 36 3182,.ref 1609⟩,⟨37,.int 37 3268,.ref 1654⟩,⟨38,.int 38 3354,.ref 1699⟩,⟨39,.int 39 3440,.ref 1744⟩,⟨40,.int 40 3526,.ref 1789⟩]
noncomputable def jt(w:sa):List fb:=[⟨hashW w "R7x43",.str "R7x43" 3612,.ref 1834⟩,⟨hashW w "R7x59",.str "R7x59" 3618,.ref 1835⟩,⟨hashW w "R7x77",.str "R7x77" 3624,.ref 1836⟩,⟨hashW w "R7x99",.str "R7x99" 3630,.ref 1837⟩,⟨hashW w "R7x139",.str "R7x139" 3636,.ref 1838⟩,⟨hashW w "R9x43",.str "R9x43" 3642,.ref 1839⟩,⟨hashW w "R9x59",.str "R9x59" 3648,.ref 1840⟩]
noncomputable def E4(w:sa):List fb:=[⟨hashW w "R9x77",.str "R9x77" 3654,.ref 1842⟩,⟨hashW w "R9x99",.str "R9x99" 3660,.ref 1843⟩,⟨hashW w "R9x139",.str "R9x139" 3666,.ref 1844⟩,⟨hashW w "R11x27",.str "R11x27" 3672,.ref 1845⟩,⟨hashW w "R11x43",.str "R11x43" 3678,.ref 1846⟩,⟨hashW w "R11x59",.str "R11x59" 3684,.ref 1847⟩,⟨hashW w "R11x77",.str "R11x77" 3690,.ref 1848⟩,⟨hashW w "R11x99",.str "R11x99" 3696,.ref 1849⟩,⟨hashW w "R11x139",.str "R11x139" 3702,.ref 1850⟩,⟨hashW w "R13x27",.str "R13x27" 3708,.ref 1851⟩,⟨hashW w "R13x43",.str "R13x43" 3714,.ref 1852⟩,⟨hashW w "R13x59",.str "R13x59" 3720,.ref 1853⟩,⟨hashW w "R13x77",.str "R13x77" 3726,.ref 1854⟩,⟨hashW w "R13x99",.str "R13x99" 3732,.ref 1855⟩,⟨hashW w "R13x139",.str "R13x139" 3738,.ref 1856⟩,⟨hashW w "R15x43",.str "R15x43" 3744,.ref 1857⟩,⟨hashW w "R15x59",.str "R15x59" 3750,.ref 1858⟩]
noncomputable def E5(w:sa):List fb:=[⟨hashW w "R15x77",.str "R15x77" 3756,.ref 1860⟩,⟨hashW w "R15x99",.str "R15x99" 3761,.ref 1861⟩,⟨hashW w "R15x139",.str "R15x139" 3766,.ref 1862⟩,⟨hashW w "R17x43",.str "R17x43" 3771,.ref 1863⟩,⟨hashW w "R17x59",.str "R17x59" 3776,.ref 1864⟩,⟨hashW w "R17x77",.str "R17x77" 3781,.ref 1865⟩,⟨hashW w "R17x99",.str "R17x99" 3786,.ref 1866⟩,⟨hashW w "R17x139",.str "R17x139" 3791,.ref 1867⟩]
noncomputable def lp(d:ma):List KV->xc PUnit
 |[]=>rj ⟨⟩
 |x::l=>zh d x ⟨⟩>>=λZ=>lp d l
theorem UD(d:ma):∀l:List KV,forIn l Dy (zh d)=lp d l
 |[]=>rfl
 |x::l=>by
  rw[rf];show _=(zh d x ⟨⟩>>=λZ=>lp d l)
  rw[<- UD d l];simp only[zh,bind_assoc,pure_bind]
noncomputable def GD(x:KV):xc (Value×Value):=x.1>>=λa=>holding [a] x.2>>=λb=>rj (a,b)
noncomputable def Jt(i:Nat):KV:=jT.getD i (rj .none,rj .none)
noncomputable abbrev Oh(y:Yd->xc Fin)(g:Bool)(lv2:List Value)(ar:Dp)(q:Sd)(kp:List Value):List sg:=[.ret y a6 g lv2 (.builtin "claim.caller" ar) q kp]
def uG(p:Pa)(T:Wg->BT)(f:Wb)(st:Ya)(h:Al)(a n d tk N c' e:Nat)(F:List (Nat×Jb))(w:sa)(b:Bool)(K:ma->xc Fin)(H:Value->xc Fin)(gd:Bool->Bool)(lv:List Value->List Value)(bd:List Ya)(ν:Al)(pos:Sd)(y:Yd->xc Fin)(g:Bool)(lv2:List Value)(ar:Dp)(q:Sd)(kp:List Value):Prop:=
 (NM p T f (w.withFollow "special-get-raises" b) d .nil 0 tk N (Hp (E7 st h a n)) K H gd lv bd ν pos y g lv2 ar q kp).map (λr=>(r.1.b,r.1.c,r.2.1,r.2.2,F.map λx=>r.1.u.get (x.1-d)))=
  ac (d,c',e,⟨K d,.body bd ν,Yh,Oh y g lv2 ar q kp⟩,F.map λx=>ac x.2)
def u3G(p:Pa)(T:Wg->BT)(a:Wb)(st:Ya)(d:Al)(w:sa)(b:Bool)(l2:List KV)(K:PUnit->xc Fin)(H:Value->xc Fin)(gd:Bool->Bool)(lv:List Value->List Value)(bd:List Ya)(ν:Al)(pos:Sd)(y:Yd->xc Fin)(g:Bool)(lv2:List Value)(ar:Dp)(q:Sd)(kp:List Value):Prop:=
 (NM p T a (w.withFollow "special-get-raises" b) 1388 (BT.nil.ins 0 Ai) 1 2762 1530 (lp 1388 (E7 st d 34 10++l2)) K H gd lv bd ν pos y g lv2 ar q kp).map (λr=>(r.1.b,r.1.c,r.2.1,r.2.2,([(1388,Va Yv 10)]).map λx=>r.1.u.get (x.1-1388)))=
  ac (1388,446,3612,⟨(lp 1388 l2).wrap K H gd lv,.body bd ν,Yh,Oh y g lv2 ar q kp⟩,([(1388,Va Yv 10)]).map λx=>ac x.2)
def vG(p:Pa)(T:Wg->BT)(a:Wb)(st:Ya)(d:Al)(i:Nat)(x:Ba)(w:sa)(b:Bool)(K:(Value×Value)->xc Fin)(H:Value->xc Fin)(gd:Bool->Bool)(lv:List Value->List Value)(bd:List Ya)(ν:Al)(pos:Sd)(y:Yd->xc Fin)(g:Bool)(lv2:List Value)(ar:Dp)(q:Sd)(kp:List Value):Prop:=
 (NM p T a (w.withFollow "special-get-raises" b) (1834+i) .nil 0 (3612+6*i) 32 (GD ((E7 st d 44 7).getD i (rj .none,rj .none))) K H gd lv bd ν pos y g lv2 ar q kp).map (λr=>(r.1.b,r.1.c,r.2.1,r.2.2,([]:List (Nat×Jb)).map λx=>r.1.u.get (x.1-(1834+i))))=
  ac (1834+i,1,3612+6*i+5,⟨K (.str x (3612+6*i),.ref (1834+i)),.body bd ν,Yh,Oh y g lv2 ar q kp⟩,([]:List (Nat×Jb)).map λx=>ac x.2)
noncomputable def UX:=uG PP T0 Te Uh Sh 0 17 139 400 1989 498 1330 ((139,Va E1 17)::F1)
noncomputable def TX:=uG PP T0 Te Uh Sh 17 17 637 1330 2590 751 2762 [(637,Va E2 17)]
noncomputable def RX:=u3G PP T0 Te Uh Sh
noncomputable def QX(w:sa):=uG PP T0 Te Uh Sh 51 17 1841 3654 750 18 3756 [(1841,Va (E4 w) 17)] w
noncomputable def PX(w:sa):=uG PP T0 Te Uh Sh 68 8 1859 3756 353 9 3804 [(1859,Va (E5 w) 8)] w
noncomputable def cF(i:Nat):=vG PP T0 Te Uh Sh i ((["R7x43","R7x59","R7x77","R7x99","R7x139","R9x43","R9x59"]:List Ba).getD i "")
lay_quick Mine.uG Mine.u3G Mine.vG
section
variable(w:sa)(b:Bool)(l2:List KV)(K:ma->xc Fin)(K3:PUnit->xc Fin)(c4:(Value×Value)->xc Fin)(H:Value->xc Fin)(gd:Bool->Bool)(lv:List Value->List Value)(bd:List Ya)(ν:Al)(pos:Sd)(y:Yd->xc Fin)(g:Bool)(lv2:List Value)(ar:Dp)(q:Sd)(kp:List Value)
theorem D6:UX w b K H gd lv bd ν pos y g lv2 ar q kp:=by
 unfold UX;rw[Fast.te6900268148125698289];unfold Fast.tw6900268148125698289;cases b <;> kernel_rfl
theorem C6:TX w b K H gd lv bd ν pos y g lv2 ar q kp:=by
 unfold TX;rw[Fast.te6900268148125698289];unfold Fast.tw6900268148125698289;cases b <;> kernel_rfl
theorem z6:QX w b K H gd lv bd ν pos y g lv2 ar q kp:=by
 unfold QX;rw[Fast.te6900268148125698289];unfold Fast.tw6900268148125698289;cases b <;> kernel_rfl
theorem w6:PX w b K H gd lv bd ν pos y g lv2 ar q kp:=by
 unfold PX;rw[Fast.te6900268148125698289];unfold Fast.tw6900268148125698289;cases b <;> kernel_rfl
theorem B6:RX w b l2 K3 H gd lv bd ν pos y g lv2 ar q kp:=by
 unfold RX;rw[Fast.te160307069239066457];unfold Fast.tw160307069239066457;cases b <;> kernel_rfl
theorem q6:cF 0 w b c4 H gd lv bd ν pos y g lv2 ar q kp:=by
 unfold cF;rw[Fast.te6057288730196198782];unfold Fast.tw6057288730196198782;cases b <;> kernel_rfl
theorem p6:cF 1 w b c4 H gd lv bd ν pos y g lv2 ar q kp:=by
 unfold cF;rw[Fast.te6057288730196198782];unfold Fast.tw6057288730196198782;cases b <;> kernel_rfl
theorem o6:cF 2 w b c4 H gd lv bd ν pos y g lv2 ar q kp:=by
 unfold cF;rw[Fast.te6057288730196198782];unfold Fast.tw6057288730196198782;cases b <;> kernel_rfl
theorem n6:cF 3 w b c4 H gd lv bd ν pos y g lv2 ar q kp:=by
 unfold cF;rw[Fast.te6057288730196198782];unfold Fast.tw6057288730196198782;cases b <;> kernel_rfl
theorem l6:cF 4 w b c4 H gd lv bd ν pos y g lv2 ar q kp:=by
 unfold cF;rw[Fast.te6057288730196198782];unfold Fast.tw6057288730196198782;cases b <;> kernel_rfl
theorem j6:cF 5 w b c4 H gd lv bd ν pos y g lv2 ar q kp:=by
 unfold cF;rw[Fast.te6057288730196198782];unfold Fast.tw6057288730196198782;cases b <;> kernel_rfl
theorem i6:cF 6 w b c4 H gd lv bd ν pos y g lv2 ar q kp:=by
 unfold cF;rw[Fast.te6057288730196198782];unfold Fast.tw6057288730196198782;cases b <;> kernel_rfl
end
def Dk{α:Type}(w:sa)(gs:Array Oe)(d:Pn)(os:vj)(code:Hh)(st:List sg)(h:Xb)(k:Nat)(pos:Sd)(m:xc α)(k':Nat)(pos':Sd)(a:α)(Post:Xb->Prop):Prop:=
 ∀(K:α->xc Fin) (H:Value->xc Fin) (gd:Bool->Bool) (lv:List Value->List Value),
  ∃h',Goes PP w 11 nj ⟨h,gs,d,k,os⟩ ⟨m.wrap K H gd lv,code,pos,st⟩ ⟨h',gs,d,k',os⟩ ⟨K a,code,pos',st⟩/\Post h'
section
variable{α β:Type}{d:Pn}{os:vj}{code:Hh}{fr:sg}{st:List sg}{yC:Xb}{k' Lu:Nat}{pos pos' Wn:Sd}
theorem gh.e{m:xc α}{a:α}{Post:Xb->Prop}(x:gh w gs d os code st h k pos m h' k' pos' a)(y:Post h'):Dk w gs d os code st h k pos m k' pos' a Post:=λK H gd lv=>⟨h',x K H gd lv,y⟩
theorem Dk.bind{m:xc α}{f:α->xc β}{a:α}{b:β}{Post c:Xb->Prop}(x:Dk w gs d os code st h k pos m k' pos' a Post)
  (y:∀h',Post h'->Dk w gs d os code st h' k' pos' (f a) Lu Wn b c):Dk w gs d os code st h k pos (m>>=f) Lu Wn b c:=λK H gd lv=>by
 show∃h',Goes _ _ _ _ _ ⟨(m.bind f).wrap K H gd lv,_,_,_⟩ _ _/\_
 rw[tS,Ul];refine ue λhC=>?_;obtain ⟨h1,g1,g⟩:=x (λa=>(f a).wrap K H gd lv) H gd lv;obtain ⟨h2,i,e⟩:=y h1 g K H gd lv;refine hC ?_;exact⟨h2,g1.trans i,e⟩
theorem Dk.keep{m:xc α}{a:α}{Post:Xb->Prop}(vs:List Value)(x:Dk w gs d os code st h k pos m k' pos' a Post):Dk w gs d os code st h k pos (m.keep vs) k' pos' a Post:=λK H gd lv=>by
 rw[rS,Ul];exact x _ _ _ _
theorem Dk.holding{m:xc α}{a:α}{Post:Xb->Prop}(vs:List Value)(x:Dk w gs d os code st h k pos m k' pos' a Post):Dk w gs d os code st h k pos (PySem.holding vs m) k' pos' a Post:=by
 delta PySem.holding;split
 ·exact x
 ·exact x.keep _
theorem Dk.onRaise{m:xc α}{a:α}{Post:Xb->Prop}(r:Value->xc Unit)(x:Dk w gs d os code st h k pos m k' pos' a Post):Dk w gs d os code st h k pos (m.onRaise r) k' pos' a Post:=λK H gd lv=>by
 rw[Sem.onRaise_eq_wrap,Ul];exact x _ _ _ _
theorem Dk.pure{a:α}{Post:Xb->Prop}(y:Post h):Dk w gs d os code st h k pos (rj a) k pos a Post:=(Ue a).e y
def Mm(w:sa)(h:Xb):Prop:=∀i o,(My w).get i=ac o->o.isFreed=be->h.get? i=ac o/\i < 139
structure MH(b n:Nat)(F:List (Nat×Jb))(h h':Xb):Prop where
 size:h'.objs.size=n
 low:∀i,i < b->h'.get? i=h.get? i
 facts:∀x∈F,h'.get? x.1=ac x.2
theorem Sr(b a:Nat)(h:b<=a):b+(a-b)=a:=Vf h
theorem wW{b c c' k':Nat}{u:BT}{F:List (Nat×Jb)}{m:xc α}{t':Wb}{K:α->xc Fin}{H:Value->xc Fin}{gd:Bool->Bool}{lv:List Value->List Value}{bd:List Ya}{pos:Sd}
  {y:Yd->xc Fin} {g:Bool} {lv2:List Value} {ar:Dp} {q:Sd} {kp:List Value} (old:Mm w h) (hb:139<=b) (j:h.objs.size=b+c) (C:∀i o,u.get i=ac o->o.isFreed=be->h.get? (b+i)=ac o)
  (a:(e6 w b u c k N m K H gd lv bd ν pos y g lv2 ar q kp).map (λr=>(r.1.b,r.1.c,r.2.1,r.2.2,F.map λx=>r.1.u.get (x.1-b)))=ac (b,c',k',t',F.map λx=>ac x.2))
  (D:F.all (λx=>Yg b x.1&&!x.2.isFreed)=a8):
  ∃h',Goes PP w 11 nj ⟨h,gs,d,k,os⟩ ⟨m.wrap K H gd lv,.body bd ν,pos,Oh y g lv2 ar q kp⟩ ⟨h',gs,d,k',os⟩ t'/\MH b (b+c') F h h':=by
 obtain ⟨⟨s',I,G⟩,p,n⟩:=Qg.mp a;simp only[Ie] at n;obtain ⟨f,B,A,v,t⟩:=n;subst A v;unfold e6 NM at p;have E:VE h ⟨My w,b,u,c⟩ h:=⟨j,λi o hi hf Z=>(old i o hi hf).1,C,λZ Z=>rfl⟩;obtain ⟨h',g1,R⟩:=Tn (gs:=gs) (d:=d) (os:=os) (zT h) (mU old) p trivial E;refine⟨h',g1,?_,?_,?_⟩
 ·rw[R.size,f,B]
 ·intro i hi;exact R.low i (by rw[f];exact hi)
 ·intro x s;have e:=(Jk.mp t) x s;have z:=Aa.mp D x s;simp only[Pd,Ge] at z;have l:=De z.1;have:=R.own _ _ e z.2;rw[f,Sr b x.1 l] at this;exact this
theorem Yq{b:Nat}:∀i o,BT.nil.get i=ac o->o.isFreed=be->h.get? (b+i)=ac o:=λi o e=>by cases e
theorem xE{b c c' k':Nat}{u:BT}{F:List (Nat×Jb)}{m:xc α}{a:α}{bd:List Ya}{pos pos':Sd}
  {y:Yd->xc Fin} {g:Bool} {lv2:List Value} {ar:Dp} {q:Sd} {kp:List Value} (old:Mm w h) (hb:139<=b) (f:h.objs.size=b+c) (j:∀i o,u.get i=ac o->o.isFreed=be->h.get? (b+i)=ac o)
  (e:∀K H gd lv,(e6 w b u c k N m K H gd lv bd ν pos y g lv2 ar q kp).map (λr=>(r.1.b,r.1.c,r.2.1,r.2.2,F.map λx=>r.1.u.get (x.1-b)))=ac (b,c',k',⟨K a,.body bd ν,pos',Oh y g lv2 ar q kp⟩,F.map λx=>ac x.2))
  (l:F.all (λx=>Yg b x.1&&!x.2.isFreed)=a8):
  Dk w gs d os (.body bd ν) (Oh y g lv2 ar q kp) h k pos m k' pos' a (MH b (b+c') F h):=λK H gd lv=>wW old hb f j (e K H gd lv) l
theorem Mm.grow{b:Nat}{F:List (Nat×Jb)}(old:Mm w h)(x:MH b n F h h')(hb:139<=b):Mm w h':=λi o e hf=>
 let ⟨u,v⟩:=old i o e hf;⟨(x.low i (ya v hb)).trans u,v⟩
theorem Mm.upd{L:List fb}{ep:Nat}(old:Mm w h)(x:Upd a L ep h h')(b:139<=a):Mm w h':=λi o e hf=>
 let ⟨u,v⟩:=old i o e hf;⟨(x.other i (λq=>absurd (q▸v) (yf.mpr b))).trans u,v⟩
end
def PY(w:sa):Prop:=(Xn E1 E2&&Xn (E1++E2) (Yv++jt w)&&Xn (E1++E2++(Yv++jt w)) (E4 w)&&Xn (E1++E2++(Yv++jt w)++E4 w) (E5 w))=a8
def Z7(w:sa):Prop:=(pn Yv ((jt w).getD 0 ⟨0,.none,.none⟩)&&pn (Yv++(jt w).take 1) ((jt w).getD 1 ⟨0,.none,.none⟩)&&pn (Yv++(jt w).take 2) ((jt w).getD 2 ⟨0,.none,.none⟩)
 && pn (Yv++(jt w).take 3) ((jt w).getD 3 ⟨0,.none,.none⟩)&&pn (Yv++(jt w).take 4) ((jt w).getD 4 ⟨0,.none,.none⟩)&&pn (Yv++(jt w).take 5) ((jt w).getD 5 ⟨0,.none,.none⟩)
 && pn (Yv++(jt w).take 6) ((jt w).getD 6 ⟨0,.none,.none⟩))=a8
lay_quick Mine.PY Mine.Z7
theorem uP:Ox=r1.map tj++(r2.map tj++((M7++jT).map tj++(r4.map tj++r5.map tj))):=by kernel_rfl
theorem CY:jT=[Jt 0,Jt 1,Jt 2,Jt 3,Jt 4,Jt 5,Jt 6]:=by kernel_rfl
theorem a4P:r1.length=17:=by kernel_rfl
theorem a4O:r2.length=17:=by kernel_rfl
theorem a0t:(M7++jT).length=17:=by kernel_rfl
theorem a4N:r4.length=17:=by kernel_rfl
theorem a4M:r5.length=8:=by kernel_rfl
theorem Y7(w:sa):PY w:=by
 rw[Fast.te5425466910448837421];delta Fast.tw5425466910448837421
 kernel_rfl
theorem gx(w:sa):Z7 w:=by
 rw[Fast.te11109502768766050348];delta Fast.tw11109502768766050348
 kernel_rfl
theorem Kn:E1.length=17/\E2.length=17/\Yv.length=10/\(∀w,(jt w).length=7)/\(∀w,(E4 w).length=17)/\∀w,(E5 w).length=8:=⟨rfl,rfl,rfl,λZ=>rfl,λZ=>rfl,λZ=>rfl⟩
structure Inv(w:sa)(vk:Xb)(n:Nat)(L:List fb)(ep:Nat)(h:Xb):Prop where
 size:h.objs.size=n
 low:∀i,i < 139->h.get? i=vk.get? i
 main:h.get? 139=ac (Va L ep)
 facts:∀x∈F1,h.get? x.1=ac x.2
theorem WE:F1.all (λx=>Ji 139 x.1&&Ji x.1 637)=a8:=by decide +kernel
theorem vX{x:Nat×Jb}(a:x∈F1):139 < x.1:=by
 have:=Aa.mp WE x a;exact Ws (wa.mp this).1
theorem wX{x:Nat×Jb}(a:x∈F1):x.1 < 637:=by
 have:=Aa.mp WE x a;exact Ws (wa.mp this).2
section
variable{d:Pn}{os:vj}{yC vk:Xb}{k' Lu:Nat}{bd:List Ya}{pos pos' Wn:Sd}
  {y:Yd->xc Fin} {g:Bool} {lv2:List Value} {ar:Dp} {q:Sd} {kp:List Value}
theorem Inv.old{ep:Nat}{L:List fb}(I:Inv w vk n L ep h)(o:Mm w vk):Mm w h:=λi ob e hf=>
 let ⟨u,v⟩:=o i ob e hf;⟨(I.low i v).trans u,v⟩
theorem Inv.grow{n' ep:Nat}{L:List fb}{F:List (Nat×Jb)}(I:Inv w vk n L ep h)(x:MH n n' F h h')(hn:637<=n):Inv w vk n' L ep h':=
 ⟨x.size,λi hi=>(x.low i (ya hi (ka (by decide) hn))).trans (I.low i hi),(x.low 139 (ya (by decide) hn)).trans I.main,
  λz hz=>(x.low z.1 (ya (wX hz) hn)).trans (I.facts z hz)⟩
theorem Inv.upd{ep a:Nat}{L b:List fb}(I:Inv w vk n L ep h)(x:Upd 139 b a h h'):Inv w vk n b a h':=
 ⟨x.size.trans I.size,λi hi=>(x.other i (Na hi)).trans (I.low i hi),x.at_,λz hz=>(x.other z.1 (Td (vX hz))).trans (I.facts z hz)⟩
theorem Gw{n' ep em:Nat}{L M:List fb}{r:List KV}(I:Inv w vk n L ep h)
  (b:Dk w gs d os (.body bd ν) (Oh y g lv2 ar q kp) h k pos (Hp r) k' pos' n (MH n n' [(n,Va M em)] h)) (hn:637<=n) (f:L.isEmpty=be) (hl:L.length+M.length < 1000) (ok:Xn L M=a8)
  (a:((n:ma)==sysModules)=be):
  Dk w gs d os (.body bd ν) (Oh y g lv2 ar q kp) h k pos (gm 139 r) k' pos' () (Inv w vk n' (L++M) (ep+M.length)):=by
 delta gm;refine Dk.bind (b.holding _) λh1 G=>?_;have I1:=I.grow G hn;have hm:=G.facts (n,Va M em) (GC _);have c:n≠139:=λe=>absurd hn (by rw[e];decide);refine ue λhC=>?_;obtain ⟨h2,i,u2⟩:=dQ (w:=w) (gs:=gs) (d:=d) (os:=os) (code:=.body bd ν) (fr:=.ret y a6 g lv2 (.builtin "claim.caller" ar) q kp) (st:=[]) (k:=k') (pos:=pos') c I1.main hm f (by decide) a hl ok;refine hC ?_;exact Dk.onRaise _ (Dk.holding _ (i.e (I1.upd u2)))
structure ky(w:sa)(Ah:Xb)(i:Nat)(h:Xb):Prop where
 old:Mm w h
 size:h.objs.size=1834+i
 main:h.get? 1388=ac (Va (Yv++(jt w).take i) (10+i))
 low:∀j,j < 1388->h.get? j=Ah.get? j
theorem VF(a:ma)(x:KV):zh a x ⟨⟩=(GD x>>=λz=>holding [z.1,z.2] (B4 a z.1 z.2)>>=λZ=>pure (.yield ⟨⟩)):=by
 unfold zh GD;show _=((x.1>>=λb=>holding [b] x.2>>=λc=>pure (b,c))>>=_:xc _)
 simp only[bind_assoc,pure_bind]
theorem RF{α:Type}(l:List α)(i:Nat)(z:α)(h:i < l.length):l.take i++[l.getD i z]=l.take (i+1):=by
 rw[Qn,ua,Sa h];rfl
theorem Ds{Ah:Xb}{x:Ba}{r:KV}(I:ky w Ah i h)
  (a:∀K H gd lv,(e6 w (1834+i) .nil 0 (3612+6*i) N (GD r) K H gd lv bd ν pos y g lv2 ar q kp).map (λz=>(z.1.b,z.1.c,z.2.1,z.2.2,([]:List (Nat×Jb)).map λx=>z.1.u.get (x.1-(1834+i))))=
   ac (1834+i,1,3612+6*i+5,⟨K (.str x u,v),.body bd ν,Yh,Oh y g lv2 ar q kp⟩,([]:List (Nat×Jb)).map λx=>ac x.2))
  (ok:pn (Yv++(jt w).take i) ((jt w).getD i ⟨0,.none,.none⟩)=a8) (he:∀_:Unit,(jt w).getD i ⟨0,.none,.none⟩=⟨hashW w x,.str x u,v⟩) (hi:i < 7:=by decide):
  Dk w gs d os (.body bd ν) (Oh y g lv2 ar q kp) h (3612+6*i) pos (zh 1388 r ⟨⟩) (3612+6*(i+1)) Yh (.yield ⟨⟩) (ky w Ah (i+1)):=by
 rw[VF];refine Dk.bind (xE I.old (ka (by decide) (Za 1834 i)) I.size Yq a rfl) λh1 G=>?_;have f:(1388:Nat) < 1834+i:=ya (by decide) (Za 1834 i);have hm:=(G.low 1388 f).trans I.main;rw[he ()] at ok;have l:(Yv++(jt w).take i).length < 1000:=by
  rw[Nb,de,Kn.2.2.1,Kn.2.2.2.1 w];exact jd (Ec (yj i 7) 10) (by decide)
 refine ue λhC=>?_;obtain ⟨h2,n,u2⟩:=PG (w:=w) (gs:=gs) (d:=d) (os:=os) (code:=.body bd ν) (fr:=.ret y a6 g lv2 (.builtin "claim.caller" ar) q kp) (st:=[]) (k:=3612+6*i+5) (pos:=Yh) hm (by decide) l ok;refine hC ?_;refine gh.e (Hd (Yk _ n) (Ue _)) (?_:ky w Ah (i+1) h2);refine⟨?_,?_,?_,?_⟩
 ·exact(I.old.grow G (ka (by decide) (Za 1834 i))).upd u2 (by decide)
 ·rw[u2.size,G.size];rfl
 ·have:=u2.at_;rw[<- he (),Nh,RF _ _ _ (by rw[Kn.2.2.2.1 w];exact hi)] at this;exact this
 ·intro j m;rw[u2.other j (Na m),G.low j (zj m f)];exact I.low j m
theorem Gj{a b:Bool}(h:(a&&b)=a8):a=a8:=(wa.mp h).1
theorem dA{a b:Bool}(h:(a&&b)=a8):b=a8:=(wa.mp h).2
theorem vw{K:(Value×Value)->xc Fin}{H:Value->xc Fin}{gd:Bool->Bool}{lv:List Value->List Value}(e:cF i w (w.params.followText aq) K H gd lv bd ν pos y g lv2 ar q kp):
  (e6 w (1834+i) .nil 0 (3612+6*i) 32 (GD ((E7 Uh Sh 44 7).getD i (rj .none,rj .none))) K H gd lv bd ν pos y g lv2 ar q kp).map (λr=>(r.1.b,r.1.c,r.2.1,r.2.2,([]:List (Nat×Jb)).map λx=>r.1.u.get (x.1-(1834+i))))=
  ac (1834+i,1,3612+6*i+5,⟨K (.str ((["R7x43","R7x59","R7x77","R7x99","R7x139","R9x43","R9x59"]:List Ba).getD i "") (3612+6*i),.ref (1834+i)),.body bd ν,Yh,Oh y g lv2 ar q kp⟩,([]:List (Nat×Jb)).map λx=>ac x.2):=by
 unfold cF vG at e;rw[Zb] at e;exact e
theorem M6(Ah:Xb)(I:ky w Ah 0 h):Dk w gs d os (.body bd ν) (Oh y g lv2 ar q kp) h 3612 pos (zh 1388 (Jt 0) ⟨⟩) 3618 Yh (.yield ⟨⟩) (ky w Ah 1):=
 Ds (i:=0) I (λK H gd lv=>vw (q6 w _ K H gd lv bd ν pos y g lv2 ar q kp)) (Gj (Gj (Gj (Gj (Gj (Gj (gx w))))))) (by intro e;rfl)
theorem K6(Ah:Xb)(I:ky w Ah 1 h):Dk w gs d os (.body bd ν) (Oh y g lv2 ar q kp) h 3618 pos (zh 1388 (Jt 1) ⟨⟩) 3624 Yh (.yield ⟨⟩) (ky w Ah 2):=
 Ds (i:=1) I (λK H gd lv=>vw (p6 w _ K H gd lv bd ν pos y g lv2 ar q kp)) (dA (Gj (Gj (Gj (Gj (Gj (gx w))))))) (by intro e;rfl)
theorem J6(Ah:Xb)(I:ky w Ah 2 h):Dk w gs d os (.body bd ν) (Oh y g lv2 ar q kp) h 3624 pos (zh 1388 (Jt 2) ⟨⟩) 3630 Yh (.yield ⟨⟩) (ky w Ah 3):=
 Ds (i:=2) I (λK H gd lv=>vw (o6 w _ K H gd lv bd ν pos y g lv2 ar q kp)) (dA (Gj (Gj (Gj (Gj (gx w)))))) (by intro e;rfl)
theorem I6(Ah:Xb)(I:ky w Ah 3 h):Dk w gs d os (.body bd ν) (Oh y g lv2 ar q kp) h 3630 pos (zh 1388 (Jt 3) ⟨⟩) 3636 Yh (.yield ⟨⟩) (ky w Ah 4):=
 Ds (i:=3) I (λK H gd lv=>vw (n6 w _ K H gd lv bd ν pos y g lv2 ar q kp)) (dA (Gj (Gj (Gj (gx w))))) (by intro e;rfl)
theorem H6(Ah:Xb)(I:ky w Ah 4 h):Dk w gs d os (.body bd ν) (Oh y g lv2 ar q kp) h 3636 pos (zh 1388 (Jt 4) ⟨⟩) 3642 Yh (.yield ⟨⟩) (ky w Ah 5):=
 Ds (i:=4) I (λK H gd lv=>vw (l6 w _ K H gd lv bd ν pos y g lv2 ar q kp)) (dA (Gj (Gj (gx w)))) (by intro e;rfl)
theorem G6(Ah:Xb)(I:ky w Ah 5 h):Dk w gs d os (.body bd ν) (Oh y g lv2 ar q kp) h 3642 pos (zh 1388 (Jt 5) ⟨⟩) 3648 Yh (.yield ⟨⟩) (ky w Ah 6):=
 Ds (i:=5) I (λK H gd lv=>vw (j6 w _ K H gd lv bd ν pos y g lv2 ar q kp)) (dA (Gj (gx w))) (by intro e;rfl)
theorem F6(Ah:Xb)(I:ky w Ah 6 h):Dk w gs d os (.body bd ν) (Oh y g lv2 ar q kp) h 3648 pos (zh 1388 (Jt 6) ⟨⟩) 3654 Yh (.yield ⟨⟩) (ky w Ah 7):=
 Ds (i:=6) I (λK H gd lv=>vw (i6 w _ K H gd lv bd ν pos y g lv2 ar q kp)) (dA (gx w)) (by intro e;rfl)
theorem Xk{x:KV}{l:List KV}{Post c:Xb->Prop}(a:Dk w gs d os (.body bd ν) (Oh y g lv2 ar q kp) h k pos (zh 1388 x ⟨⟩) k' pos' (.yield ⟨⟩) Post)
  (b:∀h',Post h'->Dk w gs d os (.body bd ν) (Oh y g lv2 ar q kp) h' k' pos' (lp 1388 l) Lu Wn ⟨⟩ c):Dk w gs d os (.body bd ν) (Oh y g lv2 ar q kp) h k pos (lp 1388 (x::l)) Lu Wn ⟨⟩ c:=
 Dk.bind a b
theorem L7{Ah:Xb}(I:ky w Ah 0 h):Dk w gs d os (.body bd ν) (Oh y g lv2 ar q kp) h 3612 pos (lp 1388 jT) 3654 Yh ⟨⟩ (ky w Ah 7):=by
 rw[CY];exact Xk (M6 Ah I) λZ I=>Xk (K6 Ah I) λZ I=>Xk (J6 Ah I) λZ I=>Xk (I6 Ah I) λZ I=>Xk (H6 Ah I) λZ I=>Xk (G6 Ah I) λZ I=>
  Xk (F6 Ah I) λZ I=>Dk.pure I
set_option tactic.hygienic true in
theorem a3T(old:Mm w h)(r:h.objs.size=1388):Dk w gs d os (.body bd ν) (Oh y g lv2 ar q kp) h 2762 pos (Hp (M7++jT)) 3654 Yh 1388 (MH 1388 1841 [(1388,Va (Yv++jt w) 17)] h):=by
 rw[JA (by rw[a0t];decide)];have A:(h.push Ai).get? 1388=ac Ai:=by rw[<- r];exact qa h rfl
 have c:∀j,j < 1388->(h.push Ai).get? j=h.get? j:=λj m=>by
  have p:j < h.objs.size:=by rw[r];exact m
  have e:(h.push Ai).objs[j]?=h.objs[j]?:=by
   show(h.objs.push Ai)[j]?=_
   rw[KC p,xh p]
  unfold PR;rw[e]
 have b:Mm w (h.push Ai):=λi o e hf=>let ⟨u,v⟩:=old i o e hf;⟨(c i (zj v (by decide))).trans u,v⟩;have t:(h.push Ai).objs.size=1388+1:=by
  show(h.objs.push Ai).size=_
  rw[Mp,r]
 have n:Dk w gs d os (.body bd ν) (Oh y g lv2 ar q kp) (h.push Ai) 2762 pos (lp 1388 (M7++jT)) 3654 Yh ⟨⟩ (ky w (h.push Ai) 7):=λK H gd lv=>by
  have G:∀i o,(BT.nil.ins 0 Ai).get i=ac o->o.isFreed=be->(h.push Ai).get? (1388+i)=ac o:=by
   intro i o e _;have N:(BT.nil.ins 0 Ai)=BT.node Ai .nil .nil:=rfl;rw[N,BT.get_node] at e;split at e
   ·rename_i hi
    obtain rfl:=xa e;rw[hi];exact A
   ·split at e <;> cases e
  have e:=B6 w (w.params.followText aq) jT K H gd lv bd ν pos y g lv2 ar q kp;unfold RX u3G at e;rw[Zb] at e;obtain ⟨J,M,s⟩:=wW (gs:=gs) (d:=d) (os:=os) b (by decide) t G e (by rfl);have O:ky w (h.push Ai) 0 J:=by
   refine⟨b.grow s (by decide),s.size,?_,λj m=>s.low j m⟩
   have:=s.facts (1388,Va Yv 10) (GC _);rw[List.take_zero,Gh];exact this
  obtain ⟨E,L,C⟩:=L7 (gs:=gs) (d:=d) (os:=os) (bd:=bd) (ν:=ν) (pos:=Yh) (y:=y) (g:=g) (lv2:=lv2) (ar:=ar) (q:=q) (kp:=kp) O K H gd lv;exact⟨E,M.trans L,C⟩
 have inner:Dk w gs d os (.body bd ν) (Oh y g lv2 ar q kp) (h.push Ai) 2762 pos (holding [.ref 1388] (rule "dict.display.long">>=λ_=>forIn (M7++jT) Dy (zh 1388)>>=λ_=>pure ())>>=λ_=>pure 1388) 3654 Yh (1388:ma) (MH 1388 1841 [(1388,Va (Yv++jt w) 17)] h):=by
  refine Dk.bind (a:=()) (k':=3654) (pos':=Yh) (Post:=ky w (h.push Ai) 7) (Dk.holding _ (Dk.bind (a:=()) (k':=2762) (pos':=pos) ((xB (Ue ())).e (Post:=λz=>z=h.push Ai) rfl) λhz l=>?_)) λI (B:ky w (h.push Ai) 7 I)=>?_
  ·subst l;rw[UD];exact Dk.bind n λE C=>Dk.pure C
  ·refine Dk.pure ⟨B.size,λj m=>(B.low j m).trans (c j m),?_⟩;intro x D;rw[Ca] at D;subst D;have:=B.main;rw[Ye (by rw[Kn.2.2.2.1 w];exact yb _)] at this;exact this
 have al:gh w gs d os (.body bd ν) (Oh y g lv2 ar q kp) h 2762 pos (alloc Ai) (h.push Ai) 2762 pos (1388:ma):=by
  have:=fQ (w:=w) (gs:=gs) (d:=d) (os:=os) (code:=.body bd ν) (st:=Oh y g lv2 ar q kp) (h:=h) (k:=2762) (pos:=pos) (o:=Ai) (f:=rj) (Ue _);rw[r] at this;exact this
 exact Dk.bind (al.e (Post:=λz=>z=h.push Ai) rfl) λhz l=>by subst l;exact inner
noncomputable def EE(w:sa):List fb:=E1++E2++(Yv++jt w)++E4 w++E5 w
theorem a1H(old:Mm w h)(t:h.objs.size=139):Dk w gs d os (.body bd ν) (Oh y g lv2 ar q kp) h 400 pos (dictDisplay Ox) 3804 Yh (.ref 139) (Inv w h 1868 (EE w) 76):=by
 have i:Xn E1 E2=a8/\Xn (E1++E2) (Yv++jt w)=a8/\Xn (E1++E2++(Yv++jt w)) (E4 w)=a8/\Xn (E1++E2++(Yv++jt w)++E4 w) (E5 w)=a8:=by
  have:=Y7 w;unfold PY at this;simp only[Pd] at this;exact⟨this.1.1.1,this.1.1.2,this.1.2,this.2⟩
 refine ue λhC=>?_;obtain ⟨r,p,o,m⟩:=i;refine hC ?_;rw[uP,Ru a4P a4O a0t a4N (by rw[a4M];decide) (by rfl)];refine Dk.bind (a:=(139:ma)) (xE (b:=139) (c:=0) (c':=498) (F:=(139,Va E1 17)::F1) old (by decide) t Yq (λK H gd lv=>by
  have e:=D6 w (w.params.followText aq) K H gd lv bd ν pos y g lv2 ar q kp;unfold UX uG at e;rw[Zb] at e;exact e) (by decide +kernel)) λh1 f=>?_
 have I1:Inv w h 637 E1 17 h1:=⟨f.size,f.low,f.facts _ (va ..),λx s=>f.facts x (pa _ s)⟩;refine Dk.bind (Gw (n:=637) (n':=1388) (M:=E2) (em:=17) I1 (xE (b:=637) (c:=0) (c':=751) (I1.old old) (by decide) I1.size Yq (λK H gd lv=>by
  have e:=C6 w (w.params.followText aq) K H gd lv bd ν Yh y g lv2 ar q kp;unfold TX uG at e;rw[Zb] at e;exact e) (by rfl)) (by decide) (by rfl) (by rw[Kn.1,Kn.2.1];decide) r (by decide)) λh2 l=>?_
 refine Dk.bind (Gw (n:=1388) (n':=1841) (M:=Yv++jt w) (em:=17) l (a3T (l.old old) l.size) (by decide) (by rfl) (by simp only[Nb,Kn.1,Kn.2.1,Kn.2.2.1,Kn.2.2.2.1 w];decide) p (by decide)) λA k=>?_;refine Dk.bind (Gw (n:=1841) (n':=1859) (M:=E4 w) (em:=17) k (xE (b:=1841) (c:=0) (c':=18) (k.old old) (by decide) k.size Yq (λK H gd lv=>by
  have e:=z6 w (w.params.followText aq) K H gd lv bd ν Yh y g lv2 ar q kp;unfold QX uG at e;rw[Zb] at e;exact e) (by rfl)) (by decide) (by rfl) (by simp only[Nb,Kn.1,Kn.2.1,Kn.2.2.1,Kn.2.2.2.1 w,Kn.2.2.2.2.1 w];decide) o (by decide)) λz j=>?_
 refine Dk.bind (Gw (n:=1859) (n':=1868) (M:=E5 w) (em:=8) j (xE (b:=1859) (c:=0) (c':=9) (j.old old) (by decide) j.size Yq (λK H gd lv=>by
  have e:=w6 w (w.params.followText aq) K H gd lv bd ν Yh y g lv2 ar q kp;unfold PX uG at e;rw[Zb] at e;exact e) (by rfl)) (by decide) (by rfl) (by simp only[Nb,Kn.1,Kn.2.1,Kn.2.2.1,Kn.2.2.2.1 w,Kn.2.2.2.2.1 w,Kn.2.2.2.2.2 w];decide) m (by decide)) λv u=>?_
 exact Dk.pure u
end
noncomputable def ld4(s:T3)(a:ma):Option (Jb×T3):=match Ji a 139 with
 |true=>(gv (s.t.get a)).bind λo=>ac (o,s)
 |false=>bif Yg s.b a then (gv (s.u.get (a-s.b))).bind λo=>ac (o,s) else a6
noncomputable def IF(s:T3)(a:ma)(f:Jb->Jb):Option T3:=match Ji a 139 with
 |true=>(gv (s.t.get a)).bind λZ=>ac ⟨s.t.set a f,s.b,s.u,s.c⟩
 |false=>bif Yg s.b a then (gv (s.u.get (a-s.b))).bind λZ=>ac ⟨s.t,s.b,s.u.set (a-s.b) f,s.c⟩ else a6
noncomputable def U7:nF T3:=⟨ld4,IF,al3⟩
structure Z3(Eb:Xb)(s:T3)(h:Xb):Prop where
 size:h.objs.size=s.b+s.c
 le:139<=s.b
 old:∀i o,s.t.get i=ac o->o.isFreed=be->i < 139->h.get? i=ac o
 own:∀i o,s.u.get i=ac o->o.isFreed=be->h.get? (s.b+i)=ac o
 mid:∀i,139<=i->i < s.b->h.get? i=Eb.get? i
theorem t4a(a b i:Nat)(h:139<=b)(q:a < 139):a≠b+i:=by lia
theorem t4b(a i:Nat)(q:a < 139)(r:139<=i):a≠i:=by lia
theorem t4c(a b i:Nat)(h:139<=b)(q:b<=a)(r:i < 139):a≠i:=by lia
theorem yT(Eb:Xb):Lm U7 (λZ=>True) (Z3 Eb) where
 ld s a:=by
  show OK (match Ji a 139 with|true=>_|false=>_) _
  cases hb:Ji a 139 with
  |true=>exact OK.get λo e q=>OK.some ⟨id,λh Z r=>⟨r.old _ _ e q (Ws hb),r⟩⟩
  |false=>exact OK.bif λhb=>OK.get λo e q=>OK.some ⟨id,λh Z r=>⟨mF.at ⟨r.own⟩ (De hb) e q,r⟩⟩
 up s a f:=by
  show OK (match Ji a 139 with|true=>_|false=>_) _
  cases hb:Ji a 139 with
  |true=>exact OK.get λo e q=>have hb:=Ws hb;OK.some ⟨id,λh Z r=>have c:=r.old _ _ e q hb
    ⟨Bm c,El.trans r.size,r.le,λi o' hi hf l=>En c hf ((KA e hi).imp_right λq=>⟨q.1,r.old _ _ q.2 hf l⟩),
     λi o' hi hf=>(Ia h f (t4a a s.b i r.le hb)).trans (r.own _ _ hi hf),λi h1 h2=>(Ia h f (t4b a i hb h1)).trans (r.mid i h1 h2)⟩⟩
  |false=>exact OK.bif λhb=>OK.get λo e q=>have hb:=De hb;OK.some ⟨id,λh Z r=>have c:=mF.at ⟨r.own⟩ hb e q
    ⟨Bm c,El.trans r.size,r.le,λi o' hi hf l=>(Ia h f (t4c a s.b i r.le hb l)).trans (r.old _ _ hi hf l),
     (mF.upd ⟨r.own⟩ hb e c).own,λi h1 h2=>(Ia h f (t3d a s.b i hb h2)).trans (r.mid i h1 h2)⟩⟩
 al s o:=OK.bif λg=>OK.some ⟨id,λh Z r=>
  have lt:∀i,i < s.b->i < h.objs.size:=λi hi=>ya hi (ka (Za _ _) (Yc r.size.symm))
  ⟨r.size.symm,Un.trans (congrArg (·+1) r.size),r.le,λi o' hi hf l=>ea _ (r.old _ _ hi hf l),(mF.push ⟨r.own⟩ r.size g).own,λi h1 h2=>(tw (lt i h2)).trans (r.mid i h1 h2)⟩⟩
noncomputable def ug:Ba×Sd×Oa×Sd:=match Uh with
 |.Assign [.Name x p] v q=>(x,p,v,q)
 |_=>("",default,.Constant .none 0 default,default)
set_option tactic.hygienic true
noncomputable def kZ:Ff->xc Fin:=λf=>match f with
 |.next=>(Oc uE Sh).wrap A4 (su Sh) id id
 |f=>A4 f
noncomputable def du(v:Value):xc Ff:=do
 standAt ug.2.1
 bindName Sh ug.1 v
 pure .next
set_option tactic.hygienic false
noncomputable def er:Wb:=⟨(du (.ref 139)).wrap kZ (su Sh) id id,.body Hb Sh,Yh,[qu default]⟩
noncomputable def gZ(p:Pa)(T:Wg->BT)(b a:Wb)(w:sa):Option (T3×Nat×Wb):=rn U7 mq (Vb Ra) p w 11 nj 2500 ⟨gPT p T b w,1868,.nil,0⟩ 3804 a
def zG(p:Pa)(T:Wg->BT)(d a:Wb)(w:sa)(b:Bool):Prop:=(gZ p T d a (w.withFollow "special-get-raises" b)).map (λr=>(r.1.b,r.1.c,r.2.1,Hk r.2.2))=ac (1868,116,4752,a8)
noncomputable def C2:=gZ PP T0 Te er
noncomputable def zOk:=zG PP T0 Te er
lay_quick Mine.zG
theorem a3o(w:sa)(b:Bool):zOk w b:=by
 unfold zOk;rw[Fast.te2319240948699276521];unfold Fast.tw2319240948699276521;cases b <;> kernel_rfl
theorem kL:Uh=.Assign [.Name ug.1 ug.2.1] ug.2.2.1 ug.2.2.2:=by kernel_rfl
theorem lL:Lf ug.2.2.1 (ac (.Name ug.1 ug.2.1)) ug.2.2.2.line Sh=pure be:=by kernel_rfl
theorem IQ:eval ug.2.2.1 Sh=(standAt Yh>>=λZ=>dictDisplay Ox):=by kernel_rfl
theorem wH:Hb=dR++(Uh::uE):=by kernel_rfl
theorem QZ{t:BT}{x:Jb}(h:((t.ins k x).get k).isSome=a8)(hk:k < n)(a:∀i o,t.get i=ac o->i < n):∀i o,(t.ins k x).get i=ac o->i < n:=by
 intro i o e;rw[BT.get_ins _ _ _ h] at e;by_cases q:i=k
 ·exact q▸hk
 ·rw[if_neg q] at e;exact a i o e
theorem a2e{P:Wg}(h:(T0 P).get i=ac o):i < 11:=by
 have a:∀i o,(T0 P).get i=ac o->i < 11:=by
  unfold T0
  iterate 11 refine QZ (by rfl) (by decide) ?_
  exact λi o h=>nomatch h
 exact a i o h
theorem boot_abs(P:Wg):vf P=absHeap (T0 P) 11 (vf P).life:=by kernel_rfl
theorem bR(P:Wg):RV 0 (vf P) ⟨T0 P,11⟩ (vf P) where
 size:=by rfl
 own:=λi o hi hf=>by
  rw[boot_abs];rw[abs_get (a2e hi) hi];exact UE hf
 low:=λZ h=>absurd h (Fy _)
 le:=fc _
noncomputable def gS(p:Pa)(T:Wg->BT)(b a:Wb)(w:sa):T3:=match gZ p T b a w with
 |some (s,_,_)=>s
 |none=>⟨.nil,0,.nil,0⟩
noncomputable def Qd:=gS PP T0 Te er
structure HR(w:sa)(h:Xb):Prop where
 size:h.objs.size=1984
 old:∀i o,(Qd w).t.get i=ac o->o.isFreed=be->i < 139->h.get? i=ac o
 own:∀i o,(Qd w).u.get i=ac o->o.isFreed=be->h.get? (1868+i)=ac o
 ecc:h.get? 139=ac (Va (EE w) 76)
 facts:∀x∈F1,h.get? x.1=ac x.2
theorem LU{t t' a:Wb}(e:t'=a)(g:Goes PP w 11 nj s t s' t'):Goes PP w 11 nj s t s' a:=e▸g
set_option tactic.hygienic true in
theorem YM(w:sa)(gs:Array Oe)(d:Pn)(os:vj):
  ∃h t,Goes PP w 11 nj ⟨vf w.params,gs,d,181,os⟩ (topStub PP) ⟨h,gs,d,4752,os⟩ t/\Hk t=a8/\HR w h:=by
 have r:=a5T w (w.params.followText aq);have hb:=a5O w (w.params.followText aq);have hz:=a3o w (w.params.followText aq);unfold aOk aG at r;unfold bOk bG at hb;unfold zOk zG at hz;rw[Zb] at r hb hz;refine ue λhC=>?_;obtain ⟨⟨sA,kA,tA⟩,M,L⟩:=Qg.mp r;refine hC ?_;simp only[Ie] at L;refine ue λhC=>?_;obtain ⟨a3,a4,a5⟩:=L;obtain ⟨⟨sB,kB,tB⟩,J,I⟩:=Qg.mp hb;refine hC ?_;simp only[Ie] at I;refine ue λhC=>?_;obtain ⟨H,b4,b5⟩:=I;obtain ⟨⟨V,kZ',T⟩,B,A⟩:=Qg.mp hz;refine hC ?_;simp only[Ie] at A;refine ue λhC=>?_;obtain ⟨c,Q,O,N⟩:=A;refine hC ?_;subst a4 a5 b4 b5 O;have Y:My w=sB.t:=by unfold My gPT;rw[J]
 have D:Qd w=V:=by unfold Qd gS;rw[B]
 have G:=M;unfold a3W gA at G;refine ue λhC=>?_;obtain ⟨h1,g1,R1⟩:=Tn (gs:=gs) (d:=d) (os:=os) (yI 0 (vf w.params)) (lq (good:=λ_=>True) (R:=RV 0 (vf w.params))) G trivial (bR w.params);refine hC ?_;have u:=J;unfold FY gB at u;rw[M] at u;refine ue λhC=>?_;obtain ⟨h2,g2,y⟩:=Tn (gs:=gs) (d:=d) (os:=os) (yI 0 (vf w.params)) (lq (good:=λ_=>True) (R:=RV 0 (vf w.params))) u trivial R1;refine hC ?_;have l:(⟨Vb Ra (.body Hb Sh),.body Hb Sh,default,[qu default]⟩:Wb)=Te:=by
  unfold Te;rw[body_wrap];refine congrArg (λz=>Thread.mk z _ _ _) (qs _ _ _ (λ_=>?_) λ_=>rfl);have q:=execs_app_wrap (env:=Sh) dR (Uh::uE) A4 (su Sh) id id;rw[<- wH] at q;rw[q];refine qs _ _ _ (λf=>?_) λ_=>rfl;cases f <;> rfl
 have G1:Goes PP w 11 nj ⟨vf w.params,gs,d,181,os⟩ (topStub PP) ⟨h2,gs,d,400,os⟩ ⟨DU .next,.body Hb Sh,⟨31,0,73,58⟩,[qu default]⟩:=(LU l g1).trans g2;have old:Mm w h2:=λi o hi hf=>by
  rw[Y] at hi;have q:=y.own i o hi hf;have:=Ha q;rw[y.size,H] at this;exact⟨q,this⟩
 have hs:h2.objs.size=139:=by rw[y.size,H]
 have ex:Dk w gs d os (.body Hb Sh) [qu default] h2 400 ⟨31,0,73,58⟩ (standAt ug.2.2.2>>=λ_=>eval ug.2.2.1 Sh) 3804 Yh (.ref 139) (Inv w h2 1868 (EE w) 76):=by
  refine Dk.bind ((bX (Ue ())).e (Post:=λz=>z=h2) rfl) λhz m=>?_;subst m;rw[IQ];refine Dk.bind ((bX (Ue ())).e (Post:=λz=>z=hz) rfl) λhy n=>?_;subst n;exact a1H old hs
 have k:DU .next=(standAt ug.2.2.2>>=λ_=>eval ug.2.2.1 Sh).wrap (λv=>(du v).wrap kZ (su Sh) id id) (su Sh) id id:=by
  show(Oc (Uh::uE) Sh).wrap A4 (su Sh) id id=_
  rw[execs_cons_wrap];have q:Cg Uh Sh=((standAt ug.2.2.2>>=λ_=>eval ug.2.2.1 Sh)>>=λv=>du v):=by
   refine(congrArg (λs=>Cg s Sh) kL).trans ((A5 _ _ _ _ _ lL).trans ?_)
   simp only[bind_assoc,du]
  rw[q,Sem.bind_eq_wrap',Ul];refine qs _ _ _ (λv=>qs _ _ _ (λf=>?_) λ_=>rfl) λ_=>rfl;cases f <;> rfl
 refine ue λhC=>?_;obtain ⟨g,C,j⟩:=ex (λv=>(du v).wrap kZ (su Sh) id id) (su Sh) id id;refine hC ?_;rw[<- k] at C;have R3:Z3 g ⟨My w,1868,.nil,0⟩ g:=⟨j.size,(by decide:139<=1868),λi o hi hf a=>(j.low i a).trans (old i o hi hf).1,Yq,λ_ _ _=>rfl⟩;have E:=B;unfold C2 gZ at E;refine ue λhC=>?_;obtain ⟨h4,g4,b⟩:=Tn (gs:=gs) (d:=d) (os:=os) (yT g) (lq (good:=λ_=>True) (R:=Z3 g)) E trivial R3;refine hC ?_;refine⟨h4,T,(G1.trans C).trans g4,N,?_,?_,?_,?_,?_⟩
 ·rw[b.size,c,Q]
 ·rw[D];exact b.old
 ·rw[D];intro i o hi hf;have:=b.own i o hi hf;rw[c] at this;exact this
 ·rw[b.mid 139 (by decide) (by rw[c];decide)];exact j.main
 ·intro x p;rw[b.mid x.1 (uc (vX p)) (by rw[c];exact zj (wX p) (by decide))];exact j.facts x p
noncomputable def xt(a:Nat):Nat:=if a < 128 then 2*a else (2*a)^^^285
noncomputable def gq:Nat->Nat->List Nat
 |0,_=>[]
 |n+1,a=>a::gq n (xt a)
noncomputable def YS:Nat->List Nat->List Value
 |_,[]=>[]
 |t,a::l=>.int (Je a) t::YS (t+1) l
noncomputable def Rq(B:List Ya)(i:Nat):Ya:=(B[i]?).getD (.Pass default)
noncomputable def Wi:=Rq Hb
noncomputable def Aw:Oa:=.Name "" default
noncomputable def P4:Ya->Oa×Oa×List Ya×List Ya×Sd×Ba
 |.Assign a v p=>(a.headD Aw,v,[],[],p,"")
 |.AugAssign t _ v p=>(t,v,[],[],p,"")
 |.For t i b _ p=>(t,i,b,[],p,"")
 |.If t b o p=>(Aw,t,b,o,p,"")
 |.Expr v p=>(Aw,v,[],[],p,"")
 |.Return v p=>(Aw,v.getD Aw,[],[],p,"")
 |.FunctionDef n _ b _ _ _ _ _ _ p=>(Aw,Aw,b,[],p,n)
 |.ClassDef _ _ _ b _ _ _ _ _ _ _=>(Aw,Aw,b,[],default,"")
 |_=>(Aw,Aw,[],[],default,"")
noncomputable def aT(s:Ya):Oa:=(P4 s).1
noncomputable def aV(s:Ya):Oa:=(P4 s).2.1
noncomputable def aB(s:Ya):List Ya:=(P4 s).2.2.1
noncomputable def aO(s:Ya):List Ya:=(P4 s).2.2.2.1
noncomputable def aP(s:Ya):Sd:=(P4 s).2.2.2.2.1
noncomputable def mr(B:List Ya)(i:Nat)(n:Ba):Ya:=((aB ((B[i]?).getD (.Pass default))).find? λst=>(P4 st).2.2.2.2.2==n).getD (.Pass default)
noncomputable def Sx:=mr Hb
noncomputable def j3(o:Option Jb):Value:=match o with
 |some ⟨_,_,.func f,_⟩=>f.doc
 |_=>.none
noncomputable def mD(o:Option Jb)(i:Nat):Value:=match o with
 |some ⟨_,_,.dict es _,_⟩=>(match es.toList[i]? with|some e=>e.val|none=>.none)
 |_=>.none
noncomputable def Pr(nm a:Ba)(st:Ya)(df dc b c:Value):Jb:=match st with
 |.FunctionDef _ args body _ _ _ scope _ _ _=>⟨.type "function",a6,.func (vC nm a args (.stmts body) scope 3 [] df .none dc b a6 c .none 0),⟨[]⟩⟩
 |_=>Ep
noncomputable def JT(w:sa):Jb:=⟨.none,a6,.dict ⟨[]⟩ 0,⟨[]⟩⟩
noncomputable def IT(w:sa):Jb:=Va [⟨hashW w "__name__",.str "__name__" 165,.str "law_im0110_01" 4732⟩,⟨hashW w "__doc__",.str "__doc__" 166,.none⟩,⟨hashW w "__package__",.str "__package__" 167,.none⟩,⟨hashW w "__loader__",.str "__loader__" 168,.builtin "__main__.__loader__#opaque"⟩,⟨hashW w "__spec__",.str "__spec__" 169,.none⟩,⟨hashW w "__annotations__",.str "__annotations__" 170,.ref 6⟩,⟨hashW w "__builtins__",.str "__builtins__" 171,.ref 4⟩,⟨hashW w "__file__",.str "__file__" 173,.str "/claim/cut.py" 172⟩,⟨hashW w "__cached__",.str "__cached__" 174,.none⟩,⟨hashW w "_wall",.str "_wall" 193,.ref 21⟩,⟨hashW w "_tuplegetter",.str "_tuplegetter" 252,.ref 60⟩,⟨hashW w "VERSION_M4",.str "VERSION_M4" 254,.int 0 253⟩,⟨hashW w "VERSION_M3",.str "VERSION_M3" 257,.int (-1) 256⟩,⟨hashW w "VERSION_M2",.str "VERSION_M2" 260,.int (-2) 259⟩,⟨hashW w "VERSION_M1",.str "VERSION_M1" 263,.int (-3) 262⟩,⟨hashW w "ERROR_LEVEL_L",.str "ERROR_LEVEL_L" 265,.int 1 264⟩,⟨hashW w "ERROR_LEVEL_M",.str "ERROR_LEVEL_M" 267,.int 0 266⟩,⟨hashW w "ERROR_LEVEL_Q",.str "ERROR_LEVEL_Q" 269,.int 3 268⟩,⟨hashW w "ERROR_LEVEL_H",.str "ERROR_LEVEL_H" 271,.int 2 270⟩,⟨hashW w "EC",.str "EC" 399,.ref 135⟩,⟨hashW w "ECC",.str "ECC" 3804,.ref 139⟩,⟨hashW w "GEN_POLY",.str "GEN_POLY" 4122,.ref 1868⟩,⟨hashW w "GALIOS_LOG",.str "GALIOS_LOG" 4379,.ref 1888⟩,⟨hashW w "GALIOS_EXP",.str "GALIOS_EXP" 4636,.ref 1890⟩,⟨hashW w "make_final_message",.str "make_final_message" 4645,.ref 1895⟩,⟨hashW w "make_blocks",.str "make_blocks" 4652,.ref 1900⟩,⟨hashW w "Buffer",.str "Buffer" 4731,.ref 1963⟩,⟨hashW w "_law_LAYOUTS",.str "_law_LAYOUTS" 4739,.ref 1973⟩,⟨hashW w "_law_mended",.str "_law_mended" 4745,.ref 1978⟩,⟨hashW w "law",.str "law" 4751,.ref 1983⟩] 30
noncomputable def kO(w:sa):Jb:=⟨.type "module",ac 0,.plain,⟨[]⟩⟩
noncomputable def b8(w:sa):Jb:=⟨.type "tuple",a6,.seq ⟨[.none]⟩ 0,⟨[]⟩⟩
noncomputable def IW(S:T3)(B:List Ya)(w:sa):Jb:=Pr "__get__" "_tuplegetter.__get__" (mr B 2 "__get__") (.ref 36) (.none) (.str "segno.consts" 194) (.ref 42)
noncomputable def HT(w:sa):Jb:=IW (Qd w) Hb w
noncomputable def Ro(w:sa):Jb:=Va [⟨hashW w "__module__",.str "__module__" 203,.str "segno.consts" 194⟩,⟨hashW w "__firstlineno__",.str "__firstlineno__" 207,.int 5 206⟩,⟨hashW w "__init__",.str "__init__" 216,.ref 35⟩,⟨hashW w "__get__",.str "__get__" 225,.ref 43⟩,⟨hashW w "__set__",.str "__set__" 234,.ref 50⟩,⟨hashW w "__delete__",.str "__delete__" 242,.ref 57⟩,⟨hashW w "__static_attributes__",.str "__static_attributes__" 245,.ref 58⟩,⟨hashW w "__dict__",.str "__dict__" 247,.ref 61⟩,⟨hashW w "__weakref__",.str "__weakref__" 249,.ref 62⟩,⟨hashW w "__doc__",.str "__doc__" 250,.none⟩] 4
noncomputable def Qo(w:sa):Jb:=⟨.type "type",a6,.cls {name:="_tuplegetter",bases:=[.type "object"],mro:=[.ref 60,.type "object"],ns:=59,qualname:="_tuplegetter",hasDict:=a8,slotNames:=[]},⟨[a6,a6,ac (.str "_tuplegetter" 196),ac (.str "_tuplegetter" 204),ac (.builtin "object.__new__"),ac (.bool a8)]⟩⟩
noncomputable def SA(S:T3)(B:List Ya)(w:sa):Jb:=Va [⟨hashW w "index",.str "index" 371,.int 0 365⟩,⟨hashW w "__doc__",.str "__doc__" 373,mD (S.t.get 123) 1⟩] 2
noncomputable def g8(w:sa):Jb:=SA (Qd w) Hb w
noncomputable def rx(w:sa):Jb:=⟨.ref 60,ac 123,.plain,⟨[]⟩⟩
noncomputable def RA(S:T3)(B:List Ya)(w:sa):Jb:=Va [⟨hashW w "index",.str "index" 381,.int 1 375⟩,⟨hashW w "__doc__",.str "__doc__" 383,mD (S.t.get 126) 1⟩] 2
noncomputable def d8(w:sa):Jb:=RA (Qd w) Hb w
noncomputable def qx(w:sa):Jb:=⟨.ref 60,ac 126,.plain,⟨[]⟩⟩
noncomputable def QA(S:T3)(B:List Ya)(w:sa):Jb:=Va [⟨hashW w "index",.str "index" 391,.int 2 385⟩,⟨hashW w "__doc__",.str "__doc__" 393,mD (S.t.get 129) 1⟩] 2
noncomputable def c8(w:sa):Jb:=QA (Qd w) Hb w
noncomputable def ox(w:sa):Jb:=⟨.ref 60,ac 129,.plain,⟨[]⟩⟩
noncomputable def Rl(S:T3)(B:List Ya)(w:sa):Jb:=Va [⟨hashW w "__module__",.str "__module__" 279,.str "segno.consts" 194⟩,⟨hashW w "__firstlineno__",.str "__firstlineno__" 283,.int 31 282⟩,⟨hashW w "__doc__",.str "__doc__" 285,mD (S.t.get 134) 2⟩,⟨hashW w "__slots__",.str "__slots__" 287,.ref 73⟩,⟨hashW w "_fields",.str "_fields" 291,.ref 74⟩,⟨hashW w "_field_defaults",.str "_field_defaults" 292,.ref 75⟩,⟨hashW w "__new__",.str "__new__" 303,.ref 136⟩,⟨hashW w "_make",.str "_make" 325,.ref 91⟩,⟨hashW w "_replace",.str "_replace" 336,.ref 100⟩,⟨hashW w "__replace__",.str "__replace__" 337,.ref 100⟩,⟨hashW w "__repr__",.str "__repr__" 345,.ref 107⟩,⟨hashW w "_asdict",.str "_asdict" 352,.ref 114⟩,⟨hashW w "__getnewargs__",.str "__getnewargs__" 360,.ref 121⟩,⟨hashW w "__match_args__",.str "__match_args__" 364,.ref 122⟩,⟨hashW w "num_blocks",.str "num_blocks" 374,.ref 124⟩,⟨hashW w "num_total",.str "num_total" 384,.ref 127⟩,⟨hashW w "num_data",.str "num_data" 394,.ref 130⟩,⟨hashW w "__static_attributes__",.str "__static_attributes__" 395,.ref 132⟩] 2
noncomputable def kD(w:sa):Jb:=Rl (Qd w) Hb w
noncomputable def ah(w:sa):Jb:=⟨.type "type",a6,.cls {name:="EC",bases:=[.type "tuple"],mro:=[.ref 135,.type "tuple",.type "object"],ns:=134,qualname:="EC",hasDict:=be,slotNames:=[]},⟨[ac (.ref 65),a6,ac (.str "EC" 272),ac (.str "EC" 280),ac .none,ac (.bool be)]⟩⟩
noncomputable def RY(w:sa):Jb:=⟨.type "code",a6,.fields ⟨[.str "__get__" 217,.str "_tuplegetter.__get__" 218,.str "/claim/cut.py" 219,.int 11 0,.int 3 0,.int 0 0,.int 0 0,.int 3 0,.ref 37,.bool a8,.int 181 0,.ref 38,.none,.ref 39,.ref 40,.ref 41,.int 223 0,.int 11 0,.str "/claim/cut.py" 224]⟩,⟨[]⟩⟩
noncomputable def PA(w:sa):Jb:=Va [⟨2,.int 2 3805,.ref 1869⟩,⟨5,.int 5 3809,.ref 1870⟩,⟨6,.int 6 3816,.ref 1871⟩,⟨7,.int 7 3824,.ref 1872⟩,⟨8,.int 8 3833,.ref 1873⟩,⟨10,.int 10 3843,.ref 1874⟩,⟨13,.int 13 3855,.ref 1875⟩,⟨14,.int 14 3870,.ref 1876⟩,⟨15,.int 15 3886,.ref 1877⟩,⟨16,.int 16 3903,.ref 1878⟩,⟨17,.int 17 3921,.ref 1879⟩,⟨18,.int 18 3940,.ref 1880⟩,⟨20,.int 20 3960,.ref 1881⟩,⟨22,.int 22 3982,.ref 1882⟩,⟨24,.int 24 4006,.ref 1883⟩,⟨26,.int 26 4032,.ref 1884⟩,⟨28,.int 28 4060,.ref 1885⟩,⟨30,.int 30 4090,.ref 1887⟩] 18
noncomputable def hZ(w:sa):Jb:=⟨.type "tuple",a6,.seq ⟨[.int 25 3806,.int 1 3807]⟩ 0,⟨[]⟩⟩
noncomputable def pG(w:sa):Jb:=⟨.type "tuple",a6,.seq ⟨[.int 113 3810,.int 164 3811,.int 166 3812,.int 119 3813,.int 10 3814]⟩ 0,⟨[]⟩⟩
noncomputable def oG(w:sa):Jb:=⟨.type "tuple",a6,.seq ⟨[.int 166 3817,.int 0 3818,.int 134 3819,.int 5 3820,.int 176 3821,.int 15 3822]⟩ 0,⟨[]⟩⟩
noncomputable def nG(w:sa):Jb:=⟨.type "tuple",a6,.seq ⟨[.int 87 3825,.int 229 3826,.int 146 3827,.int 149 3828,.int 238 3829,.int 102 3830,.int 21 3831]⟩ 0,⟨[]⟩⟩
noncomputable def mG(w:sa):Jb:=⟨.type "tuple",a6,.seq ⟨[.int 175 3834,.int 238 3835,.int 208 3836,.int 249 3837,.int 215 3838,.int 252 3839,.int 196 3840,.int 28 3841]⟩ 0,⟨[]⟩⟩
noncomputable def fZ(w:sa):Jb:=⟨.type "tuple",a6,.seq ⟨[.int 251 3844,.int 67 3845,.int 46 3846,.int 61 3847,.int 118 3848,.int 70 3849,.int 64 3850,.int 94 3851,.int 32 3852,.int 45 3853]⟩ 0,⟨[]⟩⟩
noncomputable def eZ(w:sa):Jb:=⟨.type "tuple",a6,.seq ⟨[.int 74 3856,.int 152 3857,.int 176 3858,.int 100 3859,.int 86 3860,.int 100 3861,.int 106 3862,.int 104 3863,.int 130 3864,.int 218 3865,.int 206 3866,.int 140 3867,.int 78 3868]⟩ 0,⟨[]⟩⟩
noncomputable def dZ(w:sa):Jb:=⟨.type "tuple",a6,.seq ⟨[.int 199 3871,.int 249 3872,.int 155 3873,.int 48 3874,.int 190 3875,.int 124 3876,.int 218 3877,.int 137 3878,.int 216 3879,.int 87 3880,.int 207 3881,.int 59 3882,.int 22 3883,.int 91 3884]⟩ 0,⟨[]⟩⟩
noncomputable def cZ(w:sa):Jb:=⟨.type "tuple",a6,.seq ⟨[.int 8 3887,.int 183 3888,.int 61 3889,.int 91 3890,.int 202 3891,.int 37 3892,.int 51 3893,.int 58 3894,.int 58 3895,.int 237 3896,.int 140 3897,.int 124 3898,.int 5 3899,.int 99 3900,.int 105 3901]⟩ 0,⟨[]⟩⟩
noncomputable def bZ(w:sa):Jb:=⟨.type "tuple",a6,.seq ⟨[.int 120 3904,.int 104 3905,.int 107 3906,.int 109 3907,.int 102 3908,.int 161 3909,.int 76 3910,.int 3 3911,.int 91 3912,.int 191 3913,.int 147 3914,.int 169 3915,.int 182 3916,.int 194 3917,.int 225 3918,.int 120 3919]⟩ 0,⟨[]⟩⟩
noncomputable def aZ(w:sa):Jb:=⟨.type "tuple",a6,.seq ⟨[.int 43 3922,.int 139 3923,.int 206 3924,.int 78 3925,.int 43 3926,.int 239 3927,.int 123 3928,.int 206 3929,.int 214 3930,.int 147 3931,.int 24 3932,.int 99 3933,.int 150 3934,.int 39 3935,.int 243 3936,.int 163 3937,.int 136 3938]⟩ 0,⟨[]⟩⟩
noncomputable def ZY(w:sa):Jb:=⟨.type "tuple",a6,.seq ⟨[.int 215 3941,.int 234 3942,.int 158 3943,.int 94 3944,.int 184 3945,.int 97 3946,.int 118 3947,.int 170 3948,.int 79 3949,.int 187 3950,.int 152 3951,.int 148 3952,.int 252 3953,.int 179 3954,.int 5 3955,.int 98 3956,.int 96 3957,.int 153 3958]⟩ 0,⟨[]⟩⟩
noncomputable def YY(w:sa):Jb:=⟨.type "tuple",a6,.seq ⟨[.int 17 3961,.int 60 3962,.int 79 3963,.int 50 3964,.int 61 3965,.int 163 3966,.int 26 3967,.int 187 3968,.int 202 3969,.int 180 3970,.int 221 3971,.int 225 3972,.int 83 3973,.int 239 3974,.int 156 3975,.int 164 3976,.int 212 3977,.int 212 3978,.int 188 3979,.int 190 3980]⟩ 0,⟨[]⟩⟩
noncomputable def XY(w:sa):Jb:=⟨.type "tuple",a6,.seq ⟨[.int 210 3983,.int 171 3984,.int 247 3985,.int 242 3986,.int 93 3987,.int 230 3988,.int 14 3989,.int 109 3990,.int 221 3991,.int 53 3992,.int 200 3993,.int 74 3994,.int 8 3995,.int 172 3996,.int 98 3997,.int 80 3998,.int 219 3999,.int 134 4000,.int 160 4001,.int 105 4002,.int 165 4003,.int 231 4004]⟩ 0,⟨[]⟩⟩
noncomputable def WY(w:sa):Jb:=⟨.type "tuple",a6,.seq ⟨[.int 229 4007,.int 121 4008,.int 135 4009,.int 48 4010,.int 211 4011,.int 117 4012,.int 251 4013,.int 126 4014,.int 159 4015,.int 180 4016,.int 169 4017,.int 152 4018,.int 192 4019,.int 226 4020,.int 228 4021,.int 218 4022,.int 111 4023,.int 0 4024,.int 117 4025,.int 232 4026,.int 87 4027,.int 96 4028,.int 227 4029,.int 21 4030]⟩ 0,⟨[]⟩⟩
noncomputable def VY(w:sa):Jb:=⟨.type "tuple",a6,.seq ⟨[.int 173 4033,.int 125 4034,.int 158 4035,.int 2 4036,.int 103 4037,.int 182 4038,.int 118 4039,.int 17 4040,.int 145 4041,.int 201 4042,.int 111 4043,.int 28 4044,.int 165 4045,.int 53 4046,.int 161 4047,.int 21 4048,.int 245 4049,.int 142 4050,.int 13 4051,.int 102 4052,.int 48 4053,.int 227 4054,.int 153 4055,.int 145 4056,.int 218 4057,.int 70 4058]⟩ 0,⟨[]⟩⟩
noncomputable def UY(w:sa):Jb:=⟨.type "tuple",a6,.seq ⟨[.int 168 4061,.int 223 4062,.int 200 4063,.int 104 4064,.int 224 4065,.int 234 4066,.int 108 4067,.int 180 4068,.int 110 4069,.int 190 4070,.int 195 4071,.int 147 4072,.int 205 4073,.int 27 4074,.int 232 4075,.int 201 4076,.int 21 4077,.int 43 4078,.int 245 4079,.int 87 4080,.int 42 4081,.int 195 4082,.int 212 4083,.int 119 4084,.int 242 4085,.int 37 4086,.int 9 4087,.int 123 4088]⟩ 0,⟨[]⟩⟩
noncomputable def jq(w:sa):Jb:=⟨.type "tuple",a6,.seq ⟨YS 4123 ((Ea 256).map λa=>(gq 255 1).idxOf a % 255)⟩ 0,⟨[]⟩⟩
noncomputable def Jn(w:sa):Jb:=⟨.type "list",a6,.seq ⟨YS 4380 (gq 255 1)++YS 4380 (gq 255 1)⟩ 0,⟨[]⟩⟩
noncomputable def HI(S:T3)(B:List Ya)(w:sa):Jb:=Pr "make_final_message" "make_final_message" (Rq B 17) (.none) (j3 (S.u.get (1895-1868))) (.str "segno.encoder" 4637) (.ref 1894)
noncomputable def Kh(w:sa):Jb:=HI (Qd w) Hb w
noncomputable def GI(S:T3)(B:List Ya)(w:sa):Jb:=Pr "make_blocks" "make_blocks" (Rq B 18) (.none) (j3 (S.u.get (1900-1868))) (.str "segno.encoder" 4637) (.ref 1899)
noncomputable def Zh(w:sa):Jb:=GI (Qd w) Hb w
noncomputable def TY(w:sa):Jb:=⟨.type "tuple",a6,.seq ⟨[]⟩ 0,⟨[]⟩⟩
noncomputable def lG(w:sa):Jb:=⟨.type "tuple",a6,.seq ⟨[.ref 1909]⟩ 0,⟨[]⟩⟩
noncomputable def zw(S:T3)(B:List Ya)(w:sa):Jb:=Pr "__init__" "Buffer.__init__" (mr B 19 "__init__") (.ref 1910) (.none) (.str "segno.encoder" 4637) (.ref 1916)
noncomputable def mx(w:sa):Jb:=zw (Qd w) Hb w
noncomputable def yw(S:T3)(B:List Ya)(w:sa):Jb:=Pr "extend" "Buffer.extend" (mr B 19 "extend") (.none) (.none) (.str "segno.encoder" 4637) (.ref 1923)
noncomputable def lx(w:sa):Jb:=yw (Qd w) Hb w
noncomputable def xw(S:T3)(B:List Ya)(w:sa):Jb:=Pr "getbits" "Buffer.getbits" (mr B 19 "getbits") (.none) (.none) (.str "segno.encoder" 4637) (.ref 1937)
noncomputable def kG(w:sa):Jb:=xw (Qd w) Hb w
noncomputable def uw(S:T3)(B:List Ya)(w:sa):Jb:=Pr "toints" "Buffer.toints" (mr B 19 "toints") (.none) (j3 (S.u.get (1945-1868))) (.str "segno.encoder" 4637) (.ref 1944)
noncomputable def Hs(w:sa):Jb:=uw (Qd w) Hb w
noncomputable def Th(S:T3)(B:List Ya)(w:sa):Jb:=Va [⟨hashW w "__module__",.str "__module__" 4660,.str "segno.encoder" 4637⟩,⟨hashW w "__firstlineno__",.str "__firstlineno__" 4664,.int 141 4663⟩,⟨hashW w "__doc__",.str "__doc__" 4666,mD (S.u.get (1962-1868)) 2⟩,⟨hashW w "__slots__",.str "__slots__" 4669,.ref 1908⟩,⟨hashW w "__init__",.str "__init__" 4677,.ref 1917⟩,⟨hashW w "extend",.str "extend" 4685,.ref 1924⟩,⟨hashW w "append_bits",.str "append_bits" 4694,.ref 1931⟩,⟨hashW w "getbits",.str "getbits" 4701,.ref 1938⟩,⟨hashW w "toints",.str "toints" 4710,.ref 1945⟩,⟨hashW w "__len__",.str "__len__" 4717,.ref 1952⟩,⟨hashW w "__getitem__",.str "__getitem__" 4725,.ref 1959⟩,⟨hashW w "__static_attributes__",.str "__static_attributes__" 4727,.ref 1960⟩,⟨hashW w "_data",.str "_data" 4729,.ref 1964⟩] 2
noncomputable def Gs(w:sa):Jb:=Th (Qd w) Hb w
noncomputable def ud(w:sa):Jb:=⟨.type "type",a6,.cls {name:="Buffer",bases:=[.type "object"],mro:=[.ref 1963,.type "object"],ns:=1962,qualname:="Buffer",hasDict:=be,slotNames:=["_data"]},⟨[a6,a6,ac (.str "Buffer" 4653),ac (.str "Buffer" 4661),ac (.builtin "object.__new__"),ac (.bool be)]⟩⟩
noncomputable def Fs(w:sa):Jb:=⟨.type "member_descriptor",a6,.fields ⟨[.str "_data" 4728,.ref 1963,.builtin "proto.slot",.builtin "proto.slot#set",.int 0 0]⟩,⟨[]⟩⟩
noncomputable def EI(S:T3)(B:List Ya)(w:sa):Jb:=Pr "_law_LAYOUTS" "_law_LAYOUTS" (Rq B 21) (.none) (.none) (.str "law_im0110_01" 4732) (.ref 1972)
noncomputable def OA(w:sa):Jb:=EI (Qd w) Hb w
noncomputable def CI(S:T3)(B:List Ya)(w:sa):Jb:=Pr "law" "law" (Rq B 23) (.none) (.none) (.str "law_im0110_01" 4732) (.ref 1982)
noncomputable def ix(w:sa):Jb:=CI (Qd w) Hb w
noncomputable def DI(S:T3)(B:List Ya)(w:sa):Jb:=Pr "_law_mended" "_law_mended" (Rq B 22) (.none) (.none) (.str "law_im0110_01" 4732) (.ref 1977)
noncomputable def mO(w:sa):Jb:=DI (Qd w) Hb w
noncomputable def vO(w:sa):Jb:=⟨.none,a6,.fields ⟨[]⟩,⟨[]⟩⟩
noncomputable def Js(w:sa):Jb:=⟨.type "code",a6,.fields ⟨[.str "make_final_message" 4639,.str "make_final_message" 4640,.str "/claim/cut.py" 4641,.int 79 0,.int 3 0,.int 0 0,.int 0 0,.int 3 0,.ref 1891,.bool a8,.int 181 0,.ref 1892,.none,.none,.none,.ref 1893,.int 4642 0,.int 79 0,.str "/claim/cut.py" 4643]⟩,⟨[]⟩⟩
noncomputable def uO(w:sa):Jb:=⟨.type "code",a6,.fields ⟨[.str "make_blocks" 4646,.str "make_blocks" 4647,.str "/claim/cut.py" 4648,.int 111 0,.int 2 0,.int 0 0,.int 0 0,.int 3 0,.ref 1896,.bool a8,.int 181 0,.ref 1897,.none,.none,.none,.ref 1898,.int 4649 0,.int 111 0,.str "/claim/cut.py" 4650]⟩,⟨[]⟩⟩
noncomputable def tO(w:sa):Jb:=⟨.type "code",a6,.fields ⟨[.str "__init__" 4670,.str "Buffer.__init__" 4671,.str "/claim/cut.py" 4672,.int 146 0,.int 2 0,.int 0 0,.int 0 0,.int 3 0,.ref 1911,.bool a8,.int 181 0,.ref 1912,.none,.ref 1913,.ref 1914,.ref 1915,.int 4675 0,.int 146 0,.str "/claim/cut.py" 4676]⟩,⟨[]⟩⟩
noncomputable def rO(w:sa):Jb:=⟨.type "code",a6,.fields ⟨[.str "extend" 4678,.str "Buffer.extend" 4679,.str "/claim/cut.py" 4680,.int 149 0,.int 2 0,.int 0 0,.int 0 0,.int 3 0,.ref 1918,.bool a8,.int 181 0,.ref 1919,.none,.ref 1920,.ref 1921,.ref 1922,.int 4683 0,.int 149 0,.str "/claim/cut.py" 4684]⟩,⟨[]⟩⟩
noncomputable def qO(w:sa):Jb:=⟨.type "code",a6,.fields ⟨[.str "getbits" 4695,.str "Buffer.getbits" 4696,.str "/claim/cut.py" 4697,.int 155 0,.int 1 0,.int 0 0,.int 0 0,.int 3 0,.ref 1932,.bool a8,.int 181 0,.ref 1933,.none,.ref 1934,.ref 1935,.ref 1936,.int 4699 0,.int 155 0,.str "/claim/cut.py" 4700]⟩,⟨[]⟩⟩
noncomputable def pO(w:sa):Jb:=⟨.none,a6,.fields ⟨[]⟩,⟨[]⟩⟩
noncomputable def jx(w:sa):Jb:=⟨.type "code",a6,.fields ⟨[.str "toints" 4702,.str "Buffer.toints" 4703,.str "/claim/cut.py" 4704,.int 158 0,.int 1 0,.int 0 0,.int 0 0,.int 3 0,.ref 1939,.bool a8,.int 181 0,.ref 1940,.none,.ref 1941,.ref 1942,.ref 1943,.int 4707 0,.int 158 0,.str "/claim/cut.py" 4708]⟩,⟨[]⟩⟩
noncomputable def oO(w:sa):Jb:=⟨.type "code",a6,.fields ⟨[.str "_law_LAYOUTS" 4734,.str "_law_LAYOUTS" 4735,.str "/claim/cut.py" 4736,.int 170 0,.int 0 0,.int 0 0,.int 0 0,.int 3 0,.ref 1967,.bool a8,.int 181 0,.ref 1968,.none,.ref 1969,.ref 1970,.ref 1971,.int 4737 0,.int 170 0,.str "/claim/cut.py" 4738]⟩,⟨[]⟩⟩
noncomputable def nO(w:sa):Jb:=⟨.none,a6,.fields ⟨[]⟩,⟨[]⟩⟩
noncomputable def jG(w:sa):Jb:=⟨.type "code",a6,.fields ⟨[.str "_law_mended" 4740,.str "_law_mended" 4741,.str "/claim/cut.py" 4742,.int 172 0,.int 3 0,.int 0 0,.int 0 0,.int 3 0,.ref 1974,.bool a8,.int 181 0,.ref 1975,.none,.none,.none,.ref 1976,.int 4743 0,.int 172 0,.str "/claim/cut.py" 4744]⟩,⟨[]⟩⟩
noncomputable def lO(w:sa):Jb:=⟨.type "code",a6,.fields ⟨[.str "law" 4746,.str "law" 4747,.str "/claim/cut.py" 4748,.int 250 0,.int 1 0,.int 0 0,.int 0 0,.int 3 0,.ref 1979,.bool a8,.int 181 0,.ref 1980,.none,.none,.none,.ref 1981,.int 4749 0,.int 250 0,.str "/claim/cut.py" 4750]⟩,⟨[]⟩⟩
noncomputable def SY(w:sa):Jb:=⟨.none,a6,.fields ⟨[]⟩,⟨[]⟩⟩
noncomputable def jX(S:T3)(w:sa):List (Nat×Jb):=[(2,JT w),(3,IT w),(4,kO w),(36,b8 w),(43,IW S Hb w),(59,Ro w),(60,Qo w),(123,SA S Hb w),(124,rx w),(126,RA S Hb w),(127,qx w),(129,QA S Hb w),(130,ox w),(134,Rl S Hb w),(135,ah w),(42,RY w)]
noncomputable def XD(w:sa):List (Nat×Jb):=jX (Qd w) w
noncomputable def iX(S:T3)(w:sa):List (Nat×Jb):=[(1868,PA w),(1869,hZ w),(1870,pG w),(1871,oG w),(1872,nG w),(1873,mG w),(1874,fZ w),(1875,eZ w),(1876,dZ w),(1877,cZ w),(1878,bZ w),(1879,aZ w),(1880,ZY w),(1881,YY w),(1882,XY w),(1883,WY w),(1884,VY w),(1885,UY w),(1888,jq w),(1890,Jn w),(1895,HI S Hb w),(1900,GI S Hb w),(1909,TY w),(1910,lG w),(1917,zw S Hb w),(1924,yw S Hb w),(1938,xw S Hb w),(1945,uw S Hb w),(1962,Th S Hb w),(1963,ud w),(1964,Fs w),(1973,EI S Hb w),(1978,DI S Hb w),(1892,vO w),(1894,Js w),(1899,uO w),(1916,tO w),(1923,rO w),(1937,qO w),(1940,pO w),(1944,jx w),(1972,oO w),(1975,nO w),(1977,jG w),(1983,CI S Hb w),(1980,SY w),(1982,lO w)]
noncomputable def CB(w:sa):List (Nat×Jb):=iX (Qd w) w
noncomputable def Zp(g:Jb)(w:sa):Xb:=⟨⟨[g,Ep,JT w,IT w,kO w]⟩,(vf w.params).life⟩
noncomputable def jj(w:sa):Xb:=Zp (((Qd w).t.get 0).getD Ep) w
def pW(S:T3)(p:Pa)(b a:T3->sa->List (Nat×Jb))(c:Wg->Xb)(t:Jb->sa->Xb)(w:sa):Prop:=
 ((b S w).map (λx=>S.t.get x.1),(a S w).map (λx=>S.u.get (x.1-1868)),((S.t.get 0).getD Ep).isFreed,(t ((S.t.get 0).getD Ep) w).bltView,(t ((S.t.get 0).getD Ep) w).isNs 0,
  (t ((S.t.get 0).getD Ep) w).accountedOkI (Ik p.main.body)&&staticsOk (Ik p.main.body) (c w.params) (t ((S.t.get 0).getD Ep) w)&&namesBound p (t ((S.t.get 0).getD Ep) w)&&laidKept (c w.params) (t ((S.t.get 0).getD Ep) w))=
 ((b S w).map (λx=>ac x.2),(a S w).map (λx=>ac x.2),be,bltViewBooted,a8,a8)
def ZM(p:Pa)(T:Wg->BT)(c a:Wb)(e d:T3->sa->List (Nat×Jb))(f:Wg->Xb)(t:Jb->sa->Xb)(w:sa)(b:Bool):Prop:=pW (gS p T c a (w.withFollow "special-get-raises" b)) p e d f t (w.withFollow "special-get-raises" b)
noncomputable def Qq:=ZM PP T0 Te er jX iX vf Zp
def ED(w:sa):Prop:=((XD w).all (λx=>!x.2.isFreed&&Ji x.1 139)&&(CB w).all (λx=>!x.2.isFreed&&Yg 1868 x.1))=a8
lay_quick Mine.ZM
theorem bY(w:sa):Qq w be:=by
 unfold Qq;rw[Fast.te4534339836146073256];unfold Fast.tw4534339836146073256 Fast.tw612012485498256704
 kernel_rfl
theorem aY(w:sa):Qq w a8:=by
 unfold Qq;rw[Fast.te4534339836146073256];unfold Fast.tw4534339836146073256 Fast.tw612012485498256704
 kernel_rfl
theorem XM(w:sa)(b:Bool):Qq w b:=by
 cases b
 ·exact bY w
 ·exact aY w
theorem Az(w:sa):ED w:=by
 unfold ED
 kernel_rfl
theorem Wv(k:Ba)(e:h.get? td=h'.get? td):jA h k=jA h' k:=by unfold jA;rw[e]
structure Oi(w:sa)(h:Xb):Prop where
 t:∀x∈XD w,h.get? x.1=ac x.2
 u:∀x∈CB w,h.get? x.1=ac x.2
 z:h.get? 0=(jj w).get? 0
 ecc:h.get? 139=ac (Va (EE w) 76)
 ec:∀x∈F1,h.get? x.1=ac x.2
theorem Sn(w:sa):((XD w).map (λx=>(Qd w).t.get x.1),(CB w).map (λx=>(Qd w).u.get (x.1-1868)),
  (((Qd w).t.get 0).getD Ep).isFreed,(jj w).bltView,(jj w).isNs 0,
  (jj w).accountedOkI (Ik PP.main.body)&&staticsOk (Ik PP.main.body) (vf w.params) (jj w)&&namesBound PP (jj w)&&laidKept (vf w.params) (jj w))=
 ((XD w).map (λx=>ac x.2),(CB w).map (λx=>ac x.2),be,bltViewBooted,a8,a8):=by
 have e:=XM w (w.params.followText aq);unfold Qq ZM pW at e;rw[Zb] at e;exact e
theorem aL(w:sa):(XD w).all (λx=>!x.2.isFreed&&Ji x.1 139)=a8:=(wa.mp (Az w)).1
theorem ZK(w:sa):(CB w).all (λx=>!x.2.isFreed&&Yg 1868 x.1)=a8:=(wa.mp (Az w)).2
theorem jY(g:Jb)(w:sa):(Zp g w).get? 0=alive g:=by
 obtain ⟨c,d,a,b⟩:=g;cases a <;> rfl
theorem iY(g:Jb)(w:sa):(Zp g w).get? 2=ac (JT w):=rfl
theorem hY(g:Jb)(w:sa):(Zp g w).get? 3=ac (IT w):=rfl
theorem U6(w:sa):(jj w).get? 0=alive (((Qd w).t.get 0).getD Ep):=jY _ w
theorem rW(w:sa):(jj w).get? 2=ac (JT w):=iY _ w
theorem qW(w:sa):(jj w).get? 3=ac (IT w):=hY _ w
theorem HR.G2(F:HR w h):Oi w h:=by
 have e:=Sn w;simp only[Ie] at e;obtain ⟨d,c,b,_⟩:=e;have d:=Jk.mp d;have c:=Jk.mp c;refine⟨λx a=>?_,λx a=>?_,?_,F.ecc,F.facts⟩
 ·have q:=Aa.mp (aL w) x a;simp only[Pd,Ge] at q;exact F.old _ _ (d x a) q.1 (Ws q.2)
 ·have q:=Aa.mp (ZK w) x a;simp only[Pd,Ge] at q;have:=F.own _ _ (c x a) q.1;rw[Sr 1868 x.1 (De q.2)] at this;exact this
 ·rw[U6,UE b];cases hz:(Qd w).t.get 0 with
  |none=>rw[hz] at b;cases b
  |some o=>
   rw[hz] at b;exact F.old 0 o hz b (by decide)
section
variable(F:Oi w h)
include F
theorem Oi.JT:h.get? 2=ac (JT w):=F.t (2,Mine.JT w) (.head _)
theorem Oi.IT:h.get? 3=ac (IT w):=F.t (3,Mine.IT w) (.tail _ (.head _))
theorem Oi.kO:h.get? 4=ac (kO w):=F.t (4,Mine.kO w) (.tail _ (.tail _ (.head _)))
theorem Oi.at2:h.get? Of=(jj w).get? Of:=by
 have e:Of=2:=rfl;rw[e,rW];exact F.JT
theorem Oi.i5:h.get? Jw=(jj w).get? Jw:=by
 have e:Jw=3:=rfl;rw[e,qW];exact F.IT
theorem Oi.at0:h.get? td=(jj w).get? td:=by
 have e:td=0:=rfl;rw[e];exact F.z
theorem Oi.static(k:Ba):a2T h k=a2T (jj w) k:=by unfold a2T;rw[F.at2]
theorem Oi.global(k:Ba):ij h k=ij (jj w) k:=by unfold ij;rw[F.i5]
theorem Oi.builtin(k:Ba):jA h k=jA (jj w) k:=Wv k F.at0
end
noncomputable abbrev LL:=PySem.Challenge.rw_im0110_01
theorem oT:PP.bare:=⟨rfl,rfl,rfl,rfl,rfl,by kernel_rfl⟩
theorem nT:opening PP=plainProg PP.main.scope.names:=by kernel_rfl
theorem WN(s:aa):fenceModules? PP s=ac s:=by kernel_rfl
theorem mT:opensWell PP=a8:=by kernel_rfl
theorem VN:frees LL.row.toRowW=a8:=by kernel_rfl
theorem tI:LL.row.toRowW.promised:=⟨[.list []],by kernel_rfl,by kernel_rfl⟩
theorem cR(P:Wg):ij (vf P) "__annotations__"=nj:=by kernel_rfl
theorem eI(g:Jb)(w:sa):ij (Zp g w) "__builtins__"=ac (.ref 4):=by kernel_rfl
theorem uz(g:Jb)(w:sa):ij (Zp g w) "law"=ac (.ref 1983):=by kernel_rfl
theorem Oi.ran(F:Oi w h):o4 h (Ik PP.main.body)/\staticsBehindTheTop (Ik PP.main.body) (vf w.params) h/\keysAreStrs h Jw/\builtinsAsBooted h /\
  builtinsGlobalAsBooted h/\(∀x v,ij h x=ac v->x∈startupNames\/x∈PP.boundNames)/\∀x∈laidNames,ij h x=ij (vf w.params) x:=by
 have e:=Sn w;simp only[Ie] at e;refine ue λhC=>?_;obtain ⟨_,_,_,eb,hb,c⟩:=e;refine hC ?_;simp only[Pd] at c;refine ue λhC=>?_;obtain ⟨⟨⟨j,i⟩,f⟩,g⟩:=c;refine hC ?_;refine⟨?_,λb=>?_,?_,λx a=>?_,⟨4,Mine.kO w,?_,F.kO,rfl,rfl⟩,λx v a=>?_,λx a=>?_⟩
 ·have A:=Heap.accountedI_of_ok j;unfold o4 at A ⊢
  simpa only [F.static] using A
 ·rw[F.static];exact statics_of_ok i b
 ·refine ue λhC=>?_;obtain ⟨o,es,n,e,d,k⟩:=Pin.keysAreStrs_of (wa.mp f).1;refine hC ?_;exact⟨o,es,n,F.i5.trans e,d,k⟩
 ·rw[F.builtin]
  exact(Pin.builtinOf_eq hb x).trans (DS hb eb x a)
 ·rw[F.global];exact eI _ w
 ·rw[F.global] at a;exact names_of_bound f x v a
 ·rw[F.global];exact laid_of_kept g x a
theorem Ez(e:h.isNs a=a8):∃o,h.get? a=ac o:=by
 unfold a3f at e;cases q:h.get? a with
 |none=>rw[q] at e;cases e
 |some o=>exact⟨o,rfl⟩
theorem Cu(w:sa):(jj w).isNs 0=a8:=by
 have e:=Sn w;simp only[Ie] at e;exact e.2.2.2.2.1
theorem Tq(w:sa):(jj w).isNs Kd=a8:=by
 have e:=Sn w;simp only[Ie] at e;have a:=e.2.2.2.2.2;simp only[Pd] at a
 exact(wa.mp a.1.2).1
theorem XS{os:vj}(z:(⟨vf w.params,#[],Lw,181,os⟩:aa).asleep):
  ∃c:aa,TopRan PP w ⟨vf w.params,#[],Lw,181,os⟩ c/\c.heap.life=(vf w.params).life/\c.gens=#[]/\Oi w c.heap:=by
 refine ue λhC=>?_;obtain ⟨h,t,g,f,F⟩:=YM w #[] Lw os;refine hC ?_;have k:iA Ra PP w 11 nj 1 ⟨h,#[],Lw,4752,os⟩ t=ac ⟨h,#[],Lw,4752,os⟩:=by
  unfold iA;rw[f]
 obtain ⟨N,e⟩:=g 1 _ k;rw[<- HJ] at e;refine ue λhC=>?_;obtain ⟨a,l,o,fr⟩:=topRun_spec N _ _ _ z e;have d:=F.G2;obtain ⟨r1,r2,r3,r4,r5,j,i⟩:=d.ran;refine hC ?_;refine⟨_,⟨a,l,LR o,λb ob hb hn=>fr b ob (Ha hb) (λq=>hn (.inl q)) (λq=>hn (.inr (.inl q))) (λq=>hn (.inr (.inr ((cR w.params).trans q)))) hb,r1,r2,r3,r4,r5,?_,j,i⟩,l,rfl,d⟩
 intro g hg;simp at hg
theorem RM{P:Wg}{k:Int}(x:Well P h v (.int k)):∃t,v=.int k t:=by cases x;exact⟨_,rfl⟩
theorem UJ{P:Wg}{xs:List a3a}(x:Well P h v (.list xs)):∃a vs,v=.ref a/\h.get? a=ac {cls:=.type "list",data:=.seq vs.toArray}/\C4 P h vs xs:=by
 cases x with|list a b=>exact⟨_,_,rfl,a,b⟩
theorem QC{P:Wg}(x:C4 P h vs []):vs=[]:=by cases x;rfl
theorem Tt{P:Wg}{h:Xb}{R:WRecords}:∀{xs:List a3a} {vs:List Value},C4 P h vs xs->(xs.all λx=>WShape.has R x .int)=a8->∃ns:List Int,xs=ns.map sC/\IntsAre vs ns
 |[],_,x,_=>⟨[],rfl,QC x▸.nil⟩
 |d::xs,_,x,f=>
  have q:=wa.mp f
  (hasW_int q.1).elim λk e=>(o5 x).elim λv a=>a.elim λc a=>(RM (e▸a.2.1)).elim λt g=>
   (Tt a.2.2 q.2).elim λns b=>⟨k::ns,e▸b.1▸rfl,by rw[a.1,g];exact .cons k t b.2⟩
theorem CP{P:Wg}{R:WRecords}{args:List a3a}(g:WShape.hasAll R args [.list .int]=a8)(x:C4 P h vs args):
  ∃l ws ns,vs=[.ref l]/\args=[.list (ns.map sC)]/\h.get? l=ac {cls:=.type "list",data:=.seq ws.toArray}/\IntsAre ws ns:=
 (hasAllW_cons g).elim λd q=>q.elim λi q=>(hasW_list q.2.1).elim λxs e=>by
  obtain rfl:=q.1;obtain rfl:=hasAllW_nil q.2.2;obtain rfl:=e.1
  exact(o5 x).elim λv b=>b.elim λf b=>(UJ b.2.1).elim λl a=>a.elim λws a=>
   (Tt a.2.2 ((hasItems_all _ _).symm.trans e.2)).elim λns c=>⟨l,ws,ns,b.1.trans (a.1▸QC b.2.2▸rfl),c.1▸rfl,a.2.1,c.2⟩
theorem Oi.keep(F:Oi w h)(k:∀b o,h.get? b=ac o->h'.get? b=ac o):Oi w h':=
 ⟨λx a=>k _ _ (F.t x a),λx a=>k _ _ (F.u x a),(Ez (Cu w)).elim λo c=>(k _ _ (F.z.trans c)).trans c.symm,k _ _ F.ecc,λx a=>k _ _ (F.ec x a)⟩
noncomputable def Zf(st:Ya):Ar×List Ya×He:=match st with
 |.FunctionDef _ args body _ _ _ scope _ _ _=>(args,body,scope)
 |_=>(⟨[],[],a6,[],[],a6,[]⟩,[],default)
theorem AU:PP.theDef "law"=ac ((Zf (Wi 23)).1,(Zf (Wi 23)).2.1,(Zf (Wi 23)).2.2):=by kernel_rfl
theorem yU(w:sa):(ix w).data=.func (vC "law" "law" (Zf (Wi 23)).1 (.stmts (Zf (Wi 23)).2.1) (Zf (Wi 23)).2.2 3 [] .none .none .none (.str "law_im0110_01" 4732) a6 (.ref 1982) .none 0):=by kernel_rfl
theorem Bz:(Zf (Wi 23)).1.defaults=[]/\kwWritten? (Zf (Wi 23)).1.kwonlyargs (Zf (Wi 23)).1.kw_defaults=ac []:=⟨by kernel_rfl,by kernel_rfl⟩
theorem za{α:Type}{l:List α}{x:α}(i:Nat)(h:l[i]?=ac x):x∈l:=Cb h
theorem lT{xs:List a3a}(h:LL.row.toRowW.pre.holds [] {args:=[.list xs]}=a8):xs.length<=63:=by
 refine ye λq=>?_;have e:LL.row.toRowW.pre=.and (.not (.lt (.lit (.int 63)) (.len (.arg 0)))) (.lit (.bool a8)):=rfl;rw[e] at h;have a:(63:Int) < (xs.length:Nat):=by omega
 have hl:less? (.int 63) (.int (xs.length:Nat))=ac (decide ((63:Int) < (xs.length:Nat))):=by kernel_rfl
 rw[decide_eq_true a] at hl;simp[WTm.holds,WTm.value,hl] at h
theorem Ax(e:h.get? a=h'.get? a):h.isNs a=h'.isNs a:=by unfold a3f;rw[e]
theorem mP(d:a3a):LL.row.toRowW.claim.post [d] (.bool a8) [d]=a8:=by kernel_rfl
theorem Jy{t:xc Fin}(c:s.asleep)
  (h:zd (ja π w) vM t (λd s'=>∃f,d=.done f/\(R (.ok f) s'/\EC s'.gens=be)) s):
  ∃n r s' Sg,runN (Vb Kj) π w n s ⟨t,.builtin "claim.caller" {},default,[]⟩=.halted (TL r) s' /\
   schedN (Vb Kj) π w n (.single s ⟨t,.builtin "claim.caller" {},default,[]⟩)=.halted (TL r) s'/\s'.forget=Sg.forget/\R r Sg:=by
 have h1:Sem.wp (ja π w) ⟨.builtin "claim.caller" {},a6,a6,[],a6⟩ t
   (Sem.finPost (ja π w) ⟨.builtin "claim.caller" {},a6,a6,[],a6⟩ λr s'=>R r s'/\EC s'.gens=be)
   (λe Z s'=>R (.error e) s'/\EC s'.gens=be) default s:=by
  refine Bs _ _ t (λd l s' h'=>?_) (λZ Z Z x=>x.elim) _ _ (h _ default caller_in ⟨by decide +kernel,λx i=>(nomatch i)⟩);refine ue λhC=>?_;obtain ⟨f,rfl,hf⟩:=h';refine hC ?_;exact hf
 refine ue λhC=>?_;obtain ⟨n,r,b,a,j,hn,g,k⟩:=wp_halts_full (M:=ja π w) (R:=R) c h1;refine hC ?_;exact⟨n,r,a,b,hn,j,g,k⟩
theorem tH{c:ClaimW}{j:List Value->xc Fin}{free:ma->Prop}{gens:Prop}{g:Xb->Prop}(hz:s.asleep)(n:s.gens=#[])
  (m:∀args,c.pre args=a8->WData.layableAll args=a8->
   ∀ord:List fb->List fb,(∀l,(ord l).Perm l)->
   ∃vs a,layAllW c.records (classAt s.heap) w.params ord args s=ac (vs,a) /\
    zd (ja c.prog w) vM (j vs) (λB s'=>∃f,B=.done f/\(c.Ends s args vs a (.ok f) s'/\s'.os=s.os/\AllBare s'.gens/\g s'.heap)) a):
  c.CallFrom (λvs=>⟨j vs,.builtin "claim.caller" {},default,[]⟩) w free gens g s:=by
 intro args t z ord u;refine ue λhC=>?_
 refine(m args t z ord u).elim λvs q=>q.elim λa q=>?_
 have A:=layAllW_rest _ _ _ q.1;obtain ⟨k,r,s',Sg,p,h,C,D⟩:=Jy (R:=λr s'=>c.Ends s args vs a r s'/\s'.os=s.os/\g s'.heap) (Jp A.2.2.2 hz)
  (Od q.2 λB s' q=>q.imp λf q=>⟨q.1,⟨q.2.1,q.2.2.1,q.2.2.2.2⟩,leftWithCleanup_false_of_bare q.2.2.2.1⟩)
 have e:=Shared.forget_eq C;refine hC ⟨vs,a,q.1,k,_,s',h,(D.1.congr e.1).imp (Rj λv=>And.imp (λ(q:r=.ok (.ret v))=>congrArg TL q) <| Wh <| Wh <| Wh <| S5 λd b o y Z=>d b o y)
  (Rj λe=>Rj λob=>Rj λcls=>And.imp (λ(q:r=.error (.ref e))=>congrArg TL q) <| Wh <| Wh <| Wh <| Wh λd b o y Z=>d b o y),
  (λZ i x E=>nomatch (congrArg (·[i]?) n).symm.trans E),e.1▸D.2.2,congrArg Life.seen ((runN_life _ _ _ p).trans A.2.2.2),LR (e.2.2.2.1.trans D.2.1)⟩
theorem Yy(t:∀(w:sa) (s:aa) (l:ma) (vs:List Value) (ns:List Int),Oi w s.heap->s.gens=#[]->s.heap.get? l=ac {cls:=.type "list",data:=.seq vs.toArray}->IntsAre vs ns->ns.length<=63->
  zd (ja PP w) vM (call (.ref 1983) [.ref l]) (λv s'=>v=.bool a8/\OldK s.heap s'.heap/\s'.os=s.os/\AllBare s'.gens) s):LL.Holds:=by
 refine holds_law (by rw[Fast.te9446332074065402090];kernel_rfl) λy=>?_;refine⟨y,tI,⟨oT,mT,rfl⟩,J5 tI,λw=>?_⟩
 have hb:=boot_open nT (by rfl:Yg 600 600=a8) WN w;rw[<- HJ] at hb;refine ue λhC=>?_;obtain ⟨⟨hp,gs,dr,tk,os⟩,h1,h2⟩:=Qg.mp hb;obtain ⟨s,h4,Y⟩:=nA.mp h1;refine hC ?_;have A:=a3m h4;have E:=Y;refine⟨⟨s,A⟩,λs' M=>?_⟩
 obtain rfl:s'=s:=a3l M A;have z:(⟨hp,gs,dr,tk,os⟩:aa).asleep:=Jp (fence_lifeW Y) A.life;simp only[Ie] at h2;refine ue λhC=>?_;obtain ⟨rfl,rfl,rfl,rfl⟩:=h2;obtain ⟨d,T,hl,hg,F⟩:=XS (w:=w) (os:=os) z;refine hC ?_;have p:d.asleep:=Jp hl z;refine⟨_,Y,rfl,d,T,?_,λx I=>(nomatch I),λx I=>(nomatch I),?_⟩
 ·intro n hn;have hn:n∈(["law"]:List Ba):=hn;obtain rfl:=Ca.mp hn;have J:=F.u (1983,ix w) (za 44 rfl);exact⟨1983,ix w,_,_,_,_,(F.global _).trans (uz _ w),J,yU w,AU,rfl,rfl,rfl,rfl,rfl,rfl,rfl,rfl,.inl ⟨Bz.1,rfl⟩,[],Bz.2,.inl ⟨rfl,rfl⟩⟩
 ·refine tH (c:=LL.row.toRowW.claim) p hg λargs j D ord k=>?_;refine ue λhC=>?_;obtain ⟨⟨vs,b⟩,f⟩:=Ud.mp (layAllW_isSome (R:=[]) (cl:=classAt d.heap) (P:=w.params) (ord:=ord) (λc hc=>(nomatch hc)) args LL.row.toRowW.args d (pre_splitW (r:=LL.row.toRowW) j).1);have keeps:=layAllW_keeps _ _ _ f;have o:=layAllW_rest _ _ _ f;obtain ⟨as,N,hin,B⟩:=reads_layAllW k _ _ _ f D b.heap (λZ Z e=>e);have L:Laid [] w d b args vs as:=⟨⟨ord,k,f⟩,N,hin,B,keeps,o.1.trans hg,o.2.2.1⟩;have i:=pre_splitW (r:=LL.row.toRowW) j;obtain ⟨l,ws,ns,rfl,rfl,hl,hI⟩:=CP (R:=[]) i.1 L.well;have C:ns.length<=63:=ka (Yc (cb sC).symm) (lT i.2);have h:Oi w b.heap:=F.keep keeps;have O:b.heap.Ns Kd (b.heap.nsMap Kd):=ip ((Ax (a:=Kd) h.i5).trans (Tq w));have hf:b.heap.nsMap Kd "law"=ac (.ref 1983):=(VV ((Ax (a:=Kd) h.i5).trans (Tq w)) _).symm.trans ((h.global _).trans (uz _ w));obtain ⟨m,J,V,Q,hm⟩:=frees_parts VN;refine hC ?_;have hi:=ident_freeW J V Q;have main:=t w b l ws ns h (o.1.trans hg) hl hI C;refine⟨_,b,f,?_⟩
  refine Nj (jS O ?_);rw[show b.heap.nsMap Kd LL.row.toRowW.name=ac (.ref 1983) from hf];refine om (Od main (λv s' g=>Qb ?_));refine ue λhC=>?_;obtain ⟨rfl,g1,g2,g3⟩:=g;refine hC ?_;have G:GoodWG LL.row.toRowW.claim (classAt d.heap) (ExcName.means d.heap) [.list (ns.map sC)] b (.ok (.ret (.bool a8))) s':=
   ⟨.inl ⟨_,.bool a8,[],rfl,λZ=>rfl,.bool _,mP _,λZ=>⟨.nil,λa V=>(nomatch V)⟩⟩,g1,g2,g3⟩
  have H:=G.laid (c:=LL.row.toRowW.claim) m rfl hi L;exact⟨_,rfl,H.1,H.2.1,H.2.2,λq=>(nomatch q)⟩
noncomputable def XI:List Nat:=[1892,1940,1975,1980]
structure Fk(w:sa)(h:Xb):Prop where
 t:∀x∈XD w,h.get? x.1=ac x.2
 u:∀x∈CB w,XI.contains x.1=be->h.get? x.1=ac x.2
 z:h.get? 0=(jj w).get? 0
 ecc:h.get? 139=ac (Va (EE w) 76)
 ec:∀x∈F1,h.get? x.1=ac x.2
theorem Fk.of(F:Oi w h):Fk w h:=⟨F.t,λx a Z=>F.u x a,F.z,F.ecc,F.ec⟩
theorem Bu(w:sa):∃o,(jj w).get? 0=ac o:=Ez (Cu w)
theorem Fk.at0(F:Fk w h):h.get? td=(jj w).get? td:=by
 have e:td=0:=rfl;rw[e];exact F.z
theorem Fk.at2(F:Fk w h):h.get? Of=(jj w).get? Of:=by
 have e:Of=2:=rfl;rw[e,rW];exact F.t (2,JT w) (.head _)
theorem Fk.i5(F:Fk w h):h.get? Jw=(jj w).get? Jw:=by
 have e:Jw=3:=rfl;rw[e,qW];exact F.t (3,IT w) (.tail _ (.head _))
theorem Fk.keeps(F:Fk w h)(k:∀b o,h.get? b=ac o->h'.get? b=ac o):Fk w h':=
 ⟨λx a=>k _ _ (F.t x a),λx a q=>k _ _ (F.u x a q),by
  refine(Bu w).elim λo c=>?_
  have e:=F.z;rw[c] at e ⊢;exact k _ _ e,k _ _ F.ecc,λx a=>k _ _ (F.ec x a)⟩
inductive Cf (α:Type) where
 |top (t:xc α)
 |sub (t:xc Fin) (ks:List (Yd->xc Fin)) (K:Yd->xc α)
noncomputable def one{σ β:Type}(O:nF σ)(p:Pa)(w:sa)(st:σ)(k:Nat)(t:xc β):Option (σ×Nat×xc β):=match t with
  |.load a _ f=>(O.ld st a).bind λ|(o,c)=>ac (c,k,f o)
  |.update a _ g f=>(O.up st a g).bind λx=>ac (x,k,f ())
  |.alloc o f=>(O.al st o).bind λ|(a,c)=>ac (c,k,f a)
  |.fresh f=>ac (st,Bp k,f k)
  |.ask f=>ac (st,k,f ⟨p,w.params⟩)
  |.rule _ f=>ac (st,k,f ())
  |.at _ f=>ac (st,k,f ())
  |.point _ f=>ac (st,k,f ())
  |.handled b f=>match b with
   |false=>ac (st,k,f a6)
   |true=>a6
  |_=>a6
noncomputable def sH{β:Type}(t:xc β):Option (Hh×(Yd->xc β)):=match t with
 |.call c h _ _ f=>match h with
  |none=>ac (c,f)
  |some _=>a6
 |_=>a6
noncomputable def yW(t:xc Fin):Option Yd:=match t with
 |.pure x=>match x with
  |.done f=>ac (.ok f)
  |.again _=>a6
 |.raise e=>ac (.error e)
 |_=>a6
noncomputable def a2b(t:xc Fin):Option Hh:=match t with
 |.pure x=>match x with
  |.done _=>a6
  |.again c=>ac c
 |_=>a6
noncomputable def P7{α:Type}(ks:List (Yd->xc Fin))(K:Yd->xc α)(r:Yd):Cf α:=match ks with
 |y::a=>.sub (y r) a K
 |[]=>.top (K r)
noncomputable def nx{σ α:Type}(O:nF σ)(d:Hh->xc Fin)(p:Pa)(w:sa)(st:σ)(k:Nat)(c:Cf α):Option (σ×Nat×Cf α):=match c with
 |.top t=>(sH t).elim ((one O p w st k t).bind λ|(a,b,c)=>ac (a,b,.top c)) λ|(c,f)=>ac (st,k,.sub (d c) [] f)
 |.sub t ks K=>(yW t).elim ((a2b t).elim ((sH t).elim ((one O p w st k t).bind λ|(a,b,c)=>ac (a,b,.sub c ks K)) λ|(c,f)=>ac (st,k,.sub (d c) (f::ks) K))
   λc=>bif c.quiet then ac (st,k,.sub (d c) ks K) else a6) λr=>ac (st,k,P7 ks K r)
noncomputable def mn{σ α:Type}(O:nF σ)(d:Hh->xc Fin)(p:Pa)(w:sa):Nat->σ->Nat->Cf α->Option (σ×Nat×Cf α)
 |0,st,k,c=>ac (st,k,c)
 |n+1,st,k,c=>(nx O d p w st k c).elim (ac (st,k,c)) λ|(a,b,c)=>mn O d p w n a b c
section
variable{α:Type}
def Zm{α:Type}(π:Pa)(w:sa)(t:xc α)(Q:α->aa->Prop)(E:Value->aa->Prop)(s:aa):Prop:=∀A:Wc,A.handled=a6->wpAny (ja π w) A t Q E s
def OB(π:Pa)(w:sa)(c:Hh)(R:Yd->aa->Prop)(s:aa):Prop:=∀A:Wc,A.handled=a6->codeAny (ja π w) A c R s
def M1(π:Pa)(w:sa)(R:Yd->aa->Prop)(t:xc Fin)(s:aa):Prop:=
 Zm π w t (λa s'=>match a with|.done f=>R (.ok f) s'|.again c'=>c'.quiet=a8/\OB π w c' R s') (λe s'=>R (.error e) s') s
noncomputable def tQ(π:Pa)(w:sa):List (Yd->xc Fin)->(Yd->aa->Prop)->Yd->aa->Prop
 |[],R=>R
 |y::ks,R=>λr s'=>M1 π w (tQ π w ks R) (y r) s'
def FR(π:Pa)(w:sa)(Q:α->aa->Prop)(E:Value->aa->Prop)(c:Cf α)(s:aa):Prop:=match c with
 |.top t=>Zm π w t Q E s
 |.sub t ks K=>M1 π w (tQ π w ks λr s'=>Zm π w (K r) Q E s') t s
theorem Xo{c:Hh}(h:M1 π w R (Vb Kj c) s):OB π w c R s:=λA b=>
 codeAny_of_tree (Ub (h (A.under c) b) (λa s' q=>by
  cases a with
  |done f=>exact q
  |again c'=>exact⟨q.1,q.2 A b⟩) λZ Z q=>q)
theorem HF{q:Option Value}{k:Jb->xc α}{Q:α->aa->Prop}(b:s.heap.get? a=ac o)(h:Zm π w (k o) Q E s):Zm π w (.load a q k) Q E s:=
 λA c=>Kb (m:=loadPart a q) (f:=k) (wpAny_loadPart b (h A c))
theorem AA{q:Option Value}{f:Jb->Jb}{k:Unit->xc α}{Q:α->aa->Prop}(b:(s.heap.get? a).isSome=a8)(h:Zm π w (k ()) Q E {s with heap:=s.heap.update a f}):Zm π w (.update a q f k) Q E s:=by
 refine(Ud.mp b).elim λo e=>?_
 exact λA c=>Kb (m:=updatePart a q f) (f:=k) (wpAny_updatePart e (h A c))
theorem OC{k:ma->xc α}{Q:α->aa->Prop}(h:Zm π w (k s.heap.objs.size) Q E {s with heap:=s.heap.push o}):Zm π w (.alloc o k) Q E s:=
 λA a=>Kb (m:=alloc o) (f:=k) (wpAny_alloc (h A a))
theorem Xw{c:Hh}{g:Bool}{l:List Value}{k:Yd->xc α}{Q:α->aa->Prop}(h:OB π w c (λr s'=>Zm π w (k r) Q E s') s):Zm π w (.call c a6 g l k) Q E s:=
 λA a=>PySem.W.X.x_call (codeAny_mono (h (A.mark a6) a) λr s' q=>q A a) (by intro x;exact nomatch x)
variable{σ:Type}{O:nF σ}{good:σ->Prop}{R:σ->Xb->Prop}
def uX{τ:Type}(R:σ->Xb->Prop)(a:τ->aa->Prop)(gs:Array Oe)(d:Pn)(os:vj)(x:σ×Nat×τ):Prop:=∀h,R x.1 h->a x.2.2 ⟨h,gs,d,x.2.1,os⟩
def Xs{τ:Type}(good:σ->Prop)(R:σ->Xb->Prop)(a:τ->aa->Prop)(gs:Array Oe)(d:Pn)(os:vj)(x y:σ×Nat×τ):Prop:=
 (good y.1->good x.1)/\(good y.1->uX R a gs d os y->uX R a gs d os x)
section
variable{Q:α->aa->Prop}{d:Pn}{os:vj}{st:σ}
theorem Xs.Pg{τ:Type}{a:τ->aa->Prop}{x y:σ×Nat×τ}(e:x.1=y.1)(h:∀hp,a y.2.2 ⟨hp,gs,d,y.2.1,os⟩->a x.2.2 ⟨hp,gs,d,x.2.1,os⟩):OK (ac y) (Xs good R a gs d os x):=
 OK.some ⟨e▸id,λZ z hp r=>h hp (z hp (e▸r))⟩
theorem iO(H:Lm O good R){t:xc α}:OK (one O π w st k t) (Xs good R (λt=>Zm π w t Q E) gs d os (st,k,t)):=by
 cases t with
 |load a q f=>exact OK.bind λx e=>OK.some ⟨(H.ld _ _ x e).1,λg z h r=>((H.ld _ _ x e).2 h g r).elim λq r=>HF q (z h r)⟩
 |update a q f g=>exact OK.bind λx e=>OK.some ⟨(H.up _ _ _ x e).1,λg z h r=>((H.up _ _ _ x e).2 h g r).elim λq r=>AA q (z _ r)⟩
 |alloc o f=>exact OK.bind λx e=>OK.some ⟨(H.al _ _ x e).1,λg z h r=>have q:=(H.al _ _ x e).2 h g r;OC (q.1▸z _ q.2)⟩
 |fresh f=>exact Xs.Pg rfl λZ z A b=>PySem.W.X.x_fresh (z A b)
 |ask f=>exact Xs.Pg rfl λZ z A b=>PySem.W.X.x_ask (z A b)
 |rule t f=>exact Xs.Pg rfl λZ z A b=>PySem.W.X.x_rule (z A b)
 |«at» q f=>exact Xs.Pg rfl λZ z A b=>PySem.W.X.x_at (z A b)
 |point l f=>exact Xs.Pg rfl λZ z A b=>PySem.W.X.x_point (z A b)
 |handled own f=>cases own with
  |false=>exact Xs.Pg rfl λZ z A b=>PySem.W.X.x_handled (by rw[b];exact z A b)
  |true=>exact OK.none
 |_=>exact OK.none
theorem Xz{t:xc α}:OK (sH t) λx=>∃g l,t=.call x.1 a6 g l x.2:=by
 cases t with
 |call c h g l f=>cases h with
  |none=>exact OK.some ⟨g,l,rfl⟩
  |some=>exact OK.none
 |_=>exact OK.none
theorem KN{t:xc Fin}{R:Yd->aa->Prop}:OK (yW t) λr=>R r s->M1 π w R t s:=by
 cases t with
 |pure x=>cases x with
  |done f=>exact OK.some λz A Z=>la z
  |again c=>exact OK.none
 |raise e=>exact OK.some λz A Z=>iS z
 |_=>exact OK.none
theorem MV{t:xc Fin}{R:Yd->aa->Prop}:OK (a2b t) λc=>c.quiet=a8->M1 π w R (Vb Kj c) s->M1 π w R t s:=by
 cases t with
 |pure x=>cases x with
  |done f=>exact OK.none
  |again c=>exact OK.some λa z A Z=>la ⟨a,Xo z⟩
 |_=>exact OK.none
theorem qT{ks:List (Yd->xc Fin)}{K:Yd->xc α}{r:Yd}(z:FR π w Q E (P7 ks K r) s):tQ π w ks (λr s'=>Zm π w (K r) Q E s') r s:=by
 cases ks <;> exact z
theorem j8(H:Lm O good R){c:Cf α}:OK (nx O (Vb Kj) π w st k c) (Xs good R (FR π w Q E) gs d os (st,k,c)):=by
 cases c with
 |top t=>exact OK.elim (λx e=>(Xz x e).elim λg q=>q.elim λl q=>Xs.Pg rfl λZ z=>q▸Xw (Xo z)) (OK.bind λx e=>OK.some (iO H x e))
 |sub t ks K=>
  exact OK.elim (λr e=>Xs.Pg rfl λZ z=>KN r e (qT z)) (OK.elim (λc e=>OK.bif λa=>Xs.Pg rfl λZ z=>MV c e a z)
   (OK.elim (λx e=>(Xz x e).elim λg q=>q.elim λl q=>Xs.Pg rfl λZ z=>q▸Xw (Xo z)) (OK.bind λx e=>OK.some (iO H x e))))
theorem GN(H:Lm O good R):∀{n:Nat} {st:σ} {k:Nat} {c:Cf α},OK (mn O (Vb Kj) π w n st k c) (Xs good R (FR π w Q E) gs d os (st,k,c))
 |0,_,_,_=>OK.some ⟨id,λZ=>id⟩
 |n+1,st,k,c=>OK.elim (λx e y f=>have a:=j8 H x e;have b:=GN H (n:=n) y f;⟨λg=>a.1 (b.1 g),λg z=>a.2 (b.1 g) (b.2 g z)⟩) (OK.some ⟨id,λZ=>id⟩)
theorem eK(H:Lm O good R){st a:σ}{k':Nat}{c c':Cf α}
  (e:mn O (Vb Ra) π w n st k c=ac (a,k',c')) (g:good a) (r:R st h) (z:∀h',R a h'->FR π w Q E c' ⟨h',gs,d,k',os⟩):FR π w Q E c ⟨h,gs,d,k,os⟩:=by
 rw[<- HJ] at e
 exact(GN H _ e).2 g z h r
end
end
inductive Hn where
 |k (i:Nat)
 |n (i:Nat)
structure T5 where
 fz:Bool
 kn:List (ma×Jb)
 m:Nat
 nw:List Jb
 hints:List Hn
 obl:List (ma×ma)
noncomputable def ldk(s:T5)(a:ma)(i:Nat)(c:List Hn):Option (Jb×T5):=s.kn[i]?.bind λ|(b,o)=>ac (o,{s with hints:=c,obl:=(a,b)::s.obl})
noncomputable def ldn(s:T5)(a:ma)(i:Nat)(b:List Hn):Option (Jb×T5):=(gv s.nw[i]?).bind λo=>ac (o,{s with hints:=b,obl:=(a,s.m+i)::s.obl})
noncomputable def ld5(s:T5)(a:ma):Option (Jb×T5):=match s.hints with
 |[]=>a6
 |x::b=>(match x with
  |.k i=>ldk s a i b
  |.n i=>ldn s a i b)
noncomputable def upk(s:T5)(a:ma)(f:Jb->Jb)(i:Nat)(c:List Hn):Option T5:=bif s.fz then a6 else s.kn[i]?.bind λ|(b,o)=>(lv (f o)).bind λo=>ac {s with kn:=s.kn.set i (b,o),hints:=c,obl:=(a,b)::s.obl}
noncomputable def upn(s:T5)(a:ma)(f:Jb->Jb)(i:Nat)(b:List Hn):Option T5:=(gv s.nw[i]?).bind λo=>(lv (f o)).bind λo=>ac {s with nw:=s.nw.set i o,hints:=b,obl:=(a,s.m+i)::s.obl}
noncomputable def jM(s:T5)(a:ma)(f:Jb->Jb):Option T5:=match s.hints with
 |[]=>a6
 |x::b=>(match x with
  |.k i=>upk s a f i b
  |.n i=>upn s a f i b)
noncomputable def al5(s:T5)(o:Jb):Option (ma×T5):=ac (s.m+s.nw.length,{s with nw:=s.nw++[o]})
noncomputable def Rh:nF T5:=⟨ld5,jM,al5⟩
def aQ(s:T5):Prop:=∀p∈s.obl,p.1=p.2
structure JH(vk:Xb)(s:T5)(h:Xb):Prop where
 size:h.objs.size=s.m+s.nw.length
 kn:∀(i:Nat) a o,s.kn[i]?=ac (a,o)->h.get? a=ac o/\a < s.m
 nd:s.fz=be->∀(i j:Nat) a o o',s.kn[i]?=ac (a,o)->s.kn[j]?=ac (a,o')->i=j
 nw:∀(i:Nat) o,s.nw[i]?=ac o->o.isFreed=be->h.get? (s.m+i)=ac o
 rest:∀b o,(∀(i:Nat) a o,s.kn[i]?=ac (a,o)->a≠b)->vk.get? b=ac o->h.get? b=ac o/\b < s.m
theorem Iu(a m i:Nat)(h:a < m):a≠m+i:=by lia
theorem HH(m i j:Nat)(h:i≠j):m+i≠m+j:=by lia
theorem a3y{vk:Xb}{s:T5}(r:JH vk s h){f:Jb->Jb}{z:List Hn}{ob:List (ma×ma)}(A:s.fz=be)(h1:s.kn[i]?=ac (a,o))(q:(f o).isFreed=be):
  JH vk {s with kn:=s.kn.set i (a,f o),hints:=z,obl:=ob} (h.update a f):=
 have u:=r.kn _ _ _ h1;have l:=r.nd A;have g:∀{j:Nat} {b o'},(s.kn.set i (a,f o))[j]?=ac (b,o')->∃o',s.kn[j]?=ac (b,o'):=λd=>(qq h1 d).elim (λq=>⟨o,((congrArg (s.kn[·]?) q.1).trans h1).trans (congrArg (λc=>ac (c,o)) (congrArg gp q.2).symm)⟩) λq=>⟨_,q.2⟩;have hi:=(xb.mp h1).1
 ⟨El.trans r.size,λj b o' d=>(qq h1 d).elim (λw=>have p:=Ui w.2;⟨En u.1 (p.2.symm▸q) (.inl p),p.1.symm▸u.2⟩)
   λq=>(r.kn _ _ _ q.2).imp_left (Ia h f λe=>q.1 (l _ _ _ _ _ (e▸q.2) h1)).trans,
  λZ j k b o1 v d hk=>(g d).elim λZ x=>(g hk).elim λZ y=>l _ _ _ _ _ x y,
  λj o' d hf=>(Ia h f (Iu a s.m j u.2)).trans (r.nw _ _ d hf),
  λb o' hb e=>have n:a≠b:=hb i a (f o) (Lp hi)
   (r.rest b o' (λj c v d q=>(YE j i).byCases (λt=>n ((congrArg gp (xa (h1.symm.trans ((congrArg (s.kn[·]?) t).symm.trans d)))).trans q)) λt=>hb j c v ((Er (qb t)).trans d) q) e).imp_left (Ia h f n).trans⟩
theorem a3x{vk:Xb}{s:T5}(r:JH vk s h){f:Jb->Jb}{d:List Hn}{ob:List (ma×ma)}(h1:s.nw[i]?=ac o)(c:h.get? (s.m+i)=ac o):
  JH vk {s with nw:=s.nw.set i (f o),hints:=d,obl:=ob} (h.update (s.m+i) f):=
 ⟨El.trans (r.size.trans (congrArg (s.m+·) ag.symm)),λj b o' a=>have q:=r.kn _ _ _ a;⟨(Ia h f (qb (Iu b s.m i q.2))).trans q.1,q.2⟩,r.nd,
  λj o' a hf=>(qq h1 a).elim (λq=>En c hf (.inl ⟨congrArg (s.m+·) q.1,q.2⟩)) λq=>En c hf (.inr ⟨HH s.m j i q.1,r.nw _ _ q.2 hf⟩),
  λb o' hb e=>have q:=r.rest b o' hb e;⟨(Ia h f (qb (Iu b s.m i q.2))).trans q.1,q.2⟩⟩
theorem xT(vk:Xb):Lm Rh aQ (JH vk) where
 ld s a:=by
  obtain ⟨fz,kn,m,nw,hints,obl⟩:=s;cases hints with
  |nil=>exact OK.none
  |cons x t=>cases x with
   |k i=>exact OK.bind λx e=>OK.some ⟨λg p hp=>g p (.tail _ hp),λh g r=>have d:a=x.1:=g (a,x.1) (.head _);⟨(congrArg h.get? d).trans (r.kn _ x.1 x.2 e).1,r.size,r.kn,r.nd,r.nw,r.rest⟩⟩
   |n i=>exact OK.get λo e q=>OK.some ⟨λg p hp=>g p (.tail _ hp),λh g r=>have d:a=m+i:=g (a,m+i) (.head _);⟨(congrArg h.get? d).trans (r.nw _ _ e q),r.size,r.kn,r.nd,r.nw,r.rest⟩⟩
 up s a f:=by
  obtain ⟨fz,kn,m,nw,hints,obl⟩:=s;cases hints with
  |nil=>exact OK.none
  |cons x t=>cases x with
   |k i=>cases fz with
    |true=>exact OK.none
    |false=>exact OK.bind λx e=>OK.live λq=>OK.some ⟨λg p hp=>g p (.tail _ hp),λh g r=>by
      obtain rfl:a=x.1:=g (a,x.1) (.head _);exact⟨Bm (r.kn _ _ _ e).1,a3y r rfl e q⟩⟩
   |n i=>exact OK.get λo e q=>OK.live λZ=>OK.some ⟨λg p hp=>g p (.tail _ hp),λh g r=>by
     obtain rfl:a=m+i:=g (a,m+i) (.head _);exact⟨Bm (r.nw _ _ e q),a3x r e (r.nw _ _ e q)⟩⟩
 al s o:=OK.some ⟨id,λh Z r=>⟨r.size.symm,by rw[Un,r.size,Nb];rfl,λj b o' c=>(r.kn _ _ _ c).imp_left (ea _),r.nd,
  λj o' c hf=>(FD (l:=s.nw) (x:=o) c).elim (λq=>Vq hf (.inl ⟨(congrArg (s.m+·) q.1).trans r.size.symm,q.2⟩)) λq=>Vq hf (.inr (r.nw _ _ q hf)),
  λb o' hb e=>(r.rest b o' hb e).imp_left (ea _)⟩⟩
theorem C7{α:Type}{Q:α->aa->Prop}{kn:List (ma×Jb)}{fz:Bool}{hints:List Hn}{st:T5}{t:xc α}{v:α}
  (h:A.handled=a6) (e:mn Rh (Vb Ra) π w n ⟨fz,kn,s.heap.objs.size,[],hints,[]⟩ s.toks (.top t)=ac (st,k,.top (.pure v))) (g:aQ st)
  (hk:∀(i:Nat) a o,kn[i]?=ac (a,o)->s.heap.get? a=ac o) (nd:fz=be->∀(i j:Nat) a o o',kn[i]?=ac (a,o)->kn[j]?=ac (a,o')->i=j)
  (f:∀h',JH s.heap st h'->Q v {s with heap:=h',toks:=k}):wpAny (ja π w) A t Q E s:=by
 obtain ⟨hp,gs,d,tk,os⟩:=s;have r:JH hp ⟨fz,kn,hp.objs.size,[],hints,[]⟩ hp:=⟨rfl,λi a o e=>⟨hk i a o e,Ha (hk i a o e)⟩,nd,λi o e=>(nomatch e),λb o Z e=>⟨e,Ha e⟩⟩;have:=eK (Q:=Q) (E:=E) (gs:=gs) (d:=d) (os:=os) (xT hp) e g r λh' c=>(show Zm π w (.pure v) Q E _ from λA Z=>la (f h' c));exact this A h
theorem SI{kn:List (ma×Jb)}(x:∀p∈kn,h.get? p.1=ac p.2):∀(i:Nat) a o,kn[i]?=ac (a,o)->h.get? a=ac o:=λi a o e=>x (a,o) (Cb e)
theorem YI{st:T5}(l:List ma)(e:st.obl=l.map λa=>(a,a)):aQ st:=by
 intro p hp;rw[e] at hp;obtain ⟨a,_,rfl⟩:=Ma.mp hp;rfl
theorem ng{α:Type}{Q:α->aa->Prop}{kn:List (ma×Jb)}{hints:List Hn}{st:T5}{t:xc α}{v:α}
  (h:A.handled=a6) (e:mn Rh (Vb Ra) π w n ⟨a8,kn,s.heap.objs.size,[],hints,[]⟩ s.toks (.top t)=ac (st,k,.top (.pure v))) (l:List ma) (g:st.obl=l.map λa=>(a,a))
  (hk:∀p∈kn,s.heap.get? p.1=ac p.2) (c:st.kn=kn) (hm:st.m=s.heap.objs.size)
  (d:∀h',(∀b o,s.heap.get? b=ac o->h'.get? b=ac o)->(∀(i:Nat) o,st.nw[i]?=ac o->o.isFreed=be->h'.get? (s.heap.objs.size+i)=ac o)->Q v {s with heap:=h',toks:=k}):wpAny (ja π w) A t Q E s:=by
 refine C7 h e (YI l g) (SI hk) (λq=>nomatch q) λh' r=>d h' (λb o e=>?_) (λi o e f=>hm▸r.nw i o e f);by_cases hb:∃(i:Nat) (o:Jb),kn[i]?=ac (b,o)
 ·obtain ⟨i,o',hi⟩:=hb;have h1:=SI hk i b o' hi;rw[e] at h1;cases h1;rw[<- c] at hi
  exact(r.kn i b o hi).1
 ·refine(r.rest b o (λi a o' hi q=>?_) e).1
  rw[c] at hi;exact hb ⟨i,o',q▸hi⟩
theorem xW{α:Type}{Q:α->aa->Prop}{o':Jb}{rest:List (ma×Jb)}{hints:List Hn}{m:Nat}{obl:List (ma×ma)}{t:xc α}{v:α}
  (z:A.handled=a6) (e:mn Rh (Vb Ra) π w n ⟨be,(b,o)::rest,s.heap.objs.size,[],hints,[]⟩ s.toks (.top t)=ac (⟨be,(b,o')::rest,m,[],[],obl⟩,k,.top (.pure v))) (l:List ma) (g:obl=l.map λa=>(a,a))
  (hk:∀p∈(b,o)::rest,s.heap.get? p.1=ac p.2) (nd:(b::rest.map (·.1)).Nodup)
  (y:∀h',(∀x ob,x≠b->s.heap.get? x=ac ob->h'.get? x=ac ob)->h'.get? b=ac o'->Q v {s with heap:=h',toks:=k}):wpAny (ja π w) A t Q E s:=by
 refine C7 z e (YI l g) (SI hk) (λZ i j a o1 f hi u=>?_) λh' r=>y h' (λx ob h ex=>?_) (r.kn 0 b o' rfl).1
 ·have d:(b::rest.map (·.1))[i]?=ac a:=by
   have:=congrArg (D4 (·.1)) hi;rw[<- ef] at this;exact this
  have c:(b::rest.map (·.1))[j]?=ac a:=by
   have:=congrArg (D4 (·.1)) u;rw[<- ef] at this;exact this
  refine(xb.mp d).elim λh1 C=>?_
  refine(xb.mp c).elim λh2 B=>?_
  exact(ew nd).mp (C.trans B.symm)
 ·by_cases hin:∃(i:Nat) (oo:Jb),((b,o')::rest)[i]?=ac (x,oo)
  ·obtain ⟨i,oo,hi⟩:=hin;cases i with
   |zero=>exact absurd (congrArg gp (xa hi)).symm h
   |succ i=>
    have h1:=SI hk (i+1) x oo hi;rw[ex] at h1;cases h1
    exact(r.kn (i+1) x ob hi).1
  ·exact(r.rest x ob (λi a f hi q=>hin ⟨i,f,q▸hi⟩) ex).1
noncomputable abbrev Fe(dd d:ma):Jb:=⟨.ref 1963,ac dd,.plain,#[ac (.ref d)]⟩
noncomputable abbrev zg:Jb:={cls:=.type "dict",data:=.dict #[]}
theorem Sl{α:Type}{p:α->Prop}:∀z∈([]:List α),p z:=λZ h=>nomatch h
theorem Ld{α:Type}{p:α->Prop}{a:α}{l:List α}(h:p a)(t:∀z∈l,p z):∀z∈a::l,p z:=Pe.mpr ⟨h,t⟩
theorem wf{P:sa->Prop}(w:sa)(h:∀a,P (w.withFollow "special-get-raises" a)):P w:=by
 have e:=h (w.params.followText aq);rw[Zb] at e;exact e
theorem pR:a2V (.type "bytearray")=pure [.type "bytearray",.type "object"]:=by rw[mroOf_type];kernel_rfl
theorem gz:sd (.type "bytearray") "__new__"=pure (ac (.builtin "bytearray.__new__")):=by rw[Pb,ab];kernel_rfl
theorem Yo:KJ "bytearray" "__init__" "bytearray.__init__":=
 .of (owner:="bytearray") (n:="__init__") (by rw[Pb,ab];kernel_rfl) (by decide +kernel) (by decide +kernel) (by decide +kernel)
  (.inl (by decide +kernel)) (by rw[ke];kernel_rfl)
theorem f5:TypeCalled "bytearray" "bytearray.__new__" "bytearray.__init__":=
 ⟨by decide +kernel,by decide +kernel,⟨_,_,pR⟩,madeBy_type pR gz (by decide +kernel),by decide +kernel,by rw[ke];kernel_rfl,Yo⟩
theorem BH(a:Value):od "bytearray.__new__" ⟨[.type "bytearray",a],[]⟩=pure ():=by kernel_rfl
theorem XB:Ng Kj "bytearray.__new__"=ac Builtin.«list.__new__»:=
 entryFor_alias (id':="list.__new__") (by rw[Ip];kernel_rfl) (by rfl) (by decide +kernel) (by rw[Ip];kernel_rfl)
theorem jz:Ng Kj "bytearray.__init__"=ac Builtin.«bytearray.__init__»:=cf (by kernel_rfl)
theorem ju:rM "bytearray.__new__"=a8:=by decide +kernel
theorem Kl:UL (.type "bytearray") (.type "bytearray")=pure a8:=by rw[ke];kernel_rfl
set_option maxRecDepth 1000000 in
theorem HE:("bytearray.__new__".splitOn ".__new__").headD ""="bytearray":=by simp +decide [String.splitOn,String.splitOnAux]
noncomputable abbrev Tb(b:Array UInt8):Jb:={cls:=.type "bytearray",dict:=a6,data:=.bytearray b,slots:=#[]}
theorem dE(a:Value){Q₁:Value->aa->Prop}
  (h:Q₁ (.ref s.heap.objs.size) {s with heap:=s.heap.push (Tb #[])}):
  codeAny (ja π w) A (.call (.builtin "bytearray.__new__") ⟨[.type "bytearray",a],[]⟩) (wants Q₁ E) s:=by
 refine codeAny_of_tree ?_;show wpAny _ A.in1 (do od "bytearray.__new__" ⟨[.type "bytearray",a],[]⟩;again (.builtin "bytearray.__new__" ⟨[.type "bytearray",a],[]⟩)) _ _ s
 refine Kb (Ga (BH a) (la ⟨si ju _,codeAny_builtin_stack XB rfl λp st=>?_⟩));rw[wg ju _];refine Kb (m:=isType (.type "bytearray")) (Ga (a:=a8) rfl ?_);refine Kb (m:=UL (.type "bytearray") (.type (("bytearray.__new__".splitOn ".__new__").headD ""))) (Ga (a:=a8) (by rw[HE];exact Kl) ?_);rw[HE];refine Kb (m:=pure (Data.bytearray #[])) (la ?_);refine Kb (m:=newObj (.type "bytearray") (.bytearray #[])) (Ed ?_ (by size_fits));exact la h
theorem Xp{self:Value}{T:String}{name:Ba}{id:String}{args:List Value}{a:List (Ba×Value)}{M:Bk}
  {Q:Option Value->aa->Prop} (hT:s.TypeIs self T) (h:KJ T name id)
  (hc:zd M A (call (.builtin id) (self::args) a) (λv=>Q (ac v)) s):zd M A (Zr self name args a) Q s:=by
 simp only[Zr];refine Xh (Ib hT h.lookup ?_);simp only[h.bind];exact yh (om (Qb (om (Od hc λv s' h'=>Qb h'))))
theorem Fi{id:String}{args:Dp}{b:Builtin}(hb:Ng Kj id=ac b)
  (h:zd (ja π w) (A.under (.builtin id args)) (b args) (λa s'=>match a with|.done f=>R (.ok f) s'|.again c'=>c'.quiet=a8/\Ki c'=a8/\Bi (ja π w) A c' R s') s):
  Bi (ja π w) A (.builtin id args) R s:=by
 refine wi ?_;show zd _ _ (match Ng Kj id with|some b=>b args|none=>unsupported ((withoutEnding? id "#data").getD id)) _ s
 rw[hb];exact h
theorem Km{id:String}{args:Dp}{b:Builtin}(g:rM id=a8)(c:Sb.contains id=be)(hb:Ng Kj id=ac b)
  (h:wpAny (ja π w) A.in1 (od id args) (λZ a=>zd (ja π w) A.in1 (b args)
   (λe s'=>match e with|.done f=>R (.ok f) s'|.again c'=>c'.quiet=a8/\Ki c'=a8/\Bi (ja π w) A c' R s') a) Hc s):
  Bi (ja π w) A (.call (.builtin id) args) R s:=by
 have d:Ki (.builtin id args)=a8:=by show(!Sb.contains id)=a8;rw[c];rfl
 refine wi ?_;show zd _ A.in1 (do od id args;again (.builtin id args)) _ s
 refine Nj (Ig h (λZ a Eb=>Qb ⟨si g args,d,Fi hb ?_⟩));rw[wg g args];exact Eb
theorem EA{x:Value}:
  Builtin.«type.__call__» ⟨[.type "bytearray",x],[]⟩=(do
   let a <- holding [.builtin "bytearray.__new__"] (call (.builtin "bytearray.__new__") [.type "bytearray",x] [])
   if !(<- Pk a (.type "bytearray")) then rule "type.call.new-gave-other-type";return <- ret a
   match <- holding [a] (Zr a "__init__" [x] []) with
   |none=>ret a
   |some r=>
    if r != .none then
     rule "type.call.init-returned-value"
     raiseError "TypeError" s!"__init__() should return None, not '{← typeNameOf r}'"
    ret a):=by kernel_rfl
theorem VB{x:Value}
  (b:fs "bytearray.__init__" ⟨[.ref s.heap.objs.size,x],[]⟩)
  (h:zd (ja π w) A.in1.in1 (Builtin.«bytearray.__init__» ⟨[.ref s.heap.objs.size,x],[]⟩)
   (λa s'=>a=.done (.ret .none)/\Q (.ref s.heap.objs.size) s') {s with heap:=s.heap.push (Tb #[])}):
  zd (ja π w) A (call (.type "bytearray") [x]) Q s:=by
 refine Yp (wi ?_);show zd _ _ (callAny (.type "bytearray") _) _ _
 refine Qb ⟨fM _ (by decide +kernel),(show(!Sb.contains "type.__call__")=a8 by decide +kernel),Fi jW ?_⟩;rw[Around.under_plain (weight_type_call_type "bytearray" [x] []) (units_type_call_type "bytearray" [x] [])];show zd _ _ (Builtin.«type.__call__» ⟨.type "bytearray"::[x],[]⟩) _ _
 rw[EA];refine Nj (Ta (Iw (codeAny_mono (dE (E:=Hc) (Q₁:=λv s'=>v=.ref s.heap.objs.size/\s'={s with heap:=s.heap.push (Tb #[])}) x ⟨rfl,rfl⟩) λr s' hr=>?_)));cases r with
 |error e=>exact hr.elim
 |ok fl=>
  cases fl with
  |ret c=>
   obtain ⟨rfl,rfl⟩:=hr;have hT:({s with heap:=s.heap.push (Tb #[])}:aa).TypeIs (.ref s.heap.objs.size) "bytearray":=⟨_,qa _ rfl,rfl⟩;show zd _ _ _ _ _
   refine Nj (Bg hT Kl ?_);refine jg rfl ?_;refine om (yh (Xp hT Yo (Yp (Km (by decide +kernel) (by decide +kernel) jz ?_))));refine Yo.check _ _ _ _ _ _ _ _ hT b ?_;refine Od h λa s' hf=>?_;obtain ⟨rfl,d⟩:=hf;exact⟨_,rfl,jg rfl (Qb ⟨_,rfl,d⟩)⟩
  |_=>exact hr.elim
theorem AH:sd (.type "bytearray") "__release_buffer__"=pure (ac (.builtin "bytearray.__release_buffer__")):=by rw[Pb,ab];kernel_rfl
theorem Vu:sd (.type "bytearray") "__buffer__"=pure (ac (.builtin "bytearray.__buffer__")):=by rw[Pb,ab];kernel_rfl
theorem IE:sd (.type "bytearray") "__index__"=pure a6:=by rw[Pb,ab];kernel_rfl
theorem FA:sd (.type "tuple") "__index__"=pure a6:=by rw[Pb,ab];kernel_rfl
theorem Iy:sd (.type "tuple") "__buffer__"=pure a6:=by rw[Pb,ab];kernel_rfl
theorem ON:("bytearray.__release_buffer__".endsWith ("."++"__release_buffer__"))=a8:=by decide +kernel
theorem PN:"bytearray.__release_buffer__".dropRight ("__release_buffer__".length+1)="bytearray":=by decide +kernel
theorem ZQ:("bytearray.__buffer__".endsWith ("."++"__buffer__"))=a8:=by decide +kernel
theorem aR:"bytearray.__buffer__".dropRight ("__buffer__".length+1)="bytearray":=by decide +kernel
theorem BJ(v:Value):R5 "bytearray.__init__" "bytearray" ["source","encoding","errors"] [v] []=pure [ac v,a6,a6]:=by kernel_rfl
theorem yc{h:aa}{b:Array UInt8}(e:h.heap.get? a=ac (Tb b)):h.TypeIs (.ref a) "bytearray":=⟨_,e,rfl⟩
theorem Gn{b:Array UInt8}{Q:Bool->aa->Prop}(c:s.heap.get? a=ac (Tb b))(h:Q be s):wpAny (ja π w) A (Xe (.ref a)) Q E s:=by
 unfold Xe kg;refine Kb (Kb (Ib (yc c) AH ?_));show wpAny _ _ (if (!("bytearray.__release_buffer__".endsWith ("."++"__release_buffer__")))=a8 then _ else _) _ _ _
 rw[ON];show wpAny _ _ (Pk (.ref a) (.type ("bytearray.__release_buffer__".dropRight ("__release_buffer__".length+1)))) _ _ _
 rw[PN];exact Bg (yc c) Kl (la h)
theorem Pj{b:Array UInt8}{Q:Array UInt8->aa->Prop}(c:s.heap.get? a=ac (Tb b))(h:Q b s):wpAny (ja π w) A (Kg (.ref a)) Q E s:=by
 unfold Kg Tv;exact Kb (Kb (Jj c (la (la h))))
theorem EB{b:Array UInt8}{Q:Nat->aa->Prop}(c:s.heap.get? a=ac (Tb b))(h:Q 0 s):wpAny (ja π w) A (pj (.ref a)) Q E s:=by
 unfold pj;exact Kb (Jj c (la h))
theorem eB{b:Array UInt8}{Q:Bool->aa->Prop}(hg:A.guards=ac [])(c:s.heap.get? a=ac (Tb b))(h:Q be s):
  zd (ja π w) A (Rm (.ref a) <||> (do return (<- pj (.ref a)) > 0)) Q s:=by
 unfold orM;refine om (zA hg ?_);show zd _ _ (pj (.ref a)>>=λn=>pure (decide (n > 0))) _ _
 exact Nj (EB c (Qb h))
theorem Bl{b b':Array UInt8}{f:Array UInt8->Array UInt8}{Q:Unit->aa->Prop}(c:s.heap.get? a=ac (Tb b))(hf:f b=b')(hz:b'.size<=mc)
  (h:∀h',h'.get? a=ac (Tb b')->Rd a s.heap h'->Q () {s with heap:=h'}):wpAny (ja π w) A (th (.ref a) f) Q E s:=by
 subst hf;unfold th updateBytearray;refine Kb (Jj c ?_);show wpAny _ _ (update a (Mw f)>>=λZ=>lookBehind a) _ _ _
 refine Kb (wpAny_update c ?_);have d:(s.heap.update a (Mw f)).get? a=ac (Tb (f b)):=Zc (Mw f) c rfl;refine wpAny_lookBehind d ?_ (h _ d (wh ..))
 show(if (f b).size > mc then ac "bytearray:memory" else a6)=a6
 rw[if_neg (yf.mpr hz)]
theorem Cq{b:Array UInt8}{Q:Unit->aa->Prop}(hg:A.guards=ac [])(c:s.heap.get? a=ac (Tb b))(h:Q () s):zd (ja π w) A (Ni (.ref a)) Q s:=by
 unfold Ni;exact om (eB hg c (jg rfl (Qb h)))
theorem DL{b:Array UInt8}{id:String}{d:Bool}{Q:Option (Array UInt8)->aa->Prop}(c:s.heap.get? a=ac (Tb b))(h:Q (ac b) s):wpAny (ja π w) A (Lg id (.ref a) d) Q E s:=by
 unfold Lg;refine Kb (Ib (yc c) Vu ?_);show wpAny _ _ (kg (.ref a) "__buffer__">>=_) _ _ _
 unfold kg;refine Kb (Kb (Ib (yc c) Vu ?_));show wpAny _ _ (if (!("bytearray.__buffer__".endsWith ("."++"__buffer__")))=a8 then _ else _) _ _ _
 rw[ZQ];show wpAny _ _ (Pk (.ref a) (.type ("bytearray.__buffer__".dropRight ("__buffer__".length+1)))) _ _ _
 rw[aR];refine Bg (yc c) Kl ?_;show wpAny _ _ (jl (.ref a) _>>=_) _ _ _
 refine Kb (Ib (yc c) Vu ?_);show wpAny _ _ (Xe (.ref a)>>=_) _ _ _
 refine Kb (Gn c ?_);show wpAny _ _ (Kg (.ref a)>>=_) _ _ _
 exact Kb (Pj c (la h))
theorem rE{T:String}{id:String}{a:Bool}{Q:Option (Array UInt8)->aa->Prop}(hT:s.TypeIs v T)(hn:sd (.type T) "__buffer__"=pure a6)(h:Q a6 s):wpAny (ja π w) A (Lg id v a) Q E s:=by
 unfold Lg;refine Kb (Ib hT hn ?_);show wpAny _ _ (jl v _>>=_) _ _ _
 exact Kb (Ib hT hn (la h))
noncomputable def Wa(ns:List Int):Array UInt8:=(ns.map λn=>n.toNat.toUInt8).toArray
theorem Ae(ns:List Int):(Wa ns).size=ns.length:=by simp[Wa]
def dj(ns:List Int):Prop:=∀n∈ns,0<=n/\n < 256
noncomputable def X4:Value->Bool
 |.int i _=>0<=i&&i < 256
 |_=>be
noncomputable def toB:Value->Option UInt8
 |.int i _=>ac i.toNat.toUInt8
 |_=>a6
theorem ZP(h:IntsAre vs ns)(hr:dj ns):vs.takeWhile X4=vs/\vs.filterMap toB=ns.map λn=>n.toNat.toUInt8:=by
 induction h with
 |nil=>exact⟨rfl,rfl⟩
 |cons i t _ c=>
  refine(c λn hn=>hr n (pa _ hn)).elim λa b=>?_
  have h0:=hr i (va ..);have hb:X4 (.int i t)=a8:=by simp[X4,h0.1,h0.2]
  constructor
  ·rw[QJ,hb,if_pos rfl,a]
  ·rw[Mb,<- b];rfl
theorem Wy:sd (.type "list") "__index__"=pure a6:=by rw[Pb,ab];kernel_rfl
theorem sq:sd (.type "list") "__buffer__"=pure a6:=by rw[Pb,ab];kernel_rfl
section
theorem SameBut.both{h1 h2:Xb}(x:Rd a h h1)(y:Rd a h1 h2):Rd a h h2:=
 ⟨y.1.trans x.1,λb hb=>(y.2 b hb).trans (x.2 b hb)⟩
set_option tactic.hygienic true
theorem cA{Q:Option Ba->aa->Prop}(hl:s.heap.get? l=ac o)(hp:∀v,o.data≠.prim v)(h:Q a6 s):wpAny (ja π w) A (asStr? (.ref l)) Q E s:=by
 unfold asStr?;refine jb (Jj hl ?_);split
 ·rename_i e;exact absurd e (hp _)
 ·exact la h
theorem Gz{ol:Jb}{T:String}{Q:aa->Prop}(hg:A.guards=ac [])(m:s.heap.get? a=ac (Tb #[]))(hl:s.heap.get? l=ac ol)
  (hT:ol.cls=.type T) (hd:ol.data=.seq vs.toArray n) (f:T="list"\/T="tuple") (hi:IntsAre vs ns) (hr:dj ns) (hz:ns.length<=mc) (q:l≠a)
  (t:∀h',h'.get? a=ac (Tb (Wa ns))->Rd a s.heap h'->Q {s with heap:=h'}):
  zd (ja π w) A (Builtin.«bytearray.__init__» ⟨[.ref a,.ref l],[]⟩) (λr s'=>r=.done (.ret .none)/\Q s') s:=by
 unfold Builtin.«bytearray.__init__»;show zd _ _ (Xe (.ref a)>>=_) _ _
 refine Nj (Gn m ?_);refine jg rfl ?_;refine om (Vk (BJ _) ?_);refine om (Vk (a:=()) rfl ?_);refine om (Vk (a:=()) rfl ?_);refine om (eB hg m ?_);refine jg rfl ?_;refine Nj (Bl (b':=#[]) m rfl (fc _) λh1 k g=>?_);have c:h1.get? l=ac ol:=(g.2 l q).trans hl;dsimp only;have d:({s with heap:=h1}:aa).TypeIs (.ref l) T:=⟨_,c,hT⟩;have o:sd (.type T) "__index__"=pure a6:=f.elim (λe=>e▸Wy) λe=>e▸FA;have p:sd (.type T) "__buffer__"=pure a6:=f.elim (λe=>e▸sq) λe=>e▸Iy;refine Nj (cA c (λv e=>nomatch hd.symm.trans e) ?_);refine jg rfl ?_;refine om (Vk (a:=()) rfl ?_);refine Nj (Ib d o ?_);refine jg rfl ?_;refine Nj (rE d p ?_);refine Nj (Ml d ?_);refine Ww (f.elim (λe=>by rw[e];decide) λe=>by rw[e];decide) ?_;refine Xh (Ze c hd ?_)
 refine(ZP hi hr).elim λg1 u=>?_
 have b:vs.toArray[(oz X4 vs.toArray.toList).length]?=a6:=by
  show vs.toArray[(oz X4 vs).length]?=a6
  rw[g1];exact Cp (yb _)
 dsimp only;split
 ·refine Nj (oi ?_);refine Nj (Bl (b':=Wa ns) k ?_ (by rw[Ae];exact hz) λh2 j i=>?_)
  ·show(List.filterMap toB (oz X4 vs)).toArray=Wa ns
   rw[g1,u];rfl
  ·exact Qb ⟨rfl,t h2 j (SameBut.both g i)⟩
 ·rename_i h
  exact nomatch b.symm.trans h
 ·rename_i h
  exact absurd (b.symm.trans h) (by simp)
set_option tactic.hygienic false
theorem EK{b:Array UInt8}{Q:aa->Prop}(hg:A.guards=ac [])(i:s.heap.get? a=ac (Tb #[]))(hl:s.heap.get? l=ac (Tb b))(hz:b.size<=mc)(j:l≠a)
  (m:∀h',h'.get? a=ac (Tb b)->Rd a s.heap h'->Q {s with heap:=h'}):
  zd (ja π w) A (Builtin.«bytearray.__init__» ⟨[.ref a,.ref l],[]⟩) (λk s'=>k=.done (.ret .none)/\Q s') s:=by
 unfold Builtin.«bytearray.__init__»;show zd _ _ (Xe (.ref a)>>=_) _ _
 refine Nj (Gn i ?_);refine jg rfl ?_;refine om (Vk (BJ _) ?_);refine om (Vk (a:=()) rfl ?_);refine om (Vk (a:=()) rfl ?_);refine om (eB hg i ?_);refine jg rfl ?_;refine Nj (Bl (b':=#[]) i rfl (fc _) λh1 h d=>?_);have c:h1.get? l=ac (Tb b):=(d.2 l j).trans hl;dsimp only;refine Nj (cA c (λv e=>by cases e) ?_);refine jg rfl ?_;refine om (Vk (a:=()) rfl ?_);refine Nj (Ib (s:={s with heap:=h1}) (yc c) IE ?_);refine jg rfl ?_;refine Nj (DL (s:={s with heap:=h1}) c ?_);refine Nj (oi ?_);refine Nj (Bl (b':=b) h rfl hz λh2 g f=>?_);exact Qb ⟨rfl,m h2 g (SameBut.both d f)⟩
theorem bA(a x:Value):fs "bytearray.__init__" ⟨[a,x],[]⟩:=by kernel_rfl
theorem Xx{ol:Jb}{T:String}(hg:A.guards=ac [])(hl:s.heap.get? l=ac ol)
  (hT:ol.cls=.type T) (hd:ol.data=.seq vs.toArray n) (g:T="list"\/T="tuple") (hi:IntsAre vs ns) (hr:dj ns) (hz:ns.length<=mc)
  (h:∀a s',Kp s s'->s.heap.get? a=a6->s'.heap.get? a=ac (Tb (Wa ns))->Q (.ref a) s'):zd (ja π w) A (call (.type "bytearray") [.ref l]) Q s:=by
 have f:l < s.heap.objs.size:=Ha hl;refine VB (bA _ _) (Gz (A:=A.in1.in1) hg (qa _ rfl) (ea _ hl) hT hd g hi hr hz (Na f) λh' d c=>?_);refine h _ _ ⟨h',s.toks,rfl,λb o e=>c.extBut b o (Na (Ha e)) (ea _ e)⟩ bc d
theorem Yx{b:Array UInt8}(hg:A.guards=ac [])(hl:s.heap.get? l=ac (Tb b))(hz:b.size<=mc)
  (g:∀a s',Kp s s'->s.heap.get? a=a6->s'.heap.get? a=ac (Tb b)->Q (.ref a) s'):zd (ja π w) A (call (.type "bytearray") [.ref l]) Q s:=by
 have f:l < s.heap.objs.size:=Ha hl;refine VB (bA _ _) (EK (A:=A.in1.in1) hg (qa _ rfl) (ea _ hl) hz (Na f) λh' d c=>?_);refine g _ _ ⟨h',s.toks,rfl,λb o e=>c.extBut b o (Na (Ha e)) (ea _ e)⟩ bc d
end
theorem cL:Ng Kj "bytearray.extend"=ac Builtin.«bytearray.extend»:=cf (by kernel_rfl)
theorem vq:Ng Kj "bytearray.extend.loop"=ac Builtin.«bytearray.extend.loop»:=cf (by kernel_rfl)
theorem az:Ng Kj "bytearray.extend.end"=ac Builtin.«bytearray.extend.end»:=cf (by kernel_rfl)
theorem xk:rM "bytearray.extend.loop"=a8:=by decide +kernel
theorem Qr:rM "bytearray.extend.end"=a8:=by decide +kernel
theorem Tx{id:String}{args:Dp}(h:Sb.contains id=be):Ki (.builtin id args)=a8:=by
 show(!Sb.contains id)=a8;rw[h];rfl
theorem YD(a x:Value):selfAndOne "bytearray.extend" ⟨[a,x],[]⟩=pure (a,x):=by kernel_rfl
theorem yx:splitId "list.__len__"=ac ("list","__len__"):=by decide +kernel
theorem QB(val:Nat->Int)(i:Nat):Wa ((Ea (i+1)).map val)=(Wa ((Ea i).map val)).push (val i).toNat.toUInt8:=by
 delta Wa;rw[Li,Ic,Ic];exact(List.push_toArray ..).symm
section
theorem cu{i:Int}{Q:UInt8->aa->Prop}(h0:0<=i)(h1:i < 256)(h:Q i.toNat.toUInt8 s):wpAny (ja π w) A (jv (.int i t)) Q E s:=by
 delta jv;refine Kb (Ga (rfl:asIndex (.int i t)=pure i) ?_);have e:(decide (i < 0)||decide (i>=256))=be:=Vl.mpr ⟨decide_eq_false (vu.mpr h0),decide_eq_false (Int.not_le.mpr h1)⟩;show wpAny _ _ (if (decide (i < 0)||decide (i>=256))=a8 then _ else _) _ _ _
 rw[e];exact la h
theorem NV{S:ma}{it:Value}{b c:Array UInt8}(hg:A.guards=ac [])(i:s.heap.get? a=ac (Tb b))(j:s.heap.get? S=ac (Tb c))(hz:(b++c).size<=mc)
  (k:∀h',h'.get? a=ac (Tb (b++c))->Rd a s.heap h'->R (.ok (.ret .none)) {s with heap:=h'}):
  Bi (ja π w) A (.builtin "bytearray.extend.end" ⟨[.ref a,it,.ref S],[]⟩) R s:=by
 refine Fi az ?_;rw[wg Qr _];show zd _ _ (point>>=λZ=>Kg (.ref S)>>=λe=>(do
   if !e.isEmpty then Ni (.ref a)
   th (.ref a) (·++e)
   ret .none)) _ _
 refine Xh (nu (Xh (Pj j ?_)));have d:zd (ja π w) A.in1 (do th (.ref a) (·++c);ret .none) (λd s'=>match d with|.done f=>R (.ok f) s'|.again c'=>c'.quiet=a8/\Ki c'=a8/\Bi (ja π w) A c' R s') s:=
  Xh (Bl i rfl hz λh' h g=>Qb (k h' h g))
 dsimp only;split
 ·exact om (Cq (A:=A.in1) hg i d)
 ·exact d
variable{I:ma}{fp wr:List ma}{G:Array Oe->Array Oe->Prop}{P:Nat->Value->Prop}{St:Nat->aa->Prop}
theorem yQ{it:Value}(W:WalksS π w A.in1 I fp wr G n P St)(val:Nat->Int)(l:∀i v,P i v->∃t,v=.int (val i) t)(hb:∀i,i < n->0<=val i/\val i < 256)
  (hg:A.guards=ac []) {S:ma} (haf:a∉fp) (y:S∉fp) (B:a≠S) {b:Array UInt8} (hz:b.size+n<=mc):
  ∀(k i:Nat) (s:aa),n-i=k->i<=n->St i s->s.heap.get? S=ac (Tb (Wa ((Ea i).map val)))->s.heap.get? a=ac (Tb b)->
   (∀s',Moved (a::S::wr) G s s'->s'.heap.get? a=ac (Tb (b++Wa ((Ea n).map val)))->R (.ok (.ret .none)) s')->
   Bi (ja π w) A (.builtin "bytearray.extend.loop" ⟨[.ref a,it,.ref I,.ref S],[]⟩) R s:=by
 have u:S∉wr:=λh=>y (W.sub _ h);have r:a∉wr:=λh=>haf (W.sub _ h);intro k;induction k with
 |zero=>
  intro i s hk hi g D C E;have hin:i=n:=Og hi (yr hk);subst hin;refine Fi vq ?_;rw[wg xk _];show zd _ _ (Vh (.ref I)>>=_) _ _
  refine Nj (W.done s _ _ g λs' hm=>?_);refine Qb ⟨si Qr _,Tx (by decide +kernel),?_⟩;refine NV hg (hm.heap _ _ r C) (hm.heap _ _ u D) (by rw[Array.size_append,Ae,cb,Ac];exact hz) λh' j c=>?_;refine E _ ((hm.mono λx d=>pa _ (pa _ d)).then_heap (yb _) λx o d e=>(c.2 x (λq=>d (q▸va ..))).trans e) j
 |succ k H=>
  intro i s hk hi g D C E;have f:i < n:=Nat.lt_of_sub_eq_succ hk;refine Fi vq ?_;rw[wg xk _];show zd _ _ (Vh (.ref I)>>=_) _ _
  refine Xh (W.item i s _ _ f g λv s' hP m hm=>?_);obtain ⟨t,rfl⟩:=l i v hP;obtain ⟨L,J⟩:=hb i f;dsimp only;refine Nj (oF (Ta (cu L J ?_)));refine Nj (Gp ?_);refine Nj (Bl (b':=Wa ((Ea (i+1)).map val)) (hm.heap _ _ u D) (QB val i).symm (by rw[Ae,cb,Ac];exact ka f (ka (Ri ..) hz)) λh' j c=>?_);refine Qb ⟨si xk _,Tx (by decide +kernel),H (i+1) _ (congrArg Nat.pred hk) f ?_ j ((c.2 a B).trans (hm.heap _ _ r C)) λSg z p=>?_⟩
  ·exact W.frame (i+1) s' h' s'.toks m (yb _) λx d o e=>(c.2 x (λq=>y (q▸d))).trans e
  ·refine E Sg (G4 W.gtrans ((hm.mono λx d=>pa _ (pa _ d)).then_heap (yb _) λx o d e=>(c.2 x (λq=>d ?_)).trans e) z) p;rw[q];exact pa _ (va ..)
end
theorem iy:KJ "bytearray" "extend" "bytearray.extend":=
 .of (owner:="bytearray") (n:="extend") (by rw[Pb,ab];kernel_rfl) (by decide +kernel) (by decide +kernel) (by decide +kernel)
  (.inr (by decide +kernel)) (by rw[ke];kernel_rfl)
theorem fH(a x:Value):fs "bytearray.extend" ⟨[a,x],[]⟩:=by kernel_rfl
def Mv(a:ma)(s s':aa):Prop:=∃h' tk,s'={s with heap:=h',toks:=tk}/\∀x o,x≠a->s.heap.get? x=ac o->h'.get? x=ac o
theorem range_getD(ns:List Int):(Ea ns.length).map (λi=>ns.getD i 0)=ns:=by
 apply mi
 ·rw[cb,Ac]
 ·intro i h1 h2;rw[ki,List.getElem_range,ua,Sa h2];rfl
theorem rD{b:Array UInt8}(hz:b.size<=mc)(h:Q (.ref s.heap.objs.size) {s with heap:=s.heap.push (Tb b)}):wpAny (ja π w) A (zt b) Q E s:=by
 delta zt;exact Ed h hz
theorem IK{id:String}{Q:Unit->aa->Prop}(hT:s.TypeIs (.ref l) "list")(h:Q () s):wpAny (ja π w) A (zu id (.ref l)) Q E s:=by
 delta zu;refine jb (Ib hT slot_list_len.lookup ?_);dsimp only;rw[yx];dsimp only;refine Kb (Bg hT sub_list_self ?_);refine wpAny_ite_false rfl ?_;refine Ao (by decide +kernel) ?_;exact la h
theorem Sz{o':Jb}{T U:String}(e:s.heap.get? a=ac o)(c:s.heap.get? b=ac o')(h:o.cls=.type T)(h':o'.cls=.type U)(n:T≠U):a≠b:=by
 rintro rfl
 have:=xa (e.symm.trans c);subst this;rw[h] at h';exact n (OH h')
theorem Gv{b:Array UInt8}{x:Value}(e:s.heap.get? a=ac (Tb b))
  (h:zd (ja π w) A.in1 (Builtin.«bytearray.extend» ⟨[.ref a,x],[]⟩)
   (λd s'=>match d with|.done f=>∃v,f=.ret v/\Q v s'|.again c'=>c'.quiet=a8/\Ki c'=a8/\Bi (ja π w) A c' (λr s'=>∃v,r=.ok (.ret v)/\Q v s') s') s):
  zd (ja π w) A (call (.builtin "bytearray.extend") [.ref a,x]) Q s:=by
 refine Yp (Km (by decide +kernel) (by decide +kernel) cL (iy.check _ _ _ _ _ _ _ _ (yc e) (fH _ _) (Od h λd s' hf=>?_)));cases d with
 |done f=>obtain ⟨v,rfl,q⟩:=hf;exact⟨v,rfl,q⟩
 |again c=>exact hf
theorem Cv{b:Array UInt8}{m:Nat}(T:A.handled=a6)(hg:A.guards=ac [])(p:s.heap.get? a=ac (Tb b))(hl:s.heap.get? l=ac (wb vs m))
  (hi:IntsAre vs ns) (hr:dj ns) (hz:b.size+ns.length<=mc)
  (V:∀s',Mv a s s'->s'.heap.get? a=ac (Tb (b++Wa ns))->Q .none s'):zd (ja π w) A (call (.builtin "bytearray.extend") [.ref a,.ref l]) Q s:=by
 refine Gv p ?_;have J:s.heap.IsList l vs.toArray:=⟨_,hl,rfl,m,rfl⟩;have y:a≠l:=Sz p hl rfl rfl (by decide);have j:l < s.heap.objs.size:=Ha hl;have d:a < s.heap.objs.size:=Ha p;unfold Builtin.«bytearray.extend»;refine om (Vk (YD _ _) ?_);refine Nj (Ib J.typeIs sq ?_);refine jg rfl ?_;refine Nj (oF (ai J ?_));generalize f:s.heap.push {cls:=.type "list_iterator",data:=.fields #[.ref l,.int 0 0]}=h1;have u:∀x o,s.heap.get? x=ac o->h1.get? x=ac o:=λx o e=>by rw[<- f];exact ea _ e
 have g:h1.objs.size=s.heap.objs.size+1:=by rw[<- f];exact pd _ _
 have k:h1.IsList l vs.toArray:=⟨_,u _ _ hl,rfl,m,rfl⟩;have C:h1.IsListIter s.heap.objs.size l 0:=by rw[<- f];exact⟨_,qa _ rfl,rfl,rfl⟩
 have B:({s with heap:=h1}:aa).TypeIs (.ref l) "list":=a3g (s:={s with heap:=h1}) k;refine Nj (Ta (IK B ?_));refine Nj (rD (fc _) ?_);have W:=(Walks.list (prog:=π) (w:=w) (A:=A.in1) T s.heap.objs.size l (Na j) vs.toArray).toS;have c:vs.toArray.size=ns.length:=by simp[hi.length]
 have z:h1.get? a=ac (Tb b):=u _ _ p;have l1:l < h1.objs.size:=by rw[g];exact Cd j
 have Y:a < h1.objs.size:=by rw[g];exact Cd d
 have N:∀o,(h1.push o).objs.size=s.heap.objs.size+2:=λo=>by rw[pd,g]
 refine Qb ⟨si xk _,Tx (by decide +kernel),?_⟩;refine yQ (a:=a) (S:=h1.objs.size) (b:=b) W (λi=>ns.getD i 0) (λi v hv=>?_) (λi I=>?_) hg ?_ ?_ ?_ (by rw[c];exact hz) vs.toArray.size 0 _ (by lia) (fc _) ?_ ?_ ?_ λs' hm h=>?_
 ·obtain ⟨n,t,rfl,hn⟩:=IntsAre.at hi i v (by simpa using hv);exact⟨t,by simp[fw,hn]⟩
 ·have:ns.getD i 0∈ns:=by
   have h2:i < ns.length:=by lia
   simp[fw,Sa h2]
  exact hr _ this
 ·intro q;simp only[La,rg,or_false] at q;refine q.elim (λq=>?_) λq=>?_
  ·exact absurd q (Na d)
  ·exact y q
 ·intro q;simp only[La,rg,or_false] at q;refine q.elim (λq=>?_) λq=>?_
  ·exact Nat.succ_ne_self _ (g.symm.trans q)
  ·exact absurd q.symm (Na l1)
 ·exact Na Y
 ·exact⟨(let ⟨o,e,r⟩:=C;⟨o,ea _ e,r⟩),k.push _⟩
 ·exact qa _ rfl
 ·exact ea _ z
 ·rw[c,range_getD] at h;refine⟨_,rfl,V s' ?_ h⟩
  obtain ⟨H,G,E,D,M⟩:=hm;obtain ⟨hp,gg,dd,tk,oo⟩:=s';simp only at H G E D M ⊢;refine⟨hp,tk,by rw[G,E,D],λx o O e=>H x o ?_ (ea _ (u _ _ e))⟩
  have:=Ha e;simp only[La,rg,or_false,not_or];have L:x < h1.objs.size:=by rw[g];exact Cd this
  exact⟨O,Na L,Na this⟩
theorem wm:sd (.type "bytes") "__buffer__"=pure (ac (.builtin "bytes.__buffer__")):=by rw[Pb,ab];kernel_rfl
theorem uH:sd (.type "bytes") "__release_buffer__"=pure a6:=by rw[Pb,ab];kernel_rfl
theorem G3:UL (.type "bytes") (.type "bytes")=pure a8:=by rw[ke];kernel_rfl
theorem WQ:("bytes.__buffer__".endsWith ("."++"__buffer__"))=a8:=by decide +kernel
theorem XQ:"bytes.__buffer__".dropRight ("__buffer__".length+1)="bytes":=by decide +kernel
section
theorem cx{b:Array UInt8}{Q:Bool->aa->Prop}(h:Q a8 s):wpAny (ja π w) A (kg (.bytes b t) "__buffer__") Q E s:=by
 delta kg;refine Kb (Ib (PySem.W.typeIs_bytes _ _ _) wm ?_);show wpAny _ _ (if (!("bytes.__buffer__".endsWith ("."++"__buffer__")))=a8 then _ else _) _ _ _
 rw[WQ];show wpAny _ _ (Pk (.bytes b t) (.type ("bytes.__buffer__".dropRight ("__buffer__".length+1)))) _ _ _
 rw[XQ];exact Bg (PySem.W.typeIs_bytes _ _ _) G3 h
theorem CL{b:Array UInt8}{id:String}{a:Bool}{Q:Option (Array UInt8)->aa->Prop}(h:Q (ac b) s):wpAny (ja π w) A (Lg id (.bytes b t) a) Q E s:=by
 unfold Lg;refine Kb (Ib (PySem.W.typeIs_bytes _ _ _) wm ?_);refine Kb (cx ?_);show wpAny _ _ (jl (.bytes b t) _>>=_) _ _ _
 refine Kb (Ib (PySem.W.typeIs_bytes _ _ _) wm ?_);show wpAny _ _ (Xe (.bytes b t)>>=_) _ _ _
 unfold Xe kg;refine Kb (Kb (Kb (Ib (PySem.W.typeIs_bytes _ _ _) uH (la (la ?_)))));show wpAny _ _ (Kg (.bytes b t)>>=_) _ _ _
 unfold Kg Tv;exact Kb (Kb (la (la (la h))))
theorem DB{b c:Array UInt8}(hg:A.guards=ac [])(g:s.heap.get? a=ac (Tb b))(hz:(b++c).size<=mc)
  (k:∀s',Mv a s s'->s'.heap.get? a=ac (Tb (b++c))->Q .none s'):zd (ja π w) A (call (.builtin "bytearray.extend") [.ref a,.bytes c t]) Q s:=by
 refine Gv g ?_;unfold Builtin.«bytearray.extend»;refine om (Vk (YD _ _) ?_);refine Nj (Ib (PySem.W.typeIs_bytes _ _ _) wm ?_);refine Ww rfl ?_;refine Nj (oi ?_);refine Nj (Pj g ?_);refine Nj (m:=zr _ _ _) ?_;unfold zr Q5;refine Kb (qi ?_);refine Kb (Ib (PySem.W.typeIs_bytes _ _ _) wm ?_);refine Kb (cx ?_);show wpAny _ _ (jl (.bytes c t) _>>=_) _ _ _
 refine Kb (Ib (PySem.W.typeIs_bytes _ _ _) wm ?_);refine Kb (CL ?_);refine la (la ?_);refine Ww rfl ?_;show zd _ _ ((do
   if !c.isEmpty then Ni (.ref a)
   th (.ref a) (·++c)
   ret .none)) _ _
 have d:zd (ja π w) A.in1 (do th (.ref a) (·++c);ret .none) (λd s'=>match d with|.done f=>∃v,f=.ret v/\Q v s'|.again c'=>c'.quiet=a8/\Ki c'=a8/\Bi (ja π w) A c' (λr s'=>∃v,r=.ok (.ret v)/\Q v s') s') s:=
  Nj (Bl g rfl hz λh' i h=>Qb ⟨_,rfl,k _ ⟨h',s.toks,rfl,λx o j e=>(h.2 x j).trans e⟩ i⟩)
 split
 ·exact om (Cq (A:=A.in1) hg g d)
 ·exact d
variable{I:ma}{fp wr:List ma}{G:Array Oe->Array Oe->Prop}{P:Nat->Value->Prop}{St:Nat->aa->Prop}
end
def gQ(a:Pa)(S:T3)(B:List Ya)(w:sa)(b dd d:ma)(pl:xc Bool)(m k:Nat):Prop:=
 mn Rh (Vb Ra) a w 16 ⟨a8,[(b,Fe dd d),(1963,ud w),(1962,Th S B w),(1924,yw S B w),(dd,zg)],m,[],[.k 0,.k 1,.k 1,.k 2,.k 0,.k 1,.k 1,.k 2,.k 0,.k 1,.k 1,.k 2,.k 3,.k 0,.k 4],[]⟩ k (.top (oj (.ref b) "extend" pl))=ac (⟨a8,[(b,Fe dd d),(1963,ud w),(1962,Th S B w),(1924,yw S B w),(dd,zg)],m,[],[],[(dd,dd),(b,b),(1924,1924),(1962,1962),(1963,1963),(1963,1963),(b,b),(1962,1962),(1963,1963),(1963,1963),(b,b),(1962,1962),(1963,1963),(1963,1963),(b,b)]⟩,k+0,.top (.pure ((.ref 1924,[.ref b]))))
def cJ(a:Pa)(S:T3)(B:List Ya)(w:sa)(b dd d:ma)(pl:xc Bool)(m k:Nat):Prop:=
 mn Rh (Vb Ra) a w 16 ⟨a8,[(b,Fe dd d),(1963,ud w),(1962,Th S B w),(1938,xw S B w),(dd,zg)],m,[],[.k 0,.k 1,.k 1,.k 2,.k 0,.k 1,.k 1,.k 2,.k 0,.k 1,.k 1,.k 2,.k 3,.k 0,.k 4],[]⟩ k (.top (oj (.ref b) "getbits" pl))=ac (⟨a8,[(b,Fe dd d),(1963,ud w),(1962,Th S B w),(1938,xw S B w),(dd,zg)],m,[],[],[(dd,dd),(b,b),(1938,1938),(1962,1962),(1963,1963),(1963,1963),(b,b),(1962,1962),(1963,1963),(1963,1963),(b,b),(1962,1962),(1963,1963),(1963,1963),(b,b)]⟩,k+0,.top (.pure ((.ref 1938,[.ref b]))))
def bJ(a:Pa)(S:T3)(B:List Ya)(w:sa)(b dd d:ma)(pl:xc Bool)(m k:Nat):Prop:=
 mn Rh (Vb Ra) a w 16 ⟨a8,[(b,Fe dd d),(1963,ud w),(1962,Th S B w),(1945,uw S B w),(dd,zg)],m,[],[.k 0,.k 1,.k 1,.k 2,.k 0,.k 1,.k 1,.k 2,.k 0,.k 1,.k 1,.k 2,.k 3,.k 0,.k 4],[]⟩ k (.top (oj (.ref b) "toints" pl))=ac (⟨a8,[(b,Fe dd d),(1963,ud w),(1962,Th S B w),(1945,uw S B w),(dd,zg)],m,[],[],[(dd,dd),(b,b),(1945,1945),(1962,1962),(1963,1963),(1963,1963),(b,b),(1962,1962),(1963,1963),(1963,1963),(b,b),(1962,1962),(1963,1963),(1963,1963),(b,b)]⟩,k+0,.top (.pure ((.ref 1945,[.ref b]))))
def KW(a:Pa)(S:T3)(B:List Ya)(w:sa) (m k:Nat):Prop:=
 mn Rh (Vb Ra) a w 1 ⟨a8,[(1963,ud w)],m,[],[.k 0],[]⟩ k (.top (a2V (.ref 1963)))=ac (⟨a8,[(1963,ud w)],m,[],[],[(1963,1963)]⟩,k+0,.top (.pure ([.ref 1963,.type "object"])))
def YO(a:Pa)(S:T3)(B:List Ya)(w:sa) (m k:Nat):Prop:=
 mn Rh (Vb Ra) a w 2 ⟨a8,[(1963,ud w)],m,[],[.k 0,.k 0],[]⟩ k (.top (XH (.ref 1963)))=ac (⟨a8,[(1963,ud w)],m,[],[],[(1963,1963),(1963,1963)]⟩,k+0,.top (.pure (ac "object.__new__")))
def Yz(a:Pa)(S:T3)(B:List Ya)(w:sa)(b:ma)(m k:Nat):Prop:=
 mn Rh (Vb Ra) a w 1 ⟨a8,[(1917,zw S B w)],m,[],[.k 0],[]⟩ k (.top (rC (.ref 1917) (.ref b)))=ac (⟨a8,[(1917,zw S B w)],m,[],[],[(1917,1917)]⟩,k+0,.top (.pure ((.ref 1917,[.ref b]))))
def rP(a:Pa)(S:T3)(B:List Ya)(w:sa) (m k:Nat):Prop:=
 mn Rh (Vb Ra) a w 2 ⟨a8,[(1963,ud w)],m,[],[.k 0,.k 0],[]⟩ k (.top (Lj (.ref 1963)))=ac (⟨a8,[(1963,ud w)],m,[],[],[(1963,1963),(1963,1963)]⟩,k+0,.top (.pure (vb)))
lay_quick Mine.gQ Mine.cJ Mine.bJ Mine.KW Mine.YO Mine.Yz Mine.rP
theorem RK(w:sa)(b dd d:ma)(pl:xc Bool)(m k:Nat):gQ PP (Qd w) Hb w b dd d  pl  m k:=by
 rw[Fast.te13851074567553219033];unfold Fast.tw13851074567553219033
 kernel_rfl
theorem cX{dd d:ma}{pl:xc Bool}{Q:_->aa->Prop}(e:A.handled=a6)(F:Fk w s.heap)(hb:s.heap.get? b=ac (Fe dd d))(a:s.heap.get? dd=ac (zg))
  (c:∀h',(∀x o,s.heap.get? x=ac o->h'.get? x=ac o)->Q ((.ref 1924,[.ref b])) {s with heap:=h',toks:=s.toks+0}):wpAny (ja PP w) A (oj (.ref b) "extend" pl) Q E s:=
 ng e (RK w b dd d  pl  s.heap.objs.size s.toks) [dd,b,1924,1962,1963,1963,b,1962,1963,1963,b,1962,1963,1963,b] rfl (Ld hb (Ld (F.u (1963,ud w) (za 29 rfl) rfl) (Ld (F.u (1962,Gs w) (za 28 rfl) rfl) (Ld (F.u (1924,lx w) (za 25 rfl) rfl) (Ld a Sl))))) rfl rfl λh' hk hn=>c h' hk
theorem TG(w:sa)(b dd d:ma)(pl:xc Bool)(m k:Nat):cJ PP (Qd w) Hb w b dd d  pl  m k:=by
 rw[Fast.te12074808046947782031];unfold Fast.tw12074808046947782031
 kernel_rfl
theorem Y0{dd d:ma}{pl:xc Bool}{Q:_->aa->Prop}(e:A.handled=a6)(F:Fk w s.heap)(hb:s.heap.get? b=ac (Fe dd d))(a:s.heap.get? dd=ac (zg))
  (c:∀h',(∀x o,s.heap.get? x=ac o->h'.get? x=ac o)->Q ((.ref 1938,[.ref b])) {s with heap:=h',toks:=s.toks+0}):wpAny (ja PP w) A (oj (.ref b) "getbits" pl) Q E s:=
 ng e (TG w b dd d  pl  s.heap.objs.size s.toks) [dd,b,1938,1962,1963,1963,b,1962,1963,1963,b,1962,1963,1963,b] rfl (Ld hb (Ld (F.u (1963,ud w) (za 29 rfl) rfl) (Ld (F.u (1962,Gs w) (za 28 rfl) rfl) (Ld (F.u (1938,kG w) (za 26 rfl) rfl) (Ld a Sl))))) rfl rfl λh' hk hn=>c h' hk
theorem SG(w:sa)(b dd d:ma)(pl:xc Bool)(m k:Nat):bJ PP (Qd w) Hb w b dd d  pl  m k:=by
 rw[Fast.te15801866747344196153];unfold Fast.tw15801866747344196153
 kernel_rfl
theorem X0{dd d:ma}{pl:xc Bool}{Q:_->aa->Prop}(e:A.handled=a6)(F:Fk w s.heap)(hb:s.heap.get? b=ac (Fe dd d))(a:s.heap.get? dd=ac (zg))
  (c:∀h',(∀x o,s.heap.get? x=ac o->h'.get? x=ac o)->Q ((.ref 1945,[.ref b])) {s with heap:=h',toks:=s.toks+0}):wpAny (ja PP w) A (oj (.ref b) "toints" pl) Q E s:=
 ng e (SG w b dd d  pl  s.heap.objs.size s.toks) [dd,b,1945,1962,1963,1963,b,1962,1963,1963,b,1962,1963,1963,b] rfl (Ld hb (Ld (F.u (1963,ud w) (za 29 rfl) rfl) (Ld (F.u (1962,Gs w) (za 28 rfl) rfl) (Ld (F.u (1945,Hs w) (za 27 rfl) rfl) (Ld a Sl))))) rfl rfl λh' hk hn=>c h' hk
theorem CO(w:sa) (m k:Nat):KW PP (Qd w) Hb w  m k:=by
 rw[Fast.te8129807962389655931];unfold Fast.tw8129807962389655931
 kernel_rfl
theorem a4f {Q:_->aa->Prop}(b:A.handled=a6)(F:Fk w s.heap)
  (a:∀h',(∀x o,s.heap.get? x=ac o->h'.get? x=ac o)->Q ([.ref 1963,.type "object"]) {s with heap:=h',toks:=s.toks+0}):wpAny (ja PP w) A (a2V (.ref 1963)) Q E s:=
 ng b (CO w  s.heap.objs.size s.toks) [1963] rfl (Ld (F.u (1963,ud w) (za 29 rfl) rfl) Sl) rfl rfl λh' hk hn=>a h' hk
theorem qK(w:sa) (m k:Nat):YO PP (Qd w) Hb w  m k:=by
 rw[Fast.te4819119333682296196];unfold Fast.tw4819119333682296196
 kernel_rfl
theorem Z9 {Q:_->aa->Prop}(b:A.handled=a6)(F:Fk w s.heap)
  (a:∀h',(∀x o,s.heap.get? x=ac o->h'.get? x=ac o)->Q (ac "object.__new__") {s with heap:=h',toks:=s.toks+0}):wpAny (ja PP w) A (XH (.ref 1963)) Q E s:=
 ng b (qK w  s.heap.objs.size s.toks) [1963,1963] rfl (Ld (F.u (1963,ud w) (za 29 rfl) rfl) Sl) rfl rfl λh' hk hn=>a h' hk
theorem TB(w:sa)(b:ma)(m k:Nat):Yz PP (Qd w) Hb w b  m k:=by
 rw[Fast.te9963332502982950889];unfold Fast.tw9963332502982950889
 kernel_rfl
theorem oR{Q:_->aa->Prop}(c:A.handled=a6)(F:Fk w s.heap)
  (a:∀h',(∀x o,s.heap.get? x=ac o->h'.get? x=ac o)->Q ((.ref 1917,[.ref b])) {s with heap:=h',toks:=s.toks+0}):wpAny (ja PP w) A (rC (.ref 1917) (.ref b)) Q E s:=
 ng c (TB w b  s.heap.objs.size s.toks) [1917] rfl (Ld (F.u (1917,mx w) (za 24 rfl) rfl) Sl) rfl rfl λh' hk hn=>a h' hk
theorem wK(w:sa) (m k:Nat):rP PP (Qd w) Hb w  m k:=by
 rw[Fast.te16901851254475395725];unfold Fast.tw16901851254475395725
 kernel_rfl
theorem NW {Q:_->aa->Prop}(b:A.handled=a6)(F:Fk w s.heap)
  (a:∀h',(∀x o,s.heap.get? x=ac o->h'.get? x=ac o)->Q (vb) {s with heap:=h',toks:=s.toks+0}):wpAny (ja PP w) A (Lj (.ref 1963)) Q E s:=
 ng b (wK w  s.heap.objs.size s.toks) [1963,1963] rfl (Ld (F.u (1963,ud w) (za 29 rfl) rfl) Sl) rfl rfl λh' hk hn=>a h' hk
set_option tactic.hygienic true in
abbrev nxK(M:Bk)(A:Wc)(rest:List Ya)(ν:Al)(Q:Ff->aa->Prop):Ff->aa->Prop:=λf s'=>f=.next/\zd M A (Oc rest ν) Q s'
abbrev rtK(Q:Ff->aa->Prop):Ff->aa->Prop:=λf s'=>(∃v,f=.ret v)/\Q f s'
set_option tactic.hygienic true
abbrev stK(M:Bk)(A:Wc)(ν:Al)(x:Ba)(Q:Ff->aa->Prop):Value->aa->Prop:=λv b=>wpAny M A (PL ν x v) (λ_ a=>Q .next a) Hc b
abbrev exK(Q:Ff->aa->Prop):Value->aa->Prop:=λv b=>(∀a,v≠.ref a)/\Q .next b
set_option tactic.hygienic false
abbrev rvK(Q:Ff->aa->Prop):Value->aa->Prop:=λv a=>Q (.ret v) a
abbrev kpK(M:Bk)(A:Wc)(f:Value)(first:List Value)(Q:Value->aa->Prop):List Value->aa->Prop:=λvs b=>wpAny M A (Lj f) (λZ a=>zd M A (call f (first++vs) []) Q a) Hc b
abbrev agK(R:(List Value->aa->Prop)->aa->Prop)(Q:List Value->aa->Prop):Value->aa->Prop:=λv a=>R (λvs=>Q (v::vs)) a
section
theorem oH{body:List Ya}
  (h:zd (ja π w) (A.deeper ν) (Oc body ν) (λf s'=>R (.ok (.ret (match f with|.ret v=>v|_=>.none))) s') s):Bi (ja π w) A (.func body ν) R s:=by
 refine wi ?_;show zd _ (A.deeper ν) (do point;match <- (Oc body ν).onRaise (leaving ν) with|.ret v=>ret v|_=>ret .none) _ s
 refine Nj (nu (om (Dl (Od h λf s' h'=>?_))));cases f <;> exact Qb h'
theorem Br{args:Dp}{fd:Qm}{body:List Ya}(f:A.depth < xf)(r:s.heap.get? a=ac o)
  (l:o.data=.func fd) (n:fd.scope.isCoroutine=be) (i:fd.scope.isGenerator=be) (g:fd.body=.stmts body) (p:s.heap.CodeRec fd.code fd.qualname)
  (h:wpAny (ja π w) A.in1 (bindArgs fd args) (λbinds d=>
   wpAny (ja π w) A.in1 (sF fd.scope fd.globals fd.closure binds (fd.qualname++".<locals>.") (ac a) fd.code a6 fd.builtins)
    (λν b=>b.heap.NoLimit/\Bi (ja π w) A (.func body ν) R b) Hc d) Hc s):
  Bi (ja π w) A (.call (.ref a) args) R s:=by
 refine wi ?_;show zd _ A.in1 (callAny (.ref a) args) _ s
 refine Xh (m:=load a) (Jj r ?_);refine ue λhC=>?_;obtain ⟨c,oc,vs,t,hc,j,k,q⟩:=p;refine hC ?_;rw[l];show zd _ A.in1 (callFunction a fd args) _ s
 delta callFunction;rw[hc,i,n,g];rw[hc] at h;refine Nj (m:=zy (.ref c) 1) (Jd j k q (om (Qb ?_)));refine Nj (Ig h (λbinds d Eb=>Nj (Ig Eb (λν b e=>?_))));exact Nj (wpAny_enterFrame e.1 f (Qb (And.intro rfl ⟨rfl,e.2⟩)))
theorem nE{fd:Qm}{body:List Ya}{binds:List (Ba×Value)}(c:A.depth < xf)(m:s.heap.get? a=ac o)
  (hd:o.data=.func fd) (l:s.heap.CodeRec fd.code fd.qualname) (e:fd.body=.stmts body) (hb:mh s fd ⟨vs,[]⟩ binds) (g:s.heap.NoLimit) (j:fd.closure=[])
  (k:fd.scope.isCoroutine=be) (i:fd.scope.isGenerator=be) (hk:fd.scope.kind=.function)
  (d:∀x∈binds,fd.scope.names.lookup x.1=ac .local\/(fd.scope.names.lookup x.1=ac .cell/\((uh (s.heap.objs.size+1) fd.scope.names []).lookup x.1).isSome=a8))
  (h:∀b,InCallC s (bg fd s.heap.objs.size a).locals (wF (bg fd s.heap.objs.size a).kindOf binds λZ=>a6) (bg fd s.heap.objs.size a).cells (pS (bg fd s.heap.objs.size a).kindOf binds λZ=>a6) b->
   zd (ja π w) (A.deeper (bg fd s.heap.objs.size a)) (Oc body (bg fd s.heap.objs.size a)) (λf s'=>Q (match f with|.ret v=>v|_=>.none) s') b):
  zd (ja π w) A (call (.ref a) vs) Q s:=by
 refine Yp (Br c m hd k i e l (hb _ _ _ _ ?_));rw[j];refine pF hk d λν he s' x=>?_;subst he;exact⟨g.keeps x.toInCall.keep,oH (Od (h s' x) λf s' q=>⟨_,rfl,q⟩)⟩
variable{Q:Ff->aa->Prop}
set_option tactic.hygienic true in
theorem Jf(h:Q .next s):zd (ja π w) A (Oc [] ν) Q s:=Qb h
theorem ub{st:Ya}{rest:List Ya}(h:zd (ja π w) A (Cg st ν) (nxK (ja π w) A rest ν Q) s):zd (ja π w) A (Oc (st::rest) ν) Q s:=by
 rw[execs_cons];exact rk (Od h λf s' q=>by obtain ⟨rfl,q⟩:=q;exact q)
theorem Hl{st:Ya}{rest:List Ya}(h:zd (ja π w) A (Cg st ν) (rtK Q) s):zd (ja π w) A (Oc (st::rest) ν) Q s:=by
 rw[execs_cons];exact rk (Od h λf s' q=>by obtain ⟨⟨v,rfl⟩,q⟩:=q;exact Qb q)
theorem yk{x:Ba}{b pos:Sd}{a:Oa}(e:Lf a (ac (.Name x b)) pos.line ν=pure be)
  (h:zd (ja π w) A (eval a ν) (stK (ja π w) A ν x Q) s):zd (ja π w) A (Cg (.Assign [.Name x b] a pos) ν) Q s:=by
 rw[A5 ν x b a pos e];refine Nj (Fb (om (Od h λv d Eb=>Nj (Fb (Nj (Bo (Ig Eb (λZ c q=>Qb q))))))))
theorem cj{e:Oa}{pos:Sd}(hi:Nf ν=be)(c:Lf e a6 pos.line ν=pure be)
  (h:zd (ja π w) A (eval e ν) (exK Q) s):zd (ja π w) A (Cg (.Expr e pos) ν) Q s:=by
 rw[exec_Expr ν e pos hi c];refine Xh (Fb (rk (Od h λv b Eb=>?_)));obtain ⟨hv,q⟩:=Eb;rw[dropValue_plain (λa e=>hv a e)];exact Qb q
theorem xq{t:Oa}{body a:List Ya}{pos:Sd}{b:Bool}(h:wpAny (ja π w) A (isTrue t ν (eval t ν)) (λb' s'=>b'=b/\(if b then zd (ja π w) A (Oc body ν) Q s' else zd (ja π w) A (Oc a ν) Q s')) Hc s):
  zd (ja π w) A (Cg (.If t body a pos) ν) Q s:=by
 rw[exec_If];refine Nj (Fb (Nj (Ig h (λb' s' q=>?_))));obtain ⟨rfl,q⟩:=q;exact NX q
theorem ir{e:Oa}{pos:Sd}(h:zd (ja π w) A (eval e ν) (rvK Q) s):zd (ja π w) A (Cg (.Return (ac e) pos) ν) Q s:=by
 rw[exec_Return_some];exact Nj (Fb (om (Od h λv a q=>Qb q)))
theorem Ft{Q:List Value->aa->Prop}(h:Q [] s):zd (ja π w) A (Uj []) Q s:=Qb h
theorem Ky{x:xc Value}{rest:List (Bool×xc Value)}{Q:List Value->aa->Prop}(h:zd (ja π w) A x (λv b=>zd (ja π w) A (Uj rest) (λvs a=>Q (v::vs) a) b) s):
  zd (ja π w) A (Uj ((be,x)::rest)) Q s:=by
 show zd _ _ (x>>=λv=>(pure [v]:xc (List Value))>>=λc=>holding c (Uj rest)>>=λt=>pure (c++t)) _ _
 exact om (Od h λv b Eb=>om (Qb (om (yh (Od Eb λvs a q=>Qb q)))))
theorem eL{f:Value}{x:xc Value}{rest:List (Bool×xc Value)}{Q:Dp->aa->Prop}(h:zd (ja π w) A (Uj ((be,x)::rest)) (λvs a=>Q ⟨vs,[]⟩ a) s):
  zd (ja π w) A (xr f a8 ((be,x)::rest) []) Q s:=by
 unfold xr;show zd _ _ (Uj ((be,x)::rest)>>=_) _ _
 refine om (Od h λvs a Eb=>?_);refine yh ?_;dsimp only[cv,if_true];refine om (Qb (om (Qb (Qb ?_))));exact Eb
theorem gH{f:Value}{Q:Dp->aa->Prop}(h:Q ⟨[],[]⟩ s):zd (ja π w) A (xr f a8 [] []) Q s:=by
 unfold xr;show zd _ _ (Uj []>>=_) _ _
 refine om (Ft (om (Qb ?_)));refine yh ?_;dsimp only[cv,if_true];refine om (Qb (om (Qb (Qb ?_))));exact h
theorem Xl{E:Value->aa->Prop}{a:List Value}{Q:Unit->aa->Prop}:∀(l:List Value),Q () s->wpAny (ja π w) A (release.go a l) Q E s
 |[],h=>la h
 |[_],h=>la h
 |_::b::l,h=>Kb (Ta (nu (Xl (b::l) h)))
theorem fO{m:xc Value}{Q:Value->aa->Prop}(h:zd (ja π w) A m Q s):zd (ja π w) A (Xr vs m) Q s:=by
 unfold Xr;refine om (yh (Od h λv s' q=>?_));unfold release;exact Nj (Xl _ (Qb q))
theorem AL{pos:Sd}{f:Value}{first:List Value}{args:List (Bool×xc Value)}{Q:Value->aa->Prop}(d:args.any (·.1)=be)(i:args.length<=30)
  (h:zd (ja π w) A (xr f a8 args []) (λa e=>a.kw=[]/\wpAny (ja π w) A (Lj f) (λZ b=>zd (ja π w) A (call f (first++a.pos) []) Q b) Hc e) s):
  zd (ja π w) A (Ak pos f first args []) Q s:=by
 unfold Ak;refine om (yh (Od h λa e Eb=>?_));obtain ⟨hk,g⟩:=Eb;obtain ⟨ap,j⟩:=a;have hk:j=[]:=hk;subst hk;refine Nj (Fb ?_);have c:∀{t:xc Value} {b:aa},zd (ja π w) A t Q b->zd (ja π w) A (t>>=λr=>holding [r] point>>=λZ=>pure r) Q b:=
  λ{t b} ht=>om (Od ht λr b hr=>Nj (Ta (nu (Qb hr))))
 rw[d];refine Nj (m:=Lj f) (Ig g (λk b hc=>?_));have hn:¬(args.length+2*([]:List (Option Ba×xc Value)).length > 30):=by simp;omega
 cases k with
 |frame=>
  show zd _ _ (if args.length+2*([]:List (Option Ba×xc Value)).length > 30 then _ else _) _ _
  rw[if_neg hn];exact c (NC hc)
 |boundFrame=>
  show zd _ _ (if args.length+2*([]:List (Option Ba×xc Value)).length > 30 then _ else _) _ _
  rw[if_neg hn];exact c (NC hc)
 |machine=>exact c hc
 |caller=>exact c (fO hc)
noncomputable def vR{M:Bk}{A:Wc}:List (xc Value)->(List Value->aa->Prop)->aa->Prop
 |[],Q,s=>Q [] s
 |x::xs,Q,s=>zd M A x (agK (vR (M:=M) (A:=A) xs) Q) s
theorem Et:∀{xs:List (xc Value)} {Q:List Value->aa->Prop} {s:aa},vR (M:=ja π w) (A:=A) xs Q s->zd (ja π w) A (Uj (xs.map λx=>(be,x))) Q s
 |[],Q,s,h=>Ft h
 |x::xs,Q,s,h=>Ky (Od h λv a Eb=>Et Eb)
theorem Bd{pos:Sd}{f:Value}{first:List Value}{xs:List (xc Value)}{Q:Value->aa->Prop}(a:xs.length<=30)
  (h:vR (M:=ja π w) (A:=A) xs (kpK (ja π w) A f first Q) s):
  zd (ja π w) A (Ak pos f first (xs.map λx=>(be,x)) []) Q s:=by
 have b:(xs.map λx=>(be,x)).any (·.1)=be:=by
  rw[I4];simp
 refine AL b (by simpa using a) ?_;cases xs with
 |nil=>exact gH ⟨rfl,h⟩
 |cons x xs=>exact eL (Od (Et h) λvs c q=>⟨rfl,q⟩)
end
abbrev clK(M:Bk)(A:Wc)(pos:Sd)(args:List Oa)(ν:Al)(Q:Value->aa->Prop):Value->aa->Prop:=λf a=>zd M A (Ak pos f [] (Eh pos (mf args ν)) []) Q a
abbrev mtK(M:Bk)(A:Wc)(pos:Sd)(o:Oa)(name:Ba)(args:List Oa)(ν:Al)(Q:Value->aa->Prop):Value->aa->Prop:=
 λc b=>wpAny M A (oj c name (do return (<- importBound o ν).getD a8)) (λr a=>zd M A (Ak pos r.1 r.2 (Eh pos (mf args ν)) []) Q a) Hc b
abbrev foK(M:Bk)(A:Wc)(a:Oa)(body:List Ya)(ν:Al)(Q:Ff->aa->Prop):Value->aa->Prop:=
 λx c=>wpAny M A (Gi x) (λit b=>Bi M A (.forLoop a it body [] ν) (λr s'=>∃f,r=.ok f/\Q f s') b) Hc c
set_option tactic.hygienic true in
abbrev saK(M:Bk)(A:Wc)(o:Oa)(d:Ba)(ν:Al)(Q:Ff->aa->Prop):Value->aa->Prop:=
 λv c=>wpAny M A (eval o ν) (λe b=>wpAny M A (setAttr e d v) (λ_ a=>Q .next a) Hc b) Hc c
section
theorem vi{x:Ba}{a pos:Sd}{args:List Oa}
  (h:wpAny (ja π w) A (eval (.Name x a) ν) (clK (ja π w) A pos args ν Q) Hc s):
  zd (ja π w) A (eval (.Call (.Name x a) args [] pos) ν) Q s:=by
 show zd _ A (do Ak pos (<- eval (.Name x a) ν) [] (Eh pos (mf args ν)) (qS pos (qC [] ν))) Q s
 exact Xh h
theorem mcp{o:Oa}{a pos:Sd}(b:(a.endLine==pos.line)=a8):methodCallPos a8 o ν a pos=pure pos:=by unfold methodCallPos;simp[b]
theorem Zk{o:Oa}{name:Ba}{a pos:Sd}{args:List Oa}(d:JJ o name ν (eval o ν)=eval o ν)
  (g:Ho args.length (Eh pos (mf args ν)) []=a8) (b:(a.endLine==pos.line)=a8)
  (h:zd (ja π w) A (eval o ν) (mtK (ja π w) A pos o name args ν Q) s):
  zd (ja π w) A (eval (.Call (.Attribute o name a) args [] pos) ν) Q s:=by
 rw[arm_eval_Call,d];refine rk (Od h λk j Eb=>?_);refine Xh (Fb ?_);have c:Ho (args.length+([]:List Keyword).length) (Eh pos (mf args ν)) (qS pos (qC [] ν))=a8:=g;have e:=mcp (o:=o) (ν:=ν) b;unfold methodCall;rw[c];refine Xh (Ta (Ig Eb (λr i q=>?_)));obtain ⟨f,first⟩:=r;exact rk (Vk e q)
theorem Zt{o:Oa}{b:Ba}{d pos:Sd}{a:Oa}{Q:Ff->aa->Prop}(i:Lf a (ac (.Attribute o b d)) pos.line ν=pure be)
  (h:zd (ja π w) A (eval a ν) (saK (ja π w) A o b ν Q) s):
  zd (ja π w) A (Cg (.Assign [.Attribute o b d] a pos) ν) Q s:=by
 rw[plainObj_exec_Assign_Attribute o b d a pos i];refine Xh (Fb (rk (Od h λv g Eb=>?_)));rw[assign_Attribute];refine Nj (Kb (Ta (Ig Eb (λj f c=>Kb (Fb (Kb (Ta (Ig c (λZ e q=>?_)))))))));unfold release;exact Xl _ (Qb q)
set_option tactic.hygienic true
theorem Hm{c:List Oa}{b pos:Sd}{a:Oa}{Q:Ff->aa->Prop}
  (g:swapsWithSole [.Tuple c k b] a pos.line ν=pure be) (f:swappedStores [.Tuple c k b] a ν=pure a6)
  (h:zd (ja π w) A (eval a ν) (λv d=>wpAny (ja π w) A (Qk (.Tuple c k b) ν v) (λ_ e=>Q .next e) Hc d) s):
  zd (ja π w) A (Cg (.Assign [.Tuple c k b] a pos) ν) Q s:=by
 rw[a2o];refine Nj (Fb ?_);rw[g];refine rk (Qb ?_);rw[if_neg (by decide)];refine om (Od h λv d Eb=>?_);rw[f];refine om (Qb ?_);show zd _ _ (do assignAll v [Qk (.Tuple c k b) ν];pure .next) Q d
 exact Nj (Ig Eb (λ_ _ x=>Qb x))
theorem Mn{a:Oa}{it:Value}{body:List Ya}(I:Nat->aa->Prop)
  (ht:∀v,Vg a it v=pure ())
  (e:∀n s,I n s->wpAny (ja π w) A (Vh it) (λr b=>match r with
   |none=>R (.ok .next) b
   |some v=>wpAny (ja π w) A (Qk a ν v) (λ_ d=>zd (ja π w) A (Oc body ν) (λf c=>f=.next/\∃m,m < n/\I m c) d) Hc b) Hc s)
  (n:Nat) (h:I n s):Bi (ja π w) A (.forLoop a it body [] ν) R s:=by
 induction n using WV generalizing s with
 |ind n i=>
  refine wi ?_;show zd _ _ ((forTurn a it body [] ν).onRaise (λx=>do ur x ν;theTreesLotGoes x)) _ s
  refine Dl ?_;dsimp only[forTurn];refine Nj (Fb (om (Dl (kc (Ig (e n s h) (λr b Eb=>?_))))));cases r with
  |none=>
   refine Qb ⟨rfl,rfl,wi ?_⟩;show zd _ _ (do return Fin.done (<- (Oc [] ν).onRaise (λx=>do ur x ν;theTreesLotGoes x))) _ b
   exact om (Dl (Jf (Qb Eb)))
  |some v=>
   refine om (Vk (ht v) ?_);refine Nj (Ig Eb (λ_ d g=>om (Od g λf c q=>?_)));obtain ⟨rfl,m,hm,hI⟩:=q;exact Qb ⟨rfl,rfl,i m hm hI⟩
set_option tactic.hygienic false
theorem jr{a b:Oa}{body:List Ya}{pos:Sd}{Q:Ff->aa->Prop}(f:∀x,Me b ν x=pure x)
  (h:wpAny (ja π w) A (eval b ν) (foK (ja π w) A a body ν Q) Hc s):
  zd (ja π w) A (Cg (.For a b body [] pos) ν) Q s:=by
 rw[exec_For];refine Nj (Fb (Nj (Ig h (λx e Eb=>?_))));refine om (Vk (f x) (Nj (Fb (Nj (Ta (Ig Eb (λit d c=>?_)))))));exact GF rfl c
end
noncomputable def gvs:List (Ba×Int×xm):=[("VERSION_M4",0,253),("VERSION_M3",-1,256),("VERSION_M2",-2,259),("VERSION_M1",-3,262),("ERROR_LEVEL_L",1,264),("ERROR_LEVEL_M",0,266),("ERROR_LEVEL_Q",3,268),("ERROR_LEVEL_H",2,270)]
noncomputable def uB(x:Ba):Option P:=(gvs.lookup x).map λv=>.int v.1
theorem YP(g:Jb)(w:sa):gvs.map (λy=>ij (Zp g w) y.1)=gvs.map (λy=>ac (.int y.2.1 y.2.2)):=by kernel_rfl
theorem iJ(g:Jb)(w:sa):([ra "len",ra "range",ra "list",ra "max",ra "zip",ra "bytearray",ra "reversed",ra "int",ra "map",ra "str",ra "issubclass",ra "type",ra "tuple"]:List Ba).map (λy=>ij (Zp g w) y)=Qa 13 a6:=by kernel_rfl
noncomputable def OT(w:sa):Ba->Option Value:=(jj w).nsMap Kd
noncomputable def mbW(w:sa):Ba->Option Value:=(jj w).nsMap td
theorem Ms(w:sa)(x:Ba):OT w x=ij (jj w) x:=(VV (Tq w) x).symm
theorem Hz{l:List (Ba×Int×xm)}{f:Ba->Option Value}(h:l.map (λy=>f y.1)=l.map (λy=>ac (.int y.2.1 y.2.2))):∀{x:Ba} {v:Int×xm},l.lookup x=ac v->f x=ac (.int v.1 v.2):=by
 induction l with
 |nil=>intro x v e;cases e
 |cons y l a=>
  intro x v e;simp only[Mb,List.cons.injEq] at h;rw[Ka] at e;cases q:x==y.1 with
  |true=>
   rw[q] at e;obtain rfl:=xa e;rw[beq_iff_eq.mp q];exact h.1
  |false=>rw[q] at e;exact a h.2 e
theorem qD{l:List Ba}{f:Ba->Option Value}(h:l.map f=Qa n a6):∀x∈l,f x=a6:=by
 intro x a;have:f x∈l.map f:=ze a;rw[h] at this
 exact(Di.mp this).2
theorem gY(w:sa)(x:Ba)(a:x≠"__name__"):(jj w).nsMap td x=ei x:=by
 have e:=Sn w;simp only[Ie] at e;refine ue λhC=>?_;obtain ⟨_,_,_,eb,hb,_⟩:=e;refine hC ?_;exact DS hb eb x a
noncomputable def GW(w:sa):Gl where
 mg:=OT w
 mb:=mbW w
 gv:=uB
 gok:=λx p e=>by
  delta uB at e;cases q:gvs.lookup x with
  |none=>rw[q] at e;cases e
  |some v=>
   rw[q] at e;obtain rfl:=xa e;exact⟨.int v.1 v.2,by rw[Ms];exact Hz (YP _ w) q,λh=>⟨v.2,rfl⟩⟩
 bok:=λx a=>gY w x a
 free:=λx a=>by
  rw[Ms];refine qD (iJ _ w) x ?_;exact Ua.mp (Aa.mp (by kernel_rfl:List.all _ (λy=>List.contains _ y)=a8) x a)
theorem oe(w:sa){x:Ba}(h:x∈([ra "len",ra "range",ra "list",ra "max",ra "zip",ra "bytearray",ra "reversed",ra "int",ra "map",ra "str",ra "issubclass",ra "type",ra "tuple"]:List Ba)):(GW w).mg x=a6:=
 (Ms w x).trans (qD (iJ _ w) x h)
theorem sf(F:Fk w h):GS (GW w) h:=by
 refine⟨?_,?_,?_⟩
 ·have e:(jj w).Ns Kd ((jj w).nsMap Kd):=ip (Tq w);exact e.at' λo q=>F.i5.trans q
 ·have e:(jj w).Ns td ((jj w).nsMap td):=ip (Cu w);exact e.at' λo q=>F.at0.trans q
 ·have a:(jj w).isNs Of=a8:=by kernel_rfl
  have e:(jj w).Ns Of ((jj w).nsMap Of):=ip a;refine⟨_,e.at' λo q=>F.at2.trans q,?_⟩
  rw[<- Pin.staticOf_eq a]
  kernel_rfl
theorem Gg:KJ "bytearray" "__getitem__" "bytearray.__getitem__":=
 .of (owner:="bytearray") (n:="__getitem__") (by rw[Pb,ab];kernel_rfl) (by decide +kernel) (by decide +kernel) (by decide +kernel)
  (.inl (by decide +kernel)) (by rw[ke];kernel_rfl)
theorem vp:KJ "bytearray" "__setitem__" "bytearray.__setitem__":=
 .of (owner:="bytearray") (n:="__setitem__") (by rw[Pb,ab];kernel_rfl) (by decide +kernel) (by decide +kernel) (by decide +kernel)
  (.inl (by decide +kernel)) (by rw[ke];kernel_rfl)
theorem Hq:KJ "bytearray" "__len__" "bytearray.__len__":=
 .of (owner:="bytearray") (n:="__len__") (by rw[Pb,ab];kernel_rfl) (by decide +kernel) (by decide +kernel) (by decide +kernel)
  (.inl (by decide +kernel)) (by rw[ke];kernel_rfl)
theorem iu:KJ "bytearray" "__iter__" "bytearray.__iter__":=
 .of (owner:="bytearray") (n:="__iter__") (by rw[Pb,ab];kernel_rfl) (by decide +kernel) (by decide +kernel) (by decide +kernel)
  (.inl (by decide +kernel)) (by rw[ke];kernel_rfl)
theorem mj:KJ "bytearray_iterator" "__next__" "bytearray_iterator.__next__":=
 .of (owner:="bytearray_iterator") (n:="__next__") (by rw[Pb,ab];kernel_rfl) (by decide +kernel) (by decide +kernel) (by decide +kernel)
  (.inl (by decide +kernel)) (by rw[ke];kernel_rfl)
theorem eu:KJ "bytearray_iterator" "__iter__" "bytearray_iterator.__iter__":=
 .of (owner:="bytearray_iterator") (n:="__iter__") (by rw[Pb,ab];kernel_rfl) (by decide +kernel) (by decide +kernel) (by decide +kernel)
  (.inl (by decide +kernel)) (by rw[ke];kernel_rfl)
theorem qo:Ng Kj "bytearray.__getitem__"=ac Builtin.«bytearray.__getitem__»:=cf (by kernel_rfl)
theorem Uu:Ng Kj "bytearray.__setitem__"=ac Builtin.«bytearray.__setitem__»:=cf (by kernel_rfl)
theorem YB:Ng Kj "bytearray.__len__"=ac Builtin.«bytearray.__len__»:=cf (by kernel_rfl)
theorem iz:Ng Kj "bytearray.__iter__"=ac Builtin.«bytearray.__iter__»:=cf (by kernel_rfl)
theorem Rr:Ng Kj "bytearray_iterator.__next__"=ac Builtin.«bytearray_iterator.__next__»:=cf (by kernel_rfl)
theorem xp(a x:Value):fs "bytearray.__getitem__" ⟨[a,x],[]⟩:=by kernel_rfl
theorem Xv(a x y:Value):fs "bytearray.__setitem__" ⟨[a,x,y],[]⟩:=by kernel_rfl
theorem JE(a:Value):fs "bytearray.__len__" ⟨[a],[]⟩:=by kernel_rfl
theorem dC(a:Value):fs "bytearray.__iter__" ⟨[a],[]⟩:=by kernel_rfl
theorem fu(a:Value):fs "bytearray_iterator.__next__" ⟨[a],[]⟩:=by kernel_rfl
theorem UB(a:Value):fs "bytearray_iterator.__iter__" ⟨[a],[]⟩:=by kernel_rfl
def yi(h:Xb)(a:ma)(ns:List Int):Prop:=h.get? a=ac (Tb (Wa ns))
theorem Iv(ns:List Int)(hb:dj ns)(j:Nat)(a:j < ns.length):∃x:UInt8,(Wa ns)[j]?=ac x/\(x.toNat:Int)=ns.getD j 0:=by
 have h1:ns[j]?=ac ns[j]:=Sa a;refine⟨ns[j].toNat.toUInt8,by simp[Wa,h1],?_⟩
 have h2:=hb ns[j] (Ll a);have d:ns.getD j 0=ns[j]:=by simp[fw,h1]
 rw[d];have c:ns[j].toNat < 256:=(Aj h2.1).mpr h2.2;have b:(ns[j].toNat.toUInt8).toNat=ns[j].toNat:=by
  show(UInt8.ofNat ns[j].toNat).toNat=_
  rw[UInt8.toNat_ofNat'];exact uS c
 rw[b];exact gf h2.1
theorem dj.take(h:dj ns)(k:Nat):dj (ns.take k):=λn hn=>h n (Dr hn)
theorem dj.drop(h:dj ns)(k:Nat):dj (ns.drop k):=λn hn=>h n (TH hn)
theorem dj.append{ms:List Int}(h:dj ns)(g:dj ms):dj (ns++ms):=λn hn=>(we.mp hn).elim (h n) (g n)
theorem dj.set(h:dj ns)(k:Nat){v:Int}(h0:0<=v)(h1:v < 256):dj (ns.set k v):=λn hn=>by
 rcases List.mem_or_eq_of_mem_set hn with q|rfl
 ·exact h n q
 ·exact⟨h0,h1⟩
theorem qE(ns:List Int)(k:Nat)(v:Int):(Wa ns).setIfInBounds k v.toNat.toUInt8=Wa (ns.set k v):=by
 unfold Wa;rw[ZE]
 simp
theorem Dq(ns ms:List Int):Wa ns++Wa ms=Wa (ns++ms):=by simp[Wa]
theorem GV(ns:List Int)(a b:Nat):(((Ea (b-a)).map (a+·)).filterMap ((Wa ns)[·]?)).toArray=Wa ((ns.drop a).take (b-a)):=by
 rw[pick_run];simp[Wa,List.map_drop,List.map_take]
noncomputable def Aq(lo:Option Int)(n:Nat):Nat:=match lo with
 |none=>0
 |some i=>(max 0 (min (if i < 0 then i+n else i) n)).toNat
noncomputable def Dv(hi:Option Int)(n:Nat):Nat:=match hi with
 |none=>n
 |some i=>(max 0 (min (if i < 0 then i+n else i) n)).toNat
theorem Oz(h:k<=n):Aq (ac (k:Int)) n=k:=by
 show(max 0 (min (if (k:Int) < 0 then (k:Int)+n else k) (n:Int))).toNat=k
 rw[if_neg (vu.mpr (Ja k)),gW (Xf.mpr h),Rw (Ja k)];rfl
theorem qL(k n:Nat):Dv (ac (k:Int)) n=min k n:=by
 show(max 0 (min (if (k:Int) < 0 then (k:Int)+n else k) (n:Int))).toNat=_
 rw[if_neg (vu.mpr (Ja k)),Rw (Int.le_min.mpr ⟨Ja _,Ja _⟩)]
 exact(M5 k n).elim (λh=>by rw[Qi h,gW (Xf.mpr h)];rfl) λh=>by rw[Ol h,Int.min_eq_right (Xf.mpr h)];rfl
theorem ZJ{α:Type _}(l:List α)(i j:Nat):l.take (min (i+j) (i+l.length)-i)=l.take j:=by
 rw[Nat.add_min_add_left,Jg,<- List.take_take,Ye (yb l.length)]
theorem mH(lo hi:Option Int)(n:Nat):sliceBounds lo hi a6 n=((Aq lo n:Int),(Dv hi n:Int),1):=by
 dsimp only[sliceBounds,Option.getD_none,show(1:Int) > 0 by decide,if_true]
 congr 1
 ·cases lo with
  |none=>rfl
  |some i=>exact(gf (Hy ..)).symm
 ·congr 1
  cases hi with
  |none=>rfl
  |some i=>exact(gf (Hy ..)).symm
theorem gu{i:Int}{Q:Option Int->aa->Prop}(h0:-(2 ^ 63)<=i)(h1:i < 2 ^ 63)(h:Q (ac i) s):wpAny (ja π w) A (Vi (.int i t)) Q E s:=by
 unfold Vi;refine Kb (Ib (qF s i t) int_index ?_);dsimp only[PH,Zj,if_false];refine Kb (Ga (a:=i) rfl ?_);have e:(!Am i)=be:=by
  unfold Am;simp only[Bool.not_eq_false',Pd,decide_eq_true_eq];exact⟨h0,h1⟩
 show wpAny _ _ (if (!Am i)=a8 then _ else _) _ _ _
 rw[e];exact la h
noncomputable def jo(v:Value):xc Value:=do
 if v==.none then return .none
 if (<- jl v "__index__").isNone then
  rule "bytes.slice.part-no-index";raiseError "TypeError" "slice indices must be integers or None or have an __index__ method"
 return ee (<- asIndex v)
theorem Vs(s:Value):yu s=(do
  let og <- jo (<- zy s 2)
  if og==ee 0 then rule "bytes.slice.step-zero";raiseError "ValueError" "slice step cannot be zero"
  let start <- jo (<- zy s 0)
  let a <- jo (<- zy s 1)
  return (start,a,og)):=rfl
theorem Ql{k:Option Int}(hv:a3e v k)(h:Q (rawPart k) s):wpAny (ja π w) A (jo v) Q E s:=by
 cases hv with
 |none=>exact la h
 |int i t=>
  unfold jo;rw[if_neg (show¬((Io i t==yp)=a8) from ih)];refine Kb (Ib (T:="int") (qF s i t) int_index ?_);dsimp only[PH,Zj,if_false];exact Kb (Ga (a:=i) rfl (la h))
theorem seqIndex_of{k:Int}(h0:0<=k)(h1:k < n):p5 k n=ac k.toNat:=by
 unfold p5;have:¬k < 0:=by lia
 simp[this];lia
theorem qR{k:Int}(hb:yi s.heap a ns)(b:dj ns)(h0:0<=k)(h1:k < ns.length)(hz:ns.length<=2 ^ 24)
  (h:∀u tk,Q (.int (ns.getD k.toNat 0) u) {s with toks:=tk}):wpAny (ja π w) A (Vj (.ref a) (.int k t)) Q E s:=by
 have hT:=yc hb;unfold Vj
 try with_reducible refine Ta ?_
 first|refine jb (la ?_)|skip
 refine jb (Fp hT (by decide) ?_);refine jb (wc (name:=ra "__getitem__") hT Gg
  (Pc Gg hT qo ?_ (xp _ _)))
 unfold Builtin.«bytearray.__getitem__»;refine jb (Ga (a:=(.ref a,[.int k t])) rfl ?_);dsimp only;refine jb (gu (by lia) (by lia) ?_);dsimp only;refine jb (Pj hb ?_);obtain ⟨x,c,hv⟩:=Iv ns b k.toNat (by lia);rw[seqIndex_of h0 (by rw[Ae];exact h1)];simp only[Option.bind_some,c];unfold retInt;refine jb (kS (la ⟨_,rfl,la ?_⟩));rw[hv];exact h _ _
theorem rR{f:ma}{i g:Value}{lo hi:Option Int}(hb:yi s.heap a ns)(l:s.heap.IsSliceOf f i g .none)(pl:a3e i lo)(k:a3e g hi)(hz:ns.length<=2 ^ 24)
  (h:Q (.ref s.heap.objs.size) {s with heap:=s.heap.push (Tb (Wa ((ns.drop (Aq lo ns.length)).take (Dv hi ns.length-Aq lo ns.length))))}):
  wpAny (ja π w) A (Vj (.ref a) (.ref f)) Q E s:=by
 have hT:=yc hb;refine ue λhC=>?_;obtain ⟨os,b,j,c⟩:=id l;refine hC ?_;have d:s.TypeIs (.ref f) "slice":=⟨os,b,j⟩;unfold Vj
 try with_reducible refine Ta ?_
 first|refine jb (la ?_)|skip
 refine jb (Fp hT (by decide) ?_);refine jb (wc (name:=ra "__getitem__") hT Gg
  (Pc Gg hT qo ?_ (xp _ _)))
 unfold Builtin.«bytearray.__getitem__»;refine jb (Ga (a:=(.ref a,[.ref f])) rfl ?_);dsimp only;refine jb (m:=Vi _) ?_
 ·unfold Vi;refine jb (Ib d slice_no_index ?_);simp only[Option.isNone_none,if_true];refine la ?_;dsimp only;refine jb (Ml d ?_);rw[if_neg (by decide)];refine jb (m:=yu _) ?_;rw[Vs];refine jb (Jd b c (x:=.none) rfl (jb (Ql .none ?_)));rw[if_neg (by decide)];refine jb (Jd b c (x:=i) rfl (jb (Ql pl ?_)));refine jb (Jd b c (x:=g) rfl (jb (Ql k (la ?_))));dsimp only;refine jb (Pj hb ?_);refine jb (Ga (sliceIndices_raw lo hi a6 _ (by decide)) ?_);rw[mH];dsimp only;have e:Uw (Wa ns) (Aq lo (Wa ns).size) (Dv hi (Wa ns).size) 1=Wa ((ns.drop (Aq lo ns.length)).take (Dv hi ns.length-Aq lo ns.length)):=by
   unfold Uw;rw[sliceRange_one,GV,Ae]
  rw[e];refine jb (rD ?_ (la ⟨_,rfl,la h⟩));rw[Ae];exact ka (List.length_take_le' _ _) (ka (by rw[ji];exact Rf ..) (ka hz (by decide)))
theorem Q3{k v:Int}{Q:Unit->aa->Prop}(hb:yi s.heap a ns)(h0:0<=k)(h1:k < ns.length)(hz:ns.length<=2 ^ 24)(c:0<=v)(b:v < 256)
  (h:∀h',yi h' a (ns.set k.toNat v)->Rd a s.heap h'->Q () {s with heap:=h'}):wpAny (ja π w) A (z4 (.ref a) (.int k t) (.int v u)) Q E s:=by
 have hT:=yc hb;unfold z4
 try with_reducible refine Ta ?_
 first|refine jb (la ?_)|skip
 refine jb (Fp hT (by decide) ?_);refine jb (wc (name:=ra "__setitem__") hT vp
  (Pc vp hT Uu ?_ (Xv _ _ _)))
 unfold Builtin.«bytearray.__setitem__»;rw[if_neg (by simp)];dsimp only;refine jb (gu (by lia) (by lia) ?_);dsimp only;refine jb (cu c b ?_);refine jb (Pj hb ?_);rw[seqIndex_of h0 (by rw[Ae];exact h1)];dsimp only;refine jb (Bl (b':=Wa (ns.set k.toNat v)) hb (qE _ _ _) (by rw[Ae,ag];dsimp only[mc];lia) λh' e d=>?_);exact la ⟨_,rfl,la (h h' e d)⟩
theorem CH(hb:yi s.heap a ns)(h:Q (.int ns.length s.toks) {s with toks:=s.toks+1}):
  wpAny (ja π w) A (call (.builtin "bytearray.__len__") [.ref a]) Q E s:=by
 have hT:=yc hb;refine Pc Hq hT YB ?_ (JE _);unfold Builtin.«bytearray.__len__»;refine Kb (Ga (a:=(.ref a,[])) rfl ?_);dsimp only;refine jb (Pj hb ?_);unfold retInt;rw[Ae];exact Kb (kS (la ⟨_,rfl,h⟩))
theorem Tu(hb:yi s.heap a ns)(hz:ns.length<=2 ^ 24)(h:∀u tk,Q (.int ns.length u) {s with toks:=tk}):
  wpAny (ja π w) A (call (.builtin "len") [.ref a]) Q E s:=
 a2p (n:=ns.length) (yc hb) Hq (λc b=>CH hb b) (by lia) (by lia) (h _ _)
def cp(h:Xb)(it a:ma)(i:Nat):Prop:=h.get? it=ac {cls:=.type "bytearray_iterator",data:=.fields #[.ref a,ee i]}
theorem HV(hb:yi s.heap a ns)(h:Q (.ref s.heap.objs.size) {s with heap:=s.heap.push {cls:=.type "bytearray_iterator",data:=.fields #[.ref a,ee 0]}}):
  wpAny (ja π w) A (Gi (.ref a)) Q E s:=by
 have hT:=yc hb;refine vy hT iu (Pc iu hT iz ?_ (dC _));unfold Builtin.«bytearray.__iter__»;refine Kb (Ga (a:=(.ref a,[])) rfl ?_);dsimp only;refine Kb (m:=newFields _ _) ?_;unfold newFields;exact Ed (la ⟨_,rfl,"bytearray_iterator",_,⟨_,qa _ rfl,rfl⟩,mj.lookup,h⟩)
theorem ez:Ng Kj "bytearray_iterator.__iter__"=ac Builtin.«dict_keyiterator.__iter__»:=
 entryFor_alias (id':="dict_keyiterator.__iter__") (by kernel_rfl) (by rfl) (by decide +kernel) (by kernel_rfl)
theorem DV{it:ma}(b:cp s.heap it a i)(h:Q (.ref it) s):wpAny (ja π w) A (Gi (.ref it)) Q E s:=by
 have hT:s.TypeIs (.ref it) "bytearray_iterator":=⟨_,b,rfl⟩;refine vy hT eu (Pc eu hT ez ?_ (UB _));show wpAny _ _ (ret (.ref it)) _ _ s
 exact la ⟨_,rfl,"bytearray_iterator",_,hT,mj.lookup,h⟩
theorem FV{it:ma}{Q:Option Value->aa->Prop}(b:cp s.heap it a i)(hb:yi s.heap a ns)(c:dj ns)(hi:i < ns.length)
  (h:∀h' u tk,cp h' it a (i+1)->Rd it s.heap h'->Q (ac (.int (ns.getD i 0) u)) {s with heap:=h',toks:=tk}):wpAny (ja π w) A (Vh (.ref it)) Q E s:=by
 have hT:s.TypeIs (.ref it) "bytearray_iterator":=⟨_,b,rfl⟩;unfold Vh;refine Kb (qi (wc (name:=ra "__next__") hT mj
  (Pc mj hT Rr ?_ (fu _))))
 unfold Builtin.«bytearray_iterator.__next__»;refine Kb (Ga (a:=(.ref it,[])) rfl ?_);dsimp only;refine Kb (Jd b rfl (x:=.ref a) rfl ?_);dsimp only;refine jb (Jj hb ?_);dsimp only;refine jb (Jd b rfl (x:=ee i) rfl ?_);dsimp only[ee];obtain ⟨x,d,hv⟩:=Iv ns c i hi;simp only[Bb,d];refine Kb (a2P b rfl (by simp) ?_);unfold retInt;refine Kb (kS (la ⟨_,rfl,la ?_⟩));rw[hv];refine h _ _ _ ?_ (wh ..)
 refine(Zc _ b rfl).trans ?_
 simp[Obj.mapFields,ee]
theorem O3{it:ma}{Q:Option Value->aa->Prop}(e:A.handled=a6)(c:cp s.heap it a i)(hb:yi s.heap a ns)(hi:ns.length<=i)
  (h:∀h',nk it s.heap h'->Q a6 {s with heap:=h'}):wpAny (ja π w) A (Vh (.ref it)) Q E s:=by
 have hT:s.TypeIs (.ref it) "bytearray_iterator":=⟨_,c,rfl⟩;unfold Vh;refine Kb (qi (wc (name:=ra "__next__") hT mj
  (Pc mj hT Rr ?_ (fu _))))
 unfold Builtin.«bytearray_iterator.__next__»;refine Kb (Ga (a:=(.ref it,[])) rfl ?_);dsimp only;refine Kb (Jd c rfl (x:=.ref a) rfl ?_);dsimp only;refine jb (Jj hb ?_);dsimp only;refine jb (Jd c rfl (x:=ee i) rfl ?_);dsimp only[ee];have d:(Wa ns)[i]?=a6:=by rw[Cp];rw[Ae];exact hi
 simp only[Bb,d];refine Kb (oi (Kb (a2P c rfl (by simp) ?_)));refine Kb (Gp ?_);show wpAny _ _ (zX (.type "StopIteration") []>>=_) _ _ _
 refine Kb ?_;simp only[zX,newTuple];refine Kb (Ed ?_ (by size_fits));refine Kb (m:=a2X _ _) (Ga (a:=yp) (by rfl) ?_);refine Ed ?_ (by size_fits);refine Kb (m:=handled) (wpAny_handled ?_);rw[show A.in1.handled=a6 from e];refine Kb (la (iS ?_));refine Kb (Bg (T:="StopIteration") (b:=a8) ⟨_,qa _ rfl,rfl⟩ tF ?_);exact la (h _ (((wh ..).extBut.push _).push _))
theorem Walks.ba(l:A.handled=a6)(I a:ma)(g:a≠I)(ns:List Int)(k:dj ns):
  Walks π w A I [I,a] [I] ns.length (λi v=>∃u,v=.int (ns.getD i 0) u) (λi h=>cp h I a i/\yi h a ns) where
 sub:=λb hb=>by simp at hb;simp[hb]
 frame:=λZ Z Z st hk=>⟨hk I (by simp) _ st.1,hk a (by simp) _ st.2⟩
 item:=λi s Q E hi st f=>by
  refine FV st.1 st.2 k hi λh' u tk d c=>?_;exact f _ h' tk ⟨u,rfl⟩ ⟨d,(c.2 a g).trans st.2⟩ λb o hb e=>c.extBut b o (λh=>hb (by simp[h])) e
 done:=λs Q E st f=>O3 l st.1 st.2 (yb _) λh' j=>f h' s.toks λb o hb e=>j b o (λh=>hb (by simp[h])) e
 self:=λZ Z Z Z st f=>DV st.1 f
theorem zx{vs:Array Value}(h:ItemsOf (λi v=>∃u,v=.int (ns.getD i 0) u) vs ns.length):IntsAre vs.toList ns:=by
 refine h.elim λh1 h2=>?_;have b:∀(ms:List Int) (a:List Value),a.length=ms.length->(∀(i:Nat) v,a[i]?=ac v->∃u,v=.int (ms.getD i 0) u)->IntsAre a ms:=by
  intro ms;induction ms with
  |nil=>intro a hl _;cases a with|nil=>exact .nil|cons=>simp at hl
  |cons m ms c=>
   intro a hl hv;cases a with
   |nil=>simp at hl
   |cons v a=>
    obtain ⟨u,rfl⟩:=hv 0 v rfl;exact .cons m u (c a (by simpa using hl) λi x d=>by simpa using hv (i+1) x (by simpa using d))
 exact b ns vs.toList (by simpa using h1) λi v hv=>h2 i v (by simpa using hv)
theorem WB:splitId "bytearray.__len__"=ac ("bytearray","__len__"):=by decide +kernel
theorem JU{Q:Bool->aa->Prop}(hb:yi s.heap a ns)(hz:ns.length<=2 ^ 24)
  (h:∀b tk,Q b {s with toks:=tk}):wpAny (ja π w) A (ll (.ref a)) Q E s:=by
 have hT:=yc hb;unfold ll;refine jb (Ib hT Hq.lookup ?_);generalize d:("bytearray.__len__":String)=e
 wp_delta
 rw[show splitId e=ac ("bytearray","__len__") from by subst d;exact WB];subst d;refine Kb (Bg (T:="bytearray") (b:=a8) hT Kl ?_);refine An (λc=>absurd c (by decide)) (λZ=>?_);refine An (λc=>?_) (λc=>?_)
 ·exact Kb (Ml hT (la (h _ _)))
 refine An (λZ=>?_) (λc=>absurd rfl c);refine Kb (oi ?_);refine Kb (qi (Tu hb hz λu tk=>?_));have f:gj ((ns.length:Int).toNat)=be:=by simp[gj,mc];omega
 refine Kb (m:=asInt? _) (la ?_);exact An (λc=>absurd c (by rw[f];decide)) (λZ=>la (h _ _))
theorem jy{r:ma}(M:A.handled=a6)(hr:yi s.heap r ns)(L:dj ns)(hz:ns.length<=2 ^ 24)(S:ma)(m:Value)(p:Nat)(I:s.heap.get? S=ac {cls:=.type "list",data:=.seq #[] p})
  (N:∀h' tk g c',(∀b o,b≠S->s.heap.get? b=ac o->h'.get? b=ac o)->h'.get? S=ac {cls:=.type "list",dict:=a6,data:=.seq g c',slots:=#[]}->
   ItemsOf (λi v=>∃u,v=.int (ns.getD i 0) u) g ns.length->R (.ok (.ret m)) {s with heap:=h',toks:=tk}):
  wpAny (ja π w) A.in1 (Nd (.ref S) (.ref r) m)
   (λJ s'=>match J with|.done f=>R (.ok f) s'|.again c'=>c'.quiet=a8/\codeAny (ja π w) A c' R s') (λe s'=>R (.error e) s') s:=by
 have n:S≠r:=Sz I hr rfl rfl (by decide);have C:S < s.heap.objs.size:=Ha I;have z:r < s.heap.objs.size:=Ha hr;have x:S≠s.heap.objs.size:=Na C;have D:r≠s.heap.objs.size:=Na z;have G:S∉[s.heap.objs.size,r]:=λhm=>by
  simp only[La,rg,or_false] at hm;refine hm.elim (λq=>?_) λq=>?_
  ·exact x q
  ·exact n q
 have W:=(Walks.ba (π:=π) (w:=w) (A:=A.in1) M s.heap.objs.size r D ns L).toS;have y:∀(h:Xb) (l tk:Nat),cp h s.heap.objs.size r 0/\yi h r ns->(∀b o,b≠S->s.heap.get? b=ac o->h.get? b=ac o)->
   h.get? S=ac {cls:=.type "list",data:=.seq #[] l}->codeAny (ja π w) A (.builtin "list.extend.loop" ⟨[.ref S,.ref s.heap.objs.size,m],[]⟩) R {s with heap:=h,toks:=tk}:=by
  intro h l tk E hk a;refine nS W (by rw[sizeLine_eq];omega) S G m ns.length 0 _ #[] l rfl (fc _) E a (eW _) λs' g c' hm H B=>?_;rw[YV hm];refine N s'.heap s'.toks g c' (λb o hb e=>hm.heap b o (λj=>?_) (hk b o hb e)) H B
  refine(La.mp j).elim (λQ=>?_) λj=>?_
  ·exact hb Q
  ·exact absurd (Ha e) (by rw[Ca.mp j];exact je _)
 unfold Nd;refine Kb (Ml (yc hr) ?_);have h1:Yf (.ref S) (.ref r)=be:=by simp[Yf,n]
 have h2:(Wd "bytearray"==Wd "list")=be:=by decide
 have O:(Wd "bytearray"==Wd "tuple")=be:=by decide
 simp only[h1,h2,O,GX,Zj,if_false];refine Kb (HV hr ?_);have c:yi (s.heap.push {cls:=.type "bytearray_iterator",data:=.fields #[.ref r,ee 0]}) r ns:=ea _ hr;refine Kb (Ta (JU c hz λT tk=>?_));have d:cp (s.heap.push {cls:=.type "bytearray_iterator",data:=.fields #[.ref r,ee 0]}) s.heap.objs.size r 0:=qa _ rfl;have a:=ea {cls:=.type "bytearray_iterator",data:=.fields #[.ref r,ee 0]} I;refine An (λZ=>?_) (λZ=>la ⟨si xu _,y _ p _ ⟨d,c⟩ (λb o Z e=>ea _ e) a⟩);refine Kb (oi ?_);refine Kb ?_;show wpAny _ _ (Xu S (·.push .none)>>=λZ=>Xu S (·.pop)) _ _ _
 refine Kb (Gk a rfl ?_);have k:=Zc (Ce (·.push yp)) a rfl;refine Gk (hz:=by seq_fits) k rfl ?_;have t:=Zc (Ce (·.pop)) k rfl;refine la ⟨si xu _,y _ _ _ ⟨?_,?_⟩ (λb o hb e=>?_) t⟩
 ·exact(Ia _ _ x).trans ((Ia _ _ x).trans d)
 ·exact(Ia _ _ n).trans ((Ia _ _ n).trans c)
 ·exact(Ia _ _ (qb hb)).trans ((Ia _ _ (qb hb)).trans (ea _ e))
theorem zJ{r:ma}(y:A.handled=a6)(hr:yi s.heap r ns)(x:dj ns)(hz:ns.length<=2 ^ 24)
  (z:∀v s',Pf s (.il ns) a8 v s'->Q v s'):wpAny (ja π w) A (call (.type "list") [.ref r]) Q E s:=by
 refine callType_codes (Q₁:=λg c=>g=.ref s.heap.objs.size/\c={s with heap:=s.heap.push {cls:=.type "list",data:=.seq #[]}}) F.called_list (F.typeCall_list_1 _) F.entry_list_init
  (code_list_new _ ⟨rfl,rfl⟩) λg c Eb=>?_
 obtain ⟨rfl,rfl⟩:=Eb;have k:(s.heap.push {cls:=.type "list",data:=.seq #[]}).get? s.heap.objs.size=ac {cls:=.type "list",data:=.seq #[]}:=qa _ rfl;refine⟨⟨_,k,rfl⟩,F.args_list_init_2 _ _,?_⟩
 generalize i:s.heap.push {cls:=.type "list",data:=.seq #[]}=m at k;have n:yi m r ns:=by rw[<- i];exact ea _ hr
 have u:∀b o,s.heap.get? b=ac o->m.get? b=ac o:=λb o e=>by rw[<- i];exact ea _ e
 show wpAny _ _ (do let old <- iw (.ref s.heap.objs.size);a2u (.ref s.heap.objs.size) (λZ=>#[]);letGo old.toList.reverse;Nd (.ref s.heap.objs.size) (.ref r) .none) _ _ _
 refine Kb ?_;unfold iw;refine Kb (Ze k rfl (la ?_));show wpAny _ _ (Xu s.heap.objs.size (λZ=>#[])>>=λZ=>letGo (#[]:Array Value).toList.reverse>>=λZ=>Nd (.ref s.heap.objs.size) (.ref r) .none) _ _ _
 refine Kb (Gk k rfl ?_);have d:=Zc (Ce (λZ=>(#[]:Array Value))) k rfl;have p:s.heap.objs.size≠r:=qb (Na (Ha hr));have f:∀b o,b≠s.heap.objs.size->m.get? b=ac o->(m.update s.heap.objs.size (Ce (λZ=>(#[]:Array Value)))).get? b=ac o:=
  λb o hb e=>(Ia _ _ (qb hb)).trans e
 refine Kb (Gp ?_);refine jy (A:=A.in1) (s:={s with heap:=m.update s.heap.objs.size (Ce (λZ=>(#[]:Array Value)))}) (r:=r) (ns:=ns) y (f r _ (qb p) n) x hz s.heap.objs.size .none _ d λh' tk l c' hk t j=>?_;refine⟨rfl,z _ _ ⟨⟨h',tk,rfl,λb o e=>?_⟩,⟨_,l.toList,c',rfl,t,zx j⟩,λZ a q=>by cases q;exact bc⟩⟩
 have h:b≠s.heap.objs.size:=Na (Ha e);exact hk b o h (f b o h (u b o e))
noncomputable def fdOf(o:Jb):Qm:=match o.data with
 |.func f=>f
 |_=>vC "" "" ⟨[],[],a6,[],[],a6,[]⟩ (.stmts []) default 0 [] .none .none .none .none a6 .none .none 0
def hE(a:Pa)(S:T3)(B:List Ya)(w:sa)(x:Value)(m k:Nat):Prop:=
 mn Rh (Vb Ra) a w 2 ⟨a8,[(1963,ud w)],m,[],[.k 0,.k 0],[]⟩ k (.top (PySem.callAny (.ref 1963) ⟨[x],[]⟩))=ac (⟨a8,[(1963,ud w)],m,[],[],[(1963,1963),(1963,1963)]⟩,k+0,.top (.pure (Sw (.call (.builtin "type.__call__") ⟨[.ref 1963,x],[]⟩))))
def Uz(a:Pa)(S:T3)(B:List Ya)(w:sa) (m k:Nat):Prop:=
 mn Rh (Vb Ra) a w 2 ⟨a8,[(1963,ud w)],m,[],[.k 0,.k 0],[]⟩ k (.top (PySem.callAny (.ref 1963) ⟨[],[]⟩))=ac (⟨a8,[(1963,ud w)],m,[],[],[(1963,1963),(1963,1963)]⟩,k+0,.top (.pure (Sw (.call (.builtin "type.__call__") ⟨[.ref 1963],[]⟩))))
def tJ(a:Pa)(S:T3)(B:List Ya)(w:sa)(x:Value)(m k:Nat):Prop:=
 mn Rh (Vb Ra) a w 1 ⟨a8,[(1963,ud w)],m,[],[.k 0],[]⟩ k (.top (od "type.__call__" ⟨[.ref 1963,x],[]⟩))=ac (⟨a8,[(1963,ud w)],m,[],[],[(1963,1963)]⟩,k+0,.top (.pure (())))
def fE(a:Pa)(S:T3)(B:List Ya)(w:sa) (m k:Nat):Prop:=
 mn Rh (Vb Ra) a w 1 ⟨a8,[(1963,ud w)],m,[],[.k 0],[]⟩ k (.top (od "type.__call__" ⟨[.ref 1963],[]⟩))=ac (⟨a8,[(1963,ud w)],m,[],[],[(1963,1963)]⟩,k+0,.top (.pure (())))
def JW(a:Pa)(S:T3)(B:List Ya)(w:sa)(x:Value)(m k:Nat):Prop:=
 mn Rh (Vb Ra) a w 25 ⟨a8,[(1963,ud w),(1962,Th S B w)],m,[],[.k 0,.k 0,.k 0,.k 0,.k 0,.k 0,.k 0,.k 0,.k 0,.k 0,.k 0,.k 0,.k 0,.k 0,.k 0,.k 0,.k 0,.k 1,.k 0,.k 0],[]⟩ k (.top (call (.builtin "object.__new__") [.ref 1963,x]))=ac (⟨a8,[(1963,ud w),(1962,Th S B w)],m,[zg,⟨.ref 1963,ac (m+0),.plain,#[]⟩],[],[(1963,1963),(1963,1963),(1962,1962),(1963,1963),(1963,1963),(1963,1963),(1963,1963),(1963,1963),(1963,1963),(1963,1963),(1963,1963),(1963,1963),(1963,1963),(1963,1963),(1963,1963),(1963,1963),(1963,1963),(1963,1963),(1963,1963),(1963,1963)]⟩,k+0,.top (.pure (.ref (m+1))))
def zO(a:Pa)(S:T3)(B:List Ya)(w:sa) (m k:Nat):Prop:=
 mn Rh (Vb Ra) a w 20 ⟨a8,[(1963,ud w)],m,[],[.k 0,.k 0,.k 0,.k 0,.k 0,.k 0,.k 0,.k 0,.k 0,.k 0,.k 0,.k 0,.k 0,.k 0,.k 0],[]⟩ k (.top (call (.builtin "object.__new__") [.ref 1963]))=ac (⟨a8,[(1963,ud w)],m,[zg,⟨.ref 1963,ac (m+0),.plain,#[]⟩],[],[(1963,1963),(1963,1963),(1963,1963),(1963,1963),(1963,1963),(1963,1963),(1963,1963),(1963,1963),(1963,1963),(1963,1963),(1963,1963),(1963,1963),(1963,1963),(1963,1963),(1963,1963)]⟩,k+0,.top (.pure (.ref (m+1))))
def uW(a:Pa)(S:T3)(B:List Ya)(w:sa)(b dd d:ma)(m k:Nat):Prop:=
 mn Rh (Vb Ra) a w 36 ⟨be,[(b,⟨.ref 1963,ac dd,.plain,#[]⟩),(1963,ud w),(1962,Th S B w),(1964,Fs w)],m,[],[.k 0,.k 1,.k 1,.k 2,.k 0,.k 1,.k 0,.k 1,.k 0,.k 1,.k 1,.k 2,.k 3,.k 3,.k 3,.k 3,.k 3,.k 0,.k 1,.k 3,.k 3,.k 3,.k 3,.k 0,.k 1,.k 0],[]⟩ k (.top (setAttr (.ref b) "_data" (.ref d)))=ac (⟨be,[(b,Fe dd d),(1963,ud w),(1962,Th S B w),(1964,Fs w)],m,[],[],[(b,b),(1963,1963),(b,b),(1964,1964),(1964,1964),(1964,1964),(1964,1964),(1963,1963),(b,b),(1964,1964),(1964,1964),(1964,1964),(1964,1964),(1964,1964),(1962,1962),(1963,1963),(1963,1963),(b,b),(1963,1963),(b,b),(1963,1963),(b,b),(1962,1962),(1963,1963),(1963,1963),(b,b)]⟩,k+1,.top (.pure (())))
def PW(a:Pa)(S:T3)(B:List Ya)(w:sa)(b dd:ma)(m k:Nat):Prop:=
 mn Rh (Vb Ra) a w 2 ⟨a8,[(b,⟨.ref 1963,ac dd,.plain,#[]⟩),(1963,ud w)],m,[],[.k 0,.k 1],[]⟩ k (.top (Pk (.ref b) (.ref 1963)))=ac (⟨a8,[(b,⟨.ref 1963,ac dd,.plain,#[]⟩),(1963,ud w)],m,[],[],[(1963,1963),(b,b)]⟩,k+0,.top (.pure (a8)))
def tW(a:Pa)(S:T3)(B:List Ya)(w:sa)(b dd:ma)(m k:Nat):Prop:=
 mn Rh (Vb Ra) a w 4 ⟨a8,[(b,⟨.ref 1963,ac dd,.plain,#[]⟩),(1963,ud w),(1962,Th S B w)],m,[],[.k 0,.k 1,.k 1,.k 2],[]⟩ k (.top (jl (.ref b) "__init__"))=ac (⟨a8,[(b,⟨.ref 1963,ac dd,.plain,#[]⟩),(1963,ud w),(1962,Th S B w)],m,[],[],[(1962,1962),(1963,1963),(1963,1963),(b,b)]⟩,k+0,.top (.pure (ac (.ref 1917))))
lay_quick Mine.hE Mine.Uz Mine.tJ Mine.fE Mine.JW Mine.zO Mine.uW Mine.PW Mine.tW
theorem gE(w:sa)(x:Value)(m k:Nat):hE PP (Qd w) Hb w x  m k:=by
 rw[Fast.te7986774146025096937];unfold Fast.tw7986774146025096937
 kernel_rfl
theorem yV{x:Value}{Q:_->aa->Prop}(b:A.handled=a6)(F:Fk w s.heap)
  (a:∀h',(∀x o,s.heap.get? x=ac o->h'.get? x=ac o)->Q (Sw (.call (.builtin "type.__call__") ⟨[.ref 1963,x],[]⟩)) {s with heap:=h',toks:=s.toks+0}):wpAny (ja PP w) A (PySem.callAny (.ref 1963) ⟨[x],[]⟩) Q E s:=
 ng b (gE w x  s.heap.objs.size s.toks) [1963,1963] rfl (Ld (F.u (1963,ud w) (za 29 rfl) rfl) Sl) rfl rfl λh' hk hn=>a h' hk
theorem PB(w:sa) (m k:Nat):Uz PP (Qd w) Hb w  m k:=by
 rw[Fast.te5682273863182704242];unfold Fast.tw5682273863182704242
 kernel_rfl
theorem PQ {Q:_->aa->Prop}(b:A.handled=a6)(F:Fk w s.heap)
  (a:∀h',(∀x o,s.heap.get? x=ac o->h'.get? x=ac o)->Q (Sw (.call (.builtin "type.__call__") ⟨[.ref 1963],[]⟩)) {s with heap:=h',toks:=s.toks+0}):wpAny (ja PP w) A (PySem.callAny (.ref 1963) ⟨[],[]⟩) Q E s:=
 ng b (PB w  s.heap.objs.size s.toks) [1963,1963] rfl (Ld (F.u (1963,ud w) (za 29 rfl) rfl) Sl) rfl rfl λh' hk hn=>a h' hk
theorem pH(w:sa)(x:Value)(m k:Nat):tJ PP (Qd w) Hb w x  m k:=by
 rw[Fast.te6424478938447345586];unfold Fast.tw6424478938447345586
 kernel_rfl
theorem E3{x:Value}{Q:_->aa->Prop}(b:A.handled=a6)(F:Fk w s.heap)
  (a:∀h',(∀x o,s.heap.get? x=ac o->h'.get? x=ac o)->Q (()) {s with heap:=h',toks:=s.toks+0}):wpAny (ja PP w) A (od "type.__call__" ⟨[.ref 1963,x],[]⟩) Q E s:=
 ng b (pH w x  s.heap.objs.size s.toks) [1963] rfl (Ld (F.u (1963,ud w) (za 29 rfl) rfl) Sl) rfl rfl λh' hk hn=>a h' hk
theorem eE(w:sa) (m k:Nat):fE PP (Qd w) Hb w  m k:=by
 rw[Fast.te8200619034301803289];unfold Fast.tw8200619034301803289
 kernel_rfl
theorem xV {Q:_->aa->Prop}(b:A.handled=a6)(F:Fk w s.heap)
  (a:∀h',(∀x o,s.heap.get? x=ac o->h'.get? x=ac o)->Q (()) {s with heap:=h',toks:=s.toks+0}):wpAny (ja PP w) A (od "type.__call__" ⟨[.ref 1963],[]⟩) Q E s:=
 ng b (eE w  s.heap.objs.size s.toks) [1963] rfl (Ld (F.u (1963,ud w) (za 29 rfl) rfl) Sl) rfl rfl λh' hk hn=>a h' hk
theorem yO(w:sa)(x:Value)(m k:Nat):JW PP (Qd w) Hb w x  m k:=by
 rw[Fast.te3513086890554719965];unfold Fast.tw3513086890554719965
 kernel_rfl
theorem a4c{x:Value}{Q:_->aa->Prop}(b:A.handled=a6)(F:Fk w s.heap)
  (a:∀h',(∀x o,s.heap.get? x=ac o->h'.get? x=ac o)->h'.get? (s.heap.objs.size+0)=ac (zg)->h'.get? (s.heap.objs.size+1)=ac (⟨.ref 1963,ac (s.heap.objs.size+0),.plain,#[]⟩)->Q (.ref (s.heap.objs.size+1)) {s with heap:=h',toks:=s.toks+0}):wpAny (ja PP w) A (call (.builtin "object.__new__") [.ref 1963,x]) Q E s:=
 ng b (yO w x  s.heap.objs.size s.toks) [1963,1963,1962,1963,1963,1963,1963,1963,1963,1963,1963,1963,1963,1963,1963,1963,1963,1963,1963,1963] rfl (Ld (F.u (1963,ud w) (za 29 rfl) rfl) (Ld (F.u (1962,Gs w) (za 28 rfl) rfl) Sl)) rfl rfl λh' hk hn=>a h' hk (hn 0 _ rfl rfl) (hn 1 _ rfl rfl)
theorem kK(w:sa) (m k:Nat):zO PP (Qd w) Hb w  m k:=by
 rw[Fast.te7197284569982702623];unfold Fast.tw7197284569982702623
 kernel_rfl
theorem m8 {Q:_->aa->Prop}(b:A.handled=a6)(F:Fk w s.heap)
  (a:∀h',(∀x o,s.heap.get? x=ac o->h'.get? x=ac o)->h'.get? (s.heap.objs.size+0)=ac (zg)->h'.get? (s.heap.objs.size+1)=ac (⟨.ref 1963,ac (s.heap.objs.size+0),.plain,#[]⟩)->Q (.ref (s.heap.objs.size+1)) {s with heap:=h',toks:=s.toks+0}):wpAny (ja PP w) A (call (.builtin "object.__new__") [.ref 1963]) Q E s:=
 ng b (kK w  s.heap.objs.size s.toks) [1963,1963,1963,1963,1963,1963,1963,1963,1963,1963,1963,1963,1963,1963,1963] rfl (Ld (F.u (1963,ud w) (za 29 rfl) rfl) Sl) rfl rfl λh' hk hn=>a h' hk (hn 0 _ rfl rfl) (hn 1 _ rfl rfl)
theorem AN(w:sa)(b dd d:ma)(m k:Nat):uW PP (Qd w) Hb w b dd d  m k:=by
 rw[Fast.te1648790612553190479];unfold Fast.tw1648790612553190479
 kernel_rfl
theorem a3M{dd d:ma}{Q:_->aa->Prop}(g:A.handled=a6)(F:Fk w s.heap)(hb:s.heap.get? b=ac (⟨.ref 1963,ac dd,.plain,#[]⟩))(c:b≠1963)(e:b≠1962)(a:b≠1964)
  (f:∀h',(∀x o,x≠b->s.heap.get? x=ac o->h'.get? x=ac o)->h'.get? b=ac (Fe dd d)->Q (()) {s with heap:=h',toks:=s.toks+1}):wpAny (ja PP w) A (setAttr (.ref b) "_data" (.ref d)) Q E s:=
 xW g (AN w b dd d  s.heap.objs.size s.toks) [b,1963,b,1964,1964,1964,1964,1963,b,1964,1964,1964,1964,1964,1962,1963,1963,b,1963,b,1963,b,1962,1963,1963,b] rfl (Ld hb (Ld (F.u (1963,ud w) (za 29 rfl) rfl) (Ld (F.u (1962,Gs w) (za 28 rfl) rfl) (Ld (F.u (1964,Fs w) (za 30 rfl) rfl) Sl)))) (Lb.mpr ⟨by simp only[Mb,Om,La,rg,or_false,not_or];exact⟨c,e,a⟩,by simp only[Mb,Om];decide⟩) f
theorem AP(w:sa)(b dd:ma)(m k:Nat):PW PP (Qd w) Hb w b dd  m k:=by
 rw[Fast.te12398391418792145533];unfold Fast.tw12398391418792145533
 kernel_rfl
theorem a4W{dd:ma}{Q:_->aa->Prop}(c:A.handled=a6)(F:Fk w s.heap)(hb:s.heap.get? b=ac (⟨.ref 1963,ac dd,.plain,#[]⟩))
  (a:∀h',(∀x o,s.heap.get? x=ac o->h'.get? x=ac o)->Q (a8) {s with heap:=h',toks:=s.toks+0}):wpAny (ja PP w) A (Pk (.ref b) (.ref 1963)) Q E s:=
 ng c (AP w b dd  s.heap.objs.size s.toks) [1963,b] rfl (Ld hb (Ld (F.u (1963,ud w) (za 29 rfl) rfl) Sl)) rfl rfl λh' hk hn=>a h' hk
theorem uN(w:sa)(b dd:ma)(m k:Nat):tW PP (Qd w) Hb w b dd  m k:=by
 rw[Fast.te2537343777470993253];unfold Fast.tw2537343777470993253
 kernel_rfl
theorem a3K{dd:ma}{Q:_->aa->Prop}(c:A.handled=a6)(F:Fk w s.heap)(hb:s.heap.get? b=ac (⟨.ref 1963,ac dd,.plain,#[]⟩))
  (a:∀h',(∀x o,s.heap.get? x=ac o->h'.get? x=ac o)->Q (ac (.ref 1917)) {s with heap:=h',toks:=s.toks+0}):wpAny (ja PP w) A (jl (.ref b) "__init__") Q E s:=
 ng c (uN w b dd  s.heap.objs.size s.toks) [1962,1963,1963,b] rfl (Ld hb (Ld (F.u (1963,ud w) (za 29 rfl) rfl) (Ld (F.u (1962,Gs w) (za 28 rfl) rfl) Sl))) rfl rfl λh' hk hn=>a h' hk
structure GK(n:Nat)(A:Wc):Prop where
 ga:GA n A
 gd:A.guards=ac []
theorem GK.mono{m:Nat}(g:GK n A)(h:m<=n):GK m A:=⟨g.ga.mono h,g.gd⟩
theorem GK.in1(g:GK (n+1) A):GK n A.in1:=⟨g.ga.in1,g.gd⟩
theorem GK.deeper(g:GK (n+1) A)(ν:Al):GK n (A.deeper ν):=⟨g.ga.deeper ν,g.gd⟩
noncomputable def fa(b:List Ya)(i:Nat):Ya:=(b[i]?).getD (.Pass default)
section
variable{G:Gl}
theorem UQ{fd:Qm}{body:List Ya}{binds:List (Ba×Value)}
  (g:GK (N+2) A) (ho:s.heap.get? a=ac o) (hd:o.data=.func fd) (J:s.heap.CodeRec fd.code fd.qualname) (k:fd.body=.stmts body) (hb:mh s fd ⟨vs,[]⟩ binds)
  (hk:fd.scope.kind=.function) (I:fd.scope.isCoroutine=be) (t:fd.scope.isGenerator=be) (hg:fd.globals=Kd) (L:fd.builtins=td) (u:fd.closure=[])
  (r:∀x∈binds,fd.scope.names.lookup x.1=ac .local\/(fd.scope.names.lookup x.1=ac .cell/\((uh (s.heap.objs.size+1) fd.scope.names []).lookup x.1).isSome=a8)) (j:∀x,fd.scope.names.lookup x≠ac .free)
  (sh:∃h tk,s={ς with heap:=h,toks:=tk}) (g0:GS G ς.heap) (k0:∀b o,ς.heap.get? b=ac o->K b o) (C:∀b o,K b o->s.heap.get? b=ac o)
  (n:∀x p,σ.lookup x=ac p->∃v,VR s.heap p v/\(∀ns,p=.il ns->v=.ref (δ x)/\x∈rd) /\
   ((fd.scope.names.lookup x=ac .local/\∀kindOf m,(∀y,kindOf y=fd.scope.names.lookup y)->wF kindOf binds m x=ac v) \/
    (fd.scope.names.lookup x=ac .cell/\∀kindOf m,(∀y,kindOf y=fd.scope.names.lookup y)->pS kindOf binds m x=ac v)))
  (M:∀x y ns ms,x≠y->σ.lookup x=ac (.il ns)->σ.lookup y=ac (.il ms)->δ x≠δ y)
  (h:∀d,GK N (A.deeper (bg fd s.heap.objs.size a))->St G (bg fd s.heap.objs.size a) rd σ δ ς K d->Kp s d->
   zd (ja π w) (A.deeper (bg fd s.heap.objs.size a)) (Oc body (bg fd s.heap.objs.size a)) (λf s'=>Q (match f with|.ret v=>v|_=>.none) s') d):
  zd (ja π w) A (call (.ref a) vs) Q s:=by
 have gs:GS G s.heap:=g0.keeps λb o e=>C b o (k0 b o e);refine nE g.ga.room ho hd J k hb gs.lim u I t hk r λd x=>?_;generalize i:bg fd s.heap.objs.size a=ν at x h ⊢;have V:ν.scope=fd.scope:=by subst i;rfl
 have T:ν.locals=s.heap.objs.size:=by subst i;rfl
 have e3:ν.globals=fd.globals:=by subst i;rfl
 have O:ν.cells=uh (s.heap.objs.size+1) fd.scope.names []:=by subst i;rfl
 have e5:ν.builtins=fd.builtins:=by subst i;rfl
 have B:∀x,ν.kindOf x=fd.scope.names.lookup x:=λx=>by unfold Md;rw[V]
 have gd:GK N (A.deeper ν):=((g.mono (Se _)).deeper ν);have H:Kp s d:=by
  refine ue λhC=>?_;obtain ⟨h0,E,e⟩:=x.toInCall.same;refine hC ?_;exact⟨h0,E,e,λb o q=>by have:=x.toInCall.keep b o q;rw[e] at this;exact this⟩
 refine h d gd ?_ H
 refine{kind:=(by rw[V];exact hk),eg:=e3.trans hg,eb:=e5.trans L,g0:=g0,sh:=?_,k0:=k0,ks:=λb o e=>x.toInCall.keep b o (C b o e),ns:=⟨_,x.toInCall.ns⟩,nl:=?_,ce:=?_,nc:=?_,inj:=?_,cells:=?_,look:=?_,new:=?_,apart:=λx y ns ms Z=>M x y ns ms}
 ·refine ue λhC=>?_;obtain ⟨h0,E,e⟩:=x.toInCall.same;obtain ⟨h1,t1,D⟩:=sh;refine hC ?_;exact⟨h0,E,by rw[e,D]⟩
 ·intro o e;rw[T] at e;exact absurd (Ha (C _ _ e)) (je _)
 ·exact λy c e=>⟨_,x.cell y c e⟩
 ·intro y c e D o q;have h1:=x.above y c (mem_of_lookup e);rw[T] at h1;exact absurd (Ha (C _ _ q)) (yf.mpr (uc h1))
 ·exact λy z c e D=>name_of_addr x.apart (mem_of_lookup e) (mem_of_lookup D)
 ·intro y l;rw[B] at l;rcases l with l|l
  ·rw[O];exact cellsFrom_some _ _ _ y (.inl (Qc l))
  ·exact absurd l (j y)
 ·intro y p e;refine ue λhC=>?_;obtain ⟨v,hv,hl,Y⟩:=n y p e;refine hC ?_;rcases Y with ⟨h1,h2⟩|⟨h1,h2⟩
  ·exact⟨v,.inl ⟨(B y).trans h1,_,x.toInCall.ns,h2 _ _ B⟩,hv.keeps x.toInCall.keep,λns q=>(hl ns q).1⟩
  ·have hc:((uh (s.heap.objs.size+1) fd.scope.names []).lookup y).isSome=a8:=cellsFrom_some _ _ _ y (.inl (Qc h1));rw[<- O] at hc;obtain ⟨c,hc⟩:=Ud.mp hc;refine⟨v,.inr ⟨.inl ((B y).trans h1),c,hc,?_⟩,hv.keeps x.toInCall.keep,λns q=>(hl ns q).1⟩
   have:=x.cell y c hc;rw[h2 _ _ B] at this;exact this
 ·intro y ns e hr;refine ue λhC=>?_;obtain ⟨v,_,hl,_⟩:=n y _ e;refine hC ?_;exact absurd (hl ns rfl).2 hr
noncomputable def MQ(o:Jb):Option Ba:=match o.data with
 |.fields vs=>match (vs[1]?:Option Value) with
  |some (sl q _)=>ac q
  |_=>a6
 |_=>a6
set_option tactic.hygienic true
theorem codeRec_of{c:ma}{b:Value}{q:Ba}(d:h.get? c=ac o)(e:b=.ref c)(a:MQ o=ac q):h.CodeRec b q:=by
 delta MQ at a;split at a
 ·rename_i vs hd
  split at a
  ·rename_i f t hv
   obtain rfl:=xa a;exact⟨c,o,vs,t,e,d,hd,hv⟩
  ·exact nomatch a
 ·exact nomatch a
structure Fn(o oc:Jb)(c:ma)(body:List Ya):Prop where
 data:o.data=.func (fdOf o)
 code:(fdOf o).code=.ref c
 cq:MQ oc=ac (fdOf o).qualname
 bd:(fdOf o).body=.stmts body
 row:((fdOf o).scope.kind,(fdOf o).scope.isCoroutine,(fdOf o).scope.isGenerator,(fdOf o).globals,(fdOf o).builtins,(fdOf o).closure)=(.function,be,be,Kd,td,[])
 nf:(fdOf o).scope.names.all (λy=>y.2 != .free)=a8
set_option tactic.hygienic false
theorem Wq{l:List (Ba×Lc)}(h:l.all (λy=>y.2 != .free)=a8)(x:Ba):l.lookup x≠ac .free:=by
 intro e;have:=Aa.mp h _ (Qc e);simp at this
theorem VQ{c:ma}{oc:Jb}{body:List Ya}{binds:List (Ba×Value)}(f:Fn o oc c body)
  (g:GK (N+2) A) (n:s.heap.get? a=ac o) (hc:s.heap.get? c=ac oc) (hb:mh s (fdOf o) ⟨vs,[]⟩ binds)
  (i:∀x∈binds,(fdOf o).scope.names.lookup x.1=ac .local\/((fdOf o).scope.names.lookup x.1=ac .cell/\((uh (s.heap.objs.size+1) (fdOf o).scope.names []).lookup x.1).isSome=a8))
  (sh:∃h tk,s={ς with heap:=h,toks:=tk}) (g0:GS G ς.heap) (k0:∀b o,ς.heap.get? b=ac o->K b o) (q:∀b o,K b o->s.heap.get? b=ac o)
  (j:∀x p,σ.lookup x=ac p->∃v,VR s.heap p v/\(∀ns,p=.il ns->v=.ref (δ x)/\x∈rd) /\
   (((fdOf o).scope.names.lookup x=ac .local/\∀kindOf m,(∀y,kindOf y=(fdOf o).scope.names.lookup y)->wF kindOf binds m x=ac v) \/
    ((fdOf o).scope.names.lookup x=ac .cell/\∀kindOf m,(∀y,kindOf y=(fdOf o).scope.names.lookup y)->pS kindOf binds m x=ac v)))
  (l:∀x y ns ms,x≠y->σ.lookup x=ac (.il ns)->σ.lookup y=ac (.il ms)->δ x≠δ y)
  (h:∀d ν,ν=bg (fdOf o) s.heap.objs.size a->GK N (A.deeper ν)->St G ν rd σ δ ς K d->Kp s d->zd (ja π w) (A.deeper ν) (Oc body ν) (λf s'=>Q (match f with|.ret v=>v|_=>.none) s') d):
  zd (ja π w) A (call (.ref a) vs) Q s:=by
 have e:=f.row;simp only[Ie] at e;exact UQ g n f.data (codeRec_of hc f.code f.cq) f.bd hb e.1 e.2.1 e.2.2.1 e.2.2.2.1 e.2.2.2.2.1 e.2.2.2.2.2 i (Wq f.nf) sh g0 k0 q j l λd r x k=>h d _ rfl r x k
theorem ay{kindOf:Ba->Option Lc}{x:Ba}:∀{binds:List (Ba×Value)} {m:Ba->Option Value},x∉binds.map (·.1)->wF kindOf binds m x=m x
 |[],m,_=>rfl
 |(n,v)::r,m,h=>by
  simp only[Mb,La,not_or] at h;unfold wF;rw[ay h.2];split
  ·exact if_neg h.1
  ·rfl
theorem cy{kindOf:Ba->Option Lc}{x:Ba}:∀{binds:List (Ba×Value)} {m:Ba->Option Value},x∉binds.map (·.1)->pS kindOf binds m x=m x
 |[],m,_=>rfl
 |(n,v)::r,m,h=>by
  simp only[Mb,La,not_or] at h;unfold pS;rw[cy h.2];split
  ·rfl
  ·exact if_neg h.1
theorem Gq{kindOf:Ba->Option Lc}{x:Ba}{v:Value}(hk:kindOf x=ac .local):∀{binds:List (Ba×Value)} {m:Ba->Option Value},(binds.map (·.1)).Nodup->binds.lookup x=ac v->wF kindOf binds m x=ac v
 |[],m,_,h=>nomatch h
 |(n,u)::r,m,nd,h=>by
  simp only[Mb,Lb] at nd;rw[Ka] at h;unfold wF;cases q:x==n with
  |true=>
   have q:=eq_of_beq q;subst q;rw[beq_self_eq_true] at h;obtain rfl:=xa h;rw[ay nd.1,if_pos hk];exact if_pos rfl
  |false=>rw[q] at h;exact Gq hk nd.2 h
theorem dy{kindOf:Ba->Option Lc}{x:Ba}{v:Value}(hk:kindOf x≠ac .local):∀{binds:List (Ba×Value)} {m:Ba->Option Value},(binds.map (·.1)).Nodup->binds.lookup x=ac v->pS kindOf binds m x=ac v
 |[],m,_,h=>nomatch h
 |(n,u)::r,m,nd,h=>by
  simp only[Mb,Lb] at nd;rw[Ka] at h;unfold pS;cases q:x==n with
  |true=>
   have q:=eq_of_beq q;subst q;rw[beq_self_eq_true] at h;obtain rfl:=xa h;rw[cy nd.1,if_neg hk];exact if_pos rfl
  |false=>rw[q] at h;exact dy hk nd.2 h
noncomputable def Ys(h:Xb)(rd:List Ba)(δ:Ba->ma):List (Ba×P)->List (Ba×Value)->Prop
 |[],_=>True
 |(x,p)::σ,(y,v)::b=>(x=y/\VR h p v/\∀ns,p=.il ns->v=.ref (δ x)/\x∈rd)/\Ys h rd δ σ b
 |_,_=>False
theorem Ys.look{h:Xb}{rd:List Ba}{δ:Ba->ma}:∀{σ:List (Ba×P)} {b:List (Ba×Value)},Ys h rd δ σ b->∀{x:Ba} {p:P},σ.lookup x=ac p->∃v,b.lookup x=ac v/\VR h p v/\∀ns,p=.il ns->v=.ref (δ x)/\x∈rd
 |[],_,_,x,p,e=>nomatch e
 |_::_,[],m,_,_,_=>m.elim
 |(z,q)::σ,(y,v)::b,m,x,p,e=>by
  obtain ⟨⟨rfl,d,c⟩,a⟩:=m;rw[Ka] at e ⊢;cases hz:x==z with
  |true=>
   rw[hz] at e;obtain rfl:=xa e;have hz:=eq_of_beq hz;subst hz;exact⟨v,rfl,d,c⟩
  |false=>rw[hz] at e;exact Ys.look a e
noncomputable def Zl(σ:List (Ba×P)):Bool:=σ.all λe=>match e.2 with
 |.il _=>be
 |_=>a8
theorem Fg(h:Zl σ=a8){x:Ba}(e:σ.lookup x=ac (.il ns)):False:=by
 have:=Aa.mp h _ (Qc e);simp at this
noncomputable def Gu:List Ba->Bool
 |[]=>a8
 |x::l=>!(l.contains x)&&Gu l
theorem sm:∀{l:List Ba},Gu l=a8->l.Nodup
 |[],_=>.nil
 |x::l,h=>by
  unfold Gu at h;simp only[Pd,Ge] at h;refine Lb.mpr ⟨λq=>?_,sm h.2⟩;have:l.contains x=a8:=Ua.mpr q;rw[h.1] at this;exact nomatch this
theorem fo{c:ma}{oc:Jb}{body:List Ya}{binds:List (Ba×Value)}(f:Fn o oc c body)
  (g:GK (N+2) A) (r:s.heap.get? a=ac o) (hc:s.heap.get? c=ac oc) (hb:mh s (fdOf o) ⟨vs,[]⟩ binds)
  (j:(binds.map (·.1)).all (λx=>(fdOf o).scope.names.lookup x==ac .local||(fdOf o).scope.names.lookup x==ac .cell)=a8) (k:Gu (binds.map (·.1))=a8)
  (sh:∃h tk,s={ς with heap:=h,toks:=tk}) (g0:GS G ς.heap) (k0:∀b o,ς.heap.get? b=ac o->K b o) (t:∀b o,K b o->s.heap.get? b=ac o)
  (hm:Ys s.heap rd δ σ binds) (n:∀x y ns ms,x≠y->σ.lookup x=ac (.il ns)->σ.lookup y=ac (.il ms)->δ x≠δ y)
  (h:∀d ν,ν=bg (fdOf o) s.heap.objs.size a->GK N (A.deeper ν)->St G ν rd σ δ ς K d->Kp s d->zd (ja π w) (A.deeper ν) (Oc body ν) (λf s'=>Q (match f with|.ret v=>v|_=>.none) s') d):
  zd (ja π w) A (call (.ref a) vs) Q s:=by
 have nd:=sm k;have i:∀x∈binds,(fdOf o).scope.names.lookup x.1=ac .local\/(fdOf o).scope.names.lookup x.1=ac .cell:=by
  intro x l;have:=Aa.mp j x.1 (ze l)
  simpa using this
 refine VQ f g r hc hb (λx l=>?_) sh g0 k0 t (λx p e=>?_) n h
 ·rcases i x l with q|q
  ·exact .inl q
  ·exact .inr ⟨q,cellsFrom_some _ _ _ _ (.inl (Qc q))⟩
 ·refine ue λhC=>?_;obtain ⟨v,h1,h2,u⟩:=hm.look e;refine hC ?_;refine⟨v,h2,u,?_⟩
  rcases i (x,v) (Qc h1) with q|q
  ·exact .inl ⟨q,λkindOf m hk=>Gq ((hk x).trans q) nd h1⟩
  ·exact .inr ⟨q,λkindOf m hk=>dy (by rw[hk x,q];decide) nd h1⟩
end
theorem Cr{id:String}{args:Dp}{b:Builtin}(g:(bF id args).quiet=a8)(c:Sb.contains id=be)(hb:Ng Kj id=ac b)
  (h:wpAny (ja π w) A.in1 (od id args) (λZ a=>zd (ja π w) (A.under (.builtin id args)) (b args)
   (λe s'=>match e with|.done f=>R (.ok f) s'|.again c'=>c'.quiet=a8/\Ki c'=a8/\Bi (ja π w) A c' R s') a) Hc s):
  Bi (ja π w) A (.call (.builtin id) args) R s:=by
 have d:Ki (.builtin id args)=a8:=by show(!Sb.contains id)=a8;rw[c];rfl
 refine wi ?_;show zd _ A.in1 (do od id args;again (.builtin id args)) _ s
 refine Nj (Ig h (λZ a Eb=>Qb ⟨g,d,Fi hb ?_⟩));exact Eb
theorem hN(args:Dp):(bF "type.__call__" args).quiet=a8:=fM _ (by decide +kernel)
theorem iN:Sb.contains "type.__call__"=be:=by decide +kernel
theorem wV(C:ma)(rest:List Value):Builtin.«type.__call__» ⟨.ref C::rest,[]⟩=(do
  if (<- a2V (.ref C)).isEmpty then rule "type.call.half-made";raiseError "TypeError" s!"cannot create '{← typeName (.ref C)}' instances"
  let new <- match <- XH (.ref C) with
   |some id=>pure (.builtin id)
   |none=>Ti (.ref C) "__new__"
  let a <- holding [new] (call new (.ref C::rest) [])
  if !(<- Pk a (.ref C)) then rule "type.call.new-gave-other-type";return <- ret a
  match <- holding [a] (Zr a "__init__" rest []) with
  |none=>ret a
  |some r=>
   if r != .none then
    rule "type.call.init-returned-value"
    raiseError "TypeError" s!"__init__() should return None, not '{← typeNameOf r}'"
   ret a):=rfl
theorem tcU(A:Wc)(C:ma)(rest:List Value):A.under (.builtin "type.__call__" ⟨.ref C::rest,[]⟩)={A with depth:=A.depth+1,units:=A.units+1}:=by
 delta Around.under;rfl
theorem GK.cls(g:GK (N+1) A){C:ma}{rest:List Value}:GK N (A.under (.builtin "type.__call__" ⟨.ref C::rest,[]⟩)):=by
 rw[tcU];exact⟨⟨g.ga.hd,by have:=g.ga.dp;show A.depth+1+N < _;lia,by have:=g.ga.un;show A.units+1+8*N+64 < _;lia⟩,g.gd⟩
noncomputable def aSc:Ya->He
 |.FunctionDef _ _ _ _ _ _ s _ _ _=>s
 |_=>default
noncomputable def aAr:Ya->Ar
 |.FunctionDef _ a _ _ _ _ _ _ _ _=>a
 |_=>⟨[],[],a6,[],[],a6,[]⟩
noncomputable def MY(a:Oa)(f:Nat->Oa):Nat->Oa
 |0=>a
 |i+1=>f i
noncomputable def eVw:Oa->(Nat->Oa)×List Ck×PySem.Str
 |.Attribute v _ _=>(λZ=>v,[],"")
 |.Call f as _ _=>(MY f λi=>(as[i]?).getD Aw,[],"")
 |.Subscript v i _=>(MY v λZ=>i,[],"")
 |.BinOp l _ r _=>(MY l λZ=>r,[],"")
 |.Compare l _ rs _=>(MY l λi=>(rs[i]?).getD Aw,[],"")
 |.UnaryOp _ x _=>(λZ=>x,[],"")
 |.Tuple es _ _=>(λi=>(es[i]?).getD Aw,[],"")
 |.List es _=>(λi=>(es[i]?).getD Aw,[],"")
 |.ListComp e g _ _=>(λZ=>e,g,"")
 |.GeneratorExp e g _ _=>(λZ=>e,g,"")
 |.Slice l u _ _=>(MY (l.getD Aw) λZ=>u.getD Aw,[],"")
 |.IfExp t b o _=>(MY t (MY b λZ=>o),[],"")
 |.Constant (.str x) _ _=>(λZ=>Aw,[],x)
 |_=>(λZ=>Aw,[],"")
noncomputable def ch(e:Oa):Nat->Oa:=(eVw e).1
noncomputable def gens(e:Oa):List Ck:=(eVw e).2.1
noncomputable def gT(e:Oa)(i:Nat):Oa:=((gens e)[i]?).elim Aw (·.target)
noncomputable def gI(e:Oa)(i:Nat):Oa:=((gens e)[i]?).elim Aw (·.iter)
noncomputable def gF(e:Oa)(i:Nat):Oa:=((gens e)[i]?).elim Aw (·.ifs.headD Aw)
noncomputable def Hw:Oa->He
 |.ListComp _ _ s _=>s
 |.GeneratorExp _ _ s _=>s
 |_=>default
noncomputable def qp:List Ya:=(Zf (Sx 19 "__init__")).2.1
theorem Y1(w:sa):Fn (mx w) (tO w) 1916 qp:=⟨by kernel_rfl,by kernel_rfl,by kernel_rfl,by kernel_rfl,by kernel_rfl,by kernel_rfl⟩
theorem FU:qp=[.Assign [.Attribute (.Name "self" (ch (aT (fa qp 0)) 0).pos) "_data" (aT (fa qp 0)).pos] (.Call (.Name "bytearray" (ch (aV (fa qp 0)) 0).pos) [.Name "iterable" (ch (aV (fa qp 0)) 1).pos] [] (aV (fa qp 0)).pos) (aP (fa qp 0))]:=by kernel_rfl
theorem HL(F:Fk w s.heap)(b:ma)(x:Value):mh s (fdOf (mx w)) ⟨[.ref b,x],[]⟩ [("self",.ref b),("iterable",x)]:=by
 intro M A E Q c;show wpAny M A (RL (.ref 1910)>>=_) Q E s
 refine Kb (Ze (n:=0) (F.u (1910,lG w) (za 23 rfl) rfl) (items:=#[.ref 1909]) (by kernel_rfl) ?_);exact Ga (a:=([("self",.ref b),("iterable",x)]:List (Ba×Value))) (by kernel_rfl) c
theorem yH(F:Fk w s.heap)(b:ma):mh s (fdOf (mx w)) ⟨[.ref b],[]⟩ [("self",.ref b),("iterable",.ref 1909)]:=by
 intro M A E Q c;show wpAny M A (RL (.ref 1910)>>=_) Q E s
 refine Kb (Ze (n:=0) (F.u (1910,lG w) (za 23 rfl) rfl) (items:=#[.ref 1909]) (by kernel_rfl) ?_);exact Ga (a:=([("self",.ref b),("iterable",.ref 1909)]:List (Ba×Value))) (by kernel_rfl) c
theorem Fk.uf(F:Fk w h)(i:Nat){x:Nat×Jb}(e:(CB w)[i]?=ac x)(q:XI.contains x.1=be):h.get? x.1=ac x.2:=F.u x (za i e) q
theorem Fk.kp(F:Fk w s.heap)(k:Kp s s'):Fk w s'.heap:=F.keeps λZ Z e=>k.get e
theorem Ks{c:ma}{o':Jb}(e:h.get? a=ac o)(b:h.get? c=ac o')(n:o.cls≠o'.cls):a≠c:=by
 rintro rfl
 rw[e] at b;exact n (congrArg Obj.cls (xa b))
theorem sE{dd x:ma}{ol:Jb}{T:String}{args:List Value}(g:GK (N+6) A)(F:Fk w s.heap)(hb:s.heap.get? b=ac ⟨.ref 1963,ac dd,.plain,#[]⟩)(O:s.heap.get? dd=ac zg)
  (q:mh s (fdOf (mx w)) ⟨args,[]⟩ [("self",.ref b),("iterable",.ref x)])
  (hl:s.heap.get? x=ac ol) (hT:ol.cls=.type T) (hd:ol.data=.seq vs.toArray n) (I:T="list"\/T="tuple") (hi:IntsAre vs ns) (hr:dj ns) (hz:ns.length<=mc)
  (V:∀s' d,(∃h' tk,s'={s with heap:=h',toks:=tk}/\∀y o,y≠b->s.heap.get? y=ac o->h'.get? y=ac o)->s'.heap.get? b=ac (Fe dd d)->yi s'.heap d ns->s.heap.get? d=a6->Q .none s'):
  zd (ja PP w) A (call (.ref 1917) args) Q s:=by
 refine fo (N:=N+4) (G:=GW w) (rd:=[]) (σ:=[("self",.addr b),("iterable",.addr x)]) (δ:=λZ=>0) (ς:=s) (K:=Uv s) (Y1 w)
  g (F.uf 24 rfl rfl) (F.uf 36 rfl rfl) q (by kernel_rfl) (by kernel_rfl) ⟨s.heap,s.toks,rfl⟩ (sf F) (λZ Z e=>e) (λZ Z e=>e) ⟨⟨rfl,rfl,nofun⟩,⟨rfl,rfl,nofun⟩,trivial⟩ (λx y ns ms Z e=>(Fg rfl e).elim) λc ν he p i f=>?_
 have M:Lf (aV (fa qp 0)) (ac (aT (fa qp 0))) (aP (fa qp 0)).line ν=pure be:=by kernel_rfl
 rw[FU];refine ub (Zt (by kernel_rfl) ?_);refine vi (name_buil i.re (by subst he;kernel_rfl) (oe w (by decide)) (v:=.type "bytearray") (by kernel_rfl) (by decide) (by decide) ?_);refine Bd (xs:=[eval (.Name "iterable" (ch (aV (fa qp 0)) 1).pos) ν]) (show 1<=30 by decide) ?_;refine ue λhC=>?_;obtain ⟨v,hv,h,_⟩:=i.look "iterable" (.addr x) rfl;refine hC ?_;have h:v=.ref x:=h;subst h;refine kc (vd i.kind hv (by decide) (by decide) ?_);refine Ga (a:=vb) rfl ?_;refine VB (by kernel_rfl) ?_;have t:c.heap.get? x=ac ol:=f.get hl;have D:x < c.heap.objs.size:=Ha t;refine Gz (a:=c.heap.objs.size) (l:=x) (vs:=vs) (ns:=ns) p.gd (qa _ rfl) (ea _ t) hT hd I hi hr hz (Na D) λh2 E C=>?_;have J:∀y o,c.heap.get? y=ac o->h2.get? y=ac o:=λy o e=>(C.2 y (Na (Ha e))).trans (ea _ e);have r:Kp c {c with heap:=h2}:=⟨h2,c.toks,rfl,J⟩;have m:=i.step r;refine ue λhC=>?_;obtain ⟨v,hv,h,_⟩:=m.look "self" (.addr b) rfl;refine hC ?_;have h:v=.ref b:=h;subst h;refine vd m.kind hv (by decide) (by decide) ?_;have k:=f.trans' r;have j:h2.get? b=ac ⟨.ref 1963,ac dd,.plain,#[]⟩:=k.get hb;have z:Fk w h2:=F.kp k;refine a3M (d:=c.heap.objs.size) p.ga.hd z j (Ks j (z.uf 29 rfl rfl) (by intro e;cases e)) (Ks j (z.uf 28 rfl rfl) (by intro e;cases e)) (Ks j (z.uf 30 rfl rfl) (by intro e;cases e)) λY u H=>⟨rfl,?_⟩;refine Jf ?_;have B:c.heap.objs.size≠b:=qb (Na (Ha (f.get hb)));refine V _ c.heap.objs.size ⟨Y,c.toks+1,?_,λy o L e=>u y o L (k.get e)⟩ H (u _ _ B E) (Ab f bc);refine ue λhC=>?_;obtain ⟨hp,tp,ep,_⟩:=f;refine hC ?_;rw[ep]
theorem tE{args:List Value}(g:GK (N+8) A)(F0:Fk w s.heap)
  (i:∀{A:Wc} {s':aa} {Q:Value->aa->Prop},A.handled=a6->Fk w s'.heap->(∀h',(∀x o,s'.heap.get? x=ac o->h'.get? x=ac o)->h'.get? (s'.heap.objs.size+0)=ac (zg)->h'.get? (s'.heap.objs.size+1)=ac (⟨.ref 1963,ac (s'.heap.objs.size+0),.plain,#[]⟩)->Q (.ref (s'.heap.objs.size+1)) {s' with heap:=h',toks:=s'.toks+0})->
   wpAny (ja PP w) A (call (.builtin "object.__new__") (.ref 1963::args)) Q Hc s')
  (f:∀{A:Wc} {s':aa} {Q:Fin->aa->Prop},A.handled=a6->Fk w s'.heap->(∀h',(∀x o,s'.heap.get? x=ac o->h'.get? x=ac o)->Q (Sw (.call (.builtin "type.__call__") ⟨.ref 1963::args,[]⟩)) {s' with heap:=h',toks:=s'.toks+0})->
   wpAny (ja PP w) A (PySem.callAny (.ref 1963) ⟨args,[]⟩) Q Hc s')
  (k:∀{A:Wc} {s':aa} {Q:Unit->aa->Prop},A.handled=a6->Fk w s'.heap->(∀h',(∀x o,s'.heap.get? x=ac o->h'.get? x=ac o)->Q (()) {s' with heap:=h',toks:=s'.toks+0})->
   wpAny (ja PP w) A (od "type.__call__" ⟨.ref 1963::args,[]⟩) Q Hc s')
  (c:∀{A:Wc} {s':aa} {Q:Value->aa->Prop} (b dd:ma),GK (N+6) A->Fk w s'.heap->Kp s s'->s'.heap.get? b=ac ⟨.ref 1963,ac dd,.plain,#[]⟩->s'.heap.get? dd=ac zg->
   (∀Sg d,(∃h' tk,Sg={s' with heap:=h',toks:=tk}/\∀y o,y≠b->s'.heap.get? y=ac o->h'.get? y=ac o)->Sg.heap.get? b=ac (Fe dd d)->yi Sg.heap d ns->s'.heap.get? d=a6->Q .none Sg)->
   zd (ja PP w) A (call (.ref 1917) (.ref b::args)) Q s')
  (hQ:∀s' b dd d,Kp s s'->s'.heap.get? b=ac (Fe dd d)->s'.heap.get? dd=ac zg->yi s'.heap d ns->s.heap.get? b=a6->s.heap.get? dd=a6->s.heap.get? d=a6->Q (.ref b) s'):
  zd (ja PP w) A (call (.ref 1963) args) Q s:=by
 have D:=g.ga.hd;have og:∀{s':aa} {h':Xb},(∀x o,s'.heap.get? x=ac o->h'.get? x=ac o)->Kp s' {s' with heap:=h',toks:=s'.toks+0}:=λhk=>⟨_,_,rfl,hk⟩;refine Yp (wi ?_);show zd _ _ (PySem.callAny (.ref 1963) _) _ _
 refine kc (f D F0 λh1 Y=>?_);have J:=og Y;have F1:=F0.kp J;refine⟨rfl,rfl,Cr (hN _) iN jW (k D F1 λh2 V=>?_)⟩
 have I:=J.trans' (og V);have F2:=F0.kp I;have E:GK (N+7) (A.under (.builtin "type.__call__" ⟨.ref 1963::args,[]⟩)):=g.cls;have a:=E.ga.hd;rw[wV];refine Nj (a4f a F2 λh3 T=>?_);refine jg rfl ?_;have K3:=I.trans' (og T);refine Nj (Z9 a (F0.kp K3) λh4 O=>?_);have n:=K3.trans' (og O);refine om (Qb ?_);refine Nj (Ta (i a (F0.kp n) λh5 M u h=>?_));have H:=n.trans' (og M);refine Nj (a4W a (F0.kp H) h λh6 l=>?_);refine jg rfl ?_;have G:=H.trans' (og l);refine om (yh ?_);dsimp only[Zr];refine Nj (a3K a (F0.kp G) (l _ _ h) λh7 r=>?_);have K7:=G.trans' (og r);refine yh (om ?_);refine kc (oR a (F0.kp K7) λh8 p=>?_);have m:=K7.trans' (og p);have B:=p _ _ (r _ _ (l _ _ h));have j:=p _ _ (r _ _ (l _ _ u));refine om (c _ _ (E.mono (Se _)) (F0.kp m) m B j λs' d hm v z t=>Qb ?_);refine jg rfl (Qb ⟨_,rfl,?_⟩);obtain ⟨h9,L,rfl,C⟩:=hm;have nb:=Ab n (Qe (Se _));have nd:=Ab n (Qe (yb _));refine hQ _ _ _ d ?_ v (C _ _ (by simp) j) z nb nd (Ab m t);refine⟨h9,L,rfl,λy o e=>C y o (λq=>?_) (m.get e)⟩
 rw[q,nb] at e;exact nomatch e
theorem YQ(g:GK (N+8) A)(F:Fk w s.heap)(hl:s.heap.get? l=ac (wb vs n))(hi:IntsAre vs ns)(hr:dj ns)(hz:ns.length<=mc)
  (o:∀s' b dd d,Kp s s'->s'.heap.get? b=ac (Fe dd d)->s'.heap.get? dd=ac zg->yi s'.heap d ns->s.heap.get? b=a6->s.heap.get? dd=a6->s.heap.get? d=a6->Q (.ref b) s'):
  zd (ja PP w) A (call (.ref 1963) [.ref l]) Q s:=
 tE g F (λc a h=>a4c c a h) (λc a h=>yV c a h) (λc a h=>E3 c a h)
  (λb dd p a k hb e h=>sE (T:="list") p a hb e (HL a _ _) (k.get hl) rfl rfl (.inl rfl) hi hr hz λs' d m j i f=>h s' d m j i f) o
theorem EL(g:GK (N+8) A)(F:Fk w s.heap)
  (m:∀s' b dd d,Kp s s'->s'.heap.get? b=ac (Fe dd d)->s'.heap.get? dd=ac zg->yi s'.heap d []->s.heap.get? b=a6->s.heap.get? dd=a6->s.heap.get? d=a6->Q (.ref b) s'):
  zd (ja PP w) A (call (.ref 1963) []) Q s:=
 tE g F (λc a h=>m8 c a h) (λc a h=>PQ c a h) (λc a h=>xV c a h)
  (λb dd o a k hb e h=>sE (T:="tuple") (vs:=[]) (n:=0) o a hb e (yH a _) (a.uf 22 rfl rfl) rfl rfl (.inr rfl) .nil (λZ h=>nomatch h) (fc _) λs' d l j i f=>h s' d l j i f) m
def S1(a:Pa)(S:T3)(B:List Ya)(w:sa)(b dd d:ma)(m k:Nat):Prop:=
 mn Rh (Vb Ra) a w 34 ⟨a8,[(b,Fe dd d),(1963,ud w),(1962,Th S B w),(1964,Fs w)],m,[],[.k 0,.k 1,.k 1,.k 2,.k 0,.k 1,.k 1,.k 2,.k 3,.k 3,.k 1,.k 1,.k 2,.k 3,.k 3,.k 3,.k 0,.k 1,.k 3,.k 3,.k 3,.k 3,.k 0,.k 1,.k 0],[]⟩ k (.top (Ti (.ref b) "_data" a8))=ac (⟨a8,[(b,Fe dd d),(1963,ud w),(1962,Th S B w),(1964,Fs w)],m,[],[],[(b,b),(1963,1963),(b,b),(1964,1964),(1964,1964),(1964,1964),(1964,1964),(1963,1963),(b,b),(1964,1964),(1964,1964),(1964,1964),(1962,1962),(1963,1963),(1963,1963),(1964,1964),(1964,1964),(1962,1962),(1963,1963),(1963,1963),(b,b),(1962,1962),(1963,1963),(1963,1963),(b,b)]⟩,k+1,.top (.pure (.ref d)))
lay_quick Mine.S1
theorem TU(w:sa)(b dd d:ma)(m k:Nat):S1 PP (Qd w) Hb w b dd d  m k:=wf (P:=λv=>S1 PP (Qd w) Hb v b dd d  m k) w λa=>by
 rw[Fast.te15986862669568924916];unfold Fast.tw15986862669568924916;cases a <;> kernel_rfl
theorem gaT{dd d:ma}{Q:_->aa->Prop}(c:A.handled=a6)(F:Fk w s.heap)(hb:s.heap.get? b=ac (Fe dd d))
  (a:∀h',(∀x o,s.heap.get? x=ac o->h'.get? x=ac o)->Q (.ref d) {s with heap:=h',toks:=s.toks+1}):wpAny (ja PP w) A (Ti (.ref b) "_data" a8) Q E s:=
 ng c (TU w b dd d  s.heap.objs.size s.toks) [b,1963,b,1964,1964,1964,1964,1963,b,1964,1964,1964,1962,1963,1963,1964,1964,1962,1963,1963,b,1962,1963,1963,b] rfl (Ld hb (Ld (F.u (1963,ud w) (za 29 rfl) rfl) (Ld (F.u (1962,Gs w) (za 28 rfl) rfl) (Ld (F.u (1964,Fs w) (za 30 rfl) rfl) Sl)))) rfl rfl λh' hk hn=>a h' hk
theorem jL{a b:Int}{y:Ba}{Q:Bool->aa->Prop}(h:Q be s):wpAny (ja π w) A (eqBool (.int a t) (.str y u)) Q E s:=by
 unfold eqBool;refine Ta ?_;rw[if_neg (show¬((Io a t==sl y u)=a8) from ih)];exact jb (EqMixed.eq_int_str (Le h))
theorem iL{b:Int}{y:Ba}{Q:Bool->aa->Prop}(h:Q be s):wpAny (ja π w) A (eqBool (.str y u) (.int b t)) Q E s:=by
 unfold eqBool;refine Ta ?_;rw[if_neg (show¬((sl y u==Io b t)=a8) from ih)];exact jb (EqMixed.eq_str_int (Le h))
noncomputable def rl:Int ⊕ Ba->Value->Bool
 |.inl i,v=>Fh i v
 |.inr x,v=>TV x v
theorem Xy{k:Int ⊕ Ba}(h:rl k v=a8):(∃i t,k=.inl i/\v=.int i t)\/(∃x t,k=.inr x/\v=.str x t):=by
 cases k with
 |inl i=>obtain ⟨t,e⟩:=WL h;exact .inl ⟨i,t,rfl,e⟩
 |inr x=>obtain ⟨t,e⟩:=js h;exact .inr ⟨x,t,rfl,e⟩
noncomputable def a0A:Value->Option (Int ⊕ Ba)
 |.int i _=>ac (.inl i)
 |.str x _=>ac (.inr x)
 |_=>a6
theorem zv{k:Int ⊕ Ba}(h:rl k v=a8):a0A v=ac k:=by
 rcases Xy h with ⟨i,t,rfl,rfl⟩|⟨x,t,rfl,rfl⟩ <;> rfl
theorem EO{P:Int ⊕ Ba->Value->Prop}(hi:∀i t,P (.inl i) (.int i t))(a:∀x t,P (.inr x) (.str x t)){k:Int ⊕ Ba}(h:rl k v=a8):P k v:=by
 cases k with
 |inl i=>exact(WL h).elim λt e=>e▸hi i t
 |inr x=>exact(js h).elim λt e=>e▸a x t
noncomputable def hM(w:sa):Int ⊕ Ba->Int
 |.inl i=>tM i
 |.inr x=>hashStr w x
noncomputable def Zn(π:Pa)(w:sa):KeyKind π w (Int ⊕ Ba) where
 is:=rl
 hash:=hM w
 inj:=λv a b d hb=>xa ((zv d).symm.trans (zv hb))
 byValue:=λk v h=>EO (P:=λk v=>a2Y v=a8) (λi t=>rfl) (λx t=>rfl) h
 pyHash:=λ{A E s k v Q} hv=>EO (P:=λk v=>Q (hM w k) {s with toks:=s.toks+1}->wpAny (ja π w) A (pyHash v) Q E s) (λi t h=>wpAny_pyHash_int h) (λx t h=>wpAny_pyHash_str h) hv
 eqBool:=λ{A E s a b u v Q} c hv=>EO (P:=λa u=>Q (decide (a=b)) s->wpAny (ja π w) A (eqBool u v) Q E s)
  (λi t=>EO (P:=λb v=>Q (decide (.inl i=b)) s->wpAny (ja π w) A (eqBool (.int i t) v) Q E s)
   (λj u h=>wpAny_eqBool_int (show Q (decide (i=j)) s from(decide_eq_decide (p:=i=j) (q:=(I5 i:Int ⊕ Ba)=.inl j)).mpr ⟨congrArg I5,Sum.inl.inj⟩▸h))
   (λy u h=>jL (b:=0) (decide_eq_false (p:=(I5 i:Int ⊕ Ba)=.inr y) (λe=>nomatch e)▸h)) hv)
  (λx t=>EO (P:=λb v=>Q (decide (.inr x=b)) s->wpAny (ja π w) A (eqBool (.str x t) v) Q E s)
   (λj u h=>iL (decide_eq_false (p:=(H5 x:Int ⊕ Ba)=.inl j) (λe=>nomatch e)▸h))
   (λy u h=>wpAny_eqBool_str ((decide_eq_decide (p:=x=y) (q:=(H5 x:Int ⊕ Ba)=.inr y)).mpr ⟨congrArg H5,Sum.inr.inj⟩▸h)) hv) c
 «strs»:=λk x t v h=>by
  cases k with
  |inl i=>exact nomatch h
  |inr y=>exact(js (x:=y) (v:=.str x t) h).elim λu e=>(VL e).1▸by cases v <;> rfl
def GQ(w:sa)(e:fb):Prop:=(∃i t,e.key=.int i t/\e.hash=tM i)\/(∃x t,e.key=.str x t/\e.hash=hashStr w x)
set_option tactic.hygienic true in
theorem HQ(w:sa):∀e∈EE w,GQ w e:=by
 have b:∀l:List fb,(l.all λe=>match e.key with|.int i _=>e.hash==tM i|_=>be)=a8->∀e∈l,GQ w e:=by
  intro l h e he;have:=Aa.mp h e he;split at this
  ·rename_i i t hk;exact .inl ⟨i,t,hk,by simpa using this⟩
  ·exact nomatch this
 have a:∀l:List fb,(l.map (·.hash))=l.map (λe=>match e.key with|.str x _=>hashStr w x|_=>0)->(l.all λe=>match e.key with|.str _ _=>a8|_=>be)=a8->∀e∈l,GQ w e:=by
  intro l h1 h2 e he;have d:=Jk.mp h1 e he;have c:=Aa.mp h2 e he;split at c
  ·rename_i x t hk
   rw[hk] at d;exact .inr ⟨x,t,hk,d⟩
  ·exact nomatch c
 intro e he;delta EE at he;simp only[we] at he;rcases he with (((he|he)|(he|he))|he)|he
 ·exact b E1 (by kernel_rfl) e he
 ·exact b E2 (by kernel_rfl) e he
 ·exact b Yv (by kernel_rfl) e he
 ·exact a (jt w) (by kernel_rfl) (by kernel_rfl) e he
 ·exact a (E4 w) (by kernel_rfl) (by kernel_rfl) e he
 ·exact a (E5 w) (by kernel_rfl) (by kernel_rfl) e he
theorem oV(F:Fk w s.heap):s.heap.MapOf (Zn π w) 139 (Kw rl (EE w).toArray):=by
 refine⟨_,(EE w).toArray,76,F.ecc,⟨rfl,rfl,rfl⟩,rfl,λe he=>?_,λk=>rfl⟩
 rcases HQ w e (by simpa using he) with ⟨i,t,h1,h2⟩|⟨x,t,h1,h2⟩
 ·exact⟨.inl i,by rw[h1];simp[Zn,rl,Fh],h2⟩
 ·exact⟨.inr x,by rw[h1];simp[Zn,rl,TV],h2⟩
theorem pV{v:Int}{r:Value}(F:Fk w s.heap)(hv:Kw rl (EE w).toArray (.inl v)=ac r)(h:Q r {s with toks:=s.toks+1}):
  wpAny (ja π w) A (Vj (.ref 139) (.int v t)) Q E s:=
 wpAny_getItem_of (knd:=Zn π w) (k:=.inl v) (by simp[Zn,rl,Fh]) (oV F) hv h
set_option tactic.hygienic true in
theorem tq{d:ma}{es:List fb}{v:Int}{r:Value}(a:s.heap.get? d=ac (Va es n))(hk:(es.all λe=>match e.key with|.int i _=>e.hash==tM i|_=>be)=a8)
  (hv:Kw Fh es.toArray v=ac r) (h:Q r {s with toks:=s.toks+1}):wpAny (ja π w) A (Vj (.ref d) (.int v t)) Q E s:=by
 refine wpAny_getItem_of (knd:=intKind π w) (k:=v) (f:=Kw Fh es.toArray) (by simp[intKind,Fh]) ⟨_,es.toArray,n,a,⟨rfl,rfl,rfl⟩,rfl,λe he=>?_,λk=>rfl⟩ hv h;have:=Aa.mp hk e (by simpa using he);split at this
 ·rename_i i t hk
  exact⟨i,by rw[hk];simp[intKind,Fh],eq_of_beq this⟩
 ·exact nomatch this
def eN(a:Pa)(S:T3)(B:List Ya)(w:sa) (m k:Nat):Prop:=
 mn Rh (Vb Ra) a w 3 ⟨a8,[(135,ah w),(134,Rl S B w)],m,[],[.k 0,.k 0,.k 1],[]⟩ k (.top (sd (.ref 135) "__getattribute__"))=ac (⟨a8,[(135,ah w),(134,Rl S B w)],m,[],[],[(134,134),(135,135),(135,135)]⟩,k+0,.top (.pure (ac (.builtin "tuple.__getattribute__"))))
def zB(a:Pa)(S:T3)(B:List Ya)(w:sa)(e ed:ma)(ia ib ic:Int)(ta tb tc:Nat)(m k:Nat):Prop:=
 mn Rh (Vb Ra) a w 0 ⟨a8,[],m,[],[],[]⟩ k (.top (rC (.builtin "tuple.__getattribute__") (.ref e)))=ac (⟨a8,[],m,[],[],[]⟩,k+0,.top (.pure ((.builtin "tuple.__getattribute__",[.ref e]))))
def VG(a:Pa)(S:T3)(B:List Ya)(w:sa)(e ed:ma)(ia ib ic:Int)(ta tb tc:Nat)(nm:Ba)(t:Nat)(m k:Nat):Prop:=
 mn Rh (Vb Ra) a w 2 ⟨a8,[(e,⟨.ref 135,ac ed,.seq ⟨[.int ia ta,.int ib tb,.int ic tc]⟩ 0,⟨[]⟩⟩),(135,ah w)],m,[],[.k 0,.k 1],[]⟩ k (.top (od "tuple.__getattribute__" ⟨[.ref e,.str nm t],[]⟩))=ac (⟨a8,[(e,⟨.ref 135,ac ed,.seq ⟨[.int ia ta,.int ib tb,.int ic tc]⟩ 0,⟨[]⟩⟩),(135,ah w)],m,[],[],[(135,135),(e,e)]⟩,k+0,.top (.pure (())))
def cN(a:Pa)(S:T3)(B:List Ya)(w:sa) (m k:Nat):Prop:=
 mn Rh (Vb Ra) a w 3 ⟨a8,[(135,ah w),(134,Rl S B w)],m,[],[.k 0,.k 0,.k 1],[]⟩ k (.top (sd (.ref 135) "__getattr__"))=ac (⟨a8,[(135,ah w),(134,Rl S B w)],m,[],[],[(134,134),(135,135),(135,135)]⟩,k+0,.top (.pure (a6)))
def JF(a:Pa)(S:T3)(B:List Ya)(w:sa)(e ed:ma)(ia ib ic:Int)(ta tb tc:Nat)(m k:Nat):Prop:=
 mn Rh (Vb Ra) a w 4 ⟨a8,[(e,⟨.ref 135,ac ed,.seq ⟨[.int ia ta,.int ib tb,.int ic tc]⟩ 0,⟨[]⟩⟩)],m,[],[.k 0],[]⟩ k (.top (call (.type "type") [.ref e]))=ac (⟨a8,[(e,⟨.ref 135,ac ed,.seq ⟨[.int ia ta,.int ib tb,.int ic tc]⟩ 0,⟨[]⟩⟩)],m,[],[],[(e,e)]⟩,k+0,.top (.pure (.ref 135)))
def pN(a:Pa)(S:T3)(B:List Ya)(w:sa) (m k:Nat):Prop:=
 mn Rh (Vb Ra) a w 6 ⟨a8,[(135,ah w)],m,[],[.k 0,.k 0],[]⟩ k (.top (call (.builtin "issubclass") [.ref 135,.type "tuple"]))=ac (⟨a8,[(135,ah w)],m,[],[],[(135,135),(135,135)]⟩,k+0,.top (.pure (.bool a8)))
def RG(a:Pa)(S:T3)(B:List Ya)(w:sa)(pl:xc Bool)(m k:Nat):Prop:=
 mn Rh (Vb Ra) a w 4 ⟨a8,[],m,[],[],[]⟩ k (.top (oj (.type "tuple") "__getitem__" pl))=ac (⟨a8,[],m,[],[],[]⟩,k+1,.top (.pure ((.builtin "tuple.__getitem__",[]))))
def eH(a:Pa)(S:T3)(B:List Ya)(w:sa)(e ed:ma)(ia ib ic:Int)(ta tb tc:Nat)(m k:Nat):Prop:=
 mn Rh (Vb Ra) a w 12 ⟨a8,[(135,ah w),(134,Rl S B w),(124,rx w),(60,Qo w),(59,Ro w)],m,[],[.k 0,.k 0,.k 1,.k 2,.k 3,.k 3,.k 4,.k 2,.k 3,.k 3,.k 4],[]⟩ k (.top (PySem.Builtin.ObjectAttr.find (.ref e) (.ref 135) "num_blocks"))=ac (⟨a8,[(135,ah w),(134,Rl S B w),(124,rx w),(60,Qo w),(59,Ro w)],m,[],[],[(59,59),(60,60),(60,60),(124,124),(59,59),(60,60),(60,60),(124,124),(134,134),(135,135),(135,135)]⟩,k+0,.top (.pure (PySem.Builtin.ObjectAttr.Found.bind (.ref 43) (.ref 124))))
def OP(a:Pa)(S:T3)(B:List Ya)(w:sa) (m k:Nat):Prop:=
 mn Rh (Vb Ra) a w 16 ⟨a8,[(124,rx w),(60,Qo w),(59,Ro w),(123,SA S B w)],m,[],[.k 0,.k 1,.k 1,.k 2,.k 0,.k 1,.k 1,.k 2,.k 0,.k 0,.k 1,.k 3],[]⟩ k (.top (Ti (.ref 124) "index" a8))=ac (⟨a8,[(124,rx w),(60,Qo w),(59,Ro w),(123,SA S B w)],m,[],[],[(123,123),(60,60),(124,124),(124,124),(59,59),(60,60),(60,60),(124,124),(59,59),(60,60),(60,60),(124,124)]⟩,k+1,.top (.pure (.int 0 365)))
def LG(a:Pa)(S:T3)(B:List Ya)(w:sa)(e ed:ma)(ia ib ic:Int)(ta tb tc:Nat)(m k:Nat):Prop:=
 mn Rh (Vb Ra) a w 6 ⟨a8,[(e,⟨.ref 135,ac ed,.seq ⟨[.int ia ta,.int ib tb,.int ic tc]⟩ 0,⟨[]⟩⟩),(135,ah w)],m,[],[.k 0,.k 1,.k 0],[]⟩ k (.top (call (.builtin "tuple.__getitem__") [.ref e,.int 0 365]))=ac (⟨a8,[(e,⟨.ref 135,ac ed,.seq ⟨[.int ia ta,.int ib tb,.int ic tc]⟩ 0,⟨[]⟩⟩),(135,ah w)],m,[],[],[(e,e),(135,135),(e,e)]⟩,k+0,.top (.pure (.int ia ta)))
def dH(a:Pa)(S:T3)(B:List Ya)(w:sa)(e ed:ma)(ia ib ic:Int)(ta tb tc:Nat)(m k:Nat):Prop:=
 mn Rh (Vb Ra) a w 12 ⟨a8,[(135,ah w),(134,Rl S B w),(127,qx w),(60,Qo w),(59,Ro w)],m,[],[.k 0,.k 0,.k 1,.k 2,.k 3,.k 3,.k 4,.k 2,.k 3,.k 3,.k 4],[]⟩ k (.top (PySem.Builtin.ObjectAttr.find (.ref e) (.ref 135) "num_total"))=ac (⟨a8,[(135,ah w),(134,Rl S B w),(127,qx w),(60,Qo w),(59,Ro w)],m,[],[],[(59,59),(60,60),(60,60),(127,127),(59,59),(60,60),(60,60),(127,127),(134,134),(135,135),(135,135)]⟩,k+0,.top (.pure (PySem.Builtin.ObjectAttr.Found.bind (.ref 43) (.ref 127))))
def MP(a:Pa)(S:T3)(B:List Ya)(w:sa) (m k:Nat):Prop:=
 mn Rh (Vb Ra) a w 16 ⟨a8,[(127,qx w),(60,Qo w),(59,Ro w),(126,RA S B w)],m,[],[.k 0,.k 1,.k 1,.k 2,.k 0,.k 1,.k 1,.k 2,.k 0,.k 0,.k 1,.k 3],[]⟩ k (.top (Ti (.ref 127) "index" a8))=ac (⟨a8,[(127,qx w),(60,Qo w),(59,Ro w),(126,RA S B w)],m,[],[],[(126,126),(60,60),(127,127),(127,127),(59,59),(60,60),(60,60),(127,127),(59,59),(60,60),(60,60),(127,127)]⟩,k+1,.top (.pure (.int 1 375)))
def KG(a:Pa)(S:T3)(B:List Ya)(w:sa)(e ed:ma)(ia ib ic:Int)(ta tb tc:Nat)(m k:Nat):Prop:=
 mn Rh (Vb Ra) a w 6 ⟨a8,[(e,⟨.ref 135,ac ed,.seq ⟨[.int ia ta,.int ib tb,.int ic tc]⟩ 0,⟨[]⟩⟩),(135,ah w)],m,[],[.k 0,.k 1,.k 0],[]⟩ k (.top (call (.builtin "tuple.__getitem__") [.ref e,.int 1 375]))=ac (⟨a8,[(e,⟨.ref 135,ac ed,.seq ⟨[.int ia ta,.int ib tb,.int ic tc]⟩ 0,⟨[]⟩⟩),(135,ah w)],m,[],[],[(e,e),(135,135),(e,e)]⟩,k+0,.top (.pure (.int ib tb)))
def cH(a:Pa)(S:T3)(B:List Ya)(w:sa)(e ed:ma)(ia ib ic:Int)(ta tb tc:Nat)(m k:Nat):Prop:=
 mn Rh (Vb Ra) a w 12 ⟨a8,[(135,ah w),(134,Rl S B w),(130,ox w),(60,Qo w),(59,Ro w)],m,[],[.k 0,.k 0,.k 1,.k 2,.k 3,.k 3,.k 4,.k 2,.k 3,.k 3,.k 4],[]⟩ k (.top (PySem.Builtin.ObjectAttr.find (.ref e) (.ref 135) "num_data"))=ac (⟨a8,[(135,ah w),(134,Rl S B w),(130,ox w),(60,Qo w),(59,Ro w)],m,[],[],[(59,59),(60,60),(60,60),(130,130),(59,59),(60,60),(60,60),(130,130),(134,134),(135,135),(135,135)]⟩,k+0,.top (.pure (PySem.Builtin.ObjectAttr.Found.bind (.ref 43) (.ref 130))))
def KP(a:Pa)(S:T3)(B:List Ya)(w:sa) (m k:Nat):Prop:=
 mn Rh (Vb Ra) a w 16 ⟨a8,[(130,ox w),(60,Qo w),(59,Ro w),(129,QA S B w)],m,[],[.k 0,.k 1,.k 1,.k 2,.k 0,.k 1,.k 1,.k 2,.k 0,.k 0,.k 1,.k 3],[]⟩ k (.top (Ti (.ref 130) "index" a8))=ac (⟨a8,[(130,ox w),(60,Qo w),(59,Ro w),(129,QA S B w)],m,[],[],[(129,129),(60,60),(130,130),(130,130),(59,59),(60,60),(60,60),(130,130),(59,59),(60,60),(60,60),(130,130)]⟩,k+1,.top (.pure (.int 2 385)))
def JG(a:Pa)(S:T3)(B:List Ya)(w:sa)(e ed:ma)(ia ib ic:Int)(ta tb tc:Nat)(m k:Nat):Prop:=
 mn Rh (Vb Ra) a w 6 ⟨a8,[(e,⟨.ref 135,ac ed,.seq ⟨[.int ia ta,.int ib tb,.int ic tc]⟩ 0,⟨[]⟩⟩),(135,ah w)],m,[],[.k 0,.k 1,.k 0],[]⟩ k (.top (call (.builtin "tuple.__getitem__") [.ref e,.int 2 385]))=ac (⟨a8,[(e,⟨.ref 135,ac ed,.seq ⟨[.int ia ta,.int ib tb,.int ic tc]⟩ 0,⟨[]⟩⟩),(135,ah w)],m,[],[],[(e,e),(135,135),(e,e)]⟩,k+0,.top (.pure (.int ic tc)))
lay_quick Mine.eN Mine.zB Mine.VG Mine.cN Mine.JF Mine.pN Mine.RG Mine.eH Mine.OP Mine.LG Mine.dH Mine.MP Mine.KG Mine.cH Mine.KP Mine.JG
theorem dN(w:sa)(m k:Nat):eN PP (Qd w) Hb w m k:=wf (P:=λv=>eN PP (Qd w) Hb v m k) w λa=>by
 rw[Fast.te3720759500553372119];unfold Fast.tw3720759500553372119;cases a <;> kernel_rfl
theorem a3F {Q:_->aa->Prop}(b:A.handled=a6)(F:Fk w s.heap)
  (a:∀h',(∀x o,s.heap.get? x=ac o->h'.get? x=ac o)->Q (ac (.builtin "tuple.__getattribute__")) {s with heap:=h',toks:=s.toks+0}):wpAny (ja PP w) A (sd (.ref 135) "__getattribute__") Q E s:=
 ng b (dN w  s.heap.objs.size s.toks) [134,135,135] rfl (Ld (F.t (135,ah w) (za 14 rfl)) (Ld (F.t (134,kD w) (za 13 rfl)) Sl)) rfl rfl λh' hk hn=>a h' hk
theorem WG(w:sa)(e ed:ma)(ia ib ic:Int)(ta tb tc:Nat)(m k:Nat):zB PP (Qd w) Hb w e ed  ia ib ic  ta tb tc  m k:=wf (P:=λv=>zB PP (Qd w) Hb v e ed  ia ib ic  ta tb tc  m k) w λa=>by
 rw[Fast.te16681875553329643422];unfold Fast.tw16681875553329643422;cases a <;> kernel_rfl
theorem U1{e ed:ma}{ia ib ic:Int}{ta tb tc:Nat}{Q:_->aa->Prop}(b:A.handled=a6)(F:Fk w s.heap)
  (a:∀h',(∀x o,s.heap.get? x=ac o->h'.get? x=ac o)->Q ((.builtin "tuple.__getattribute__",[.ref e])) {s with heap:=h',toks:=s.toks+0}):wpAny (ja PP w) A (rC (.builtin "tuple.__getattribute__") (.ref e)) Q E s:=
 ng b (WG w e ed  ia ib ic  ta tb tc  s.heap.objs.size s.toks) [] rfl (λZ hp=>(nomatch hp)) rfl rfl λh' hk hn=>a h' hk
theorem UK(w:sa)(e ed:ma)(ia ib ic:Int)(ta tb tc:Nat)(nm:Ba)(t:Nat)(m k:Nat):VG PP (Qd w) Hb w e ed  ia ib ic  ta tb tc  nm  t  m k:=wf (P:=λv=>VG PP (Qd w) Hb v e ed  ia ib ic  ta tb tc  nm  t  m k) w λa=>by
 rw[Fast.te6303388669960209272];unfold Fast.tw6303388669960209272;cases a <;> kernel_rfl
theorem nQ{e ed:ma}{ia ib ic:Int}{ta tb tc:Nat}{nm:Ba}{t:Nat}{Q:_->aa->Prop}(b:A.handled=a6)(F:Fk w s.heap)(he:s.heap.get? e=ac (⟨.ref 135,ac ed,.seq ⟨[.int ia ta,.int ib tb,.int ic tc]⟩ 0,⟨[]⟩⟩))
  (a:∀h',(∀x o,s.heap.get? x=ac o->h'.get? x=ac o)->Q (()) {s with heap:=h',toks:=s.toks+0}):wpAny (ja PP w) A (od "tuple.__getattribute__" ⟨[.ref e,.str nm t],[]⟩) Q E s:=
 ng b (UK w e ed  ia ib ic  ta tb tc  nm  t  s.heap.objs.size s.toks) [135,e] rfl (Ld he (Ld (F.t (135,ah w) (za 14 rfl)) Sl)) rfl rfl λh' hk hn=>a h' hk
theorem bN(w:sa)(m k:Nat):cN PP (Qd w) Hb w m k:=wf (P:=λv=>cN PP (Qd w) Hb v m k) w λa=>by
 rw[Fast.te10934103324978402368];unfold Fast.tw10934103324978402368;cases a <;> kernel_rfl
theorem a3E {Q:_->aa->Prop}(b:A.handled=a6)(F:Fk w s.heap)
  (a:∀h',(∀x o,s.heap.get? x=ac o->h'.get? x=ac o)->Q (a6) {s with heap:=h',toks:=s.toks+0}):wpAny (ja PP w) A (sd (.ref 135) "__getattr__") Q E s:=
 ng b (bN w  s.heap.objs.size s.toks) [134,135,135] rfl (Ld (F.t (135,ah w) (za 14 rfl)) (Ld (F.t (134,kD w) (za 13 rfl)) Sl)) rfl rfl λh' hk hn=>a h' hk
theorem WJ(w:sa)(e ed:ma)(ia ib ic:Int)(ta tb tc:Nat)(m k:Nat):JF PP (Qd w) Hb w e ed  ia ib ic  ta tb tc  m k:=wf (P:=λv=>JF PP (Qd w) Hb v e ed  ia ib ic  ta tb tc  m k) w λa=>by
 rw[Fast.te9750873058852298631];unfold Fast.tw9750873058852298631;cases a <;> kernel_rfl
theorem E6{e ed:ma}{ia ib ic:Int}{ta tb tc:Nat}{Q:_->aa->Prop}(b:A.handled=a6)(F:Fk w s.heap)(he:s.heap.get? e=ac (⟨.ref 135,ac ed,.seq ⟨[.int ia ta,.int ib tb,.int ic tc]⟩ 0,⟨[]⟩⟩))
  (a:∀h',(∀x o,s.heap.get? x=ac o->h'.get? x=ac o)->Q (.ref 135) {s with heap:=h',toks:=s.toks+0}):wpAny (ja PP w) A (call (.type "type") [.ref e]) Q E s:=
 ng b (WJ w e ed  ia ib ic  ta tb tc  s.heap.objs.size s.toks) [e] rfl (Ld he Sl) rfl rfl λh' hk hn=>a h' hk
theorem oN(w:sa)(m k:Nat):pN PP (Qd w) Hb w m k:=wf (P:=λv=>pN PP (Qd w) Hb v m k) w λa=>by
 rw[Fast.te17976131209395977629];unfold Fast.tw17976131209395977629;cases a <;> kernel_rfl
theorem a3I {Q:_->aa->Prop}(b:A.handled=a6)(F:Fk w s.heap)
  (a:∀h',(∀x o,s.heap.get? x=ac o->h'.get? x=ac o)->Q (.bool a8) {s with heap:=h',toks:=s.toks+0}):wpAny (ja PP w) A (call (.builtin "issubclass") [.ref 135,.type "tuple"]) Q E s:=
 ng b (oN w  s.heap.objs.size s.toks) [135,135] rfl (Ld (F.t (135,ah w) (za 14 rfl)) Sl) rfl rfl λh' hk hn=>a h' hk
theorem QK(w:sa)(pl:xc Bool)(m k:Nat):RG PP (Qd w) Hb w pl  m k:=wf (P:=λv=>RG PP (Qd w) Hb v pl  m k) w λa=>by
 rw[Fast.te11824380789403807370];unfold Fast.tw11824380789403807370;cases a <;> kernel_rfl
theorem a1o{pl:xc Bool}{Q:_->aa->Prop}(b:A.handled=a6)(F:Fk w s.heap)
  (a:∀h',(∀x o,s.heap.get? x=ac o->h'.get? x=ac o)->Q ((.builtin "tuple.__getitem__",[])) {s with heap:=h',toks:=s.toks+1}):wpAny (ja PP w) A (oj (.type "tuple") "__getitem__" pl) Q E s:=
 ng b (QK w pl  s.heap.objs.size s.toks) [] rfl (λZ hp=>(nomatch hp)) rfl rfl λh' hk hn=>a h' hk
theorem YK(w:sa)(e ed:ma)(ia ib ic:Int)(ta tb tc:Nat)(m k:Nat):eH PP (Qd w) Hb w e ed  ia ib ic  ta tb tc  m k:=wf (P:=λv=>eH PP (Qd w) Hb v e ed  ia ib ic  ta tb tc  m k) w λa=>by
 rw[Fast.te3773182795644427226];unfold Fast.tw3773182795644427226;cases a <;> kernel_rfl
theorem a1A{e ed:ma}{ia ib ic:Int}{ta tb tc:Nat}{Q:_->aa->Prop}(b:A.handled=a6)(F:Fk w s.heap)
  (a:∀h',(∀x o,s.heap.get? x=ac o->h'.get? x=ac o)->Q (PySem.Builtin.ObjectAttr.Found.bind (.ref 43) (.ref 124)) {s with heap:=h',toks:=s.toks+0}):wpAny (ja PP w) A (PySem.Builtin.ObjectAttr.find (.ref e) (.ref 135) "num_blocks") Q E s:=
 ng b (YK w e ed  ia ib ic  ta tb tc  s.heap.objs.size s.toks) [59,60,60,124,59,60,60,124,134,135,135] rfl (Ld (F.t (135,ah w) (za 14 rfl)) (Ld (F.t (134,kD w) (za 13 rfl)) (Ld (F.t (124,rx w) (za 8 rfl)) (Ld (F.t (60,Qo w) (za 6 rfl)) (Ld (F.t (59,Ro w) (za 5 rfl)) Sl))))) rfl rfl λh' hk hn=>a h' hk
theorem NP(w:sa)(m k:Nat):OP PP (Qd w) Hb w m k:=wf (P:=λv=>OP PP (Qd w) Hb v m k) w λa=>by
 rw[Fast.te1836729358720433085];unfold Fast.tw1836729358720433085;cases a <;> kernel_rfl
theorem a4Z {Q:_->aa->Prop}(b:A.handled=a6)(F:Fk w s.heap)
  (a:∀h',(∀x o,s.heap.get? x=ac o->h'.get? x=ac o)->Q (.int 0 365) {s with heap:=h',toks:=s.toks+1}):wpAny (ja PP w) A (Ti (.ref 124) "index" a8) Q E s:=
 ng b (NP w  s.heap.objs.size s.toks) [123,60,124,124,59,60,60,124,59,60,60,124] rfl (Ld (F.t (124,rx w) (za 8 rfl)) (Ld (F.t (60,Qo w) (za 6 rfl)) (Ld (F.t (59,Ro w) (za 5 rfl)) (Ld (F.t (123,g8 w) (za 7 rfl)) Sl)))) rfl rfl λh' hk hn=>a h' hk
theorem DK(w:sa)(e ed:ma)(ia ib ic:Int)(ta tb tc:Nat)(m k:Nat):LG PP (Qd w) Hb w e ed  ia ib ic  ta tb tc  m k:=wf (P:=λv=>LG PP (Qd w) Hb v e ed  ia ib ic  ta tb tc  m k) w λa=>by
 rw[Fast.te1088690125448234419];unfold Fast.tw1088690125448234419;cases a <;> kernel_rfl
theorem a0I{e ed:ma}{ia ib ic:Int}{ta tb tc:Nat}{Q:_->aa->Prop}(b:A.handled=a6)(F:Fk w s.heap)(he:s.heap.get? e=ac (⟨.ref 135,ac ed,.seq ⟨[.int ia ta,.int ib tb,.int ic tc]⟩ 0,⟨[]⟩⟩))
  (a:∀h',(∀x o,s.heap.get? x=ac o->h'.get? x=ac o)->Q (.int ia ta) {s with heap:=h',toks:=s.toks+0}):wpAny (ja PP w) A (call (.builtin "tuple.__getitem__") [.ref e,.int 0 365]) Q E s:=
 ng b (DK w e ed  ia ib ic  ta tb tc  s.heap.objs.size s.toks) [e,135,e] rfl (Ld he (Ld (F.t (135,ah w) (za 14 rfl)) Sl)) rfl rfl λh' hk hn=>a h' hk
theorem XK(w:sa)(e ed:ma)(ia ib ic:Int)(ta tb tc:Nat)(m k:Nat):dH PP (Qd w) Hb w e ed  ia ib ic  ta tb tc  m k:=wf (P:=λv=>dH PP (Qd w) Hb v e ed  ia ib ic  ta tb tc  m k) w λa=>by
 rw[Fast.te6078894403446552840];unfold Fast.tw6078894403446552840;cases a <;> kernel_rfl
theorem a1z{e ed:ma}{ia ib ic:Int}{ta tb tc:Nat}{Q:_->aa->Prop}(b:A.handled=a6)(F:Fk w s.heap)
  (a:∀h',(∀x o,s.heap.get? x=ac o->h'.get? x=ac o)->Q (PySem.Builtin.ObjectAttr.Found.bind (.ref 43) (.ref 127)) {s with heap:=h',toks:=s.toks+0}):wpAny (ja PP w) A (PySem.Builtin.ObjectAttr.find (.ref e) (.ref 135) "num_total") Q E s:=
 ng b (XK w e ed  ia ib ic  ta tb tc  s.heap.objs.size s.toks) [59,60,60,127,59,60,60,127,134,135,135] rfl (Ld (F.t (135,ah w) (za 14 rfl)) (Ld (F.t (134,kD w) (za 13 rfl)) (Ld (F.t (127,qx w) (za 10 rfl)) (Ld (F.t (60,Qo w) (za 6 rfl)) (Ld (F.t (59,Ro w) (za 5 rfl)) Sl))))) rfl rfl λh' hk hn=>a h' hk
theorem LP(w:sa)(m k:Nat):MP PP (Qd w) Hb w m k:=wf (P:=λv=>MP PP (Qd w) Hb v m k) w λa=>by
 rw[Fast.te13466760736292203777];unfold Fast.tw13466760736292203777;cases a <;> kernel_rfl
theorem a4Y {Q:_->aa->Prop}(b:A.handled=a6)(F:Fk w s.heap)
  (a:∀h',(∀x o,s.heap.get? x=ac o->h'.get? x=ac o)->Q (.int 1 375) {s with heap:=h',toks:=s.toks+1}):wpAny (ja PP w) A (Ti (.ref 127) "index" a8) Q E s:=
 ng b (LP w  s.heap.objs.size s.toks) [126,60,127,127,59,60,60,127,59,60,60,127] rfl (Ld (F.t (127,qx w) (za 10 rfl)) (Ld (F.t (60,Qo w) (za 6 rfl)) (Ld (F.t (59,Ro w) (za 5 rfl)) (Ld (F.t (126,d8 w) (za 9 rfl)) Sl)))) rfl rfl λh' hk hn=>a h' hk
theorem CK(w:sa)(e ed:ma)(ia ib ic:Int)(ta tb tc:Nat)(m k:Nat):KG PP (Qd w) Hb w e ed  ia ib ic  ta tb tc  m k:=wf (P:=λv=>KG PP (Qd w) Hb v e ed  ia ib ic  ta tb tc  m k) w λa=>by
 rw[Fast.te18203824471908818933];unfold Fast.tw18203824471908818933;cases a <;> kernel_rfl
theorem a0H{e ed:ma}{ia ib ic:Int}{ta tb tc:Nat}{Q:_->aa->Prop}(b:A.handled=a6)(F:Fk w s.heap)(he:s.heap.get? e=ac (⟨.ref 135,ac ed,.seq ⟨[.int ia ta,.int ib tb,.int ic tc]⟩ 0,⟨[]⟩⟩))
  (a:∀h',(∀x o,s.heap.get? x=ac o->h'.get? x=ac o)->Q (.int ib tb) {s with heap:=h',toks:=s.toks+0}):wpAny (ja PP w) A (call (.builtin "tuple.__getitem__") [.ref e,.int 1 375]) Q E s:=
 ng b (CK w e ed  ia ib ic  ta tb tc  s.heap.objs.size s.toks) [e,135,e] rfl (Ld he (Ld (F.t (135,ah w) (za 14 rfl)) Sl)) rfl rfl λh' hk hn=>a h' hk
theorem WK(w:sa)(e ed:ma)(ia ib ic:Int)(ta tb tc:Nat)(m k:Nat):cH PP (Qd w) Hb w e ed  ia ib ic  ta tb tc  m k:=wf (P:=λv=>cH PP (Qd w) Hb v e ed  ia ib ic  ta tb tc  m k) w λa=>by
 rw[Fast.te7545466728933762335];unfold Fast.tw7545466728933762335;cases a <;> kernel_rfl
theorem a1y{e ed:ma}{ia ib ic:Int}{ta tb tc:Nat}{Q:_->aa->Prop}(b:A.handled=a6)(F:Fk w s.heap)
  (a:∀h',(∀x o,s.heap.get? x=ac o->h'.get? x=ac o)->Q (PySem.Builtin.ObjectAttr.Found.bind (.ref 43) (.ref 130)) {s with heap:=h',toks:=s.toks+0}):wpAny (ja PP w) A (PySem.Builtin.ObjectAttr.find (.ref e) (.ref 135) "num_data") Q E s:=
 ng b (WK w e ed  ia ib ic  ta tb tc  s.heap.objs.size s.toks) [59,60,60,130,59,60,60,130,134,135,135] rfl (Ld (F.t (135,ah w) (za 14 rfl)) (Ld (F.t (134,kD w) (za 13 rfl)) (Ld (F.t (130,ox w) (za 12 rfl)) (Ld (F.t (60,Qo w) (za 6 rfl)) (Ld (F.t (59,Ro w) (za 5 rfl)) Sl))))) rfl rfl λh' hk hn=>a h' hk
theorem JP(w:sa)(m k:Nat):KP PP (Qd w) Hb w m k:=wf (P:=λv=>KP PP (Qd w) Hb v m k) w λa=>by
 rw[Fast.te17321455926096237517];unfold Fast.tw17321455926096237517;cases a <;> kernel_rfl
theorem a4X {Q:_->aa->Prop}(b:A.handled=a6)(F:Fk w s.heap)
  (a:∀h',(∀x o,s.heap.get? x=ac o->h'.get? x=ac o)->Q (.int 2 385) {s with heap:=h',toks:=s.toks+1}):wpAny (ja PP w) A (Ti (.ref 130) "index" a8) Q E s:=
 ng b (JP w  s.heap.objs.size s.toks) [129,60,130,130,59,60,60,130,59,60,60,130] rfl (Ld (F.t (130,ox w) (za 12 rfl)) (Ld (F.t (60,Qo w) (za 6 rfl)) (Ld (F.t (59,Ro w) (za 5 rfl)) (Ld (F.t (129,c8 w) (za 11 rfl)) Sl)))) rfl rfl λh' hk hn=>a h' hk
theorem AK(w:sa)(e ed:ma)(ia ib ic:Int)(ta tb tc:Nat)(m k:Nat):JG PP (Qd w) Hb w e ed  ia ib ic  ta tb tc  m k:=wf (P:=λv=>JG PP (Qd w) Hb v e ed  ia ib ic  ta tb tc  m k) w λa=>by
 rw[Fast.te14648720314969819993];unfold Fast.tw14648720314969819993;cases a <;> kernel_rfl
theorem a0G{e ed:ma}{ia ib ic:Int}{ta tb tc:Nat}{Q:_->aa->Prop}(b:A.handled=a6)(F:Fk w s.heap)(he:s.heap.get? e=ac (⟨.ref 135,ac ed,.seq ⟨[.int ia ta,.int ib tb,.int ic tc]⟩ 0,⟨[]⟩⟩))
  (a:∀h',(∀x o,s.heap.get? x=ac o->h'.get? x=ac o)->Q (.int ic tc) {s with heap:=h',toks:=s.toks+0}):wpAny (ja PP w) A (call (.builtin "tuple.__getitem__") [.ref e,.int 2 385]) Q E s:=
 ng b (AK w e ed  ia ib ic  ta tb tc  s.heap.objs.size s.toks) [e,135,e] rfl (Ld he (Ld (F.t (135,ah w) (za 14 rfl)) Sl)) rfl rfl λh' hk hn=>a h' hk
abbrev kpA(M:Bk)(A:Wc)(f:Value)(first:List Value)(Q:Value->aa->Prop):List Value->aa->Prop:=λvs b=>wpAny M A (Lj f) (λZ a=>wpAny M A (call f (first++vs) []) Q Hc a) Hc b
abbrev clA(M:Bk)(A:Wc)(pos:Sd)(args:List Oa)(ν:Al)(Q:Value->aa->Prop):Value->aa->Prop:=λb a=>wpAny M A (Ak pos b [] (Eh pos (mf args ν)) []) Q Hc a
abbrev mtA(M:Bk)(A:Wc)(pos:Sd)(o:Oa)(name:Ba)(args:List Oa)(ν:Al)(Q:Value->aa->Prop):Value->aa->Prop:=
 λc b=>wpAny M A (oj c name (do return (<- importBound o ν).getD a8)) (λr a=>wpAny M A (Ak pos r.1 r.2 (Eh pos (mf args ν)) []) Q Hc a) Hc b
noncomputable def Kv{M:Bk}{A:Wc}:List (xc Value)->(List Value->aa->Prop)->aa->Prop
 |[],Q,s=>Q [] s
 |x::xs,Q,s=>wpAny M A x (agK (Kv (M:=M) (A:=A) xs) Q) Hc s
theorem Gf:∀{xs:List (xc Value)} {Q:List Value->aa->Prop} {s:aa},Kv (M:=ja π w) (A:=A) xs Q s->wpAny (ja π w) A (Uj (xs.map λx=>(be,x))) Q Hc s
 |[],Q,s,h=>la h
 |x::xs,Q,s,h=>by
  show wpAny _ _ (x>>=λv=>(pure [v]:xc (List Value))>>=λa=>holding a (Uj (xs.map λx=>(be,x)))>>=λt=>pure (a++t)) _ _ _
  exact Kb (Ig h (λv c Eb=>Kb (la (Kb (Ta (Ig (Gf Eb) (λvs b q=>la q)))))))
theorem fL{f:Value}{xs:List (xc Value)}{Q:Dp->aa->Prop}(h:Kv (M:=ja π w) (A:=A) xs (λvs a=>Q ⟨vs,[]⟩ a) s):wpAny (ja π w) A (xr f a8 (xs.map λx=>(be,x)) []) Q Hc s:=by
 unfold xr;cases xs with
 |nil=>
  show wpAny _ _ (Uj []>>=_) _ _ _
  refine Kb (la (Kb (la ?_)));refine Ta ?_;dsimp only[cv,if_true];exact Kb (la (Kb (la (la h))))
 |cons x xs=>
  show wpAny _ _ (Uj ((x::xs).map λx=>(be,x))>>=_) _ _ _
  refine Kb (Ig (Gf h) (λvs a Eb=>?_));refine Ta ?_;dsimp only[cv,if_true];exact Kb (la (Kb (la (la Eb))))
theorem md{pos:Sd}{f:Value}{first:List Value}{xs:List (xc Value)}(u:xs.length<=30)
  (h:Kv (M:=ja π w) (A:=A) xs (kpA (ja π w) A f first Q) s):
  wpAny (ja π w) A (Ak pos f first (xs.map λx=>(be,x)) []) Q Hc s:=by
 have e:(xs.map λx=>(be,x)).any (·.1)=be:=by
  rw[I4];simp
 unfold Ak;refine Kb (Ta (Ig (fL (Q:=λa d=>a.kw=[]/\wpAny (ja π w) A (Lj f) (λZ b=>wpAny (ja π w) A (call f (first++a.pos) []) Q Hc b) Hc d) ?_) (λa d Eb=>?_)))
 ·revert h
  generalize xs=ys;have l:∀(ys:List (xc Value)) (R j:List Value->aa->Prop) (s:aa),(∀vs s,R vs s->j vs s)->Kv (M:=ja π w) (A:=A) ys R s->Kv (M:=ja π w) (A:=A) ys j s:=by
   intro ys;induction ys with
   |nil=>intro R j s o h;exact o _ _ h
   |cons y ys B=>intro R j s o h;exact Ig h (λv d Eb=>B _ _ _ (λvs s q=>o _ _ q) Eb)
  exact λh=>l ys _ _ s (λvs s q=>⟨rfl,q⟩) h
 obtain ⟨hk,i⟩:=Eb;obtain ⟨ap,C⟩:=a;have hk:C=[]:=hk;subst hk;refine Kb (Fb ?_);have c:∀{t:xc Value} {b:aa},wpAny (ja π w) A t Q Hc b->wpAny (ja π w) A (t>>=λr=>holding [r] point>>=λZ=>pure r) Q Hc b:=
  λ{t b} ht=>Kb (Ig ht (λr b hr=>Kb (Ta (nu (la hr)))))
 rw[e];refine Kb (m:=Lj f) (Ig i (λk b hc=>?_));have hn:¬((xs.map λx=>(be,x)).length+2*([]:List (Option Ba×xc Value)).length > 30):=by simp;omega
 have g:∀{t:xc Value} {vs:List Value},wpAny (ja π w) A t Q Hc b->wpAny (ja π w) A (t.keep vs) Q Hc b:=λ{t vs} ht z p n=>by rw[a2k];exact ht z p n
 cases k with
 |frame=>
  show wpAny _ _ (if (xs.map λx=>(be,x)).length+2*([]:List (Option Ba×xc Value)).length > 30 then _ else _) _ _ _
  rw[if_neg hn];exact c (g hc)
 |boundFrame=>
  show wpAny _ _ (if (xs.map λx=>(be,x)).length+2*([]:List (Option Ba×xc Value)).length > 30 then _ else _) _ _ _
  rw[if_neg hn];exact c (g hc)
 |machine=>exact c hc
 |caller=>
  refine c ?_;unfold Xr;refine Kb (Ta (Ig hc (λv s' q=>?_)));unfold release;exact Kb (Xl _ (la q))
theorem Rc{f:Oa}{pos:Sd}{args:List Oa}(hn:∃x a,f=.Name x a)
  (h:wpAny (ja π w) A (eval f ν) (clA (ja π w) A pos args ν Q) Hc s):
  wpAny (ja π w) A (eval (.Call f args [] pos) ν) Q Hc s:=by
 obtain ⟨x,a,rfl⟩:=hn;show wpAny _ A (do Ak pos (<- eval (.Name x a) ν) [] (Eh pos (mf args ν)) (qS pos (qC [] ν))) Q Hc s
 exact jb h
theorem Mx{o:Oa}{name:Ba}{a pos:Sd}{args:List Oa}(d:JJ o name ν (eval o ν)=eval o ν)
  (g:Ho args.length (Eh pos (mf args ν)) []=a8) (b:(a.endLine==pos.line)=a8)
  (h:wpAny (ja π w) A (eval o ν) (mtA (ja π w) A pos o name args ν Q) Hc s):
  wpAny (ja π w) A (eval (.Call (.Attribute o name a) args [] pos) ν) Q Hc s:=by
 rw[arm_eval_Call,d];refine jb (Ig h (λk j Eb=>?_));refine jb (Fb ?_);have c:Ho (args.length+([]:List Keyword).length) (Eh pos (mf args ν)) (qS pos (qC [] ν))=a8:=g;have e:=mcp (o:=o) (ν:=ν) b;unfold methodCall;rw[c];refine jb (Ta (Ig Eb (λr i q=>?_)));obtain ⟨f,first⟩:=r;exact jb (Ga e q)
section
variable{G:Gl}
theorem Xq{l:List (Ba×Lc)}(h:l.all (λy=>y.2 != .cell)=a8):∀x∈l,x.2≠.cell:=by
 intro x a e;have:=Aa.mp h x a;rw[e] at this;exact nomatch this
theorem oE{c:ma}{oc:Jb}{body:List Ya}{binds:List (Ba×Value)}{R:Value->aa->Prop}(f:Fn o oc c body)
  (g:GA (N+2) A) (gs:GS G s.heap) (D:s.heap.get? a=ac o) (hc:s.heap.get? c=ac oc) (hb:mh s (fdOf o) ⟨vs,[]⟩ binds)
  (r:(fdOf o).scope.names.all (λy=>y.2 != .cell)=a8) (i:(binds.map (·.1)).all (λx=>(fdOf o).scope.names.lookup x==ac .local)=a8) (k:Gu (binds.map (·.1))=a8)
  (hm:Ys s.heap rd δ σ binds) (t:∀x y ns ms,x≠y->σ.lookup x=ac (.il ns)->σ.lookup y=ac (.il ms)->δ x≠δ y)
  (h:∀ν b,ν.scope=(fdOf o).scope->GA N (A.deeper ν)->St G ν rd σ δ s (Uv s) b->
   wpAny (ja π w) (A.deeper ν) (Oc body ν) (λf s'=>∃v,f=.ret v/\R v s') Hc b):
  wpAny (ja π w) A (call (.ref a) vs) R Hc s:=by
 have e:=f.row;simp only[Ie] at e;have nd:=sm k;have loc:∀x∈binds,(fdOf o).scope.names.lookup x.1=ac .local:=by
  intro x n;have:=Aa.mp i x.1 (ze n)
  simpa using this
 refine Wz g gs D f.data (codeRec_of hc f.code f.cq) f.bd hb e.1 e.2.1 e.2.2.1 e.2.2.2.1 e.2.2.2.2.1 (Xq r) loc (λx n=>absurd n (Wq f.nf x)) (λx y c j Z=>?_) (λx c j=>?_) (λx p ex=>?_) (λx y ns ms Z=>t x y ns ms) h
 ·rw[e.2.2.2.2.2] at j;exact nomatch j
 ·rw[e.2.2.2.2.2] at j;exact nomatch j
 ·refine ue λhC=>?_;obtain ⟨v,h1,h2,E⟩:=hm.look ex;refine hC ?_;refine⟨v,h2,E,.inl ⟨loc (x,v) (Qc h1),?_⟩⟩
  have m:∀(l:List (Ba×Value)),(l.map (·.1)).Nodup->l.lookup x=ac v->l.reverse.lookup x=ac v:=by
   intro l;induction l with
   |nil=>intro _ q;exact nomatch q
   |cons y l C=>
    intro nd q;obtain ⟨z,H⟩:=y;simp only[Mb,Lb] at nd;rw[List.reverse_cons,List.lookup_append];rw[Ka] at q;cases d:x==z with
    |true=>
     rw[d] at q;have:=eq_of_beq d;subst this;have hn:l.reverse.lookup x=a6:=by
      cases B:l.reverse.lookup x with
      |none=>rfl
      |some u=>exact absurd (ze (f:=(·.1)) (List.mem_reverse.mp (Qc B))) nd.1
     rw[hn]
     simpa using q
    |false=>
     rw[d] at q;rw[C nd.2 q];rfl
  exact m binds nd h1
end
theorem mu(n:Nat)(hk:∀x o,s.heap.get? x=ac o->h'.get? x=ac o):Kp s {s with heap:=h',toks:=s.toks+n}:=⟨_,_,rfl,hk⟩
noncomputable def Qj:List Ya:=(Zf (Sx 2 "__get__")).2.1
theorem a1x(w:sa):Fn (HT w) (RY w) 42 Qj:=⟨by kernel_rfl,by kernel_rfl,by kernel_rfl,by kernel_rfl,by kernel_rfl,by kernel_rfl⟩
theorem N1:Qj=[fa Qj 0,fa Qj 1,fa Qj 2]:=by kernel_rfl
theorem J1:fa Qj 0=.If (.Compare (.Name "obj" (ch (aV (fa Qj 0)) 0).pos) [.Is] [.Constant .none 0 (ch (aV (fa Qj 0)) 1).pos] (aV (fa Qj 0)).pos) (aB (fa Qj 0)) [] (aP (fa Qj 0)):=by kernel_rfl
theorem C1:fa Qj 1=.If (.UnaryOp .Not (ch (aV (fa Qj 1)) 0) (aV (fa Qj 1)).pos) (aB (fa Qj 1)) [] (aP (fa Qj 1)):=by kernel_rfl
theorem A1:ch (aV (fa Qj 1)) 0=.Call (.Name "issubclass" (ch (ch (aV (fa Qj 1)) 0) 0).pos) [.Call (.Name "type" (ch (ch (ch (aV (fa Qj 1)) 0) 1) 0).pos) [.Name "obj" (ch (ch (ch (aV (fa Qj 1)) 0) 1) 1).pos] [] (ch (ch (aV (fa Qj 1)) 0) 1).pos,.Name "tuple" (ch (ch (aV (fa Qj 1)) 0) 2).pos] [] (ch (aV (fa Qj 1)) 0).pos:=by kernel_rfl
theorem j1:fa Qj 2=.Return (ac (.Call (.Attribute (.Name "tuple" (ch (ch (aV (fa Qj 2)) 0) 0).pos) "__getitem__" (ch (aV (fa Qj 2)) 0).pos) [.Name "obj" (ch (aV (fa Qj 2)) 1).pos,.Attribute (.Name "self" (ch (ch (aV (fa Qj 2)) 2) 0).pos) "index" (ch (aV (fa Qj 2)) 2).pos] [] (aV (fa Qj 2)).pos)) (aP (fa Qj 2)):=by kernel_rfl
theorem mR(F:Fk w s.heap)(a b c:Value):mh s (fdOf (HT w)) ⟨[a,b,c],[]⟩ [("self",a),("obj",b),("objtype",c)]:=by
 intro M A E Q d;show wpAny M A (RL (.ref 36)>>=_) Q E s
 refine Kb (Ze (n:=0) (F.t (36,b8 w) (za 3 rfl)) (items:=#[.none]) (by kernel_rfl) ?_);exact Ga (a:=([("self",a),("obj",b),("objtype",c)]:List (Ba×Value))) (by kernel_rfl) d
noncomputable abbrev xn(ed:ma)(ia ib ic:Int)(ta tb tc:Nat):Jb:=⟨.ref 135,ac ed,.seq ⟨[.int ia ta,.int ib tb,.int ic tc]⟩ 0,⟨[]⟩⟩
set_option tactic.hygienic true in
theorem lH{e ed:ma}{ia ib ic v:Int}{ta tb tc O:Nat}{k:Int}{tk:Nat}(g:GA (N+4) A)(F:Fk w s.heap)(he:s.heap.get? e=ac (xn ed ia ib ic ta tb tc))
  (p:∀{A:Wc} {s':aa} {Q:Value->aa->Prop},A.handled=a6->Fk w s'.heap->(∀h',(∀x o,s'.heap.get? x=ac o->h'.get? x=ac o)->Q (.int k tk) {s' with heap:=h',toks:=s'.toks+1})->wpAny (ja PP w) A (Ti (.ref a) "index" a8) Q Hc s')
  (n:∀{A:Wc} {s':aa} {Q:Value->aa->Prop},A.handled=a6->Fk w s'.heap->s'.heap.get? e=ac (xn ed ia ib ic ta tb tc)->(∀h',(∀x o,s'.heap.get? x=ac o->h'.get? x=ac o)->Q (.int v O) {s' with heap:=h',toks:=s'.toks+0})->
   wpAny (ja PP w) A (call (.builtin "tuple.__getitem__") [.ref e,.int k tk]) Q Hc s') (hQ:∀s',Kp s s'->Q (.int v O) s'):wpAny (ja PP w) A (call (.ref 43) [.ref a,.ref e,.ref 135]) Q Hc s:=by
 refine oE (N:=N+2) (G:=GW w) (rd:=[]) (σ:=[("self",.addr a),("obj",.addr e)]) (δ:=λ_=>0) (a1x w) g (sf F) (F.t (43,HT w) (za 4 rfl)) (F.t (42,RY w) (za 15 rfl))
  (mR F _ _ _) (by kernel_rfl) (by kernel_rfl) (by kernel_rfl) ⟨⟨rfl,rfl,nofun⟩,⟨rfl,rfl,nofun⟩,trivial⟩ (λx y ns ms _ e=>(Fg rfl e).elim) λν l L z j=>?_
 have nm:∀{x:Ba} {r:ma} {s':aa} {pos:Sd} {Q:Value->aa->Prop},St (GW w) ν [] [("self",.addr a),("obj",.addr e)] (λ_=>0) s (Uv s) s'->([("self",.addr a),("obj",.addr e)]:List (Ba×P)).lookup x=ac (.addr r)->qc x=be->Q (.ref r) s'->wpAny (ja PP w) (A.deeper ν) (eval (.Name x pos) ν) Q Hc s':=by
  intro x r s' pos Q B hx Y I;refine ue λhC=>?_;obtain ⟨v,hv,m,_⟩:=B.look x _ hx;refine hC ?_;have m:v=.ref r:=m;subst m;exact vd B.kind hv (Eg Y).1 (Eg Y).2 I
 have u:=z.hd;have D:∀{x:Ba} {v:Value} {s':aa} {pos:Sd} {Q:Value->aa->Prop},St (GW w) ν [] [("self",.addr a),("obj",.addr e)] (λ_=>0) s (Uv s) s'->ν.kindOf x=ac .globalImplicit->(GW w).mg x=a6->ei x=ac v->x≠"__name__"->(x==("__debug__":Ba))=be->Q v s'->wpAny (ja PP w) (A.deeper ν) (eval (.Name x pos) ν) Q Hc s':=
  λB h1 h2 h3 M h5 I=>name_buil B.re h1 h2 h3 M h5 I
 have E:∀x,ν.kindOf x=(fdOf (HT w)).scope.names.lookup x:=λx=>by unfold Md;rw[L]
 refine Oj N1 ?_;refine wpAny_execs_cons (Ub (Q:=λf h=>f=.next/\Kp l h) ?_ (λf h q=>?_) λ_ _ q=>q)
 ·refine a3P J1 ?_;refine a2Q (tf (nm j rfl rfl (ik ?_)));refine is_none_ne (by intro q;exact nomatch q) (Le ?_);exact Ef ⟨rfl,.Pg⟩
 obtain ⟨rfl,V⟩:=q;have c:=j.step V;refine wpAny_execs_cons (Ub (Q:=λf h=>f=.next/\Kp l h) ?_ (λf T q=>?_) λ_ _ q=>q)
 ·rw[C1,A1];refine a2Q (isTrue_not ?_);refine isTrue_plain ?_;refine Rc ⟨_,_,rfl⟩ (D c ((E _).trans (by kernel_rfl)) (oe w (by decide)) (v:=.builtin "issubclass") (by kernel_rfl) (by decide) (by decide) ?_);refine md (xs:=[eval (.Call _ _ [] _) ν,eval (.Name _ _) ν]) (show 2<=30 by decide) ?_;refine Rc ⟨_,_,rfl⟩ (D c ((E _).trans (by kernel_rfl)) (oe w (by decide)) (v:=.type "type") (by kernel_rfl) (by decide) (by decide) ?_);refine md (xs:=[eval (.Name _ _) ν]) (show 1<=30 by decide) ?_;refine nm c rfl rfl ?_;refine Ga (a:=vb) rfl ?_;have F2:=F.kp c.kp;have J:=c.kp.get he;refine E6 (ed:=ed) u F2 J λh3 C=>?_;have b:=c.step (mu 0 C);refine D b ((E _).trans (by kernel_rfl)) (oe w (by decide)) (v:=.type "tuple") (by kernel_rfl) (by decide) (by decide) ?_;refine Ga (a:=vb) rfl ?_;refine a3I u (F.kp b.kp) λM H=>?_;refine Le ?_;refine Ef ⟨rfl,V.trans' ((mu 0 C).trans' (mu 0 H))⟩
 obtain ⟨rfl,C⟩:=q;have b:=j.step C;have F3:=F.kp b.kp;rw[j1];refine wpAny_execs_cons (wpAny_Return_some ?_);refine Mx rfl (by kernel_rfl) (by kernel_rfl) ?_;refine D b ((E _).trans (by kernel_rfl)) (oe w (by decide)) (v:=.type "tuple") (by kernel_rfl) (by decide) (by decide) ?_;refine a1o u F3 λM H=>?_;have d:=b.step (mu 1 H);refine md (xs:=[eval (.Name _ _) ν,eval (.Attribute _ _ _) ν]) (show 2<=30 by decide) ?_;refine nm d rfl rfl ?_;refine ig (nm d rfl rfl ?_);refine p u (F.kp d.kp) λh5 k5=>?_;have i:=d.step (mu 1 k5);refine Ga (a:=vb) rfl ?_;refine n u (F.kp i.kp) (i.kp.get he) λh6 k6=>?_;exact⟨_,rfl,hQ _ ((i.step (mu 0 k6)).kp)⟩
theorem mQ:Ng Kj "tuple.__getattribute__"=ac Builtin.«object.__getattribute__»:=by
 exact entryFor_alias (id':="object.__getattribute__") (by rw[Ip];kernel_rfl) (by rfl) (by decide +kernel) (by rw[Ip];kernel_rfl)
theorem lQ:rM "tuple.__getattribute__"=a8:=by decide +kernel
theorem MB{nm:Ba}{e ed:ma}{ia ib ic v:Int}{ta tb tc l:Nat}(g:GA (N+8) A)(F:Fk w s.heap)(he:s.heap.get? e=ac (xn ed ia ib ic ta tb tc))(hed:s.heap.get? ed=ac (Va [] 0))
  (d:∀{A:Wc} {s':aa} {Q:Unit->aa->Prop} {E:Value->aa->Prop} {t:Nat},A.handled=a6->Fk w s'.heap->s'.heap.get? e=ac (xn ed ia ib ic ta tb tc)->(∀h',(∀x o,s'.heap.get? x=ac o->h'.get? x=ac o)->Q () {s' with heap:=h',toks:=s'.toks+0})->
   wpAny (ja PP w) A (od "tuple.__getattribute__" ⟨[.ref e,.str nm t],[]⟩) Q E s')
  (b:∀{A:Wc} {s':aa} {Q:PySem.Builtin.ObjectAttr.Found->aa->Prop} {E:Value->aa->Prop},A.handled=a6->Fk w s'.heap->s'.heap.get? e=ac (xn ed ia ib ic ta tb tc)->s'.heap.get? ed=ac (Va [] 0)->(∀h',(∀x o,s'.heap.get? x=ac o->h'.get? x=ac o)->Q (PySem.Builtin.ObjectAttr.Found.bind (.ref 43) (.ref a)) {s' with heap:=h',toks:=s'.toks+0})->
   wpAny (ja PP w) A (PySem.Builtin.ObjectAttr.find (.ref e) (.ref 135) nm) Q E s')
  (c:∀{A:Wc} {s':aa} {Q:Value->aa->Prop},GA (N+4) A->Fk w s'.heap->s'.heap.get? e=ac (xn ed ia ib ic ta tb tc)->(∀Sg,Kp s' Sg->Q (.int v l) Sg)->wpAny (ja PP w) A (call (.ref 43) [.ref a,.ref e,.ref 135]) Q Hc s') (B:∀s' t,Kp s s'->Q (.int v t) s'):wpAny (ja PP w) A (Ti (.ref e) nm a8) Q Hc s:=by
 have f:=g.hd;delta Ti;refine Kb (pM ?_);have j:Kp s {s with toks:=s.toks+1}:=.tok _;delta getAttrBy;refine Ta ?_;refine Kb (m5 (j.get he) ?_);refine jb (a3F f (F.kp j) λh1 z=>?_);have n:=j.trans' (mu 0 z);dsimp only;rw[if_neg (by decide)];unfold getAttrByItsOwn hookBefore;refine Kb ?_;rw[if_pos (by decide)];refine a3E f (F.kp n) λh2 y=>?_;have m:=n.trans' (mu 0 y);refine Kb (qi (Ta ?_));delta callGetattribute;rw[if_neg (by decide)];delta boundAndCalled;refine Kb (U1 (e:=e) (ed:=ed) (ia:=ia) (ib:=ib) (ic:=ic) (ta:=ta) (tb:=tb) (tc:=tc) f (F.kp m) λG u=>?_);have K3:=m.trans' (mu 0 u);dsimp only;show wpAny _ _ (call (.builtin "tuple.__getattribute__") [.ref e,.str nm s.toks] []) _ _ _
 refine Iw (oS lQ mQ (d f (F.kp K3) (K3.get he) λD r=>?_));have h:=K3.trans' (mu 0 r);unfold Builtin.«object.__getattribute__»;refine Kb (Ga (a:=(.ref e,[.str nm s.toks])) rfl ?_);dsimp only;refine Kb (Ga (a:=nm) rfl ?_);refine Kb (m5 (h.get he) ?_);refine Kb (b (A:=A.in1) f (F.kp h) (h.get he) (h.get hed) λC p=>?_);have i:=h.trans' (mu 0 p);dsimp only;delta PySem.Builtin.ObjectAttr.bindTo;dsimp only;refine Kb (Ta (Ub (c (A:=A.in1) ((g.mono (by lia:N+5<=N+8)).in1) (F.kp i) (i.get he) λs' k=>?_) (λv s' q=>q) λZ Z q=>q.elim));refine la ?_;exact Ga (a:=.int v l) rfl (B _ _ (i.trans' k))
theorem JQ{e ed:ma}{ia ib ic:Int}{ta tb tc:Nat}(g:GA (N+8) A)(F:Fk w s.heap)(he:s.heap.get? e=ac (xn ed ia ib ic ta tb tc))(hed:s.heap.get? ed=ac (Va [] 0))(c:∀s' t,Kp s s'->Q (.int ib t) s'):
  wpAny (ja PP w) A (Ti (.ref e) "num_total" a8) Q Hc s:=
 MB g F he hed (λb F h a=>nQ b F h a) (λb F h hd a=>a1z (e:=e) (ed:=ed) (ia:=ia) (ib:=ib) (ic:=ic) (ta:=ta) (tb:=tb) (tc:=tc) b F a) (λg F h a=>lH g F h (λb F a=>a4Y b F a) (λb F h a=>a0H b F h a) a) c
theorem oJ{e ed:ma}{ia ib ic:Int}{ta tb tc:Nat}(g:GA (N+8) A)(F:Fk w s.heap)(he:s.heap.get? e=ac (xn ed ia ib ic ta tb tc))(hed:s.heap.get? ed=ac (Va [] 0))(c:∀s' t,Kp s s'->Q (.int ic t) s'):
  wpAny (ja PP w) A (Ti (.ref e) "num_data" a8) Q Hc s:=
 MB g F he hed (λb F h a=>nQ b F h a) (λb F h hd a=>a1y (e:=e) (ed:=ed) (ia:=ia) (ib:=ib) (ic:=ic) (ta:=ta) (tb:=tb) (tc:=tc) b F a) (λg F h a=>lH g F h (λb F a=>a4X b F a) (λb F h a=>a0G b F h a) a) c
theorem nL{e ed:ma}{ia ib ic:Int}{ta tb tc:Nat}(g:GA (N+8) A)(F:Fk w s.heap)(he:s.heap.get? e=ac (xn ed ia ib ic ta tb tc))(hed:s.heap.get? ed=ac (Va [] 0))(c:∀s' t,Kp s s'->Q (.int ia t) s'):
  wpAny (ja PP w) A (Ti (.ref e) "num_blocks" a8) Q Hc s:=
 MB g F he hed (λb F h a=>nQ b F h a) (λb F h hd a=>a1A (e:=e) (ed:=ed) (ia:=ia) (ib:=ib) (ic:=ic) (ta:=ta) (tb:=tb) (tc:=tc) b F a) (λg F h a=>lH g F h (λb F a=>a4Z b F a) (λb F h a=>a0I b F h a) a) c
noncomputable def dg(b:Bool):Nat:=if b then 49 else 48
noncomputable def bv(b:Bool):Int:=if b then 1 else 0
noncomputable def AE(h g f e d c b a:Bool):Int:=128*bv h+64*bv g+32*bv f+16*bv e+8*bv d+4*bv c+2*bv b+bv a
noncomputable def allB:Nat->List (List Bool)
 |0=>[[]]
 |n+1=>(allB n).flatMap λl=>[be::l,a8::l]
theorem xD:∀(l:List Bool),l∈allB l.length
 |[]=>.head _
 |b::l=>List.mem_flatMap.mpr ⟨l,xD l,by cases b;exact .head _;exact .tail _ (.head _)⟩
theorem fgB:(allB 8).map (λl=>(int_private% "readNumeral") 0 2 (l.map dg))=(allB 8).map λl=>(int_private% "Numeral.value") (AE (l.getD 0 be) (l.getD 1 be) (l.getD 2 be) (l.getD 3 be) (l.getD 4 be) (l.getD 5 be) (l.getD 6 be) (l.getD 7 be)):=by kernel_rfl
theorem J7(h g f e d c b a:Bool):(int_private% "readNumeral") 0 2 [dg h,dg g,dg f,dg e,dg d,dg c,dg b,dg a]=(int_private% "Numeral.value") (AE h g f e d c b a):=
 Jk.mp fgB [h,g,f,e,d,c,b,a] (xD [h,g,f,e,d,c,b,a])
theorem OM{M:Bk}{a:List Nat}{n:Int}
  (b:(a.takeWhile (· != 0)).length<=640) (hr:(int_private% "readNumeral") 0 2 (a.takeWhile (· != 0))=(int_private% "Numeral.value") n)
  (c:((a.takeWhile (· != 0)).length==a.length)=a8) (h:Q (.int n s.toks) {s with toks:=s.toks+1}):
  wpAny M A ((int_private% "intFromText") v a 2) Q E s:=by
 obtain ⟨hp,g,d,tk,os⟩:=s
 repeat (any_goals (first
  |assumption
  |(with_reducible refine Ao (decide_eq_true b) ?_)
  |(with_reducible refine Ao (decide_eq_true c) ?_)
  |wp_step))
 all_goals (try rw[hr])
 all_goals (try dsimp only)
 repeat (any_goals (first
  |assumption
  |(with_reducible refine Ao (decide_eq_true b) ?_)
  |(with_reducible refine Ao (decide_eq_true c) ?_)
  |wp_step))
structure a5U(p:Prop):Prop where
 out:p
structure OL(x:PySem.Str)(n:Int):Prop where
 asc:x.cps.all (· < 128)=a8
 nz:x.cps.toList.takeWhile (· != 0)=x.cps.toList
 sz:x.cps.toList.length<=640
 val:(int_private% "readNumeral") 0 2 x.cps.toList=(int_private% "Numeral.value") n
theorem OD{x:PySem.Str}{n:Int}(a:OL x n):Gives (Builtin.«int.__new__» ⟨[.type "int",.str x u,.int 2 t],[]⟩) (.int n):=
 .of_wp λM A E s Q h=>by
  obtain ⟨hp,g,d,tk,os⟩:=s;have e:=F.conv_sub_int;have c:=F.madeHere_int;have b:typeOf (.str x u)=pure (.type "str"):=rfl;have hn:(if x.cps.all (· < 128)=a8 then x.cps.toList else Unicode.numberText x.cps.toList)=x.cps.toList:=if_pos a.asc;have hk:=a5U.mk (And.intro a hn);clear a hn
  repeat (any_goals (first
   |assumption
   |((with_reducible show wpAny _ _ ((int_private% "intFromText") _ _ _) _ _ _);rw[hk.out.2];refine OM (by rw[hk.out.1.nz];exact hk.out.1.sz) (by rw[hk.out.1.nz];exact hk.out.1.val) (by rw[hk.out.1.nz];exact beq_self_eq_true _) ?_)
   |wp_step))
  all_goals first|exact⟨_,rfl,h⟩|skip
theorem Zw(a b:Value):checkTypeCall "int" ⟨[a,b],[]⟩=pure ():=by kernel_rfl
theorem Oy(a b:Value):od "int.__new__" ⟨[.type "int",a,b],[]⟩=pure ():=by kernel_rfl
theorem yL{x:PySem.Str}{n:Int}(b:OL x n)(h:Q (.int n s.toks) {s with toks:=s.toks+1}):wpAny (ja π w) A (call (.type "int") [.str x t,.int 2 u]) Q E s:=
 callType_new F.called_int F.newNe_int (Zw _ _) (Oy _ _) (λa=>yt a _ _) F.entry_int_new (OD b).meets (show(Made.int n).post _ s from⟨rfl,h⟩)
noncomputable def VM(l:List Bool):PySem.Str:=⟨(l.map dg).toArray⟩
theorem VX(j i g f e d c a:Bool):OL (VM [j,i,g,f,e,d,c,a]) (AE j i g f e d c a):=by
 refine⟨?_,?_,?_,?_⟩
 ·unfold VM;simp only[List.all_toArray,List.all_map];rw[Aa];intro b _;cases b <;> rfl
 ·have h:∀l:List Bool,(l.map dg).takeWhile (· != 0)=l.map dg:=by
   intro l;induction l with
   |nil=>rfl
   |cons b l k=>rw[Mb,QJ,k];cases b <;> rfl
  exact h _
 ·exact(show 8<=640 by decide)
 ·exact J7 ..
theorem Dj:KJ "map" "__next__" "map.__next__":=
 .of (owner:="map") (n:="__next__") (by rw[Pb,ab];kernel_rfl) (by decide +kernel) (by decide +kernel) (by decide +kernel)
  (.inl (by decide +kernel)) (by rw[ke];kernel_rfl)
theorem Jr:KJ "map" "__iter__" "map.__iter__":=
 .of (owner:="map") (n:="__iter__") (by rw[Pb,ab];kernel_rfl) (by decide +kernel) (by decide +kernel) (by decide +kernel)
  (.inl (by decide +kernel)) (by rw[ke];kernel_rfl)
theorem Sy:KJ "map" "__init__" "object.__init__":=
 .of (owner:="object") (n:="__init__") (by rw[Pb,ab];kernel_rfl) (by decide +kernel) (by decide +kernel) (by decide +kernel)
  (.inl (by decide +kernel)) (by rw[ke];kernel_rfl)
theorem pq:Ng Kj "map.__next__"=ac Builtin.«map.__next__»:=cf (by kernel_rfl)
theorem Uy:Ng Kj "map.__new__"=ac Builtin.«map.__new__»:=cf (by kernel_rfl)
theorem tx:Ng Kj "map.__iter__"=ac Builtin.«dict_keyiterator.__iter__»:=
 entryFor_alias (id':="dict_keyiterator.__iter__") (by kernel_rfl) (by rfl) (by decide +kernel) (by kernel_rfl)
theorem Kr(a:Value):fs "map.__next__" ⟨[a],[]⟩:=by kernel_rfl
theorem Vy(a:Value):fs "map.__iter__" ⟨[a],[]⟩:=by kernel_rfl
theorem MI:a2V (.type "map")=pure [.type "map",.type "object"]:=by rw[mroOf_type];kernel_rfl
theorem wx:sd (.type "map") "__new__"=pure (ac (.builtin "map.__new__")):=by rw[Pb,ab];kernel_rfl
theorem iI:UL (.type "map") (.type "map")=pure a8:=by rw[ke];kernel_rfl
theorem qH:TypeCalled "map" "map.__new__" "object.__init__":=
 ⟨by decide +kernel,by decide +kernel,⟨_,_,MI⟩,madeBy_type MI wx (by decide +kernel),by decide +kernel,iI,Sy⟩
theorem Yw(a b:Value):checkTypeCall "map" ⟨[a,b],[]⟩=pure ():=by kernel_rfl
theorem Ny(a b:Value):od "map.__new__" ⟨[.type "map",a,b],[]⟩=pure ():=by kernel_rfl
theorem DG:sd (.type "map") "__len__"=pure a6:=by rw[Pb,ab];kernel_rfl
theorem BD:sd (.type "map") "__length_hint__"=pure a6:=by rw[Pb,ab];kernel_rfl
noncomputable abbrev CD(h:Xb)(l:ma):Xb:=h.push {cls:=.type "list_iterator",data:=.fields #[.ref l,.int 0 0]}
noncomputable abbrev zz(h:Xb)(l:ma):Xb:=(CD h l).push {cls:=.type "tuple",data:=.seq #[.ref h.objs.size]}
noncomputable abbrev yv(h:Xb)(l:ma):Xb:=(zz h l).push {cls:=.type "map",data:=.fields #[.ref (CD h l).objs.size,.type "str"]}
theorem Ry(l:ma)(xs:Array Value):
  Meets (Builtin.«map.__new__» ⟨[.type "map",.type "str",.ref l],[]⟩) (λZ R s=>s.heap.IsList l xs /\
   R (.ok (.ret (.ref (zz s.heap l).objs.size))) {s with heap:=yv s.heap l}):=
 .of_wp λπ w A R s h=>by
  obtain ⟨hp,g,d,tk,os⟩:=s;refine h.elim λa h=>?_;have c:=iI;have b:Heap.IsList (XE ⟨hp,g,d,tk,os⟩) l xs:=a
  wp_walk using ai b
  exact⟨_,rfl,h⟩
theorem RQ{xs:Array Value}(hl:s.heap.IsList l xs)
  (h:Q (.ref (zz s.heap l).objs.size) {s with heap:=yv s.heap l}):wpAny (ja π w) A (call (.type "map") [.type "str",.ref l]) Q E s:=by
 refine callType_new qH (by decide) (Yw _ _) (Ny _ _) (λa=>yt a _ _) Uy (Ry l xs) ⟨hl,?_⟩;exact⟨⟨_,qa _ rfl,rfl⟩,h⟩
structure FJ(h:Xb)(M T I l:ma)(i:Nat)(vs:Array Value):Prop where
 m:h.get? M=ac {cls:=.type "map",data:=.fields #[.ref T,.type "str"]}
 t:h.get? T=ac {cls:=.type "tuple",data:=.seq #[.ref I]}
 i:h.IsListIter I l i
 l:h.IsList l vs
theorem WO{M T I:ma}{vs:Array Value}(m:FJ s.heap M T I l i vs)(h:Q (.ref M) s):wpAny (ja π w) A (Gi (.ref M)) Q E s:=by
 have hT:s.TypeIs (.ref M) "map":=⟨_,m.m,rfl⟩;refine vy hT Jr (Pc Jr hT tx ?_ (Vy _));show wpAny _ _ (ret (.ref M)) _ _ s
 exact la ⟨_,rfl,"map",_,hT,Dj.lookup,h⟩
theorem XO{M T I:ma}{vs:Array Value}{n:Int}{Q:Option Value->aa->Prop}(m:FJ s.heap M T I l i vs)(hv:vs[i]?=ac (.int n u))(hn:n.natAbs.log2 < 1920)
  (h:∀h' t tk,h'.IsListIter I l (i+1)->Rd I s.heap h'->Q (ac (.str (toString n) t)) {s with heap:=h',toks:=tk}):wpAny (ja π w) A (Vh (.ref M)) Q E s:=by
 have hT:s.TypeIs (.ref M) "map":=⟨_,m.m,rfl⟩;delta Vh;refine Kb (qi (wc (name:=ra "__next__") hT Dj
  (Pc Dj hT pq ?_ (Kr _))))
 unfold Builtin.«map.__next__»;refine Kb (Ga (a:=(.ref M,[])) rfl ?_);dsimp only;refine Kb (Jd m.m rfl (x:=.ref T) rfl ?_);refine jb (Ze m.t rfl ?_);dsimp only;simp only[bM,rf,Xm];refine Kb (Kb (Kb (Ta ?_)));refine wpAny_nextOf_list_item m.i m.l hv λh1 d b=>?_;have g:M≠I:=by
  rintro rfl
  obtain ⟨o,e,c,_⟩:=m.i;have:=m.m;rw[e] at this;cases this;exact absurd (OH c) (by decide)
 have f:=(b.2 M g).trans m.m;refine la (la ?_);refine Kb (Jd f rfl (x:=.type "str") rfl ?_);refine Kb (Ta (P.str_of_int hn ?_));refine Kb (Gp ?_);refine la ⟨_,rfl,la ?_⟩;exact h _ _ _ d b
theorem lU{M T I:ma}{vs:Array Value}{Q:Option Value->aa->Prop}(f:A.handled=a6)(m:FJ s.heap M T I l i vs)(hv:vs[i]?=a6)
  (h:∀h',nk I s.heap h'->Q a6 {s with heap:=h'}):wpAny (ja π w) A (Vh (.ref M)) Q E s:=by
 have hT:s.TypeIs (.ref M) "map":=⟨_,m.m,rfl⟩;delta Vh;refine Kb (qi (wc (name:=ra "__next__") hT Dj
  (Pc Dj hT pq ?_ (Kr _))))
 unfold Builtin.«map.__next__»;refine Kb (Ga (a:=(.ref M,[])) rfl ?_);dsimp only;refine Kb (Jd m.m rfl (x:=.ref T) rfl ?_);refine jb (Ze m.t rfl ?_);dsimp only;simp only[bM,rf,Xm];refine Kb (Kb (Kb (Ta ?_)));refine wpAny_nextOf_list_end f m.i m.l hv λh1 e c he=>?_;obtain ⟨o,d,hc⟩:=he;refine Kb (Bg (T:="StopIteration") (b:=a8) ⟨o,d,hc⟩ tF ?_);exact la (h _ c)
theorem Walks.map(r:A.handled=a6){M T I:ma}(g:M≠I)(hTI:T≠I)(f:l≠I)(ns:List Int)(vs:List Value)(hi:IntsAre vs ns)(p:∀n∈ns,n.natAbs.log2 < 1920):
  Walks π w A M [M,T,I,l] [I] ns.length (λi v=>∃t,v=.str (toString (ns.getD i 0)) t) (λi h=>FJ h M T I l i vs.toArray) where
 sub:=λb hb=>by simp at hb;simp[hb]
 frame:=λZ Z Z st hk=>⟨hk M (by simp) _ st.m,hk T (by simp) _ st.t,st.i.at λo e=>hk I (by simp) o e,st.l.at λo e=>hk l (by simp) o e⟩
 item:=λi s Q E a st c=>by
  have j:=hi.length
  refine(oB hi i (by lia)).elim λu k=>?_
  refine XO st (n:=ns.getD i 0) (u:=u) (by rw[Pq,Sa (by lia),k]) (p _ ?_) λh' t tk it d=>?_
  ·rw[ua,Sa a];exact Ll a
  ·exact c _ h' tk ⟨t,rfl⟩ ⟨(d.2 M g).trans st.m,(d.2 T hTI).trans st.t,it,st.l.extBut d.extBut f⟩ λb o hb e=>d.extBut b o (λq=>hb (by simp[q])) e
 done:=λs Q E st c=>lU r st (by simp[hi.length]) λh' he=>c h' s.toks λb o hb e=>he b o (λq=>hb (by simp[q])) e
 self:=λZ Z Z Z st c=>WO st c
section
variable{I:ma}{fp wr:List ma}{G:Array Oe->Array Oe->Prop}{P:Nat->Value->Prop}{St:Nat->aa->Prop}
theorem tL{T:String}{Q:List Value->aa->Prop}(hl:sd (.type T) "__len__"=pure a6)(y:sd (.type T) "__length_hint__"=pure a6)(u:(Wd T==Wd "list")=be)(t:(Wd T==Wd "tuple")=be)
  (W:WalksS π w A.in1 I fp wr G n P St) (hT:∀i s,St i s->s.TypeIs (.ref I) T) (q:St 0 s) (r:∀b∈fp,b < s.heap.objs.size) (hI:I∈fp)
  (z:∀s' jh,Moved wr G s s'->ItemsOf P jh n->Q jh.toList s') (hn:n<=mc:=by size_fits):wpAny (ja π w) A (collect (.ref I)) Q E s:=by
 have g:s.heap.objs.size∉fp:=λhm=>je _ (r _ hm);have v:s.heap.objs.size≠I:=λe=>g (e▸hI);unfold collect;refine Kb (wpAny_runValue (a2j F.entry_proto_collect ?_));rw[wg F.plain_proto_collect _];show wpAny _ A.in1 (sM []>>=λl=>again (.builtin "list.__iadd__" ⟨[l,.ref I],[]⟩)) _ _ s
 refine Kb (Ed ?_);refine la ⟨si iW _,a2j F.entry_list_iadd ?_⟩;rw[wg iW _];have a:=W.frame 0 s (s.heap.push {cls:=.type "list",data:=.seq ([]:List Value).toArray}) s.toks q (yb _) λb Z o e=>ea _ e;show wpAny _ A.in1 (Nd (.ref s.heap.objs.size) (.ref I) (.ref s.heap.objs.size)) _ _ _
 unfold Nd;refine jb (Ml (hT 0 _ a) ?_);have h1:Yf (.ref s.heap.objs.size) (.ref I)=be:=by simp[Yf,v]
 rw[h1,u,t];refine Kb (m:=Gi (.ref I)) (W.self 0 _ _ _ a ?_);refine Kb (Ta ?_);unfold ll;refine Kb (Ib (hT 0 _ a) hl ?_);show wpAny _ A.in1 (jl (qj I) (ra "__length_hint__")>>=_) _ _ _
 refine Kb (Ib (hT 0 _ a) y ?_);refine la ?_;show wpAny _ A.in1 (rule "list.extend.makes-room">>=λZ=>a2v (.ref s.heap.objs.size)>>=λZ=>
  again (.builtin "list.extend.loop" ⟨[.ref s.heap.objs.size,.ref I,.ref s.heap.objs.size],[]⟩)) _ _ _
 refine Kb (oi ?_);have d:(s.heap.push {cls:=.type "list",data:=.seq ([]:List Value).toArray}).get? s.heap.objs.size=ac {cls:=.type "list",data:=.seq ([]:List Value).toArray}:=qa _ rfl;refine Kb ?_;show wpAny _ A.in1 (Xu s.heap.objs.size (·.push .none)>>=λZ=>Xu s.heap.objs.size (·.pop)) _ _ _
 refine Kb (Gk d rfl ?_);have c:=Zc (Ce (·.push yp)) d rfl;refine Gk c rfl ?_;have f:=Zc (Ce (·.pop)) c rfl;have j:∀b o,b≠s.heap.objs.size->(s.heap.push {cls:=.type "list",data:=.seq ([]:List Value).toArray}).get? b=ac o->
   (((s.heap.push {cls:=.type "list",data:=.seq ([]:List Value).toArray}).update s.heap.objs.size (Ce (·.push yp))).update s.heap.objs.size (Ce (·.pop))).get? b=ac o:=
  λb o hb e=>(Ia _ _ (qb hb)).trans ((Ia _ _ (qb hb)).trans e)
 refine la ⟨si xu _,nS W hn _ g _ n 0 _ _ _ rfl (fc _)
  (W.frame 0 ({s with heap:=s.heap.push {cls:=.type "list",data:=.seq ([]:List Value).toArray}}:aa) _ s.toks a (yb _) λb hb o e=>j b o (λh=>g (h▸hb)) e) f (eW P) λs' p c' hm x k=>?_⟩
 show wpAny _ A (load s.heap.objs.size>>=_) _ _ s'
 refine Kb (Jj x ?_);refine la (z s' p (Moved.drop_new (o:={cls:=.type "list",data:=.seq ([]:List Value).toArray}) (tk:=s.toks) (G4 W.gtrans ((PJ W.grefl).then_heap (yb _) λb o hb e=>?_) hm) (yb _)) k);exact j b o (λh=>hb (h▸va)) e
theorem r0{T:String}{x:PySem.Str}(hl:sd (.type T) "__len__"=pure a6)(H:sd (.type T) "__length_hint__"=pure a6)(o:(Wd T==Wd "list")=be)(m:(Wd T==Wd "tuple")=be)
  (W:WalksS π w A.in1.in1 I fp wr G n P St) (hT:∀i s,St i s->s.TypeIs (.ref I) T) (d:St 0 s) (B:∀b∈fp,b < s.heap.objs.size) (hI:I∈fp)
  (h:∀i v,P i v->∃y u,v=sl y u)
  (C:∀s' (l:List (PySem.Str×xm)),Moved wr G s s'->ItemsOf P (Yu l).toArray n->a3d x (l.map (·.1))=a8/\∀t' k,Q (.str (AX x (l.map (·.1))) t') {s' with toks:=k})
  (z:n<=mc:=by size_fits):
  wpAny (ja π w) A (call (.builtin "str.join") [.str x t,.ref I]) Q E s:=by
 refine Iw (oS J4.plain F.entry_str_join (J4.check _ _ _ _ _ _ _ _ (typeIs_str _ _ _) (F.args_str_join_2 _ _) ?_));rw[join_tree_other];refine jb (Ml (hT 0 s d) ?_);rw[o,m];show wpAny _ A.in1 ((Gi (.ref I)).tryCatch _>>=λit=>collect it>>=λitems=>joinTail x items) _ _ s
 refine Kb (oF (W.of_in1.self 0 s _ _ d ?_));refine Kb (tL hl H o m W hT d B hI (λs' jh hm c=>?_) z);obtain ⟨l,hl⟩:=exists_strValues jh.toList λv hv=>by
  obtain ⟨j,D,rfl⟩:=Array.mem_iff_getElem.mp (Array.mem_toList_iff.mp hv);exact h j _ (c.2 j _ (xh D))
 rw[<- hl];have f:ItemsOf P (Yu l).toArray n:=by rw[hl];simpa using c
 refine(C s' l hm f).elim λa e=>?_
 unfold a3d at a;rw[Ge] at a;have g:Gives (joinTail x (Yu l)) (joinMade x l):=by
  have g0:=gives_joinTail x l a;cases l with
  |nil=>exact g0
  |cons p r=>cases r with
   |nil=>exact g0
   |cons q J=>exact g0
 exact g π w A (wants Q E) s' (post_join l ⟨joinFit_length a,e⟩)
end
noncomputable def sB(b:Bool):PySem.Str:=ra (toString (bv b))
theorem vW(b:Bool):sB b=⟨#[dg b]⟩:=by cases b <;> rfl
theorem wY(b:Bool):(sB b).length=1:=by cases b <;> rfl
theorem Dz:∀(l:List Bool) (jh:Array Nat),(l.map sB).foldl (λjh p=>jh++(ra "").cps++p.cps) jh=jh++(l.map dg).toArray
 |[],jh=>by simp
 |b::l,jh=>by
  rw[Mb,Xj,Dz l,vW];have e:(ra "").cps=#[]:=rfl;rw[e]
  simp
theorem xK(l:List Bool):AX "" (l.map sB)=VM l:=by
 cases l with
 |nil=>rfl
 |cons b l=>
  unfold AX a3k VM;simp only[Mb,List.drop_one,List.tail_cons,List.headD_cons];have h:=Dz l (sB b).cps;rw[h,vW]
  simp
theorem HD(l:List Bool)(h:l.length<=1000):a3d "" (l.map sB)=a8:=by
 have a:∀(l:List Bool) (n:Nat),(l.map sB).foldl (λn x=>n+x.length+(ra "").length) n=n+l.length:=by
  intro l;induction l with
  |nil=>intro n;rfl
  |cons b l c=>
   intro n;rw[Mb,Xj,c,wY,wj];have:(ra "").length=0:=rfl;lia
 unfold a3d;simp only[List.foldl_toArray];rw[a];simp[a3j,mc];lia
noncomputable def Wk(ns:List Int):Int:=ns.foldl (λa b=>2*a+b) 0
def Vm(ns:List Int):Prop:=∀n∈ns,n=0\/n=1
theorem Vm.byt(h:Vm ns):dj ns:=λn hn=>by rcases h n hn with rfl|rfl <;> decide
theorem Vm.log(h:Vm ns):∀n∈ns,n.natAbs.log2 < 1920:=λn hn=>by rcases h n hn with rfl|rfl <;> decide
theorem Vm.a1G(h:Vm ns)(hl:ns.length=8):∃l:List Bool,l.length=8/\ns=l.map bv:=by
 refine⟨ns.map λn=>decide (n=1),by simpa using hl,?_⟩
 rw[vg];have:∀ms:List Int,Vm ms->ms=ms.map (bv∘λn=>decide (n=1)):=by
  intro ms;induction ms with
  |nil=>intro _;rfl
  |cons m ms a=>
   intro hm;rw[Mb,<- a λn hn=>hm n (pa _ hn)]
   congr 1
   rcases hm m (va ..) with rfl|rfl <;> rfl
 exact this ns h
@[elab_as_elim] theorem oW{α:Type}{n:Nat}{P:List α->Prop}{l:List α}(h:l.length=n+1)(k:∀a t,t.length=n->P (a::t)):P l:=by
 cases l with
 |nil=>exact nomatch h
 |cons a t=>exact k a t (bt h)
theorem WM{l:List Bool}(h:l.length=8):OL (VM l) (Wk (l.map bv)):=by
 refine oW h λj l h=>oW h λi l h=>oW h λg l h=>oW h λf l h=>oW h λd l h=>oW h λc l h=>oW h λb l h=>oW h λa l h=>?_;obtain rfl:=Qw h;have e:Wk ([j,i,g,f,d,c,b,a].map bv)=AE j i g f d c b a:=by
  simp only[Wk,AE,Mb,Om,Xj,List.foldl_nil];lia
 rw[e];exact VX ..
theorem tP(C:A.handled=a6)(hl:s.heap.get? l=ac (wb vs n))(hi:IntsAre vs ns)(hb:Vm ns)(z:ns.length=8)
  (D:∀s' t' x,Kp s s'->OL x (Wk ns)->Q (.str x t') s'):
  wpAny (ja π w) A (call (.type "map") [.type "str",.ref l]) (λm d=>wpAny (ja π w) A (call (.builtin "str.join") [.str "" t,m]) Q E d) E s:=by
 have y:s.heap.IsList l vs.toArray:=⟨_,hl,rfl,n,rfl⟩;refine RQ y ?_;have j:(CD s.heap l).objs.size=s.heap.objs.size+1:=pd ..;have h:(zz s.heap l).objs.size=s.heap.objs.size+2:=by rw[pd,j]
 have B:(yv s.heap l).objs.size=s.heap.objs.size+3:=by rw[pd,h]
 have N:(yv s.heap l).get? (zz s.heap l).objs.size=ac _:=qa _ rfl;have O:(yv s.heap l).get? (CD s.heap l).objs.size=ac _:=ea _ (qa _ rfl);have g1:(yv s.heap l).get? s.heap.objs.size=ac _:=ea _ (ea _ (qa _ rfl));have up:∀c o,s.heap.get? c=ac o->(yv s.heap l).get? c=ac o:=λc o x=>ea _ (ea _ (ea _ x));have f:=Ha hl;have W:=Walks.map (π:=π) (w:=w) (A:=A.in1.in1) C (M:=(zz s.heap l).objs.size) (T:=(CD s.heap l).objs.size) (I:=s.heap.objs.size) (l:=l) (by rw[h];exact Td (ui (by decide))) (by rw[j];exact Td (Xc _)) (Na f) ns vs hi hb.log;obtain ⟨u,r,rfl⟩:=hb.a1G z;refine r0 DG BD (by decide) (by decide) W.toS (λi s' st=>⟨_,st.m,rfl⟩) ?_ ?_ (va ..) (λi v hv=>?_) (λs' a hm p=>?_) (by rw[z];decide)
 ·exact⟨N,O,⟨_,g1,rfl,rfl⟩,y.at λo e=>up _ o e⟩
 ·intro b hb;simp only[La,rg,or_false] at hb;show b < (yv s.heap l).objs.size
  rw[B];rw[h,j] at hb;rcases hb with rfl|rfl|rfl|rfl
  ·exact Xc _
  ·exact ui (n:=s.heap.objs.size+1) (k:=2) (by decide)
  ·exact ui (by decide)
  ·exact ya f (Za _ _)
 ·obtain ⟨t,rfl⟩:=hv;exact⟨_,_,rfl⟩
 ·have e:a.map (·.1)=u.map sB:=by
   refine p.elim λh1 h2=>?_;have g:a.length=u.length:=by
    have:(Yu a).toArray.size=a.length:=by simp[Yu]
    rw[this] at h1
    simpa using h1
   apply mi (by simpa using g)
   intro i L J;have H:i < a.length:=by simpa using L
   have G:i < u.length:=by simpa using J
   refine(h2 i (.str a[i].1 a[i].2) (by simp[Yu,H])).elim λt ht=>?_
   have:=(VL ht).1;simp only[ki];rw[this];simp[G,sB]
  rw[e];refine⟨HD _ (by lia),λt' k=>?_⟩
  rw[xK];refine D _ _ _ ?_ (WM r);rw[YV hm];refine⟨s'.heap,k,rfl,λb o e=>hm.heap b o (λq=>?_) (up b o e)⟩
  rw[Ca.mp q] at e;exact absurd (Ha e) (je _)
noncomputable def gN:List Ya:=(Zf (Sx 19 "toints")).2.1
noncomputable def Z6:Oa:=aV (fa gN 1)
noncomputable def QF:Oa:=ch Z6 0
noncomputable def O4:He:=Hw Z6
theorem Lv{a:Oa}{e d:Option Oa}{p pos:Sd}{T id:String}
  (hl:sd (.type T) "__getitem__"=pure (ac (.builtin id)))
  (h:wpAny (ja π w) A (eval a ν) (λo j=>wpAny (ja π w) A (eval (.Slice e d a6 p) ν) (λi b=>b.TypeIs o T/\wpAny (ja π w) A (Vj o i) Q E b) E j) E s):
  wpAny (ja π w) A (eval (.Subscript a (.Slice e d a6 p) pos) ν) Q E s:=by
 rw[eval_Subscript];refine Kb (Ub h (λo j Eb=>Kb (Ta (Ig Eb (λi b c=>Kb (Fb ?_)))))
  λZ Z x=>x)
 have f:wpAny (ja π w) A (Xr [i,o] (Vj o i)) (λr g=>wpAny (ja π w) A (letTemporaryGo a o r>>=λZ=>pure r) Q E g) E b:=
  wpAny_operating (Ig c.2 (λr g k=>Kb (wpAny_letTemporaryGo (la k))))
 first
  |(refine Kb ?_
    rw[getitemInPython_of_ne c.1.not_modules];refine Kb (Ib c.1 hl ?_)
    first
     |exact la (Kb f)
     |exact Kb (la (Kb f))
     |exact Kb f)
  |(refine Kb (Ib c.1 hl ?_)
    first
     |exact Kb (la (Kb f))
     |exact Kb f)
noncomputable def Ln(bs:List Int)(k:Nat):List Int:=(bs.drop k).take 8++Qa (k+8-bs.length) 0
theorem au{bs:List Int}(h:k<=bs.length):(Ln bs k).length=8:=by
 unfold Ln;obtain ⟨d,e⟩:=Nat.le.dest h;rw[Nb,de,ji,Zd,<- e,Jg,Nat.add_sub_add_left,Rb,Nat.sub_add_min_cancel]
theorem Su{bs:List Int}(hb:Vm bs)(k:Nat):Vm (Ln bs k):=by
 intro n hn
 exact(we.mp hn).elim (λh=>hb n (TH (Dr h))) λh=>.inl (Di.mp h).2
theorem b7:QF=.Call (.Name "int" (ch QF 0).pos) [ch QF 1,.Constant (.int 2) 0 (ch QF 2).pos] [] QF.pos:=by kernel_rfl
theorem a7:ch QF 1=.Call (.Attribute (.Constant (.str "") 0 (ch (ch (ch QF 1) 0) 0).pos) "join" (ch (ch QF 1) 0).pos) [ch (ch QF 1) 1] [] (ch QF 1).pos:=by kernel_rfl
noncomputable def lM:Oa:=ch (ch QF 1) 1
theorem W6:lM=.Call (.Name "map" (ch lM 0).pos) [.Name "str" (ch lM 1).pos,.BinOp (ch (ch lM 2) 0) .Add (ch (ch lM 2) 1) (ch lM 2).pos] [] lM.pos:=by kernel_rfl
noncomputable def YJ:Oa:=ch (ch lM 2) 0
theorem X6:YJ=.Call (.Name "list" (ch YJ 0).pos) [.Subscript (.Attribute (.Name "self" (ch (ch (ch YJ 1) 0) 0).pos) "_data" (ch (ch YJ 1) 0).pos) (.Slice (ac (.Name "k" (ch (ch (ch YJ 1) 1) 0).pos)) (ac (.BinOp (.Name "k" (ch (ch (ch (ch YJ 1) 1) 1) 0).pos) .Add (.Constant (.int 8) 0 (ch (ch (ch (ch YJ 1) 1) 1) 1).pos) (ch (ch (ch YJ 1) 1) 1).pos)) a6 (ch (ch YJ 1) 1).pos) (ch YJ 1).pos] [] YJ.pos:=by kernel_rfl
noncomputable def PF:Oa:=ch (ch lM 2) 1
theorem V6:PF=.BinOp (.List [.Constant (.int 0) 0 (ch (ch PF 0) 0).pos] (ch PF 0).pos) .Mult (.BinOp (.BinOp (.Name "k" (ch (ch (ch PF 1) 0) 0).pos) .Add (.Constant (.int 8) 0 (ch (ch (ch PF 1) 0) 1).pos) (ch (ch PF 1) 0).pos) .Sub (.Call (.Name "len" (ch (ch (ch PF 1) 1) 0).pos) [.Attribute (.Name "self" (ch (ch (ch (ch PF 1) 1) 1) 0).pos) "_data" (ch (ch (ch PF 1) 1) 1).pos] [] (ch (ch PF 1) 1).pos) (ch PF 1).pos) PF.pos:=by kernel_rfl
section
variable{cenv:Al}
noncomputable abbrev N4(k:Int)(b:ma):List (Ba×P):=[("k",.int k),("self",.addr b)]
theorem a1F{k:Int}{pos:Sd}(r:RE (GW w) cenv (N4 k b) s)(h:∀t,Q (.int k t) s):wpAny (ja PP w) A (eval (.Name "k" pos) cenv) Q Hc s:=by
 refine ue λhC=>?_;obtain ⟨v,hv,t,rfl⟩:=r.look "k" (.int k) rfl;refine hC ?_;exact vd r.kind hv (by decide) (by decide) (h t)
theorem nJ{k:Int}{dd d:ma}{c a:Sd}(f:A.handled=a6)(F:Fk w s.heap)(hb:s.heap.get? b=ac (Fe dd d))(e:s.heap.get? dd=ac zg)(r:RE (GW w) cenv (N4 k b) s)(h:∀s',Kp s s'->Q (.ref d) s'):
  wpAny (ja PP w) A (eval (.Attribute (.Name "self" c) "_data" a) cenv) Q Hc s:=by
 refine ue λhC=>?_;obtain ⟨v,hv,rfl⟩:=r.look "self" (.addr b) rfl;refine hC ?_;exact ig (vd r.kind hv (by decide) (by decide) (gaT f F hb λh' hk=>h _ (mu 1 hk)))
theorem kX{k:Int}{d c a:Sd}(r:RE (GW w) cenv (N4 k b) s)(h:∀t s',Kp s s'->Q (.int (k+8) t) s'):
  wpAny (ja PP w) A (eval (.BinOp (.Name "k" d) .Add (.Constant (.int 8) 0 c) a) cenv) Q Hc s:=by
 refine Mg (a1F r λt=>?_);refine qd ?_;exact wM (h _ _ (.trans' (.tok _) (.tok _)))
theorem nV{dd d:ma}{bs:List Int}(q:A.handled=a6)(F:Fk w s.heap)(hb:s.heap.get? b=ac (Fe dd d))(j:s.heap.get? dd=ac zg)(hd:yi s.heap d bs)(z:Vm bs)(hz:bs.length<=2 ^ 20)(hk:k<=bs.length)
  (kl:cenv.kindOf "list"=ac .globalImplicit) (r:RE (GW w) cenv (N4 k b) s) (h:∀v s',Pf s (.il ((bs.drop k).take 8)) a8 v s'->Q v s'):
  wpAny (ja PP w) A (eval YJ cenv) Q Hc s:=by
 rw[X6];refine Rc ⟨_,_,rfl⟩ (name_buil r kl (oe w (.tail _ (.tail _ (.head _)))) (v:=.type "list") (by kernel_rfl) (by decide) (by decide) ?_);refine md (xs:=[eval (.Subscript _ _ _) cenv]) (show 1<=30 by decide) ?_;refine Lv Gg.lookup (nJ q F hb j r λs1 p=>?_);have r1:=r.kp p;refine wpAny_Slice ?_;rw[IJ,IJ,evalPart_none];refine a1F r1 λn=>?_;refine kX r1 λm s2 y=>?_;refine la ?_;have f:=p.trans' y;have l:yi s2.heap d bs:=f.get hd;have g:yi (s2.heap.push {cls:=.type "slice",data:=.fields #[.int k n,.int (k+8) m,.none]}) d bs:=ea _ l;refine⟨yc g,?_⟩
 refine rR (lo:=ac (k:Int)) (hi:=ac ((k:Int)+8)) g (ry ..) (.int _ _) (.int _ _) (by lia) ?_;refine Ga (a:=vb) rfl ?_;have e:(bs.drop (Aq (ac (k:Int)) bs.length)).take (Dv (ac ((k:Int)+8)) bs.length-Aq (ac (k:Int)) bs.length)=(bs.drop k).take 8:=by
  rw[Oz hk,show Dv (ac ((k:Int)+8)) bs.length=min (k+8) bs.length from qL (k+8) _];have:=ZJ (bs.drop k) k 8
  rwa [ji,Vf hk] at this
 rw[e];generalize i:s2.heap.push {cls:=.type "slice",data:=.fields #[.int k n,.int (k+8) m,.none]}=t;have u:∀x o,s2.heap.get? x=ac o->(t.push (Tb (Wa ((bs.drop k).take 8)))).get? x=ac o:=λx o e=>ea _ (by rw[<- i];exact ea _ e);have K3:Kp s {s2 with heap:=t.push (Tb (Wa ((bs.drop k).take 8)))}:=f.trans' ⟨_,_,rfl,u⟩;refine zJ (ns:=(bs.drop k).take 8) q (qa _ rfl) ((z.byt.drop k).take 8) (by rw[de];lia) λv s' c=>?_;exact h v s' (c.after K3)
theorem WD:∀n:Nat,(Qa n ([0]:List Int)).flatten=Qa n 0
 |0=>rfl
 |n+1=>congrArg (0::·) (WD n)
theorem X2{dd d:ma}{bs:List Int}(H:A.handled=a6)(F:Fk w s.heap)(hb:s.heap.get? b=ac (Fe dd d))(y:s.heap.get? dd=ac zg)(hd:yi s.heap d bs)(hz:bs.length<=2 ^ 20)(hk:k<=bs.length)
  (kl:cenv.kindOf "len"=ac .globalImplicit) (r:RE (GW w) cenv (N4 k b) s) (h:∀v s',Pf s (.il (Qa (k+8-bs.length) 0)) a8 v s'->Q v s'):
  wpAny (ja PP w) A (eval PF cenv) Q Hc s:=by
 rw[V6];refine Mg (Vr ?_);refine Gf (xs:=[eval (.Constant (.int 0) 0 (ch (ch PF 0) 0).pos) cenv]) ?_;refine qd ⟨(show 1<=mc by decide),?_⟩;generalize q:({s with toks:=s.toks+1}:aa)=s1;have G:Kp s s1:=q▸.tok _;have hc:Pf s1 (.il [0]) a8 (.ref s1.heap.objs.size) {s1 with heap:=s1.heap.push {cls:=.type "list",data:=.seq #[.int 0 s.toks]}}:=Pf.list (.cons 0 s.toks .nil) _ rfl;have f:Pf s (.il [0]) a8 (.ref s1.heap.objs.size) _:=hc.after G;have r1:=r.kp f.keeps;refine Mg (kX r1 λJ s2 D=>?_);have c:=f.keeps.trans' D;have r2:=r.kp c;refine Rc ⟨_,_,rfl⟩ (name_buil r2 kl (oe w (va ..)) (v:=.builtin "len") (by kernel_rfl) (by decide) (by decide) ?_);refine md (xs:=[eval (.Attribute _ _ _) cenv]) (show 1<=30 by decide) ?_;refine nJ H (F.kp c) (c.get hb) (c.get y) r2 λz C=>?_;have i:=c.trans' C;refine Ga (a:=vb) rfl ?_;refine Tu (i.get hd) (by lia) λu tk=>?_;refine vo ?_;generalize p:({z with toks:=tk}:aa)=g;have B:Kp z g:=p▸.tok _;have o:=i.trans' B;have hv:VR g.heap (.il [0]) (.ref s1.heap.objs.size):=(D.trans' (C.trans' B)).vr f.val;refine ue λhC=>?_;obtain ⟨l,vs,m,e,hl,hi⟩:=hv;refine hC ?_;obtain rfl:=cg e;have n:=hi.length;have E:Kp s {g with toks:=g.toks+1}:=o.trans' (.tok _);have t:vs.length=1:=n;refine t8 (vs:=vs) (x:=(k:Int)+8-bs.length) (s:={g with toks:=g.toks+1}) hl (by lia) (by lia) (by rw[t];lia) ?_;have hints:=Bx hi ((k:Int)+8-bs.length).toNat;have j:(Qa ((k:Int)+8-bs.length).toNat ([0]:List Int)).flatten=Qa (k+8-bs.length) 0:=by
  have I:((k:Int)+8-bs.length).toNat=k+8-bs.length:=Ko (k+8) _;rw[I];exact WD _
 rw[j] at hints;exact h _ _ (Pf.after E (Pf.list hints _ (NN _ _)))
theorem Y2{dd d:ma}{bs:List Int}(z:A.handled=a6)(F:Fk w s.heap)(hb:s.heap.get? b=ac (Fe dd d))(m:s.heap.get? dd=ac zg)(hd:yi s.heap d bs)(D:Vm bs)(hz:bs.length<=2 ^ 20)(hk:k<=bs.length)
  (kn:∀x,cenv.kindOf x=O4.names.lookup x) (r:RE (GW w) cenv (N4 k b) s) (h:∀t s',Kp s s'->Q (.int (Wk (Ln bs k)) t) s'):
  wpAny (ja PP w) A (eval QF cenv) Q Hc s:=by
 rw[b7];refine Rc ⟨_,_,rfl⟩ (name_buil r ((kn _).trans (by kernel_rfl)) (oe w (by decide)) (v:=.type "int") (by kernel_rfl) (by decide) (by decide) ?_);refine md (xs:=[eval (ch QF 1) cenv,eval (.Constant (.int 2) 0 (ch QF 2).pos) cenv]) (show 2<=30 by decide) ?_;rw[a7];refine Mx rfl (by kernel_rfl) (by kernel_rfl) ?_;refine Eo ?_;generalize o:({s with toks:=s.toks+1}:aa)=s1;have f:Kp s s1:=o▸.tok _;refine GM.join ?_;refine md (xs:=[eval lM cenv]) (show 1<=30 by decide) ?_;rw[W6];have r1:=r.kp f;refine Rc ⟨_,_,rfl⟩ (name_buil r1 ((kn _).trans (by kernel_rfl)) (oe w (by decide)) (v:=.type "map") (by kernel_rfl) (by decide) (by decide) ?_);refine md (xs:=[eval (.Name "str" (ch lM 1).pos) cenv,eval (.BinOp YJ .Add PF (ch lM 2).pos) cenv]) (show 2<=30 by decide) ?_;refine name_buil r1 ((kn _).trans (by kernel_rfl)) (oe w (by decide)) (v:=.type "str") (by kernel_rfl) (by decide) (by decide) ?_;refine Mg (nV z (F.kp f) (f.get hb) (f.get m) (f.get hd) D hz hk ((kn _).trans (by kernel_rfl)) r1 λv2 s2 G=>?_);have c:=f.trans' G.keeps;refine X2 z (F.kp c) (c.get hb) (c.get m) (c.get hd) hz hk ((kn _).trans (by kernel_rfl)) (r.kp c) λY C B=>?_;have M:=c.trans' B.keeps;refine ue λhC=>?_;obtain ⟨l1,i,m1,rfl,u,l⟩:=B.keeps.vr G.val;obtain ⟨l2,g,m2,rfl,q,j⟩:=B.val;refine hC ?_;have N:i.length+g.length=8:=by
  have e:=au hk;unfold Ln at e;rw[Nb] at e;rw[l.length,j.length];exact e
 refine P.add_list u q ?_ (by simp only[Qf,mc];lia);have E:Pf C (.il (Ln bs k)) a8 _ _:=Pf.list (s:=C) (l.append j) (i.toArray++g.toArray) (by simp);have L:=M.trans' E.keeps;refine ue λhC=>?_;obtain ⟨l4,H,m4,V,p,y⟩:=E.val;refine hC ?_;refine Ga (a:=vb) rfl ?_;obtain rfl:=cg V;refine Ig (tP (t:=s.toks) z p y (Su D k) (au hk) (Q:=λv s'=>∃x t,v=.str x t/\Kp s s'/\OL x (Wk (Ln bs k))) λs' t' x I n=>⟨x,t',rfl,L.trans' I,n⟩) (λv s5 T=>?_);refine Ga (a:=vb) rfl ?_;refine Ig T (λv s6 O=>?_);refine ue λhC=>?_;obtain ⟨x,t',rfl,J,n⟩:=O;refine hC ?_;refine qd ?_;refine Ga (a:=vb) rfl ?_;refine yL n ?_;exact h _ _ (J.trans' (.trans' (.tok _) (.tok _)))
end
noncomputable def Lh:List Nat:=[0,2,3,4,36,43,59,60,123,124,126,127,129,130,134,135,42,139]++F1.map (·.1)++(SH 1868 18++[1888,1890,1895,1900,1909,1910,1917,1924,1938,1945,1962,1963,1964,1973,1978,1983]++[1894,1899,1916,1923,1937,1944,1972,1977,1982])
theorem j2(w:sa):((XD w).map (·.1)).all (λa=>Lh.contains a)=a8:=by kernel_rfl
theorem Z1(w:sa):((CB w).map (·.1)).all (λa=>XI.contains a||Lh.contains a)=a8:=by kernel_rfl
theorem A2:(F1.map (·.1)).all (λa=>Lh.contains a)=a8:=by kernel_rfl
theorem Fk.AI(F:Fk w h)(k:∀b∈Lh,∀o,h.get? b=ac o->h'.get? b=ac o):Fk w h' where
 t:=λx a=>k _ (Ua.mp (Aa.mp (j2 w) x.1 (ze a))) _ (F.t x a)
 u:=λx a q=>k _ (by
  have:=Aa.mp (Z1 w) x.1 (ze a);rw[q,Bool.false_or] at this;exact Ua.mp this) _ (F.u x a q)
 z:=by
  obtain ⟨o,c⟩:=Bu w;have e:=F.z;rw[c] at e ⊢;exact k 0 (Ua.mp (by kernel_rfl:Lh.contains 0=a8)) _ e
 ecc:=k 139 (Ua.mp (by kernel_rfl:Lh.contains 139=a8)) _ F.ecc
 ec:=λx a=>k _ (Ua.mp (Aa.mp A2 x.1 (ze a))) _ (F.ec x a)
theorem um(F:Fk w h):∀b∈Lh,∃o,h.get? b=ac o:=by
 intro b hb;have c:∀(l:List (Nat×Jb)),(∀x∈l,h.get? x.1=ac x.2)->b∈l.map (·.1)->∃o,h.get? b=ac o:=by
  intro l hl hm;obtain ⟨x,d,rfl⟩:=Ma.mp hm;exact⟨_,hl x d⟩
 have e:Lh.all (λa=>a==0||a==139||((XD w).map (·.1)).contains a||(F1.map (·.1)).contains a||(((CB w).map (·.1)).contains a&&!XI.contains a))=a8:=by kernel_rfl
 have q:=Aa.mp e b hb;simp only[sy,Pd,beq_iff_eq,Ua,Ge] at q;rcases q with (((rfl|rfl)|q)|q)|⟨q,f⟩
 ·obtain ⟨o,g⟩:=Bu w;exact⟨o,by have:=F.z;rw[g] at this;exact this⟩
 ·exact⟨_,F.ecc⟩
 ·exact c _ F.t q
 ·exact c _ F.ec q
 ·obtain ⟨x,d,rfl⟩:=Ma.mp q;exact⟨_,F.u x d f⟩
theorem Walks.range'(f:A.handled=a6)(I:ma)(a c:Int)(n:Nat){fp:List ma}(hf:I∈fp):
  Walks π w A I fp [I] n (λi v=>i < n/\∃t,v=.int (a+i*c) t) (λi h=>Vc h I (a+(i:Nat)*c) ((n:Int)-(i:Nat)) c):=
 let W:=Walks.range (prog:=π) (w:=w) (A:=A) f I a c n
 {sub:=λb hb=>by rw[Ca.mp hb];exact hf
  frame:=λi h h' st hk=>W.frame i h h' st λb hb o e=>hk b (by rw[Ca.mp hb];exact hf) o e
  item:=λi s Q E hi st d=>W.item i s Q E hi st λv h' tk hP=>d v h' tk ⟨hi,hP⟩
  done:=λs Q E st d=>W.done s Q E st d
  self:=λi s Q E st d=>W.self i s Q E st d}
structure Zs(w:sa)(B:Wc)(a g:Nat)(C I:ma)(ex:List ma)(n:Nat)(Fv:Nat->Value->Prop)(j:Nat)(s:aa):Prop where
 aC:a≠C
 af:a∉I::(Lh++ex)
 Cf:C∉I::(Lh++ex)
 If:I∉Lh++ex
 gen:wu PP w B a g C (I::(Lh++ex)) [I] (λ_=>a8) n Fv j s
theorem LF:Of∈Lh:=by decide
theorem iq(n:Nat):passing (λZ=>a8) n 0=Ea n:=by
 delta passing;rw[cW];exact et.mpr λZ Z=>rfl
section
variable{B:Wc}{a g:Nat}{C I:ma}{ex:List ma}{Fv:Nat->Value->Prop}
theorem Zs.walks(f:B.handled=a6)(c:B.depth < xf){j:Nat}(x:Zs w B a g C I ex n Fv j s):
  WalksS PP w B a (a::C::I::(Lh++ex)) [C,I] (fg g) n Fv (wu PP w B a g C (I::(Lh++ex)) [I] (λZ=>a8) n Fv):=by
 have h2:Of∈Lh++ex:=qe _ LF;have W:=WalksS.genexpQ (prog:=PP) (w:=w) f a g C (I::(Lh++ex)) [I] (λZ=>a8) n Fv x.aC x.af (λb hb=>by rw[Ca.mp hb];exact va ..) c (pa _ h2)
  (λe=>x.Cf (e▸pa _ h2)) (λq=>x.If (Ca.mp q▸h2))
 rw[iq] at W;rw[Ac] at W
 exact
  {sub:=W.sub,grefl:=W.grefl,gtrans:=W.gtrans,frame:=W.frame,done:=W.done,self:=W.self
   item:=λj s Q E d st h=>W.item j s Q E d st λv s' hP=>h v s' (by
    obtain ⟨i,hi,k⟩:=hP;rw[fi d] at hi;obtain rfl:=xa hi;exact k)}
end
def ve(h:Xb)(c P:ma)(ps:Array Value):Prop:=h.IsCode c P ps/\h.TableAt c P ps
theorem ve.keeps{c P:ma}(x:ve h c P ps)(hk:∀b o,h.get? b=ac o->h'.get? b=ac o):ve h' c P ps:=⟨x.1.keeps hk,x.2.keeps hk⟩
theorem ve.mv{c P:ma}(x:ve h c P ps){oc oP:Jb}(t:h.get? c=ac oc)(s:h.get? P=ac oP)(m:h'.get? c=ac oc)(l:h'.get? P=ac oP):ve h' c P ps:=by
 refine ue λhC=>?_;obtain ⟨⟨o,vs,d,p,a,n,f,b,tt,op,i,r1,r2,r3,r4,r5,q,g,r⟩,⟨o',e,k,u⟩,j⟩:=x;refine hC ?_;rw[t] at i k;rw[s] at g j;obtain rfl:=xa i;obtain rfl:=xa k;obtain rfl:=xa g;exact⟨⟨_,vs,d,p,a,n,f,b,tt,_,m,r1,r2,r3,r4,r5,q,l,r⟩,⟨_,e,m,u⟩,l.trans j⟩
theorem ve.obj{c P:ma}(x:ve h c P ps):∃o,h.get? c=ac o/\(∃vs,o.data=.fields vs)/\c≠P:=by
 refine ue λhC=>?_;obtain ⟨o,vs,d,j,a,i,g,b,tt,op,f,r1,r2,r3,r4,r5,m,n,l,k,e⟩:=x.1;refine hC ?_;exact⟨o,f,⟨vs,r1⟩,e⟩
theorem ve.tab{c P:ma}(x:ve h c P ps):h.get? P=ac {cls:=.none,data:=.fields ps}:=x.2.2
section
variable{M:Bk}
theorem yB{c P:ma}{pos:Sd}{qualname:Ba}{scope:He}(hc:ν.code=.ref c)(a:ve s.heap c P ps)
  (d:∀v h' tk b,nk P s.heap h'->ve h' c P b->Q v {s with heap:=h',toks:=tk}):wpAny M A (genexprCode ν pos qualname scope) Q E s:=by
 cases e:D5 pos ps.toList with
 |none=>exact wpAny_genexprCodeX hc a.1 a.2 e λc' h' tk f Z Z h1 Z h2 Z=>d _ h' tk _ f ⟨h1,h2⟩
 |some v=>exact wpAny_genexprCode_hit hc a.1 e (d v s.heap s.toks ps (λZ Z Z e=>e) a)
noncomputable abbrev fdC(name qualname:Ba)(params:Ar)(body:List Ya)(scope:He)(globals:ma)(cl:List (Ba×ma))(b a pm code doc:Value):Qm:=
 {name,qualname,params,body:=.stmts body,scope,globals,closure:=cl,closureTuple:=b,defaults:=a,kwdefaults:=.none,annotations:=a6,pyModule:=pm,code,doc,builtins:=td}
theorem pK{name qualname:Ba}{params:Ar}{body:List Ya}{scope:He}{N:Value}{mg}{cl:List (Ba×ma)}{c Pl:ma}{pos:Sd}
  {d:Nat} (m:Yr scope ν=pure cl) (hg:s.heap.Ns ν.globals mg) (l:ν.code=.ref c) (p:ve s.heap c Pl ps)
  (G:D5 pos ps.toList=a6) (H:ν.globals≠Pl) (hb:s.heap.BuiltinsAt mg Pl)
  (h:∀O c' doc h' tk,(cl.isEmpty=a8->O=.none)->nk Pl s.heap h'->s.heap.objs.size<=c'->c' < h'.objs.size->ve h' c Pl (ps++#[ee pos.line,ee pos.col,.ref c'])->h'.CodeRec (.ref c') qualname->(∃P',s.heap.objs.size<=P'/\ve h' c' P' #[])->
   Q (.ref h'.objs.size) {s with heap:=h'.push {cls:=.type "function",data:=.func (fdC name qualname params body scope ν.globals cl O N ((mg "__name__").getD .none) (.ref c') doc)},toks:=tk}):
  wpAny M A (makeTail name qualname params (.stmts body) scope ν N .none a6 pos d) Q E s:=by
 refine ue λhC=>?_;obtain ⟨bm,o,L,v,_,u,J,w,i,j⟩:=hb;refine hC ?_;cases D:cl.isEmpty with
 |true=>
  simp only[makeTail,m,pure_bind,D,if_true];refine Kb (SV l p.1 p.2 G λc' h' tk y C B f hrec z hP=>?_);have g:=hg.extBut y H;refine Kb (wy g L v (y _ _ u J) w i j ?_);refine Kb (jS g ?_);have n:=λdoc x=>h .none c' doc h' x (λZ=>rfl) y C B ⟨f,z⟩ hrec hP;cases I:docOf body with
  |none=>exact Kb (la (Ed (n .none tk) (by size_fits)))
  |some t=>exact Kb (pM (Ed (n _ _) (by size_fits)))
 |false=>
  simp only[makeTail,m,pure_bind,D,Zj,if_false];refine Kb (yX ?_);have k:∀b o,s.heap.get? b=ac o->(s.heap.push _).get? b=ac o:=λb o e=>ea {cls:=.type "tuple",data:=.seq ((cl.mergeSort λa b=>a.1.cps.toList<=b.1.cps.toList).map (.ref ·.2)).toArray} e;refine Kb (SV l (p.1.keeps k) (p.2.keeps k) G λc' h' tk y C B f hrec z hP=>?_);have g:=(hg.keeps k).extBut y H;refine Kb (wy g L v (y _ _ u (k _ _ J)) w i j ?_);refine Kb (jS g ?_);have r:s.heap.objs.size<=(s.heap.push {cls:=.type "tuple",data:=.seq ((cl.mergeSort λa b=>a.1.cps.toList<=b.1.cps.toList).map (.ref ·.2)).toArray}).objs.size:=by rw[pd];exact Se _
  have n:=λdoc x=>h (.ref s.heap.objs.size) c' doc h' x (λq=>by rw[D] at q;exact nomatch q) (λb o hb e=>y b o hb (k b o e)) (ka r C) B ⟨f,z⟩ hrec (let ⟨P',h1,h2⟩:=hP;⟨P',ka r h1,h2⟩);cases I:docOf body with
  |none=>exact Kb (la (Ed (n .none tk) (by size_fits)))
  |some t=>exact Kb (pM (Ed (n _ _) (by size_fits)))
theorem Lr{name qualname:Ba}{params:Ar}{body:List Ya}{scope:He}{dv:List Value}{mg}{cl:List (Ba×ma)}{c Pl:ma}
  {pos:Sd} {g:Nat} (B:params.kwonlyargs=[]) (m:Yr scope ν=pure cl) (hg:s.heap.Ns ν.globals mg) (l:ν.code=.ref c)
  (q:ve s.heap c Pl ps) (y:D5 pos ps.toList=a6) (D:ν.globals≠Pl) (hb:s.heap.BuiltinsAt mg Pl)
  (h:∀n w c' doc h' tk,(cl.isEmpty=a8->w=.none)->h'.DefaultsAt s.heap.objs.size dv n->nk Pl s.heap h'->s.heap.objs.size<=c'->c' < h'.objs.size->
   ve h' c Pl (ps++#[ee pos.line,ee pos.col,.ref c'])->h'.CodeRec (.ref c') qualname->(∃P',s.heap.objs.size<=P'/\ve h' c' P' #[])->
   Q (.ref h'.objs.size) {s with heap:=h'.push {cls:=.type "function",data:=.func (fdC name qualname params body scope ν.globals cl w n ((mg "__name__").getD .none) (.ref c') doc)},toks:=tk}):
  wpAny M A (makeFunction name qualname params (.stmts body) scope ν dv [] [] pos g) Q E s:=by
 have I:Pl < s.heap.objs.size:=q.1.lt.2;rw[makeFunction_eq,B];have j:∀(n:Value) (Eb:Xb),(∀b o,s.heap.get? b=ac o->Eb.get? b=ac o)->s.heap.objs.size<=Eb.objs.size->(∀h',nk Pl Eb h'->h'.DefaultsAt s.heap.objs.size dv n)->
   wpAny M A (do
     let t <- if ([]:List (Ba×Value)).isEmpty then pure a6 else do
      let a <- alloc {cls:=.type "dict",data:=.dict #[]}
      for (k,v) in ([]:List (Ba×Value)) do nsSet a k v
      pure (ac a)
     makeTail name qualname params (.stmts body) scope ν n .none t pos g) Q E {s with heap:=Eb}:=by
  intro n Eb f i r;refine Kb (la ?_);exact pK (s:={s with heap:=Eb}) m (hg.keeps f) l (q.keeps f) y D (hb.keeps f) λw c' doc h' tk G u C z p hrec x=>
   h n w c' doc h' tk G (r h' u) (λb o H e=>u b o H (f b o e)) (ka i C) z p hrec (let ⟨P',h1,h2⟩:=x;⟨P',ka i h1,h2⟩)
 cases dv with
 |nil=>exact Kb (la (Kb (la (j .none s.heap (λZ Z e=>e) (yb _) λZ Z=>Or.inl ⟨rfl,rfl⟩))))
 |cons d J=>
  refine Kb (yX (Kb (la ?_)));exact j (.ref s.heap.objs.size) _ (λb o e=>ea _ e) (by rw[pd];lia) λh' u=>
   Or.inr ⟨List.cons_ne_nil _ _,_,rfl,yb _,u _ _ (Td I) (qa _ rfl)⟩
end
theorem xO{l:List Ba}{z:Ba}(h:l.all (λy=>!(y==z))=a8){y:Ba}(a:y∈l):(y==z)=be:=(Ge _).mp (Aa.mp h y a)
theorem UT{l m:List Ba}(h:l.all (λy=>m.contains y)=a8){y:Ba}(a:y∈l):y∈m:=Ua.mp (Aa.mp h y a)
theorem eF{α:Type}{a b:α}{l:List α}(h:a≠b)(t:a∉l):a∉b::l:=λq=>(La.mp q).elim h t
theorem WR{α:Type}{a b:α}{l:List α}(h:a∉b::l):a≠b/\a∉l:=⟨λq=>h (q▸.head _),λq=>h (.tail _ q)⟩
theorem acA{α:Type}{p:α->Prop}{l m:List α}(h:∀z∈l,p z)(t:∀z∈m,p z):∀z∈l++m,p z:=λz hz=>(we.mp hz).elim (h z) (t z)
theorem mg{α:Type}{l:List α}{a:α}(i:Nat)(e:l[i]?=ac a):a∈l:=Cb e
theorem Zq{P x:ma}(hP:h.get? P=ac {cls:=.none,data:=.fields ps})(e:h.get? x=ac o)(hn:∀vs,o.data≠.fields vs):x≠P:=by
 rintro rfl
 obtain rfl:=xa (hP.symm.trans e);exact hn _ rfl
section
variable{G:Gl}
theorem eX{scope:He}{cl:List (Ba×ma)}{C:ma}{code:Value}{x:Ba}{frees:List (Ba×P)}{m:Ba->Option Value}(hk:scope.kind=.function)(hg:ν.globals=Kd)(gs:GS G s.heap)
  (a:scope.names.lookup x=ac .local) (hn:s.heap.Ns C m) (hm:m x=ac v) (hv:VR s.heap p v)
  (hf:∀y q,frees.lookup y=ac q->scope.names.lookup y=ac .free/\∃c u,cl.lookup y=ac c/\s.heap.IsCell c (ac u)/\VR s.heap q u)
  (hc:∀y,(scope.names.lookup y=ac .cell\/scope.names.lookup y=ac .free)->(cl.lookup y).isSome=a8):
  RE G (uF scope cl C code td ν) ((x,p)::frees) s:=by
 refine⟨hk,hg,rfl,gs,λy q e=>?_,hc⟩
 exact(Gd e).elim (λd=>by rw[d.1,<- d.2];exact⟨v,.inl ⟨a,m,hn,hm⟩,hv⟩) λd=>have h:=hf y q d.2;h.2.elim λc z=>z.imp λu z=>⟨.inr ⟨.inr h.1,c,z.1,z.2.1⟩,z.2.2⟩
end
theorem FO(w:sa):OT w "__builtins__"=ac (.ref 4):=(Ms w _).trans (eI _ w)
theorem gJ{D f:Oa}{x:Ba}{px pos:Sd}{scope:He}{cl:List (Ba×ma)}{cc PT:ma}{ex:List ma}{a c:Int}{Fv:Nat->Value->Prop}
  (hh:A.handled=a6) (N:A.depth < xf) (F:Fk w s.heap) (hg:ν.globals=Kd) (hb:ν.builtins=td)
  (hco:scope.isCoroutine=be) (Y:Yr scope ν=pure cl) (a1f:∀y∈scope.names,y.2≠.cell) (h0:scope.names.lookup (".0":Ba)=ac NameKind.local) (hx:scope.names.lookup x=ac .local) (l:scope.kind=.function)
  (V:ν.code=.ref cc) (H0:ve s.heap cc PT ps) (hPT:PT∉Lh++ex) (cS:∀b∈ex,∃o,s.heap.get? b=ac o)
  (hit:wpAny (ja PP w) A (eval f ν) (λxv E=>wpAny (ja PP w) A (Gi xv) (λit d=>∃I,it=.ref I/\Kp s d/\s.heap.get? I=a6/\Vc d.heap I a n c) Hc E) Hc s)
  (hs:∀x,genFold f ν x=pure x)
  (VP:∀(C:ma) (code:Value) (A':Wc) (i:Nat) (t:xm) (m:Ba->Option Value) (s':aa),A'.handled=a6->i < n->(∀b∈Lh++ex,∀o,s.heap.get? b=ac o->s'.heap.get? b=ac o)->s'.heap.Ns C m->m x=ac (.int (a+i*c) t)->
   wpAny (ja PP w) A' (eval D (uF scope cl C code td ν)) (λy Sg=>Fv i y/\Kp s' Sg) Hc s')
  (hQ:∀a' C I h' tk gs L,gs.bare=a8->s.heap.get? a'=a6->s.heap.get? C=a6->s.heap.get? I=a6->(∀b o,b≠PT->s.heap.get? b=ac o->h'.get? b=ac o)->ve h' cc PT L->
   (∀B:Wc,B.handled=a6->Zs w B a' s.gens.size C I ex n Fv 0 {s with heap:=h',gens:=s.gens.push gs,toks:=tk})->h'.IsGen a' s.gens.size->(∀b∈[C,I],∃o,h'.get? b=ac o)->
   Q (.ref a') {s with heap:=h',gens:=s.gens.push gs,toks:=tk}):
  wpAny (ja PP w) A (eval (.GeneratorExp D [⟨.Name x px,f,[],0⟩] scope pos) ν) Q Hc s:=by
 have gs0:=sf F;refine wpAny_GeneratorExp_make hco Y a1f h0 l N (Ub hit (λxv E Eb=>Ub Eb (λit d HK=>?_) λZ Z e=>e.elim) λZ Z e=>e.elim) hs;refine ue λhC=>?_;obtain ⟨I,rfl,k2,hI,hri⟩:=HK;refine hC ?_;have F2:=F.kp k2;refine⟨gs0.lim.keeps λZ Z e=>k2.get e,?_⟩
 refine yB V (H0.keeps λZ Z e=>k2.get e) λcode k z L hxb H=>?_;have a5x:I≠PT:=λq=>nomatch H0.tab.symm.trans ((congrArg s.heap.get? q).symm.trans hI)
 have ad:∀b∈Lh++ex,∃o,s.heap.get? b=ac o:=λb hb=>(we.mp hb).elim (um F b) (cS b);have hIf:I∉Lh++ex:=λq=>(ad I q).elim λo e=>nomatch e.symm.trans hI
 have kM:∀b o,b≠PT->s.heap.get? b=ac o->k.get? b=ac o:=λb o hb e=>hxb b o hb (k2.get e);have F3:Fk w k:=F.AI λb hb o e=>kM b o (λq=>hPT (q▸qe _ hb)) e;have g3:=sf F3;refine wy (bm:=4) (o:=kO w) (by rw[hg];exact g3.g) (FO w) (by decide) (F3.t (4,kO w) (za 2 rfl)) rfl rfl rfl ?_;intro u O M;dsimp only at O M ⊢;have lt3:∀b o,s.heap.get? b=ac o->b < k.objs.size:=λb o e=>(YE b PT).byCases (λhb=>hb▸Ha H.tab) λhb=>Ha (kM b o hb e);have r:Vc k I a n c:=hxb I _ a5x hri;have hI3:I < k.objs.size:=Ha r;have sz4:u.objs.size=k.objs.size+1:=by rw[M.1,pd]
 have fresh:∀b,k.objs.size<=b->s.heap.get? b=a6:=λb hb=>by
  cases e:s.heap.get? b with
  |none=>rfl
  |some o=>exact absurd (lt3 b o e) (yf.mpr hb)
 have IF:∀b o,k.get? b=ac o->u.get? b=ac o:=λb o e=>M.extBut b o (Na (Ha e)) (ea _ e);generalize hob:({cls:=.type "generator",data:=.fields #[.int d.gens.size 0,.str "<genexpr>" (z+1),.str (ν.qual++"<genexpr>") (z+1+1)]}:Jb)=G;have jM:∀b o,k.get? b=ac o->(u.push G).get? b=ac o:=λb o e=>ea _ (IF b o e);have T:d.gens=s.gens:=by obtain ⟨_,_,e,_⟩:=k2;rw[e]
 have WW:∀(h:Xb) (g:Array Oe) (t:Nat),({d with heap:=h,gens:=g,toks:=t}:aa)={s with heap:=h,gens:=g,toks:=t}:=λh g t=>by obtain ⟨_,_,e,_⟩:=k2;rw[e]
 have J:(u.push G).IsGen u.objs.size s.gens.size:=by
  rw[<- T,<- hob];exact⟨_,_,_,qa _ rfl,rfl,rfl,rfl⟩
 have F5:Fk w (u.push G):=F3.keeps jM;have key:=hQ u.objs.size k.objs.size I (u.push G) (z+1+1+1) (.fresh (.compStart (.GeneratorExp D [⟨.Name x px,f,[],0⟩] scope pos) 0 (.ref I) .none (uF scope cl k.objs.size code td ν))) L rfl
  (fresh _ (by lia)) (fresh _ (yb _)) hI (λb o hb e=>jM b o (kM b o hb e)) (H.keeps jM) (λB hB=>?_) J (λb hb=>?_)
 ·have e:({d with heap:=u.push G,gens:=d.gens.push (.fresh (.compStart (.GeneratorExp D [⟨.Name x px,f,[],0⟩] scope pos) 0 (.ref I) .none (uF scope cl k.objs.size code td ν))),toks:=z+1+1+1}:aa)=_:=WW _ _ _;rw[T] at e;rw[<- e] at key;rw[T];exact key
 rotate_left
 ·exact Ld (p:=λb=>∃o,(u.push G).get? b=ac o) ((O.push G).elim λo q=>q.elim λZ q=>q.elim λZ q=>⟨o,q.1⟩) (Ld ⟨_,jM I _ r⟩ Sl) b hb
 have j:∀b,k.objs.size<=b->b∉I::(Lh++ex):=λb hb=>eF (Td (ya hI3 hb)) λq=>(ad b q).elim λo e=>absurd (lt3 b o e) (yf.mpr hb);refine⟨by lia,j _ (by lia),j _ (yb _),hIf,?_⟩
 refine GenAt.fresh (A:=B) (cenv:=uF scope cl k.objs.size code td ν) (m:=λy=>if y=".0" then ac (.ref I) else a6) hB
  (λA' hA=>Walks.range' hA I a c n (va ..)) (λZ=>a8) Fv hx (by simp[uF,l]) hco (j _ (yb _)) ?_ J (Array.getElem?_push_size ..) ?_ (O.push _) (sf F5).lim
 ·refine⟨λA' E' i v s' m' hA hP XW hm hkp=>la ⟨rfl,⟨_,_,rfl,λZ Z e=>e⟩⟩,λA' E' i v s' m' hA hP hpz XW hm hkp=>?_⟩
  refine ue λhC=>?_;obtain ⟨hi,t,rfl⟩:=hP;refine hC ?_;refine Ub (VP k.objs.size code A' i t m' s' hA hi (λb hb o e=>?_) XW hm) (λy Sg q=>⟨q.1,?_⟩) λZ Z q=>q.elim
  ·have hbP:b≠PT:=λq=>hPT (q▸hb);exact hkp b (pa _ hb) (λq=>hIf (Ca.mp q▸hb)) o (jM b o (kM b o hbP e))
  ·exact q.2
 ·have h5:Vc (u.push G) I a n c:=jM I _ r;show Vc _ I (a+((0:Nat):Int)*c) ((n:Int)-((0:Nat):Int)) c
  simpa using h5
theorem aH(w:sa):Fn (Hs w) (jx w) 1944 gN:=⟨by kernel_rfl,by kernel_rfl,by kernel_rfl,by kernel_rfl,by kernel_rfl,by kernel_rfl⟩
theorem e7:gN=[fa gN 0,fa gN 1]:=by kernel_rfl
noncomputable def i3(st:Ya):PySem.Str:=(eVw (aV st)).2.2
theorem d7:fa gN 0=.Expr (.Constant (.str (i3 (fa gN 0))) 0 (aV (fa gN 0)).pos) (aP (fa gN 0)):=by kernel_rfl
noncomputable def mM:Oa:=gI Z6 0
theorem c7:fa gN 1=.Return (ac (.GeneratorExp QF [⟨.Name "k" (gT Z6 0).pos,mM,[],0⟩] O4 Z6.pos)) (aP (fa gN 1)):=by kernel_rfl
theorem Y6:mM=.Call (.Name "range" (ch mM 0).pos) [.Constant (.int 0) 0 (ch mM 1).pos,.Call (.Name "len" (ch (ch mM 2) 0).pos) [.Attribute (.Name "self" (ch (ch (ch mM 2) 1) 0).pos) "_data" (ch (ch mM 2) 1).pos] [] (ch mM 2).pos,.Constant (.int 8) 0 (ch mM 3).pos] [] mM.pos:=by kernel_rfl
theorem GL(a:Value):mh s (fdOf (Hs w)) ⟨[a],[]⟩ [("self",a)]:=Ih (by kernel_rfl)
theorem eG(n:Nat):Gb 0 (n:Int) 8=(((n+7) / 8:Nat):Int):=by
 cases n with
 |zero=>rfl
 |succ n=>
  delta Gb;rw[if_pos (show(8:Int) > 0 by decide),if_pos (show(0:Int) < ((n+1:Nat):Int) from jc.mpr (Nv n)),Int.sub_zero,show((n+1:Nat):Int)-1=n from jk (n:Int) 1];exact congrArg DX (Nat.add_div_right n (by decide:0 < 8)).symm
abbrev NG(f:Nat->Int):Nat->Value->Prop:=λi v=>∃t,v=.int (f i) t
def GR(PT:ma)(s:aa)(h:Xb):Prop:=∀b o,b≠PT->s.heap.get? b=ac o->h.get? b=ac o
theorem wL{dd d:ma}{bs:List Int}(g:GK (N+8) A)(F:Fk w s.heap)(hb:s.heap.get? b=ac (Fe dd d))(JK:s.heap.get? dd=ac zg)(hd:yi s.heap d bs)(hB:Vm bs)(hz:bs.length<=2 ^ 20)
  (L:ve s.heap 1944 1940 ps)
  (hQ:∀a C I c h' tk gs T,gs.bare=a8->s.heap.get? a=a6->s.heap.get? C=a6->s.heap.get? I=a6->s.heap.get? c=a6->GR 1940 s h'->ve h' 1944 1940 T->h'.IsGen a s.gens.size->(∀b∈[C,I,c],∃o,h'.get? b=ac o)->
   (∀B:Wc,B.handled=a6->Zs w B a s.gens.size C I [b,dd,d,c] ((bs.length+7) / 8) (NG λi=>Wk (Ln bs (8*i))) 0 {s with heap:=h',gens:=s.gens.push gs,toks:=tk})->
   Q (.ref a) {s with heap:=h',gens:=s.gens.push gs,toks:=tk}):
  zd (ja PP w) A (call (.ref 1945) [.ref b]) Q s:=by
 refine fo (N:=N+4) (G:=GW w) (rd:=[]) (σ:=[("self",.addr b)]) (δ:=λZ=>0) (ς:=s) (K:=Uv s) (aH w)
  (g.mono (by lia)) (F.uf 27 rfl rfl) (F.uf 40 rfl rfl) (GL _) (by kernel_rfl) (by kernel_rfl) ⟨s.heap,s.toks,rfl⟩ (sf F) (λZ Z e=>e) (λZ Z e=>e) ⟨⟨rfl,rfl,nofun⟩,trivial⟩ (λx y ns ms Z e=>(Fg rfl e).elim) λE ν he J LM vK=>?_
 have KD:ν.code=.ref 1944:=by subst he;exact(aH w).code
 have hsc:ν.scope=(fdOf (Hs w)).scope:=by subst he;rfl
 have M:ν.cells=uh (s.heap.objs.size+1) (fdOf (Hs w)).scope.names []:=by subst he;rfl
 have ek:∀x,ν.kindOf x=(fdOf (Hs w)).scope.names.lookup x:=λx=>by unfold Md;rw[hsc]
 rw[e7];refine ub ?_;rw[d7];refine cj (by subst he;kernel_rfl) (by kernel_rfl) (kc (Eo ⟨λa e=>(by cases e),rfl,?_⟩));generalize WW:({E with toks:=E.toks+1}:aa)=j;have OW:Kp E j:=WW▸.tok _;have l:=LM.step OW;have f:=vK.trans' OW;have F2:=F.kp f;refine Hl ?_;rw[c7];refine ir (kc ?_)
 refine(l.look "self" (.addr b) rfl).elim λv z=>?_
 have hk0:ν.kindOf "self"=ac Bh:=(ek _).trans (by kernel_rfl);have hcx:∃c,ν.cells.lookup ("self":Ba)=ac c/\j.heap.IsCell c (ac (.ref b)):=z.1.elim (λq=>nomatch hk0.symm.trans q.1) λq=>q.2.imp λc q=>⟨q.1,(show v=.ref b from z.2.1)▸q.2⟩;refine hcx.elim λc q=>?_;have hc:=q.1;have r:=q.2;have e0:uh (s.heap.objs.size+1) (fdOf (Hs w)).scope.names []=[(("self":Ba),s.heap.objs.size+1)]:=by kernel_rfl
 have hcl:ν.cells=[(("self":Ba),c)]:=by
  rw[M,e0] at hc ⊢;exact congrArg (λx=>[(("self":Ba),x)]) (xa (show ac (s.heap.objs.size+1)=ac c from hc))
 have p:s.heap.get? c=a6:=by
  cases e:s.heap.get? c with
  |none=>rfl
  |some o=>exact absurd e (l.nc "self" c hc hk0 o)
 have a3O:=l.re;refine ue λhC=>?_;obtain ⟨_,t2',O,_⟩:=id f;refine hC ?_;have H:j.gens=s.gens:=by rw[O]
 refine gJ (cl:=[("self",c)]) (cc:=1944) (PT:=1940) (ps:=ps) (ex:=[b,dd,d,c]) (a:=0) (c:=8) (n:=(bs.length+7) / 8) (Fv:=λi v=>∃t,v=.int (Wk (Ln bs (8*i))) t)
  J.ga.hd J.ga.room F2 l.eg l.eb (by kernel_rfl) ?_ (Xq (by kernel_rfl)) (by kernel_rfl) (by kernel_rfl) (by kernel_rfl) KD (L.keeps λZ Z e=>f.get e) ?_ ?_ ?_ (λZ=>rfl) ?_ ?_
 ·rw[qg (scope:=O4) (ν:=ν) ?_]
  ·rw[hcl];kernel_rfl
  ·intro y V hfr;rw[hcl];have:O4.names.all (λy=>y.2 != .free||y.1=="self")=a8:=by kernel_rfl
   have q:=Aa.mp this y V;rw[hfr] at q;have q:y.1="self":=by simpa using q
   rw[q];rfl
 ·have nf:∀{x:ma} {o:Jb},s.heap.get? x=ac o->(∀vs,o.data≠.fields vs)->(1940:ma)≠x:=λe hn=>(Zq L.tab e hn).symm;exact λq=>(we.mp q).elim (λq=>absurd q (by decide)) (eF (nf hb λZ q=>nomatch q) (eF (nf JK λZ q=>nomatch q) (eF (nf hd λZ q=>nomatch q) (eF (λq=>nomatch L.tab.symm.trans ((congrArg s.heap.get? q).trans p)) λq=>nomatch q))))
 ·exact Ld ⟨_,f.get hb⟩ (Ld ⟨_,f.get JK⟩ (Ld ⟨_,f.get hd⟩ (Ld (r.imp λo q=>q.1) Sl)))
 ·rw[Y6];refine Rc ⟨_,_,rfl⟩ (name_buil a3O ((ek _).trans (by kernel_rfl)) (oe w (.tail _ (.head _))) (v:=.type "range") (by kernel_rfl) (by decide) (by decide) ?_);refine md (xs:=[eval (.Constant (.int 0) 0 (ch mM 1).pos) ν,eval (.Call _ _ [] _) ν,eval (.Constant (.int 8) 0 (ch mM 3).pos) ν]) (show 3<=30 by decide) ?_;refine qd ?_;generalize VW:({j with toks:=j.toks+1}:aa)=a3H;have k3:Kp j a3H:=VW▸.tok _;have D:=l.step k3;refine Rc ⟨_,_,rfl⟩ (name_buil D.re ((ek _).trans (by kernel_rfl)) (oe w (va ..)) (v:=.builtin "len") (by kernel_rfl) (by decide) (by decide) ?_);refine md (xs:=[eval (.Attribute _ _ _) ν]) (show 1<=30 by decide) ?_;refine ue λhC=>?_;obtain ⟨v,hv,Y,_⟩:=D.look "self" (.addr b) rfl;refine hC ?_;have Y:v=.ref b:=Y;subst Y;have k03:=f.trans' k3;refine ig (vd D.kind hv (by decide) (by decide) (gaT J.ga.hd (F.kp k03) (k03.get hb) λh4 hk4=>?_));have k4:=k3.trans' (mu 1 hk4);have k04:=f.trans' k4;refine Ga (a:=vb) rfl ?_;refine Tu (k04.get hd) (by lia) λu tk=>?_;refine qd ?_;refine Ga (a:=vb) rfl ?_;refine call_range_3 (by decide) ?_ (.inl (qn ⟨by decide,by decide⟩));have a5j:=λ(h:Xb) (t1 t2 t3:xm)=>fv h 0 (bs.length:Int) 8 t1 t2 t3;refine Dh (a5j _ _ _ _) ?_ ⟨_,rfl,k4.trans' ?_,?_,?_⟩
  ·exact(ni (by decide) ⟨by decide,by decide⟩ ⟨Af (by decide) (Ja _),kh (Xf.mpr hz) (by decide)⟩ ⟨by decide,by decide⟩).1
  ·exact⟨_,_,rfl,λZ Z e=>ea _ (ea _ e)⟩
  ·exact Ab (k4.trans' (.tok _)) (Qe (by rw[pd];exact Se _))
  ·show Vc _ _ _ _ _
   have:=qa (o:={cls:=.type "range_iterator",data:=.fields #[ee 0,ee (Gb 0 (bs.length:Int) 8),ee 8]}) (h4.push {cls:=.type "range",data:=.fields #[.int 0 j.toks,.int bs.length u,.int 8 tk]}) rfl;rw[eG] at this;rw[eG];exact this
 ·intro C code A' i t m s' hA hi hk hn hm;have ad:∀z∈Lh,∀o,j.heap.get? z=ac o->s'.heap.get? z=ac o:=λz hz o e=>hk z (qe _ hz) o e;have F':=F2.AI ad;have hb':=hk b (Mc _ (va ..)) _ (f.get hb);have a5u:=hk dd (Mc _ (.tail _ (.head _))) _ (f.get JK);have hd':yi s'.heap d bs:=hk d (Mc _ (.tail _ (.tail _ (.head _)))) _ (f.get hd);have hc':s'.heap.IsCell c (ac (.ref b)):=by obtain ⟨o,e,q⟩:=r;exact⟨o,hk c (Mc _ (.tail _ (.tail _ (.tail _ (.head _))))) _ e,q⟩
  have e8:(0:Int)+(i:Int)*8=((8*i:Nat):Int):=(Rp _).trans (AF (i:Int) 8);rw[e8] at hm;refine Y2 (k:=8*i) (b:=b) (dd:=dd) (d:=d) (bs:=bs) hA F' hb' a5u hd' hB hz (by lia) (λx=>rfl) ?_ λt Sg k=>⟨⟨t,rfl⟩,k⟩;refine eX (x:="k") (v:=.int ((8*i:Nat):Int) t) (m:=m) (by kernel_rfl) l.eg (sf F') (by kernel_rfl) hn hm ⟨t,rfl⟩ ?_ ?_
  ·exact λy q e=>have z:=jF e;by rw[z.1];exact⟨by kernel_rfl,c,.ref b,rfl,hc',z.2▸rfl⟩
  ·have e1:O4.names.all (λy=>y.2 != .cell&&(y.2 != .free||y.1=="self"))=a8:=by kernel_rfl
   have:∀{y k},O4.names.lookup y=ac k->(k != .cell&&(k != .free||y=="self"))=a8:=λhk=>Aa.mp e1 _ (Qc hk);exact λy V=>V.elim (λV=>nomatch this V) λV=>by rw[eq_of_beq (show(y=="self")=a8 from this V)];rfl
 ·intro a C I h' tk gs T h1 h2 h3 h4 h5 h6 h7 h8 h9;have e:∀(h:Xb) (g:Array Oe) (t:Nat),({j with heap:=h,gens:=g,toks:=t}:aa)={s with heap:=h,gens:=g,toks:=t}:=λh g t=>by rw[O]
  rw[H] at h7 h8;rw[H];refine⟨⟨_,rfl⟩,?_⟩
  have key:=hQ a C I c h' tk gs T h1 (Ab f h2) (Ab f h3) (Ab f h4) p (λz o hz q=>h5 z o hz (f.get q)) h6 h8
   (Ld (h9 _ (.head _)) (Ld (h9 _ (.tail _ (.head _))) (Ld (r.imp λo q=>h5 _ o (λq'=>nomatch L.tab.symm.trans ((congrArg s.heap.get? q').symm.trans p)) q.1) Sl))) (λB hB=>e _ _ _▸h7 B hB)
  rw[<- e] at key;exact key
theorem ny{g:Nat}(x:h.IsGen a g)(k:∀o,h.get? a=ac o->h'.get? a=ac o):h'.IsGen a g:=
 x.elim λo y=>y.elim λnm y=>y.elim λb y=>⟨o,nm,b,k o y.1,y.2⟩
theorem NA{it:ma}{x left og:Int}(a:Vc s.heap it x left og)(b:0 < left)
  (c:∀h',Vc h' it (x+og) (left-1) og->Rd it s.heap h'->Q (.int x s.toks) {s with heap:=h',toks:=s.toks+1}):
  wpAny (ja π w) A (yd (.ref it)) Q E s:=by
 have hT:s.TypeIs (.ref it) "range_iterator":=⟨_,a,rfl⟩;unfold yd;refine Kb (wc (name:=ra "__next__") hT Bj
  (vF Bj hT wC (wA _) (AutoRange.range_iterator___next___range_iterator_1 it x left og (by lia)) ⟨a,?_⟩))
 exact la (c _ (Zc _ (Zc _ a rfl) rfl) ((wh ..).trans (wh ..)))
theorem Eu{it:ma}{x left og:Int}(d:A.handled=a6)(b:Vc s.heap it x left og)(c:left<=0)
  (f:∀h' e,nk it s.heap h'->(∃o,h'.get? e=ac o/\o.cls=.type "StopIteration")->E (.ref e) {s with heap:=h'}):
  wpAny (ja π w) A (yd (.ref it)) Q E s:=by
 have hT:s.TypeIs (.ref it) "range_iterator":=⟨_,b,rfl⟩;unfold yd;refine Kb (wc (name:=ra "__next__") hT Bj
  (Pc Bj hT wC ?_ (wA _)))
 show wpAny _ _ (zy (.ref it) 0>>=_) _ _ s
 refine Kb (Jd b rfl (x:=ee x) rfl ?_);show wpAny _ _ (zy (.ref it) 1>>=_) _ _ s
 refine Kb (Jd b rfl (x:=ee left) rfl ?_);show wpAny _ _ (zy (.ref it) 2>>=_) _ _ s
 refine Kb (Jd b rfl (x:=ee og) rfl ?_);show wpAny _ _ (if left<=0 then _ else _) _ _ s
 rw[if_pos c];refine Kb (oi ?_);refine Kb ?_;show wpAny _ _ (zX (.type "StopIteration") []>>=_) _ _ _
 refine Kb ?_;dsimp only[zX,newTuple];refine Kb (Ed ?_ (by size_fits));refine Kb (m:=a2X _ _) (Ga (a:=yp) (by rfl) ?_);refine Ed ?_ (by size_fits);dsimp only[raiseNew];refine Kb (wpAny_handled ?_)
 first|rw[show A.in1.handled=a6 from d]|rw[d]
 refine Kb (la (iS ?_));exact f _ _ (((a3h it s.heap).push _).push _) ⟨_,qa _ rfl,rfl⟩
theorem a4a{j m:Nat}(a:j < n)(hm:n-j=m+1):n-1-m=j:=by rw[wo,Rb 1 m,<- hm,Nw (uc a)]
set_option tactic.hygienic true in
theorem UG{g:Nat}{C:ma}{fp wr:List ma}{F:Nat->Value->Prop}(hh:A.handled=a6)(haC:a≠C)(haf:a∉fp)(u:∀b∈wr,b∈fp)
  (q:A.depth < xf) (Y:Of∈fp) (J:Of≠C) (I:Of∉wr) {j:Nat} (H:j < n) (st:wu π w A a g C fp wr (λ_=>a8) n F j s)
  (hQ:∀v s',F j v->wu π w A a g C fp wr (λ_=>a8) n F (j+1) s'->Moved (C::wr) (fg g) s s'->Q v s'):
  wpAny (ja π w) A (yd (.ref a)) Q E s:=by
 refine ue λhC=>?_;obtain ⟨hg,hl,gs,l,t⟩:=st;refine hC ?_;have p:(passing (λ_=>a8) n 0).length=n:=by rw[iq,Ac]
 rw[p] at t;refine ue λhC=>?_;obtain ⟨m,hm⟩:∃m,n-j=m+1:=⟨n-j-1,(Yb (ej H)).symm⟩;refine hC ?_;rw[hm] at t;refine a2h (yb s.toks) ?_;have k:=t (s.setGen g .running) (λ_ _ _ e=>e);unfold yd;refine Kb (wc (name:=ra "__next__") hg.typeIs slot_gen_next
  (Pc slot_gen_next hg.typeIs entry_gen_next ?_ (args_gen_next _)))
 show wpAny _ A.in1 (Hr (.ref a) (.send .none)) _ _ s
 unfold Hr;refine Kb (Ta (wpAny_genNumber hg (Kb (wpAny_genState l ?_))));have N:∀v c d,d.bare=a8->genProto C fp wr (λ_=>a8) n F m (s.setGen g .running) v c (λO Sg=>d.Goes (ja π w) A.in1 (λn ς r c=>r=.ok .next/\(n=0/\GenSince C wr ς c)) (genProto C fp wr (λ_=>a8) n F) m O Sg)->
   s.toks<=(c.setGen g d).toks->Q v (c.setGen g d):=by
  intro v c d hb hv G;refine ue λhC=>?_;obtain ⟨⟨i,hi,hF⟩,⟨Eb,D,rfl,f⟩,z⟩:=hv;refine hC ?_;rw[iq,Ac] at hi;have B:n-1-m=j:=a4a H hm;rw[B,fi H] at hi;obtain rfl:=xa hi;have L:a∉wr:=λh=>haf (u a h);refine hQ v _ hF ⟨ny hg λo=>f a o haC L,(hl.elim λT y=>⟨T,y.1.at' λo e=>f Of o J I e,y.2⟩),d,pC (gs:=.running) (pC l),λSg M=>?_⟩
   ⟨λb o hb e=>f b o (λh=>hb (h▸va ..)) (λh=>hb (pa _ h)) e,GenOnlyQ.of ((EM s g .running).trans (EM _ g d)) (pC (gs:=.running) (pC l)) hb,rfl,rfl,G⟩
  rw[p];have e:n-(j+1)=m:=congrArg Nat.pred hm;rw[e];exact z Sg M
 cases gs with
 |running=>exact k.elim
 |finished=>exact k.elim
 |_=>
  refine Kb (wpAny_roomToWake hl q ?_);show wpAny _ A.in1 (.resume g (.send .none) [] _) _ _ s
  refine wpAny_resumeQ l k (λx c V=>?_) (λv c d hb hv=>?_)
  ·exact absurd V.2.1 (Nat.succ_ne_zero m)
  ·exact la ⟨v,rfl,la (N v c d hb hv)⟩
noncomputable abbrev OS(h:Xb)(a b c:Int):Xb:=h.push {cls:=.type "range_iterator",data:=.fields #[ee a,ee (Gb a b c),ee c]}
noncomputable abbrev NS(h:Xb)(a b c:Int)(g:ma):Xb:=(OS h a b c).push {cls:=.type "tuple",data:=.seq #[.ref h.objs.size,.ref g]}
noncomputable abbrev JS(h:Xb)(a b c:Int)(g:ma):Xb:=(NS h a b c g).push {cls:=.type "tuple",data:=.seq #[.none,.none]}
noncomputable abbrev TJ(h:Xb)(a b c:Int)(g:ma):Xb:=(JS h a b c g).push {cls:=.type "zip",data:=.fields #[.none,.bool be,.bool be,.ref (OS h a b c).objs.size,.ref (NS h a b c g).objs.size]}
theorem LH{g:Nat}(x:h.IsGen a g)(o:Jb):(h.push o).IsGen a g:=
 ny x λZ=>ea o
theorem XA(r ga:ma)(a b c:Int)(t u v:xm)(g:Nat)(e:Lk a b c=a8):
  Meets (Builtin.«zip.__new__» ⟨[.type "zip",.ref r,.ref ga],[]⟩) (λZ R s=>Pm s.heap r a b c t u v/\s.heap.IsGen ga g /\
   R (.ok (.ret (.ref (JS s.heap a b c ga).objs.size))) {s with heap:=TJ s.heap a b c ga}):=
 .of_wp λπ w A R s h=>by
  obtain ⟨hp,k,d,tk,os⟩:=s;obtain ⟨hr,hg,h⟩:=h;have j:=sub_zip;have i:Pm (XE ⟨hp,k,d,tk,os⟩) r a b c t u v:=hr;have f:Heap.IsGen (XE ⟨hp.push {cls:=.type "range_iterator",data:=.fields #[ee a,ee (Gb a b c),ee c]},k,d,tk,os⟩) ga g:=LH hg _
  wp_walk using Dh i e,fA f
  exact⟨_,rfl,h⟩
section
theorem iE{r ga:ma}{a b c:Int}{v:xm}{g:Nat}(hr:Pm s.heap r a b c t u v)(j:Lk a b c=a8)(hg:s.heap.IsGen ga g)
  (h:∀h',uC h' (s.heap.objs.size+3) (s.heap.objs.size+1) (s.heap.objs.size+2) .none->IsPair h' (s.heap.objs.size+1) (.ref s.heap.objs.size) (.ref ga)->
   IsPair h' (s.heap.objs.size+2) .none .none->Vc h' s.heap.objs.size a (Gb a b c) c->h'.objs.size=s.heap.objs.size+4->
   (∀c o,s.heap.get? c=ac o->h'.get? c=ac o)->Q (.ref (s.heap.objs.size+3)) {s with heap:=h'}):
  wpAny (ja π w) A (call (.type "zip") [.ref r,.ref ga]) Q E s:=by
 refine callType_new F.called_zip (by decide) (F.typeCall_zip_2 _ _) (F.newCall_zip_2 _ _) (λi=>yt i _ _) F.entry_zip_new
  (XA r ga a b c t u v g j) ⟨hr,hg,?_⟩
 have f:(OS s.heap a b c).objs.size=s.heap.objs.size+1:=pd ..;have e:(NS s.heap a b c ga).objs.size=s.heap.objs.size+2:=by rw[pd,f]
 have d:(JS s.heap a b c ga).objs.size=s.heap.objs.size+3:=by rw[pd,e]
 have n:(TJ s.heap a b c ga).objs.size=s.heap.objs.size+4:=by rw[pd,d]
 have k:(TJ s.heap a b c ga).get? (JS s.heap a b c ga).objs.size=ac _:=qa _ rfl;have l:(TJ s.heap a b c ga).get? (NS s.heap a b c ga).objs.size=ac _:=ea _ (qa _ rfl);have m:(TJ s.heap a b c ga).get? (OS s.heap a b c).objs.size=ac _:=ea _ (ea _ (qa _ rfl));have g1:(TJ s.heap a b c ga).get? s.heap.objs.size=ac _:=ea _ (ea _ (ea _ (qa _ rfl)));show _/\_
 rw[f,e,d] at k;rw[e] at l;rw[f] at m;rw[d];exact⟨⟨_,k,rfl⟩,h _ k m l g1 n λc o x=>ea _ (ea _ (ea _ (ea _ x)))⟩
structure ZG(π:Pa)(w:sa)(A:Wc)(z TI TO I1 a:ma)(g:Nat)(C:ma)(fp wr:List ma)(m n:Nat)(Fv:Nat->Value->Prop)(f0:Value)(j:Nat)(s:aa):Prop where
 hz:uC s.heap z TI TO f0
 hTI:IsPair s.heap TI (.ref I1) (.ref a)
 hTO:∃x y,IsPair s.heap TO x y
 hI:Vc s.heap I1 (j:Int) ((m:Int)-j) 1
 hg:wu π w A.in1 a g C fp wr (λ_=>a8) n Fv j s
structure l5(z TI TO I1 a C:ma)(fp wr:List ma):Prop where
 nd:z≠TI/\z≠TO/\z≠I1/\TI≠TO/\TI≠I1/\TO≠I1
 out:∀b∈a::C::fp,b≠z/\b≠TI/\b≠TO/\b≠I1
 haC:a≠C
 haf:a∉fp
 sub:∀b∈wr,b∈fp
 cs:Of∈fp
 cC:Of≠C
 cw:Of∉wr
theorem QD{g:Nat}{C:ma}{fp wr:List ma}{Fv:Nat->Value->Prop}{j:Nat}(x:wu π w A a g C fp wr (λZ=>a8) n Fv j s)(c:Of∈fp)(hg:s'.gens[g]?=s.gens[g]?)
  (hk:∀b∈a::C::fp,∀o,s.heap.get? b=ac o->s'.heap.get? b=ac o):wu π w A a g C fp wr (λZ=>a8) n Fv j s':=
 ⟨ny x.1 (hk a (va ..)),
  (x.2.1.elim λf y=>⟨f,y.1.at' λo e=>hk Of (pa _ (pa _ c)) o e,y.2⟩),
  x.2.2.elim λgs y=>⟨gs,by rw[hg];exact y.1,λSg d=>y.2 Sg λb hb o e=>d b hb o (hk b (pa _ hb) o e)⟩⟩
theorem bj{g:Nat}{C:ma}{fp wr:List ma}{Fv:Nat->Value->Prop}{j:Nat}(x:wu π w A a g C fp wr (λZ=>a8) n Fv j s)(c:Of∈fp)(hg:s'.gens=s.gens)
  (hk:∀b∈a::C::fp,∀o,s.heap.get? b=ac o->s'.heap.get? b=ac o):wu π w A a g C fp wr (λZ=>a8) n Fv j s':=
 QD x c (congrArg (·[g]?) hg) hk
variable{z TI TO I1:ma}{g:Nat}{C:ma}{fp wr:List ma}{m:Nat}{Fv:Nat->Value->Prop}{j:Nat}
theorem IS(hh:A.handled=a6)(a0R:A.in1.depth < xf)(D:l5 z TI TO I1 a C fp wr)(hj:j < m)(hn:j < n)(x:ZG π w A z TI TO I1 a g C fp wr m n Fv .none j s){Q:Option Value->aa->Prop}
  (hQ:∀T v t s',Fv j v->IsPair s'.heap T (.int j t) v->ZG π w A z TI TO I1 a g C fp wr m n Fv (ee T) (j+1) s'->Moved (z::TO::I1::C::wr) (fg g) s s'->Q (ac (.ref T)) s'):
  wpAny (ja π w) A (Vh (.ref z)) Q E s:=by
 refine ue λhC=>?_;obtain ⟨hz,hTI,⟨p,q,hTO⟩,hI,hg⟩:=x;obtain ⟨d1,d2,d3,d4,d5,d6⟩:=D.nd;refine hC ?_;have hT:s.TypeIs (.ref z) "zip":=⟨_,hz,rfl⟩;refine a2h (yb s.toks) ?_;unfold Vh;refine Kb (qi (wc (name:=ra "__next__") hT Gr
  (Pc Gr hT FX ?_ (kW _))))
 show wpAny _ A.in1 (zy (.ref z) 2>>=_) _ _ _
 refine Kb (Jd hz rfl (x:=.bool be) rfl ?_);show wpAny _ _ (zy (.ref z) 3>>=_) _ _ _
 refine Kb (Jd hz rfl (x:=.ref TI) rfl ?_);refine Kb (Ze hTI rfl ?_);show wpAny _ _ (pg (.ref z)>>=_) _ _ _
 refine Kb ?_;unfold pg;refine Kb (Jd hz rfl (x:=.none) rfl (la ?_));dsimp only[if_true];refine Kb (oi ?_);refine Kb (Jd hz rfl (x:=.ref TO) rfl ?_);refine Kb (Nk hz (show 0 < 5 by decide) λEb u H=>?_)
 replace u:uC Eb z TI TO .ellipsis:=u
 refine Kb ?_;dsimp only[NR,xS,rf,Xm];refine Kb (Kb (GJ ?_));show wpAny _ _ (yd (.ref I1)>>=_) _ _ _
 have Q0:Vc Eb I1 (j:Int) ((m:Int)-j) 1:=H.extBut _ _ d3.symm hI;refine Kb (NA Q0 (yo (jc.mpr hj)) λHK KU G=>la ?_);have M:IsPair HK TO p q:=G.extBut _ _ d6 (H.extBut _ _ d2.symm hTO);refine Kb (Ze M rfl ?_);refine Kb (hS M λJ k B=>?_)
 replace k:IsPair J TO (.int j s.toks) q:=k
 refine Kb (Gp (la ?_));refine Kb (Kb (GJ ?_));show wpAny _ _ (yd (.ref a)>>=_) _ _ _
 have k3:∀b o,b≠z->b≠TO->b≠I1->s.heap.get? b=ac o->J.get? b=ac o:=λb o b1 b2 b3 e=>B.extBut _ _ b2 (G.extBut _ _ b3 (H.extBut _ _ b1 e));have hg3:wu π w A.in1 a g C fp wr (λZ=>a8) n Fv j {s with heap:=J,toks:=s.toks+1}:=bj hg D.cs rfl λb hb o e=>k3 b o (D.out b hb).1 (D.out b hb).2.2.1 (D.out b hb).2.2.2 e;refine Kb (UG (A:=A.in1) hh D.haC D.haf D.sub a0R D.cs D.cC D.cw hn hg3 λv O hF hg4 N=>la ?_);have a5i:∀b,b∈C::wr->b∈a::C::fp:=Ld (.tail _ (.head _)) λb hb=>.tail _ (.tail _ (D.sub b hb));have own:∀b,(b=z\/b=TI\/b=TO\/b=I1)->b∉C::wr:=λb hb q=>have d:=D.out b (a5i b q);hb.elim d.1 λhb=>hb.elim d.2.1 λhb=>hb.elim d.2.2.1 d.2.2.2;have L:IsPair O.heap TO (.int j s.toks) q:=N.heap TO _ (own TO (.inr (.inr (.inl rfl)))) k;refine Kb (Ze L rfl ?_);refine Kb (hS L λf i y=>?_)
 replace i:IsPair f TO (.int j s.toks) v:=i
 refine Kb (Gp (la (la ?_)));refine Kb (Ze i rfl ?_);refine Kb (wpAny_newTuple ?_);have kz:∀b o,(b=z\/b=TI\/b=I1)->J.get? b=ac o->f.get? b=ac o:=λb o hb e=>
  y.extBut _ _ (hb.elim (λh=>h▸d2) λhb=>hb.elim (λh=>h▸d4) λh=>h▸d6.symm) (N.heap b o (own b (hb.imp id λhb=>hb.imp id .inr)) e)
 have V:uC f z TI TO .ellipsis:=kz z _ (.inl rfl) (B.extBut _ _ d2 (G.extBut _ _ d3 u));have O0:IsPair f TI (.ref I1) (.ref a):=kz TI _ (.inr (.inl rfl)) (k3 _ _ d1.symm d4 d5 hTI);have ZW:Vc f I1 ((j:Int)+1) ((m:Int)-j-1) 1:=kz I1 _ (.inr (.inr rfl)) (B.extBut _ _ d6.symm KU);have k5:∀b o,b∉z::TO::I1::C::wr->s.heap.get? b=ac o->f.get? b=ac o:=λb o hb e=>by
  exact y.extBut _ _ (λq=>hb (q▸.tail _ (.head _))) (N.heap b o (λq=>hb (.tail _ (.tail _ (.tail _ q)))) (k3 b o (λq=>hb (q▸.head _)) (λq=>hb (q▸.tail _ (.head _))) (λq=>hb (q▸.tail _ (.tail _ (.head _)))) e))
 have hg5:wu π w A.in1 a g C fp wr (λZ=>a8) n Fv (j+1) {O with heap:=f}:=bj hg4 D.cs rfl λb hb o e=>y.extBut _ _ (D.out b hb).2.2.1 e;have a0O:z < f.objs.size:=Ha V;show wpAny _ _ (Ym (.ref z) (.ref f.objs.size)>>=_) _ _ _
 refine Kb ?_;unfold Ym;have a0N:uC (f.push {cls:=.type "tuple",data:=.seq #[.int j s.toks,v]}) z TI TO .ellipsis:=ea _ V;refine Kb (Nk a0N (by simp) λa5a r SW=>?_)
 replace r:uC a5a z TI TO (ee f.objs.size):=r
 refine Nk r (by simp) λI l Y=>?_
 replace l:uC I z TI TO (ee f.objs.size):=l
 have up:∀c o,c≠z->f.get? c=ac o->I.get? c=ac o:=λc o c1 e=>Y.extBut _ _ c1 (SW.extBut _ _ c1 (ea _ e));have a1i:IsPair I f.objs.size (.int j s.toks) v:=Y.extBut _ _ (Td a0O) (SW.extBut _ _ (Td a0O) (qa _ rfl));refine la ⟨_,rfl,la λhtk=>?_⟩;refine hQ f.objs.size v s.toks {O with heap:=I} hF a1i ⟨l,up _ _ d1.symm O0,⟨_,_,up _ _ d2.symm i⟩,?_,?_⟩ ⟨?_,N.gens,N.drawn,N.os,?_⟩
 ·have e1:((j:Int)+1)=(((j+1:Nat)):Int):=rfl;have e2:(m:Int)-j-1=(m:Int)-((j+1:Nat):Int):=RJ _ _ 1;rw[e1,e2] at ZW;exact up _ _ d3.symm ZW
 ·exact bj hg5 D.cs rfl λb hb o e=>up _ _ (D.out b hb).1 e
 ·exact λb o hb e=>up b o (λq=>hb (q▸va ..)) (k5 b o hb e)
 ·exact htk
end
section
variable{z TI TO I1:ma}{g:Nat}{C:ma}{fp wr:List ma}{m:Nat}{Fv:Nat->Value->Prop}{j:Nat}
theorem JX(M:A.handled=a6)(D:l5 z TI TO I1 a C fp wr)(x:ZG π w A z TI TO I1 a g C fp wr m n Fv .none m s){Q:Option Value->aa->Prop}
  (N:∀h',(∀b o,b≠z->b≠TO->b≠I1->s.heap.get? b=ac o->h'.get? b=ac o)->Q a6 {s with heap:=h'}):
  wpAny (ja π w) A (Vh (.ref z)) Q E s:=by
 obtain ⟨hz,hTI,⟨p,q,hTO⟩,hI,hg⟩:=x;obtain ⟨d1,d2,G,d4,d5,Y⟩:=D.nd;have hT:s.TypeIs (.ref z) "zip":=⟨_,hz,rfl⟩;have u:∀{B:Value->aa->Prop} {I:Fin->aa->Prop},(∀h' e,(∀c o,c≠z->c≠TO->c≠I1->s.heap.get? c=ac o->h'.get? c=ac o)->(∃o,h'.get? e=ac o/\o.cls=.type "StopIteration")->B (.ref e) {s with heap:=h'})->
   wpAny (ja π w) A.in1 (Builtin.«zip.__next__» ⟨[.ref z],[]⟩) I B s:=by
  intro B I O;show wpAny _ _ (zy (.ref z) 2>>=_) _ _ _
  refine Kb (Jd hz rfl (x:=.bool be) rfl ?_);show wpAny _ _ (zy (.ref z) 3>>=_) _ _ _
  refine Kb (Jd hz rfl (x:=.ref TI) rfl ?_);refine Kb (Ze hTI rfl ?_);show wpAny _ _ (pg (.ref z)>>=_) _ _ _
  refine Kb ?_;unfold pg;refine Kb (Jd hz rfl (x:=.none) rfl (la ?_));dsimp only[if_true];refine Kb (oi ?_);refine Kb (Jd hz rfl (x:=.ref TO) rfl ?_);refine Kb (Nk hz (by simp) λEb d j=>?_)
  replace d:uC Eb z TI TO .ellipsis:=d
  refine Kb ?_;dsimp only[NR,xS,rf,Xm];refine Kb (Kb (GJ ?_));show wpAny _ _ (yd (.ref I1)>>=_) _ _ _
  have y:Vc Eb I1 (m:Int) ((m:Int)-m) 1:=j.extBut _ _ G.symm hI;refine Kb (Eu M y (by lia) λr e i he=>?_);obtain ⟨J,k,t⟩:=he;have f:uC r z TI TO .ellipsis:=i _ _ G d;have v:e≠z:=λx=>by subst x;rw[f] at k;obtain rfl:=xa k;simp at t
  refine Nk f (by simp) λl Z h=>O l e (λc o H Z V x=>h.extBut _ _ H (i _ _ V (j.extBut _ _ H x))) ⟨J,h.extBut _ _ v k,t⟩
 unfold Vh;refine Kb (qi (wc (name:=ra "__next__") hT Gr
  (Pc Gr hT FX (u λh' e hk he=>?_) (kW _))))
 obtain ⟨o,L,hc⟩:=he;refine Kb (Bg (T:="StopIteration") (b:=a8) ⟨o,L,hc⟩ tF ?_);exact la (N _ hk)
theorem V5{T:Nat}{d:List Oa}{pos:Sd}(D:l5 z TI TO I1 a C fp wr)(x:ZG π w A z TI TO I1 a g C fp wr m n Fv (ee T) j s){Q:Unit->aa->Prop}
  (h:∀h',ZG π w A z TI TO I1 a g C fp wr m n Fv .none j {s with heap:=h'}->(∀b o,b≠z->s.heap.get? b=ac o->h'.get? b=ac o)->Q () {s with heap:=h'}):
  wpAny (ja π w) A (Vg (.Tuple d k pos) (.ref z) (.ref T)) Q E s:=by
 refine ue λhC=>?_;obtain ⟨hz,hTI,⟨p,q,hTO⟩,hI,hg⟩:=x;obtain ⟨r,l,i,v,u,t⟩:=D.nd;refine hC ?_;refine NH hz λh' f c=>h h' ⟨f,c.extBut _ _ r.symm hTI,⟨p,q,c.extBut _ _ l.symm hTO⟩,c.extBut _ _ i.symm hI,?_⟩ λb o hb e=>c.extBut _ _ hb e;exact bj hg D.cs rfl λb hb o e=>c.extBut _ _ (D.out b hb).1 e
theorem mw{f0:Value}(D:l5 z TI TO I1 a C fp wr)(x:ZG π w A z TI TO I1 a g C fp wr m n Fv f0 j s){tk:Nat}
  (hk:∀b∈z::TI::TO::I1::a::C::fp,∀o,s.heap.get? b=ac o->h'.get? b=ac o):ZG π w A z TI TO I1 a g C fp wr m n Fv f0 j {s with heap:=h',toks:=tk}:=by
 refine ue λhC=>?_;obtain ⟨hz,hTI,⟨p,q,hTO⟩,hI,hg⟩:=x;refine hC ?_;refine⟨hk _ (.head _) _ hz,hk _ (.tail _ (.head _)) _ hTI,⟨p,q,hk _ (.tail _ (.tail _ (.head _))) _ hTO⟩,hk _ (.tail _ (.tail _ (.tail _ (.head _)))) _ hI,bj hg D.cs rfl λb hb o e=>hk b ?_ o e⟩
 exact pa _ (pa _ (pa _ (pa _ hb)))
end
section
theorem lr{r d g:Oa}{ifs:List Oa}{rest:List Ck}{scope:He}{cl:List (Ba×ma)}{pos:Sd}{it:Value}(k:∀y∈scope.names,y.2≠.cell)(j:scope.kind=.function)
  (i:∀(s':aa) (Q:Value->aa->Prop) (E:Value->aa->Prop),Kp s s'->Q it s'->wpAny (ja π w) A (Gi it) Q E s') {RR:Value->ma->Yd->aa->Prop}
  (h:∀D C s',Kp s s'->s.heap.get? D=a6->s.heap.get? C=a6->D≠C->s'.heap.get? D=ac (wb [] 0)->s'.heap.Ns C (λZ=>a6)->
   codeAny (ja π w) A (.compLoop (.ListComp r (⟨d,g,ifs,0⟩::rest) scope pos) 0 it (.ref D) (Xd scope cl C ν)) (RR (.ref D) C) s'):
  wpAny (ja π w) A (sM []) (λjh n=>wpAny (ja π w) A (sF scope ν.globals cl [] ν.qual a6 .none (ac ν)) (λcenv m=>
   codeAny (ja π w) A (.compStart (.ListComp r (⟨d,g,ifs,0⟩::rest) scope pos) 0 it jh {cenv with scope:=relabel scope ν}) (RR jh cenv.locals) m) Hc n) Hc s:=by
 refine Ed (ou k (by intro y x;simp at x) (λEb c a=>?_) j);dsimp only at c a ⊢;generalize l:s.heap.push {cls:=.type "list",dict:=a6,data:=.seq ([]:List Value).toArray}=t at c a ⊢;have hC:t.objs.size=s.heap.objs.size+1:=by rw[<- l,pd]
 have q:s.heap.objs.size≠t.objs.size:=by rw[hC];exact Na (Xc _)
 have old:∀b o,s.heap.get? b=ac o->Eb.get? b=ac o:=λb o e=>a.extBut b o (by rw[hC];exact Na (Cd (Ha e))) (ea _ (l▸ea _ e));have u:s.heap.get? s.heap.objs.size=a6:=bc;have v:s.heap.get? t.objs.size=a6:=Qe (by rw[hC];exact Se _);have p:Eb.get? s.heap.objs.size=ac (wb [] 0):=a.extBut _ _ q (ea _ (l▸qa _ rfl));have f:=h s.heap.objs.size t.objs.size {s with heap:=Eb,toks:=s.toks+([]:List (Ba×Value)).length} ⟨Eb,_,rfl,old⟩ u v q p c;exact uM f (i _ _ _ ⟨Eb,_,rfl,old⟩ f)
set_option tactic.hygienic true
theorem bu{l i:Oa}{b:List Oa}{a:Sd}{scope:He}{pos:Sd}{it jh:Value}(I:Nat->aa->Prop)
  (o:∀n s,I n s->wpAny (ja π w) A (Vh it) (λr d=>match r with
   |none=>R (.ok .next) d
   |some v=>wpAny (ja π w) A (Vg (.Tuple b k a) it v) (λ_ c=>wpAny (ja π w) A (Qk (.Tuple b k a) ν v) (λ_ g=>wpAny (ja π w) A (eval l ν) (λx f=>
     wpAny (ja π w) A (call (.builtin "list.append") [jh,x]) (λ_ e=>∃m,m < n/\I m e) Hc f) Hc g) Hc c) Hc d) Hc s)
  (n:Nat) (h:I n s):
  codeAny (ja π w) A (.compLoop (.ListComp l [⟨.Tuple b k a,i,[],0⟩] scope pos) 0 it jh ν) R s:=by
 refine By rfl I (λn s hI=>?_) n h;show wpAny _ _ ((compTurn (.ListComp l [⟨.Tuple b k a,i,[],0⟩] scope pos) 0 it jh ν).onRaise (λx=>do ur x ν;theTreesLotGoes x)) _ _ s
 refine mC ?_;rw[compTurn_list1];refine Kb (Fb (Kb (Ub (o n s hI) (λr d Eb=>?_) λ_ _ h'=>h'.elim)));cases r with
 |none=>exact la Eb
 |some v=>
  refine Kb (Ub Eb (λ_ c j=>?_) λ_ _ h'=>h'.elim);exact Kb (Ub j (λ_ g q=>Kb (Kb (Ub q (λx f p=>Kb (Ub p
   (λ_ e Ah=>la (la ⟨rfl,Ah⟩)) λ_ _ h'=>h'.elim)) λ_ _ h'=>h'.elim))) λ_ _ h'=>h'.elim)
variable{z TI TO I1:ma}{g:Nat}{C:ma}{fp wr:List ma}{m:Nat}{f:Nat->Int}
theorem IM{p p1 p2 J pos:Sd}{kx:Nat}{L:Oa}{scope:He}{D Cc:ma}{cenv:Al}(hh:A.handled=a6)(B:A.in1.depth < xf)(Z:l5 z TI TO I1 a C fp wr)
  (hk:cenv.scope.kind=.function) (hk1:cenv.kindOf "k"=ac .local) (l:cenv.kindOf "word"=ac .local) (hC:cenv.locals=Cc) (hmn:m<=n) (hz:m<=2 ^ 24)
  (Y:D∉z::TI::TO::I1::a::C::fp) (hC0:Cc∉z::TI::TO::I1::a::C::fp) (V:D≠Cc)
  (x:ZG π w A z TI TO I1 a g C fp wr m n (NG f) .none 0 s) (hD:s.heap.get? D=ac (wb [] 0)) (hn:s.heap.Ns Cc (λ_=>a6))
  (hR:∀s' mm,Moved (D::Cc::z::TO::I1::C::wr) (fg g) s s'->fe s'.heap D ((Ea m).map f)->s'.heap.Ns Cc mm->R (.ok .next) s'):
  codeAny (ja π w) A (.compLoop (.ListComp (.Name "word" p) [⟨.Tuple [.Name "k" p1,.Name "word" p2] kx J,L,[],0⟩] scope pos) 0 (.ref z) (.ref D) cenv) R s:=by
 have gr:∀a:Array Oe,fg g a a:=λ_=>.inl rfl;have gt:∀a b c:Array Oe,fg g a b->fg g b c->fg g a c:=λ_ _ _ x y=>x.trans y;have wz:∀b,b∈z::TO::I1::C::wr->b∈z::TI::TO::I1::a::C::fp:=Ld (.head _) (Ld (.tail _ (.tail _ (.head _))) (Ld (.tail _ (.tail _ (.tail _ (.head _)))) (Ld (.tail _ (.tail _ (.tail _ (.tail _ (.tail _ (.head _)))))) λb hb=>.tail _ (.tail _ (.tail _ (.tail _ (.tail _ (.tail _ (Z.sub b hb)))))))));refine bu (λk s'=>∃i mm,i<=m/\k=m-i/\ZG π w A z TI TO I1 a g C fp wr m n (NG f) .none i s'/\fe s'.heap D ((Ea i).map f)/\s'.heap.Ns Cc mm /\
  Moved (D::Cc::z::TO::I1::C::wr) (fg g) s s') ?_ m ⟨0,_,fc _,rfl,x,⟨[],0,hD,.nil⟩,hn,PJ gr⟩
 rintro k s' ⟨i,mm,hi,rfl,xz,hl,O,hm⟩
 have nC:∀{b},b∈z::TI::TO::I1::a::C::fp->b≠Cc:=λhb q=>hC0 (q▸hb);have nD:∀{b},b∈z::TI::TO::I1::a::C::fp->b≠D:=λhb q=>Y (q▸hb);by_cases h:i < m
 ·refine IS hh B Z h (ya h hmn) xz λT v t s1 hF hT I E=>?_;obtain ⟨u,rfl⟩:=hF;have K0:fe s1.heap D ((Ea i).map f):=hl.keeps λo e=>E.heap D o (λq=>Y (wz D q)) e;have N:s1.heap.Ns Cc mm:=O.at' λo e=>E.heap Cc o (λq=>hC0 (wz Cc q)) e;refine V5 Z I λh2 H j=>?_;have hTz:T≠z:=Ks hT I.hz (by simp);have hT2:IsPair h2 T (.int i t) (.int (f i) u):=j _ _ hTz hT;have zm:z∈z::TI::TO::I1::a::C::fp:=va ..;have hl2:fe h2 D ((Ea i).map f):=K0.keeps λo e=>j _ o (qb (nD zm)) e;have M:h2.Ns Cc mm:=N.at' λo e=>j _ o (qb (nC zm)) e;have hm2:Moved (D::Cc::z::TO::I1::C::wr) (fg g) s {s1 with heap:=h2}:=
   (hm.trans gt (E.mono λb hb=>pa _ (pa _ hb))).then_heap (tk:=s1.toks) (yb _) λb o hb e=>j b o (λq=>hb (q▸.tail _ (.tail _ (.head _)))) e
  refine Co (items:=#[.int i t,.int (f i) u]) hh ⟨_,hT2,rfl,_,rfl⟩ rfl rfl λh3 he3=>?_;have d:∀b o,h2.get? b=ac o->h3.get? b=ac o:=λb o e=>he3 b o (Na (Ha e)) e;subst hC;have xz3:=mw (tk:=s1.toks) Z H λb hb o e=>d b o e;refine Bc (Ob (ie hk1 (M.keeps d) (λh4 hn4 bS=>?_) (by rw[hk];rfl)));refine Bc (Ob (ie l hn4 (λh5 Q hs5=>?_) (by rw[hk];rfl)));refine ri ?_;have jM:∀b o,b≠cenv.locals->h2.get? b=ac o->h5.get? b=ac o:=λb o hb e=>hs5.extBut b o hb (bS.extBut b o hb (d b o e));have xz5:=mw (tk:=s1.toks+1+1) Z H λb hb o e=>jM b o (nC hb) e;have hl5:fe h5 D ((Ea i).map f):=hl2.keeps λo e=>jM _ o V e;refine vd (v:=.int (f i) u) hk (.inl ⟨l,_,Q,if_pos rfl⟩) (by decide) (by decide) ?_;refine append_at hl5 (by rw[cb,Ac];lia) λh6 J0 r=>?_;refine⟨m-(i+1),Cs _ _ h,i+1,_,h,rfl,mw (tk:=s1.toks+1+1) Z xz5 λb hb o e=>r.extBut _ o (nD hb) e,?_,Q.sameBut r (qb V),?_⟩
  ·rw[Li,Ic];exact J0
  ·refine hm2.then_heap (tk:=s1.toks+1+1) (Za _ 2) λb o hb e=>?_;exact r.extBut b o (λq=>hb (q▸.head _)) (jM b o (λq=>hb (q▸.tail _ (.head _))) e)
 ·have:i=m:=Og hi (yf.mp h);refine JX hh Z (this▸xz) λh' G=>?_;refine hR _ mm (hm.then_heap (tk:=s'.toks) (yb _) λb o hb e=>G b o (λq=>hb (q▸.tail _ (.tail _ (.head _)))) (λq=>hb (q▸.tail _ (.tail _ (.tail _ (.head _))))) (λq=>hb (q▸.tail _ (.tail _ (.tail _ (.tail _ (.head _)))))) e) ?_ ?_
  ·exact(this▸hl:fe _ _ ((Ea m).map f)).keeps λo e=>G _ o (qb (nD (.head _))) (qb (nD (.tail _ (.tail _ (.head _))))) (qb (nD (.tail _ (.tail _ (.tail _ (.head _)))))) e
  ·exact O.at' λo e=>G _ o (qb (nC (.head _))) (qb (nC (.tail _ (.tail _ (.head _))))) (qb (nC (.tail _ (.tail _ (.tail _ (.head _)))))) e
end
section
variable{g:Nat}{C:ma}{fp wr:List ma}{m:Nat}{f:Nat->Int}
set_option tactic.hygienic false
theorem nP{wr:List ma}{G:Array Oe->Array Oe->Prop}{c a:aa}(k:Kp s c)(h:Moved wr G c a):(∀b o,b∉wr->s.heap.get? b=ac o->a.heap.get? b=ac o)/\G s.gens a.gens/\a.drawn=s.drawn/\a.os=s.os:=by
 refine ue λhC=>?_;obtain ⟨h',tk,rfl,d⟩:=k;refine hC ?_;exact⟨λb o hb e=>h.heap b o hb (d b o e),h.gens,h.drawn,h.os⟩
theorem JM{p p1 p2 B pos:Sd}{kx:Nat}{j:Oa}{scope:He}{cl:List (Ba×ma)}(hh:A.handled=a6)(l:A.in1.depth < xf)
  (u:∀y∈scope.names,y.2≠.cell) (i:scope.kind=.function) (r:∀y∈scope.names,y.2=.local->scope.names.lookup y.1=ac .local) (t:Yr scope ν=pure cl)
  (V:scope.names.lookup ("k":Ba)=ac NameKind.local) (T:scope.names.lookup ("word":Ba)=ac NameKind.local) (hs:∀y,Me j ν y=pure y) (O:m<=n) (hz:m<=2 ^ 24)
  (Y:wpAny (ja π w) A (eval j ν) (λxv d=>∃z TI TO I1,xv=.ref z/\Kp s d/\l5 z TI TO I1 a C fp wr/\ZG π w A z TI TO I1 a g C fp wr m n (NG f) .none 0 d /\
   (∀b∈z::TI::TO::I1::a::C::fp,∃o,d.heap.get? b=ac o)/\s.heap.get? z=a6/\s.heap.get? TO=a6/\s.heap.get? I1=a6) Hc s)
  (hQ:∀D s',s.heap.get? D=a6->fe s'.heap D ((Ea m).map f)->(∀b o,b∉C::wr->s.heap.get? b=ac o->s'.heap.get? b=ac o)->fg g s.gens s'.gens->s'.drawn=s.drawn->s'.os=s.os->Q (.ref D) s'):
  wpAny (ja π w) A (eval (.ListComp (.Name "word" p) [⟨.Tuple [.Name "k" p1,.Name "word" p2] kx B,j,[],0⟩] scope pos) ν) Q Hc s:=by
 rw[aw];refine Hg (use:=a6) rfl hs t i r (Ig Y (λxv d Eb=>?_));refine ue λhC=>?_;obtain ⟨z,TI,TO,I1,rfl,M,Z,x,hfp,nz,nTO,L⟩:=Eb;refine hC ?_;refine sr x.hz ?_;refine lr u i (λs' Q E k hq=>sr (k.get x.hz) hq) λD Cc G k2 hD hC H R0 hn=>?_;have out:∀{b},d.heap.get? b=a6->b∉z::TI::TO::I1::a::C::fp:=λhb q=>by
  refine(hfp _ q).elim λo e=>?_
  rw[hb] at e;exact nomatch e
 have x2:ZG π w A z TI TO I1 a g C fp wr m n (NG f) .none 0 G:=by
  refine ue λhC=>?_;obtain ⟨h,tk,rfl,kk⟩:=id k2;refine hC ?_;exact mw Z x λb U o e=>kk b o e
 refine IM (cenv:=Xd scope cl Cc ν) hh l Z i (Mf V) (Mf T) rfl O hz (out hD) (out hC) H x2 R0 hn λs' mm hm hl N=>?_;refine⟨mm,N,λyC sb=>?_⟩
 obtain ⟨q1,q2,q3,q4⟩:=nP (M.trans' k2) hm;have I:=Ab M hD;have J:=Ab M hC;have v:∀{b c:ma} {o:Jb},s.heap.get? b=ac o->s.heap.get? c=a6->b≠c:=λe e' q=>by rw[q,e'] at e;exact nomatch e
 refine hQ D {s' with heap:=yC} I (hl.keeps λo e=>sb.extBut _ o H e) (λb o hb e=>sb.extBut b o (v e J) (q1 b o ?_ e)) q2 q3 q4;simp only[La,not_or] at hb ⊢;exact⟨v e I,v e J,v e nz,v e nTO,v e L,hb.1,hb.2⟩
end
section
variable{z TI TO i1 i2 l1 l2 D Cc:ma}{val:Int->Int->Int}{xs ys:List Int}
structure ZZ(ς:aa)(z TI TO i1 i2 l1 l2 D Cc:ma)(f0:Value)(out:List Int)(i:Nat)(s:aa):Prop where
 kp:Kp ς s
 hz:uC s.heap z TI TO f0
 ti:IsPair s.heap TI (.ref i1) (.ref i2)
 to:∃a b,IsPair s.heap TO a b
 h1:s.heap.IsListIter i1 l1 i
 h2:s.heap.IsListIter i2 l2 i
 hD:fe s.heap D out
 hn:∃m,s.heap.Ns Cc m
structure ZN(ς:aa)(z TI TO i1 i2 l1 l2 D Cc:ma):Prop where
 ap:ZipApart z TI TO i1 i2 l1 l2
 nz:ς.heap.get? z=a6
 nTO:ς.heap.get? TO=a6
 n1:ς.heap.get? i1=a6
 n2:ς.heap.get? i2=a6
 nD:ς.heap.get? D=a6
 nC:ς.heap.get? Cc=a6
 Dn:D∉[z,TI,TO,i1,i2]
 Cn:Cc∉[z,TI,TO,i1,i2]
 DC:D≠Cc
theorem LI.keep(x:h.IsListIter a l i)(k:∀o,h.get? a=ac o->h'.get? a=ac o):h'.IsListIter a l i:=x.imp λo q=>⟨k o q.1,q.2⟩
set_option tactic.hygienic true in
theorem PS{O C:Oa}{n1 n2:Ba}{p1 p2 p pos:Sd}{kx:Nat}{scope:He}{cenv:Al}{ws:List Value}{k1 k2:Nat}(hh:A.handled=a6)(Z:ZN ς z TI TO i1 i2 l1 l2 D Cc)
  (hk:cenv.scope.kind=.function) (hk1:cenv.kindOf n1=ac .local) (hk2:cenv.kindOf n2=ac .local) (hC:cenv.locals=Cc) (hne:n2≠n1)
  (K0:ς.heap.get? l1=ac (wb vs k1)) (M:IntsAre vs xs) (hl2:ς.heap.get? l2=ac (wb ws k2)) (L:IntsAre ws ys) (aS:xs.length<=2 ^ 24)
  (H:∀s' x y t u mm,x∈xs->y∈ys->Kp ς s'->s'.heap.Ns Cc mm->mm n1=ac (.int x t)->mm n2=ac (.int y u)->wpAny (ja π w) A (eval O cenv) (λv Sg=>(∃t,v=.int (val x y) t)/\Kp s' Sg) Hc s')
  (x:ZZ ς z TI TO i1 i2 l1 l2 D Cc .none [] 0 s)
  (hR:∀s',Kp ς s'->fe s'.heap D (se val xs ys)->(∃m,s'.heap.Ns Cc m)->R (.ok .next) s'):
  codeAny (ja π w) A (.compLoop (.ListComp O [⟨.Tuple [.Name n1 p1,.Name n2 p2] kx p,C,[],0⟩] scope pos) 0 (.ref z) (.ref D) cenv) R s:=by
 refine bu (λk s'=>∃i,i<=xs.length/\k=xs.length-i/\ZZ ς z TI TO i1 i2 l1 l2 D Cc .none (se val (xs.take i) (ys.take i)) i s') ?_ xs.length ⟨0,fc _,rfl,x⟩
 rintro k s' ⟨i,hi,rfl,x⟩
 have f:∀{b c:ma} {o:Jb},ς.heap.get? b=ac o->ς.heap.get? c=a6->b≠c:=λe n q=>by rw[q,n] at e;exact nomatch e
 have J:s'.heap.IsList l1 vs.toArray:=UI (x.kp.get K0);have I:s'.heap.IsList l2 ws.toArray:=UI (x.kp.get hl2);have dz:D≠z:=λq=>Z.Dn (q▸.head _);have dT:D≠TO:=λq=>Z.Dn (q▸.tail _ (.tail _ (.head _)));have d1:D≠i1:=λq=>Z.Dn (q▸.tail _ (.tail _ (.tail _ (.head _))));have d2:D≠i2:=λq=>Z.Dn (q▸.tail _ (.tail _ (.tail _ (.tail _ (.head _)))));have cz:Cc≠z:=λq=>Z.Cn (q▸.head _);have cT:Cc≠TO:=λq=>Z.Cn (q▸.tail _ (.tail _ (.head _)));have c1:Cc≠i1:=λq=>Z.Cn (q▸.tail _ (.tail _ (.tail _ (.head _))));have c2:Cc≠i2:=λq=>Z.Cn (q▸.tail _ (.tail _ (.tail _ (.tail _ (.head _)))));have dI:D≠TI:=λq=>Z.Dn (q▸.tail _ (.head _));have cI:Cc≠TI:=λq=>Z.Cn (q▸.tail _ (.head _));refine x.to.elim λta q=>q.elim λtb hTO=>x.hn.elim λm hm=>?_;by_cases he:i < xs.length/\i < ys.length
 ·have ex:xs[i]?=ac (xs.getD i 0):=by rw[ua,Sa he.1];rfl
  have ey:ys[i]?=ac (ys.getD i 0):=by rw[ua,Sa he.2];rfl
  refine(M.get i _ ex).elim λt hx=>(L.get i _ ey).elim λu hy=>?_
  refine wpAny_pyNext_zip_item Z.ap x.hz x.ti hTO x.h1 x.h2 J I (by simpa using hx) (by simpa using hy) λh2 z2 to2 it1 it2 hT sz k2'=>?_;refine NH z2 λh3 z3 h=>?_;have Tz:s'.heap.objs.size≠z:=λq=>je _ (Ha (q▸x.hz:s'.heap.get? s'.heap.objs.size=_));have hT3:IsPair h3 s'.heap.objs.size (.int (xs.getD i 0) t) (.int (ys.getD i 0) u):=(h.2 _ Tz).trans hT;refine Co (items:=#[.int (xs.getD i 0) t,.int (ys.getD i 0) u]) hh ⟨_,hT3,rfl,_,rfl⟩ rfl rfl λY l=>?_;have IF:∀b o,b≠z->b≠TO->b≠i1->b≠i2->s'.heap.get? b=ac o->Y.get? b=ac o:=λb o a1 a2 a3 a4 e=>
   have Q:=(h.2 b a1).trans (k2' b o a1 a2 a3 a4 e)
   l b o (Na (Ha Q)) Q
  have kM:∀b o,b≠z->h2.get? b=ac o->Y.get? b=ac o:=λb o a1 e=>have Q:=(h.2 b a1).trans e;l b o (Na (Ha Q)) Q;have hm4:Y.Ns Cc m:=hm.at' λo e=>IF Cc o cz cT c1 c2 e;subst hC;refine Bc (Ob (ie hk1 hm4 (λh5 hn5 hs5=>?_) (by rw[hk];rfl)));refine Bc (Ob (ie hk2 hn5 (λN E hs6=>?_) (by rw[hk];rfl)));refine ri ?_;have a:∀b o,b≠cenv.locals->Y.get? b=ac o->N.get? b=ac o:=λb o hb e=>hs6.extBut b o hb (hs5.extBut b o hb e);have B:Kp ς ({s' with heap:=N,toks:=s'.toks+1+1}:aa):=by
   refine ue λhC=>?_;obtain ⟨hq,T,g,kq⟩:=x.kp;refine hC ⟨N,s'.toks+1+1,by rw[g],λb o e=>?_⟩;have n:s'.heap.get? b=ac o:=by rw[g];exact kq b o e
   exact a b o (f e Z.nC) (IF b o (f e Z.nz) (f e Z.nTO) (f e Z.n1) (f e Z.n2) n)
  refine Ig (H _ _ _ t u _ (Cb ex) (Cb ey) B E ((if_neg (qb hne)).trans (if_pos rfl)) (if_pos rfl)) λv s7 q=>?_;refine ue λhC=>?_;obtain ⟨⟨t7,rfl⟩,V⟩:=q;refine hC ?_;have ck:cenv.locals≠z:=cz;have J0:fe N D (se val (xs.take i) (ys.take i)):=x.hD.keeps λo e=>a D o Z.DC (IF D o dz dT d1 d2 e);have hl7:fe s7.heap D (se val (xs.take i) (ys.take i)):=J0.keeps λo e=>V.get e;have ln:(se val (xs.take i) (ys.take i)).length<=2 ^ 24:=by rw[ym,de];exact ka (Lq ..) (ka (yj ..) aS)
  refine append_at hl7 ln λh8 hl8 j=>?_;have d:∀b o,b≠D->N.get? b=ac o->h8.get? b=ac o:=λb o hb e=>j.extBut b o hb (V.get e);refine⟨xs.length-(i+1),Cs _ _ he.1,i+1,he.1,rfl,?_,?_,?_,?_,?_,?_,?_,?_⟩
  ·refine ue λhC=>?_;obtain ⟨hq,T,g,kq⟩:=B.trans' V;refine hC ⟨h8,T,by rw[g],λb o e=>?_⟩;have n:s7.heap.get? b=ac o:=by rw[g];exact kq b o e
   exact j.extBut b o (f e Z.nD) n
  ·exact d _ _ (qb dz) (a _ _ (qb cz) (l _ _ (Na (Ha z3)) z3))
  ·exact d _ _ (qb dI) (a _ _ (qb cI) (IF _ _ Z.ap.TIz Z.ap.TITO Z.ap.TIi1 Z.ap.TIi2 x.ti))
  ·exact⟨_,_,d _ _ (qb dT) (a _ _ (qb cT) (kM _ _ Z.ap.TOz to2))⟩
  ·exact LI.keep it1 λo e=>d _ _ (qb d1) (a _ _ (qb c1) (kM _ _ Z.ap.i1z e))
  ·exact LI.keep it2 λo e=>d _ _ (qb d2) (a _ _ (qb c2) (kM _ _ Z.ap.i2z e))
  ·have e:se val (xs.take (i+1)) (ys.take (i+1))=se val (xs.take i) (ys.take i)++[val (xs.getD i 0) (ys.getD i 0)]:=by
    rw[ZV,ZV,ex,ey,List.zipWith_append (by rw[de,de,Qi (uc he.1),Qi (uc he.2)])];rfl
   rw[e];exact hl8
  ·exact⟨_,(E.keeps λb o e=>V.get e).sameBut j (qb Z.DC)⟩
 ·have G:vs.toArray[i]?=a6\/ws.toArray[i]?=a6:=by
   rw[Pq,Pq];by_cases q:i < xs.length
   ·exact .inr (Si (by rw[L.length];exact ye λr=>he ⟨q,r⟩))
   ·exact .inl (Si (by rw[M.length];exact ye q))
  refine wpAny_pyNext_zip_end hh Z.ap x.hz x.ti hTO x.h1 x.h2 J I G λh' k'=>?_;refine hR {s' with heap:=h'} ?_ ?_ ⟨m,hm.at' λo e=>k' Cc o cz cT c1 c2 e⟩
  ·refine ue λhC=>?_;obtain ⟨hq,T,g,kq⟩:=x.kp;refine hC ⟨h',T,by rw[g],λb o e=>?_⟩;have n:s'.heap.get? b=ac o:=by rw[g];exact kq b o e
   exact k' b o (f e Z.nz) (f e Z.nTO) (f e Z.n1) (f e Z.n2) n
  ·have e:se val (xs.take i) (ys.take i)=se val xs ys:=by
    by_cases q:i < xs.length
    ·have hy:ys.length<=i:=ye λr=>he ⟨q,r⟩;rw[<- AM,Ye (by rw[ym];exact ka (yj ..) hy)]
    ·rw[<- AM,Ye (by rw[ym];exact ka (Lq ..) (ye q))]
   rw[<- e];exact x.hD.keeps λo e=>k' D o dz dT d1 d2 e
end
section
variable{G:Gl}{as:List Ba}
theorem rL(x:St G ν rd σ δ ς K s){y:Ba}{Q:Sd}{D C:ma}{tk:Nat}{J:Ba->Option Value}(n:y∈as)(hk:ν.kindOf y=ac .local)(hD:s.heap.get? D=a6)(hC:s.heap.get? C=a6)(j:D≠C)(hn:h'.Ns C J)(hl:fe h' D ns)
  (E:∀b o,s.heap.get? b=ac o->h'.get? b=ac o):
  wpAny (ja π w) A (Qk (.Name y Q) ν (.ref D)) (λZ Sg=>∃m,Sg.heap.Ns C m/\∀h',Rd C Sg.heap h'->SP G ν rd ((y,.il ns)::σ) δ as ς K {Sg with heap:=h'}) Hc {s with heap:=h',toks:=tk}:=by
 have N:St G ν rd σ δ ς K {s with heap:=h',toks:=tk}:=x.step ⟨h',tk,rfl,E⟩;have ZR:∀b o,s.heap.get? b=ac o->b≠C:=λb o e q=>nomatch ((congrArg s.heap.get? q).symm.trans e).symm.trans hC
 have i:ν.locals≠C:=x.ns.elim λmm hm=>hm.elim λo q=>q.elim λZ q=>q.elim λZ q=>ZR _ _ q.1;have k:∀z c,ν.cells.lookup z=ac c->c≠C:=λz c e=>(x.ce z c e).elim λu q=>q.elim λo q=>ZR _ _ q.1;have h:∀z ns,σ.lookup z=ac (.il ns)->δ z≠C:=λz ns e=>(x.list e).2.elim λvs q=>q.elim λm q=>ZR _ _ q.1;obtain ⟨I,es,ep,t,H,r,B⟩:=id hn;have M:=N.gC t i k h;obtain ⟨vs,m,gD,T⟩:=hl;refine Ob (Ig (M.bind (y:=y) (p:=.il ns) (v:=.ref D) (a:=D) (.inl hk) ⟨D,vs,m,rfl,gD,T⟩ ?_) (λZ f x3=>?_))
 ·exact λns V=>⟨rfl,λZ Z o q=>q.elim (λq=>(nomatch (x.ks D o q).symm.trans hD)) λq=>j q.1,λz ms hz Z e q=>(x.list e).2.elim λws l=>l.elim λY l=>(nomatch ((congrArg s.heap.get? q).trans l.1).symm.trans hD)⟩
 ·have g:=x3.ks C I (.inr ⟨rfl,rfl⟩);refine⟨J,⟨I,es,ep,g,H,r,B⟩,λyC O=>?_⟩
  have L:St G ν rd ((y,.il ns)::σ) (λz=>if z=y then D else δ z) ς K f:=x3.weak (λb o q=>.inl q) x.k0;refine⟨_,λz hz=>if_neg λ(q:z=y)=>hz (q▸n),L.fx (tk:=f.toks) i k (λz ns e=>?_) (λo q=>(nomatch (x.ks C o q).symm.trans hC)) λb o hb e=>O.extBut b o hb e⟩
  show(if z=y then D else δ z)≠C
  refine(Gd e).elim (λd=>?_) λd=>?_
  ·rw[if_pos d.1];exact j
  ·rw[if_neg d.1];exact h z ns d.2
set_option tactic.hygienic true
theorem DH(g:GA N A)(so:uj sc ν)(x:St G ν rd σ δ ς K s){y n1 n2:Ba}{py p1 p2 d zp a h pos:Sd}{kx:Nat}{j B r:Oa}{scope:He}(hps:Zg sc scope=a8)(hx1:scope.names.lookup n1=ac .local)(Y:scope.names.lookup n2=ac .local)(hne:n2≠n1)
  {f:Oa->Option Rs} (S:Kf π w A ν f s) {xs ys:List Int} {c:Prop} (he:kJ f [B,r]=ac ([.il xs,.il ys],c)) (hc:c) (aS:xs.length<=2 ^ 24) (val:Int->Int->Int) (hzk:ν.kindOf "zip"=ac .globalImplicit) (hzg:G.mg "zip"=a6)
  (VP:∀C s' u v,u∈xs->v∈ys->Kp s s'->RE G (Xd scope (jf ν.cells scope.names []) C ν) ((n2,.int v)::(n1,.int u)::freeOf scope σ) s'->
   wpAny (ja π w) A (eval j (Xd scope (jf ν.cells scope.names []) C ν)) (λz Sg=>(∃t,z=.int (val u v) t)/\Kp s' Sg) Hc s')
  (hya:y∈as) (hk:ν.kindOf y=ac .local)
  (hsw:Lf (.ListComp j [⟨.Tuple [.Name n1 p1,.Name n2 p2] kx d,.Call (.Name "zip" zp) [B,r] [] a,[],0⟩] scope h) (ac (.Name y py)) pos.line ν=pure a8):
  wpAny (ja π w) A (Cg (.Assign [.Name y py] (.ListComp j [⟨.Tuple [.Name n1 p1,.Name n2 p2] kx d,.Call (.Name "zip" zp) [B,r] [] a,[],0⟩] scope h) pos) ν)
   (λf s'=>f=.next/\SP G ν rd ((y,.il (se val xs ys))::σ) δ as ς K s') Hc s:=by
 have ps:=xe.of hps;rw[JR _ _ _ _ hsw];refine Kb (Fb (Kb ?_));show wpAny _ A (do let _ <- comprehension (.ListComp j [⟨.Tuple [.Name n1 p1,.Name n2 p2] kx d,.Call (.Name "zip" zp) [B,r] [] a,[],0⟩] scope h) scope ν _ (sM []) be (eval (.Call (.Name "zip" zp) [B,r] [] a) ν) (ac (Qk (.Name y py) ν))) _ _ s
 refine Kb (Ub (Hg (use:=ac (Qk (.Name y py) ν)) (Q:=λ_ s'=>SP G ν rd ((y,.il (se val xs ys))::σ) δ as ς K s') rfl (λ_=>rfl) (qg (bo ps so x.re)) ps.kind ps.locs ?_)
  (λ_ s' hq=>la (la ⟨rfl,hq⟩)) λ_ _ e=>e)
 refine TQ S x.re hzk hzg (v:=.type "zip") (by kernel_rfl) (by decide) (by decide) (.inr ⟨_,rfl⟩) he hc λvs1 s1 O hv=>?_;refine ue λhC=>?_;obtain ⟨u1,u2,rfl,⟨l1,vs,m1,rfl,n,Q0⟩,⟨l2,ws,m2,rfl,m,KU⟩⟩:=qr.two hv;refine hC ?_;refine call_zip_2 (UI n) (UI m) λh2 z2 J I V T sz2 up2=>?_;have M:Kp s1 {s1 with heap:=h2}:=⟨h2,_,rfl,up2⟩;refine sr z2 ?_;refine lr ps.nocell ps.kind (λs' Q E k hq=>sr (k.get z2) hq) λD C s3 H hD hC hDC R0 hn=>?_;have nw:∀i,s1.heap.get? (s1.heap.objs.size+i)=a6:=λi=>Qe (Za _ i);have nw0:s1.heap.get? s1.heap.objs.size=a6:=nw 0;have out:∀{b:ma},h2.get? b=a6->b∉[s1.heap.objs.size+4,s1.heap.objs.size+2,s1.heap.objs.size+3,s1.heap.objs.size,s1.heap.objs.size+1]:=λ{b} hb=>by
  have L:∀{c:ma} {o:Jb},h2.get? c=ac o->b≠c:=λe q=>by rw[<- q,hb] at e;exact nomatch e
  have n1:b≠s1.heap.objs.size:=V.elim λo q=>L q.1;have n2:b≠s1.heap.objs.size+1:=T.elim λo q=>L q.1;intro q;rcases La.mp q with q|q
  ·exact L z2 q
  rcases La.mp q with q|q
  ·exact L J q
  rcases La.mp q with q|q
  ·exact L I q
  rcases La.mp q with q|q
  ·exact n1 q
  ·exact n2 (Ca.mp q)
 have Z:ZN s1 (s1.heap.objs.size+4) (s1.heap.objs.size+2) (s1.heap.objs.size+3) s1.heap.objs.size (s1.heap.objs.size+1) l1 l2 D C:=by
  have a1:=Ha n;have a2:=Ha m;exact⟨⟨by lia,by lia,by lia,by lia,by lia,by lia,by lia,by lia,by lia,by lia,by lia,by lia,by lia,by lia,by lia,by lia,by lia,by lia⟩,nw 4,nw 3,nw0,nw 1,Ab M hD,Ab M hC,out hD,out hC,hDC⟩
 have k13:=M.trans' H;refine PS (ς:=s1) (val:=val) g.hd Z ps.kind (Mf hx1) (Mf Y) rfl hne n Q0 m KU aS (λs' u v t t' mm hu hv' ks l B r=>?_)
  ⟨k13,H.get z2,H.get J,⟨_,_,H.get I⟩,LI.keep V λ_ e=>H.get e,LI.keep T λ_ e=>H.get e,⟨[],0,R0,.nil⟩,⟨_,hn⟩⟩ λs' ks hl l=>?_
 ·refine VP C s' u v hu hv' (O.trans' ks) ?_;exact Rx (τ:=[(n2,.int v),(n1,.int u)]) ps so (x.re.kp (O.trans' ks)) l λz p e=>(Gd e).elim (λq=>q.1.symm▸⟨Y,_,r,q.2▸⟨t',rfl⟩⟩) λq=>have q:=jF q.2;q.1.symm▸⟨hx1,_,B,q.2▸⟨t,rfl⟩⟩
 ·refine l.elim λm' XW=>?_;have hD0:=Ab (O.trans' M) hD;have hC0:=Ab (O.trans' M) hC;refine ue λhF=>?_;obtain ⟨h',tk,rfl,hk'⟩:=O.trans' ks;refine hF ?_;exact rL x hya hk hD0 hC0 hDC XW hl hk'
end
section
variable{G:Gl}{as:List Ba}
theorem IV(g:GA N A)(so:uj sc ν)(F:Ek π w N fn σ s)(x:St G ν rd σ δ ς K s){y:Ba}{r pos:Sd}{b:Oa}{i j:Int}{fr:Bool}{c:Prop}(hl:σ.lookup y=ac (.int i))(B:qc y=be)
  (e:ev G.gv fn n sc σ b=ac ⟨.int j,fr,c⟩) (hc:c) (k:y∈as) (hk:ν.kindOf y=ac .local\/ν.kindOf y=ac .cell):
  wpAny (ja π w) A (Cg (.AugAssign (.Name y r) .Add b pos) ν) (λf s'=>f=.next/\SP G ν rd ((y,.int (i+j))::σ) δ as ς K s') Hc s:=by
 refine(x.look y _ hl).elim λu q=>lS (Ju x.kind q.1 (Eg B).2 ?_)
 refine q.2.1.elim λt C=>?_;refine Ig ((Mk g n sc σ ν s x.re so F).ok b _ s .Pg e hc) (λv d Eb=>?_);refine Eb.val.elim λt' l=>?_;rw[C,l];refine a2n ?_;have o:=(x.step Eb.keeps).step (.tok (d.toks+1):Kp d {d with toks:=d.toks+1});exact Ig (o.bind (y:=y) (p:=.int (i+j)) (a:=0) hk ⟨_,rfl⟩ nofun) (λ_ m h=>⟨rfl,_,λz hz=>if_neg λ(q:z=y)=>hz (q▸k),h⟩)
theorem OE(g:GA N A)(so:uj sc ν)(F:Ek π w N fn σ s)(x:St G ν rd σ δ ς K s){y:Ba}{D E B h p pos:Sd}{j:Nat}{l r:Oa}{op:Jo}{i:Int}{fr:Bool}{c:Prop}
  (e:ev G.gv fn n sc σ (.BinOp l op r h)=ac ⟨.int i,fr,c⟩) (hc:c) (m:ν.kindOf "max"=ac .globalImplicit) (u:G.mg "max"=a6) (k:y∈as) (hk:ν.kindOf y=ac .local\/ν.kindOf y=ac .cell)
  (I:Lf (.Call (.Name "max" E) [.Constant (.int 0) j B,.BinOp l op r h] [] p) (ac (.Name y D)) pos.line ν=pure be):
  wpAny (ja π w) A (Cg (.Assign [.Name y D] (.Call (.Name "max" E) [.Constant (.int 0) j B,.BinOp l op r h] [] p) pos) ν) (λf s'=>f=.next/\SP G ν rd ((y,.int (max 0 i))::σ) δ as ς K s') Hc s:=by
 refine PySem.wpAny_Assign_Name ?_ I;refine Rc ⟨_,_,rfl⟩ (name_buil x.re m u boot_max (by decide) (by decide) ?_);refine md (xs:=[eval (.Constant (.int 0) j B) ν,eval (.BinOp l op r h) ν]) (show 2<=30 by decide) ?_;refine qd ?_;refine Ig ((Mk g n sc σ ν s x.re so F).ok _ _ {s with toks:=s.toks+1} (.tok _) e hc) (λv b Eb=>?_);refine Eb.val.elim λt J=>?_;rw[J];refine Ga (a:=vb) rfl ?_;refine PySem.max_two_ints g.hd λh' tk o=>?_;have H:=((x.step (.tok (s.toks+1))).step Eb.keeps).step (⟨h',tk,rfl,o⟩:Kp b {b with heap:=h',toks:=tk});refine Ig (H.bind (y:=y) (p:=.int (max 0 i)) (a:=0) hk ?_ nofun) (λ_ C d=>⟨rfl,_,λz hz=>if_neg λ(q:z=y)=>hz (q▸k),d⟩);by_cases q:i > 0
 ·rw[if_pos q,Rw (Sk q)];exact⟨_,rfl⟩
 ·rw[if_neg q,Int.max_eq_left (vu.mp q)];exact⟨_,rfl⟩
theorem lz(g:GA N A)(x:St G ν rd σ δ ς K s){y nm:Ba}{H lp j d l I pos:Sd}(hl:σ.lookup nm=ac (.int k))(M:qc nm=be)(hz:k<=2 ^ 24)
  (C:ν.kindOf "list"=ac .globalImplicit) (B:ν.kindOf "range"=ac .globalImplicit) (hgl:G.mg "list"=a6) (D:G.mg "range"=a6) (r:y∈as) (hk:ν.kindOf y=ac .local\/ν.kindOf y=ac .cell)
  (O:Lf (.Call (.Name "list" lp) [.Call (.Name "range" j) [.Name nm d] [] l] [] I) (ac (.Name y H)) pos.line ν=pure be):
  wpAny (ja π w) A (Cg (.Assign [.Name y H] (.Call (.Name "list" lp) [.Call (.Name "range" j) [.Name nm d] [] l] [] I) pos) ν) (λf s'=>f=.next/\SP G ν rd ((y,.il ((Ea k).map Je))::σ) δ as ς K s') Hc s:=by
 refine PySem.wpAny_Assign_Name ?_ O;refine Rc ⟨_,_,rfl⟩ (name_buil x.re C hgl boot_list (by decide) (by decide) ?_);refine md (xs:=[eval (.Call (.Name "range" j) [.Name nm d] [] l) ν]) (show 1<=30 by decide) ?_;refine Rc ⟨_,_,rfl⟩ (name_buil x.re B D (v:=.type "range") (by kernel_rfl) (by decide) (by decide) ?_);refine md (xs:=[eval (.Name nm d) ν]) (show 1<=30 by decide) ?_;refine Ij x.re M hl λv hv=>hv.elim λt ev=>?_;rw[ev];refine Ga (a:=vb) rfl ?_;refine Wj ?_;refine Ga (a:=vb) rfl ?_;have L:Lk 0 (k:Int) 1=a8:=(ni (by decide) ZC.1 ⟨by lia,by lia⟩ ZC.2).1;have rs:Gb 0 (k:Int) 1=(k:Int):=by unfold Gb;simp;lia
 have n:Kp s {s with heap:=s.heap.push {cls:=.type "range",data:=.fields #[.int 0 s.toks,.int k t,.int 1 (s.toks+1)]},toks:=s.toks+1+1}:=⟨_,_,rfl,λ_ _ e=>ea _ e⟩;generalize u:({s with heap:=s.heap.push {cls:=.type "range",data:=.fields #[.int 0 s.toks,.int k t,.int 1 (s.toks+1)]},toks:=s.toks+1+1}:aa)=s1 at n;have hr:Pm s1.heap s.heap.objs.size 0 k 1 s.toks t (s.toks+1):=by rw[<- u];exact qa _ rfl
 refine call_list_range g.hd hr L rs hz λh' tk jh c' kp Q b=>?_;have hI:IntsAre jh.toList ((Ea k).map Je):=zx ⟨b.1.trans (by rw[cb,Ac]),λi v e=>(b.2 i v e).imp λt q=>by
  have hi:i < k:=by rw[<- b.1];exact(Array.getElem?_eq_some_iff.mp e).1
  rw[q,ua,ef,fi hi];show Io (0+(i:Int)*1) t=.int (i:Int) t
  rw[SJ,Rp]⟩
 have J:=(x.step n).step (⟨h',tk,rfl,kp⟩:Kp s1 {s1 with heap:=h',toks:=tk});have hn:s.heap.get? s1.heap.objs.size=a6:=Ab n bc;refine Ig (J.bind (y:=y) (p:=.il ((Ea k).map Je)) (v:=.ref s1.heap.objs.size) (a:=s1.heap.objs.size) hk ⟨_,jh.toList,c',rfl,Q,hI⟩ λns _=>⟨rfl,λ_ _ o q=>(nomatch (x.ks _ o q).symm.trans hn),λz ms _ _ e q=>(x.list e).2.elim λws h=>h.elim λm h=>(nomatch ((congrArg s.heap.get? q).trans h.1).symm.trans hn)⟩)
  (λ_ E c=>⟨rfl,_,λz hz=>if_neg λ(q:z=y)=>hz (q▸r),c⟩)
end
section
variable{G:Gl}{as:List Ba}
theorem EH(g:GA N A)(so:uj sc ν)(F:Ek π w N fn σ s)(x:St G ν rd σ δ ς K s){y v:Ba}{q r b pos:Sd}{a it:Oa}{scope:He}(j:Zg sc scope=a8)(B:scope.names.lookup v=ac .local)
  {xs:List Int} {c:Prop} (hI:fS (Yl sc) (ev G.gv fn n sc σ) it=ac (xs,c)) (hc:c) (m:xs.length<=2 ^ 24) {val:Int->Int}
  (he:∀u,u∈xs->∃fr c,ev G.gv fn n scope.names ((v,.int u)::freeOf scope σ) a=ac ⟨.int (val u),fr,c⟩/\c)
  (d:∀z,Me it ν z=pure z) (l:y∈as) (hk:ν.kindOf y=ac .local)
  (o:Lf (.ListComp a [⟨.Name v r,it,[],0⟩] scope b) (ac (.Name y q)) pos.line ν=pure a8):
  wpAny (ja π w) A (Cg (.Assign [.Name y q] (.ListComp a [⟨.Name v r,it,[],0⟩] scope b) pos) ν) (λf s'=>f=.next/\SP G ν rd ((y,.il (xs.map val))::σ) δ as ς K s') Hc s:=by
 have S:=Mk (π:=π) (w:=w) (fn:=fn) g n sc σ ν s x.re so F;have D:(xs.filter λ_=>a8)=xs:=et.mpr λ_ _=>rfl;have i:=PE (as:=as) (ifs:=[]) g so x j B S hI hc m (λ_=>a8) val (λC s' u t k p=>la ⟨rfl,.Pg⟩) (λC s' u t _ k p=>?_) d l hk o
 ·rw[D] at i;exact i
 ·refine(he u t).elim λ_ e=>e.elim λ_ e=>?_
  exact Ig ((Mk g n scope.names _ _ s' p (Qx (xe.of j)) ((F.kp k).sub)).ok a _ s' .Pg e.1 e.2) λz Sg h=>⟨h.val,h.keeps⟩
end
set_option tactic.hygienic false
def XG(a:Pa)(S:T3)(B:List Ya)(w:sa)(l:ma)(m k:Nat):Prop:=
 mn Rh (Vb Ra) a w 15 ⟨a8,[(l,wb [] 0)],m,[],[.k 0,.k 0,.k 0,.k 0,.k 0,.k 0],[]⟩ k (.top (Ti (.ref l) "append" a8))=ac (⟨a8,[(l,wb [] 0)],m,[⟨.type "builtin_function_or_method",a6,.fields #[.builtin "list.append",.ref l],#[]⟩],[],[(l,l),(l,l),(l,l),(l,l),(l,l),(l,l)]⟩,k+1,.top (.pure (.ref (m+0))))
def xR(c:Pa)(S:T3)(B:List Ya)(w:sa)(b M a:ma)(m k:Nat):Prop:=
 mn Rh (Vb Ra) c w 10 ⟨be,[(b,wb [] 0),(M,⟨.type "builtin_function_or_method",a6,.fields #[.builtin "list.append",.ref b],#[]⟩)],m,[],[.k 1,.k 0,.k 0,.k 0,.k 0,.k 0,.k 0],[]⟩ k (.top (call (.ref M) [.ref a]))=ac (⟨be,[(b,wb [.ref a] 1),(M,⟨.type "builtin_function_or_method",a6,.fields #[.builtin "list.append",.ref b],#[]⟩)],m,[],[],[(b,b),(b,b),(b,b),(b,b),(b,b),(b,b),(M,M)]⟩,k+0,.top (.pure (.none)))
lay_quick Mine.XG Mine.xR
theorem VK(w:sa)(l:ma)(m k:Nat):XG PP (Qd w) Hb w l  m k:=wf (P:=λv=>XG PP (Qd w) Hb v l  m k) w λa=>by
 rw[Fast.te14505196670702038717];unfold Fast.tw14505196670702038717;cases a <;> kernel_rfl
theorem fX{Q:_->aa->Prop}(b:A.handled=a6)(F:Fk w s.heap)(hl:s.heap.get? l=ac (wb [] 0))
  (a:∀h',(∀x o,s.heap.get? x=ac o->h'.get? x=ac o)->h'.get? (s.heap.objs.size+0)=ac (⟨.type "builtin_function_or_method",a6,.fields #[.builtin "list.append",.ref l],#[]⟩)->Q (.ref (s.heap.objs.size+0)) {s with heap:=h',toks:=s.toks+1}):wpAny (ja PP w) A (Ti (.ref l) "append" a8) Q E s:=
 ng b (VK w l  s.heap.objs.size s.toks) [l,l,l,l,l,l] rfl (Ld hl Sl) rfl rfl λh' hk hn=>a h' hk (hn 0 _ rfl rfl)
theorem wR(w:sa)(b M a:ma)(m k:Nat):xR PP (Qd w) Hb w b M a  m k:=wf (P:=λv=>xR PP (Qd w) Hb v b M a  m k) w λc=>by
 rw[Fast.te8064986475531424532];unfold Fast.tw8064986475531424532;cases c <;> kernel_rfl
theorem a5Q{M a:ma}{Q:_->aa->Prop}(d:A.handled=a6)(F:Fk w s.heap)(hb:s.heap.get? b=ac (wb [] 0))(e:s.heap.get? M=ac (⟨.type "builtin_function_or_method",a6,.fields #[.builtin "list.append",.ref b],#[]⟩))(hM:b≠M)
  (c:∀h',(∀x o,x≠b->s.heap.get? x=ac o->h'.get? x=ac o)->h'.get? b=ac (wb [.ref a] 1)->Q (.none) {s with heap:=h',toks:=s.toks+0}):wpAny (ja PP w) A (call (.ref M) [.ref a]) Q E s:=
 xW d (wR w b M a  s.heap.objs.size s.toks) [b,b,b,b,b,b,M] rfl (Ld hb (Ld e Sl)) (Lb.mpr ⟨by simp only[Mb,Om,La,rg,or_false,not_or];exact hM,by simp only[Mb,Om];simp⟩) c
noncomputable def Dm(h:Xb)(a:ma):Xb:=h.update a λZ=>{cls:=.none,data:=.freed}
theorem Nt(hb:b≠a):(Dm h a).get? b=h.get? b:=Ia h _ (qb hb)
theorem qm:(Dm h a).get? a=a6:=by
 delta Dm Heap.update PR;rw[Array.getElem?_modify,if_pos rfl];cases h.objs[a]? <;> rfl
theorem Cm(e:(Dm h a).get? b=ac o):h.get? b=ac o:=by
 by_cases q:b=a
 ·subst q;rw[qm] at e;exact nomatch e
 ·rw[Nt q] at e;exact e
def KL(B:ma->Jb->Prop)(L:List (ma×Jb)):ma->Jb->Prop:=λb o=>B b o\/(b,o)∈L
structure Ap(ν:Al)(a:ma):Prop where
 loc:ν.locals≠a
 cel:∀y c,ν.cells.lookup y=ac c->c≠a
section
variable{G:Gl}{K':ma->Jb->Prop}
theorem St.ap(x:St G ν rd σ δ ς K s)(h:s.heap.get? a=a6):Ap ν a:=by
 refine x.ns.elim λm hm=>?_;refine⟨?_,?_⟩
 ·rintro rfl
  obtain ⟨o,_,_,e,_⟩:=hm;rw[h] at e;exact nomatch e
 ·rintro y c e rfl
  obtain ⟨v,o,b,_⟩:=x.ce y c e;rw[h] at b;exact nomatch b
theorem St.add(x:St G ν rd σ δ ς (KL B L) s)(hl:Zl σ=a8)(ap:Ap ν a)(h:s.heap.get? a=ac o):St G ν rd σ δ ς (KL B ((a,o)::L)) s:=by
 refine{x with k0:=λb ob e=>?_,ks:=?_,nl:=?_,nc:=?_,new:=λy ns e=>(Fg hl e).elim}
 ·exact(x.k0 b ob e).elim .inl λq=>.inr (.tail _ q)
 ·exact λb ob q=>q.elim (λq=>x.ks b ob (.inl q)) λq=>(La.mp q).elim (λe=>by rw[(Ui e).1,(Ui e).2];exact h) λq=>x.ks b ob (.inr q)
 ·exact λob q=>q.elim (λq=>x.nl ob (.inl q)) λq=>(La.mp q).elim (λe=>ap.loc (congrArg gp e)) λq=>x.nl ob (.inr q)
 ·exact λy c d f ob q=>q.elim (λq=>x.nc y c d f ob (.inl q)) λq=>(La.mp q).elim (λe=>ap.cel y c d (congrArg gp e)) λq=>x.nc y c d f ob (.inr q)
theorem St.less(x:St G ν rd σ δ ς (KL B L) s){a:List (ma×Jb)}(h:∀e∈a,e∈L)(h0:∀b o,ς.heap.get? b=ac o->B b o):St G ν rd σ δ ς (KL B a) s:=
 x.weak (λb o q=>q.elim .inl λq=>.inr (h _ q)) λb o e=>.inl (h0 b o e)
theorem DA(x:VR h p v)(n:∀ns,p≠.il ns):VR h' p v:=by
 cases p with
 |il ns=>exact absurd rfl (n ns)
 |_=>exact x
theorem rG(h:Zl σ=a8){x:Ba}(e:σ.lookup x=ac p):∀ns,p≠.il ns:=λns q=>Fg h (q▸e)
end
structure SX(w:sa)(ν:Al)(σ:List (Ba×P))(ς:aa)(B:ma->Jb->Prop)(L:List (ma×Jb))(s:aa):Prop where
 st:St (GW w) ν [] σ (λ_=>0) ς (KL B L) s
 nl:Zl σ=a8
 h0:∀b o,ς.heap.get? b=ac o->B b o
 ap:∀e∈L,Ap ν e.1
 nb:∀e∈L,∀o,¬B e.1 o
 nd:(L.map (·.1)).Nodup
theorem SX.kp(x:SX w ν σ ς B L s):Kp ς s:=x.st.kp
theorem SX.base(x:SX w ν σ ς B L s)(h:B b o):s.heap.get? b=ac o:=x.st.ks b o (.inl h)
theorem SX.get(x:SX w ν σ ς B L s)(i:Nat)(h:L[i]?=ac (b,o)):s.heap.get? b=ac o:=x.st.ks b o (.inr (Cb h))
theorem SX.step(x:SX w ν σ ς B L s)(k:Kp s s'):SX w ν σ ς B L s':={x with st:=x.st.step k}
theorem SX.sub(x:SX w ν σ ς B L s)(h:∀y p,τ.lookup y=ac p->σ.lookup y=ac p)(hn:Zl τ=a8):SX w ν τ ς B L s:={x with st:=x.st.sub h,nl:=hn}
theorem SX.less(x:SX w ν σ ς B L s){a:List (ma×Jb)}(h:a.Sublist L):SX w ν σ ς B a s:=
 {x with st:=x.st.less (λe q=>h.subset q) x.h0,ap:=λe q=>x.ap e (h.subset q),nb:=λe q=>x.nb e (h.subset q),nd:=x.nd.sublist (h.map _)}
theorem SX.new(x:SX w ν σ ς B L s)(h:s.heap.get? a=a6)(k:Kp s s')(b:s'.heap.get? a=ac o):SX w ν σ ς B ((a,o)::L) s':=by
 have ap:=x.st.ap h;have nl:∀e∈L,e.1≠a:=λe he=>dh (x.st.ks e.1 e.2 (.inr he)) h
 exact{st:=(x.st.step k).add x.nl ap b,nl:=x.nl,h0:=x.h0,ap:=Pe.mpr ⟨ap,x.ap⟩,nb:=Pe.mpr ⟨λo' hb=>(nomatch (x.base hb).symm.trans h),x.nb⟩,nd:=by rw[Mb];exact Lb.mpr ⟨λq=>(Ma.mp q).elim λe z=>nl e z.1 z.2,x.nd⟩}
theorem SX.put(x:SX w ν σ ς B L s)(i:Nat){o':Jb}(h:L[i]?=ac (a,o)){tk:Nat}(k:∀b o,b≠a->s.heap.get? b=ac o->h'.get? b=ac o)(u:h'.get? a=ac o'):
  SX w ν σ ς B (L.set i (a,o')) {s with heap:=h',toks:=tk}:=by
 refine(xb.mp h).elim λhi m=>?_
 have hm:(a,o)∈L:=Cb h;have ap:=x.ap _ hm;have c:∀e∈L.set i (a,o'),e=(a,o')\/(e∈L/\e.1≠a):=by
  intro e he;obtain ⟨j,g,rfl⟩:=UH.mp he;rw[OR];rw[ag] at g;by_cases q:i=j
  ·rw[if_pos q];exact .inl rfl
  ·rw[if_neg q];refine .inr ⟨Ll g,λr=>q ?_⟩;have v:j < (L.map (·.1)).length:=by simpa using g
   have f:i < (L.map (·.1)).length:=by simpa using hi
   have l:(L.map (·.1))[i]=(L.map (·.1))[j]:=by
    rw[ki,ki,m];exact r.symm
   exact(ew x.nd).mp l
 have d:(L.set i (a,o')).map (·.1)=L.map (·.1):=by
  have f:i < (L.map (·.1)).length:=by simpa using hi
  have l:(L.map (·.1))[i]=a:=by rw[ki,m]
  rw[ZE]
  show(L.map (·.1)).set i a=_
  have:=yl f;rw[l] at this;exact this
 have p:St (GW w) ν [] σ (λZ=>0) ς (λb ob=>B b ob\/((b,ob)∈L/\b≠a)) s:=x.st.weak (λb ob q=>q.elim .inl λq=>.inr q.1) λb ob e=>.inl (x.h0 b ob e);have n:=p.fx (h':=h') (tk:=tk) ap.loc ap.cel (λy ns e=>(Fg x.nl e).elim) (λob q=>q.elim (x.nb _ hm ob) λq=>q.2 rfl) k;have x3:=n.gC (C:=a) (o:=o') u ap.loc ap.cel (λy ns e=>(Fg x.nl e).elim)
 refine{st:=x3.weak (λb ob q=>?_) λb ob e=>.inl (x.h0 b ob e),nl:=x.nl,h0:=x.h0,ap:=λe q=>?_,nb:=λe q=>?_,nd:=by rw[d];exact x.nd}
 ·rcases q with q|q
  ·exact .inl (.inl q)
  ·rcases c _ q with q|⟨q,t⟩
   ·cases q;exact .inr ⟨rfl,rfl⟩
   ·exact .inl (.inr ⟨q,t⟩)
 ·rcases c _ q with rfl|⟨q,_⟩
  ·exact ap
  ·exact x.ap e q
 ·rcases c _ q with rfl|⟨q,_⟩
  ·exact x.nb (a,o) hm
  ·exact x.nb e q
theorem SX.bind(x:SX w ν σ ς B L s){y:Ba}(hk:ν.kindOf y=ac .local\/ν.kindOf y=ac .cell)(hv:VR s.heap p v)(hp:∀ns,p≠.il ns){Q:Unit->aa->Prop}
  (b:∀s',SX w ν ((y,p)::σ) ς B L s'->Q () s'):wpAny (ja PP w) A (PL ν y v) Q Hc s:=by
 refine Ig (x.st.bind (a:=0) hk hv λns e=>absurd e (hp ns)) (λZ s' h=>b s' {x with st:=?_,nl:=?_})
 ·have e:(λz=>if z=y then 0 else (λZ=>0:Ba->ma) z)=λZ=>0:=by funext z;split <;> rfl
  rw[e] at h;exact h
 ·delta Zl;rw[xo];refine wa.mpr ⟨?_,x.nl⟩;cases p with
  |il ns=>exact absurd rfl (hp ns)
  |_=>rfl
theorem SX.Pt(x:SX w ν σ ς B L s){y:Ba}{r:ma}{pos:Sd}(c:σ.lookup y=ac (.addr r))(b:qc y=be)(d:Q (.ref r) s):wpAny (ja PP w) A (eval (.Name y pos) ν) Q Hc s:=by
 refine ue λhC=>?_;obtain ⟨v,hv,a,_⟩:=x.st.look y _ c;refine hC ?_;have a:v=.ref r:=a;subst a;exact vd x.st.kind hv (Eg b).1 (Eg b).2 d
theorem SX.dF(x:SX w ν σ ς B L s){y:Ba}{i:Int}{pos:Sd}(c:σ.lookup y=ac (.int i))(b:qc y=be)(d:∀t,Q (.int i t) s):wpAny (ja PP w) A (eval (.Name y pos) ν) Q Hc s:=by
 refine ue λhC=>?_;obtain ⟨v,hv,a,_⟩:=x.st.look y _ c;obtain ⟨t,rfl⟩:=a;refine hC ?_;exact vd x.st.kind hv (Eg b).1 (Eg b).2 (d t)
noncomputable abbrev Um(x left og:Int):Jb:={cls:=.type "range_iterator",dict:=a6,data:=.fields #[ee x,ee left,ee og],slots:=#[]}
noncomputable abbrev Q4(a b c:Int)(t u v:xm):Jb:={cls:=.type "range",dict:=a6,data:=.fields #[.int a t,.int b u,.int c v],slots:=#[]}
noncomputable abbrev WS(t:ma)(i:Nat):Jb:={cls:=.type "tuple_iterator",dict:=a6,data:=.fields #[.ref t,.int i 0],slots:=#[]}
section
theorem SX.RZ(x:SX w ν σ ς B ((a,o)::L) s){tk:Nat}(k:∀b o,b≠a->s.heap.get? b=ac o->h'.get? b=ac o):SX w ν σ ς B L {s with heap:=h',toks:=tk}:=by
 have ap:=x.ap (a,o) (va ..);have nd:=x.nd;rw[Mb,Lb] at nd;have c:=x.less (Ci (a,o) L)
 refine{c with st:=c.st.fx (h':=h') (tk:=tk) ap.loc ap.cel (λy ns e=>(Fg x.nl e).elim) (λob q=>q.elim (x.nb (a,o) (va ..) ob) λq=>nd.1 (Ma.mpr ⟨_,q,rfl⟩)) k}
set_option tactic.hygienic true
theorem Jx(t:A.handled=a6){v:Ba}{r:Sd}{body:List Ya}{I:ma}(hv:ν.kindOf v=ac .local\/ν.kindOf v=ac .cell)(a:Nat->List (Ba×P))(d:Nat->List (ma×Jb))
  (m:SX w ν (a 0) ς B ((I,Um 0 n 1)::d 0) s)
  (og:∀(i:Nat) s',i < n->SX w ν ((v,.int i)::a i) ς B ((I,Um ((i:Int)+1) ((n:Int)-i-1) 1)::d i) s'->
   zd (ja PP w) A (Oc body ν) (λf Sg=>f=.next/\SX w ν (a (i+1)) ς B ((I,Um ((i:Int)+1) ((n:Int)-i-1) 1)::d (i+1)) Sg) s') (u:∀s',SX w ν (a n) ς B (d n) s'->R (.ok .next) s'):
  Bi (ja PP w) A (.forLoop (.Name v r) (.ref I) body [] ν) R s:=by
 refine Mn (λk s'=>∃i:Nat,k=n-i/\i<=n/\SX w ν (a i) ς B ((I,Um i ((n:Int)-i) 1)::d i) s') (λ_=>rfl) ?_ n ⟨0,rfl,fc _,by simpa using m⟩
 rintro k s' ⟨i,rfl,hi,x⟩
 have hI:Vc s'.heap I i ((n:Int)-i) 1:=x.get 0 rfl;by_cases c:i < n
 ·refine el hI (yo (jc.mpr c)) λh' g q=>?_;have l:=x.put 0 rfl (o':=Um ((i:Int)+1) ((n:Int)-i-1) 1) (h':=h') (tk:=s'.toks+1) (λb o hb e=>q.extBut b o hb e) g;refine Ob (l.bind (p:=.int i) hv ⟨_,rfl⟩ nofun λs2 j=>?_);refine Od (og i s2 c j) λf y h=>⟨h.1,n-(i+1),Cs _ _ c,i+1,rfl,c,?_⟩;rw[show(n:Int)-((i+1:Nat):Int)=(n:Int)-i-1 from(RJ (n:Int) i 1).symm];exact h.2
 ·have:i=n:=Og hi (yf.mp c);subst this;refine Nl t hI (O5 (N5 _)) λh' he=>u _ ?_;exact x.RZ (tk:=s'.toks) λb o hb e=>he b o hb e
theorem SD(l:A.handled=a6){v:Ba}{j:Sd}{body:List Ya}{I:ma}(hv:ν.kindOf v=ac .local\/ν.kindOf v=ac .cell)(d:SX w ν σ ς B ((I,Um 0 1 1)::L) s)
  (og:∀s',SX w ν ((v,.int 0)::σ) ς B ((I,Um 1 0 1)::L) s'->zd (ja PP w) A (Oc body ν) (λf Sg=>f=.next/\Sg.heap.get? I=ac (Um 1 0 1) /\
   ∀h',(∀b o,b≠I->Sg.heap.get? b=ac o->h'.get? b=ac o)->R (.ok .next) {Sg with heap:=h'}) s'):
  Bi (ja PP w) A (.forLoop (.Name v j) (.ref I) body [] ν) R s:=by
 refine Mn (λk s'=>(k=1/\s'=s)\/(k=0/\s'.heap.get? I=ac (Um 1 0 1)/\∀h',(∀b o,b≠I->s'.heap.get? b=ac o->h'.get? b=ac o)->R (.ok .next) {s' with heap:=h'})) (λ_=>rfl) ?_ 1 (.inl ⟨rfl,rfl⟩)
 rintro k s' (⟨rfl,rfl⟩|⟨rfl,hI,m⟩)
 ·have hI:Vc s'.heap I 0 1 1:=d.get 0 rfl;refine el hI (by decide) λh' a i=>?_;have h:=d.put 0 rfl (o':=Um 1 0 1) (h':=h') (tk:=s'.toks+1) (λb o hb e=>i.extBut b o hb e) a;refine Ob (h.bind (p:=.int 0) hv ⟨_,rfl⟩ nofun λs2 g=>?_);exact Od (og s2 g) λf n c=>⟨c.1,0,LJ,.inr ⟨rfl,c.2.1,c.2.2⟩⟩
 ·refine Nl l hI (by decide) λh' he=>?_;exact m h' λb o hb e=>he b o hb e
theorem RD(r:A.handled=a6){v:Ba}{q:Sd}{body:List Ya}{I t e:ma}{m:Nat}(hv:ν.kindOf v=ac .local\/ν.kindOf v=ac .cell)(c:SX w ν σ ς B ((I,WS t 0)::L) s)
  {ot:Jb} (ht:B t ot) (hot:ot.cls=.type "tuple"/\ot.data=.seq #[.ref e] m)
  (og:∀a s',SX w ν ((v,.addr e)::σ) ς B ((I,a)::L) s'->zd (ja PP w) A (Oc body ν) (λf Sg=>f=.next/\Sg.heap.get? I=ac a/\Sg.heap.get? t=ac ot /\
   ∀h',(∀b o,b≠I->Sg.heap.get? b=ac o->h'.get? b=ac o)->R (.ok .next) {Sg with heap:=h'}) s'):
  Bi (ja PP w) A (.forLoop (.Name v q) (.ref I) body [] ν) R s:=by
 refine Mn (λk s'=>(k=1/\s'=s)\/(k=0/\s'.heap.IsTupleIter I t 1/\s'.heap.get? t=ac ot /\
  ∀h',(∀b o,b≠I->s'.heap.get? b=ac o->h'.get? b=ac o)->R (.ok .next) {s' with heap:=h'})) (λ_=>rfl) ?_ 1 (.inl ⟨rfl,rfl⟩)
 rintro k s' (⟨rfl,rfl⟩|⟨rfl,hI,d,u⟩)
 ·have hI:s'.heap.get? I=ac (WS t 0):=c.get 0 rfl;refine wpAny_pyNext_tuple_item (i:=0) (t:=t) (items:=#[.ref e]) (x:=.ref e) ⟨_,hI,rfl,rfl⟩ ⟨_,c.base ht,hot.1,_,hot.2⟩ rfl λh' g n=>?_;refine ue λhC=>?_;obtain ⟨a,C,z,y⟩:=g;refine hC ?_;have l:=c.put 0 rfl (o':=a) (h':=h') (tk:=s'.toks) (λb o hb e=>n.extBut b o hb e) C;refine Ob (l.bind (p:=.addr e) hv rfl nofun λs2 j=>?_);exact Od (og a s2 j) λf D h=>⟨h.1,0,LJ,.inr ⟨rfl,⟨a,h.2.1,z,y⟩,h.2.2⟩⟩
 ·refine wpAny_pyNext_tuple_end r (i:=1) (t:=t) (items:=#[.ref e]) hI ⟨_,d,hot.1,_,hot.2⟩ rfl λh' he=>?_;exact u h' λb o hb e=>he b o hb e
end
set_option tactic.hygienic false
noncomputable def bE:List Int:=(gq 510 1).map Je
noncomputable def kj:List Int:=(Ea 256).map λa=>Je ((gq 255 1).idxOf a % 255)
noncomputable def Es:List Value->Option (List Int)
 |[]=>ac []
 |.int i _::vs=>match Es vs with
  |some is=>ac (i::is)
  |none=>a6
 |_::_=>a6
set_option tactic.hygienic true in
theorem Sq:∀{vs:List Value} {ns:List Int},Es vs=ac ns->IntsAre vs ns
 |[],ns,e=>by cases e;exact .nil
 |v::vs,ns,e=>by
  cases v with
  |int i t=>
   unfold Es at e;split at e
   ·rename_i is a
    obtain rfl:=xa e;exact .cons i t (Sq a)
   ·cases e
  |_=>cases e
noncomputable def Uo(o:Jb):List Value:=match o.data with
 |.seq xs _=>xs.toList
 |_=>[]
theorem VU(w:sa):Jn w=wb (Uo (Jn w)) 0:=by kernel_rfl
theorem zQ(w:sa):Es (Uo (Jn w))=ac bE:=by kernel_rfl
theorem rU(w:sa):jq w=⟨.type "tuple",a6,.seq (Uo (jq w)).toArray 0,#[]⟩:=by kernel_rfl
theorem dP(w:sa):Es (Uo (jq w))=ac kj:=by kernel_rfl
theorem ZD:bE.length=510:=by kernel_rfl
theorem rq:kj.length=256:=by kernel_rfl
noncomputable abbrev nh(vs:List Value)(n:Nat):Jb:=⟨.type "tuple",a6,.seq vs.toArray n,#[]⟩
theorem Fl(h:k < ns.length):ns[k]?=ac (ns.getD k 0):=by
 rw[Sa h];simp[fw,h]
theorem TC{b a:Oa}{t:ma}{k:Int}(ht:s.heap.get? t=ac (nh vs n))(hi:IntsAre vs ns)(h0:0<=k)(h1:k < ns.length)(h2:ns.length<=2 ^ 24)
  (d:ru a be (.ref t) (.int k u)=Xr [.ref t,.int k u] (Vj (.ref t) (.int k u))) (h:∀u,Q (.int (ns.getD k.toNat 0) u) s):wpAny (ja π w) A (Zv b a (.ref t) (.int k u)) Q Hc s:=by
 refine(IntsAre.get hi k.toNat _ (Fl (by lia))).elim λv hv=>?_
 have c:IsTup s.heap t vs.toArray:=⟨_,ht,rfl,n,rfl⟩;refine tail_any c.typeIs slot_tuple_getitem.lookup (getItem_tuple c (by lia) (by lia) (j:=k.toNat) ?_ (by simpa using hv) (h v)) d;exact seqIndex_of h0 (by have:=hi.length;simp;lia)
theorem uK{b a:Oa}{k:Int}(hl:s.heap.get? l=ac (wb vs n))(hi:IntsAre vs ns)(h0:0<=k)(h1:k < ns.length)(h2:ns.length<=2 ^ 24)
  (c:ru a be (.ref l) (.int k u)=Xr [.ref l,.int k u] (Vj (.ref l) (.int k u))) (h:∀u,Q (.int (ns.getD k.toNat 0) u) s):wpAny (ja π w) A (Zv b a (.ref l) (.int k u)) Q Hc s:=by
 refine tail_any (UI hl).typeIs slot_list_getitem.lookup ?_ c;exact getItem_intsK (UI hl) hi h0 h1 (by lia) λt=>h t
theorem AJ{c b:Oa}{k:Int}(hb:yi s.heap a ns)(d:dj ns)(h0:0<=k)(h1:k < ns.length)(hz:ns.length<=2 ^ 24)
  (e:ru b be (.ref a) (.int k u)=Xr [.ref a,.int k u] (Vj (.ref a) (.int k u))) (h:∀u tk,Q (.int (ns.getD k.toNat 0) u) {s with toks:=tk}):wpAny (ja π w) A (Zv c b (.ref a) (.int k u)) Q Hc s:=
 tail_any (yc hb) Gg.lookup (qR hb d h0 h1 hz h) e
theorem iG(a:Nat):∀b:Nat,(a^^^b)+(a&&&b)=a|||b:=by
 induction a using WV with
 |ind a d=>
  intro b;by_cases c:a=0
  ·subst c;rw[Kc,Nat.zero_and,Nat.zero_or];rfl
  ·have h:(a^^^b) / 2+(a&&&b) / 2=(a|||b) / 2:=by rw[Nat.xor_div_two,Nat.and_div_two,Nat.or_div_two];exact d _ (Nat.div_lt_self (Nat.pos_of_ne_zero c) (by decide)) _
   have y:(a^^^b) % 2 ^ 1+(a&&&b) % 2 ^ 1=(a|||b) % 2 ^ 1:=by
    rw[Nat.xor_mod_two_pow,Nat.and_mod_two_pow,Nat.or_mod_two_pow]
    exact(by decide:∀x,x < 2->∀y,y < 2->(x^^^y)+(x&&&y)=x|||y) _ (Bn a (by decide)) _ (Bn b (by decide))
   exact(congr (congrArg a3i (Gy (a^^^b) 2).symm) (Gy (a&&&b) 2).symm).trans (((Nat.add_add_add_comm ..).trans
    (congr (congrArg a3i ((Nat.mul_add 2 _ _).symm.trans (congrArg (2*·) h))) y)).trans (Gy (a|||b) 2))
theorem xi(a b:Nat):Jc (a:Int) (b:Int)=((a^^^b:Nat):Int):=by
 have h2:∀a:Nat,qk a=zo a:=λa=>(Int.negSucc_eq a).symm▸(Int.neg_add (a:=(a:Int)) (b:=1)).symm;have c:∀a:Nat,qk (zo a)=a:=λa=>by delta qk;rw[Int.neg_negSucc];exact jk (a:Int) 1
 have d:QR (a:Int) (b:Int)=((a|||b:Nat):Int):=by
  delta QR;rw[h2,h2,show Tw (zo a) (zo b)=qk ((((qk (zo a)).toNat|||(qk (zo b)).toNat:Nat):Int)) from rfl,c,c,h2,c];rfl
 delta Jc;rw[d,G5 (Ja a) (Ja b),<- iG a b];exact jk ((a^^^b:Nat):Int) ((a&&&b:Nat):Int)
noncomputable def Zi:List Ya:=(Zf (Wi 18)).2.1
noncomputable def oq:List Ya:=aB (fa Zi 7)
noncomputable def Cj:List Ya:=aB (fa oq 3)
noncomputable def yD:List Ya:=aB (fa Cj 5)
noncomputable def iF:List Ya:=aB (fa yD 1)
noncomputable def xC:List Ya:=aB (fa iF 1)
theorem q9:xC=[.AugAssign (.Subscript (.Name "error_block" (ch (aT (fa xC 0)) 0).pos) (.BinOp (.BinOp (.Name "k" (ch (ch (ch (aT (fa xC 0)) 1) 0) 0).pos) .Add (.Name "n" (ch (ch (ch (aT (fa xC 0)) 1) 0) 1).pos) (ch (ch (aT (fa xC 0)) 1) 0).pos) .Add (.Constant (.int 1) 0 (ch (ch (aT (fa xC 0)) 1) 1).pos) (ch (aT (fa xC 0)) 1).pos) (aT (fa xC 0)).pos) .BitXor
 (.Subscript (.Name "gen_exp" (ch (aV (fa xC 0)) 0).pos) (.BinOp (.Name "lcoef" (ch (ch (aV (fa xC 0)) 1) 0).pos) .Add (.Subscript (.Name "gen" (ch (ch (ch (aV (fa xC 0)) 1) 1) 0).pos) (.Name "n" (ch (ch (ch (aV (fa xC 0)) 1) 1) 1).pos) (ch (ch (aV (fa xC 0)) 1) 1).pos) (ch (aV (fa xC 0)) 1).pos) (aV (fa xC 0)).pos) (aP (fa xC 0))]:=by kernel_rfl
noncomputable def Im(gen:List Int)(k:Nat)(a:Int):Nat->List Int->List Int
 |0,ns=>ns
 |n+1,ns=>(Im gen k a n ns).set (k+n+1) (Jc ((Im gen k a n ns).getD (k+n+1) 0) (bE.getD (a+gen.getD n 0).toNat 0))
noncomputable def Yj(gen:List Int)(a:Nat):Nat->List Int->List Int
 |0,ns=>ns
 |k+1,ns=>if (Yj gen a k ns).getD k 0=0 then Yj gen a k ns else Im gen k (kj.getD ((Yj gen a k ns).getD k 0).toNat 0) a (Yj gen a k ns)
theorem yq(gen:List Int)(k:Nat)(a:Int):∀(n:Nat) (ns:List Int),(Im gen k a n ns).length=ns.length
 |0,_=>rfl
 |n+1,ns=>by unfold Im;rw[ag];exact yq gen k a n ns
theorem Il(gen:List Int)(a:Nat):∀(k:Nat) (ns:List Int),(Yj gen a k ns).length=ns.length
 |0,_=>rfl
 |k+1,ns=>by
  unfold Yj;split
  ·exact Il gen a k ns
  ·rw[yq];exact Il gen a k ns
theorem RB{a b:Int}(c:0<=a/\a < 256)(hb:0<=b/\b < 256):0<=Jc a b/\Jc a b < 256:=by
 obtain ⟨x,rfl⟩:=Ke c.1;obtain ⟨y,rfl⟩:=Ke hb.1;rw[xi];have:=xM (x:=x) (y:=y) (n:=8) (by lia) (by lia);lia
theorem dj.getD(h:dj ns)(k:Nat):0<=ns.getD k 0/\ns.getD k 0 < 256:=by
 refine(Qv k ns.length).elim (λq=>?_) λq=>?_
 ·have:=Fl q;exact h _ (Cb this)
 ·have:ns.getD k 0=0:=by simp[fw,Si q]
  rw[this];decide
theorem uJ(h:(ns.all λn=>decide (0<=n)&&decide (n < 256))=a8):dj ns:=λn hn=>by
 have:=Aa.mp h n hn
 simpa using this
theorem aE:dj bE:=uJ (by kernel_rfl)
theorem gP:dj kj:=uJ (by kernel_rfl)
theorem tU:(kj.all λn=>decide (n < 255))=a8:=by kernel_rfl
theorem Nx(gen:List Int)(k:Nat)(a:Int):∀(n:Nat) (ns:List Int),dj ns->dj (Im gen k a n ns)
 |0,_,h=>h
 |n+1,ns,h=>by
  unfold Im;have b:=Nx gen k a n ns h;have:=RB (b.getD (k+n+1)) (aE.getD (a+gen.getD n 0).toNat);exact b.set _ this.1 this.2
theorem zq(gen:List Int)(a:Nat):∀(k:Nat) (ns:List Int),dj ns->dj (Yj gen a k ns)
 |0,_,h=>h
 |k+1,ns,h=>by
  unfold Yj;split
  ·exact zq gen a k ns h
  ·exact Nx _ _ _ _ _ (zq gen a k ns h)
theorem SX.tail{y:Ba}(x:SX w ν ((y,p)::σ) ς B L s)(h:σ.lookup y=a6):SX w ν σ ς B L s:=by
 refine x.sub (λz q e=>?_) ?_
 ·rw[Ka];cases hz:z==y with
  |true=>
   have:=eq_of_beq hz;subst this;rw[h] at e;exact nomatch e
  |false=>exact e
 ·have:=x.nl;unfold Zl at this;rw[xo,Pd] at this;exact this.2
set_option tactic.hygienic true in
theorem HZ{eb gt:ma}{gvs:List Value}{gn:Nat}{gen:List Int}{c:Int}(x:SX w ν σ ς B L s)(y:L[i]?=ac (eb,Tb (Wa ns)))(G:dj ns)(hz:ns.length<=2 ^ 20)
  (h1:σ.lookup ("error_block":Ba)=ac (.addr eb)) (h2:σ.lookup ("k":Ba)=ac (.int k)) (H:σ.lookup ("n":Ba)=ac (.int n)) (T:σ.lookup ("gen_exp":Ba)=ac (.addr 1890)) (O:σ.lookup ("lcoef":Ba)=ac (.int c)) (N:σ.lookup ("gen":Ba)=ac (.addr gt))
  (b1:B 1890 (Jn w)) (Y:B gt (nh gvs gn)) (hg:IntsAre gvs gen) (hgl:gen.length<=255) (hgb:∀g∈gen,0<=g/\g < 255) (hn:n < gen.length) (hk:k+n+1 < ns.length) (d:0<=c/\c < 255) {Q:Ff->aa->Prop}
  (M:∀s',SX w ν σ ς B (L.set i (eb,Tb (Wa (ns.set (k+n+1) (Jc (ns.getD (k+n+1) 0) (bE.getD (c+gen.getD n 0).toNat 0)))))) s'->Q .next s'):
  wpAny (ja PP w) A (Oc xC ν) Q Hc s:=by
 rw[q9];refine wpAny_execs_cons (wpAny_AugAssign_SubscriptAny ?_);refine x.Pt h1 (by decide) ?_;refine Mg (Mg (x.dF h2 (by decide) λt1=>x.dF H (by decide) λt2=>wM ?_));have x1:=x.step (s':={s with toks:=s.toks+1}) (.tok _);refine qd (wM ?_);generalize r:({s with toks:=_}:aa)=s2;have J:Kp s s2:=r▸.tok _;have D:=x.step J;have t:yi s2.heap eb ns:=D.get i y;have V:((k:Int)+n+1)=((k+n+1:Nat):Int):=rfl;have a:ns.length<=2 ^ 24:=ka hz (by decide);rw[V];refine qR t G (Ja _) (jc.mpr hk) a λu tk=>?_;generalize q:({s2 with toks:=tk}:aa)=l;have x3:=D.step (q▸.tok _:Kp s2 l);refine Mj (x3.Pt T (by decide) (Mg (x3.dF O (by decide) λt3=>Mj (x3.Pt N (by decide) (x3.dF H (by decide) λt4=>?_)))));refine TC (x3.base Y) hg (Ja n) (jc.mpr hn) (ka hgl (by decide)) (Jh (by intros;simp)) λt5=>?_;refine wM ?_;generalize p:({l with toks:=l.toks+1}:aa)=j;have C:=x3.step (p▸.tok _:Kp l j);have f:0<=gen.getD n 0/\gen.getD n 0 < 255:=hgb _ (Cb (Fl hn));have h:=C.base b1;rw[VU w] at h;dsimp only[Bb];refine uK h (Sq (zQ w)) (vA d.1 f.1) (by rw[ZD];exact Af (Int.add_lt_add d.2 f.2) (by decide)) (by rw[ZD];decide) (Jh (by intros;simp)) λt6=>?_;refine ixor_int ?_;generalize m:({j with toks:=j.toks+1}:aa)=E;have z:=C.step (m▸.tok _:Kp j E);have hv:=RB (G.getD (k+n+1)) (aE.getD (c+gen.getD n 0).toNat);refine Q3 (z.get i y) (Ja _) (jc.mpr hk) a hv.1 hv.2 λh' v I=>Ef (M _ ?_);exact z.put (tk:=E.toks) i y (λb o hb e=>I.extBut b o hb e) v
theorem D7(n:Nat):Gb 0 (n:Int) 1=n:=by
 delta Gb;simp only[show(1:Int) > 0 by decide,if_true];split <;> lia
theorem O9:iF=[fa iF 0,fa iF 1]:=by kernel_rfl
theorem N9:fa iF 0=.Assign [.Name "lcoef" (aT (fa iF 0)).pos] (.Subscript (.Name "gen_log" (ch (aV (fa iF 0)) 0).pos) (.Name "coef" (ch (aV (fa iF 0)) 1).pos) (aV (fa iF 0)).pos) (aP (fa iF 0)):=by kernel_rfl
theorem M9:fa iF 1=.For (.Name "n" (aT (fa iF 1)).pos) (.Name "range_error_words" (aV (fa iF 1)).pos) xC [] (aP (fa iF 1)):=by kernel_rfl
theorem w9:yD=[fa yD 0,fa yD 1]:=by kernel_rfl
theorem v9:fa yD 0=.Assign [.Name "coef" (aT (fa yD 0)).pos] (.Subscript (.Name "error_block" (ch (aV (fa yD 0)) 0).pos) (.Name "k" (ch (aV (fa yD 0)) 1).pos) (aV (fa yD 0)).pos) (aP (fa yD 0)):=by kernel_rfl
theorem u9:fa yD 1=.If (.Compare (.Name "coef" (ch (aV (fa yD 1)) 0).pos) [.NotEq] [.Constant (.int 0) 0 (ch (aV (fa yD 1)) 1).pos] (aV (fa yD 1)).pos) iF [] (aP (fa yD 1)):=by kernel_rfl
theorem bh{y:Ba}:((y,p)::σ).lookup y=ac p:=by rw[Ka,beq_self_eq_true]
theorem lj{y z:Ba}{q:P}(e:σ.lookup y=ac p)(h:σ.lookup z=a6):((z,q)::σ).lookup y=ac p:=by
 rw[Ka];cases a:y==z with
 |true=>have:=eq_of_beq a;subst this;rw[h] at e;exact nomatch e
 |false=>exact e
theorem vc{y z:Ba}{q:P}(e:σ.lookup y=a6)(h:(y==z)=be):((z,q)::σ).lookup y=a6:=by
 rw[Ka,h];exact e
theorem Ad{y z:Ba}{q:P}(e:σ.lookup y=ac p)(h:(y==z)=be):((z,q)::σ).lookup y=ac p:=by
 rw[Ka,h];exact e
theorem get_set{o':Jb}(h:L[i]?=ac (a,o)):(L.set i (a,o'))[i]?=ac (a,o'):=by
 rw[Lp (xb.mp h).1]
set_option tactic.hygienic true in
theorem OO(r:A.handled=a6)(h:ν.kindOf "n"=ac NameKind.local){eb gt R:ma}{gvs:List Value}{gn:Nat}{gen:List Int}{a:Int}{v:xm}(x:SX w ν σ ς B L s)(l:L[i]?=ac (eb,Tb (Wa ns)))(q:dj ns)(hz:ns.length<=2 ^ 20)
  (z:(R,Q4 0 gen.length 1 t u v)∈L) (h0:σ.lookup ("range_error_words":Ba)=ac (.addr R)) (c:σ.lookup ("n":Ba)=a6)
  (h1:σ.lookup ("error_block":Ba)=ac (.addr eb)) (h2:σ.lookup ("k":Ba)=ac (.int k)) (G:σ.lookup ("gen_exp":Ba)=ac (.addr 1890)) (E:σ.lookup ("lcoef":Ba)=ac (.int a)) (D:σ.lookup ("gen":Ba)=ac (.addr gt))
  (J:B 1890 (Jn w)) (I:B gt (nh gvs gn)) (hg:IntsAre gvs gen) (hgl:gen.length<=255) (hgb:∀g∈gen,0<=g/\g < 255) (hk:k+gen.length < ns.length) (f:0<=a/\a < 255) {Q:Ff->aa->Prop}
  (C:∀s',SX w ν σ ς B (L.set i (eb,Tb (Wa (Im gen k a gen.length ns)))) s'->Q .next s'):
  zd (ja PP w) A (Cg (fa iF 1) ν) Q s:=by
 rw[M9];have hi:=(xb.mp l).1;refine jr (λ_=>rfl) (x.Pt h0 (by decide) ?_);have j:Pm s.heap R 0 gen.length 1 t u v:=x.st.ks R _ (.inr z);refine Dh j (ni (by decide) (by unfold Sm;lia) (by unfold Sm;lia) (by unfold Sm;lia)).1 ?_;have o:SX w ν σ ς B ((s.heap.objs.size,Um 0 gen.length 1)::L) {s with heap:=s.heap.push (Um 0 gen.length 1)}:=x.new bc (.push _) (qa _ rfl);rw[D7];have H:(L.set i (eb,Tb (Wa (Im gen k a 0 ns))))=L:=by
  delta Im;have:=yl hi;rw[(xb.mp l).2] at this;exact this
 refine Jx (n:=gen.length) r (.inl h) (λ_=>σ) (λn=>L.set i (eb,Tb (Wa (Im gen k a n ns)))) ?_ (λn s2 hn d=>?_) λs2 d=>⟨_,rfl,C s2 d⟩
 ·rw[H];exact o
 have b:∀{y:Ba} {p:P},σ.lookup y=ac p->((("n":Ba),P.int n)::σ).lookup y=ac p:=λe=>lj e c;refine kc (HZ (i:=i+1) (ns:=Im gen k a n ns) (k:=k) (n:=n) d ?_ (Nx _ _ _ _ _ q) (by rw[yq];exact hz) (b h1) (b h2) rfl (b G) (b E) (b D) J I hg hgl hgb hn (by rw[yq];lia) f λM x3=>⟨rfl,?_⟩)
 ·show(L.set i _)[i]?=_
  exact get_set l
 ·have m:=x3.tail c;have e:List.set ((s.heap.objs.size,Um (n+1) ((gen.length:Int)-n-1) 1)::L.set i (eb,Tb (Wa (Im gen k a n ns)))) (i+1) (eb,Tb (Wa ((Im gen k a n ns).set (k+n+1) (Jc ((Im gen k a n ns).getD (k+n+1) 0) (bE.getD (a+gen.getD n 0).toNat 0)))))=
    (s.heap.objs.size,Um (n+1) ((gen.length:Int)-n-1) 1)::L.set i (eb,Tb (Wa (Im gen k a (n+1) ns))):=by
   rw[aM,H4];rfl
  rw[e] at m;exact m
theorem fP{c:Int}(h:0<=c/\c < 256):0<=kj.getD c.toNat 0/\kj.getD c.toNat 0 < 255:=by
 have q:c.toNat < kj.length:=by rw[rq];exact(Aj h.1).mpr h.2
 have hm:=Cb (Fl q);have h1:=Aa.mp tU _ hm;exact⟨(gP _ hm).1,by simpa using h1⟩
set_option tactic.hygienic true in
theorem QO(g:GK N A)(r:ν.kindOf "n"=ac NameKind.local)(C:ν.kindOf "coef"=ac NameKind.local)(z:ν.kindOf "lcoef"=ac NameKind.local){eb gt R:ma}{gvs:List Value}{gn:Nat}{gen:List Int}{v:xm}
  (x:SX w ν ((("k":Ba),P.int k)::σ) ς B L s) (j:L[i]?=ac (eb,Tb (Wa ns))) (m:dj ns) (hz:ns.length<=2 ^ 20)
  (O:(R,Q4 0 gen.length 1 t u v)∈L) (h0:σ.lookup ("range_error_words":Ba)=ac (.addr R)) (c:σ.lookup ("k":Ba)=a6) (n:σ.lookup ("n":Ba)=a6) (d:σ.lookup ("coef":Ba)=a6) (o:σ.lookup ("lcoef":Ba)=a6)
  (h1:σ.lookup ("error_block":Ba)=ac (.addr eb)) (Y:σ.lookup ("gen_exp":Ba)=ac (.addr 1890)) (V:σ.lookup ("gen_log":Ba)=ac (.addr 1888)) (T:σ.lookup ("gen":Ba)=ac (.addr gt))
  (b1:B 1890 (Jn w)) (b3:B 1888 (jq w)) (b2:B gt (nh gvs gn)) (hg:IntsAre gvs gen) (hgl:gen.length<=255) (hgb:∀g∈gen,0<=g/\g < 255) (hk:k+gen.length < ns.length) {Q:Ff->aa->Prop}
  (E:∀s',SX w ν σ ς B (L.set i (eb,Tb (Wa (if ns.getD k 0=0 then ns else Im gen k (kj.getD (ns.getD k 0).toNat 0) gen.length ns)))) s'->Q .next s'):
  zd (ja PP w) A (Oc yD ν) Q s:=by
 have hi:=(xb.mp j).1;have hc:=m.getD k;rw[w9];refine ub (kc ?_);rw[v9];refine PySem.wpAny_Assign_Name ?_ (by kernel_rfl);refine Mj (x.Pt (lj h1 c) (by decide) (x.dF bh (by decide) λt1=>?_));refine AJ (x.get i j) m (by lia) (by lia) (by lia) (Jh (by intros;simp)) λt2 tk=>?_;have M:=x.step (.tok tk);refine M.bind (p:=.int (ns.getD k 0)) (.inl C) ⟨_,rfl⟩ nofun λs2 D=>⟨rfl,?_⟩
 refine ub ?_;rw[u9];have G:∀{y:Ba} {p:P},σ.lookup y=ac p->((("coef":Ba),P.int (ns.getD k 0))::(("k":Ba),P.int k)::σ).lookup y=ac p:=λ{y p} e=>by
  exact lj (lj e c) (vc d (by decide))
 refine xq (b:=decide (ns.getD k 0≠0)) (tf (D.dF bh (by decide) λt3=>qd ?_));refine Ub (Mt (op:=.NotEq) (p:=.int (ns.getD k 0)) (q:=.int 0) rfl ⟨_,rfl⟩ ⟨_,rfl⟩ g.ga.units) (λv s3 h3=>?_) λ_ _ q=>q.elim
 obtain ⟨rfl,rfl⟩:=h3;refine Le ⟨rfl,?_⟩;have x3:=D.step (s':={s2 with toks:=s2.toks+1}) (.tok _);by_cases a:ns.getD k 0=0
 ·rw[if_neg (show¬(decide (ns.getD k 0≠0)=a8) from λq=>of_decide_eq_true q a)];refine Jf ⟨rfl,Jf (E _ ?_)⟩;rw[if_pos a];have:=(x3.tail (vc d (by decide))).tail c;have H:=yl hi;rw[(xb.mp j).2] at H;rw[H];exact this
 ·rw[if_pos (show decide (ns.getD k 0≠0)=a8 from decide_eq_true a)];rw[O9];refine ub (kc ?_);rw[N9];refine PySem.wpAny_Assign_Name ?_ (by kernel_rfl);refine Mj (x3.Pt (G V) (by decide) (x3.dF bh (by decide) λt4=>?_));have h:=x3.base b3;rw[rU w] at h;refine TC h (Sq (dP w)) hc.1 (by rw[rq];exact hc.2) (by rw[rq];decide) (Jh (by intros;simp)) λt5=>?_;refine x3.bind (p:=.int (kj.getD (ns.getD k 0).toNat 0)) (.inl z) ⟨_,rfl⟩ nofun λs4 J=>⟨rfl,?_⟩
  refine ub ?_;have f:∀{q:P},((("coef":Ba),q)::(("k":Ba),P.int k)::σ).lookup ("lcoef":Ba)=a6:=vc (vc o (by decide)) (by decide);have l:∀{y:Ba} {p:P},σ.lookup y=ac p->((("lcoef":Ba),P.int (kj.getD (ns.getD k 0).toNat 0))::(("coef":Ba),P.int (ns.getD k 0))::(("k":Ba),P.int k)::σ).lookup y=ac p:=λe=>lj (G e) f;refine OO (k:=k) (gen:=gen) g.ga.hd r J j m hz O (l h0) (vc (vc (vc n (by decide)) (by decide)) (by decide)) (l h1) ?_ (l Y) bh (l T) b1 b2 hg hgl hgb hk (fP hc) λs5 I=>⟨rfl,Jf ⟨rfl,Jf (E _ ?_)⟩⟩
  ·exact Ad (Ad bh (by decide)) (by decide)
  ·rw[if_neg a]
   exact((I.tail f).tail (vc d (by decide))).tail c
def Ex(b:Pa)(S:T3)(B:List Ya)(w:sa)(a:ma)(bs:Array UInt8)(pl:xc Bool)(m k:Nat):Prop:=
 mn Rh (Vb Ra) b w 5 ⟨a8,[(a,Tb bs)],m,[],[.k 0,.k 0,.k 0,.k 0],[]⟩ k (.top (oj (.ref a) "extend" pl))=ac (⟨a8,[(a,Tb bs)],m,[],[],[(a,a),(a,a),(a,a),(a,a)]⟩,k+0,.top (.pure ((.builtin "bytearray.extend",[.ref a]))))
lay_quick Mine.Ex
theorem ND(w:sa)(a:ma)(bs:Array UInt8)(pl:xc Bool)(m k:Nat):Ex PP (Qd w) Hb w a  bs  pl  m k:=wf (P:=λv=>Ex PP (Qd w) Hb v a  bs  pl  m k) w λb=>by
 rw[Fast.te10611065042303821649];unfold Fast.tw10611065042303821649;cases b <;> kernel_rfl
theorem dJ{bs:Array UInt8}{pl:xc Bool}{Q:_->aa->Prop}(d:A.handled=a6)(F:Fk w s.heap)(b:s.heap.get? a=ac (Tb bs))
  (c:∀h',(∀x o,s.heap.get? x=ac o->h'.get? x=ac o)->Q ((.builtin "bytearray.extend",[.ref a])) {s with heap:=h',toks:=s.toks+0}):wpAny (ja PP w) A (oj (.ref a) "extend" pl) Q E s:=
 ng d (ND w a  bs  pl  s.heap.objs.size s.toks) [a,a,a,a] rfl (Ld b Sl) rfl rfl λh' hk hn=>c h' hk
theorem G9:Cj=[fa Cj 0,fa Cj 1,fa Cj 2,fa Cj 3,fa Cj 4,fa Cj 5,fa Cj 6]:=by kernel_rfl
noncomputable def nM:Oa:=ch (aV (fa Cj 0)) 1
noncomputable def jU:Oa:=gI nM 0
theorem F9:fa Cj 0=.Assign [.Name "block" (aT (fa Cj 0)).pos] (.Call (.Name "bytearray" (ch (aV (fa Cj 0)) 0).pos) [nM] [] (aV (fa Cj 0)).pos) (aP (fa Cj 0)):=by kernel_rfl
theorem t9:nM=.ListComp (.Name "word" (ch nM 0).pos) [⟨.Tuple [.Name "k" (ch (gT nM 0) 0).pos,.Name "word" (ch (gT nM 0) 1).pos] 0 (gT nM 0).pos,jU,[],0⟩] (Hw nM) nM.pos:=by kernel_rfl
theorem p9:jU=.Call (.Name "zip" (ch jU 0).pos) [.Call (.Name "range" (ch (ch jU 1) 0).pos) [.Attribute (.Name "ec_info" (ch (ch (ch jU 1) 1) 0).pos) "num_data" (ch (ch jU 1) 1).pos] [] (ch jU 1).pos,.Name "codewords" (ch jU 2).pos] [] jU.pos:=by kernel_rfl
theorem a4d:∀n:Nat,n+3≠n+1/\n+3≠n+2/\n+3≠n/\n+1≠n+2/\n+1≠n/\n+2≠n:=
 λn=>⟨λe=>absurd (Nm e) (by decide),λe=>absurd (Nm e) (by decide),Td (ui (by decide)),λe=>absurd (Nm e) (by decide),Td (Xc n),Td (ui (by decide))⟩
theorem o8:∀n b:Nat,b < n->b≠n+3/\b≠n+1/\b≠n+2/\b≠n:=
 λn b h=>⟨Na (ya h (Za n 3)),Na (ya h (Za n 1)),Na (ya h (Za n 2)),Na h⟩
theorem WZ{l:List (Ba×Lc)}(h:l.all (λy=>y.2 != .local||l.lookup y.1==ac .local)=a8):∀y∈l,y.2=.local->l.lookup y.1=ac .local:=λy a e=>by
 have:=Aa.mp h y a;rw[e] at this
 simpa using this
theorem SX.move(x:SX w ν σ ς B L s){wr:List ma}(a:∀b∈wr,Ap ν b/\(∀o,¬B b o)/\∀e∈L,e.1≠b)(k:∀b o,b∉wr->s.heap.get? b=ac o->s'.heap.get? b=ac o)(hd:s'.drawn=s.drawn)(f:s'.os=s.os):
  SX w ν σ {ς with gens:=s'.gens} B L s':=by
 refine x.st.ns.elim λm hm=>?_;have h:ν.locals∉wr:=λq=>(a _ q).1.loc rfl;have hC:∀y c,ν.cells.lookup y=ac c->c∉wr:=λy c e q=>(a _ q).1.cel y c e rfl
 refine{x with st:={x.st with sh:=?_,ks:=?_,ns:=⟨m,hm.at' λo e=>k _ o h e⟩,ce:=λy c e=>?_,look:=λy p e=>?_}}
 ·obtain ⟨h0,u,rfl⟩:=x.st.sh;obtain ⟨h',z,d',t',o'⟩:=s';have hd:d'=_:=hd;have f:o'=_:=f;subst hd f;exact⟨h',t',rfl⟩
 ·rintro b o (q|q)
  ·exact k b o (λhb=>(a b hb).2.1 o q) (x.base q)
  ·exact k b o (λhb=>(a b hb).2.2 _ q rfl) (x.st.ks b o (.inr q))
 ·obtain ⟨v,o',d,d'⟩:=x.st.ce y c e;exact⟨v,o',k c o' (hC y c e) d,d'⟩
 ·obtain ⟨v,t,r,n⟩:=x.st.look y p e;refine⟨v,?_,DA r (rG x.nl e),n⟩
  rcases t with ⟨g,i,n',d⟩|⟨g,c,d,o',j,l⟩
  ·exact .inl ⟨g,i,n'.at' λo e=>k _ o h e,d⟩
  ·exact .inr ⟨g,c,d,o',k c o' (hC y c d) j,l⟩
set_option tactic.hygienic true in
theorem UO(g:GK (N+9) A)(F:Fk w s.heap)(hsc:ν.scope=(fdOf (Zh w)).scope){C I ec ed:ma}{gi room:Nat}{ex:List ma}{f:Nat->Int}{oa M J:Jb}{ib:Int}{ta tb tc:Nat}
  (x:SX w ν σ ς B ((a,oa)::(C,M)::(I,J)::L) s) (cS:∀b∈ex,∃o,s.heap.get? b=ac o)
  (h1:σ.lookup ("ec_info":Ba)=ac (.addr ec)) (h2:σ.lookup ("codewords":Ba)=ac (.addr a)) (he:s.heap.get? ec=ac (xn ed 1 ib room ta tb tc)) (hed:s.heap.get? ed=ac (Va [] 0))
  (hg:Zs w A.in1 a gi C I ex n (NG f) 0 s) (hn:room<=n) (hr:room<=200) (hf:∀i,i < room->0<=f i/\f i < 256) {Q:Ff->aa->Prop}
  (hQ:∀bk s',fg gi s.gens s'.gens->SX w ν ((("block":Ba),P.addr bk)::σ) {ς with gens:=s'.gens} B ((bk,Tb (Wa ((Ea room).map f)))::L) s'->Q .next s'):
  zd (ja PP w) A (Cg (fa Cj 0) ν) Q s:=by
 have z:∀x,ν.kindOf x=(fdOf (Zh w)).scope.names.lookup x:=λx=>by unfold Md;rw[hsc]
 have r:=x.st.re;rw[F9];refine yk (by kernel_rfl) ?_;refine vi (name_buil r ((z _).trans (by kernel_rfl)) (oe w (by decide)) (v:=.type "bytearray") (by kernel_rfl) (by decide) (by decide) ?_);refine Bd (xs:=[eval nM ν]) (show 1<=30 by decide) ?_;have hh:=g.ga.hd;have l:A.in1.depth < xf:=((g.mono (by lia:1<=N+9)).in1).ga.room;have k:∀b∈a::C::I::(Lh++ex),∃o,s.heap.get? b=ac o:=by
  exact Ld ⟨_,x.get 0 rfl⟩ (Ld ⟨_,x.get 1 rfl⟩ (Ld ⟨_,x.get 2 rfl⟩ (acA (um F) cS)))
 have c:Of∈Lh++ex:=qe _ LF;refine kc ?_;rw[t9];refine JM (cl:=[]) (a:=a) (g:=gi) (C:=C) (fp:=I::(Lh++ex)) (wr:=[I]) (m:=room) (n:=n) (f:=f) hh l (Xq (by kernel_rfl)) (by kernel_rfl) (WZ (by kernel_rfl)) ?_ (by kernel_rfl) (by kernel_rfl) (λ_=>rfl) hn (by lia) ?_ ?_
 ·rw[qg (scope:=Hw nM) (ν:=ν) ?_]
  ·kernel_rfl
  ·intro y hy hfr;have:(Hw nM).names.all (λy=>y.2 != .free)=a8:=by kernel_rfl
   have q:=Aa.mp this y hy;rw[hfr] at q;cases q
 ·rw[p9];refine Rc ⟨_,_,rfl⟩ (name_buil r ((z _).trans (by kernel_rfl)) (oe w (by decide)) (v:=.type "zip") (by kernel_rfl) (by decide) (by decide) ?_);refine md (xs:=[eval (.Call _ _ [] _) ν,eval (.Name _ _) ν]) (show 2<=30 by decide) ?_;refine Rc ⟨_,_,rfl⟩ (name_buil r ((z _).trans (by kernel_rfl)) (oe w (.tail _ (.head _))) (v:=.type "range") (by kernel_rfl) (by decide) (by decide) ?_);refine md (xs:=[eval (.Attribute _ _ _) ν]) (show 1<=30 by decide) ?_;refine ig (x.Pt h1 (by decide) (oJ (N:=N) (g.ga.mono (by lia)) F he hed λs1 t1 k1=>?_));refine Ga (a:=vb) rfl ?_;refine Wj ?_;generalize t:({s1 with heap:=s1.heap.push _,toks:=s1.toks+1+1}:aa)=s2;have k2:Kp s1 s2:=t▸⟨_,_,rfl,λ_ _ e=>ea _ e⟩;have d:=k1.trans' k2;have V:Pm s2.heap s1.heap.objs.size 0 room 1 s1.toks t1 (s1.toks+1):=t▸qa _ rfl
  refine(x.step d).Pt h2 (by decide) ?_
  refine Ga (a:=vb) rfl ?_;have u:wu PP w A.in1 a gi C (I::(Lh++ex)) [I] (λ_=>a8) n (NG f) 0 s2:=by
   refine bj hg.gen (pa _ c) ?_ λb hb o e=>d.get e;refine ue λhC=>?_;obtain ⟨_,_,e,_⟩:=d;refine hC ?_;rw[e]
  refine iE V (ni (by decide) (by unfold Sm;lia) (by unfold Sm;lia) (by unfold Sm;lia)).1 u.1 λh' z1 z2 z3 G z5 E=>?_;have k3:Kp s2 {s2 with heap:=h'}:=⟨h',s2.toks,rfl,E⟩;have O:∀b∈a::C::I::(Lh++ex),b < s2.heap.objs.size:=λb hb=>by
   refine(k b hb).elim λo e=>?_
   exact Ha (d.get e)
  have fr:∀b,s2.heap.objs.size<=b->s.heap.get? b=a6:=λb hb=>Ab d (Qe hb);refine⟨s2.heap.objs.size+3,s2.heap.objs.size+1,s2.heap.objs.size+2,s2.heap.objs.size,rfl,d.trans' k3,⟨a4d _,λb hb=>o8 _ _ (O b hb),hg.aC,hg.af,λb hb=>by rw[Ca.mp hb];exact va ..,pa _ c,λq=>hg.Cf (q▸pa _ c),λq=>hg.If (Ca.mp q▸c)⟩,⟨z1,z2,⟨_,_,z3⟩,?_,?_⟩,?_,fr _ (by lia),fr _ (by lia),fr _ (by lia)⟩
  ·rw[D7] at G;show Vc h' s2.heap.objs.size ((0:Nat):Int) ((room:Int)-((0:Nat):Int)) 1
   simpa using G
  ·exact bj u (pa _ c) rfl λb hb o e=>E b o e
  ·exact Ld ⟨_,z1⟩ (Ld ⟨_,z2⟩ (Ld ⟨_,z3⟩ (Ld ⟨_,G⟩ λb hb=>(k b hb).imp λo e=>E b o (d.get e))))
 ·intro D H hD hl hk3 hgs hdr Y;show wpAny _ _ (Lj (.type "bytearray")) _ _ _
  refine Ga (a:=vb) rfl ?_;refine ue λhC=>?_;obtain ⟨vs,m,K0,hi⟩:=hl;refine hC ?_;refine Xx (T:="list") g.gd K0 rfl rfl (.inl rfl) hi ?_ ?_ λbk s4 k4 hbn hb4=>?_
  ·intro v hv;refine ue λhC=>?_;obtain ⟨i,hi,rfl⟩:=Ma.mp hv;refine hC ?_;exact hf i (zc.mp hi)
  ·rw[cb,Ac];simp only[mc];lia
  have x1:SX w ν σ ς B L s:=x.less (by exact(Ci _ _).trans ((Ci _ _).trans (Ci _ _)));have nd:=x.nd;have d2:=Lb.mp (Lb.mp nd).2;have d3:=Lb.mp d2.2;have xO:∀{b:ma},b∉L.map (·.1)->∀e∈L,e.1≠b:=λh e he q=>h (q▸ze he);have x2:SX w ν σ {ς with gens:=H.gens} B L H:=x1.move (wr:=[C,I]) (Ld ⟨x.ap (C,M) (.tail _ (.head _)),x.nb (C,M) (.tail _ (.head _)),xO (WR d2.1).2⟩ (Ld ⟨x.ap (I,J) (.tail _ (.tail _ (.head _))),x.nb (I,J) (.tail _ (.tail _ (.head _))),xO d3.1⟩ Sl)) hk3 hdr Y
  refine(x2.new hbn k4 hb4).bind (p:=.addr bk) (.inl ((z _).trans (by kernel_rfl))) rfl nofun λs5 x5=>?_
  have j:s5.gens=H.gens:=x5.st.sh.elim λ_ q=>q.elim λ_ e=>by rw[e]
  refine hQ bk s5 (by rw[j];exact hgs) ?_;rw[j];exact x5
theorem E9:fa Cj 1=.Expr (.Call (.Name "append_data_block" (ch (aV (fa Cj 1)) 0).pos) [.Name "block" (ch (aV (fa Cj 1)) 1).pos] [] (aV (fa Cj 1)).pos) (aP (fa Cj 1)):=by kernel_rfl
theorem D9:fa Cj 2=.Assign [.Name "len_data" (aT (fa Cj 2)).pos] (.Call (.Name "len" (ch (aV (fa Cj 2)) 0).pos) [.Name "block" (ch (aV (fa Cj 2)) 1).pos] [] (aV (fa Cj 2)).pos) (aP (fa Cj 2)):=by kernel_rfl
theorem C9:fa Cj 3=.Assign [.Name "error_block" (aT (fa Cj 3)).pos] (.Call (.Name "bytearray" (ch (aV (fa Cj 3)) 0).pos) [.Name "block" (ch (aV (fa Cj 3)) 1).pos] [] (aV (fa Cj 3)).pos) (aP (fa Cj 3)):=by kernel_rfl
theorem B9:fa Cj 4=.Expr (.Call (.Attribute (.Name "error_block" (ch (ch (aV (fa Cj 4)) 0) 0).pos) "extend" (ch (aV (fa Cj 4)) 0).pos) [.BinOp (.List [.Constant (.int 0) 0 (ch (ch (ch (aV (fa Cj 4)) 1) 0) 0).pos] (ch (ch (aV (fa Cj 4)) 1) 0).pos) .Mult (.Name "num_error_words" (ch (ch (aV (fa Cj 4)) 1) 1).pos) (ch (aV (fa Cj 4)) 1).pos] [] (aV (fa Cj 4)).pos) (aP (fa Cj 4)):=by kernel_rfl
theorem A9:fa Cj 5=.For (.Name "k" (aT (fa Cj 5)).pos) (.Call (.Name "range" (ch (aV (fa Cj 5)) 0).pos) [.Name "len_data" (ch (aV (fa Cj 5)) 1).pos] [] (aV (fa Cj 5)).pos) yD [] (aP (fa Cj 5)):=by kernel_rfl
theorem z9:fa Cj 6=.Expr (.Call (.Name "append_error_block" (ch (aV (fa Cj 6)) 0).pos) [.Subscript (.Name "error_block" (ch (ch (aV (fa Cj 6)) 1) 0).pos) (.Slice (ac (.Name "len_data" (ch (ch (ch (aV (fa Cj 6)) 1) 1) 0).pos)) a6 a6 (ch (ch (aV (fa Cj 6)) 1) 1).pos) (ch (aV (fa Cj 6)) 1).pos] [] (aV (fa Cj 6)).pos) (aP (fa Cj 6)):=by kernel_rfl
theorem a3S(n:Nat):(Qa ((n:Int)).toNat [(0:Int)]).flatten=Qa n 0:=by simp
noncomputable abbrev Iq(D:ma):Jb:=⟨.type "builtin_function_or_method",a6,.fields #[.builtin "list.append",.ref D],#[]⟩
section
theorem SX.ne(x:SX w ν σ ς B L s){j:Nat}{o':Jb}(hi:L[i]?=ac (a,o))(c:L[j]?=ac (b,o'))(h:i≠j):a≠b:=by
 refine(xb.mp hi).elim λh1 k=>?_
 refine(xb.mp c).elim λh2 g=>?_
 intro q;have f:i < (L.map (·.1)).length:=by simpa using h1
 have d:j < (L.map (·.1)).length:=by simpa using h2
 have e:(L.map (·.1))[i]=(L.map (·.1))[j]:=by
  rw[ki,ki,k,g];exact q
 exact h ((ew x.nd).mp e)
theorem SX.fk(x:SX w ν σ ς B L s)(F:Fk w ς.heap):Fk w s.heap:=F.kp x.kp
set_option tactic.hygienic true
theorem yz(g:GK N A)(F:Fk w ς.heap){nm:Ba}{y p f:Sd}{e:Oa}{M D:ma}{j:Nat}(x:SX w ν σ ς B L s)(h:σ.lookup nm=ac (.addr M))(z:qc nm=be)
  (hi:Nf ν=be) (C:Lf (.Call (.Name nm y) [e] [] p) a6 f.line ν=pure be) (r:Eh p (mf [e] ν)=[eval e ν].map λx=>(be,x)) {Q:Ff->aa->Prop}
  (m:wpAny (ja PP w) A (eval e ν) (λv d=>∃bk b,v=.ref bk/\SX w ν σ ς B b d/\b[i]?=ac (D,wb [] 0)/\b[j]?=ac (M,Iq D) /\
   ∀c,SX w ν σ ς B (b.set i (D,wb [.ref bk] 1)) c->Q .next c) Hc s):
  zd (ja PP w) A (Cg (.Expr (.Call (.Name nm y) [e] [] p) f) ν) Q s:=by
 refine cj hi C ?_;refine vi (x.Pt h z ?_);show zd _ _ (Ak _ _ _ (Eh _ _) _) _ _
 rw[r];refine Bd (xs:=[eval e ν]) (show 1<=30 by decide) ?_;refine kc (Ub m (λv d Eb=>?_) λ_ _ q=>q.elim);refine ue λhC=>?_;obtain ⟨bk,b,rfl,l,hD,hM,E⟩:=Eb;refine hC ?_;have t:i≠j:=by
  rintro rfl
  rw[hD] at hM;have:=congrArg (λo:Option (ma×Jb)=>o.map λq=>q.2.cls) hM;simp at this
 have n:=l.get j hM;refine Kb (Jj n ?_);refine Ga (a:=vb) rfl ?_;refine kc (a5Q g.ga.hd (l.fk F) (l.get i hD) n (l.ne hD hM t) λh' k u=>⟨(λa q=>(by cases q)),?_⟩);exact E _ (l.put i hD k u)
theorem GZ(hsc:ν.scope=(fdOf (Zh w)).scope){bk:ma}(x:SX w ν σ ς B L s)(h:σ.lookup ("block":Ba)=ac (.addr bk))(e:L[i]?=ac (bk,Tb (Wa ns)))(hz:ns.length<=2 ^ 20){Q:Ff->aa->Prop}
  (d:∀s',SX w ν ((("len_data":Ba),P.int ns.length)::σ) ς B L s'->Q .next s'):zd (ja PP w) A (Cg (fa Cj 2) ν) Q s:=by
 have b:∀x,ν.kindOf x=(fdOf (Zh w)).scope.names.lookup x:=λx=>by unfold Md;rw[hsc]
 rw[D9];refine kc (PySem.wpAny_Assign_Name ?_ (by kernel_rfl));refine Rc ⟨_,_,rfl⟩ (name_buil x.st.re ((b _).trans (by kernel_rfl)) (oe w (va ..)) (v:=.builtin "len") (by kernel_rfl) (by decide) (by decide) ?_);refine md (xs:=[eval (.Name _ _) ν]) (show 1<=30 by decide) ?_;refine x.Pt h (by decide) ?_;refine Ga (a:=vb) rfl ?_;refine Tu (x.get i e) (by lia) λu tk=>?_
 exact(x.step (.tok tk)).bind (p:=.int ns.length) (.inl ((b _).trans (by kernel_rfl))) ⟨_,rfl⟩ nofun λs2 c=>d s2 c
theorem hU(g:GK N A)(hsc:ν.scope=(fdOf (Zh w)).scope){bk:ma}(x:SX w ν σ ς B L s)(h:σ.lookup ("block":Ba)=ac (.addr bk))(f:L[i]?=ac (bk,Tb (Wa ns)))(hz:ns.length<=2 ^ 20){Q:Ff->aa->Prop}
  (e:∀eb s',SX w ν ((("error_block":Ba),P.addr eb)::σ) ς B ((eb,Tb (Wa ns))::L) s'->Q .next s'):zd (ja PP w) A (Cg (fa Cj 3) ν) Q s:=by
 have b:∀x,ν.kindOf x=(fdOf (Zh w)).scope.names.lookup x:=λx=>by unfold Md;rw[hsc]
 rw[C9];refine yk (by kernel_rfl) ?_;refine vi (name_buil x.st.re ((b _).trans (by kernel_rfl)) (oe w (by decide)) (v:=.type "bytearray") (by kernel_rfl) (by decide) (by decide) ?_);refine Bd (xs:=[eval (.Name "block" (ch (aV (fa Cj 3)) 1).pos) ν]) (show 1<=30 by decide) ?_;refine kc (x.Pt h (by decide) ?_);show wpAny _ _ (Lj (.type "bytearray")) _ _ _
 refine Ga (a:=vb) rfl ?_;refine Yx g.gd (x.get i f) (by rw[Ae];simp only[mc];lia) λeb s2 d hn h2=>?_
 exact(x.new hn d h2).bind (p:=.addr eb) (.inl ((b _).trans (by kernel_rfl))) rfl nofun λc x3=>e eb c x3
theorem oK(g:GK N A){eb:ma}{b:Nat}(x:SX w ν σ ς B L s)(h:σ.lookup ("error_block":Ba)=ac (.addr eb))(h2:σ.lookup ("num_error_words":Ba)=ac (.int b))(u:b<=255)
  (hi:Nf ν=be) (F:Fk w ς.heap) (c:L[i]?=ac (eb,Tb (Wa ns))) (hz:ns.length<=2 ^ 20) {Q:Ff->aa->Prop}
  (y:∀s',SX w ν σ ς B (L.set i (eb,Tb (Wa (ns++Qa b 0)))) s'->Q .next s'):zd (ja PP w) A (Cg (fa Cj 4) ν) Q s:=by
 rw[B9];refine cj hi (by kernel_rfl) ?_;refine Zk rfl (by kernel_rfl) (by kernel_rfl) ?_;refine kc (x.Pt h (by decide) ?_);refine dJ g.ga.hd (x.fk F) (x.get i c) λh' k=>?_;have j:=x.step (mu 0 k);refine Bd (xs:=[eval (.BinOp _ _ _ _) ν]) (show 1<=30 by decide) ?_;refine kc (Mg (Vr ?_));refine Gf (xs:=[eval (.Constant (.int 0) 0 (ch (ch (ch (aV (fa Cj 4)) 1) 0) 0).pos) ν]) ?_;refine qd ⟨(show 1<=mc by decide),?_⟩;have hc:=Pf.list (s:={s with heap:=h',toks:=s.toks+0+1}) (vs:=[.int 0 (s.toks+0)]) (ns:=[0]) (.cons 0 _ .nil) #[.int 0 (s.toks+0)] rfl;have r:Kp {s with heap:=h',toks:=s.toks+0} _:=(Kp.tok (s.toks+0+1)).trans' hc.keeps;have d:=j.step r;refine d.dF h2 (by decide) λt=>?_;refine Ub (jD (op:=.Mult) (p:=.il [0]) (q:=.int b) rfl ⟨by lia,by lia,by simp;lia⟩ hc.val ⟨_,rfl⟩) (λv D f=>?_) λ_ _ q=>q.elim
 refine ue λhC=>?_;obtain ⟨l,vs,m,rfl,hl,hI⟩:=f.val;refine hC ?_;have x3:=d.step f.keeps;have hI:IntsAre vs (Qa b 0):=by
  rw[<- a3S b];exact hI
 show wpAny _ _ (Lj (.builtin "bytearray.extend")) _ _ _
 refine Ga (a:=vb) rfl ?_;show zd _ _ (call (.builtin "bytearray.extend") [.ref eb,.ref l]) _ _
 refine Cv g.ga.hd g.gd (x3.get i c) hl hI (λn hn=>by rw[(Di.mp hn).2];decide) (by rw[Ae,Zd];simp only[mc];lia) λC hm e=>?_;rw[Dq] at e;refine ue λhC=>?_;obtain ⟨E,z,rfl,o⟩:=hm;refine hC ?_;exact⟨(λa q=>(by cases q)),y _ (x3.put i c o e)⟩
end
section
set_option tactic.hygienic false
theorem aD{e:ma×Jb}(h:L[i]?=ac e):L.set i e=L:=by
 obtain ⟨hi,rfl⟩:=xb.mp h;exact yl hi
theorem X3(h:n<=2 ^ 20):Sm n:=⟨Af (by decide) (Ja n),kh (Xf.mpr h) (by decide)⟩
set_option tactic.hygienic true
theorem RO(g:GK N A)(hsc:ν.scope=(fdOf (Zh w)).scope){eb gt R:ma}{gvs:List Value}{gn:Nat}{gen:List Int}{room:Nat}{v:xm}
  (x:SX w ν σ ς B L s) (z:L[i]?=ac (eb,Tb (Wa ns))) (J:dj ns) (hz:ns.length<=2 ^ 20) (T:σ.lookup ("len_data":Ba)=ac (.int room))
  (M:(R,Q4 0 gen.length 1 t u v)∈L) (h0:σ.lookup ("range_error_words":Ba)=ac (.addr R)) (l:σ.lookup ("k":Ba)=a6) (f:σ.lookup ("n":Ba)=a6) (m:σ.lookup ("coef":Ba)=a6) (h:σ.lookup ("lcoef":Ba)=a6)
  (h1:σ.lookup ("error_block":Ba)=ac (.addr eb)) (h4:σ.lookup ("gen_exp":Ba)=ac (.addr 1890)) (Y:σ.lookup ("gen_log":Ba)=ac (.addr 1888)) (V:σ.lookup ("gen":Ba)=ac (.addr gt))
  (b1:B 1890 (Jn w)) (b3:B 1888 (jq w)) (b2:B gt (nh gvs gn)) (hg:IntsAre gvs gen) (hgl:gen.length<=255) (hgb:∀g∈gen,0<=g/\g < 255) (hk:room+gen.length=ns.length) {Q:Ff->aa->Prop}
  (O:∀s',SX w ν σ ς B (L.set i (eb,Tb (Wa (Yj gen gen.length room ns)))) s'->Q .next s'):
  zd (ja PP w) A (Cg (fa Cj 5) ν) Q s:=by
 have c:∀x,ν.kindOf x=(fdOf (Zh w)).scope.names.lookup x:=λx=>by unfold Md;rw[hsc]
 rw[A9];refine jr (λ_=>rfl) ?_;refine Rc ⟨_,_,rfl⟩ (name_buil x.st.re ((c _).trans (by kernel_rfl)) (oe w (.tail _ (.head _))) (v:=.type "range") (by kernel_rfl) (by decide) (by decide) ?_);refine md (xs:=[eval (.Name _ _) ν]) (show 1<=30 by decide) ?_;refine x.dF T (by decide) λH=>?_;refine Ga (a:=vb) rfl ?_;refine Wj ?_;generalize b:({s with heap:=s.heap.push _,toks:=s.toks+1+1}:aa)=s1;have I:Kp s s1:=b▸⟨_,_,rfl,λ_ _ e=>ea _ e⟩;have d:Pm s1.heap s.heap.objs.size 0 room 1 s.toks H (s.toks+1):=b▸qa _ rfl;have G:=x.step I;refine Dh d (ni (by decide) ⟨by decide,by decide⟩ (X3 (ka (Nat.le.intro hk) hz)) ⟨by decide,by decide⟩).1 ?_;have E:SX w ν σ ς B ((s1.heap.objs.size,Um 0 room 1)::L) {s1 with heap:=s1.heap.push (Um 0 room 1)}:=G.new bc (.push _) (qa _ rfl);rw[D7];refine Jx (n:=room) g.ga.hd (.inl ((c _).trans (by kernel_rfl))) (λ_=>σ) (λk=>L.set i (eb,Tb (Wa (Yj gen gen.length k ns)))) ?_ (λk D p x3=>?_) λD x3=>⟨_,rfl,O D x3⟩
 ·have:L.set i (eb,Tb (Wa (Yj gen gen.length 0 ns)))=L:=aD z;rw[this];exact E
 ·refine QO (t:=t) (u:=u) (v:=v) (i:=i+1) (ns:=Yj gen gen.length k ns) (k:=k) (gen:=gen) (R:=R) g ((c _).trans (by kernel_rfl)) ((c _).trans (by kernel_rfl)) ((c _).trans (by kernel_rfl)) x3 ?_ (zq _ _ _ _ J) (by rw[Il];exact hz) ?_ h0 l f m h h1 h4 Y V b1 b3 b2 hg hgl hgb (by rw[Il,<- hk];exact OJ p _) λs4 C=>⟨rfl,?_⟩
  ·show(L.set i _)[i]?=_
   exact get_set (o:=Tb (Wa ns)) z
  ·refine pa _ ?_
   refine(List.getElem?_of_mem M).elim λj r=>?_
   have y:i≠j:=by
    rintro rfl
    rw[z] at r;have:=congrArg (λo:Option (ma×Jb)=>o.map λq=>q.2.cls) r;simp[Tb] at this
   refine Cb (i:=j) ?_;rw[Er y];exact r
  ·have e:List.set ((s1.heap.objs.size,Um (k+1) ((room:Int)-k-1) 1)::L.set i (eb,Tb (Wa (Yj gen gen.length k ns)))) (i+1) (eb,Tb (Wa (if (Yj gen gen.length k ns).getD k 0=0 then Yj gen gen.length k ns else Im gen k (kj.getD ((Yj gen gen.length k ns).getD k 0).toNat 0) gen.length (Yj gen gen.length k ns))))=
     (s1.heap.objs.size,Um (k+1) ((room:Int)-k-1) 1)::L.set i (eb,Tb (Wa (Yj gen gen.length (k+1) ns))):=by
    rw[aM,H4];rfl
   rw[e] at C;exact C
theorem gU(g:GK N A)(F:Fk w ς.heap)(hi:Nf ν=be){eb M D:ma}{room j l:Nat}(x:SX w ν σ ς B L s)(h1:σ.lookup ("error_block":Ba)=ac (.addr eb))(h2:σ.lookup ("len_data":Ba)=ac (.int room))(n:σ.lookup ("append_error_block":Ba)=ac (.addr M))
  (m:L[l]?=ac (eb,Tb (Wa ns))) (hD:L[i]?=ac (D,wb [] 0)) (hM:L[j]?=ac (M,Iq D)) (hz:ns.length<=2 ^ 20) (hr:room<=ns.length) {Q:Ff->aa->Prop}
  (k:∀f s',SX w ν σ ς B ((f,Tb (Wa (ns.drop room)))::L.set i (D,wb [.ref f] 1)) s'->Q .next s'):zd (ja PP w) A (Cg (fa Cj 6) ν) Q s:=by
 rw[z9];refine yz (i:=i+1) (j:=j+1) (D:=D) (M:=M) g F x n (by decide) hi (by kernel_rfl) (by kernel_rfl) ?_;refine Lv Gg.lookup (x.Pt h1 (by decide) ?_);refine wpAny_Slice ?_;rw[IJ,evalPart_none];refine x.dF h2 (by decide) λt=>?_;refine la (la ?_);have d:yi s.heap eb ns:=x.get l m;have c:yi (s.heap.push {cls:=.type "slice",data:=.fields #[.int room t,.none,.none]}) eb ns:=ea _ d;refine⟨yc c,?_⟩
 refine rR (lo:=ac (room:Int)) (hi:=a6) c (ry ..) (.int _ _) .none (ka hz (by decide)) ?_;have e:(ns.drop (Aq (ac (room:Int)) ns.length)).take (Dv a6 ns.length-Aq (ac (room:Int)) ns.length)=ns.drop room:=by
  rw[Oz hr];exact Ye (Yc ji)
 rw[e];refine⟨_,_,rfl,x.new (a:=(s.heap.push {cls:=.type "slice",data:=.fields #[.int room t,.none,.none]}).objs.size) (Qe (by rw[pd];exact Se _)) ⟨_,s.toks,rfl,λb o q=>ea _ (ea _ q)⟩ (qa _ rfl),hD,hM,λs2 h=>k _ s2 h⟩
end
set_option tactic.hygienic false
theorem mJ{α:Type}:∀(l:List α) (i:Nat) (h:i < l.length),(l[i]::l.eraseIdx i).Perm l
 |a::l,0,_=>.refl _
 |a::l,i+1,h=>by
  have hi:i < l.length:=by simpa using h
  have b:=mJ l i hi
  show(l[i]::a::l.eraseIdx i).Perm (a::l)
  exact(List.Perm.swap a l[i] _).trans (b.cons a)
theorem SX.perm(x:SX w ν σ ς B L s){a:List (ma×Jb)}(h:a.Perm L):SX w ν σ ς B a s:=
 {x with st:=x.st.less (λe q=>h.subset q) x.h0,ap:=λe q=>x.ap e (h.subset q),nb:=λe q=>x.nb e (h.subset q),nd:=(h.map _).nodup_iff.mpr x.nd}
theorem SX.front(x:SX w ν σ ς B L s)(i:Nat){e:ma×Jb}(h:L[i]?=ac e):SX w ν σ ς B (e::L.eraseIdx i) s:=by
 obtain ⟨hi,rfl⟩:=xb.mp h;exact x.perm (mJ L i hi)
theorem SX.drop(x:SX w ν σ ς B L s)(i:Nat):SX w ν σ ς B (L.eraseIdx i) s:=x.less (zF ..)
set_option tactic.hygienic true in
theorem SO(g:GK (N+9) A)(F:Fk w ς.heap)(hsc:ν.scope=(fdOf (Zh w)).scope)(hi:Nf ν=be){C I ec ed gt R Ii It M1 M2 T O:ma}{gi room gn:Nat}{ex:List ma}{f:Nat->Int}{oa oC oI E z:Jb}{ib:Int}{ta tb tc:Nat}{gvs:List Value}{gen:List Int}{v:xm}{rest:List (ma×Jb)}
  (x:SX w ν ((("i":Ba),P.int 0)::σ) ς B ((a,oa)::(C,oC)::(I,oI)::(Ii,E)::(R,Q4 0 gen.length 1 t u v)::(It,z)::(M2,Iq O)::(M1,Iq T)::(O,wb [] 0)::(T,wb [] 0)::rest) s) (cS:∀b∈ex,∃o,s.heap.get? b=ac o)
  (h1:σ.lookup ("ec_info":Ba)=ac (.addr ec)) (h2:σ.lookup ("codewords":Ba)=ac (.addr a)) (h3:σ.lookup ("append_data_block":Ba)=ac (.addr M1)) (h4:σ.lookup ("append_error_block":Ba)=ac (.addr M2)) (h5:σ.lookup ("gen_log":Ba)=ac (.addr 1888)) (h6:σ.lookup ("gen_exp":Ba)=ac (.addr 1890))
  (h7:σ.lookup ("gen":Ba)=ac (.addr gt)) (h8:σ.lookup ("num_error_words":Ba)=ac (.int gen.length)) (h9:σ.lookup ("range_error_words":Ba)=ac (.addr R))
  (n1:∀y∈([ra "i",ra "k",ra "n",ra "coef",ra "lcoef",ra "block",ra "len_data",ra "error_block"]:List Ba),σ.lookup y=a6)
  (he:s.heap.get? ec=ac (xn ed 1 ib room ta tb tc)) (hed:s.heap.get? ed=ac (Va [] 0))
  (hg:Zs w A.in1 a gi C I ex n (NG f) 0 s) (hn:room<=n) (hr:room<=200) (hf:∀i,i < room->0<=f i/\f i < 256)
  (b1:B 1890 (Jn w)) (b3:B 1888 (jq w)) (b2:B gt (nh gvs gn)) (hgi:IntsAre gvs gen) (hgl:gen.length<=255) (hgb:∀g∈gen,0<=g/\g < 255) {Q:Ff->aa->Prop}
  (hQ:∀bk L s',fg gi s.gens s'.gens->SX w ν σ {ς with gens:=s'.gens} B ((Ii,E)::(It,z)::(O,wb [.ref L] 1)::(T,wb [.ref bk] 1)::(bk,Tb (Wa ((Ea room).map f))) ::
   (L,Tb (Wa ((Yj gen gen.length room ((Ea room).map f++Qa gen.length 0)).drop room)))::rest) s'->Q .next s'):
  zd (ja PP w) A (Oc Cj ν) Q s:=by
 have m:((Ea room).map f).length=room:=by rw[cb,Ac]
 generalize c:(Ea room).map f=data at m hQ;have hby:dj data:=λv hv=>by
  rw[<- c] at hv;obtain ⟨i,hi,rfl⟩:=Ma.mp hv;exact hf i (zc.mp hi)
 rw[G9];have li:σ.lookup ("i":Ba)=a6:=n1 _ (va ..);have up:∀{y:Ba} {p:P},σ.lookup y=ac p->((("i":Ba),P.int 0)::σ).lookup y=ac p:=λe=>lj e li;refine ub (UO g (x.fk F) hsc x cS (up h1) (up h2) he hed hg hn hr hf λbk s1 g1 r=>⟨rfl,?_⟩);rw[c] at r;generalize k:({ς with gens:=s1.gens}:aa)=h at r;have F1:Fk w h.heap:=k▸F;have up1:∀{y:Ba} {p q:P},σ.lookup y=ac p->((("block":Ba),q)::(("i":Ba),P.int 0)::σ).lookup y=ac p:=λe=>lj (up e) (vc (n1 _ (by decide)) (by decide));refine ub ?_;rw[E9];refine yz (i:=7) (j:=5) (M:=M1) (D:=T) (g.mono (fc _)) F1 r (up1 h3) (by decide) hi (by kernel_rfl) (by kernel_rfl) ?_;refine r.Pt bh (by decide) ⟨bk,_,rfl,r,rfl,rfl,λs2 x2=>⟨rfl,?_⟩⟩;refine ub (GZ (i:=0) (ns:=data) hsc x2 bh rfl (by lia) λs3 x3=>⟨rfl,?_⟩);rw[m] at x3;refine ub (hU (i:=0) (ns:=data) (g.mono (fc _)) hsc x3 (Ad bh (by decide)) rfl (by lia) λeb s4 x4=>⟨rfl,?_⟩);have IF:∀{y:Ba} {p q q1 Y:P},σ.lookup y=ac p->((("error_block":Ba),q)::(("len_data":Ba),q1)::(("block":Ba),Y)::(("i":Ba),P.int 0)::σ).lookup y=ac p:=
  λe=>lj (lj (up1 e) (vc (vc (n1 _ (by decide)) (by decide)) (by decide))) (vc (vc (vc (n1 _ (by decide)) (by decide)) (by decide)) (by decide))
 have d:∀{y:Ba} {q q1 Y:P},y∈([ra "k",ra "n",ra "coef",ra "lcoef"]:List Ba)->((("error_block":Ba),q)::(("len_data":Ba),q1)::(("block":Ba),Y)::(("i":Ba),P.int 0)::σ).lookup y=a6:=by
  exact λG=>vc (vc (vc (vc (n1 _ (UT rfl G)) (xO rfl G)) (xO rfl G)) (xO rfl G)) (xO rfl G)
 refine ub (oK (i:=0) (ns:=data) (g.mono (fc _)) x4 bh (IF h8) hgl hi F1 rfl (by lia) λs5 x5=>⟨rfl,?_⟩);have J:dj (data++Qa gen.length 0):=hby.append λv hv=>by rw[(Di.mp hv).2];decide
 have hl5:(data++Qa gen.length (0:Int)).length=room+gen.length:=by rw[Nb,Zd,m]
 refine ub (RO (i:=0) (ns:=data++Qa gen.length 0) (room:=room) (gen:=gen) (R:=R) (t:=t) (u:=u) (v:=v) (g.mono (fc _)) hsc x5 rfl J (by lia) (Ad bh (by decide)) ?_ (IF h9) (d (by decide)) (d (by decide)) (d (by decide)) (d (by decide)) bh (IF h6) (IF h5) (IF h7) b1 b3 b2 hgi hgl hgb (by rw[hl5]) λs6 x6=>⟨rfl,?_⟩)
 ·first|exact mg 0 rfl|exact mg 1 rfl|exact mg 2 rfl|exact mg 3 rfl|exact mg 4 rfl|exact mg 5 rfl|exact mg 6 rfl|exact mg 7 rfl|exact mg 8 rfl
 refine ub (gU (l:=0) (i:=7) (j:=5) (M:=M2) (D:=O) (ns:=Yj gen gen.length room (data++Qa gen.length 0)) (room:=room) (g.mono (fc _)) F1 hi x6 bh (Ad bh (by decide)) (IF h4) rfl rfl rfl (by rw[Il];lia) (by rw[Il];lia) λL V x7=>⟨rfl,Jf ?_⟩);have H:V.gens=s1.gens:=by
  obtain ⟨_,_,e⟩:=x7.st.sh;rw[e,<- k]
 refine hQ bk L V (by rw[H];exact g1) ?_;have e0:({ς with gens:=V.gens}:aa)=h:=by rw[H,k]
 rw[e0];have x8:=(((x7.tail (vc (vc (vc (n1 _ (by decide)) (by decide)) (by decide)) (by decide))).tail (vc (vc (n1 _ (by decide)) (by decide)) (by decide))).tail (vc (n1 _ (by decide)) (by decide))).tail li;have x9:=(((x8.drop 1).drop 3).drop 4).drop 4
 exact((((x9.front 1 rfl).front 5 rfl).front 5 rfl).front 5 rfl).front 5 rfl
theorem L9:oq=[fa oq 0,fa oq 1,fa oq 2,fa oq 3]:=by kernel_rfl
theorem K9:fa oq 0=.Assign [.Name "num_error_words" (aT (fa oq 0)).pos] (.BinOp (.Attribute (.Name "ec_info" (ch (ch (aV (fa oq 0)) 0) 0).pos) "num_total" (ch (aV (fa oq 0)) 0).pos) .Sub (.Attribute (.Name "ec_info" (ch (ch (aV (fa oq 0)) 1) 0).pos) "num_data" (ch (aV (fa oq 0)) 1).pos) (aV (fa oq 0)).pos) (aP (fa oq 0)):=by kernel_rfl
theorem J9:fa oq 1=.Assign [.Name "gen" (aT (fa oq 1)).pos] (.Subscript (.Name "GEN_POLY" (ch (aV (fa oq 1)) 0).pos) (.Name "num_error_words" (ch (aV (fa oq 1)) 1).pos) (aV (fa oq 1)).pos) (aP (fa oq 1)):=by kernel_rfl
theorem I9:fa oq 2=.Assign [.Name "range_error_words" (aT (fa oq 2)).pos] (.Call (.Name "range" (ch (aV (fa oq 2)) 0).pos) [.Name "num_error_words" (ch (aV (fa oq 2)) 1).pos] [] (aV (fa oq 2)).pos) (aP (fa oq 2)):=by kernel_rfl
theorem H9:fa oq 3=.For (.Name "i" (aT (fa oq 3)).pos) (.Call (.Name "range" (ch (aV (fa oq 3)) 0).pos) [.Attribute (.Name "ec_info" (ch (ch (aV (fa oq 3)) 1) 0).pos) "num_blocks" (ch (aV (fa oq 3)) 1).pos] [] (aV (fa oq 3)).pos) Cj [] (aP (fa oq 3)):=by kernel_rfl
theorem VC(g:Jb)(w:sa):([ra "GALIOS_LOG",ra "GALIOS_EXP",ra "GEN_POLY",ra "ECC",ra "make_blocks",ra "make_final_message",ra "Buffer",ra "_law_LAYOUTS"]:List Ba).map (λy=>ij (Zp g w) y)=
  [ac (.ref 1888),ac (.ref 1890),ac (.ref 1868),ac (.ref 139),ac (.ref 1900),ac (.ref 1895),ac (.ref 1963),ac (.ref 1973)]:=by kernel_rfl
theorem Vt{y:Ba}(w:sa)(h:([ra "GALIOS_LOG",ra "GALIOS_EXP",ra "GEN_POLY",ra "ECC",ra "make_blocks",ra "make_final_message",ra "Buffer",ra "_law_LAYOUTS"]:List Ba)[i]?=ac y)
  (h':([ac (.ref 1888),ac (.ref 1890),ac (.ref 1868),ac (.ref 139),ac (.ref 1900),ac (.ref 1895),ac (.ref 1963),ac (.ref 1973)]:List (Option Value))[i]?=ac (ac v)):(GW w).mg y=ac v:=by
 have e:=VC (((Qd w).t.get 0).getD Ep) w;rw[<- e,ef,h] at h'
 exact(Ms w y).trans (xa h')
noncomputable def Px(o:Jb):List fb:=match o.data with
 |.dict es ..=>es.toList
 |_=>[]
noncomputable def Y4(w:sa):List fb:=Px (PA w)
theorem U0(w:sa):PA w=Va (Y4 w) 18:=by kernel_rfl
theorem a1n(w:sa):((Y4 w).all λe=>match e.key with|.int i _=>e.hash==tM i|_=>be)=a8:=by kernel_rfl
theorem V0{v:Int}{r:Value}(F:Fk w s.heap)(hv:Kw Fh (Y4 w).toArray v=ac r)(h:Q r {s with toks:=s.toks+1}):wpAny (ja PP w) A (Vj (.ref 1868) (.int v t)) Q Hc s:=by
 have a:=F.uf 0 rfl rfl;have a:s.heap.get? 1868=ac (PA w):=a;rw[U0 w] at a;exact tq a (a1n w) hv h
theorem SX.same{a:Al}{c:List (Ba×P)}{g:ma->Jb->Prop}{f:List (ma×Jb)}(x:SX w ν σ ς B L s)(d:SX w a c ς g f s')(hb:(∃o,ς.heap.get? b=ac o)\/∃o,(b,o)∈L/\(b,o)∈f)(o:Jb)(e:s.heap.get? b=ac o):
  s'.heap.get? b=ac o:=by
 exact hb.elim (λq=>q.elim λo' h=>xa ((x.kp.get h).symm.trans e)▸d.kp.get h) λq=>q.elim λo' h=>xa ((x.st.ks b o' (.inr h.1)).symm.trans e)▸d.st.ks b o' (.inr h.2)
theorem Jz{B:Wc}{a g:Nat}{C I:ma}{ex:List ma}{Fv:Nat->Value->Prop}(x:Zs w B a g C I ex n Fv 0 s)(hg:s'.gens=s.gens)(hk:∀b∈a::C::I::(Lh++ex),∀o,s.heap.get? b=ac o->s'.heap.get? b=ac o):Zs w B a g C I ex n Fv 0 s':=
 {x with gen:=bj x.gen (pa _ (qe _ LF)) hg hk}
theorem SX.gens(x:SX w ν σ ς B L s):s.gens=ς.gens:=x.st.sh.elim λZ q=>q.elim λZ e=>by rw[e]
set_option tactic.hygienic true in
theorem iU(g:GK (N+9) A)(F:Fk w ς.heap)(hsc:ν.scope=(fdOf (Zh w)).scope)(hi:Nf ν=be){C I ec ed gt It M1 M2 D1 D2:ma}{gi room total gn:Nat}{ex:List ma}{f:Nat->Int}{oa oC oI H:Jb}{ta tb tc:Nat}{gvs:List Value}{gen:List Int}{rest:List (ma×Jb)}
  (x:SX w ν ((("ec_info":Ba),P.addr ec)::σ) ς B ((It,H)::(M2,Iq D2)::(M1,Iq D1)::(D2,wb [] 0)::(D1,wb [] 0)::(a,oa)::(C,oC)::(I,oI)::rest) s) (T:∀b∈ex,(∃o,ς.heap.get? b=ac o)\/∃o,(b,o)∈rest)
  (h2:σ.lookup ("codewords":Ba)=ac (.addr a)) (h3:σ.lookup ("append_data_block":Ba)=ac (.addr M1)) (h4:σ.lookup ("append_error_block":Ba)=ac (.addr M2)) (h5:σ.lookup ("gen_log":Ba)=ac (.addr 1888)) (h6:σ.lookup ("gen_exp":Ba)=ac (.addr 1890))
  (n1:∀y∈([ra "i",ra "k",ra "n",ra "coef",ra "lcoef",ra "block",ra "len_data",ra "error_block",ra "ec_info",ra "num_error_words",ra "gen",ra "range_error_words"]:List Ba),σ.lookup y=a6)
  (he:ς.heap.get? ec=ac (xn ed 1 total room ta tb tc)) (hed:ς.heap.get? ed=ac (Va [] 0)) (hgp:Kw Fh (Y4 w).toArray ((total:Int)-room)=ac (.ref gt))
  (hg:Zs w A.in1 a gi C I ex n (NG f) 0 s) (hn:room<=n) (hr:room<=200) (hf:∀i,i < room->0<=f i/\f i < 256)
  (b1:B 1890 (Jn w)) (b3:B 1888 (jq w)) (b2:B gt (nh gvs gn)) (hgi:IntsAre gvs gen) (hgl:gen.length<=255) (hgt:room+gen.length=total) (hgb:∀g∈gen,0<=g/\g < 255) {Q:Ff->aa->Prop}
  (hQ:∀bk V s',fg gi s.gens s'.gens->SX w ν ((("ec_info":Ba),P.addr ec)::σ) {ς with gens:=s'.gens} B ((It,H)::(D2,wb [.ref V] 1)::(D1,wb [.ref bk] 1)::(bk,Tb (Wa ((Ea room).map f))) ::
   (V,Tb (Wa ((Yj gen gen.length room ((Ea room).map f++Qa gen.length 0)).drop room)))::rest) s'->Q .next s'):
  zd (ja PP w) A (Oc oq ν) Q s:=by
 have r:∀x,ν.kindOf x=(fdOf (Zh w)).scope.names.lookup x:=λx=>by unfold Md;rw[hsc]
 rw[L9];refine ub (kc ?_);rw[K9];refine PySem.wpAny_Assign_Name (Mg (ig (x.Pt bh (by decide) (JQ (N:=N) (g.ga.mono (by lia)) (x.fk F) (x.kp.get he) (x.kp.get hed) λs1 t1 k1=>?_)))) (by kernel_rfl);have D:=x.step k1;refine ig (D.Pt bh (by decide) (oJ (N:=N) (g.ga.mono (by lia)) (D.fk F) (D.kp.get he) (D.kp.get hed) λs2 t2 k2=>?_));have x2:=D.step k2;refine vo ?_;have e1:((total:Int)-room)=(gen.length:Int):=by lia
 rw[e1] at hgp ⊢
 refine(x2.step (.tok _)).bind (p:=.int gen.length) (.inl ((r _).trans (by kernel_rfl))) ⟨_,rfl⟩ nofun λs3 x3=>⟨rfl,?_⟩
 refine ub (kc ?_);rw[J9];refine PySem.wpAny_Assign_Name (Mj (Tg x3.st.re ((r _).trans (by kernel_rfl)) (Vt (i:=2) w rfl rfl) (by decide) (x3.dF bh (by decide) λt3=>?_))) (by kernel_rfl);have hT:s3.TypeIs (.ref 1868) "dict":=⟨_,(x3.fk F).uf 0 rfl rfl,rfl⟩;refine tail_any hT slot_dict_getitem.lookup (V0 (x3.fk F) hgp ?_) (Jh λ_ _ _ _ q=>nomatch q)
 refine(x3.step (.tok _)).bind (p:=.addr gt) (.inl ((r _).trans (by kernel_rfl))) rfl nofun λh Y=>⟨rfl,?_⟩
 refine ub (kc ?_);rw[I9];refine PySem.wpAny_Assign_Name ?_ (by kernel_rfl);refine Rc ⟨_,_,rfl⟩ (name_buil Y.st.re ((r _).trans (by kernel_rfl)) (oe w (.tail _ (.head _))) (v:=.type "range") (by kernel_rfl) (by decide) (by decide) ?_);refine md (xs:=[eval (.Name _ _) ν]) (show 1<=30 by decide) ?_;refine Y.dF (Ad bh (by decide)) (by decide) λt4=>?_;refine Ga (a:=vb) rfl ?_;refine Wj ?_;have x5:SX w ν _ ς B ((h.heap.objs.size,Q4 0 gen.length 1 h.toks t4 (h.toks+1))::_) {h with heap:=h.heap.push (Q4 0 gen.length 1 h.toks t4 (h.toks+1)),toks:=h.toks+1+1}:=Y.new bc ⟨_,_,rfl,λ_ _ e=>ea _ e⟩ (qa _ rfl);refine x5.bind (p:=.addr h.heap.objs.size) (.inl ((r _).trans (by kernel_rfl))) rfl nofun λs6 t=>⟨rfl,?_⟩
 refine ub ?_;rw[H9];refine jr (λ_=>rfl) ?_;refine Rc ⟨_,_,rfl⟩ (name_buil t.st.re ((r _).trans (by kernel_rfl)) (oe w (.tail _ (.head _))) (v:=.type "range") (by kernel_rfl) (by decide) (by decide) ?_);refine md (xs:=[eval (.Attribute _ _ _) ν]) (show 1<=30 by decide) ?_;refine ig (t.Pt (Ad (Ad (Ad bh (by decide)) (by decide)) (by decide)) (by decide) (nL (N:=N) (g.ga.mono (by lia)) (t.fk F) (t.kp.get he) (t.kp.get hed) λk t7 k7=>?_));have x7:=t.step k7;refine Ga (a:=vb) rfl ?_;refine Wj ?_;generalize L:({k with heap:=k.heap.push _,toks:=k.toks+1+1}:aa)=E;have k8:Kp k E:=L▸⟨_,_,rfl,λ_ _ e=>ea _ e⟩;have hr8:Pm E.heap k.heap.objs.size 0 (1:Nat) 1 k.toks t7 (k.toks+1):=L▸qa _ rfl;have x8:=x7.step k8;refine Dh hr8 (ni (by decide) (by unfold Sm;lia) (by unfold Sm;lia) (by unfold Sm;lia)).1 ?_;rw[D7];have x9:=x8.new (a:=E.heap.objs.size) (o:=Um 0 1 1) (s':={E with heap:=E.heap.push (Um 0 1 1)}) bc (.push _) (qa _ rfl);refine SD g.ga.hd (.inl ((r _).trans (by kernel_rfl))) x9 λG c=>?_;have j:=((c.front 9 rfl).front 9 rfl).front 9 rfl;have dp:∀{b:ma} {o:Jb} {l m:List (ma×Jb)},(b,o)∈m->(b,o)∈l++m:=λe=>Mc _ e;have O:∀b∈ex,∃o,G.heap.get? b=ac o:=λb hb=>(T b hb).elim (Rj λo e=>c.kp.get e) (Rj λo e=>c.st.ks b o (.inr (dp (l:=[_,_,_,_,_,_,_,_,_,_]) e)));have M:Zs w A.in1 a gi C I ex n (NG f) 0 G:=by
  have m:=λz hz o e=>x.same c (b:=z) (hz:(∃o,ς.heap.get? z=ac o)\/_) o e;exact Jz hg (c.gens.trans x.gens.symm) (Ld (m _ (.inr ⟨oa,mg 5 rfl,mg 7 rfl⟩)) (Ld (m _ (.inr ⟨oC,mg 6 rfl,mg 8 rfl⟩)) (Ld (m _ (.inr ⟨oI,mg 7 rfl,mg 9 rfl⟩)) (acA (λz hz=>m z (.inl (um F z hz)))
   λz hz=>m z ((T z hz).imp_right (Rj λo e=>⟨dp (l:=[_,_,_,_,_,_,_,_]) e,dp (l:=[_,_,_,_,_,_,_,_,_,_]) e⟩))))))
 have upE:∀{y:Ba} {p:P},σ.lookup y=ac p->((("ec_info":Ba),P.addr ec)::σ).lookup y=ac p:=λe=>lj e (n1 _ (by decide));have upN:∀{y:Ba} {p q:P},σ.lookup y=ac p->((("num_error_words":Ba),q)::(("ec_info":Ba),P.addr ec)::σ).lookup y=ac p:=λe=>lj (upE e) (vc (n1 _ (by decide)) (by decide));have upG:∀{y:Ba} {p q q1:P},σ.lookup y=ac p->((("gen":Ba),q1)::(("num_error_words":Ba),q)::(("ec_info":Ba),P.addr ec)::σ).lookup y=ac p:=λe=>lj (upN e) (vc (vc (n1 _ (by decide)) (by decide)) (by decide));have d:∀{y:Ba} {p q q1 q2:P},σ.lookup y=ac p->((("range_error_words":Ba),q2)::(("gen":Ba),q1)::(("num_error_words":Ba),q)::(("ec_info":Ba),P.addr ec)::σ).lookup y=ac p:=λe=>lj (upG e) (vc (vc (vc (n1 _ (by decide)) (by decide)) (by decide)) (by decide));refine SO (gi:=gi) (n:=n) (ex:=ex) (f:=f) (room:=room) (gen:=gen) (ta:=ta) (tb:=tb) (tc:=tc) (ib:=total) g F hsc hi j O (Ad (Ad (Ad bh (by decide)) (by decide)) (by decide)) (d h2) (d h3) (d h4) (d h5) (d h6) (Ad bh (by decide)) (Ad (Ad bh (by decide)) (by decide)) bh ?_ (j.kp.get he) (j.kp.get hed) M hn hr hf b1 b3 b2 hgi hgl hgb λbk V B7 g12 u=>⟨rfl,u.get 0 rfl,λh' hk'=>⟨_,rfl,rfl,Jf ?_⟩⟩
 ·exact λy J=>vc (vc (vc (vc (n1 y (qe [_,_,_,_] J)) (xO rfl J)) (xO rfl J)) (xO rfl J)) (xO rfl J)
 have x13:=u.RZ (h':=h') (tk:=B7.toks) hk';have c6:=((x13.tail (vc (vc (vc (n1 _ (by decide)) (by decide)) (by decide)) (by decide))).tail (vc (vc (n1 _ (by decide)) (by decide)) (by decide))).tail (vc (n1 _ (by decide)) (by decide));refine hQ bk V _ ?_ c6;exact c.gens.trans x.gens.symm▸g12
theorem VD(w:sa):Fn (Zh w) (uO w) 1899 Zi:=⟨by kernel_rfl,by kernel_rfl,by kernel_rfl,by kernel_rfl,by kernel_rfl,by kernel_rfl⟩
theorem CE(a b:Value):mh s (fdOf (Zh w)) ⟨[a,b],[]⟩ [("ec_infos",a),("buff",b)]:=Ih (by kernel_rfl)
theorem Y9:Zi=[fa Zi 0,fa Zi 1,fa Zi 2,fa Zi 3,fa Zi 4,fa Zi 5,fa Zi 6,fa Zi 7,fa Zi 8]:=by kernel_rfl
theorem X9:fa Zi 0=.Expr (.Constant (.str (i3 (fa Zi 0))) 0 (aV (fa Zi 0)).pos) (aP (fa Zi 0)):=by kernel_rfl
theorem W9:fa Zi 1=.Assign [.Name "codewords" (aT (fa Zi 1)).pos] (.Call (.Attribute (.Name "buff" (ch (ch (aV (fa Zi 1)) 0) 0).pos) "toints" (ch (aV (fa Zi 1)) 0).pos) [] [] (aV (fa Zi 1)).pos) (aP (fa Zi 1)):=by kernel_rfl
theorem V9:fa Zi 2=.Assign [.Tuple [.Name "data_blocks" (ch (aT (fa Zi 2)) 0).pos,.Name "error_blocks" (ch (aT (fa Zi 2)) 1).pos] 0 (aT (fa Zi 2)).pos] (.Tuple [.List [] (ch (aV (fa Zi 2)) 0).pos,.List [] (ch (aV (fa Zi 2)) 1).pos] 0 (aV (fa Zi 2)).pos) (aP (fa Zi 2)):=by kernel_rfl
theorem U9:fa Zi 3=.Assign [.Name "append_data_block" (aT (fa Zi 3)).pos] (.Attribute (.Name "data_blocks" (ch (aV (fa Zi 3)) 0).pos) "append" (aV (fa Zi 3)).pos) (aP (fa Zi 3)):=by kernel_rfl
theorem T9:fa Zi 4=.Assign [.Name "append_error_block" (aT (fa Zi 4)).pos] (.Attribute (.Name "error_blocks" (ch (aV (fa Zi 4)) 0).pos) "append" (aV (fa Zi 4)).pos) (aP (fa Zi 4)):=by kernel_rfl
theorem S9:fa Zi 5=.Assign [.Name "gen_log" (aT (fa Zi 5)).pos] (.Name "GALIOS_LOG" (aV (fa Zi 5)).pos) (aP (fa Zi 5)):=by kernel_rfl
theorem R9:fa Zi 6=.Assign [.Name "gen_exp" (aT (fa Zi 6)).pos] (.Name "GALIOS_EXP" (aV (fa Zi 6)).pos) (aP (fa Zi 6)):=by kernel_rfl
theorem Q9:fa Zi 7=.For (.Name "ec_info" (aT (fa Zi 7)).pos) (.Name "ec_infos" (aV (fa Zi 7)).pos) oq [] (aP (fa Zi 7)):=by kernel_rfl
theorem P9:fa Zi 8=.Return (ac (.Tuple [.Name "data_blocks" (ch (aV (fa Zi 8)) 0).pos,.Name "error_blocks" (ch (aV (fa Zi 8)) 1).pos] 0 (aV (fa Zi 8)).pos)) (aP (fa Zi 8)):=by kernel_rfl
theorem FZ(w:sa)(n a:Nat):swappedStores [.Tuple [.Name "data_blocks" (ch (aT (fa Zi 2)) 0).pos,.Name "error_blocks" (ch (aT (fa Zi 2)) 1).pos] 0 (aT (fa Zi 2)).pos] (.Tuple [.List [] (ch (aV (fa Zi 2)) 0).pos,.List [] (ch (aV (fa Zi 2)) 1).pos] 0 (aV (fa Zi 2)).pos) (bg (fdOf (Zh w)) n a)=
 pure (ac [ra "data_blocks",ra "error_blocks"]):=by kernel_rfl
theorem EZ(w:sa)(n a:Nat):swapsWithSole [.Tuple [.Name "data_blocks" (ch (aT (fa Zi 2)) 0).pos,.Name "error_blocks" (ch (aT (fa Zi 2)) 1).pos] 0 (aT (fa Zi 2)).pos] (.Tuple [.List [] (ch (aV (fa Zi 2)) 0).pos,.List [] (ch (aV (fa Zi 2)) 1).pos] 0 (aV (fa Zi 2)).pos) (aP (fa Zi 2)).line (bg (fdOf (Zh w)) n a)=
 pure be:=by kernel_rfl
theorem fm{fd:Qm}(h:s.heap.get? a=ac o)(hd:o.data=.func fd){Q:Keeper->aa->Prop}(b:Q dW s):wpAny (ja PP w) A (Lj (.ref a)) Q Hc s:=by
 refine jb (Jj h ?_);refine Ga (a:=dW) ?_ b;rw[hd]
theorem SX.Zo(x:SX w ν σ ς B L s)(ap:Ap ν a)(nb:∀o,¬B a o)(nl:∀e∈L,e.1≠a)(h:s.heap.get? a=ac o):SX w ν σ ς B ((a,o)::L) s:=by
 exact{st:=x.st.add x.nl ap h,nl:=x.nl,h0:=x.h0,ap:=Pe.mpr ⟨ap,x.ap⟩,nb:=Pe.mpr ⟨nb,x.nb⟩,nd:=by rw[Mb];exact Lb.mpr ⟨λq=>(Ma.mp q).elim λe z=>nl e z.1 z.2,x.nd⟩}
theorem Fk.off(F:Fk w h)(d:a∉Lh):Fk w (Dm h a):=F.AI λb hb o e=>by
 have c:b≠a:=λq=>d (q▸hb);rw[Nt c];exact e
theorem SX.start(x:St (GW w) ν [] σ (λZ=>0) ς K s)(hn:Zl σ=a8):SX w ν σ ς K [] s:=
 {st:=x.weak (λb o q=>q.elim id λq=>(nomatch q)) λb o e=>.inl (x.k0 b o e),nl:=hn,h0:=x.k0,ap:=λZ q=>(nomatch q),nb:=λZ q=>(nomatch q),nd:=.nil}
set_option tactic.hygienic true in
theorem PO(u:A.handled=a6)(hsc:ν.scope=(fdOf (Zh w)).scope){d f:Nat}(he:ν=bg (fdOf (Zh w)) d f)(x:SX w ν σ ς B L s){Q:Ff->aa->Prop}
  (v:∀k j s',SX w ν ((("data_blocks":Ba),P.addr k)::(("error_blocks":Ba),P.addr j)::σ) ς B ((j,wb [] 0)::(k,wb [] 0)::L) s'->Q .next s'):wpAny (ja PP w) A (Cg (fa Zi 2) ν) Q Hc s:=by
 have i:∀x,ν.kindOf x=(fdOf (Zh w)).scope.names.lookup x:=λx=>by unfold Md;rw[hsc]
 rw[V9];refine Assign_Tuple_swapped (names:=["data_blocks","error_blocks"]) ?_ (he▸EZ w d f) (he▸FZ w d f);refine ak (Gf (xs:=[eval (.List [] _) ν,eval (.List [] _) ν]) ?_);refine Vr (Gf (xs:=[]) ?_);refine⟨fc _,?_⟩
 have h:=x.new (a:=s.heap.objs.size) (o:=wb [] 0) (s':={s with heap:=s.heap.push (wb [] 0)}) bc (.push _) (qa _ rfl);generalize t:({s with heap:=s.heap.push (wb [] 0)}:aa)=s1 at h;refine Vr (Gf (xs:=[]) ?_);refine⟨fc _,?_⟩
 have g:=h.new (a:=s1.heap.objs.size) (o:=wb [] 0) (s':={s1 with heap:=s1.heap.push (wb [] 0)}) bc (.push _) (qa _ rfl);generalize r:({s1 with heap:=s1.heap.push (wb [] 0)}:aa)=s2 at g;refine⟨(show 2<=mc by decide),?_⟩
 have ht:({s2 with heap:=s2.heap.push (nh [.ref s.heap.objs.size,.ref s1.heap.objs.size] 0)}:aa).heap.IsTuple s2.heap.objs.size #[.ref s.heap.objs.size,.ref s1.heap.objs.size]:=⟨_,qa _ rfl,rfl,_,rfl⟩;have c:([ra "data_blocks",ra "error_blocks"]:List Ba).length=(#[qj s.heap.objs.size,qj s1.heap.objs.size]:Array Value).size:=rfl;rw[c];refine wpAny_unpackItems_tuple u ht λh' he=>?_;have q:Kp s2 {s2 with heap:=h'}:=⟨h',_,rfl,λb o e=>he b o (Na (by show b < (s2.heap.push _).objs.size;rw[pd];exact Cd (Ha e))) (ea _ e)⟩;have x3:=g.step q;show wpAny _ _ (assignInOrder [bindName ν (ra "error_blocks"),bindName ν (ra "data_blocks")] [.ref s1.heap.objs.size,.ref s.heap.objs.size]) _ _ _
 refine Bc (Bo (x3.bind (y:=ra "error_blocks") (p:=.addr s1.heap.objs.size) (.inl ((i _).trans (by kernel_rfl))) rfl nofun λz m=>?_));refine Bc (Bo (m.bind (y:=ra "data_blocks") (p:=.addr s.heap.objs.size) (.inl ((i _).trans (by kernel_rfl))) rfl nofun λn l=>?_));exact ri (v _ _ n l)
theorem RC:∀(ns:List Int) (a:Int),Vm ns->0<=a->0<=ns.foldl (λa b=>2*a+b) a/\ns.foldl (λa b=>2*a+b) a < (a+1)*2 ^ ns.length
 |[],a,_,h=>by simp;lia
 |n::ns,a,hb,h=>by
  have hn:=hb n (va ..);have c:=RC ns (2*a+n) (λm hm=>hb m (pa _ hm)) (by rcases hn with rfl|rfl <;> lia);rw[Xj,wj,Int.pow_succ];refine⟨c.1,Af c.2 ?_⟩
  have hp:(0:Int)<=2 ^ ns.length:=Sk (a2s (by decide));have h2:2*a+n+1<=(a+1)*2:=by rcases hn with rfl|rfl <;> lia
  calc (2*a+n+1)*2 ^ ns.length<=((a+1)*2)*2 ^ ns.length:=Int.mul_le_mul_of_nonneg_right h2 hp
   _=(a+1)*(2 ^ ns.length*2):=by rw[Int.mul_assoc,AF 2 (2 ^ ns.length)]
theorem rz(h:Vm ns)(hl:ns.length=8):0<=Wk ns/\Wk ns < 256:=by
 have:=RC ns 0 h (a2t _);rw[hl] at this;exact this
noncomputable def qh(gen:List Int)(data:List Int):List Int:=(Yj gen gen.length data.length (data++Qa gen.length 0)).drop data.length
theorem lE(g:GK (N+14) A)(F:Fk w s.heap){dd d t ec ed gt:ma}{bs:List Int}{ot:Jb}{m room total gn ta tb tc:Nat}{gvs:List Value}{gen:List Int}
  (hb:s.heap.get? b=ac (Fe dd d)) (JK:s.heap.get? dd=ac zg) (hd:yi s.heap d bs) (hB:Vm bs) (hz:bs.length<=2 ^ 11) (H0:ve s.heap 1944 1940 ps)
  (ht:s.heap.get? t=ac ot) (hot:ot.cls=.type "tuple"/\ot.data=.seq #[.ref ec] m) (tn:t≠1940) (he:s.heap.get? ec=ac (xn ed 1 total room ta tb tc)) (en:ec≠1940) (hed:s.heap.get? ed=ac (Va [] 0)) (edn:ed≠1940)
  (hgp:Kw Fh (Y4 w).toArray ((total:Int)-room)=ac (.ref gt)) (hgt:s.heap.get? gt=ac (nh gvs gn)) (gtn:gt≠1940) (hgi:IntsAre gvs gen) (hgl:room+gen.length=total) (hgb:∀g∈gen,0<=g/\g < 255) (hn:room<=(bs.length+7) / 8) (hr:total<=200)
  (hQ:∀T D1 D2 bk ck h' tk gs' ps',GR 1940 s h'->ve h' 1944 1940 ps'->((∀y∈s.gens,y.bare=a8)->∀y∈gs',y.bare=a8)->h'.get? T=ac (nh [.ref D1,.ref D2] 0)->h'.get? D1=ac (wb [.ref bk] 1)->h'.get? D2=ac (wb [.ref ck] 1)->
   yi h' bk ((Ea room).map λi=>Wk (Ln bs (8*i)))->yi h' ck (qh gen ((Ea room).map λi=>Wk (Ln bs (8*i))))->(∀x∈[T,D1,D2,bk,ck],s.heap.get? x=a6)->([T,D1,D2,bk,ck]:List ma).Nodup->
   Q (.ref T) {s with heap:=h',toks:=tk,gens:=gs'}):
  zd (ja PP w) A (call (.ref 1900) [.ref t,.ref b]) Q s:=by
 have F0:Fk w (Dm s.heap 1940):=F.off (by decide);have hP:=H0.tab;have n40:∀{x:ma} {o:Jb},s.heap.get? x=ac o->(∀vs,o.data≠.fields vs)->x≠1940:=λe hn=>Zq hP e hn;refine fo (N:=N+12) (G:=GW w) (rd:=[]) (σ:=[("ec_infos",.addr t),("buff",.addr b)]) (δ:=λZ=>0) (ς:={s with heap:=Dm s.heap 1940}) (K:=λx o=>(Dm s.heap 1940).get? x=ac o) (VD w)
  (g.mono (by lia)) (F.uf 21 rfl rfl) (F.uf 35 rfl rfl) (CE _ _) (by kernel_rfl) (by kernel_rfl) ⟨s.heap,s.toks,rfl⟩ (sf F0) (λZ Z e=>e) (λZ Z e=>Cm e) ⟨⟨rfl,rfl,nofun⟩,⟨rfl,rfl,nofun⟩,trivial⟩ (λx y ns ms Z e=>(Fg rfl e).elim) λY ν hen v W5 vK=>?_
 have LM:=SX.start W5 rfl;have hsc:ν.scope=(fdOf (Zh w)).scope:=by subst hen;rfl
 have hi:Nf ν=be:=by subst hen;kernel_rfl
 have I0:ν.locals=s.heap.objs.size:=by subst hen;rfl
 have N0:ν.cells=[]:=by subst hen;kernel_rfl
 have ek:∀x,ν.kindOf x=(fdOf (Zh w)).scope.names.lookup x:=λx=>by unfold Md;rw[hsc]
 have a1Y:Ap ν 1940:=⟨λq=>absurd (Ha hP) (by rw[<- q,I0];exact je _),λy c e=>by rw[N0] at e;cases e⟩;rw[Y9];refine ub ?_;rw[X9];refine cj hi (by kernel_rfl) (kc (Eo ⟨λa e=>(by cases e),rfl,?_⟩));generalize WW:({Y with toks:=Y.toks+1}:aa)=V;have OW:Kp Y V:=WW▸.tok _;have QS:=LM.step OW;have M:=vK.trans' OW;have F2:=F.kp M;refine ub ?_;rw[W9];refine yk (by kernel_rfl) ?_;refine Zk rfl (by kernel_rfl) (by kernel_rfl) ?_;refine kc (QS.Pt (Ad bh (by decide)) (by decide) ?_);refine X0 v.ga.hd F2 (M.get hb) (M.get JK) λh3 k3=>?_;have D:=QS.step (mu 0 k3);have B:=M.trans' (mu 0 k3);have F3:=F.kp B;refine Bd (xs:=[]) (show 0<=30 by decide) ?_;refine fm (F3.uf 27 rfl rfl) (aH w).data ?_;refine wL (N:=N+4) (v.mono (by lia)) F3 (B.get hb) (B.get JK) (B.get hd) hB (by lia) (H0.keeps λZ Z e=>B.get e) λa C I c h4 tk4 gs4 ps4 XP na nC nI nc L0 G0 a5q cS hG=>?_;generalize VW:({V with heap:=h3,toks:=V.toks+0}:aa)=u at *;generalize bS:({u with heap:=h4,gens:=u.gens.push gs4,toks:=tk4}:aa)=E at *;have hh4:E.heap=h4:=by rw[<- bS]
 have J:=hG ((A.deeper ν).in1) v.ga.hd;have hP3:=B.get hP;have M0:u.gens=s.gens:=by obtain ⟨_,_,e,_⟩:=B;rw[e]
 have n8:∀o:Jb,¬(Dm s.heap 1940).get? 1940=ac o:=λo q=>by rw[qm] at q;cases q
 have a3q:SX w ν _ {({s with heap:=Dm s.heap 1940}:aa) with gens:=E.gens} (λz o=>(Dm s.heap 1940).get? z=ac o) [] E:=D.move (wr:=[1940]) (λz hz=>by
   rw[Ca.mp hz];exact⟨a1Y,n8,λe q=>(nomatch q)⟩)
  (λz o hz e=>by rw[hh4];exact L0 z o (λq=>hz (by simp[q])) e) (by rw[<- bS]) (by rw[<- bS])
 have nbn:∀{z:ma},u.heap.get? z=a6->∀o,¬(Dm s.heap 1940).get? z=ac o:=λhz o q=>by
  have:=D.base q;rw[hz] at this;cases this
 have L:∀{z:ma},u.heap.get? z=a6->(1940:ma)≠z:=λhz q=>by rw[<- q,hP3] at hz;cases hz
 obtain ⟨oC,hC⟩:=cS C (va ..);obtain ⟨oI,hI⟩:=cS I (.tail _ (.head _));obtain ⟨oc,hc⟩:=cS c (.tail _ (.tail _ (.head _)));obtain ⟨oa,ha⟩:∃oa,h4.get? a=ac oa:=by obtain ⟨o,_,_,e,_⟩:=a5q;exact⟨o,e⟩
 have hp4:=G0.tab;rw[<- hh4] at hC hI hc ha hp4;have y1:=a3q.Zo a1Y n8 (λe q=>(nomatch q)) hp4;have y2:=y1.Zo (D.st.ap nc) (nbn nc) (λe q=>by rw[Ca.mp q];exact L nc) hc;have y3:=y2.Zo (D.st.ap nI) (nbn nI) (λe q=>by
  rcases La.mp q with rfl|q
  ·exact λq2=>J.If (q2▸Mc _ (.tail _ (.tail _ (.tail _ (.head _)))))
  ·rw[Ca.mp q];exact L nI) hI
 have y4:=y3.Zo (D.st.ap nC) (nbn nC) (λe q=>by
  rcases La.mp q with rfl|q
  ·exact λq2=>J.Cf (q2▸va ..)
  rcases La.mp q with rfl|q
  ·exact λq2=>J.Cf (q2▸pa _ (Mc _ (.tail _ (.tail _ (.tail _ (.head _))))))
  ·rw[Ca.mp q];exact L nC) hC
 have y5:=y4.Zo (D.st.ap na) (nbn na) (λe q=>by
  rcases La.mp q with rfl|q
  ·exact λq2=>J.aC q2.symm
  rcases La.mp q with rfl|q
  ·exact λq2=>J.af (q2▸va ..)
  rcases La.mp q with rfl|q
  ·exact λq2=>J.af (q2▸pa _ (Mc _ (.tail _ (.tail _ (.tail _ (.head _))))))
  ·rw[Ca.mp q];exact L na) ha
 have l:∀{z:ma} {o:Jb},s.heap.get? z=ac o->z≠1940->(Dm s.heap 1940).get? z=ac o:=λe hz=>by rw[Nt hz];exact e
 refine y5.bind (p:=.addr a) (.inl ((ek _).trans (by kernel_rfl))) rfl nofun λs5 x5=>⟨rfl,?_⟩
 have a1g:=n40 hb (λvs q=>by cases q);have YW:=n40 JK (λvs q=>by cases q);have a1d:=n40 hd (λvs q=>by cases q);have F4:Fk w ({({s with heap:=Dm s.heap 1940}:aa) with gens:=E.gens}:aa).heap:=F0;refine ub (kc (PO v.ga.hd hsc hen x5 λD1 D2 s6 x6=>⟨rfl,?_⟩));refine ub (kc ?_);rw[U9];refine PySem.wpAny_Assign_Name (ig (x6.Pt bh (by decide) (fX v.ga.hd (x6.fk F4) (x6.get 1 rfl) λh7 k7 hn7=>?_))) (by kernel_rfl);have x7:=x6.new (a:=s6.heap.objs.size+0) (o:=Iq D1) bc (mu 1 k7) hn7;refine x7.bind (p:=.addr (s6.heap.objs.size+0)) (.inl ((ek _).trans (by kernel_rfl))) rfl nofun λs8 x8=>⟨rfl,?_⟩
 refine ub (kc ?_);rw[T9];refine PySem.wpAny_Assign_Name (ig (x8.Pt (Ad (Ad bh (by decide)) (by decide)) (by decide) (fX v.ga.hd (x8.fk F4) (x8.get 1 rfl) λh9 k9 hn9=>?_))) (by kernel_rfl);have x9:=x8.new (a:=s8.heap.objs.size+0) (o:=Iq D2) bc (mu 1 k9) hn9;refine x9.bind (p:=.addr (s8.heap.objs.size+0)) (.inl ((ek _).trans (by kernel_rfl))) rfl nofun λs10 x10=>⟨rfl,?_⟩
 refine ub (kc ?_);rw[S9];refine PySem.wpAny_Assign_Name (Tg x10.st.re ((ek _).trans (by kernel_rfl)) (Vt (i:=0) w rfl rfl) (by decide) ?_) (by kernel_rfl);refine x10.bind (p:=.addr 1888) (.inl ((ek _).trans (by kernel_rfl))) rfl nofun λs11 x11=>⟨rfl,?_⟩
 refine ub (kc ?_);rw[R9];refine PySem.wpAny_Assign_Name (Tg x11.st.re ((ek _).trans (by kernel_rfl)) (Vt (i:=1) w rfl rfl) (by decide) ?_) (by kernel_rfl);refine x11.bind (p:=.addr 1890) (.inl ((ek _).trans (by kernel_rfl))) rfl nofun λB7 x12=>⟨rfl,?_⟩
 refine ub ?_;rw[Q9];refine jr (λZ=>rfl) (x12.Pt (Ad (Ad (Ad (Ad (Ad (Ad (Ad bh (by decide)) (by decide)) (by decide)) (by decide)) (by decide)) (by decide)) (by decide)) (by decide) ?_);have a5d:=x12.base (l ht tn);refine wpAny_pyIter_tuple (items:=#[.ref ec]) ⟨_,a5d,hot.1,m,hot.2⟩ ?_;have x13:=x12.new (a:=B7.heap.objs.size) (o:=WS t 0) (s':={B7 with heap:=B7.heap.push (WS t 0)}) bc (.push _) (qa _ rfl);refine RD v.ga.hd (.inl ((ek _).trans (by kernel_rfl))) x13 (l ht tn) hot λoIt s14 c6=>?_;have H:s14.gens=E.gens:=c6.gens;have a5s:Zs w ((A.deeper ν).in1) a u.gens.size C I [b,dd,d,c] ((bs.length+7) / 8) (NG λi=>Wk (Ln bs (8*i))) 0 s14:=by
  have m:=λz hz o e=>y5.same c6 (b:=z) (hz:(∃o,(Dm s.heap 1940).get? z=ac o)\/_) o e;exact Jz J (by rw[H]) (Ld (m _ (.inr ⟨oa,mg 0 rfl,mg 5 rfl⟩)) (Ld (m _ (.inr ⟨oC,mg 1 rfl,mg 6 rfl⟩)) (Ld (m _ (.inr ⟨oI,mg 2 rfl,mg 7 rfl⟩)) (acA (λz hz=>m z (.inl (um F4 z hz)))
   (Ld (m _ (.inl ⟨_,l hb a1g⟩)) (Ld (m _ (.inl ⟨_,l JK YW⟩)) (Ld (m _ (.inl ⟨_,l hd a1d⟩)) (Ld (m _ (.inr ⟨oc,mg 3 rfl,mg 8 rfl⟩)) Sl))))))))
 have hB2:∀i,i < room->0<=Wk (Ln bs (8*i))/\Wk (Ln bs (8*i)) < 256:=λi hi=>rz (Su hB _) (au (by lia));refine iU (N:=N+3) (ex:=[b,dd,d,c]) (rest:=[(c,oc),(1940,{cls:=.none,data:=.fields ps4})]) (gi:=u.gens.size) (n:=(bs.length+7) / 8) (f:=λi=>Wk (Ln bs (8*i))) (gen:=gen) (gvs:=gvs) (gn:=gn) (room:=room) (total:=total) (ta:=ta) (tb:=tb) (tc:=tc) v F4 hsc hi c6 ?_ rfl rfl rfl rfl rfl ?_ (l he en) (l hed edn) hgp a5s hn (by lia) hB2 ?_ ?_ (l hgt gtn) hgi (by lia) hgl hgb λbk ck O g15 x15=>⟨rfl,x15.get 0 rfl,x15.base (l ht tn),λh16 a5n=>⟨_,rfl,rfl,?_⟩⟩
 ·exact Ld (.inl ⟨_,l hb a1g⟩) (Ld (.inl ⟨_,l JK YW⟩) (Ld (.inl ⟨_,l hd a1d⟩) (Ld (.inr ⟨oc,.head _⟩) Sl)))
 ·exact Ld rfl (Ld rfl (Ld rfl (Ld rfl (Ld rfl (Ld rfl (Ld rfl (Ld rfl (Ld rfl (Ld rfl (Ld rfl (Ld rfl Sl)))))))))))
 ·exact F4.uf 19 rfl rfl
 ·exact F4.uf 18 rfl rfl
 have k:=x15.RZ (h':=h16) (tk:=O.toks) a5n;generalize a5f:({O with heap:=h16,toks:=O.toks}:aa)=r at k;have a9P:r.gens=O.gens:=by rw[<- a5f]
 refine Hl ?_;rw[P9];refine ir (kc (ak (Gf (xs:=[eval (.Name "data_blocks" _) ν,eval (.Name "error_blocks" _) ν]) ?_)));refine k.Pt rfl (by decide) (k.Pt rfl (by decide) ⟨(show 2<=mc by decide),⟨_,rfl⟩,?_⟩);have cls:∀{z:ma} {o:Jb},s.heap.get? z=ac o->∃o',r.heap.get? z=ac o':=λ{z o} e=>by
  by_cases q:z=1940
  ·subst q;exact⟨_,k.get 5 rfl⟩
  ·exact⟨_,k.base (l e q)⟩
 have fr:∀(i:Nat) {z:ma} {o:Jb},([(D2,wb [.ref ck] 1),(D1,wb [.ref bk] 1),(bk,Tb (Wa ((Ea room).map λi=>Wk (Ln bs (8*i))))),(ck,Tb (Wa ((Yj gen gen.length room ((Ea room).map (λi=>Wk (Ln bs (8*i)))++Qa gen.length 0)).drop room))),(c,oc),(1940,{cls:=.none,data:=.fields ps4})]:List (ma×Jb))[i]?=ac (z,o)->i≠5->s.heap.get? z=a6:=by
  intro i z o e hi5;have h40:z≠1940:=k.ne e (j:=5) rfl hi5;cases q:s.heap.get? z with
  |none=>rfl
  |some o'=>exact absurd (l q h40) (k.nb _ (Cb e) o')
 have up:∀{z:ma} {o:Jb},r.heap.get? z=ac o->(r.heap.push (nh [.ref D1,.ref D2] 0)).get? z=ac o:=λe=>ea _ e;have frT:s.heap.get? r.heap.objs.size=a6:=by
  cases q:s.heap.get? r.heap.objs.size with
  |none=>rfl
  |some o=>obtain ⟨o',e'⟩:=cls q;exact absurd (Ha e') (je _)
 have hdl:((Ea room).map λi=>Wk (Ln bs (8*i))).length=room:=by rw[cb,Ac]
 have key:=hQ r.heap.objs.size D1 D2 bk ck (r.heap.push (nh [.ref D1,.ref D2] 0)) r.toks O.gens ps4 (λz o hz e=>up (k.base (l e hz))) ?_ ?_ (qa _ rfl) (up (k.get 1 rfl)) (up (k.get 0 rfl)) (up (k.get 2 rfl)) ?_ ?_ ?_
 ·have est:∀X,({r with heap:=X}:aa)={s with heap:=X,toks:=r.toks,gens:=O.gens}:=λX=>by
   obtain ⟨h,tk,e⟩:=k.st.sh;rw[e]
  show Q (.ref r.heap.objs.size) {r with heap:=r.heap.push (nh [.ref D1,.ref D2] 0)}
  rw[est];exact key
 ·have e1:E.heap.get? 1944=ac (jx w):=y5.kp.get (F4.uf 40 rfl rfl);rw[hh4] at e1;exact G0.mv e1 G0.tab (up (k.kp.get (F4.uf 40 rfl rfl))) (up (k.get 5 rfl))
 ·intro hb0;refine g15.bare λy hy=>?_;rw[H,<- bS] at hy;have hy:y∈u.gens.push gs4:=hy;rw[M0] at hy;rcases HS.mp hy with hy|rfl
  ·exact hb0 y hy
  ·exact XP
 ·unfold qh;rw[hdl];exact up (k.get 3 rfl)
 ·exact Ld frT (Ld (fr 1 rfl (by decide)) (Ld (fr 0 rfl (by decide)) (Ld (fr 2 rfl (by decide)) (Ld (fr 3 rfl (by decide)) Sl))))
 ·have t:=λi z o (e:_=ac (z,o))=>Td (Ha (k.get (b:=z) (o:=o) i e));have n:=λi j a o b o' e e'=>k.ne (i:=i) (j:=j) (a:=a) (b:=b) (o:=o) (o':=o') e e';exact .cons (Ld (t 1 _ _ rfl) (Ld (t 0 _ _ rfl) (Ld (t 2 _ _ rfl) (Ld (t 3 _ _ rfl) Sl)))) (.cons (Ld (n 1 0 _ _ _ _ rfl rfl (by decide)) (Ld (n 1 2 _ _ _ _ rfl rfl (by decide)) (Ld (n 1 3 _ _ _ _ rfl rfl (by decide)) Sl)))
   (.cons (Ld (n 0 2 _ _ _ _ rfl rfl (by decide)) (Ld (n 0 3 _ _ _ _ rfl rfl (by decide)) Sl)) (.cons (Ld (n 2 3 _ _ _ _ rfl rfl (by decide)) Sl) (.cons Sl .nil))))
noncomputable def Bf:List Ya:=(Zf (Wi 17)).2.1
theorem I8:Bf=[fa Bf 0,fa Bf 1,fa Bf 2,fa Bf 3,fa Bf 4,fa Bf 5,fa Bf 6,fa Bf 7,fa Bf 8,fa Bf 9,fa Bf 10,fa Bf 11,fa Bf 12,fa Bf 13]:=by kernel_rfl
theorem H8:fa Bf 0=.Expr (.Constant (.str (i3 (fa Bf 0))) 0 (aV (fa Bf 0)).pos) (aP (fa Bf 0)):=by kernel_rfl
noncomputable def mY:Ar:=aAr (fa Bf 1)
noncomputable def bT:List Ya:=aB (fa Bf 1)
noncomputable def sW:He:=aSc (fa Bf 1)
noncomputable def tbD:Oa:=(mY.defaults.headD Aw)
theorem G8:fa Bf 1=.FunctionDef "to_binary" mY bT [] a6 [] sW a6 "to_binary" (aP (fa Bf 1)):=by kernel_rfl
theorem jN:mY.kwonlyargs=[]/\mY.kw_defaults=[]/\mY.defaults=[.Constant (.int 8) 0 tbD.pos]:=by
 refine⟨by kernel_rfl,by kernel_rfl,by kernel_rfl⟩
theorem qG{l:List (Ba×Lc)}(h:l.all (λy=>y.2 != .free)=a8):∀y∈l,y.2≠.free:=λy a=>by
 have:=Aa.mp h y a
 simpa using this
theorem bAt(F:Fk w s.heap){Pl:ma}(h:Pl≠4):s.heap.BuiltinsAt (OT w) Pl:=
 ⟨4,kO w,FO w,by decide,by decide,qb h,F.t (4,kO w) (za 2 rfl),rfl,rfl,rfl⟩
noncomputable abbrev HA(w:sa)(q:Ba)(a:Value)(c':ma)(doc:Value):Qm:=defFd "to_binary" q mY bT sW Kd a .none a6 ((OT w "__name__").getD .none) (.ref c') doc
set_option tactic.hygienic true in
theorem tV(hh:A.handled=a6)(x:SX w ν σ ς B L s)(F:Fk w s.heap)(G:ν.code=.ref 1894)(H:ve s.heap 1894 1892 #[])(ap:Ap ν 1892)(nb:∀o,¬B 1892 o)(nl:∀e∈L,e.1≠1892)(hk:ν.kindOf "to_binary"=ac Bh){Q:Ff->aa->Prop}
  (hQ:∀f c' P' T t doc op oc oP s',SX w ν ((("to_binary":Ba),P.addr f)::σ) ς B ((f,⟨.type "function",a6,.func (HA w (Wr ν "to_binary" "to_binary") (.ref T) c' doc),#[]⟩)::(T,nh [.int 8 t] 0)::(c',oc)::(P',oP)::(1892,op)::L) s'->
   (∃O,∀h:Xb,h.get? 1894=ac (Js w)->h.get? 1892=ac op->ve h 1894 1892 O)->(∀h:Xb,h.get? c'=ac oc->h.CodeRec (.ref c') (Wr ν "to_binary" "to_binary"))->(∀h:Xb,h.get? c'=ac oc->h.get? P'=ac oP->ve h c' P' #[])->Q .next s'):
  wpAny (ja PP w) A (Cg (fa Bf 1) ν) Q Hc s:=by
 rw[G8,exec_def,defaultsOf_eq,jN.2.1,jN.2.2];refine Kb (Fb (Kb (Ta ?_)));refine Kb ?_;show wpAny _ _ (eval (.Constant (.int 8) 0 tbD.pos) ν>>=λv=>holding [v] (evalAll [])>>=λr=>pure (v::r)) _ _ _
 refine Kb (qd (Kb (Ta (la (la ?_)))));refine Kb (Ta (la ?_));refine Ta ?_;refine Kb (Ga (a:=[]) (by kernel_rfl) ?_);have gs:=sf F;have hcN:∀h:Xb,s.heap.get? 1894=ac (Js w):=λ_=>F.uf 34 rfl rfl;refine Lr (s:={s with toks:=s.toks+1}) (mg:=OT w) (c:=1894) (Pl:=1892) (ps:=#[]) (cl:=[]) jN.1 (closureFor_none (qG (by kernel_rfl))) (by rw[x.st.eg];exact gs.g) G H rfl (by rw[x.st.eg];decide) (bAt F (by decide))
  λdV ct c' doc h' tk hct E V m hlt j hrec Y=>?_
 obtain ⟨P',i,d⟩:=Y;obtain rfl:=hct rfl;dsimp only at V m i E ⊢;rcases E with ⟨q,_⟩|⟨_,T,rfl,l,hT⟩
 ·exact nomatch q
 refine d.obj.elim λoc q=>j.obj.elim λo1 u=>?_;rw[x.st.eg] at *;generalize I:({cls:=.type "function",data:=.func (fdC "to_binary" (Wr ν "to_binary" "to_binary") mY bT sW Kd [] .none (.ref T) ((OT w "__name__").getD .none) (.ref c') doc)}:Jb)=J;have up:∀{z:ma} {o:Jb},h'.get? z=ac o->(h'.push J).get? z=ac o:=λe=>ea _ e;have hf:(h'.push J).get? h'.objs.size=ac J:=qa _ (by rw[<- I];rfl);have fr:∀{z:ma},s.heap.objs.size<=z->s.heap.get? z=a6:=λh=>Qe h;have k:s.heap.objs.size<=h'.objs.size:=ka m (uc hlt);have y:∀{z:ma},s.heap.objs.size<=z->∀e∈L,e.1≠z:=λ{z} h e he=>dh (x.st.ks e.1 e.2 (.inr he)) (fr h);have C:∀{z:ma},s.heap.objs.size<=z->∀o,¬B z o:=λh o q=>nomatch (x.base q).symm.trans (fr h)
 have D:∀{z:ma},s.heap.objs.size<=z->(1892:ma)≠z:=λh=>dh H.tab (fr h);have y0:SX w ν σ ς B L {s with heap:=h'.push J,toks:=tk}:=by
  have:=x.move (s':={s with heap:=h'.push J,toks:=tk}) (wr:=[1892]) (λb hb=>by rw[Ca.mp hb];exact⟨ap,nb,nl⟩) (λb o hb e=>up (V b o (λq=>hb (q▸.head _)) e)) rfl rfl;have e:({ς with gens:=s.gens}:aa)=ς:=by rw[x.gens]
  rw[e] at this;exact this
 have cT:∀{z:ma} {o:Jb},h'.get? z=ac o->(∃vs,o.data=.fields vs)->z≠T:=λe n q=>n.elim λvs n=>nomatch n.symm.trans (congrArg CX (xa (e.symm.trans ((congrArg h'.get? q).trans hT))))
 have y1:=y0.Zo ap nb nl (up j.tab);have y2:=y1.Zo (x.st.ap (fr i)) (C i) (Ld (D i) (y i)) (up d.tab);have y3:=y2.Zo (x.st.ap (fr m)) (C m) (Ld (qb q.2.2) (Ld (D m) (y m))) (up q.1);have y4:=y3.Zo (x.st.ap (fr l)) (C l) (Ld (cT q.1 q.2.1) (Ld (cT d.tab ⟨_,rfl⟩) (Ld (D l) (y l)))) (up hT);have y5:=y4.Zo (x.st.ap (fr k)) (C k) (Ld (Na (Ha hT)) (Ld (Na (Ha q.1)) (Ld (Na (Ha d.tab)) (Ld (D k) (y k))))) hf;refine Kb (Fb (Kb (Bo ?_)));refine y5.bind (p:=.addr h'.objs.size) (.inr hk) rfl nofun λs' x'=>la ?_
 have e94:h'.get? 1894=ac (Js w):=V _ _ (by decide) (F.uf 34 rfl rfl);rw[<- I] at x';refine hQ h'.objs.size c' P' T _ doc _ oc _ s' x' ⟨_,λh M a2=>j.mv e94 j.tab M a2⟩ (λh M=>?_) (λh M a2=>d.mv q.1 d.tab M a2);exact hrec.elim λc2 z=>z.elim λo2 z=>z.elim λN z=>z.elim λt2 z=>by
  obtain rfl:=cg z.1;exact⟨c',oc,N,t2,rfl,M,xa (z.2.1.symm.trans q.1)▸z.2.2⟩
def JN(a:Pa)(S:T3)(B:List Ya)(w:sa)(r:ma)(t u v:Nat)(m k:Nat):Prop:=
 mn Rh (Vb Ra) a w 18 ⟨a8,[(r,⟨.type "range",a6,.fields #[.int 0 t,.int 8 u,.int 1 v],#[]⟩)],m,[],[.k 0,.k 0,.k 0,.k 0,.k 0,.n 0],[]⟩ k (.top (call (.type "reversed") [.ref r]))=ac (⟨a8,[(r,⟨.type "range",a6,.fields #[.int 0 t,.int 8 u,.int 1 v],#[]⟩)],m,[⟨.type "range_iterator",a6,.fields #[ee 7,ee 8,ee (-1)],#[]⟩],[],[(m+0,m+0),(r,r),(r,r),(r,r),(r,r),(r,r)]⟩,k+0,.top (.pure (.ref (m+0))))
lay_quick Mine.JN
theorem HN(w:sa)(r:ma)(t u v:Nat)(m k:Nat):JN PP (Qd w) Hb w r  t u v  m k:=wf (P:=λz=>JN PP (Qd w) Hb z r  t u v  m k) w λa=>by
 rw[Fast.te8731272295985655442];unfold Fast.tw8731272295985655442;cases a <;> kernel_rfl
theorem a3R{r:ma}{t u v:Nat}{Q:_->aa->Prop}(b:A.handled=a6)(F:Fk w s.heap)(hr:s.heap.get? r=ac (⟨.type "range",a6,.fields #[.int 0 t,.int 8 u,.int 1 v],#[]⟩))
  (a:∀h',(∀x o,s.heap.get? x=ac o->h'.get? x=ac o)->h'.get? (s.heap.objs.size+0)=ac (⟨.type "range_iterator",a6,.fields #[ee 7,ee 8,ee (-1)],#[]⟩)->Q (.ref (s.heap.objs.size+0)) {s with heap:=h',toks:=s.toks+0}):wpAny (ja PP w) A (call (.type "reversed") [.ref r]) Q E s:=
 ng b (HN w r  t u v  s.heap.objs.size s.toks) [s.heap.objs.size+0,r,r,r,r,r] rfl (Ld hr Sl) rfl rfl λh' hk hn=>a h' hk (hn 0 _ rfl rfl)
section
variable{G:Gl}
theorem Hv{fd:Qm}{body:List Ya}{binds:List (Ba×Value)}{R:Value->aa->Prop}
  (g:GA (N+2) A) (gs:GS G s.heap) (Y:s.heap.get? a=ac o) (hd:o.data=.func fd) (I:s.heap.CodeRec fd.code fd.qualname) (l:fd.body=.stmts body) (hb:mh s fd ⟨vs,[]⟩ binds)
  (hk:fd.scope.kind=.function) (H:fd.scope.isCoroutine=be) (r:fd.scope.isGenerator=be) (hg:fd.globals=Kd) (J:fd.builtins=td) (t:fd.closure=[])
  (n:(binds.map (·.1)).all (λx=>fd.scope.names.lookup x==ac .local||fd.scope.names.lookup x==ac .cell)=a8) (B:Gu (binds.map (·.1))=a8) (k:∀x,fd.scope.names.lookup x≠ac .free)
  (hm:Ys s.heap rd δ σ binds) (L:∀x y ns ms,x≠y->σ.lookup x=ac (.il ns)->σ.lookup y=ac (.il ms)->δ x≠δ y)
  (h:∀i ν,ν=bg fd s.heap.objs.size a->GA N (A.deeper ν)->St G ν rd σ δ s (Uv s) i->wpAny (ja π w) (A.deeper ν) (Oc body ν) (λf s'=>∃v,f=.ret v/\R v s') Hc i):
  wpAny (ja π w) A (call (.ref a) vs) R Hc s:=by
 have nd:=sm B;have j:∀x∈binds,fd.scope.names.lookup x.1=ac .local\/fd.scope.names.lookup x.1=ac .cell:=by
  intro x D;have:=Aa.mp n x.1 (ze D)
  simpa using this
 refine Iw (KR g.room Y hd H r l I (hb _ _ _ _ ?_));rw[t];refine pF hk (λx D=>?_) λν he i x=>?_
 ·rcases j x D with q|q
  ·exact .inl q
  ·exact .inr ⟨q,cellsFrom_some _ _ _ _ (.inl (Qc q))⟩
 have E:ν=bg fd s.heap.objs.size a:=he;clear he;subst E;refine⟨gs.lim.keeps x.toInCall.keep,codeAny_func ?_⟩
 generalize d:bg fd s.heap.objs.size a=ν at x ⊢;have T:ν.scope=fd.scope:=by subst d;rfl
 have Q:ν.locals=s.heap.objs.size:=by subst d;rfl
 have e3:ν.globals=fd.globals:=by subst d;rfl
 have O:ν.cells=uh (s.heap.objs.size+1) fd.scope.names []:=by subst d;rfl
 have e5:ν.builtins=fd.builtins:=by subst d;rfl
 have u:∀x,ν.kindOf x=fd.scope.names.lookup x:=λx=>by unfold Md;rw[T]
 have gd:GA N (A.deeper ν):=((g.mono (Se _)).deeper ν);have C:=h i ν d.symm gd ?_
 ·exact Ub C (λf s' q=>by obtain ⟨v,rfl,q⟩:=q;exact q) λZ Z q=>q.elim
 refine{kind:=(by rw[T];exact hk),eg:=e3.trans hg,eb:=e5.trans J,g0:=gs,sh:=x.toInCall.same,k0:=λb o e=>e,ks:=x.toInCall.keep,ns:=⟨_,x.toInCall.ns⟩,nl:=?_,ce:=?_,nc:=?_,inj:=?_,cells:=?_,look:=?_,new:=?_,apart:=λx y ns ms Z=>L x y ns ms}
 ·intro o e;rw[Q] at e;exact absurd (Ha e) (je _)
 ·exact λy c e=>⟨_,x.cell y c e⟩
 ·intro y c e V o q;have h1:=x.above y c (mem_of_lookup e);rw[Q] at h1;exact absurd (Ha q) (yf.mpr (uc h1))
 ·exact λy z c e V=>name_of_addr x.apart (mem_of_lookup e) (mem_of_lookup V)
 ·intro y m;rw[u] at m;rcases m with m|m
  ·rw[O];exact cellsFrom_some _ _ _ y (.inl (Qc m))
  ·exact absurd m (k y)
 ·intro y p e;refine ue λhC=>?_;obtain ⟨v,h1,h2,M⟩:=hm.look e;refine hC ?_;refine⟨v,?_,h2.keeps x.toInCall.keep,λns q=>(M ns q).1⟩
  rcases j (y,v) (Qc h1) with q|q
  ·exact .inl ⟨(u y).trans q,_,x.toInCall.ns,Gq ((u y).trans q) nd h1⟩
  ·have hc:((uh (s.heap.objs.size+1) fd.scope.names []).lookup y).isSome=a8:=cellsFrom_some _ _ _ y (.inl (Qc q));rw[<- O] at hc
   refine(Ud.mp hc).elim λc hc=>?_
   refine .inr ⟨.inl ((u y).trans q),c,hc,?_⟩;have:=x.cell y c hc;rw[dy (by rw[u y,q];decide) nd h1] at this;exact this
 ·intro y ns e hr;refine ue λhC=>?_;obtain ⟨v,_,_,M⟩:=hm.look e;refine hC ?_;exact absurd (M ns rfl).2 hr
end
noncomputable def TR:Oa:=aV (fa bT 0)
noncomputable def lY:Oa:=ch TR 0
noncomputable def kY:Oa:=gI TR 0
theorem j7:bT=[fa bT 0]:=by kernel_rfl
theorem i7:fa bT 0=.Return (ac (.GeneratorExp lY [⟨.Name "i" (gT TR 0).pos,kY,[],0⟩] (Hw TR) TR.pos)) (aP (fa bT 0)):=by kernel_rfl
theorem f7:kY=.Call (.Name "reversed" (ch kY 0).pos) [.Call (.Name "range" (ch (ch kY 1) 0).pos) [.Name "length" (ch (ch kY 1) 1).pos] [] (ch kY 1).pos] [] kY.pos:=by kernel_rfl
theorem g7:lY=.BinOp (.BinOp (.Name "val" (ch (ch lY 0) 0).pos) .RShift (.Name "i" (ch (ch lY 0) 1).pos) (ch lY 0).pos) .BitAnd (.Constant (.int 1) 0 (ch lY 1).pos) lY.pos:=by kernel_rfl
noncomputable def bz(v:Int)(n i:Nat):Int:=Tw (v.fdiv (2 ^ (n-1-i))) 1
theorem FL{q:Ba}{T c':ma}{doc x:Value}(hT:s.heap.get? T=ac (nh [.int 8 t] 0)):mh s (HA w q (.ref T) c' doc) ⟨[x],[]⟩ [("val",x),("length",.int 8 t)]:=by
 intro M A E Q b;show wpAny M A (RL (.ref T)>>=_) Q E s
 refine Kb (Ze (n:=0) hT (items:=#[.int 8 t]) rfl ?_);exact Ga (a:=([("val",x),("length",.int 8 t)]:List (Ba×Value))) (by kernel_rfl) b
theorem G7(h:i < n):(n:Int)-1+(i:Int)*-1=((n-1-i:Nat):Int):=by
 rw[fh (sj h),fh (jd (fc i) h),Int.mul_neg,SJ];rfl
theorem QQ{f T c' P':ma}{q:Ba}{doc:Value}{args:List Value}{v:Int}{x1 x2:Value}(g:GA (N+4) A)(F:Fk w s.heap)(hf:s.heap.get? f=ac ⟨.type "function",a6,.func (HA w q (.ref T) c' doc),#[]⟩)(hrec:s.heap.CodeRec (.ref c') q)(Y:ve s.heap c' P' ps)(hP:P'∉Lh)
  (hb:mh s (HA w q (.ref T) c' doc) ⟨args,[]⟩ [("val",x1),("length",x2)]) (h1:∃u,x1=.int v u) (h2:∃u,x2=.int n u) (hn:1<=n/\n<=8)
  (a5g:∀{A:Wc} {s':aa} {r:ma} {t u v:Nat} {Q:Value->aa->Prop},A.handled=a6->Fk w s'.heap->s'.heap.get? r=ac ⟨.type "range",a6,.fields #[.int 0 t,.int n u,.int 1 v],#[]⟩->
   (∀h',(∀x o,s'.heap.get? x=ac o->h'.get? x=ac o)->h'.get? (s'.heap.objs.size+0)=ac ⟨.type "range_iterator",a6,.fields #[ee ((n:Int)-1),ee n,ee (-1)],#[]⟩->Q (.ref (s'.heap.objs.size+0)) {s' with heap:=h',toks:=s'.toks+0})->wpAny (ja PP w) A (call (.type "reversed") [.ref r]) Q Hc s')
  (hQ:∀a C I c h' tk gs O,gs.bare=a8->s.heap.get? a=a6->s.heap.get? C=a6->s.heap.get? I=a6->s.heap.get? c=a6->GR P' s h'->ve h' c' P' O->h'.IsGen a s.gens.size->(∀b∈[C,I,c],∃o,h'.get? b=ac o)->
   (∀B:Wc,B.handled=a6->Zs w B a s.gens.size C I [c] n (NG (bz v n)) 0 {s with heap:=h',gens:=s.gens.push gs,toks:=tk})->
   Q (.ref a) {s with heap:=h',gens:=s.gens.push gs,toks:=tk}):
  wpAny (ja PP w) A (call (.ref f) args) Q Hc s:=by
 refine ue λhC=>?_;obtain ⟨u1,rfl⟩:=h1;obtain ⟨u2,rfl⟩:=h2;refine hC ?_;refine Hv (N:=N+2) (G:=GW w) (rd:=[]) (σ:=[("val",.int v),("length",.int n)]) (δ:=λZ=>0) (body:=bT) g (sf F) hf rfl hrec rfl hb (by kernel_rfl) (by kernel_rfl) (by kernel_rfl) rfl rfl rfl (by kernel_rfl) (by kernel_rfl) (Wq (by kernel_rfl))
  ⟨⟨rfl,⟨_,rfl⟩,nofun⟩,⟨rfl,⟨_,rfl⟩,nofun⟩,trivial⟩ (λx y ns ms Z e=>(Fg rfl e).elim) λd ν he H j=>?_
 have l:=j.kp;have hsc:ν.scope=sW:=by subst he;rfl
 have KD:ν.code=.ref c':=by subst he;rfl
 have J:ν.cells=uh (s.heap.objs.size+1) sW.names []:=by subst he;rfl
 have ek:∀x,ν.kindOf x=sW.names.lookup x:=λx=>by unfold Md;rw[hsc]
 rw[j7];refine wpAny_execs_cons ?_;rw[i7];refine wpAny_Return_some ?_;have F1:=F.kp l;refine ue λhC=>?_;obtain ⟨vv,hv,⟨uv,rfl⟩,_⟩:=j.look "val" (.int v) rfl;refine hC ?_;obtain ⟨c,hc,D⟩:∃c,ν.cells.lookup ("val":Ba)=ac c/\d.heap.IsCell c (ac (.int v uv)):=by
  rcases hv with ⟨q,_⟩|⟨_,c,h1,h2⟩
  ·rw[ek] at q;have:sW.names.lookup ("val":Ba)=ac Bh:=by kernel_rfl
   rw[this] at q;exact nomatch q
  ·exact⟨c,h1,h2⟩
 have e0:uh (s.heap.objs.size+1) sW.names []=[(("val":Ba),s.heap.objs.size+1)]:=by kernel_rfl
 have hcl:ν.cells=[(("val":Ba),c)]:=by
  rw[J,e0] at hc ⊢;exact congrArg (λx=>[(("val":Ba),x)]) (xa (show ac (s.heap.objs.size+1)=ac c from hc))
 have p:s.heap.get? c=a6:=by
  cases e:s.heap.get? c with
  |none=>rfl
  |some o=>exact absurd e (j.nc "val" c hc ((ek _).trans (by kernel_rfl)) o)
 have L:=j.re;refine ue λhC=>?_;obtain ⟨_,t2',M,_⟩:=id l;refine hC ?_;have E:d.gens=s.gens:=by rw[M]
 refine gJ (cl:=[("val",c)]) (cc:=c') (PT:=P') (ps:=ps) (ex:=[c]) (a:=(n:Int)-1) (c:=-1) (n:=n) (Fv:=λi y=>∃t,y=.int (bz v n i) t)
  H.hd H.room F1 j.eg j.eb (by kernel_rfl) ?_ (Xq (by kernel_rfl)) (by kernel_rfl) (by kernel_rfl) (by kernel_rfl) KD (Y.keeps λZ Z e=>l.get e) ?_ ?_ ?_ (λZ=>rfl) ?_ ?_
 ·rw[qg (scope:=Hw TR) (ν:=ν) ?_]
  ·rw[hcl];kernel_rfl
  ·intro y V hfr;rw[hcl];have:(Hw TR).names.all (λy=>y.2 != .free||y.1=="val")=a8:=by kernel_rfl
   have q:=Aa.mp this y V;rw[hfr] at q;have q:y.1="val":=by simpa using q
   rw[q];rfl
 ·exact λq=>(we.mp q).elim hP λq=>nomatch Y.tab.symm.trans ((congrArg s.heap.get? (Ca.mp q)).trans p)
 ·intro z hz;rw[Ca.mp hz];refine ue λhC=>?_;obtain ⟨o,e,_⟩:=D;refine hC ?_;exact⟨o,e⟩
 ·rw[f7];refine Rc ⟨_,_,rfl⟩ (name_buil L ((ek _).trans (by kernel_rfl)) (oe w (by decide)) (v:=.type "reversed") (by kernel_rfl) (by decide) (by decide) ?_);refine md (xs:=[eval (.Call _ _ [] _) ν]) (show 1<=30 by decide) ?_;refine Rc ⟨_,_,rfl⟩ (name_buil L ((ek _).trans (by kernel_rfl)) (oe w (.tail _ (.head _))) (v:=.type "range") (by kernel_rfl) (by decide) (by decide) ?_);refine md (xs:=[eval (.Name _ _) ν]) (show 1<=30 by decide) ?_;refine ue λhC=>?_;obtain ⟨vl,hvl,⟨ul,rfl⟩,_⟩:=j.look "length" (.int n) rfl;refine hC ?_;refine vd j.kind hvl (by decide) (by decide) ?_;refine Ga (a:=vb) rfl ?_;refine Wj ?_;refine Ga (a:=vb) rfl ?_;generalize VW:({d with heap:=d.heap.push _,toks:=d.toks+1+1}:aa)=s3;have k3:Kp d s3:=VW▸⟨_,_,rfl,λZ Z e=>ea _ e⟩;have hr3:Pm s3.heap d.heap.objs.size 0 n 1 d.toks ul (d.toks+1):=VW▸qa _ rfl;refine a5g H.hd (F1.kp k3) hr3 λh4 k4 hI4=>?_;have k4':Kp s3 {s3 with heap:=h4,toks:=s3.toks+0}:=mu 0 k4;have hI:Vc h4 (s3.heap.objs.size+0) ((n:Int)-1) n (-1):=hI4;refine Ur hI ⟨_,rfl,k3.trans' k4',Ab k3 bc,hI⟩
 ·intro C code A' i t m s' hA hi hk XW hm';have ad:∀z∈Lh,∀o,d.heap.get? z=ac o->s'.heap.get? z=ac o:=λz hz o e=>hk z (qe _ hz) o e;have F':=F1.AI ad;have hc':s'.heap.IsCell c (ac (.int v uv)):=by obtain ⟨o,e,q⟩:=D;exact⟨o,hk c (Mc _ (va ..)) _ e,q⟩
  rw[G7 hi] at hm';have r':RE (GW w) (uF (Hw TR) [("val",c)] C code td ν) [("i",.int ((n-1-i:Nat):Int)),("val",.int v)] s':=by
   refine eX (x:="i") (v:=.int ((n-1-i:Nat):Int) t) (m:=m) (by kernel_rfl) j.eg (sf F') (by kernel_rfl) XW hm' ⟨t,rfl⟩ ?_ ?_
   ·exact λy q e=>by rw[(jF e).1,<- (jF e).2];exact⟨by kernel_rfl,c,.int v uv,rfl,hc',⟨_,rfl⟩⟩
   ·have e1:(Hw TR).names.all (λy=>y.2 != .cell&&(y.2 != .free||y.1=="val"))=a8:=by kernel_rfl
    have:∀{y k},(Hw TR).names.lookup y=ac k->(k != .cell&&(k != .free||y=="val"))=a8:=λhk=>Aa.mp e1 _ (Qc hk);exact λy V=>V.elim (λV=>nomatch this V) λV=>by rw[eq_of_beq (show(y=="val")=a8 from this V)];rfl
  rw[g7];refine Mg (Mg (Ij r' rfl rfl λv1 h1=>Ij r' rfl rfl λv2 h2=>?_));refine ue λhC=>?_;obtain ⟨w1,rfl⟩:=h1;obtain ⟨w2,rfl⟩:=h2;refine hC ?_;refine rshift_int (by omega) (qd (and_int ⟨⟨_,rfl⟩,?_⟩));exact⟨s'.heap,_,rfl,λZ Z e=>e⟩
 ·intro a C I h' tk gs O h1 h2 h3 h4 h5 h6 h7 h8 h9;have e:∀(h:Xb) (g:Array Oe) (t:Nat),({d with heap:=h,gens:=g,toks:=t}:aa)={s with heap:=h,gens:=g,toks:=t}:=λh g t=>by rw[M]
  rw[E] at h7 h8;rw[E];refine⟨_,rfl,?_⟩
  have key:=hQ a C I c h' tk gs O h1 (Ab l h2) (Ab l h3) (Ab l h4) p (λz o hz q=>h5 z o hz (l.get q)) h6 h8
   (Ld (h9 _ (.head _)) (Ld (h9 _ (.tail _ (.head _))) (Ld (D.imp λo q=>h5 _ o (λq'=>nomatch Y.tab.symm.trans ((congrArg s.heap.get? q').symm.trans p)) q.1) Sl))) (λB hB=>e _ _ _▸h7 B hB)
  rw[<- e] at key;exact key
section
noncomputable abbrev oM(a d i0 c i1 e b i2:Oa)(scope:He)(pos:Sd):Oa:=.ListComp a [⟨d,i0,[],0⟩,⟨c,i1,[e],0⟩,⟨b,i2,[],0⟩] scope pos
set_option tactic.hygienic true
theorem WX(a d i0 c i1 e b i2:Oa)(scope:He)(pos:Sd)(it jh:Value)(ν:Al):
  compTurn (oM a d i0 c i1 e b i2 scope pos) 2 it jh ν=(standAt i2.pos>>=λ_=>Vh it>>=λr=>match r with
   |none=>pure (.done .next)
   |some v=>Vg b it v>>=λ_=>Qk b ν v>>=λ_=>
    (eval a ν>>=λx=>call (.builtin "list.append") [jh,x]>>=λ_=>pure ())>>=λ_=>
     again (.compLoop (oM a d i0 c i1 e b i2 scope pos) 2 it jh ν)):=by rfl
theorem YX(a b i0 d i1 f c i2:Oa)(scope:He)(pos:Sd)(it jh:Value)(ν:Al):
  compTurn (oM a b i0 d i1 f c i2 scope pos) 0 it jh ν=(standAt i0.pos>>=λ_=>Vh it>>=λr=>match r with
   |none=>pure (.done .next)
   |some v=>Vg b it v>>=λ_=>Qk b ν v>>=λ_=>
     eval i1 ν>>=λx=>standAt i1.pos>>=λ_=>Me i1 ν x>>=λx=>holding [x] (Gi x)>>=λe=>qM (.compStart (oM a b i0 d i1 f c i2 scope pos) 1 e jh ν) ν>>=λ_=>
     again (.compLoop (oM a b i0 d i1 f c i2 scope pos) 0 it jh ν)):=by
 unfold compTurn;rfl
theorem XX(a f i0 b i1 d e i2:Oa)(scope:He)(pos:Sd)(it jh:Value)(ν:Al):
  compTurn (oM a f i0 b i1 d e i2 scope pos) 1 it jh ν=(standAt i1.pos>>=λ_=>Vh it>>=λr=>match r with
   |none=>pure (.done .next)
   |some v=>Vg b it v>>=λ_=>Qk b ν v>>=λ_=>
    (forIn [d] a8 λc r=>if r=a8 then do let ok <- PySem.isTrue c ν (eval c ν);pure (Tc ok) else pure (Tc r))>>=λok=>if ok=a8 then
     eval i2 ν>>=λx=>standAt i2.pos>>=λ_=>Me i2 ν x>>=λx=>holding [x] (Gi x)>>=λg=>qM (.compStart (oM a f i0 b i1 d e i2 scope pos) 2 g jh ν) ν>>=λ_=>
     again (.compLoop (oM a f i0 b i1 d e i2 scope pos) 1 it jh ν) else again (.compLoop (oM a f i0 b i1 d e i2 scope pos) 1 it jh ν)):=by
 unfold compTurn;rfl
set_option tactic.hygienic false
noncomputable def fB(p:Nat->Sd)(i0:Oa)(nm:Ba)(scope:He):Oa:=
 oM (.Name "bit" (p 0)) (.Name "k" (p 1)) i0 (.Name "block" (p 2)) (.Name nm (p 3)) (.Compare (.Name "k" (p 4)) [.Lt] [.Call (.Name "len" (p 5)) [.Name "block" (p 6)] [] (p 7)] (p 8)) (.Name "bit" (p 9))
  (.Call (.Name "to_binary" (p 10)) [.Subscript (.Name "block" (p 11)) (.Name "k" (p 12)) (p 13)] [] (p 14)) scope (p 15)
noncomputable def pE(scope:He)(C:ma)(ν:Al):Al:=Xd scope (jf ν.cells scope.names []) C ν
section
variable{p:Nat->Sd}{i0:Oa}{nm:Ba}{scope:He}{it jh:Value}{e:Al}
set_option tactic.hygienic true
theorem TS:compTurn (fB p i0 nm scope) 2 it jh e=(standAt (p 14)>>=λ_=>Vh it>>=λr=>match r with
   |none=>pure (.done .next)
   |some v=>Vg (.Name "bit" (p 9)) it v>>=λ_=>Qk (.Name "bit" (p 9)) e v>>=λ_=>
    (eval (.Name "bit" (p 0)) e>>=λx=>call (.builtin "list.append") [jh,x]>>=λ_=>pure ())>>=λ_=>again (.compLoop (fB p i0 nm scope) 2 it jh e)):=WX ..
theorem ZH:compTurn (fB p i0 nm scope) 0 it jh e=(standAt i0.pos>>=λ_=>Vh it>>=λr=>match r with
   |none=>pure (.done .next)
   |some v=>Vg (.Name "k" (p 1)) it v>>=λ_=>Qk (.Name "k" (p 1)) e v>>=λ_=>
     eval (.Name nm (p 3)) e>>=λx=>standAt (p 3)>>=λ_=>Me (.Name nm (p 3)) e x>>=λx=>holding [x] (Gi x)>>=λa=>qM (.compStart (fB p i0 nm scope) 1 a jh e) e>>=λ_=>
     again (.compLoop (fB p i0 nm scope) 0 it jh e)):=YX ..
theorem YH:compTurn (fB p i0 nm scope) 1 it jh e=(standAt (p 3)>>=λ_=>Vh it>>=λr=>match r with
   |none=>pure (.done .next)
   |some v=>Vg (.Name "block" (p 2)) it v>>=λ_=>Qk (.Name "block" (p 2)) e v>>=λ_=>
    (forIn [M4 (.Name "k" (p 4)) [.Lt] [.Call (.Name "len" (p 5)) [.Name "block" (p 6)] [] (p 7)] (p 8)] a8 λc r=>if r=a8 then do let ok <- PySem.isTrue c e (eval c e);pure (Tc ok) else pure (Tc r))>>=λok=>if ok=a8 then
     eval (.Call (.Name "to_binary" (p 10)) [.Subscript (.Name "block" (p 11)) (.Name "k" (p 12)) (p 13)] [] (p 14)) e>>=λx=>standAt (p 14)>>=λ_=>Me (.Call (.Name "to_binary" (p 10)) [.Subscript (.Name "block" (p 11)) (.Name "k" (p 12)) (p 13)] [] (p 14)) e x>>=λx=>
      holding [x] (Gi x)>>=λa=>qM (.compStart (fB p i0 nm scope) 2 a jh e) e>>=λ_=>
     again (.compLoop (fB p i0 nm scope) 1 it jh e) else again (.compLoop (fB p i0 nm scope) 1 it jh e)):=XX ..
end
set_option tactic.hygienic false
theorem YC{e:Oa}{d:Nat}{it jh:Value}{gc:Ck}(b:(clausesOf e)[d]?=ac gc)(f:(pz e d it jh ν).quiet=a8)(hf:(pz e d it jh ν).isFrame=be)(c:(gc.is_async != 0)=be)
  (a:∀(Q:Value->aa->Prop) (E:Value->aa->Prop),Q it s->wpAny (ja π w) (A.under (.compStart e d it jh ν)) (Gi it) Q E s) (hl:(Code.compLoop e d it jh ν).quiet=a8)
  (h:codeAny (ja π w) A (.compLoop e d it jh ν) R s):codeAny (ja π w) A (.compStart e d it jh ν) R s:=by
 refine codeAny_of_tree ?_;show wpAny _ _ (if (pz e d it jh ν).isFrame then (C5 e d it jh ν).onRaise (leaving ν) else (C5 e d it jh ν).onRaise (λx=>do ur x ν;standAt theWindowsPlace)) _ _ s
 rw[hf];refine wpAny_notedAt ?_;unfold C5;simp only[b,Option.elim_some,c];show wpAny _ _ (ask>>=_) _ _ s
 refine Kb (wpAny_askSetting (wpAny_ite ?_));split
 ·exact la ⟨hl,h⟩
 ·refine Kb (oi ?_);refine Kb (Fb ?_);exact Kb (a _ _ (la ⟨hl,h⟩))
end
section
set_option tactic.hygienic true
theorem TZ{p:Nat->Sd}{i0:Oa}{nm:Ba}{scope:He}{C I D Cc:ma}{gi:Nat}{ex:List ma}{f:Nat->Int}{cenv:Al}{m:Ba->Option Value}(T:A.handled=a6)(r:A.depth < xf)
  (hk:cenv.scope.kind=.function) (h1:cenv.kindOf "bit"=ac NameKind.local) (hC:cenv.locals=Cc) (hg:Zs w A a gi C I ex n (NG f) 0 s) (hz:ns.length+n<=2 ^ 20)
  (t:D∉a::C::I::(Lh++ex)) (z:Cc∉a::C::I::(Lh++ex)) (M:D≠Cc) (hD:fe s.heap D ns) (hn:s.heap.Ns Cc m)
  (V:∀s' B,Moved [D,Cc,C,I] (fg gi) s s'->fe s'.heap D (ns++(Ea n).map f)->s'.heap.Ns Cc B->R (.ok .next) s'):
  codeAny (ja PP w) A (.compLoop (fB p i0 nm scope) 2 (.ref a) (.ref D) cenv) R s:=by
 have W:=hg.walks T r;have gr:∀a:Array Oe,fg gi a a:=λ_=>.inl rfl;have gt:∀a b c:Array Oe,fg gi a b->fg gi b c->fg gi a c:=λ_ _ _ x y=>x.trans y;subst hC;have h:∀{b:ma},b∉a::C::I::(Lh++ex)->b∉[C,I]:=λhb q=>hb (W.sub _ q);refine By rfl (λk s'=>∃i B,i<=n/\k=n-i/\wu PP w A a gi C (I::(Lh++ex)) [I] (λ_=>a8) n (NG f) i s'/\fe s'.heap D (ns++(Ea i).map f)/\s'.heap.Ns cenv.locals B /\
  Moved [D,cenv.locals,C,I] (fg gi) s s') (λk s' hI=>?_) n ⟨0,m,fc _,rfl,hg.gen,by simpa using hD,hn,PJ gr⟩
 refine ue λhC=>?_;obtain ⟨i,B,hi,rfl,G,hl,J,hm⟩:=hI;refine hC ?_;show wpAny _ _ ((compTurn (fB p i0 nm scope) 2 (.ref a) (.ref D) cenv).onRaise (λx=>do ur x cenv;theTreesLotGoes x)) _ _ s'
 refine mC ?_;rw[TS];refine Kb (Fb (Kb ?_));by_cases g:i < n
 ·refine W.item i s' _ _ g G λv s1 Y E d=>?_;obtain ⟨u,rfl⟩:=Y;have Q:fe s1.heap D (ns++(Ea i).map f):=hl.keeps λo e=>d.heap D o (h t) e;have H:s1.heap.Ns cenv.locals B:=J.at' λo e=>d.heap _ o (h z) e;refine Kb (Ga (a:=()) rfl ?_);refine Kb (Ob (ie h1 H (λh2 L l=>?_) (by rw[hk];rfl)));refine Kb (Kb (vd (v:=.int (f i) u) hk (.inl ⟨h1,_,L,if_pos rfl⟩) (by decide) (by decide) ?_));have O:fe h2 D (ns++(Ea i).map f):=Q.keeps λo e=>l.extBut _ o M e;refine Kb (append_at O (by rw[Nb,cb,Ac];exact ka (Ec (uc g) _) (ka hz (by decide))) λh3 N j=>la (la ⟨rfl,n-(i+1),wt g (Xc i),i+1,_,g,rfl,?_,?_,L.sameBut j (qb M),?_⟩))
  ·refine W.frame (i+1) s1 h3 (s1.toks+1) E (Se _) λb hb o e=>j.extBut b o (λq=>t (q▸hb)) (l.extBut b o (λq=>z (q▸hb)) e)
  ·rw[Li,Ic,<- Nh];exact N
  ·refine(hm.trans gt (d.mono λb hb=>pa _ (pa _ hb))).then_heap (tk:=s1.toks+1) (Se _) λb o hb e=>?_
   exact j.extBut b o (λq=>hb (q▸.head _)) (l.extBut b o (λq=>hb (q▸.tail _ (.head _))) e)
 ·have:i=n:=Og hi (yf.mp g);subst this;refine W.done s' _ _ G λs1 d=>la ?_;refine V s1 B (hm.trans gt (d.mono λb hb=>pa _ (pa _ hb))) ?_ ?_
  ·exact hl.keeps λo e=>d.heap D o (h t) e
  ·exact J.at' λo e=>d.heap _ o (h z) e
end
structure MS(P' c':ma)(s s':aa):Prop where
 hp:∀b o,b≠P'->s.heap.get? b=ac o->s'.heap.get? b=ac o
 gb:(∀y∈s.gens,y.bare=a8)->∀y∈s'.gens,y.bare=a8
 gk:∀g,g < s.gens.size->s'.gens[g]?=s.gens[g]?
 dr:s'.drawn=s.drawn
 os:s'.os=s.os
 ok:∃ps,ve s'.heap c' P' ps
structure CW(w:sa)(ν:Al)(σ:List (Ba×P))(ς:aa)(B:ma->Jb->Prop)(L:List (ma×Jb))(s:aa)(P' f T c' X bk:ma)(nm q:Ba)(doc:Value)(t:xm)(oc:Jb)(data:List Int):Prop where
 x:SX w ν σ ς B L s
 fk:Fk w ς.heap
 ap:Ap ν P'
 nb:∀o,¬B P' o
 nl:∀e∈L,e.1≠P'
 pf:P'∉Lh
 hP:∃o,s.heap.get? P'=ac o
 hf:KL B L f ⟨.type "function",a6,.func (HA w q (.ref T) c' doc),#[]⟩
 hT:KL B L T (nh [.int 8 t] 0)
 hc:KL B L c' oc
 hrec:∀h:Xb,h.get? c'=ac oc->h.CodeRec (.ref c') q
 hX:KL B L X (wb [.ref bk] 1)
 hb:KL B L bk (Tb (Wa data))
 lf:σ.lookup ("to_binary":Ba)=ac (.addr f)
 lX:σ.lookup nm=ac (.addr X)
 by':dj data
 len:data.length<=200
section
variable{Sg:aa}{P' f T c' X bk:ma}{nm q:Ba}{doc:Value}{oc:Jb}{data:List Int}
set_option tactic.hygienic false
theorem CW.at(c:CW w ν σ ς B L s P' f T c' X bk nm q doc t oc data)(m:MS P' c' s s'):SX w ν σ {ς with gens:=s'.gens} B L s':=
 c.x.move (wr:=[P']) (λb hb=>by rw[Ca.mp hb];exact⟨c.ap,c.nb,c.nl⟩) (λb o hb e=>m.hp b o (λq=>hb (by simp[q])) e) m.dr m.os
theorem MS.step(m:MS P' c' s s')(k:Kp s' Sg):MS P' c' s Sg:=by
 obtain ⟨h,tk,rfl,c⟩:=k;refine m.ok.elim λps a=>?_;exact⟨λb o hb e=>c b o (m.hp b o hb e),m.gb,m.gk,m.dr,m.os,ps,a.keeps c⟩
theorem MS.size(m:MS P' c' s s'):s.gens.size<=s'.gens.size:=by
 refine(Qv s'.gens.size s.gens.size).elim (λh=>?_) λh=>?_
 ·have:=m.gk s'.gens.size h;rw[Cp (yb _),xh h] at this;cases this
 ·exact h
theorem PD{g:Nat}{a b:Array Oe}(x:fg g a b)(h:k≠g):b[k]?=a[k]?:=by
 rcases x with rfl|⟨⟨_,c⟩,_⟩
 ·rfl
 ·exact c k h
theorem MS.but(m:MS P' c' s s'){wr:List ma}{G:Array Oe->Array Oe->Prop}(h:Moved wr G s' Sg)(t:∀a b,G a b->(∀y∈a,y.bare=a8)->∀y∈b,y.bare=a8)(p:∀a b,G a b->∀g,g < s.gens.size->b[g]?=a[g]?)(n:∀b∈wr,s.heap.get? b=a6)(hP:P'∉wr)(hc:c'∉wr):MS P' c' s Sg:=by
 refine m.ok.elim λps c=>?_;refine ue λhC=>?_;obtain ⟨o,vs,k,v,d,u,l,f,tt,op,j,r1,r2,r3,r4,r5,w,i,r⟩:=id c.1;refine hC ?_;refine⟨λb o hb e=>h.heap b o (λq=>?_) (m.hp b o hb e),λhb=>t _ _ h.gens (m.gb hb),λg hg=>(p _ _ h.gens g hg).trans (m.gk g hg),h.drawn.trans m.dr,h.os.trans m.os,ps,c.mv j i (h.heap _ _ hc j) (h.heap _ _ hP i)⟩
 rw[n b q] at e;cases e
theorem CW.one(c:CW w ν σ ς B L s P' f T c' X bk nm q doc t oc data)(m:MS P' c' s s'){I:ma}{tk:Nat}(n:s.heap.get? I=a6)(ht:s'.toks<=tk)(k:∀b o,b≠I->s'.heap.get? b=ac o->h'.get? b=ac o):MS P' c' s {s' with heap:=h',toks:=tk}:=
 m.but (wr:=[I]) (G:=λa b=>b=a) ⟨λb o hb e=>k b o (λq=>hb (q▸.head _)) e,rfl,rfl,rfl,ht⟩ (λa b e h=>e▸h) (λa b e g Z=>by rw[e]) (λb hb=>Ca.mp hb▸n)
  (λq=>c.hP.elim λo e=>nomatch e.symm.trans ((congrArg s.heap.get? (Ca.mp q)).trans n)) (λq=>nomatch (c.x.st.ks _ _ c.hc).symm.trans ((congrArg s.heap.get? (Ca.mp q)).trans n))
end
theorem Ts{scope:He}{y:Ba}{p:P}(h:scope.names.lookup y=ac .free):∀{σ:List (Ba×P)},σ.lookup y=ac p->(freeOf scope σ).lookup y=ac p
 |[],e=>nomatch e
 |(z,q)::σ,e=>by
  unfold freeOf;rw[gw];rw[Ka] at e;cases a:y==z with
  |true=>
   rw[a] at e;have hz:=eq_of_beq a;subst hz;rw[if_pos (by rw[h];rfl),Ka,a];exact e
  |false=>
   rw[a] at e;have b:=Ts (scope:=scope) h (σ:=σ) e;split
   ·rw[Ka,a];exact b
   ·exact b
noncomputable def Tj(v:Int):List Int:=(Ea 8).map (bz v 8)
section
variable{s1:aa}{P' f T c' X bk:ma}{nm q:Ba}{doc:Value}{oc:Jb}{data:List Int}
variable{scope:He}
theorem CW.old(c:CW w ν σ ς B L s P' f T c' X bk nm q doc t oc data)(h:KL B L b o):s.heap.get? b=ac o/\b≠P':=
 ⟨c.x.st.ks b o h,λq=>h.elim (λh=>c.nb o (q▸h)) λh=>c.nl _ h q⟩
theorem CW.now(c:CW w ν σ ς B L s P' f T c' X bk nm q doc t oc data)(m:MS P' c' s s1)(h:KL B L b o):s1.heap.get? b=ac o:=m.hp b o (c.old h).2 (c.old h).1
theorem CW.eP(c:CW w ν σ ς B L s P' f T c' X bk nm q doc t oc data)(hb:s.heap.get? b=a6):b≠P':=λq=>c.hP.elim λo e=>nomatch e.symm.trans ((congrArg s.heap.get? q).symm.trans hb)
theorem CW.ec(c:CW w ν σ ς B L s P' f T c' X bk nm q doc t oc data)(hb:s.heap.get? b=a6):b≠c':=λq=>nomatch (c.old c.hc).1.symm.trans ((congrArg s.heap.get? q).symm.trans hb)
theorem MS.fresh(m:MS P' c' s s1)(h:s1.heap.get? b=a6):s.heap.get? b=a6:=by
 cases e:s.heap.get? b with
 |none=>rfl
 |some o=>exact m.ok.elim λps hk=>(YE b P').byCases (λq=>nomatch ((congrArg s1.heap.get? q).symm.trans h).symm.trans hk.tab) λq=>nomatch (m.hp b o q e).symm.trans h
structure LS(P' c':ma)(s s1:aa)(D Cc uy:ma)(out:List Int)(s2:aa):Prop where
 m:MS P' c' s s2
 l:fe s2.heap D out
 n:∃mm,s2.heap.Ns Cc mm
 fr:∀b o,b∉[D,Cc,uy,P']->s1.heap.get? b=ac o->s2.heap.get? b=ac o
structure KS(sc:List (Ba×Lc))(scope:He)(ν:Al):Prop where
 pl:xe sc scope
 so:uj sc ν
 b:scope.names.lookup ("block":Ba)=ac NameKind.local
 k:scope.names.lookup ("k":Ba)=ac NameKind.local
 bit:scope.names.lookup ("bit":Ba)=ac NameKind.local
 t:scope.names.lookup ("to_binary":Ba)=ac Nc
 ln:scope.names.lookup ("len":Ba)=ac Dd
theorem KS.re1(K:KS sc scope ν)(c:CW w ν σ ς B L s P' f T c' X bk nm q doc t oc data)(m:MS P' c' s s1){Cc:ma}{mm:Ba->Option Value}{tk:xm}(a:mm "k"=ac (.int k tk))
  (hn:s1.heap.Ns Cc λy=>if y=("block":Ba) then ac (.ref bk) else mm y):RE (GW w) (pE scope Cc ν) (([(("block":Ba),P.addr bk),(("k":Ba),P.int k)]:List (Ba×P))++freeOf scope σ) s1:=
 Rx K.pl K.so (c.at m).st.re hn λy p e=>(Gd e).elim (λd=>by rw[d.1,<- d.2];exact⟨K.b,.ref bk,if_pos rfl,rfl⟩) λd=>by rw[(jF d.2).1,<- (jF d.2).2];exact⟨K.k,.int k tk,(if_neg (by decide)).trans a,tk,rfl⟩
theorem XJ{p:Nat->Sd}{i0:Oa}{Cc:ma}{mm:Ba->Option Value}{tk:xm}(g:GA (N+8) A)(c:CW w ν σ ς B L s P' f T c' X bk nm q doc t oc data)(m:MS P' c' s s1)(K:KS sc scope ν)(H:mm "k"=ac (.int k tk))(hk:k < data.length)
  (hn:s1.heap.Ns Cc λy=>if y=("block":Ba) then ac (.ref bk) else mm y) {α:Type} {F:Value->xc α} {G:xc α} {Q:α->aa->Prop}
  (hQ:∀a C I c2 s2,MS P' c' s s2->(∀b o,b≠P'->s1.heap.get? b=ac o->s2.heap.get? b=ac o)->s2.heap.IsGen a (s2.gens.size-1)->s.gens.size<=s2.gens.size-1->
   Zs w A a (s2.gens.size-1) C I [c2] 8 (NG (bz (data.getD k 0) 8)) 0 s2->(∀b∈[a,C,I,c2],s1.heap.get? b=a6)->wpAny (ja PP w) A (F (.ref a)) Q Hc s2):
  wpAny (ja PP w) A ((forIn [M4 (.Name "k" (p 4)) [.Lt] [.Call (.Name "len" (p 5)) [.Name "block" (p 6)] [] (p 7)] (p 8)] a8 λc r=>if r=a8 then do let ok <- PySem.isTrue c (pE scope Cc ν) (eval c (pE scope Cc ν));pure (Tc ok) else pure (Tc r))>>=λok=>if ok=a8 then
   eval (.Call (.Name "to_binary" (p 10)) [.Subscript (.Name "block" (p 11)) (.Name "k" (p 12)) (p 13)] [] (p 14)) (pE scope Cc ν)>>=F else G) Q Hc s1:=by
 have r3:=K.re1 c m H hn;refine jb (wpAny_tests_one (tf (Ij (x:="k") (p:=.int k) r3 (by decide) rfl λv1 h1=>?_)));obtain ⟨u1,rfl⟩:=h1;refine Rc ⟨_,_,rfl⟩ (name_buil r3 (Bq "len" K.ln (by decide)) (oe w (va ..)) (v:=.builtin "len") (by kernel_rfl) (by decide) (by decide) ?_);refine md (xs:=[eval (.Name _ _) _]) (show 1<=30 by decide) (Ij (x:="block") (p:=.addr bk) r3 (by decide) rfl λv2 h2=>?_);obtain rfl:v2=.ref bk:=h2;refine Ga (a:=vb) rfl ?_;have a0V:=c.len;refine Tu (c.now m c.hb) (by lia) λu2 u=>?_;refine Ub (Mt (op:=.Lt) (p:=.int k) (q:=.int data.length) rfl ⟨_,rfl⟩ ⟨_,rfl⟩ g.units) (λv M h4=>?_) λZ Z q=>q.elim
 obtain ⟨rfl,rfl⟩:=h4;rw[show decide ((k:Int) < (data.length:Int))=a8 from decide_eq_true (jc.mpr hk)];refine Le ?_;rw[if_pos rfl];have V:Kp s1 {s1 with toks:=u}:=.tok _;generalize ({s1 with toks:=u}:aa)=M at V ⊢;have m4:=m.step V;have r4:=K.re1 c m4 H (hn.keeps λZ Z e=>V.get e);refine Kb (Rc ⟨_,_,rfl⟩ (Ij (x:="to_binary") (p:=.addr f) r4 (by decide) (Ad (Ad (Ts K.t c.lf) (by decide)) (by decide)) λv3 h3=>?_));obtain rfl:v3=.ref f:=h3;refine md (xs:=[eval (.Subscript _ _ _) _]) (show 1<=30 by decide) (Mj (Ij (x:="block") (p:=.addr bk) r4 (by decide) rfl λv5 h5=>Ij (x:="k") (p:=.int k) r4 (by decide) rfl λv6 Y=>?_));obtain rfl:v5=.ref bk:=h5;obtain ⟨u6,rfl⟩:=Y;refine AJ (c.now m4 c.hb) c.by' (by lia) (by lia) (by lia) (Jh λZ Z Z Z q=>nomatch q) λu7 l=>?_;have k5:Kp M {M with toks:=l}:=.tok _;generalize ({M with toks:=l}:aa)=i at k5 ⊢;have d:=m4.step k5;refine d.ok.elim λps5 E=>fm (c.now d c.hf) rfl ?_;refine QQ (N:=N+4) (n:=8) (v:=data.getD k 0) (g.mono (by lia)) ((c.at d).fk c.fk) (c.now d c.hf) (c.hrec _ (c.now d c.hc)) E c.pf (FL (c.now d c.hT)) ⟨_,rfl⟩ ⟨_,rfl⟩ ⟨by decide,by decide⟩ (λhA F hr hq=>a3R hA F hr hq) λa C I c2 Y tk6 h ps6 j na nC nI nc L0 D J cS hG=>?_;have z:=V.trans' k5;have up:∀b o,b≠P'->s1.heap.get? b=ac o->Y.get? b=ac o:=λb o hb e=>L0 b o hb (z.get e);have O:∀{b:ma},i.heap.get? b=a6->s1.heap.get? b=a6:=λe=>Ab z e;have hz:(i.gens.push h).size-1=i.gens.size:=by rw[Mp];rfl
 refine hQ a C I c2 _ ⟨λb o hb e=>up b o hb (m.hp b o hb e),λhb y hy=>(HS.mp hy).elim (d.gb hb y) λq=>q▸j,λg hg=>?_,d.dr,d.os,ps6,D⟩ up ?_ ?_ ?_ (Ld (O na) (Ld (O nC) (Ld (O nI) (Ld (O nc) Sl))))
 ·show(i.gens.push h)[g]?=_
  rw[Array.getElem?_push,if_neg (Na (ya hg d.size))];exact d.gk g hg
 ·show Y.IsGen a ((i.gens.push h).size-1)
  rw[hz];exact J
 ·show s.gens.size<=(i.gens.push h).size-1
  rw[hz];exact d.size
 ·show Zs w A a ((i.gens.push h).size-1) _ _ _ _ _ _ _
  rw[hz];exact hG A g.hd
theorem MF{p:Nat->Sd}{i0:Oa}{uy D Cc:ma}{mm:Ba->Option Value}{tk:xm}(g:GA (N+8) A)(c:CW w ν σ ς B L s P' f T c' X bk nm q doc t oc data)(m1:MS P' c' s s1)(K:KS sc scope ν)
  (Q0:s1.heap.IsListIter uy X 0) (hD:fe s1.heap D ns) (hn:s1.heap.Ns Cc mm) (hmk:mm "k"=ac (.int k tk)) (hk:k < data.length) (hz:ns.length<=2 ^ 19)
  (nD:s.heap.get? D=a6) (nC:s.heap.get? Cc=a6) (nI:s.heap.get? uy=a6) (O:D≠Cc) (M:D≠uy) (y:Cc≠uy) {Q:Fin->aa->Prop}
  (hQ:∀s2,s2.heap.IsListIter uy X 1->LS P' c' s s1 D Cc uy (ns++Tj (data.getD k 0)) s2->Q (.again (.compLoop (fB p i0 nm scope) 1 (.ref uy) (.ref D) (pE scope Cc ν))) s2):
  wpAny (ja PP w) A (compTurn (fB p i0 nm scope) 1 (.ref uy) (.ref D) (pE scope Cc ν)) Q Hc s1:=by
 have H:(pE scope Cc ν).scope.kind=.function:=K.pl.kind;rw[YH];refine Kb (Fb (Kb (Tr Q0 ⟨_,c.now m1 c.hX,rfl,_,rfl⟩ (x:=.ref bk) rfl λh2 KU j=>?_)));refine Kb (Ga (a:=()) rfl (Kb (Ob (ie (Mf K.b) (hn.sameBut j y) (λv r i=>?_) (by rw[H];rfl)))));have m3:=c.one (tk:=s1.toks+1) (c.one (tk:=s1.toks) m1 nI (yb _) λb o hb e=>j.extBut b o hb e) nC (Se _) λb o hb e=>i.extBut b o hb e;have G:fe v D ns:=hD.keeps λo e=>i.extBut _ o O (j.extBut _ o M e);have hI3:v.IsListIter uy X 1:=KU.extBut i.extBut (qb y);have kM:∀b o,b≠uy->b≠Cc->s1.heap.get? b=ac o->v.get? b=ac o:=λb o b1 b2 e=>i.extBut b o b2 (j.extBut b o b1 e);refine XJ (N:=N) (i0:=i0) g c m3 K hmk hk r λa C I c2 s6 m6 d m aS hG no=>?_;have n4:=Pe.mp no;have Y:=Pe.mp n4.2;have V:=Pe.mp Y.2;have n7:=Pe.mp V.2;refine Kb (Fb (Kb (Ga (a:=.ref a) rfl (Kb (Ta (fA m (Kb (wpAny_runOwn ?_))))))));have J0:fe s6.heap D ns:=G.keeps λo e=>d _ o (c.eP nD) e;have hn6:=r.at' λo e=>d _ o (c.eP nC) e;have out:∀{z:ma} {o:Jb},v.get? z=ac o->s.heap.get? z=a6->z∉a::C::I::(Lh++[c2]):=λ{z o} e n=>eF (dh e n4.1) (eF (dh e Y.1) (eF (dh e V.1)
  λq=>(we.mp q).elim (λq=>(um (c.x.fk c.fk) z q).elim λo' e'=>nomatch e'.symm.trans n) λq=>dh e n7.1 (Ca.mp q)))
 refine YC (gc:=⟨.Name "bit" (p 9),_,[],0⟩) rfl rfl rfl rfl (λQ E hq=>fA m hq) rfl ?_;have hDo:∃o,v.get? D=ac o:=G.elim λvs q=>q.elim λn q=>⟨_,q.1⟩;have hCo:∃o,v.get? Cc=ac o:=r.elim λo q=>q.elim λZ q=>q.elim λZ q=>⟨_,q.1⟩;refine hDo.elim λoD eD=>hCo.elim λoC eC=>?_;refine TZ (f:=bz (data.getD k 0) 8) (C:=C) (I:=I) (n:=8) (ex:=[c2]) (ns:=ns) g.hd g.room H (Mf K.bit) rfl hG (by lia) (out eD nD) (out eC nC) O J0 hn6 λs7 mm7 u hl7 hn7=>la ?_;have hw:∀b∈[D,Cc,C,I],s.heap.get? b=a6:=Ld nD (Ld nC (Ld (m3.fresh Y.1) (Ld (m3.fresh V.1) Sl)));have l:∀{b:ma} {o:Jb},v.get? b=ac o->b≠D->b≠Cc->b∉[D,Cc,C,I]:=λ{b o} e h1 h2=>eF h1 (eF h2 (eF (dh e Y.1) (eF (dh e V.1) λq=>nomatch q)));have m7:=m6.but u (λa b h=>h.bare) (λa b h g hg=>PD h (Na (ya hg aS))) hw (λq=>c.eP (hw _ q) rfl) (λq=>c.ec (hw _ q) rfl);refine hQ s7 ?_ ⟨m7,hl7,⟨mm7,hn7⟩,λb o hb e=>?_⟩
 ·exact hI3.imp λoI q=>⟨u.heap _ _ (l q.1 (qb M) (qb y)) (d _ _ (c.eP nI) q.1),q.2⟩
 ·have h1:=WR hb;have h2:=WR h1.2;have J:=WR h2.2;have e3:=kM b o J.1 h2.1 e;exact u.heap _ _ (l e3 h1.1 h2.1) (d _ _ (λq=>J.2 (q▸.head _)) e3)
set_option tactic.hygienic true in
theorem UZ{p:Nat->Sd}{i0:Oa}{uy D Cc:ma}{mm:Ba->Option Value}{tk:xm}(g:GA (N+8) A)(c:CW w ν σ ς B L s P' f T c' X bk nm q doc t oc data)(z:MS P' c' s s1)(K:KS sc scope ν)
  (r:s1.heap.IsListIter uy X 0) (hD:fe s1.heap D ns) (hn:s1.heap.Ns Cc mm) (i:mm "k"=ac (.int k tk)) (hk:k < data.length) (hz:ns.length<=2 ^ 19)
  (nD:s.heap.get? D=a6) (nC:s.heap.get? Cc=a6) (y:s.heap.get? uy=a6) (v:D≠Cc) (a:D≠uy) (d:Cc≠uy)
  (C:∀s2,LS P' c' s s1 D Cc uy (ns++Tj (data.getD k 0)) s2->R (.ok .next) s2):
  codeAny (ja PP w) A (.compLoop (fB p i0 nm scope) 1 (.ref uy) (.ref D) (pE scope Cc ν)) R s1:=by
 refine By rfl (λn s'=>(n=1/\s'=s1)\/(n=0/\s'.heap.IsListIter uy X 1/\LS P' c' s s1 D Cc uy (ns++Tj (data.getD k 0)) s')) (λn s' hI=>?_) 1 (.inl ⟨rfl,rfl⟩);show wpAny _ A ((compTurn (fB p i0 nm scope) 1 (.ref uy) (.ref D) (pE scope Cc ν)).onRaise (λx=>do ur x (pE scope Cc ν);theTreesLotGoes x)) _ _ s'
 refine mC (Ub (E:=Hc) ?_ (λ_ _ q=>q) λ_ _ e=>e.elim);rcases hI with ⟨rfl,rfl⟩|⟨rfl,u,x⟩
 ·exact MF g c z K r hD hn i hk hz nD nC y v a d λs2 j x=>⟨rfl,0,Ey,.inr ⟨rfl,j,x⟩⟩
 ·rw[YH];refine Kb (Fb (Kb (nt g.hd u ⟨_,c.now x.m c.hX,rfl,_,rfl⟩ rfl λh2 h=>la ?_)));exact C {s' with heap:=h2} ⟨c.one (tk:=s'.toks) x.m y (yb _) λb o hb e=>h b o hb e,x.l.keeps λo e=>h _ o a e,x.n.imp λm n=>n.extBut h d,λb o hb e=>h b o (λq=>hb (q▸.tail _ (.tail _ (.head _)))) (x.fr b o hb e)⟩
end
noncomputable def xd(l:List Int):List Int:=(l.map Tj).flatten
theorem ko(v:Int):(Tj v).length=8:=by simp[Tj]
theorem Mh:∀l:List Int,(xd l).length=8*l.length
 |[]=>rfl
 |v::l=>by
  have:=Mh l;unfold xd at this ⊢;rw[Mb,Kk,Nb,ko,this,wj];lia
theorem yE(l:List Int)(k:Nat)(h:k < l.length):xd (l.take (k+1))=xd (l.take k)++Tj (l.getD k 0):=by
 delta xd;rw[Qn,Ic,List.flatten_append,Fl h]
 simp
section
variable{s1:aa}{P' f T c' X bk:ma}{nm q:Ba}{doc:Value}{oc:Jb}{data:List Int}
variable{scope:He}
theorem NF{p:Nat->Sd}{i0:Oa}{d D Cc:ma}{mm:Ba->Option Value}(g:GA (N+8) A)(c:CW w ν σ ς B L s P' f T c' X bk nm q doc t oc data)(m1:MS P' c' s s1)(K:KS sc scope ν)
  (r:scope.names.lookup nm=ac Nc) (V:qc nm=be) (hI0:Vc s1.heap d k ((data.length:Int)-k) 1) (hD:fe s1.heap D (xd (data.take k))) (hn:s1.heap.Ns Cc mm) (v:k < data.length)
  (nD:s.heap.get? D=a6) (nC:s.heap.get? Cc=a6) (nI:s.heap.get? d=a6) (J:D≠Cc) (I:D≠d) (z:Cc≠d) {Q:Fin->aa->Prop}
  (hQ:∀s2,MS P' c' s s2->fe s2.heap D (xd (data.take (k+1)))->(∃mm,s2.heap.Ns Cc mm)->Vc s2.heap d ((k+1:Nat):Int) ((data.length:Int)-((k+1:Nat):Int)) 1->Q (.again (.compLoop (fB p i0 nm scope) 0 (.ref d) (.ref D) (pE scope Cc ν))) s2):
  wpAny (ja PP w) A (compTurn (fB p i0 nm scope) 0 (.ref d) (.ref D) (pE scope Cc ν)) Q Hc s1:=by
 have hkc:(pE scope Cc ν).scope.kind=.function:=K.pl.kind;have a0V:=c.len;rw[ZH];refine Kb (Fb (Kb (el hI0 (yo (jc.mpr v)) λh2 KU j=>?_)));refine Kb (Ga (a:=()) rfl (Kb (Ob (ie (Mf K.k) (hn.sameBut j z) (λh u i=>?_) (by rw[hkc];rfl)))));have O:=c.one (tk:=s1.toks+1+1) (c.one (tk:=s1.toks+1) m1 nI (Se _) λb o hb e=>j.extBut b o hb e) nC (Se _) λb o hb e=>i.extBut b o hb e;have C:fe h D (xd (data.take k)):=hD.keeps λo e=>i.extBut _ o J (j.extBut _ o I e);have H:Vc h d ((k:Int)+1) ((data.length:Int)-k-1) 1:=i.extBut _ _ (qb z) KU;have r3:RE (GW w) (pE scope Cc ν) (([(("k":Ba),P.int k)]:List (Ba×P))++freeOf scope σ) _:=Rx K.pl K.so (c.at O).st.re u λy p e=>by rw[(jF e).1,<- (jF e).2];exact⟨K.k,.int k s1.toks,if_pos rfl,_,rfl⟩
 have Y:(nm==("k":Ba))=be:=by
  cases hy:nm==("k":Ba) with
  |false=>rfl
  |true=>rw[eq_of_beq hy,K.k] at r;exact nomatch r
 refine Kb (Ij (x:=nm) (p:=.addr X) r3 V (Ad (Ts r c.lX) Y) λv1 h1=>?_);obtain rfl:v1=.ref X:=h1;have hX3:=c.now O c.hX;refine Kb (Fb (Kb (Ga (a:=.ref X) rfl (Kb (Ta (ai ⟨_,hX3,rfl,_,rfl⟩ (Kb (wpAny_runOwn ?_))))))));have up:∀{b o},h.get? b=ac o->(h.push {cls:=.type "list_iterator",data:=.fields #[.ref X,.int 0 0]}).get? b=ac o:=λe=>ea _ e;have m4:=O.step (.push {cls:=.type "list_iterator",data:=.fields #[.ref X,.int 0 0]});have G:(h.push {cls:=.type "list_iterator",data:=.fields #[.ref X,.int 0 0]}).IsListIter h.objs.size X 0:=⟨_,qa _ rfl,rfl,rfl⟩;have lt:∀{b o},h.get? b=ac o->b≠h.objs.size:=λe=>Na (Ha e);refine YC (gc:=⟨.Name "block" (p 2),.Name nm (p 3),[_],0⟩) rfl rfl rfl rfl (λQ E hq=>vt G hq) rfl ?_;refine UZ (k:=k) (tk:=s1.toks) (ns:=xd (data.take k)) g c m4 K G (C.keeps λo e=>up e) (u.keeps λZ Z e=>up e) (if_pos rfl) v (by rw[Mh,de];lia) nD nC (O.fresh bc) J
  (C.elim λZ q=>q.elim λZ q=>lt q.1) (u.elim λZ q=>q.elim λZ q=>q.elim λZ q=>lt q.1) λs5 M=>la ?_
 refine hQ s5 M.m ?_ M.n ?_
 ·rw[yE data k v];exact M.l
 ·rw[show(data.length:Int)-((k+1:Nat):Int)=(data.length:Int)-k-1 from(RJ (data.length:Int) k 1).symm];exact M.fr d _ (eF (qb I) (eF (qb z) (eF (lt H) (eF (c.eP nI) λq=>nomatch q)))) (up H)
set_option tactic.hygienic true in
theorem VZ{p:Nat->Sd}{i0:Oa}{a D Cc:ma}{mm:Ba->Option Value}(g:GA (N+8) A)(c:CW w ν σ ς B L s P' f T c' X bk nm q doc t oc data)(J:MS P' c' s s1)(K:KS sc scope ν)
  (v:scope.names.lookup nm=ac Nc) (r:qc nm=be) (y:Vc s1.heap a 0 data.length 1) (hD:fe s1.heap D []) (hn:s1.heap.Ns Cc mm)
  (nD:s.heap.get? D=a6) (nC:s.heap.get? Cc=a6) (G:s.heap.get? a=a6) (C:D≠Cc) (l:D≠a) (m:Cc≠a)
  (M:∀s2,MS P' c' s s2->fe s2.heap D (xd data)->(∃mm,s2.heap.Ns Cc mm)->R (.ok .next) s2):
  codeAny (ja PP w) A (.compLoop (fB p i0 nm scope) 0 (.ref a) (.ref D) (pE scope Cc ν)) R s1:=by
 refine By rfl (λn s'=>∃k:Nat,k<=data.length/\n=data.length-k/\MS P' c' s s'/\fe s'.heap D (xd (data.take k))/\(∃mm,s'.heap.Ns Cc mm)/\Vc s'.heap a k ((data.length:Int)-k) 1) (λn s' hI=>?_) data.length
  ⟨0,fc _,rfl,J,hD,⟨mm,hn⟩,by simpa using y⟩
 refine ue λhC=>?_;obtain ⟨k,hk,rfl,H,h,⟨u,i⟩,j⟩:=hI;refine hC ?_;show wpAny _ A ((compTurn (fB p i0 nm scope) 0 (.ref a) (.ref D) (pE scope Cc ν)).onRaise (λx=>do ur x (pE scope Cc ν);theTreesLotGoes x)) _ _ s'
 refine mC (Ub (E:=Hc) ?_ (λ_ _ q=>q) λ_ _ e=>e.elim);by_cases d:k < data.length
 ·exact NF g c H K v r j h i d nD nC G C l m λs2 I l2 n2 i2=>⟨rfl,data.length-(k+1),wt d (Xc k),k+1,d,rfl,I,l2,n2,i2⟩
 ·obtain rfl:k=data.length:=Og hk (yf.mp d);rw[ZH];refine Kb (Fb (Kb (Nl g.hd j (O5 (N5 _)) λh2 z=>la ?_)));rw[Df] at h;exact M {s' with heap:=h2} (c.one (tk:=s'.toks) H G (yb _) λb o hb e=>z b o hb e) (h.keeps λo e=>z _ o l e) ⟨u,i.extBut z m⟩
end
section
variable{s1:aa}
variable{scope:He}
theorem sL{pe pl pbl pcl pos pi:Sd}{nm:Ba}{X bk:ma}{data:List Int}(g:GA (N+8) A)(F:Fk w ς.heap)(x:SX w ν σ ς B L s)(so:uj sc ν)(d:xe sc scope)(kb:scope.names.lookup ("block":Ba)=ac NameKind.local)(kln:scope.names.lookup ("len":Ba)=ac Dd)
  (lX:σ.lookup nm=ac (.addr X)) (unm:qc nm=be) (hX:KL B L X (wb [.ref bk] 1)) (hb:KL B L bk (Tb (Wa data))) (hz:data.length<=2 ^ 20)
  (hQ:∀D s',Kp s s'->fe s'.heap D [(data.length:Int)]->Q (.ref D) s'):
  wpAny (ja PP w) A (eval (.ListComp (.Call (.Name "len" pl) [.Name "block" pbl] [] pcl) [⟨.Name "block" pe,.Name nm pi,[],0⟩] scope pos) ν) Q Hc s:=by
 have hh:=g.hd;have r:=x.st.re;rw[aw];refine Hg (use:=a6) rfl (λZ=>rfl) (qg (bo d so r)) d.kind d.locs ?_;refine x.Pt lX unm ?_;have t:=x.st.ks _ _ hX;refine ai ⟨_,t,rfl,_,rfl⟩ ?_;generalize T:({s with heap:=s.heap.push {cls:=.type "list_iterator",data:=.fields #[.ref X,.int 0 0]}}:aa)=s1;have k1:Kp s s1:=T▸.push _;have j:s1.heap.IsListIter s.heap.objs.size X 0:=T▸⟨_,qa _ rfl,rfl,rfl⟩;have nI:s.heap.get? s.heap.objs.size=a6:=bc;generalize s.heap.objs.size=H at j nI;refine ue λhC=>?_;obtain ⟨oIt,eIt,_⟩:=id j;refine hC ?_;refine lr d.nocell d.kind (λs' Q E k hq=>vt (j.at λo e=>k.get e) hq) λD C s2 k2 hD hC u R0 hn=>?_;have nD:=Ab k1 hD;have nC:=Ab k1 hC;have z:D≠H:=λq=>by rw[q,eIt] at hD;exact nomatch hD
 have G:C≠H:=λq=>by rw[q,eIt] at hC;exact nomatch hC
 have KU:s2.heap.IsListIter H X 0:=j.at λo e=>k2.get e;have O:=k1.trans' k2;refine codeAny_compLoop_list (λn s'=>(n=1/\s'=s2)\/(n=0/\∃mm,Kp s s'/\fe s'.heap D [(data.length:Int)]/\s'.heap.Ns C mm/\s'.heap.IsListIter H X 1)) (λn s' hI=>?_) 1 (.inl ⟨rfl,rfl⟩);refine Ub (E:=Hc) (Q:=_) ?_ (λZ Z q=>q) λZ Z e=>e.elim
 rcases hI with ⟨rfl,rfl⟩|⟨rfl,mm,k',hl',XW,hI'⟩
 ·refine Tr KU ⟨_,O.get t,rfl,_,rfl⟩ (x:=.ref bk) rfl λh3 hI3 m=>?_;have hn3:h3.Ns C (λZ=>a6):=hn.sameBut m G;refine Ub (E:=Hc) ?_ (λZ Z q=>q) λZ Z e=>e.elim
  refine Ob (ie (Mf kb) hn3 (λi f c=>?_) (by rw[show(Xd scope (jf ν.cells scope.names []) C ν).scope.kind=.function from d.kind];rfl));have f:i.Ns C (λy=>if y=("block":Ba) then ac (.ref bk) else a6):=f;have c:Rd C h3 i:=c;have I:∀{b o},s.heap.get? b=ac o->b≠H/\b≠C/\b≠D:=λe=>⟨dh e nI,dh e nC,dh e nD⟩;have k4:Kp s {s' with heap:=i,toks:=s'.toks+1}:=by
   refine ue λhC=>?_;obtain ⟨h,tk,e,M⟩:=O;refine hC ?_;subst e;exact⟨i,_,rfl,λb o e=>c.extBut _ _ (I e).2.1 (m.extBut _ _ (I e).1 (M b o e))⟩
  have V:fe i D []:=⟨[],0,c.extBut _ _ u (m.extBut _ _ z R0),.nil⟩;have Y:i.IsListIter H X 1:=hI3.extBut c.extBut (qb G);generalize bS:({s' with heap:=i,toks:=s'.toks+1}:aa)=s4 at k4 ⊢;have hh4:s4.heap=i:=by rw[<- bS]
  rw[<- hh4] at f V Y;have r4:RE (GW w) (Xd scope (jf ν.cells scope.names []) C ν) (([(("block":Ba),P.addr bk)]:List (Ba×P))++freeOf scope σ) s4:=by
   exact Rx d so (x.step k4).st.re f λy p e=>by rw[(jF e).1,<- (jF e).2];exact⟨kb,.ref bk,if_pos rfl,rfl⟩
  refine Ub (E:=Hc) ?_ (λZ Z q=>q) λZ Z e=>e.elim
  refine Rc ⟨_,_,rfl⟩ (name_buil r4 (Bq "len" kln (by decide)) (oe w (va ..)) (v:=.builtin "len") (by kernel_rfl) (by decide) (by decide) ?_);refine md (xs:=[eval (.Name _ _) _]) (show 1<=30 by decide) ?_;refine Ij (x:="block") (p:=.addr bk) r4 (by decide) rfl λv2 h2=>?_;have h2:v2=.ref bk:=h2;subst h2;refine Ga (a:=vb) rfl ?_;have hb4:yi s4.heap bk data:=(x.step k4).st.ks _ _ hb;refine Tu hb4 (by lia) λu2 tk2=>?_;refine Ub (E:=Hc) ?_ (λZ Z q=>q) λZ Z e=>e.elim
  refine append_at V (by decide) λh5 hl5 l=>⟨0,by lia,.inr ⟨rfl,_,?_,hl5,f.sameBut l (qb u),Y.extBut l.extBut (qb z)⟩⟩;refine ue λhC=>?_;obtain ⟨h,tk,e,M⟩:=k4;refine hC ?_;refine⟨h5,tk2,by rw[e],λb o J=>l.extBut _ _ (I J).2.2 ?_⟩
  rw[e];exact M b o J
 ·refine nt hh hI' ⟨_,k'.get t,rfl,_,rfl⟩ rfl λh3 e3=>?_;refine⟨mm,XW.extBut e3 G,λi c=>?_⟩
  have I:∀{b o},s.heap.get? b=ac o->b≠H/\b≠C:=λe=>⟨dh e nI,dh e nC⟩;refine hQ D {s' with heap:=i} ?_ (hl'.keeps λo e=>c.extBut _ o u (e3 _ o z e));refine ue λhC=>?_;obtain ⟨h,tk,e,M⟩:=k';refine hC ?_;subst e;exact⟨i,tk,rfl,λb o J=>c.extBut _ _ (I J).2 (e3 _ _ (I J).1 (M b o J))⟩
end
section
variable{s1:aa}{P' f T c' X bk:ma}{nm q:Ba}{doc:Value}{oc:Jb}{data:List Int}
variable{scope Yi:He}
theorem nH{pos pb O M pk pl pbl V G J I H j pe pt Y r1 r2 r3 r4 r5 r6 r7 r8 r9 rp:Sd}(g:GA (N+8) A)(c:CW w ν σ ς B L s P' f T c' X bk nm q doc t oc data)(H0:∃ps,ve s.heap c' P' ps)
  (so:uj sc ν) (kr:ν.kindOf "range"=ac Dd) (km:ν.kindOf "max"=ac Dd)
  (plL:xe sc Yi) (kbL:Yi.names.lookup ("block":Ba)=ac NameKind.local) (klL:Yi.names.lookup ("len":Ba)=ac Dd)
  (d:xe sc scope) (kb:scope.names.lookup ("block":Ba)=ac NameKind.local) (kk:scope.names.lookup ("k":Ba)=ac NameKind.local) (a4U:scope.names.lookup ("bit":Ba)=ac NameKind.local) (kt:scope.names.lookup ("to_binary":Ba)=ac Nc) (kln:scope.names.lookup ("len":Ba)=ac Dd) (knm:scope.names.lookup nm=ac Nc) (y:qc nm=be) (hQ:∀D s',s.heap.get? D=a6->MS P' c' s s'->fe s'.heap D (xd data)->Q (.ref D) s'):
  wpAny (ja PP w) A (eval (oM (.Name "bit" pe) (.Name "k" M) (.Call (.Name "range" r1) [.Call (.Name "max" r2) [.ListComp (.Call (.Name "len" r3) [.Name "block" r4] [] r5) [⟨.Name "block" r6,.Name nm r7,[],0⟩] Yi r8] [] r9] [] rp) (.Name "block" pb) (.Name nm O)
   (.Compare (.Name "k" pk) [.Lt] [.Call (.Name "len" pl) [.Name "block" pbl] [] Y] V) (.Name "bit" pt) (.Call (.Name "to_binary" G) [.Subscript (.Name "block" J) (.Name "k" I) H] [] j) scope pos) ν) Q Hc s:=by
 have hh:=g.hd;have a0V:=c.len;have r:=c.x.st.re;have m0:MS P' c' s s:=⟨λZ Z Z e=>e,λh=>h,λZ Z=>rfl,rfl,rfl,H0⟩;rw[aw];refine Hg (use:=a6) rfl (λZ=>rfl) (qg (bo d so r)) d.kind d.locs ?_;refine Rc ⟨_,_,rfl⟩ (name_buil r kr (oe w (.tail _ (.head _))) (v:=.type "range") (by kernel_rfl) (by decide) (by decide) ?_);refine md (xs:=[eval (.Call _ _ [] _) ν]) (show 1<=30 by decide) ?_;refine Rc ⟨_,_,rfl⟩ (name_buil r km (oe w (by decide)) (v:=.builtin "max") (by kernel_rfl) (by decide) (by decide) ?_);refine md (xs:=[eval (.ListComp _ _ _ _) ν]) (show 1<=30 by decide) ?_;refine sL g c.fk c.x so plL kbL klL c.lX y c.hX c.hb (by lia) λD1 s1 k1 K0=>?_;refine Ga (a:=vb) rfl ?_;obtain ⟨vs1,n1,g1,i1⟩:=K0;refine AD hh g1 i1 (by simp) λh2 m u2 kk2=>?_;have e2:VO [(data.length:Int)]=data.length:=rfl;rw[e2];have k2:Kp s1 {s1 with heap:=h2,toks:=m}:=⟨h2,m,rfl,kk2⟩;generalize WW:({s1 with heap:=h2,toks:=m}:aa)=s2 at k2 ⊢;refine Ga (a:=vb) rfl ?_;refine Wj ?_;generalize VW:({s2 with heap:=s2.heap.push _,toks:=s2.toks+1+1}:aa)=l;have k3:Kp s2 l:=VW▸⟨_,_,rfl,λZ Z e=>ea _ e⟩;have hr3:Pm l.heap s2.heap.objs.size 0 data.length 1 s2.toks u2 (s2.toks+1):=VW▸qa _ rfl;refine Dh hr3 (ni (by decide) (by unfold Sm;lia) (by unfold Sm;lia) (by unfold Sm;lia)).1 ?_;rw[D7];have k03:=(k1.trans' k2).trans' k3;have nI:=Ab k03 bc;have hI:Vc ({l with heap:=l.heap.push (Um 0 data.length 1)}:aa).heap l.heap.objs.size 0 data.length 1:=qa _ rfl;generalize bS:({l with heap:=l.heap.push (Um 0 data.length 1)}:aa)=s4 at hI ⊢;have k4:Kp l s4:=bS▸.push _;have n:=k03.trans' k4;generalize l.heap.objs.size=It at hI nI;refine lr d.nocell d.kind (λs' Q E k hq=>Ur (k.get hI) hq) λD C s5 k5 hD hC hDC R0 hn=>?_;have k05:=n.trans' k5;have nD:=Ab n hD;have nC:=Ab n hC;have dDI:D≠It:=λq=>by rw[q,hI] at hD;exact nomatch hD
 have dCI:C≠It:=λq=>by rw[q,hI] at hC;exact nomatch hC
 refine VZ (p:=λi=>([pe,M,pb,O,pk,pl,pbl,Y,V,pt,G,J,I,H,j,pos]:List Sd).getD i default) (sc:=sc) g c (m0.step k05) ⟨d,so,kb,kk,a4U,kt,kln⟩ knm y (k5.get hI) ⟨[],0,R0,.nil⟩ hn nD nC nI hDC dDI dCI λs6 m6 J0 u=>?_;exact u.elim λmm6 u=>⟨mm6,u,λh7 z=>hQ D {s6 with heap:=h7} nD (c.one (tk:=s6.toks) m6 nC (yb _) λb o hb e=>z.extBut b o hb e) (J0.keeps λo e=>z.extBut _ o hDC e)⟩
end
noncomputable def dS:List Ya:=(Zf (Sx 19 "extend")).2.1
theorem Kx(w:sa):Fn (lx w) (rO w) 1923 dS:=⟨by kernel_rfl,by kernel_rfl,by kernel_rfl,by kernel_rfl,by kernel_rfl,by kernel_rfl⟩
theorem a1C:dS=[fa dS 0]:=by kernel_rfl
theorem a1B:fa dS 0=.Expr (.Call (.Attribute (.Attribute (.Name "self" (ch (ch (ch (aV (fa dS 0)) 0) 0) 0).pos) "_data" (ch (ch (aV (fa dS 0)) 0) 0).pos) "extend" (ch (aV (fa dS 0)) 0).pos) [.Name "iterable" (ch (aV (fa dS 0)) 1).pos] [] (aV (fa dS 0)).pos) (aP (fa dS 0)):=by kernel_rfl
theorem nR(a b:Value):mh s (fdOf (lx w)) ⟨[a,b],[]⟩ [("self",a),("iterable",b)]:=Ih (by kernel_rfl)
noncomputable def Q1:List Ya:=(Zf (Sx 19 "getbits")).2.1
theorem uQ(w:sa):Fn (kG w) (qO w) 1937 Q1:=⟨by kernel_rfl,by kernel_rfl,by kernel_rfl,by kernel_rfl,by kernel_rfl,by kernel_rfl⟩
theorem a1s:Q1=[fa Q1 0]:=by kernel_rfl
theorem a1r:fa Q1 0=.Return (ac (.Attribute (.Name "self" (ch (aV (fa Q1 0)) 0).pos) "_data" (aV (fa Q1 0)).pos)) (aP (fa Q1 0)):=by kernel_rfl
theorem IL(a:Value):mh s (fdOf (kG w)) ⟨[a],[]⟩ [("self",a)]:=Ih (by kernel_rfl)
theorem kE{dd d:ma}{bs:Array UInt8}(g:GK (N+2) A)(F:Fk w s.heap)(hb:s.heap.get? b=ac (Fe dd d))(hd:s.heap.get? d=ac (Tb bs))
  (hin:∀c j,GK N j->Kp s c->zd (ja PP w) j (call (.builtin "bytearray.extend") [.ref d,v]) (λu s'=>u=.none/\Q .none s') c):
  zd (ja PP w) A (call (.ref 1924) [.ref b,v]) Q s:=by
 have e:=(Kx w).row;simp only[Ie] at e;refine nE (binds:=[("self",.ref b),("iterable",v)]) g.ga.room (F.uf 25 rfl rfl) (Kx w).data (codeRec_of (F.uf 37 rfl rfl) (Kx w).code (Kx w).cq) (Kx w).bd (nR _ _) (sf F).lim e.2.2.2.2.2 e.2.1 e.2.2.1 e.1 ?_ λc x=>?_
 ·intro y B;simp only[La,rg,or_false] at B;rcases B with rfl|rfl
  ·exact .inl (by kernel_rfl)
  ·exact .inl (by kernel_rfl)
 generalize f:bg (fdOf (lx w)) s.heap.objs.size 1924=ν at x ⊢;have i:GK N (A.deeper ν):=(g.mono (Se _)).deeper ν;have m:ν.scope.kind=.function:=by subst f;exact e.1
 have n:∀x,ν.kindOf x=(fdOf (lx w)).scope.names.lookup x:=λx=>by subst f;rfl
 have k:Kp s c:=by
  obtain ⟨h0,D,e⟩:=x.toInCall.same;exact⟨h0,D,e,λb o q=>by have:=x.toInCall.keep b o q;rw[e] at this;exact this⟩
 have G:wF ν.kindOf [("self",.ref b),("iterable",v)] (λZ=>a6) "self"=ac (.ref b):=Gq ((n _).trans (by kernel_rfl)) (sm (by kernel_rfl)) rfl;have E:wF ν.kindOf [("self",.ref b),("iterable",v)] (λZ=>a6) "iterable"=ac v:=Gq ((n _).trans (by kernel_rfl)) (sm (by kernel_rfl)) rfl;rw[a1C];refine ub ?_;rw[a1B];refine cj (by subst f;kernel_rfl) (by kernel_rfl) ?_;refine Zk rfl (by kernel_rfl) (by kernel_rfl) ?_;refine kc (ig (NameLC x m ((n _).trans (by kernel_rfl)) G (gaT i.ga.hd (F.kp k) (k.get hb) λh2 t=>?_) (by decide)));have l:=k.trans' (mu 1 t);refine dJ i.ga.hd (F.kp l) (l.get hd) λC r=>?_;have p:=l.trans' (mu 0 r);refine Bd (xs:=[eval (.Name "iterable" _) ν]) (show 1<=30 by decide) ?_;have z:Kp c {c with heap:=C,toks:=c.toks+1+0}:=⟨C,_,rfl,λb o q=>r _ _ (t _ _ q)⟩;have x3:=x.kept (tk:=c.toks+1+0) (λb o q=>r _ _ (t _ _ q));refine kc (NameLC x3 m ((n _).trans (by kernel_rfl)) E ?_ (by decide));show wpAny _ _ (Lj (.builtin "bytearray.extend")) _ _ _
 refine Ga (a:=vb) rfl ?_;show zd _ _ (call (.builtin "bytearray.extend") [.ref d,v]) _ _
 refine Od (hin _ _ i p) λu s' h=>?_;obtain ⟨rfl,h⟩:=h;exact⟨(λa q=>(by cases q)),rfl,Jf h⟩
theorem zL{dd d:ma}(g:GK (N+2) A)(F:Fk w s.heap)(hb:s.heap.get? b=ac (Fe dd d))(k:∀s',Kp s s'->Q (.ref d) s'):
  zd (ja PP w) A (call (.ref 1938) [.ref b]) Q s:=by
 refine fo (N:=N) (G:=GW w) (rd:=[]) (σ:=[("self",.addr b)]) (δ:=λZ=>0) (ς:=s) (K:=Uv s) (uQ w)
  g (F.uf 26 rfl rfl) (F.uf 38 rfl rfl) (IL _) (by kernel_rfl) (by kernel_rfl) ⟨s.heap,s.toks,rfl⟩ (sf F) (λZ Z e=>e) (λZ Z e=>e) ⟨⟨rfl,rfl,nofun⟩,trivial⟩ (λx y ns ms Z e=>(Fg rfl e).elim) λi ν he h c a=>?_
 refine ue λhC=>?_;obtain ⟨v,hv,f,_⟩:=c.look "self" (.addr b) rfl;refine hC ?_;have f:v=.ref b:=f;subst f;rw[a1s];refine Hl ?_;rw[a1r];refine ir (kc (ig (vd c.kind hv (by decide) (by decide) (gaT h.ga.hd (F.kp a) (a.get hb) λh2 j=>⟨⟨_,rfl⟩,k _ (a.trans' (mu 1 j))⟩))))
noncomputable def xU(nm:Ba)(p:Nat->Sd)(scope Yi:He):Oa:=
 oM (.Name "bit" (p 0)) (.Name "k" (p 1)) (.Call (.Name "range" (p 2)) [.Call (.Name "max" (p 3)) [.ListComp (.Call (.Name "len" (p 4)) [.Name "block" (p 5)] [] (p 6)) [⟨.Name "block" (p 7),.Name nm (p 8),[],0⟩] Yi (p 9)] [] (p 10)] [] (p 11)) (.Name "block" (p 12)) (.Name nm (p 13))
  (.Compare (.Name "k" (p 14)) [.Lt] [.Call (.Name "len" (p 15)) [.Name "block" (p 16)] [] (p 17)] (p 18)) (.Name "bit" (p 19)) (.Call (.Name "to_binary" (p 20)) [.Subscript (.Name "block" (p 21)) (.Name "k" (p 22)) (p 23)] [] (p 24)) scope (p 25)
noncomputable def BW(e:Oa)(i:Nat):Sd:=
 [(ch e 0).pos,(gT e 0).pos,(ch (gI e 0) 0).pos,(ch (ch (gI e 0) 1) 0).pos,(ch (ch (ch (ch (gI e 0) 1) 1) 0) 0).pos,(ch (ch (ch (ch (gI e 0) 1) 1) 0) 1).pos,(ch (ch (ch (gI e 0) 1) 1) 0).pos,(gT (ch (ch (gI e 0) 1) 1) 0).pos,(gI (ch (ch (gI e 0) 1) 1) 0).pos,(ch (ch (gI e 0) 1) 1).pos,(ch (gI e 0) 1).pos,(gI e 0).pos,(gT e 1).pos,(gI e 1).pos,(ch (gF e 1) 0).pos,(ch (ch (gF e 1) 1) 0).pos,(ch (ch (gF e 1) 1) 1).pos,(ch (gF e 1) 1).pos,(gF e 1).pos,(gT e 2).pos,(ch (gI e 2) 0).pos,(ch (ch (gI e 2) 1) 0).pos,(ch (ch (gI e 2) 1) 1).pos,(ch (gI e 2) 1).pos,(gI e 2).pos].getD i e.pos
noncomputable def M8:Oa:=ch (aV (fa Bf 7)) 1
noncomputable def K8:Oa:=ch (aV (fa Bf 9)) 1
noncomputable def ZR(e:Oa):He:=Hw (ch (ch (gI e 0) 1) 1)
theorem L8:M8=xU "data_blocks" (BW M8) (Hw M8) (ZR M8):=by kernel_rfl
theorem J8:K8=xU "error_blocks" (BW K8) (Hw K8) (ZR K8):=by kernel_rfl
theorem A8:fa Bf 7=.Expr (.Call (.Attribute (.Name "res" (ch (ch (aV (fa Bf 7)) 0) 0).pos) "extend" (ch (aV (fa Bf 7)) 0).pos) [M8] [] (aV (fa Bf 7)).pos) (aP (fa Bf 7)):=by kernel_rfl
theorem yZ:fa Bf 9=.Expr (.Call (.Attribute (.Name "res" (ch (ch (aV (fa Bf 9)) 0) 0).pos) "extend" (ch (aV (fa Bf 9)) 0).pos) [K8] [] (aV (fa Bf 9)).pos) (aP (fa Bf 9)):=by kernel_rfl
theorem jR{v:Int}(h:0<=v)(n i:Nat):bz v n i=0\/bz v n i=1:=by
 delta bz;have h0:0<=v.fdiv (2 ^ (n-1-i)):=Int.fdiv_nonneg h (Sk (a2s (by decide)));rw[G5 h0 (by decide)];have:(v.fdiv (2 ^ (n-1-i))).toNat&&&(1:Int).toNat=(v.fdiv (2 ^ (n-1-i))).toNat % 2:=Nat.and_one_is_mod _;rw[this]
 exact(Nat.mod_two_eq_zero_or_one _).imp (congrArg DX) (congrArg DX)
theorem xH{v:Int}(h:0<=v):Vm (Tj v):=λb hb=>by
 obtain ⟨i,_,rfl⟩:=Ma.mp hb;exact jR h 8 i
theorem Fq{l:List Int}(h:dj l):Vm (xd l):=λb hb=>by
 refine ue λhC=>?_;obtain ⟨m,hm,hb⟩:=List.mem_flatten.mp hb;obtain ⟨v,hv,rfl⟩:=Ma.mp hm;refine hC ?_;exact xH (h v hv).1 b hb
def uo(c P:ma)(oc oP:Jb):Prop:=∃ps,∀h:Xb,h.get? c=ac oc->h.get? P=ac oP->ve h c P ps
theorem uo.of{c P:ma}{oc:Jb}(x:ve h c P ps)(e:h.get? c=ac oc):∃oP,h.get? P=ac oP/\uo c P oc oP:=by
 refine ue λhC=>?_;obtain ⟨o,vs,g,n,b,m,j,d,tt,op,a,r1,r2,r3,r4,r5,p,f,r⟩:=id x.1;refine hC ?_;have i:=a;rw[e] at a;obtain rfl:=xa a;exact⟨op,f,ps,λh' l k=>x.mv i f l k⟩
section
variable{s1:aa}{P' f T c' X bk rb rdd rd:ma}{nm q:Ba}{doc:Value}{oc oP:Jb}{data old:List Int}
theorem SX.fwd(x:SX w ν σ ς B L s)(h:KL B L b o):s.heap.get? b=ac o:=x.st.ks b o h
theorem KL.cons{e:ma×Jb}(h:KL B L b o):KL B (e::L) b o:=h.elim .inl λh=>.inr (pa _ h)
set_option tactic.hygienic true in
theorem vD(g:GK (N+10) A)(F:Fk w ς.heap)(hsc:ν.scope=(fdOf (Kh w)).scope)(hi:Nf ν=be){scope Yi:He}{p:Nat->Sd}{v p2 u p4:Sd}{ird:Nat}(so:uj ν.scope.names ν)
  (hs:Lf (.Call (.Attribute (.Name "res" v) "extend" p2) [xU nm p scope Yi] [] u) a6 p4.line ν=pure be) (hb1:JJ (.Name "res" v) "extend" ν (eval (.Name "res" v) ν)=eval (.Name "res" v) ν)
  (hm:Ho [xU nm p scope Yi].length (Eh u (mf [xU nm p scope Yi] ν)) []=a8) (hl:(p2.endLine==u.line)=a8) (hst:Eh u (mf [xU nm p scope Yi] ν)=[eval (xU nm p scope Yi) ν].map λx=>(be,x))
  (plL:Zg ν.scope.names Yi=a8) (kbL:Yi.names.lookup ("block":Ba)=ac NameKind.local) (klL:Yi.names.lookup ("len":Ba)=ac Dd)
  (pl0:Zg ν.scope.names scope=a8) (kb:scope.names.lookup ("block":Ba)=ac NameKind.local) (kk:scope.names.lookup ("k":Ba)=ac NameKind.local) (H:scope.names.lookup ("bit":Ba)=ac NameKind.local) (kt:scope.names.lookup ("to_binary":Ba)=ac Nc) (kln:scope.names.lookup ("len":Ba)=ac Dd) (knm:scope.names.lookup nm=ac Nc) (unm:qc nm=be)
  (kr:ν.kindOf "range"=ac Dd) (km:ν.kindOf "max"=ac Dd)
  (x:SX w ν σ ς B ((P',oP)::L) s) (code:uo c' P' oc oP) (pf:P'∉Lh)
  (hf:KL B L f ⟨.type "function",a6,.func (HA w q (.ref T) c' doc),#[]⟩) (hT:KL B L T (nh [.int 8 t] 0)) (hc:KL B L c' oc) (hrec:∀h:Xb,h.get? c'=ac oc->h.CodeRec (.ref c') q) (hX:KL B L X (wb [.ref bk] 1)) (hbk:KL B L bk (Tb (Wa data)))
  (lf:σ.lookup ("to_binary":Ba)=ac (.addr f)) (lX:σ.lookup nm=ac (.addr X)) (by':dj data) (len:data.length<=200)
  (G:σ.lookup ("res":Ba)=ac (.addr rb)) (M:KL B L rb (Fe rdd rd)) (J:KL B L rdd zg) (b:L[ird]?=ac (rd,Tb (Wa old))) (hz:old.length<=2 ^ 18) {Q:Ff->aa->Prop}
  (hQ:∀z s',uo c' P' oc z->((∀y∈s.gens,y.bare=a8)->∀y∈s'.gens,y.bare=a8)->(∀g,g < s.gens.size->s'.gens[g]?=s.gens[g]?)->
   SX w ν σ {ς with gens:=s'.gens} B ((P',z)::L.set ird (rd,Tb (Wa (old++xd data)))) s'->Q .next s'):
  zd (ja PP w) A (Cg (.Expr (.Call (.Attribute (.Name "res" v) "extend" p2) [xU nm p scope Yi] [] u) p4) ν) Q s:=by
 refine cj hi hs ?_;refine Zk hb1 hm hl ?_;refine kc (x.Pt G (by decide) ?_);refine cX g.ga.hd (x.fk F) (x.fwd M.cons) (x.fwd J.cons) λh1 k1=>?_;have I:Kp s {s with heap:=h1,toks:=s.toks+0}:=mu 0 k1;generalize hs1:({s with heap:=h1,toks:=s.toks+0}:aa)=s1 at I ⊢;have l:=x.step I;have k:s1.gens=s.gens:=by rw[<- hs1]
 rw[hst];refine Bd (xs:=[eval (xU nm p scope Yi) ν]) (show 1<=30 by decide) ?_;have nd:=l.nd;rw[Mb,Lb] at nd;have V:=l.ap (P',oP) (va ..);have E:=l.nb (P',oP) (va ..);have d:∀e∈L,e.1≠P':=λe he q=>nd.1 (Ma.mpr ⟨e,he,q⟩);have c:CW w ν σ ς B L s1 P' f T c' X bk nm q doc t oc data:=⟨l.less (Ci _ _),F,V,E,d,pf,⟨oP,l.get 0 rfl⟩,hf,hT,hc,hrec,hX,hbk,lf,lX,by',len⟩
 refine(id code).elim λps hps=>?_
 refine kc (nH (N:=N) (sc:=ν.scope.names) (g.ga.mono (by lia)) c ⟨ps,hps _ (c.x.fwd hc) (l.get 0 rfl)⟩ so kr km (xe.of plL) kbL klL (xe.of pl0) kb kk H kt kln knm unm λD s2 nD m hl2=>?_);have o:=c.at m;have F2:Fk w s2.heap:=o.fk F;refine fm (F2.uf 25 rfl rfl) (Kx w).data ?_;show zd _ _ (call (.ref 1924) [.ref rb,.ref D]) _ _
 refine kE (N:=N+8) (g.mono (by lia)) F2 (o.fwd M) (o.get ird b) λr A3 g3 Y=>?_;obtain ⟨vs,n,gD,iD⟩:=hl2;have x3:=o.step Y;refine Cv g3.ga.hd g3.gd (x3.get ird b) (Y.get gD) iD (Fq by').byt (by rw[Ae,Mh];dsimp only[mc];lia) λs4 hm4 h4=>?_;rw[Dq] at h4;obtain ⟨h5,t5,rfl,k5⟩:=hm4;have x4:=x3.put (tk:=t5) ird b k5 h4;refine m.ok.elim λps2 O=>?_;obtain ⟨oP2,eP2,cd2⟩:=uo.of O (o.fwd hc);have C:P'≠rd:=λq=>d _ (Cb b) q.symm;have i:r.gens=s2.gens:=by obtain ⟨_,_,e,_⟩:=Y;rw[e]
 refine⟨rfl,λa q=>(by cases q),?_⟩
 refine hQ oP2 _ cd2 (λhb=>?_) (λg hg=>?_) ?_
 ·show∀y∈r.gens,_
  rw[i];exact m.gb (by rw[k];exact hb)
 ·show r.gens[g]?=_
  rw[i,m.gk g (by rw[k];exact hg),k]
 ·have e:({ς with gens:=r.gens}:aa)={ς with gens:=s2.gens}:=by rw[i]
  show SX w ν σ ({ς with gens:=r.gens}:aa) B _ _
  rw[e];refine x4.Zo V E (λe he=>?_) (k5 _ _ C (Y.get eP2));obtain ⟨j,hj,rfl⟩:=UH.mp he;rw[OR];split
  ·exact qb C
  ·exact d _ (Ll _)
end
noncomputable def mfC:List Ya:=aB (fa Bf 5)
section
variable{P' f T c':ma}{q:Ba}{doc:Value}{oc oP:Jb}
end
noncomputable def mf8:List Ya:=aB (fa Bf 8)
def vH(a:Pa)(S:T3)(B:List Ya)(w:sa)(t u:Nat)(m k:Nat):Prop:=
 mn Rh (Vb Ra) a w 9 ⟨a8,[],m,[],[],[]⟩ k (.top (Cy .Mult (.bytes #[0] t) (.int 0 u)))=ac (⟨a8,[],m,[],[],[]⟩,k+1,.top (.pure (.bytes #[] k)))
lay_quick Mine.vH
theorem BL(w:sa)(t u:Nat)(m k:Nat):vH PP (Qd w) Hb w t u  m k:=wf (P:=λv=>vH PP (Qd w) Hb v t u  m k) w λa=>by
 rw[Fast.te14593724972812385220];unfold Fast.tw14593724972812385220;cases a <;> kernel_rfl
theorem a1T{t u:Nat}{Q:_->aa->Prop}(b:A.handled=a6)(F:Fk w s.heap)
  (a:∀h',(∀x o,s.heap.get? x=ac o->h'.get? x=ac o)->Q (.bytes #[] s.toks) {s with heap:=h',toks:=s.toks+1}):wpAny (ja PP w) A (Cy .Mult (.bytes #[0] t) (.int 0 u)) Q E s:=
 ng b (BL w t u  s.heap.objs.size s.toks) [] rfl (λZ hp=>(nomatch hp)) rfl rfl λh' hk hn=>a h' hk
theorem AB(w:sa):Fn (Kh w) (Js w) 1894 Bf:=⟨by kernel_rfl,by kernel_rfl,by kernel_rfl,by kernel_rfl,by kernel_rfl,by kernel_rfl⟩
theorem zH(a b c:Value):mh s (fdOf (Kh w)) ⟨[a,b,c],[]⟩ [("version",a),("error",b),("buff",c)]:=Ih (by kernel_rfl)
theorem F8:fa Bf 2=.Assign [.Name "ec_infos" (aT (fa Bf 2)).pos] (.Subscript (.Subscript (.Name "ECC" (ch (ch (aV (fa Bf 2)) 0) 0).pos) (.Name "version" (ch (ch (aV (fa Bf 2)) 0) 1).pos) (ch (aV (fa Bf 2)) 0).pos) (.Name "error" (ch (aV (fa Bf 2)) 1).pos) (aV (fa Bf 2)).pos) (aP (fa Bf 2)):=by kernel_rfl
theorem E8:fa Bf 3=.Assign [.Tuple [.Name "data_blocks" (ch (aT (fa Bf 3)) 0).pos,.Name "error_blocks" (ch (aT (fa Bf 3)) 1).pos] 0 (aT (fa Bf 3)).pos] (.Call (.Name "make_blocks" (ch (aV (fa Bf 3)) 0).pos) [.Name "ec_infos" (ch (aV (fa Bf 3)) 1).pos,.Name "buff" (ch (aV (fa Bf 3)) 2).pos] [] (aV (fa Bf 3)).pos) (aP (fa Bf 3)):=by kernel_rfl
theorem D8:fa Bf 4=.Assign [.Name "cw_four" (aT (fa Bf 4)).pos] (.Constant .none 0 (aV (fa Bf 4)).pos) (aP (fa Bf 4)):=by kernel_rfl
theorem C8:fa Bf 5=.If (.Compare (.Name "version" (ch (aV (fa Bf 5)) 0).pos) [.In] [.Tuple [.Name "VERSION_M1" (ch (ch (aV (fa Bf 5)) 1) 0).pos,.Name "VERSION_M3" (ch (ch (aV (fa Bf 5)) 1) 1).pos] 0 (ch (aV (fa Bf 5)) 1).pos] (aV (fa Bf 5)).pos) mfC [] (aP (fa Bf 5)):=by kernel_rfl
theorem B8:fa Bf 6=.Assign [.Name "res" (aT (fa Bf 6)).pos] (.Call (.Name "Buffer" (ch (aV (fa Bf 6)) 0).pos) [] [] (aV (fa Bf 6)).pos) (aP (fa Bf 6)):=by kernel_rfl
theorem z8:fa Bf 8=.If (.Compare (.Name "cw_four" (ch (aV (fa Bf 8)) 0).pos) [.IsNot] [.Constant .none 0 (ch (aV (fa Bf 8)) 1).pos] (aV (fa Bf 8)).pos) mf8 [] (aP (fa Bf 8)):=by kernel_rfl
theorem xZ:fa Bf 10=.Assign [.Name "remainder" (aT (fa Bf 10)).pos] (.Constant (.int 0) 0 (aV (fa Bf 10)).pos) (aP (fa Bf 10)):=by kernel_rfl
noncomputable def Qy:Ya:=fa Bf 11
noncomputable def Py:Ya:=fa (aO Qy) 0
noncomputable def WA:Ya:=fa (aO Py) 0
noncomputable def cst(e:Oa)(is:List Int):List Oa:=(Ea is.length).map λi=>.Constant (.int (is.getD i 0)) 0 (ch e i).pos
theorem uZ:Qy=.If (.Compare (.Name "version" (ch (aV Qy) 0).pos) [.In] [.Tuple (cst (ch (aV Qy) 1) [2,3,4,5,6]) 0 (ch (aV Qy) 1).pos] (aV Qy).pos) (aB Qy) [Py] (aP Qy):=by kernel_rfl
theorem tZ:Py=.If (.Compare (.Name "version" (ch (aV Py) 0).pos) [.In] [.Tuple (cst (ch (aV Py) 1) [14,15,16,17,18,19,20,28,29,30,31,32,33,34]) 0 (ch (aV Py) 1).pos] (aV Py).pos) (aB Py) [WA] (aP Py):=by kernel_rfl
theorem sZ:WA=.If (.Compare (.Name "version" (ch (aV WA) 0).pos) [.In] [.Tuple (cst (ch (aV WA) 1) [21,22,23,24,25,26,27]) 0 (ch (aV WA) 1).pos] (aV WA).pos) (aB WA) [] (aP WA):=by kernel_rfl
noncomputable def zZ:Oa:=ch (aV (fa Bf 12)) 1
theorem wZ:fa Bf 12=.Expr (.Call (.Attribute (.Name "res" (ch (ch (aV (fa Bf 12)) 0) 0).pos) "extend" (ch (aV (fa Bf 12)) 0).pos) [.BinOp (.Constant (.bytes [0]) 0 (ch zZ 0).pos) .Mult (.Name "remainder" (ch zZ 1).pos) zZ.pos] [] (aV (fa Bf 12)).pos) (aP (fa Bf 12)):=by kernel_rfl
theorem vZ:fa Bf 13=.Return (ac (.Name "res" (aV (fa Bf 13)).pos)) (aP (fa Bf 13)):=by kernel_rfl
noncomputable def D3(e:Oa)(is:List Int):List (Int×Sd):=(Ea is.length).map λi=>(is.getD i 0,(ch e i).pos)
section
theorem Jv:∀(l:List (Int×Sd)) {Q:List Value->aa->Prop} {s:aa},(∀vs s',IntsAre vs (l.map (·.1))->Kp s s'->Q vs s')->Kv (M:=ja PP w) (A:=A) (l.map λp=>eval (.Constant (.int p.1) 0 p.2) ν) Q s
 |[],Q,s,h=>h [] s .nil .Pg
 |p::l,Q,s,h=>by
  show wpAny (ja PP w) A (eval (.Constant (.int p.1) 0 p.2) ν) (λv a=>Kv (l.map λp=>eval (.Constant (.int p.1) 0 p.2) ν) (λvs=>Q (v::vs)) a) Hc s
  refine qd (Jv l λvs s' hi k=>h _ s' (.cons _ _ hi) ((Kp.tok _).trans' k))
theorem EP{e d f:Sd}{es:List Oa}{l:List (Int×Sd)}{v:Int}{body a:List Ya}{pos:Sd}(x:SX w ν σ ς B L s)(lv:σ.lookup ("version":Ba)=ac (.int v))(c:Eh d (mf es ν)=(l.map λp=>eval (.Constant (.int p.1) 0 p.2) ν).map λx=>(be,x))(hl:l.length<=30)(hv:((l.map (·.1)).any (·==v))=be)
  {Q:Ff->aa->Prop} (h:∀s',Kp s s'->zd (ja PP w) A (Oc a ν) Q s'):
  zd (ja PP w) A (Cg (.If (.Compare (.Name "version" e) [.In] [.Tuple es 0 d] f) body a pos) ν) Q s:=by
 refine xq (b:=be) (tf (x.dF lv (by decide) λt=>ak ?_));rw[c];refine Gf (Jv l λvs s1 hi g=>⟨?_,?_⟩)
 ·have:=hi.length;rw[cb] at this;dsimp only[mc];lia
 ·refine in_tuple_ints (ns:=l.map (·.1)) ⟨_,qa _ rfl,rfl,_,rfl⟩ (by simpa using hi) ?_;rw[hv];refine Le ⟨rfl,?_⟩;exact h _ (g.trans' (.push _))
set_option tactic.hygienic true
theorem qZ{v:Int}(x:SX w ν σ ς B L s)(lv:σ.lookup ("version":Ba)=ac (.int v))(hv:v<=1){Q:Ff->aa->Prop}(h:∀s',Kp s s'->Q .next s'):zd (ja PP w) A (Cg (fa Bf 11) ν) Q s:=by
 have a:∀(l:List Int),(l.all λi=>decide (1 < i))=a8->(l.any (·==v))=be:=λl hl=>by
  rw[CM];intro i hi;have:=Aa.mp hl i hi;have:1 < i:=by simpa using this
  simp;lia
 show zd _ _ (Cg Qy ν) _ _
 rw[uZ];refine EP (l:=D3 (ch (aV Qy) 1) [2,3,4,5,6]) x lv (by kernel_rfl) (by decide) (a _ (by kernel_rfl)) λs1 b=>ub (Od (Q:=λf s'=>f=.next/\Kp s s') ?_ λf s' q=>⟨q.1,Jf (by rw[q.1] at *;exact h s' q.2)⟩);rw[tZ];refine EP (l:=D3 (ch (aV Py) 1) [14,15,16,17,18,19,20,28,29,30,31,32,33,34]) (x.step b) lv (by kernel_rfl) (by decide) (a _ (by kernel_rfl)) λs2 c=>ub ?_;rw[sZ];refine EP (l:=D3 (ch (aV WA) 1) [21,22,23,24,25,26,27]) (x.step (b.trans' c)) lv (by kernel_rfl) (by decide) (a _ (by kernel_rfl)) λe d=>Jf ⟨rfl,Jf ⟨rfl,b.trans' (c.trans' d)⟩⟩
end
structure ly where
 v:Int
 pe:P
 inner:Nat
 t:Nat
 ot:Jb
 m:Nat
 ec:Nat
 ed:Nat
 total:Nat
 room:Nat
 ta:Nat
 tb:Nat
 tc:Nat
 gt:Nat
 gn:Nat
 gvs:List Value
 gen:List Int
structure lu(w:sa)(y:ly):Prop where
 hv:Kw rl (EE w).toArray (.inl y.v)=ac (.ref y.inner)
 hin:∀{h:Xb},Fk w h->∃o,h.get? y.inner=ac o/\o.cls=.type "dict"
 hlev:∀{A:Wc} {s':aa} {lv:Value} {Q:Value->aa->Prop},VR s'.heap y.pe lv->A.handled=a6->Fk w s'.heap->(∀Sg,Kp s' Sg->Q (.ref y.t) Sg)->wpAny (ja PP w) A (Vj (.ref y.inner) lv) Q Hc s'
 ht:∀{h:Xb},Fk w h->h.get? y.t=ac y.ot
 hot:y.ot.cls=.type "tuple"/\y.ot.data=.seq #[.ref y.ec] y.m
 he:∀{h:Xb},Fk w h->h.get? y.ec=ac (xn y.ed 1 y.total y.room y.ta y.tb y.tc)
 hed:∀{h:Xb},Fk w h->h.get? y.ed=ac (Va [] 0)
 hgp:Kw Fh (Y4 w).toArray ((y.total:Int)-y.room)=ac (.ref y.gt)
 hgt:∀{h:Xb},Fk w h->h.get? y.gt=ac (nh y.gvs y.gn)
 hgi:Es y.gvs=ac y.gen
 hgl:y.room+y.gen.length=y.total
 hgb:(y.gen.all λg=>decide (0<=g)&&decide (g < 255))=a8
 hr:y.total<=200
 hrm:1<=y.room
 n40:y.t≠1940/\y.ec≠1940/\y.ed≠1940/\y.gt≠1940
 hvl:y.v<=1
 npe:∀ns,y.pe≠.il ns
theorem rZ(h:A.handled=a6)(F:Fk w ς.heap)(hsc:ν.scope=(fdOf (Kh w)).scope){y:ly}(ok:lu w y)(x:SX w ν σ ς B L s)(lv:σ.lookup ("version":Ba)=ac (.int y.v))(le:σ.lookup ("error":Ba)=ac y.pe){Q:Ff->aa->Prop}
  (j:∀s',SX w ν ((("ec_infos":Ba),P.addr y.t)::σ) ς B L s'->Q .next s'):wpAny (ja PP w) A (Cg (fa Bf 2) ν) Q Hc s:=by
 have c:∀x,ν.kindOf x=(fdOf (Kh w)).scope.names.lookup x:=λx=>by unfold Md;rw[hsc]
 rw[F8];refine PySem.wpAny_Assign_Name (Mj (Mj (Tg x.st.re ((c _).trans (by kernel_rfl)) (Vt (i:=3) w rfl rfl) (by decide) (x.dF lv (by decide) λl=>?_)))) (by kernel_rfl);have F1:=x.fk F;have hT:s.TypeIs (.ref 139) "dict":=⟨_,F1.ecc,rfl⟩;refine tail_any hT slot_dict_getitem.lookup (pV F1 ok.hv ?_) (Jh (by intros;simp));have a:=x.step (s':={s with toks:=s.toks+1}) (.tok _);have d:=a.fk F;refine ue λhC=>?_;obtain ⟨f,hl,b,_⟩:=a.st.look "error" _ le;refine hC ?_;refine vd a.st.kind hl (by decide) (by decide) ?_;refine ue λhC=>?_;obtain ⟨m,k,ci⟩:=ok.hin d;refine hC ?_;refine tail_any (T:="dict") ⟨_,k,ci⟩ slot_dict_getitem.lookup (ok.hlev b h d λs2 g=>?_) (Jh (by intros;simp))
 exact(a.step g).bind (p:=.addr y.t) (.inl ((c _).trans (by kernel_rfl))) rfl nofun λe x3=>j e x3
set_option tactic.hygienic false
noncomputable def wordsOf(bs:List Int)(room:Nat):List Int:=(Ea room).map λi=>Wk (Ln bs (8*i))
noncomputable def Fj(h:Xb):Xb:=Dm (Dm h 1940) 1892
theorem aA(e:h.get? b=ac o)(h1:b≠1940)(h2:b≠1892):(Fj h).get? b=ac o:=by
 unfold Fj;rw[Nt h2,Nt h1];exact e
theorem Zz(e:(Fj h).get? b=ac o):h.get? b=ac o:=Cm (Cm e)
theorem gy:¬(Fj h).get? 1940=ac o:=λe=>by
 unfold Fj at e;have:=Cm e;rw[qm] at this;exact nomatch this
theorem FE:¬(Fj h).get? 1892=ac o:=λe=>by
 unfold Fj at e;rw[qm] at e;exact nomatch e
theorem lt3:∀z n:Nat,z < n->z≠n+1+1+1/\z≠n+1+1/\z≠n+1:=
 λz n h=>⟨Na (ya h (Za n 3)),Na (ya h (Za n 2)),Na (ya h (Za n 1))⟩
theorem SX.apart(x:SX w ν σ ς B L s)(i:Nat)(h:L[i]?=ac (a,o)):∀e∈L.eraseIdx i,e.1≠a:=by
 have nd:=(x.front i h).nd;rw[Mb,Lb] at nd;exact λe he q=>nd.1 (Ma.mpr ⟨e,he,q⟩)
theorem Ku{x y:Ba}{c d:ma}{l:List (Ba×ma)}(e:((y,d)::l).lookup x=ac c):d=c\/l.lookup x=ac c:=by
 rw[Ka] at e;cases h:x==y with
 |true=>rw[h] at e;exact .inl (xa e)
 |false=>rw[h] at e;exact .inr e
theorem UU(g:GK (N+20) A)(F:Fk w s.heap){y:ly}(ok:lu w y){dd d:ma}{bs:List Int}{a3U:Array Value}{tv:xm}{lv:Value}
  (hlv:VR s.heap y.pe lv) (hb:s.heap.get? b=ac (Fe dd d)) (JK:s.heap.get? dd=ac zg) (hd:yi s.heap d bs) (hB:Vm bs) (hz:bs.length<=2 ^ 11) (hn:y.room<=(bs.length+7) / 8) (C:ve s.heap 1944 1940 a3U) (B:ve s.heap 1894 1892 #[])
  (hK:∀ν f c' P' T t D1 D2 bk ck oc oP m k doc E,ν=bg (fdOf (Kh w)) s.heap.objs.size 1895->GK (N+18) (A.deeper ν)->((∀y∈s.gens,y.bare=a8)->∀y∈E.gens,y.bare=a8)->uo 1944 1940 (jx w) k->uo 1894 1892 (Js w) m->uo c' P' oc oP->
   P'∉Lh->(∀h:Xb,h.get? c'=ac oc->h.CodeRec (.ref c') (Wr ν "to_binary" "to_binary"))->
   SX w ν [("cw_four",.none),("error_blocks",.addr D2),("data_blocks",.addr D1),("ec_infos",.addr y.t),("to_binary",.addr f),("version",.int y.v),("error",y.pe),("buff",.addr b)] {s with heap:=Fj s.heap,gens:=E.gens} (λz o=>(Fj s.heap).get? z=ac o)
    [(P',oP),(ck,Tb (Wa (qh y.gen (wordsOf bs y.room)))),(bk,Tb (Wa (wordsOf bs y.room))),(D2,wb [.ref ck] 1),(D1,wb [.ref bk] 1),(1940,k),(f,⟨.type "function",a6,.func (HA w (Wr ν "to_binary" "to_binary") (.ref T) c' doc),#[]⟩),(T,nh [.int 8 t] 0),(c',oc),(1892,m)] E->
   zd (ja PP w) (A.deeper ν) (Oc [fa Bf 5,fa Bf 6,fa Bf 7,fa Bf 8,fa Bf 9,fa Bf 10,fa Bf 11,fa Bf 12,fa Bf 13] ν) (λf s'=>Q (match f with|.ret v=>v|_=>.none) s') E):
  zd (ja PP w) A (call (.ref 1895) [.int y.v tv,lv,.ref b]) Q s:=by
 have F0:Fk w (Fj s.heap):=(F.off (by decide)).off (by decide);have D:=C.tab;have e92:=B.tab;have hpe:Zl [("version",P.int y.v),("error",y.pe),("buff",P.addr b)]=a8:=by
  have:=ok.npe;cases h:y.pe with
  |il ns=>exact absurd h (this ns)
  |_=>rfl
 refine fo (N:=N+18) (G:=GW w) (rd:=[]) (σ:=[("version",.int y.v),("error",y.pe),("buff",.addr b)]) (δ:=λZ=>0) (ς:={s with heap:=Fj s.heap}) (K:=λx o=>(Fj s.heap).get? x=ac o) (AB w)
  (g.mono (by lia)) (F.uf 20 rfl rfl) (F.uf 34 rfl rfl) (zH _ _ _) (by kernel_rfl) (by kernel_rfl) ⟨s.heap,s.toks,rfl⟩ (sf F0) (λZ Z e=>e) (λZ Z e=>Zz e) ⟨⟨rfl,⟨_,rfl⟩,nofun⟩,⟨rfl,hlv,λns q=>absurd q (ok.npe ns)⟩,⟨rfl,rfl,nofun⟩,trivial⟩ (λx y ns ms Z e=>(Fg hpe e).elim) λr ν n l Y vK=>?_
 have LM:=SX.start Y hpe;have hsc:ν.scope=(fdOf (Kh w)).scope:=by subst n;rfl
 have hi:Nf ν=be:=by subst n;kernel_rfl
 have KD:ν.code=.ref 1894:=by subst n;exact(AB w).code
 have I0:ν.locals=s.heap.objs.size:=by subst n;rfl
 have N0:ν.cells=uh (s.heap.objs.size+1) (fdOf (Kh w)).scope.names []:=by subst n;rfl
 have ek:∀x,ν.kindOf x=(fdOf (Kh w)).scope.names.lookup x:=λx=>by unfold Md;rw[hsc]
 have apO:∀{z:ma} {o:Jb},s.heap.get? z=ac o->Ap ν z:=by
  intro z o e;have hlt:=Ha e;refine⟨λq=>absurd hlt (by rw[<- q,I0];exact je _),λyy c ec=>?_⟩
  rw[N0] at ec;have e3:uh (s.heap.objs.size+1) (fdOf (Kh w)).scope.names []=[(("error_blocks":Ba),s.heap.objs.size+1+1+1),(("data_blocks":Ba),s.heap.objs.size+1+1),(("to_binary":Ba),s.heap.objs.size+1)]:=by kernel_rfl
  rw[e3] at ec;refine ue λhC=>?_;obtain ⟨l1,l2,l3⟩:=lt3 _ _ hlt;refine hC ?_
  exact(Ku ec).elim (λd=>d▸qb l1) λec=>(Ku ec).elim (λd=>d▸qb l2) λec=>(Ku ec).elim (λd=>d▸qb l3) λec=>nomatch ec
 rw[I8];refine ub ?_;rw[H8];refine cj hi (by kernel_rfl) (kc (Eo ⟨λa e=>(nomatch e),rfl,?_⟩));generalize WW:({r with toks:=r.toks+1}:aa)=kN;have OW:Kp r kN:=WW▸.tok _;have QS:=LM.step OW;have u:=vK.trans' OW;have a3r:=QS.Zo (apO D) (λo q=>gy q) (λe q=>(nomatch q)) (u.get D);refine ub (kc (tV l.ga.hd a3r (F.kp u) KD (B.keeps λZ Z e=>u.get e) (apO e92) (λo q=>FE q) (λe q=>by rw[Ca.mp q];exact(by decide:(1940:Nat)≠1892)) ((ek _).trans (by kernel_rfl)) λf c' P' T t doc m oc oP s4 x4 c92 cr2 cc2=>⟨rfl,?_⟩));have pf:P'∉Lh:=λq=>(um F0 P' q).elim λo e=>x4.nb (P',oP) (.tail _ (.tail _ (.tail _ (.head _)))) o e;refine ub (kc (rZ l.ga.hd F0 hsc ok x4 (Ad bh (by decide)) (Ad (Ad bh (by decide)) (by decide)) λE j=>⟨rfl,?_⟩));have F5:Fk w E.heap:=j.fk F0;have nf:∀{z:ma} {o:Jb},s.heap.get? z=ac o->(∀vs,o.data≠.fields vs)->(Fj s.heap).get? z=ac o:=by
  exact λe hn=>aA e (Zq D e hn) (Zq e92 e hn)
 have hb5:=j.base (nf hb (λvs q=>nomatch q));have a5t:=j.base (nf JK (λvs q=>nomatch q));have hd5:=j.base (nf hd (λvs q=>nomatch q))
 refine(uo.of C (F.uf 40 rfl rfl)).elim λa7Z q40=>?_
 obtain rfl:=xa (D.symm.trans q40.1);have c40:=q40.2
 refine(id c40).elim λa6p a0S=>?_
 refine ub ?_;rw[E8];refine Hm rfl rfl ?_;refine vi (Tg j.st.re ((ek _).trans (by kernel_rfl)) (Vt (i:=4) w rfl rfl) (by decide) ?_);refine Bd (xs:=[eval (.Name "ec_infos" (ch (aV (fa Bf 3)) 1).pos) ν,eval (.Name "buff" (ch (aV (fa Bf 3)) 2).pos) ν]) (show 2<=30 by decide) ?_;refine kc (j.Pt bh (by decide) (kc (j.Pt (Ad (Ad (Ad (Ad bh (by decide)) (by decide)) (by decide)) (by decide)) (by decide) ?_)));refine fm (F5.uf 21 rfl rfl) (VD w).data ?_;show zd _ _ (call (.ref 1900) [.ref y.t,.ref b]) _ _
 have hgb:∀g∈y.gen,0<=g/\g < 255:=λv hv=>have q:=wa.mp (Aa.mp ok.hgb v hv);⟨of_decide_eq_true q.1,of_decide_eq_true q.2⟩;refine lE (N:=N+4) (l.mono (by lia)) F5 hb5 a5t hd5 hB hz (a0S _ (j.kp.get (F0.uf 40 rfl rfl)) (j.get 5 rfl)) (ok.ht F5) ok.hot ok.n40.1 (ok.he F5) ok.n40.2.1 (ok.hed F5) ok.n40.2.2.1 ok.hgp (ok.hgt F5) ok.n40.2.2.2 (Sq ok.hgi) ok.hgl hgb hn ok.hr λT3 D1 D2 bk ck h6 tk6 gs6 ps6 L0 O XP hT3 hD1 hD2 hbk hck L hnd=>?_;generalize J:({E with heap:=h6,toks:=tk6,gens:=gs6}:aa)=s6 at *;have hh6:s6.heap=h6:=by rw[<- J]
 have hg6:s6.gens=gs6:=by rw[<- J]
 rw[<- hh6] at L0 O hT3 hD1 hD2 hbk hck;have hg5:E.gens=s.gens:=j.gens;have V:=apO D;have M:∀o:Jb,¬(Fj s.heap).get? 1940=ac o:=λo q=>gy q;have y0:=(j.drop 5).move (s':=s6) (wr:=[1940]) (λz hz=>by
   rw[Ca.mp hz];exact⟨V,M,j.apart 5 rfl⟩)
  (λz o hz e=>L0 z o (λq=>hz (q▸.head _)) e) (by rw[<- J]) (by rw[<- J])
 refine ue λhC=>?_;obtain ⟨k,a5F,a5L⟩:=uo.of O (L0 1944 _ (by decide) (j.kp.get (F0.uf 40 rfl rfl)));refine hC ?_;have I:∀{z:ma},E.heap.get? z=a6->∀o,¬(Fj s.heap).get? z=ac o:=λhz o q=>nomatch (j.base q).symm.trans hz
 have H:∀{z:ma},E.heap.get? z=a6->∀e∈(1940,k)::List.eraseIdx _ 5,e.1≠z:=λ{z} hz=>Ld (dh (j.get 5 rfl) hz) λe he=>dh ((j.drop 5).st.ks e.1 e.2 (.inr he)) hz;have d1:=Lb.mp hnd;have d2:=Lb.mp d1.2;have d3:=Lb.mp d2.2;have d4:=Lb.mp d3.2;have m1:=WR d2.1;have m2:=WR m1.2;have m3:=WR d3.1;have f1:=L D1 (.tail _ (.head _));have f2:=L D2 (.tail _ (.tail _ (.head _)));have f3:=L bk (.tail _ (.tail _ (.tail _ (.head _))));have f4:=L ck (.tail _ (.tail _ (.tail _ (.tail _ (.head _)))));have y1:=y0.Zo V M (j.apart 5 rfl) a5F;have y2:=y1.Zo (j.st.ap f1) (I f1) (H f1) hD1;have y3:=y2.Zo (j.st.ap f2) (I f2) (Ld m1.1 (H f2)) hD2;have y4:=y3.Zo (j.st.ap f3) (I f3) (Ld m3.1 (Ld m2.1 (H f3))) hbk;have y5:=y4.Zo (j.st.ap f4) (I f4) (Ld (WR d4.1).1 (Ld (WR m3.2).1 (Ld (WR m2.2).1 (H f4)))) hck;refine Co (items:=#[.ref D1,.ref D2]) l.ga.hd ⟨_,hT3,rfl,_,rfl⟩ rfl rfl λh7 he7=>?_;have k7:Kp s6 {s6 with heap:=h7}:=⟨h7,_,rfl,λz o e=>he7 z o (Na (Ha e)) e⟩;have y6:=y5.step k7;refine Bc (Ob (y6.bind (y:=ra "data_blocks") (p:=.addr D1) (.inr ((ek _).trans (by kernel_rfl))) rfl nofun λs8 y8=>?_));refine Bc (Ob (y8.bind (y:=ra "error_blocks") (p:=.addr D2) (.inr ((ek _).trans (by kernel_rfl))) rfl nofun λs9 y9=>?_));refine ri ⟨rfl,?_⟩;refine ub (kc ?_);rw[D8];refine PySem.wpAny_Assign_Name (ik ?_) (by kernel_rfl);refine y9.bind (y:=ra "cw_four") (p:=.none) (.inl ((ek _).trans (by kernel_rfl))) rfl nofun λs10 y10=>⟨rfl,?_⟩
 have g10:s10.gens=s6.gens:=y10.gens;have y11:=y10.front 8 rfl;rw[<- g10] at y11;refine hK ν f c' P' T t D1 D2 bk ck oc oP m k doc s10 n l (λhb0=>?_) a5L c92 ⟨#[],cc2⟩ pf cr2 y11;rw[g10,hg6];exact XP (by rw[hg5];exact hb0)
theorem aX(w:sa){y:Ba}{v:Int×xm}(h:gvs.lookup y=ac v):(GW w).mg y=ac (.int v.1 v.2):=(Ms w y).trans (Hz (YP _ w) h)
theorem cE{M:Bk}{b:List UInt8}{pos:Sd}(h:Q (.bytes b.toArray s.toks) {s with toks:=s.toks+1}):wpAny M A (eval (.Constant (.bytes b) k pos) ν) Q E s:=λZ Z Z=>h
section
set_option tactic.hygienic true
theorem RT(hsc:ν.scope=(fdOf (Kh w)).scope){v:Int}{half:Bool}(x:SX w ν σ ς B L s)(lv:σ.lookup ("version":Ba)=ac (.int v))(hv:(([-3,-1]:List Int).any (·==v))=half)
  {Q:Ff->aa->Prop} (ht:half=a8->∀s',Kp s s'->zd (ja PP w) A (Oc mfC ν) Q s') (hf:half=be->∀s',Kp s s'->Q .next s'):
  zd (ja PP w) A (Cg (fa Bf 5) ν) Q s:=by
 have a:∀x,ν.kindOf x=(fdOf (Kh w)).scope.names.lookup x:=λx=>by unfold Md;rw[hsc]
 rw[C8];refine xq (b:=half) (tf (x.dF lv (by decide) λt=>ak (Gf (xs:=[eval (.Name "VERSION_M1" _) ν,eval (.Name "VERSION_M3" _) ν]) ?_)));refine Tg x.st.re ((a _).trans (by kernel_rfl)) (aX w rfl) (by decide) ?_;refine Tg x.st.re ((a _).trans (by kernel_rfl)) (aX w rfl) (by decide) ?_;refine⟨(show 2<=mc by decide),?_⟩
 refine in_tuple_ints (ns:=[-3,-1]) ⟨_,qa _ rfl,rfl,_,rfl⟩ (.cons _ _ (.cons _ _ .nil)) ?_;rw[hv];refine Le ⟨rfl,?_⟩;cases half with
 |true=>exact ht rfl _ (.push _)
 |false=>exact Jf (hf rfl _ (.push _))
theorem pZ(g:GK (N+10) A)(F:Fk w ς.heap)(hsc:ν.scope=(fdOf (Kh w)).scope)(x:SX w ν σ ς B L s){Q:Ff->aa->Prop}
  (z:∀rb rdd rd s',SX w ν ((("res":Ba),P.addr rb)::σ) ς B ((rd,Tb (Wa []))::(rdd,zg)::(rb,Fe rdd rd)::L) s'->Q .next s'):zd (ja PP w) A (Cg (fa Bf 6) ν) Q s:=by
 have m:∀x,ν.kindOf x=(fdOf (Kh w)).scope.names.lookup x:=λx=>by unfold Md;rw[hsc]
 rw[B8];refine yk (by kernel_rfl) ?_;refine vi (Tg x.st.re ((m _).trans (by kernel_rfl)) (Vt (i:=6) w rfl rfl) (by decide) ?_);refine Bd (xs:=[]) (show 0<=30 by decide) ?_;refine NW g.ga.hd (x.fk F) λh1 y=>?_;have h:Kp s {s with heap:=h1,toks:=s.toks+0}:=mu 0 y;have a:=x.step h;refine EL (N:=N) (g.mono (by lia)) (a.fk F) λs2 b dd d v hb f hd nb c nd=>?_;have C:dd≠b:=Ks f hb (by intro e;exact nomatch e);have k:d≠b:=Ks hd hb (by intro e;exact nomatch e);have j:d≠dd:=Ks hd f (by decide);have t:=a.new nb v hb;have l:=a.st.ap c;have r:=t.Zo l (λo q=>nomatch (a.base q).symm.trans c) (Ld (qb C) λe he=>dh (a.st.ks e.1 e.2 (.inr he)) c) f;have n:=r.Zo (a.st.ap nd) (λo q=>nomatch (a.base q).symm.trans nd) (Ld (qb j) (Ld (qb k) λe he=>dh (a.st.ks e.1 e.2 (.inr he)) nd)) hd;exact n.bind (p:=.addr b) (.inl ((m _).trans (by kernel_rfl))) rfl nofun λu x3=>z b dd d u x3
set_option tactic.hygienic false
theorem QT(g:GK (N+10) A)(F:Fk w ς.heap)(hsc:ν.scope=(fdOf (Kh w)).scope)(hi:Nf ν=be){v:Int}{rb rdd rd:ma}{bits:List Int}(x:SX w ν σ ς B L s)(lv:σ.lookup ("version":Ba)=ac (.int v))(hv:v<=1)(c:σ.lookup ("res":Ba)=ac (.addr rb))
  (f:KL B L rb (Fe rdd rd)) (e:KL B L rdd zg) (b:L[i]?=ac (rd,Tb (Wa bits))) (hz:bits.length<=2 ^ 18) {Q:Ff->aa->Prop}
  (J:∀τ s',SX w ν τ ς B L s'->Q (.ret (.ref rb)) s'):zd (ja PP w) A (Oc [fa Bf 10,fa Bf 11,fa Bf 12,fa Bf 13] ν) Q s:=by
 have O:∀x,ν.kindOf x=(fdOf (Kh w)).scope.names.lookup x:=λx=>by unfold Md;rw[hsc]
 refine ub (kc ?_);rw[xZ];refine PySem.wpAny_Assign_Name (qd ?_) (by kernel_rfl)
 refine(x.step (.tok _)).bind (p:=.int 0) (.inl ((O _).trans (by kernel_rfl))) ⟨_,rfl⟩ nofun λs1 o=>⟨rfl,?_⟩
 refine ub (qZ o (Ad lv (by decide)) hv λs2 H=>⟨rfl,?_⟩);have d:=o.step H;refine ub ?_;rw[wZ];refine cj hi (by kernel_rfl) ?_;refine Zk rfl (by kernel_rfl) (by kernel_rfl) ?_;refine kc (d.Pt (Ad c (by decide)) (by decide) ?_);refine cX g.ga.hd (d.fk F) (d.fwd f) (d.fwd e) λu G=>?_;have l:Kp s2 {s2 with heap:=u,toks:=s2.toks+0}:=mu 0 G;have x3:=d.step l;generalize I:({s2 with heap:=u,toks:=s2.toks+0}:aa)=r at x3 ⊢;refine Bd (xs:=[eval (.BinOp _ _ _ _) ν]) (show 1<=30 by decide) ?_;refine kc (Mg (cE ?_));have k:=x3.step (s':={r with toks:=r.toks+1}) (.tok _);refine k.dF bh (by decide) λV=>?_;refine a1T g.ga.hd (k.fk F) λh5 E=>?_;have h:=k.step (mu 1 E);have y:=h.fk F;refine fm (y.uf 25 rfl rfl) (Kx w).data ?_;show zd _ _ (call (.ref 1924) [.ref rb,.bytes #[] _]) _ _
 refine kE (N:=N+8) (g.mono (by lia)) y (h.fwd f) (h.get i b) λs6 A6 M D=>?_;have n:=h.step D;refine DB M.gd (n.get i b) (by simp[Ae,mc];lia) λY m t=>?_;obtain ⟨h8,z,rfl,C⟩:=m;have T:Wa bits++#[]=Wa bits:=by simp
 rw[T] at t;have j:=n.put (tk:=z) i b C t;rw[aD b] at j;refine⟨rfl,λa q=>(nomatch q),rfl,?_⟩
 refine Hl ?_;rw[vZ];exact ir (kc (j.Pt (Ad c (by decide)) (by decide) ⟨⟨_,rfl⟩,J _ _ j⟩))
end
section
variable{P' f T c' X bk rb rdd rd:ma}{nm q:Ba}{doc:Value}{oc oP:Jb}{data old:List Int}
theorem vN:uj ν.scope.names ν:=⟨λZ h=>h,λZ h=>h⟩
set_option tactic.hygienic true in
theorem GO(g:GK (N+10) A)(F:Fk w ς.heap)(hsc:ν.scope=(fdOf (Kh w)).scope)(hi:Nf ν=be)(which:Bool){ird:Nat}
  (x:SX w ν σ ς B ((P',oP)::L) s) (code:uo c' P' oc oP) (pf:P'∉Lh)
  (hf:KL B L f ⟨.type "function",a6,.func (HA w q (.ref T) c' doc),#[]⟩) (hT:KL B L T (nh [.int 8 t] 0)) (hc:KL B L c' oc) (hrec:∀h:Xb,h.get? c'=ac oc->h.CodeRec (.ref c') q) (hX:KL B L X (wb [.ref bk] 1)) (hbk:KL B L bk (Tb (Wa data)))
  (lf:σ.lookup ("to_binary":Ba)=ac (.addr f)) (lX:σ.lookup (if which then ("data_blocks":Ba) else ("error_blocks":Ba))=ac (.addr X)) (by':dj data) (len:data.length<=200)
  (b:σ.lookup ("res":Ba)=ac (.addr rb)) (i:KL B L rb (Fe rdd rd)) (c:KL B L rdd zg) (e:L[ird]?=ac (rd,Tb (Wa old))) (hz:old.length<=2 ^ 18) {Q:Ff->aa->Prop}
  (k:∀d s',uo c' P' oc d->((∀y∈s.gens,y.bare=a8)->∀y∈s'.gens,y.bare=a8)->(∀g,g < s.gens.size->s'.gens[g]?=s.gens[g]?)->
   SX w ν σ {ς with gens:=s'.gens} B ((P',d)::L.set ird (rd,Tb (Wa (old++xd data)))) s'->Q .next s'):
  zd (ja PP w) A (Cg (if which then fa Bf 7 else fa Bf 9) ν) Q s:=by
 have j:∀x,ν.kindOf x=(fdOf (Kh w)).scope.names.lookup x:=λx=>by unfold Md;rw[hsc]
 have a:ν.scope.names=(fdOf (Kh w)).scope.names:=by rw[hsc]
 cases which with
 |true=>
  rw[if_pos rfl,A8,L8];exact vD (nm:="data_blocks") g F hsc hi vN (by kernel_rfl) rfl rfl (by kernel_rfl) rfl (by rw[a];kernel_rfl) (by kernel_rfl) (by kernel_rfl) (by rw[a];kernel_rfl) (by kernel_rfl) (by kernel_rfl) (by kernel_rfl) (by kernel_rfl) (by kernel_rfl) (by kernel_rfl) (by decide) ((j _).trans (by kernel_rfl)) ((j _).trans (by kernel_rfl))
   x code pf hf hT hc hrec hX hbk lf lX by' len b i c e hz k
 |false=>
  rw[if_neg (by decide),yZ,J8];exact vD (nm:="error_blocks") g F hsc hi vN (by kernel_rfl) rfl rfl (by kernel_rfl) rfl (by rw[a];kernel_rfl) (by kernel_rfl) (by kernel_rfl) (by rw[a];kernel_rfl) (by kernel_rfl) (by kernel_rfl) (by kernel_rfl) (by kernel_rfl) (by kernel_rfl) (by kernel_rfl) (by decide) ((j _).trans (by kernel_rfl)) ((j _).trans (by kernel_rfl))
   x code pf hf hT hc hrec hX hbk lf lX by' len b i c e hz k
end
theorem kl(i:Nat)(h:L[i]?=ac (b,o)):KL B L b o:=.inr (Cb h)
theorem ml(i:Nat){e:ma×Jb}(h:L[i]?=ac e):e∈L:=Cb h
set_option tactic.hygienic true in
theorem w8(x:SX w ν σ ς B L s)(d:σ.lookup ("cw_four":Ba)=ac p){Q:Ff->aa->Prop}
  (ht:∀a,p=.addr a->zd (ja PP w) A (Oc mf8 ν) Q s) (hf:p=.none->Q .next s) (hp:p=.none\/∃a,p=.addr a):zd (ja PP w) A (Cg (fa Bf 8) ν) Q s:=by
 refine ue λhC=>?_;obtain ⟨v,hv,c,_⟩:=x.st.look "cw_four" _ d;refine hC ?_;rw[z8];rcases hp with rfl|⟨a,rfl⟩
 ·have c:v=.none:=c;subst c;refine xq (b:=be) (tf (vd x.st.kind hv (by decide) (by decide) (ik ?_)));refine Ga (a:=.bool be) rfl (Le ⟨rfl,Jf (hf rfl)⟩)
 ·have c:v=.ref a:=c;subst c;refine xq (b:=a8) (tf (vd x.st.kind hv (by decide) (by decide) (ik ?_)));refine Ga (a:=.bool a8) rfl (Le ⟨rfl,ht a rfl⟩)
theorem wQ(g:GK (N+10) A)(F:Fk w ς.heap)(hsc:ν.scope=(fdOf (Kh w)).scope)(hi:Nf ν=be){v:Int}{pe:P}{t' P' o bk z u f T c':ma}{W K:List Int}{oc oP d c:Jb}{doc:Value}{q:Ba}
  (x:SX w ν [("cw_four",.none),("error_blocks",.addr u),("data_blocks",.addr z),("ec_infos",.addr t'),("to_binary",.addr f),("version",.int v),("error",pe),("buff",.addr b)] ς B
    [(P',oP),(o,Tb (Wa K)),(bk,Tb (Wa W)),(u,wb [.ref o] 1),(z,wb [.ref bk] 1),(1940,d),(f,⟨.type "function",a6,.func (HA w q (.ref T) c' doc),#[]⟩),(T,nh [.int 8 t] 0),(c',oc),(1892,c)] s)
  (code:uo c' P' oc oP) (pf:P'∉Lh) (hrec:∀h:Xb,h.get? c'=ac oc->h.CodeRec (.ref c') q) (hv:v<=1) (hh:(([-3,-1]:List Int).any (·==v))=be) (bW:dj W) (bK:dj K) (Y:W.length<=200) (lK:K.length<=200) {Q:Ff->aa->Prop}
  (hQ:∀τ rb rdd rd j s',((∀y∈s.gens,y.bare=a8)->∀y∈s'.gens,y.bare=a8)->SX w ν τ {ς with gens:=s'.gens} B j s'->(1940,d)∈j->(1892,c)∈j->(rb,Fe rdd rd)∈j->(rdd,zg)∈j->(rd,Tb (Wa (xd W++xd K)))∈j->Q (.ret (.ref rb)) s'):
  zd (ja PP w) A (Oc [fa Bf 5,fa Bf 6,fa Bf 7,fa Bf 8,fa Bf 9,fa Bf 10,fa Bf 11,fa Bf 12,fa Bf 13] ν) Q s:=by
 refine ub (RT (half:=be) hsc x rfl hh (λq=>nomatch q) λZ s1 H=>⟨rfl,?_⟩);have L:=x.step H;have hg1:s1.gens=s.gens:=by obtain ⟨_,_,e,_⟩:=H;rw[e]
 refine ub (pZ g F hsc L λrb rdd rd s2 D=>⟨rfl,?_⟩);have l:s2.gens=s.gens:=by rw[D.gens,<- x.gens]
 have I:=D.front 3 rfl;refine ub (GO (which:=a8) (ird:=0) (q:=q) (doc:=doc) (T:=T) (f:=f) (t:=t) (X:=z) (bk:=bk) (data:=W) (rb:=rb) (rdd:=rdd) (rd:=rd) (old:=[]) g F hsc hi I code pf (kl 8 rfl) (kl 9 rfl) (kl 10 rfl) hrec (kl 6 rfl) (kl 4 rfl) rfl rfl bW Y rfl (kl 2 rfl) (kl 1 rfl) rfl (by decide)
  λV M r n gk3 x3=>⟨rfl,?_⟩)
 refine ub (w8 x3 (p:=.none) rfl (λa q=>nomatch q) (λZ=>⟨rfl,?_⟩) (.inl rfl));refine ub (GO (ς:={ς with gens:=M.gens}) (which:=be) (ird:=0) (q:=q) (doc:=doc) (T:=T) (f:=f) (t:=t) (X:=u) (bk:=o) (data:=K) (rb:=rb) (rdd:=rdd) (rd:=rd) (old:=[]++xd W) g F hsc hi x3 r pf (kl 8 rfl) (kl 9 rfl) (kl 10 rfl) hrec (kl 5 rfl) (kl 3 rfl) rfl rfl bK lK rfl (kl 2 rfl) (kl 1 rfl) rfl (by rw[yS,Mh];lia)
  λO G cd4 m gk4 J=>⟨rfl,?_⟩)
 refine QT (ς:={ς with gens:=G.gens}) (i:=1) (bits:=[]++xd W++xd K) g F hsc hi J (v:=v) rfl hv rfl (kl 3 rfl) (kl 2 rfl) rfl (by simp[Mh];lia) λτ E C=>?_;have k:E.gens=G.gens:=C.gens;have:=hQ τ rb rdd rd _ E (λhb=>?_) (by rw[k];exact C) (ml 8 rfl) (ml 12 rfl) (ml 3 rfl) (ml 2 rfl) (ml 1 rfl)
 ·exact this
 ·rw[k];exact m (n (by rw[l];exact hb))
noncomputable def vm(W K:List Int):List Int:=xd W++xd K
theorem kv(bs:List Int)(room:Nat):(wordsOf bs room).length=room:=by simp[wordsOf]
theorem PC{bs:List Int}(h:Vm bs){room:Nat}(hn:room<=(bs.length+7) / 8):dj (wordsOf bs room):=λv hv=>by
 obtain ⟨i,hi,rfl⟩:=Ma.mp hv;have hi:=zc.mp hi;exact rz (Su h _) (au (by lia))
theorem Vx{gen W:List Int}(h:dj W):dj (qh gen W):=
 (zq _ _ _ _ (h.append λv hv=>by rw[(Di.mp hv).2];decide)).drop _
theorem Ux(gen W:List Int):(qh gen W).length=gen.length:=by
 delta qh;rw[ji,Il,Nb,Zd];exact Jg ..
theorem rH(g:GK (N+20) A)(F:Fk w s.heap){y:ly}(ok:lu w y){dd d:ma}{bs:List Int}{l:Array Value}{tv:xm}{lv:Value}
  (L:VR s.heap y.pe lv) (hb:s.heap.get? b=ac (Fe dd d)) (M:s.heap.get? dd=ac zg) (hd:yi s.heap d bs) (hB:Vm bs) (hz:bs.length<=2 ^ 11) (hn:y.room<=(bs.length+7) / 8) (j:ve s.heap 1944 1940 l) (i:ve s.heap 1894 1892 #[])
  (hh:(([-3,-1]:List Int).any (·==y.v))=be)
  (hQ:∀rb rdd rd h' tk r,(∀z o,z≠1940->z≠1892->s.heap.get? z=ac o->h'.get? z=ac o)->(∃ps,ve h' 1944 1940 ps)->(∃ps,ve h' 1894 1892 ps)->((∀y∈s.gens,y.bare=a8)->∀y∈r,y.bare=a8)->
   h'.get? rb=ac (Fe rdd rd)->h'.get? rdd=ac zg->yi h' rd (vm (wordsOf bs y.room) (qh y.gen (wordsOf bs y.room)))->Q (.ref rb) {s with heap:=h',toks:=tk,gens:=r}):
  zd (ja PP w) A (call (.ref 1895) [.int y.v tv,lv,.ref b]) Q s:=by
 have F0:Fk w (Fj s.heap):=(F.off (by decide)).off (by decide);refine UU (N:=N) g F ok L hb M hd hB hz hn j i λν f c' P' T t D1 D2 bk ck oc oP m n doc u q g5 O c40 c92 code pf hrec x5=>?_;have hsc:ν.scope=(fdOf (Kh w)).scope:=by subst q;rfl
 have hi:Nf ν=be:=by subst q;kernel_rfl
 have bW:=PC hB hn;have bK:=Vx (gen:=y.gen) bW;have hgl:=ok.hgl;have hr:=ok.hr;have hrm:=ok.hrm;have lW:(wordsOf bs y.room).length<=200:=by rw[kv];lia
 have lK:(qh y.gen (wordsOf bs y.room)).length<=200:=by rw[Ux];lia
 have F5:Fk w ({s with heap:=Fj s.heap,gens:=u.gens}:aa).heap:=F0;have V:∀(τ:List (Ba×P)) rb rdd rd (c:List (ma×Jb)) (s':aa),((∀y∈u.gens,y.bare=a8)->∀y∈s'.gens,y.bare=a8)->
   SX w ν τ {({s with heap:=Fj s.heap,gens:=u.gens}:aa) with gens:=s'.gens} (λz o=>(Fj s.heap).get? z=ac o) c s'->(1940,n)∈c->(1892,m)∈c->(rb,Fe rdd rd)∈c->(rdd,zg)∈c->
   (rd,Tb (Wa (vm (wordsOf bs y.room) (qh y.gen (wordsOf bs y.room)))))∈c->Q (.ref rb) s':=by
  intro τ rb rdd rd c s' k a I H G p E;refine c40.elim λD B=>?_;refine c92.elim λC x=>?_;have J:=hQ rb rdd rd s'.heap s'.toks s'.gens (λz o h1 h2 e=>a.base (aA e h1 h2)) ⟨D,B _ (a.kp.get (F0.uf 40 rfl rfl)) (a.st.ks _ _ (.inr I))⟩ ⟨C,x _ (a.kp.get (F0.uf 34 rfl rfl)) (a.st.ks _ _ (.inr H))⟩ (λh=>k (O h))
   (a.st.ks _ _ (.inr G)) (a.st.ks _ _ (.inr p)) (a.st.ks _ _ (.inr E))
  have Y:s'={s with heap:=s'.heap,toks:=s'.toks,gens:=s'.gens}:=by
   refine ue λhC=>?_;obtain ⟨h,tk,e⟩:=a.st.sh;refine hC ?_;rw[e]
  rw[Y];exact J
 exact wQ (ς:={s with heap:=Fj s.heap,gens:=u.gens}) (N:=N+8) (g5.mono (by lia)) F5 hsc hi x5 code pf hrec ok.hvl hh bW bK lW lK λτ rb rdd rd c s' h1 h2 h3 h4 h5 h6 h7=>V τ rb rdd rd c s' h1 h2 h3 h4 h5 h6 h7
noncomputable def HW(a:Nat):Jb:=(F1.lookup a).getD Ep
noncomputable def hJ(w:sa)(o:Jb):List Int:=(Es (Uo o)).getD []
noncomputable def ly1(w:sa):ly:=⟨-2,.int 1,147,153,⟨.type "tuple",a6,.seq ⟨[.ref 152]⟩ 0,⟨[]⟩⟩,0,152,151,10,5,412,413,414,1870,0,Uo (pG w),hJ w (pG w)⟩
theorem OZ(w:sa):lu w (ly1 w) where
 hv:=by kernel_rfl
 hin:=λF=>⟨_,F.ec (147,Va [⟨1,.int 1 264,.ref 153⟩,⟨0,.int 0 266,.ref 159⟩] 2) (za 4 rfl),by kernel_rfl⟩
 hlev:=λ{A s' lv Q} hl a F h=>by
  obtain ⟨u,rfl⟩:=hl;exact tq (es:=Px (HW 147)) (n:=match (HW 147).data with|.dict _ n=>n|_=>0) ((F.ec (147,Va [⟨1,.int 1 264,.ref 153⟩,⟨0,.int 0 266,.ref 159⟩] 2) (za 4 rfl)).trans (by kernel_rfl)) (by kernel_rfl) (by kernel_rfl) (h _ (.tok _))
 ht:=λF=>F.ec (153,⟨.type "tuple",a6,.seq ⟨[.ref 152]⟩ 0,⟨[]⟩⟩) (za 7 rfl)
 hot:=⟨by kernel_rfl,by kernel_rfl⟩
 he:=λF=>F.ec (152,⟨.ref 135,ac 151,.seq ⟨[.int 1 412,.int 10 413,.int 5 414]⟩ 0,⟨[]⟩⟩) (za 6 rfl)
 hed:=λF=>F.ec (151,Va [] 0) (za 5 rfl)
 hgp:=by kernel_rfl
 hgt:=λF=>(F.uf 2 rfl rfl).trans (by kernel_rfl)
 hgi:=by kernel_rfl
 hgl:=by kernel_rfl
 hgb:=by kernel_rfl
 hr:=by show(10:Nat)<=200;decide
 hrm:=by show 1<=(5:Nat);decide
 n40:=⟨by show(153:Nat)≠1940;decide,by show(152:Nat)≠1940;decide,by show(151:Nat)≠1940;decide,by show(1870:Nat)≠1940;decide⟩
 hvl:=by show(-2:Int)<=1;decide
 npe:=nofun
noncomputable def ly2(w:sa):ly:=⟨-2,.int 0,147,159,⟨.type "tuple",a6,.seq ⟨[.ref 158]⟩ 0,⟨[]⟩⟩,0,158,157,10,4,422,423,424,1871,0,Uo (oG w),hJ w (oG w)⟩
theorem NZ(w:sa):lu w (ly2 w) where
 hv:=by kernel_rfl
 hin:=λF=>⟨_,F.ec (147,Va [⟨1,.int 1 264,.ref 153⟩,⟨0,.int 0 266,.ref 159⟩] 2) (za 4 rfl),by kernel_rfl⟩
 hlev:=λ{A s' lv Q} hl a F h=>by
  obtain ⟨u,rfl⟩:=hl;exact tq (es:=Px (HW 147)) (n:=match (HW 147).data with|.dict _ n=>n|_=>0) ((F.ec (147,Va [⟨1,.int 1 264,.ref 153⟩,⟨0,.int 0 266,.ref 159⟩] 2) (za 4 rfl)).trans (by kernel_rfl)) (by kernel_rfl) (by kernel_rfl) (h _ (.tok _))
 ht:=λF=>F.ec (159,⟨.type "tuple",a6,.seq ⟨[.ref 158]⟩ 0,⟨[]⟩⟩) (za 10 rfl)
 hot:=⟨by kernel_rfl,by kernel_rfl⟩
 he:=λF=>F.ec (158,⟨.ref 135,ac 157,.seq ⟨[.int 1 422,.int 10 423,.int 4 424]⟩ 0,⟨[]⟩⟩) (za 9 rfl)
 hed:=λF=>F.ec (157,Va [] 0) (za 8 rfl)
 hgp:=by kernel_rfl
 hgt:=λF=>(F.uf 3 rfl rfl).trans (by kernel_rfl)
 hgi:=by kernel_rfl
 hgl:=by kernel_rfl
 hgb:=by kernel_rfl
 hr:=by show(10:Nat)<=200;decide
 hrm:=by show 1<=(4:Nat);decide
 n40:=⟨by show(159:Nat)≠1940;decide,by show(158:Nat)≠1940;decide,by show(157:Nat)≠1940;decide,by show(1871:Nat)≠1940;decide⟩
 hvl:=by show(-2:Int)<=1;decide
 npe:=nofun
noncomputable def ly5(w:sa):ly:=⟨0,.int 1,173,179,⟨.type "tuple",a6,.seq ⟨[.ref 178]⟩ 0,⟨[]⟩⟩,0,178,177,24,16,458,459,460,1873,0,Uo (mG w),hJ w (mG w)⟩
theorem KZ(w:sa):lu w (ly5 w) where
 hv:=by kernel_rfl
 hin:=λF=>⟨_,F.ec (173,Va [⟨1,.int 1 264,.ref 179⟩,⟨0,.int 0 266,.ref 185⟩,⟨3,.int 3 268,.ref 191⟩] 3) (za 18 rfl),by kernel_rfl⟩
 hlev:=λ{A s' lv Q} hl a F h=>by
  obtain ⟨u,rfl⟩:=hl;exact tq (es:=Px (HW 173)) (n:=match (HW 173).data with|.dict _ n=>n|_=>0) ((F.ec (173,Va [⟨1,.int 1 264,.ref 179⟩,⟨0,.int 0 266,.ref 185⟩,⟨3,.int 3 268,.ref 191⟩] 3) (za 18 rfl)).trans (by kernel_rfl)) (by kernel_rfl) (by kernel_rfl) (h _ (.tok _))
 ht:=λF=>F.ec (179,⟨.type "tuple",a6,.seq ⟨[.ref 178]⟩ 0,⟨[]⟩⟩) (za 21 rfl)
 hot:=⟨by kernel_rfl,by kernel_rfl⟩
 he:=λF=>F.ec (178,⟨.ref 135,ac 177,.seq ⟨[.int 1 458,.int 24 459,.int 16 460]⟩ 0,⟨[]⟩⟩) (za 20 rfl)
 hed:=λF=>F.ec (177,Va [] 0) (za 19 rfl)
 hgp:=by kernel_rfl
 hgt:=λF=>(F.uf 5 rfl rfl).trans (by kernel_rfl)
 hgi:=by kernel_rfl
 hgl:=by kernel_rfl
 hgb:=by kernel_rfl
 hr:=by show(24:Nat)<=200;decide
 hrm:=by show 1<=(16:Nat);decide
 n40:=⟨by show(179:Nat)≠1940;decide,by show(178:Nat)≠1940;decide,by show(177:Nat)≠1940;decide,by show(1873:Nat)≠1940;decide⟩
 hvl:=by show(0:Int)<=1;decide
 npe:=nofun
noncomputable def ly8(w:sa):ly:=⟨1,.int 1,192,198,⟨.type "tuple",a6,.seq ⟨[.ref 197]⟩ 0,⟨[]⟩⟩,0,197,196,26,19,493,494,495,1872,0,Uo (nG w),hJ w (nG w)⟩
theorem JZ(w:sa):lu w (ly8 w) where
 hv:=by kernel_rfl
 hin:=λF=>⟨_,F.ec (192,Va [⟨1,.int 1 264,.ref 198⟩,⟨0,.int 0 266,.ref 204⟩,⟨3,.int 3 268,.ref 210⟩,⟨2,.int 2 270,.ref 216⟩] 4) (za 28 rfl),by kernel_rfl⟩
 hlev:=λ{A s' lv Q} hl a F h=>by
  obtain ⟨u,rfl⟩:=hl;exact tq (es:=Px (HW 192)) (n:=match (HW 192).data with|.dict _ n=>n|_=>0) ((F.ec (192,Va [⟨1,.int 1 264,.ref 198⟩,⟨0,.int 0 266,.ref 204⟩,⟨3,.int 3 268,.ref 210⟩,⟨2,.int 2 270,.ref 216⟩] 4) (za 28 rfl)).trans (by kernel_rfl)) (by kernel_rfl) (by kernel_rfl) (h _ (.tok _))
 ht:=λF=>F.ec (198,⟨.type "tuple",a6,.seq ⟨[.ref 197]⟩ 0,⟨[]⟩⟩) (za 31 rfl)
 hot:=⟨by kernel_rfl,by kernel_rfl⟩
 he:=λF=>F.ec (197,⟨.ref 135,ac 196,.seq ⟨[.int 1 493,.int 26 494,.int 19 495]⟩ 0,⟨[]⟩⟩) (za 30 rfl)
 hed:=λF=>F.ec (196,Va [] 0) (za 29 rfl)
 hgp:=by kernel_rfl
 hgt:=λF=>(F.uf 4 rfl rfl).trans (by kernel_rfl)
 hgi:=by kernel_rfl
 hgl:=by kernel_rfl
 hgb:=by kernel_rfl
 hr:=by show(26:Nat)<=200;decide
 hrm:=by show 1<=(19:Nat);decide
 n40:=⟨by show(198:Nat)≠1940;decide,by show(197:Nat)≠1940;decide,by show(196:Nat)≠1940;decide,by show(1872:Nat)≠1940;decide⟩
 hvl:=by show(1:Int)<=1;decide
 npe:=nofun
noncomputable def lyB:List Ya:=(Zf (Wi 21)).2.1
noncomputable def lyE:Oa:=aV (fa lyB 0)
theorem gX(w:sa):Fn (OA w) (oO w) 1972 lyB:=⟨by kernel_rfl,by kernel_rfl,by kernel_rfl,by kernel_rfl,by kernel_rfl,by kernel_rfl⟩
theorem kR:mh s (fdOf (OA w)) ⟨[],[]⟩ []:=Ih (by kernel_rfl)
noncomputable def kP:List (List P):=[[.int (-2),.int 1,.int 10,.int 5],[.int (-2),.int 0,.int 10,.int 4],[.int 0,.int 1,.int 24,.int 16],[.int 1,.int 1,.int 26,.int 19]]
def VT(h:Xb)(ps:List P)(v:Value):Prop:=∃T vs,v=.ref T/\h.get? T=ac (nh vs 0)/\qr h ps vs
noncomputable def PV(h:Xb):List (List P)->List Value->Prop
 |[],[]=>True
 |p::ps,v::vs=>VT h p v/\PV h ps vs
 |_,_=>False
theorem VT.keeps(k:∀b o,h.get? b=ac o->h'.get? b=ac o){ps:List P}(x:VT h ps v):VT h' ps v:=
 x.elim λT y=>y.elim λvs y=>⟨T,vs,y.1,k _ _ y.2.1,qr.keeps k y.2.2⟩
theorem PV.keeps{h h':Xb}(k:∀b o,h.get? b=ac o->h'.get? b=ac o):∀{ps:List (List P)} {vs:List Value},PV h ps vs->PV h' ps vs
 |[],[],_=>trivial
 |_::_,_::_,x=>⟨x.1.keeps k,PV.keeps k x.2⟩
 |[],_::_,x=>x.elim
 |_::_,[],x=>x.elim
theorem PV.at:∀{ps:List (List P)} {vs:List Value},PV h ps vs->ps.length=vs.length/\∀(i:Nat) (p:List P),ps[i]?=ac p->∃v,vs[i]?=ac v/\VT h p v
 |[],[],_=>⟨rfl,λi p e=>by simp at e⟩
 |p::ps,v::vs,x=>by
  refine(x.2.at).elim λh1 h2=>?_
  refine⟨by simp[h1],λi q e=>?_⟩
  cases i with
  |zero=>cases e;exact⟨v,rfl,x.1⟩
  |succ i=>exact h2 i q (by simpa using e)
 |[],_::_,x=>x.elim
 |_::_,[],x=>x.elim
theorem qr.len:∀{ps:List P} {vs:List Value},qr h ps vs->ps.length=vs.length
 |[],[],_=>rfl
 |_::_,_::_,x=>by simp[x.2.len]
 |[],_::_,x=>x.elim
 |_::_,[],x=>x.elim
noncomputable def tuE:(e:Oa)->Option {x:List Oa×Nat×Sd // e=.Tuple x.1 x.2.1 x.2.2}:=Z4 sG sG p8 sG XR λes k p=>ac ⟨(es,k,p),rfl⟩
noncomputable def J2(f:Oa->Option Rs):List Oa->Option (List (List P)×Prop)
 |[]=>ac ([],True)
 |e::r=>(tuE e).bind λx=>(kJ f x.1.1).bind λy=>(J2 f r).bind λz=>ac (y.1::z.1,y.2/\z.2)
theorem ZX{f:Oa->Option Rs}(S:Kf π w A ν f s){es:List Oa}{pos:Sd}{ps:List P}{c:Prop}(e:kJ f es=ac (ps,c))(hc:c)(hl:ps.length<=100):
  wpAny (ja π w) A (eval (.Tuple es k pos) ν) (λv s'=>Kp s s'/\VT s'.heap ps v) Hc s:=by
 refine ak (Ub (CQ S pos e hc).2 (λvs a Eb=>?_) λZ Z q=>q);refine Eb.elim λb hv=>?_;refine⟨by rw[<- hv.len];dsimp only[mc];lia,b.trans' (.push _),_,vs,rfl,qa _ rfl,hv.keeps λZ Z e=>ea _ e⟩
theorem US{f:Oa->Option Rs}(pos:Sd):∀{es:List Oa} {s:aa} (S:Kf π w A ν f s),OK (J2 f es) λy=>y.2->(∀p∈y.1,p.length<=100)->
  wpAny (ja π w) A (Uj (Eh pos (mf es ν))) (λvs s'=>Kp s s'/\PV s'.heap y.1 vs) Hc s:=by
 intro es;induction es with
 |nil=>exact λZ=>OK.some λZ Z=>spliced_nil ⟨.Pg,trivial⟩
 |cons x es d=>
  refine λS=>OK.bind λx Z=>OK.bind λy h=>OK.bind λz g=>OK.some λhc hl=>?_;obtain ⟨x,rfl⟩:=x;exact spliced_cons (Ub (ZX (k:=x.2.1) S h hc.1 (hl _ (va ..))) (λv c Eb=>Ub (d (S.kp Eb.1) z g hc.2 λp hp=>hl p (pa _ hp)) (λvs b a=>⟨Eb.1.trans' a.1,Eb.2.keeps λZ Z e=>a.1.get e,a.2⟩) λZ Z q=>q) λZ Z q=>q)
noncomputable def oU:List (Ba×Lc):=(Zf (Wi 21)).2.2.names
theorem a0f:lyB=[.Return (ac lyE) (aP (fa lyB 0))]:=by kernel_rfl
noncomputable def a0c:List Oa:=(Ea 4).map (ch lyE)
theorem a0e:lyE=.List a0c lyE.pos:=by kernel_rfl
def V3:Nat->Prop
 |0=>True
 |n+1=>(True/\True/\True/\True/\True)/\V3 n
theorem EJ:∀n,V3 n
 |0=>trivial
 |n+1=>⟨⟨trivial,trivial,trivial,trivial,trivial⟩,EJ n⟩
theorem a0d:J2 (ev uB (λZ Z=>a6) 4 oU []) a0c=ac (kP,V3 4):=by kernel_rfl
theorem jP:∀p∈kP,p.length<=100:=λp hp=>by
 have:kP.all (λp=>decide (p.length<=100))=a8:=by kernel_rfl
 exact of_decide_eq_true (Aa.mp this p hp)
theorem tm(h:∀f a,σ.lookup f=ac (.addr a)->False):Ek π w N (λZ Z=>a6) σ s:=
 ⟨λf a e=>(h f a e).elim,λf a ps r e=>(h f a e).elim⟩
theorem SQ(g:GA (N+4) A)(F:Fk w s.heap):wpAny (ja PP w) A (call (.ref 1973) []) (λv s'=>∃L i,v=.ref L/\Kp s s'/\s'.heap.get? L=ac (wb i 0)/\PV s'.heap kP i) Hc s:=by
 refine oE (N:=N+2) (G:=GW w) (rd:=[]) (σ:=[]) (δ:=λZ=>0) (gX w) g (sf F) (F.uf 31 rfl rfl) (F.uf 41 rfl rfl) kR (by kernel_rfl) (by kernel_rfl) (by kernel_rfl) trivial (λx y ns ms Z e=>by cases e) λν c hsc h b=>?_;have m:∀x,ν.kindOf x=(fdOf (OA w)).scope.names.lookup x:=λx=>by unfold Md;rw[hsc]
 have l:(fdOf (OA w)).scope.names=oU:=by kernel_rfl
 have so:uj oU ν:=⟨λx e=>by rw[m,l];exact e,λx e=>by rw[m,l];exact e⟩;have S:=Mk (π:=PP) (w:=w) (fn:=λZ Z=>a6) h 4 oU [] ν c b.re so (tm λf a e=>by cases e);rw[a0f];refine wpAny_execs_cons (wpAny_Return_some ?_);rw[a0e];refine Vr (Ub (US _ S _ a0d (EJ _) jP) (λvs j d=>?_) λZ Z q=>q);refine d.elim λk hv=>?_;refine⟨by rw[<- hv.at.1];decide,_,rfl,_,vs,rfl,b.kp.trans' (k.trans' (.push _)),qa _ rfl,hv.keeps λZ Z e=>ea _ e⟩
noncomputable abbrev rh(x:Ba)(st:Ya):Ya:=.Assign [.Name x (aT st).pos] (aV st) (aP st)
noncomputable abbrev Vv(x:Ba)(st:Ya):Ya:=.For (.Name x (aT st).pos) (aV st) (aB st) [] (aP st)
noncomputable abbrev Zy(x z:Ba)(st:Ya):Ya:=.For (.Name x (aT st).pos) (.Name z (aV st).pos) (aB st) [] (aP st)
noncomputable abbrev l8(x z:Ba)(st:Ya):Ya:=.Assign [.Name x (aT st).pos] (.Name z (aV st).pos) (aP st)
noncomputable abbrev JV(x:Ba)(st:Ya):Ya:=.AugAssign (.Name x (aT st).pos) .Add (aV st) (aP st)
noncomputable abbrev IP(st:Ya):Ya:=.If (aV st) (aB st) (aO st) (aP st)
noncomputable abbrev FH(x:Ba)(st:Ya):Ya:=.Expr (.Call (.Attribute (.Name x (ch (ch (aV st) 0) 0).pos) "append" (ch (aV st) 0).pos) [ch (aV st) 1] [] (aV st).pos) (aP st)
noncomputable abbrev zN(x:Ba)(st:Ya):Ya:=.Assign [.Subscript (.Name x (ch (aT st) 0).pos) (ch (aT st) 1) (aT st).pos] (aV st) (aP st)
noncomputable abbrev O7(v y:Ba)(st:Ya):Ya:=.Assign [.Name v (aT st).pos] (.Call (.Attribute (.Name y (ch (ch (aV st) 0) 0).pos) "pop" (ch (aV st) 0).pos) [ch (aV st) 1] [] (aV st).pos) (aP st)
noncomputable abbrev lcS(y v:Ba)(st:Ya):Ya:=.Assign [.Name y (aT st).pos] (.ListComp (ch (aV st) 0) [⟨.Name v (gT (aV st) 0).pos,gI (aV st) 0,[],0⟩] (Hw (aV st)) (aV st).pos) (aP st)
noncomputable def S4(is:List Nat)(m:Nat)(σ:List (Ba×P)):List Nat:=is++(Ea (σ.length-m)).map (·+m)
noncomputable def pkL(is:List Nat)(σ:List (Ba×P)):List (Ba×P):=is.map λi=>σ.getD i ("",.none)
noncomputable def pkN(is:List Nat)(σ:List (Ba×P)):Bool:=is.all λi=>!((σ.take i).any λd=>(σ.getD i ("",.none)).1==d.1)&&Ji i σ.length
theorem QI{x:Ba}(h:σ.any (λd=>x==d.1)=be):σ.lookup x=a6:=by
 induction σ with
 |nil=>rfl
 |cons e σ a=>
  have h:=Vl.mp (List.any_cons.symm.trans h);rw[Ka,show(x==e.1)=be from h.1];exact a h.2
theorem a4L{x:Ba}(h:σ.lookup x=a6):(σ++τ).lookup x=τ.lookup x:=by
 induction σ with
 |nil=>rfl
 |cons e σ a=>
  rw[Ka] at h;rw[xj,Ka];cases q:x==e.1 with
  |true=>rw[q] at h;exact nomatch h
  |false=>rw[q] at h;exact a h
theorem dO{is:List Nat}(h:pkN is σ=a8){x:Ba}(e:(pkL is σ).lookup x=ac p):σ.lookup x=ac p:=by
 induction is with
 |nil=>exact nomatch e
 |cons i is a=>
  have h:=wa.mp (xo.symm.trans h)
  refine(Gd (y:=(σ.getD i ("",.none)).1) (p:=(σ.getD i ("",.none)).2) e).elim (λq=>?_) λq=>a h.2 q.2
  have h1:=wa.mp h.1;have hi:i < σ.length:=Nat.blt_eq.mp h1.2;have es:σ=σ.take i++σ.getD i ("",.none)::σ.drop (i+1):=by
   rw[ua,Sa hi]
   exact(Mq i σ).symm.trans (congrArg _ (pA hi))
  rw[es,q.1,a4L (QI (Ge _▸h1.1)),Ka,beq_self_eq_true,q.2]
noncomputable def nil(p:P):Bool:=match p with
 |.il _=>be
 |_=>a8
theorem iZ{fr:Bool}(h:(nil p||fr)=a8)(ns:List Int)(e:p=.il ns):fr=a8:=by rw[e] at h;exact h
structure WC(w:sa)(A:Wc)(N:Nat)(ν:Al)(sc:List (Ba×Lc))(nm:List Ba):Prop where
 g:GA N A
 hsc:ν.scope.names=sc
 hbk:ν.blockKind=.function
 hnm:nm.all (λx=>sc.lookup x==ac .local||sc.lookup x==ac .cell)=a8
noncomputable def FP(as nm:List Ba)(y:Ba):Bool:=as.contains y&&nm.contains y
theorem Ot{l:List Ba}{z:Ba}(h:l.contains z=be):z∉l:=λq=>nomatch (Ua.mpr q).symm.trans h
section
variable{nm as:List Ba}{Q:Ff->aa->Prop}{rest:List Ya}
theorem WC.ek(c:WC w A N ν sc nm)(y:Ba):ν.kindOf y=sc.lookup y:=by unfold Md;rw[c.hsc]
theorem WC.so(c:WC w A N ν sc nm):uj sc ν:=⟨λx e=>c.ek x▸e,λx e=>c.ek x▸e⟩
theorem WC.kd(c:WC w A N ν sc nm){y:Ba}(h:FP as nm y=a8):y∈as/\(ν.kindOf y=ac .local\/ν.kindOf y=ac .cell):=by
 have h:=wa.mp h;refine⟨Ua.mp h.1,?_⟩
 have:=Aa.mp c.hnm y (Ua.mp h.2);rw[c.ek]
 simpa using this
set_option tactic.hygienic true
abbrev jK(w:sa)(A:Wc)(ν:Al)(st:Ya)(rd:List Ba)(τ:List (Ba×P))(δ:Ba->ma)(as:List Ba)(ς:aa)(K:ma->Jb->Prop)(s:aa):Prop:=wpAny (ja PP w) A (Cg st ν) (λf s'=>f=.next/\SP (GW w) ν rd τ δ as ς K s') Hc s
abbrev dY(w:sa)(A:Wc)(ν:Al)(b:List Ya)(rd:List Ba)(τ:List (Ba×P))(δ:Ba->ma)(as:List Ba)(ς:aa)(K:ma->Jb->Prop)(s:aa):Prop:=∀Q:Ff->aa->Prop,(∀s',SP (GW w) ν rd τ δ as ς K s'->Q .next s')->wpAny (ja PP w) A (Oc b ν) Q Hc s
set_option tactic.hygienic false
abbrev FF(w:sa)(N:Nat)(fn:Ba->List P->Option Rs)(ν:Al)(rd:List Ba)(σ:List (Ba×P))(ς:aa)(K:ma->Jb->Prop):Prop:=∀a s,St (GW w) ν rd σ a ς K s->Ek PP w N fn σ s
theorem SP.pk(x:SP (GW w) ν rd σ δ as ς K s)(is:List Nat)(m:Nat)(h:pkN (S4 is m σ) σ=a8)(h2:pkL (S4 is m σ) σ=τ):SP (GW w) ν rd τ δ as ς K s:=h2▸x.sub λZ Z e=>dO h e
set_option tactic.hygienic true in
theorem mE(k:∀s',SP (GW w) ν rd τ δ as ς K s'->Q .next s')(x:SP (GW w) ν rd σ δ as ς K s)(is:List Nat)(m:Nat)(h:pkN (S4 is m σ) σ=a8)(h2:pkL (S4 is m σ) σ=τ):wpAny (ja PP w) A (Oc [] ν) Q Hc s:=Ef (k s (x.pk is m h h2))
theorem SP.base(x:SP (GW w) ν rd σ δ as ς K s)(c:List Ba):∃b,SP (GW w) ν rd σ b c ς K s:=x.elim λa x=>⟨a,.of x.2⟩
set_option tactic.hygienic true in
theorem Jm{st:Ya}{R:aa->Prop}(h:wpAny (ja PP w) A (Cg st ν) (λf s'=>f=.next/\R s') Hc s)(k:∀s',R s'->zd (ja PP w) A (Oc rest ν) Q s'):
  zd (ja PP w) A (Oc (st::rest) ν) Q s:=ub (kc (Ig h (λf s' q=>⟨q.1,k s' q.2⟩)))
variable(c:WC w A N ν sc nm)(F:FF w N fn ν rd σ ς K)(x:SP (GW w) ν rd σ δ as ς K s)
include c F x
theorem sA{y:Ba}{st:Ya}{fr:Bool}{hc:Prop}(e:ev uB fn 9 sc σ (aV st)=ac ⟨p,fr,hc⟩)(h:hc)(b:FP as nm y=a8)(a:(nil p||fr)=a8)(d:Lf (aV st) (ac (.Name y (aT st).pos)) (aP st).line ν=pure be):jK w A ν (rh y st) rd ((y,p)::σ) δ as ς K s:=
 x.elim λZ x=>Ig (JL c.g c.so (F _ _ x.2) x.2 e h (c.kd b).1 (c.kd b).2 (iZ a) d) λf s' q=>⟨q.1,q.2.trans x.1⟩
theorem sU{y:Ba}{st:Ya}{i j:Int}{fr:Bool}{hc:Prop}(hl:σ.lookup y=ac (.int i))(e:ev uB fn 9 sc σ (aV st)=ac ⟨.int j,fr,hc⟩)(h:hc)(a:FP as nm y=a8)(b:qc y=be):jK w A ν (JV y st) rd ((y,.int (i+j))::σ) δ as ς K s:=
 x.elim λZ x=>Ig (IV c.g c.so (F _ _ x.2) x.2 hl b e h (c.kd a).1 (c.kd a).2) λf s' q=>⟨q.1,q.2.trans x.1⟩
theorem sP{y:Ba}{st:Ya}{i:Int}{fr:Bool}{hc:Prop}(hl:σ.lookup y=ac (.il ns))(e:ev uB fn 9 sc σ (ch (aV st) 1)=ac ⟨.int i,fr,hc⟩)(h:hc)(b:ns.length<=2 ^ 24)(hr:rd.contains y=be)(k:qc y=be)(l:mI.contains y=be)(d:σ.all (λe=>e.1==y||!(ov.contains y&&ov.contains e.1))=a8)(a:((ch (aV st) 0).pos.endLine==(aV st).pos.line)=a8):
  jK w A ν (FH y st) rd ((y,.il (ns++[i]))::σ) δ as ς K s:=
 x.elim λZ x=>Ig (ML c.g c.so (F _ _ x.2) x.2 hl (Ot hr) k e h b a (Ot l) ((Classical.em (y∈ov)).symm.imp_right λq z ms e hz j=>by
  have:=Aa.mp d _ (Qc e);rw[Ua.mpr q,Ua.mpr j,HX,Bool.not_true,GX] at this;exact hz (eq_of_beq this))) λf s' q=>⟨q.1,q.2.trans x.1⟩
theorem sS{y:Ba}{st:Ya}{i v:Int}{fr d:Bool}{hc hd:Prop}(hl:σ.lookup y=ac (.il ns))(e:ev uB fn 9 sc σ (aV st)=ac ⟨.int v,fr,hc⟩)(h:hc)(l:ev uB fn 9 sc σ (ch (aT st) 1)=ac ⟨.int i,d,hd⟩)(h2:hd)(h0:0<=i)(hi:i < ns.length)(a:ns.length<=2 ^ 24)
  (hr:rd.contains y=be) (j:qc y=be) (b:ov.contains y=be) (k:Lf (aV st) (ac (.Subscript (.Name y (ch (aT st) 0).pos) (ch (aT st) 1) (aT st).pos)) (aP st).line ν=pure be):jK w A ν (zN y st) rd ((y,.il (ns.set i.toNat v))::σ) δ as ς K s:=
 x.elim λZ x=>Ig (YF c.g c.so (F _ _ x.2) x.2 hl (Ot hr) j e h l h2 h0 hi a k (Ot b)) λf s' q=>⟨q.1,q.2.trans x.1⟩
theorem sO{v y:Ba}{st:Ya}{i:Int}{fr:Bool}{hc:Prop}(hl:σ.lookup y=ac (.il ns))(e:ev uB fn 9 sc σ (ch (aV st) 1)=ac ⟨.int i,fr,hc⟩)(h:hc)(h0:0<=i)(hi:i < ns.length)(d:ns.length<=2 ^ 24)(b:v≠y)
  (hr:rd.contains y=be) (k:qc y=be) (j:ov.contains y=be) (hv:FP as nm v=a8) (a:((ch (aV st) 0).pos.endLine==(aV st).pos.line)=a8):jK w A ν (O7 v y st) rd ((v,.int (ns.getD i.toNat 0))::(y,.il (ns.eraseIdx i.toNat))::σ) δ as ς K s:=
 x.elim λZ x=>Ig (GY c.g c.so (F _ _ x.2) x.2 hl (Ot hr) k b (c.kd hv).1 (c.kd hv).2 e h h0 hi d a (Ot j)) λf s' q=>⟨q.1,q.2.trans x.1⟩
theorem sI{st:Ya}{b:Bool}{hc:Prop}(e:eS (ev uB fn 9 sc σ) (aV st)=ac (b,hc))(h:hc)
  (hT:b=a8->∀s',SP (GW w) ν rd σ δ as ς K s'->dY w A ν (aB st) rd τ δ as ς K s') (f:b=be->∀s',SP (GW w) ν rd σ δ as ς K s'->dY w A ν (aO st) rd τ δ as ς K s'):jK w A ν (IP st) rd τ δ as ς K s:=
 x.elim λa x=>HP c.g c.so (F _ _ x.2) x.2 e h (λq s' Z d=>hT q s' ⟨a,x.1,d⟩ _ λSg y=>⟨rfl,y⟩) λq s' Z d=>f q s' ⟨a,x.1,d⟩ _ λSg y=>⟨rfl,y⟩
theorem sQ{st:Ya}{hc:Prop}(e:eS (ev uB fn 9 sc σ) (aV st)=ac (be,hc))(h:hc)(b:aO st=[]):jK w A ν (IP st) rd σ δ as ς K s:=
 sI c F x e h (λq=>nomatch q) λZ s' a Q k=>b▸Ef (k s' a)
theorem sR{v:Ba}{st:Ya}{xs:List Int}{hc:Prop}(e:fS (Yl sc) (ev uB fn 9 sc σ) (aV st)=ac (xs,hc))(h:hc)(hn:((ev uB fn 9 sc σ (aV st)).elim a8 λr=>r.fr)=a8)(hv:FP as nm v=a8)(k:Nat->List (Ba×P))(h0:k 0=σ)
  (og:∀i a K' j s',xs[i]?=ac a->(∀b o,K b o->K' b o)->SP (GW w) ν rd ((v,.int a)::k i) j as ς K' s'->dY w A ν (aB st) rd (k (i+1)) j as ς K' s'):jK w A ν (Vv v st) rd (k xs.length) δ as ς K s:=
 x.elim λZ x=>Ig (V1 c.g c.so (F _ _ x.2) x.2 (c.kd hv).2 (c.kd hv).1 e h (λa fr d z=>(congrArg (λo:Option Rs=>o.elim a8 λr=>r.fr) z).symm.trans hn) (λZ Z z=>h0▸z) λi a K' j s' m hk Z l=>og i a K' j s' m hk (SP.of l) _ λSg y=>⟨rfl,y⟩) λf s' q=>⟨q.1,q.2.trans x.1⟩
omit F in
theorem sN{v z:Ba}{st:Ya}{xs:List Int}(e:σ.lookup z=ac (.il xs))(hz:qc z=be)(l:as.contains z=be)(k:(!ov.contains z||rd.contains "rests")=a8)(hv:FP as nm v=a8)(j:Nat->List (Ba×P))(h0:j 0=σ)
  (og:∀i a K' d s',xs[i]?=ac a->(∀b o,K b o->K' b o)->SP (GW w) ν (z::rd) ((v,.int a)::j i) d as ς K' s'->dY w A ν (aB st) (z::rd) (j (i+1)) d as ς K' s'):jK w A ν (Zy v z st) rd (j xs.length) δ as ς K s:=
 x.elim λZ x=>Ig (pQ c.g x.2 (c.kd hv).2 (c.kd hv).1 hz (Ot l) e (λZ Z z=>h0▸z) (λi a K' d s' n hk Z m=>og i a K' d s' n hk (SP.of m) _ λSg y=>⟨rfl,y⟩) ((ft.mp k).imp (λh q=>by rw[Ua.mpr q] at h;exact nomatch h) λh=>Ua.mp h)) λf s' q=>⟨q.1,q.2.trans x.1⟩
end
theorem Us{o:Option Rs}{a v:Int}{fr:Bool}{c:Prop}(e:o=ac ⟨.int a,fr,c⟩)(q:a=v):o=ac ⟨.int v,fr,c⟩:=q▸e
theorem DQ{o:Option Rs}{a v:List Int}{fr:Bool}{c:Prop}(e:o=ac ⟨.il a,fr,c⟩)(q:a=v):o=ac ⟨.il v,fr,c⟩:=q▸e
theorem ZU{α:Type}{o:Option (α×Prop)}{a v:α}{c:Prop}(e:o=ac (a,c))(q:a=v):o=ac (v,c):=q▸e
theorem tr:True:=trivial
theorem tt:True/\True:=⟨tr,tr⟩
theorem t3:(True/\True)/\True:=⟨tt,tr⟩
noncomputable def Ee:List Ya:=(Zf (Wi 22)).2.1
noncomputable def To:List (Ba×Lc):=(Zf (Wi 22)).2.2.names
theorem m9:Ee=[fa Ee 0,fa Ee 1,fa Ee 2,fa Ee 3,fa Ee 4,fa Ee 5,fa Ee 6,fa Ee 7,fa Ee 8,fa Ee 9,fa Ee 10,fa Ee 11,fa Ee 12,fa Ee 13,fa Ee 14,fa Ee 15,fa Ee 16,fa Ee 17,fa Ee 18,fa Ee 19,fa Ee 20,fa Ee 21,fa Ee 22,fa Ee 23,fa Ee 24,fa Ee 25,fa Ee 26]:=by kernel_rfl
theorem md0:fa Ee 0=rh "powers" (fa Ee 0):=by kernel_rfl
theorem md1:fa Ee 1=rh "logs" (fa Ee 1):=by kernel_rfl
theorem md2:fa Ee 2=rh "power" (fa Ee 2):=by kernel_rfl
theorem md3:fa Ee 3=Vv "place" (fa Ee 3):=by kernel_rfl
theorem md5:fa Ee 5=rh "spots" (fa Ee 5):=by kernel_rfl
theorem md6:fa Ee 6=rh "rests" (fa Ee 6):=by kernel_rfl
theorem md7:fa Ee 7=Vv "root" (fa Ee 7):=by kernel_rfl
theorem md8:fa Ee 8=l8 "line" "rests" (fa Ee 8):=by kernel_rfl
theorem md9:fa Ee 9=Zy "place" "known" (fa Ee 9):=by kernel_rfl
theorem a4y:fa Ee 10=rh "now" (fa Ee 10):=by kernel_rfl
theorem a4x:fa Ee 11=rh "old" (fa Ee 11):=by kernel_rfl
theorem a4w:fa Ee 12=rh "size" (fa Ee 12):=by kernel_rfl
theorem a4v:fa Ee 13=rh "gap" (fa Ee 13):=by kernel_rfl
theorem a4u:fa Ee 14=rh "fault" (fa Ee 14):=by kernel_rfl
theorem a4t:fa Ee 15=Vv "turn" (fa Ee 15):=by kernel_rfl
theorem a4s:fa Ee 16=rh "found" (fa Ee 16):=by kernel_rfl
theorem a4r:fa Ee 17=Vv "place" (fa Ee 17):=by kernel_rfl
theorem a4q:fa Ee 18=IP (fa Ee 18):=by kernel_rfl
theorem a4p:fa Ee 19=rh "places" (fa Ee 19):=by kernel_rfl
theorem a4o:fa Ee 20=rh "product" (fa Ee 20):=by kernel_rfl
theorem a4n:fa Ee 21=Zy "place" "places" (fa Ee 21):=by kernel_rfl
theorem a4m:fa Ee 22=rh "amounts" (fa Ee 22):=by kernel_rfl
theorem a4l:fa Ee 23=Vv "turn" (fa Ee 23):=by kernel_rfl
theorem a4k:fa Ee 24=rh "mended" (fa Ee 24):=by kernel_rfl
theorem a4j:fa Ee 25=Zy "place" "places" (fa Ee 25):=by kernel_rfl
theorem a4i:fa Ee 26=.Return (ac (aV (fa Ee 26))) (aP (fa Ee 26)):=by kernel_rfl
noncomputable def mdP:List Ya:=aB (fa Ee 3)
noncomputable def eU:List Ya:=aB (fa Ee 7)
noncomputable def mdK:List Ya:=aB (fa Ee 9)
noncomputable def YR:List Ya:=aB (fa Ee 15)
noncomputable def LW:List Ya:=aB (fa Ee 17)
noncomputable def mdM:List Ya:=aB (fa Ee 21)
noncomputable def U4:List Ya:=aB (fa Ee 23)
noncomputable def OI:List Ya:=aB (fa Ee 25)
theorem T8:mdP=[FH "powers" (fa mdP 0),zN "logs" (fa mdP 1),rh "power" (fa mdP 2)]:=by kernel_rfl
theorem S8:eU=[rh "whole" (fa eU 0),Zy "word" "words" (fa eU 1),FH "rests" (fa eU 2)]:=by kernel_rfl
theorem R8:aB (fa eU 1)=[IP (fa (aB (fa eU 1)) 0),rh "whole" (fa (aB (fa eU 1)) 1)]:=by kernel_rfl
theorem Q8:aB (fa (aB (fa eU 1)) 0)=[rh "whole" (fa (aB (fa (aB (fa eU 1)) 0)) 0)]:=by kernel_rfl
theorem P8:YR=[rh "off" (fa YR 0),Vv "back" (fa YR 1),IP (fa YR 2)]:=by kernel_rfl
theorem O8:aB (fa YR 1)=[rh "off" (fa (aB (fa YR 1)) 0)]:=by kernel_rfl
theorem N8:aB (fa YR 2)=[JV "gap" (fa (aB (fa YR 2)) 0)]:=by kernel_rfl
noncomputable def fF:List Ya:=aO (fa YR 2)
theorem Z8:fF=[rh "factor" (fa fF 0),rh "grown" (fa fF 1),Vv "back" (fa fF 2),IP (fa fF 3),l8 "now" "grown" (fa fF 4)]:=by kernel_rfl
theorem Y8:aB (fa fF 2)=[zN "grown" (fa (aB (fa fF 2)) 0)]:=by kernel_rfl
theorem X8:aB (fa fF 3)=[rh "size" (fa (aB (fa fF 3)) 0),l8 "old" "now" (fa (aB (fa fF 3)) 1),rh "fault" (fa (aB (fa fF 3)) 2),rh "gap" (fa (aB (fa fF 3)) 3)]:=by kernel_rfl
theorem W8:aO (fa fF 3)=[JV "gap" (fa (aO (fa fF 3)) 0)]:=by kernel_rfl
theorem d9:LW=[rh "whole" (fa LW 0),Zy "part" "now" (fa LW 1),IP (fa LW 2)]:=by kernel_rfl
theorem c9:aB (fa LW 1)=[rh "whole" (fa (aB (fa LW 1)) 0)]:=by kernel_rfl
theorem b9:aB (fa LW 2)=[FH "found" (fa (aB (fa LW 2)) 0)]:=by kernel_rfl
theorem o9:U4=[rh "whole" (fa U4 0),Vv "back" (fa U4 1),FH "amounts" (fa U4 2)]:=by kernel_rfl
theorem n9:aB (fa U4 1)=[rh "whole" (fa (aB (fa U4 1)) 0)]:=by kernel_rfl
theorem l9:OI=[rh "whole" (fa OI 0),Zy "part" "amounts" (fa OI 1),Zy "other" "places" (fa OI 2),zN "mended" (fa OI 3)]:=by kernel_rfl
theorem e9:fa OI 2=Zy "other" "places" (fa OI 2):=by kernel_rfl
theorem j9:aB (fa OI 1)=[rh "whole" (fa (aB (fa OI 1)) 0)]:=by kernel_rfl
theorem i9:aB (fa OI 2)=[IP (fa (aB (fa OI 2)) 0)]:=by kernel_rfl
theorem g9:aB (fa (aB (fa OI 2)) 0)=[rh "whole" (fa (aB (fa (aB (fa OI 2)) 0)) 0)]:=by kernel_rfl
theorem EF(a b c:Nat):a^^^(b^^^c)=b^^^(a^^^c):=by rw[<- We,Rk a b,We]
theorem Bt(a b:Nat):a^^^(a^^^b)=b:=by rw[<- We,xg,Kc]
theorem Mo{a b:Nat}(h:a^^^b=0):a=b:=by
 have:=Bt a b;rw[h,Fd] at this;exact this
theorem Vw(a b c d:Nat):(a^^^b)^^^(c^^^d)=(a^^^c)^^^(b^^^d):=by
 rw[We,We,EF b c d]
theorem qf{a b:Nat}(c:a < 256)(hb:b < 256):a^^^b < 256:=xM (n:=8) c hb
theorem MM(a:Nat):xt a=(2*a)^^^(if a < 128 then 0 else 285):=by unfold xt;split <;> simp
theorem uV(a b:Nat):2*(a^^^b)=(2*a)^^^(2*b):=by
 have:=@Nat.shiftLeft_xor_distrib 1 a b;rw[Ow,Ow,Ow,Nat.pow_one] at this;rw[Pp 2,Pp 2 a,Pp 2 b];exact this
theorem C3{a:Nat}(h:a < 256):a < 128/\a / 128=0\/¬a < 128/\a / 128=1:=
 (Qv a 128).imp (λq=>⟨q,Nat.div_eq_of_lt q⟩) λq=>⟨yf.mpr q,Nat.div_eq_of_lt_le (by simpa using q) (by simpa using h)⟩
theorem KX{a b:Nat}(d:a < 256)(hb:b < 256):xt (a^^^b)=xt a^^^xt b:=by
 rw[MM,MM,MM,uV,Vw];refine congrArg _ ?_;have h:(a^^^b) / 128=(a / 128)^^^(b / 128):=@Nat.xor_div_two_pow a b 7;have e:∀{p:Prop},(0:Nat)=1->p:=λq=>nomatch q
 refine(C3 (qf d hb)).elim (λc=>?_) λc=>?_ <;> refine(C3 d).elim (λx=>?_) λx=>?_ <;> refine(C3 hb).elim (λy=>?_) λy=>?_ <;> rw[c.2,x.2,y.2] at h
 ·rw[if_pos c.1,if_pos x.1,if_pos y.1];rfl
 ·exact nomatch h
 ·exact nomatch h
 ·rw[if_pos c.1,if_neg x.1,if_neg y.1];rfl
 ·exact nomatch h
 ·rw[if_neg c.1,if_pos x.1,if_neg y.1];rfl
 ·rw[if_neg c.1,if_neg x.1,if_pos y.1];rfl
 ·exact nomatch h
theorem RS:((Ea 256).all λa=>decide (xt a < 256))=a8:=by decide +kernel
theorem X5{a:Nat}(h:a < 256):xt a < 256:=of_decide_eq_true (Aa.mp RS a (zc.mpr h))
noncomputable def it:Nat->Nat->Nat
 |0,a=>a
 |n+1,a=>xt (it n a)
theorem ph(m n a:Nat):it (m+n) a=it m (it n a):=by
 induction m with
 |zero=>rw[K5];rfl
 |succ m b=>rw[Ov];show xt (it (m+n) a)=xt (it m (it n a));rw[b]
theorem aj(m n a:Nat):it m (it n a)=it n (it m a):=by rw[<- ph,<- ph,Rb]
theorem Fc{a:Nat}(h:a < 256):∀n,it n a < 256
 |0=>h
 |n+1=>X5 (Fc h n)
theorem Hf{a b:Nat}(c:a < 256)(hb:b < 256):∀n,it n (a^^^b)=it n a^^^it n b
 |0=>rfl
 |n+1=>by show xt (it n (a^^^b))=_;rw[Hf c hb n,KX (Fc c n) (Fc hb n)];rfl
theorem Vd:∀n,it n 0=0
 |0=>rfl
 |n+1=>by show xt (it n 0)=0;rw[Vd n];rfl
theorem Kt:∀(n a:Nat),(gq n a).length=n
 |0,_=>rfl
 |n+1,a=>by show(gq n (xt a)).length+1=n+1;rw[Kt n]
theorem Y5(n a:Nat):it n (xt a)=it (n+1) a:=(ph n 1 a).symm
theorem fq:∀(n a k:Nat),k < n->(gq n a)[k]?=ac (it k a)
 |0,_,_,h=>nomatch h
 |n+1,a,0,_=>rfl
 |n+1,a,k+1,h=>by
  show(gq n (xt a))[k]?=_
  rw[fq n (xt a) k (Xg h),Y5]
theorem yP:it 255 1=1:=by decide +kernel
theorem FT:((gq 255 1).tail.contains 1)=be:=by decide +kernel
theorem pT:((Ea 256).all λa=>a==0||(gq 255 1).contains a)=a8:=by decide +kernel
noncomputable def lg(a:Nat):Nat:=(gq 255 1).idxOf a % 255
theorem RI(a:Nat):lg a < 255:=Bn _ (by decide)
theorem Nr{a:Nat}(h:a < 256)(h0:a≠0):it (lg a) 1=a:=by
 have:=Aa.mp pT a (zc.mpr h);simp only[sy,beq_iff_eq,h0,false_or] at this;have hm:a∈gq 255 1:=Ua.mp this;have hi:=List.idxOf_lt_length_iff.mpr hm;have e:=List.getElem_idxOf hi;rw[Kt] at hi;have g:=fq 255 1 _ hi;rw[Sa (by rw[Kt];exact hi),e] at g;delta lg;rw[uS hi]
 exact(xa g).symm
theorem mB{a:Nat}(h:a < 256):it 255 a=a:=by
 by_cases h0:a=0
 ·subst h0;exact Vd _
 ·have e:=Nr h h0;rw[<- e,aj,yP]
theorem nB{a:Nat}(h:a < 256)(n:Nat):it (n % 255) a=it n a:=by
 have b:∀q,it (255*q) a=a:=by
  intro q;induction q with
  |zero=>rfl
  |succ q c=>rw[yF,ph,mB h,c]
 have e:=Nat.mod_add_div n 255;have:it n a=it (n % 255+255*(n / 255)) a:=by rw[e]
 rw[this,ph,b]
theorem MG{a:Nat}(h:a < 256)(h0:a≠0)(n:Nat):it n a≠0:=λq=>by
 have e:it (255-n % 255) (it (n % 255) a)=0:=by rw[nB h,q,Vd]
 have b:=Bn n (show 255 > 0 by decide);rw[<- ph,Yb (uc b),mB h] at e;exact h0 e
theorem u0{a:Nat}(h:a < 256)(h0:a≠0){j:Nat}(b:j < 255)(e:it j a=a):j=0:=by
 have c:=Nr h h0;rw[<- c,aj] at e;have d:it j 1=1:=by
  have h1:it (255-lg a) (it (lg a) (it j 1))=it (255-lg a) (it (lg a) 1):=by rw[e]
  rw[<- ph (255-lg a),<- ph (255-lg a),Yb (uc (RI a)),mB (Fc (by decide) j),mB (by decide)] at h1;exact h1
 refine(uu j).elim (λh=>?_) λh=>?_
 ·exact h
 ·have g:=fq 255 1 j b;rw[d] at g;have:1∈(gq 255 1).tail:=by
   rw[List.mem_iff_getElem?];refine⟨j-1,?_⟩
   rw[List.getElem?_tail,Yb h];exact g
  have q:=FT;rw[Ua.mpr this] at q;cases q
theorem xP{a:Nat}(h:a < 256)(h0:a≠0):∀{i j:Nat},i < 255->j < 255->it i a=it j a->i=j:=by
 have b:∀{i j:Nat},i<=j->j < 255->it i a=it j a->i=j:=by
  intro i j c d e;have f:it (j-i) (it i a)=it i a:=by rw[<- ph,Yb c];exact e.symm
  have:=u0 (Fc h i) (MG h h0 i) (jd (Rf _ _) d) f;exact Og c (yr this)
 intro i j hi d e
 refine(M5 i j).elim (λq=>?_) λq=>?_
 ·exact b q d e
 ·exact(b q hi e.symm).symm
noncomputable def hv(r:Nat)(f:Nat->Nat):Nat->Nat
 |0=>0
 |n+1=>it r (hv r f n)^^^f n
theorem wk{r:Nat}{f g:Nat->Nat}:∀{n:Nat},(∀j,j < n->f j=g j)->hv r f n=hv r g n
 |0,_=>rfl
 |n+1,h=>by unfold hv;rw[wk λj a=>h j (Cd a),h n (Xc n)]
theorem uq{r:Nat}{f:Nat->Nat}(h:∀j,f j < 256):∀n,hv r f n < 256
 |0=>by show 0 < 256;decide
 |n+1=>qf (Fc (uq h n) r) (h n)
theorem Cx{r:Nat}{f g:Nat->Nat}(hf:∀j,f j < 256)(hg:∀j,g j < 256):∀n,hv r (λj=>f j^^^g j) n=hv r f n^^^hv r g n
 |0=>by show 0=0^^^0;rfl
 |n+1=>by unfold hv;rw[Cx hf hg n,Hf (uq hf n) (uq hg n),Vw]
theorem rB{r:Nat}{f:Nat->Nat}(hf:∀j,f j < 256)(a:Nat):∀b,hv r f (a+b)=it (r*b) (hv r f a)^^^hv r (λj=>f (a+j)) b
 |0=>by show hv r f a=it 0 _^^^0;rw[Fd];rfl
 |b+1=>by
  show it r (hv r f (a+b))^^^f (a+b)=it (r*(b+1)) _^^^(it r (hv r (λj=>f (a+j)) b)^^^f (a+b))
  rw[rB hf a b,Hf (Fc (uq hf a) _) (uq (λj=>hf _) b),<- ph,yF,Rb r,We]
theorem Dw{r:Nat}{f:Nat->Nat}(h:∀j,j < n->f j=0):hv r f n=0:=by
 induction n with
 |zero=>rfl
 |succ n a=>unfold hv;rw[a λj b=>h j (Cd b),h n (Xc n),Vd];rfl
theorem HU{r:Nat}{f:Nat->Nat}(hf:∀j,f j < 256){a m z:Nat}(h1:∀j,j < a->f j=0)(h2:∀j,j < z->f (a+m+j)=0):hv r f (a+m+z)=it (r*z) (hv r (λj=>f (a+j)) m):=by
 rw[rB hf (a+m) z,Dw h2,Fd,rB hf a m,Dw h1,Vd,Kc]
theorem RW{r k:Nat}{f:Nat->Nat}(hf:∀j,f j < 256):∀n,hv r (λj=>it k (f j)) n=it k (hv r f n)
 |0=>(Vd k).symm
 |n+1=>by unfold hv;rw[RW hf n,Hf (Fc (uq hf n) r) (hf n),aj]
noncomputable def SU(gen:List Nat)(c:Nat):Nat->Nat
 |0=>c
 |i+1=>it (gen.getD i 0) c
noncomputable def Kz(gen:List Nat):Bool:=(Ea gen.length).all λr=>hv r (SU gen 1) (gen.length+1)==0
theorem O1{gen:List Nat}{c:Nat}(h:c < 256):∀j,SU gen c j < 256
 |0=>h
 |_+1=>Fc h _
theorem P1(gen:List Nat)(k:Nat):(λj=>SU gen (it k 1) j)=λj=>it k (SU gen 1 j):=by
 funext j
 cases j with
 |zero=>rfl
 |succ j=>exact aj _ _ _
theorem kQ{gen:List Nat}(h:Kz gen=a8){r c:Nat}(hr:r < gen.length)(hc:c < 256):hv r (SU gen c) (gen.length+1)=0:=by
 by_cases h0:c=0
 ·subst h0;refine Dw λj Z=>?_;cases j with
  |zero=>rfl
  |succ j=>exact Vd _
 ·have e:=Aa.mp h r (zc.mpr hr);have e:hv r (SU gen 1) (gen.length+1)=0:=by simpa using e
  have q:SU gen c=λj=>it (lg c) (SU gen 1 j):=by
   have:=P1 gen (lg c);rw[Nr hc h0] at this;exact this
  rw[q,RW (O1 (by decide)),e,Vd]
noncomputable def dv(gen:List Nat)(f:Nat->Nat):Nat->Nat->Nat
 |0,j=>f j
 |k+1,j=>dv gen f k j^^^(if k < j/\j<=k+gen.length then it (gen.getD (j-k-1) 0) (dv gen f k k) else 0)
theorem qJ{gen:List Nat}{f:Nat->Nat}(hf:∀j,f j < 256):∀k j,dv gen f k j < 256
 |0,j=>hf j
 |k+1,j=>by
  unfold dv;refine qf (qJ hf k j) ?_;split
  ·exact Fc (qJ hf k k) _
  ·decide
noncomputable def uD(gen:List Nat)(f:Nat->Nat)(k j:Nat):Nat:=if j < k then 0 else dv gen f k j
theorem sx{gen:List Nat}{f:Nat->Nat}(hf:∀j,f j < 256)(k j:Nat):uD gen f k j < 256:=by
 delta uD;split
 ·decide
 ·exact qJ hf k j
theorem BO{gen:List Nat}{f:Nat->Nat}(hf:∀j,f j < 256)(h:Kz gen=a8){r z:Nat}(hr:r < gen.length):
  hv r (uD gen f (k+1)) (k+(gen.length+1)+z)=hv r (uD gen f k) (k+(gen.length+1)+z):=by
 have dl:∀j,uD gen f (k+1) j^^^uD gen f k j < 256:=λj=>qf (sx hf _ j) (sx hf _ j);have e:hv r (λj=>uD gen f (k+1) j^^^uD gen f k j) (k+(gen.length+1)+z)=0:=by
  rw[HU dl]
  ·have q:hv r (λj=>uD gen f (k+1) (k+j)^^^uD gen f k (k+j)) (gen.length+1)=hv r (SU gen (dv gen f k k)) (gen.length+1):=by
    refine wk λj a=>?_;delta uD;cases j with
    |zero=>rw[if_pos (show k+0 < k+1 from Xc k),if_neg (show¬k+0 < k from je k),Kc];rfl
    |succ j=>
     rw[if_neg (yf.mpr (Ec (Dc (fc j)) k)),if_neg (yf.mpr (Za k (j+1)))];show dv gen f k (k+(j+1))^^^_^^^dv gen f k (k+(j+1))=it (gen.getD j 0) _
     rw[if_pos (by lia),show k+(j+1)-k-1=j from congrArg (· - 1) (Jg (n:=k) (m:=j+1)),Rk,Bt]
   rw[q,kQ h hr (qJ hf k k),Vd]
  ·intro j a;delta uD;rw[if_pos (Cd a),if_pos a];rfl
  ·intro j a;delta uD;rw[if_neg (by lia),if_neg (by lia)];show dv gen f k _^^^_^^^dv gen f k _=0
   rw[if_neg (by lia),Fd,xg]
 rw[Cx (sx hf _) (sx hf _)] at e;exact Mo e
theorem a4g{g:Nat}(h:k+1<=n):k+(g+1)+(n-k-1)=n+g:=by rw[wo,<- FC,zf k g 1,zf,Vf h]
theorem KI{gen:List Nat}{f:Nat->Nat}(hf:∀j,f j < 256)(h:Kz gen=a8){r n:Nat}(hr:r < gen.length):∀k,k<=n->hv r (uD gen f k) (n+gen.length)=hv r f (n+gen.length)
 |0,_=>wk λj Z=>by unfold uD;rw[if_neg (Fy _)];rfl
 |k+1,hk=>by
  rw[<- KI hf h hr k (fj hk)];have:=BO hf h (r:=r) (k:=k) (z:=n-k-1) hr;rw[a4g hk] at this;exact this
theorem vL{gen:List Nat}{f c:Nat->Nat}(hf:∀j,f j < 256)(h:Kz gen=a8){r:Nat}(hr:r < gen.length)(h0:∀j,n<=j->f j=0)
  (hc:∀j,j < n+gen.length->c j=if j < n then f j else dv gen f n j):hv r c (n+gen.length)=0:=by
 have e:hv r c (n+gen.length)=hv r (λj=>f j^^^uD gen f n j) (n+gen.length):=by
  refine wk λj a=>?_;rw[hc j a];delta uD;split
  ·rw[Fd]
  ·rw[h0 j (by lia),Kc]
 rw[e,Cx hf (sx hf n),KI hf h hr n (yb _),xg]
noncomputable def Rg(r:Nat):List (Nat×Nat)->Nat
 |[]=>0
 |p::l=>it (r*p.1) p.2^^^Rg r l
theorem Du{r:Nat}:∀{l:List (Nat×Nat)},(∀p∈l,p.2 < 256)->Rg r l < 256
 |[],_=>by show 0 < 256;decide
 |p::l,h=>qf (Fc (h p (va ..)) _) (Du λq a=>h q (pa _ a))
theorem bx(q r:Nat):∀{l:List (Nat×Nat)},(∀p∈l,p.2 < 256)->Rg r (l.map λp=>(p.1,it p.1 p.2^^^it q p.2))=Rg (r+1) l^^^it q (Rg r l)
 |[],_=>by show 0=0^^^it q 0;rw[Vd];rfl
 |p::l,h=>by
  have hp:=h p (va ..);have hl:∀p∈l,p.2 < 256:=λq a=>h q (pa _ a);show it (r*p.1) (it p.1 p.2^^^it q p.2)^^^Rg r (l.map _)=(it ((r+1)*p.1) p.2^^^Rg (r+1) l)^^^it q (it (r*p.1) p.2^^^Rg r l)
  rw[bx q r hl,Hf (Fc hp _) (Fc hp _),Hf (Fc hp _) (Du hl),<- ph,aj q,Np,Vw]
theorem a3v:∀(n:Nat) (l:List (Nat×Nat)),l.length=n->n≠0->(l.map (·.1)).Nodup->(∀p∈l,p.1 < 255/\p.2 < 256/\p.2≠0)->∀s,∃r,s<=r/\r < s+n/\Rg r l≠0:=by
 intro n;induction n with
 |zero=>exact λZ Z h=>absurd rfl h
 |succ n t=>
  intro l e _ nd hb s;cases l with
  |nil=>exact nomatch e
  |cons p l=>
  have hp:=hb p (va ..);have hl:∀q∈l,q.1 < 255/\q.2 < 256/\q.2≠0:=λq d=>hb q (pa _ d);rw[Mb,Lb] at nd;by_cases hn:n=0
  ·subst hn;have:l=[]:=Qw (bt e);subst this;refine⟨s,yb _,Xc s,?_⟩
   show it (s*p.1) p.2^^^0≠0
   rw[Fd];exact MG hp.2.1 hp.2.2 _
  ·refine Uc λi=>?_;have f:∀r,s<=r->r < s+(n+1)->Rg r (p::l)=0:=λr h1 h2=>Uc λq=>i ⟨r,h1,h2,q⟩;have hz:∀q∈l,it q.1 q.2^^^it p.1 q.2 < 256/\it q.1 q.2^^^it p.1 q.2≠0:=by
    intro q d;refine ue λhC=>?_;obtain ⟨a,b,c⟩:=hl q d;refine hC ?_;refine⟨qf (Fc b _) (Fc b _),λz=>?_⟩
    have:=xP b c a hp.1 (Mo z);exact nd.1 (Ma.mpr ⟨q,d,this⟩)
   obtain ⟨r,h1,h2,u⟩:=t (l.map λq=>(q.1,it q.1 q.2^^^it p.1 q.2)) ((cb ..).trans (bt e)) hn
    (by rw[vg];exact nd.2) (λq d=>by obtain ⟨o,g,rfl⟩:=Ma.mp d;exact⟨(hl o g).1,hz o g⟩) s
   refine u ?_;have j:∀q∈l,q.2 < 256:=λq d=>(hl q d).2.1;rw[bx _ _ j];have m:=f r h1 (by lia);have k:=f (r+1) (by lia) (by lia);have m:it (r*p.1) p.2=Rg r l:=Mo m;have k:it ((r+1)*p.1) p.2=Rg (r+1) l:=Mo k;rw[<- m,<- k,<- ph,Np,Rb,xg]
noncomputable def nN(ns:List Int)(j:Nat):Nat:=(ns.getD j 0).toNat
theorem Qt(h:dj ns)(j:Nat):nN ns j < 256:=(Aj (h.getD j).1).mpr (h.getD j).2
theorem sD(h:dj ns)(j:Nat):ns.getD j 0=(nN ns j:Int):=(gf (h.getD j).1).symm
theorem Nu{f:Nat->Int}{l:List Nat}{x:Nat}(h:l[n]?=ac x):(l.map f).getD n 0=f x:=by
 rw[ua,ef,h];rfl
theorem WU(h:n < 510):bE.getD n 0=((it n 1:Nat):Int):=Nu (f:=Je) (fq 510 1 n h)
theorem cB{a:Nat}(h:a < 256):kj.getD a 0=((lg a:Nat):Int):=Nu (f:=λa=>Je ((gq 255 1).idxOf a % 255)) (fi h)
theorem Mu{l:List Int}{j:Nat}{v:Int}(h:i < l.length):(l.set i v).getD j 0=if j=i then v else l.getD j 0:=by
 rw[ua,ua,BM];by_cases q:i=j
 ·rw[if_pos q,if_pos q.symm,if_pos h];rfl
 ·rw[if_neg q,if_neg (qb q)]
theorem lV(gen:List Int)(k:Nat)(b:Int)(j:Nat):∀(n:Nat) (ns:List Int),k+n < ns.length->
  (Im gen k b n ns).getD j 0=if k < j/\j<=k+n then Jc (ns.getD j 0) (bE.getD (b+gen.getD (j-k-1) 0).toNat 0) else ns.getD j 0:=by
 intro n;induction n with
 |zero=>exact λns Z=>(if_neg λq=>je _ (ya q.1 q.2)).symm
 |succ n d=>
  intro ns h;unfold Im;rw[Mu (i:=k+n+1) (Hi h (yq ..).symm),d ns (Rv h)];by_cases q:j=k+n+1
  ·have e:(Im gen k b n ns).getD (k+n+1) 0=ns.getD j 0:=by rw[<- q,d ns (Rv h),if_neg (λc=>MJ _ (q▸c.2))]
   rw[if_pos q,e,if_pos ⟨q▸MR (Za k n),Yc q⟩,show j-k-1=n from q▸congrArg (· - 1) (Jg (n:=k) (m:=n+1))]
  ·rw[if_neg q];by_cases a:k < j/\j<=k+n
   ·rw[if_pos a,if_pos ⟨a.1,Xa a.2⟩]
   ·rw[if_neg a,if_neg λc=>a ⟨c.1,Tf (tu c.2 q)⟩]
theorem TK(gen:List Int)(i:Nat):(gen.map zk).getD i 0=(gen.getD i 0).toNat:=by
 rw[ua,ua,ef];cases gen[i]? <;> rfl
theorem V2{gen:List Int}(hg:∀g∈gen,0<=g/\g < 255)(h:dj ns)(j:Nat):∀k,k+gen.length<=ns.length->nN (Yj gen gen.length k ns) j=dv (gen.map zk) (nN ns) k j:=by
 intro k;induction k generalizing j with
 |zero=>exact λZ=>rfl
 |succ k a=>
  intro hk;have b:=λj=>a j (ka (Dg (Se k) _) hk);have hb:=zq gen gen.length k ns h;have hl:=Il gen gen.length k ns;have d:Yj gen gen.length (k+1) ns=if (Yj gen gen.length k ns).getD k 0=0 then Yj gen gen.length k ns else Im gen k (kj.getD ((Yj gen gen.length k ns).getD k 0).toNat 0) gen.length (Yj gen gen.length k ns):=rfl
  unfold dv;rw[cb,<- b j,<- b k,d];clear d b;generalize Yj gen gen.length k ns=E at hb hl ⊢;have h0:E.getD k 0=(nN E k:Int):=sD hb k;by_cases e:E.getD k 0=0
  ·rw[if_pos e];rw[h0] at e;have e:nN E k=0:=vh e;rw[e,Vd];split <;> exact(Fd _).symm
  ·rw[if_neg e];rw[h0] at e;have e:nN E k≠0:=λq=>e (by rw[q];rfl)
   show((Im _ _ _ _ _).getD j 0).toNat=_
   rw[lV gen k _ j gen.length _ (Hi (Nat.lt_of_succ_le (ka (Yc (Ov k _).symm) hk)) hl.symm),h0,Bb,cB (Qt hb k)];by_cases q:k < j/\j<=k+gen.length
   ·rw[if_pos q,if_pos q];have hgi:=hg (gen.getD (j-k-1) 0) (Cb (Fl (ya (Nat.sub_one_lt (Nat.sub_ne_zero_of_lt q.1)) (Nat.sub_le_iff_le_add'.mpr q.2))));rw[TK,sD hb j]
    refine(Ke hgi.1).elim λg eg=>?_
    rw[eg] at hgi ⊢;have c:=RI (nN E k);rw[show(((lg (nN E k):Nat):Int)+(g:Int)).toNat=g+lg (nN E k) from Rb ..,WU (Nat.add_lt_add (jc.mp hgi.2) c),xi,Bb,Bb,ph,Nr (Qt hb k) e]
   ·rw[if_neg q,if_neg q];exact(Fd _).symm
theorem Hx{a b:List Int}(j:Nat):(a++b).getD j 0=if j < a.length then a.getD j 0 else b.getD (j-a.length) 0:=by
 rw[ua,WH];split <;> rw[ua]
theorem SK(n j:Nat):(Qa n (0:Int)).getD j 0=0:=by
 rw[ua,HC];split <;> rfl
theorem uL{gen W:List Int}(hg:∀g∈gen,0<=g/\g < 255)(h:dj W)(ok:Kz (gen.map zk)=a8){r:Nat}(hr:r < gen.length):hv r (nN (W++qh gen W)) (W.length+gen.length)=0:=by
 have hb:dj (W++Qa gen.length 0):=h.append λv hv=>by rw[(Di.mp hv).2];decide
 have:=vL (gen:=gen.map zk) (f:=nN (W++Qa gen.length 0)) (c:=nN (W++qh gen W)) (n:=W.length) (r:=r) (Qt hb) ok (by rw[cb];exact hr) (λj a=>?_) (λj a=>?_)
 ·rw[cb] at this;exact this
 ·delta nN;rw[Hx,if_neg (yf.mpr a),SK];rfl
 ·rw[cb] at a;rw[<- V2 hg hb j W.length (Yc (by rw[Nb,Zd]))];delta nN;rw[Hx];by_cases q:j < W.length
  ·rw[if_pos q,if_pos q,Hx,if_pos q]
  ·rw[if_neg q,if_neg q];delta qh;rw[ua,List.getElem?_drop,show W.length+(j-W.length)=j from YL (yf.mp q),<- ua]
noncomputable def Ug(x y:Nat):Nat:=if x=0 then 0 else it (lg x) y
theorem Em(y:Nat):Ug 0 y=0:=if_pos rfl
theorem vn{x:Nat}(h:x≠0)(y:Nat):Ug x y=it (lg x) y:=if_neg h
theorem rv(x:Nat):Ug x 0=0:=by
 by_cases h:x=0
 ·rw[h];rfl
 ·rw[vn h];exact Vd _
theorem So{x y:Nat}(h:y < 256):Ug x y < 256:=by
 by_cases h0:x=0
 ·rw[h0,Em];decide
 ·rw[vn h0];exact Fc h _
theorem Rt{x a b:Nat}(c:a < 256)(hb:b < 256):Ug x (a^^^b)=Ug x a^^^Ug x b:=by
 by_cases h:x=0
 ·rw[h,Em,Em,Em];rfl
 ·rw[vn h,vn h,vn h];exact Hf c hb _
theorem Hu(x k y:Nat):Ug x (it k y)=it k (Ug x y):=by
 by_cases h:x=0
 ·rw[h,Em,Em,Vd]
 ·rw[vn h,vn h,aj]
theorem cm{x y:Nat}(b:x < 256)(a:y < 256):Ug x y=Ug y x:=by
 by_cases h:x=0
 ·rw[h,Em,rv]
 by_cases h':y=0
 ·rw[h',Em,rv]
 rw[vn h,vn h'];have d:=Nr b h;have c:=Nr a h'
 calc it (lg x) y=it (lg x) (it (lg y) 1):=by rw[c]
  _=it (lg y) (it (lg x) 1):=aj ..
  _=it (lg y) x:=by rw[d]
theorem Ls{x y:Nat}(b:x < 256)(a:y < 256)(k:Nat):Ug (it k x) y=it k (Ug x y):=by
 rw[cm (Fc b k) a,Hu,cm a b]
theorem UA{a b y:Nat}(d:a < 256)(hb:b < 256)(c:y < 256):Ug (a^^^b) y=Ug a y^^^Ug b y:=by
 rw[cm (qf d hb) c,Rt d hb,cm c d,cm c hb]
theorem nZ(x:Nat){y z:Nat}(a:y < 256)(hz:z < 256):Ug (Ug x y) z=Ug x (Ug y z):=by
 by_cases h:x=0
 ·rw[h,Em,Em,Em]
 ·rw[vn h,vn h,Ls a hz]
theorem XZ:lg 1=0:=by decide +kernel
theorem mul_one(y:Nat):Ug 1 y=y:=by rw[vn (by decide),XZ];rfl
theorem JI{x y:Nat}(b:x≠0)(a:y < 256)(h:y≠0):Ug x y≠0:=by rw[vn b];exact MG a h _
abbrev B2(l:List (Nat×Nat)):Prop:=∀q∈l,q.2 < 256
noncomputable abbrev mv(f:Nat->Nat->Nat)(l:List (Nat×Nat)):List (Nat×Nat):=l.map λq=>(q.1,f q.1 q.2)
theorem jZ{f:Nat->Nat->Nat}(hf:∀k v,v < 256->f k v < 256){l:List (Nat×Nat)}(h:B2 l):B2 (mv f l):=λq a=>by
 obtain ⟨p,hp,rfl⟩:=Ma.mp a;exact hf _ _ (h p hp)
theorem wG(f:Nat->Nat->Nat)(l:List (Nat×Nat)):(mv f l).map (·.1)=l.map (·.1):=vg
theorem tG(f:Nat->Nat->Nat)(l:List (Nat×Nat)):(mv f l).length=l.length:=cb _
theorem eT{f g:Nat->Nat->Nat}(hf:∀k v,v < 256->f k v < 256)(hg:∀k v,v < 256->g k v < 256)(r:Nat){l:List (Nat×Nat)}(h:B2 l):Rg r (mv (λk v=>f k v^^^g k v) l)=Rg r (mv f l)^^^Rg r (mv g l):=by
 induction l with
 |nil=>exact(xg 0).symm
 |cons p l a=>
  have hp:=h p (va ..);show it (r*p.1) (f p.1 p.2^^^g p.1 p.2)^^^Rg r (mv (λk v=>f k v^^^g k v) l)=(it (r*p.1) (f p.1 p.2)^^^Rg r (mv f l))^^^(it (r*p.1) (g p.1 p.2)^^^Rg r (mv g l))
  rw[a λq b=>h q (pa _ b),Hf (hf _ _ hp) (hg _ _ hp),Vw]
theorem fI(a r:Nat){l:List (Nat×Nat)}(h:B2 l):Ug a (Rg r l)=Rg r (mv (λZ v=>Ug a v) l):=by
 induction l with
 |nil=>exact rv a
 |cons p l b=>
  have hl:B2 l:=λq c=>h q (pa _ c);show Ug a (it (r*p.1) p.2^^^Rg r l)=it (r*p.1) (Ug a p.2)^^^Rg r (mv (λZ v=>Ug a v) l)
  rw[Rt (Fc (h p (va ..)) _) (Du hl),b hl,Hu]
theorem nY(r d:Nat)(l:List (Nat×Nat)):Rg (r+d) l=Rg r (mv (λk v=>it (d*k) v) l):=by
 induction l with
 |nil=>rfl
 |cons p l a=>
  show it ((r+d)*p.1) p.2^^^Rg (r+d) l=it (r*p.1) (it (d*p.1) p.2)^^^Rg r (mv (λk v=>it (d*k) v) l)
  rw[a,<- ph,Nat.add_mul]
theorem IA{r:Nat}{l:List (Nat×Nat)}(h:∀q∈l,q.2=0):Rg r l=0:=by
 induction l with
 |nil=>rfl
 |cons p l a=>
  show it (r*p.1) p.2^^^Rg r l=0
  rw[h p (va ..),Vd,a λq b=>h q (pa _ b)];rfl
theorem ax(r:Nat)(l:List (Nat×Nat)):Rg r (l.filter λq=>q.2 != 0)=Rg r l:=by
 induction l with
 |nil=>rfl
 |cons p l a=>
  by_cases h:p.2=0
  ·rw[JC (p:=λq:Nat×Nat=>q.2 != 0) (λq=>bne_iff_ne.mp q h),a];show _=it (r*p.1) p.2^^^Rg r l
   rw[h,Vd,Kc]
  ·rw[IC (p:=λq:Nat×Nat=>q.2 != 0) (bne_iff_ne.mpr h)];exact congrArg (it (r*p.1) p.2^^^·) a
theorem g6{l:List (Nat×Nat)}(nd:(l.map (·.1)).Nodup)(hb:∀p∈l,p.1 < 255/\p.2 < 256){s:Nat}(hn:l.length<=n)(h:∀r,s<=r->r < s+n->Rg r l=0)(p:Nat×Nat)(hp:p∈l):p.2=0:=by
 refine Uc λh0=>?_;have hm:p∈l.filter λq=>q.2 != 0:=Mi.mpr ⟨hp,bne_iff_ne.mpr h0⟩
 refine(a3v _ (l.filter λq=>q.2 != 0) rfl (Td (aF hm)) ((dt.map _).nodup nd) (λq b=>have a:=Mi.mp b;⟨(hb q a.1).1,(hb q a.1).2,bne_iff_ne.mp a.2⟩) s).elim λr e=>?_
 exact e.2.2 ((ax r l).trans (h r e.1 (ya e.2.1 (Ec (ka (Oq ..) hn) _))))
abbrev LB(p:List Nat):Prop:=∀x∈p,x < 256
theorem LB.tl{a:Nat}{p:List Nat}(h:LB (a::p)):LB p:=λx b=>h x (pa _ b)
theorem LB.hd{a:Nat}{p:List Nat}(h:LB (a::p)):a < 256:=h a (va ..)
noncomputable def Ei(k:Nat):Nat->List Nat->Nat
 |a,[]=>a
 |a,p::l=>Ei k (it k a^^^p) l
theorem Qs{p:List Nat}:∀{a:Nat},LB p->a < 256->Ei k a p < 256:=by
 induction p with
 |nil=>exact λZ b=>b
 |cons x p c=>exact λh b=>c h.tl (qf (Fc b k) h.hd)
theorem IU{p:List Nat}:∀{x b:Nat},LB p->x < 256->b < 256->Ei k (x^^^b) p=it (p.length*k) x^^^Ei k b p:=by
 induction p with
 |nil=>intro x b _ _ _;show x^^^b=it (0*k) x^^^b;rw[xF];rfl
 |cons y p c=>
  intro x b h a hb;show Ei k (it k (x^^^b)^^^y) p=it ((p.length+1)*k) x^^^Ei k (it k b^^^y) p
  rw[Hf a hb,We,c h.tl (Fc a k) (qf (Fc hb k) h.hd),<- ph,Np]
noncomputable def an(s:Nat->Nat):Nat->List Nat->Nat
 |_,[]=>0
 |j,a::p=>Ug a (s j)^^^an s (j-1) p
theorem QE{s:Nat->Nat}(c:∀i,s i < 256){p:List Nat}:∀{j:Nat},an s j p < 256:=by
 induction p with
 |nil=>intro j;show 0 < 256;decide
 |cons a p b=>exact qf (So (c _)) b
theorem a4e{l:List (Nat×Nat)}{f g:Nat->Nat->Nat}(h:∀q∈l,f q.1 q.2=g q.1 q.2):mv f l=mv g l:=Wf λq a=>by rw[h q a]
theorem GH{l:List (Nat×Nat)}(hl:B2 l)(r:Nat){p:List Nat}:∀{a:Nat},a < 256->LB p->an (λi=>Rg i l) (r+p.length) (a::p)=Rg r (mv (λk v=>Ug (Ei k a p) v) l):=by
 induction p with
 |nil=>
  intro a _ _;show Ug a (Rg (r+0) l)^^^0=_
  rw[Fd];exact fI a r hl
 |cons b q d=>
  intro a c h;show Ug a (Rg (r+(q.length+1)) l)^^^an (λi=>Rg i l) (r+q.length) (b::q)=Rg r (mv (λk v=>Ug (Ei k (it k a^^^b) q) v) l)
  rw[d h.hd h.tl,nY,fI a r (jZ (f:=λk v=>it ((q.length+1)*k) v) (λk v hv=>Fc hv _) hl),show mv (λZ v=>Ug a v) (mv (λk v=>it ((q.length+1)*k) v) l)=mv (λk v=>Ug a (it ((q.length+1)*k) v)) l from vg,
   <- eT (λk v hv=>So (Fc hv _)) (λk v hv=>So hv) r hl]
  refine congrArg (Rg r) (a4e λz hz=>?_);have hv:=hl z hz;rw[IU h.tl (Fc c _) h.hd,UA (Fc (Fc c _) _) (Qs h.tl h.hd) hv,<- ph,Ls c hv,Hu,Np]
noncomputable def xl:List Nat->List Nat->List Nat
 |[],b=>b
 |a,[]=>a
 |x::a,y::b=>(x^^^y)::xl a b
theorem MX(a:List Nat):∀(b:List Nat),(xl a b).length=max a.length b.length:=by
 induction a with
 |nil=>exact λb=>(Nat.zero_max _).symm
 |cons x a c=>
  intro b;cases b with
  |nil=>exact(Nat.max_zero _).symm
  |cons y b=>exact(congrArg (·+1) (c b)).trans (Nat.add_max_add_right ..).symm
theorem b6{a:List Nat}:∀{b:List Nat},LB a->LB b->LB (xl a b):=by
 induction a with
 |nil=>exact λZ h=>h
 |cons x a c=>
  intro b h h';cases b with
  |nil=>exact h
  |cons y b=>exact λz hz=>(La.mp hz).elim (λe=>e▸qf h.hd h'.hd) λhz=>c h.tl h'.tl z hz
theorem a1Z{s:Nat->Nat}(d:∀i,s i < 256){a:List Nat}:∀{b:List Nat} (j:Nat),LB a->LB b->an s j (xl a b)=an s j a^^^an s j b:=by
 induction a with
 |nil=>exact λj Z Z=>(Kc _).symm
 |cons x a c=>
  intro b j h h';cases b with
  |nil=>exact(Fd _).symm
  |cons y b=>
   show Ug (x^^^y) (s j)^^^an s (j-1) (xl a b)=(Ug x (s j)^^^an s (j-1) a)^^^(Ug y (s j)^^^an s (j-1) b)
   rw[c (j-1) h.tl h'.tl,UA h.hd h'.hd (d j),Vw]
theorem S3{s:Nat->Nat}(b:List Nat)(g:Nat):∀(j:Nat),an s j (Qa g 0++b)=an s (j-g) b:=by
 induction g with
 |zero=>exact λj=>rfl
 |succ g a=>
  intro j;show Ug 0 (s j)^^^an s (j-1) (Qa g 0++b)=_
  rw[Em,Kc,a (j-1),wo,Rb]
theorem U3{s:Nat->Nat}(b:∀i,s i < 256)(f:Nat){p:List Nat}:∀(j:Nat),LB p->an s j (p.map (Ug f))=Ug f (an s j p):=by
 induction p with
 |nil=>exact λZ Z=>(rv f).symm
 |cons a p c=>
  intro j h;show Ug (Ug f a) (s j)^^^an s (j-1) (p.map (Ug f))=Ug f (Ug a (s j)^^^an s (j-1) p)
  rw[c (j-1) h.tl,nZ f h.hd (b j),Rt (So (b j)) (QE b)]
structure BS where
 now:List Nat
 old:List Nat
 L:Nat
 gap:Nat
 fault:Nat
noncomputable def BC(off fault:Nat):Nat:=it ((lg off+255-lg fault) % 255) 1
noncomputable def kF(x:BS)(off:Nat):List Nat:=xl x.now (Qa x.gap 0++x.old.map (Ug (BC off x.fault)))
noncomputable def nX(s:Nat->Nat)(t:Nat)(x:BS):BS:=
 if an s t x.now=0 then ⟨x.now,x.old,x.L,x.gap+1,x.fault⟩
 else if 2*x.L<=t then ⟨kF x (an s t x.now),x.now,t+1-x.L,1,an s t x.now⟩ else ⟨kF x (an s t x.now),x.old,x.L,x.gap+1,x.fault⟩
noncomputable def bm(s:Nat->Nat):Nat->BS
 |0=>⟨[1],[1],0,1,1⟩
 |t+1=>nX s t (bm s t)
theorem xJ{off fault:Nat}(h:off < 256)(h0:off≠0)(hf:fault < 256)(f0:fault≠0):Ug (BC off fault) fault=off:=by
 have b:=Nr h h0;have a:=Nr hf f0;unfold BC;rw[Ls (by decide) hf,mul_one,nB hf]
 calc it (lg off+255-lg fault) fault=it (lg off+255-lg fault) (it (lg fault) 1):=by rw[a]
  _=it (lg off+255) 1:=by rw[<- ph,Yb (ka (uc (RI fault)) (Ri ..))]
  _=it (lg off) 1:=by rw[ph,yP]
  _=off:=b
theorem zR{l:List (Nat×Nat)}(nd:(l.map (·.1)).Nodup)(hb:∀p∈l,p.1 < 255/\p.2 < 256){a:Nat}{q:List Nat}(f:a < 256)(d:LB q){L t:Nat}(hl:q.length<=L)(c:L+l.length<=t)
  (z:∀j,L<=j->j < t->an (λi=>Rg i l) j (a::q)=0):∀p∈l,Ug (Ei p.1 a q) p.2=0:=by
 have g:B2 l:=λp hp=>(hb p hp).2;have h:=g6 (l:=mv (λk v=>Ug (Ei k a q) v) l) (s:=L-q.length) (n:=t-L) (by rw[wG];exact nd)
  (λp hp=>(Ma.mp hp).elim λb e=>e.2▸⟨(hb b e.1).1,So (hb b e.1).2⟩) (by rw[tG];exact Wl (Rb ..▸c)) λr h1 h2=>by
   rw[<- GH g r f d];refine z _ (NJ h1) (ya (OJ h2 q.length) ?_);rw[zf,Yb hl,Vf (ka (Za ..) c)];exact yb t
 exact λp hp=>h (p.1,Ug (Ei p.1 a q) p.2) (Ma.mpr ⟨p,hp,rfl⟩)
theorem IZ{l:List (Nat×Nat)}(nd:(l.map (·.1)).Nodup)(hb:∀p∈l,p.1 < 255/\p.2 < 256){a:Nat}{q:List Nat}(d:a < 256)(c:LB q){L t:Nat}(hl:q.length<=L)(ht:L<=t)
  (z:∀j,L<=j->j < t->an (λi=>Rg i l) j (a::q)=0) (b:an (λi=>Rg i l) t (a::q)≠0):t+1<=l.length+L:=by
 refine Uc λh=>b ?_;have h0:=zR nd hb d c hl (Rb ..▸Tf (a3b.mp h)) z;have e:=GH (l:=l) (λp hp=>(hb p hp).2) (t-q.length) d c;rw[Yb (ka hl ht)] at e;rw[e];exact IA λp hp=>(Ma.mp hp).elim λf e=>e.2▸h0 f e.1
structure BI(s:Nat->Nat)(e t:Nat)(x:BS):Prop where
 lead:∃q,x.now=1::q
 nb:LB x.now
 nl:x.now.length<=x.L+1
 lt:x.L<=t
 le:x.L<=e
 z:∀j,x.L<=j->j < t->an s j x.now=0
 ob:LB x.old
 o1:x.old≠[]
 ol:x.old.length+x.L+x.gap<=t+2
 g1:1<=x.gap
 f0:x.fault≠0
 fl:x.fault < 256
 old:(x.L=0/\x.gap=t+1)\/(x.gap<=t/\x.L+x.gap<=t+1/\(∀j,t+1<=j+x.gap+x.L->j+x.gap < t->an s j x.old=0)/\an s (t-x.gap) x.old=x.fault)
theorem J3{x:BS}(h:LB x.now)(h':LB x.old)(off:Nat):LB (kF x off):=b6 h λz hz=>(we.mp hz).elim (λq=>by rw[tC q];decide) λq=>by
 obtain ⟨y,a,rfl⟩:=Ma.mp q;exact So (h' y a)
theorem wJ(x:BS)(off:Nat):(kF x off).length=max x.now.length (x.gap+x.old.length):=by
 unfold kF;rw[MX,Nb,Zd,cb]
theorem I3{s:Nat->Nat}(a:∀i,s i < 256){x:BS}(h:LB x.now)(h':LB x.old)(off j:Nat):an s j (kF x off)=an s j x.now^^^Ug (BC off x.fault) (an s (j-x.gap) x.old):=by
 unfold kF;rw[a1Z a j h λz hz=>(we.mp hz).elim (λq=>by rw[tC q];decide) λq=>by obtain ⟨y,b,rfl⟩:=Ma.mp q;exact So (h' y b),S3,U3 a _ _ h']
theorem fR{x:BS}(off:Nat)(h:∃q,x.now=1::q)(g:1<=x.gap):∃q,kF x off=1::q:=h.elim λq a=>by
 unfold kF;rw[a,<- Yb g];exact⟨_,rfl⟩
theorem cP{j t:Nat}(h:j < t+1)(q:¬j=t):j < t:=tu (Tf h) q
theorem n_a{o L g t:Nat}(a:L<=t)(h:o+L+g<=t+2):g+o<=t+1-L+1:=by
 have e:t+1+1-L=t+1-L+1:=Nat.succ_sub (Xa a);rw[<- e];exact Wl (by rw[Rb g o,zf];exact h)
theorem n_b{L t:Nat}(h:2*L<=t+1):L<=t+1-L:=Wl (qy L▸h)
theorem n_c{L t:Nat}(a:L<=t+1)(h:n<=L+1):n+(t+1-L)+1<=t+1+2:=Dc (ka (Dg h _) (by rw[zf,Vf a];exact yb _))
theorem n_d{j L t:Nat}(a:L<=t+1)(h:t+1+1<=j+1+(t+1-L)):L<=j:=
 oA (b:=t+1-L) (by rw[Vf a];exact Sf (Ov j (t+1-L)▸h))
theorem n_e{o L g t:Nat}(h:o+L+g<=t+2)(h2:t+1<=2*L):g+o<=L+1:=
 oA (b:=L) (by rw[Rb g o,zf];exact ka h (by rw[zf,<- qy];exact Dc h2))
theorem BI.step{l:List (Nat×Nat)}(nd:(l.map (·.1)).Nodup)(hb:∀p∈l,p.1 < 255/\p.2 < 256){t:Nat}{x:BS}(h:BI (λi=>Rg i l) l.length t x):BI (λi=>Rg i l) l.length (t+1) (nX (λi=>Rg i l) t x):=by
 have r:∀i,Rg i l < 256:=λi=>Du λp hp=>(hb p hp).2;have m:∀{j},t+1+1<=j+(x.gap+1)+x.L->t+1<=j+x.gap+x.L:=λ{j} h1=>Sf (Ov (j+x.gap) x.L▸h1);unfold nX;by_cases h0:an (λi=>Rg i l) t x.now=0
 ·rw[if_pos h0];refine⟨h.lead,h.nb,h.nl,Xa h.lt,h.le,λj h1 h2=>?_,h.ob,h.o1,Dc h.ol,Xa h.g1,h.f0,h.fl,?_⟩
  ·by_cases q:j=t
   ·rw[q];exact h0
   ·exact h.z j h1 (cP h2 q)
  ·refine h.old.imp (λq=>⟨q.1,congrArg (·+1) q.2⟩) λq=>⟨Dc q.1,Dc q.2.1,λj h1 h2=>q.2.2.1 j (m h1) (Xg h2),?_⟩;show an _ (t+1-(x.gap+1)) x.old=_
   rw[RH];exact q.2.2.2
 ·rw[if_neg h0];have hg:=I3 r h.nb h.ob (an (λi=>Rg i l) t x.now);have c:=fR (an (λi=>Rg i l) t x.now) h.lead h.g1;have o:=J3 h.nb h.ob (an (λi=>Rg i l) t x.now);have g:=wJ x (an (λi=>Rg i l) t x.now);have d:=h.lt;have f:=Xa d;have u:t+1<=l.length+x.L:=h.lead.elim λq s=>by
   have nl:=h.nl;have nb:=h.nb;have z:=h.z;rw[s] at nl nb z h0;exact IZ nd hb nb.hd nb.tl (Sf nl) d z h0
  have k:∀j,x.L<=j->t+1<=j+x.L->j < t+1->¬x.L=0->an (λi=>Rg i l) j (kF x (an (λi=>Rg i l) t x.now))=0:=by
   intro j h1 h2 a hv;rw[hg]
   refine(h.old.resolve_left λq=>hv q.1).elim λg1 q=>?_
   by_cases e:j=t
   ·rw[e,q.2.2,xJ (QE r) h0 h.fl h.f0,xg]
   ·have v:x.gap<=j:=Nat.le_of_add_le_add_left (ka q.1 (Rb j x.L▸h2));rw[h.z j h1 (cP a e),q.2.1 (j-x.gap) (by rw[Yb v];exact h2) (by rw[Yb v];exact cP a e),rv];rfl
  have n:an (λi=>Rg i l) t x.now < 256:=QE r;by_cases h2:2*x.L<=t
  ·rw[if_pos h2];have b:=n_b (Xa h2);refine⟨c,o,?_,Rf ..,Nat.sub_le_of_le_add u,λj h1 a=>k j (ka b h1) (NJ h1) a λq=>?_,h.nb,?_,n_c f h.nl,yb _,h0,?_,.inr ⟨Dc (fc t),Dc (Rf ..),λj h1 a=>h.z j (n_d f h1) (Xg a),rfl⟩⟩
   ·exact g▸zM.mpr ⟨ka h.nl (Dc b),n_a d h.ol⟩
   ·have h1:t+1-x.L<=j:=h1;rw[q] at h1;exact je _ (ya a h1)
   ·exact h.lead.elim λq s e=>nomatch s.symm.trans e
   ·exact n
  ·rw[if_neg h2];have a:t+1<=2*x.L:=Nat.lt_of_not_le h2;refine⟨c,o,g▸zM.mpr ⟨h.nl,n_e h.ol a⟩,Xa d,h.le,λj h1 w=>k j h1 (ka (qy x.L▸a) (Dg h1 _)) w λq=>?_,h.ob,h.o1,Dc h.ol,Xa h.g1,h.f0,h.fl,.inr ?_⟩
   ·rw[q] at a;exact nomatch a
   ·refine(h.old.resolve_left λq=>?_).elim λg1 q=>⟨Dc g1,Dc q.1,λj h1 a=>q.2.1 j (m h1) (Xg a),?_⟩
    ·rw[q.1] at a;exact nomatch a
    ·show an _ (t+1-(x.gap+1)) x.old=_;rw[RH];exact q.2.2
theorem eR{l:List (Nat×Nat)}(nd:(l.map (·.1)).Nodup)(hb:∀p∈l,p.1 < 255/\p.2 < 256)(t:Nat):BI (λi=>Rg i l) l.length t (bm (λi=>Rg i l) t):=by
 have one:LB [1]:=λx b=>by rw[Ca.mp b];decide
 induction t with
 |zero=>exact⟨⟨[],rfl⟩,one,yb _,yb _,fc _,λj Z h=>(nomatch h),one,λe=>(nomatch e),yb _,yb _,(by decide:(1:Nat)≠0),(by decide:1 < 256),.inl ⟨rfl,rfl⟩⟩
 |succ t a=>exact a.step nd hb
theorem zV{l:List (Nat×Nat)}(nd:(l.map (·.1)).Nodup)(hb:∀p∈l,p.1 < 255/\p.2 < 256)(h0:∀p∈l,p.2≠0)(hn:2*l.length<=n):∀p∈l,Ei p.1 0 (bm (λi=>Rg i l) n).now=0:=by
 intro p hp;have h:=eR nd hb n;obtain ⟨q,a⟩:=h.lead;have nb:=h.nb;have nl:=h.nl;have z:=h.z;have le:=h.le;rw[a] at nb nl z ⊢;have:=zR nd hb nb.hd nb.tl (Sf nl) (ka (Dg le _) (qy l.length▸hn)) z p hp;show Ei p.1 (it p.1 0^^^1) q=0
 rw[Vd,Kc];exact Uc λe=>JI e (hb p hp).2 (h0 p hp) this
noncomputable def qt(k:Nat):Nat->List Nat->List Nat
 |_,[]=>[]
 |a,x::p=>a::qt k (it k a^^^x) p
theorem QN{p:List Nat}:∀{a:Nat},(qt k a p).length=p.length:=by
 induction p with
 |nil=>exact rfl
 |cons _ _ b=>exact congrArg (·+1) b
theorem rI{p:List Nat}:∀{a:Nat},LB p->a < 256->LB (qt k a p):=by
 induction p with
 |nil=>exact λZ Z Z h=>nomatch h
 |cons x p c=>exact λh b z hz=>(La.mp hz).elim (λe=>e▸b) λhz=>c h.tl (qf (Fc b k) h.hd) z hz
noncomputable def df(k m c:Nat):Nat:=it k c^^^it m c
theorem ao{m c:Nat}(h:c < 256):df k m c < 256:=qf (Fc h _) (Fc h _)
theorem o3{m a b:Nat}(c:a < 256)(hb:b < 256):df k m (a^^^b)=df k m a^^^df k m b:=by
 unfold df;rw[Hf c hb,Hf c hb,Vw]
theorem a1N(k m j c:Nat)(h:c < 256):it j (df k m c)=df k m (it j c):=by
 unfold df;rw[Hf (Fc h _) (Fc h _),aj j k,aj j m]
theorem sV{m c:Nat}(hk:k < 255)(hm:m < 255)(a:k≠m)(h:c < 256)(e:df k m c=0):c=0:=
 Uc λh0=>a (xP h h0 hk hm (Mo e))
theorem RN{m:Nat}{p:List Nat}:∀{a b c:Nat},LB p->a < 256->b < 256->c < 256->b=a^^^df k m c->Ei m b p=Ei k a p^^^df k m (Ei m c (qt k a p)):=by
 induction p with
 |nil=>exact λZ Z Z Z e=>e
 |cons x p f=>
  intro a b c h d hb hc e;show Ei m (it m b^^^x) p=Ei k (it k a^^^x) p^^^df k m (Ei m (it m c^^^a) (qt k (it k a^^^x) p))
  refine f h.tl (qf (Fc d k) h.hd) (qf (Fc hb m) h.hd) (qf (Fc hc m) d) ?_;rw[o3 (Fc hc m) d,e,Hf d (ao hc),a1N _ _ _ _ hc];unfold df;have h1:∀A B C D:Nat,(A^^^B)^^^C=(D^^^C)^^^(B^^^(D^^^A)):=λA B C D=>by
   rw[Rk D C,We C,Rk (A^^^B) C,EF B D A,Bt,Rk B A]
  exact h1 ..
theorem VI(k:Nat)(q:List Nat):Ei k 0 (1::q)=Ei k 1 q:=by show Ei k (it k 0^^^1) q=_;rw[Vd,Kc]
theorem cD{ks:List Nat}:∀{q:List Nat},ks.Nodup->(∀k∈ks,k < 255)->LB q->(∀k∈ks,Ei k 1 q=0)->ks.length<=q.length:=by
 induction ks with
 |nil=>exact λZ Z Z Z=>fc _
 |cons k ks f=>
  intro q nd hk d h;cases q with
  |nil=>exact nomatch h k (va ..)
  |cons x q=>
   have nd:=Lb.mp nd;have g:it k 1^^^x < 256:=qf (Fc (by decide) k) d.hd;have:=f (q:=qt k (it k 1^^^x) q) nd.2 (λm hm=>hk m (pa _ hm)) (rI d.tl g) λm hm=>by
    have e:=RN (k:=k) (m:=m) (a:=1) (b:=1) (c:=0) d (by decide) (by decide) (by decide) (by unfold df;rw[Vd,Vd];rfl);rw[h m (pa _ hm),h k (va ..),Kc] at e
    exact(VI ..).symm.trans (sV (hk k (va ..)) (hk m (pa _ hm)) (λq=>nd.1 (q▸hm)) (Qs (rI d (by decide)) (by decide)) e.symm)
   rw[QN] at this;exact Dc this
theorem oQ{l:List (Nat×Nat)}(nd:(l.map (·.1)).Nodup)(hb:∀p∈l,p.1 < 255/\p.2 < 256)(h0:∀p∈l,p.2≠0)(hn:2*l.length<=n):
  (bm (λi=>Rg i l) n).L=l.length/\∀k,k < 255->(Ei k 0 (bm (λi=>Rg i l) n).now=0↔k∈l.map (·.1)):=by
 have h:=eR nd hb n;have hr:=zV nd hb h0 hn;refine h.lead.elim λq g=>?_;have nb:=h.nb;have nl:=h.nl;rw[g] at nb nl hr;have b:∀k∈l.map (·.1),Ei k 1 q=0:=λk hk=>(Ma.mp hk).elim λp e=>e.2▸(VI ..).symm.trans (hr p e.1);have hk:∀k∈l.map (·.1),k < 255:=λk hk=>(Ma.mp hk).elim λp e=>e.2▸(hb p e.1).1;have a:=cD nd hk nb.tl b;rw[cb] at a;have c:q.length<=l.length:=ka (Sf nl) h.le;refine⟨Og h.le (ka a (Sf nl)),λk d=>?_⟩
 rw[g,VI];refine⟨λe=>Uc λhm=>?_,b k⟩
 have:=cD (ks:=k::l.map (·.1)) (Lb.mpr ⟨hm,nd⟩) (λj f=>(La.mp f).elim (λe=>e▸d) (hk j)) nb.tl λj f=>(La.mp f).elim (λz=>z▸e) (b j);rw[wj,cb] at this;exact MJ _ (ka this c)
noncomputable def pm(k:Nat):Nat->List Nat->List Nat
 |b,[]=>[it k b]
 |b,x::p=>(x^^^it k b)::pm k x p
theorem HY{p:List Nat}:∀{b:Nat},(pm k b p).length=p.length+1:=by
 induction p with
 |nil=>exact rfl
 |cons _ _ a=>exact congrArg (·+1) a
theorem wI{p:List Nat}:∀{b:Nat},LB p->b < 256->LB (pm k b p):=by
 induction p with
 |nil=>exact λZ hb z hz=>Ca.mp hz▸Fc hb k
 |cons x p a=>exact λh hb z hz=>(La.mp hz).elim (λe=>e▸qf h.hd (Fc hb k)) λhz=>a h.tl h.hd z hz
theorem x3(A B C D:Nat):(A^^^B)^^^(C^^^D)=(A^^^C)^^^(B^^^D):=Vw ..
theorem IY{p:List Nat}:∀{a a' b:Nat},LB p->a < 256->a' < 256->b < 256->a=it i a'^^^b->Ei i (a^^^it k a') (pm k b p)=df i k (Ei i a p):=by
 induction p with
 |nil=>
  intro a a' b _ d c hb e;show it i (a^^^it k a')^^^it k b=it i a^^^it k a
  rw[Hf d (Fc c k),We,aj i k,<- Hf (Fc c i) hb,<- e]
 |cons x p f=>
  intro a a' b h d c hb e;show Ei i (it i (a^^^it k a')^^^(x^^^it k b)) (pm k x p)=df i k (Ei i (it i a^^^x) p)
  rw[Hf d (Fc c k),x3,aj i k,<- Hf (Fc c i) hb,<- e];exact f h.tl (qf (Fc d i) h.hd) d h.hd rfl
theorem S7{p:List Nat}:∀{a a' b d d':Nat},LB p->a < 256->a' < 256->b < 256->d < 256->d' < 256->a=it i a'^^^b->d=it i d'^^^a'->
  Ei i (d^^^it k d') (qt i (a^^^it k a') (pm k b p))=df i k (Ei i d (qt i a p))^^^Ei i a p:=by
 induction p with
 |nil=>
  intro a a' b d d' _ g f hb hd c e j;show it i (d^^^it k d')^^^(a^^^it k a')=(it i d^^^it k d)^^^a
  rw[Hf hd (Fc c k),x3,aj i k,<- Hf (Fc c i) f,<- j,We,Rk a,<- We]
 |cons x p l=>
  intro a a' b d d' h g f hb hd c e j;show Ei i (it i (d^^^it k d')^^^(a^^^it k a')) (qt i (it i (a^^^it k a')^^^(x^^^it k b)) (pm k x p))=df i k (Ei i (it i d^^^a) (qt i (it i a^^^x) p))^^^Ei i (it i a^^^x) p
  rw[Hf hd (Fc c k),x3,aj i k,<- Hf (Fc c i) f,<- j,Hf g (Fc f k),x3 (it i a),aj i k a',<- Hf (Fc f i) hb,<- e];exact l h.tl (qf (Fc g i) h.hd) g h.hd (qf (Fc hd i) g) hd rfl rfl
noncomputable def pl:List Nat->List Nat->List Nat
 |p,[]=>p
 |p,k::ks=>pl (pm k 0 p) ks
noncomputable def gk(i:Nat):List Nat->Nat->Nat
 |[],c=>c
 |o::os,c=>gk i os (if o=i then c else df i o c)
theorem dX{os:List Nat}:∀{c:Nat},c < 256->gk i os c < 256:=by
 induction os with
 |nil=>exact id
 |cons o os a=>
  intro c h;show gk i os (if o=i then c else df i o c) < 256
  split
  ·exact a h
  ·exact a (ao h)
theorem NB(i c:Nat):df i i c=0:=xg _
theorem n3(i k:Nat):df i k 0=0:=by unfold df;rw[Vd,Vd];rfl
theorem XN{p:List Nat}(h:LB p):Ei i 0 (pm k 0 p)=df i k (Ei i 0 p):=by
 have:=IY (i:=i) (k:=k) (a:=0) (a':=0) (b:=0) h (by decide) (by decide) (by decide) (by rw[Vd];rfl)
 rwa [Vd,xg] at this
theorem DW{p:List Nat}(h:LB p):Ei i 0 (qt i 0 (pm k 0 p))=df i k (Ei i 0 (qt i 0 p))^^^Ei i 0 p:=by
 have:=S7 (i:=i) (k:=k) (a:=0) (a':=0) (b:=0) (d:=0) (d':=0) h (by decide) (by decide) (by decide) (by decide) (by decide) (by rw[Vd];rfl) (by rw[Vd];rfl)
 rwa [Vd,xg] at this
theorem cO{ks:List Nat}:∀{p:List Nat},LB p->LB (pl p ks):=by
 induction ks with
 |nil=>exact id
 |cons k ks a=>exact λh=>a (wI h (by decide))
theorem gG{ks:List Nat}:∀{p:List Nat},(pl p ks).length=p.length+ks.length:=by
 induction ks with
 |nil=>exact rfl
 |cons k ks a=>exact λ{p}=>(a (p:=pm k 0 p)).trans (by rw[HY];exact zf ..)
theorem bO{ks:List Nat}:∀{p:List Nat},i∉ks->LB p->Ei i 0 p=0->Ei i 0 (pl p ks)=0/\Ei i 0 (qt i 0 (pl p ks))=gk i ks (Ei i 0 (qt i 0 p)):=by
 induction ks with
 |nil=>exact λZ Z e=>⟨e,rfl⟩
 |cons k ks a=>
  intro p hi h e;have hk:¬k=i:=λq=>hi (q▸va ..);have q:=a (p:=pm k 0 p) (λm=>hi (pa _ m)) (wI h (by decide)) (by rw[XN h,e,n3]);refine⟨q.1,q.2.trans ?_⟩
  show _=gk i ks (if k=i then _ else _)
  rw[if_neg hk,DW h,e,Fd]
theorem LY{ks:List Nat}:∀{p:List Nat},i∈ks->ks.Nodup->LB p->Ei i 0 (pl p ks)=0/\Ei i 0 (qt i 0 (pl p ks))=gk i ks (Ei i 0 p):=by
 induction ks with
 |nil=>exact λh=>nomatch h
 |cons k ks a=>
  intro p hi nd h;have nd:=Lb.mp nd;by_cases hk:k=i
  ·have q:=bO (i:=i) (ks:=ks) (p:=pm k 0 p) (hk▸nd.1) (wI h (by decide)) (by rw[XN h,hk,NB]);refine⟨q.1,q.2.trans ?_⟩
   show _=gk i ks (if k=i then _ else _)
   rw[if_pos hk,DW h,hk,NB,Kc]
  ·have q:=a (p:=pm k 0 p) ((La.mp hi).resolve_left (qb hk)) nd.2 (wI h (by decide));refine⟨q.1,q.2.trans ?_⟩
   show _=gk i ks (if k=i then _ else _)
   rw[if_neg hk,XN h]
noncomputable def dl(i:Nat):List Nat->Nat->Nat
 |[],w=>w
 |o::os,w=>dl i os (if o≠i/\w≠0 then BC w (df i o 1) else w)
theorem w3(i o k:Nat){c:Nat}(h:c < 256):df i k (df i o c)=df i o (df i k c):=by
 unfold df;rw[Hf (Fc h _) (Fc h _),Hf (Fc h _) (Fc h _),Hf (Fc h _) (Fc h _),Hf (Fc h _) (Fc h _),aj o i,aj k i,aj k o,x3]
theorem a1q{o:Nat}{os:List Nat}:∀{c:Nat},c < 256->gk i os (df i o c)=df i o (gk i os c):=by
 induction os with
 |nil=>exact λZ=>rfl
 |cons k os a=>
  intro c h;show gk i os (if k=i then df i o c else df i k (df i o c))=df i o (gk i os (if k=i then c else df i k c))
  split
  ·exact a h
  ·rw[<- a (ao h),w3 i o k h]
theorem p3(i o:Nat){c:Nat}(h:c < 256):df i o c=Ug c (df i o 1):=by
 unfold df;rw[Rt (Fc (by decide) _) (Fc (by decide) _),Hu,Hu,cm h (by decide),mul_one]
theorem M3{o c:Nat}(h:c < 256)(hd:df i o 1≠0)(z:df i o c≠0):BC (df i o c) (df i o 1)=c:=by
 have h1:BC (df i o c) (df i o 1) < 256:=Fc (by decide) _;refine Uc λa=>JI hd (qf h1 h) (λy=>a (Mo y)) ?_;rw[Rt h1 h,cm (ao (by decide)) h1,xJ (ao h) z (ao (by decide)) hd,cm (ao (by decide)) h,p3 i o h,xg]
theorem a1M(hi:i < 255){os:List Nat}:∀{c:Nat},(∀o∈os,o < 255)->c < 256->dl i os (gk i os c)=c:=by
 induction os with
 |nil=>exact λZ Z=>rfl
 |cons o os a=>
  intro c b h;have a:=a (c:=c) (λo' hm=>b o' (pa o hm)) h;show dl i os (if o≠i/\gk i os (if o=i then c else df i o c)≠0 then BC (gk i os (if o=i then c else df i o c)) (df i o 1) else gk i os (if o=i then c else df i o c))=c
  by_cases q:o=i
  ·rw[if_neg (λz=>z.1 q),if_pos q];exact a
  ·have d0:∀{c},c < 256->df i o c=0->c=0:=λhc=>sV hi (b o (va ..)) (qb q) hc;rw[if_neg q,a1q h];by_cases z:df i o (gk i os c)=0
   ·rw[if_neg λy=>y.2 z,z];rw[d0 (dX h) z] at a;exact a
   ·rw[if_pos ⟨q,z⟩,M3 (dX h) (λe=>nomatch d0 (by decide) e) z];exact a
theorem UP{p:List Nat}:∀{a:Nat},LB p->a < 256->Ei i a p=it (p.length*i) a^^^hv i (λt=>p.getD t 0) p.length:=by
 induction p with
 |nil=>intro a _ _;show a=it (0*i) a^^^0;rw[xF,Fd];rfl
 |cons x p c=>
  intro a h b;have hf:∀j,(x::p).getD j 0 < 256:=λj=>by
   rw[ua];cases e:(x::p)[j]? with
   |none=>decide
   |some y=>exact h y (Cb e)
  show Ei i (it i a^^^x) p=it ((p.length+1)*i) a^^^hv i (λt=>(x::p).getD t 0) (p.length+1)
  rw[c h.tl (qf (Fc b i) h.hd),Hf (Fc b i) h.hd,<- ph,Np,Rb p.length 1,rB hf 1 p.length,We,Pp i p.length];have e:hv i (λt=>(x::p).getD t 0) 1=x:=by show it i 0^^^x=x;rw[Vd,Kc]
  rw[e];exact congrArg (_^^^·) (congrArg (_^^^·) (wk λj Z=>Rb 1 j▸rfl))
theorem N7{p:List Nat}:∀{a t:Nat},t < p.length->(qt k a p).getD t 0=Ei k a (p.take t):=by
 induction p with
 |nil=>exact λh=>nomatch h
 |cons x p b=>
  intro a t h;cases t with
  |zero=>rfl
  |succ t=>exact b (Xg h)
theorem ow{p:List Nat}(h:LB p)(t:Nat):LB (p.take t):=λx a=>h x (Dr a)
theorem QW{q:List Nat}(h:LB q):hv i (λt=>Ei k 1 (q.take t)) q.length=Ei i 0 (qt k 1 q):=by
 rw[UP (rI h (by decide)) (by decide),Vd,Kc,QN];exact wk λt ht=>(N7 ht).symm
theorem D0{g:Nat->Nat}(hg:∀t,g t < 256){v:Nat}(a:v < 256)(n:Nat):hv i (λt=>Ug (g t) v) n=Ug (hv i g n) v:=by
 induction n with
 |zero=>exact(Em v).symm
 |succ n b=>
  show it i (hv i (λt=>Ug (g t) v) n)^^^Ug (g n) v=Ug (it i (hv i g n)^^^g n) v
  rw[b,UA (Fc (uq hg n) i) (hg n) a,Ls (uq hg n) a]
theorem pY(p:Nat×Nat)(l:List (Nat×Nat)):Rg 0 (p::l)=p.2^^^Rg 0 l:=by
 show it (0*p.1) p.2^^^Rg 0 l=_
 rw[xF];rfl
theorem C0{g:Nat->Nat->Nat}(hg:∀k t,g k t < 256){l:List (Nat×Nat)}(h:B2 l):hv i (λt=>Rg 0 (mv (λk v=>Ug (g k t) v) l)) n=Rg 0 (mv (λk v=>Ug (hv i (g k) n) v) l):=by
 induction l with
 |nil=>exact Dw λZ Z=>rfl
 |cons p l a=>
  have hp:=h p (va ..);have hl:B2 l:=λq b=>h q (pa _ b);show _=Rg 0 ((p.1,Ug (hv i (g p.1) n) p.2)::mv (λk v=>Ug (hv i (g k) n) v) l)
  rw[pY,<- a hl,<- D0 (hg p.1) hp,<- Cx (λt=>So hp) (λt=>Du (jZ (λk v hv=>So hv) hl))];exact wk λt Z=>pY (p.1,Ug (g p.1 t) p.2) (mv (λk v=>Ug (g k t) v) l)
theorem fT{f:Nat->Nat->Nat}{v:Nat}{l:List (Nat×Nat)}(nd:(l.map (·.1)).Nodup)(hm:(i,v)∈l)(h:∀q∈l,q.1≠i->f q.1 q.2=0):Rg 0 (mv f l)=f i v:=by
 induction l with
 |nil=>exact nomatch hm
 |cons p l c=>
  have nd:=Lb.mp nd;have h':∀q∈l,q.1≠i->f q.1 q.2=0:=λq a=>h q (pa _ a);show Rg 0 ((p.1,f p.1 p.2)::mv f l)=_
  rw[pY]
  refine(La.mp hm).elim (λe=>?_) λhm=>?_
  ·rw[IA (l:=mv f l) λq a=>(Ma.mp a).elim λb z=>z.2▸h' b z.1 λd=>nd.1 (Ma.mpr ⟨b,z.1,d.trans (congrArg gp e)⟩),Fd,<- e]
  ·rw[h p (va ..) λe=>nd.1 (Ma.mpr ⟨_,hm,e.symm⟩),Kc];exact c nd.2 hm h'
theorem sT{ks:List Nat}:∀{p:List Nat},∃q,pl (1::p) ks=1::q:=by
 induction ks with
 |nil=>exact λ{p}=>⟨p,rfl⟩
 |cons k ks a=>
  intro p
  show∃q,pl ((1^^^it k 0)::pm k 1 p) ks=1::q
  rw[Vd];exact a
theorem Z0{v:Nat}(a:v < 256){os:List Nat}:∀{c:Nat},c < 256->Ug (gk i os c) v=gk i os (Ug c v):=by
 induction os with
 |nil=>exact λZ=>rfl
 |cons o os b=>
  intro c h;show Ug (gk i os (if o=i then c else df i o c)) v=gk i os (if o=i then Ug c v else df i o (Ug c v))
  split
  ·exact b h
  ·rw[b (ao h)];refine congrArg (gk i os) ?_;unfold df;rw[UA (Fc h _) (Fc h _) a,Ls h a,Ls h a]
theorem NL{l:List (Nat×Nat)}{ks:List Nat}(f:l.map (·.1)=ks)(nd:ks.Nodup)(hb:∀p∈l,p.1 < 255/\p.2 < 256){v:Nat}(hm:(i,v)∈l):
  dl i ks (hv i (λt=>an (λj=>Rg j l) t ((pl [1] ks).take (t+1))) l.length)=v:=by
 have s:B2 l:=λp hp=>(hb p hp).2;have g:∀{p},p∈l->p.1∈ks:=λh=>f▸Ma.mpr ⟨_,h,rfl⟩;have hk:∀o∈ks,o < 255:=λo y=>(Ma.mp (show o∈l.map (·.1) from f.symm▸y)).elim λp e=>e.2▸(hb p e.1).1;have hi:=g hm;have one:LB [1]:=λx u=>by rw[Ca.mp u];decide
 have d:=cO (ks:=ks) one;have len:=gG (ks:=ks) (p:=[1]);have own:∀k∈ks,Ei k 0 (pl [1] ks)=0/\Ei k 0 (qt k 0 (pl [1] ks))=gk k ks 1:=λk h=>by
  have:=LY (i:=k) h nd one;rw[show Ei k 0 [1]=1 by show it k 0^^^1=1;rw[Vd];rfl] at this;exact this
 refine(sT (ks:=ks) (p:=[])).elim λq w=>?_
 rw[w] at d len own ⊢;have n:q.length=l.length:=(bt (len.trans (Rb ..))).trans (f▸cb ..);have r1:∀k∈ks,Ei k 1 q=0:=λk h=>(VI k q).symm.trans (own k h).1;have r2:Ei i 0 (qt i 1 q)=gk i ks 1:=by
  have e:Ei i (it i 0^^^0) (qt i (it i 0^^^1) q)=_:=(own i hi).2
  rwa [Vd,xg,Kc] at e
 have z:hv i (λt=>an (λj=>Rg j l) t ((1::q).take (t+1))) l.length=hv i (λt=>Rg 0 (mv (λk v=>Ug (Ei k 1 (q.take t)) v) l)) l.length:=wk λt ht=>by
  have:=GH s 0 (p:=q.take t) (a:=1) (by decide) (ow d.tl t);rw[de,Qi (n▸uc ht),K5] at this;exact this
 rw[z,C0 (λk t=>Qs (ow d.tl t) (by decide)) s,fT (f▸nd) hm λp hp r=>?_,<- n,QW d.tl,r2,Z0 (hb _ hm).2 (by decide),mul_one]
 ·exact a1M (hk i hi) hk (hb _ hm).2
 ·rw[<- n,QW d.tl];have e:=RN (k:=p.1) (m:=i) (a:=1) (b:=1) (c:=0) d.tl (by decide) (by decide) (by decide) (by rw[n3];rfl);rw[r1 _ (g hp),r1 i hi,Kc] at e;rw[sV (hk _ (g hp)) (hk i hi) r (Qs (rI d.tl (by decide)) (by decide)) e.symm,Em]
noncomputable def sv:List Nat->(Nat->Nat)->Nat->Nat
 |[],s=>s
 |k::ks,s=>sv ks λj=>s (j+1)^^^it k (s j)
noncomputable def sk(e:Nat):List Nat->Nat->Nat
 |[],v=>v
 |k::ks,v=>sk e ks (df e k v)
theorem z7{e:Nat}{ks:List Nat}:∀{v:Nat},v < 256->sk e ks v < 256:=by
 induction ks with
 |nil=>exact id
 |cons k ks a=>exact λh=>a (ao h)
theorem a3L{e:Nat}(ks:List Nat):sk e ks 0=0:=by
 induction ks with
 |nil=>rfl
 |cons k ks a=>show sk e ks (df e k 0)=0;rw[n3];exact a
theorem A7{e:Nat}{ks:List Nat}:∀{v:Nat},e∈ks->sk e ks v=0:=by
 induction ks with
 |nil=>exact λh=>nomatch h
 |cons k ks a=>
  intro v h;by_cases q:k=e
  ·show sk e ks (df e k v)=0
   rw[q,NB];exact a3L ks
  ·exact a ((La.mp h).resolve_left (qb q))
theorem y7{e:Nat}(he:e < 255){ks:List Nat}:∀{v:Nat},(∀k∈ks,k < 255)->e∉ks->v < 256->v≠0->sk e ks v≠0:=by
 induction ks with
 |nil=>exact λZ Z Z h=>h
 |cons k ks a=>exact λhk hn hv h=>a (λk' h'=>hk k' (pa _ h')) (λq=>hn (pa _ q)) (ao hv) λq=>h (sV he (hk k (va ..)) (λz=>hn (z▸va ..)) hv q)
theorem qY(ks:List Nat):∀{l:List (Nat×Nat)},B2 l->sv ks (λi=>Rg i l)=λi=>Rg i (mv (λe v=>sk e ks v) l):=by
 induction ks with
 |nil=>exact λ{l} _=>(congrArg (λl i=>Rg i l) (List.map_id' l)).symm
 |cons k ks a=>
  intro l h;show sv ks (λj=>Rg (j+1) l^^^it k (Rg j l))=_
  rw[show(λj=>Rg (j+1) l^^^it k (Rg j l))=λj=>Rg j (mv (λe v=>df e k v) l) from funext λj=>(bx k j h).symm,a (jZ (λe v hv=>ao hv) h)];exact funext λi=>congrArg (Rg i) vg
theorem mN{ks:List Nat}:∀{s s':Nat->Nat},(∀j,j < n+ks.length->s j=s' j)->∀j,j < n->sv ks s j=sv ks s' j:=by
 induction ks with
 |nil=>exact λh j a=>h j a
 |cons k ks b=>exact λh j a=>b (λi hi=>by rw[h i (Cd hi),h (i+1) (Nat.succ_lt_succ hi)]) j a
theorem pw(r:Nat)(a b:List (Nat×Nat)):Rg r (a++b)=Rg r a^^^Rg r b:=by
 induction a with
 |nil=>exact(Kc _).symm
 |cons p a c=>
  show it (r*p.1) p.2^^^Rg r (a++b)=(it (r*p.1) p.2^^^Rg r a)^^^Rg r b
  rw[c,We]
theorem XC(r:Nat){a b:List (Nat×Nat)}(h:a.Perm b):Rg r a=Rg r b:=by
 induction h with
 |nil=>rfl
 |cons p _ c=>exact congrArg (it (r*p.1) p.2^^^·) c
 |swap p q l=>exact EF ..
 |trans _ _ h1 h2=>exact h1.trans h2
theorem SE{s s':Nat->Nat}{p:List Nat}:∀{j:Nat},(∀i,i<=j->s i=s' i)->an s j p=an s' j p:=by
 induction p with
 |nil=>exact λZ=>rfl
 |cons a p b=>
  intro j h;show Ug a (s j)^^^an s (j-1) p=Ug a (s' j)^^^an s' (j-1) p
  rw[h j (yb _),b λi hi=>h i (ka hi (Rf ..))]
theorem vE{s s':Nat->Nat}{t:Nat}(h:∀i,i < t->s i=s' i):bm s t=bm s' t:=by
 induction t with
 |zero=>rfl
 |succ t a=>
  show nX s t (bm s t)=nX s' t (bm s' t)
  rw[a λi hi=>h i (Cd hi)];unfold nX;rw[SE (s:=s) (s':=s') λi hi=>h i (MR hi)]
theorem B3{c a:List (Nat×Nat)}{b g:List Nat}(r:c.map (·.1)=b)(o:a.map (·.1)=g)(nd:(b++g).Nodup)(hb:∀p∈c++a,p.1 < 255/\p.2 < 256)(h0:∀p∈a,p.2≠0)(hn:2*a.length<=n){s:Nat->Nat}
  (u:∀j,j < n->s j=sv b (λi=>Rg i (c++a)) j):(∃s' e,∀t,t<=n->BI s' e t (bm s t))/\(bm s n).L=a.length/\∀k,k < 255->(Ei k 0 (bm s n).now=0↔k∈g):=by
 have nd:=Rn.mp nd;have hk:∀k∈b,k < 255:=λk h=>(Ma.mp (show k∈c.map (·.1) from r.symm▸h)).elim λp e=>e.2▸(hb p (qe _ e.1)).1;have hW:∀p∈a,p.1 < 255/\p.2 < 256:=λp hp=>hb p (Mc _ hp);have e:∀j,j < n->s j=Rg j (mv (λe v=>sk e b v) a):=λj m=>by
  rw[u j m,qY _ λp hp=>(hb p hp).2];show Rg j (mv (λe v=>sk e b v) (c++a))=_
  rw[show mv (λe v=>sk e b v) (c++a)=mv (λe v=>sk e b v) c++mv (λe v=>sk e b v) a from Ic,pw,IA (l:=mv (λe v=>sk e b v) c) λq w=>
   (Ma.mp w).elim λp z=>z.2▸A7 (r▸Ma.mpr ⟨p,z.1,rfl⟩),Kc]
 have d:((mv (λe v=>sk e b v) a).map (·.1)).Nodup:=by rw[wG,o];exact nd.2.1
 have f:∀p∈mv (λe v=>sk e b v) a,p.1 < 255/\p.2 < 256:=λp hp=>(Ma.mp hp).elim λq z=>z.2▸⟨(hW q z.1).1,z7 (hW q z.1).2⟩;refine⟨⟨_,_,λt ht=>(vE λj m=>e j (ya m ht))▸eR d f t⟩,?_⟩
 rw[vE e];have:=oQ (n:=n) d f (λp hp=>(Ma.mp hp).elim λq z=>z.2▸y7 (hW q z.1).1 hk (λy=>nd.2.2 _ y _ (o▸Ma.mpr ⟨q,z.1,rfl⟩) rfl) (hW q z.1).2 (h0 q z.1)) (by rw[tG];exact hn);rw[wG,tG,o] at this;exact this
noncomputable def wO(σ:List (Ba×P)):Bool:=σ.all λe=>match e.2 with
 |.addr _=>be
 |_=>a8
theorem Yn(h:wO σ=a8){x:Ba}(e:σ.lookup x=ac (.addr a)):False:=by
 have:=Aa.mp h _ (Qc e);simp at this
noncomputable abbrev fn0:Ba->List P->Option Rs:=λZ Z=>a6
noncomputable def Vn:List Int:=(gq 255 1).map Je
theorem fD:Vn.length=255:=by unfold Vn;rw[cb,Kt]
theorem uI(h:n < 255):Vn.getD n 0=((it n 1:Nat):Int):=Nu (f:=Je) (fq 255 1 n h)
theorem Lx(a b:Nat):Qh (a:Int) (b:Int)=((a % b:Nat):Int):=by
 rw[rA _ (by lia)];rfl
theorem xY{h r:Nat}(h1:h < 256)(h0:h≠0):ae Vn ((ae kj (h:Int)+(r:Int)).fmod 255)=((it r h:Nat):Int):=by
 have b:ae kj (h:Int)=((lg h:Nat):Int):=by
  unfold ae;rw[if_pos (by lia),Bb,cB h1]
 have a:(((lg h:Nat):Int)+(r:Int)).fmod 255=(((lg h+r) % 255:Nat):Int):=by
  rw[show((lg h:Nat):Int)+(r:Int)=((lg h+r:Nat):Int) by lia];exact Lx _ 255
 rw[b,a];unfold ae;rw[if_pos (by lia),Bb,uI (Bn _ (by decide)),nB (by decide),Rb,ph,Nr h1 h0]
noncomputable def bI:List Ya:=aB (fa Ee 4)
noncomputable def nv:He:=aSc (fa Ee 4)
noncomputable def T6:Ar:=aAr (fa Ee 4)
theorem md4:fa Ee 4=.FunctionDef "times" T6 bI [] a6 [] nv a6 "times" (aP (fa Ee 4)):=by kernel_rfl
theorem S6:bI=[.If (aV (fa bI 0)) [.Return (ac (aV (fa (aB (fa bI 0)) 0))) (aP (fa (aB (fa bI 0)) 0))] [] (aP (fa bI 0)),.Return (ac (aV (fa bI 1))) (aP (fa bI 1))]:=by kernel_rfl
noncomputable def fY(a b:Nat):List (Ba×P):=[("a",.int a),("b",.int b),("powers",.il Vn),("logs",.il kj)]
theorem Q6(a b:Nat):∃c,eS (ev uB fn0 9 nv.names (fY a b)) (aV (fa bI 0))=ac (decide ((a:Int)=0)||decide ((b:Int)=0),c)/\c:=by
 refine⟨_,rfl,?_⟩
 simp only[true_and,and_true];exact λZ=>trivial
theorem P6(a b:Nat):ev uB fn0 9 nv.names (fY a b) (aV (fa (aB (fa bI 0)) 0))=ac ⟨.int 0,a8,True⟩:=by rfl
theorem dm(h:n<=256):n<=2 ^ 24:=ka h (by decide)
theorem EU{l:List Int}(h:k < l.length)(h2:l.length<=256):-(l.length:Int)<=(k:Int)/\(k:Int) < l.length/\l.length<=2 ^ 24:=⟨Ph (Lo (Ja _)) (Ja _),jc.mpr h,dm h2⟩
theorem sJ(a:Int):-(Vn.length:Int)<=a.fmod 255/\a.fmod 255 < Vn.length/\Vn.length<=2 ^ 24:=by
 rw[fD];exact⟨Ph (by decide) (bf a (by decide)),lh a (by decide),by decide⟩
theorem xx{a:Nat}(h:a < 256):-(kj.length:Int)<=(a:Int)/\(a:Int) < kj.length/\kj.length<=2 ^ 24:=EU (rq▸h) (rq▸by decide)
theorem NT:(255:Int)≠0:=by decide
theorem TN(h:k < 255):ae Vn (k:Int)=((it k 1:Nat):Int):=by
 unfold ae;rw[if_pos (Ja _),Bb,uI h]
theorem O6(a b:Nat):∃c,ev uB fn0 9 nv.names (fY a b) (aV (fa bI 1))=ac ⟨.int (ae Vn ((ae kj a+ae kj b).fmod 255)),a8,c⟩/\(a < 256->b < 256->c):=by
 refine⟨_,rfl,λh0 h1=>?_⟩
 simp only[true_and,and_true];exact⟨⟨⟨xx h0,xx h1⟩,NT⟩,sJ _⟩
theorem Cw{a:Nat}(h:a < 256):ae kj (a:Int)=((lg a:Nat):Int):=by
 unfold ae;rw[if_pos (Ja a),Bb,cB h]
theorem eY{a b:Nat}(c:a < 256)(hb:b < 256)(e:a≠0)(d:b≠0):ae Vn ((ae kj a+ae kj b).fmod 255)=((Ug a b:Nat):Int):=by
 rw[Cw c,Cw hb,show((lg a:Nat):Int)+(lg b:Nat)=((lg a+lg b:Nat):Int) from rfl,show((lg a+lg b:Nat):Int).fmod 255=(((lg a+lg b) % 255:Nat):Int) from Lx _ 255];rw[TN (Bn _ (by decide)),nB (by decide),ph,Nr hb d,vn e]
theorem OF(g:GA N A)(hsc:ν.scope=nv){a b:Nat}(x:St (GW w) ν ["powers","logs"] (fY a b) δ ς K s)(n:a < 256)(hb:b < 256):
  wpAny (ja PP w) A (Oc bI ν) (λf s'=>∃v,f=.ret v/\Pf ς (.int (Ug a b:Nat)) be v s') Hc s:=by
 have o:∀y,ν.kindOf y=nv.names.lookup y:=λy=>by unfold Md;rw[hsc]
 have so:uj nv.names ν:=⟨λx e=>by rw[o];exact e,λx e=>by rw[o];exact e⟩;have d:∀{i:Int} {fr:Bool} {v:Value} {j s':aa},Kp ς j->Pf j (.int i) fr v s'->Pf ς (.int i) be v s':=λk c=>⟨k.trans' c.keeps,c.val,λh=>nomatch h⟩;refine Oj S6 ?_
 refine(Q6 a b).elim λc q=>?_
 by_cases h0:a=0\/b=0
 ·have hz:Ug a b=0:=h0.elim (λe=>by rw[e,Em]) λe=>by rw[e,rv]
  rw[hz];refine wpAny_execs_cons (HP g so (tm λf a e=>Yn rfl e) x q.1 q.2 (λZ s1 u l=>?_) λe=>?_)
  ·exact wpAny_execs_cons (dG g so (tm λf a e=>Yn rfl e) l (P6 a b) trivial λv t c=>⟨v,rfl,d l.kp c⟩)
  ·exfalso
   have e:=Vl.mp e;exact h0.elim (λz=>of_decide_eq_false e.1 (by rw[z];rfl)) λz=>of_decide_eq_false e.2 (by rw[z];rfl)
 ·have r:a≠0:=λe=>h0 (.inl e);have p:b≠0:=λe=>h0 (.inr e);refine zb (R:=λs'=>St (GW w) ν ["powers","logs"] (fY a b) δ ς K s') (HP g so (tm λf a e=>Yn rfl e) x q.1 q.2 (λe=>?_) λZ s1 u l=>Ef ⟨rfl,l⟩) λs1 l=>?_
  ·exfalso
   exact(ft.mp e).elim (λz=>r (by have:=of_decide_eq_true z;lia)) λz=>p (by have:=of_decide_eq_true z;lia)
  ·refine(O6 a b).elim λB m=>?_
   have e:=m.1;rw[eY n hb r p] at e;exact wpAny_execs_cons (dG g so (tm λf a e=>Yn rfl e) l e (m.2 n hb) λv t c=>⟨v,rfl,d l.kp c⟩)
noncomputable def a3C:(ps:List P)->Option {r:Int×Int // ps=[.int r.1,.int r.2]}
 |.int a::ps=>match ps with
  |[.int b]=>ac ⟨(a,b),rfl⟩
  |_=>a6
 |_=>a6
noncomputable abbrev tmV(a b:Int):Rs:=⟨.int (Ug a.toNat b.toNat:Nat),be,(0<=a/\a < 256)/\0<=b/\b < 256⟩
noncomputable def X1:Ba->List P->Option Rs:=λf ps=>bif f==("times":Ba) then (a3C ps).bind λr=>ac (tmV r.1.1 r.1.2) else a6
@[elab_as_elim] theorem a1u{M:Ba->List P->Rs->Prop}{f:Ba}{ps:List P}{r:Rs}(h:X1 f ps=ac r)(k:∀a b,M "times" [.int a,.int b] (tmV a b)):M f ps r:=
 (OK.bif λe=>OK.bind λx Z=>OK.some (by obtain ⟨x,rfl⟩:=x;rw[eq_of_beq e];exact k x.1 x.2):OK (X1 f ps) (M f ps)) r h
noncomputable abbrev R6(w:sa)(ν:Al)(q:Ba)(a:Value)(c':ma)(doc:Value):Qm:=fdC "times" q T6 bI nv Kd (jf ν.cells nv.names []) a .none ((OT w "__name__").getD .none) (.ref c') doc
def Ag(w:sa)(ν:Al)(K:ma->Jb->Prop)(f:ma):Prop:=
 ∃q a c' doc oc,K f {cls:=.type "function",data:=.func (R6 w ν q a c' doc)}/\K c' oc/\∀h:Xb,h.get? c'=ac oc->h.CodeRec (.ref c') q
theorem Ag.more{K':ma->Jb->Prop}{f:ma}(x:Ag w ν K f)(h:∀b o,K b o->K' b o):Ag w ν K' f:=
 x.elim λq x=>x.elim λa x=>x.elim λc' x=>x.elim λdoc x=>x.elim λoc x=>⟨q,a,c',doc,oc,h _ _ x.1,h _ _ x.2.1,x.2.2⟩
theorem aN:T6.kwonlyargs=[]/\T6.kw_defaults=[]/\T6.defaults=[]:=⟨by kernel_rfl,by kernel_rfl,by kernel_rfl⟩
theorem St.iP(x:St (GW w) ν rd σ δ ς K s){y:Ba}(e:σ.lookup y=ac (.il ns))(hk:ν.kindOf y=ac .cell):∃c,ν.cells.lookup y=ac c/\s.heap.IsCell c (ac (.ref (δ y))):=by
 refine(x.list e).elim λa Z=>?_
 rcases a with ⟨k,_⟩|⟨_,c,d,b⟩
 ·rw[hk] at k;exact nomatch k
 ·exact⟨c,d,b⟩
theorem St.apN(x:St (GW w) ν rd σ δ ς K s){I:ma}(h:s.heap.get? I=a6):ν.locals≠I/\(∀y c,ν.cells.lookup y=ac c->c≠I)/\∀y ns,σ.lookup y=ac (.il ns)->δ y≠I:=by
 have a:=x.ap h;exact⟨a.loc,a.cel,λy ns e=>(x.list e).2.elim λvs q=>q.elim λm q=>dh q.1 h⟩
theorem aI{a b:Nat}(d:σ.lookup ("powers":Ba)=ac (.il Vn))(c:σ.lookup ("logs":Ba)=ac (.il kj)){y:Ba}(h:(fY a b).lookup y=ac (.il ns)):σ.lookup y=ac (.il ns):=
 (Gd h).elim (λq=>nomatch q.2) λh=>(Gd h.2).elim (λq=>nomatch q.2) λh=>(Gd h.2).elim (λq=>by rw[q.1,<- q.2];exact d) λh=>by rw[(jF h.2).1,<- (jF h.2).2];exact c
theorem fN(F0:Fk w ς.heap)(hsc:ν.scope.names=To)(x:St (GW w) ν rd σ δ ς K s){f:ma}(hf:Ag w ν K f)(T:σ.lookup ("powers":Ba)=ac (.il Vn))(Q:σ.lookup ("logs":Ba)=ac (.il kj))
  (ho:∀g a,σ.lookup g=ac (.addr a)->a=f):Ek PP w (N+2) X1 σ s:=by
 obtain ⟨q,ct,c',doc,oc,Y,k2,k3⟩:=hf;have ek:∀y,ν.kindOf y=To.lookup y:=λy=>by unfold Md;rw[hsc]
 refine⟨λg a e=>?_,λg a ps r e hr hc A s' vs gA k n=>?_⟩
 ·obtain rfl:=ho g a e;exact⟨_,_,x.ks _ _ Y,rfl⟩
 ·obtain rfl:=ho g a e
  revert hc n k gA vs s' A
  refine a1u hr λa0 b0 (hc:(0<=a0/\a0 < 256)/\0<=b0/\b0 < 256) A s' vs gA k n=>?_;obtain ⟨C,rfl⟩:=Ke hc.1.1;obtain ⟨B,rfl⟩:=Ke hc.2.1;obtain ⟨v,u,rfl,⟨t,rfl⟩,⟨t',rfl⟩⟩:=qr.two n;have i:=x.step k;have j:∀z c,(jf ν.cells nv.names []).lookup z=ac c->ν.cells.lookup z=ac c:=λz c=>jm nv.names [] z c (λy b M=>i.cells y.1 ((by
   have:nv.names.all (λy=>y.2 != .free||To.lookup y.1==ac .cell)=a8:=by kernel_rfl
   have:=Aa.mp this y b;rw[M] at this;exact .inl ((ek _).trans (beq_iff_eq.mp this))))) (λc e=>nomatch e)
  have J:∀(y:Ba) (ns:List Int),σ.lookup y=ac (.il ns)->To.lookup y=ac .cell->(y,Nc)∈nv.names->∃c,(jf ν.cells nv.names []).lookup y=ac c/\s'.heap.IsCell c (ac (.ref (δ y))):=by
   intro y ns l b hm;obtain ⟨c,c1,c2⟩:=i.iP l ((ek y).trans b)
   refine(Ud.mp (bl (cells:=ν.cells) nv.names [] y (.inl hm))).elim λd hd=>?_
   have:=j y d hd;rw[c1] at this;obtain rfl:=xa this;exact⟨_,hd,c2⟩
  have I:∀y:Ba,nv.names.contains (y,Nc)=a8->(y,Nc)∈nv.names:=λy h=>Ua.mp h;refine Wz (N:=N) (G:=GW w) (rd:=["powers","logs"]) (σ:=fY C B) (δ:=δ) (binds:=[("a",.int C t),("b",.int B t')]) (body:=bI) gA (sf ((F0.kp i.kp))) (i.ks _ _ Y) rfl (k3 _ (i.ks _ _ k2)) rfl (Ih (by kernel_rfl)) (by kernel_rfl) (by kernel_rfl) (by kernel_rfl) rfl rfl
   (λy b=>bne_iff_ne.mp (Aa.mp (show nv.names.all (λy=>y.2 != .cell)=a8 by kernel_rfl) y b))
   (λy b=>(La.mp b).elim (λq=>by rw[q];kernel_rfl) λb=>by rw[Ca.mp b];kernel_rfl)
   (λy b=>bl nv.names [] y (.inl (Qc b)))
   (λy z c h1 h2=>i.inj y z c (j _ _ h1) (j _ _ h2)) (λy c h1=>i.ce y c (j _ _ h1)) ?_ ?_ λb0J V E g' D=>?_
  ·have L:∀(y:Ba) (ns:List Int),σ.lookup y=ac (.il ns)->To.lookup y=ac .cell->nv.names.contains (y,Nc)=a8->nv.names.lookup y=ac .free->(["powers","logs"]:List Ba).contains y=a8->
     ∃v,VR s'.heap (.il ns) v/\(∀ms,P.il ns=.il ms->v=.ref (δ y)/\y∈(["powers","logs"]:List Ba))/\((nv.names.lookup y=ac .local/\([("a",.int C t),("b",.int B t')]:List (Ba×Value)).reverse.lookup y=ac v)\/(nv.names.lookup y=ac .free/\∃c,(jf ν.cells nv.names []).lookup y=ac c/\s'.heap.IsCell c (ac v))):=
    λy ns e h1 h2 h3 h4=>(i.list e).elim λZ q=>q.elim λvs q=>q.elim λm q=>⟨_,⟨_,vs,m,rfl,q⟩,λZ Z=>⟨rfl,Ua.mp h4⟩,.inr ⟨h3,J y ns e h1 (I _ h2)⟩⟩
   exact λy p l=>(Gd l).elim (λq=>by rw[q.1,<- q.2];exact⟨_,⟨t,rfl⟩,nofun,.inl ⟨by kernel_rfl,rfl⟩⟩) λl=>(Gd l.2).elim (λq=>by rw[q.1,<- q.2];exact⟨_,⟨t',rfl⟩,nofun,.inl ⟨by kernel_rfl,rfl⟩⟩) λl=>(Gd l.2).elim (λq=>by rw[q.1,<- q.2];exact L _ _ T (by kernel_rfl) (by kernel_rfl) (by kernel_rfl) (by kernel_rfl)) λl=>
    have q:=jF l.2
    by rw[q.1,<- q.2];exact L _ _ Q (by kernel_rfl) (by kernel_rfl) (by kernel_rfl) (by kernel_rfl)
  ·exact λy z ns ms H O h1 h2=>i.apart y z ns ms H O (aI T Q h1) (aI T Q h2)
  ·refine Ig (OF g' E D (by lia) (by lia)) (λfl s2 h2=>?_);obtain ⟨v,hv,o⟩:=h2;exact⟨v,hv,o⟩
set_option tactic.hygienic true in
theorem pL(hh:A.handled=a6)(F:Fk w s.heap)(hsc:ν.scope.names=To)(x:St (GW w) ν rd σ δ ς K s)(i:ν.code=.ref 1977)(d:ve s.heap 1977 1975 #[])(hK:∀o,¬K 1975 o){Q:Ff->aa->Prop}
  (hQ:∀f K' v D s',St (GW w) ν rd (("times",.addr f)::σ) v ς K' s'->(∀b o,K b o->K' b o)->K' 1975 {cls:=.none,data:=.fields D}->Ag w ν K' f->Q .next s'):
  wpAny (ja PP w) A (Cg (fa Ee 4) ν) Q Hc s:=by
 have I:∀y,ν.kindOf y=To.lookup y:=λy=>by unfold Md;rw[hsc]
 rw[md4,exec_def,defaultsOf_eq,aN.2.1,aN.2.2];refine Kb (Fb (Kb (Ta ?_)));refine Kb (Ga (a:=[]) (by kernel_rfl) ?_);refine Kb (Ta (Ga (a:=[]) (by kernel_rfl) ?_));refine Ta ?_;refine Kb (Ga (a:=[]) (by kernel_rfl) ?_);have gs:=sf F;refine Lr (s:=s) (mg:=OT w) (c:=1977) (Pl:=1975) (ps:=#[]) aN.1 (qg (scope:=nv) λy Y E=>x.cells y.1 (by
   have:nv.names.all (λy=>y.2 != .free||To.lookup y.1==ac .cell)=a8:=by kernel_rfl
   have:=Aa.mp this y Y;rw[E] at this;exact .inl ((I _).trans (by simpa using this)))) (by rw[x.eg];exact gs.g) i d rfl (by rw[x.eg];decide) (bAt F (by decide))
  λdV J c' doc h' tk hct u hx n H m hrec htb=>?_
 obtain rfl:=u.elim And.right λq=>absurd rfl q.1;have G:=hrec;refine ue λhC=>?_;obtain ⟨c2,oc,C,V,ec,g2,d2,T⟩:=hrec;refine hC ?_;obtain rfl:=cg ec;rw[x.eg];generalize r:({cls:=.type "function",data:=.func (R6 w ν (Wr ν "times" "times") J c' doc)}:Jb)=B;have up:∀{z:ma} {o:Jb},h'.get? z=ac o->(h'.push B).get? z=ac o:=λe=>ea _ e;have hf:(h'.push B).get? h'.objs.size=ac B:=qa _ (by rw[<- r];rfl);have fr:∀{z:ma},s.heap.objs.size<=z->s.heap.get? z=a6:=λh=>Qe h;have t:s.heap.objs.size<=h'.objs.size:=ka n (uc H);have l:=x.apF d.tab rfl;have k:=x.apN (fr n);have j:=x.apN (fr t);have O:=x.other (h':=h'.push B) (tk:=tk) d.tab rfl hK λb o hb e=>up (hx b o hb e);have N:=O.gC (up m.tab) l.1 l.2.1 l.2.2;have x3:=N.gC (up g2) k.1 k.2.1 k.2.2;have M:=x3.gC hf j.1 j.2.1 j.2.2;refine Kb (Fb (Kb (Bo (Ig (M.bind (y:="times") (p:=.addr h'.objs.size) (a:=0) (.inr ((I _).trans (by kernel_rfl))) rfl nofun) (λ_ s' L=>la ?_)))));refine hQ _ _ _ _ s' L (λb o q=>.inl (.inl (.inl q))) (.inl (.inl (.inr ⟨rfl,rfl⟩))) ⟨_,J,c',doc,oc,.inr ⟨rfl,r⟩,.inl (.inr ⟨rfl,rfl⟩),λh e=>⟨_,_,C,V,rfl,e,d2,T⟩⟩
noncomputable def bs(f:ma):List (Ba×P):=[("times",.addr f),("powers",.il Vn),("logs",.il kj)]
noncomputable def FW(σ:List (Ba×P)):Bool:=σ.all λe=>(match e.2 with
 |.addr _=>be
 |_=>a8)&&!(e.1==("powers":Ba))&&!(e.1==("logs":Ba))
theorem jO(h:FW σ=a8):(∀x a,(σ++τ).lookup x=ac (.addr a)->τ.lookup x=ac (.addr a))/\(σ++τ).lookup ("powers":Ba)=τ.lookup ("powers":Ba)/\(σ++τ).lookup ("logs":Ba)=τ.lookup ("logs":Ba):=by
 induction σ with
 |nil=>exact⟨λZ Z e=>e,rfl,rfl⟩
 |cons e σ b=>
  obtain ⟨x,p⟩:=e;have h:=wa.mp (xo.symm.trans h);have b:=b h.2;have h1:=wa.mp h.1;have h2:=wa.mp h1.1;have c:∀{y:Ba},(!(x==y))=a8->(((x,p)::σ)++τ).lookup y=(σ++τ).lookup y:=λ{y} q=>by
   rw[xj,Ka];have:(y==x)=be:=by
    rw[Ge] at q;exact beq_eq_false_iff_ne.mpr λz=>beq_eq_false_iff_ne.mp q z.symm
   rw[this]
  refine⟨λy a e=>b.1 y a ?_,(c h2.2).trans b.2.1,(c h1.2).trans b.2.2⟩
  rw[xj] at e
  refine(Gd e).elim (λq=>?_) λq=>q.2
  rw[q.2] at h2;exact nomatch h2.1
noncomputable def fU:List Ba:=["powers","logs","power","place","times","spots","rests","root","whole","word","line","now","old","size","gap","fault","turn","off","back","factor","grown","found","part","places","product","amounts","mended","other"]
theorem nK:fU.all (λx=>To.lookup x==ac .local||To.lookup x==ac .cell)=a8:=by kernel_rfl
noncomputable def nq:List Ba:=["powers","logs","power","place","times","spots","rests","root","whole","word","line","now","old","size","gap","fault","turn","off","back","factor","grown"]
noncomputable def DZ:List Ba:=["place","whole","part","found","product","turn","back","other","mended","places","amounts"]
def okM(f:ma)(σ:List (Ba×P)):Prop:=FW (σ.take (σ.length-3))=a8/\σ.drop (σ.length-3)=bs f
structure MC(w:sa)(A:Wc)(N:Nat)(ν:Al)(ς:aa):Prop where
 c:WC w A (N+2) ν To fU
 F0:Fk w ς.heap
section
variable{as:List Ba}{f:ma}{Q:Ff->aa->Prop}{rest:List Ya}
theorem lF(h:wO σ=a8):FF w N fn0 ν rd σ ς K:=λZ Z Z=>tm λf a e=>Yn h e
theorem adI(h:P.addr a=.addr b):a=b:=congrArg (λp=>match p with
 |.addr a=>a
 |_=>0) h
theorem MC.ff(m:MC w A N ν ς)(hf:Ag w ν K f)(h:okM f σ):FF w (N+2) X1 ν rd σ ς K:=λZ Z x=>by
 have q:=jO (τ:=bs f) h.1;rw[<- h.2,Mq] at q;refine fN m.F0 m.c.hsc x hf (q.2.1.trans (congrArg _ h.2)) (q.2.2.trans (congrArg _ h.2)) λg a e=>?_;have z:(bs f).lookup g=ac (.addr a):=h.2▸q.1 g a e
 exact(Gd z).elim (λz=>(adI z.2).symm) λz=>(Gd z.2).elim (λz=>nomatch z.2) λz=>nomatch (jF z.2).2
theorem mA(m:MC w A N ν ς)(hf:Ag w ν K f)(x:SP (GW w) ν rd σ δ as ς K s){y:Ba}{st:Ya}{fr:Bool}{hc:Prop}(e:ev uB X1 9 To σ (aV st)=ac ⟨p,fr,hc⟩)(h:hc)(o:okM f σ)
  (b:FP as fU y=a8) (a:(nil p||fr)=a8) (d:Lf (aV st) (ac (.Name y (aT st).pos)) (aP st).line ν=pure be)
  (k:∀s',SP (GW w) ν rd ((y,p)::σ) δ as ς K s'->wpAny (ja PP w) A (Oc rest ν) Q Hc s'):wpAny (ja PP w) A (Oc (rh y st::rest) ν) Q Hc s:=zb (sA m.c (m.ff hf o) x e h b a d) k
end
theorem ku(h:n<=255):Sm (n:Int):=⟨Af (by decide) (Ja n),kh (Xf.mpr h) (by decide)⟩
theorem Y3{P:Prop}:Sm 2\/P:=.inl ⟨by decide,by decide⟩
theorem CN(a:Int)(n:Nat):yg a (a+n) 1=(Ea n).map λ(i:Nat)=>a+i:=by
 delta yg;rw[rangeSize_nat,show(a+n-a).toNat=n by rw[Tp,jk,Bb],Bb];exact Wf λi Z=>by rw[SJ]
theorem dx(n:Nat):yg 0 n 1=(Ea n).map λ(i:Nat)=>(i:Int):=by
 have:=CN 0 n;rw[Rp] at this;exact this.trans (Wf λi Z=>Rp _)
theorem ZA{x:Int}{f:Nat->Int}(h:((Ea n).map f)[i]?=ac x):x=f i/\i < n:=by
 have hi:=(xb.mp h).1;rw[cb,Ac] at hi;rw[ef,fi hi] at h;exact⟨(xa h).symm,hi⟩
theorem jn{x:Int}(h:(yg 0 n 1)[i]?=ac x):x=i/\i < n:=ZA (dx n▸h)
theorem ql(n:Nat):(yg 0 n 1).length=n:=by rw[dx,cb,Ac]
theorem vQ(n:Nat):(Qa n [(0:Int)]).flatten=Qa n 0:=by
 induction n with
 |zero=>rfl
 |succ n a=>rw[Hj,Kk,a];rfl
noncomputable def EY(n:Nat):List Int:=(Ea n).map λk=>((it k 1:Nat):Int)
noncomputable def lgT:Nat->List Int
 |0=>Qa 256 0
 |n+1=>(lgT n).set (it n 1) n
theorem kT:EY 255=Vn:=by decide +kernel
theorem wU:lgT 255=kj:=by decide +kernel
theorem UN(n:Nat):EY (n+1)=EY n++[((it n 1:Nat):Int)]:=by unfold EY;rw[Li,Ic];rfl
theorem vU(n:Nat):(lgT n).length=256:=by
 induction n with
 |zero=>exact Zd
 |succ n a=>exact ag.trans a
theorem LX{p:Nat}:(if decide ((p:Int) < 128)=a8 then 2*(p:Int) else Jc (2*(p:Int)) 285)=((xt p:Nat):Int):=by
 delta xt;by_cases q:p < 128
 ·have d:decide ((p:Int) < 128)=a8:=decide_eq_true (jc.mpr q);rw[if_pos d,if_pos q];rfl
 ·have d:¬decide ((p:Int) < 128)=a8:=λh=>q (jc.mp (of_decide_eq_true h));rw[if_neg d,if_neg q];exact xi (2*p) 285
noncomputable def B0(W kn:List Int)(m:Int):List (Ba×P):=[("words",.il W),("checks",.int m),("known",.il kn)]
noncomputable def B1(a:Int)(b pl W kn:List Int)(m:Int):List (Ba×P):=("power",.int a)::("logs",.il b)::("powers",.il pl)::B0 W kn m
section
variable{Q:Ff->aa->Prop}{rest:List Ya}
theorem mK(c:WC w A N ν To fU)(r1:rd.contains "powers"=be)(r2:rd.contains "logs"=be){W kn:List Int}{m:Int}(x:SP (GW w) ν rd (B0 W kn m) δ nq ς K s)
  (k:∀s',SP (GW w) ν rd (("logs",.il kj)::("powers",.il Vn)::B0 W kn m) δ nq ς K s'->wpAny (ja PP w) A (Oc rest ν) Q Hc s'):
  wpAny (ja PP w) A (Oc (fa Ee 0::fa Ee 1::fa Ee 2::fa Ee 3::rest) ν) Q Hc s:=by
 rw[md0,md1,md2,md3];refine zb (sA c (lF rfl) x rfl ⟨tr,by decide⟩ rfl rfl (by kernel_rfl)) λs1 j=>?_;refine zb (sA c (lF rfl) j (DQ rfl (vQ _)) ⟨⟨⟨tt,by decide⟩,tr⟩,by decide⟩ rfl rfl (by kernel_rfl)) λs2 h=>?_;refine zb (sA c (lF rfl) h rfl tr rfl rfl (by kernel_rfl)) λp x3=>?_;refine zb (sR c (lF rfl) x3 rfl ⟨tt,ku (yb 255)⟩ rfl rfl (λi=>B1 (it i 1:Nat) (lgT i) (EY i) W kn m) rfl λi a K' d s' q Z l u k'=>?_) λo b=>k o ?_
 ·refine(jn (n:=255) q).elim λe hi=>?_
  subst e;have hl:=vU i;have hp:it i 1 < 256:=Fc (by decide) i;refine Oj T8 ?_;refine zb (sP c (lF rfl) l (y:="powers") rfl rfl tr (dm (by unfold EY;rw[cb,Ac];exact uc (Cd hi))) r1 rfl rfl rfl (by kernel_rfl)) λp x3=>?_;rw[<- UN] at x3;refine zb (sS c (lF rfl) x3 (y:="logs") rfl rfl tr rfl tr (Ja _) (jc.mpr (hl▸hp)) (hl▸by decide) r2 rfl rfl (by kernel_rfl)) λt g=>?_;refine zb (sA c (lF rfl) g (Us rfl LX) ⟨⟨tt,tr⟩,λZ=>⟨tt,Y3⟩,λZ=>⟨⟨⟨tt,Y3⟩,tr⟩,tr⟩⟩ rfl rfl (by kernel_rfl)) λr f=>?_;exact mE k' f [0,1,2] 7 rfl rfl
 ·rw[show(yg 0 255 1).length=255 from ql 255] at b;have e:=b.pk (τ:=("logs",.il (lgT 255))::("powers",.il (EY 255))::B0 W kn m) [1,2] 3 rfl rfl;rw[wU,kT] at e;exact e
end
noncomputable def zl(l:List Nat):List Int:=l.map Je
theorem Vp(l:List Nat)(i:Nat):ae (zl l) (i:Int)=((l.getD i 0:Nat):Int):=by
 unfold ae zl;rw[if_pos (Ja i),Bb,ua,ef,ua];cases l[i]? <;> rfl
theorem te(l:List Nat):(zl l).length=l.length:=cb _
theorem Ou{α:Type}{l:List α}{a b:α}(h:l[i]?=ac a):l.getD i b=a:=by rw[ua,h];rfl
theorem getD_mem{l:List Nat}(h:i < l.length):l.getD i 0∈l:=by rw[Ou (Sa h)];exact Ll h
theorem Au{l:List Nat}{a:Int}(h:(zl l)[i]?=ac a):a=(l.getD i 0:Nat)/\i < l.length:=by
 refine⟨?_,te l▸(xb.mp h).1⟩
 rw[<- Vp];unfold ae;rw[if_pos (Ja i),Bb,Ou h]
theorem jw(l:List Nat)(a:Nat):zl l++[(a:Int)]=zl (l++[a]):=by unfold zl;rw[Ic];rfl
theorem IX(l:List Nat)(k a:Nat):(zl l).set k (a:Int)=zl (l.set k a):=(ZE ..).symm
theorem xA(l:List Nat){t:Nat}(h:k<=t):ae (zl l) ((t:Int)-(k:Int))=((l.getD (t-k) 0:Nat):Int):=by rw[<- fh h];exact Vp l _
theorem jB{l:List Nat}(h:k < l.length)(h2:l.length<=256):-((zl l).length:Int)<=(k:Int)/\(k:Int) < (zl l).length/\(zl l).length<=2 ^ 24:=EU ((te l).symm▸h) ((te l).symm▸h2)
theorem a0C{l:List Nat}{t:Nat}(h:k<=t)(h1:t < l.length)(h2:l.length<=256):-((zl l).length:Int)<=(t:Int)-(k:Int)/\(t:Int)-(k:Int) < (zl l).length/\(zl l).length<=2 ^ 24:=by
 rw[<- fh h];exact jB (jd (Rf ..) h1) h2
theorem NI{f:Nat->Nat}{r:Nat}(h:r < n):((Ea n).map f).getD r 0=f r:=Ou (by rw[ef,fi h];rfl)
theorem uk{α:Type}{f:Nat->α}:((Ea n).map f).length=n:=(cb _).trans Ac
theorem VA{α:Type}(f:Nat->α)(n:Nat):(Ea n).map f++[f n]=(Ea (n+1)).map f:=by rw[Li,Ic];rfl
theorem DO{f:Nat->Nat}(h:∀i,f i < 256):LB ((Ea n).map f):=λx a=>(Ma.mp a).elim λi q=>q.2▸h i
theorem Wo{l:List Nat}(h:LB l)(k:Nat):l.getD k 0 < 256:=by
 rw[ua];cases e:l[k]? with
 |none=>decide
 |some a=>exact h a (Cb e)
structure MZ where
 f:ma
 W:List Int
 kn:List Nat
 m:Nat
noncomputable def lI(n:Nat):List Nat:=(Ea n).map λp=>it (n-1-p) 1
noncomputable def pI(W:List Int)(i:Nat):List Nat:=(Ea i).map λr=>hv r (nN W) W.length
theorem sY{p:Nat}(h:p < n):(lI n).getD p 0=it (n-1-p) 1:=NI h
theorem jI(n:Nat):(lI n).length=n:=uk
theorem LA(W:List Int)(i:Nat):(pI W i).length=i:=uk
noncomputable def BK(z:MZ):List (Ba×P):=("words",.il z.W)::("known",.il (zl z.kn))::("checks",.int z.m)::bs z.f
noncomputable def BT(z:MZ):List (Ba×P):=("spots",.il (zl (lI z.W.length)))::BK z
noncomputable def BR(z:MZ)(i:Nat):List (Ba×P):=("rests",.il (zl (pI z.W i)))::BT z
section
variable{Q:Ff->aa->Prop}{rest:List Ya}
noncomputable abbrev AW:List Ba:=["words","known"]
theorem HO(h:n<=255):((yg 0 (n:Int) 1).map λb=>ae Vn ((n:Int)-1-b))=zl (lI n):=by
 rw[dx];unfold zl lI;rw[vg,vg];refine Wf λi hi=>?_;have hi:=zc.mp hi;have h1:1<=n:=ka (Ri ..) hi;show ae Vn ((n:Int)-(1:Nat)-(i:Int))=_
 rw[<- fh h1,<- fh (sj hi),TN (jd (Rf ..) (ya (yM h1 Ey) h))];rfl
theorem ZT(m:MC w A N ν ς){z:MZ}(hf:Ag w ν K z.f)(h:z.W.length<=255)(x:SP (GW w) ν rd (BK z) δ nq ς K s)
  (k:∀s',SP (GW w) ν rd (BR z 0) δ nq ς K s'->wpAny (ja PP w) A (Oc rest ν) Q Hc s'):wpAny (ja PP w) A (Oc (fa Ee 5::fa Ee 6::rest) ν) Q Hc s:=by
 rw[md5,md6];refine mA m hf x (DQ rfl (HO h)) ⟨⟨⟨⟨tt,dm (Xa h)⟩,tr⟩,ku h⟩,ql _▸dm (Xa h),λb hb=>?_⟩ ⟨rfl,rfl⟩ rfl rfl ?_ λs1 a=>?_
 ·rw[dx] at hb
  refine(Ma.mp hb).elim λi q=>?_
  have hi:=zc.mp q.1;rw[<- q.2];have pl:=fD;exact⟨⟨tr,⟨⟨⟨⟨tt,dm (Xa h)⟩,tr⟩,tr⟩,tr⟩,tr⟩,by lia,by lia,by lia⟩
 ·show(pure (ν.blockKind==.function&&ν.kindOf "spots"==ac .local&&(aT (fa Ee 5)).pos.line==(aV (fa Ee 5)).pos.line&&!((Hw (aV (fa Ee 5))).names.any λ(m,k)=>m==("spots":Ba)&&(k==.local||k==.cell))):xc Bool)=pure be
  rw[m.c.hbk,m.c.ek]
  kernel_rfl
 ·exact mA m hf a rfl ⟨tr,by decide⟩ ⟨rfl,rfl⟩ rfl rfl (by kernel_rfl) k
theorem KO(m:MC w A N ν ς){z:MZ}(hf:Ag w ν K z.f)(hW:dj z.W)(hm:z.m<=255)(x:SP (GW w) ν AW (BR z 0) δ nq ς K s)
  (k:∀s',SP (GW w) ν AW (BR z z.m) δ nq ς K s'->wpAny (ja PP w) A (Oc rest ν) Q Hc s'):
  wpAny (ja PP w) A (Oc (fa Ee 7::rest) ν) Q Hc s:=by
 have nl:=Qt hW;rw[md7];refine zb (sR m.c (m.ff hf ⟨rfl,rfl⟩) x rfl ⟨tt,ku hm⟩ rfl rfl (BR z) rfl λi a K' h s' l hk g o k'=>?_) λs' g=>k s' (ql z.m▸g)
 refine(jn l).elim λe hi=>?_
 subst e;have hf:=hf.more hk;refine Oj S8 ?_;refine mA m hf g rfl tr ⟨rfl,rfl⟩ rfl rfl (by kernel_rfl) λs1 b=>?_;refine zb (sN m.c b (z:="words") rfl rfl rfl rfl rfl (λj=>("whole",.int (hv i (nN z.W) j:Nat))::("root",.int i)::BR z i) rfl λj a K' h s' l hk g o k'=>?_) λs2 d=>?_
 ·have hf:=hf.more hk;obtain rfl:(nN z.W j:Int)=a:=by rw[<- sD hW];exact Ou l
  have hl:=uq (r:=i) nl j;refine Oj R8 ?_;refine zb (sI (τ:=("whole",.int (it i (hv i (nN z.W) j):Nat))::("word",.int (nN z.W j:Nat))::("root",.int i)::BR z i) m.c (m.ff hf ⟨rfl,rfl⟩) g rfl ⟨tt,tr⟩ (λq s1 b Q k=>?_) λq s1 b Q k=>?_) λs1 b=>?_
  ·refine Oj Q8 ?_;exact mA m hf b (Us rfl (xY hl λn=>of_decide_eq_true q (congrArg Je n))) ⟨⟨tr,⟨⟨⟨⟨tt,xx hl⟩,tr⟩,tr⟩,tr⟩,NT⟩,sJ _⟩ ⟨rfl,rfl⟩ rfl rfl (by kernel_rfl) λs2 d=>mE k d [0,1] 3 rfl rfl
  ·have h0:hv i (nN z.W) j=0:=vh (Decidable.not_not.mp (of_decide_eq_false q));rw[h0,Vd] at k;rw[h0] at b;exact mE k b [1,0] 2 rfl rfl
  ·exact mA m hf b (Us rfl (xi _ _)) ⟨tt,tr⟩ ⟨rfl,rfl⟩ rfl rfl (by kernel_rfl) λs2 d=>mE k' d [0] 3 rfl rfl
 ·refine zb (sP m.c (m.ff hf ⟨rfl,rfl⟩) d rfl rfl tr (dm (by rw[te,LA];exact Xa (ka (uc hi) hm))) rfl rfl rfl rfl (by kernel_rfl)) λp x3=>?_;rw[jw,show pI z.W i++[_]=pI z.W (i+1) from VA ..] at x3;exact mE k' x3 [0] 4 rfl rfl
end
theorem GG{p q:Nat}(hp:p < n)(a:q < n)(e:n-1-q=n-1-p):q=p:=(Nw (sj a)).symm.trans ((congrArg (n-1 - ·) e).trans (Nw (sj hp)))
theorem LV(s:Nat->Nat)(b:Nat)(p:List Nat):∀(j:Nat),an s j (p++[b])=an s j p^^^Ug b (s (j-p.length)):=by
 induction p with
 |nil=>intro j;show Ug b (s j)^^^0=0^^^Ug b (s j);rw[Fd,Kc]
 |cons a p c=>
  intro j;show Ug a (s j)^^^an s (j-1) (p++[b])=(Ug a (s j)^^^an s (j-1) p)^^^Ug b (s (j-(p.length+1)))
  rw[c,We,wo,Rb 1]
theorem TP(k b:Nat)(p:List Nat):∀(a:Nat),Ei k a (p++[b])=it k (Ei k a p)^^^b:=by
 induction p with
 |nil=>exact λZ=>rfl
 |cons _ _ c=>exact λZ=>c _
theorem Uq{l:List Nat}(h:i < l.length):l.take (i+1)=l.take i++[l.getD i 0]:=by
 rw[Qn,Sa h,ua,Sa h];rfl
theorem CJ{s:Nat->Nat}{p:List Nat}(h:i < p.length)(j:Nat):an s j (p.take (i+1))=an s j (p.take i)^^^Ug (p.getD i 0) (s (j-i)):=by
 rw[Uq h,LV,de,Qi (uc h)]
theorem JD{a:Nat}{p:List Nat}(h:i < p.length):Ei k a (p.take (i+1))=it k (Ei k a (p.take i))^^^p.getD i 0:=by
 rw[Uq h,TP]
theorem Z5(a:List Nat):∀(b:List Nat) (j:Nat),(xl a b).getD j 0=a.getD j 0^^^b.getD j 0:=by
 induction a with
 |nil=>intro b j;exact(Kc _).symm
 |cons x a c=>
  intro b j;cases b with
  |nil=>exact(Fd _).symm
  |cons y b=>cases j with
   |zero=>rfl
   |succ j=>exact c b j
theorem H2{a b:List Nat}(h:a.length=b.length)(e:∀j,a.getD j 0=b.getD j 0):a=b:=
 mi h λj h1 h2=>by
  have:=e j
  rwa [ua,ua,Sa h1,Sa h2] at this
theorem vY{l:List Nat}{v j:Nat}(h:k < l.length):(l.set k v).getD j 0=if j=k then v else l.getD j 0:=by
 rw[ua,BM,ua];by_cases q:k=j
 ·subst q;rw[if_pos rfl,if_pos h,if_pos rfl];rfl
 ·rw[if_neg q,if_neg (qb q)]
theorem q7{ks:List Nat}:∀{s:Nat->Nat},(∀i,s i < 256)->∀j,sv ks s j < 256:=by
 induction ks with
 |nil=>exact λh j=>h j
 |cons k ks a=>exact λh j=>a (λi=>qf (h _) (Fc (h i) k)) j
noncomputable def gr(now old:List Nat)(gap F:Nat):Nat->List Nat
 |0=>now++Qa (old.length+gap-now.length) 0
 |i+1=>(gr now old gap F i).set (i+gap) ((gr now old gap F i).getD (i+gap) 0^^^Ug F (old.getD i 0))
theorem vB(now old:List Nat)(gap F i:Nat):(gr now old gap F i).length=max now.length (gap+old.length):=by
 induction i with
 |zero=>
  show(now++_).length=_
  rw[Nb,Zd,Rb old.length,Rb now.length,Nat.sub_add_eq_max,Nat.max_comm]
 |succ i a=>exact ag.trans a
theorem fJ(a b:List Nat)(j:Nat):(a++b).getD j 0=if j < a.length then a.getD j 0 else b.getD (j-a.length) 0:=by
 rw[ua,WH];split <;> rw[ua]
theorem eJ{a:List Nat}{j:Nat}(h:a.length<=j):a.getD j 0=0:=by rw[ua,Si h];rfl
theorem qI(n j:Nat):(Qa n 0).getD j 0=0:=by
 rw[ua,HC];split <;> rfl
theorem a1m{now old:List Nat}{gap F:Nat}(j:Nat)(h:i<=old.length):(gr now old gap F i).getD j 0=now.getD j 0^^^if gap<=j/\j-gap < i then Ug F (old.getD (j-gap) 0) else 0:=by
 induction i generalizing j with
 |zero=>
  rw[if_neg λq=>nomatch q.2,Fd]
  show(now++_).getD j 0=_
  rw[fJ,qI,Fd];split
  ·rfl
  ·exact(eJ (ye ‹_›)).symm
 |succ i b=>
  have b:=λj=>b j (fj h)
  show((gr now old gap F i).set (i+gap) _).getD j 0=_
  rw[vY (by rw[vB,Rb];exact ya (ZL h gap) (vS ..))];by_cases q:j=i+gap
  ·subst q;rw[if_pos rfl,b,Nat.add_sub_cancel,if_neg λq=>je _ q.2,Fd,if_pos ⟨Ri ..,Xc i⟩]
  ·rw[if_neg q,b];have e:(gap<=j/\j-gap < i)↔(gap<=j/\j-gap < i+1):=and_congr_right λc=>⟨Cd,λa=>tu (Tf a) λz=>q (z▸(Yb c).symm)⟩;by_cases a:gap<=j/\j-gap < i
   ·rw[if_pos a,if_pos (e.mp a)]
   ·rw[if_neg a,if_neg λz=>a (e.mpr z)]
theorem S0(x:BS)(off:Nat):gr x.now x.old x.gap (BC off x.fault) x.old.length=kF x off:=by
 refine H2 (by rw[vB,wJ]) λj=>?_;rw[a1m j (yb _)];unfold kF;rw[Z5,fJ,Zd,qI]
 congr 1
 by_cases h1:j < x.gap
 ·rw[if_pos h1,if_neg λq=>a3b.mpr h1 q.1]
 ·rw[if_neg h1];have a:∀(k:Nat) (l:List Nat),(l.map (Ug k)).getD (j-x.gap) 0=Ug k (l.getD (j-x.gap) 0):=λk l=>by
   rw[ua,ef,ua];cases l[j-x.gap]? with
   |none=>exact(rv k).symm
   |some _=>rfl
  rw[a];by_cases h2:j-x.gap < x.old.length
  ·rw[if_pos ⟨ye h1,h2⟩]
  ·rw[if_neg λq=>h2 q.2,eJ (ye h2),rv]
theorem AV{o f:Nat}:((lg o:Int)-(lg f:Int)).fmod 255=(((lg o+255-lg f) % 255:Nat):Int):=by
 have l2:lg f<=lg o+255:=ka (uc (RI f)) (Ri ..);rw[rA _ (by decide),show((lg o:Int)-(lg f:Int)) % 255=((lg o:Int)-(lg f:Int)+255) % 255 from(Int.add_emod_right ..).symm,DM,Int.add_right_comm,<- DM];exact congrArg (· % 255) (fh l2).symm
theorem rT(k:Nat)(ks:List Nat):∀(p:List Nat),pl p (ks++[k])=pm k 0 (pl p ks):=by
 induction ks with
 |nil=>exact λZ=>rfl
 |cons _ _ a=>exact λZ=>a _
theorem rV(i o:Nat)(os:List Nat):∀(w:Nat),dl i (os++[o]) w=if o≠i/\dl i os w≠0 then BC (dl i os w) (df i o 1) else dl i os w:=by
 induction os with
 |nil=>exact λZ=>rfl
 |cons _ _ a=>exact λZ=>a _
noncomputable abbrev zpS(y u v:Ba)(st:Ya):Ya:=.Assign [.Name y (aT st).pos] (.ListComp (ch (aV st) 0) [⟨.Tuple [.Name u (ch (gT (aV st) 0) 0).pos,.Name v (ch (gT (aV st) 0) 1).pos] 0 (gT (aV st) 0).pos,
 .Call (.Name "zip" (ch (gI (aV st) 0) 0).pos) [ch (gI (aV st) 0) 1,ch (gI (aV st) 0) 2] [] (gI (aV st) 0).pos,[],0⟩] (Hw (aV st)) (aV st).pos) (aP st)
theorem V8:mdK=[zpS "line" "before" "after" (fa mdK 0)]:=by kernel_rfl
theorem U8:mdM=[zpS "product" "here" "before" (fa mdM 0)]:=by kernel_rfl
section
variable{as:List Ba}{f:ma}{Q:Ff->aa->Prop}{rest:List Ya}
theorem Ek.a3J{scope:He}{x y:Ba}{u v:Int}(h:Ek π w N fn σ s):Ek π w N fn ((x,.int u)::(y,.int v)::freeOf scope σ) s:=
 have b:∀f a,((x,P.int u)::(y,P.int v)::freeOf scope σ).lookup f=ac (.addr a)->σ.lookup f=ac (.addr a):=λf a e=>
  (Gd e).elim (λq=>nomatch q.2) λq=>(Gd q.2).elim (λq=>nomatch q.2) λq=>(Ej scope σ f _ q.2).2
 ⟨λf a e=>h.func f a (b f a e),λf a ps r e q c=>h.call f a ps r (b f a e) q c⟩
theorem mZ(m:MC w A N ν ς)(hf:Ag w ν K f)(x:SP (GW w) ν rd σ δ as ς K s){y n1 n2:Ba}{st:Ya}{xs ys:List Int}{hc:Prop}(e:kJ (ev uB X1 9 To σ) [ch (gI (aV st) 0) 1,ch (gI (aV st) 0) 2]=ac ([.il xs,.il ys],hc))(h:hc)(i:xs.length<=2 ^ 24)(o:okM f σ){val:Int->Int->Int}
  (he:∀u v,u∈xs->v∈ys->∃c,ev uB X1 9 (Hw (aV st)).names ((n2,.int v)::(n1,.int u)::freeOf (Hw (aV st)) σ) (ch (aV st) 0)=ac ⟨.int (val u v),a8,c⟩/\c)
  (a:Zg To (Hw (aV st))=a8) (d:(Hw (aV st)).names.lookup n1=ac .local) (b:(Hw (aV st)).names.lookup n2=ac .local) (hk:To.lookup y=ac .local) (j:(((aT st).pos.line==(aV st).pos.line)&&!((Hw (aV st)).names.any λ(m,k)=>m==y&&(k==.local||k==.cell)))=a8) (l:n2≠n1) (p:FP as fU y=a8):
  jK w A ν (zpS y n1 n2 st) rd ((y,.il (se val xs ys))::σ) δ as ς K s:=
 x.elim λZ x=>by
  have c:=m.c;have F:=m.ff hf o _ _ x.2;refine Ig (DH c.g c.so x.2 a d b l (Mk c.g 9 To σ ν s x.2.re c.so F) e h i val ((c.ek _).trans (by kernel_rfl)) (oe w (.tail _ (.tail _ (.tail _ (.tail _ (.head _)))))) (λC s' u v r hv k' n=>?_) (c.kd p).1 ((c.ek _).trans hk) ?_) λf s' q=>⟨q.1,q.2.trans x.1⟩
  ·refine(he u v r hv).elim λZ e=>?_
   exact Ig ((Mk c.g 9 _ _ _ s' n (Qx (xe.of a)) (F.kp k').a3J).ok _ _ s' .Pg e.1 e.2) λz Sg h'=>⟨h'.val,h'.keeps⟩
  ·show(pure (ν.blockKind==.function&&ν.kindOf y==ac .local&&(aT st).pos.line==(aV st).pos.line&&!((Hw (aV st)).names.any λ(m,k)=>m==y&&(k==.local||k==.cell))):xc Bool)=pure a8
   rw[c.hbk,c.ek,hk,Bool.and_assoc,j];rfl
end
noncomputable def kx(n:Nat)(l:List Nat):List Nat:=l.map λp=>n-1-p
theorem iB(n p:Nat)(l:List Nat):kx n (l++[p])=kx n l++[n-1-p]:=Ic
noncomputable def v7(z:MZ)(i:Nat):Nat->Nat:=sv (kx z.W.length (z.kn.take i)) λr=>hv r (nN z.W) z.W.length
noncomputable def dB(z:MZ)(i:Nat):List Nat:=(Ea (z.m-i)).map (v7 z i)
theorem TF{z:MZ}(h:dj z.W)(i j:Nat):v7 z i j < 256:=q7 (λr=>uq (Qt h) _) j
theorem iT(k:Nat):∀(ks:List Nat) (s:Nat->Nat) (j:Nat),sv (ks++[k]) s j=sv ks s (j+1)^^^it k (sv ks s j):=λks=>by
 induction ks with
 |nil=>exact λZ Z=>rfl
 |cons a ks b=>exact λs j=>b _ j
theorem vJ{o a b:Nat}{x y:Int}(d:x=a)(c:y=b):Jc (o:Int) ((Ug x.toNat y.toNat:Nat):Int)=((o^^^Ug a b:Nat):Int):=by rw[d,c,Bb,Bb,xi]
theorem UC{a b:Nat}{x y:Int}(d:x=a)(c:y=b)(e:a < 256)(hb:b < 256):(0<=x/\x < 256)/\0<=y/\y < 256:=by
 rw[d,c];exact⟨⟨Ja _,jc.mpr e⟩,Ja _,jc.mpr hb⟩
theorem Ir{p:Nat}(h:p < n):ae (zl (lI n)) (p:Int)=(it (n-1-p) 1:Nat):=(Vp ..).trans (congrArg _ (sY h))
theorem dK{p:Nat}(h:p < n)(h2:n<=255):-((zl (lI n)).length:Int)<=(p:Int)/\(p:Int) < (zl (lI n)).length/\(zl (lI n)).length<=2 ^ 24:=jB ((jI n).symm▸h) ((jI n).symm▸Xa h2)
theorem AO{v:Nat}(hv:v < 256)(e:Nat):Ug (it e 1) v=it e v:=by rw[Ls (by decide) hv,mul_one]
noncomputable def lnV(n p:Nat)(u v:Int):Int:=Jc v (Ug (ae (zl (lI n)) (p:Int)).toNat u.toNat:Nat)
theorem uU(z:MZ)(hW:dj z.W)(hi:i < z.kn.length)(hp:z.kn.getD i 0 < z.W.length):se (lnV z.W.length (z.kn.getD i 0)) (zl (dB z i)) ((zl (dB z i)).drop (zk 1))=zl (dB z (i+1)):=by
 show se _ _ ((zl (dB z i)).drop 1)=_
 have l1:∀i,(zl (dB z i)).length=z.m-i:=λi=>(te _).trans uk;have g:∀{i j} (h:j < (zl (dB z i)).length),(zl (dB z i))[j]=(v7 z i j:Nat):=λ{i j} h=>by simp[zl,dB]
 refine mi (by rw[ym,ji,l1,l1,Ol (Rf ..),wo]) λj h1 h2=>?_;rw[List.getElem_zipWith,List.getElem_drop,g,g,g];unfold lnV;rw[Ir hp,Bb,Bb,xi,AO (TF hW i j),Rb];unfold v7;rw[Uq hi,iB,iT]
noncomputable def BN(z:MZ)(l:List Nat):List (Ba×P):=("line",.il (zl l))::BR z z.m
noncomputable abbrev dq:List Ba:="rests"::AW
section
variable{as:List Ba}{f:ma}{Q:Ff->aa->Prop}{rest:List Ya}
theorem mL(c:WC w A N ν To fU)(x:SP (GW w) ν rd σ δ as ς K s){y z:Ba}{st:Ya}(hz:σ.lookup z=ac (.il ns))(b:qc z=be)(h1:mI.contains y=a8)(h2:ov.contains z=a8)(a:FP as fU y=a8):jK w A ν (l8 y z st) rd ((y,.il ns)::σ) δ as ς K s:=
 x.elim λZ x=>Ig (fC x.2 hz b (Ua.mp h1) (Ua.mp h2) (c.kd a).1 (c.kd a).2 rfl) λf s' q=>⟨q.1,q.2.trans x.1⟩
theorem JO(m:MC w A N ν ς){z:MZ}(hf:Ag w ν K z.f)(hW:dj z.W)(hn:z.W.length<=255)(hm:z.m<=255)(hk:∀p∈z.kn,p < z.W.length)(d:z.kn.length<=z.m)(x:SP (GW w) ν AW (BR z z.m) δ nq ς K s)
  (k:∀s',SP (GW w) ν dq (BN z (dB z z.kn.length)) δ nq ς K s'->wpAny (ja PP w) A (Oc rest ν) Q Hc s'):
  wpAny (ja PP w) A (Oc (fa Ee 8::fa Ee 9::rest) ν) Q Hc s:=by
 rw[md8,md9];refine zb (mL m.c x (z:="rests") rfl rfl rfl rfl rfl) λs1 b=>b.elim λG b=>?_;refine zb (sN m.c (SP.of (as:=nq) (b.2.more λy h=>.tail _ h)) (rd:=dq) (z:="known") rfl rfl rfl rfl rfl (λi=>BN z (dB z i)) rfl λi a K' n s' B g r H k'=>?_) λs2 o=>k s2 (te z.kn▸o.trans b.1)
 refine(Au B).elim λe hi=>?_
 subst e;have hp:=hk _ (getD_mem hi);have l:(zl (dB z i)).length=z.m-i:=(te _).trans uk;have l2:(zl (dB z i)).length<=2 ^ 24:=dm (l▸Xa (ka (Rf ..) hm));refine Oj V8 (zb (mZ (val:=lnV z.W.length (z.kn.getD i 0)) m (hf.more g) r rfl ⟨tr,⟨tt,by decide,Xf.mpr (l▸ej (ya hi d)),l2⟩,tr⟩ l2 ⟨rfl,rfl⟩ (λu v D C=>⟨_,rfl,⟨tr,⟨⟨tt,dK hp hn⟩,tt⟩,?_⟩,tr⟩) (by kernel_rfl) (by kernel_rfl) (by kernel_rfl) (by kernel_rfl) (by kernel_rfl) (by decide) rfl) λE x3=>?_)
 ·refine(Ma.mp D).elim λa q=>(Ma.mp q.1).elim λj t=>?_
  exact UC (Ir hp) (q.2.symm.trans (congrArg _ t.2.symm)) (Fc (by decide) _) (TF hW i j)
 ·rw[uU z hW hi hp] at x3;exact mE k' x3 [0] 3 rfl rfl
end
theorem LQ{a b:Nat}(c:a < 256)(hb:b < 256):ae Vn ((ae kj (a:Int)-ae kj (b:Int)).fmod 255)=((BC a b:Nat):Int):=by
 rw[Cw c,Cw hb,AV];exact TN (Bn _ (by decide))
theorem a1U{l:List Nat}{g a b:Nat}{x y:Int}(d:x=a)(c:y=b):Jc (ae (zl l) ((k:Int)+(g:Int))) ((Ug x.toNat y.toNat:Nat):Int)=((l.getD (k+g) 0^^^Ug a b:Nat):Int):=(congrArg (λv=>Jc v _) (Vp l (k+g))).trans (vJ d c)
theorem gR(a b:Nat):BC a b < 256:=Fc (by decide) _
theorem a5B(now old:List Nat)(gap F:Nat):zl now++(Qa (zk (((zl old).length:Int)+gap-(zl now).length)) [0]).flatten=zl (gr now old gap F 0):=by
 rw[vQ,te,te,show(old.length:Int)+gap=((old.length+gap:Nat):Int) from rfl,Ko];show zl now++_=zl (now++_)
 unfold zl;rw[Ic,List.map_replicate];rfl
theorem a5A{now old:List Nat}{gap:Nat}(h:old.length+gap<=256)(h1:now.length<=256):(-2 ^ 63<=((zl old).length:Int)+gap-(zl now).length/\((zl old).length:Int)+gap-(zl now).length < 2 ^ 63/\[(0:Int)].length*zk (((zl old).length:Int)+gap-(zl now).length)<=2 ^ 24) /\
  (zl now).length+(Qa (zk (((zl old).length:Int)+gap-(zl now).length)) [(0:Int)]).flatten.length<=2 ^ 24:=by
 rw[vQ,Zd,te,te,show(old.length:Int)+gap=((old.length+gap:Nat):Int) from rfl,Ko];have h2:=ka (Rf (old.length+gap) now.length) h;exact⟨⟨Ph (by decide) (Int.sub_le_sub (Ja _) (Xf.mpr h1)),kh (fW _ (Ja _)) (kh (Xf.mpr h) (by decide)),ka (Yc (Nat.one_mul _)) (dm h2)⟩,ka (EX h1 h2) (by decide)⟩
theorem EN{a:Int}(h1:1<=n)(h:(yg 1 (n:Int) 1)[i]?=ac a):a=(i+1:Nat)/\i+1 < n:=by
 rw[show(n:Int)=1+((n-1:Nat):Int) by rw[Tp];exact congrArg Je (Yb h1).symm,CN] at h
 exact(ZA h).imp (λe=>e.trans (Tp ..)) λq=>Nat.add_lt_of_lt_sub q
theorem DN(h1:1<=n):(yg 1 (n:Int) 1).length+1=n:=by
 rw[show(n:Int)=1+((n-1:Nat):Int) by rw[Tp];exact congrArg Je (Yb h1).symm,CN,uk,Yb h1]
noncomputable def BX(z:MZ)(l:List Nat)(x:BS):List (Ba×P):=("fault",.int x.fault)::("gap",.int x.gap)::("size",.int x.L)::("old",.il (zl x.old))::("now",.il (zl x.now))::BN z l
noncomputable def BU(z:MZ)(l:List Nat)(x:BS)(t o:Nat):List (Ba×P):=("off",.int o)::("turn",.int t)::BX z l x
noncomputable def BG(z:MZ)(l:List Nat)(x:BS)(t o:Nat)(i:Nat):List (Ba×P):=("grown",.il (zl (gr x.now x.old x.gap (BC o x.fault) i)))::("factor",.int (BC o x.fault:Nat))::BU z l x t o
noncomputable def BY(z:MZ)(l:List Nat)(x:BS)(g:List Nat)(nw:List Nat):List (Ba×P):=("fault",.int x.fault)::("gap",.int x.gap)::("size",.int x.L)::("old",.il (zl x.old))::("now",.il (zl nw))::("grown",.il (zl g))::BN z l
section
variable{as:List Ba}{f:ma}{Q:Ff->aa->Prop}{rest:List Ya}
theorem mV(c:WC w A N ν To fU)(x:SP (GW w) ν rd σ δ as ς K s){y z:Ba}{st:Ya}(hz:σ.lookup z=ac (.il ns))(is:List Nat)(m:Nat)(h:pkN (S4 is m σ) σ=a8)(h2:pkL (S4 is m σ) σ=τ)(i:τ.any (λe=>z==e.1)=be)(b:qc z=be)(g:mI.contains y=a8)(d:ov.contains z=be)(a:FP as fU y=a8):jK w A ν (l8 y z st) rd ((y,.il ns)::τ) δ as ς K s:=
 x.elim λZ x=>Ig (ME x.2 hz b (Ua.mp g) (Ot d) (c.kd a).1 (c.kd a).2 rfl λv p e=>⟨λq=>(by rw[q,QI i] at e;exact nomatch e),dO h (h2▸e)⟩) λf s' q=>⟨q.1,q.2.trans x.1⟩
structure BB(x:BS)(t:Nat):Prop where
 lead:∃q,x.now=1::q
 nb:LB x.now
 ob:LB x.old
 fl:x.fault < 256
 lt:x.L<=t
 nl:x.now.length<=t+1
 ol:x.old.length+x.gap<=t+2
 oo:x.old.length<=t+1
theorem BI.bb{s:Nat->Nat}{e t:Nat}{x:BS}(B:BI s e t x):BB x t:=have ol:x.old.length+x.gap<=t+2:=ka (by rw[zf];exact Za ..) B.ol
 ⟨B.lead,B.nb,B.ob,B.fl,B.lt,ka B.nl (Dc B.lt),ol,Sf (ka (Ec B.g1 _) ol)⟩
variable{z:MZ}{l:List Nat}{x y:BS}{t o:Nat}
theorem bU(m:MC w A N ν ς)(hf:Ag w ν K z.f)(B:BB x t)(ht:t < 255)(D:o < 256)(g:y=if 2*x.L<=t then ⟨kF x o,x.now,t+1-x.L,1,o⟩ else ⟨kF x o,x.old,x.L,x.gap+1,x.fault⟩)
  (q:SP (GW w) ν dq (BU z l x t o) δ nq ς K s):dY w A ν fF dq (BX z l y) δ nq ς K s:=λQ k=>by
 have n1:x.now.length<=256:=ka B.nl (Xa ht);have o1:x.old.length+x.gap<=256:=ka B.ol (Dc ht);have u:x.old.length<=256:=ka (Za ..) o1;have Y:∀i,(gr x.now x.old x.gap (BC o x.fault) i).length<=256:=λi=>vB x.now x.old x.gap _ i▸zM.mpr ⟨n1,Rb ..▸o1⟩;refine Oj Z8 ?_;refine mA m hf q (Us rfl (LQ D B.fl)) ⟨⟨tr,⟨⟨⟨⟨tt,xx D⟩,tt,xx B.fl⟩,tr⟩,tr⟩,NT⟩,sJ _⟩ ⟨rfl,rfl⟩ rfl rfl (by kernel_rfl) λs4 O=>?_;have gc:=a5A o1 n1;refine mA m hf O (DQ rfl (a5B x.now x.old x.gap (BC o x.fault))) ⟨⟨tr,⟨⟨tt,by decide⟩,⟨⟨⟨⟨tt,te x.old▸dm u⟩,tr⟩,tr⟩,tt,te x.now▸dm n1⟩,tr⟩,gc.1⟩,gc.2⟩ ⟨rfl,rfl⟩ rfl rfl (by kernel_rfl) λs5 M=>?_;have V:x.old.length<=255:=ka B.oo ht;refine zb (sR m.c (m.ff hf ⟨rfl,rfl⟩) M rfl ⟨⟨⟨tt,te x.old▸dm u⟩,tr⟩,ku ((te x.old).symm▸V)⟩ rfl rfl (BG z l x t o) rfl λi a K' E s' C hk T G k'=>?_) λs6 n=>?_
 ·rw[te] at C
  refine(jn C).elim λe hi=>?_
  subst e;have gi:=Y i;have hg:i+x.gap < (gr x.now x.old x.gap (BC o x.fault) i).length:=by rw[vB,Rb];exact ya (ZL hi _) (vS ..)
  refine Oj Y8 (zb (sS m.c (m.ff (hf.more hk) ⟨rfl,rfl⟩) T (y:="grown") rfl (Us rfl (a1U rfl (Vp _ i))) ⟨⟨⟨⟨tr,tt,tr⟩,jB hg gi⟩,⟨tr,⟨tt,jB hi u⟩,tr⟩,UC rfl (Vp _ i) (gR ..) (Wo B.ob i)⟩,tr⟩ rfl t3 (Ja (i+x.gap)) (jB hg gi).2.1 (jB hg gi).2.2 rfl rfl rfl (by kernel_rfl)) λj b=>?_);rw[IX] at b;exact mE k' b [0] 3 rfl rfl
 ·unfold BG at n;rw[te,ql,S0] at n;refine zb (sI (τ:=BY z l y (kF x o) x.now) m.c (m.ff hf ⟨rfl,rfl⟩) n rfl ⟨⟨⟨tt,Y3⟩,tr⟩,tr⟩ (λh j b G k'=>?_) λh j b G k'=>?_) λj b=>?_
  ·rw[if_pos (Xf.mp (of_decide_eq_true h))] at g;subst g;refine Oj X8 ?_;refine mA m hf b (Us rfl (fh (Xa B.lt)).symm) ⟨⟨t3,tr⟩,tr⟩ ⟨rfl,rfl⟩ rfl rfl (by kernel_rfl) λv d=>?_;refine zb (mL m.c d (z:="now") rfl rfl rfl rfl rfl) λs9 J=>?_;refine mA m hf J rfl tr ⟨rfl,rfl⟩ rfl rfl (by kernel_rfl) λI r=>?_;exact mA m hf r rfl tr ⟨rfl,rfl⟩ rfl rfl (by kernel_rfl) λH p=>mE k' p [1,0,3,2,12,4] 13 rfl rfl
  ·rw[if_neg λq=>of_decide_eq_false h (Xf.mpr q)] at g;subst g;refine Oj W8 ?_;exact zb (sU m.c (m.ff hf ⟨rfl,rfl⟩) b (i:=x.gap) rfl rfl tr rfl rfl) λv d=>mE k' d [5,0,7,8,9,1] 10 rfl rfl
  ·have ey:y.now=kF x o:=by rw[g];split <;> rfl
   refine zb (mV m.c b (z:="grown") rfl [0,1,2,3,4] 6 rfl rfl rfl rfl rfl rfl rfl) λv d=>?_;rw[<- ey] at d;exact mE k d [1,2,3,4,0] 6 rfl rfl
theorem YT(m:MC w A N ν ς)(hf:Ag w ν K z.f)(B:BB x t)(y:LB l)(ht:t < l.length)(h2:l.length<=255)(q:SP (GW w) ν dq (("turn",.int t)::BX z l x) δ nq ς K s):
  dY w A ν YR dq (BX z l (nX (λj=>l.getD j 0) t x)) δ nq ς K s:=λQ k=>by
 have r:=ya ht h2;have l2:=Xa h2;have n2:x.now.length<=256:=ka B.nl (Xa r);have n1:1<=x.now.length:=B.lead.elim λp hp=>by rw[hp];exact Ri 1 _
 refine Oj P8 ?_;refine mA m hf q (Us rfl (Vp l t)) ⟨tt,jB ht l2⟩ ⟨rfl,rfl⟩ rfl rfl (by kernel_rfl) λs1 H=>?_;refine zb (sR m.c (m.ff hf ⟨rfl,rfl⟩) H rfl ⟨⟨tr,⟨tt,te x.now▸dm n2⟩,tr⟩,ku (n:=1) (by decide),ku ((te x.now).symm▸ka B.nl r)⟩ rfl rfl (λi=>BU z l x t (an (λj=>l.getD j 0) t (x.now.take (i+1)))) ?_ λi a K' E s' C hk I v k'=>?_) λs2 u=>?_
 ·refine B.lead.elim λp hp=>?_;rw[hp,show an (λj=>l.getD j 0) t ((1::p).take (0+1))=l.getD t 0 from by show Ug 1 (l.getD t 0)^^^0=_;rw[mul_one,Fd]];rfl
 ·rw[te] at C
  refine(EN n1 C).elim λe hi=>?_
  subst e;have d:i+1<=t:=Tf (ya hi B.nl);refine Oj O8 ?_;refine mA m (hf.more hk) I (Us rfl (vJ (Vp _ (i+1)) (xA _ d))) ⟨⟨tr,⟨⟨tt,jB hi n2⟩,⟨⟨tr,tt,tr⟩,a0C d ht l2⟩,tr⟩,UC (Vp _ (i+1)) (xA _ d) (Wo B.nb _) (Wo y _)⟩,tr⟩ ⟨rfl,rfl⟩ rfl rfl (by kernel_rfl) λg b=>?_;rw[<- CJ hi] at b;exact mE k' b [0] 3 rfl rfl
 ·rw[te,DN n1,Df] at u;have D:an (λj=>l.getD j 0) t x.now < 256:=QE (Wo y);unfold nX at k;generalize an (λj=>l.getD j 0) t x.now=o at u D k;refine zb (sI (τ:=BX z l (if o=0 then ⟨x.now,x.old,x.L,x.gap+1,x.fault⟩ else _)) m.c (m.ff hf ⟨rfl,rfl⟩) u rfl ⟨tt,tr⟩ (λh g b v k'=>?_) λh g b v k'=>?_) λg b=>Ef (k g b)
  ·rw[if_pos (vh (of_decide_eq_true h))] at k';refine Oj N8 ?_;exact zb (sU m.c (m.ff hf ⟨rfl,rfl⟩) b (i:=x.gap) rfl rfl tr rfl rfl) λJ G=>mE k' G [3,0,5,6,7] 8 rfl rfl
  ·rw[if_neg λe=>of_decide_eq_false h (congrArg Je e)] at k';exact bU m hf B r D rfl b v k'
theorem cU(m:MC w A N ν ς)(hf:Ag w ν K z.f)(y:LB l)(h2:l.length<=255)(B:∀t,t<=l.length->BB (bm (λj=>l.getD j 0) t) t)
  (q:SP (GW w) ν dq (BN z l) δ nq ς K s)
  (k:∀s',SP (GW w) ν dq (BX z l (bm (λj=>l.getD j 0) l.length)) δ nq ς K s'->wpAny (ja PP w) A (Oc rest ν) Q Hc s'):
  wpAny (ja PP w) A (Oc (fa Ee 10::fa Ee 11::fa Ee 12::fa Ee 13::fa Ee 14::fa Ee 15::rest) ν) Q Hc s:=by
 rw[a4y,a4x,a4w,a4v,a4u,a4t];refine mA m hf q rfl ⟨tt,by decide⟩ ⟨rfl,rfl⟩ rfl rfl (by kernel_rfl) λs1 v=>?_;refine mA m hf v rfl ⟨tt,by decide⟩ ⟨rfl,rfl⟩ rfl rfl (by kernel_rfl) λs2 u=>?_;refine mA m hf u rfl tr ⟨rfl,rfl⟩ rfl rfl (by kernel_rfl) λE r=>?_;refine mA m hf r rfl tr ⟨rfl,rfl⟩ rfl rfl (by kernel_rfl) λD p=>?_;refine mA m hf p rfl tr ⟨rfl,rfl⟩ rfl rfl (by kernel_rfl) λC o=>?_;have b:(zl l).length=l.length:=te l;refine zb (sR m.c (m.ff hf ⟨rfl,rfl⟩) o rfl ⟨⟨⟨tt,b▸dm (Xa h2)⟩,tr⟩,ku (b.symm▸h2)⟩ rfl rfl (λi=>BX z l (bm (λj=>l.getD j 0) i)) rfl λi a K' h s' g hk x=>?_) λn d=>k n ?_
 ·rw[b] at g
  refine(jn g).elim λe hi=>?_
  subst e;exact YT m (hf.more hk) (B i (uc hi)) y hi h2 x
 ·rw[b,ql] at d;exact d
end
theorem q8{h:Nat}(a:h < 256)(e:Nat):Ug h (it e 1)=it e h:=by rw[Hu,cm a (by decide),mul_one]
theorem UW{p h a:Nat}(hp:p < n)(b:h < 256):Jc ((Ug ((h:Nat):Int).toNat (ae (zl (lI n)) (p:Int)).toNat:Nat):Int) (a:Int)=((it (n-1-p) h^^^a:Nat):Int):=by
 rw[Ir hp,Bb,Bb,q8 b,xi]
noncomputable def bL(n:Nat)(nw:List Nat)(i:Nat):List Nat:=(Ea i).filter λp=>decide (Ei (n-1-p) 0 nw=0)
theorem xQ(n:Nat)(nw:List Nat)(i:Nat):bL n nw (i+1)=if Ei (n-1-i) 0 nw=0 then bL n nw i++[i] else bL n nw i:=by
 unfold bL;rw[Li,dM];by_cases h:Ei (n-1-i) 0 nw=0
 ·rw[if_pos h];exact congrArg (_++·) (IC (p:=λp=>decide (Ei (n-1-p) 0 nw=0)) (decide_eq_true h))
 ·rw[if_neg h];exact(congrArg (_++·) (JC (p:=λp=>decide (Ei (n-1-p) 0 nw=0)) λq=>h (of_decide_eq_true q))).trans (Gh _)
theorem jJ(n:Nat)(nw:List Nat)(i:Nat):(bL n nw i).length<=i:=ka (Oq ..) (Yc Ac)
noncomputable def BF(z:MZ)(nw:List Nat)(L:Nat)(fd:List Nat):List (Ba×P):=("found",.il (zl fd))::("now",.il (zl nw))::("size",.int L)::BR z z.m
noncomputable def BP(z:MZ)(ps:List Nat):List (Ba×P):=("places",.il (zl ps))::BR z z.m
noncomputable def BPp(z:MZ)(ps a:List Nat):List (Ba×P):=("product",.il (zl a))::BP z ps
noncomputable def T7(n p:Nat)(u v:Int):Int:=Jc u (Ug (ae (zl (lI n)) (p:Int)).toNat v.toNat:Nat)
theorem Q7{q:Nat}(c:q < n){p:List Nat}:∀{b:Nat},LB p->b < 256->se (T7 n q) (zl p++[0]) ((b:Int)::zl p)=zl (pm (n-1-q) b p):=by
 have st:∀{u v:Nat},v < 256->T7 n q (u:Int) (v:Int)=((u^^^it (n-1-q) v:Nat):Int):=λhv=>(vJ (Ir c) rfl).trans (by rw[AO hv]);induction p with
 |nil=>exact λZ hb=>congrArg (·::[]) ((st (u:=0) hb).trans (by rw[Kc];rfl))
 |cons x p a=>
  intro b h hb;show T7 n q (x:Int) (b:Int)::se _ (zl p++[0]) ((x:Int)::zl p)=((x^^^it _ b:Nat):Int)::zl (pm _ x p)
  rw[st hb,a h.tl h.hd]
theorem R7{q:Nat}(a:q < n){p:List Nat}(h:LB p):se (T7 n q) (zl p++[0]) ([0]++zl p)=zl (pm (n-1-q) 0 p):=Q7 a (b:=0) h (by decide)
section
variable{as:List Ba}{f:ma}{Q:Ff->aa->Prop}{rest:List Ya}{z:MZ}
theorem LO(m:MC w A N ν ς)(hf:Ag w ν K z.f)(hn:z.W.length<=255)(r:z.kn.length<=255){nw:List Nat}{L:Nat}(nb:LB nw)(t:(bL z.W.length nw z.W.length).length=L)
  (q:SP (GW w) ν dq (("now",.il (zl nw))::("size",.int L)::BR z z.m) δ DZ ς K s)
  (k:∀s',SP (GW w) ν dq (BP z (z.kn++bL z.W.length nw z.W.length)) δ DZ ς K s'->wpAny (ja PP w) A (Oc rest ν) Q Hc s'):
  wpAny (ja PP w) A (Oc (fa Ee 16::fa Ee 17::fa Ee 18::fa Ee 19::rest) ν) Q Hc s:=by
 have n2:=Xa hn;have fl:∀i,i<=z.W.length->(zl (bL z.W.length nw i)).length<=2 ^ 24:=λi hi=>te (bL z.W.length nw i)▸dm (ka (jJ ..) (ka hi n2));rw[a4s,a4r,a4q,a4p];refine mA m hf q rfl ⟨tr,by decide⟩ ⟨rfl,rfl⟩ rfl rfl (by kernel_rfl) λs1 D=>?_;refine zb (sR m.c (m.ff hf ⟨rfl,rfl⟩) D rfl ⟨⟨⟨tt,dm n2⟩,tr⟩,ku hn⟩ rfl rfl (λi=>BF z nw L (bL z.W.length nw i)) rfl λi a K' g s' p hk o I k'=>?_) λs2 y=>?_
 ·refine(jn p).elim λe hi=>?_
  subst e;have hf:=hf.more hk;refine Oj d9 ?_;refine mA m hf o rfl tr ⟨rfl,rfl⟩ rfl rfl (by kernel_rfl) λC n=>?_;refine zb (sN m.c n (z:="now") rfl rfl rfl rfl rfl (λj=>("whole",.int (Ei (z.W.length-1-i) 0 (nw.take j):Nat))::("place",.int i)::BF z nw L (bL z.W.length nw i)) rfl λj a K' g s' p hk o I k'=>?_) λv d=>?_
  ·refine(Au p).elim λe E=>?_
   subst e;have B:Ei (z.W.length-1-i) 0 (nw.take j) < 256:=Qs (ow nb j) (by decide);refine Oj c9 (mA m (hf.more hk) o (Us rfl (UW hi B)) ⟨⟨⟨⟨tr,⟨tt,dK hi hn⟩,tr⟩,UC rfl (Ir hi) B (Fc (by decide) _)⟩,tr⟩,tr⟩ ⟨rfl,rfl⟩ rfl rfl (by kernel_rfl) λl b=>?_);rw[<- JD E] at b;exact mE k' b [0] 3 rfl rfl
  ·rw[te,Df] at d;rw[xQ] at k';generalize Ei (z.W.length-1-i) 0 nw=h at d k';refine zb (sI m.c (m.ff hf ⟨rfl,rfl⟩) d rfl ⟨tt,tr⟩ (λe l b u Lu=>?_) λe l b u Lu=>?_) λl b=>Ef (k' l b)
   ·rw[if_pos (vh (of_decide_eq_true e))] at Lu;refine Oj b9 (zb (sP m.c (m.ff hf ⟨rfl,rfl⟩) b rfl rfl tr (fl i (uc hi)) rfl rfl rfl rfl (by kernel_rfl)) λJ x=>?_);rw[jw] at x;exact mE Lu x [0] 4 rfl rfl
   ·rw[if_neg λH=>of_decide_eq_false e (congrArg Je H)] at Lu;exact mE Lu b [] 2 rfl rfl
 ·rw[ql] at y;have G:decide (((zl (bL z.W.length nw z.W.length)).length:Int)≠(L:Int))=be:=by rw[te,t];exact decide_eq_false (not_not_intro rfl)
  refine zb (sQ m.c (m.ff hf ⟨rfl,rfl⟩) y (ZU rfl G) ⟨⟨⟨tt,fl _ (yb _)⟩,tr⟩,tr⟩ (by kernel_rfl)) λC n=>?_;refine mA m hf n (DQ rfl (Ic (l₁:=z.kn)).symm) ⟨tt,?_⟩ ⟨rfl,rfl⟩ rfl rfl (by kernel_rfl) λv d=>k v (d.pk [0] 4 rfl rfl);rw[te,te,t];exact ka (EX r (t▸ka (jJ ..) hn)) (by decide:255+255<=_)
noncomputable abbrev NO:List Ba:=["place","product","turn","whole","back","amounts","mended"]
theorem AG(m:MC w A N ν ς)(hf:Ag w ν K z.f)(hn:z.W.length<=255){ps:List Nat}(hp:∀p∈ps,p < z.W.length)(hl:ps.length<=255)
  (q:SP (GW w) ν dq (BP z ps) δ NO ς K s)
  (k:∀s',SP (GW w) ν dq (BPp z ps (pl [1] (kx z.W.length ps))) δ NO ς K s'->wpAny (ja PP w) A (Oc rest ν) Q Hc s'):
  wpAny (ja PP w) A (Oc (fa Ee 20::fa Ee 21::rest) ν) Q Hc s:=by
 have one:LB [1]:=λx j=>by rw[Ca.mp j];decide
 rw[a4o,a4n];refine mA m hf q rfl ⟨tt,by decide⟩ ⟨rfl,rfl⟩ rfl rfl (by kernel_rfl) λs1 y=>?_;refine zb (sN m.c y (z:="places") rfl rfl rfl rfl rfl (λi=>BPp z ps (pl [1] (kx z.W.length (ps.take i)))) rfl λi a K' t s' j hk r E k'=>?_) λs2 o=>k s2 ?_
 ·refine(Au j).elim λe hi=>?_
  subst e;have d:=hp _ (getD_mem hi);have l:=cO (ks:=kx z.W.length (ps.take i)) one;have h:(zl (pl [1] (kx z.W.length (ps.take i)))).length+1<=2 ^ 24:=by
   rw[te,gG];unfold kx;rw[cb,de];exact ka (Dc (Ec (ka (yj ..) hl) _)) (by decide)
  rw[Uq hi,iB,rT] at k';generalize pl [1] (kx z.W.length (ps.take i))=C at r k' l h;refine Oj U8 (zb (mZ (val:=T7 z.W.length (ps.getD i 0)) m (hf.more hk) r rfl ⟨⟨⟨tr,tt,by decide⟩,h⟩,⟨⟨⟨tt,by decide⟩,tr⟩,Rb ..▸h⟩,tr⟩ (by rw[Nb];exact h) ⟨rfl,rfl⟩ (λu v D g=>⟨_,rfl,⟨tr,⟨⟨tt,dK d hn⟩,tt⟩,?_⟩,tr⟩) (by kernel_rfl) (by kernel_rfl) (by kernel_rfl) (by kernel_rfl) (by kernel_rfl) (by decide) rfl) λB n=>?_)
  ·refine(La.mp g).elim (λe=>?_) λg=>(Ma.mp g).elim λa q=>?_
   ·exact UC (b:=0) (Ir d) e (Fc (by decide) _) (by decide)
   ·exact UC (Ir d) q.2.symm (Fc (by decide) _) (l a q.1)
  ·rw[R7 d l] at n;exact mE k' n [0] 3 rfl rfl
 ·rw[te,Df] at o;exact o
end
noncomputable def rX(rs a:List Nat)(i:Nat):List Nat:=(Ea i).map λt=>an (λj=>rs.getD j 0) t (a.take (t+1))
theorem DJ(rs a:List Nat)(i:Nat):(rX rs a i).length=i:=uk
noncomputable def BA(z:MZ)(ps a am:List Nat):List (Ba×P):=("amounts",.il (zl am))::BPp z ps a
noncomputable def BE(z:MZ)(ps am:List Nat)(me:List Int):List (Ba×P):=("mended",.il me)::("amounts",.il (zl am))::BP z ps
noncomputable def BV(z:MZ)(ps am:List Nat)(me:List Int)(p h:Nat):List (Ba×P):=("whole",.int h)::("place",.int p)::BE z ps am me
noncomputable def j5(n:Nat)(ps am:List Nat)(p:Nat):Nat:=dl (n-1-p) (kx n ps) (Ei (n-1-p) 0 am)
noncomputable def XT(W:List Int)(ps am:List Nat):Nat->List Int
 |0=>W
 |i+1=>(XT W ps am i).set (ps.getD i 0) (Jc (ae (XT W ps am i) (ps.getD i 0:Nat)) (j5 W.length ps am (ps.getD i 0):Nat))
theorem YA(W:List Int)(ps am:List Nat)(i:Nat):(XT W ps am i).length=W.length:=by
 induction i with
 |zero=>rfl
 |succ i a=>exact ag.trans a
theorem a1L{os:List Nat}:∀{w:Nat},w < 256->dl i os w < 256:=by
 induction os with
 |nil=>exact id
 |cons o os a=>
  intro w h;show dl i os (if o≠i/\w≠0 then BC w (df i o 1) else w) < 256
  split
  ·exact a (gR ..)
  ·exact a h
theorem p7{p q:Nat}(hp:p < n)(a:q < n):Jc (ae (zl (lI n)) (p:Int)) (ae (zl (lI n)) (q:Int))=(df (n-1-p) (n-1-q) 1:Nat):=by rw[Ir hp,Ir a,xi];rfl
theorem MW{p q:Nat}(hp:p < n)(a:q < n):n-1-q≠n-1-p↔q≠p:=⟨λh e=>h (congrArg (n-1 - ·) e),λh e=>h (GG hp a e)⟩
section
variable{as:List Ba}{f:ma}{Q:Ff->aa->Prop}{rest:List Ya}{z:MZ}
theorem CG(m:MC w A N ν ς)(hf:Ag w ν K z.f)(hn:z.W.length<=255)(hm:z.m<=255)(rb:LB (pI z.W z.m)){ps b:List Nat}(E:LB b)(hl:ps.length<=z.m)(g:b.length=1+ps.length)
  (q:SP (GW w) ν dq (BPp z ps b) δ NO ς K s)
  (k:∀s',SP (GW w) ν dq (BE z ps (rX (pI z.W z.m) b ps.length) z.W) δ NO ς K s'->wpAny (ja PP w) A (Oc rest ν) Q Hc s'):
  wpAny (ja PP w) A (Oc (fa Ee 22::fa Ee 23::fa Ee 24::rest) ν) Q Hc s:=by
 have h2:=ka hl hm;have G:b.length<=256:=g▸Rb ..▸Dc h2;have r2:(pI z.W z.m).length<=256:=by rw[LA];exact Xa hm
 rw[a4m,a4l,a4k];refine mA m hf q rfl ⟨tr,by decide⟩ ⟨rfl,rfl⟩ rfl rfl (by kernel_rfl) λs1 D=>?_;refine zb (sR m.c (m.ff hf ⟨rfl,rfl⟩) D rfl ⟨⟨⟨tt,te ps▸dm (Xa h2)⟩,tr⟩,ku ((te ps).symm▸h2)⟩ rfl rfl (λi=>BA z ps b (rX (pI z.W z.m) b i)) rfl λi a K' o s' p hk t H k'=>?_) λs2 B=>?_
 ·rw[te] at p
  refine(jn p).elim λe hi=>?_
  subst e;have hf:=hf.more hk;have l:=ya hi hl;refine Oj o9 ?_;refine mA m hf t rfl tr ⟨rfl,rfl⟩ rfl rfl (by kernel_rfl) λu r=>?_;refine zb (sR (xs:=yg 0 (i+1:Nat) 1) m.c (m.ff hf ⟨rfl,rfl⟩) r rfl ⟨⟨t3,tr⟩,ku (n:=i+1) (ka l hm)⟩ rfl rfl (λj=>("whole",.int (an (λj=>(pI z.W z.m).getD j 0) i (b.take j):Nat))::("turn",.int i)::BA z ps b (rX (pI z.W z.m) b i)) rfl λj a K' o s' p hk t H k'=>?_) λL y=>?_
  ·refine(jn p).elim λe C=>?_
   subst e;have d:=Tf C;have h:j < b.length:=g▸Rb ..▸ya C (Dc (uc hi));refine Oj n9 (mA m (hf.more hk) t (Us rfl (vJ (Vp _ j) (xA _ d))) ⟨⟨tr,⟨⟨tt,jB h G⟩,⟨⟨tr,tt,tr⟩,a0C d ((LA ..).symm▸l) r2⟩,tr⟩,UC (Vp _ j) (xA _ d) (Wo E j) (Wo rb _)⟩,tr⟩ ⟨rfl,rfl⟩ rfl rfl (by kernel_rfl) λJ x=>?_);rw[<- CJ h] at x;exact mE k' x [0] 3 rfl rfl
  ·rw[ql] at y;refine zb (sP m.c (m.ff hf ⟨rfl,rfl⟩) y rfl rfl tr (dm (by rw[te,DJ];exact Xa (ka (uc hi) h2))) rfl rfl rfl rfl (by kernel_rfl)) λI v=>?_;rw[jw,show rX (pI z.W z.m) b i++[_]=rX (pI z.W z.m) b (i+1) from VA ..] at v;exact mE k' v [0] 4 rfl rfl
 ·rw[te,ql] at B;exact mA m hf B rfl ⟨tt,dm (Xa hn)⟩ ⟨rfl,rfl⟩ rfl rfl (by kernel_rfl) λu r=>k u (r.pk [0,1] 3 rfl rfl)
noncomputable abbrev MO:List Ba:=["place","whole","part","other","mended"]
variable{ps am:List Nat}{me:List Int}{p:Nat}
theorem BZ(m:MC w A N ν ς)(hf:Ag w ν K z.f)(hn:z.W.length<=255)(hp:∀p∈ps,p < z.W.length)(d:p < z.W.length){h:Nat}(x:h < 256)(q:SP (GW w) ν rd (BV z ps am me p h) δ MO ς K s):
  jK w A ν (fa OI 2) rd (BV z ps am me p (dl (z.W.length-1-p) (kx z.W.length ps) h)) δ MO ς K s:=by
 rw[e9];refine Ig (sN m.c q (z:="places") rfl rfl rfl rfl rfl (λj=>BV z ps am me p (dl (z.W.length-1-p) (kx z.W.length (ps.take j)) h)) rfl λj a K' t s' k hk l B k'=>?_) λf i g=>⟨g.1,by have:=g.2;rw[te,Df] at this;exact this⟩
 refine(Au k).elim λe r=>?_
 subst e;have b:=hp _ (getD_mem r);have hd:dl (z.W.length-1-p) (kx z.W.length (ps.take j)) h < 256:=a1L x;rw[Uq r,iB,rV] at k';generalize dl (z.W.length-1-p) (kx z.W.length (ps.take j)) h=h at l k' hd;generalize ps.getD j 0=o at l k' b;have n2:=Xa hn;refine Oj i9 (zb (sI m.c (m.ff (hf.more hk) ⟨rfl,rfl⟩) l rfl ⟨⟨tt,tr⟩,λZ=>⟨tt,tr⟩⟩ (λe i g n Lu=>?_) λe i g n Lu=>?_) λi g=>Ef (k' i g))
 ·have e:=wa.mp e;rw[if_pos ⟨(MW d b).mpr λq=>of_decide_eq_true e.1 (congrArg Je q),λq=>of_decide_eq_true e.2 (congrArg Je q)⟩] at Lu;have k:=p7 d b;refine Oj g9 (mA m (hf.more hk) g (Us rfl ((congrArg (λv=>ae Vn ((ae kj (h:Int)-ae kj v).fmod 255)) k).trans (LQ hd (ao (by decide))))) ⟨⟨tr,⟨⟨⟨⟨tt,xx hd⟩,⟨tr,⟨⟨tt,dK d hn⟩,tt,dK b hn⟩,tr⟩,?_⟩,tr⟩,tr⟩,NT⟩,sJ _⟩ ⟨rfl,rfl⟩ rfl rfl (by kernel_rfl) λy u=>mE Lu u [0] 3 rfl rfl);rw[k];exact xx (ao (by decide))
 ·rw[if_neg λq=>(Bool.and_eq_false_iff.mp e).elim (λe=>of_decide_eq_false e λz=>(MW d b).mp q.1 (vh z)) λe=>of_decide_eq_false e λz=>q.2 (vh z)] at Lu;exact mE Lu g [] 1 rfl rfl
theorem aU(m:MC w A N ν ς)(hf:Ag w ν K z.f)(hn:z.W.length<=255)(r:LB am)(hp:∀p∈ps,p < z.W.length)(q:SP (GW w) ν dq (BE z ps am z.W) δ MO ς K s)
  (k:∀s',SP (GW w) ν dq (BE z ps am (XT z.W ps am ps.length)) δ MO ς K s'->wpAny (ja PP w) A (Oc rest ν) Q Hc s'):
  wpAny (ja PP w) A (Oc (fa Ee 25::rest) ν) Q Hc s:=by
 rw[a4j];refine zb (sN m.c q (z:="places") rfl rfl rfl rfl rfl (λi=>BE z ps am (XT z.W ps am i)) rfl λi a K' d s' l hk h C k'=>?_) λs2 x=>k s2 (te ps▸x)
 refine(Au l).elim λe hi=>?_
 subst e;have b:=hp _ (getD_mem hi);have ml:=YA z.W ps am i;have hf:=hf.more hk;refine Oj l9 (mA m hf h rfl tr ⟨rfl,rfl⟩ rfl rfl (by kernel_rfl) λG v=>?_);refine zb (sN m.c v (z:="amounts") rfl rfl rfl rfl rfl (λj=>BV z ps am (XT z.W ps am i) (ps.getD i 0) (Ei (z.W.length-1-ps.getD i 0) 0 (am.take j))) rfl λj a K' d s' l hk h C k'=>?_) λE n=>?_
 ·refine(Au l).elim λe B=>?_
  subst e;have o:Ei (z.W.length-1-ps.getD i 0) 0 (am.take j) < 256:=Qs (ow r j) (by decide);refine Oj j9 (mA m (hf.more hk) h (Us rfl (UW b o)) ⟨⟨⟨⟨tr,⟨tt,dK b hn⟩,tr⟩,UC rfl (Ir b) o (Fc (by decide) _)⟩,tr⟩,tr⟩ ⟨rfl,rfl⟩ rfl rfl (by kernel_rfl) λt g=>?_);rw[<- JD B] at g;exact mE k' g [0] 3 rfl rfl
 ·rw[te,Df] at n;refine zb (BZ m hf hn hp b (Qs r (by decide)) n) λt g=>?_;exact zb (sS m.c (m.ff hf ⟨rfl,rfl⟩) g (y:="mended") rfl rfl ⟨⟨⟨tt,EU (ml.symm▸b) (ml▸Xa hn)⟩,tr⟩,tr⟩ rfl tr (Ja _) (jc.mpr (ml.symm▸b)) (ml▸dm (Xa hn)) rfl rfl rfl (by kernel_rfl)) λD u=>mE k' u [0] 4 rfl rfl
end
theorem oY(r:Nat){l:List (Nat×Nat)}(h:B2 l):Rg r (l.map λq=>(q.1+1,q.2))=it r (Rg r l):=by
 induction l with
 |nil=>exact(Vd r).symm
 |cons p l a=>
  have hl:B2 l:=λq b=>h q (pa _ b);show it (r*(p.1+1)) p.2^^^Rg r (l.map λq=>(q.1+1,q.2))=it r (it (r*p.1) p.2^^^Rg r l)
  rw[a hl,Hf (Fc (h p (va ..)) _) (Du hl),<- ph,yF,Rb]
theorem E0{f:Nat->Nat}(hf:∀j,f j < 256)(r n:Nat):hv r f n=Rg r ((Ea n).map λp=>(n-1-p,f p)):=by
 induction n with
 |zero=>rfl
 |succ n a=>
  show it r (hv r f n)^^^f n=_
  have e:((Ea n).map λp=>(n+1-1-p,f p))=((Ea n).map λp=>(n-1-p,f p)).map λq=>(q.1+1,q.2):=by
   rw[vg];refine Wf λp hp=>congrArg (·,f p) ?_;show n-p=n-1-p+1
   rw[Nat.sub_right_comm,Yb (ej (zc.mp hp))]
  rw[Li,Ic,pw,e,oY r (λq b=>(Ma.mp b).elim λp z=>z.2▸hf p),<- a];show _=_^^^(it (r*(n-n)) (f n)^^^0)
  rw[Nat.sub_self,Nat.mul_zero,Fd];rfl
noncomputable def f6(n:Nat)(kn:List Nat)(f:Nat->Nat):List Nat:=(Ea n).filter λp=>(f p != 0)&&!(kn.contains p)
theorem Ct{kn:List Nat}{f:Nat->Nat}{p:Nat}:p∈f6 n kn f↔p < n/\f p≠0/\p∉kn:=by
 unfold f6;rw[Mi,zc,Pd,bne_iff_ne,Ge,<- Bool.not_eq_true,Ua]
theorem QM(n:Nat)(kn:List Nat)(f:Nat->Nat):(f6 n kn f).Nodup:=dw.sublist dt
theorem aK{kn:List Nat}{f:Nat->Nat}(nd:kn.Nodup)(hk:∀p∈kn,p < n)(r:Nat)(g:Nat->Nat):Rg r ((Ea n).map λp=>(g p,f p))=Rg r (kn.map (λp=>(g p,f p))++(f6 n kn f).map λp=>(g p,f p)):=by
 have h1:((Ea n).filter λp=>kn.contains p).Perm kn:=(List.perm_ext_iff_of_nodup (dw.sublist dt) nd).mpr λp=>by
  rw[Mi,zc,Ua];exact⟨λq=>q.2,λq=>⟨hk p q,q⟩⟩
 have h2:=List.filter_append_perm (λp=>kn.contains p) (Ea n);rw[<- XC r (h2.map λp=>(g p,f p)),Ic,pw,pw,XC r (h1.map λp=>(g p,f p)),<- ax r (((Ea n).filter λx=>!(kn.contains x)).map λp=>(g p,f p)),List.filter_map,List.filter_filter];rfl
theorem len_sub{a:List Nat}:∀{b:List Nat},a.Nodup->(∀x∈a,x∈b)->a.length<=b.length:=by
 induction a with
 |nil=>exact λZ Z=>fc _
 |cons x a e=>
  intro b nd h;have nd:=Lb.mp nd;have d:=h x (va ..);have:=e (b:=b.erase x) nd.2 λy c=>(List.mem_erase_of_ne λ(q:y=x)=>nd.1 (q▸c)).mpr (h y (pa _ c));rw[List.length_erase_of_mem d] at this;exact Nat.add_le_of_le_sub (aF d) this
theorem p0{l:List Nat}(nd:l.Nodup)(h:∀p∈l,p < n):(l.map λp=>n-1-p).Nodup:=by
 delta eM;rw[av];exact nd.imp_of_mem λb hb a e=>a (GG (h _ hb) (h _ b) e)
noncomputable def PT(kf:Nat->Nat->Nat)(P0:List Int):Nat->List Int
 |0=>P0
 |t+1=>(PT kf P0 t).eraseIdx (kf t (PT kf P0 t).length)
noncomputable def UR(kf:Nat->Nat->Nat)(P0:List Int)(t:Nat):Int:=(PT kf P0 t).getD (kf t (PT kf P0 t).length) 0
noncomputable def WT(kf:Nat->Nat->Nat)(P0:List Int)(am:Nat->Int)(C:List Int):Nat->List Int
 |0=>C
 |t+1=>(WT kf P0 am C t).set (UR kf P0 t).toNat (Jc (ae (WT kf P0 am C t) (UR kf P0 t)) (am t))
theorem gL{l:List Int}(h:l.Nodup)(hi:i < l.length):l.getD i 0∉l.eraseIdx i:=by
 rw[ua,Sa hi,List.eraseIdx_eq_take_drop_succ];have e:l=l.take i++l[i]::l.drop (i+1):=by rw[<- pA hi,Mq]
 rw[e,Rn] at h;obtain ⟨_,h2,a⟩:=h;rw[Lb] at h2;intro q
 refine(we.mp q).elim (λq=>?_) λq=>?_
 ·exact a _ q _ (va ..) rfl
 ·exact h2.1 q
section
variable{kf:Nat->Nat->Nat}{P0 C:List Int}{am:Nat->Int}{total:Nat}
set_option tactic.hygienic true in
theorem kC(hk:∀t n,0 < n->kf t n < n):∀t,(PT kf P0 t).length=P0.length-t
 |0=>rfl
 |t+1=>by
  unfold PT;have a:=kC hk t;rw[List.length_eraseIdx];split
  ·rw[a,wo]
  ·rename_i q
   exact(uu (PT kf P0 t).length).elim (λh=>h.trans (QH (Xa (yr (a.symm.trans h)))).symm) λh=>absurd (hk t _ h) q
theorem jC:∀{t t':Nat},t<=t'->(PT kf P0 t').Sublist (PT kf P0 t)
 |t,0,h=>by rw[Nat.le_zero.mp h];exact qA _
 |t,t'+1,h=>by
  refine(Qv t (t'+1)).elim (λq=>?_) λq=>?_
  ·exact(zF _ _).trans (jC (Tf q))
  ·rw[Og h q];exact qA _
theorem xI(hk:∀t n,0 < n->kf t n < n){t:Nat}(h:t < P0.length):UR kf P0 t∈PT kf P0 t:=by
 have hl:=kC (P0:=P0) hk t;exact Cb (Fl (hk t _ (hl▸ej h)))
theorem KY(hk:∀t n,0 < n->kf t n < n)(nd:P0.Nodup){j:Nat}(a:i < j)(b:j < P0.length):UR kf P0 j≠UR kf P0 i:=λe=>by
 have hl:=kC (P0:=P0) hk i;have c:(PT kf P0 i).Nodup:=nd.sublist (jC (t:=0) (fc _));have h1:=gL c (hk i _ (hl▸ej (zj a b)));have h2:UR kf P0 j∈PT kf P0 (i+1):=(jC (kf:=kf) (P0:=P0) (show i+1<=j from a)).subset (xI hk b);rw[e] at h2;exact h1 h2
theorem YN(hk:∀t n,0 < n->kf t n < n)(hP:∀p∈P0,0<=p/\p < (total:Int)){t:Nat}(h:t < P0.length):0<=UR kf P0 t/\UR kf P0 t < (total:Int):=
 hP _ ((jC (t:=0) (fc _)).subset (xI hk h))
theorem iC:∀t,(WT kf P0 am C t).length=C.length
 |0=>rfl
 |t+1=>by unfold WT;rw[ag];exact iC t
theorem vz{l:List Int}{k:Int}(h:0<=k):ae l k=l.getD k.toNat 0:=by unfold ae;rw[if_pos h]
theorem ER(hk:∀t n,0 < n->kf t n < n)(hP:∀p∈P0,0<=p/\p < (total:Int))(hC:dj C)(b:∀t,0<=am t/\am t < 256):∀t,t<=P0.length->dj (WT kf P0 am C t)
 |0,_=>hC
 |t+1,h=>by
  unfold WT;have a:=ER hk hP hC b t (fj h);rw[vz (YN hk hP h).1];have:=RB (a.getD (UR kf P0 t).toNat) (b t);exact a.set _ this.1 this.2
end
noncomputable def dD(z:MZ)(C:List Int)(p:Nat):Nat:=nN z.W p^^^nN C p
noncomputable def gD(z:MZ)(C:List Int)(p:Nat):Nat×Nat:=(z.W.length-1-p,dD z C p)
noncomputable def wD(z:MZ)(C:List Int):List Nat:=f6 z.W.length z.kn (dD z C)
noncomputable def pD(z:MZ)(C:List Int):List Nat:=z.kn++wD z C
noncomputable def lD(z:MZ)(C:List Int):List (Nat×Nat):=(pD z C).map (gD z C)
noncomputable def bD(z:MZ)(t:Nat):BS:=bm (λj=>(dB z z.kn.length).getD j 0) t
noncomputable def amD(z:MZ)(C:List Int):List Nat:=rX (pI z.W z.m) (pl [1] (kx z.W.length (pD z C))) (pD z C).length
structure mz(z:MZ)(C:List Int):Prop where
 hW:dj z.W
 hC:dj C
 hl:C.length=z.W.length
 hn:z.W.length<=255
 hm:z.m<=255
 hz:∀r,r < z.m->hv r (nN C) z.W.length=0
 hk:∀p∈z.kn,p < z.W.length
 nd:z.kn.Nodup
 hc:z.kn.length+2*(wD z C).length<=z.m
theorem ZF{z:MZ}(h:dj z.W):LB (pI z.W z.m):=DO λr=>uq (Qt h) _
theorem AR{rs a:List Nat}(h:LB rs):LB (rX rs a i):=DO λt=>QE (Wo h)
theorem YG(z:MZ)(C:List Int)(l:List Nat):(l.map (gD z C)).map (·.1)=kx z.W.length l:=vg
section
variable{z:MZ}{C:List Int}(d:mz z C)
include d
theorem mz.lt(p:Nat):dD z C p < 256:=qf (Qt d.hW p) (Qt d.hC p)
theorem mz.pin{p:Nat}(h:p∈pD z C):p < z.W.length:=(we.mp h).elim (d.hk p) λh=>(Ct.mp h).1
theorem mz.klt{p:Nat}(h:p < z.W.length):z.W.length-1-p < 255:=jd (Rf ..) (ya (yM (Nat.zero_lt_of_lt h) Ey) d.hn)
theorem mz.pnd:(pD z C).Nodup:=Rn.mpr ⟨d.nd,QM ..,λa c b hb e=>(Ct.mp hb).2.2 (e▸c)⟩
theorem mz.JY:(pD z C).length<=z.m:=by
 unfold pD;rw[Nb];exact ka (Ec (Qp _ (by decide)) _) d.hc
theorem mz.knd:(kx z.W.length (pD z C)).Nodup:=p0 d.pnd λp h=>d.pin h
theorem mz.hb(q:Nat×Nat)(a:q∈lD z C):q.1 < 255/\q.2 < 256:=(Ma.mp a).elim λp e=>e.2▸⟨d.klt (d.pin e.1),d.lt p⟩
theorem mz.sum{r:Nat}(hr:r < z.m):hv r (nN z.W) z.W.length=Rg r (lD z C):=by
 have e:nN z.W=λj=>nN C j^^^dD z C j:=funext λj=>by unfold dD;rw[Rk (nN z.W j),Bt]
 unfold lD pD;rw[e,Cx (Qt d.hC) d.lt,d.hz r hr,Kc,E0 d.lt,Ic];exact aK d.nd d.hk r (λp=>z.W.length-1-p)
theorem mz.feed:(∃s' e,∀t,t<=z.m-z.kn.length->BI s' e t (bD z t))/\(bD z (z.m-z.kn.length)).L=(wD z C).length /\
  ∀k,k < 255->(Ei k 0 (bD z (z.m-z.kn.length)).now=0↔k∈kx z.W.length (wD z C)):=by
 have e:z.kn.map (gD z C)++(wD z C).map (gD z C)=lD z C:=Ic.symm;have:=B3 (n:=z.m-z.kn.length) (s:=λj=>(dB z z.kn.length).getD j 0) (YG z C z.kn) (YG z C (wD z C)) (Ic▸d.knd) (e▸d.hb) (λq b=>(Ma.mp b).elim λp z=>z.2▸(Ct.mp z.1).2.1)
  (by rw[cb];exact Wl (Rb ..▸d.hc)) λj a=>by
   rw[e]
   refine(NI a).trans ?_
   unfold v7;rw[Df];exact mN (n:=z.m-z.kn.length) (λi hi=>d.sum (by
    unfold kx at hi;rw[cb,Yb (ka (Za ..) d.hc)] at hi;exact hi)) j a
 rw[cb] at this;exact this
theorem mz.found:bL z.W.length (bD z (z.m-z.kn.length)).now z.W.length=wD z C:=by
 refine List.filter_congr λp hp=>?_;have hp:=zc.mp hp;rw[ES,decide_eq_true_iff,d.feed.2.2 _ (d.klt hp)];refine⟨λh=>(Ma.mp h).elim λq e=>?_,λh=>Ma.mpr ⟨p,Mi.mpr ⟨zc.mpr hp,h⟩,rfl⟩⟩
 have m:=Mi.mp e.1;exact GG hp (zc.mp m.1) e.2▸m.2
theorem mz.j5{p:Nat}(hp:p∈pD z C):Mine.j5 z.W.length (pD z C) (amD z C) p=dD z C p:=by
 have a:=NL (YG z C (pD z C)) d.knd d.hb (i:=z.W.length-1-p) (v:=dD z C p) (Ma.mpr ⟨p,hp,rfl⟩);unfold Mine.j5 amD;rw[UP (AR (ZF d.hW)) (by decide),Vd,Kc,DJ,<- a,cb];refine congrArg (dl _ _) (wk λt ht=>(NI ht).trans (SE λi hi=>?_));have hi:=ya (jd hi ht) d.JY
 exact(NI hi).trans (d.sum hi)
omit d in
theorem AZ{W:List Int}{ps am:List Nat}(hp:∀p∈ps,p < W.length)(nd:ps.Nodup)(h:i<=ps.length)(j:Nat):(XT W ps am i).getD j 0=if j∈ps.take i then Jc (W.getD j 0) (Mine.j5 W.length ps am j:Nat) else W.getD j 0:=by
 induction i generalizing j with
 |zero=>exact(if_neg rg).symm
 |succ i b=>
  have e:=Uq h;have c:ps.getD i 0∉ps.take i:=λq=>(Rn.mp (e▸nd.sublist (List.take_sublist (i+1) ps))).2.2 _ q _ (Ca.mpr rfl) rfl
  show((XT W ps am i).set _ _).getD j 0=_
  rw[Mu (by rw[YA];exact hp _ (getD_mem h)),e];by_cases q:j=ps.getD i 0
  ·rw[if_pos q,if_pos (q▸Mc _ (Ca.mpr rfl)),vz (Ja _),Bb,b (fj h),if_neg c,q]
  ·rw[if_neg q,b (fj h)];by_cases a:j∈ps.take i
   ·rw[if_pos a,if_pos (qe _ a)]
   ·rw[if_neg a,if_neg λh=>(we.mp h).elim a λh=>q (Ca.mp h)]
theorem mz.a4h:XT z.W (pD z C) (amD z C) (pD z C).length=C:=by
 refine mi ((YA ..).trans d.hl.symm) λj h1 h2=>?_;have e:=AZ (W:=z.W) (am:=amD z C) (λp h=>d.pin h) d.pnd (yb _) j;rw[Df,Ou (Sa h1)] at e;rw[e,<- Ou (b:=0) (Sa h2),sD d.hW,sD d.hC];by_cases q:j∈pD z C
 ·rw[if_pos q,d.j5 q,xi];unfold dD;rw[Bt]
 ·rw[if_neg q];exact congrArg Je (Mo (Uc λh=>q (Mc _ (Ct.mpr ⟨d.hl▸h2,h,λh=>q (qe _ h)⟩))))
end
noncomputable abbrev SF(ps:Array Value):Jb:={cls:=.none,data:=.fields ps}
theorem mz.at{z:MZ}{C:List Int}(d:mz z C)(f:ma):mz ⟨f,z.W,z.kn,z.m⟩ C:=⟨d.hW,d.hC,d.hl,d.hn,d.hm,d.hz,d.hk,d.nd,d.hc⟩
section
variable{as:List Ba}{sI:aa}{f:ma}{Q:Ff->aa->Prop}{rest:List Ya}{z:MZ}{C:List Int}
theorem dU(m:MC w A N ν ς)(hf:Ag w ν K z.f)(d:mz z C)(x:SP (GW w) ν AW (BK z) δ nq ς K s)
  (V:∀v s',VR s'.heap (.il C) v->(∃h tk,s'={ς with heap:=h,toks:=tk})->(∀b o,K b o->s'.heap.get? b=ac o)->Q (.ret v) s'):
  wpAny (ja PP w) A (Oc [fa Ee 5,fa Ee 6,fa Ee 7,fa Ee 8,fa Ee 9,fa Ee 10,fa Ee 11,fa Ee 12,fa Ee 13,fa Ee 14,fa Ee 15,fa Ee 16,fa Ee 17,fa Ee 18,fa Ee 19,fa Ee 20,fa Ee 21,fa Ee 22,fa Ee 23,fa Ee 24,fa Ee 25,fa Ee 26] ν) Q Hc s:=by
 have hn:=d.hn;have hm:=d.hm;have q:z.kn.length<=z.m:=ka (Za ..) d.hc;have G:=d.feed;have D:=d.found;have k:∀p∈pD z C,p < z.W.length:=λp h=>d.pin h;have one:LB [1]:=λx T=>by rw[Ca.mp T];decide
 rw[show z.m-z.kn.length=(dB z z.kn.length).length from uk.symm] at G D;refine ZT m hf hn x λs2 M=>KO m hf d.hW hm M λs3 x3=>JO m hf d.hW hn hm d.hk q x3 λs4 J=>?_;refine G.1.elim λs' B=>B.elim λe B=>?_;have nb:=(B _ (yb _)).nb;have H:=G.2.1;refine cU (l:=dB z z.kn.length) m hf (DO λj=>TF d.hW _ j) (uk.symm▸ka (Rf ..) hm) (λt ht=>(B t ht).bb) J λO i=>?_;have i:SP (GW w) ν dq (BX z (dB z z.kn.length) (bD z (dB z z.kn.length).length)) δ nq ς K O:=i;generalize bD z (dB z z.kn.length).length=y at i nb D H
 refine(SP.base (i.pk (τ:=("now",.il (zl y.now))::("size",.int y.L)::BR z z.m) [4,2] 6 rfl rfl) DZ).elim λa5 i=>LO m hf hn (ka q hm) nb ((congrArg _ D).trans H.symm) i λs6 u=>?_
 rw[D] at u
 refine(SP.base u NO).elim λa6 u=>AG m hf hn k (ka d.JY hm) u λs7 I=>CG m hf hn hm (ZF d.hW) (cO one) d.JY (gG.trans (congrArg (1+·) (cb ..))) I λs8 E=>?_
 refine(SP.base E MO).elim λa8 E=>aU (am:=amD z C) m hf hn (AR (ZF d.hW)) k E λY a=>?_
 rw[d.a4h] at a;rw[a4i];exact a.elim λZ a=>wpAny_execs_cons (dG (n:=9) m.c.g m.c.so (m.ff hf ⟨rfl,rfl⟩ _ _ a.2) a.2 (r:=⟨.il C,be,True⟩) rfl tr λv s' h=>V v s' h.val (a.2.step h.keeps).sh (a.2.step h.keeps).ks)
theorem a1v(w:sa):Fn (mO w) (jG w) 1977 Ee:=⟨by kernel_rfl,by kernel_rfl,by kernel_rfl,by kernel_rfl,by kernel_rfl,by kernel_rfl⟩
theorem CV(a b c:Value):mh s (fdOf (mO w)) ⟨[a,b,c],[]⟩ [("words",a),("checks",b),("known",c)]:=Ih (by kernel_rfl)
abbrev KM(s:aa):ma->Jb->Prop:=λb o=>s.heap.get? b=ac o/\b≠1975
theorem CZ(m:MC w A N ν {sI with heap:=Dm sI.heap 1975})(B:Fk w sI.heap)(a:ν.code=.ref 1977)(n:ve sI.heap 1977 1975 #[])(d:mz z C)
  (x:St (GW w) ν AW (B0 z.W (zl z.kn) z.m) δ {sI with heap:=Dm sI.heap 1975} (Uv sI) s)
  (y:∀v s' ps,VR s'.heap (.il C) v->(∃h tk,s'={sI with heap:=h,toks:=tk})->(∀b o,KM sI b o->s'.heap.get? b=ac o)->s'.heap.get? 1975=ac (SF ps)->Q (.ret v) s'):
  wpAny (ja PP w) A (Oc Ee ν) Q Hc s:=by
 refine Oj m9 (mK m.c rfl rfl (SP.of x) λs1 i=>i.elim λD i=>?_);have up:∀b o,sI.heap.get? b=ac o->s1.heap.get? b=ac o:=i.2.ks;have j:=i.2.weak (K':=KM sI) (λb o h=>h.1) λb o e=>⟨Cm e,λq=>nomatch (qm.symm.trans (q▸e:(Dm sI.heap 1975).get? 1975=ac o))⟩;refine wpAny_execs_cons (pL m.c.g.hd (B.keeps up) m.c.hsc j a (n.keeps up) (λo h=>h.2 rfl) λf K' r k s2 t p l hf=>?_);exact dU (z:=⟨f,z.W,z.kn,z.m⟩) m hf (d.at f) ((SP.of t).pk [3,5,4,0,2,1] 6 rfl rfl) λv s' hv u hk=>y v s' k hv u (λb o h=>hk b o (p b o h)) (hk _ _ l)
theorem jE(g:GA (N+4) A)(F:Fk w s.heap)(E:ve s.heap 1977 1975 #[])(d:mz z C){D B:ma}(H:D≠B)(h1:VR s.heap (.il z.W) (.ref D))(h2:VR s.heap (.il (zl z.kn)) (.ref B))
  {R:Value->aa->Prop} (L:∀v s' ps,VR s'.heap (.il C) v->(∃h tk,s'={s with heap:=h,toks:=tk})->(∀b o,KM s b o->s'.heap.get? b=ac o)->s'.heap.get? 1975=ac (SF ps)->R v s'):
  wpAny (ja PP w) A (call (.ref 1978) [.ref D,.int z.m t,.ref B]) R Hc s:=by
 have j:=a1v w;have e:=j.row;simp only[Ie] at e;have F0:Fk w (Dm s.heap 1975):=F.off (by decide);refine Hv (N:=N+2) (G:=GW w) (rd:=AW) (σ:=B0 z.W (zl z.kn) z.m) (δ:=λx=>bif x==("words":Ba) then D else B) g (sf F) (F.uf 32 rfl rfl) j.data (codeRec_of (F.uf 43 rfl rfl) j.code j.cq) j.bd (CV _ _ _) e.1 e.2.1 e.2.2.1 e.2.2.2.1 e.2.2.2.2.1 e.2.2.2.2.2
  (by kernel_rfl) (by kernel_rfl) (Wq j.nf) ⟨⟨rfl,h1,λZ Z=>⟨rfl,by decide⟩⟩,⟨rfl,⟨t,rfl⟩,nofun⟩,⟨rfl,h2,λZ Z=>⟨rfl,by decide⟩⟩,trivial⟩ (λx y ns ms r M I=>?_) λl ν i u a=>?_
 ·have f:∀{x:Ba} {ns:List Int},(B0 z.W (zl z.kn) z.m).lookup x=ac (.il ns)->x="words"\/x="known":=λ{x ns} e=>(Gd (y:="words") e).imp (λq=>q.1) λq=>(Gd (y:="checks") (p:=.int z.m) (q:=.il ns) q.2).elim (λq=>nomatch q.2) λq=>(jF q.2).1
  refine(f M).elim (λn=>(f I).elim (λc=>absurd (n.trans c.symm) r) λc=>?_) λn=>(f I).elim (λc=>?_) λc=>absurd (n.trans c.symm) r
  ·rw[n,c];exact H
  ·rw[n,c];exact H.symm
 ·have k:={a with g0:=sf F0,sh:=a.sh.elim λh q=>q.elim λtk q=>⟨h,tk,q⟩,k0:=λb o e=>Cm e:St (GW w) ν AW (B0 z.W (zl z.kn) z.m) (λx=>bif x==("words":Ba) then D else B) {s with heap:=Dm s.heap 1975} (Uv s) l};exact CZ ⟨⟨u,by subst i;kernel_rfl,by subst i;kernel_rfl,nK⟩,F0⟩ F (by subst i;exact j.code) E d k λv s' ps hv J hk ht=>⟨v,rfl,L v s' ps hv J hk ht⟩
end
noncomputable def tg:List Ya:=(Zf (Wi 23)).2.1
noncomputable def pU:List (Ba×Lc):=(Zf (Wi 23)).2.2.names
noncomputable def Mr:List Ba:=["numbers","version","level","total","room","checks","data","bits","made","words","start","word","bit","lost","wrong","damaged","places","known","turn","number","place"]
theorem DD:Mr.all (λx=>pU.lookup x==ac .local||pU.lookup x==ac .cell)=a8:=by kernel_rfl
noncomputable def Fm:List Ba:=["bits","made","words","start","word","bit","lost","wrong","damaged","places","known","turn","number","place"]
theorem a0o:tg=[fa tg 0,fa tg 1,fa tg 2,fa tg 3,fa tg 4,fa tg 5,fa tg 6,fa tg 7,fa tg 8,fa tg 9,fa tg 10,fa tg 11,fa tg 12,fa tg 13,fa tg 14,fa tg 15,fa tg 16,fa tg 17]:=by kernel_rfl
noncomputable def W4:Oa:=ch (aV (fa tg 1)) 1
theorem a0j:W4=.BinOp (ch W4 0) .Mod (ch W4 1) W4.pos:=by kernel_rfl
noncomputable def tN(i:Nat):Oa:=ch (aT (fa tg 1)) i
theorem lw0:fa tg 0=rh "numbers" (fa tg 0):=by kernel_rfl
theorem lw1:fa tg 1=.Assign [.Tuple [.Name "version" (tN 0).pos,.Name "level" (tN 1).pos,.Name "total" (tN 2).pos,.Name "room" (tN 3).pos] 0 (aT (fa tg 1)).pos]
 (.Subscript (.Call (.Name "_law_LAYOUTS" (ch (ch (aV (fa tg 1)) 0) 0).pos) [] [] (ch (aV (fa tg 1)) 0).pos) W4 (aV (fa tg 1)).pos) (aP (fa tg 1)):=by kernel_rfl
theorem lw2:fa tg 2=rh "checks" (fa tg 2):=by kernel_rfl
theorem lw3:fa tg 3=lcS "data" "place" (fa tg 3):=by kernel_rfl
theorem lw4:fa tg 4=rh "bits" (fa tg 4):=by kernel_rfl
theorem lw5:fa tg 5=Zy "word" "data" (fa tg 5):=by kernel_rfl
noncomputable def lwF:List Ya:=aB (fa tg 5)
theorem a0k:lwF=[JV "bits" (fa lwF 0)]:=by kernel_rfl
theorem lw7:fa tg 7=IP (fa tg 7):=by kernel_rfl
theorem a4B:aO (fa tg 7)=[]:=by kernel_rfl
theorem lw8:fa tg 8=rh "words" (fa tg 8):=by kernel_rfl
theorem lw9:fa tg 9=Vv "start" (fa tg 9):=by kernel_rfl
noncomputable def V4:List Ya:=aB (fa tg 9)
theorem a0h:V4=[rh "word" (fa V4 0),Vv "bit" (fa V4 1),FH "words" (fa V4 2)]:=by kernel_rfl
theorem a0g:aB (fa V4 1)=[rh "word" (fa (aB (fa V4 1)) 0)]:=by kernel_rfl
theorem a4J:fa tg 10=IP (fa tg 10):=by kernel_rfl
theorem a0p:aO (fa tg 10)=[]:=by kernel_rfl
theorem a4I:fa tg 11=rh "lost" (fa tg 11):=by kernel_rfl
theorem a4H:fa tg 12=.Assign [.Name "wrong" (aT (fa tg 12)).pos] (.Call (.Name "max" (ch (aV (fa tg 12)) 0).pos) [.Constant (.int 0) 0 (ch (aV (fa tg 12)) 1).pos,.BinOp (ch (ch (aV (fa tg 12)) 2) 0) .Sub (ch (ch (aV (fa tg 12)) 2) 1) (ch (aV (fa tg 12)) 2).pos] [] (aV (fa tg 12)).pos) (aP (fa tg 12)):=by kernel_rfl
theorem a4G:fa tg 13=rh "damaged" (fa tg 13):=by kernel_rfl
theorem a4F:fa tg 14=.Assign [.Name "places" (aT (fa tg 14)).pos] (.Call (.Name "list" (ch (aV (fa tg 14)) 0).pos) [.Call (.Name "range" (ch (ch (aV (fa tg 14)) 1) 0).pos) [.Name "total" (ch (ch (aV (fa tg 14)) 1) 1).pos] [] (ch (aV (fa tg 14)) 1).pos] [] (aV (fa tg 14)).pos) (aP (fa tg 14)):=by kernel_rfl
theorem a4E:fa tg 15=rh "known" (fa tg 15):=by kernel_rfl
theorem a4D:fa tg 16=Vv "turn" (fa tg 16):=by kernel_rfl
noncomputable def qU:List Ya:=aB (fa tg 16)
theorem a0n:qU=[rh "number" (fa qU 0),O7 "place" "places" (fa qU 1),zN "damaged" (fa qU 2),IP (fa qU 3)]:=by kernel_rfl
theorem a0m:aB (fa qU 3)=[FH "known" (fa (aB (fa qU 3)) 0)]:=by kernel_rfl
theorem a0l:aO (fa qU 3)=[]:=by kernel_rfl
noncomputable def lwL:Oa:=ch (aV (fa tg 17)) 0
theorem a4C:fa tg 17=.Return (ac (.Compare (.Call (.Name "_law_mended" (ch lwL 0).pos) [.Name "damaged" (ch lwL 1).pos,.Name "checks" (ch lwL 2).pos,.Name "known" (ch lwL 3).pos] [] lwL.pos) [.Eq] [.Name "words" (ch (aV (fa tg 17)) 1).pos] (aV (fa tg 17)).pos)) (aP (fa tg 17)):=by kernel_rfl
structure a2g(w:sa)(k:Nat)(y:ly)(lv:Int):Prop where
 row:kP[k]?=ac [.int y.v,.int lv,.int y.total,.int y.room]
 pe:y.pe=.int lv
 ok:lu w y
 gk:Kz (y.gen.map zk)=a8
 tot:y.total<=26
 gt:y.room < y.total
 hv:(([-3,-1]:List Int).any (·==y.v))=be
theorem a4Q(w:sa):∀k,k < 4->∃y lv,a2g w k y lv
 |0,_=>⟨_,_,by kernel_rfl,rfl,OZ w,by kernel_rfl,(by decide:10<=26),(by decide:5 < 10),by kernel_rfl⟩
 |1,_=>⟨_,_,by kernel_rfl,rfl,NZ w,by kernel_rfl,(by decide:10<=26),(by decide:4 < 10),by kernel_rfl⟩
 |2,_=>⟨_,_,by kernel_rfl,rfl,KZ w,by kernel_rfl,(by decide:24<=26),(by decide:16 < 24),by kernel_rfl⟩
 |3,_=>⟨_,_,by kernel_rfl,rfl,JZ w,by kernel_rfl,(by decide:26<=26),(by decide:19 < 26),by kernel_rfl⟩
 |n+4,h=>by lia
theorem a1w(w:sa):Fn (ix w) (lO w) 1982 tg:=⟨by kernel_rfl,by kernel_rfl,by kernel_rfl,by kernel_rfl,by kernel_rfl,by kernel_rfl⟩
theorem lR(v:Value):mh s (fdOf (ix w)) ⟨[v],[]⟩ [("script",v)]:=Ih (by kernel_rfl)
theorem ZS(g:Jb)(w:sa):ij (Zp g w) "_law_mended"=ac (.ref 1978):=by kernel_rfl
theorem a1p(w:sa):(GW w).mg "_law_mended"=ac (.ref 1978):=(Ms w _).trans (ZS _ w)
abbrev LC(w:sa)(A:Wc)(N:Nat)(ν:Al):Prop:=WC w A N ν pU Mr
noncomputable def vx(ns:List Int):List Int:=if decide (0 < (ns.length:Int))=a8 then List.take (zk 30) ns else [0]
set_option tactic.hygienic true in
theorem EG(ns:List Int):0 < (vx ns).length/\(vx ns).length<=30:=by
 unfold vx;split
 ·rename_i h
  have h:0 < (ns.length:Int):=of_decide_eq_true h;rw[de];exact⟨Nat.lt_min.mpr ⟨by decide,jc.mp h⟩,Lq ..⟩
 ·exact⟨by decide,by decide⟩
noncomputable def wd(nums:List Int)(p:Int):Int:=Qh (ae nums (Qh p (nums.length:Int))+37*p) 256
noncomputable def Wm(nums:List Int)(n:Nat):List Int:=(Ea n).map λ(p:Nat)=>wd nums p
theorem DR(nums:List Int)(n:Nat):dj (Wm nums n):=λv hv=>by
 obtain ⟨p,_,rfl⟩:=Ma.mp hv;exact⟨bf _ (by decide),lh _ (by decide)⟩
theorem IH(nums:List Int)(n:Nat):(Wm nums n).length=n:=uk
theorem yn(v:Int)(l:List Int):xd (v::l)=Tj v++xd l:=by unfold xd;simp
theorem Zx(l m:List Int):xd (l++m)=xd l++xd m:=by
 induction l with
 |nil=>rfl
 |cons v l a=>rw[xj,yn,yn,a,Nh]
theorem zE(l:List Int)(v:Int):xd (l++[v])=xd l++Tj v:=(Zx l [v]).trans (congrArg _ ((yn v []).trans (Gh _)))
theorem iR{v:Int}(h:0<=v):(yg 0 8 1).map (λb=>Qh (Uk v (2 ^ (7-b).toNat)) 2)=Tj v:=by
 obtain ⟨n,rfl⟩:=Ke h;rw[show(8:Int)=((8:Nat):Int) from rfl,dx,vg];delta Tj;refine Wf λi hi=>?_;have hi:=zc.mp hi;show Qh (Uk (n:Int) (2 ^ (7-(i:Int)).toNat)) 2=bz n 8 i
 delta bz;rw[show(7-(i:Int)).toNat=8-1-i from Ko 7 i];have e:Uk (n:Int) (2 ^ (8-1-i))=((n / 2 ^ (8-1-i):Nat):Int):=by
  rw[uA _ (by exact_mod_cast fc _)]
  exact_mod_cast rfl
 rw[e,G5 (Ja _) (by decide)]
 refine(Lx _ 2).trans ?_
 have:(1:Int).toNat=2 ^ 1-1:=rfl;rw[this,Nat.and_two_pow_sub_one_eq_mod,Bb]
theorem take_snoc{l:List Int}{a:Int}(h:l[i]?=ac a):l.take (i+1)=l.take i++[a]:=by
 rw[Qn,h];rfl
structure LZ where
 nums:List Int
 v:Int
 lv:Int
 total:Nat
 room:Nat
noncomputable def L1(l:LZ):List (Ba×P):=[("room",.int l.room),("total",.int l.total),("level",.int l.lv),("version",.int l.v),("numbers",.il l.nums)]
noncomputable def L2(l:LZ):List (Ba×P):=("checks",.int (l.total-l.room:Nat))::L1 l
noncomputable def L3(l:LZ):List (Ba×P):=("data",.il (Wm l.nums l.room))::L2 l
noncomputable def L4(l:LZ)(W:List Int):List (Ba×P):=("bits",.il (xd W))::L3 l
theorem a0D{l:List Int}(a:Int)(h:0 < l.length)(h2:l.length<=30):-(l.length:Int)<=Qh a l.length/\Qh a l.length < l.length/\l.length<=2 ^ 24:=
 have p:(0:Int) < l.length:=jc.mpr h
 ⟨Ph (Lo (Ja _)) (bf a p),lh a p,ka h2 (by decide)⟩
theorem FG{l:List Int}(h:0 < l.length):(l.length:Int)≠0:=λe=>je 0 (vh e▸h)
theorem pX{b:Int}(hb:b∈yg 0 8 1):(0<=7-b/\7-b<=1000000/\Int.natAbs 2 < 2 ^ 64)/\(2:Int) ^ (7-b).toNat≠0/\Sm (2 ^ (7-b).toNat):=by
 rw[show(8:Int)=((8:Nat):Int) from rfl,dx] at hb;have a:(((Ea 8).map λ(i:Nat)=>(i:Int)).all λb=>decide (0<=7-b)&&decide (7-b<=1000000)&&decide ((2:Int) ^ (7-b).toNat≠0)&&decide (1<=(2:Int) ^ (7-b).toNat)&&decide ((2:Int) ^ (7-b).toNat<=255))=a8:=by decide +kernel
 have h:=wa.mp (Aa.mp a b hb);have h1:=wa.mp h.1;have h2:=wa.mp h1.1;have c:=wa.mp h2.1;exact⟨⟨of_decide_eq_true c.1,of_decide_eq_true c.2,by decide⟩,of_decide_eq_true h2.2,Af (by decide) (of_decide_eq_true h1.2),kh (of_decide_eq_true h.2) (by decide)⟩
section
variable{as:List Ba}{Q:Ff->aa->Prop}{rest:List Ya}
theorem St.yJ(x:St (GW w) ν rd σ δ ς K s){y:Ba}(hk:ν.kindOf y=ac .local\/ν.kindOf y=ac .cell)(hv:VR s.heap p v)(hp:∀ns,p≠.il ns){Q:Unit->aa->Prop}
  (b:∀s',St (GW w) ν rd ((y,p)::σ) (λz=>if z=y then 0 else δ z) ς K s'->Q () s'):wpAny (ja PP w) A (PL ν y v) Q Hc s:=
 Ig (x.bind (a:=0) hk hv λns e=>absurd e (hp ns)) (λZ s' h=>b s' h)
theorem qr.four{q r t:P}{G:Prop}(x:qr h [p,q,r,t] vs)(k:∀a b c d,vs=[a,b,c,d]->VR h p a->VR h q b->VR h r c->VR h t d->G):G:=
 x.cn.elim λa y=>y.elim λe y=>y.2.2.three.elim λb z=>z.elim λc z=>z.elim λd z=>k a b c d (z.1▸y.1) y.2.1 z.2.1 z.2.2.1 z.2.2.2
set_option tactic.hygienic true in
theorem j0(c:LC w A (N+4) ν)(F0:Fk w ς.heap){nums:List Int}(h0:0 < nums.length)(h1:nums.length<=30){y:ly}{lv:Int}(hy:a2g w ((ae nums 0).fmod 4).toNat y lv)(x:St (GW w) ν rd [("numbers",.il nums)] δ ς K s){Q:Ff->aa->Prop}
  (hQ:∀f s',SP (GW w) ν rd (L1 ⟨nums,y.v,lv,y.total,y.room⟩) f Mr ς K s'->Q .next s'):zd (ja PP w) A (Cg (fa tg 1) ν) Q s:=by
 have ek:=c.ek;have l:∀{y},FP Mr Mr y=a8->_:=λ{y} h=>(c.kd (as:=Mr) (y:=y) h).2;rw[lw1];refine Hm rfl rfl (kc (Mj (Rc ⟨_,_,rfl⟩ (Tg x.re ((ek _).trans (by kernel_rfl)) (Vt (i:=7) w rfl rfl) (by decide) (md (xs:=[]) (by decide) ?_)))));have F:=F0.kp x.kp;refine fm (F.uf 31 rfl rfl) (gX w).data ?_;show wpAny _ _ (call (.ref 1973) []) _ _ _
 refine Ig (SQ (N:=N) c.g F) (λv s1 h=>?_);refine ue λhC=>?_;obtain ⟨L,ts,rfl,k1,hL,u⟩:=h;have n:=x.step k1;refine hC ?_;refine Ig ((Mk c.g 9 pU _ ν s1 n.re c.so (lF rfl _ _ n)).ok W4 ⟨.int ((ae nums 0).fmod 4),a8,_⟩ s1 .Pg rfl ⟨⟨⟨tt,EU (k:=0) h0 (ka h1 (by decide))⟩,tr⟩,by decide⟩) (λiv s2 m=>?_);obtain ⟨t,rfl⟩:=m.val;have M:=n.step m.keeps;have m0:=bf (ae nums 0) (show(0:Int) < 4 by decide);have m1:=lh (ae nums 0) (show(0:Int) < 4 by decide);refine u.at.elim λ_ C=>?_;refine ue λhC=>?_;obtain ⟨tv,q,T,vs,rfl,hT,hV⟩:=C _ _ hy.row;refine hC ?_;have d:=m.keeps.get hL;have D:=m.keeps.get hT;refine tail_any (UI d).typeIs slot_list_getitem.lookup (wpAny_getItem_list (UI d) m0 (by lia) (by simpa using q) ?_) (Jh (by intro a b c p;rw[a0j];simp));refine hV.four λv1 Y V O e4 q1 q2 q3 q4=>?_;refine Co (items:=#[v1,Y,V,O]) c.g.hd ⟨_,e4▸D,rfl,_,rfl⟩ rfl rfl λE B=>?_;have k7:Kp s2 {s2 with heap:=E}:=⟨E,_,rfl,λz o e=>B z o (Na (Ha e)) e⟩;have x3:=M.step k7;have j:∀{p:P} {v:Value} {h:Xb},(∀ns,p≠.il ns)->VR s1.heap p v->VR h p v:=λhp r=>DA r hp;refine Bc (Ob (x3.yJ (y:="version") (l rfl) (j (p:=.int y.v) nofun q1) nofun λs4 J=>?_));refine Bc (Ob (J.yJ (y:="level") (l rfl) (j (p:=.int lv) nofun q2) nofun λs5 I=>?_));refine Bc (Ob (I.yJ (y:="total") (l rfl) (j (p:=.int y.total) nofun q3) nofun λs6 H=>?_));refine Bc (Ob (H.yJ (y:="room") (l rfl) (j (p:=.int y.room) nofun q4) nofun λs7 G=>?_));exact ri (hQ _ s7 (SP.of G))
theorem a0x(c:LC w A N ν){l:LZ}(h0:0 < l.nums.length)(h1:l.nums.length<=30)(hr:l.room<=l.total)(WI:l.total<=26)(o:rd.contains "bits"=be)(x:SP (GW w) ν rd (L1 l) δ Mr ς K s)
  (k:∀d s',SP (GW w) ν rd (L4 l (Wm l.nums l.room)) d Fm ς K s'->zd (ja PP w) A (Oc rest ν) Q s'):
  zd (ja PP w) A (Oc (fa tg 2::fa tg 3::fa tg 4::fa tg 5::rest) ν) Q s:=by
 have e:=ka hr WI;rw[lw2,lw3,lw4,lw5];refine Jm (sA c (lF rfl) x (Us rfl (fh hr).symm) ⟨tt,tr⟩ rfl rfl (by kernel_rfl)) λs2 h=>h.elim λG h=>?_;refine Jm (EH (as:=Mr) (n:=9) c.g c.so (lF rfl _ _ h.2) h.2 (y:="data") (v:="place") (val:=wd l.nums) (by kernel_rfl) (by kernel_rfl) rfl ⟨tt,ku (ka e (by decide))⟩ (ql _▸dm (ka e (by decide))) (λu Z=>⟨_,_,rfl,⟨⟨⟨⟨⟨⟨tr,⟨tr,tt,ka h1 (by decide)⟩,FG h0⟩,a0D u h0 h1⟩,tt,.inl ⟨by decide,by decide⟩⟩,tr⟩,tr⟩,by decide⟩⟩) (λZ=>rfl) (by decide) ((c.ek _).trans (by kernel_rfl)) ?_) λC x3=>?_
 ·show(pure (ν.blockKind==.function&&ν.kindOf "data"==ac .local&&(aT (fa tg 3)).pos.line==(aV (fa tg 3)).pos.line&&!((Hw (aV (fa tg 3))).names.any λ(m,k)=>m==("data":Ba)&&(k==.local||k==.cell))):xc Bool)=pure a8
  rw[c.hbk,c.ek]
  kernel_rfl
 rw[dx,vg] at x3;have x3:SP (GW w) ν rd (L3 l) G Mr ς K C:=x3
 refine(x3.base Fm).elim λE x3=>Jm (sA c (lF rfl) x3 rfl ⟨tr,by decide⟩ rfl rfl (by kernel_rfl)) λB r=>?_
 refine Jm (sN c r (z:="data") (xs:=Wm l.nums l.room) rfl rfl rfl rfl rfl (λi=>L4 l ((Wm l.nums l.room).take i)) rfl λi a K' d s' j Z f I k'=>?_) λt q=>k E t ?_
 ·have D:=DR l.nums l.room a (Cb j);have hi:=IH l.nums l.room▸(xb.mp j).1;refine Oj a0k (f.elim λH f=>?_);refine zb (uR (as:=Fm) (n:=9) c.g c.so (lF rfl _ _ f.2) f.2 (y:="bits") rfl (Ot (by rw[List.contains_cons,o];rfl)) rfl (DQ rfl (iR D.1)) ⟨⟨tt,ku (n:=8) (by decide)⟩,by decide,λb hb=>⟨⟨⟨⟨tr,⟨tr,t3⟩,(pX hb).1⟩,(pX hb).2⟩,tr⟩,by decide⟩⟩ (c.kd (as:=Fm) rfl).2 ?_) λB p=>?_
  ·rw[Mh,ko,de,IH];exact ka (Dg (Be 8 (ka (yj ..) e)) 8) (by decide)
  ·rw[<- zE,<- take_snoc j] at p;exact mE k' (p.trans f.1) [0] 3 rfl rfl
 ·rw[Df] at q;exact q
end
theorem QP{c T:ma}{vs:Array Value}{e:Ba}{i g tt:xm}{a b:Int}{f:Bool}(l:h.get? c=ac o)(j:h.get? T=ac (SF #[]))(d:o.data=.fields vs)(k:o.cls=.type "code")(r1:vs.getD 11 .none=.ref T)(r2:vs.getD 18 .none=.str e i)(r3:vs.getD 7 .none=.int a g)(r4:vs.getD 9 .none=.bool f)(r5:vs.getD 10 .none=.int b tt)(m:vs[11]?=ac (.ref T))(n:c≠T):ve h c T #[]:=
 ⟨⟨o,vs,e,i,a,g,f,b,tt,_,l,d,r1,r2,r3,r4,r5,j,rfl,by simp[TriplesOk],n⟩,⟨o,vs,l,k,d,m⟩,j⟩
theorem Oi.code(F:Oi w h):ve h 1944 1940 #[]/\ve h 1894 1892 #[]/\ve h 1977 1975 #[]:=
 ⟨QP (F.u (1944,jx w) (za 40 rfl)) (F.u (1940,pO w) (za 39 rfl)) rfl rfl rfl rfl rfl rfl rfl rfl (by decide),QP (F.u (1894,Js w) (za 34 rfl)) (F.u (1892,vO w) (za 33 rfl)) rfl rfl rfl rfl rfl rfl rfl rfl (by decide),QP (F.u (1977,jG w) (za 43 rfl)) (F.u (1975,nO w) (za 42 rfl)) rfl rfl rfl rfl rfl rfl rfl rfl (by decide)⟩
noncomputable def lwM:Oa:=ch (aV (fa tg 6)) 1
noncomputable def PZ:Oa:=ch (ch lwM 0) 0
theorem lw6:fa tg 6=.Assign [.Name "made" (aT (fa tg 6)).pos] (.Call (.Name "list" (ch (aV (fa tg 6)) 0).pos) [.Call (.Attribute (.Call (.Name "make_final_message" (ch PZ 0).pos) [.Name "version" (ch PZ 1).pos,.Name "level" (ch PZ 2).pos,.Call (.Name "Buffer" (ch (ch PZ 3) 0).pos) [.Name "bits" (ch (ch PZ 3) 1).pos] [] (ch PZ 3).pos] [] PZ.pos) "getbits" (ch lwM 0).pos) [] [] lwM.pos] [] (aV (fa tg 6)).pos) (aP (fa tg 6)):=by kernel_rfl
section
variable{sI:aa}{Q:Ff->aa->Prop}
theorem St.v8(x:St (GW w) ν rd σ δ ς K s){wr:List ma}(a:∀b∈wr,(ν.locals≠b/\(∀y c,ν.cells.lookup y=ac c->c≠b)/\∀y ns,σ.lookup y=ac (.il ns)->δ y≠b)/\∀o,¬K b o)
  (k:∀b o,b∉wr->s.heap.get? b=ac o->s'.heap.get? b=ac o) (hd:s'.drawn=s.drawn) (h:s'.os=s.os):St (GW w) ν rd σ δ {ς with gens:=s'.gens} K s':=by
 refine x.ns.elim λm hm=>?_;have n:ν.locals∉wr:=λq=>(a _ q).1.1 rfl;have hC:∀y c,ν.cells.lookup y=ac c->c∉wr:=λy c e q=>(a _ q).1.2.1 y c e rfl;have hl:∀y ns,σ.lookup y=ac (.il ns)->δ y∉wr:=λy ns e q=>(a _ q).1.2.2 y ns e rfl
 refine{x with sh:=?_,ks:=?_,ns:=⟨m,hm.at' λo e=>k _ o n e⟩,ce:=λy c e=>?_,look:=λy p e=>?_}
 ·obtain ⟨h0,B,rfl⟩:=x.sh;obtain ⟨h',C,d',t',o'⟩:=s';have hd:d'=_:=hd;have h:o'=_:=h;subst hd h;exact⟨h',t',rfl⟩
 ·exact λb o q=>k b o (λhb=>(a b hb).2 o q) (x.ks b o q)
 ·obtain ⟨v,o',d,d'⟩:=x.ce y c e;exact⟨v,o',k c o' (hC y c e) d,d'⟩
 ·obtain ⟨v,A,t,r⟩:=x.look y p e;refine⟨v,?_,?_,r⟩
  ·rcases A with ⟨j,f,n',d⟩|⟨j,c,d,o',u,z⟩
   ·exact .inl ⟨j,f,n'.at' λo e=>k _ o n e,d⟩
   ·exact .inr ⟨j,c,d,o',k c o' (hC y c d) u,z⟩
  ·cases p with
   |il ns=>
    obtain ⟨l,vs,f,rfl,g,i⟩:=t;have:=r ns rfl;obtain rfl:=cg this;exact⟨δ y,vs,f,rfl,k _ _ (hl y ns e) g,i⟩
   |_=>exact t
def K7(sI:aa)(p q:Array Value):ma->Jb->Prop:=λb o=>((sI.heap.get? b=ac o/\b≠1940/\b≠1892)\/(b=1940/\o=SF p))\/(b=1892/\o=SF q)
theorem St.nmP(x:St (GW w) ν rd σ δ ς K s){y:Ba}{pos:Sd}{Q:Value->aa->Prop}(e:σ.lookup y=ac p)(a:qc y=be)(b:∀v,VR s.heap p v->Q v s):wpAny (ja PP w) A (eval (.Name y pos) ν) Q Hc s:=by
 refine ue λhC=>?_;obtain ⟨v,d,c,_⟩:=x.look y _ e;refine hC ?_;exact vd x.kind d (Eg a).1 (Eg a).2 (b v c)
set_option tactic.hygienic true in
theorem YZ(c:LC w A N ν)(g:GK (N+24) A)(FI:Oi w sI.heap)(V:∀b o,ς.heap.get? b=ac o->sI.heap.get? b=ac o/\b≠1940/\b≠1892)(F0:Fk w ς.heap)(hb0:∀z∈s.gens,z.bare=a8){y:ly}(ok:lu w y){bits:List Int}(hB:Vm bits)(hz:bits.length<=2 ^ 11)(hn:y.room<=(bits.length+7) / 8)
  (l1:σ.lookup ("version":Ba)=ac (.int y.v)) (l2:σ.lookup ("level":Ba)=ac y.pe) (l3:σ.lookup ("bits":Ba)=ac (.il bits)) (x:SP (GW w) ν rd σ δ Fm ς (Uv sI) s)
  (hh:(([-3,-1]:List Int).any (·==y.v))=be) (hf:dj (vm (wordsOf bits y.room) (qh y.gen (wordsOf bits y.room)))/\(vm (wordsOf bits y.room) (qh y.gen (wordsOf bits y.room))).length<=2 ^ 24)
  (hQ:∀s' p q,(∀z∈s'.gens,z.bare=a8)->SP (GW w) ν rd (("made",.il (vm (wordsOf bits y.room) (qh y.gen (wordsOf bits y.room))))::σ) δ Fm {ς with gens:=s'.gens} (K7 sI p q) s'->Q .next s'):
  zd (ja PP w) A (Cg (fa tg 6) ν) Q s:=by
 have ek:=c.ek;refine ue λhC=>?_;obtain ⟨a1,f1,x⟩:=x;have F:=F0.kp x.kp;obtain ⟨c40,c92,_⟩:=FI.code;refine hC ?_;have kI:∀b o,sI.heap.get? b=ac o->s.heap.get? b=ac o:=λb o e=>x.ks b o e;rw[lw6];refine yk (by kernel_rfl) ?_;refine vi (name_buil x.re ((ek _).trans (by kernel_rfl)) (oe w (.tail _ (.tail _ (.head _)))) (v:=.type "list") (by kernel_rfl) (by decide) (by decide) ?_);refine Bd (xs:=[eval (.Call (.Attribute _ "getbits" _) [] [] _) ν]) (show 1<=30 by decide) ?_;refine Zk rfl (by kernel_rfl) (by kernel_rfl) ?_;refine vi (Tg x.re ((ek _).trans (by kernel_rfl)) (Vt (i:=5) w rfl rfl) (by decide) ?_);refine Bd (xs:=[eval (.Name "version" _) ν,eval (.Name "level" _) ν,eval (.Call (.Name "Buffer" _) [.Name "bits" _] [] _) ν]) (show 3<=30 by decide) ?_;refine kc (x.nmP l1 (by decide) λvv T=>kc (x.nmP l2 (by decide) λlv Y=>?_));obtain ⟨tv,rfl⟩:=T;refine vi (Tg x.re ((ek _).trans (by kernel_rfl)) (Vt (i:=6) w rfl rfl) (by decide) ?_);refine Bd (xs:=[eval (.Name "bits" _) ν]) (show 1<=30 by decide) ?_;refine kc (x.nmP l3 (by decide) λbv hbv=>?_);refine ue λhC=>?_;obtain ⟨lb,bvs,bm,rfl,hlb,hib⟩:=hbv;refine hC ?_;refine NW g.ga.hd F λh1 k1=>?_;have n:Kp s {s with heap:=h1,toks:=s.toks+0}:=mu 0 k1;generalize hs1:({s with heap:=h1,toks:=s.toks+0}:aa)=s1 at n;have x1:=x.step n;refine YQ (N:=N+2) (g.mono (by lia)) (F0.kp x1.kp) (n.get hlb) hib hB.byt (by simp only[mc];lia) λs2 b dd d k2 hbb JK hd _ _ _=>?_;have J:=x1.step k2;have F2:=F0.kp J.kp;have D:=n.trans' k2;refine fm (F2.uf 20 rfl rfl) (AB w).data ?_;show zd _ _ (call (.ref 1895) [.int y.v tv,lv,.ref b]) _ _
 have C:ve s2.heap 1944 1940 #[]:=c40.keeps λb o e=>D.get (kI b o e);have B:ve s2.heap 1894 1892 #[]:=c92.keeps λb o e=>D.get (kI b o e);refine rH (N:=N) (g.mono (by lia)) F2 ok (DA Y ok.npe) hbb JK hd hB hz hn C B hh λrb rdd M h3 t3 g3 k3 m l b3 E t u=>?_;refine m.elim λp m=>?_;refine l.elim λq l=>?_;generalize r:({s2 with heap:=h3,toks:=t3,gens:=g3}:aa)=f;have hh3:f.heap=h3:=by rw[<- r]
 have hg3:f.gens=g3:=by rw[<- r]
 rw[<- hh3] at k3 m l E t u;have j:=J.apF C.tab rfl;have h:=J.apF B.tab rfl;have y2:St (GW w) ν rd σ a1 ς (λb o=>sI.heap.get? b=ac o/\b≠1940/\b≠1892) s2:=J.weak (λb o q=>q.1) V;have y3:=y2.v8 (s':=f) (wr:=[1940,1892]) (λz hz=>by
   rcases La.mp hz with rfl|hz
   ·exact⟨j,λo q=>q.2.1 rfl⟩
   ·rw[Ca.mp hz];exact⟨h,λo q=>q.2.2 rfl⟩)
  (λz o hz e=>k3 z o (λq=>hz (q▸.head _)) (λq=>hz (q▸.tail _ (.head _))) e) (by rw[<- r]) (by rw[<- r])
 have I:=(y3.gC m.tab j.1 j.2.1 j.2.2).gC l.tab h.1 h.2.1 h.2.2;have I:St (GW w) ν rd σ a1 {ς with gens:=f.gens} (K7 sI p q) f:=I;have F3:Fk w f.heap:=Fk.kp (s:={ς with gens:=f.gens}) F0 I.kp;have hgs:s2.gens=s.gens:=by obtain ⟨_,_,e,_⟩:=D;rw[e]
 have hb3:∀z∈f.gens,z.bare=a8:=by rw[hg3];exact b3 (by rw[hgs];exact hb0)
 refine Y0 g.ga.hd F3 E t λh5 k5=>?_;have k:Kp f {f with heap:=h5,toks:=f.toks+0}:=mu 0 k5;generalize hs5:({f with heap:=h5,toks:=f.toks+0}:aa)=s5 at k;have y5:=I.step k;have F5:=F3.kp k;refine Bd (xs:=[]) (show 0<=30 by decide) ?_;refine fm (F5.uf 26 rfl rfl) (uQ w).data ?_;show zd _ _ (call (.ref 1938) [.ref rb]) _ _
 refine zL (N:=N) (g.mono (by lia)) F5 (k.get E) λs6 k6=>?_;have G:=k.trans' k6;have y6:=y5.step k6;refine Ga (a:=vb) rfl ?_;show zd _ _ (call (.type "list") [.ref M]) _ _
 refine kc (zJ g.ga.hd (G.get u) hf.1 hf.2 λv s7 L=>?_)
 refine(Wx y6 L (λ_ _=>rfl) "made").elim λa ha=>?_
 have hg7:s7.gens=f.gens:=by obtain ⟨_,_,e,_⟩:=G.trans' L.keeps;rw[e]
 refine Ig ((y6.step L.keeps).bind (y:="made") (c.kd (as:=Fm) (y:="made") rfl).2 L.val ha) (λ_ s8 y8=>?_);have H:s8.gens=f.gens:=by obtain ⟨_,_,e⟩:=y8.sh;rw[e]
 have O:=hQ s8 p q (by rw[H];exact hb3) (by
  rw[H];exact⟨_,λz hz=>(if_neg λ(q:z="made")=>hz (q▸(c.kd (as:=Fm) rfl).1)).trans (f1 z hz),y8⟩)
 exact O
end
theorem UM{v:Int}(h:0<=v/\v < 256):Wk (Tj v)=v:=by
 have a:((Ea 256).all λn=>Wk (Tj (n:Int))==(n:Int))=a8:=by decide +kernel
 obtain ⟨n,rfl⟩:=Ke h.1;have:=Aa.mp a n (zc.mpr (jc.mp h.2));exact eq_of_beq this
theorem cw8(l:List Int):∀(i:Nat),i < l.length->((xd l).drop (8*i)).take 8=Tj (l.getD i 0):=by
 induction l with
 |nil=>exact λZ h=>nomatch h
 |cons v l a=>
  intro i h;rw[yn];cases i with
  |zero=>
   show((Tj v++xd l).drop 0).take 8=Tj v
   rw[cW,Pw (Yc (ko v).symm),Ye (Yc (ko v))]
  |succ i=>
   rw[show 8*(i+1)=(Tj v).length+8*i by rw[ko];exact Rb ..,List.drop_length_add_append];exact a i (Xg h)
theorem PM{W:List Int}(hb:dj W):wordsOf (xd W) W.length=W:=by
 refine mi (kv ..) λi h1 h2=>?_;have b:(wordsOf (xd W) W.length)[i]=Wk (Ln (xd W) (8*i)):=by simp[wordsOf]
 have a:W[i]=W.getD i 0:=by rw[ua,Sa h2];rfl
 rw[b,a];unfold Ln;rw[cw8 W i h2,QH (show 8*i+8<=(xd W).length by rw[Mh];exact Be 8 h2),List.replicate_zero,Gh,UM (hb.getD i)]
theorem VJ(l:List Int)(b:Int):Wk (l++[b])=2*Wk l+b:=by unfold Wk;rw[List.foldl_append];rfl
theorem F7(n:Nat):yg 0 (8*(n:Int)) 8=(Ea n).map λ(i:Nat)=>((8*i:Nat):Int):=by
 delta yg;have e:8*(n:Int)=((8*n:Nat):Int):=rfl;rw[e,eG,show(8*n+7) / 8=n from(Nat.mul_add_div (by decide) n 7).trans rfl,Bb];exact Wf λi Z=>(Rp _).trans (AF ..)
section
variable{as:List Ba}{Q:Ff->aa->Prop}{rest:List Ya}
noncomputable def L6(l:LZ)(bs W:List Int):List (Ba×P):=("words",.il W)::("made",.il bs)::("bits",.il (xd (Wm l.nums l.room)))::L3 l
noncomputable def L5(l:LZ)(W:List Int):List (Ba×P):=("words",.il W)::L3 l
theorem a0w(c:LC w A N ν){l:LZ}(WI:l.total<=26)(q:rd.contains "words"=be){C:List Int}(hC:C.length=l.total)(hb:dj C)(r:C.take l.room=Wm l.nums l.room)(x:SP (GW w) ν rd (("made",.il (xd C))::L4 l (Wm l.nums l.room)) δ Fm ς K s)
  (k:∀s',SP (GW w) ν rd (L5 l C) δ Fm ς K s'->zd (ja PP w) A (Oc rest ν) Q s'):
  zd (ja PP w) A (Oc (fa tg 7::fa tg 8::fa tg 9::fa tg 10::rest) ν) Q s:=by
 have o:(xd C).length=8*l.total:=hC▸Mh C;have l2:(xd C).length<=2 ^ 24:=o▸ka (Be 8 WI) (by decide);have f:∀{n},n<=l.total->n<=2 ^ 24:=λh=>ka h (ka WI (by decide));rw[lw7,lw8,lw9,a4J];refine Jm (sQ c (lF rfl) x (ZU rfl (decide_eq_false (not_not_intro (congrArg Je o)))) ⟨⟨⟨tt,l2⟩,tt,.inl ⟨by decide,by decide⟩⟩,tr⟩ a4B) λs1 B=>?_;refine Jm (sA c (lF rfl) B rfl ⟨tr,by decide⟩ rfl rfl (by kernel_rfl)) λs2 z=>?_;refine Jm (sR c (lF rfl) z rfl ⟨⟨tr,⟨tt,.inl ⟨by decide,by decide⟩⟩,tt⟩,by decide,⟨by decide,by decide⟩,ku (n:=8*l.total) (ka (Be 8 WI) (by decide)),by decide,by decide⟩ rfl rfl (λi=>L6 l (xd C) (C.take i)) rfl λi a K' v s' H Z D O k'=>?_) λG x3=>?_
 ·refine(ZA (F7 l.total▸H)).elim λe hi=>?_
  subst e;have hi:=hC.symm▸hi;have J:((8*i:Nat):Int)+8-((8*i:Nat):Int)=8:=by rw[Tp,jk]
  have I:((8*i:Nat):Int)+8<=(xd C).length:=by rw[o];exact Xf.mpr (Be 8 (hC▸hi:i+1<=l.total))
  refine Oj a0h (zb (sA c (lF rfl) D rfl tr rfl rfl (by kernel_rfl)) λG x3=>?_);refine zb (sR (xs:=Tj (C.getD i 0)) c (lF rfl) x3 (ZU rfl (by rw[J];exact cw8 C i hi)) ⟨⟨tr,tr,tt,tr⟩,Ja _,Int.le_add_of_nonneg_right (by decide),I,l2⟩ rfl rfl (λj=>("word",.int (Wk ((Tj (C.getD i 0)).take j)))::("start",.int (8*i:Nat))::L6 l (xd C) (C.take i)) rfl λj b M t Sg p Z m L Lu=>?_) λu g=>?_
  ·refine Oj a0g (zb (sA c (lF rfl) m rfl ⟨⟨⟨tt,.inl ⟨by decide,by decide⟩⟩,tr⟩,tr⟩ rfl rfl (by kernel_rfl)) λE d=>?_);rw[<- VJ,<- take_snoc p] at d;exact mE Lu d [0] 3 rfl rfl
  ·rw[Df,UM (hb.getD i)] at g;refine zb (sP c (lF rfl) g (y:="words") rfl rfl tr (f (de▸hC▸yj ..)) q rfl rfl rfl (by kernel_rfl)) λE d=>?_;rw[<- take_snoc (Fl hi)] at d;exact mE k' d [0] 4 rfl rfl
 ·rw[F7,uk,Ye (Yc hC)] at x3;have r:decide (C.take (l.room:Int).toNat≠Wm l.nums l.room)=be:=by rw[Bb,r];exact decide_eq_false (not_not_intro rfl)
  exact Jm (sQ c (lF rfl) x3 (ZU rfl r) ⟨⟨⟨tt,Ja _,f (Yc hC)⟩,tr⟩,tr⟩ a0p) λu g=>k u (g.pk [0] 3 rfl rfl)
end
noncomputable def bB(nums:List Int)(m:Nat):Nat:=(Qh (Uk (ae nums (-1)) 4) ((m+1:Nat):Int)).toNat
theorem Dt(a:Int)(h:0 < n):(Qh a n).toNat < n/\Qh a n=((Qh a n).toNat:Nat):=
 have b:=bf a (jc.mpr h)
 ⟨(Aj b).mpr (lh a (jc.mpr h)),(gf b).symm⟩
noncomputable def bP(nums:List Int)(m lost:Nat):Int:=Uk ((m:Int)-lost) 2-Qh (Uk (ae nums (-1)) 64) 2
noncomputable def Bw(nums:List Int)(m lost:Nat):Nat:=(max 0 (bP nums m lost)).toNat
theorem ux(nums:List Int){m lost:Nat}(h:lost<=m):lost+2*Bw nums m lost<=m:=by
 have e:Uk ((m:Int)-lost) 2=(((m-lost) / 2:Nat):Int):=by
  rw[<- fh h,uA _ (by decide)];rfl
 have h1:Bw nums m lost<=(m-lost) / 2:=Int.toNat_le.mpr (Int.max_le.mpr ⟨Ja _,by
  unfold bP;rw[e];exact fW _ (bf _ (by decide))⟩)
 exact ka (Ec (ka (Be 2 h1) (Nat.mul_div_le _ 2)) lost) (Yc (Vf h))
noncomputable def dn(nums:List Int)(t:Nat):Int:=ae nums (Qh ((t:Int)+1) (nums.length:Int))
noncomputable def dk(nums:List Int)(t n:Nat):Nat:=(Qh (Uk (dn nums t) 3+7*t) (n:Int)).toNat
noncomputable def da(nums:List Int)(t:Nat):Int:=1+Qh (dn nums t+5*t) 255
theorem rJ(nums:List Int)(t n:Nat)(h:0 < n):dk nums t n < n:=(Dt _ h).1
theorem a1O(nums:List Int)(t:Nat):0<=da nums t/\da nums t < 256:=
 ⟨vA (by decide) (bf _ (by decide)),Int.add_lt_add_left (lh _ (by decide:(0:Int) < 255)) 1⟩
noncomputable def P0(total:Nat):List Int:=(Ea total).map Je
theorem lC(total:Nat):(P0 total).length=total:=uk
theorem tX{total:Nat}(p:Int)(hp:p∈P0 total):0<=p/\p < (total:Int):=(Ma.mp hp).elim λi q=>q.2▸⟨Ja i,jc.mpr (zc.mp q.1)⟩
theorem a2f(total:Nat):(P0 total).Nodup:=by
 delta eM P0;rw[av];exact dw.imp λh q=>h (vh q)
noncomputable def R4(l:LZ)(t:Nat):List Int:=PT (dk l.nums) (P0 l.total) t
noncomputable def SR(l:LZ)(C:List Int)(t:Nat):List Int:=WT (dk l.nums) (P0 l.total) (da l.nums) C t
noncomputable def fK(l:LZ)(t:Nat):Int:=UR (dk l.nums) (P0 l.total) t
noncomputable def HG(l:LZ)(lost t:Nat):List Nat:=(Ea (min t lost)).map λi=>(fK l i).toNat
theorem tT(l:LZ)(t:Nat):(R4 l t).length=l.total-t:=(kC (rJ l.nums) t).trans (congrArg (· - t) (lC _))
theorem CU(l:LZ)(lost t:Nat):(HG l lost t).length=min t lost:=uk
theorem Fu(l:LZ){t:Nat}(h:t < l.total):0<=fK l t/\fK l t < (l.total:Int):=YN (rJ l.nums) tX ((lC l.total).symm▸h)
theorem pP{l:LZ}{lost t:Nat}(h:t < l.total):zl (HG l lost (t+1))=if t < lost then zl (HG l lost t)++[fK l t] else zl (HG l lost t):=by
 unfold HG;by_cases q:t < lost
 ·rw[if_pos q,Qi q,Qi (uc q),<- VA,<- jw,gf (Fu l h).1]
 ·rw[if_neg q,Ol (ye q),Ol (Xa (ye q))]
noncomputable def LD(l:LZ)(C:List Int)(lost a t:Nat):List (Ba×P):=("known",.il (zl (HG l lost t)))::("places",.il (R4 l t))::("damaged",.il (SR l C t))::("wrong",.int a)::("lost",.int lost)::L5 l C
section
variable{as:List Ba}{Q:Ff->aa->Prop}{rest:List Ya}
 (c:LC w A N ν) {l:LZ} {C:List Int} (hC:C.length=l.total) (WI:l.total<=26) (h0:0 < l.nums.length) (h1:l.nums.length<=30) (r1:rd.contains "places"=be) (r2:rd.contains "damaged"=be) (r3:rd.contains "known"=be)
include c hC WI h0 h1 r1 r2 r3
theorem l0{lost a t:Nat}(ht:t < l.total)(x:SP (GW w) ν rd (("turn",.int t)::LD l C lost a t) δ Fm ς K s):dY w A ν qU rd (LD l C lost a (t+1)) δ Fm ς K s:=λQ k=>by
 have b:∀{n},n<=l.total->n<=256:=λh=>ka h (ka WI (by decide));have i:(SR l C t).length=l.total:=(iC t).trans hC;have d:=Fu l ht;have pl:=tT l t;have p:0 < (R4 l t).length:=pl▸ej ht;have o:(R4 l t).length<=2 ^ 24:=dm (b (pl▸Rf ..));have r:=Dt (Uk (dn l.nums t) 3+7*t) p;have m:fK l t < (SR l C t).length:=by rw[i];exact d.2
 have j:(SR l C t).length<=2 ^ 24:=dm (b (Yc i));have ks:=pP (lost:=lost) ht;unfold LD at k;rw[ks] at k;refine Oj a0n (zb (sA c (lF rfl) x rfl ⟨⟨tr,⟨t3,tt,ka h1 (by decide)⟩,FG h0⟩,a0D _ h0 h1⟩ rfl rfl (by kernel_rfl)) λs1 z=>?_);refine zb (sO c (lF rfl) z (v:="place") (y:="places") rfl (Us rfl r.2) ⟨⟨⟨⟨⟨tt,by decide,by decide,by decide⟩,tt,.inl ⟨by decide,by decide⟩⟩,tr⟩,tt,o⟩,FG p⟩ (Ja _) (jc.mpr r.1) o (by decide) r1 rfl rfl rfl (by kernel_rfl)) λs2 f=>?_;have f:SP (GW w) ν rd (("place",.int (fK l t))::("places",.il (R4 l (t+1)))::("number",.int (dn l.nums t))::("turn",.int t)::LD l C lost a t) δ Fm ς K s2:=f;refine zb (sS c (lF rfl) f (y:="damaged") rfl rfl ⟨⟨⟨tt,Ph (Lo (Ja _)) d.1,m,j⟩,⟨tr,⟨⟨⟨tr,tt,.inl ⟨by decide,by decide⟩⟩,tr⟩,tr⟩,by decide⟩,tr⟩,tr⟩ rfl tr d.1 m j r2 rfl rfl (by kernel_rfl)) λB x3=>?_;have x3:SP (GW w) ν rd (("damaged",.il (SR l C (t+1)))::("place",.int (fK l t))::("places",.il (R4 l (t+1)))::("number",.int (dn l.nums t))::("turn",.int t)::LD l C lost a t) δ Fm ς K B:=x3;refine zb (sI c (lF rfl) x3 rfl ⟨tt,tr⟩ (λq g e D k'=>?_) λq g e D k'=>?_) λg e=>Ef (k g e)
 ·rw[if_pos (jc.mp (of_decide_eq_true q))] at k';exact Oj a0m (zb (sP c (lF rfl) e (y:="known") rfl rfl tr (dm (te (HG l lost t)▸CU l lost t▸b (ka (Lq ..) (uc ht)))) r3 rfl rfl rfl (by kernel_rfl)) λE u=>mE k' u [0,3,1] 9 rfl rfl)
 ·rw[if_neg λh=>of_decide_eq_false q (jc.mpr h)] at k';exact Oj a0l (mE k' e [5,2,0] 8 rfl rfl)
theorem a0v{lost b:Nat}(B:lost=bB l.nums (l.total-l.room))(o:b=Bw l.nums (l.total-l.room) lost)(x:SP (GW w) ν rd (L5 l C) δ Fm ς K s)
  (k:∀s',SP (GW w) ν rd (LD l C lost b (lost+b)) δ Fm ς K s'->zd (ja PP w) A (Oc rest ν) Q s'):
  zd (ja PP w) A (Oc (fa tg 11::fa tg 12::fa tg 13::fa tg 14::fa tg 15::fa tg 16::rest) ν) Q s:=by
 have h:=Dt (Uk (ae l.nums (-1)) 4) (Nv (l.total-l.room));have i1:-(l.nums.length:Int)<=-1/\(-1:Int) < l.nums.length/\l.nums.length<=2 ^ 24:=⟨Int.neg_le_neg (Xf.mpr h0),Af (by decide) (Ja _),ka h1 (by decide)⟩;have em:=(gf (Hy 0 (bP l.nums (l.total-l.room) lost))).symm;rw[show(max 0 (bP l.nums (l.total-l.room) lost)).toNat=b from o.symm] at em;rw[show(Qh (Uk (ae l.nums (-1)) 4) ((l.total-l.room+1:Nat):Int)).toNat=lost from B.symm] at h;have m:=ux l.nums (Tf h.1);rw[<- o] at m;have lt:lost+b<=l.total:=ka (Ec (Qp b (by decide:0 < 2)) _) (ka m (Rf ..));rw[a4I,a4H,a4G,a4F,a4E,a4D];refine Jm (sA c (lF rfl) x (Us rfl h.2) ⟨⟨⟨⟨⟨tt,i1⟩,tr⟩,by decide,by decide,by decide⟩,tt,tr⟩,λe=>nomatch vh e⟩ rfl rfl (by kernel_rfl)) λs1 d=>d.elim λH d=>?_;refine Jm (OE (as:=Fm) (n:=9) (i:=bP l.nums (l.total-l.room) lost) c.g c.so (lF rfl _ _ d.2) d.2 (y:="wrong") rfl ⟨⟨⟨⟨t3,tr⟩,by decide,by decide,by decide⟩,⟨⟨⟨⟨tt,i1⟩,tr⟩,by decide,by decide,by decide⟩,tr⟩,by decide⟩,tr⟩ ((c.ek _).trans (by kernel_rfl)) (oe w (.tail _ (.tail _ (.tail _ (.head _))))) (c.kd (as:=Fm) rfl).1 (c.kd (as:=Fm) rfl).2 (by kernel_rfl)) λs2 j=>?_;rw[em] at j;refine Jm (sA c (lF rfl) (j.trans d.1) rfl ⟨tt,dm (hC▸ka WI (by decide))⟩ rfl rfl (by kernel_rfl)) λE x3=>x3.elim λG x3=>?_;refine Jm (lz (as:=Fm) c.g x3.2 (y:="places") (nm:="total") rfl rfl (ka WI (by decide)) ((c.ek _).trans (by kernel_rfl)) ((c.ek _).trans (by kernel_rfl)) (oe w (.tail _ (.tail _ (.head _)))) (oe w (.tail _ (.head _))) (c.kd (as:=Fm) rfl).1 (c.kd (as:=Fm) rfl).2 (by kernel_rfl)) λD r=>?_;refine Jm (sA c (lF rfl) (r.trans x3.1) rfl ⟨tr,by decide⟩ rfl rfl (by kernel_rfl)) λv f=>?_;have f:SP (GW w) ν rd (LD l C lost b 0) δ Fm ς K v:=by
  have e:HG l lost 0=[]:=by unfold HG;rw[Nat.zero_min];rfl
  unfold LD;rw[e];exact f
 refine Jm (sR (xs:=yg 0 (lost+b:Nat) 1) c (lF rfl) f rfl ⟨⟨t3,tr⟩,ku (n:=lost+b) (ka lt (ka WI (by decide)))⟩ rfl rfl (LD l C lost b) rfl λi a K' p s' z Z t=>?_) λu q=>k u (ql (lost+b)▸q)
 refine(jn z).elim λe hi=>?_
 subst e;exact l0 c hC WI h0 h1 r1 r2 r3 (ya hi lt) t
end
theorem OV{l:LZ}{C:List Int}(hC:C.length=l.total){p t:Nat}(ht:t<=l.total)(h:nN (SR l C t) p≠nN C p):∃i,i < t/\(fK l i).toNat=p:=by
 induction t with
 |zero=>exact absurd rfl h
 |succ t b=>
  by_cases q:p=(fK l t).toNat
  ·exact⟨t,Xc t,q.symm⟩
  ·have a:=Fu l ht
   refine(b (fj ht) λe=>h (Eq.trans ?_ e)).imp λi q=>⟨Cd q.1,q.2⟩
   show(((SR l C t).set (fK l t).toNat _).getD p 0).toNat=_
   rw[Mu ((Aj a.1).mpr (((iC t).trans hC:(SR l C t).length=l.total)▸a.2)),if_neg q];rfl
noncomputable def zD(l:LZ)(C:List Int)(lost t:Nat):MZ:=⟨0,SR l C t,HG l lost t,l.total-l.room⟩
theorem zU{l:LZ}{C:List Int}(hC:C.length=l.total)(s:dj C)(WI:l.total<=26)(t:∀r,r < l.total-l.room->hv r (nN C) l.total=0){lost c:Nat}(h:lost+2*c<=l.total-l.room):mz (zD l C lost (lost+c)) C:=by
 have h2:lost+c<=l.total:=ka (Ec (Qp c (by decide:0 < 2)) _) (ka h (Rf ..));have hl:∀{i},i < lost->i < l.total:=λh=>ya (ya h (Za ..)) h2;have d:l.total<=255:=ka WI (by decide);have hT:lost+c<=(P0 l.total).length:=(lC _).symm▸h2;have n:(SR l C (lost+c)).length=l.total:=(iC _).trans hC;have o:HG l lost (lost+c)=(Ea lost).map λi=>(fK l i).toNat:=by unfold HG;rw[Ol (Za ..)]
 refine⟨ER (rJ l.nums) tX s (a1O l.nums) _ hT,s,hC.trans n.symm,n.symm▸d,ka (Rf ..) d,λr hr=>(congrArg _ n).trans (t r hr),λp hp=>?_,?_,?_⟩
 ·refine(Ma.mp (o▸hp:p∈(Ea lost).map λi=>(fK l i).toNat)).elim λi q=>?_
  have:=Fu l (hl (zc.mp q.1));exact n.symm▸q.2▸(Aj this.1).mpr this.2
 ·show(HG l lost (lost+c)).Nodup
  rw[o];delta eM;rw[av];refine List.pairwise_lt_range.imp_of_mem λ{i j} hi g k e=>?_;have g:=hl (zc.mp g);exact KY (rJ l.nums) (a2f l.total) k ((lC _).symm▸g) ((gf (Fu l g).1).symm.trans ((congrArg Je e.symm).trans (gf (Fu l (zj k g)).1)))
 ·have f:=len_sub (a:=wD (zD l C lost (lost+c)) C) (b:=(Ea c).map λi=>(fK l (lost+i)).toNat) (QM ..) λp hp=>by
   have m:=Ct.mp hp
   refine(OV hC h2 λe=>m.2.1 ((congrArg (·^^^nN C p) e).trans (xg _))).elim λi q=>?_
   have hl:lost<=i:=ye λz=>m.2.2 (show p∈HG l lost (lost+c) from o▸Ma.mpr ⟨i,zc.mpr z,q.2⟩);exact Ma.mpr ⟨i-lost,zc.mpr (Nat.sub_lt_left_of_lt_add hl q.1),by rw[YL hl];exact q.2⟩
  rw[uk] at f
  show(HG l lost (lost+c)).length+_<=l.total-l.room
  rw[o,uk];exact ka (Ec (Be 2 f) _) h
section
variable{as:List Ba}{Q:Ff->aa->Prop}{rest:List Ya}
theorem GP(x:∃vs m,h.get? a=ac (wb vs m)/\IntsAre vs ns):VR h (.il ns) (.ref a):=x.elim λvs q=>q.elim λm q=>⟨_,vs,m,rfl,q⟩
theorem a0u(c:LC w A (N+4) ν)(F:Fk w s.heap)(i:ve s.heap 1977 1975 #[])(n:∀o,¬K 1975 o){l:LZ}{C:List Int}{lost a t:Nat}(d:mz (zD l C lost t) C)(x:St (GW w) ν rd (LD l C lost a t) δ ς K s)
  (m:∀s' ps,(∃h tk,s'={ς with heap:=h,toks:=tk})->(∀b o,K b o->s'.heap.get? b=ac o)->s'.heap.get? 1975=ac (SF ps)->Q (.ret (.bool a8)) s'):
  wpAny (ja PP w) A (Cg (fa tg 17) ν) Q Hc s:=by
 have D:=c.ek;have l1:=x.list (y:="damaged") rfl;have l2:=x.list (y:="known") rfl;rw[a4C];refine wpAny_Return_some (a2R (hm:=rfl) (Rc ⟨_,_,rfl⟩ (Tg x.re ((D _).trans (by kernel_rfl)) (a1p w) (by decide) (md (xs:=[eval (.Name "damaged" _) ν,eval (.Name "checks" _) ν,eval (.Name "known" _) ν]) (show 3<=30 by decide) ?_))));refine vd x.kind l1.1 rfl rfl ((x.look "checks" (.int (l.total-l.room:Nat)) rfl).elim λu q=>vd x.kind q.1 rfl rfl (q.2.1.elim λu B=>?_));rw[B];refine vd x.kind l2.1 rfl rfl (fm (F.uf 32 rfl rfl) (a1v w).data ?_);refine jE (z:=zD l C lost t) (N:=N) c.g F i d (x.apart "damaged" "known" _ _ (by decide) (by decide) rfl rfl) (GP l1.2) (GP l2.2) λv s' ps hv f hk ht=>f.elim λh' f=>f.elim λtk f=>?_;subst f;have j:=x.other (h':=h') (tk:=tk) i.tab rfl n λb o hb e=>hk b o ⟨e,hb⟩;have k:=j.list (y:="words") rfl;refine vd j.kind k.1 rfl rfl (Ig (Mt (op:=.Eq) (p:=.il C) (q:=.il C) rfl hv (GP k.2) c.g.units) λr Sg h=>?_);rw[h.1,h.2,decide_eq_true rfl];exact m _ ps j.sh j.ks ht
end
noncomputable def fy(h:Xb):Xb:=Dm (Fj h) 1975
theorem nr(e:(fy h).get? b=ac o):h.get? b=ac o/\(b≠1940/\b≠1892)/\b≠1975:=by
 have a:=Cm e;refine⟨Zz a,⟨?_,?_⟩,?_⟩
 ·rintro rfl;exact gy a
 ·rintro rfl;exact FE a
 ·rintro rfl
  unfold fy at e;rw[qm] at e;cases e
theorem DE:∀b o,(fy h).get? b=ac o->h.get? b=ac o/\b≠1940/\b≠1892:=λb o e=>⟨(nr e).1,(nr e).2.1⟩
theorem lP(w:sa)(s:aa)(l:ma)(vs:List Value)(ns:List Int)(FI:Oi w s.heap)(hg:s.gens=#[])(hl:s.heap.get? l=ac {cls:=.type "list",data:=.seq vs.toArray})(hI:IntsAre vs ns)(h63:ns.length<=63):
  zd (ja PP w) vM (call (.ref 1983) [.ref l]) (λv s'=>v=.bool a8/\OldK s.heap s'.heap/\s'.os=s.os/\AllBare s'.gens) s:=by
 have F:Fk w s.heap:=.of FI;have F0:Fk w (fy s.heap):=((F.off (by decide)).off (by decide)).off (by decide);have g:GK 60 vM:=⟨⟨rfl,by decide,by decide⟩,rfl⟩;refine fo (N:=58) (G:=GW w) (rd:=["script"]) (σ:=[("script",.il ns)]) (δ:=λZ=>l) (ς:={s with heap:=fy s.heap}) (K:=Uv s) (a1w w) g (F.uf 44 rfl rfl) (F.uf 46 rfl rfl) (lR _) (by kernel_rfl) (by kernel_rfl) ⟨s.heap,s.toks,rfl⟩ (sf F0)
  (λZ Z e=>(nr e).1) (λZ Z e=>e) ⟨⟨rfl,⟨l,vs,0,rfl,hl,hI⟩,λZ Z=>⟨rfl,by simp⟩⟩,trivial⟩ (λx y ns' ms hne e1 e2=>?_) λo7 ν Q k B vK=>?_
 ·exact absurd ((congrArg gp (Ca.mp (Qc e1))).trans (congrArg gp (Ca.mp (Qc e2))).symm) hne
 have c:LC w (vM.deeper ν) 58 ν:=⟨k.ga,by subst Q;kernel_rfl,by subst Q;kernel_rfl,DD⟩;rw[a0o,lw0];have D:ns.length<=2 ^ 24:=ka h63 (by decide);refine Jm (sA c (lF rfl) (SP.of (as:=Mr) B) (p:=.il (vx ns)) rfl ⟨⟨⟨⟨tt,D⟩,tr⟩,tr⟩,λZ=>⟨tt,by decide,D⟩,λZ=>⟨tt,by decide⟩⟩ rfl rfl (by kernel_rfl)) λs2 y2=>?_;refine ue λhC=>?_;obtain ⟨n0,n1⟩:=EG ns;generalize a6E:vx ns=nums at y2 n0 n1;obtain ⟨a2,f2,x2⟩:=y2.pk (τ:=[("numbers",.il nums)]) [0] 2 rfl rfl;refine hC ?_;have q0:=bf (ae nums 0) (show(0:Int) < 4 by decide);have q1:=lh (ae nums 0) (show(0:Int) < 4 by decide);refine ue λhC=>?_;obtain ⟨y,lv,f⟩:=a4Q w ((ae nums 0).fmod 4).toNat ((Aj q0).mpr q1);refine hC ?_;have gl:=f.ok.hgl;have rm:=f.ok.hrm;have a:=f.tot;have rt:=f.gt;have ge:y.gen.length=y.total-y.room:=by rw[<- gl,Jg]
 refine ub (j0 (N:=54) c F0 n0 n1 f x2 λa3 s3 y3=>⟨rfl,?_⟩);refine a0x (l:=⟨nums,y.v,lv,y.total,y.room⟩) c n0 n1 (uc rt) a rfl y3 λa5 s5 y5=>?_;have V:=DR nums y.room;have A:=IH nums y.room;have hw:wordsOf (xd (Wm nums y.room)) y.room=Wm nums y.room:=by
  have:=PM V
  rwa [A] at this
 have bK:=Vx (gen:=y.gen) V;have lK:=Ux y.gen (Wm nums y.room);have j:vm (Wm nums y.room) (qh y.gen (Wm nums y.room))=xd (Wm nums y.room++qh y.gen (Wm nums y.room)):=(Zx ..).symm;have bC:dj (Wm nums y.room++qh y.gen (Wm nums y.room)):=V.append bK;have E:(Wm nums y.room++qh y.gen (Wm nums y.room)).length=y.total:=by rw[Nb,A,lK];exact gl
 have oC:(Wm nums y.room++qh y.gen (Wm nums y.room)).take y.room=Wm nums y.room:=by rw[Pw (Yc A.symm),Ye (Yc A)]
 have lB:(xd (Wm nums y.room)).length=8*y.room:=by rw[Mh,A]
 have hg5:s5.gens=s.gens:=by obtain ⟨_,_,x5⟩:=y5;obtain ⟨_,_,e⟩:=x5.sh;rw[e]
 refine ub (YZ (N:=34) (sI:=s) (σ:=L4 ⟨nums,y.v,lv,y.total,y.room⟩ (Wm nums y.room)) (y:=y) (bits:=xd (Wm nums y.room)) ⟨c.g.mono (by decide),c.hsc,c.hbk,c.hnm⟩ k FI DE F0 (by rw[hg5,hg];exact λz hz=>absurd hz (Array.not_mem_empty z)) f.ok (Fq V) (ka (Yc lB) (ka (Be 8 (ka (uc rt) a)) (by decide))) (by rw[lB,Nat.le_div_iff_mul_le (by decide),Pp];exact Za _ 7) rfl (by rw[f.pe];rfl) rfl y5 f.hv ?_ λs6 p q hb6 y6=>⟨rfl,?_⟩)
 ·rw[hw,j];exact⟨(Fq bC).byt,by rw[Mh,E];exact ka (Be 8 a) (by decide)⟩
 rw[hw,j] at y6;have hgb:∀g∈y.gen,0<=g/\g < 255:=λv hv=>by
  have q:=wa.mp (Aa.mp f.ok.hgb v hv);exact⟨of_decide_eq_true q.1,of_decide_eq_true q.2⟩
 have zC:∀r,r < y.total-y.room->hv r (nN (Wm nums y.room++qh y.gen (Wm nums y.room))) y.total=0:=λr hr=>by
  have:=uL hgb V f.gk (r:=r) (Hi hr ge.symm);rw[A,gl] at this;exact this
 generalize Wm nums y.room++qh y.gen (Wm nums y.room)=C at y6 bC E zC oC;refine a0w (l:=⟨nums,y.v,lv,y.total,y.room⟩) c a rfl E bC oC y6 λs8 y8=>?_;refine a0v (l:=⟨nums,y.v,lv,y.total,y.room⟩) c E a n0 n1 rfl rfl rfl rfl rfl y8 λs9 y9=>?_;have lw:=ux nums (m:=y.total-y.room) (lost:=bB nums (y.total-y.room)) (Tf (Dt _ (Nv _)).1);generalize Bw nums (y.total-y.room) (bB nums (y.total-y.room))=a6b at lw y9;generalize bB nums (y.total-y.room)=lost at lw y9;refine ue λhC=>?_;obtain ⟨a9,f9,Y⟩:=y9;refine hC ?_;have x9':=Y.weak (K':=λb o=>K7 s p q b o/\b≠1975) (λb o h=>h.1) λb o (e:(fy s.heap).get? b=ac o)=>⟨.inl (.inl (DE b o e)),(nr e).2.2⟩;refine ue λhC=>?_;obtain ⟨i40,i92,M⟩:=FI.code;refine hC ?_;have L:ve s9.heap 1977 1975 #[]:=by
  refine ue λhC=>?_;obtain ⟨⟨o,vs',d,r⟩,t⟩:=M.2;refine hC ?_;have e1:=Y.ks 1977 o (.inl (.inl ⟨d,by decide,by decide⟩));have e2:=Y.ks 1975 _ (.inl (.inl ⟨t,by decide,by decide⟩));exact M.mv d t e1 e2
 refine Hl (kc (a0u (N:=54) c (F0.kp (s:={({s with heap:=fy s.heap}:aa) with gens:=s6.gens}) Y.kp) L (λo h=>h.2 rfl) (zU (l:=⟨nums,y.v,lv,y.total,y.room⟩) E bC a zC lw) x9' λi ps O u I=>?_));refine⟨⟨_,rfl⟩,rfl,?_,?_,?_⟩
 ·refine ue λhC=>?_;obtain ⟨t40,t92,t75⟩:=FI.code;refine hC ?_;have J:=u 1940 _ ⟨.inl (.inr ⟨rfl,rfl⟩),by decide⟩;have H:=u 1892 _ ⟨.inr ⟨rfl,rfl⟩,by decide⟩;have n:∀{c T:ma} {ps:Array Value} {o:Jb},ve s.heap c T #[]->s.heap.get? T=ac o->i.heap.get? T=ac (SF ps)->asItWas s.heap i.heap T o:=by
   intro c T ps o ic eo e;have e0:=ic.tab;rw[e0] at eo;obtain rfl:=xa eo;exact .inr (.inl ⟨ic.2.isCodeTable,rfl,#[],ps,rfl,by rw[Array.empty_append];exact e⟩)
  have old:∀b o,s.heap.get? b=ac o->asItWas s.heap i.heap b o/\∃o',i.heap.get? b=ac o':=by
   intro b o e;by_cases b1:b=1940
   ·subst b1;exact⟨n t40 e J,_,J⟩
   by_cases b2:b=1892
   ·subst b2;exact⟨n t92 e H,_,H⟩
   by_cases b3:b=1975
   ·subst b3;exact⟨n t75 e I,_,I⟩
   have:=u b o ⟨.inl (.inl ⟨e,b1,b2⟩),b3⟩;exact⟨.inl this,o,this⟩
  exact⟨λb o e=>(old b o e).1,λb o e=>(old b o e).2⟩
 ·obtain ⟨_,_,e⟩:=O;rw[e]
 ·obtain ⟨_,_,e⟩:=O;rw[e];exact hb6
end Mine
open PySem PySem.W PyProof.Rows
theorem PySem.Challenge.cw_im0110_01_holds : PySem.Challenge.rw_im0110_01.Holds :=
  Mine.Yy Mine.lP
