import PyProof.Rows.All
import Wide.All
import KE.KLam
import OpenK.AllK
import Wide.FinOn
import KE.KSuper
import Flt.RightMore
import OpenK.XOpen
import Lean
import PySem.Challenge.RW_tr0060_01
set_option Elab.async false
set_option linter.all false
set_option bootstrap.genMatcherCode false
set_option compiler.extract_closed false
set_option backward.match.sparseCases false
set_option genCtorIdx false
set_option genSizeOf false
set_option genSizeOfSpec false
set_option genInjectivity false
set_option maxRecDepth 100000
set_option maxHeartbeats 8000000
open Option renaming some->aE,none->aT,bind_some->kP,map_some->sZ,none->Bx,isNone_none->O8,noConfusion->O9,elim->Ga,getD_some->OE,map->Gd
open PySem renaming wpAny_bind->cq,wpAny_pure->cW,wpAny->cD,Value->b_,model->cm,Shared->cz,Addr->cE,Heap->cQ,wpAny_holding->eU,wpAny_field->fi,wpAny_newObj_type->jy,Around->et,wpAny_callSpecial?_slot->oQ,wpAny_call_entry->kO,wpAny_call->g_,sizeLine_eq->iK,wpAny_of_eq->iL,wpAny_standAt->jW,wpAny_seqItems->iY,firstArgMember->jn,wpAny_isInstance->kl,codeAny->fA,NameKind->gd,wpAny_rule->ip,wpAny_Name->iF,wpAny_execs_cons->mO,wpAny_attempt->l6,eval->ei,builtinLookup_eq_fast->qS,wpAny_setField_rec->pD,mainGlobals->kn,isInstance->jJ,slot_listiter_next->qX,wpAny_mono->kq,typeLookup->kr,Stmt->eQ,World->gf,Operator->jL,pyNext->h_,wpAny_loadName_local->uS,isTrue->nZ,wpAny_specialOf->r4,argsOk->i7,typeLookup_type->r5,getItem->pP,wpAny_Assign_stores->uV,wpAny_setField->r8,isSubtype_stop->r9,entryFor_of_tree->sY,sliceBounds->n_,cellsFrom->lR,OsState->jM,wpAny_handled->rg,wpAny_Call_ofName->uY,wpAny_truthy_bool->uZ,Model->i8,wpAny_letTemporaryGo->y1,NoneBooked->o6,codeAny_call_builtin->y3,compareOp->mU,seqIndex?->mV,builtinType_eq_fast->y8,builtinsNs->pS,ks_wpAt_execs_cons->yh,wpAny_allTrue_And_cons->AS,FuncData->mX,wpAny_throw->rj,wpAny_letGo->rk,Program->lT,codeAny_mono->t6,isSubtype_type->ve,checkBoundCall->vg,wpAny_listPart->vh,specialOf->pU,CmpOp->jr,callEnvC->o9,typeIs_int->rm,field->js,wpAny_loadName_free->B3,entry_listiter_next->B4,binaryOp->pW,args_listiter_next->B5,wpAny_assign_Name->Ba,wpAny_mkInt->vp,keywordEach->vq,typeOf->mY,wpAny_release->yp,plainId_quiet->yq,ZipApart->rr,entryFor->ru,getMethod->td,getAttr->pX,spliced->pY,slicePick->tj,closureFor->vr,wpAny_mkText->yu,methodCall->vv,wpAny_execs_nil->Bg,wpAny_updateSeq_pair->Fe,wpAny_updateSeq->Bj,nsFind->oh,codeAny_of_tree->Bk,wpAny_evalPart_none->Fg,builtinKind->yy,builtinType->yA,TriplesOk->vx,pyIter->pZ,assign->p_,wpAny_pyIter_tuple->Fn,builtinOwn_eq_fast->Fo,wpAny_onRaise->Bp,wpAt_of_wpAny->Bq,wpAny_Return_some->Fq,wpAny_sharingNotTold_none->Ni,sliceRange->yC,wpAny_load->yD,fastLookup->yE,truthy->rz,backToKw->vy,ks_wpAt_mono->Br,IsPart->rA,callGetattribute->Fu,wpAny_typeOf->Bt,callSpecial?->Bu,clipAt_nat->Fw,wpAny_list_append_plain->Nr,sub_int_bytearray->Nv,execs->q0,strValues->yF,codeAny_builtin->FB,DictEntry->yG,recursionLimit->FD,relabel->vz,wpAny_newTuple->FE,wpAny_allTrue_And_nil->NF,wpAny_allTrue_Or_cons->NG,wpAny_isTrue_Compare1->NH,codeAny_call_function->NI,wpAny_pyIter_listiter->NJ,preSum->tv,GenState->yH,wpAny_newFunctionEnv->NQ,typeIs_str->BA,table->rC,codeAny_sum_loopAnyS->NT,assignInOrder->FK,comprehension->FO,behindInMarks->FP,methodCallPos->FQ,wpAny_isTrue_BoolOp->O0,ks_wpAt_Return_some->O2,sub_int_bytes->O3,Flow->qb,isSubtype->BC,Drawn->tw,Keyword->yI,wpAny_truthy_list->Od,wpAny_pyIter_list->Of,sub_int_str->Om,args_list_getitem->Oo,IsRangeIter->G6,excClassObj->G7,bindSpecial->G8,wpAny_askSetting->Ov,wpAny_pyIter_zip->Oy,opaqueClassAbove->OA,sliceIndices_raw->OC,BoolOp->yL,letOwnedTupleGo->OL,pushCells_keeps->OM,bindL->vA,bindC->vB,newExc->yM,builtinOwn->Gf,setItem->BD,newFunctionEnv->OY,constantsAlone->OZ,operate->BE,letTemporaryGo->O_,wpAny_loadPart->P0,TriplesOk_snoc->P1,slice_no_index->P2,Arguments->Gg,wpAny_ite->Gh,keeperOf->Gi,loadName->Gj,cellOf->BF,compPost->Gk,sizeLine->Gm,newTuple->Gp,raiseNew->Gq,headPart->Gr,classOwn->Gu,calleeOf->Gv,GenOnlyQ->Gx,bindArgs->Gy,wpAt->Po,call->Pq
open Nat renaming le_trans->cx,le_of_ble_eq_true->cZ,le_of_eq->c_,le_refl->d9,add_le_add_left->eY,le_add_left->ej,le_add_right->eO,le_antisymm->eC,lt_of_lt_of_le->fl,lt_of_le_of_lt->fC,le_succ->dU,succ_pos->ek,add_le_add->eT,le_of_lt->eV,zero_le->eW,ne_of_gt->fx,le_of_not_lt->ia,pos_of_ne_zero->j4,mul_le_mul_left->ju,lt_succ_of_le->j7,add_assoc->ic,add_right_comm->kL,lt_of_not_le->jU,not_lt_of_le->jV,le_succ_of_le->kM,zero_add->iH,succ_le_succ->kQ,add_le_add_right->oT,min_eq_left->lE,lt_succ_self->jG,lt_irrefl->iC,add_comm->iE,sub_le->gZ,lt_of_succ_lt_succ->pz,le_of_lt_succ->mM,ne_of_lt->jI,add_sub_cancel'->pC,le_of_succ_le->nR,zero_lt_of_lt->nT,lt_of_le_of_ne->pE,min_eq_right->nU,min_le_right->pI,lt_of_succ_lt->qY,add_lt_add_left->sV,add_zero->mR,mul_lt_mul_of_pos_left->xV,not_le_of_lt->qZ,le_max_right->q_,sub_add_cancel->sW,sub_eq_zero_of_le->uR,le_max_left->r6,mul_le_mul->r7,add_sub_add_right->xY,sub_pos_of_lt->v7,pow_le_pow_right->y2,succ_ne_zero->v8,lt_of_lt_of_eq->yi,min_le_left->vc,le_of_add_right_le->AW,lt_succ_of_lt->yj,lt_trichotomy->yk,sub_self->t7,succ_lt_succ->ym,add_sub_add_left->B1,mod_lt->ro,add_mul->t9,lt_trans->vm,mul_right_comm->B9,lt_add_of_pos_right->F5,one_mul->vn,le_of_succ_le_succ->F7,max_eq_right->Bd,mul_le_mul_right->Fc,sub_zero->yx,max_eq_left->Bn,div_lt_of_lt_mul->Ff,mod_two_eq_zero_or_one->Nh,le_of_not_le->Fy,add_sub_cancel_left->Ny,not_lt_zero->FA,two_pow_pos->FC,mul_add->Bw,le_of_add_left_le->NL,le_of_sub_eq_zero->NO,add_lt_of_lt_sub'->NP,sub_lt->BB,sub_le_of_le_add->NV,add_max_add_left->NX,add_min_add_left->NY,zero_mul->FX,lt_or_ge->F_,le_total->G0,add_sub_cancel->O7,lt_of_succ_le->Oq,lt_of_sub_pos->Ot,mod_eq_of_lt->OI,mul_assoc->P8,cast->Gn,mul_one->Pj,one_pos->Pk,add_mod->Pl,ble->GA
open Bool renaming true->bK,false->cu,false_ne_true->dF,noConfusion->dG,and_eq_true->eB,not_eq_true'->m_,false_eq_true->qW,and_true->FL,and_self->FU,eq_iff_iff->OS,or_eq_true->OU,and_false->P4,false_or->Pe,or_true->Pi
open Option.some renaming inj->dk,injEq->Oe
open PySem.Heap renaming get?_push_of_some->dK,get?_push_size->fg,get?_update_self->oR,lt_size->jk,SameBut->km,size_push->lO,ExtBut->l8,get?_none_of_le->y4
open List renaming length_append->dJ,replicate->dw,length_map->eE,getElem?_eq_getElem->gK,not_mem_nil->fh,getElem?_append_left->jR,map_cons->fS,getD_eq_getElem?_getD->kK,range->eZ,getElem?_append_right->lX,mem_of_getElem?->jS,append_assoc->j5,append_nil->ib,length_cons->j8,size_toArray->jw,getElem?_map->jx,all_eq_true->jj,take_of_length_le->lY,mem_of_mem_take->lZ,range'->gO,mem_append_right->mZ,length_take->kN,map_append->kx,mem_append_left->oS,cons_append->l_,toArray->gW,mem_singleton->ki,flatten_cons->kj,head_eq_of_cons_eq->nM,getElem?_of_mem->mI,replicate_succ->mJ,cons_ne_nil->l5,flatMap_cons->lM,getElem?_concat_length->sT,length->i_,mem_of_mem_drop->pB,concat_eq_append->qT,length_range'->pF,length_drop->nV,getLast?_append->qU,zipWith->l7,mem_cons->lP,prefix_refl->pG,lookup_cons->pH,filter_cons->pK,foldl_cons->pL,nil_append->pN,map_map->mQ,set_comm->nX,sum_cons->nY,intersperse_cons_cons->xU,getLast?_eq_getElem?->xW,eq_nil_of_length_eq_zero->AL,take_append_of_le_length->AN,mem_map_of_mem->uT,filterMap_cons->uU,getElem_mem->sX,getElem?_set_self->xX,set_append_right->xZ,eq_nil_or_concat->x_,length_replicate->y0,all_cons->rd,reverse_cons->u_,length_range->v5,append_ne_nil_of_right_ne_nil->F1,set_set->ri,map_congr_left->y6,flatMap_append->yb,prefix_append->yc,filterMap_map->yd,of_mem_zip->v9,getElem?_drop->ye,drop_of_length_le->AV,count_append->yl,forIn_nil->vd,count_cons_of_ne->AX,getElem?_set_ne->AY,getLast?_concat->A_,mem_cons_of_mem->B0,any_cons->vi,map_drop->vj,length_filterMap_le->F3,mem_cons_self->B8,eraseIdx_append_of_length_le->N5,map_take->yt,take_length->Bb,take_append->Bc,take_append_drop->F8,length_filter_le->Fb,forIn_cons->Be,nodup_cons->Bf,length_nil->Bl,sum_append->Bm,getLast?_eq_some_getLast->N8,getElem?_range->Fj,take_succ_cons->Fk,dropLast_concat_getLast->Na,drop_zero->Bo,lookup_append->Fl,zip_cons_cons->Fm,foldl_append->Ft,getElem?_eq_none_iff->Nj,exists_mem_of_ne_nil->Nk,mem_of_find?_eq_some->Nl,getElem?_take_of_lt->Nm,getElem?_replicate->Nt,getLast?_replicate->Nz,drop_eq_nil_of_le->NA,getElem?_eq_none->ND,drop_drop->FG,take_succ->FH,getElem?_toArray->NK,take_take->FI,foldl->Bz,set_append_left->NU,mem_of_getLast?->NW,count_cons_self->NZ,range'_1_concat->N_,take_nil->FR,map_nil->G2,filter_append->Oa,getElem?_take->Ob,getElem?_set->Oc,getLast?_nil->Os,lookup->G5,map_reverse->Ou,zipIdx_cons->Ow,append_inj'->OD,flatMap_def->OF,zipWith_map->OG,map_zipWith->OH,flatMap_map->OJ,zipIdx_nil->OO,mem_append->OT,count_cons->OV,length_zip->OW,headD_cons->OX,drop_take->P3,mem_range->P5,tail_cons->P6,drop_one->Pf,map->Gl
open And renaming intro->dy
open PySem.Float64 renaming sub->eP,ofInt->fD,cmp->fm,ofFrac->gL,mul->fT,div->gN,cmpInt->ky,isZero->jH,add->gY,truncOf->mP,isFinite->pJ,V->jK,divmod->s_,isInf->t5,isNaN->P9
open PySem.Str renaming ofString->fE,join->Gz,mk->BH
open Pure renaming pure->dq
open PySem.PyData renaming canLayAll0->jT,depth->gX,canLay0->iZ,depthAll->lN,eqv->j0,strOk->t8,int->vw,bool->yB,tuple->Bv,list->By,eqvAll->FV,str->eJ,list->eK,tuple->rW
open Int renaming natCast_nonneg->lD,toNat_natCast->mK,lt_of_le_of_lt->qV,le_trans->lQ,ofNat_sub->pQ,fmod_eq_emod_of_nonneg->AQ,toNat_of_nonneg->y5,ofNat->o8,sub_add_cancel->B6,natAbs_natCast->B7,sub_nonneg_of_le->Fd,le_of_lt->yw,add_sub_cancel->Fp,mul_lt_mul_of_pos_right->Nd,fdiv_eq_ediv_of_nonneg->Ng,ediv_one->Bs,add_neg_cancel_right->Np,max_eq_right->Fv,eq_ofNat_of_zero_le->Nw,sub_nonpos_of_le->NS,le_natAbs->FJ,toNat_sub->FT,toNat_of_nonpos->O1,toNat_lt->FY,lt_of_lt_of_le->O4,add_comm->G1,ne_of_gt->G3,natAbs_sub_le->Og,sub_neg->Gb,emod_nonneg->OK,min_eq_left->OQ,add_assoc->Pc,add_zero->Ph,add_mul->Pm,sub_mul->Pn
open PySem.Heap.SameBut renaming update->nk
open PySem.Data renaming noConfusion->ql,casesOn->G4,seq->cK,fields->cY,func->fK,dict->hO,cls->jg
open Ne renaming symm->eN
open False renaming elim->gc
open PySem.SeqAt renaming shaped->hZ,canLay_of_shaped->AU,EqAt->Gc,RcAt->Pp
open Int.ofNat renaming inj->iD
open PySem.W renaming looks_findIn->jo,emptyDict->j3,findIn->gy,callWith_of->mS,ks_loadName_global->uX,Frag->i9,typeIn->lb,methodObj->rq,specialIn->tn,looks_mroIn->yz,findObj->tu,CodeHd->rB,cellsFrom_some->NC,instObj->yJ,ks_superObj->G9,kla_fn->yK,mem_of_lookupK->P7,ownOf->Pa,handedIn->Gs,tabObj->BG
open PySem.Obj renaming data_mapFields->nQ,isFreed_of_fields->qR,mapSeq->pT,cls_mapFields->Oh
open PySem.Builtin.Range renaming rangeSize->sU,small->uW,rangeFitsLong->F2
open PySem.Value renaming none->jq,ref->o7,noConfusion->F4,str->tm,casesOn->FW,builtin->Pb,ref->aK,type->bT,none->cG,builtin->cH,str->cV,int->d6,float->dm,bool->e_,ellipsis->rX
open PySem.Txt renaming join->iG,mul->lU,isspace->B2,slice->rp
open PyProof.Rows renaming subscriptTail->nW,getMethod_list_of->Fs,add_int->NR,spliced_more->FZ,eq_if->O5,eq_fi->O6,truediv_float_or->Ur,pow_int_small->Ut,floordiv_int->Uu,add_if_fits->Uv,add_fi_fits->Uw,sub_if_fits->Ux,sub_fi_fits->Uy,mul_if_fits->Uz,mul_fi_fits->UA,truthy_int->UB,join_tuple->UC,add_float->UD,sub_float->UE,mul_float->UF,mod_int'->UG,add_str->UH,sub_int->UI,mul_int->UJ,lt_int->UK,gt_int->UL,le_int->UM,ge_int->UN,in_str->UO,eq_int->UP,lt_if->UQ,lt_fi->UR
open PySem.Env renaming kindOf->l9
open LawfulBEq renaming eq_of_beq->ku
open ForInStep renaming yield->r0
open PySem.NameKind renaming free->pO,cell->yo,«local»->dv,cell->eH,free->ft,globalImplicit->kE
open PySem.W.Looks renaming of_peek->pR,of_pure->rh,ld->lS,now->jE
open PySem.Challenge renaming pw_tr0060_01->AO,rw_tr0060_01->Us
open PySem.F renaming slot_tuple_iterator_next->AP,slot_str_ascii_iterator_next->N7,slot_zip_next->Bh,args_tuple_iterator_next_1->N9,entry_tuple_iterator_next->Nb,slot_range_iterator_next->Nf,slot_str_iterator_next->Nn,args_zip_next_1->Oi,slot_list_count->Oj,type_list_count->Ol,entry_zip_next->Ox,plain_list_new->Oz,plain_sum_loop->OB,slot_int_rmul->ON,type_list_pop->OP
open PySem.Builtin.SmallTypes renaming nextOf->AR,ownedTupleHandOut->N3,ownedTupleIsFree->N4,stopIteration->N6
open PySem.Flt renaming toInt->mW
open PySem.Manifest renaming signature?->y7,canonical->yg
open PySem.Around renaming under_plainId->AZ
open Array renaming size_push->yn,toList_append->Fi,eraseIdxIfInBounds->Nq,getElem?_eq_none->NB
open Nat.succ renaming inj->vk
open Prod.mk renaming inj->vo
open PySem.Value.ref renaming inj->yr
open PySem.Expr renaming Name->th,GeneratorExp->On,Constant->Pd,Starred->Pg,Name->dI,Slice->ir,Call->iJ,Attribute->jD,Tuple->lp,Constant->u7,Subscript->u9,Compare->wk,BoolOp->BI,UnaryOp->BJ,GeneratorExp->Hw
open PySem.W.WData renaming int->tp
open PySem.Builtin.Str renaming tooLong->Fh,strSliceIndices->Nc,occurrences->Nu,strOf->Nx
open PySem.Operator renaming Add->eL,Mult->gk,Sub->nv,Div->ny,Mod->nz,FloorDiv->wm
open PySem.Code renaming call->eR,builtin->rY
open PySem.ScopeKind renaming function->gj
open PySem.CmpOp renaming NotEq->iu
open PySem.Keeper renaming machine->lq
namespace Py60.Internal
open PySem PySem.W PyProof.Rows PySem.Calls
open Sem (wp)
theorem dd {p:Prop}[Decidable p](h:decide p=bK):p:=of_decide_eq_true h
theorem Jj {p:Prop}(h:p):p:=h
theorem US {α e:Type}{P:List α->List e->Prop}(f:P [] [])(g:∀a d b c,P d c->P (a::d) (b::c))(h:∀b c,P [] (b::c))(i:∀a d,P (a::d) [])(l:List α):∀r,P l r:=by
 induction l with
 |nil=>
  intro r;rcases r with _|⟨b,c⟩
  .exact f
  .exact h b c
 |cons a l j=>
  intro r;rcases r with _|⟨b,c⟩
  .exact i a l
  .exact g a l b c (j c)
section
variable {G:Prop}
theorem dz {p0 p1:Prop}(h:p0/\p1)(f:p0->p1->G):G:=f h.1 h.2
theorem xA {a b:Bool}(h:(a&&b)=bK)(f:a=bK->b=bK->G):G:=f (Bool.and_eq_true_iff.mp h).1 (Bool.and_eq_true_iff.mp h).2
theorem dN {p0 p1 a:Prop}(h:p0/\p1/\a)(f:p0->p1->a->G):G:=f h.1 h.2.1 h.2.2
theorem qs {p0 p1 a b:Prop}(h:p0/\p1/\a/\b)(f:p0->p1->a->b->G):G:=f h.1 h.2.1 h.2.2.1 h.2.2.2
theorem Jk {p0 p1 a b c:Prop}(h:p0/\p1/\a/\b/\c)(f:p0->p1->a->b->c->G):G:=f h.1 h.2.1 h.2.2.1 h.2.2.2.1 h.2.2.2.2
theorem Sz {p0 p1 a b c d:Prop}(h:p0/\p1/\a/\b/\c/\d)(f:p0->p1->a->b->c->d->G):G:=f h.1 h.2.1 h.2.2.1 h.2.2.2.1 h.2.2.2.2.1 h.2.2.2.2.2
theorem eF {p0:b->Prop}(h:∃a,p0 a)(f:∀a,p0 a->G):G:=h.elim λa h=>f a h
theorem cU {p0 p1:b->Prop}(h:∃a,p0 a/\p1 a)(f:∀a,p0 a->p1 a->G):G:=h.elim λa h=>f a h.1 h.2
theorem hR {p0 p1 b:c->Prop}(h:∃a,p0 a/\p1 a/\b a)(f:∀a,p0 a->p1 a->b a->G):G:=h.elim λa h=>f a h.1 h.2.1 h.2.2
theorem uc {p0 p1 b c:d->Prop}(h:∃a,p0 a/\p1 a/\b a/\c a)(f:∀a,p0 a->p1 a->b a->c a->G):G:=h.elim λa h=>f a h.1 h.2.1 h.2.2.1 h.2.2.2
theorem Pw {p0 p1 b c d:e->Prop}(h:∃a,p0 a/\p1 a/\b a/\c a/\d a)(f:∀a,p0 a->p1 a->b a->c a->d a->G):G:=h.elim λa h=>f a h.1 h.2.1 h.2.2.1 h.2.2.2.1 h.2.2.2.2
theorem SA {p0:c->d->Prop}(h:∃a b,p0 a b)(f:∀a b,p0 a b->G):G:=h.elim λa h=>h.elim λb h=>f a b h
theorem jX {p0 p1:c->d->Prop}(h:∃a b,p0 a b/\p1 a b)(f:∀a b,p0 a b->p1 a b->G):G:=h.elim λa h=>h.elim λb h=>f a b h.1 h.2
theorem lF {p0 p1 c:d->e->Prop}(h:∃a b,p0 a b/\p1 a b/\c a b)(f:∀a b,p0 a b->p1 a b->c a b->G):G:=h.elim λa h=>h.elim λb h=>f a b h.1 h.2.1 h.2.2
theorem BL {p0 p1 c d:e->g->Prop}(h:∃a b,p0 a b/\p1 a b/\c a b/\d a b)(f:∀a b,p0 a b->p1 a b->c a b->d a b->G):G:=h.elim λa h=>h.elim λb h=>f a b h.1 h.2.1 h.2.2.1 h.2.2.2
theorem UZ {p0:d->e->g->Prop}(h:∃a b c,p0 a b c)(f:∀a b c,p0 a b c->G):G:=h.elim λa h=>h.elim λb h=>h.elim λc h=>f a b c h
theorem ud {p0 p1:d->e->g->Prop}(h:∃a b c,p0 a b c/\p1 a b c)(f:∀a b c,p0 a b c->p1 a b c->G):G:=h.elim λa h=>h.elim λb h=>h.elim λc h=>f a b c h.1 h.2
theorem wo {p0 p1 d:e->g->i->Prop}(h:∃a b c,p0 a b c/\p1 a b c/\d a b c)(f:∀a b c,p0 a b c->p1 a b c->d a b c->G):G:=h.elim λa h=>h.elim λb h=>h.elim λc h=>f a b c h.1 h.2.1 h.2.2
theorem tA {p0 p1 d e:g->i->j->Prop}(h:∃a b c,p0 a b c/\p1 a b c/\d a b c/\e a b c)(f:∀a b c,p0 a b c->p1 a b c->d a b c->e a b c->G):G:=h.elim λa h=>h.elim λb h=>h.elim λc h=>f a b c h.1 h.2.1 h.2.2.1 h.2.2.2
theorem U_ {p0 p1 d e g:i->j->k->Prop}(h:∃a b c,p0 a b c/\p1 a b c/\d a b c/\e a b c/\g a b c)(f:∀a b c,p0 a b c->p1 a b c->d a b c->e a b c->g a b c->G):G:=h.elim λa h=>h.elim λb h=>h.elim λc h=>f a b c h.1 h.2.1 h.2.2.1 h.2.2.2.1 h.2.2.2.2
theorem V0 {p0 p1 e g i:j->k->l->m->Prop}(h:∃a b c d,p0 a b c d/\p1 a b c d/\e a b c d/\g a b c d/\i a b c d)(f:∀a b c d,p0 a b c d->p1 a b c d->e a b c d->g a b c d->i a b c d->G):G:=h.elim λa h=>h.elim λb h=>h.elim λc h=>h.elim λd h=>f a b c d h.1 h.2.1 h.2.2.1 h.2.2.2.1 h.2.2.2.2
end
theorem n5 {p0 p1 a:Prop}(b:p0)(c:p1)(d:a):p0/\p1/\a:=⟨b,c,d⟩
theorem BM {p0 p1 a b:Prop}(c:p0)(d:p1)(e:a)(f:b):p0/\p1/\a/\b:=⟨c,d,e,f⟩
theorem iB {p0 p1:b->Prop}(a:b)(c:p0 a)(d:p1 a):∃a,p0 a/\p1 a:=⟨a,c,d⟩
theorem sg {p0 p1 c:b->Prop}(a:b)(d:p0 a)(e:p1 a)(f:c a):∃a,p0 a/\p1 a/\c a:=⟨a,d,e,f⟩
theorem BN {p0 p1 e:c->d->Prop}(a:c)(b:d)(f:p0 a b)(g:p1 a b)(h:e a b):∃a b,p0 a b/\p1 a b/\e a b:=⟨a,b,f,g,h⟩
theorem SD {p0 p1 g h:d->e->f->Prop}(a:d)(b:e)(c:f)(i:p0 a b c)(j:p1 a b c)(k:g a b c)(l:h a b c):∃a b c,p0 a b c/\p1 a b c/\g a b c/\h a b c:=⟨a,b,c,i,j,k,l⟩
@[elab_as_elim] theorem cn {α:Sort u1}{a b:α}{motive:α->Prop}(e:a=b)(h:motive b):motive a:=e▸h
@[elab_as_elim] theorem ie {α:Sort u1}{a b:α}{motive:α->Prop}(e:b=a)(h:motive b):motive a:=e▸h
theorem wM {t:Sem α}{Q b:α->cz->Prop}(h:cD M A t Q E s)(k:∀a s,Q a s->b a s):cD M A t b E s:=kq h k λ_ _=>id
theorem nN {α:Type u1}{a:α}{G:Prop}(h:aT=aE a):G:=nomatch h
theorem nS {α:Type u1}{a:α}{G:Prop}(h:aE a=aT):G:=nomatch h
theorem Xf {α:Type u1}{x:Option α}{G:Prop}(e:∃o,x=aE o)(f:x=aT):G:=e.elim λ_ e=>nN (f.symm.trans e)
inductive LX where|n (k:Nat)|v (i:Nat)|a (x y:LX)|m (k:Nat) (x:LX)|r (x:LX) (k:Nat)
noncomputable def V1:List Nat->Nat->Nat
 |[],_=>0|x::l,i=>match i with|0=>x|i+1=>V1 l i
noncomputable def LX.d (c:List Nat):LX->Nat
 |.n k=>k|.v i=>V1 c i|.a x y=>x.d c+y.d c|.m k x=>k*x.d c|.r x k=>x.d c*k
noncomputable def pA:List Nat->List Nat->List Nat
 |[],y=>y|a::x,y=>match y with|[]=>a::x|b::y=>(a+b)::pA x y
noncomputable def pM (k:Nat):List Nat->List Nat
 |[]=>[]|a::x=>k*a::pM k x
noncomputable def pV:Nat->List Nat
 |0=>[1]|i+1=>0::pV i
noncomputable def LX.p:LX->List Nat
 |.n k=>[k]|.v i=>0::pV i|.a x y=>pA x.p y.p|.m k x=>pM k x.p|.r x k=>pM k x.p
noncomputable def ev:List Nat->List Nat->Nat
 |[],_=>0|k::p,c=>match c with|[]=>0|x::c=>k*x+ev p c
theorem GB (x y c:List Nat):ev (pA x y) c=ev x c+ev y c:=by
 induction x generalizing y c with
 |nil=>exact(iH _).symm|cons a x d=>
  rcases y with _|⟨b,y⟩
  .rfl
  .rcases c with _|⟨e,c⟩
   .rfl
   .show(a+b)*e+ev (pA x y) c=a*e+ev x c+(b*e+ev y c)
    rw[d,t9,Nat.add_add_add_comm]
theorem GC (k:Nat)(x c:List Nat):ev (pM k x) c=k*ev x c:=by
 induction x generalizing c with
 |nil=>rfl|cons a x b=>
  rcases c with _|⟨e,c⟩
  .rfl
  .show k*a*e+ev (pM k x) c=k*(a*e+ev x c)
   rw[b,Bw,P8]
theorem V2 (i:Nat)(c:List Nat):ev (pV i) c=V1 c i:=by
 induction i generalizing c with
 |zero=>
  rcases c with _|⟨e,c⟩
  .rfl
  .exact vn e
 |succ i a=>
  rcases c with _|⟨e,c⟩
  .rfl
  .show 0*e+ev (pV i) c=V1 c i
   rw[a,FX,iH]
theorem LX.ok (c:List Nat)(x:LX):ev x.p (1::c)=x.d c:=by
 induction x with
 |n k=>exact Pj k|v i=>show 0*1+ev (pV i) c=V1 c i;rw[V2,FX,iH]|a x y b d=>show ev (pA x.p y.p) _=x.d c+y.d c;rw[GB,b,d]|m k x b=>show ev (pM k x.p) _=k*x.d c;rw[GC,b]|r x k b=>show ev (pM k x.p) _=x.d c*k;rw[GC,b,Nat.mul_comm]
noncomputable def Xg:List Nat->List Nat->Bool
 |[],y=>y.all (Nat.beq 0)|a::x,y=>match y with|[]=>bK|b::y=>GA b a&&Xg x y
theorem GD:∀(y c:List Nat),y.all (Nat.beq 0)=bK->ev y c=0
 |[],_,_=>rfl|b::y,[],_=>rfl|b::y,e::c,h=>by rw[rd,eB] at h;have a:0=b:=Nat.eq_of_beq_eq_true h.1;show b*e+ev y c=0;rw[GD y c h.2,<-a,FX]
theorem V3 (x y c:List Nat)(h:Xg x y=bK):ev y c<=ev x c:=by
 induction x generalizing y c with
 |nil=>exact c_ (GD y c h)|cons a x d=>
  rcases y with _|⟨b,y⟩
  .exact eW _
  .have h:(GA b a&&Xg x y)=bK:=h
   rw[eB] at h;rcases c with _|⟨e,c⟩
   .exact d9 _
   .exact eT (Fc e (cZ h.1)) (d y c h.2)
def SE (c:List Nat):List (Nat×LX×LX)->Prop
 |[]=>False|h::t=>h.2.1.d c<=h.2.2.d c->SE c t
noncomputable def chk (X Y:List Nat):List (Nat×LX×LX)->Bool
 |[]=>Xg X (pA [1] Y)|h::t=>chk (pA X (pM h.1 h.2.1.p)) (pA Y (pM h.1 h.2.2.p)) t
theorem SH (c:List Nat)(a:List (Nat×LX×LX)):∀X Y:List Nat,ev X (1::c)<=ev Y (1::c)->chk X Y a=bK->SE c a:=by
 induction a with
 |nil=>intro X Y h q;have:=V3 X (pA [1] Y) (1::c) q;rw[GB] at this;have this:1*1+0+ev Y (1::c)<=ev X (1::c):=this;exact iC _ (fl (fl (Nat.lt_add_of_pos_left (ek 0)) this) h)|cons h t b=>refine λX Y g q k=>b _ _ ?_ q;rw[GB,GB,GC,GC,LX.ok,LX.ok];exact eT g (ju _ k)
noncomputable def dr:Nat->Nat->List LX->List (Nat×LX×LX)->List (Nat×LX×LX)
 |0,_,_,b=>b|f+1,N,st,b=>match N%8 with
  |0=>b|1=>dr f (N/256) (.v (N/8%32)::st) b|2=>dr f (N/256) (.n (N/8%32)::st) b|3=>(match st with|y::x::st=>dr f (N/8) (.a x y::st) b|_=>b)
  |4=>(match st with|x::st=>dr f (N/256) (.m (N/8%32) x::st) b|_=>b)
  |5=>(match st with|x::st=>dr f (N/256) (.r x (N/8%32)::st) b|_=>b)
  |6=>(match st with|y::x::st=>dr f (N/256) st ((N/8%32,x,y)::b)|_=>b)
  |_=>dr f (N/8796093022208) (.n (N/8%1099511627776)::st) b
noncomputable def V4 (N:Nat):Bool:=chk [] [] (dr 99 N [] [])
theorem la (c:List Nat)(N:Nat)(h:V4 N=bK):SE c (dr 99 N [] []):=SH c _ [] [] (d9 _) h
def DB (x N:Nat):Prop:=SE [x] (dr 99 N [] [])
theorem gp {x}(N:Nat)(h:V4 N=bK):DB x N:=la _ N h
def BK (x y N:Nat):Prop:=SE [x,y] (dr 99 N [] [])
theorem jY {x y}(N:Nat)(h:V4 N=bK):BK x y N:=la _ N h
def UT (x y z N:Nat):Prop:=SE [x,y,z] (dr 99 N [] [])
theorem iP {x y z}(N:Nat)(h:V4 N=bK):UT x y z N:=la _ N h
def Yo (x y z w N:Nat):Prop:=SE [x,y,z,w] (dr 99 N [] [])
theorem vC {x y z w}(N:Nat)(h:V4 N=bK):Yo x y z w N:=la _ N h
theorem oV {x y}:BK x y 0x704808700b0a09:=jY _ rfl
theorem sh {x y}:BK x y 0x382585008700b0a09:=jY _ rfl
theorem ue {x y}:BK x y 0x700950715048704b0a01:=jY _ rfl
theorem wq {x}:DB x 1880295937:=gp _ rfl
theorem yP {x}:DB x 8099553887867393:=gp _ rfl
theorem zQ {x y}:BK x y 0x1c12c2804398500b0a09:=jY _ rfl
theorem BO {x y}:BK x y 0x704b0a010e0109:=jY _ rfl
theorem BP {x}:DB x 0x70085070530a01:=gp _ rfl
theorem DC {x}:DB x 0x38058501070530a01:=gp _ rfl
theorem Hx {x}:DB x 0x1c0000004e21c04380585000007a1207:=gp _ rfl
theorem z5 {x y}:BK x y 0x1cc28240438058530a09:=jY _ rfl
theorem BQ {x y z}:UT x y z 0x380804398880848704b0a11:=iP _ rfl
theorem BR {x}:DB x 3859436210689:=gp _ rfl
theorem BS {x}:DB x 0xe02010e010a:=gp _ rfl
theorem BU {x y}:BK x y 0x1cc282585008700b0a09:=jY _ rfl
theorem GG {x}:DB x 0x39850089070530a01:=gp _ rfl
theorem GH {x y}:BK x y 3849772534017:=jY _ rfl
theorem GJ {x y}:BK x y 0x1cea824043805853aa09:=jY _ rfl
theorem GL {x y}:BK x y 0x1c12ea80439d500b0a09:=jY _ rfl
theorem GN {x}:DB x 0x700d5075530a01:=gp _ rfl
theorem GO {x y}:BK x y 0x1c12c298500870530a09:=jY _ rfl
theorem Jl {x y z}:UT x y z 0x708b0a6c6824043984b0a0111:=iP _ rfl
theorem Jm {x}:DB x 1879771649:=gp _ rfl
theorem Jn {x}:DB x 0xe634c68058535201:=gp _ rfl
theorem Jo {x y}:BK x y 0x38240438058530a09:=jY _ rfl
theorem Jp {x y}:BK x y 0x38240439808130a09:=jY _ rfl
theorem Jq {x y}:BK x y 0x704b0a010e0209:=jY _ rfl
theorem Jr {x}:DB x 0x384985008700b0a0a:=gp _ rfl
theorem Js {x}:DB x 0x74130a010e0182:=gp _ rfl
theorem Jt {x}:DB x 8114947050676737:=gp _ rfl
theorem Ju {x y}:BK x y 0x38042838298530109:=jY _ rfl
theorem Jv {x y}:BK x y 0xe00000010ccec298480870480000008667:=jY _ rfl
theorem Jw {x y z w}:Yo x y z w 0x700000000707010e01622121cf800000001c1c6439848c80000008667:=vC _ rfl
theorem Jx {x y z}:UT x y z 0x1c02141cc284580848704b0a11:=iP _ rfl
theorem Jy {x y}:BK x y 0x38258500870530a09:=jY _ rfl
theorem Jz {x y z}:UT x y z 0x1c22c2404398084b0a11:=iP _ rfl
theorem JA {x y z}:UT x y z 0x1cc44240438058530911:=iP _ rfl
theorem d8 {a b:Nat}(h:b+1<=a->False):a<=b:=ia h
theorem gG {a b:Nat}(h:b<=a->False):a<b:=jU h
theorem sA (a b:Nat):a-b<=a:=gZ a b
theorem sB (a b:Nat):a<=a-b+b:=Nat.sub_le_iff_le_add.mp (d9 _)
theorem oW (z:Int)(k:Nat)(h:0<k):(((z%(k:Int)).toNat:Nat):Int)=z%(k:Int):=y5 (OK _ (Int.ofNat_ne_zero.mpr (fx h)))
theorem jF (z:Int)(k:Nat)(h:0<k):(z%(k:Int)).toNat<k:=(FY (OK _ (Int.ofNat_ne_zero.mpr (fx h)))).mpr (Int.emod_lt_of_pos _ (Int.ofNat_lt.mpr h))
theorem Px (z:Int)(c k:Nat)(h:0<k):∃b:Nat,(c:Int)+z%(k:Int)=(b:Int)/\c<=b/\b<c+k:=⟨c+(z%(k:Int)).toNat,congrArg ((c:Int)+·) (oW z k h).symm,eO _ _,sV (jF z k h) c⟩
theorem Py (z:Int)(k:Nat)(h:0<k):∃b:Nat,z%(k:Int)=(b:Int)/\b<k:=⟨_,(oW z k h).symm,jF z k h⟩
theorem JB {n m:Nat}(e:n=m)(h:m<=1000000):(n:Int)<0x8000000000000000:=qV (Int.ofNat_le.mpr (e▸h)) (by decide)
theorem zR {n:Nat}(h:n<=1000000):¬(n:Int)>=2 ^ 63:=Int.not_le.mpr (O4 (JB rfl h) (by decide))
theorem JC {n:Int}{k:Nat}(h:n.natAbs<=k):-(k:Int)<=n:=Int.neg_le_of_neg_le (lQ (Int.natAbs_neg n▸FJ) (Int.ofNat_le.mpr h))
theorem zS {n:Int}{k:Nat}(h:n.natAbs<=k):n<=(k:Int):=lQ FJ (Int.ofNat_le.mpr h)
theorem RQ {n:Int}(h:n.natAbs<=1000):-0x8000000000000000<=n/\n<0x8000000000000000:=⟨lQ (by decide) (JC h),qV (zS h) (by decide)⟩
theorem GQ {n:Int}{k:Nat}(h:n.natAbs<=k):n.toNat<=k:=Int.toNat_le.mpr (zS h)
theorem sC {a b:Nat}(h:b<=a):a-b+b<=a:=c_ (sW h)
theorem JD {a b:Nat}(h:a<=b):(a:Int)<=(b:Int):=Int.ofNat_le.mpr h
theorem V5 {a b:Nat}(h:a<b):(a:Int)<(b:Int):=Int.ofNat_lt.mpr h
theorem V6 {a b:Nat}(h:a≠b):(a:Int)≠(b:Int):=λe=>h (iD e)
theorem YW {a b:Nat}(h:(a:Int)<=(b:Int)):a<=b:=Int.ofNat_le.mp h
theorem Yp {a b:Nat}(h:(a:Int)=(b:Int)):a=b:=iD h
theorem uf {M:i8}{f:Ctx}{p:Pos}{t:Sem Fin}{fs:List Frame}{s:cz}{e:End}{d:cz}(r:Runs M f p t fs s e d):s.toks<=d.toks:=by
 induction r with
 |done=>exact d9 _|raise=>exact d9 _|yield=>exact d9 _|fresh _ c=>exact cx (dU _) c|call _ _ a b=>exact cx a b|callSusp _ a=>exact a|resumeFresh _ _ _ _ a b=>exact cx a b|resumeSuspended _ _ _ _ a b=>exact cx a b|segRet _ _ a b=>exact cx a b|segGen _ _ a b=>exact cx a b|segSuspOut _ _ a=>exact a|segSuspGen _ _ _ _ a b=>exact cx a b|again _ _ c=>exact c|rule _ c=>exact c|«at» _ c=>exact c|load _ _ c=>exact c|update _ _ c=>exact c|loadIfAlive _ c=>exact c|point _ c=>exact c|alloc _ c=>exact c|ask _ c=>exact c|choose _ _ c=>exact c|os _ c=>exact c|handled _ c=>exact c|genState _ _ c=>exact c|stack _ c=>exact c|thread _ c=>exact c|newGen _ c=>exact c|resumeJustStarted _ _ _ c=>exact c|resumeThrowFresh _ _ c=>exact c|resumeRunning _ _ c=>exact c|resumeFinished _ _ c=>exact c
theorem DD {M:i8}{f:Ctx}{p:Pos}{g:Nat}{r:Resume}{s:cz}{d:GenResult}{a:cz}(h:Wakes M f p g r s d a):s.toks<=a.toks:=by
 have l:∀{P:Prop} {a:cz},P/\a=s->s.toks<=a.toks:=λh=>c_ (congrArg Shared.toks h.2.symm);have i:∀{P:Prop} {a:cz} {x:yH},P/\a=s.setGen g x->s.toks<=a.toks:=λ{_ _ x} h=>(c_ (congrArg Shared.toks h.2.symm):(s.setGen g x).toks<=_)
 delta Wakes at h
 generalize s.gens[g]?=o at h;rcases o with _|o
 .exact h.elim
 cases o
 .cases r with|throw x=>exact i h|send v=>cases v<;>first|exact l h|(refine BL h λe c r _ _ b=>?_;subst b;have q:=uf r;exact q)
 all_goals first|exact l h|(refine BL h λe c r _ _ b=>?_;subst b;have q:=uf r;exact q)
theorem Pz {α:Type}{M:i8}{x:Ctx}{n:Nat}{Q:α->Pos->cz->Prop}{E:b_->Pos->cz->Prop}:∀(t:Sem α) (p:Pos) (s:cz),n<=s.toks->wp M x t Q E p s->wp M x t (λa p y=>n<=y.toks/\Q a p y) E p s:=by
 intro t;induction t with
 |pure a=>intro p s b h;exact⟨b,h⟩|raise e=>intro p s b h;exact h|fresh k d=>intro p s b h;exact d _ p _ (kM b) h|call c h g l k d=>exact λp s b q=>jX q λr i j q=>⟨r,i,j,d r p i (cx b (uf j)) q⟩
 |resume g r l k d=>exact λp s b q=>jX q λm i j q=>⟨m,i,j,d m p i (cx b (DD j)) q⟩
 |load a u k d=>intro p s b h;refine cU h λo e h=>?_;exact⟨o,e,d _ _ _ b h⟩
 |update a u f k d=>intro p s b h;exact⟨h.1,d () p _ b h.2⟩|genState g k d=>intro p s b h;refine cU h λo e h=>?_;exact⟨o,e,d _ _ _ b h⟩
 |choose z n k d=>intro p s b h;exact⟨h.1,d _ p _ b h.2⟩|rule A k d=>intro p s b h;exact d _ _ _ b h|«at» C k d=>intro p s b h;exact d _ _ _ b h|loadIfAlive a k d=>intro p s b h;exact d _ _ _ b h|point l k d=>intro p s b h;exact d _ _ _ b h|alloc o k d=>intro p s b h;exact d _ p _ b h|ask k d=>intro p s b h;exact d _ _ _ b h|os q l k d=>intro p s b h;exact d _ p _ b h|handled B k d=>intro p s b h;exact d _ _ _ b h|newGen c k d=>intro p s b h;exact d _ p _ b h|stack k d=>intro p s b h;exact d _ _ _ b h|thread k d=>intro p s b h;exact d _ _ _ b h|unsupported w=>intro p s b h;exact h|finish e=>intro p s b h;exact h|register a k d=>intro p s b h;exact h|«yield» v g l k d=>intro p s b h;exact h|fork a k d=>intro p s b h;exact h|await a k d=>intro p s b h;exact h
theorem dP {α:Type}{M:i8}{A:et}{t:Sem α}{Q:α->cz->Prop}{E:b_->cz->Prop}{s:cz}(h:cD M A t Q E s):cD M A t (λa c=>s.toks<=c.toks/\Q a c) E s:=λd p b=>Pz t p s (d9 _) (h d p b)
noncomputable def nameL:List Str:=["_maxlen","_continuation_ws","_continuation_ws_len","_splitchars","_lines","_current_line","_initial_size",
 "lineno","instream","whitespace","pushback","read","append","pop","push","pop_from","reset","is_onlyws","part_count","newline","_str",
 "_append_chunk","join","isspace","count","get_token","_read_char"]
noncomputable def eh (i:Nat):Str:=nameL.getD i "?"
def Kp (h h':cQ):Prop:=∀b o,h.get? b=aE o->h'.get? b=aE o
inductive V where
 |none|bool (b:Bool)|int (i:Int)|flt (b:UInt64)|str (s:Str)
 |tup (l:List V)|lst (l:List V)|obj (n:Nat)|raw (v:b_)
 deriving Inhabited
inductive O where
 |list (l:List V)
 |inst (C:cE) (at_:List (Nat×V))
 |acc (l:List V) (at_:List (Nat×V))
 |citer (live:Bool) (o:V)
 |lam (k:V)
 |dead
 deriving Inhabited
structure Own where
 l:List (cE×cE)
 hid:List cE
noncomputable def Own.add (ρ:Own)(p:cE×cE):Own:=⟨ρ.l++[p],ρ.hid⟩
noncomputable def Own.hide (ρ:Own)(a:cE):Own:=⟨ρ.l,a::ρ.hid⟩
def Free (ρ:Own)(a:cE):Prop:=∀p∈ρ.l,a≠p.1/\a≠p.2
def FreeH (ρ:Own)(a:cE):Prop:=Free ρ a/\a∉ρ.hid
mutual
inductive Rel (ρ:Own) (h:cQ):b_->V->Prop
 |none:Rel ρ h cG .none
 |bool (b:Bool):Rel ρ h (e_ b) (.bool b)
 |int (i:Int) (t:Tok):Rel ρ h (d6 i t) (.int i)
 |flt (b:UInt64) (t:Tok):t≠0->Rel ρ h (dm b t) (.flt b)
 |str (s:Str) (t:Tok):Rel ρ h (cV s t) (.str s)
 |tup {a:cE} {vs:List b_} {n:Nat} {l:List V}:h.get? a=aE {cls:=bT "tuple",data:=cK vs.toArray n}->FreeH ρ a->Rels ρ h vs l->Rel ρ h (aK a) (.tup l)
 |lst {a:cE} {vs:List b_} {n:Nat} {l:List V}:h.get? a=aE {cls:=bT "list",data:=cK vs.toArray n}->FreeH ρ a->Rels ρ h vs l->Rel ρ h (aK a) (.lst l)
 |obj {n:Nat} {p:cE×cE}:ρ.l[n]?=aE p->Rel ρ h (aK p.1) (.obj n)
 |raw (v:b_):Rel ρ h v (.raw v)
inductive Rels (ρ:Own) (h:cQ):List b_->List V->Prop
 |nil:Rels ρ h [] []
 |cons {a:b_} {v:V} {as:List b_} {vs:List V}:Rel ρ h a v->Rels ρ h as vs->Rels ρ h (a::as) (v::vs)
end
def XA (ρ:Own)(h:cQ)(a:b_):V->Prop
 |.none=>a=cG|.bool b=>a=e_ b|.int i=>∃t,a=d6 i t|.flt b=>∃t,t≠0/\a=dm b t|.str s=>∃t,a=cV s t|.tup l=>∃p vs n,a=aK p/\h.get? p=aE {cls:=bT "tuple",data:=cK (gW vs) n}/\FreeH ρ p/\Rels ρ h vs l|.lst l=>∃p vs n,a=aK p/\h.get? p=aE {cls:=bT "list",data:=cK (gW vs) n}/\FreeH ρ p/\Rels ρ h vs l|.obj n=>∃p:cE×cE,ρ.l[n]?=aE p/\a=aK p.1|.raw v=>a=v
theorem Rel.inv {ρ:Own}{h:cQ}{a:b_}{x:V}(r:Rel ρ h a x):XA ρ h a x:=by
 cases r with
 |none=>exact rfl|bool b=>exact rfl|int i t=>exact⟨t,rfl⟩|flt b t c=>exact⟨t,c,rfl⟩|str s t=>exact⟨t,rfl⟩|tup e f r=>exact⟨_,_,_,rfl,e,f,r⟩|lst e f r=>exact⟨_,_,_,rfl,e,f,r⟩|obj h=>exact⟨_,h,rfl⟩|raw v=>exact rfl
theorem Rels.inv {ρ:Own}{h:cQ}{c:List b_}{a:List V}(r:Rels ρ h c a):match a with
 |[]=>c=[]|x::a=>∃b d,c=b::d/\Rel ρ h b x/\Rels ρ h d a:=by
 cases r with
 |nil=>exact rfl|cons r e=>exact⟨_,_,rfl,r,e⟩
@[elab_as_elim] theorem Rel.cN {ρ:Own}{h:cQ}{a:b_}{P:b_->Prop}(r:Rel ρ h a .none)(f:P cG):P a:=by have e:a=cG:=r.inv;rw[e];exact f
@[elab_as_elim] theorem Rel.cB {ρ:Own}{h:cQ}{a:b_}{b:Bool}{P:b_->Prop}(r:Rel ρ h a (.bool b))(f:P (e_ b)):P a:=by have e:a=e_ b:=r.inv;rw[e];exact f
@[elab_as_elim] theorem Rel.cI {ρ:Own}{h:cQ}{a:b_}{i:Int}{P:b_->Prop}(r:Rel ρ h a (.int i))(f:∀t,P (d6 i t)):P a:=eF r.inv λt e=>by rw[e];exact f t
@[elab_as_elim] theorem Rel.cF {ρ:Own}{h:cQ}{a:b_}{i:UInt64}{P:b_->Prop}(r:Rel ρ h a (.flt i))(f:∀t,t≠0->P (dm i t)):P a:=cU r.inv λt z e=>by rw[e];exact f t z
@[elab_as_elim] theorem Rel.cS {ρ:Own}{h:cQ}{a:b_}{i:Str}{P:b_->Prop}(r:Rel ρ h a (.str i))(f:∀t,P (cV i t)):P a:=eF r.inv λt e=>by rw[e];exact f t
@[elab_as_elim] theorem Rel.cL {ρ:Own}{h:cQ}{a:b_}{l:List V}{P:b_->Prop}(r:Rel ρ h a (.lst l))(f:∀p vs n,h.get? p=aE {cls:=bT "list",data:=cK (gW vs) n}->FreeH ρ p->Rels ρ h vs l->P (aK p)):P a:=tA r.inv λp vs n e c d g=>by rw[e];exact f p vs n c d g
@[elab_as_elim] theorem Rel.cT {ρ:Own}{h:cQ}{a:b_}{l:List V}{P:b_->Prop}(r:Rel ρ h a (.tup l))(f:∀p vs n,h.get? p=aE {cls:=bT "tuple",data:=cK (gW vs) n}->FreeH ρ p->Rels ρ h vs l->P (aK p)):P a:=tA r.inv λp vs n e c d g=>by rw[e];exact f p vs n c d g
@[elab_as_elim] theorem Rel.cO {ρ:Own}{h:cQ}{a:b_}{n:Nat}{P:b_->Prop}(r:Rel ρ h a (.obj n))(f:∀p:cE×cE,ρ.l[n]?=aE p->P (aK p.1)):P a:=cU r.inv λp c e=>by rw[e];exact f p c
structure Fx where
 prog:lT
 w:gf
 hb:cQ
 os:jM
noncomputable abbrev fU:List cE:=[140,147,240]
def hU (o:Obj):Prop:=∃vs q t,o.data=cY vs/\vs[1]?=aE (cV q t)/\q.cps.size≠0
theorem oY {o:Obj}{b n}(h:o.data=hO b n):¬hU o:=λ⟨_,_,_,a,_⟩=>by rw[h] at a;cases a
theorem fX {o:Obj}{b n}(h:o.data=cK b n):¬hU o:=λ⟨_,_,_,a,_⟩=>by rw[h] at a;cases a
theorem zT {o:Obj}{v}(h:o.data=.cell v):¬hU o:=λ⟨_,_,_,a,_⟩=>by rw[h] at a;cases a
def AtRel (ρ:Own)(h:cQ)(d:cE)(b:List (Nat×V)):Prop:=∃c,h.Ns1 d c/\∀x,match (b.map λp=>(eh p.1,p.2)).lookup x with
  |some v=>∃a,c x=aE a/\Rel ρ h a v|none=>c x=aT
noncomputable def pp (n:Nat):Pos:=⟨n/1000000000,n/1000000%1000,n/1000%1000,n%1000⟩
noncomputable def kR:Gg:={posonlyargs:=[],args:=[{arg:="count",annotation:=aT,pos:=pp (nat_lit 197025197030)}],vararg:=aT,kwonlyargs:=[],kw_defaults:=[],kwarg:=aT,defaults:=[]}
noncomputable def n7:Expr:=.IfExp (BI .And [dI "signs" (pp (nat_lit 197047197052)),wk (dI "count" (pp (nat_lit 197057197062))) [.Eq] [u7 (.int 1) 0 (pp (nat_lit 197066197067))] (pp (nat_lit 197057197067))] (pp (nat_lit 197047197067)))
 (iJ (jD (dI "signs" (pp (nat_lit 197032197037))) "pop" (pp (nat_lit 197032197041))) [] [] (pp (nat_lit 197032197043))) (u7 (.str "") 0 (pp (nat_lit 197073197075))) (pp (nat_lit 197032197075))
noncomputable def lamScope:Scope:={kind:=gj,names:=[("count",dv),("signs",ft)],isGenerator:=cu,isCoroutine:=cu}
noncomputable def lamQ:Str:="_law_lexer.<locals>.<lambda>"
def TabOk (h:cQ)(t:cE)(vs:Array b_):Prop:=vx vs.toList/\(t=240->∀pos v,codeAmong pos vs.toList=aE v->h.CodeRec v lamQ)
def ORel (ρ:Own)(h:cQ)(p:cE×cE):O->Prop
 |.list l=>p.1=p.2/\∃vs n,h.get? p.1=aE {cls:=bT "list",data:=cK (gW vs) n}/\Rels ρ h vs l|.inst C d=>p.1≠p.2/\h.get? p.1=aE {cls:=aK C,dict:=aE p.2,data:=.plain}/\AtRel ρ h p.2 d|.acc l d=>p.1≠p.2/\(∃vs n,h.get? p.1=aE {cls:=aK 178,dict:=aE p.2,data:=cK (gW vs) n}/\Rels ρ h vs l)/\AtRel ρ h p.2 d|.citer c o=>p.1≠p.2/\(∃t a b,h.get? p.1=aE {cls:=bT "callable_iterator",data:=cY (if c then #[aK p.2,cV ⟨#[]⟩ t,e_ cu] else #[a,b,e_ bK])}/\(c=cu->b=cG))/\
  ∃v,h.get? p.2=aE {cls:=bT "method",data:=cY #[aK 217,v]}/\Rel ρ h v o/\∃q,v=aK q
 |.lam k=>p.1≠p.2/\(∃g f e,h.get? p.1=aE {cls:=bT "function",data:=fK (yK "<lambda>" lamQ kR n7 lamScope [("signs",p.2)] g f e)}/\h.CodeRec f lamQ)/\∃v,h.IsCell p.2 (aE v)/\Rel ρ h v k|.dead=>True
structure Conc (C:Fx)(ρ:Own)(σ:List O)(h:cQ):Prop where
 base:∀b o,C.hb.get? b=aE o->b∉fU->h.get? b=aE o
 tab:∀t∈fU,∃vs,h.get? t=aE {cls:=cG,data:=cY vs}/\TabOk h t vs
 len:ρ.l.length=σ.length
 lo:∀p∈ρ.l,C.hb.get? p.1=aT/\C.hb.get? p.2=aT
 hi:∀p∈ρ.l,(∃o,h.get? p.1=aE o)/\∃o,h.get? p.2=aE o
 low:∀p∈ρ.l,p.1∉fU/\p.2∉fU
 apart:∀(i j:Nat) p q,ρ.l[i]?=aE p->ρ.l[j]?=aE q->i≠j->p.1≠q.1/\p.1≠q.2/\p.2≠q.1/\p.2≠q.2
 hid:∀a∈ρ.hid,∃o,h.get? a=aE o
 objs:∀(n:Nat) p o,ρ.l[n]?=aE p->σ[n]?=aE o->ORel ρ h p o
structure St (C:Fx)(ρ:Own)(σ:List O)(s:cz):Prop where
 conc:Conc C ρ σ s.heap
 os:s.os=C.os
 gens:AllBare s.gens/\s.toks≠0
structure Ext (F:List cE)(ρ ρ':Own)(h h':cQ):Prop where
 pre:ρ.l<+:ρ'.l
 hid:ρ'.hid=ρ.hid
 dom:∀b o,h.get? b=aE o->∃o',h'.get? b=aE o'
 new:∀p∈ρ'.l,p∈ρ.l\/(h.get? p.1=aT/\h.get? p.2=aT)
 seq:∀b o,h.get? b=aE o->(∃xs n,o.data=cK xs n)->FreeH ρ b->h'.get? b=aE o
 keep:∀b o,h.get? b=aE o->b∉fU->Free ρ b->b∉F->h'.get? b=aE o
 code:∀b o,h.get? b=aE o->hU o->h'.get? b=aE o
theorem Hy:lamQ.cps.size≠0:=by decide+kernel
theorem kS {h h':cQ}(k:∀b o,h.get? b=aE o->hU o->h'.get? b=aE o){v:b_}(x:h.CodeRec v lamQ):h'.CodeRec v lamQ:=by obtain⟨c,o,a,t,e,g,d,r⟩:=x;exact⟨c,o,a,t,e,k _ _ g ⟨a,_,t,d,r,Hy⟩,d,r⟩
theorem TabOk.of {h h':cQ}(k:∀b o,h.get? b=aE o->hU o->h'.get? b=aE o){t:cE}{vs:Array b_}(x:TabOk h t vs):TabOk h' t vs:=⟨x.1,λe a v q=>kS k (x.2 e a v q)⟩
theorem Ext.refl (F:List cE)(ρ:Own)(h:cQ):Ext F ρ ρ h h:=⟨pG _,rfl,λ_ o e=>⟨o,e⟩,λ_ a=>.inl a,λ_ _ e _ _=>e,λ_ _ e _ _ _=>e,λ_ _ e _=>e⟩
theorem Free.ext {F:List cE}{ρ ρ':Own}{h h':cQ}(X:Ext F ρ ρ' h h'){a:cE}{o:Obj}(f:Free ρ a)(e:h.get? a=aE o):Free ρ' a:=λp d=>by
 rcases X.new p d with q|⟨b,c⟩
 .exact f p q
 .exact⟨λq=>(by rw[<-q,e] at b;exact nS b),λq=>(by rw[<-q,e] at c;exact nS c)⟩
theorem FreeH.ext {F:List cE}{ρ ρ':Own}{h h':cQ}(X:Ext F ρ ρ' h h'){a:cE}{o:Obj}(f:FreeH ρ a)(e:h.get? a=aE o):FreeH ρ' a:=⟨f.1.ext X e,by rw[X.hid];exact f.2⟩
theorem eG (h:cQ):h.get? h.objs.size=aT:=Option.eq_none_iff_forall_ne_some.mpr λ_ q=>iC _ (jk q)
theorem Ext.back {F:List cE}{ρ ρ':Own}{h h':cQ}(X:Ext F ρ ρ' h h'){b:cE}(e:h'.get? b=aT):h.get? b=aT:=Option.eq_none_iff_forall_ne_some.mpr λo q=>(X.dom b o q).elim λ_ r=>nN (e.symm.trans r)
theorem Ext.trans {F:List cE}{ρ ρ' a:Own}{h h' c:cQ}(X:Ext F ρ ρ' h h')(Y:Ext F ρ' a h' c):Ext F ρ a h c:=by
 have back:∀b,h'.get? b=aT->h.get? b=aT:=λb e=>X.back e;refine⟨X.pre.trans Y.pre,Y.hid.trans X.hid,λb o e=>let ⟨d,g⟩:=X.dom b o e;Y.dom b d g,λp i=>?_,λb o e q f=>?_,λb o e q f n=>?_,λb o e q=>Y.code b o (X.code b o e q) q⟩
 .rcases Y.new p i with q|⟨j,k⟩
  .exact X.new p q
  .exact .inr ⟨back _ j,back _ k⟩
 .exact Y.seq b o (X.seq b o e q f) q (f.ext X e)
 .exact Y.keep b o (X.keep b o e q f n) q (f.ext X e) n
theorem Ext.mono {F F':List cE}{ρ ρ':Own}{h h':cQ}(X:Ext F ρ ρ' h h')(c:∀a∈F,a∈F'):Ext F' ρ ρ' h h':=⟨X.pre,X.hid,X.dom,X.new,X.seq,λb o e t f n=>X.keep b o e t f λq=>n (c b q),X.code⟩
theorem Ext.m0 {F:List cE}{ρ ρ':Own}{h h':cQ}(X:Ext [] ρ ρ' h h'):Ext F ρ ρ' h h':=X.mono λ_ h=>nomatch h
theorem Ext.drop {F F':List cE}{ρ ρ':Own}{h h':cQ}(X:Ext F ρ ρ' h h')(c:∀a∈F,a∈F'\/h.get? a=aT):Ext F' ρ ρ' h h':=⟨X.pre,X.hid,X.dom,X.new,X.seq,λb o e t f n=>X.keep b o e t f λq=>(c b q).elim n λl=>(by rw[e] at l;exact nS l),X.code⟩
theorem iv {ρ ρ':Own}{h h':cQ}(d:∀(p:cE) (k:String) (vs:List b_) (n:Nat),h.get? p=aE {cls:=bT k,data:=cK vs.toArray n}->FreeH ρ p->h'.get? p=aE {cls:=bT k,data:=cK vs.toArray n}/\FreeH ρ' p)
 (i:∀(n:Nat) (p:cE×cE),ρ.l[n]?=aE p->ρ'.l[n]?=aE p):(∀{a:b_} {v:V},Rel ρ h a v->Rel ρ' h' a v)/\∀{b:List b_} {vs:List V},Rels ρ h b vs->Rels ρ' h' b vs:=by
 have c:∀{a:b_} {v:V},Rel ρ h a v->Rel ρ' h' a v:=λr=>Rel.rec (motive_1:=λa v _=>Rel ρ' h' a v) (motive_2:=λb vs _=>Rels ρ' h' b vs)
  .none .bool .int .flt .str (λe f _ r=>.tup (d _ _ _ _ e f).1 (d _ _ _ _ e f).2 r) (λe f _ r=>.lst (d _ _ _ _ e f).1 (d _ _ _ _ e f).2 r) (λe=>.obj (i _ _ e)) .raw .nil (λ_ _ r g=>.cons r g) r
 refine⟨c,λ{b}=>?_⟩;induction b with
 |nil=>intro vs r;cases r;exact .nil|cons a b j=>intro vs r;cases r with|cons r g=>exact .cons (c r) (j g)
theorem v_ {ρ ρ':Own}(p:ρ.l<+:ρ'.l)(n:Nat)(q:cE×cE)(e:ρ.l[n]?=aE q):ρ'.l[n]?=aE q:=by refine eF p λt a=>?_;rw[<-a,jR (List.getElem?_eq_some_iff.mp e).1];exact e
theorem Rel.ext {F:List cE}{ρ ρ':Own}{h h':cQ}(X:Ext F ρ ρ' h h'){a:b_}{v:V}(r:Rel ρ h a v):Rel ρ' h' a v:=(iv (λ_ _ _ _ e f=>⟨X.seq _ _ e ⟨_,_,rfl⟩ f,f.ext X e⟩) (v_ X.pre)).1 r
theorem Rels.ext {F:List cE}{ρ ρ':Own}{h h':cQ}(X:Ext F ρ ρ' h h'){a:List b_}{v:List V}(r:Rels ρ h a v):Rels ρ' h' a v:=(iv (λ_ _ _ _ e f=>⟨X.seq _ _ e ⟨_,_,rfl⟩ f,f.ext X e⟩) (v_ X.pre)).2 r
theorem Rel.hide {ρ:Own}{h:cQ}{D:cE}(b:h.get? D=Bx){a:b_}{v:V}(r:Rel ρ h a v):Rel (ρ.hide D) h a v:=(iv (ρ:=ρ) (ρ':=ρ.hide D) (h':=h) (λ_ _ _ _ e f=>⟨e,f.1,λq=>(List.mem_cons.mp q).elim (λq=>by rw[q,b] at e;cases e) f.2⟩) λ_ _=>id).1 r
theorem Rels.hide {ρ:Own}{h:cQ}{D:cE}(b:h.get? D=Bx){a:List b_}{v:List V}(r:Rels ρ h a v):Rels (ρ.hide D) h a v:=(iv (ρ:=ρ) (ρ':=ρ.hide D) (h':=h) (λ_ _ _ _ e f=>⟨e,f.1,λq=>(List.mem_cons.mp q).elim (λq=>by rw[q,b] at e;cases e) f.2⟩) λ_ _=>id).2 r
theorem Rel.unhide {ρ:Own}{h:cQ}{D:cE}{a:b_}{v:V}(r:Rel (ρ.hide D) h a v):Rel ρ h a v:=(iv (ρ:=ρ.hide D) (ρ':=ρ) (h':=h) (λ_ _ _ _ e f=>⟨e,f.1,λq=>f.2 (.tail _ q)⟩) λ_ _=>id).1 r
theorem Rels.unhide {ρ:Own}{h:cQ}{D:cE}{a:List b_}{v:List V}(r:Rels (ρ.hide D) h a v):Rels ρ h a v:=(iv (ρ:=ρ.hide D) (ρ':=ρ) (h':=h) (λ_ _ _ _ e f=>⟨e,f.1,λq=>f.2 (.tail _ q)⟩) λ_ _=>id).2 r
theorem Ext.unhide {F:List cE}{ρ ρ':Own}{h h':cQ}{D:cE}(X:Ext F (ρ.hide D) (ρ'.hide D) h h')(a:h.get? D=aT):Ext F ρ ρ' h h':=⟨X.pre,(List.cons.inj X.hid).2,X.dom,X.new,λb o e q f=>X.seq b o e q ⟨f.1,λm=>(List.mem_cons.mp m).elim (λz=>by simp only[z,a] at e;exact nN e) f.2⟩,X.keep,X.code⟩
theorem Own.of_hide {ρ ρ':Own}{D:cE}(h:ρ'.hid=(ρ.hide D).hid):ρ'=(⟨ρ'.l,ρ.hid⟩:Own).hide D:=by cases ρ';cases h;rfl
theorem Ext.of_all {F:List cE}{ρ:Own}{h h':cQ}(k:Kp h h'):Ext F ρ ρ h h':=⟨pG _,rfl,λb o e=>⟨o,k b o e⟩,λ_ a=>.inl a,λb o e _ _=>k b o e,λb o e _ _ _=>k b o e,λb o e _=>k b o e⟩
theorem AtRel.ext {F:List cE}{ρ ρ':Own}{h h':cQ}(X:Ext F ρ ρ' h h'){d:cE}{f:List (Nat×V)}(k:∀o,h.get? d=aE o->h'.get? d=aE o)(r:AtRel ρ h d f):AtRel ρ' h' d f:=by
 refine cU r λg e q=>⟨g,e.at k,λx=>?_⟩;have:=q x;split at this
 .refine cU this λa b c=>?_;exact⟨a,b,c.ext X⟩
 .exact this
theorem ORel.ext {F:List cE}{ρ ρ':Own}{h h':cQ}(X:Ext F ρ ρ' h h'){p:cE×cE}{o:O}(i:∀o,h.get? p.1=aE o->h'.get? p.1=aE o)(j:∀o,h.get? p.2=aE o->h'.get? p.2=aE o) (r:ORel ρ h p o):ORel ρ' h' p o:=by
 induction o with
 |list l=>refine dz r λa f=>?_;obtain⟨m,n,b,c⟩:=f;exact⟨a,m,n,i _ b,c.ext X⟩
 |inst C q=>refine dN r λa b c=>?_;exact⟨a,i _ b,c.ext X j⟩
 |acc l q=>refine dN r λa f d=>?_;obtain⟨m,n,b,c⟩:=f;exact⟨a,⟨m,n,i _ b,c.ext X⟩,d.ext X j⟩
 |citer l o=>refine dN r λa f g=>?_;obtain⟨t,x,y,b,s⟩:=f;obtain⟨v,c,d,e⟩:=g;exact⟨a,⟨t,x,y,i _ b,s⟩,v,j _ c,d.ext X,e⟩
 |lam k=>refine dN r λa f g=>?_;obtain⟨u,w,A,b,s⟩:=f;obtain⟨v,c,d⟩:=g;exact⟨a,⟨u,w,A,i _ b,kS X.code s⟩,v,(let ⟨o,e,z⟩:=c;⟨o,j _ e,z⟩),d.ext X⟩
 |dead=>trivial
theorem Conc.keeps {C:Fx}{ρ:Own}{σ:List O}{h h':cQ}(c:Conc C ρ σ h)(k:Kp h h'):Conc C ρ σ h':=⟨λb o e t=>k _ _ (c.base b o e t),λt d=>let ⟨f,e,z⟩:=c.tab t d;⟨f,k _ _ e,z.of λb o e _=>k b o e⟩,c.len,c.lo,
  λp g=>let ⟨⟨a,x⟩,b,y⟩:=c.hi p g;⟨⟨a,k _ _ x⟩,b,k _ _ y⟩,c.low,c.apart,λa i=>let ⟨o,e⟩:=c.hid a i;⟨o,k _ _ e⟩,
  λn p o j l=>(c.objs n p o j l).ext (Ext.of_all (F:=[]) k) (λ_=>k _ _) λ_=>k _ _⟩
theorem St.keeps {C:Fx}{ρ:Own}{σ:List O}{s:cz}(c:St C ρ σ s){h':cQ}{d:tw}{t:Nat}(k:Kp s.heap h')(a:s.toks<=t):St C ρ σ ⟨h',s.gens,d,t,s.os⟩:=⟨c.conc.keeps k,c.os,c.gens.1,fx (fl (j4 c.gens.2) a)⟩
theorem St.keep0 {d:tw}(c:St C ρ σ s)(k:Kp s.heap h'):St C ρ σ ⟨h',s.gens,d,s.toks,s.os⟩:=c.keeps k (d9 _)
theorem St.toks {C:Fx}{ρ:Own}{σ:List O}{s:cz}(c:St C ρ σ s){d:tw}{t:Nat}(a:s.toks<=t):St C ρ σ ⟨s.heap,s.gens,d,t,s.os⟩:=⟨c.conc,c.os,c.gens.1,fx (fl (j4 c.gens.2) a)⟩
theorem AtRel.un {ρ ρ':Own}{h:cQ}(r:∀a v,Rel ρ h a v->Rel ρ' h a v){d:cE}{f:List (Nat×V)}(x:AtRel ρ h d f):AtRel ρ' h d f:=by
 refine cU x λg e q=>⟨g,e,λx=>?_⟩;have:=q x;split at this
 .refine cU this λa b c=>?_;exact⟨a,b,r _ _ c⟩
 .exact this
theorem ORel.un {ρ ρ':Own}{h:cQ}(r:∀a v,Rel ρ h a v->Rel ρ' h a v)(m:∀a v,Rels ρ h a v->Rels ρ' h a v){p:cE×cE}{o:O}(x:ORel ρ h p o):ORel ρ' h p o:=by
 induction o with
 |list l=>refine dz x λa f=>?_;obtain⟨i,n,b,c⟩:=f;exact⟨a,i,n,b,m _ _ c⟩
 |inst C j=>refine dN x λa b c=>?_;exact⟨a,b,c.un r⟩
 |acc l j=>refine dN x λa f d=>?_;obtain⟨i,n,b,c⟩:=f;exact⟨a,⟨i,n,b,m _ _ c⟩,d.un r⟩
 |citer l o=>refine dN x λa b g=>?_;obtain⟨v,c,d,e⟩:=g;exact⟨a,b,v,c,r _ _ d,e⟩
 |lam k=>refine dN x λa b g=>?_;obtain⟨v,c,d⟩:=g;exact⟨a,b,v,c,r _ _ d⟩
 |dead=>trivial
theorem Conc.unhide {C:Fx}{ρ:Own}{σ:List O}{h:cQ}{D:cE}(c:Conc C (ρ.hide D) σ h):Conc C ρ σ h:=⟨c.base,c.tab,c.len,c.lo,c.hi,c.low,c.apart,λa b=>c.hid a (.tail _ b),λn p o d e=>(c.objs n p o d e).un (λ_ _=>Rel.unhide) λ_ _=>Rels.unhide⟩
theorem St.unhide {C:Fx}{ρ:Own}{σ:List O}{s:cz}{D:cE}(c:St C (ρ.hide D) σ s):St C ρ σ s:=⟨c.conc.unhide,c.os,c.gens⟩
theorem Conc.hide {C:Fx}{ρ:Own}{σ:List O}{h h':cQ}{D:cE}(c:Conc C ρ σ h)(k:Kp h h')(e:h.get? D=aT)(d:∃o,h'.get? D=aE o):Conc C (ρ.hide D) σ h':=by have b:=c.keeps k;exact⟨b.base,b.tab,b.len,b.lo,b.hi,b.low,b.apart,λa f=>(List.mem_cons.mp f).elim (λq=>q▸d) (b.hid a),λn p o g i=>((c.objs n p o g i).un (λ_ _=>Rel.hide e) λ_ _=>Rels.hide e).ext (Ext.of_all (F:=[]) k) (λ_=>k _ _) λ_=>k _ _⟩
theorem AtRel.mv {ρ ρ':Own}{h h':cQ}(r:∀a v,Rel ρ h a v->Rel ρ' h' a v){d:cE}(k:∀o,h.get? d=aE o->h'.get? d=aE o){f:List (Nat×V)}(x:AtRel ρ h d f):AtRel ρ' h' d f:=by
 refine cU x λg e q=>⟨g,e.at k,λx=>?_⟩;have:=q x;split at this
 .refine cU this λa b c=>?_;exact⟨a,b,r _ _ c⟩
 .exact this
theorem ORel.mv {ρ ρ':Own}{h h':cQ}(r:∀a v,Rel ρ h a v->Rel ρ' h' a v)(u:∀a v,Rels ρ h a v->Rels ρ' h' a v){p:cE×cE}(i:∀o,h.get? p.1=aE o->h'.get? p.1=aE o)(j:∀o,h.get? p.2=aE o->h'.get? p.2=aE o) (w:∀b o,h.get? b=aE o->hU o->h'.get? b=aE o) {o:O} (x:ORel ρ h p o):ORel ρ' h' p o:=by
 induction o with
 |list l=>refine dz x λa f=>?_;obtain⟨m,n,b,c⟩:=f;exact⟨a,m,n,i _ b,u _ _ c⟩
 |inst C q=>refine dN x λa b c=>?_;exact⟨a,i _ b,c.mv r j⟩
 |acc l q=>refine dN x λa f d=>?_;obtain⟨m,n,b,c⟩:=f;exact⟨a,⟨m,n,i _ b,u _ _ c⟩,d.mv r j⟩
 |citer l o=>refine dN x λa f g=>?_;obtain⟨t,x,y,b,s⟩:=f;obtain⟨v,c,d,e⟩:=g;exact⟨a,⟨t,x,y,i _ b,s⟩,v,j _ c,r _ _ d,e⟩
 |lam k=>refine dN x λa f g=>?_;obtain⟨A,B,D,b,s⟩:=f;obtain⟨v,c,d⟩:=g;exact⟨a,⟨A,B,D,i _ b,kS w s⟩,v,(let ⟨o,e,z⟩:=c;⟨o,j _ e,z⟩),r _ _ d⟩
 |dead=>trivial
theorem Rel.seqs {ρ:Own}{h h':cQ}(k:∀b o,h.get? b=aE o->(∃c n,o.data=cK c n)->FreeH ρ b->h'.get? b=aE o){a:b_}{v:V}(r:Rel ρ h a v):Rel ρ h' a v:=(iv (ρ:=ρ) (ρ':=ρ) (h':=h') (λ_ _ _ _ e f=>⟨k _ _ e ⟨_,_,rfl⟩ f,f⟩) λ_ _=>id).1 r
theorem Rels.seqs {ρ:Own}{h h':cQ}(k:∀b o,h.get? b=aE o->(∃c n,o.data=cK c n)->FreeH ρ b->h'.get? b=aE o){a:List b_}{v:List V}(r:Rels ρ h a v):Rels ρ h' a v:=(iv (ρ:=ρ) (ρ':=ρ) (h':=h') (λ_ _ _ _ e f=>⟨k _ _ e ⟨_,_,rfl⟩ f,f⟩) λ_ _=>id).2 r
theorem Conc.gone {C:Fx}{ρ:Own}{σ:List O}{h h':cQ}{L:cE}(c:Conc C ρ σ h)(d:km L h h')(v:L∉fU)(i:Free ρ L)(w:C.hb.get? L=aT)(A:L∉ρ.hid) (B:∀o,h.get? L=aE o->∀g n,o.data≠cK g n) (D:∀o,h.get? L=aE o->¬hU o):Conc C ρ σ h':=by
 have m:∀b o,h.get? b=aE o->hU o->h'.get? b=aE o:=λb o e q=>(d.2 b λz=>D o (z▸e) q).trans e;have k:∀b o,h.get? b=aE o->(∃g n,o.data=cK g n)->FreeH ρ b->h'.get? b=aE o:=λb o e ⟨g,n,q⟩ _=>(d.2 b λz=>B o (z▸e) g n q).trans e;refine⟨λb o e t=>(d.2 b λq=>by simp only[q,w] at e;exact nN e).trans (c.base b o e t),λt r=>?_,c.len,c.lo,λp f=>?_,c.low,c.apart,λa s=>?_,λn p o u F=>?_⟩
 .exact cU (c.tab t r) λH e z=>⟨H,(d.2 t λq=>v (q▸r)).trans e,z.of m⟩
 .refine dz (c.hi p f) λj l=>?_;obtain⟨a,x⟩:=j;obtain⟨b,y⟩:=l
  exact⟨⟨a,(d.2 _ (eN (i p f).1)).trans x⟩,b,(d.2 _ (eN (i p f).2)).trans y⟩
 .exact eF (c.hid a s) λo e=>⟨o,(d.2 a λq=>A (q▸s)).trans e⟩
 .have f:=jS u
  exact(c.objs n p o u F).mv (λ_ _=>Rel.seqs k) (λ_ _=>Rels.seqs k) (λ_ e=>(d.2 _ (eN (i p f).1)).trans e) (λ_ e=>(d.2 _ (eN (i p f).2)).trans e) m
theorem Ext.gone {F:List cE}{ρ ρ':Own}{h a h':cQ}{L:cE}(X:Ext F ρ ρ' h a)(c:km L a h')(g:h.get? L=aT):Ext F ρ ρ' h h':=by
 have d:∀b o,h.get? b=aE o->b≠L:=λb o e q=>by simp only[q,g] at e;exact nN e
 exact⟨X.pre,X.hid,λb o e=>let ⟨i,j⟩:=X.dom b o e;⟨i,(c.2 b (d b o e)).trans j⟩,X.new,λb o e q f=>(c.2 b (d b o e)).trans (X.seq b o e q f),λb o e t f n=>(c.2 b (d b o e)).trans (X.keep b o e t f n),λb o e q=>(c.2 b (d b o e)).trans (X.code b o e q)⟩
theorem Rels.ind {ρ:Own}{h:cQ}{P:List b_->List V->Prop}(n:P [] [])(c:∀a v b vs,Rel ρ h a v->Rels ρ h b vs->P b vs->P (a::b) (v::vs)){b:List b_}{vs:List V}(r:Rels ρ h b vs):P b vs:=by
 induction b generalizing vs with
 |nil=>cases r;exact n|cons a b e=>cases r with|cons r d=>exact c _ _ _ _ r d (e d)
theorem Rels.snoc {ρ:Own}{h:cQ}{a:b_}{v:V}(r:Rel ρ h a v){b:List b_}{vs:List V}(c:Rels ρ h b vs):Rels ρ h (b++[a]) (vs++[v]):=c.ind (P:=λb vs=>Rels ρ h (b++[a]) (vs++[v])) (.cons r .nil) λ_ _ _ _ q _ i=>.cons q i
theorem Rels.len {ρ:Own}{h:cQ}{a:List b_}{v:List V}(r:Rels ρ h a v):a.length=v.length:=r.ind (P:=λa v=>a.length=v.length) rfl λ_ _ _ _ _ _ i=>congrArg (·+1) i
theorem Rels.get {ρ:Own}{h:cQ}{b:List b_}{vs:List V}{i:Nat}{v:V}(r:Rels ρ h b vs):vs[i]?=aE v->∃a,b[i]?=aE a/\Rel ρ h a v:=r.ind (P:=λb vs=>∀i,vs[i]?=aE v->∃a,b[i]?=aE a/\Rel ρ h a v) (λ_ e=>nN e)
  (λ_ _ _ _ r _ c i=>match i with|0=>λe=>⟨_,rfl,dk e▸r⟩ |i+1=>c i) i
def nP (l:List Prop):Nat->Prop:=List.rec (motive:=λ_=>Nat->Prop) (λ_=>True) (λp _ a i=>Nat.rec (motive:=λ_=>Prop) p (λn _=>a n) i) l
def Rc (l:List Prop):Prop:=∀i:Nat,nP l i
theorem Rc.n:Rc []:=λ_=>trivial
theorem Rc.c {p:Prop}{l:List Prop}(h:p)(g:Rc l):Rc (p::l):=λi=>Nat.rec (motive:=nP (p::l)) h (λn _=>g n) i
open Internal.V renaming int->aO,obj->aV,flt->a_,lst->cw,str->cC,tup->dj,none->dD,bool->dB,raw->hJ
open Internal.O renaming list->cM,acc->d7,inst->fe,citer->gQ,lam->kC
open Internal.Rels renaming cons->fo,nil->fB
open Internal.Rel renaming int->fq,flt->gC,str->gR,none->kD,obj->kF,lst->nr,bool->rT
noncomputable def gnameL:List Str:=["len","sum","abs","int","list","max","min","str","iter","_Accumulator","_ValueFormatter","_netrclex",
 "_law_lexer","_law_element","_law_width","_law_parts","_law_folded","_law_stops","_law_agrees","rgb_to_hsv","hsv_to_rgb","law","NL","EMPTYSTRING"]
noncomputable def lV (i:Nat):Str:=gnameL.getD i "?"
mutual
inductive E where
 |cst (c:Const) (k:Nat) (p:Pos)
 |loc (i:Nat) (x:Str) (p:Pos)
 |glo (g:Nat) (p:Pos)
 |bin (op:jL) (a b:E) (p:Pos)
 |neg (a:E) (p:Pos)
 |nt (a:E) (p:Pos)
 |bop (op:yL) (a b:E) (p:Pos)
 |ite (t:T) (a b:E) (p:Pos)
 |cmp (op:jr) (a b:E) (p:Pos)
 |sub (a i:E) (p:Pos)
 |slc (own:Bool) (a:E) (lo hi st:Es) (q p:Pos)
 |tup (es:Es) (k:Nat) (p:Pos)
 |lst (own:Bool) (es:Es) (p:Pos)
 |comp (elt:E) (tg:Tg) (it:It) (c:Ts) (scope:Scope) (vis:List (Nat×Str)) (own:List Nat) (p:Pos)
 |call (k:Nat) (q:Pos) (args:Es) (p:Pos)
 |meth (o:E) (m:Nat) (q:Pos) (args:Es) (p:Pos)
 |starm (o:E) (m:Nat) (q:Pos) (e:E) (p₁ p:Pos)
 |att (o:E) (m:Nat) (p:Pos)
inductive Es where
 |nil
 |cons (e:E) (es:Es)
inductive T where
 |val (e:E)
 |nt (t:T) (p:Pos)
 |bop (op:yL) (a b:T) (p:Pos)
 |cmp (op:jr) (a b:E) (p:Pos)
 |cmp2 (o₁ o₂:jr) (a b c:E) (p:Pos)
inductive Ts where
 |nil
 |one (t:T)
inductive It where
 |val (e:E)
 |range (q:Pos) (args:Es) (p:Pos)
 |zip (q:Pos) (a b:E) (p:Pos)
inductive Tg where
 |name (i:Nat) (x:Str) (p:Pos)
 |tup (ts:List (Nat×Str×Pos)) (k:Nat) (p:Pos)
end
noncomputable def Es.one:Es->Bool
 |.nil=>bK|.cons _ .nil=>bK|_=>cu
noncomputable def z6:E->Bool
 |.nt ..|.bop ..|.ite ..|.cmp ..=>cu
 |_=>bK
noncomputable def Tg.back:Tg->Expr
 |.name _ x p=>dI x p|.tup ts k p=>lp (ts.map λt=>dI t.2.1 t.2.2) k p
mutual
noncomputable def E.back:E->Expr
 |.cst c k p=>u7 c k p|.loc _ x p=>dI x p|.glo g p=>dI (lV g) p|.bin d a b p=>.BinOp a.back d b.back p|.neg a p=>BJ .USub a.back p|.nt a p=>BJ .Not a.back p|.bop d a b p=>BI d [a.back,b.back] p|.ite t a b p=>.IfExp t.back a.back b.back p|.cmp d a b p=>wk a.back [d] [b.back] p|.sub a i p=>u9 a.back i.back p|.slc _ a lo hi st q p=>u9 a.back (ir lo.back.head? hi.back.head? st.back.head? q) p|.tup n k p=>lp n.back k p|.lst _ n p=>.List n.back p|.comp r Q R c h _ _ p=>.ListComp r.back [⟨Q.back,R.back,c.back,0⟩] h p|.call k q f p=>iJ (dI (lV k) q) f.back [] p|.meth o m q f p=>iJ (jD o.back (eh m) q) f.back [] p|.starm o m q e j p=>iJ (jD o.back (eh m) q) [.Starred e.back j] [] p|.att o m p=>jD o.back (eh m) p
noncomputable def Es.back:Es->List Expr
 |.nil=>[]|.cons e a=>e.back::a.back
noncomputable def T.back:T->Expr
 |.val e=>e.back|.nt t p=>BJ .Not t.back p|.bop d a b p=>BI d [a.back,b.back] p|.cmp d a b p=>wk a.back [d] [b.back] p|.cmp2 C z a b c p=>wk a.back [C,z] [b.back,c.back] p
noncomputable def Ts.back:Ts->List Expr
 |.nil=>[]|.one t=>[t.back]
noncomputable def It.back:It->Expr
 |.val e=>e.back|.range q c p=>iJ (dI "range" q) c.back [] p|.zip q a b p=>iJ (dI "zip" q) [a.back,b.back] [] p
end
mutual
inductive S where
 |expr (e:E) (p:Pos)
 |asg (t:Tg) (e:E) (p:Pos)
 |asgA (o:E) (m:Nat) (q:Pos) (e:E) (p:Pos)
 |setSl (o:E) (lo:Es) (q₁ q₂:Pos) (e:E) (p:Pos)
 |aug (i:Nat) (x:Str) (q:Pos) (op:jL) (e:E) (p:Pos)
 |augA (o:E) (m:Nat) (q:Pos) (op:jL) (e:E) (p:Pos)
 |ifs (t:T) (a b:Ss) (p:Pos)
 |whl (t:T) (a:Ss) (p:Pos)
 |fr (t:Tg) (it:It) (a b:Ss) (p:Pos)
 |frC (i:Nat) (x:Str) (px:Pos) (j:Nat) (y:Str) (py:Pos) (a:Ss) (p:Pos)
 |ret (e:E) (p:Pos)
 |retN (p:Pos)
 |brk (p:Pos)
 |cont (p:Pos)
 |stop (s:eQ)
inductive Ss where
 |nil
 |cons (s:S) (ss:Ss)
end
mutual
noncomputable def S.back:S->eQ
 |.expr e p=>.Expr e.back p|.asg t e p=>.Assign [t.back] e.back p|.setSl o lo c f e p=>.Assign [u9 o.back (ir lo.back.head? aT aT c) f] e.back p|.asgA o m q e p=>.Assign [jD o.back (eh m) q] e.back p|.aug _ x q d e p=>.AugAssign (dI x q) d e.back p|.augA o m q d e p=>.AugAssign (jD o.back (eh m) q) d e.back p|.ifs t a b p=>.If t.back a.back b.back p|.whl t a p=>.While t.back a.back [] p|.fr t g a b p=>.For t.back g.back a.back b.back p|.frC _ x h _ y i a p=>.For (dI y i) (dI x h) a.back [] p|.ret e p=>.Return (aE e.back) p|.retN p=>.Return aT p|.brk p=>.Break p|.cont p=>.Continue p|.stop s=>s
noncomputable def Ss.back:Ss->List eQ
 |.nil=>[]|.cons s a=>s.back::a.back
end
noncomputable abbrev Sg:=List O
noncomputable abbrev Mm:=List (Option V)
inductive Out where|next|brk|cont|ret (v:V)
noncomputable def XB:Const->Option V
 |.none=>aE dD|.bool b=>aE (dB b)|.int i=>aE (aO i)|.float x=>aE (a_ x)|.str s=>aE (cC s)|_=>aT
noncomputable def oj:V->Option (List V)
 |cw l=>aE l|dj l=>aE l|_=>aT
noncomputable def jh (σ:Sg):V->Option (List V)
 |cw l=>aE l|aV n=>match σ[n]? with|some (cM l)=>aE l|_=>aT
 |_=>aT
noncomputable def iQ:List (Nat×Str×Pos)->List V->Mm->Option Mm
 |[],[],M=>aE M|t::ts,v::vs,M=>iQ ts vs (M.set t.1 (aE v))|_,_,_=>aT
noncomputable def iR:Tg->V->Mm->Option Mm
 |.name i _ _,v,M=>aE (M.set i (aE v))|.tup ts _ _,dj vs,M=>iQ ts vs M|.tup _ _ _,_,_=>aT
theorem si (h:iR (.tup ts k p) v M=aE a):∃vs,v=dj vs/\iQ ts vs M=aE a:=V.casesOn (motive_1:=λv=>iR (.tup ts k p) v M=aE a->∃vs,v=dj vs/\iQ ts vs M=aE a) v (λh=>nN h) (λ_ h=>nN h) (λ_ h=>nN h) (λ_ h=>nN h) (λ_ h=>nN h) (λvs h=>⟨vs,rfl,h⟩) (λ_ h=>nN h) (λ_ h=>nN h) (λ_ h=>nN h) h
noncomputable def Dz:List Nat->Mm->Mm
 |[],M=>M|i::r,M=>Dz r (M.set i aT)
noncomputable def kT (s:Str):List V:=s.cps.toList.map λc=>cC ⟨#[c]⟩
noncomputable def gz (a b:Int):List V:=(eZ (b-a).toNat).map λ(k:Nat)=>aO (a+k)
noncomputable def iz (a b:Int):List V:=(eZ (a-b).toNat).map λ(k:Nat)=>aO (a-k)
structure Sem0 where
 bin:jL->V->V->(V->Prop)->Prop
 cmp:jr->Sg->V->V->(Bool->Prop)->Prop
 truth:Sg->V->(Bool->Prop)->Prop
 sub:Sg->V->V->(V->Prop)->Prop
 slc:Sg->V->Option V->Option V->Option V->(V->Prop)->Prop
 spec:Nat->List V->Sg->(V->Sg->Prop)->Prop
 mspec:Nat->List V->Sg->(V->Sg->Prop)->Prop
 cspec:Nat->List V->Sg->(V->Sg->Prop)->Prop
 res:Sg->V->Nat->Option Nat
 resb:Sg->V->Nat->Option Nat
 gval:Nat->V
 att:Sg->V->Nat->(V->Prop)->Prop
 set:Sg->V->Nat->V->(Sg->Prop)->Prop
 setsl:Sg->V->Option V->V->(Sg->Prop)->Prop
 ipl:jL->V->V->(V->Prop)->Prop
 next:Sg->Nat->(Option V->Sg->Prop)->Prop
def DE (w:Bool)(v:V)(σ:Sg)(K:V->Sg->Prop):Prop:=match w,v with
 |true,cw l=>K (aV σ.length) (σ++[cM l])|_,v=>K v σ
def lW (step:V->List V->Sg->(List V->Sg->Prop)->Prop)(K:List V->Sg->Prop):List V->List V->Sg->Prop
 |[],A,σ=>K A σ|x::a,A,σ=>step x A σ λA σ=>lW step K a A σ
def om (step:V->Mm->Sg->(Mm->Sg->Prop)->Prop)(K:Mm->Sg->Prop):List V->Mm->Sg->Prop
 |[],M,σ=>K M σ|x::a,M,σ=>step x M σ λM σ=>om step K a M σ
noncomputable abbrev KV:=V->Sg->Prop
noncomputable abbrev KB:=Bool->Sg->Prop
noncomputable abbrev KL:=List V->Sg->Prop
section
variable (Z:Sem0)(d C z:jr)(K:KV)(B:KB)(L:KL)(F N D:Sg->KV->Prop)(P:Sg->KB->Prop)(G J I:Sg->KL->Prop)(M:Mm)(σ:Sg)(w H:Bool)(m k:Nat)(v x y:V)(vs l u s A:List V)
def jv:V->Prop:=λv=>K v σ
def jb:Bool->Prop:=λc=>K (dB c) σ
def jc:Bool->Prop:=λc=>B c σ
def RR (d:jL)(x:V):KV:=λy σ=>Z.bin d x y (jv K σ)
def RS (d:jL):KV:=λx σ=>D σ (RR Z K d x)
def V7:KV:=λx σ=>match x with|aO i=>K (aO (-i)) σ|_=>False
def V8:Bool->Prop:=λb=>K (dB !b) σ
def Yq:KV:=λx σ=>Z.truth σ x (V8 K σ)
def RT (d:yL)(x:V)(σ:Sg):Bool->Prop:=λt=>match d,t with
 |.And,cu|.Or,bK=>K x σ
 |_,_=>D σ K
def SI (d:yL):KV:=λx σ=>Z.truth σ x (RT K D d x σ)
def V9:KB:=λt σ=>match t with|true=>N σ K|false=>D σ K
def RU (d:jr)(x:V):KV:=λy σ=>Z.cmp d σ x y (jb K σ)
def RV (d:jr):KV:=λx σ=>D σ (RU Z K d x)
def RW (x:V):KV:=λy σ=>Z.sub σ x y (jv K σ)
def RX:KV:=λx σ=>D σ (RW Z K x)
def RY:V->Prop:=λv=>DE w v σ K
def RZ (w:Bool)(x:V)(l u:List V):KL:=λs σ=>Z.slc σ x l.head? u.head? s.head? (RY K σ w)
def R_ (w:Bool)(x:V)(l:List V):KL:=λu σ=>I σ (RZ Z K w x l u)
def S0 (w:Bool)(x:V):KL:=λl σ=>J σ (R_ Z K I w x l)
def S1 (w:Bool):KV:=λx σ=>G σ (S0 Z K J I w x)
def Va:KL:=λvs σ=>vs.length<=1000/\K (dj vs) σ
def Vb:KL:=λvs σ=>vs.length<=1000/\DE w (cw vs) σ K
def JE:KL:=λA σ=>K (cw A) σ
def JF (k:KL):KV:=λv σ=>A.length<=1000/\k (A++[v]) σ
def DG (k:KL):KB:=λb σ=>match b with
 |true=>F σ (JF A k)|false=>k A σ
def wt (F:Mm->Sg->KV->Prop)(b:Mm->Sg->KB->Prop)(c:Tg)(w:List Nat):V->List V->Sg->KL->Prop:=λx A σ k=>match iR c x (Dz w M) with
 |some a=>b a σ (DG (F a) A k)|none=>False
def BV (F:Mm->Sg->KV->Prop)(a:Mm->Sg->KB->Prop)(b:Tg)(w:List Nat):KL:=λitems σ=>lW (wt M F a b w) (JE K) items [] σ
def S2 (k:Nat):KL:=λvs σ=>Z.spec k vs σ K
def wu (k:Nat)(v:V):KL:=λvs σ=>Z.mspec k (v::vs) σ K
def wx (m:Nat):KV:=λv σ=>match Z.res σ v m with
 |some k=>G σ (wu Z K k v)|none=>False
def wy (k:Nat)(v:V):KV:=λx σ=>match x with
 |dj vs=>vs.length<=1000/\Z.cspec k (v::vs) σ K|_=>False
def wz (m:Nat):KV:=λv σ=>match Z.resb σ v m with
 |some k=>F σ (wy Z K k v)|none=>False
def Vc (m:Nat):KV:=λv σ=>Z.att σ v m (jv K σ)
def JG (v:V):KL:=λvs σ=>L (v::vs) σ
def JH:KV:=λv σ=>G σ (JG L v)
def Vd:KV:=λv σ=>Z.truth σ v (jc B σ)
def Yr:KB:=λb σ=>B (!b) σ
def Ys (d:yL):KB:=λx σ=>match d,x with
 |.And,cu=>B cu σ|.Or,bK=>B bK σ|_,_=>P σ B
def SJ (d:jr)(x:V):KV:=λy σ=>Z.cmp d σ x y (jc B σ)
def Ve (d:jr):KV:=λx σ=>D σ (SJ Z B d x)
def Vf (z:jr)(y:V)(σ:Sg):Bool->Prop:=λH=>match H with
 |true=>D σ (SJ Z B z y)|false=>B cu σ
def Vg (C z:jr)(x:V):KV:=λy σ=>Z.cmp C σ x y (Vf Z B D z y σ)
def Vh (C z:jr):KV:=λx σ=>N σ (Vg Z B D C z x)
def Yt:KV:=λv σ=>match v with
 |cw l=>L l σ|cC s=>L (kT s) σ|_=>False
def JI:KL:=λvs σ=>match vs with
 |[aO b]=>b.natAbs<=1000000/\L (gz 0 b) σ|[aO a,aO b]=>(a.natAbs<=1000000/\b.natAbs<=1000000)/\L (gz a b) σ|[aO a,aO b,aO c]=>(a.natAbs<=1000000/\b.natAbs<=1000000/\c=-1)/\L (iz a b) σ|_=>False
def wA (x:V):KV:=λy σ=>match oj x,oj y with
 |some l,aE r=>L (l7 (λx y=>dj [x,y]) l r) σ
 |_,_=>False
def S3:KV:=λx σ=>D σ (wA L x)
end
mutual
def j_ (Z:Sem0):E->Mm->Sg->(V->Sg->Prop)->Prop
 |.cst c _ _,_,σ,K=>match XB c with|some v=>K v σ|none=>False
 |.loc i _ _,M,σ,K=>match M[i]? with|some (aE v)=>K v σ|_=>False
 |.glo g _,_,σ,K=>K (Z.gval g) σ|.bin d a b _,M,σ,K=>j_ Z a M σ (RS Z K (j_ Z b M) d)|.neg a _,M,σ,K=>j_ Z a M σ (V7 K)|.nt a _,M,σ,K=>j_ Z a M σ (Yq Z K)|.bop d a b _,M,σ,K=>j_ Z a M σ (SI Z K (j_ Z b M) d)|.ite t a b _,M,σ,K=>HA Z t M σ (V9 K (j_ Z a M) (j_ Z b M))|.cmp d a b _,M,σ,K=>j_ Z a M σ (RV Z K (j_ Z b M) d)|.sub a i _,M,σ,K=>j_ Z a M σ (RX Z K (j_ Z i M))|.slc w a lo hi st _ _,M,σ,K=>j_ Z a M σ (S1 Z K (ug Z lo M) (ug Z hi M) (ug Z st M) w)|.tup h _ _,M,σ,K=>ug Z h M σ (Va K)|.lst w h _,M,σ,K=>ug Z h M σ (Vb K w)|.comp j n p c _ _ w _,M,σ,K=>JJ Z p M σ (BV K M (j_ Z j) (uh Z c) n w)|.call k _ f _,M,σ,K=>ug Z f M σ (S2 Z K k)|.meth o m _ f _,M,σ,K=>j_ Z o M σ (wx Z K (ug Z f M) m)|.starm o m _ e _ _,M,σ,K=>j_ Z o M σ (wz Z K (j_ Z e M) m)|.att o m _,M,σ,K=>j_ Z o M σ (Vc Z K m)
def ug (Z:Sem0):Es->Mm->Sg->(List V->Sg->Prop)->Prop
 |.nil,_,σ,K=>K [] σ|.cons e a,M,σ,K=>j_ Z e M σ (JH K (ug Z a M))
def HA (Z:Sem0):T->Mm->Sg->(Bool->Sg->Prop)->Prop
 |.val e,M,σ,K=>j_ Z e M σ (Vd Z K)|.nt t _,M,σ,K=>HA Z t M σ (Yr K)|.bop d a b _,M,σ,K=>HA Z a M σ (Ys K (HA Z b M) d)|.cmp d a b _,M,σ,K=>j_ Z a M σ (Ve Z K (j_ Z b M) d)|.cmp2 C z a b c _,M,σ,K=>j_ Z a M σ (Vh Z K (j_ Z b M) (j_ Z c M) C z)
def uh (Z:Sem0):Ts->Mm->Sg->(Bool->Sg->Prop)->Prop
 |.nil,_,σ,K=>K bK σ|.one t,M,σ,K=>HA Z t M σ K
def JJ (Z:Sem0):It->Mm->Sg->(List V->Sg->Prop)->Prop
 |.val e,M,σ,K=>j_ Z e M σ (Yt K)|.range _ c _,M,σ,K=>ug Z c M σ (JI K)|.zip _ a b _,M,σ,K=>j_ Z a M σ (S3 K (j_ Z b M))
end
theorem HB {Z:Sem0}{K:KV}{G:Sg->KL->Prop}{m:Nat}(h:wx Z K G m v σ):∃k,Z.res σ v m=aE k/\G σ (wu Z K k v):=match e:Z.res σ v m with
 |some k=>⟨k,rfl,by unfold wx at h;rw[e] at h;exact h⟩
 |none=>by unfold wx at h;rw[e] at h;exact h.elim
theorem HC {Z:Sem0}{K:KV}{F:Sg->KV->Prop}{m:Nat}(h:wz Z K F m v σ):∃k,Z.resb σ v m=aE k/\F σ (wy Z K k v):=match e:Z.resb σ v m with
 |some k=>⟨k,rfl,by unfold wz at h;rw[e] at h;exact h⟩
 |none=>by unfold wz at h;rw[e] at h;exact h.elim
theorem HD (h:wA L x y σ):∃l r,oj x=aE l/\oj y=aE r/\L (l7 (λx y=>dj [x,y]) l r) σ:=match e:oj x,f:oj y with
 |some l,aE r=>⟨l,r,rfl,rfl,by unfold wA at h;rw[e,f] at h;exact h⟩
 |none,_=>by unfold wA at h;rw[e] at h;exact h.elim
 |some _,aT=>by unfold wA at h;rw[e,f] at h;exact h.elim
theorem JK {Z:Sem0}{K:KV}{i:Nat}{x:Str}{p:Pos}{M:Mm}(h:j_ Z (.loc i x p) M σ K):∃v,M[i]?=aE (aE v)/\K v σ:=match e:M[i]? with
 |some (aE v)=>⟨v,rfl,by have h:(match M[i]? with|some (aE v)=>K v σ|_=>False):=h;rw[e] at h;exact h⟩
 |some aT=>by have h:(match M[i]? with|some (aE v)=>K v σ|_=>False):=h;rw[e] at h;exact h.elim
 |none=>by have h:(match M[i]? with|some (aE v)=>K v σ|_=>False):=h;rw[e] at h;exact h.elim
theorem DH {Z:Sem0}{K:KV}{k:Nat}(h:wy Z K k v x σ):∃vs,x=dj vs/\vs.length<=1000/\Z.cspec k (v::vs) σ K:=by rcases x with _|_|_|_|_|_|_|_<;>first|exact h.elim|exact⟨_,rfl,h⟩
open Internal.E renaming loc->aS,cst->bO,bin->cA,sub->cX,call->di,lst->dM,tup->dO,meth->dY,att->dZ,cmp->gh,comp->eS,neg->gB,slc->gP,bop->mh,glo->ll,ite->nq
open Internal.Es renaming cons->bE,nil->bV
open Internal.Ss renaming cons->bS,nil->cy
open Internal.Tg renaming name->cJ,tup->dS
open Internal.S renaming asg->cR,ifs->dA,ret->dT,expr->gD,fr->gT,asgA->iI,frC->nu,aug->qd,whl->rU,brk->rV,setSl->u4,retN->u5,cont->u6
open Internal.Out renaming next->de,ret->dH,cont->ua,brk->nA
open Internal.T renaming cmp->dx,val->jf,bop->mi,cmp2->rS
open Internal.It renaming range->kB,zip->qc
def Room (n:Nat)(A:et):Prop:=A.depth+n<FD/\A.units+n<cLine/\A.handled=aT
set_option backward.match.sparseCases true in
def yN (Kk Ee:b_->cz->Prop):Result->cz->Prop:=λr a=>match r with
 |.ok (.ret v)=>Kk v a|.ok _=>False|.error e=>Ee e a
inductive PE (C:Fx) (F:List cE) (ρ:Own) (h:cQ) (Kk:V->Sg->Prop):b_->cz->Prop where
 |mk {a:b_} {s':cz} (ρ':Own) (σ':Sg) (v:V):Kk v σ'->Rel ρ' s'.heap a v->St C ρ' σ' s'->Ext F ρ ρ' h s'.heap->PE C F ρ h Kk a s'
inductive PEs (C:Fx) (F:List cE) (ρ:Own) (h:cQ) (Kk:List V->Sg->Prop):List b_->cz->Prop where
 |mk {a:List b_} {s':cz} (ρ':Own) (σ':Sg) (v:List V):Kk v σ'->Rels ρ' s'.heap a v->St C ρ' σ' s'->Ext F ρ ρ' h s'.heap->PEs C F ρ h Kk a s'
inductive PT {α:Type} (C:Fx) (F:List cE) (ρ:Own) (h:cQ) (Kk:α->Sg->Prop):α->cz->Prop where
 |mk {b:α} {s':cz} (ρ':Own) (σ':Sg):Kk b σ'->St C ρ' σ' s'->Ext F ρ ρ' h s'.heap->PT C F ρ h Kk b s'
inductive PP (C:Fx) (F:List cE) (ρ:Own) (h:cQ) (Kk:List V->Sg->Prop):b_->cz->Prop where
 |mk {a:b_} {s':cz} (ρ':Own) (σ':Sg) (l:List V):Kk l σ'->Rel ρ' s'.heap a (l.head?.getD dD)->St C ρ' σ' s'->Ext F ρ ρ' h s'.heap->PP C F ρ h Kk a s'
theorem Xh {F:List cE}{h:cQ}{Kk:List V->Sg->Prop}{M:i8}{x:Sem b_}{Ee Q:b_->cz->Prop}{s:cz}(H:cD M A x (PP C F ρ h Kk) Ee s) (f:∀a s₁ b c l,Kk l c->Rel b s₁.heap a (l.head?.getD dD)->St C b c s₁->Ext F ρ b h s₁.heap->Q a s₁):cD M A x Q Ee s:=wM H (λa s₁ q=>let ⟨b,c,v,k,r,d,X⟩:=q;f a s₁ b c v k r d X)
theorem qf {F:List cE}{h:cQ}{Kk:V->Sg->Prop}{M:i8}{x:Sem b_}{Ee Q:b_->cz->Prop}{s:cz}(H:cD M A x (PE C F ρ h Kk) Ee s) (f:∀a s₁ b c v,Kk v c->Rel b s₁.heap a v->St C b c s₁->Ext F ρ b h s₁.heap->Q a s₁):cD M A x Q Ee s:=wM H (λa s₁ q=>let ⟨b,c,v,k,r,d,X⟩:=q;f a s₁ b c v k r d X)
theorem HE {F:List cE}{h:cQ}{Kk:List V->Sg->Prop}{M:i8}{x:Sem (List b_)}{Q:List b_->cz->Prop}{Ee:b_->cz->Prop}{s:cz}(H:cD M A x (PEs C F ρ h Kk) Ee s) (f:∀a s₁ b c v,Kk v c->Rels b s₁.heap a v->St C b c s₁->Ext F ρ b h s₁.heap->Q a s₁):cD M A x Q Ee s:=wM H (λa s₁ q=>let ⟨b,c,v,k,r,d,X⟩:=q;f a s₁ b c v k r d X)
theorem S4 {α:Type}{F:List cE}{h:cQ}{Kk:α->Sg->Prop}{M:i8}{x:Sem α}{Q:α->cz->Prop}{Ee:b_->cz->Prop}{s:cz}(H:cD M A x (PT C F ρ h Kk) Ee s) (f:∀a s₁ b c,Kk a c->St C b c s₁->Ext F ρ b h s₁.heap->Q a s₁):cD M A x Q Ee s:=wM H (λa s₁ q=>let ⟨b,c,k,d,X⟩:=q;f a s₁ b c k d X)
theorem PE.up (X:Ext F ρ ρ' h h')(p:PE C F ρ' h' Kk a s):PE C F ρ h Kk a s:=let ⟨e,f,v,a,b,c,d⟩:=p;⟨e,f,v,a,b,c,X.trans d⟩
theorem PT.up {α:Type}{F:List cE}{h h':cQ}{Kk:α->Sg->Prop}{a:α}{s:cz}(X:Ext F ρ ρ' h h')(p:PT C F ρ' h' Kk a s):PT C F ρ h Kk a s:=let ⟨e,f,b,c,d⟩:=p;⟨e,f,b,c,X.trans d⟩
def Yu (M:Mm)(i:Nat)(b:Option b_)(ρ:Own)(h:cQ):Prop:=∀v,M[i]?=aE (aE v)->∃a,b=aE a/\Rel ρ h a v
def Vi (a:Env)(M:Mm)(i:Nat)(x:Str)(ρ:Own)(h:cQ):Prop:=∃c b,a.cells.lookup x=aE c/\h.IsCell c b/\Yu M i b ρ h
structure EnvRel (C:Fx)(env:Env)(vis:List (Nat×Str))(M:Mm)(ρ:Own)(h:cQ):Prop where
 kind:env.scope.kind=gj
 glob:env.globals=kn
 bi:env.builtins=pS
 ns:∃m,h.Ns env.locals m/\∀i x,(i,x)∈vis->env.kindOf x=aE dv->Yu M i (m x) ρ h
 cel:∀i x,(i,x)∈vis->env.kindOf x≠aE dv->(env.kindOf x=aE eH\/env.kindOf x=aE ft)/\Vi env M i x ρ h
 nsO:env.locals∉fU/\Free ρ env.locals/\C.hb.get? env.locals=aT
 celO:∀i x c,(i,x)∈vis->env.kindOf x≠aE dv->env.cells.lookup x=aE c->c∉fU/\Free ρ c/\(env.kindOf x=aE eH->C.hb.get? c=aT)
 inj:∀i x j y c,(i,x)∈vis->(j,y)∈vis->env.kindOf x≠aE dv->env.kindOf y≠aE dv->env.cells.lookup x=aE c->env.cells.lookup y=aE c->x=y
theorem EnvRel.ext (R:EnvRel C b vis M ρ h)(X:Ext F ρ ρ' h h') (w:b.locals∉F) (y:∀i x c,(i,x)∈vis->b.kindOf x≠aE dv->b.cells.lookup x=aE c->c∉F):EnvRel C b vis M ρ' h':=by
 refine cU R.ns λm z A=>ud z λB D G s H=>⟨R.kind,R.glob,R.bi,⟨m,⟨B,D,G,X.keep _ _ s R.nsO.1 R.nsO.2.1 w,H⟩,λi x f g v n=>?_⟩,λi x f g=>?_,⟨R.nsO.1,R.nsO.2.1.ext X s,R.nsO.2.2⟩,λi x c f g j=>?_,R.inj⟩
 .refine cU (A i x f g v n) λa q r=>?_;exact iB a q (r.ext X)
 .refine dz (R.cel i x f g) λk l=>?_;obtain⟨c,t,j,⟨o,e,d⟩,r⟩:=l
  refine⟨k,c,t,j,⟨o,X.keep _ _ e (R.celO i x c f g j).1 (R.celO i x c f g j).2.1 (y i x c f g j),d⟩,λv n=>?_⟩;refine cU (r v n) λa q r=>?_;exact iB a q (r.ext X)
 .refine dz (R.cel i x f g) λk l=>?_;obtain⟨u,t,p,⟨o,e,d⟩,r⟩:=l
  obtain rfl:u=c:=dk (p.symm.trans j);exact dN (R.celO i x u f g j) λI J L=>n5 I (J.ext X e) L
theorem EnvRel.ext0 (R:EnvRel C a vis M ρ h)(X:Ext [] ρ ρ' h h'):EnvRel C a vis M ρ' h':=R.ext X (fh) λ_ _ _ _ _ _=>fh
noncomputable def tB (a:Env)(x:Str):cE:=if a.kindOf x=aE dv then a.locals else(a.cells.lookup x).getD 0
noncomputable def qg (vis:List (Nat×Str)):Bool:=vis.all λx=>vis.all λy=>(x.1==y.1)==(x.2==y.2)
theorem Conc.same (c:Conc C ρ σ h)(d:km L h h')(m:L∉fU)(g:Free ρ L)(r:C.hb.get? L=aT)(X:Ext [L] ρ ρ h h'):Conc C ρ σ h':=by
 refine⟨λb o e t=>(d.2 b λq=>by rw[q,r] at e;exact nN e).trans (c.base b o e t),λt k=>?_,c.len,c.lo,λp f=>?_,c.low,c.apart,λa s=>?_,λn p o l u=>?_⟩
 .exact cU (c.tab t k) λv e z=>iB v ((d.2 t λq=>m (q▸k)).trans e) (z.of X.code)
 .refine dz (c.hi p f) λi j=>?_;obtain⟨a,x⟩:=i;obtain⟨b,y⟩:=j
  exact⟨⟨a,(d.2 _ (eN (g p f).1)).trans x⟩,b,(d.2 _ (eN (g p f).2)).trans y⟩
 .exact eF (c.hid a s) λo e=>X.dom a o e
 .have f:=jS l
  exact(c.objs n p o l u).ext X (λ_ e=>(d.2 _ (eN (g p f).1)).trans e) λ_ e=>(d.2 _ (eN (g p f).2)).trans e
theorem Ext.same (c:km L h h')(e:h.get? L=aE f)(g:∀d n,f.data≠cK d n)(i:¬hU f)(j:∃o,h'.get? L=aE o):Ext [L] ρ ρ h h':=by
 refine⟨pG _,rfl,λb o q=>?_,λ_ h=>.inl h,λb o q ⟨d,n,z⟩ _=>?_,λb o q _ _ n=>(c.2 b (λh=>n (List.mem_singleton.mpr h))).trans q,λb o q z=>(c.2 b λa=>i (by rw[a,e] at q;obtain rfl:=dk q;exact z)).trans q⟩
 .by_cases a:b=L
  .exact a▸j
  .exact⟨o,(c.2 b a).trans q⟩
 .refine(c.2 b λa=>?_).trans q
  rw[a,e] at q;obtain rfl:=dk q;exact g d n z
theorem jN (h:qg vis=bK)(a:(i,x)∈vis)(b:(j,y)∈vis):i=j↔x=y:=by
 have:=List.all_eq_true.mp (List.all_eq_true.mp h _ a) _ b;simp only[beq_iff_eq] at this;constructor
 .intro e;simpa [e] using this
 .intro e;simpa [e] using this
theorem mn (R:EnvRel C e vis M ρ s.heap) (st:St C ρ σ s) (L:qg vis=bK) (B:(i,x)∈vis) (H:e.kindOf x≠aE ft) (r:Rel ρ s.heap a v):cD (cm C.prog C.w) A (storeName e x a) (λ_ s'=>St C ρ σ s'/\EnvRel C e vis (M.set i (aE v)) ρ s'.heap/\Ext [tB e x] ρ ρ s.heap s'.heap) Ee s:=by
 refine cU R.ns λm hn hm=>?_;have a0:=hn;refine wo a0 λoL es ep e1 Z e3=>?_;have l:∀j w,(M.set i (aE v))[j]?=aE (aE w)->(j=i/\w=v)\/(j≠i/\M[j]?=aE (aE w)):=λj w q=>by
  rw[Oc] at q;split at q
  .rename_i u
   split at q
   .exact .inl ⟨u.symm,by simpa using q.symm⟩
   .exact nN q
  .rename_i u;exact .inr ⟨λz=>u z.symm,q⟩
 by_cases F:e.kindOf x=aE dv
 .refine wpAny_storeName_local F hn (λN P G=>?_) (by refine cn (R.kind ..) ?_;rfl)
  have X:Ext [e.locals] ρ ρ s.heap N:=Ext.same G e1 (λ_ _ z=>by rw[Z] at z;exact ql z) (oY Z) (by refine ud P λo _ _ q _=>?_;exact⟨o,q⟩)
  have X':Ext [tB e x] ρ ρ s.heap N:=by unfold tB;refine cn (if_pos F ..) ?_;exact X
  have ne:∀c Q,s.heap.IsCell c Q->c≠e.locals:=λc Q ⟨o,q,d⟩ z=>by rw[z,e1] at q;obtain rfl:=dk q;rw[Z] at d;exact ql d
  refine n5 ⟨st.conc.same G R.nsO.1 R.nsO.2.1 R.nsO.2.2 X,st.os,⟨st.gens.1,v8 _⟩⟩ ⟨R.kind,R.glob,R.bi,⟨_,P,λj y n f w h=>?_⟩,λj y n f=>?_,R.nsO,R.celO,R.inj⟩ X'
  .rcases l j w h with⟨rfl,rfl⟩ |⟨u,h⟩
   .refine cn (if_pos ((jN L n B).mp rfl) ..) ?_;exact iB a rfl (r.ext X)
   .exact cn ((if_neg (λq=>u ((jN L n B).mpr q))) ..)<|cU (hm j y n f w h) λb q r'=>iB b q (r'.ext X)
  .refine dz (R.cel j y n f) λk p=>?_;obtain⟨c,Q,I,g,r'⟩:=p
   refine⟨k,c,Q,I,g.sameBut G (ne _ _ g),λw h=>?_⟩;rcases l j w h with⟨rfl,rfl⟩ |⟨u,h⟩
   .exact absurd ((jN L n B).mp rfl▸F) f
   .refine cU (r' w h) λb q t=>?_;exact iB b q (t.ext X)
 .refine dz (R.cel i x B F) λk p=>?_;obtain⟨c,Q,I,g,r'⟩:=p
  have k:e.kindOf x=aE eH:=k.resolve_right H;refine cU g λoc ec U=>wpAny_storeName_cell R.kind k I ⟨oc,ec,U⟩ (λN W G=>?_);have X:Ext [c] ρ ρ s.heap N:=Ext.same G ec (λ_ _ z=>by rw[U] at z;exact ql z) (zT U) (by refine cU W λo q _=>?_;exact⟨o,q⟩)
  have X':Ext [tB e x] ρ ρ s.heap N:=by unfold tB;refine cn (if_neg F ..) (cn (I ..) ?_);exact X
  have ne:e.locals≠c:=λz=>by rw[<-z,e1] at ec;obtain rfl:=dk ec;rw[Z] at U;exact ql U
  refine dN (R.celO i x c B F I) λq1 q2 q3=>n5 ⟨st.conc.same G q1 q2 (q3 k) X,st.os,st.gens⟩ ⟨R.kind,R.glob,R.bi,⟨m,hn.sameBut G ne,λj y n f w h=>?_⟩,λj y n f=>?_,R.nsO,R.celO,R.inj⟩ X'
  .rcases l j w h with⟨rfl,rfl⟩ |⟨u,h⟩
   .exact absurd ((jN L n B).mp rfl▸f) F
   .refine cU (hm j y n f w h) λb q t=>?_;exact iB b q (t.ext X)
  .by_cases J:y=x
   .subst J
    refine⟨.inl k,c,aE a,I,W,λw h=>?_⟩;rcases l j w h with⟨rfl,rfl⟩ |⟨u,h⟩
    .exact iB a rfl (r.ext X)
    .exact absurd ((jN L n B).mpr rfl) u
   .refine dz (R.cel j y n f) λk' p=>?_;obtain⟨c',a1,Y,D,t⟩:=p
    have a2:c'≠c:=λz=>J (R.inj j y i x c n B f F (z▸Y) I);refine⟨k',c',a1,Y,D.sameBut G a2,λw h=>?_⟩;rcases l j w h with⟨rfl,rfl⟩ |⟨u,h⟩
    .exact absurd ((jN L n B).mp rfl) J
    .refine cU (t w h) λb q r3=>?_;exact iB b q (r3.ext X)
noncomputable def hV (x:Str):Bool:=!(x==("__debug__":Str))&&!(x==("__classdict__":Str))
noncomputable def fb (nm:List (Str×gd))(x:Str):Bool:=nm.lookup x==aE dv||nm.lookup x==aE eH
noncomputable def ui (nm:List (Str×gd))(vis:List (Nat×Str)):Tg->Bool
 |cJ i x _=>vis.contains (i,x)&&fb nm x|dS ts _ _=>ts.all λt=>vis.contains (t.1,t.2.1)&&fb nm t.2.1
noncomputable def rZ (nm:List (Str×gd))(a:List (Str×gd)):List (Str×gd):=a.map λx=>if(x.2==ft&&nm.lookup x.1==aE eH)=bK then(x.1,eH) else x
noncomputable def uj (nm:List (Str×gd))(vis:List (Nat×Str))(a:Scope)(b:List (Nat×Str))(c:List Nat):Bool:=a.kind==gj&&a.names.all (λx=>decide (a.names.lookup x.1=aE x.2))&&qg b&&
 (a.names.all λx=>x.2 != ft||((nm.lookup x.1==aE eH||nm.lookup x.1==aE ft)&&vis.any λy=>y.2==x.1))&&
 b.all λx=>match a.names.lookup x.2 with
  |some dv=>c.contains x.1|some eH=>c.contains x.1|some ft=>!c.contains x.1&&vis.contains x|_=>cu
mutual
noncomputable def kG (nm:List (Str×gd))(vis:List (Nat×Str)):E->Bool
 |bO ..=>bK|aS i x _=>vis.contains (i,x)&&hV x|ll g _=>decide (g<24)&&(nm.lookup (lV g)==aE kE&&hV (lV g))|cA _ a b _=>kG nm vis a&&kG nm vis b|gB a _=>kG nm vis a|.nt a _=>kG nm vis a|mh _ a b _=>kG nm vis a&&kG nm vis b|nq t a b _=>HF nm vis t&&kG nm vis a&&kG nm vis b|gh _ a b _=>kG nm vis a&&kG nm vis b|cX a i _=>kG nm vis a&&kG nm vis i|gP _ a lo hi st _ _=>kG nm vis a&&tC nm vis lo&&tC nm vis hi&&tC nm vis st&&lo.one&&hi.one&&st.one|dO j _ _=>tC nm vis j|dM _ j _=>tC nm vis j|eS l n r c d f m _=>HG nm vis n r&&uj nm vis d f m&&ui d.names f n&&SL (rZ nm d.names) f c&&kG (rZ nm d.names) f l|di k _ h _=>decide (k<22)&&(nm.lookup (lV k)==aE kE&&hV (lV k)&&tC nm vis h)|dY o _ q h p=>kG nm vis o&&(tC nm vis h&&(decide (h.back.length<30)&&q.endLine==p.line))|.starm o _ _ e _ _=>kG nm vis o&&kG nm vis e|dZ o _ _=>kG nm vis o
noncomputable def tC (nm:List (Str×gd))(vis:List (Nat×Str)):Es->Bool
 |bV=>bK|bE e a=>kG nm vis e&&tC nm vis a
noncomputable def HF (nm:List (Str×gd))(vis:List (Nat×Str)):T->Bool
 |jf e=>kG nm vis e&&z6 e|.nt t _=>HF nm vis t|mi _ a b _=>HF nm vis a&&HF nm vis b|dx _ a b _=>kG nm vis a&&kG nm vis b|rS _ _ a b c _=>kG nm vis a&&kG nm vis b&&kG nm vis c
noncomputable def SL (nm:List (Str×gd))(vis:List (Nat×Str)):Ts->Bool
 |.nil=>bK|.one t=>HF nm vis t
noncomputable def HG (nm:List (Str×gd))(vis:List (Nat×Str))(d:Tg):It->Bool
 |.val e=>kG nm vis e|kB _ c _=>nm.lookup ("range":Str)==aE kE&&tC nm vis c|qc _ a b _=>nm.lookup ("zip":Str)==aE kE&&kG nm vis a&&kG nm vis b&&(match d with|dS ..=>bK|_=>cu)
end
noncomputable def Own.hides (ρ:Own)(l:List cE):Own:=⟨ρ.l,l++ρ.hid⟩
theorem Ext.hides (X:Ext F ρ ρ' h h')(l):Ext F (ρ.hides l) (ρ'.hides l) h h':=⟨X.pre,by show l++ρ'.hid=l++ρ.hid;exact cn (X.hid ..) rfl,X.dom,X.new,λb o e q f=>X.seq b o e q ⟨f.1,λm=>f.2 (mZ _ m)⟩,X.keep,X.code⟩
noncomputable def Own.un (ρ:Own)(a:Own):Own:=⟨ρ.l,a.hid⟩
theorem Rel.sub (b:ρ₂.l=ρ.l)(c:∀a∈ρ₂.hid,a∈ρ.hid)(r:Rel ρ h a v):Rel ρ₂ h a v:=(iv (λ_ _ _ _ e f=>⟨e,λp d=>f.1 p (b▸d),λq=>f.2 (c _ q)⟩) λ_ _ e=>by rw[b];exact e).1 r
theorem Rels.sub (b:ρ₂.l=ρ.l)(c:∀a∈ρ₂.hid,a∈ρ.hid)(r:Rels ρ h a v):Rels ρ₂ h a v:=(iv (λ_ _ _ _ e f=>⟨e,λp d=>f.1 p (b▸d),λq=>f.2 (c _ q)⟩) λ_ _ e=>by rw[b];exact e).2 r
theorem Conc.sub (b:ρ₂.l=ρ.l)(d:∀a∈ρ₂.hid,a∈ρ.hid)(c:Conc C ρ σ h):Conc C ρ₂ σ h:=⟨c.base,c.tab,by refine cn (b ..) ?_;exact c.len,by refine cn (b ..) ?_;exact c.lo,by refine cn (b ..) ?_;exact c.hi,by refine cn (b ..) ?_;exact c.low,by refine cn (b ..) ?_;exact c.apart,λa e=>c.hid a (d a e),λn p o f g=>(c.objs n p o (by refine ie (b ..) ?_;exact f) g).un (λ_ _=>Rel.sub b d) λ_ _=>Rels.sub b d⟩
theorem St.sub (b:ρ₂.l=ρ.l)(d:∀a∈ρ₂.hid,a∈ρ.hid)(c:St C ρ σ s):St C ρ₂ σ s:=⟨c.conc.sub b d,c.os,c.gens⟩
theorem Rel.hides:∀(l:List cE),(∀a∈l,h.get? a=Bx)->∀{a:b_} {v:V},Rel ρ h a v->Rel (ρ.hides l) h a v:=by
 intro c;induction c with
 |nil=>exact @λ_ _ _ r=>r
 |cons x l d=>exact @λb a v r=>(d (λy e=>b y (.tail _ e)) r).hide (b x (.head _))
theorem EnvRel.map (t:ρ₂.l=ρ.l)(f:∀a v,Rel ρ h a v->Rel ρ₂ h a v)(R:EnvRel C j vis M ρ h):EnvRel C j vis M ρ₂ h:=by
 refine cU R.ns λm u w=>⟨R.kind,R.glob,R.bi,⟨m,u,λi x e g v l=>?_⟩,λi x e g=>?_,⟨R.nsO.1,?_,R.nsO.2.2⟩,λi x c e g n=>?_,R.inj⟩
 .refine cU (w i x e g v l) λa q r=>?_;exact iB a q (f _ _ r)
 .refine dz (R.cel i x e g) λk o=>?_;obtain⟨c,y,n,d,r⟩:=o
  exact⟨k,c,y,n,d,λv l=>by refine cU (r v l) λa q r=>?_;exact⟨a,q,f _ _ r⟩⟩
 .intro p s;exact R.nsO.2.1 p (t▸s)
 .exact dN (R.celO i x c e g n) λa b c=>n5 a (λp s=>b p (t▸s)) c
theorem Ext.unhides (X:Ext F (ρ.hides l) ρ' h h')(c:∀a∈l,h.get? a=aT):Ext F ρ (ρ'.un ρ) h h':=⟨X.pre,rfl,X.dom,X.new,λb o e q f=>X.seq b o e q ⟨f.1,λm=>(List.mem_append.mp m).elim (λz=>by rw[c b z] at e;exact nN e) f.2⟩,X.keep,X.code⟩
theorem uk (X:Ext F (ρ.hides l) ρ' h h'):∀a∈(ρ'.un ρ).hid,a∈ρ'.hid:=λa b=>by refine cn (X.hid ..) ?_;exact mZ _ b
def Its (C:Fx)(d:Expr)(P:List cE)(I:cE):List V->Own->cQ->Prop
 |[],ρ,h=>∀(F Hd:List cE) (ρ':Own) (b:Sg) (s:cz),Ext F (ρ.hides Hd) ρ' h s.heap->(∀a∈Hd,h.get? a=aT)->(∀p∈P,p∉F)->St C ρ' b s->∀A Ee,A.handled=aT->
  cD (cm C.prog C.w) A (h_ (aK I)) (λr e=>r=aT/\St C ρ' b e/\Ext P ρ' ρ' s.heap e.heap) Ee s
 |x::f,ρ,h=>∀(F Hd:List cE) (ρ':Own) (b:Sg) (s:cz),Ext F (ρ.hides Hd) ρ' h s.heap->(∀a∈Hd,h.get? a=aT)->(∀p∈P,p∉F)->St C ρ' b s->∀A Ee,A.handled=aT->
  cD (cm C.prog C.w) A (h_ (aK I)) (λr e=>∃v,r=aE v/\cD (cm C.prog C.w) A (OL d (aK I) v) (λ_ c=>Rel ρ' c.heap v x/\St C ρ' b c/\Ext P ρ' ρ' s.heap c.heap/\Its C d P I f ρ' c.heap) Ee e) Ee s
theorem Its.ext (i:Its C n P I o ρ h)(X:Ext F (ρ.hides Hd) ρ' h h')(u:∀a∈Hd,h.get? a=aT)(v:∀p∈P,p∉F):Its C n P I o ρ' h':=by
 have k:∀(j f:List cE) (d:Own) (s:cz),Ext j (ρ'.hides f) d h' s.heap->(∀a∈f,h'.get? a=aT)->(∀p∈P,p∉j)->
  Ext (F++j) (ρ.hides (f++Hd)) d h s.heap/\(∀a∈f++Hd,h.get? a=aT)/\∀p∈P,p∉F++j:=λj f d s Y l m=>by
  refine⟨?_,λa w=>?_,λp t q=>(List.mem_append.mp q).elim (v p t) (m p t)⟩
  .have e:ρ.hides (f++Hd)=(ρ.hides Hd).hides f:=by unfold Own.hides;simp
   exact cn (e ..)<|((X.mono (by intro a b;exact oS _ b)).hides f).trans (Y.mono (by intro a b;exact mZ _ b))
  .rcases List.mem_append.mp w with q|q
   .exact X.back (l a q)
   .exact u a q
 induction o with
 |nil=>exact λj f d g s Y l m r=>let ⟨a,b,c⟩:=k j f d s Y l m;i _ _ d g s a b c r
 |cons x o=>exact λj f d g s Y l m r=>let ⟨a,b,c⟩:=k j f d s Y l m;i _ _ d g s a b c r
theorem Its.ext' (i:Its C a P I b ρ h)(X:Ext F ρ ρ' h h')(c:∀p∈P,p∉F):Its C a P I b ρ' h':=i.ext (Hd:=[]) X (λ_ h=>(fh h).elim) c
inductive IterPost (C:Fx) (h₀:cQ) (ρ':Own) (σ':Sg) (h:cQ) (tgt:Expr) (items:List V) (it:b_) (s':cz):Prop
 |mk (I:cE) (P:List cE) (_:it=aK I) (_:∀p∈P,h.get? p=aT\/h₀.get? p=aT) (_:∀p∈P,∃o,s'.heap.get? p=aE o) (_:St C ρ' σ' s') (_:Ext [] ρ' ρ' h s'.heap)
  (_:Its C tgt P I items ρ' s'.heap) (_:∀(F:List cE) (ρ₂:Own) (s₂:cz),Ext F ρ' ρ₂ s'.heap s₂.heap->(∀p∈P,p∉F)->∀A Ee (Q:b_->cz->Prop),Q (aK I) s₂->cD (cm C.prog C.w) A (pZ (aK I)) Q Ee s₂)
def IterOk (C:Fx)(c:Expr)(a:cQ)(ρ:Own)(h:cQ)(d:b_)(items:List V):Prop:=∀(ρ':Own) (b:Sg) (s:cz),Ext [] ρ ρ' h s.heap->St C ρ' b s->∀A Ee,A.handled=aT->
  cD (cm C.prog C.w) A (pZ d) (IterPost C a ρ' b s.heap c items) Ee s
theorem IterOk.old (i:IterOk C l j ρ h r items)(X:Ext F m ρ₂ k j):IterOk C l k ρ h r items:=λn o s Y t A u v=>by refine wM (i n o s Y t A u v) (λx y q=>?_);obtain⟨I,P,a,b,c,d,e,f,g⟩:=q;exact⟨I,P,a,λp w=>(b p w).imp id X.back,c,d,e,f,g⟩
def fk (C:Fx)(h:cQ):Prop:=∀b o,C.hb.get? b=aE o->b∉fU->h.get? b=aE o
def lr (C:Fx)(x:Str)(a:b_):Prop:=∀(A:et) (Ee:b_->cz->Prop) (b:Env) (s:cz) (Q:b_->cz->Prop),fk C s.heap->b.globals=kn->b.builtins=pS->Q a s->
  cD (cm C.prog C.w) A (loadGlobal b x) Q Ee s
def sj (C:Fx)(f:b_):Prop:=∀h,fk C h->∃k,(k=Keeper.frame\/k=Keeper.machine\/k=Keeper.boundFrame)/\Looks (cm C.prog C.w) h (Gi f) k
def JL (ρ:Own)(h h':cQ)(a:b_):V->Prop
 |cw l=>∃x vs n,a=aK x/\h.get? x=aT/\h'.get? x=aE {cls:=bT "list",data:=cK (gW vs) n}/\Rels ρ h vs l|v=>Rel ρ h' a v
theorem sk {α:Type}{M:i8}{x:Sem α}{Q:α->cz->Prop}{Ee:b_->cz->Prop}{s:cz}(h:∀b:α->cz->Prop,(∀a c,Q a c->b a c)->cD M A x b Ee s):cD M A x Q Ee s:=h Q λ_ _=>id
theorem SM {α:Type}{M:i8}{x:Sem α}{Q:α->cz->Prop}{Ee:b_->cz->Prop}{s:cz}(h:∀a,cD M A x Q a s):cD M A x Q Ee s:=h Ee
theorem PA {α:Type}{M:i8}{x:Sem α}{Q b:α->cz->Prop}{Ee:b_->cz->Prop}{s:cz}(h:cD M A x b Ee s)(f:∀a c,b a c->Q a c):cD M A x Q Ee s:=kq h f λ_ _=>id
def SN (Kk:List V->Prop)(vs:List V):Prop:=match vs with
 |[aO b]=>b.natAbs<=1000000/\Kk (gz 0 b)|[aO a,aO b]=>(a.natAbs<=1000000/\b.natAbs<=1000000)/\Kk (gz a b)|[aO a,aO b,aO c]=>(a.natAbs<=1000000/\b.natAbs<=1000000/\c=-1)/\Kk (iz a b)|_=>False
def S5 (C:Fx)(ρ:Own)(σ:Sg)(h:cQ)(f a:b_):b_×List b_->cz->Prop:=λr b=>r=(f,[a])/\St C ρ σ b/\Ext [] ρ ρ h b.heap
def S6 (C:Fx)(ρ:Own)(σ:Sg)(h:cQ)(m a:b_):b_->cz->Prop:=λf b=>(∃x,f=aK x/\b.heap.get? x=aE {cls:=bT "method",data:=cY #[m,a]}/\x∉fU/\Free ρ x)/\
 (∃q o fd,m=aK q/\C.hb.get? q=aE o/\o.data=fK fd/\q∉fU)/\St C ρ σ b/\Ext [] ρ ρ h b.heap
def XC (C:Fx)(ρ:Own)(σ:Sg)(h:cQ)(Kk:Bool->Prop):b_->cz->Prop:=λr a=>∃c,r=e_ c/\Kk c/\St C ρ σ a/\Ext [] ρ ρ h a.heap
def JM (C:Fx)(ρ:Own)(σ:Sg)(h:cQ)(Kk:Bool->Prop):Bool->cz->Prop:=λc a=>Kk c/\St C ρ σ a/\Ext [] ρ ρ h a.heap
def Vj (C:Fx)(ρ:Own)(σ:Sg)(h:cQ)(l r:List V):b_->cz->Prop:=λv c=>∃b,(∀a∈b,h.get? a=aT)/\St C (ρ.hides b) σ c/\Ext [] (ρ.hides b) (ρ.hides b) h c.heap/\
 ∀ts k p,IterOk C (Tg.back (dS ts k p)) h (ρ.hides b) c.heap v (l7 (λx y=>dj [x,y]) l r)
def SO (C:Fx)(ρ:Own)(σ:Sg)(h:cQ)(Kk:List V->Prop)(r:b_)(a:cz):Prop:=∃items,Kk items/\St C ρ σ a/\Ext [] ρ ρ h a.heap/\∀b,IterOk C b h ρ a.heap r items
def PQ (C:Fx)(ρ:Own)(h:cQ)(σ:Sg)(Kk:V->Prop):b_->cz->Prop:=PE C [] ρ h λv a=>a=σ/\Kk v
def Xi (C:Fx)(ρ:Own)(h:cQ)(Kk:Option V->Sg->Prop):Option b_->cz->Prop:=λr c=>∃ρ' b w,Kk w b/\(match r,w with|none,aT=>True|some a,aE v=>Rel ρ' c.heap a v|_,_=>False)/\St C ρ' b c/\Ext [] ρ ρ' h c.heap
inductive ItP (C:Fx) (ρ:Own) (h:cQ) (tg:Expr) (Kk:List V->Sg->Prop) (a:b_) (s':cz):Prop
 |mk (ρ':Own) (σ':Sg) (items:List V) (Hz:List cE) (_:Kk items σ') (_:∀a∈Hz,h.get? a=aT) (_:St C ρ' σ' s') (_:Ext [] (ρ.hides Hz) ρ' h s'.heap) (_:IterOk C tg h ρ' s'.heap a items)
def m5 (C:Fx)(n:Nat)(Z:Sem0)(D z:Nat->b_):Prop:=Rc [
 (∀{j x y Kk ρ σ s A a b Ee},Z.bin j x y Kk->Rel ρ s.heap a x->Rel ρ s.heap b y->St C ρ σ s->Room n A->cD (cm C.prog C.w) A (pW j a b) (PQ C ρ s.heap σ Kk) Ee s),
 (∀{j x y Kk ρ σ s A a b Ee},Z.ipl j x y Kk->Rel ρ s.heap a x->Rel ρ s.heap b y->St C ρ σ s->Room n A->cD (cm C.prog C.w) A (inplaceOp j a b) (PQ C ρ s.heap σ Kk) Ee s),
 (∀{j x y Kk ρ σ s A a b Ee},Z.cmp j σ x y Kk->Rel ρ s.heap a x->Rel ρ s.heap b y->St C ρ σ s->Room n A->
  cD (cm C.prog C.w) A (mU j a b) (XC C ρ σ s.heap Kk) Ee s),
 (∀{x Kk ρ σ s A a Ee},Z.truth σ x Kk->Rel ρ s.heap a x->St C ρ σ s->Room n A->cD (cm C.prog C.w) A (rz a) (JM C ρ σ s.heap Kk) Ee s),
 (∀{x y Kk ρ σ s A a b Ee c} {d:Expr},Z.sub σ x y Kk->Rel ρ s.heap a x->Rel ρ s.heap b y->(∀l u t p,d≠ir l u t p)->St C ρ σ s->Room n A->
  cD (cm C.prog C.w) A (nW c d a b) (PQ C ρ s.heap σ Kk) Ee s),
 (∀{x:V} {l u t:List V} {Kk ρ σ s A a B G H i Ee c lo hi st q},Z.slc σ x l.head? u.head? t.head? Kk->Rel ρ s.heap a x->
  Rel ρ s.heap B (l.head?.getD dD)->Rel ρ s.heap G (u.head?.getD dD)->Rel ρ s.heap H (t.head?.getD dD)->
  s.heap.get? i=aE {cls:=bT "slice",data:=cY #[B,G,H]}->St C ρ σ s->Room n A->
  cD (cm C.prog C.w) A (nW c (ir lo hi st q) a (aK i)) (λr F=>∃v,Kk v/\JL ρ s.heap F.heap r v/\St C ρ σ F/\Kp s.heap F.heap) Ee s),
 (∀{k vs Kk ρ σ s A e Ee},Z.spec k vs σ Kk->Rels ρ s.heap e vs->St C ρ σ s->Room n A->cD (cm C.prog C.w) A (call (D k) e) (PE C [] ρ s.heap Kk) Ee s),
 (∀k,k<22->lr C (lV k) (D k)/\sj C (D k)),
 (∀{k vs Kk ρ σ s A e Ee},Z.mspec k vs σ Kk->Rels ρ s.heap e vs->St C ρ σ s->Room n A->cD (cm C.prog C.w) A (call (z k) e) (PE C [] ρ s.heap Kk) Ee s),
 (∀{k m v ρ σ s A a Ee I},Z.res σ v m=aE k->Rel ρ s.heap a v->St C ρ σ s->Room n A->
  cD (cm C.prog C.w) A (td a (eh m) I) (S5 C ρ σ s.heap (z k) a) Ee s),
 (∀(Ee:b_->cz->Prop) {k vs Kk ρ σ s A e},Z.cspec k vs σ Kk->Rels ρ s.heap e vs->St C ρ σ s->Room n A->fA (cm C.prog C.w) A (eR (z k) ⟨e,[]⟩) (yN (PE C [] ρ s.heap Kk) Ee) s),
 (∀k,sj C (z k)),
 (∀g,g<24->∃a,lr C (lV g) a/\∀ρ h,Rel ρ h a (Z.gval g)),
 (∀{x m Kk ρ σ s A a Ee},Z.att σ x m Kk->Rel ρ s.heap a x->St C ρ σ s->Room n A->cD (cm C.prog C.w) A (pX a (eh m) bK) (PQ C ρ s.heap σ Kk) Ee s),
 (∀(m:Nat) {x y Kk ρ σ s A a b Ee},Z.set σ x m y Kk->Rel ρ s.heap a x->Rel ρ s.heap b y->St C ρ σ s->Room n A->cD (cm C.prog C.w) A (setAttr a (eh m) b) (PT C [] ρ s.heap λ_ o=>Kk o) Ee s),
 (∀{k m v ρ σ s A a Ee},Z.resb σ v m=aE k->Rel ρ s.heap a v->St C ρ σ s->Room n A->
  cD (cm C.prog C.w) A (pX a (eh m) bK) (S6 C ρ σ s.heap (z k) a) Ee s),
 (∀{x y Kk ρ σ s A a b i B lo Ee},Z.setsl σ x lo y Kk->Rel ρ s.heap a x->Rel ρ s.heap b y->Rel ρ s.heap B (lo.getD dD)->s.heap.get? i=aE {cls:=bT "slice",data:=cY #[B,cG,cG]}->St C ρ σ s->Room n A->
  cD (cm C.prog C.w) A (BD a (aK i) b) (PT C [] ρ s.heap λ_ o=>Kk o) Ee s),
 (∀{w f l ρ h a},Rel ρ h a (cw l)->IterOk C w f ρ h a l),
 (∀{w f x ρ h a},Rel ρ h a (cC x)->IterOk C w f ρ h a (kT x)),
 (lr C "range" (bT "range")),
 (lr C "zip" (bT "zip")),
 (∀(Kk:List V->Prop) {vs e} {ρ σ s A Ee},SN Kk vs->Rels ρ s.heap e vs->St C ρ σ s->Room n A->
  cD (cm C.prog C.w) A (call (bT "range") e) (SO C ρ σ s.heap Kk) Ee s),
 (∀{x y l r ρ σ s A Ee a b},oj x=aE l->oj y=aE r->Rel ρ s.heap a x->Rel ρ s.heap b y->St C ρ σ s->Room n A->
  cD (cm C.prog C.w) A (call (bT "zip") [a,b]) (Vj C ρ σ s.heap l r) Ee s),
 (∀t,sj C (bT t)),
 (∀{k Kk ρ σ s A p Ee} {Q:b_->cz->Prop},Z.next σ k Kk->ρ.l[k]?=aE p->St C ρ σ s->Q (aK p.1) s->cD (cm C.prog C.w) A (pZ (aK p.1)) Q Ee s),
 (∀{k Kk ρ σ s A p Ee},Z.next σ k Kk->ρ.l[k]?=aE p->St C ρ σ s->Room n A->cD (cm C.prog C.w) A (h_ (aK p.1)) (Xi C ρ s.heap Kk) Ee s)]
theorem St.based (c:St C ρ σ s):fk C s.heap:=c.conc.base
theorem lg (R:EnvRel C f vis M ρ s.heap) (l:(i,x)∈vis) (g:hV x=bK) (n:M[i]?=aE (aE v)) (h:∀a,Rel ρ s.heap a v->Q a s):cD (cm C.prog C.w) A (Gj f x) Q Ee s:=by
 unfold hV at g;simp only[eB,m_] at g;by_cases j:f.kindOf x=aE dv
 .exact cU R.ns λm q t=>cU (t i x l j v n) λa e r=>uS R.kind j q e (h a r)
 .refine dz (R.cel i x l j) λk d=>?_;obtain⟨c,u,o,b,r⟩:=d
  refine cU (r v n) λa d p=>?_;subst d;rcases k with k|k
  .exact wpAny_loadName_cell R.kind k o b (h a p)
  .exact B3 R.kind k o b (h a p) g.2
theorem tD (R:EnvRel C b vis M ρ s.heap) (d:St C ρ σ s) (e:b.scope.names.lookup x=aE kE) (c:hV x=bK) (g:lr C x a) (h:Q a s):cD (cm C.prog C.w) A (ei (dI x p) b) Q Ee s:=by
 unfold hV at c;simp only[eB,m_] at c;exact Name_function_global R.kind e (g A Ee b s Q d.based R.glob R.bi h) c.1
theorem Free.new (c:Conc C ρ σ h)(e:h.get? a=aT):Free ρ a:=λp f=>by refine dz (c.hi p f) λb d=>?_;obtain⟨o,x⟩:=b;obtain⟨g,y⟩:=d;exact⟨λq=>(by rw[<-q,e] at x;exact nN x),λq=>(by rw[<-q,e] at y;exact nN y)⟩
theorem FreeH.new (c:Conc C ρ σ h)(e:h.get? a=aT):FreeH ρ a:=⟨Free.new c e,λq=>by refine eF (c.hid a q) λo b=>?_;rw[e] at b;cases b⟩
theorem Conc.notab (c:Conc C ρ σ h)(e:h.get? a=aT):a∉fU:=λq=>by refine cU (c.tab a q) λb x _=>?_;rw[e] at x;exact nN x
theorem Conc.nobase (c:Conc C ρ σ h)(e:h.get? a=aT):C.hb.get? a=aT:=by
 induction q:C.hb.get? a with
 |none=>rfl|some o=>have:=c.base a o q (c.notab e);rw[e] at this;exact nN this
theorem Ext.addNew (k:Kp h h')(a:h.get? p.1=aT)(c:h.get? p.2=aT):Ext [] ρ (ρ.add p) h h':=⟨yc _ _,rfl,λb o e=>⟨o,k b o e⟩,λq d=>(List.mem_append.mp d).elim .inl λf=>by obtain rfl:=List.mem_singleton.mp f;exact .inr ⟨a,c⟩,λb o e _ _=>k b o e,λb o e _ _ _=>k b o e,λb o e _=>k b o e⟩
theorem Conc.own (c:Conc C ρ σ h)(k:Kp h h')(v:h.get? p.1=aT)(w:h.get? p.2=aT) (B:∃o,h'.get? p.1=aE o) (D:∃o,h'.get? p.2=aE o) (r:ORel (ρ.add p) h' p o):Conc C (ρ.add p) (σ++[o]) h'/\Ext [] ρ (ρ.add p) h h':=by
 have X:Ext [] ρ (ρ.add p) h h':=Ext.addNew k v w;have b:=c.keeps k;refine⟨⟨b.base,b.tab,by simp[Own.add,b.len],λq l=>?_,λq l=>?_,λq l=>?_,λi j q f a F m=>?_,b.hid,λi q G a g=>?_⟩,X⟩
 .rcases List.mem_append.mp l with d|d
  .exact b.lo q d
  .obtain rfl:=List.mem_singleton.mp d;exact⟨c.nobase v,c.nobase w⟩
 .rcases List.mem_append.mp l with d|d
  .exact b.hi q d
  .obtain rfl:=List.mem_singleton.mp d;exact⟨B,D⟩
 .rcases List.mem_append.mp l with d|d
  .exact b.low q d
  .obtain rfl:=List.mem_singleton.mp d;exact⟨c.notab v,c.notab w⟩
 .have x:=Free.new c v
  have y:=Free.new c w;have n:∀i q,(ρ.l++[p])[i]?=aE q->q∈ρ.l/\ρ.l[i]?=aE q\/q=p/\i=ρ.l.length:=λi q a=>by
   by_cases e:i<ρ.l.length
   .rw[jR e] at a;exact .inl ⟨jS a,a⟩
   .rw[lX (ia e)] at a
    have s:i-ρ.l.length=0:=by
     induction f:i-ρ.l.length with
     |zero=>rfl|succ k=>rw[f] at a;simp at a
    rw[s] at a;have:p=q:=dk a;exact .inr ⟨this.symm,eC (d8 (BQ (c_ s) (sB ..))) (d8 (oV (ia e)))⟩
  rcases n i q a with⟨z,H⟩ |⟨rfl,I⟩ <;>rcases n j f F with⟨A,J⟩ |⟨rfl,L⟩
  .exact b.apart i j q f H J m
  .have t:=x q z;have u:=y q z
   exact⟨eN t.1,eN u.1,eN t.2,eN u.2⟩
  .have t:=x f A;have u:=y f A
   exact⟨t.1,t.2,u.1,u.2⟩
  .exact absurd (I.trans L.symm) m
 .have a:(ρ.l++[p])[i]?=aE q:=a
  by_cases e:i<ρ.l.length
  .rw[jR e] at a
   rw[jR (b.len▸e)] at g;exact(c.objs i q G a g).ext X (λ_=>k _ _) λ_=>k _ _
  .rw[lX (ia e)] at a
   rw[lX (b.len▸ia e),<-b.len] at g;induction s:i-ρ.l.length with
   |zero=>rw[s] at a g;simp at a g;subst a;subst g;exact r|succ k=>rw[s] at a;simp at a
theorem BW (st:St C ρ σ s)(b:St C ρ σ d)(k:Kp s.heap d.heap) (f:JL ρ s.heap d.heap a v) (h:DE own v σ Kk):PE C [] ρ s.heap Kk a d:=by
 have i:Ext [] ρ ρ s.heap d.heap:=Ext.of_all k;cases v with
 |lst l=>
  refine tA f λx t m j c g r=>?_;subst j;have u:FreeH ρ x:=⟨Free.new st.conc c,λq=>by obtain⟨o,e⟩:=st.conc.hid x q;rw[c] at e;exact nN e⟩
  induction own with
  |true=>obtain⟨w,X⟩:=st.conc.own k (p:=(x,x)) (o:=cM l) c c ⟨_,g⟩ ⟨_,g⟩ ⟨rfl,t,m,g,r.ext (Ext.addNew k c c)⟩;exact⟨_,_,_,h,by have:=kF (ρ:=ρ.add (x,x)) (h:=d.heap) (n:=σ.length) (p:=(x,x)) (by refine ie (st.conc.len ..) ?_;exact sT ..);exact this,⟨w,b.os,b.gens⟩,X⟩
  |false=>exact⟨_,_,_,h,nr g u (r.ext i),b,i⟩
 |_=>exact⟨_,_,_,(by rcases own with _|_<;>exact h),f,b,i⟩
noncomputable def Tg.names:Tg->List Str
 |cJ _ x _=>[x]|dS ts _ _=>ts.map (·.2.1)
noncomputable def Tg.adrs (t:Tg)(a:Env):List cE:=t.names.map (tB a)
theorem ig {a:Env}(h:fb a.scope.names x=bK):a.kindOf x≠aE ft:=λq=>by have b:a.scope.names.lookup x=aE ft:=q;unfold fb at h;rw[b] at h;simp at h
theorem DI (w:qg vis=bK):∀(ts:List (Nat×Str×Pos)) (vs:List V) (k:List b_) {M l:Mm} {ρ:Own} {σ:Sg} {s:cz} {A:et} {Ee:b_->cz->Prop},iQ ts vs M=aE l->(ts.all λt=>vis.contains (t.1,t.2.1)&&fb b.scope.names t.2.1)=bK->EnvRel C b vis M ρ s.heap->St C ρ σ s->Rels ρ s.heap k vs->cD (cm C.prog C.w) A (FK ((assignEach (ts.map λt=>th t.2.1 t.2.2) b).map (·.2)) k) (λ_ m=>St C ρ σ m/\EnvRel C b vis l ρ m.heap/\Ext (ts.map λt=>tB b t.2.1) ρ ρ s.heap m.heap) Ee s:=by
 refine US ?_ ?_ ?_ ?_
 .exact @λk M l ρ σ s A Ee e n R o r=>by
   cases r
   cases e
   exact cW ⟨o,R,Ext.refl _ _ _⟩
 .exact @λt ts v vs x k M l ρ σ s A Ee e n R o r=>by refine lF r.inv λ_ _ c y z=>?_;subst c;have r:=y;simp only[rd,eB,eB] at n;refine dz n λc B=>?_;have D:=c.1;have F:=c.2;exact cq (eU (Ba (wM (mn R o w (by simpa using D) (ig F) r) (λ_ p q=>dN q λf h d=>wM (x _ e B h f (z.ext d)) (λ_ u q=>dN q λg i j=>⟨g,i,(d.mono (by simp)).trans (j.mono (by intro a G;exact .tail _ G))⟩)))))
 .exact @λ_ _ _ _ _ _ _ _ _ _ e _ _ _ _=>by cases e
 .exact @λ_ _ _ _ _ _ _ _ _ _ e _ _ _ _=>by cases e
theorem um (c):∀ts:List (Nat×Str×Pos),(assignEach (ts.map λt=>th t.2.1 t.2.2) c).length=ts.length/\(assignEach (ts.map λt=>th t.2.1 t.2.2) c).findIdx? (·.1)=aT:=by
 intro d;induction d with
 |nil=>exact⟨rfl,rfl⟩|cons t ts e=>
  exact by refine dz (e) λa b=>⟨congrArg (·+1) a,?_⟩;show List.findIdx? (·.1) ((cu,p_ (dI t.2.1 t.2.2) c)::assignEach (ts.map λt=>th t.2.1 t.2.2) c)=aT;refine cn (List.findIdx?_cons ..) (cn (b ..) ?_);rfl
theorem sm:∀(ts:List (Nat×Str×Pos)) (vs:List V) {M a:Mm},iQ ts vs M=aE a->ts.length=vs.length:=by exact US (@λ_ _ _=>rfl) (@λ_ ts _ vs b _ _ h=>by simp only[j8,j8,b h]) (@λ_ _ _ _ h=>by cases h) (@λ_ _ _ _ h=>by cases h)
theorem oo (y:qg vis=bK) (j:iR t v M=aE G) (n:ui c.scope.names vis t=bK) (R:EnvRel C c vis M ρ s.heap) (st:St C ρ σ s) (H:A.handled=aT) (r:Rel ρ s.heap a v):cD (cm C.prog C.w) A (p_ t.back c a) (λ_ u=>St C ρ σ u/\EnvRel C c vis G ρ u.heap/\Ext (t.adrs c) ρ ρ s.heap u.heap) Ee s:=by
 cases t with
 |name i x p=>
  cases j
  unfold ui at n;have g:=Bool.and_eq_true_iff.mp n;have I:=g.1;have J:=g.2;exact Ba (mn R st y (by simpa using I) (ig J) r)
 |tup w k p=>
  obtain⟨z,rfl,j⟩:=si j;refine r.cT λ_ W _ e f B=>?_;have g:=um c w;have L:=g.1;have N:=g.2;have P:=sm w z j;have Q:∀{a:List b_} {v:List V},Rels ρ s.heap a v->a.length=v.length:=λr=>r.len;refine wpAny_assign_Tuple H ⟨_,e,rfl,_,rfl⟩ (by simp only[L,P,jw,Q B]) N (λD U=>?_)
  have k:Kp s.heap D:=λb o e=>U b o (jI (jk e)) e;have X:Ext [] ρ ρ s.heap D:=Ext.of_all k;refine wM (DI y w z _ j n (R.ext0 X) (st.keep0 (d:=s.drawn) k) (B.ext X)) (λ_ F q=>dN q λh l m=>⟨h,l,(X.m0).trans ?_⟩);dsimp only[Tg.adrs,Tg.names];simp only[mQ];exact m
noncomputable def HH (b:Env):List (Str×gd)->List (Str×cE)->List (Str×cE)
 |[],a=>a|(n,k)::r,a=>if k==ft then HH b r ((n,(b.cells.lookup n).getD 0)::a) else HH b r a
theorem zU (a):∀(names:List (Str×gd)) (b:List (Str×cE)),(∀x∈names,x.2=ft->(a.cells.lookup x.1).isSome=bK)->(forIn names b (λx r=>if(x.2==pO)=bK then do let c<-BF a x.1;dq (r0 ((x.1,c)::r)) else dq (r0 r)):Sem (List (Str×cE)))=dq (HH a names b):=by
 intro j;induction j with
 |nil=>exact @λb _=>by simp only[vd];rfl
 |cons l r g=>
  obtain⟨n,k⟩:=l;exact @λb h=>by
   simp only[Be];dsimp only[HH];by_cases d:(k==pO)=bK
   .obtain⟨c,i⟩:=Option.isSome_iff_exists.mp (h (n,k) (.head _) (of_decide_eq_true d))
    have e:BF a n=dq c:=by unfold BF;simp only[i]
    simp only[d,if_true,e,i];exact g _ λx f=>h x (.tail _ f)
   .simp only[d]
    exact g _ λx f=>h x (.tail _ f)
theorem DJ (a:Scope)(b)(h:∀x∈a.names,x.2=ft->(b.cells.lookup x.1).isSome=bK):vr a b=dq (HH b a.names []):=by dsimp only[vr];have:=zU b a.names [] h;show(forIn a.names [] _>>=λr=>dq r)=_;refine cn ((show(forIn a.names ([]:List (Str×cE)) _:Sem _)=_ from this) ..) ?_;rfl
theorem DK (e)(j:e.cells.lookup x=aE c):∀(names:List (Str×gd)) (a:List (Str×cE)),((x,pO)∈names\/a.lookup x=aE c)->(HH e names a).lookup x=aE c:=by
 intro l;induction l with
 |nil=>
  exact @λa h=>by
   dsimp only[HH];rcases h with h|h
   .cases h
   .exact h
 |cons m r g=>
  obtain⟨n,k⟩:=m;exact @λa h=>by
   dsimp only[HH];split
   .rename_i i
    refine g _ ?_;by_cases f:x=n
    .subst f;right;simp[j]
    .rcases h with h|h
     .left
      rcases List.mem_cons.mp h with q|q
      .refine dz (vo q) λb d=>?_;subst b;subst d;exact absurd rfl f
      .exact q
     .right
      have:(x==n)=cu:=by simpa using f
      simp only[pH,this];exact h
   .rename_i i
    refine g _ ?_;rcases h with h|h
    .rcases List.mem_cons.mp h with q|q
     .refine dz (vo q) λb d=>?_;subst b;subst d;exact absurd rfl i
     .exact .inl q
    .exact .inr h
theorem sa:∀(names:List (Str×gd)) (n:Nat) (a:List (Str×cE)),lR n names a=lR n names []++a:=by
 intro c;induction c with
 |nil=>exact @λ_ _=>rfl
 |cons d r b=>
  obtain⟨x,k⟩:=d;exact @λn a=>by
   dsimp only[lR];split
   .simp only[b (n+1) ((x,n)::a),b (n+1) [(x,n)]];simp
   .exact b n a
theorem vR:∀(names:List (Str×gd)) (n:Nat) {x:Str} {c:cE},(x,c)∈lR n names []->(x,yo)∈names:=by
 intro d;induction d with
 |nil=>exact @λ_ _ _ h=>by cases h
 |cons e r b=>
  obtain⟨y,k⟩:=e;exact @λn x c h=>by
   unfold lR at h;split at h
   .rename_i f
    rw[sa] at h;rcases List.mem_append.mp h with h|h
    .exact .tail _ (b _ h)
    .have:x=y:=by simp at h;exact h.1
     have a:k=eH:=of_decide_eq_true f;refine cn (this ..) (cn (a ..) ?_);exact .head _
   .exact .tail _ (b _ h)
theorem n8 (x):∀names:List (Str×gd),(rZ nm names).lookup x=match names.lookup x with
 |some ft=>if nm.lookup x=aE eH then aE eH else aE ft|r=>r:=by
 intro f;induction f with
 |nil=>exact rfl|cons g r b=>
  obtain⟨y,k⟩:=g;exact by
   have b:=b;unfold rZ at b ⊢;simp only[fS];by_cases e:x=y
   .subst e
    have c:∀(k:gd) (l:List (Str×gd)),((x,k)::l).lookup x=aE k:=λk l=>List.lookup_cons_self;refine cn (c k r) ?_;rcases k with _|_|_|_|_<;>try exact c _ _
    by_cases a:nm.lookup x=aE eH
    .refine cn (if_pos a ..) (cn (if_pos (show((pO==pO)&&(nm.lookup x==aE yo))=bK by rw[a];rfl) ..) ?_);exact c _ _
    .refine cn (if_neg a ..) (cn (if_neg (show ¬((pO==pO)&&(nm.lookup x==aE yo))=bK from λq=>a (ku (Bool.and_eq_true_iff.mp q).2)) ..) ?_);exact c _ _
   .have h:(x==y)=cu:=by simpa using e
    have d:∀(k:gd) (l:List (Str×gd)),((y,k)::l).lookup x=l.lookup x:=λk l=>by rw[pH,h]
    refine cn (d k r) ?_;by_cases a:((k==pO)&&(nm.lookup y==aE yo))=bK
    .refine cn (if_pos a ..) ?_;exact(d ..).trans b
    .refine cn (if_neg a ..) ?_;exact(d ..).trans b
theorem sb (c:b.scope.kind=gj):(vz a b).names=rZ b.scope.names a.names:=by dsimp only[vz,rZ];simp only[c];refine y6 λx _=>?_;have n:=x.1;have k:=x.2;have:(ScopeKind.function==ScopeKind.function)=bK:=rfl;refine cn (this ..) (cn (FL ..) ?_);rfl
theorem Ext.hide (X:Ext F ρ ρ' h h')(D):Ext F (ρ.hide D) (ρ'.hide D) h h':=⟨X.pre,by show D::ρ'.hid=D::ρ.hid;exact cn (X.hid ..) rfl,X.dom,X.new,λb o e q f=>X.seq b o e q ⟨f.1,λm=>f.2 (.tail _ m)⟩,X.keep,X.code⟩
theorem EnvRel.weaken (R:EnvRel C f vis M ρ h)(k:∀i x v,(i,x)∈vis->n[i]?=aE (aE v)->M[i]?=aE (aE v)):EnvRel C f vis n ρ h:=by refine cU R.ns λm o p=>⟨R.kind,R.glob,R.bi,⟨m,o,λi x e g v j=>p i x e g v (k i x v e j)⟩,λi x e g=>?_,R.nsO,R.celO,R.inj⟩;refine dz (R.cel i x e g) λa l=>?_;obtain⟨c,q,b,d,r⟩:=l;exact⟨a,c,q,b,d,λv j=>r v (k i x v e j)⟩
theorem w0:∀(c:List Nat) (M:Mm) {i:Nat} {v:V},(Dz c M)[i]?=aE (aE v)->i∉c/\M[i]?=aE (aE v):=by
 intro e;induction e with
 |nil=>exact @λM i v h=>⟨fh,h⟩
 |cons j r f=>
  exact @λM i v h=>by
   refine dz (f _ h) λa b=>?_;rw[Oc] at b;split at b
   .split at b<;>cases b
   .rename_i d
    exact⟨λq=>(List.mem_cons.mp q).elim (λz=>d z.symm) a,b⟩
theorem zV:∀(ts:List (Nat×Str×Pos)) (vs:List V) {M a:Mm} {i:Nat},iQ ts vs M=aE a->(∀t∈ts,t.1≠i)->a[i]?=M[i]?:=by
 refine US ?_ ?_ ?_ ?_
 .exact @λ_ _ _ h _=>by cases h;rfl
 .exact @λt ts v vs b M a i h q=>cn ((b h λt c=>q t (.tail _ c)) ..) (cn (AY (q t (.head _)) ..) rfl)
 .exact @λ_ _ _ _ _ h _=>by cases h
 .exact @λ_ _ _ _ _ h _=>by cases h
noncomputable def Tg.slots:Tg->List (Nat×Str)
 |cJ i x _=>[(i,x)]|dS ts _ _=>ts.map λt=>(t.1,t.2.1)
theorem zW (h:iR t v M=aE a)(q:∀y∈t.slots,y.1≠i):a[i]?=M[i]?:=by
 cases t with
 |name j x p=>cases h;exact AY (q (j,x) (.head _))|tup b k p=>obtain⟨d,rfl,h⟩:=si h;exact zV b _ h λt c=>q _ (uT c)
theorem wB (h:ui nm vis t=bK):∀y∈t.slots,y∈vis/\fb nm y.2=bK:=by
 cases t with
 |name j x p=>unfold ui at h;refine xA h λa b=>?_;intro y c;obtain rfl:=List.mem_singleton.mp c;exact⟨by simpa using a,b⟩
 |tup f k p=>refine λy c=>cU (List.mem_map.mp c) λt e d=>?_;subst d;have:=List.all_eq_true.mp h t e;exact xA this λa b=>⟨by simpa using a,b⟩
theorem Tg.adrs_slots (t:Tg)(a):t.adrs a=t.slots.map λy=>tB a y.2:=by
 cases t with
 |name i x p=>rfl|tup b k p=>simp[Tg.adrs,Tg.names,Tg.slots,mQ,Function.comp_def]
inductive CO (n:Nat) (scope:Scope) (env:Env) (vis:List (Nat×Str)) (cf:List (Str×cE)) (i:Nat) (x:Str) (c:cE):Prop
 |new:scope.names.lookup x=aE eH->n+1<=c->(x,c)∈cf->CO n scope env vis cf i x c
 |old:scope.names.lookup x=aE ft->(i,x)∈vis->env.kindOf x≠aE dv->env.cells.lookup x=aE c->CO n scope env vis cf i x c
theorem relN_loc:(rZ nm a).lookup x=aE dv↔a.lookup x=aE dv:=by
 refine cn (n8 ..) ?_;generalize a.lookup x=o;rcases o with _|k
 .exact Iff.rfl
 .rcases k with _|_|_|_|_<;>try exact Iff.rfl
  by_cases k:nm.lookup x=aE eH
  .exact iff_of_false (λh=>by have h:=(if_pos k).symm.trans h;exact nomatch h) (λh=>nomatch h)
  .exact iff_of_false (λh=>by have h:=(if_neg k).symm.trans h;exact nomatch h) (λh=>nomatch h)
theorem HI (h:a.lookup x=aE eH):(rZ nm a).lookup x=aE eH:=by refine cn (n8 ..) (cn (h ..) rfl)
theorem z7 (h:a.lookup x=aE ft):((rZ nm a).lookup x=aE eH/\nm.lookup x=aE eH)\/(rZ nm a).lookup x=aE ft:=by
 refine cn (n8 ..) (cn (h ..) ?_);by_cases k:nm.lookup x=aE eH
 .exact .inl ⟨if_pos k,k⟩
 .exact .inr (if_neg k)
theorem JN (R:EnvRel C g vis M ρ s.heap)(st:St C ρ σ s)(kk:Kp s.heap h') (e1:m.scope.kind=gj) (e2:m.globals=g.globals) (e3:m.builtins=g.builtins) (Y:m.locals=s.heap.objs.size) (U:∀x,m.kindOf x=(rZ g.scope.names b.names).lookup x) (a0:h'.Ns s.heap.objs.size λ_=>aT) (a1:∀x c,(x,c)∈cf->h'.IsCell c aT) (ap:∀x y c,(x,c)∈cf->(y,c)∈cf->x=y) (L:∀i x,(i,x)∈k->b.names.lookup x=aE dv\/b.names.lookup x=aE eH->i∈G) (P:∀i x,(i,x)∈k->b.names.lookup x≠aE dv->∃c,m.cells.lookup x=aE c/\CO s.heap.objs.size b g vis cf i x c):EnvRel C m k (Dz G M) ρ h'/\(∀x,fb b.names x=bK->(∃i,(i,x)∈k)->s.heap.get? (tB m x)=aT)/\s.heap.get? m.locals=aT/\∀i x c,(i,x)∈k->m.kindOf x≠aE dv->m.cells.lookup x=aE c->s.heap.get? c=aT\/((i,x)∈vis/\g.kindOf x≠aE dv/\g.cells.lookup x=aE c):=by
 have t:s.heap.get? s.heap.objs.size=aT:=eG _;have d:∀{c},s.heap.objs.size+1<=c->s.heap.get? c=aT:=λ{c} p=>by
  induction q:s.heap.get? c with
  |none=>rfl|some o=>exact absurd (jk q) (Nat.not_lt.mpr (eV p))
 have a2:∀{x},m.kindOf x=aE dv->b.names.lookup x=aE dv:=λh=>relN_loc.mp ((U _).symm.trans h);have u:∀{x},m.kindOf x≠aE dv->b.names.lookup x≠aE dv:=λh z=>h ((U _).trans (relN_loc.mpr z));have H:∀{i x c},(i,x)∈k->m.kindOf x≠aE dv->m.cells.lookup x=aE c->CO s.heap.objs.size b g vis cf i x c:=λn w p=>cU (P _ _ n (u w)) λc' A h=>dk (A.symm.trans p)▸h
 have B:∀{i x c},(i,x)∈vis->g.kindOf x≠aE dv->g.cells.lookup x=aE c->s.heap.get? c≠aT:=λl f N z=>by obtain⟨_,c',ov,A,⟨o,e,_⟩,_⟩:=R.cel _ _ l f;exact nN (z.symm.trans (dk (A.symm.trans N)▸e))
 refine⟨⟨e1,e2.trans R.glob,e3.trans R.bi,⟨λ_=>aT,by refine cn (Y ..) ?_;exact a0,λi x n w v W=>absurd (L i x n (.inl (a2 w))) (w0 G M W).1⟩,λi x n w=>?_,by refine cn (Y ..) ?_;exact⟨st.conc.notab t,Free.new st.conc t,st.conc.nobase t⟩,λi x c n w p=>?_,λi x j y c n hy a3 a4 a5 a6=>?_⟩,λx D X=>?_,by refine cn (Y ..) ?_;exact t,λi x c n w p=>?_⟩
 .refine cU (P i x n (u w)) λc p h=>?_
  rcases h with⟨l,f,N⟩ |⟨l,f,I,J⟩
  .exact⟨.inl ((U x).trans (HI l)),c,aT,p,a1 x c N,λv W=>absurd (L i x n (.inr l)) (w0 G M W).1⟩
  .obtain⟨_,c',ov,A,Q,r⟩:=R.cel i x f I
   exact⟨(z7 l).imp (λz=>(U x).trans z.1) (U x).trans,c',ov,p.trans (J.symm.trans A),Q.keeps kk,λv W=>cU (r v (w0 G M W).2) λa q r=>iB a q (r.ext (Ext.of_all (F:=[]) kk))⟩
 .rcases H n w p with⟨l,f,N⟩ |⟨l,f,I,J⟩
  .exact n5 (st.conc.notab (d f)) (Free.new st.conc (d f)) (λ_=>st.conc.nobase (d f))
  .exact dN (R.celO i x c f I J) λq1 q2 q3=>n5 q1 q2 λa7=>(z7 l).elim (λz=>q3 z.2) λz=>nomatch (z.symm.trans ((U x).symm.trans a7))
 .rcases H n a3 a5 with⟨l,f,N⟩ |⟨l,f,I,J⟩ <;>rcases H hy a4 a6 with⟨g1,Z,g3⟩ |⟨g1,Z,g4,g5⟩
  .exact ap x y c N g3
  .exact absurd (d f) (B Z g4 g5)
  .exact absurd (d Z) (B f I J)
  .exact R.inj i x j y c f Z I g4 J g5
 .refine eF X λi n=>?_
  unfold tB;refine iteInduction (motive:=λa=>s.heap.get? a=aT) (λ_=>by refine cn (Y ..) ?_;exact t) λw=>?_
  refine cU (P i x n (u w)) λc p h=>?_;rcases h with⟨l,f,N⟩ |⟨l,f,I,J⟩
  .refine cn (p ..) ?_;exact d f
  .unfold fb at D;rw[l] at D;exact dG D
 .rcases H n w p with⟨l,f,N⟩ |⟨l,f,I,J⟩
  .exact .inl (d f)
  .exact .inr ⟨f,I,J⟩
def Vk (C:Fx)(a:Scope)(d:Env)(vis e:List (Nat×Str))(g:List Nat)(M:Mm)(ρ:Own)(s:cz)(b:Env)(f:cz):Prop:=(Kp s.heap f.heap)/\f.gens=s.gens/\f.os=s.os/\f.drawn=s.drawn/\
 EnvRel C {b with scope:=vz a d} e (Dz g M) ρ f.heap/\
 (∀x,fb a.names x=bK->(∃i,(i,x)∈e)->s.heap.get? (tB {b with scope:=vz a d} x)=aT)/\s.heap.get? b.locals=aT/\
 ∀i x c,(i,x)∈e->l9 {b with scope:=vz a d} x≠aE dv->b.cells.lookup x=aE c->s.heap.get? c=aT\/((i,x)∈vis/\d.kindOf x≠aE dv/\d.cells.lookup x=aE c)
theorem GR {s:cz} (h:uj a.scope.names vis d l o=bK) (R:EnvRel C a vis M ρ s.heap):∀x∈d.names,x.2=ft->∃i c j,(i,x.1)∈vis/\a.kindOf x.1≠aE dv/\a.cells.lookup x.1=aE c/\s.heap.IsCell c j:=by
 refine xA h λb A=>xA b λb p=>xA b λb B=>xA b λD F=>?_;intro x q r;have:=List.all_eq_true.mp p x q;rw[r] at this;have this:(a.scope.names.lookup x.1==aE eH||a.scope.names.lookup x.1==aE ft)=bK/\(vis.any λy=>y.2==x.1)=bK:=Bool.and_eq_true_iff.mp this
 refine dz this λm t=>cU (List.any_eq_true.mp t) λy u e=>?_;have e:y.2=x.1:=of_decide_eq_true e;have n:a.kindOf x.1≠aE dv:=λz=>by have v:a.scope.names.lookup x.1=aE dv:=z;rw[v] at m;simp at m
 have g:(y.1,x.1)∈vis:=by simp only[<-e];exact u
 refine dz (R.cel y.1 x.1 g n) λ_ k=>?_;obtain⟨c,j,w,f,_⟩:=k;exact SD y.1 c j g n w f
theorem PB {s:cz} (d:uj b.scope.names vis a e f=bK) (R:EnvRel C b vis M ρ s.heap):vr a b=dq (HH b a.names []):=DJ a b λx g h=>by refine tA (GR d R x g h) λ_ c _ _ _ i _=>?_;simp only[i];rfl
theorem PC (r:uj d.scope.names vis a t k=bK) (R:EnvRel C d vis M ρ s.heap) (st:St C ρ σ s):cD (cm C.prog C.w) A (OY a d.globals (HH d a.names []) [] d.qual aT cG (aE d)) (Vk C a d vis t k M ρ s) Ee s:=by
 refine xA r λj I=>xA j λj Y=>xA j λj Z=>xA j λB P=>?_;have B:a.kind=gj:=of_decide_eq_true B;have D:∀x∈a.names,a.names.lookup x.1=aE x.2:=λx u=>of_decide_eq_true (List.all_eq_true.mp P x u);have f:=GR r R;have Q:s.heap.get? s.heap.objs.size=aT:=eG _;unfold OY;simp only[Option.isSome_some,if_true];refine cq (wpAny_alloc (cq (wpAny_layCells _ (λJ v F=>by cases G:v==yo<;>simp[G]) _ _ _ _ ?_)))
 show cD _ A (forIn [] _ _>>=_) _ _ _;simp only[vd];refine cq (cW (cW ?_));have n:((s.heap.push {cls:=bT "dict",data:=hO #[]}:cQ).objs.size)=s.heap.objs.size+1:=lO ..;have l:=cellsFrom_ok a.names (s.heap.push {cls:=bT "dict",data:=hO #[]}) (s.heap.objs.size+1) [] ⟨λ_ _ w=>(nomatch w),List.Pairwise.nil⟩ (c_ n.symm);rw[n] at l;have m:lR (s.heap.push {cls:=bT "dict",data:=hO #[]}:cQ).objs.size a.names (HH d a.names [])=lR (s.heap.objs.size+1) a.names []++HH d a.names []:=by rw[sa,n]
 have L:Kp s.heap (pushCells (s.heap.push {cls:=bT "dict",data:=hO #[]}) a.names):=λb o e=>OM _ _ b o (dK _ e);refine⟨L,rfl,rfl,rfl,JN (cf:=lR (s.heap.objs.size+1) a.names []) R st L B rfl rfl rfl (λx=>congrArg (G5 x) (sb R.kind)) ((Heap.Ns.new s.heap (bT "dict")).keeps (OM _ _)) (λx c h=>(l.empty x c h).1) (λx y c h g=>name_of_addr l.apart h g) (λi x u h=>?_) λi x u N=>?_⟩
 .have:=List.all_eq_true.mp I _ u
  rcases h with h|h<;>(rw[show a.names.lookup (i,x).2=_ from h] at this;exact List.contains_iff_mem.mp this)
 .have z:=List.all_eq_true.mp I _ u
  show ∃c,G5 x (lR _ _ (HH d a.names []))=aE c/\_;refine cn (m ..) (cn (Fl ..) ?_);have z:(match a.names.lookup x with|some dv=>k.contains i|some eH=>k.contains i|some ft=>!k.contains i&&vis.contains (i,x)|_=>cu)=bK:=z
  generalize q:a.names.lookup x=o at z N;rcases o with _|_|_|_|_|_<;>first|exact dG z|exact absurd rfl N|skip
  .exact eF (Option.isSome_iff_exists.mp (NC a.names (s.heap.objs.size+1) [] (.inl q))) λc p=>⟨c,cn (p ..) rfl,.new q (l.empty x c (mem_of_lookup p)).2 (mem_of_lookup p)⟩
  .have w:(x,pO)∈a.names:=mem_of_lookup q
   refine tA (f (x,ft) w rfl) λ_ c ov _ U p H=>⟨c,?_,.old q (List.contains_iff_mem.mp (Bool.and_eq_true_iff.mp z).2) U p⟩;have W:(lR (s.heap.objs.size+1) a.names []).lookup x=aT:=by
    induction X:(lR (s.heap.objs.size+1) a.names []).lookup x with
    |none=>rfl|some c'=>exact nomatch ((D _ (vR _ _ (mem_of_lookup X))).symm.trans q)
   exact cn (W ..) (DK d p _ _ (.inl w))
theorem Ext.hidStep (d:D∈ρ.hid)(a:km D h h')(e:∃o,h'.get? D=aE o)(g:∀o,h.get? D=aE o->¬hU o):Ext [D] ρ ρ h h':=by
 refine⟨pG _,rfl,λb o q=>?_,λ_ h=>.inl h,λb o q _ f=>(a.2 b λz=>f.2 (z▸d)).trans q,λb o q _ _ n=>(a.2 b (λh=>n (List.mem_singleton.mpr h))).trans q,λb o q z=>(a.2 b λc=>g o (c▸q) z).trans q⟩;by_cases c:b=D
 .exact c▸e
 .exact⟨o,(a.2 b c).trans q⟩
theorem tE (d:It)(c)(x):foldedSetIterable d.back c x=dq x:=by
 cases d with
 |val e=>rcases e with _|_|_|_|_|_|_|_|_|_|_|_|_|_|_|_|_|_<;>rfl
 |range q f p=>rfl|zip q a b p=>rfl
structure Gone (C:Fx)(ρ:Own)(h:cQ)(L:cE):Prop where
 tab:L∉fU
 free:Free ρ L
 base:C.hb.get? L=aT
 hid:L∉ρ.hid
 ns:∃m,h.Ns L m
theorem Gone.seq (g:Gone C ρ h L):∀o,h.get? L=aE o->∀b n,o.data≠cK b n:=λo e b n z=>by refine eF g.ns λm a=>?_;obtain⟨f,i,j,c,d,_⟩:=a;rw[c] at e;obtain rfl:=dk e;rw[d] at z;exact ql z
theorem Gone.code (g:Gone C ρ h L):∀o,h.get? L=aE o->¬hU o:=λo e=>by refine eF g.ns λm a=>?_;obtain⟨d,f,i,b,c,_⟩:=a;rw[b] at e;obtain rfl:=dk e;exact oY c
theorem Gone.st (g:Gone C ρ s.heap L)(st:St C ρ σ s)(a:km L s.heap h'):St C ρ σ {s with heap:=h'}:=⟨st.conc.gone a g.tab g.free g.base g.hid g.seq g.code,st.os,st.gens⟩
theorem Gone.rel (g:Gone C ρ h L)(c:km L h h')(r:Rel ρ h a v):Rel ρ h' a v:=r.seqs λb o e ⟨d,n,q⟩ _=>(c.2 b λz=>g.seq o (z▸e) d n q).trans e
theorem HJ (h:wt M e f d a x c σ k):∃b,iR d x (Dz a M)=aE b/\f b σ (DG (e b) c k):=by
 delta wt at h
 generalize iR d x (Dz a M)=o at h;rcases o with _|b
 .exact h.elim
 .exact⟨b,rfl,h⟩
theorem BX (b5:uj a0.scope.names vis u B a6=bK) (an:ui u.names B tg=bK) (R:EnvRel C a0 vis M ρ s.heap) (hs:St C ρ σ s) (hA:Room n A) (bI:cD (cm C.prog C.w) A (ei it.back a0) (ItP C ρ s.heap tg.back KI) E' s) (hc:∀{w:Env} {M':Mm} {G:Sg} {ρ':Own} {s':cz} {K':Bool->Sg->Prop} {b6:b_->cz->Prop},w.scope.names=rZ a0.scope.names u.names->EnvRel C w B M' ρ' s'.heap->St C ρ' G s'->uh Z c M' G K'->cD (cm C.prog C.w) A (forIn c.back bK λc r=>if r=bK then do let ok<-nZ c w (ei c w);dq (r0 ok) else dq (r0 r)) (PT C [] ρ' s'.heap K') b6 s') (he:∀{w:Env} {M':Mm} {G:Sg} {ρ':Own} {s':cz} {K':V->Sg->Prop} {b6:b_->cz->Prop},w.scope.names=rZ a0.scope.names u.names->EnvRel C w B M' ρ' s'.heap->St C ρ' G s'->j_ Z ao M' G K'->cD (cm C.prog C.w) A (ei ao.back w) (PE C [] ρ' s'.heap K') b6 s') (hK:∀items G,KI items G->BV Kk M (j_ Z ao) (uh Z c) tg a6 items G) (hQ:∀(L:cE) (f:Own) (G:Sg) (z:cz) (a:b_) (v:V),Kk v G->Rel f z.heap a v->St C f G z->Ext [] ρ f s.heap z.heap->s.heap.get? L=aT->Gone C f z.heap L->Gk (cm C.prog C.w) A E' use Q a L (.ok .next) z):cD (cm C.prog C.w) A (FO (eS ao tg it c u B a6 p).back u a0 cp (newList []) cu (ei it.back a0) use) Q E' s:=by
 refine xA b5 λag c5=>xA ag λag c4=>xA ag λag c3=>xA ag λc1 c2=>?_;have c1:u.kind=gj:=of_decide_eq_true c1;have bJ:∀x∈u.names,u.names.lookup x.1=aE x.2:=λx hx=>of_decide_eq_true (List.all_eq_true.mp c2 x hx);refine wpAny_comprehension_free (use:=use) rfl (tE it a0) (PB b5 R) c1 (λx hx hl=>cn (bJ x hx ..) (cn (hl ..) rfl))<|sk λQ1 q1=>PA bI λxv aj bo=>?_
 obtain⟨l,a7,items,Hz,bp,hz,ah,a4,I⟩:=bo;have hk:=hK items a7 bp
 replace hQ:∀(L:cE) (f:Own) (G:Sg) (z:cz) (a:b_) (v:V),Kk v G->Rel f z.heap a v->St C f G z->Ext [] (ρ.hides Hz) f s.heap z.heap->s.heap.get? L=aT->Gone C f z.heap L->Gk (cm C.prog C.w) A E' use Q a L (.ok .next) z:=
  λL f G z a v k r st X hL g=>hQ L (f.un ρ) G z a v k (Rel.sub (ρ:=f) (ρ₂:=f.un ρ) rfl (uk X) r) (St.sub (ρ:=f) (ρ₂:=f.un ρ) rfl (uk X) st) (X.unhides hz) hL ⟨g.tab,g.free,g.base,λq=>g.hid (uk X _ q),g.ns⟩
 replace R:EnvRel C a0 vis M (ρ.hides Hz) s.heap:=EnvRel.map (ρ:=ρ) (ρ₂:=ρ.hides Hz) rfl (λ_ _=>Rel.hides Hz hz) R;refine q1 _ _ (sk λQ2 q2=>PA (I l a7 aj (Ext.refl ..) ah A E' hA.2.2) λci N bq=>?_);obtain⟨Ia,P,b7,bL,aP,a1,a8,bM,br⟩:=bq;subst b7;have fP:∀p∈P,s.heap.get? p=aT:=λp hp=>(bL p hp).elim a4.back id;refine q2 _ _ (wpAny_newList ?_ (dd rfl));have hD:N.heap.get? N.heap.objs.size=aT:=eG _;generalize bN:N.heap.objs.size=D at hD ⊢;revert D;refine Jj ?_;set_option tactic.hygienic false in intros
 have k3:Kp N.heap (N.heap.push {cls:=bT "list",data:=cK ([]:List b_).toArray}):=λb o e=>dK _ e;have eD:(N.heap.push {cls:=bT "list",data:=cK ([]:List b_).toArray}).get? D=aE {cls:=bT "list",data:=cK ([]:List b_).toArray}:=by refine ie (bN ..) ?_;exact fg _ rfl
 generalize ai:({N with heap:=N.heap.push {cls:=bT "list",data:=cK ([]:List b_).toArray}}:cz)=U;revert U;refine Jj ?_;set_option tactic.hygienic false in intros
 have h3:U.heap=N.heap.push {cls:=bT "list",data:=cK ([]:List b_).toArray}:=ie (ai ..) rfl;rw[<-h3] at k3 eD;have a9:St C (l.hide D) a7 U:=⟨a1.conc.hide k3 hD ⟨_,eD⟩,by refine ie (ai ..) ?_;exact a1.os,by refine ie (ai ..) ?_;exact a1.gens⟩
 have a5:Ext [] l l N.heap U.heap:=Ext.of_all k3;have cc:EnvRel C a0 vis M l U.heap:=((R.ext0 a4).ext0 a8).ext0 a5;have b8:EnvRel C a0 vis M (l.hide D) U.heap:=by
  have R2:EnvRel C a0 vis M l N.heap:=(R.ext0 a4).ext0 a8;refine cU R2.ns λm hn hv=>⟨R2.kind,R2.glob,R2.bi,⟨m,hn.keeps k3,λi x hx hk v hM=>?_⟩,λi x hx hk=>?_,R2.nsO,R2.celO,R2.inj⟩
  .obtain⟨a,q,r⟩:=hv i x hx hk v hM;exact iB a q ((r.hide hD).ext (a5.hide D))
  .obtain⟨a,c,ov,b,d,r⟩:=R2.cel i x hx hk
   exact⟨a,c,ov,b,d.keeps k3,λv hM=>by obtain⟨a,q,r⟩:=r v hM;exact⟨a,q,(r.hide hD).ext (a5.hide D)⟩⟩
 refine sk λQ3 q3=>PA (dP (PC b5 b8 a9)) λw af bs=>?_;obtain⟨t4,k4,g4,o4,d4,aQ,aR,hL,au⟩:=bs;have b9:St C (l.hide D) a7 af:=⟨a9.conc.keeps k4,o4.trans a9.os,by refine cn (g4 ..) ?_;exact a9.gens.1,fx (fl (j4 a9.gens.2) t4)⟩
 have aU:Ext [] (l.hide D) (l.hide D) U.heap af.heap:=Ext.of_all k4;refine q3 _ _ ?_;generalize ba:({w with scope:=vz u a0}:Env)=ce at aQ aR au ⊢;revert ce;refine Jj ?_;set_option tactic.hygienic false in intros
 have ac:ce.scope.names=rZ a0.scope.names u.names:=by refine ie (ba ..) ?_;exact sb R.kind
 have ak:ce.locals=w.locals:=ie (ba ..) rfl;have bb:∀p∈P,∃o,U.heap.get? p=aE o:=λp hp=>let ⟨o,e⟩:=aP p hp;⟨o,k3 _ _ e⟩;have bc:D∉P:=λq=>Xf (aP D q) hD;have slots:=wB an;have bd:∀a∈tg.adrs ce,U.heap.get? a=aT:=λa ha=>by rw[Tg.adrs_slots] at ha;refine cU (List.mem_map.mp ha) λy hy b7=>?_;subst b7;obtain⟨s1,s2⟩:=slots y hy;exact aR y.2 s2 ⟨y.1,s1⟩
 have bP:∀p∈P,p∉tg.adrs ce:=λp hp q=>Xf (bb p hp) (bd p q);have bQ:D∉tg.adrs ce:=λq=>nN ((bd D q).symm.trans eD);have LP:ce.locals∉P:=λq=>Xf (bb _ q) (ak▸hL);have LD:ce.locals∉[D]:=λq=>nN ((List.mem_singleton.mp q▸ak▸hL).symm.trans eD);have cP:∀i x c,(i,x)∈B->ce.kindOf x≠aE dv->ce.cells.lookup x=aE c->c∉P/\c∉[D]:=λi x c hx hk hc=>by
  have bR:w.cells.lookup x=aE c:=by rw[<-ba] at hc;exact hc
  rcases au i x c hx hk bR with e|⟨h1,h2,h3⟩
  .exact⟨λq=>Xf (bb c q) e,λq=>nN (e.symm.trans (List.mem_singleton.mp q▸eD))⟩
  .obtain⟨_,aW,bU,be,⟨cd,bt,cf⟩,_⟩:=(R.ext0 a4).cel i x h1 h2
   obtain rfl:aW=c:=dk (be.symm.trans h3);refine⟨λq=>?_,λq=>?_⟩
   .obtain⟨_,aX,bW,bf,⟨cg,bu,ch⟩,_⟩:=R.cel i x h1 h2
    obtain rfl:aX=aW:=dk (bf.symm.trans h3);exact nN ((fP aX q).symm.trans bu)
   .exact nN ((a8.back (List.mem_singleton.mp q▸hD)).symm.trans bt)
 have bv:ui ce.scope.names B tg=bK:=by
  have aY:∀x,fb u.names x=bK->fb ce.scope.names x=bK:=λx h=>by
   unfold fb at h ⊢;refine cn (ac ..) (cn (n8 ..) ?_);cases q:u.names.lookup x with
   |none=>rw[q] at h;simp at h|some k=>rcases k with _|_|_|_|_<;>rw[q] at h<;>simp at h ⊢
  cases tg with
  |name j x p=>obtain⟨a,b⟩:=Bool.and_eq_true_iff.mp (show(B.contains (j,x)&&fb u.names x)=bK from an);exact Bool.and_eq_true_iff.mpr ⟨a,aY _ b⟩
  |tup ts k p=>have an:(ts.all λt=>B.contains (t.1,t.2.1)&&fb u.names t.2.1)=bK:=an;show(ts.all λt=>B.contains (t.1,t.2.1)&&fb ce.scope.names t.2.1)=bK;rw[jj] at an ⊢;intro t ht;obtain⟨a,b⟩:=Bool.and_eq_true_iff.mp (an t ht);exact Bool.and_eq_true_iff.mpr ⟨a,aY _ b⟩
 let FF:List cE:=tg.adrs ce++P++[D]
 let bg:Nat->cz->Prop:=λk s'=>∃(xs:List V) (ap:List V) (vs:List b_) (ρ':Own) (G:Sg),k=xs.length+1/\
  lW (wt M (j_ Z ao) (uh Z c) tg a6) (JE Kk) xs ap G/\
  St C ρ' G s'/\EnvRel C ce B (Dz a6 M) ρ' s'.heap/\(∃m,s'.heap.get? D=aE {cls:=bT "list",data:=cK vs.toArray m})/\Rels ρ' s'.heap vs ap/\
  Its C tg.back P Ia xs ρ' s'.heap/\Ext FF (l.hide D) ρ' U.heap s'.heap
 have av:bg (items.length+1) af:=
  ⟨items,[],[],l.hide D,a7,rfl,hk,b9,aQ,⟨0,k4 _ _ eD⟩,fB,bM.ext (F:=[]) (Hd:=[D]) ((a5.hide D).trans aU) (by intro a ha;obtain rfl:=List.mem_singleton.mp ha;exact hD) (by simp),aU.m0⟩
 have aZ:∀aw:et,Room n aw->aw=A->∀s',bg (items.length+1) s'->fA (cm C.prog C.w) A (.compLoop (eS ao tg it c u B a6 p).back 0 (aK Ia) (aK D) ce) (Gk (cm C.prog C.w) A E' use Q (aK D) w.locals) s':=by
  refine λaw _ _ s' bX=>codeAny_loop rfl bg (λk aa hI=>?_) _ bX;show cD _ A ((compTurn (.ListComp ao.back [⟨tg.back,it.back,c.back,0⟩] u p) 0 (aK Ia) (aK D) ce).onRaise (λx=>do noteFrame x ce;theTreesLotGoes x)) _ _ aa;refine wpAny_noted (SM λE9=>sk λQ4 q4=>cn (compTurn_list ..) ?_);obtain⟨xs,ap,vs,ρ',G,bY,aL,bw,R',bZ,rs,b0,XX⟩:=hI;subst bY;obtain⟨mD,bh⟩:=bZ;have ax:ρ'.hid=(l.hide D).hid:=XX.hid;have c0:D∈ρ'.hid:=by refine cn (ax ..) ?_;exact .head _
  have aq:D∉fU:=a1.conc.notab hD;have DF:∀a2:Own,Ext FF (l.hide D) a2 U.heap aa.heap->Free a2 D:=λa2 Y=>Free.ext Y (show Free (l.hide D) D from(Free.new a1.conc hD:Free l D)) eD;refine cq (jW (cq (sk λQ5 q5=>?_)));cases xs with
  |nil=>
   refine PA (b0 [] [] ρ' G aa (Ext.refl ..) (λ_ h=>(fh h).elim) (λ_ _=>fh) bw A _ hA.2.2) λr z q=>dN q λag bi al=>?_;subst ag;refine q5 _ _ (cW ?_);have b1:EnvRel C ce B (Dz a6 M) ρ' z.heap:=R'.ext al LP λi x c hx hk hc=>(cP i x c hx hk hc).1;refine cU b1.ns λmL bx _=>?_;rw[ak] at bx;have e6:z.heap.get? D=aE {cls:=bT "list",data:=cK vs.toArray mD}:=al.keep _ _ bh aq (DF ρ' XX) bc;have cj:D≠w.locals:=λq=>nN (hL.symm.trans (q▸eD));have bj:aj.heap.get? D=aT:=a8.back hD;have bz:aj.heap.get? w.locals=aT:=a8.back (a5.back hL);obtain⟨f,aM⟩:∃f:Own,ρ'=f.hide D:=⟨_,Own.of_hide ax⟩;subst aM;have ay:f.hid=l.hid:=(List.cons.inj ax).2;have Y0:Ext FF (l.hide D) (f.hide D) aj.heap z.heap:=(((a8.hide D).m0).trans ((a5.hide D).m0)).trans (XX.trans (al.mono (by intro a ha;exact oS _ (mZ _ ha))))
   have Y1:Ext [] (ρ.hides Hz) f s.heap z.heap:=((a4.m0).trans (Y0.unhide bj)).drop (F':=[]) λa ha=>.inr (by
    rcases List.mem_append.mp ha with ha|ha
    .rcases List.mem_append.mp ha with ha|ha
     .exact a4.back (a8.back (a5.back (bd a ha)))
     .exact fP a ha
    .rw[List.mem_singleton.mp ha];exact a4.back bj)
   have F6:FreeH f D:=⟨(by have:=DF _ XX;exact this),λq=>by rw[ay] at q;obtain⟨o,e⟩:=ah.conc.hid D q;rw[bj] at e;cases e⟩
   have nO:w.locals∉fU/\Free (f.hide D) w.locals/\C.hb.get? w.locals=aT:=by have:=b1.nsO;rw[ak] at this;exact this
   have nh:w.locals∉f.hid:=λq=>by rw[ay] at q;obtain⟨o,e⟩:=ah.conc.hid _ q;rw[bz] at e;cases e
   exact q4 _ _ (hQ w.locals f G z (aK D) (cw ap) aL (nr e6 F6 (rs.ext al).unhide) bi.unhide Y1 (a4.back bz) ⟨nO.1,nO.2.1,nO.2.2,nh,mL,bx⟩)
  |cons x xs=>
   refine wM (b0 [] [] ρ' G aa (Ext.refl ..) (λ_ h=>(fh h).elim) (λ_ _=>fh) bw A _ hA.2.2) (λr z q=>?_);obtain⟨v,rfl,q⟩:=q;refine q5 _ _ (cq (sk λQ6 q6=>PA q λ_ bA q=>qs q λrv bk az aN=>cU (HJ aL) λM' hM aL=>?_));have bB:EnvRel C ce B (Dz a6 M) ρ' bA.heap:=R'.ext az LP λi x c hx hk hc=>(cP i x c hx hk hc).1;refine q6 _ _ (cq (sk λQ7 q7=>PA (oo c3 hM bv bB bk hA.2.2 rv) λ_ bC q=>dN q λbl aA aB=>q7 _ _ (cq (sk λQ8 q8=>PA (hc ac aA bl aL) λok aC q=>?_))));obtain⟨ae,bm,b2,aD,ab⟩:=q;have am:=((aN.ext' aB bP).ext' ab (by simp))
   have c6:Ext FF ρ' ρ' aa.heap bC.heap:=(az.mono (by intro a ha;exact oS _ (mZ _ ha))).trans (aB.mono (by intro a ha;exact oS _ (oS _ ha)))
   have aF:Ext FF ρ' ae aa.heap aC.heap:=c6.trans (ab.m0);have bD:∀i x v,(i,x)∈B->(Dz a6 M)[i]?=aE (aE v)->M'[i]?=aE (aE v):=λi x v hx h=>by
    rw[zW hM,h];intro y hy c8;obtain⟨s1,s2⟩:=slots y hy;have:=List.all_eq_true.mp c5 _ s1;have c9:y.1∈a6:=by
     unfold fb at s2;cases q:u.names.lookup y.2 with
     |none=>rw[q] at s2;simp at s2|some k=>rcases k with _|_|_|_|_<;>rw[q] at s2 this<;>simp at s2 this<;>exact this
    exact(w0 a6 M h).1 (c8▸c9)
   have b3:EnvRel C ce B (Dz a6 M) ae aC.heap:=(aA.ext0 ab).weaken bD;have bn:aC.heap.get? D=aE {cls:=bT "list",data:=cK vs.toArray mD}:=by have e7:=az.keep _ _ bh aq (DF ρ' XX) bc;have e8:=aB.keep _ _ e7 aq (DF ρ' XX) bQ;exact ab.keep _ _ e8 aq (DF ρ' XX) (fh)
   cases ok with
   |false=>exact q8 _ _ (cW (q4 _ _ ⟨rfl,xs.length+1,d9 _,xs,ap,vs,ae,bm,rfl,b2,aD,b3,⟨mD,bn⟩,rs.ext aF,am,XX.trans aF⟩))|true=>
    refine q8 _ _ (cq (cq (sk λck ca=>PA (he ac (aA.ext0 ab) aD b2) λy aG q=>?_)));obtain⟨J,ar,aH,⟨bF,aI⟩,aJ,a3,H⟩:=q;have F9:Free ae D:=(DF ρ' XX).ext aF bh;have b4:=H.keep _ _ bn aq F9 (fh);have bG:D∈J.hid:=by refine cn (H.hid ..) (cn (ab.hid ..) ?_);exact c0
    refine ca _ _ (cq (Nr ⟨mD,b4⟩ (λh' hp bH=>cW (cW (q4 _ _ ?_))) (by refine cn (jw ..) (cn (rs.len ..) (cn (iK ..) ?_));exact cx bF (ej ..))))
    obtain⟨m',ep⟩:=hp;have W:Ext [D] J J aG.heap h':=Ext.hidStep bG bH ⟨_,ep⟩ (λo e=>by rw[b4] at e;cases e;exact fX rfl)
    have cb:Free J D:=F9.ext H bn;refine⟨rfl,xs.length+1,d9 _,xs,ap++[aH],vs++[y],J,ar,rfl,aI,⟨?_,a3.os,a3.gens⟩,?_,⟨m',by refine cn (ep ..) ?_;simp⟩,?_,?_,?_⟩
    .exact a3.conc.same bH aq cb (a1.conc.nobase hD) W
    .exact(b3.ext0 H).ext W LD λi x c hx hk hc=>(cP i x c hx hk hc).2
    .exact(((rs.ext aF).ext H).snoc aJ).ext W
    .exact(am.ext' H (by simp)).ext' W (by intro p hp q;obtain rfl:=List.mem_singleton.mp q;exact bc hp)
    .exact(XX.trans aF).trans ((H.m0).trans (W.mono (by intro a ha;exact mZ _ ha)))
 refine codeAny_compStart_list (aZ A hA rfl af av)<|br [] (l) af (a5.trans (Ext.of_all k4)) (λ_ _=>fh) _ _ _ ?_
 .exact aZ A hA rfl _ av
theorem PD (y:uj h.scope.names vis b f l=bK) (z:ui b.names f x=bK) (R:EnvRel C h vis M ρ s.heap) (G:St C ρ σ s) (H:Room n A) (B:cD (cm C.prog C.w) A (ei D.back h) (ItP C ρ s.heap x.back I) J s) (N:∀{d:Env} {u:Mm} {e:Sg} {ρ':Own} {i:cz} {w:Bool->Sg->Prop} {o:b_->cz->Prop},d.scope.names=rZ h.scope.names b.names->EnvRel C d f u ρ' i.heap->St C ρ' e i->uh Z c u e w->cD (cm C.prog C.w) A (forIn c.back bK λc r=>if r=bK then do let P<-nZ c d (ei c d);dq (r0 P) else dq (r0 r)) (PT C [] ρ' i.heap w) o i) (Q:∀{d:Env} {u:Mm} {e:Sg} {ρ':Own} {i:cz} {w:V->Sg->Prop} {o:b_->cz->Prop},d.scope.names=rZ h.scope.names b.names->EnvRel C d f u ρ' i.heap->St C ρ' e i->j_ Z j u e w->cD (cm C.prog C.w) A (ei j.back d) (PE C [] ρ' i.heap w) o i) (U:∀items e,I items e->BV Kk M (j_ Z j) (uh Z c) x l items e):cD (cm C.prog C.w) A (ei (eS j x D c b f l p).back h) (PE C [] ρ s.heap Kk) J s:=by
 show cD _ A (FO (eS j x D c b f l p).back b h _ (newList []) cu (ei D.back h)) _ _ _;exact BX y z R G H B N Q U λL q e F a v k r st X W g=>eF g.ns λm Y=>⟨m,Y,λh' t=>⟨q,e,v,k,g.rel t r,g.st st t,X.gone t W⟩⟩
theorem PE.imp (k:∀v σ,Kk v σ->g v σ)(p:PE C F ρ h Kk a s):PE C F ρ h g a s:=let ⟨e,f,v,a,b,c,d⟩:=p;⟨e,f,v,k _ _ a,b,c,d⟩
theorem BY (k):(lV k != ("super":Str))=bK:=by
 unfold lV;by_cases h:k<gnameL.length
 .have:gnameL.all (· != ("super":Str))=bK:=by decide+kernel
  refine cn (kK ..) (cn (gK h ..) ?_);exact List.all_eq_true.mp this _ (sX h)
 .refine cn (kK ..) (cn (ND (ia h) ..) ?_)
  decide+kernel
noncomputable def JO:Expr->Bool
 |ir ..=>bK|_=>cu
theorem XD (a:jr)(e:E):FP a e.back=cu:=E.casesOn (motive_1:=λe=>FP a e.back=cu) e (λ_ _ _=>@rfl Bool cu) (λ_ _ _=>@rfl Bool cu) (λ_ _=>@rfl Bool cu) (λ_ _ _ _=>@rfl Bool cu) (λ_ _=>@rfl Bool cu) (λ_ _=>@rfl Bool cu) (λ_ _ _ _=>@rfl Bool cu) (λ_ _ _ _=>@rfl Bool cu) (λ_ _ _ _=>@rfl Bool cu) (λ_ _ _=>@rfl Bool cu) (λ_ _ _ _ _ _ _=>@rfl Bool cu) (λ_ _ _=>@rfl Bool cu) (λ_ _ _=>@rfl Bool cu) (λ_ _ _ _ _ _ _ _=>@rfl Bool cu) (λ_ _ _ _=>@rfl Bool cu) (λ_ _ _ _ _=>@rfl Bool cu) (λ_ _ _ _ _ _=>@rfl Bool cu) (λ_ _ _=>@rfl Bool cu)
theorem XE (e:E):JO e.back=cu:=E.casesOn (motive_1:=λe=>JO e.back=cu) e (λ_ _ _=>@rfl Bool cu) (λ_ _ _=>@rfl Bool cu) (λ_ _=>@rfl Bool cu) (λ_ _ _ _=>@rfl Bool cu) (λ_ _=>@rfl Bool cu) (λ_ _=>@rfl Bool cu) (λ_ _ _ _=>@rfl Bool cu) (λ_ _ _ _=>@rfl Bool cu) (λ_ _ _ _=>@rfl Bool cu) (λ_ _ _=>@rfl Bool cu) (λ_ _ _ _ _ _ _=>@rfl Bool cu) (λ_ _ _=>@rfl Bool cu) (λ_ _ _=>@rfl Bool cu) (λ_ _ _ _ _ _ _ _=>@rfl Bool cu) (λ_ _ _ _=>@rfl Bool cu) (λ_ _ _ _ _=>@rfl Bool cu) (λ_ _ _ _ _ _=>@rfl Bool cu) (λ_ _ _=>@rfl Bool cu)
theorem Vl (e:E)(l u t)(p)(q:e.back=ir l u t p):False:=dF ((XE e).symm.trans (congrArg JO q))
theorem m6 {e:E}(h:cD M A t Q f s):cD M A (attributeBase e.back m c t) Q f s:=by
 rcases e with _|_|_|_|_|_|_|_|_|_|_|_|_|_|⟨k,q,d,p⟩ |_|_|_<;>try exact h
 rcases d with _|⟨a,b⟩
 .refine((cn (BY k ..) ?_):cD M A (if((lV k != "super")||m=="__class__"||c.kindOf "super" != aE kE||c.kindOf "__class__" != aE ft)=bK then _ else _) Q f s)
  first|exact h|exact cq (wM h (λ_ _ x=>cW x))
 .exact h
theorem oZ (e:E)(rest)(a):starEach (e.back::rest) a=(cu,ei e.back a)::starEach rest a:=by rcases e with _|_|_|_|_|_|_|_|_|_|_|_|_|_|_|_|_|_<;>rfl
theorem ij:∀(b:Es) (a:Env),(starEach b.back a).all (!·.1)=bK
 |bV,_=>rfl|bE e b,a=>by show(starEach (e.back::b.back) a).all _=bK;simp only[oZ,rd,ij b a];rfl
theorem kU (h:ts.all (!·.1)=bK):(backTo pos ts).all (!·.1)=bK:=by unfold backTo;exact cn (List.all_map ..)<|h
theorem k6 {ts:List (Bool×Sem b_)}(h:ts.all (!·.1)=bK):ts.any (·.1)=cu:=by
 induction ts with
 |nil=>rfl|cons t ts a=>
  rw[rd,eB] at h;simp only[vi,a h.2]
  simpa using h.1
theorem fV (a:ts.all (!·.1)=bK) (h:cD M A (pY ts) (λvs c=>Q ⟨vs,[]⟩ c) Ee s):cD M A (evalArgs f bK ts []) Q Ee s:=by
 induction ts with
 |nil=>exact cq (wM h (λvs c d=>eU (cq (cW (cq (cW (cW d)))))))
 |cons t r=>obtain⟨b,x⟩:=t;rw[rd,eB] at a;have:b=cu:=(m_ _).mp a.1;subst this;exact Calls.evalArgs_plain h
theorem wC (b:z6 e=bK)(a)(w:Sem b_):nZ e.back a w=(do let v<-w;standAt e.back.pos;holding [v] (rz v)):=by rcases e with _|_|_|_|_|_|_|_|_|_|_|_|_|_|_|_|_|_<;>first|(cases b;done)|rfl
def GE (C:Fx)(n:Nat)(Z:Sem0)(e:E):Prop:=∀{a:Env} {vis:List (Nat×Str)} {M:Mm} {σ:Sg} {ρ:Own} {s:cz} {A:et} {Kk:V->Sg->Prop} {b:b_->cz->Prop},kG a.scope.names vis e=bK->EnvRel C a vis M ρ s.heap->St C ρ σ s->Room n A->j_ Z e M σ Kk->cD (cm C.prog C.w) A (ei e.back a) (PE C [] ρ s.heap Kk) b s
def YX (C:Fx)(n:Nat)(Z:Sem0)(b:Es):Prop:=∀{a:Env} {vis:List (Nat×Str)} {M:Mm} {σ:Sg} {ρ:Own} {s:cz} {A:et} {Kk:List V->Sg->Prop} {c:b_->cz->Prop} {pos:Pos},tC a.scope.names vis b=bK->EnvRel C a vis M ρ s.heap->St C ρ σ s->Room n A->ug Z b M σ Kk->cD (cm C.prog C.w) A (pY (backTo pos (starEach b.back a))) (PEs C [] ρ s.heap Kk) c s
def GP (C:Fx)(n:Nat)(Z:Sem0)(b:Es):Prop:=∀{a:Env} {vis:List (Nat×Str)} {M:Mm} {σ:Sg} {ρ:Own} {s:cz} {A:et} {Kk:List V->Sg->Prop} {c:b_->cz->Prop},b.one=bK->tC a.scope.names vis b=bK->EnvRel C a vis M ρ s.heap->St C ρ σ s->Room n A->ug Z b M σ Kk->cD (cm C.prog C.w) A (evalPart b.back.head? a) (PP C [] ρ s.heap Kk) c s
def GT (C:Fx)(n:Nat)(Z:Sem0)(t:T):Prop:=∀{a:Env} {vis:List (Nat×Str)} {M:Mm} {σ:Sg} {ρ:Own} {s:cz} {A:et} {Kk:Bool->Sg->Prop} {b:b_->cz->Prop},HF a.scope.names vis t=bK->EnvRel C a vis M ρ s.heap->St C ρ σ s->Room n A->HA Z t M σ Kk->cD (cm C.prog C.w) A (nZ t.back a (ei t.back a)) (PT C [] ρ s.heap Kk) b s
def Yv (C:Fx)(n:Nat)(Z:Sem0)(t:Ts):Prop:=∀{a:Env} {vis:List (Nat×Str)} {M:Mm} {σ:Sg} {ρ:Own} {s:cz} {A:et} {Kk:Bool->Sg->Prop} {b:b_->cz->Prop},SL a.scope.names vis t=bK->EnvRel C a vis M ρ s.heap->St C ρ σ s->Room n A->uh Z t M σ Kk->cD (cm C.prog C.w) A (forIn t.back bK λc r=>if r=bK then do let d<-nZ c a (ei c a);dq (r0 d) else dq (r0 r)) (PT C [] ρ s.heap Kk) b s
def Yw (C:Fx)(n:Nat)(Z:Sem0)(b:It):Prop:=∀{c:Tg} {a:Env} {vis:List (Nat×Str)} {M:Mm} {σ:Sg} {ρ:Own} {s:cz} {A:et} {Kk:List V->Sg->Prop} {d:b_->cz->Prop},HG a.scope.names vis c b=bK->EnvRel C a vis M ρ s.heap->St C ρ σ s->Room n A->JJ Z b M σ Kk->cD (cm C.prog C.w) A (ei b.back a) (ItP C ρ s.heap c.back Kk) d s
structure Gw (p:Prop):Prop where
 h:p
mutual
theorem gE (H:m5 C n Z gv mv):∀(e:E),Gw (GE C n Z e)
 |bO c k p=>⟨by
  intro N a4 M σ ρ s A Kk E' U R hs Q h;have X:∀t,Ext [] ρ ρ s.heap (⟨s.heap,s.gens,s.drawn,t,s.os⟩:cz).heap:=λ_=>Ext.refl _ _ _;rcases c with _|_|_|_|_|_|_|_<;>try exact gc h
  .exact cW ⟨ρ,σ,_,h,kD,hs,Ext.refl _ _ _⟩
  .exact cW ⟨ρ,σ,_,h,rT _,hs,Ext.refl _ _ _⟩
  .exact vp ⟨ρ,σ,_,h,fq _ _,hs.toks (dU _),Ext.refl _ _ _⟩
  .exact wpAny_mkFloat ⟨ρ,σ,_,h,gC _ _ hs.gens.2,hs.toks (dU _),Ext.refl _ _ _⟩
  .exact yu ⟨ρ,σ,_,h,gR _ _,hs.toks (dU _),Ext.refl _ _ _⟩⟩
 |aS i x p=>⟨by
  intro N a4 M σ ρ s A Kk E' U R hs Q h;dsimp only[kG] at U;refine xA U λo1 o2=>?_;have o3:=o2;unfold hV at o3;simp only[eB,m_] at o3
  .exact cU (JK h) λv hv h=>iF (lg R (by simpa using o1) o2 hv λa r=>⟨ρ,σ,v,h,r,hs,Ext.refl _ _ _⟩) o3.1⟩
 |ll g p=>⟨by intro N a4 M σ ρ s A Kk E' U R hs Q h;dsimp only[kG] at U;exact xA U λo0 U=>xA U λo1 o2=>cU ((H 12) g (of_decide_eq_true o0)) λa g1 g2=>tD R hs (ku o1) o2 g1 ⟨ρ,σ,_,h,g2 _ _,hs,Ext.refl _ _ _⟩⟩
 |cA op a b p=>⟨by intro N a4 M σ ρ s A Kk E' U R hs Q h;dsimp only[kG] at U;refine xA U λo1 o2=>wpAny_BinOp (qf ((gE H a).h o1 R hs Q h) λx F I J W B D j w=>?_);refine qf ((gE H b).h o2 (R.ext0 w) j Q B) λy a0 ab ac ar a3 a9 L G=>wM ((H 0) a3 (D.ext G) a9 L Q) (λz a1 q=>(q.imp λv az k=>?_).up (w.trans G));refine dz k λa6 k=>?_;subst a6;exact k⟩
 |gB a p=>⟨by
  intro N a4 M σ ρ s A Kk E' U R hs Q h;dsimp only[kG] at U;refine wpAny_UnaryOp (qf ((gE H a).h U R hs Q h) λx F I J W B D j w=>?_);cases D<;>try exact B.elim
  exact neg_int ⟨I,J,_,B,fq _ _,j.toks (dU _),w⟩⟩
 |.nt a p=>⟨by intro N a4 M σ ρ s A Kk E' U R hs Q h;dsimp only[kG] at U;refine wpAny_UnaryOp (qf ((gE H a).h U R hs Q h) λx F I J W B D j w=>?_);refine not_of (wM ((H 3) B D j Q) (λt a0 q=>?_));exact dN q λa3 L G=>⟨I,J,_,a3,rT _,L,w.trans G⟩⟩
 |mh op a b p=>⟨by
  intro N a4 M σ ρ s A Kk E' U R hs Q h;dsimp only[kG] at U;refine xA U λo1 o2=>?_
  have aA:cD (cm C.prog C.w) A (ei a.back N) (λv F=>cD (cm C.prog C.w) A (rz v) (λt a0=>match op,t with
   |.And,cu|.Or,bK=>PE C [] ρ s.heap Kk v a0
   |_,_=>cD (cm C.prog C.w) A (ei b.back N) (PE C [] ρ s.heap Kk) E' a0) E' F) E' s:=by
   refine qf ((gE H a).h o1 R hs Q h) λx F I J W B D j w=>wM ((H 3) B D j Q) (λt a0 q=>?_);refine dN q λa3 L G=>?_;have aI:Kk W J->PE C [] ρ s.heap Kk x a0:=λk=>⟨I,J,W,k,D.ext G,L,w.trans G⟩;have no:j_ Z b M J Kk->cD (cm C.prog C.w) A (ei b.back N) (PE C [] ρ s.heap Kk) E' a0:=λk=>wM ((gE H b).h o2 (R.ext0 (w.trans G)) L Q k) (λz a1 q=>q.up (w.trans G))
   rcases op with _|_<;>rcases t with _|_<;>first|exact aI a3|exact no a3
  cases op with
  |And=>exact wpAny_And2 (wM aA (λv F q=>wM q (λt a0 q=>by rcases t with _|_<;>exact q)))
  |Or=>exact wpAny_Or2 (wM aA (λv F q=>wM q (λt a0 q=>by rcases t with _|_<;>exact q)))⟩
 |nq t a b p=>⟨by
  intro N a4 M σ ρ s A Kk E' U R hs Q h;dsimp only[kG] at U;refine xA U λo1 o2=>xA o1 λo0 o1=>wpAny_IfExp (S4 ((z8 H t).h o0 R hs Q h) λc F I J B j w=>?_);cases c with
  |true=>exact wM ((gE H a).h o1 (R.ext0 w) j Q B) (λz a1 q=>q.up w)
  |false=>exact wM ((gE H b).h o2 (R.ext0 w) j Q B) (λz a1 q=>q.up w)⟩
 |gh op a b p=>⟨by intro N a4 M σ ρ s A Kk E' U R hs Q h;dsimp only[kG] at U;refine xA U λo1 o2=>wpAny_Compare1 (qf ((gE H a).h o1 R hs Q h) λx F I J W B D j w=>?_) (XD _ b);refine qf ((gE H b).h o2 (R.ext0 w) j Q B) λy a0 ab ac ar a3 a9 L G=>wM ((H 2) a3 (D.ext G) a9 L Q) (λz a1 q=>?_);refine uc q λc ak k a5 a2=>?_;subst ak;exact⟨ab,ac,_,k,rT c,a5,(w.trans G).trans a2⟩⟩
 |cX a i p=>⟨by intro N a4 M σ ρ s A Kk E' U R hs Q h;dsimp only[kG] at U;refine xA U λo1 o2=>Subscript_ (qf ((gE H a).h o1 R hs Q h) λx F I J W B D j w=>?_);refine qf ((gE H i).h o2 (R.ext0 w) j Q B) λy a0 ab ac ar a3 a9 L G=>wM ((H 4) a3 (D.ext G) a9 (Vl i) L Q) (λz a1 q=>(q.imp λv az k=>?_).up (w.trans G));refine dz k λa6 k=>?_;subst a6;exact k⟩
 |gP aB a lo hi st q p=>⟨by intro N a4 M σ ρ s A Kk E' U R hs Q h;dsimp only[kG] at U;simp only[eB] at U;refine dz U λa6 n4=>?_;obtain⟨⟨⟨⟨⟨o1,o2⟩,o3⟩,o4⟩,n2⟩,n3⟩:=a6;refine Subscript_ (qf ((gE H a).h o1 R hs Q h) λx F I J W B D j w=>?_);refine wpAny_Slice (Xh ((GU H lo).h n2 o2 (R.ext0 w) j Q B) λvl a0 ab ac l a3 a9 L G=>?_);refine Xh ((GU H hi).h n3 o3 (R.ext0 (w.trans G)) L Q a3) λvu a1 ae al u ag ah a5 a2=>Xh ((GU H st).h n4 o4 (R.ext0 ((w.trans G).trans a2)) a5 Q ag) λvt aa ai av t am aC af a7=>?_;have k:Kp aa.heap (aa.heap.push {cls:=bT "slice",data:=cY #[vl,vu,vt]}):=λb o e=>dK _ e;have Y:Ext [] ai ai aa.heap (aa.heap.push {cls:=bT "slice",data:=cY #[vl,vu,vt]}):=Ext.of_all k;have an:St C ai av {aa with heap:=aa.heap.push {cls:=bT "slice",data:=cY #[vl,vu,vt]}}:=af.keep0 k;refine wM ((H 5) am (D.ext (((G.trans a2).trans a7).trans Y)) (a9.ext ((a2.trans a7).trans Y)) (ah.ext (a7.trans Y)) (aC.ext Y) (fg _ rfl) an Q) (λz aR q=>?_);exact uc q λv kv f aw kk=>(BW an aw kk f kv).up ((((w.trans G).trans a2).trans a7).trans Y)⟩
 |dO es k p=>⟨by intro N a4 M σ ρ s A Kk E' U R hs Q h;dsimp only[kG] at U;refine Tuple_ (HE ((uo H es).h U R hs Q h) λx F I J W ax D j w=>?_);refine dz ax λhl B=>?_;have k:Kp F.heap (F.heap.push {cls:=bT "tuple",data:=cK x.toArray}):=λb o e=>dK _ e;have Y:Ext [] I I F.heap (F.heap.push {cls:=bT "tuple",data:=cK x.toArray}):=Ext.of_all k;have e0:F.heap.get? F.heap.objs.size=aT:=eG _;exact FE ⟨I,J,_,B,.tup (fg _ rfl) (FreeH.new j.conc e0) (D.ext Y),j.keep0 k,w.trans Y⟩ (by refine cn (iK ..) (cn (D.len ..) ?_);exact cx hl (dd rfl))⟩
 |dM aB es p=>⟨by
  intro N a4 M σ ρ s A Kk E' U R hs Q h;dsimp only[kG] at U;refine List_ (HE ((uo H es).h U R hs Q h) λx F I J W ax D j w=>?_);refine dz ax λhl B=>?_;have k:Kp F.heap (F.heap.push {cls:=bT "list",data:=cK x.toArray}):=λb o e=>dK _ e;have e0:F.heap.get? F.heap.objs.size=aT:=eG _;refine wpAny_newList ?_ (by refine cn (iK ..) (cn (D.len ..) ?_);exact cx hl (dd rfl))
  exact(BW (s:=F) j (j.keep0 k) k (v:=cw W) ⟨_,x,0,rfl,e0,fg _ rfl,D⟩ B).up w⟩
 |eS aJ tg it c aL aU aB p=>⟨by intro N a4 M σ ρ s A Kk E' U R hs Q h;dsimp only[kG] at U;simp only[eB] at U;refine dz U λa6 o5=>?_;obtain⟨⟨⟨o1,o2⟩,o3⟩,o4⟩:=a6;exact PD o2 o3 R hs Q ((JQ H it).h o1 R hs Q h) (λhn R' ay h'=>(JP H c).h (by refine cn (hn ..) ?_;exact o4) R' ay Q h') (λhn R' ay h'=>(gE H aJ).h (by refine cn (hn ..) ?_;exact o5) R' ay Q h') λ_ _=>id⟩
 |di k q a8 p=>⟨by
  intro N a4 M σ ρ s A Kk E' U R hs Q h;dsimp only[kG] at U;refine xA U λhk U=>?_;have hk:=of_decide_eq_true hk;refine xA U λo1 o2=>xA o1 λo0 o1=>uY (tD R hs (ku o0) o1 ((H 7) k hk).1 ?_);refine mS (P:=fk C) (by refine cn (k6 (kU (ij a8 N)) ..) ?_;rfl) ((H 7) k hk).2 (fV (kU (ij a8 N)) (HE ((uo H a8).h o2 R hs Q h) λx F I J W B D j w=>?_))
  exact⟨j.based,wM ((H 6) B D j Q) (λz a1 q=>q.up w)⟩⟩
 |dY o m q a8 p=>⟨by
  intro N a4 M σ ρ s A Kk E' U R hs Q h;dsimp only[kG] at U;refine xA U λo1 o2=>xA o2 λo2 o3=>xA o3 λo3 o4=>?_;have ao:=kU (pos:=p) (ij a8 N);have aj:methodCallForm (a8.back.length+([]:List yI).length) (backTo p (starEach a8.back N)) (vy p (vq [] N))=bK:=by
   delta methodCallForm
   exact cn (ao ..)<|o3
  refine cq (m6 (wM ((gE H o).h o1 R hs Q h) (λx F ap=>cq (jW ?_))));obtain⟨I,J,W,B,D,j,w⟩:=ap
  .refine cU (HB B) λk hk B=>?_
   delta vv
   refine cn (aj ..)<|wpAny_bind (eU (wM ((H 9) hk D j Q) (λr a0 aq=>?_)))
   refine dN aq λa6 L G=>?_;subst a6
   delta FQ
   have hp:(!bK||q.endLine==p.line)=bK:=o4
   refine cn (hp ..)<|wpAny_bind (cW ?_)
   refine mS (P:=fk C) (by refine cn (k6 ao ..) ?_;rfl) ((H 11) k) (fV ao (HE ((uo H a8).h o2 (R.ext0 (w.trans G)) L Q B) λy a1 ae al aD ag ah a5 a2=>?_))
   exact⟨a5.based,wM ((H 8) ag (fo (D.ext (G.trans a2)) ah) a5 Q) (λz a1 q=>q.up ((w.trans G).trans a2))⟩⟩
 |.starm o m q e au p=>⟨by
  intro N a4 M σ ρ s A Kk E' U R hs Q h;dsimp only[kG] at U;refine xA U λo1 o2=>cq (m6 (wM ((gE H o).h o1 R hs Q h) (λaF F ap=>cq (jW ?_))));obtain⟨I,J,W,B,D,j,w⟩:=ap
  .refine cU (HC B) λk hk B=>?_
   have aM:starEach [Pg e.back au] N=[(bK,ei e.back N)]:=rfl;have aj:∀l,methodCallForm l (backTo p (starEach [Pg e.back au] N)) (vy p (vq [] N))=cu:=λ_=>rfl
   delta vv
   refine cn (aj ..)<|wpAny_bind (eU (cq (wM ((H 15) hk D j Q) (λf a0 aq=>cW ?_))))
   refine qs aq λa6 ak L G=>?_;refine uc a6 λx ak ex xt xf=>?_;subst ak;refine tA ak λq oq fd eq hq aN aP=>?_;refine cq (cW ?_);refine cn (aM ..)<|ks_call (P:=λh=>fk C h/\h.get? x=aE {cls:=bT "method",data:=cY #[mv k,aF]}) rfl (λh hh=>?_) (ks_lone ?_)
   .refine⟨.boundFrame,.inr (.inr rfl),(lS (part:=aT) hh.2).andThen ?_⟩
    refine cn (eq ..)<|(lS (part:=aT) (hh.1 _ _ hq aP)).andThen<|cn (aN ..) ?_;exact jE
   .refine qf ((gE H e).h o2 (R.ext0 (w.trans G)) L Q B) λy a1 ae al aD ag ah a5 a2=>?_
    .refine hR (DH ag) λvs ez hl am=>?_;subst ez
     refine ah.cT λa as nn e3 f3 r3=>?_;have aQ:a1.TypeIs (aK a) "tuple":=⟨_,e3,rfl⟩;have aG:as.length<=1000:=by refine cn (r3.len ..) ?_;exact hl
     refine cq (r4 aQ PySem.F.slot_tuple_iter.lookup (cW ⟨rfl,?_⟩));refine wpAny_collect_seq a (.inr rfl) e3 rfl rfl (λh' hk=>?_) (by refine cn (iK ..) (cn (jw ..) ?_);exact cx aG (dd rfl))
     have af:=a5.keep0 (d:=a1.drawn) hk;have a7:Ext [] ae ae a1.heap h':=Ext.of_all hk;have aH:=hk _ _ (a2.keep _ _ ex xt xf (fh));refine⟨⟨af.based,aH⟩,g_ (method_call aH ?_)⟩;refine t6 (H 10 E' am (fo (D.ext (G.trans (a2.trans a7))) (r3.ext a7)) af Q) (λr aW q=>?_);rcases r with _|(_|_)<;>first|exact q.up (((w.trans G).trans a2).trans a7)|exact q.elim|exact q⟩
 |dZ o m p=>⟨by intro N a4 M σ ρ s A Kk E' U R hs Q h;dsimp only[kG] at U;refine cq (m6 (wM ((gE H o).h U R hs Q h) (λx F q=>cq (jW ?_))));obtain⟨I,J,W,B,D,j,w⟩:=q;refine cq (eU (wM ((H 13) B D j Q) (λz a1 q=>cq (y1 (cW ?_)))));exact(q.imp λv az k=>by refine dz k λa6 k=>?_;subst a6;exact k).up w⟩
theorem uo (H:m5 C n Z Q U):∀(o:Es),Gw (YX C n Z o)
 |bV=>⟨by intro i p M z B s A J L q r R t u h;exact spliced_none ⟨B,z,[],h,fB,t,Ext.refl _ _ _⟩⟩
 |bE e o=>⟨by intro i p M z B s A J L q r R t u h;dsimp only[tC] at r;obtain⟨N,P⟩:=Bool.and_eq_true_iff.mp r;refine FZ (qf ((gE H e).h N R t u h) λx D v w F j k c a=>?_) (oZ e o.back i);exact HE ((uo H o).h P (R.ext0 a) c u j) λy G d f I l m g b=>⟨d,f,_,l,fo (k.ext b) m,g,a.trans b⟩⟩
theorem GU (H:m5 C n Z B D):∀(w:Es),Gw (GP C n Z w)
 |bV=>⟨by intro f g M d p s A q t _ m R o r h;exact Fg ⟨p,d,[],h,kD,o,Ext.refl _ _ _⟩⟩
 |bE e bV=>⟨by intro f g M d p s A q t _ m R o r h;have h:j_ Z e M d λv d=>q [v] d:=h;dsimp only[tC] at m;refine xA m λy F=>wpAny_evalPart_some (qf ((gE H e).h y R o r h) λx u a b i j k c l=>?_);exact⟨a,b,[i],j,k,c,l⟩⟩
 |bE _ (bE ..)=>⟨by intro f g M d p s A q t z m R o r h;exact absurd z dF⟩
theorem z8 (H:m5 C n Z gv mv):∀(t:T),Gw (GT C n Z t)
 |jf e=>⟨by
  intro j U M σ Y s A W E' I R X D h;dsimp only[HF] at I;obtain⟨o1,o2⟩:=Bool.and_eq_true_iff.mp I;show cD (cm C.prog C.w) A (nZ e.back j (ei e.back j)) _ _ _;refine cn (wC o2 ..)<|wpAny_bind (qf ((gE H e).h o1 R X D h) λx r l g a0 i F f d=>cq (jW (eU ?_)))
  refine wM ((H 3) i F f D) (λt o q=>?_);exact dN q λG u m=>⟨l,g,G,u,d.trans m⟩⟩
 |.nt t p=>⟨by intro j U M σ Y s A W E' I R X D h;dsimp only[HF] at I;exact wpAny_isTrue_Not (S4 ((z8 H t).h I R X D h) λb r l g i f d=>⟨l,g,i,f,d⟩)⟩
 |mi op a b p=>⟨by
  intro j U M σ Y s A W E' I R X D h;dsimp only[HF] at I;obtain⟨o1,o2⟩:=Bool.and_eq_true_iff.mp I
  have a8:cD (cm C.prog C.w) A (nZ a.back j (ei a.back j)) (λt o=>match op,t with
   |.And,cu=>PT C [] Y s.heap W cu o|.Or,bK=>PT C [] Y s.heap W bK o|_,_=>cD (cm C.prog C.w) A (nZ b.back j (ei b.back j)) (PT C [] Y s.heap W) E' o) E' s:=by
   refine S4 ((z8 H a).h o1 R X D h) λt r l g i f d=>?_;have no:HA Z b M g W->cD (cm C.prog C.w) A (nZ b.back j (ei b.back j)) (PT C [] Y s.heap W) E' r:=λk=>wM ((z8 H b).h o2 (R.ext0 d) f D k) (λz a1 q=>q.up d)
   rcases op with _|_<;>rcases t with _|_<;>first|exact no i|exact⟨l,g,i,f,d⟩
  refine O0 ?_;induction op with
  |And=>exact AS (wM a8 (λt r q=>by
   induction t with
   |true=>exact AS (wM q (λt o q=>by rcases t with _|_<;>first|exact q|exact NF q))
   |false=>exact q))
  |Or=>exact NG (wM a8 (λt r q=>by
   induction t with
   |false=>exact NG (wM q (λt o q=>by rcases t with _|_<;>first|exact q|exact wpAny_allTrue_Or_nil q))
   |true=>exact q))⟩
 |dx op a b p=>⟨by intro j U M σ Y s A W E' I R X D h;dsimp only[HF] at I;obtain⟨o1,o2⟩:=Bool.and_eq_true_iff.mp I;refine NH (qf ((gE H a).h o1 R X D h) λx r l g a0 i F f d=>?_) (XD _ b);refine qf ((gE H b).h o2 (R.ext0 d) f D i) λy o J L a9 G N u m=>wM ((H 2) G (F.ext m) N u D) (λz a1 q=>?_);refine uc q λc P k B v=>?_;subst P;exact uZ ⟨J,L,k,B,(d.trans m).trans v⟩⟩
 |rS aa Q a b c p=>⟨by
  intro j U M σ Y s A W E' I R X D h;dsimp only[HF] at I;simp only[eB] at I;obtain⟨⟨q1,q2⟩,q3⟩:=I;refine cq (qf ((gE H a).h q1 R X D h) λx r l g a0 i F f d=>?_);have e1:markedEach [aa,Q] [b.back,c.back] (evalEach [b.back,c.back] j)=[ei b.back j,ei c.back j]:=by have:FP Q c.back=cu:=XD Q c;simp[markedEach,evalEach,markedBehindIn,this]
  refine cn (e1 ..)<|wpAny_bind (eU (qf ((gE H b).h q2 (R.ext0 d) f D i) λy o J L a9 G N u m=>?_))
  refine cq (jW (cq (eU (wM ((H 2) G (F.ext m) N u D) (λz a1 q=>?_)))));refine uc q λab P a2 B v=>?_;subst P;refine cq (yp (cq (eU (uZ ?_))));induction ab with
  |false=>exact cW ⟨J,L,a2,B,(d.trans m).trans v⟩|true=>refine cq (eU (qf ((gE H c).h q3 (R.ext0 ((d.trans m).trans v)) B D a2) λw ah a4 a5 ai ac ae a6 a3=>?_));refine cq (jW (cq ?_));refine cq (eU (wM ((H 2) ac (N.ext (v.trans a3)) ae a6 D) (λz aj q=>?_)));refine uc q λak P af a7 ag=>?_;subst P;exact cq (yp (cW (eU (uZ ⟨a4,a5,af,a7,((((d.trans m).trans v).trans a3).trans ag)⟩))))⟩
theorem JP (H:m5 C n Z k l):∀(t:Ts),Gw (Yv C n Z t)
 |.nil=>⟨by intro a b M e f s A i j c R d g h;exact wpAny_tests_nil ⟨f,e,h,d,Ext.refl _ _ _⟩⟩
 |.one t=>⟨by intro a b M e f s A i j c R d g h;dsimp only[SL] at c;exact wpAny_tests_one ((z8 H t).h c R d g h)⟩
theorem JQ (H:m5 C n Z gv mv):∀(it:It),Gw (Yw C n Z it)
 |.val e=>⟨by intro tg m W M σ ρ s A Kk E' u R N G h;dsimp only[HG] at u;refine qf ((gE H e).h u R N G h) λx J g f v i j d c=>?_;rcases v with _|_|_|_|_|_|_|_<;>first|exact i.elim|exact ItP.mk g f _ ([]) i (λ_ h=>(fh h).elim) d c ((H 17) j)|exact ItP.mk g f _ ([]) i (λ_ h=>(fh h).elim) d c ((H 18) j)⟩
 |kB q w p=>⟨by
  intro tg m W M σ ρ s A Kk E' u R N G h;dsimp only[HG] at u;have X:=Bool.and_eq_true_iff.mp u;have o1:=X.1;have o2:=X.2;refine uY (tD R N (ku o1) (by decide+kernel) (H 19) (mS (P:=fk C) (by refine cn (k6 (kU (ij w m)) ..) ?_;rfl) ((H 23) _) (fV (kU (ij w m)) (HE ((uo H w).h o2 R N G h) λx J g f v i j d c=>?_))))
  refine⟨d.based,wM (H 21 (λl=>Kk l f) i j d G) (λz Y q=>?_)⟩;exact uc q λQ k o B I=>ItP.mk g f Q ([]) k (λ_ h=>(fh h).elim) o (c.trans B) ((I _).old c)⟩
 |qc q a b p=>⟨by
  intro tg m W M σ ρ s A Kk E' u R N G h;dsimp only[HG] at u;refine xA u λu o4=>xA u λu o3=>xA u λo1 o2=>?_;have L:=kU (pos:=p) (ij (bE a (bE b bV)) m);refine uY (tD R N (ku o1) (by decide+kernel) (H 20) (mS (P:=fk C) (by refine cn ((show([a.back,b.back]:List Expr)=(bE a (bE b bV)).back from rfl) ..) (cn (k6 L ..) ?_);rfl) ((H 23) _) (fV L ?_)))
  refine FZ (qf ((gE H a).h o2 R N G h) λx J g f v i j d c=>FZ (qf ((gE H b).h o3 (R.ext0 c) d G i) λy a3 a1 U a4 D a0 F t=>spliced_none ?_) (oZ b [] m)) (oZ a [b.back] m)
  .refine lF (HD D) λl r hl hr D=>⟨F.based,wM ((H 22) hl hr (j.ext t) a0 F G) (λz Y q=>uc q λHz hz o B I=>?_)⟩
   have a2:∀a∈Hz,s.heap.get? a=aT:=λa ha=>(c.trans t).back (hz a ha);exact ItP.mk _ U _ Hz D a2 o (((c.trans t).hides Hz).trans B) (by rcases tg with _|⟨ts,k,p⟩;exact absurd o4 dF;exact(I ts k p).old (c.trans t))⟩
end
theorem k7 (H:m5 C n Z a b)(x):GE C n Z x:=(gE H x).h
theorem SQ (H:m5 C n Z a b)(x:Es):GP C n Z x:=(GU H x).h
theorem JR (H:m5 C n Z a b)(x:T):GT C n Z x:=(z8 H x).h
theorem PF (H:m5 C n Z a b)(x:Ts):Yv C n Z x:=(JP H x).h
theorem GV (H:m5 C n Z a b)(x:It):Yw C n Z x:=(JQ H x).h
noncomputable abbrev KO:=Out->Mm->Sg->Prop
section
variable (Z:Sem0)(Kk:KO)(D:Sg->KV->Prop)(N:Sg->KL->Prop)(B ws:Mm->Sg->KO->Prop)(M:Mm)(σ:Sg)(i n m:Nat)(v x u:V)
def Xj:Sg->Prop:=λσ=>Kk de M σ
def XF:KV:=λ_ σ=>Kk de M σ
def JS (t:Tg):KV:=λv σ=>match iR t v M with
 |some a=>Kk de a σ|none=>False
def Vm (m:Nat)(v:V):KV:=λx σ=>Z.set σ x m v (Xj Kk M)
def Vn (m:Nat):KV:=λv σ=>D σ (Vm Z Kk M m v)
def Vo (v x:V):KL:=λl σ=>Z.setsl σ x l.head? v (Xj Kk M)
def Vp (v:V):KV:=λx σ=>N σ (Vo Z Kk M v x)
def Vq:KV:=λv σ=>D σ (Vp Z Kk N M v)
def S7:V->Prop:=λw=>Kk de (M.set i (aE w)) σ
def PG (a:jL)(u:V):KV:=λv σ=>Z.ipl a u v (S7 Kk M σ i)
def Vr (m:Nat)(x:V)(σ:Sg):V->Prop:=λw=>Z.set σ x m w (Xj Kk M)
def Vs (a:jL)(m:Nat)(x u:V):KV:=λv σ=>Z.ipl a u v (Vr Z Kk M m x σ)
def Vt (a:jL)(m:Nat)(x:V)(σ:Sg):V->Prop:=λu=>D σ (Vs Z Kk M a m x u)
def Vu (a:jL)(m:Nat):KV:=λx σ=>Z.att σ x m (Vt Z Kk D M a m x σ)
def Xk:KB:=λc σ=>match c with
 |true=>B M σ Kk|false=>ws M σ Kk
def PH (I:Nat->Mm->Sg->Prop)(n:Nat):KO:=λo M σ=>match o with
 |de|ua=>∃a,a<n/\I a M σ
 |nA=>Kk de M σ|dH v=>Kk (dH v) M σ
def Xl (I:Nat->Mm->Sg->Prop)(n:Nat):KB:=λc σ=>match c with
 |true=>B M σ (PH Kk I n)|false=>Kk de M σ
def XG (k:Mm->Sg->Prop):KO:=λo M σ=>match o with
 |de|ua=>k M σ
 |nA=>Kk de M σ|dH v=>Kk (dH v) M σ
def wD (t:Tg):V->Mm->Sg->(Mm->Sg->Prop)->Prop:=λx M σ k=>match iR t x M with
 |some a=>B a σ (XG Kk k)|none=>False
def Pr:Mm->Sg->Prop:=λM σ=>B M σ Kk
def Yx (t:Tg):KL:=λitems σ=>om (wD Kk B t) (Pr Kk ws) items M σ
def Xm (j:Nat)(I:Nat->Mm->Sg->Prop)(n:Nat):Option V->Sg->Prop:=λr σ=>match r with
 |none=>Kk de M σ|some v=>B (M.set j (aE v)) σ (PH Kk I n)
def Vv:KV:=λv σ=>Kk (dH v) M σ
def qm:KO:=λo M σ=>match o with
 |de=>B M σ Kk|o=>Kk o M σ
end
mutual
def DL (Z:Sem0):S->Mm->Sg->(Out->Mm->Sg->Prop)->Prop
 |gD e _,M,σ,Kk=>j_ Z e M σ (XF Kk M)|cR t e _,M,σ,Kk=>j_ Z e M σ (JS Kk M t)|iI o m _ e _,M,σ,Kk=>j_ Z e M σ (Vn Z Kk (j_ Z o M) M m)|u4 o lo _ _ e _,M,σ,Kk=>j_ Z e M σ (Vq Z Kk (j_ Z o M) (ug Z lo M) M)|qd i _ _ c e _,M,σ,Kk=>match M[i]? with
  |some (aE u)=>j_ Z e M σ (PG Z Kk M i c u)|_=>False
 |.augA o m _ c e _,M,σ,Kk=>j_ Z o M σ (Vu Z Kk (j_ Z e M) M c m)|dA t a b _,M,σ,Kk=>HA Z t M σ (Xk Kk (dp Z a) (dp Z b) M)|rU t a _,M,σ,Kk=>∃I:Nat->Mm->Sg->Prop,(∃n,I n M σ)/\∀n M σ,I n M σ->HA Z t M σ (Xl Kk (dp Z a) M I n)|gT t d a b _,M,σ,Kk=>JJ Z d M σ (Yx Kk (dp Z a) (dp Z b) M t)|nu i _ _ j _ _ a _,M,σ,Kk=>match M[i]? with
  |some (aE (aV k))=>∃I:Nat->Mm->Sg->Prop,(∃n,I n M σ)/\(∃f,Z.next σ k f)/\∀n M σ,I n M σ->Z.next σ k (Xm Kk (dp Z a) M j I n)|_=>False
 |dT e _,M,σ,Kk=>j_ Z e M σ (Vv Kk M)|u5 _,M,σ,Kk=>Kk (dH dD) M σ|rV _,M,σ,Kk=>Kk nA M σ|u6 _,M,σ,Kk=>Kk ua M σ|.stop _,_,_,_=>False
def dp (Z:Sem0):Ss->Mm->Sg->(Out->Mm->Sg->Prop)->Prop
 |cy,M,σ,Kk=>Kk de M σ|bS s a,M,σ,Kk=>DL Z s M σ (qm Kk (dp Z a))
end
theorem BZ {Kk:KO}{M:Mm}{t:Tg}{v:V}{σ:Sg}(h:JS Kk M t v σ):∃a,iR t v M=aE a/\Kk de a σ:=match e:iR t v M with
 |some k=>⟨k,rfl,by unfold JS at h;rw[e] at h;exact h⟩
 |none=>by unfold JS at h;rw[e] at h;exact h.elim
theorem PI {Kk:KO}{B:Mm->Sg->KO->Prop}{M:Mm}{t:Tg}{x:V}{σ:Sg}{k:Mm->Sg->Prop}(h:wD Kk B t x M σ k):∃a,iR t x M=aE a/\B a σ (XG Kk k):=match e:iR t x M with
 |some k=>⟨k,rfl,by unfold wD at h;rw[e] at h;exact h⟩
 |none=>by unfold wD at h;rw[e] at h;exact h.elim
theorem JT {Z:Sem0}{Kk:KO}{i:Nat}{x:Str}{q p:Pos}{a:jL}{e:E}{M:Mm}{σ:Sg}(h:DL Z (qd i x q a e p) M σ Kk):∃u,M[i]?=aE (aE u)/\j_ Z e M σ (PG Z Kk M i a u):=by
 have h:(match M[i]? with|some (aE u)=>j_ Z e M σ (PG Z Kk M i a u)|_=>False):=h
 revert h;rcases M[i]? with _|_|v
 .exact gc
 .exact gc
 .exact λh=>⟨v,rfl,h⟩
theorem JU {Z:Sem0}{Kk:KO}{i j:Nat}{x y:Str}{q r p:Pos}{a:Ss}{M:Mm}{σ:Sg}(h:DL Z (nu i x q j y r a p) M σ Kk):∃k,M[i]?=aE (aE (aV k))/\∃I:Nat->Mm->Sg->Prop,(∃n,I n M σ)/\(∃b,Z.next σ k b)/\∀n M σ,I n M σ->Z.next σ k (Xm Kk (dp Z a) M j I n):=by
 have h:(match M[i]? with
  |some (aE (aV k))=>∃I:Nat->Mm->Sg->Prop,(∃n,I n M σ)/\(∃b,Z.next σ k b)/\∀n M σ,I n M σ->Z.next σ k (Xm Kk (dp Z a) M j I n)|_=>False):=h
 revert h;rcases M[i]? with _|_|v
 .exact gc
 .exact gc
 .rcases v with _|_|_|_|_|_|_|_|_<;>first|exact gc|exact λh=>⟨_,rfl,h⟩
noncomputable def kW:E->Bool
 |eS ..=>bK|_=>cu
noncomputable def uq:E->Bool
 |dO a _ _=>!(a.back.all (OZ 8))|_=>bK
noncomputable def wF:Tg->Bool
 |dS ts _ _=>decide ((ts.map (·.1)).Nodup)|_=>bK
mutual
noncomputable def HK (nm:List (Str×gd))(vis:List (Nat×Str)):S->Bool
 |gD e _=>kG nm vis e&&!kW e|cR t e _=>kG nm vis e&&ui nm vis t&&uq e&&wF t&&(!kW e||match t with|cJ ..=>bK|_=>cu)
 |iI o _ _ e _=>kG nm vis o&&kG nm vis e&&!kW e|u4 o lo _ _ e _=>kG nm vis o&&tC nm vis lo&&lo.one&&kG nm vis e&&!kW e|qd i x _ _ e _=>vis.contains (i,x)&&hV x&&fb nm x&&kG nm vis e|.augA o _ _ _ e _=>kG nm vis o&&kG nm vis e|dA t a b _=>HF nm vis t&&o_ nm vis a&&o_ nm vis b|rU t a _=>HF nm vis t&&o_ nm vis a|gT t c a b _=>HG nm vis t c&&ui nm vis t&&o_ nm vis a&&o_ nm vis b|nu i x _ j y _ a _=>vis.contains (i,x)&&hV x&&vis.contains (j,y)&&fb nm y&&o_ nm vis a|dT e _=>kG nm vis e|u5 _=>bK|rV _=>bK|u6 _=>bK|.stop _=>bK
noncomputable def o_ (nm:List (Str×gd))(vis:List (Nat×Str)):Ss->Bool
 |cy=>bK|bS s a=>HK nm vis s&&o_ nm vis a
end
inductive FlowRel (ρ:Own) (h:cQ):qb->Out->Prop
 |next:FlowRel ρ h .next de
 |brk:FlowRel ρ h .brk nA
 |cont:FlowRel ρ h .cont ua
 |ret {a v}:Rel ρ h a v->FlowRel ρ h (.ret a) (dH v)
inductive PS (C:Fx) (F:List cE) (env:Env) (vis:List (Nat×Str)) (ρ:Own) (h:cQ) (Kk:Out->Mm->Sg->Prop):qb->cz->Prop where
 |mk {f:qb} {s':cz} (ρ':Own) (σ':Sg) (M':Mm) (o:Out):Kk o M' σ'->FlowRel ρ' s'.heap f o->St C ρ' σ' s'->EnvRel C env vis M' ρ' s'.heap->Ext F ρ ρ' h s'.heap->PS C F env vis ρ h Kk f s'
theorem Vw {C:Fx}{F:List cE}{e:Env}{vis:List (Nat×Str)}{ρ:Own}{h:cQ}{Kk:Out->Mm->Sg->Prop}{M:i8}{A:et}{x:Sem qb}{Q:qb->cz->Prop}{Ee:b_->cz->Prop}{s:cz}(H:cD M A x (PS C F e vis ρ h Kk) Ee s) (f:∀a s₁ b c d o,Kk o d c->FlowRel b s₁.heap a o->St C b c s₁->EnvRel C e vis d b s₁.heap->Ext F ρ b h s₁.heap->Q a s₁):cD M A x Q Ee s:=wM H (λa s₁ q=>let ⟨b,c,d,o,k,r,g,R,X⟩:=q;f a s₁ b c d o k r g R X)
noncomputable def kX (a:Env)(vis:List (Nat×Str)):List cE:=vis.map λx=>tB a x.2
section
variable {C:Fx}{n:Nat}{Z:Sem0}{G J:Nat->b_}
theorem PS.up {F:List cE}{k:Env}{vis:List (Nat×Str)}{ρ ρ':Own}{h h':cQ}{Kk:Out->Mm->Sg->Prop}{f:qb}{s:cz}(X:Ext F ρ ρ' h h')(p:PS C F k vis ρ' h' Kk f s):PS C F k vis ρ h Kk f s:=let ⟨g,j,M,o,a,b,c,d,e⟩:=p;⟨g,j,M,o,a,b,c,d,X.trans e⟩
theorem PS.unhides {F:List cE}{k:Env}{vis:List (Nat×Str)}{ρ:Own}{h:cQ}{Kk:Out->Mm->Sg->Prop}{f:qb}{s:cz}{l:List cE}(q:∀a∈l,h.get? a=aT)(p:PS C F k vis (ρ.hides l) h Kk f s):PS C F k vis ρ h Kk f s:=by
 obtain⟨g,j,M,o,a,b,c,d,e⟩:=p;refine⟨g.un ρ,j,M,o,a,?_,St.sub (ρ:=g) (ρ₂:=g.un ρ) rfl (uk e) c,EnvRel.map (ρ:=g) (ρ₂:=g.un ρ) rfl (λ_ _=>Rel.sub (ρ:=g) (ρ₂:=g.un ρ) rfl (uk e)) d,e.unhides q⟩;induction b with
 |next=>exact .next|brk=>exact .brk|cont=>exact .cont|ret r=>exact .ret (Rel.sub (ρ:=g) (ρ₂:=g.un ρ) rfl (uk e) r)
theorem w3 {a:Env}{vis:List (Nat×Str)}{i:Nat}{x:Str}(h:(i,x)∈vis):tB a x∈kX a vis:=uT (f:=λx:Nat×Str=>tB a x.2) h
theorem tF {b:Env}{nm:List (Str×gd)}{vis:List (Nat×Str)}{t:Tg}(h:ui nm vis t=bK):∀a∈t.adrs b,a∈kX b vis:=λa d=>by rw[Tg.adrs_slots] at d;refine cU (List.mem_map.mp d) λy e c=>?_;subst c;exact w3 (wB h y e).1
theorem wG {e:E}(h:kW e=cu)(t:Option Expr)(l:Nat)(a:Env):swapsWith e.back t l a=dq cu:=E.casesOn (motive_1:=λe=>kW e=cu->swapsWith e.back t l a=dq cu) e (λ_ _ _ _=>@rfl (Sem Bool) (dq cu)) (λ_ _ _ _=>@rfl (Sem Bool) (dq cu)) (λ_ _ _=>@rfl (Sem Bool) (dq cu)) (λ_ _ _ _ _=>@rfl (Sem Bool) (dq cu)) (λ_ _ _=>@rfl (Sem Bool) (dq cu)) (λ_ _ _=>@rfl (Sem Bool) (dq cu)) (λ_ _ _ _ _=>@rfl (Sem Bool) (dq cu)) (λ_ _ _ _ _=>@rfl (Sem Bool) (dq cu)) (λ_ _ _ _ _=>@rfl (Sem Bool) (dq cu)) (λ_ _ _ _=>@rfl (Sem Bool) (dq cu)) (λ_ _ _ _ _ _ _ _=>@rfl (Sem Bool) (dq cu)) (λ_ _ _ _=>@rfl (Sem Bool) (dq cu)) (λ_ _ _ _=>@rfl (Sem Bool) (dq cu)) (λ_ _ _ _ _ _ _ _ h=>dG h) (λ_ _ _ _ _=>@rfl (Sem Bool) (dq cu)) (λ_ _ _ _ _ _=>@rfl (Sem Bool) (dq cu)) (λ_ _ _ _ _ _ _=>@rfl (Sem Bool) (dq cu)) (λ_ _ _ _=>@rfl (Sem Bool) (dq cu)) h
theorem JV {e:E}(h:kW e=bK):∃a d f c g vis b p,e=eS a d f c g vis b p:=E.casesOn (motive_1:=λe=>kW e=bK->∃a d f c g vis b p,e=eS a d f c g vis b p) e (λ_ _ _ h=>absurd h dF) (λ_ _ _ h=>absurd h dF) (λ_ _ h=>absurd h dF) (λ_ _ _ _ h=>absurd h dF) (λ_ _ h=>absurd h dF) (λ_ _ h=>absurd h dF) (λ_ _ _ _ h=>absurd h dF) (λ_ _ _ _ h=>absurd h dF) (λ_ _ _ _ h=>absurd h dF) (λ_ _ _ h=>absurd h dF) (λ_ _ _ _ _ _ _ h=>absurd h dF) (λ_ _ _ h=>absurd h dF) (λ_ _ _ h=>absurd h dF) (λ_ _ _ _ _ _ _ _ _=>⟨_,_,_,_,_,_,_,_,rfl⟩) (λ_ _ _ _ h=>absurd h dF) (λ_ _ _ _ _ h=>absurd h dF) (λ_ _ _ _ _ _ h=>absurd h dF) (λ_ _ _ h=>absurd h dF) h
noncomputable def B_:E->Bool
 |dO ..=>bK|_=>cu
theorem PJ {e:E}(h:B_ e=bK):∃a k p,e=dO a k p:=E.casesOn (motive_1:=λe=>B_ e=bK->∃a k p,e=dO a k p) e (λ_ _ _ h=>absurd h dF) (λ_ _ _ h=>absurd h dF) (λ_ _ h=>absurd h dF) (λ_ _ _ _ h=>absurd h dF) (λ_ _ h=>absurd h dF) (λ_ _ h=>absurd h dF) (λ_ _ _ _ h=>absurd h dF) (λ_ _ _ _ h=>absurd h dF) (λ_ _ _ _ h=>absurd h dF) (λ_ _ _ h=>absurd h dF) (λ_ _ _ _ _ _ _ h=>absurd h dF) (λ_ _ _ _=>⟨_,_,_,rfl⟩) (λ_ _ _ h=>absurd h dF) (λ_ _ _ _ _ _ _ _ h=>absurd h dF) (λ_ _ _ _ h=>absurd h dF) (λ_ _ _ _ _ h=>absurd h dF) (λ_ _ _ _ _ _ h=>absurd h dF) (λ_ _ _ h=>absurd h dF) h
theorem zX {e:E}(h:B_ e=cu){ts:List Expr}{k:Nat}{p:Pos}(a:Env):swappedStores [lp ts k p] e.back a=dq aT:=E.casesOn (motive_1:=λe=>B_ e=cu->swappedStores [lp ts k p] e.back a=dq aT) e (λ_ _ _ _=>@rfl (Sem (Option (List Str))) (dq aT)) (λ_ _ _ _=>@rfl (Sem (Option (List Str))) (dq aT)) (λ_ _ _=>@rfl (Sem (Option (List Str))) (dq aT)) (λ_ _ _ _ _=>@rfl (Sem (Option (List Str))) (dq aT)) (λ_ _ _=>@rfl (Sem (Option (List Str))) (dq aT)) (λ_ _ _=>@rfl (Sem (Option (List Str))) (dq aT)) (λ_ _ _ _ _=>@rfl (Sem (Option (List Str))) (dq aT)) (λ_ _ _ _ _=>@rfl (Sem (Option (List Str))) (dq aT)) (λ_ _ _ _ _=>@rfl (Sem (Option (List Str))) (dq aT)) (λ_ _ _ _=>@rfl (Sem (Option (List Str))) (dq aT)) (λ_ _ _ _ _ _ _ _=>@rfl (Sem (Option (List Str))) (dq aT)) (λ_ _ _ h=>dG h) (λ_ _ _ _=>@rfl (Sem (Option (List Str))) (dq aT)) (λ_ _ _ _ _ _ _ _ _=>@rfl (Sem (Option (List Str))) (dq aT)) (λ_ _ _ _ _=>@rfl (Sem (Option (List Str))) (dq aT)) (λ_ _ _ _ _ _=>@rfl (Sem (Option (List Str))) (dq aT)) (λ_ _ _ _ _ _ _=>@rfl (Sem (Option (List Str))) (dq aT)) (λ_ _ _ _=>@rfl (Sem (Option (List Str))) (dq aT)) h
theorem k8 {e:E}(h:kW e=cu)(ts:List Expr)(l:Nat)(a:Env):swapsWithSole ts e.back l a=dq cu:=by
 induction ts with
 |nil=>rfl|cons t ts=>
  induction ts with
  |nil=>exact wG h _ _ _|cons _ _=>rfl
theorem DM:∀(ts:List (Nat×Str×Pos)) (vs:List V) (t:Nat×Str×Pos) (v:V) (M:Mm),ts.length=vs.length->iQ (ts++[t]) (vs++[v]) M=(iQ ts vs M).map λc=>c.set t.1 (aE v):=by exact US (@λt v M _=>rfl) (@λa ts b vs d t v M h=>d t v _ (vk h)) (@λ_ _ _ _ _ h=>by cases h) (@λ_ _ _ _ _ h=>by cases h)
theorem DN:∀(ts:List (Nat×Str×Pos)) (vs:List V) (M:Mm) (i:Nat) (w:Option V),(∀t∈ts,t.1≠i)->iQ ts vs (M.set i w)=(iQ ts vs M).map λa=>a.set i w:=by
 refine US ?_ ?_ ?_ ?_
 .exact @λM i w _=>rfl
 .exact @λt ts v vs b M i w h=>by show iQ ts vs ((M.set i w).set t.1 (aE v))=_;exact cn (nX _ _ (eN (h t (.head _))) ..)<|b _ i w λt c=>h t (.tail _ c)
 .exact @λ_ _ _ _ _ _=>rfl
 .exact @λ_ _ _ _ _ _=>rfl
theorem DO:∀(ts:List (Nat×Str×Pos)) (vs:List V) (M:Mm),(ts.map (·.1)).Nodup->ts.length=vs.length->iQ ts.reverse vs.reverse M=iQ ts vs M:=by
 refine US ?_ ?_ ?_ ?_
 .exact @λM _ _=>rfl
 .exact @λt ts v vs d M b e=>by
   rw[fS,Bf] at b;have a:ts.length=vs.length:=vk e;refine cn (u_ ..) (cn (u_ ..) (cn ((DM _ _ _ _ _ (by simp[a])) ..) (cn (d M b.2 a ..) ?_)))
   show _=iQ ts vs (M.set t.1 (aE v));exact cn ((DN ts vs M t.1 (aE v) λf c q=>b.1 (q▸uT c)) ..) rfl
 .exact @λ_ _ _ _ h=>by cases h
 .exact @λ_ _ _ _ h=>by cases h
theorem vS {α b:Type}(c:α->Bool)(h:α->b)(f:α->Option b)(d:∀a,f a=if c a then aE (h a) else aT):∀l:List α,(l.filterMap f).length=l.length->l.filterMap f=l.map h:=by
 intro g;induction g with
 |nil=>exact @λ_=>rfl
 |cons a l j=>
  exact @λe=>by
   have k:=F3 f l;rw[uU] at e ⊢;rw[d a] at e ⊢;induction q:c a with
   |true=>rw[q] at e;simp only[if_true,j8] at e ⊢;exact cn (fS ..) (cn (j (vk e) ..) rfl)|false=>rw[q] at e;simp only[qW,if_false,j8] at e;exact absurd (e▸k) (Nat.not_succ_le_self _)
theorem Vx {α:Sort _}{c:Prop}[Decidable c]{a b X:α}{P:Prop}(h:(if c then a else b)=X)(d:c->a=X->P)(e:¬c->b=X->P):P:=by
 by_cases k:c
 .exact d k ((if_pos k).symm.trans h)
 .exact e k ((if_neg k).symm.trans h)
theorem DP {t:Tg}{e:E}(q:uq e=bK)(b:Env):swappedStores [t.back] e.back b=dq aT\/∃ts k p c d f,t=dS ts k p/\e=dO c d f/\swappedStores [t.back] e.back b=dq (aE (ts.map (·.2.1))):=by
 cases t with
 |name i x p=>exact .inl rfl|tup ts k p=>
  induction o:B_ e with
  |false=>exact .inl (zX o b)|true=>
  obtain⟨c,d,f,rfl⟩:=PJ o;have g:(c.back.all (OZ 8))=cu:=by simpa [uq] using q
  have j:∀X,swappedStores [lp (ts.map λt=>dI t.2.1 t.2.2) k p] (lp c.back d f) b=X->X=dq aT\/X=dq (aE (ts.map (·.2.1))):=λX a=>by
   delta swappedStores at a
   dsimp only at a;refine Vx a (λ_ e=>.inl e.symm) λr a=>Vx a (λ_ e=>.inl e.symm) λs a=>Vx a (λ_ e=>.inl e.symm) λl a=>Vx a (λ_ e=>.inl e.symm) λw a=>Vx a (λh _=>absurd (g.symm.trans h) dF) λy a=>.inr<|a.symm.trans (congrArg (λx=>(dq (aE x):Sem (Option (List Str)))) ((yd ..).trans (vS (λt:Nat×Str×Pos=>b.kindOf t.2.1==aE NameKind.local&&t.2.2.line==((Gl (λt:Nat×Str×Pos=>th t.2.1 t.2.2) ts).head?.map (·.pos.line)).getD 0) (λt=>t.2.1) _ (λt=>rfl) ts ?_)))
   have l:=(not_or.mp (λz=>l (Bool.or_eq_true_iff.mpr z))).1;refine(congrArg i_ (yd ..)).symm.trans ((Decidable.not_not.mp (λz=>l (bne_iff_ne.mpr z))).trans (eE ..))
  rcases j _ rfl with h|h
  .exact .inl h
  .exact .inr ⟨ts,k,p,c,d,f,rfl,rfl,h⟩
theorem C0 {b:Env}{vis:List (Nat×Str)}(P:qg vis=bK){ts:List (Nat×Str×Pos)}{vs:List V}{c:List b_}{M g:Mm}{ρ:Own}{σ:Sg}{s:cz}{A:et}{Ee:b_->cz->Prop} (d:iQ ts vs M=aE g) (F:(ts.map (·.1)).Nodup) (k:(ts.all λt=>vis.contains (t.1,t.2.1)&&fb b.scope.names t.2.1)=bK) (R:EnvRel C b vis M ρ s.heap) (st:St C ρ σ s) (r:Rels ρ s.heap c vs):cD (cm C.prog C.w) A (FK ((ts.map (·.2.1)).reverse.map λn=>bindName b n) c.reverse) (λ_ e=>St C ρ σ e/\EnvRel C b vis g ρ e.heap/\Ext (ts.map λt=>tB b t.2.1) ρ ρ s.heap e.heap) Ee s:=by
 have H:=sm ts vs d;rw[<-DO ts vs M F H] at d;have Q:Rels ρ s.heap c.reverse vs.reverse:=by
  clear d H F k;induction c generalizing vs with
  |nil=>cases r;exact fB|cons a c w=>cases r with|cons r y=>refine cn (u_ ..) (cn (u_ ..) ?_);exact(w y).snoc r
 have U:∀(ts:List (Nat×Str×Pos)) (vs:List V) (c:List b_) {M g:Mm} {s:cz},iQ ts vs M=aE g->(ts.all λt=>vis.contains (t.1,t.2.1)&&fb b.scope.names t.2.1)=bK->EnvRel C b vis M ρ s.heap->St C ρ σ s->Rels ρ s.heap c vs->
  cD (cm C.prog C.w) A (FK ((ts.map (·.2.1)).map λn=>bindName b n) c) (λ_ e=>St C ρ σ e/\EnvRel C b vis g ρ e.heap/\Ext (ts.map λt=>tB b t.2.1) ρ ρ s.heap e.heap) Ee s:=by
  intro ts;induction ts with
  |nil=>
   intro vs c M g s d _ R st r;cases vs with
   |nil=>(first|obtain⟨_,rfl⟩:=r.inv|obtain rfl:=r.inv|obtain⟨_,_,rfl⟩:=r.inv);cases d;exact cW ⟨st,R,Ext.refl _ _ _⟩
   |cons v vs=>cases d
  |cons t ts w=>
   intro vs c M g s d k R st r;cases vs with
   |nil=>cases d|cons v vs=>
    cases r with
    |cons r y=>rw[rd,eB,eB] at k;obtain⟨⟨W,X⟩,Y⟩:=k;exact cq (eU (wpAny_bindName (wM (mn R st P (by simpa using W) (ig X) r) (λ_ I q=>dN q λh l f=>wM (w vs _ d Y l h (y.ext f)) (λ_ L q=>dN q λj o p=>⟨j,o,(f.mono (by simp)).trans (p.mono (by intro a z;exact .tail _ z))⟩)))))
 have:=U ts.reverse vs.reverse c.reverse d (by refine cn (List.all_reverse ..) ?_;exact k) R st Q
 exact ie (Ou ..)<|wM this (λ_ e q=>⟨q.1,q.2.1,q.2.2.mono (by intro a z;simpa using z)⟩)
theorem qt {a:Env}(h:a.scope.kind=gj):interactive a=cu:=by unfold interactive;rw[h];rfl
def GS (C:Fx)(n:Nat)(Z:Sem0)(st:S):Prop:=∀{a:Env} {vis:List (Nat×Str)} {M:Mm} {σ:Sg} {ρ:Own} {s:cz} {A:et} {Kk:Out->Mm->Sg->Prop} {b:b_->cz->Prop},HK a.scope.names vis st=bK->qg vis=bK->EnvRel C a vis M ρ s.heap->St C ρ σ s->Room n A->DL Z st M σ Kk->cD (cm C.prog C.w) A (exec st.back a) (PS C (kX a vis) a vis ρ s.heap Kk) b s
def YY (C:Fx)(n:Nat)(Z:Sem0)(b:Ss):Prop:=∀{a:Env} {vis:List (Nat×Str)} {M:Mm} {σ:Sg} {ρ:Own} {s:cz} {A:et} {Kk:Out->Mm->Sg->Prop} {c:b_->cz->Prop},o_ a.scope.names vis b=bK->qg vis=bK->EnvRel C a vis M ρ s.heap->St C ρ σ s->Room n A->dp Z b M σ Kk->cD (cm C.prog C.w) A (q0 b.back a) (PS C (kX a vis) a vis ρ s.heap Kk) c s
mutual
theorem so (H:m5 C n Z G J):∀(st:S),GS C n Z st
 |gD e p=>by
  rename_i W a3 M σ ρ s A Kk E'
  intro ok hv R hs hA h;dsimp only[HK] at ok;obtain⟨o1,o2⟩:=Bool.and_eq_true_iff.mp ok;have o2:kW e=cu:=(m_ _).mp o2;exact wpAny_Expr_any (qf (k7 H e o1 R hs hA h) λx s₁ Q a2 am a1 a8 U F=>⟨Q,a2,M,de,a1,.next,U,R.ext0 F,F.m0⟩) (qt R.kind) (wG o2 ..)
 |cR t e p=>by
  rename_i W a3 M σ ρ s A Kk E'
  intro ok hv R hs hA h;dsimp only[HK] at ok;refine xA ok λok o5=>xA ok λok o4=>xA ok λok o3=>xA ok λo1 o2=>?_;have aX:∀{Q:Own} {s₁ ab:cz} {a2:Sg} {M':Mm},Ext [] ρ Q s.heap s₁.heap->Kk de M' a2->St C Q a2 ab/\EnvRel C W a3 M' Q ab.heap/\Ext (t.adrs W) Q Q s₁.heap ab.heap->PS C (kX W a3) W a3 ρ s.heap Kk .next ab:=λF k ⟨a,b,c⟩=>⟨_,_,_,de,k,.next,a,b,(F.m0).trans (c.mono (tF o2))⟩
  induction aC:kW e with
  |false=>
   rcases DP (t:=t) o3 W with aY|⟨ts,k,bh,es,k',p',rfl,rfl,aY⟩
   .refine uV (qf (k7 H e o1 R hs hA h) λx s₁ Q a2 am a1 a8 U F=>?_) (k8 aC ..) aY
    .refine cU (BZ a1) λM' hM a1=>?_
     have e1:(assignEach [t.back] W).map (·.2)=[p_ t.back W]:=by rcases t with _|_<;>rfl
     exact cn (e1 ..)<|wM (oo hv hM o2 (R.ext0 F) U hA.2.2 a8) (λ_ ab q=>aX F a1 q)
   .show cD _ A (exec (.Assign [(dS ts k bh).back] (dO es k' p').back p) W) _ _ s
    refine cn (exec_Assign_arm ..) (cn (k8 aC ..) (cn (aY ..) (cq (jW (cq (cW (cq (qf (k7 H _ o1 R hs hA h) λx s₁ Q a2 am a1 a8 U F=>cq (cW ?_)))))))))
    .refine cU (BZ a1) λM' hM bw=>?_
     obtain⟨vs,rfl,hM⟩:=si hM;refine a8.cT λa as m e1 f1 rs=>?_;have hl:=sm ts vs hM;refine cq (ip ?_);have bL:(ts.map (·.2.1)).length=as.toArray.size:=cn (eE ..) (cn (hl ..) (cn (jw ..) (cn (rs.len ..) rfl)));refine cn (bL ..)<|wpAny_bind (wpAny_unpackItems_tuple hA.2.2 ⟨_,e1,rfl,_,rfl⟩ λh' hx=>?_)
     have bi:Kp s₁.heap h':=λb o e=>hx b o (jI (jk e)) e;have a4:Ext [] Q Q s₁.heap h':=Ext.of_all bi;refine cq (wM (C0 hv hM (by simpa [wF] using o4) o2 ((R.ext0 F).ext0 a4) (U.keep0 (d:=s₁.drawn) bi) (rs.ext a4)) (λ_ ae q=>cW (aX (s₁:=⟨h',s₁.gens,s₁.drawn,s₁.toks,s₁.os⟩) (F.trans a4) bw ⟨q.1,q.2.1,?_⟩)))
     have:=q.2.2;unfold Tg.adrs Tg.names;refine cn (mQ ..) ?_;exact this
  |true=>
   obtain⟨bf,tg,it,c,ax,aZ,bp,p',rfl⟩:=JV aC;rcases t with⟨i,x,px⟩ |⟨ts,k,bh⟩
   case tup=>exact absurd o5 dF
   have aY:∃b,swapsWith (eS bf tg it c ax aZ bp p').back (aE (dI x px)) p.line W=dq b:=⟨_,rfl⟩;obtain⟨b,hb⟩:=aY;induction b with
   |false=>refine wpAny_Assign_Name (qf (k7 H _ o1 R hs hA h) λy s₁ Q a2 am a1 a8 U F=>?_) hb;have ay:=o2;unfold ui at ay;obtain⟨q1,q2⟩:=Bool.and_eq_true_iff.mp ay;exact wM (mn (R.ext0 F) U hv (by simpa using q1) (ig q2) a8) (λ_ ab q=>aX F a1 q)
   |true=>
    show cD _ A (exec (.Assign [dI x px] (eS bf tg it c ax aZ bp p').back p) W) _ _ s;refine cn (exec_Assign_Name_used _ _ _ _ hb ..)<|wpAny_bind (jW ?_)
    dsimp only[kG] at o1;simp only[eB] at o1;obtain⟨⟨⟨⟨q1,q2⟩,q3⟩,q4⟩,q5⟩:=o1;have ay:=o2;unfold ui at ay;obtain⟨w1,w2⟩:=Bool.and_eq_true_iff.mp ay;have w1:(i,x)∈a3:=by simpa using w1
    show cD _ A ((do let _<-FO (eS bf tg it c ax aZ bp p').back ax W _ (newList []) cu (ei it.back W) (aE (p_ (dI x px) W)))>>=_) _ _ s;refine cq (cq (BX (Kk:=λv σ=>Kk de (M.set i (aE v)) σ) q2 q3 R hs hA (GV H it q1 R hs hA h) (λhn R' au h'=>PF H c (by refine cn (hn ..) ?_;exact q4) R' au hA h') (λhn R' au h'=>k7 H bf (by refine cn (hn ..) ?_;exact q5) R' au hA h') (λ_ _=>id) λL ah aj bj a v k r st X hL g=>?_))
    have bx:tB W x≠L:=λq=>by
     refine cU R.ns λm hn _=>?_;unfold tB at q;split at q
     .obtain⟨oL,_,_,e,_⟩:=hn;rw[q,hL] at e;exact nN e
     .rename_i hk
      obtain⟨_,c,ov,hc,⟨o,e,_⟩,_⟩:=R.cel i x w1 hk;rw[hc] at q;have q:c=L:=q;rw[q,hL] at e;exact nN e
    refine Ba (wM (mn (R.ext0 X) st hv w1 (ig w2) r) (λ_ b0 q=>dN q λbq an bk=>?_));obtain⟨m,hn⟩:=g.ns;have bz:b0.heap.Ns L m:=hn.at' λo e=>bk.keep _ _ e g.tab g.free (by intro q;exact bx (List.mem_singleton.mp q).symm)
    refine⟨m,bz,λh' aW=>cW ?_⟩;have g7:Gone C ah b0.heap L:=⟨g.tab,g.free,g.base,g.hid,m,bz⟩;have Y:Ext (kX W a3) ρ ah s.heap b0.heap:=(X.m0).trans (bk.mono (by intro a ha;refine cn (List.mem_singleton.mp ha ..) ?_;exact w3 w1))
    refine cW ⟨ah,aj,_,de,k,.next,g7.st bq aW,cU an.ns λbA br bs=>?_,Y.gone aW hL⟩;have lL:W.locals≠L:=λq=>by obtain⟨m,⟨oL,_,_,e,_⟩,_⟩:=R.ns;rw[q,hL] at e;exact nN e
    refine⟨an.kind,an.glob,an.bi,⟨bA,br.sameBut aW lL,λj y hy hk w hM=>?_⟩,λj y hy hk=>?_,an.nsO,an.celO,an.inj⟩
    .obtain⟨b,q,r'⟩:=bs j y hy hk w hM;exact⟨b,q,g7.rel aW r'⟩
    .obtain⟨bB,c,ov,hc,bt,r'⟩:=an.cel j y hy hk
     have cL:c≠L:=λq=>by obtain⟨_,b1,bM,aD,⟨bY,bl,_⟩,_⟩:=R.cel j y hy hk;obtain rfl:b1=c:=dk (aD.symm.trans hc);rw[q,hL] at bl;exact nN bl
     exact⟨bB,c,ov,hc,bt.sameBut aW cL,λw hM=>by obtain⟨b,q,r'⟩:=r' w hM;exact⟨b,q,g7.rel aW r'⟩⟩
 |iI o m q e p=>by
  rename_i W a3 M σ ρ s A Kk E'
  intro ok hv R hs hA h;dsimp only[HK] at ok;simp only[eB] at ok;obtain⟨⟨o1,o2⟩,o3⟩:=ok;have o3:kW e=cu:=(m_ _).mp o3;refine uV (qf (k7 H e o2 R hs hA h) λx s₁ Q a2 am a1 a8 U F=>?_) (k8 o3 ..) rfl;show cD _ A (p_ (jD o.back (eh m) q) W x) _ _ s₁;refine cq (eU (qf (k7 H o o1 (R.ext0 F) U hA a1) λy ab ρ₂ ak b2 a9 ap a5 a4=>cq (jW (cq (eU (S4 (H 14 _ a9 ap (a8.ext a4) a5 hA) λ_ ae ac ai af a6 a7=>yp ?_))))));have X:=(F.trans a4).trans a7;exact⟨ac,ai,M,de,af,.next,a6,R.ext0 X,X.m0⟩
 |u4 o lo bC bD e p=>by
  rename_i W a3 M σ ρ s A Kk E'
  intro ok hv R hs hA h;dsimp only[HK] at ok;simp only[eB] at ok;obtain⟨⟨⟨⟨o1,o2⟩,o3⟩,o4⟩,o5⟩:=ok;have o5:kW e=cu:=(m_ _).mp o5;refine uV (qf (k7 H e o4 R hs hA h) λx s₁ Q a2 am a1 a8 U F=>?_) (k8 o5 ..) rfl;show cD _ A (p_ (u9 o.back (ir lo.back.head? aT aT bC) bD) W x) _ _ s₁;refine cq (eU (qf (k7 H o o1 (R.ext0 F) U hA a1) λy ab ρ₂ ak b2 a9 ap a5 a4=>cq (eU (wpAny_Slice (Xh (SQ H lo o3 o2 ((R.ext0 F).ext0 a4) a5 hA a9) λvl ae ac ai l af b3 a6 a7=>Fg (Fg ?_))))));have k:Kp ae.heap (ae.heap.push {cls:=bT "slice",data:=cY #[vl,cG,cG]}):=λb o e=>dK _ e;have Y:Ext [] ac ac ae.heap (ae.heap.push {cls:=bT "slice",data:=cY #[vl,cG,cG]}):=Ext.of_all k;have al:St C ac ai {ae with heap:=ae.heap.push {cls:=bT "slice",data:=cY #[vl,cG,cG]}}:=a6.keep0 k;refine cq (jW (cq (eU (S4 ((H 16) af (ap.ext (a7.trans Y)) (a8.ext ((a4.trans a7).trans Y)) (b3.ext Y) (fg _ rfl) al hA) λ_ b4 aF aG b5 aq av=>yp ?_))));have X:=(((F.trans a4).trans a7).trans Y).trans av;exact⟨aF,aG,M,de,b5,.next,aq,R.ext0 X,X.m0⟩
 |qd i x q op e p=>by
  rename_i W a3 M σ ρ s A Kk E'
  intro ok hv R hs hA h;dsimp only[HK] at ok;simp only[eB] at ok;obtain⟨⟨⟨o1,o2⟩,o3⟩,o4⟩:=ok;have o1:(i,x)∈a3:=by simpa using o1
  .refine cU (JT h) λu hM h=>wpAny_AugAssign_Name (lg R o1 o2 hM λa r=>qf (k7 H e o4 R hs hA h) λy s₁ Q a2 am a1 a8 U F=>qf ((H 1) a1 (r.ext F) a8 U hA) λz ab ρ₂ ak b2 b6 ap a5 a4=>?_)
   obtain⟨rfl,a9⟩:=b6;exact wM (mn ((R.ext0 F).ext0 a4) a5 hv o1 (ig o3) ap) (λ_ ae bF=>dN bF λa6 ao a7=>⟨ρ₂,_,_,de,a9,.next,a6,ao,((F.trans a4).m0).trans (a7.mono (by intro a ha;refine cn (List.mem_singleton.mp ha ..) ?_;exact w3 o1))⟩)
 |.augA o m q op e p=>by
  rename_i W a3 M σ ρ s A Kk E'
  intro ok hv R hs hA h;dsimp only[HK] at ok;obtain⟨o1,o2⟩:=Bool.and_eq_true_iff.mp ok;refine wpAny_AugAssign_AttributeAny (qf (k7 H o o1 R hs hA h) λx s₁ Q a2 am a1 a8 U F=>qf ((H 13) a1 a8 U hA) λy ab ρ₂ ak b2 b6 ap a5 a4=>?_);obtain⟨rfl,a9⟩:=b6;refine qf (k7 H e o2 (R.ext0 (F.trans a4)) a5 hA a9) λy ae ac ai bZ af b3 a6 a7=>qf ((H 1) af (ap.ext a7) b3 a6 hA) λz b7 b8 b9 c0 b6 bG al ar=>?_;obtain⟨rfl,ba⟩:=b6;refine S4 (H 14 _ ba (a8.ext ((a4.trans a7).trans ar)) bG al hA) λ_ b4 aF aG b5 aq av=>?_;have X:=(((F.trans a4).trans a7).trans ar).trans av;exact⟨aF,aG,M,de,b5,.next,aq,R.ext0 X,X.m0⟩
 |dA t a b p=>by
  rename_i W a3 M σ ρ s A Kk E'
  intro ok hv R hs hA h;dsimp only[HK] at ok;simp only[eB] at ok;obtain⟨⟨o1,o2⟩,o3⟩:=ok;refine wpAny_If (S4 (JR H t o1 R hs hA h) λc s₁ Q a2 a1 U F=>?_);induction c with
  |true=>exact wM (jz H a o2 hv (R.ext0 F) U hA a1) (λf ab q=>q.up (F.m0))
  |false=>exact wM (jz H b o3 hv (R.ext0 F) U hA a1) (λf ab q=>q.up (F.m0))
 |rU t a p=>by
  rename_i W a3 M σ ρ s A Kk E'
  intro ok hv R hs hA h;dsimp only[HK] at ok;obtain⟨o1,o2⟩:=Bool.and_eq_true_iff.mp ok;refine cU h λI bu hI=>?_;obtain⟨bb,aH⟩:=bu;refine wpAny_While (codeAny_whileLoop (λk s'=>∃aa aj M',I k M' aj/\St C aa aj s'/\EnvRel C W a3 M' aa s'.heap/\Ext (kX W a3) ρ aa s.heap s'.heap) (λk s' hk=>?_) bb ⟨ρ,σ,M,aH,hs,R,Ext.refl _ _ _⟩);refine tA hk λaa aj M' i' au R' X'=>S4 (JR H t o1 R' au hA (hI k M' aj i')) λc s₁ Q a2 a1 U F=>?_;have XX:Ext (kX W a3) ρ Q s.heap s₁.heap:=X'.trans (F.m0);induction c with
  |true=>
   refine Vw (jz H a o2 hv (R'.ext0 F) U hA a1) λf ab ρ₂ ak aL o a9 fr a5 aw a4=>?_;induction fr with
   |next=>obtain⟨n',l,a9⟩:=a9;exact⟨n',l,ρ₂,ak,aL,a9,a5,aw,XX.trans a4⟩
   |cont=>obtain⟨n',l,a9⟩:=a9;exact⟨n',l,ρ₂,ak,aL,a9,a5,aw,XX.trans a4⟩
   |brk=>exact⟨ρ₂,ak,aL,de,a9,.next,a5,aw,XX.trans a4⟩|ret r=>exact⟨ρ₂,ak,aL,_,a9,.ret r,a5,aw,XX.trans a4⟩
  |false=>exact Bg ⟨Q,a2,M',de,a1,.next,U,R'.ext0 F,XX⟩
 |gT t it a b p=>by
  rename_i W a3 M σ ρ s A Kk E'
  intro ok hv R hs hA h;dsimp only[HK] at ok;simp only[eB] at ok;obtain⟨⟨⟨o1,o2⟩,o3⟩,o4⟩:=ok;refine wpAny_For (wM (GV H it o1 R hs hA h) (λx s₁ q=>?_)) (tE it W);obtain⟨Q,a2,bc,Hz,a1,hz,U,F,It⟩:=q;replace R:EnvRel C W a3 M (ρ.hides Hz) s.heap:=EnvRel.map (ρ:=ρ) (ρ₂:=ρ.hides Hz) rfl (λ_ _=>Rel.hides Hz hz) R;have bd:∀f s',PS C (kX W a3) W a3 (ρ.hides Hz) s.heap Kk f s'->PS C (kX W a3) W a3 ρ s.heap Kk f s':=λf s'=>PS.unhides hz;refine wM (It Q a2 s₁ (Ext.refl ..) U A _ hA.2.2) (λc3 ab q=>?_);obtain⟨Ia,P,aI,bN,aP,a5,a4,bP,c1⟩:=q;subst aI;have fP:∀p∈P,s.heap.get? p=aT:=λp hp=>(bN p hp).elim F.back id;have Pv:∀p∈P,p∉kX W a3:=λp hp q=>by
   refine cU (List.mem_map.mp q) λy hy aI=>?_;subst aI;have:=fP _ hp;have bm:=R;unfold tB at this;split at this
   .obtain⟨m,⟨oL,_,_,e,_⟩,_⟩:=bm.ns;rw[this] at e;exact nN e
   .rename_i hk
    obtain⟨_,c,ov,hc,⟨o,e,_⟩,_⟩:=bm.cel y.1 y.2 hy hk;rw[hc] at this;have this:s.heap.get? c=aT:=this;rw[this] at e;exact nN e
  have LP:W.locals∉P:=λq=>by obtain⟨m,⟨oL,_,_,e,_⟩,_⟩:=R.ns;rw[fP _ q] at e;exact nN e
  have cP:∀i x c,(i,x)∈a3->W.kindOf x≠aE dv->W.cells.lookup x=aE c->c∉P:=λi x c hx hk hc q=>by obtain⟨_,b1,ov,aD,⟨o,e,_⟩,_⟩:=R.cel i x hx hk;obtain rfl:b1=c:=dk (aD.symm.trans hc);rw[fP _ q] at e;exact nN e
  have bv:∀{aa:Own} {h':cQ},Ext (kX W a3++P) Q aa s₁.heap h'->Ext (kX W a3) (ρ.hides Hz) aa s.heap h':=λY=>((F.m0).trans Y).drop λa ha=>(List.mem_append.mp ha).imp id (fP a)
  refine codeAny_forLoop_any (λk s'=>∃xs aa aj M',k=i_ xs+1/\om (wD Kk (dp Z a) t) (Pr Kk (dp Z b)) xs M' aj/\St C aa aj s'/\EnvRel C W a3 M' aa s'.heap/\Its C t.back P Ia xs aa s'.heap/\Ext (kX W a3++P) Q aa s₁.heap s'.heap) (λk s' hk=>?_) (bc.length+1)
   ⟨bc,Q,a2,M,rfl,a1,a5,(R.ext0 F).ext0 a4,bP,a4.m0⟩
  obtain⟨xs,aa,aj,M',bQ,hf,au,R',bn,X'⟩:=hk;subst bQ;induction xs with
  |nil=>
   refine wM (bn [] [] aa aj s' (Ext.refl ..) (λ_ h=>(fh h).elim) (by simp) au A _ hA.2.2) (λr ae q=>?_)
   refine dN q λbR a6 a7=>?_;subst bR;have ao:EnvRel C W a3 M' aa ae.heap:=R'.ext a7 LP cP;exact Vw (jz H b o4 hv ao a6 hA hf) λf b7 b8 b9 bH o ba fr al be ar=>bd _ _ ⟨b8,b9,bH,o,ba,fr,al,be,bv ((X'.trans (a7.mono (by intro a ha;exact mZ _ ha))).trans (ar.mono (by intro a ha;exact oS _ ha)))⟩
  |cons x xs=>
   refine wM (bn [] [] aa aj s' (Ext.refl ..) (λ_ h=>(fh h).elim) (by simp) au A _ hA.2.2) (λr ae q=>?_)
   obtain⟨v,rfl,q⟩:=q;refine wM q (λ_ b7 q=>qs q λrv al ar bg=>?_)
   .refine cU (PI hf) λc2 hM hf=>?_
    have be:EnvRel C W a3 M' aa b7.heap:=R'.ext ar LP cP;refine wM (oo hv hM o2 be al hA.2.2 rv) (λ_ b4 q=>dN q λaq bI av=>?_);have bU:Ext (kX W a3++P) Q aa s₁.heap b4.heap:=(X'.trans (ar.mono (by intro a ha;exact mZ _ ha))).trans (av.mono (by intro a ha;exact oS _ (tF o2 a ha)))
    refine Vw (jz H a o3 hv bI aq hA hf) λf bj ah az aM o aN fr aA aQ bo=>?_;have XX:=bU.trans (bo.mono (by intro a ha;exact oS _ ha))
    have aR:Its C t.back P Ia xs ah bj.heap:=(bg.ext' av (λp hp q=>Pv p hp (tF o2 p q))).ext' bo Pv;induction fr with
    |next=>exact⟨xs.length+1,d9 _,xs,ah,az,aM,rfl,aN,aA,aQ,aR,XX⟩|cont=>exact⟨xs.length+1,d9 _,xs,ah,az,aM,rfl,aN,aA,aQ,aR,XX⟩|brk=>exact bd _ _ ⟨ah,az,aM,de,aN,.next,aA,aQ,bv XX⟩|ret r=>exact bd _ _ ⟨ah,az,aM,_,aN,.ret r,aA,aQ,bv XX⟩
 |nu i x px j y py a p=>by
  rename_i W a3 M σ ρ s A Kk E'
  intro ok hv R hs hA h;dsimp only[HK] at ok;simp only[eB] at ok;obtain⟨⟨⟨⟨o1,o2⟩,o3⟩,o4⟩,o5⟩:=ok;have o1:(i,x)∈a3:=by simpa using o1
  have o3:(j,y)∈a3:=by simpa using o3
  have ay:=o2;unfold hV at ay;simp only[eB,m_] at ay
  .refine cU (JU h) λk hM h=>hR h λI bu aI hI=>?_;obtain⟨bb,aH⟩:=bu;obtain⟨K',bW⟩:=aI
   refine wpAny_For (iF (lg R o1 o2 hM λa r=>?_) ay.1);refine cU r.inv λ_ hp aI=>?_;subst aI
   rename_i bJ
   refine(H 24) bW hp hs<|codeAny_forLoop_any (λn s'=>∃aa aj M',I n M' aj/\St C aa aj s'/\EnvRel C W a3 M' aa s'.heap/\Ext (kX W a3) ρ aa s.heap s'.heap) (λn s' hk=>tA hk λaa aj M' i' au R' X'=>?_) bb ⟨ρ,σ,M,aH,hs,R,Ext.refl _ _ _⟩
   have bX:aa.l[k]?=aE bJ:=by obtain⟨t,ht⟩:=X'.pre;refine ie (ht ..) (cn (jR (List.getElem?_eq_some_iff.mp hp).1 ..) ?_);exact hp
   refine wM ((H 25) (hI n M' aj i') bX au hA) (λr s₁ q=>tA q λQ a2 w a1 aJ U F=>?_);have XX:Ext (kX W a3) ρ Q s.heap s₁.heap:=X'.trans (F.m0);induction r with
   |none=>
    induction w with
    |none=>exact Bg ⟨Q,a2,M',de,a1,.next,U,R'.ext0 F,XX⟩|some w=>exact aJ.elim
   |some v=>
    induction w with
    |none=>exact aJ.elim|some w=>
     refine cW (Ba (wM (mn (R'.ext0 F) U hv o3 (ig o4) aJ) (λ_ ab q=>dN q λa5 aw a4=>?_)));have aB:=XX.trans (a4.mono (by intro a ha;refine cn (List.mem_singleton.mp ha ..) ?_;exact w3 o3))
     refine Vw (jz H a o5 hv aw a5 hA a1) λf ae ac ai aU o af fr a6 ao a7=>?_;induction fr with
     |next=>obtain⟨n',l,af⟩:=af;exact⟨n',l,ac,ai,aU,af,a6,ao,aB.trans a7⟩
     |cont=>obtain⟨n',l,af⟩:=af;exact⟨n',l,ac,ai,aU,af,a6,ao,aB.trans a7⟩
     |brk=>exact⟨ac,ai,aU,de,af,.next,a6,ao,aB.trans a7⟩|ret r=>exact⟨ac,ai,aU,_,af,.ret r,a6,ao,aB.trans a7⟩
 |dT e p=>by
  rename_i W a3 M σ ρ s A Kk E'
  intro ok hv R hs hA h;dsimp only[HK] at ok;exact Fq (qf (k7 H e ok R hs hA h) λx s₁ Q a2 am a1 a8 U F=>⟨Q,a2,M,_,a1,.ret a8,U,R.ext0 F,F.m0⟩)
 |u5 p=>by
  rename_i W a3 M σ ρ s A Kk E'
  exact λok hv R hs hA h=>wpAny_Return_none ⟨ρ,σ,M,_,h,.ret kD,hs,R,Ext.refl _ _ _⟩
 |rV p=>by
  rename_i W a3 M σ ρ s A Kk E'
  exact λok hv R hs hA h=>wpAny_Break ⟨ρ,σ,M,_,h,.brk,hs,R,Ext.refl _ _ _⟩
 |u6 p=>by
  rename_i W a3 M σ ρ s A Kk E'
  exact λok hv R hs hA h=>wpAny_Continue ⟨ρ,σ,M,_,h,.cont,hs,R,Ext.refl _ _ _⟩
 |.stop p=>by
  rename_i W a3 M σ ρ s A Kk E'
  exact λok hv R hs hA h=>h.elim
theorem jz (H:m5 C n Z G J):∀(k:Ss),YY C n Z k
 |cy=>by
  rename_i l p M σ F s A Kk P
  exact λt w R y z h=>Bg ⟨F,σ,M,de,h,.next,y,R,Ext.refl _ _ _⟩
 |bS Q k=>by
  rename_i l p M σ F s A Kk P
  intro t w R y z h;dsimp only[o_] at t;obtain⟨U,W⟩:=Bool.and_eq_true_iff.mp t;refine mO (Vw (so H Q U w R y z h) λf I b c j o d X a e g=>?_);induction X with
  |next=>exact wM (jz H k W w e a z d) (λf L q=>q.up g)
  |brk=>exact⟨b,c,j,_,d,.brk,a,e,g⟩|cont=>exact⟨b,c,j,_,d,.cont,a,e,g⟩|ret r=>exact⟨b,c,j,_,d,.ret r,a,e,g⟩
end
end
mutual
def Cl (k:Nat):V->Prop
 |aV n=>n<k|dj l=>Cls k l|cw l=>Cls k l|_=>True
def Cls (k:Nat):List V->Prop
 |[]=>True|v::vs=>Cl k v/\Cls k vs
end
def ClAt (k:Nat)(a:List (Nat×V)):Prop:=∀x v,(a.map λp=>(eh p.1,p.2)).lookup x=aE v->Cl k v
def ClO (k:Nat):O->Prop
 |cM l=>Cls k l|fe _ a=>ClAt k a|d7 l a=>Cls k l/\ClAt k a|gQ _ o=>Cl k o|kC v=>Cl k v|.dead=>True
def ClOs (k:Nat):List O->Prop
 |[]=>True|o::os=>ClO k o/\ClOs k os
noncomputable def sr (σ:Sg)(k:Nat):V->V
 |aV n=>if n<k then aV n else match σ[n]? with
  |some (cM l)=>cw l|_=>dD
 |v=>v
theorem PK (h:n<k):sr σ k (aV n)=aV n:=if_pos h
theorem zY (h:¬n<k)(e:σ[n]?=aE (cM l)):sr σ k (aV n)=cw l:=(if_neg h).trans<|cn (e ..) rfl
def zZ (σ:Sg)(k:Nat):V->Prop
 |aV n=>n<k\/∃l,σ[n]?=aE (cM l)/\Cls k l|v=>Cl k v
def PL (σ:Sg)(k:Nat):List V->Prop
 |[]=>True|v::vs=>zZ σ k v/\PL σ k vs
noncomputable def frz (σ:Sg)(k:Nat):V->V
 |dj l=>dj (l.map (sr σ k))|v=>sr σ k v
def XH (σ:Sg)(k:Nat):V->Prop
 |dj l=>PL σ k l|v=>zZ σ k v
def lu (tr:Bool)(k:Nat)(Kk:V->Sg->Prop):Out->Mm->Sg->Prop:=λo _ σ=>match tr,o with
 |true,dH v=>k<=σ.length/\XH σ k v/\ClOs k (σ.take k)/\Kk (frz σ k v) (σ.take k)|true,de=>k<=σ.length/\ClOs k (σ.take k)/\Kk dD (σ.take k)|false,dH v=>Kk v σ|false,de=>Kk dD σ|_,_=>False
theorem Rel.trunc (d:ρ.l=ρ'.l.take k)(j:ρ'.hid=ρ.hid)(r:Rel ρ' h a v):Cl k v->Rel ρ h a v:=have F:∀{p},FreeH ρ' p->FreeH ρ p:=λf=>⟨λp l=>f.1 p (lZ (d▸l)),by refine ie (j ..) ?_;exact f.2⟩
 Rel.rec (motive_1:=λa v _=>Cl k v->Rel ρ h a v) (motive_2:=λm g _=>Cls k g->Rels ρ h m g) (λ_=>kD) (λb _=>rT b) (λi t _=>fq i t) (λb t z _=>gC b t z) (λs t _=>gR s t)
  (λe f _ r c=>.tup e (F f) (r c)) (λe f _ r c=>nr e (F f) (r c)) (λe (c:_<k)=>kF (by refine cn (d ..) (cn (Nm c ..) ?_);exact e)) (λv _=>.raw v) (λ_=>fB) (λ_ _ a b c=>fo (a c.1) (b c.2)) r
theorem Rels.trunc (b:ρ.l=ρ'.l.take k)(d:ρ'.hid=ρ.hid)(r:Rels ρ' h a v)(c:Cls k v):Rels ρ h a v:=by
 induction a generalizing v with
 |nil=>cases r;exact fB|cons a g e=>cases r with|cons r f=>exact fo (r.trunc b d c.1) (e f c.2)
theorem Cls.mem (c:Cls k l):∀v∈l,Cl k v:=by
 induction l with
 |nil=>exact λv h=>(fh h).elim
 |cons v b a=>exact λw h=>(List.mem_cons.mp h).elim (λe=>e▸c.1) (a c.2 w)
theorem YZ {P Q:V->Prop}{N:Prop}:(match o with|some v=>P v|none=>N)->(∀v,o=aE v->P v->Q v)->match o with|some v=>Q v|none=>N:=by
 rcases o with _|v
 .exact λg _=>g
 .exact λg h=>h v rfl g
theorem AtRel.trunc (i:ρ.l=ρ'.l.take k)(j:ρ'.hid=ρ.hid)(x:AtRel ρ' h d f)(c:ClAt k f):AtRel ρ h d f:=cU x λl e q=>⟨l,e,λy=>YZ (q y) λv m g=>let ⟨a,b,r⟩:=g;⟨a,b,r.trunc i j (c y v m)⟩⟩
theorem ORel.trunc (i:ρ.l=ρ'.l.take k)(j:ρ'.hid=ρ.hid)(x:ORel ρ' h p o)(c:ClO k o):ORel ρ h p o:=by
 induction o with
 |list l=>refine dz x λa f=>?_;obtain⟨m,n,b,r⟩:=f;exact⟨a,m,n,b,r.trunc i j c⟩
 |inst C q=>refine dN x λa b r=>?_;exact⟨a,b,r.trunc i j c⟩
 |acc l q=>refine dN x λa f d=>?_;obtain⟨m,n,b,r⟩:=f;exact⟨a,⟨m,n,b,r.trunc i j c.1⟩,d.trunc i j c.2⟩
 |citer l o=>refine dN x λa b g=>?_;obtain⟨v,d,r,e⟩:=g;exact⟨a,b,v,d,r.trunc i j c,e⟩
 |lam w=>refine dN x λa b g=>?_;obtain⟨v,d,r⟩:=g;exact⟨a,b,v,d,r.trunc i j c⟩
 |dead=>trivial
theorem ClOs.get {i:Nat}(c:ClOs k l)(h:l[i]?=aE o):ClO k o:=by
 induction l generalizing i with
 |nil=>exact nN h|cons x b a=>
  rcases i with _|i
  .exact dk h▸c.1
  .exact a c.2 h
theorem tG {α:Type}{l:List α}{k i:Nat}{x:α}(h:(l.take k)[i]?=aE x):l[i]?=aE x/\i<k:=by
 rcases F_ i k with q|q
 .exact⟨(Nm q).symm.trans h,q⟩
 .exact nN ((List.getElem?_take_eq_none q).symm.trans h)
theorem Conc.trunc {ρ ρ':Own}{σ:Sg}{k:Nat}(c:Conc C ρ' σ h)(b:ρ.l=ρ'.l.take k)(e:ρ'.hid=ρ.hid)(g:ClOs k (σ.take k)):Conc C ρ (σ.take k) h:=by
 refine⟨c.base,c.tab,by simp only[b,kN,kN,c.len],λp d=>c.lo p (lZ (b▸d)),λp d=>c.hi p (lZ (b▸d)),λp d=>c.low p (lZ (b▸d)),
  λi j p q l m=>?_,λa n=>c.hid a (e▸n),λi p o d f=>?_⟩
 .exact c.apart i j p q (tG (b▸l)).1 (tG (b▸m)).1
 .exact(c.objs i p o (tG (b▸d)).1 (tG f).1).trunc b e (g.get f)
theorem vD:∀(b:List (Str×b_)) (m:Str->Option b_),(∀y∈b,y.1≠x)->vA c b m x=m x
 |[],_,_=>rfl|(n,v)::r,m,h=>by
  dsimp only[vA];refine cn ((vD r _ λy a=>h y (.tail _ a)) ..) ?_;split
  .exact if_neg λq:x=n=>h (n,v) (.head _) q.symm
  .rfl
theorem vE:∀(b:List (Str×b_)) (m:Str->Option b_),(∀y∈b,y.1≠x)->vB c b m x=m x
 |[],_,_=>rfl|(n,v)::r,m,h=>by
  dsimp only[vB];refine cn ((vE r _ λy a=>h y (.tail _ a)) ..) ?_;split
  .rfl
  .exact if_neg λq:x=n=>h (n,v) (.head _) q.symm
theorem C1 (g:j x=aE dv):∀(ps:List Str) (c:List b_) (m:Str->Option b_) (i:Nat) (a:b_),ps.Nodup->ps[i]?=aE x->c[i]?=aE a->vA j (ps.zip c) m x=aE a
 |[],_,_,i,_,_,h,_=>by simp at h
 |_::_,[],_,i,_,_,_,h=>by simp at h
 |p::ps,b::c,m,i,a,d,e,f=>by
  rw[Bf] at d;refine cn (Fm ..) ?_;dsimp only[vA];induction i with
  |zero=>simp at e f;subst e;subst f;rw[vD _ _ λy k (q:y.1=p)=>d.1 (by rw[<-q];exact(v9 (show(y.1,y.2)∈_ from k)).1),if_pos g,if_pos rfl]
  |succ i=>exact C1 g ps c _ i a d.2 (e) (f)
theorem C2 (g:j x≠aE dv):∀(ps:List Str) (c:List b_) (m:Str->Option b_) (i:Nat) (a:b_),ps.Nodup->ps[i]?=aE x->c[i]?=aE a->vB j (ps.zip c) m x=aE a
 |[],_,_,i,_,_,h,_=>by simp at h
 |_::_,[],_,i,_,_,_,h=>by simp at h
 |p::ps,b::c,m,i,a,d,e,f=>by
  rw[Bf] at d;refine cn (Fm ..) ?_;dsimp only[vB];induction i with
  |zero=>simp at e f;subst e;subst f;rw[vE _ _ λy k (q:y.1=p)=>d.1 (by rw[<-q];exact(v9 (show(y.1,y.2)∈_ from k)).1),if_neg g,if_pos rfl]
  |succ i=>exact C2 g ps c _ i a d.2 (e) (f)
theorem iA (c:C.hb.NoLimit)(b:fk C h):h.NoLimit:=by refine cU c λd a z=>?_;refine ud a λo f g e r=>?_;exact⟨d,⟨o,f,g,b _ _ e (dd rfl),r⟩,z⟩
theorem wH:∀{ps:List Str} {c:List b_} {i:Nat},ps.Nodup->ps[i]?=aE x->c[i]?=aE a->(ps.zip c).reverse.lookup x=aE a
 |[],_,i,_,h,_=>by simp at h
 |_::_,[],i,_,_,h=>by simp at h
 |p::ps,b::c,i,d,e,f=>by
  rw[Bf] at d;rw[Fm,u_,Fl];induction i with
  |zero=>
   simp at e f;subst e;subst f;have:(ps.zip c).reverse.lookup p=aT:=by rw[List.lookup_eq_none_iff];intro y g;have:=(v9 (show(y.1,y.2)∈ps.zip c from List.mem_reverse.mp g)).1;simp;exact λq=>d.1 (q▸this)
   refine cn (this ..) ?_;simp
  |succ i=>refine cn ((wH d.2 (e) (f)) ..) ?_;rfl
def ur (C:Fx)(fd:mX)(b:Args)(a:List (Str×b_)):Prop:=∀s:cz,fk C s.heap->BindsTo s fd b a
def FnIs (C:Fx)(a:cE)(fd:mX)(ps:List Str)(vis:List (Nat×Str))(b:Ss):Prop:=Rc [
 (∃o,C.hb.get? a=aE o/\o.data=fK fd/\a∉fU),
 (C.hb.NoLimit),
 (∃c o vs t,fd.code=aK c/\C.hb.get? c=aE o/\o.data=cY vs/\vs[1]?=aE (cV fd.qualname t)/\c∉fU),
 (fd.body=.stmts b.back),
 (fd.closure=[]),
 (fd.globals=kn),
 (fd.builtins=pS),
 (fd.scope.kind=gj),
 (fd.scope.isCoroutine=cu),
 (fd.scope.isGenerator=cu),
 (∀d:List b_,d.length=ps.length->ur C fd ⟨d,[]⟩ (ps.zip d)),
 (ps.Nodup),
 (qg vis=bK),
 (∀y∈vis,fb fd.scope.names y.2=bK),
 (∀(i:Nat) (x:Str),ps[i]?=aE x->(i,x)∈vis),
 (o_ fd.scope.names vis b=bK)]
theorem tH (c:Conc C ρ' σ h)(d:ρ.l=ρ'.l.take k)(o:ρ'.hid=ρ.hid)(j:∀(i:Nat) p,ρ'.l[i]?=aE p->k<=i->p.1∉ρ.hid)(r:Rel ρ' h a v)(f:zZ σ k v):Rel ρ h a (sr σ k v):=by
 cases v with
 |obj m=>
  show Rel ρ h a (if m<k then aV m else match σ[m]? with|some (cM l)=>cw l|_=>dD)
  rcases f with f|⟨l,e,w⟩
  .exact cn (if_pos f ..)<|r.trunc d o (f)
  .refine r.cO λp s=>?_
   have R:=c.objs m p _ s e;refine dz R λq t=>?_;obtain⟨B,D,x,y⟩:=t;by_cases b:m<k
   .exact cn (if_pos b ..)<|(kF (h:=h) (n:=m) s).trunc d o (b)
   .refine cn (if_neg b ..) (cn (e ..) (nr x ⟨λz u=>?_,j m p s (ia b)⟩ (y.trunc d o w)))
    obtain⟨i,A⟩:=mI (d▸u);have g:=tG A;have:=c.apart m i p z s g.1 λq:m=i=>b (q.symm▸g.2);exact⟨this.1,this.2.1⟩
 |_=>exact r.trunc d o f
theorem JW (c:Conc C ρ' σ h)(d:ρ.l=ρ'.l.take k)(e:ρ'.hid=ρ.hid)(a:∀(i:Nat) p,ρ'.l[i]?=aE p->k<=i->p.1∉ρ.hid)(r:Rels ρ' h b vs):PL σ k vs->Rels ρ h b (vs.map (sr σ k)):=r.ind (P:=λb vs=>PL σ k vs->Rels ρ h b (vs.map (sr σ k))) (λ_=>fB) λ_ _ _ _ r _ i f=>fo (tH c d e a r f.1) (i f.2)
theorem PN (c:Conc C ρ' σ h)(d:ρ.l=ρ'.l.take k)(g:ρ'.hid=ρ.hid)(b:∀(i:Nat) p,ρ'.l[i]?=aE p->k<=i->p.1∉ρ.hid)(r:Rel ρ' h a v)(f:XH σ k v):Rel ρ h a (frz σ k v):=by
 cases v with
 |tup l=>exact r.cT λ_ _ _ e j m=>.tup e ⟨λp n=>j.1 p (lZ (d▸n)),by refine ie (g ..) ?_;exact j.2⟩ (JW c d g b m f)
 |_=>exact tH c d g b r f
theorem Room.deeper (h:Room (n+3) A):Room n (A.deeper d):=by
 refine dN h λa b c=>⟨?_,?_,c⟩
 .show A.depth+1+n<_;exact gG (Jl a)
 .show A.units+3+n<_;exact gG (iP 0x708b0a6c6824043984b1a0111 rfl b)
set_option backward.match.sparseCases true in
theorem z_ (g:A.depth<FD) (C:s.heap.get? a=aE o) (i:o.data=fK fd) (n:s.heap.NoLimit) (y:s.heap.CodeRec fd.code fd.qualname) (j:fd.body=.stmts p) (k:BindsTo s fd ⟨r,[]⟩ b) (t:fd.closure=[]) (l:∀x∈b,fd.scope.names.lookup x.1=aE dv\/(fd.scope.names.lookup x.1=aE eH/\((lR (s.heap.objs.size+1) fd.scope.names []).lookup x.1).isSome=bK)) (h:∀s₁,s.toks<=s₁.toks->InCallC s (o9 fd s.heap.objs.size a).locals (vA (o9 fd s.heap.objs.size a).kindOf b λ_=>aT) (o9 fd s.heap.objs.size a).cells (vB (o9 fd s.heap.objs.size a).kindOf b λ_=>aT) s₁->cD (cm prog w) (A.deeper (o9 fd s.heap.objs.size a)) (q0 p (o9 fd s.heap.objs.size a)) (λf d=>R (.ok (.ret (match f with|.ret v=>v|_=>cG))) d) (λe d=>cD (cm prog w) (A.deeper (o9 fd s.heap.objs.size a)) (leaving (o9 fd s.heap.objs.size a) e) (λ_ m=>R (.error e) m) (λD m=>R (.error D) m) d) s₁) (z:fd.scope.isCoroutine=cu) (u:fd.scope.isGenerator=cu) (F:fd.scope.kind=gj):fA (cm prog w) A (eR (aK a) ⟨r,[]⟩) R s:=by
 refine NI g C i z u j y<|cn (t ..)<|k _ _ _ _ (wM (dP (wpAny_newFunctionEnv_cells (Q:=λc d=>c=o9 fd s.heap.objs.size a/\InCallC s c.locals (vA c.kindOf b λ_=>aT) c.cells (vB c.kindOf b λ_=>aT) d) F l λc G d x=>⟨G,x⟩)) (λc d q=>?_))
 refine dN q λH B x=>?_;subst B;exact⟨n.keeps x.toInCall.keep,codeAny_func (h d H x)⟩
def GW (C:Fx)(a:cE)(fd:mX)(ps:List Str)(vis:List (Nat×Str))(b:List eQ):Prop:=Rc [
 (∃o,C.hb.get? a=aE o/\o.data=fK fd/\a∉fU),
 (C.hb.NoLimit),
 (∃c o vs t,fd.code=aK c/\C.hb.get? c=aE o/\o.data=cY vs/\vs[1]?=aE (cV fd.qualname t)/\c∉fU),
 (fd.body=.stmts b),
 (fd.globals=kn),
 (fd.builtins=pS),
 (fd.scope.kind=gj),
 (fd.scope.isCoroutine=cu),
 (fd.scope.isGenerator=cu),
 (∀d:List b_,d.length=ps.length->ur C fd ⟨d,[]⟩ (ps.zip d)),
 (ps.Nodup),
 (qg vis=bK),
 (∀y∈vis,fb fd.scope.names y.2=bK),
 (∀(i:Nat) (x:Str),ps[i]?=aE x->(i,x)∈vis)]
theorem FnIs.e (I:FnIs C a fd ps vis b):GW C a fd ps vis b.back:=(Rc.c ((I 0))<|Rc.c ((I 1))<|Rc.c ((I 2))<|Rc.c ((I 3))<|Rc.c ((I 5))<|Rc.c ((I 6))<|Rc.c ((I 7))<|Rc.c ((I 8))<|Rc.c ((I 9))<|Rc.c ((I 10))<|Rc.c ((I 11))<|Rc.c ((I 12))<|Rc.c ((I 13))<|Rc.c ((I 14))<|Rc.n)
noncomputable def XI:qb->b_
 |.ret v=>v|_=>cG
def PX (C:Fx)(F:List cE)(ρ:Own)(h:cQ)(Kk:Out->Mm->Sg->Prop):qb->cz->Prop:=λf b=>∃ρ' a o,Kk o [] a/\FlowRel ρ' b.heap f o/\St C ρ' a b/\Ext F ρ ρ' h b.heap
theorem PS.x (q:PS C F l vis ρ h (lu tr k Kk) f s):PX C F ρ h (lu tr k Kk) f s:=by obtain⟨b,c,i,a,e,m,d,j,g⟩:=q;refine⟨b,c,a,?_,m,d,g⟩;rcases tr with _|_<;>rcases a with _|_|_|_<;>exact e
theorem PX.drop (q:PX C F ρ e Kk f s)(g:Ext [] ρ ρ h e)(l:∀b∈F,h.get? b=aT):PX C [] ρ h Kk f s:=tA q λa c i j m d k=>⟨a,c,i,j,m,d,(g.m0).trans k |>.drop λb n=>.inr (l b n)⟩
theorem GX (st:St C ρ σ s) (q:PX C [] ρ s.heap (lu tr σ.length Kk) f g):PE C [] ρ s.heap Kk (XI f) g:=by
 refine tA q λc d x b y a X=>?_
 have l:ρ.l=c.l.take σ.length:=
  eF X.pre λt m=>ie (m ..) (ie (st.conc.len ..) (cn (List.take_left ..) rfl))
 have k:∀(i:Nat) p,c.l[i]?=aE p->σ.length<=i->p.1∉ρ.hid:=λi p A D F=>by
  rcases X.new p (jS A) with z|⟨z,_⟩
  .refine eF (mI z) λj n=>?_
   have u:c.l[j]?=aE p:=by refine eF X.pre λt m=>ie (m ..) (cn (jR (List.getElem?_eq_some_iff.mp n).1 ..) ?_);exact n
   have:j<σ.length:=by refine ie (st.conc.len ..) ?_;exact(List.getElem?_eq_some_iff.mp n).1
   exact(a.conc.apart i j p p A u (λe=>absurd (e▸D) (qZ this))).1 rfl
  .refine eF (st.conc.hid _ F) λo e=>?_;rw[z] at e;exact nN e
 have B:Ext [] ρ ρ s.heap g.heap:=⟨pG _,rfl,X.dom,λ_ h=>.inl h,X.seq,X.keep,X.code⟩;induction tr with
 |true=>
  induction y with
  |next=>exact dN b λG v w=>⟨ρ,_,_,w,kD,⟨a.conc.trunc l X.hid v,a.os,a.gens⟩,B⟩
  |brk=>exact b.elim|cont=>exact b.elim|ret r=>exact qs b λG v w H=>⟨ρ,_,_,H,PN a.conc l X.hid k r v,⟨a.conc.trunc l X.hid w,a.os,a.gens⟩,B⟩
 |false=>
  induction y with
  |next=>exact⟨c,d,_,b,kD,a,X⟩|brk=>exact b.elim|cont=>exact b.elim|ret r=>exact⟨c,d,_,b,r,a,X⟩
theorem wI (I:GW C a fd ps vis U)(W:fd.closure=[]) (a0:ur C fd ⟨a1,[]⟩ (ps.zip X)) (F:vs.length=ps.length) (rs:Rels ρ s.heap X vs) (st:St C ρ σ s) (hA:Room (n+3) A) (h:∀d s₁ A' E',d.scope=fd.scope->d.code=fd.code->d.qual=fd.qualname++".<locals>."->EnvRel C d vis (vs.map aE++dw r aT) ρ s₁.heap->St C ρ σ s₁->Ext [] ρ ρ s.heap s₁.heap->Room n A'->(∀b∈kX d vis,s.heap.get? b=aT)->cD (cm C.prog C.w) A' (q0 U d) (PX C [] ρ s.heap (lu tr σ.length Kk)) E' s₁):fA (cm C.prog C.w) A (eR (aK a) ⟨a1,[]⟩) (yN (PE C [] ρ s.heap Kk) Ee) s:=by
  refine hR (I 0) λo ho H a2=>V0 (I 2) λc co a3 ct a4 a5 a6 a7 a8=>?_;have a9:X.length=ps.length:=rs.len.trans F;refine(z_ (by have:=hA.1;exact fC (eO ..) this) (st.based _ _ ho a2) H (iA (I 1) st.based) ⟨c,co,a3,ct,a4,st.based _ _ a5 a8,a6,a7⟩ (I 3) (a0 _ st.based) W (λx u=>?_) (λs₁ tq q=>?_) (I 7) (I 8) (I 6))
  .obtain⟨i,R⟩:=mI (v9 (show(x.1,x.2)∈ps.zip X from u)).1
   have:=(I 12) _ ((I 13) i x.1 R);unfold fb at this;rcases Bool.or_eq_true_iff.mp this with q|q
   .exact .inl (ku q)
   .have q:fd.scope.names.lookup x.1=aE eH:=ku q
    exact .inr ⟨q,NC _ _ _ (.inl q)⟩
  .generalize g:o9 fd s.heap.objs.size a=d at q ⊢
   have k:Kp s.heap s₁.heap:=q.toInCall.keep;refine SA q.toInCall.same λaf ag J=>?_;have L:St C ρ σ s₁:=by rw[J] at k tq ⊢;exact st.keeps k tq
   have w:Ext [] ρ ρ s.heap s₁.heap:=Ext.of_all k;have m:∀b,s.heap.objs.size<=b->s.heap.get? b=aT:=λb M=>by
    induction z:s.heap.get? b with
    |none=>rfl|some o=>exact absurd (jk z) (Nat.not_lt.mpr M)
   have B:d.locals=s.heap.objs.size:=by refine ie (g ..) ?_;rfl
   have l:d.scope=fd.scope:=by refine ie (g ..) ?_;rfl
   have Z:s.heap.get? d.locals=aT:=by refine cn (B ..) ?_;exact m _ (d9 _)
   have kd:∀x,d.kindOf x=fd.scope.names.lookup x:=λx=>by unfold l9;exact cn (l ..) rfl
   have p:∀i x,(i,x)∈vis->d.kindOf x≠aE dv->d.kindOf x=aE eH/\∃c,d.cells.lookup x=aE c:=λi x u D=>by
    have:=(I 12) _ u;unfold fb at this;rw[kd] at D ⊢;rcases Bool.or_eq_true_iff.mp this with q|q
    .exact absurd (ku q) D
    .have q:fd.scope.names.lookup x=aE eH:=ku q
     exact⟨q,Option.isSome_iff_exists.mp (ie (g ..)<|cellsFrom_some _ _ _ (.inl q))⟩
   have G:∀i v,(vs.map aE++dw r (aT:Option V))[i]?=aE (aE v)->vs[i]?=aE v:=λi v h=>by
    by_cases R:i<vs.length
    .rw[jR (by simpa using R),jx] at h
     simpa using h
    .rw[lX (by simpa using ia R),Nt] at h
     split at h<;>cases h
   have t:∀i x v,(i,x)∈vis->vs[i]?=aE v->ps[i]?=aE x:=λi x v u N=>by
    have R:i<ps.length:=by refine ie (F ..) ?_;exact(List.getElem?_eq_some_iff.mp N).1
    have e:ps[i]?=aE ps[i]:=gK R;exact cn (e ..) (cn ((jN (I 11) u ((I 13) i _ e)).mp rfl ..) rfl)
   have Y:EnvRel C d vis (vs.map aE++dw r aT) ρ s₁.heap:=by
    refine⟨by refine cn (l ..) ?_;exact(I 6),by refine ie (g ..) ?_;exact(I 4),by refine ie (g ..) ?_;exact(I 5),⟨_,q.toInCall.ns,λi x u D v hM=>?_⟩,λi x u D=>?_,⟨st.conc.notab Z,Free.new st.conc Z,st.conc.nobase Z⟩,λi x c u D P=>?_,λi x j y c u hy ai aj aa ab=>?_⟩
    .have N:=G i v hM
     exact cU (rs.get N) λb M rb=>iB b (C1 D ps X _ i b (I 10) (t i x v u N) M) (rb.ext w)
    .refine dz (p i x u D) λac Q=>?_;obtain⟨c,P⟩:=Q
     refine⟨.inl ac,c,_,P,q.cell x c P,λv hM=>?_⟩;have N:=G i v hM;exact cU (rs.get N) λb M rb=>iB b (C2 D ps X _ i b (I 10) (t i x v u N) M) (rb.ext w)
    .have e:=m c (by have z:=q.above x c (mem_of_lookup P);rw[B] at z;exact eV z)
     exact n5 (st.conc.notab e) (Free.new st.conc e) (λ_=>st.conc.nobase e)
    .exact name_of_addr q.apart (mem_of_lookup aa) (mem_of_lookup ab)
   have vf:∀b∈kX d vis,s.heap.get? b=aT:=λb M=>by
    refine cU (List.mem_map.mp M) λy hy ae=>?_;subst ae;dsimp only[tB];split
    .exact Z
    .rename_i D
     refine dz (p y.1 y.2 hy D) λ_ Q=>?_;obtain⟨c,P⟩:=Q;exact cn (P ..)<|m c (by have z:=q.above y.2 c (mem_of_lookup P);rw[B] at z;exact eV z)
   exact wM (h d s₁ _ _ l (by refine ie (g ..) ?_;rfl) (by refine ie (g ..) ?_;rfl) Y L w hA.deeper vf) (λf ah q=>by have z:=GX st q;rcases f with _|_|_|_<;>exact z)
theorem wJ (I:GW C a fd ps vis c)(d:fd.closure=[]) (g:ur C fd ⟨i,[]⟩ (ps.zip l)) (e:vs.length=ps.length) (m:Rels ρ s.heap l vs) (st:St C ρ σ s) (o:Room (n+3) A) (h:∀b s₁ f j,b.scope=fd.scope->b.code=fd.code->b.qual=fd.qualname++".<locals>."->EnvRel C b vis (vs.map aE++dw r aT) ρ s₁.heap->St C ρ σ s₁->Ext [] ρ ρ s.heap s₁.heap->Room n f->cD (cm C.prog C.w) f (q0 c b) (PS C (kX b vis) b vis ρ s₁.heap (lu tr σ.length Kk)) j s₁):fA (cm C.prog C.w) A (eR (aK a) ⟨i,[]⟩) (yN (PE C [] ρ s.heap Kk) Ee) s:=wI I d g e m st o λb s₁ f j p t u R st X k v=>wM (h b s₁ f j p t u R st X k) (λ_ _ q=>q.x.drop X v)
theorem ot (I:GW C a fd ps vis d)(e:fd.closure=[]) (c:vs.length=ps.length) (f:Rels ρ s.heap g vs) (st:St C ρ σ s) (j:Room (n+3) A) (h:∀b s₁ i k,b.scope=fd.scope->b.code=fd.code->b.qual=fd.qualname++".<locals>."->EnvRel C b vis (vs.map aE++dw r aT) ρ s₁.heap->St C ρ σ s₁->Ext [] ρ ρ s.heap s₁.heap->Room n i->cD (cm C.prog C.w) i (q0 d b) (PS C (kX b vis) b vis ρ s₁.heap (lu tr σ.length Kk)) k s₁):fA (cm C.prog C.w) A (eR (aK a) ⟨g,[]⟩) (yN (PE C [] ρ s.heap Kk) Ee) s:=wJ I e ((I 9) g (f.len.trans c)) c f st j h
theorem HL (H:m5 C n Z o p)(I:FnIs C a fd ps vis b) (d:ur C fd ⟨e,[]⟩ (ps.zip i)) (c:vs.length=ps.length) (h:dp Z b (vs.map aE++dw r aT) σ (lu tr σ.length Kk)) (j:Rels ρ s.heap i vs) (st:St C ρ σ s) (k:Room (n+3) A):fA (cm C.prog C.w) A (eR (aK a) ⟨e,[]⟩) (yN (PE C [] ρ s.heap Kk) Ee) s:=wJ I.e (I 4) d c j st k λl g q t m u v R st X f=>jz H b (by refine cn (m ..) ?_;exact(I 15)) (I 12) R st f h
theorem gH (H:m5 C n Z l m)(I:FnIs C a fd ps vis b) (c:vs.length=ps.length) (h:dp Z b (vs.map aE++dw r aT) σ (lu tr σ.length Kk)) (f:Rels ρ s.heap g vs) (st:St C ρ σ s) (i:Room (n+3) A):fA (cm C.prog C.w) A (eR (aK a) ⟨g,[]⟩) (yN (PE C [] ρ s.heap Kk) Ee) s:=ot I.e (I 4) c f st i λj e o p k q t R st X d=>jz H b (by refine cn (k ..) ?_;exact(I 15)) (I 12) R st d h
theorem nB (I:GW C a fd ps vis w)(Y:∀x∈fd.scope.names,x.2≠eH)(B:∀y∈vis,fd.scope.names.lookup y.2=aE dv) (D:vs.length=ps.length) (rs:Rels ρ s.heap L vs) (st:St C ρ σ s) (hA:Room (n+3) A) (h:∀d s₁ Z E',d.scope=fd.scope->d.code=fd.code->d.cells=fd.closure->d.func=aE a->d.qual=fd.qualname++".<locals>."->EnvRel C d vis (vs.map aE++dw r aT) ρ s₁.heap->St C ρ σ s₁->Ext [] ρ ρ s.heap s₁.heap->Room n Z->(∃M:et,Z=M.deeper d)->Po (cm C.prog C.w) Z (.func w d) (q0 w d) (PS C (kX d vis) d vis ρ s₁.heap (lu tr σ.length Kk)) E' s₁):fA (cm C.prog C.w) A (eR (aK a) ⟨L,[]⟩) (yN (PE C [] ρ s.heap Kk) Ee) s:=by
 refine hR (I 0) λo ho G a0=>V0 (I 2) λc co a1 ct a2 a3 a4 a5 a6=>?_;have H:L.length=ps.length:=rs.len.trans D;refine NI (by have:=hA.1;exact gG (iP 0x1c22c29b1a09010e0111 rfl this)) (st.based _ _ ho a0) G (I 7) (I 8) (I 3) ⟨c,co,a1,ct,a2,st.based _ _ a3 a6,a4,a5⟩ <|(I 9) L H _ st.based _ _ _ _ (NQ Y (λx m=>?_) (λQ a7 a8=>?_) (I 6))
 .obtain⟨i,J⟩:=mI (v9 (show(x.1,x.2)∈ps.zip L from m)).1
  exact B _ ((I 13) i x.1 J)
 .generalize g:newEnv fd.scope s.heap.objs.size fd.globals fd.closure (fd.qualname++".<locals>.") (aE a) fd.code aT fd.builtins=d
  revert d;refine Jj ?_;set_option tactic.hygienic false in intros
  have k:Kp s.heap Q:=λb o e=>(a8.2 b (jI (jk e))).trans (dK _ e);have p:St C ρ σ {s with heap:=Q,toks:=s.toks+(ps.zip L).length}:=st.keeps k (eO ..);have t:Ext [] ρ ρ s.heap Q:=Ext.of_all k;refine⟨iA (I 1) p.based,ks_codeAny_funcAt ?_⟩;have F:d.locals=s.heap.objs.size:=by refine ie (g ..) ?_;rfl
  have l:d.scope=fd.scope:=by refine ie (g ..) ?_;rfl
  have R:s.heap.get? d.locals=aT:=by
   refine cn (F ..) ?_;induction z:s.heap.get? s.heap.objs.size with
   |none=>rfl|some o=>exact absurd (jk z) (iC _)
  have kd:∀x,d.kindOf x=fd.scope.names.lookup x:=λx=>by unfold l9;exact cn (l ..) rfl
  have N:∀i v,(vs.map aE++dw r (aT:Option V))[i]?=aE (aE v)->vs[i]?=aE v:=λi v h=>by
   by_cases J:i<vs.length
   .rw[jR (by simpa using J),jx] at h
    simpa using h
   .rw[lX (by simpa using ia J),Nt] at h
    split at h<;>cases h
  have u:∀i x v,(i,x)∈vis->vs[i]?=aE v->ps[i]?=aE x:=λi x v m U=>by
   have J:i<ps.length:=by refine ie (D ..) ?_;exact(List.getElem?_eq_some_iff.mp U).1
   have e:ps[i]?=aE ps[i]:=gK J;exact cn (e ..) (cn ((jN (I 11) m ((I 13) i _ e)).mp rfl ..) rfl)
  have W:∀i x,(i,x)∈vis->d.kindOf x=aE dv:=λi x m=>by refine cn (kd ..) ?_;exact B _ m
  have P:EnvRel C d vis (vs.map aE++dw r aT) ρ Q:=by
   refine⟨by refine cn (l ..) ?_;exact(I 6),by refine ie (g ..) ?_;exact(I 4),by refine ie (g ..) ?_;exact(I 5),⟨_,by refine cn (F ..) ?_;exact a7,λi x m X v hM=>?_⟩,λi x m X=>absurd (W i x m) X,⟨st.conc.notab R,Free.new st.conc R,st.conc.nobase R⟩,λi x c m X hc=>absurd (W i x m) X,λi x j y c m hy a9 ac ae af=>absurd (W i x m) a9⟩
   have U:=N i v hM;exact cU (rs.get U) λb hb rb=>⟨b,wH (I 10) (u i x v m U) hb,rb.ext t⟩
  have vf:∀b∈kX d vis,s.heap.get? b=aT:=λb hb=>by refine cU (List.mem_map.mp hb) λy hy aa=>?_;subst aa;dsimp only[tB];refine cn (if_pos (W y.1 y.2 hy) ..) ?_;exact R
  exact Br (h d _ _ _ l (by refine ie (g ..) ?_;rfl) (by refine ie (g ..) ?_;rfl) (by refine ie (g ..) ?_;rfl) (by refine ie (g ..) ?_;rfl) P p t hA.deeper ⟨A,rfl⟩) (λf ab q=>by have z:=GX st (q.x.drop t vf);rcases f with _|_|_|_<;>exact z) λ_ _=>id
noncomputable section
noncomputable abbrev JX:List eQ:=PySem.Challenge.pw_tr0060_01.main.body
noncomputable abbrev vT (l:List eQ)(i:Nat):eQ:=(l.drop i).headD (.Pass (pp 0))
noncomputable abbrev Vy:eQ->Str×Gg×List eQ×List eQ×Scope
 |.FunctionDef n a b _ _ _ s ..=>(n,a,b,[],s)|.ClassDef _ _ _ b ..=>("",default,b,[],default)|.For _ _ b ..=>("",default,b,[],default)|.If _ b e ..=>("",default,b,e,default)|_=>("",default,[],[],default)
noncomputable abbrev Y_ (s:eQ):Str:=(Vy s).1
noncomputable abbrev Z0 (s:eQ):Gg:=(Vy s).2.1
noncomputable abbrev qh (s:eQ):List eQ:=(Vy s).2.2.1
noncomputable abbrev XJ (s:eQ):List eQ:=(Vy s).2.2.2.1
noncomputable abbrev S8 (s:eQ):Scope:=(Vy s).2.2.2.2
noncomputable abbrev iS (i:Nat):eQ:=vT JX i
noncomputable abbrev eX (i j:Nat):eQ:=vT (qh (vT JX i)) j
noncomputable abbrev wK (b:S)(l:eQ)(_:b.back=l):S:=b
noncomputable abbrev ou (b:Ss)(l:List eQ)(_:b.back=l):Ss:=b
noncomputable def C3:List (Nat×Str):=[(0,"self"),(1,"headerlen"),(2,"maxlen"),(3,"continuation_ws"),(4,"splitchars")]
noncomputable def A0:Ss:=ou
 (bS (iI (aS 0 _ _) 0 _ (aS 2 _ _) _)
 (bS (iI (aS 0 _ _) 1 _ (aS 3 _ _) _)
 (bS (iI (aS 0 _ _) 2 _ (di 0 _ (bE (aS 3 _ _) bV) _) _)
 (bS (iI (aS 0 _ _) 3 _ (aS 4 _ _) _)
 (bS (iI (aS 0 _ _) 4 _ (dM bK bV _) _)
 (bS (iI (aS 0 _ _) 5 _ (di 9 _ (bE (aS 1 _ _) bV) _) _)
 cy)))))) (qh (eX 4 0)) rfl
noncomputable def DQ:List (Nat×Str):=[(0,"self"),(1,"linesep")]
noncomputable def C4:Ss:=ou
 (bS (gD (dY (aS 0 _ _) 19 _ bV _) _)
 (bS (dT (dY (aS 1 _ _) 22 _ (bE (dZ (aS 0 _ _) 4 _) bV) _) _)
 cy)) (qh (eX 4 1)) rfl
noncomputable def wL:List (Nat×Str):=[(0,"self"),(1,"end_of_line")]
noncomputable def body_vf_newline:Ss:=ou
 (bS (cR (cJ 1 _ _) (dY (dZ (aS 0 _ _) 5 _) 13 _ bV _) _)
 (bS (dA (dx _ (aS 1 _ _) (dO (bE (bO _ _ _) (bE (bO _ _ _) bV)) 0 _) _) (bS (gD (.starm (dZ (aS 0 _ _) 5 _) 14 _ (aS 1 _ _) _ _) _)
 cy) cy _)
 (bS (dA (dx _ (di 0 _ (bE (dZ (aS 0 _ _) 5 _) bV) _) (bO _ _ _) _) (bS (dA (mi _ (jf (dY (dZ (aS 0 _ _) 5 _) 17 _ bV _)) (jf (dZ (aS 0 _ _) 4 _)) _) (bS (.stop (.AugAssign (u9 (E.back (dZ (aS 0 _ _) 4 _)) (E.back (gB (bO _ _ _) _)) _) eL (E.back (di 7 _ (bE (dZ (aS 0 _ _) 5 _) bV) _)) _))
 cy) (bS (gD (dY (dZ (aS 0 _ _) 4 _) 12 _ (bE (di 7 _ (bE (dZ (aS 0 _ _) 5 _) bV) _) bV) _) _)
 cy) _)
 cy) cy _)
 (bS (gD (dY (dZ (aS 0 _ _) 5 _) 16 _ bV _) _)
 cy)))) (qh (eX 4 3)) rfl
noncomputable def A1:List (Nat×Str):=[(0,"self"),(1,"fws"),(2,"string"),(3,"ch"),(4,"i"),(5,"prevpart"),(6,"part"),(7,"remainder")]
noncomputable def body_vf_chunk:Ss:=ou
 (bS (gD (dY (dZ (aS 0 _ _) 5 _) 14 _ (bE (aS 1 _ _) (bE (aS 2 _ _) bV)) _) _)
 (bS (dA (dx _ (di 0 _ (bE (dZ (aS 0 _ _) 5 _) bV) _) (dZ (aS 0 _ _) 0 _) _) (bS (gT (cJ 3 _ _) (.val (dZ (aS 0 _ _) 3 _)) (bS (gT (cJ 4 _ _) (kB _ (bE (cA _ (dY (dZ (aS 0 _ _) 5 _) 18 _ bV _) (bO _ _ _) _) (bE (bO _ _ _) (bE (gB (bO _ _ _) _) bV))) _) (bS (dA (jf (dY (aS 3 _ _) 23 _ bV _)) (bS (cR (cJ 1 _ _) (cX (cX (dZ (aS 0 _ _) 5 _) (aS 4 _ _) _) (bO _ _ _) _) _)
 (bS (dA (mi _ (jf (aS 1 _ _)) (dx _ (cX (aS 1 _ _) (bO _ _ _) _) (aS 3 _ _) _) _) (bS (rV _)
 cy) cy _)
 cy)) cy _)
 (bS (cR (cJ 5 _ _) (cX (cX (dZ (aS 0 _ _) 5 _) (cA _ (aS 4 _ _) (bO _ _ _) _) _) (bO _ _ _) _) _)
 (bS (dA (mi _ (jf (aS 5 _ _)) (dx _ (cX (aS 5 _ _) (gB (bO _ _ _) _) _) (aS 3 _ _) _) _) (bS (rV _)
 cy) cy _)
 cy))) (bS (u6 _)
 cy) _)
 (bS (rV _)
 cy)) (bS (cR (dS [(1,"fws",_),(6,"part",_)] 0 _) (dY (dZ (aS 0 _ _) 5 _) 13 _ bV _) _)
 (bS (dA (dx _ (dZ (dZ (aS 0 _ _) 5 _) 6 _) (bO _ _ _) _) (bS (gD (dY (aS 0 _ _) 19 _ bV _) _)
 (bS (dA (.nt (jf (aS 1 _ _)) _) (bS (cR (cJ 1 _ _) (bO _ _ _) _)
 cy) cy _)
 cy)) cy _)
 (bS (gD (dY (dZ (aS 0 _ _) 5 _) 14 _ (bE (aS 1 _ _) (bE (aS 6 _ _) bV)) _) _)
 (bS (u5 _)
 cy)))) _)
 (bS (cR (cJ 7 _ _) (dY (dZ (aS 0 _ _) 5 _) 15 _ (bE (aS 4 _ _) bV) _) _)
 (bS (gD (dY (dZ (aS 0 _ _) 4 _) 12 _ (bE (di 7 _ (bE (dZ (aS 0 _ _) 5 _) bV) _) bV) _) _)
 (bS (gD (dY (dZ (aS 0 _ _) 5 _) 16 _ (bE (aS 7 _ _) bV) _) _)
 cy)))) cy _)
 cy)) (qh (eX 4 8)) rfl
noncomputable def C5:List (Nat×Str):=[(0,"self"),(1,"fws"),(2,"string")]
noncomputable def A2:Ss:=ou
 (bS (gD (dY (aS 0 _ _) 12 _ (bE (dO (bE (aS 1 _ _) (bE (aS 2 _ _) bV)) 0 _) bV) _) _)
 cy) (qh (eX 5 1)) rfl
noncomputable def wN:List (Nat×Str):=[(0,"self"),(1,"i"),(2,"popped")]
noncomputable def vU:Ss:=ou
 (bS (cR (cJ 2 _ _) (gP cu (aS 0 _ _) (bE (aS 1 _ _) bV) bV bV _ _) _)
 (bS (u4 (aS 0 _ _) (bE (aS 1 _ _) bV) _ _ (dM cu bV _) _)
 (bS (dT (aS 2 _ _) _)
 cy))) (qh (eX 5 2)) rfl
noncomputable def A3:List (Nat×Str):=[(0,"self"),(1,"startval")]
noncomputable def yQ:Ss:=ou
 (bS (dA (dx _ (aS 1 _ _) (bO _ _ _) _) (bS (cR (cJ 1 _ _) (dM cu bV _) _)
 cy) cy _)
 (bS (u4 (aS 0 _ _) bV _ _ (aS 1 _ _) _)
 (bS (iI (aS 0 _ _) 6 _ (bO _ _ _) _)
 cy))) (qh (eX 5 6)) rfl
noncomputable def HM:List (Nat×Str):=[(0,"self")]
noncomputable def DR:Ss:=ou
 (bS (dT (mh _ (gh _ (dZ (aS 0 _ _) 6 _) (bO _ _ _) _) (mh _ (.nt (aS 0 _ _) _) (dY (di 7 _ (bE (aS 0 _ _) bV) _) 23 _ bV _) _) _) _)
 cy) (qh (eX 5 7)) rfl
noncomputable def PO:List (Nat×Str):=[(0,"r"),(1,"g"),(2,"b"),(3,"maxc"),(4,"minc"),(5,"rangec"),(6,"v"),(7,"s"),(8,"rc"),(9,"gc"),(10,"bc"),(11,"h")]
noncomputable def body_rgb:Ss:=ou
 (bS (cR (cJ 3 _ _) (di 5 _ (bE (aS 0 _ _) (bE (aS 1 _ _) (bE (aS 2 _ _) bV))) _) _)
 (bS (cR (cJ 4 _ _) (di 6 _ (bE (aS 0 _ _) (bE (aS 1 _ _) (bE (aS 2 _ _) bV))) _) _)
 (bS (cR (cJ 5 _ _) (cA _ (aS 3 _ _) (aS 4 _ _) _) _)
 (bS (cR (cJ 6 _ _) (aS 3 _ _) _)
 (bS (dA (dx _ (aS 4 _ _) (aS 3 _ _) _) (bS (dT (dO (bE (bO _ _ _) (bE (bO _ _ _) (bE (aS 6 _ _) bV))) 0 _) _)
 cy) cy _)
 (bS (cR (cJ 7 _ _) (cA _ (aS 5 _ _) (aS 3 _ _) _) _)
 (bS (cR (cJ 8 _ _) (cA _ (cA _ (aS 3 _ _) (aS 0 _ _) _) (aS 5 _ _) _) _)
 (bS (cR (cJ 9 _ _) (cA _ (cA _ (aS 3 _ _) (aS 1 _ _) _) (aS 5 _ _) _) _)
 (bS (cR (cJ 10 _ _) (cA _ (cA _ (aS 3 _ _) (aS 2 _ _) _) (aS 5 _ _) _) _)
 (bS (dA (dx _ (aS 0 _ _) (aS 3 _ _) _) (bS (cR (cJ 11 _ _) (cA _ (aS 10 _ _) (aS 9 _ _) _) _)
 cy) (bS (dA (dx _ (aS 1 _ _) (aS 3 _ _) _) (bS (cR (cJ 11 _ _) (cA _ (cA _ (bO _ _ _) (aS 8 _ _) _) (aS 10 _ _) _) _)
 cy) (bS (cR (cJ 11 _ _) (cA _ (cA _ (bO _ _ _) (aS 9 _ _) _) (aS 8 _ _) _) _)
 cy) _)
 cy) _)
 (bS (cR (cJ 11 _ _) (cA _ (cA _ (aS 11 _ _) (bO _ _ _) _) (bO _ _ _) _) _)
 (bS (dT (dO (bE (aS 11 _ _) (bE (aS 7 _ _) (bE (aS 6 _ _) bV))) 0 _) _)
 cy)))))))))))) (qh (iS 7)) rfl
noncomputable def PR:List (Nat×Str):=[(0,"h"),(1,"s"),(2,"v"),(3,"i"),(4,"f"),(5,"p"),(6,"q"),(7,"t")]
noncomputable def body_hsv:Ss:=ou
 (bS (dA (dx _ (aS 1 _ _) (bO _ _ _) _) (bS (dT (dO (bE (aS 2 _ _) (bE (aS 2 _ _) (bE (aS 2 _ _) bV))) 0 _) _)
 cy) cy _)
 (bS (cR (cJ 3 _ _) (di 3 _ (bE (cA _ (aS 0 _ _) (bO _ _ _) _) bV) _) _)
 (bS (cR (cJ 4 _ _) (cA _ (cA _ (aS 0 _ _) (bO _ _ _) _) (aS 3 _ _) _) _)
 (bS (cR (cJ 5 _ _) (cA _ (aS 2 _ _) (cA _ (bO _ _ _) (aS 1 _ _) _) _) _)
 (bS (cR (cJ 6 _ _) (cA _ (aS 2 _ _) (cA _ (bO _ _ _) (cA _ (aS 1 _ _) (aS 4 _ _) _) _) _) _)
 (bS (cR (cJ 7 _ _) (cA _ (aS 2 _ _) (cA _ (bO _ _ _) (cA _ (aS 1 _ _) (cA _ (bO _ _ _) (aS 4 _ _) _) _) _) _) _)
 (bS (cR (cJ 3 _ _) (cA _ (aS 3 _ _) (bO _ _ _) _) _)
 (bS (dA (dx _ (aS 3 _ _) (bO _ _ _) _) (bS (dT (dO (bE (aS 2 _ _) (bE (aS 7 _ _) (bE (aS 5 _ _) bV))) 0 _) _)
 cy) cy _)
 (bS (dA (dx _ (aS 3 _ _) (bO _ _ _) _) (bS (dT (dO (bE (aS 6 _ _) (bE (aS 2 _ _) (bE (aS 5 _ _) bV))) 0 _) _)
 cy) cy _)
 (bS (dA (dx _ (aS 3 _ _) (bO _ _ _) _) (bS (dT (dO (bE (aS 5 _ _) (bE (aS 2 _ _) (bE (aS 7 _ _) bV))) 0 _) _)
 cy) cy _)
 (bS (dA (dx _ (aS 3 _ _) (bO _ _ _) _) (bS (dT (dO (bE (aS 5 _ _) (bE (aS 6 _ _) (bE (aS 2 _ _) bV))) 0 _) _)
 cy) cy _)
 (bS (dA (dx _ (aS 3 _ _) (bO _ _ _) _) (bS (dT (dO (bE (aS 7 _ _) (bE (aS 5 _ _) (bE (aS 2 _ _) bV))) 0 _) _)
 cy) cy _)
 (bS (dA (dx _ (aS 3 _ _) (bO _ _ _) _) (bS (dT (dO (bE (aS 2 _ _) (bE (aS 5 _ _) (bE (aS 6 _ _) bV))) 0 _) _)
 cy) cy _)
 cy))))))))))))) (qh (iS 8)) rfl
noncomputable def C6:List (Nat×Str):=[(0,"self"),(1,"fp")]
noncomputable def A4:Ss:=ou
 (bS (iI (aS 0 _ _) 7 _ (bO _ _ _) _)
 (bS (iI (aS 0 _ _) 8 _ (aS 1 _ _) _)
 (bS (iI (aS 0 _ _) 9 _ (bO _ _ _) _)
 (bS (iI (aS 0 _ _) 10 _ (dM bK bV _) _)
 cy)))) (qh (eX 10 0)) rfl
noncomputable def C7:List (Nat×Str):=[(0,"number"),(1,"k"),(2,"before"),(3,"letters"),(4,"last"),(5,"word"),(6,"form"),(7,"text"),(8,"white")]
noncomputable def body_element:Ss:=ou
 (bS (cR (dS [(3,"letters",_),(4,"last",_)] 0 _) (dO (bE (cA _ (cX (bO _ _ _) (aS 1 _ _) _) (cA _ (bO _ _ _) (cA _ (cA _ (aS 0 _ _) (bO _ _ _) _) (bO _ _ _) _) _) _) (bE (cX (dM cu (bE (bO _ _ _) (bE (bO _ _ _) (bE (bO _ _ _) (bE (bO _ _ _) bV)))) _) (cA _ (cA _ (aS 0 _ _) (bO _ _ _) _) (bO _ _ _) _) _) bV)) 0 _) _)
 (bS (cR (cJ 5 _ _) (cA _ (cA _ (cX (dM cu (bE (bO _ _ _) (bE (bO _ _ _) (bE (bO _ _ _) (bE (bO _ _ _) bV)))) _) (cA _ (aS 0 _ _) (bO _ _ _) _) _) (aS 3 _ _) _) (aS 4 _ _) _) _)
 (bS (cR (cJ 6 _ _) (cA _ (cA _ (aS 0 _ _) (bO _ _ _) _) (bO _ _ _) _) _)
 (bS (cR (cJ 7 _ _) (dY (bO _ _ _) 22 _ (bE (eS (nq (mi _ (dx _ (aS 6 _ _) (bO _ _ _) _) (dx _ (aS 9 _ _) (gP cu (bO _ _ _) bV (bE (cA _ (bO _ _ _) (cA _ (bO _ _ _) (aS 6 _ _) _) _) bV) bV _ _) _) _) (cA _ (bO _ _ _) (aS 9 _ _) _) (aS 9 _ _) _) (cJ 9 _ _) (.val (aS 5 _ _)) .nil _ [(9,"sign"),(6,"form")] [9] _) bV) _) _)
 (bS (cR (cJ 8 _ _) (mh _ (cX (dM cu (bE (bO _ _ _) (bE (bO _ _ _) (bE (bO _ _ _) (bE (bO _ _ _) bV)))) _) (cA _ (cA _ (aS 0 _ _) (bO _ _ _) _) (bO _ _ _) _) _) (cA _ (bO _ _ _) (di 3 _ (bE (mh _ (gh _ (aS 2 _ _) (bO _ _ _) _) (gh _ (cX (aS 2 _ _) (gB (bO _ _ _) _) _) (bO _ _ _) _) _) bV) _) _) _) _)
 (bS (dT (dO (bE (aS 8 _ _) (bE (nq (dx _ (aS 6 _ _) (bO _ _ _) _) (cA _ (cA _ (bO _ _ _) (aS 7 _ _) _) (bO _ _ _) _) (aS 7 _ _) _) (bE (aS 5 _ _) bV))) 0 _) _)
 cy)))))) (qh (iS 13)) rfl
noncomputable def HN:List (Nat×Str):=[(0,"part")]
noncomputable def DS:Ss:=ou
 (bS (dT (di 1 _ (bE (eS (di 0 _ (bE (cA _ (aS 1 _ _) (aS 2 _ _) _) bV) _) (dS [(1,"white",_),(2,"text",_),(3,"word",_)] 0 _) (.val (aS 0 _ _)) .nil _ [(1,"white"),(2,"text"),(3,"word")] [1,2,3] _) bV) _) _)
 cy) (qh (iS 14)) rfl
noncomputable def HO:List (Nat×Str):=[(0,"words"),(1,"title"),(2,"order"),(3,"room"),(4,"places"),(5,"parts"),(6,"cuts"),(7,"begin"),(8,"end")]
noncomputable def body_parts:Ss:=ou
 (bS (cR (cJ 4 _ _) (eS (eS (aS 10 _ _) (cJ 10 _ _) (kB _ (bE (bO _ _ _) (bE (bO _ _ _) bV)) _) (.one (dx _ (aS 9 _ _) (cA _ (gP cu (cX (cX (aS 0 _ _) (aS 10 _ _) _) (bO _ _ _) _) bV (bE (bO _ _ _) bV) bV _ _) (cX (cX (cX (aS 0 _ _) (cA _ (aS 10 _ _) (bO _ _ _) _) _) (bO _ _ _) _) (gB (bO _ _ _) _) _) _) _)) _ [(10,"k"),(9,"sign"),(0,"words")] [10] _) (cJ 9 _ _) (.val (aS 2 _ _)) .nil _ [(9,"sign"),(0,"words")] [9] _) _)
 (bS (cR (cJ 4 _ _) (cA _ (eS (aS 11 _ _) (cJ 11 _ _) (.val (aS 4 _ _)) (.one (dx _ (aS 11 _ _) (dM cu bV _) _)) _ [(11,"spots")] [11] _) (dM cu (bE (dM cu bV _) bV) _) _) _)
 (bS (cR (dS [(5,"parts",_),(6,"cuts",_)] 0 _) (dO (bE (dM bK (bE (dM cu (bE (dO (bE (bO _ _ _) (bE (cA _ (aS 1 _ _) (cA _ (bO _ _ _) (di 3 _ (bE (gh _ (cX (cX (aS 0 _ _) (bO _ _ _) _) (bO _ _ _) _) (bO _ _ _) _) bV) _) _) _) (bE (aS 1 _ _) bV))) 0 _) bV) _) bV) _) (bE (cA _ (cA _ (dM cu (bE (bO _ _ _) bV) _) (cX (aS 4 _ _) (bO _ _ _) _) _) (dM cu (bE (bO _ _ _) bV) _) _) bV)) 0 _) _)
 (bS (gT (dS [(7,"begin",_),(8,"end",_)] 0 _) (qc _ (aS 6 _ _) (gP cu (aS 6 _ _) (bE (bO _ _ _) bV) bV bV _ _) _) (bS (gD (dY (aS 5 _ _) 12 _ (bE (gP cu (aS 0 _ _) (bE (aS 7 _ _) bV) (bE (aS 8 _ _) bV) bV _ _) bV) _) _)
 (bS (dA (dx _ (eS (aS 12 _ _) (cJ 12 _ _) (.val (gP cu (aS 4 _ _) (bE (bO _ _ _) bV) bV bV _ _)) (.one (dx _ (eS (aS 13 _ _) (cJ 13 _ _) (.val (aS 12 _ _)) (.one (rS _ _ (aS 7 _ _) (aS 13 _ _) (aS 8 _ _) _)) _ [(13,"k"),(7,"begin"),(8,"end")] [13] _) (dM cu bV _) _)) _ [(12,"spots"),(7,"begin"),(8,"end")] [12] _) (dM cu bV _) _) (bS (cR (cJ 3 _ _) (di 5 _ (bE (aS 3 _ _) (bE (di 14 _ (bE (cA _ (cA _ (cX (aS 5 _ _) (bO _ _ _) _) (di 3 _ (bE (gh _ (aS 7 _ _) (bO _ _ _) _) bV) _) _) (cX (aS 5 _ _) (gB (bO _ _ _) _) _) _) bV) _) bV)) _) _)
 cy) cy _)
 cy)) cy _)
 (bS (rU (rS _ _ (di 14 _ (bE (cA _ (cX (aS 5 _ _) (bO _ _ _) _) (cX (aS 5 _ _) (bO _ _ _) _) _) bV) _) (aS 3 _ _) (di 14 _ (bE (cA _ (cX (aS 5 _ _) (bO _ _ _) _) (gP cu (cX (aS 5 _ _) (bO _ _ _) _) bV (bE (bO _ _ _) bV) bV _ _) _) bV) _) _) (bS (cR (cJ 5 _ _) (cA _ (dM cu (bE (cA _ (cX (aS 5 _ _) (bO _ _ _) _) (gP cu (cX (aS 5 _ _) (bO _ _ _) _) bV (bE (bO _ _ _) bV) bV _ _) _) (bE (gP cu (cX (aS 5 _ _) (bO _ _ _) _) (bE (bO _ _ _) bV) bV bV _ _) bV)) _) (gP cu (aS 5 _ _) (bE (bO _ _ _) bV) bV bV _ _) _) _)
 cy) _)
 (bS (dT (dO (bE (aS 5 _ _) (bE (aS 3 _ _) bV)) 0 _) _)
 cy)))))) (qh (iS 15)) rfl
noncomputable def DT:List (Nat×Str):=[(0,"parts"),(1,"start"),(2,"setting"),(3,"width"),(4,"order"),(5,"mark"),(6,"head"),(7,"maker"),(8,"rows"),(9,"row"),(10,"used"),(11,"due"),(12,"k"),(13,"white"),(14,"text"),(15,"word"),(16,"lay"),(17,"page"),(18,"left"),(19,"lexer"),(20,"part"),(21,"read")]
noncomputable def body_folded:Ss:=ou
 (bS (cR (dS [(3,"width",_),(4,"order",_),(5,"mark",_)] 0 _) (aS 2 _ _) _)
 (bS (cR (cJ 6 _ _) (cA _ (cX (cX (cX (aS 0 _ _) (bO _ _ _) _) (bO _ _ _) _) (bO _ _ _) _) (di 3 _ (bE (gh _ (aS 1 _ _) (bO _ _ _) _) bV) _) _) _)
 (bS (cR (cJ 7 _ _) (di 10 _ (bE (di 0 _ (bE (aS 6 _ _) bV) _) (bE (aS 3 _ _) (bE (bO _ _ _) (bE (aS 4 _ _) bV)))) _) _)
 (bS (cR (dS [(8,"rows",_),(9,"row",_),(10,"used",_),(11,"due",_)] 0 _) (dO (bE (dM bK bV _) (bE (bO _ _ _) (bE (bO _ _ _) (bE (bO _ _ _) bV)))) 0 _) _)
 (bS (gT (cJ 12 _ _) (kB _ (bE (aS 1 _ _) (bE (di 0 _ (bE (aS 0 _ _) bV) _) bV)) _) (bS (cR (cJ 16 _ _) (dY (bO _ _ _) 22 _ (bE (eS (cA _ (aS 22 _ _) (aS 23 _ _) _) (dS [(22,"white",_),(23,"text",_),(24,"word",_)] 0 _) (.val (cX (aS 0 _ _) (aS 12 _ _) _)) .nil _ [(22,"white"),(23,"text"),(24,"word")] [22,23,24] _) bV) _) _)
 (bS (dA (mi _ (dx _ (aS 12 _ _) (aS 1 _ _) _) (dx _ (cA _ (aS 10 _ _) (di 0 _ (bE (aS 16 _ _) bV) _) _) (aS 3 _ _) _) _) (bS (cR (cJ 16 _ _) (cA _ (cA _ (bO _ _ _) (di 3 _ (bE (mh _ (gh _ (aS 12 _ _) (bO _ _ _) _) (gh _ (cX (cX (cX (aS 0 _ _) (bO _ _ _) _) (bO _ _ _) _) (bO _ _ _) _) (bO _ _ _) _) _) bV) _) _) (aS 16 _ _) _) _)
 (bS (cR (dS [(9,"row",_),(10,"used",_),(11,"due",_)] 0 _) (dO (bE (cA _ (aS 9 _ _) (bO _ _ _) _) (bE (bO _ _ _) (bE (cA _ (aS 11 _ _) (aS 5 _ _) _) bV))) 0 _) _)
 cy)) cy _)
 (bS (gD (dY (aS 8 _ _) 12 _ (bE (aS 9 _ _) bV) _) _)
 (bS (cR (dS [(10,"used",_),(11,"due",_)] 0 _) (dO (bE (cA _ (aS 10 _ _) (di 0 _ (bE (aS 16 _ _) bV) _) _) (bE (cA _ (aS 11 _ _) (aS 16 _ _) _) bV)) 0 _) _)
 (bS (gT (dS [(13,"white",_),(14,"text",_),(15,"word",_)] 0 _) (.val (cX (aS 0 _ _) (aS 12 _ _) _)) (bS (dA (dx _ (cX (aS 15 _ _) (bO _ _ _) _) (bO _ _ _) _) (bS (gD (dY (aS 7 _ _) 21 _ (bE (aS 13 _ _) (bE (aS 14 _ _) bV)) _) _)
 cy) cy _)
 cy) cy _)
 cy))))) cy _)
 (bS (cR (cJ 17 _ _) (cA _ (aS 6 _ _) (dY (aS 7 _ _) 20 _ (bE (aS 5 _ _) bV) _) _) _)
 (bS (dA (mi _ (dx _ (aS 17 _ _) (aS 11 _ _) _) (dx _ (cA _ (aS 6 _ _) (dY (aS 7 _ _) 20 _ (bE (aS 5 _ _) bV) _) _) (aS 11 _ _) _) _) (bS (dT (dM cu bV _) _)
 cy) cy _)
 (bS (cR (cJ 18 _ _) (gP bK (di 4 _ (bE (aS 17 _ _) bV) _) bV bV (bE (gB (bO _ _ _) _) bV) _ _) _)
 (bS (cR (cJ 19 _ _) (di 12 _ (bE (aS 18 _ _) bV) _) _)
 (bS (gT (dS [(20,"part",_),(9,"row",_)] 0 _) (qc _ (gP cu (aS 0 _ _) (bE (aS 1 _ _) bV) bV bV _ _) (aS 8 _ _) _) (bS (gT (dS [(13,"white",_),(14,"text",_),(15,"word",_)] 0 _) (.val (aS 20 _ _)) (bS (cR (cJ 21 _ _) (dY (aS 19 _ _) 25 _ bV _) _)
 (bS (dA (dx _ (dM cu (bE (aS 21 _ _) (bE (cA _ (dZ (aS 19 _ _) 7 _) (di 3 _ (bE (mh _ (gh _ (cX (aS 14 _ _) (gB (bO _ _ _) _) _) (bO _ _ _) _) (gh _ (cX (aS 17 _ _) (cA _ (cA _ (di 0 _ (bE (aS 17 _ _) bV) _) (di 0 _ (bE (aS 18 _ _) bV) _) _) (bO _ _ _) _) _) (bO _ _ _) _) _) bV) _) _) bV)) _) (dM cu (bE (aS 15 _ _) (bE (aS 9 _ _) bV)) _) _) (bS (dT (dM cu bV _) _)
 cy) cy _)
 cy)) cy _)
 cy) cy _)
 (bS (dT (nq (dx _ (dY (aS 19 _ _) 25 _ bV _) (bO _ _ _) _) (aS 8 _ _) (dM cu bV _) _) _)
 cy))))))))))) (qh (iS 16)) rfl
noncomputable def HP:List (Nat×Str):=[(0,"parts"),(1,"start"),(2,"setting"),(3,"stops"),(4,"rows")]
noncomputable def DU:Ss:=ou
 (bS (cR (cJ 3 _ _) (dM bK (bE (aS 1 _ _) bV) _) _)
 (bS (rU (dx _ (cX (aS 3 _ _) (gB (bO _ _ _) _) _) (di 0 _ (bE (aS 0 _ _) bV) _) _) (bS (cR (cJ 4 _ _) (di 16 _ (bE (aS 0 _ _) (bE (cX (aS 3 _ _) (gB (bO _ _ _) _) _) (bE (aS 2 _ _) bV))) _) _)
 (bS (dA (mi _ (dx _ (aS 4 _ _) (dM cu bV _) _) (dx _ (cX (aS 4 _ _) (gB (bO _ _ _) _) _) (bO _ _ _) _) _) (bS (dT (nq (dx _ (aS 4 _ _) (dM cu bV _) _) (aS 3 _ _) (dM cu bV _) _) _)
 cy) cy _)
 (bS (gD (dY (aS 3 _ _) 12 _ (bE (cA _ (cA _ (cX (aS 3 _ _) (gB (bO _ _ _) _) _) (dY (aS 4 _ _) 24 _ (bE (bO _ _ _) bV) _) _) (bO _ _ _) _) bV) _) _)
 cy))) _)
 (bS (dT (aS 3 _ _) _)
 cy))) (qh (iS 17)) rfl
noncomputable def DV:List (Nat×Str):=[(0,"sizes"),(1,"width"),(2,"paint"),(3,"sign"),(4,"tint"),(5,"share"),(6,"value"),(7,"mix"),(8,"ways"),(9,"choice"),(10,"used"),(11,"rows"),(12,"fits"),(13,"k"),(14,"colour"),(15,"told"),(16,"back"),(17,"most"),(18,"due")]
noncomputable def body_agrees:Ss:=ou
 (bS (cR (dS [(4,"tint",_),(5,"share",_),(6,"value",_)] 0 _) (aS 2 _ _) _)
 (bS (cR (dS [(7,"mix",_),(8,"ways",_)] 0 _) (dO (bE (dM cu (bE (bO _ _ _) (bE (bO _ _ _) (bE (bO _ _ _) bV))) _) (bE (bO _ _ _) bV)) 0 _) _)
 (bS (gT (cJ 9 _ _) (kB _ (bE (cA _ (bO _ _ _) (cA _ (di 0 _ (bE (aS 0 _ _) bV) _) (bO _ _ _) _) _) bV) _) (bS (cR (dS [(10,"used",_),(11,"rows",_),(12,"fits",_)] 0 _) (dO (bE (cX (aS 0 _ _) (bO _ _ _) _) (bE (bO _ _ _) (bE (bO _ _ _) bV))) 0 _) _)
 (bS (gT (cJ 13 _ _) (kB _ (bE (bO _ _ _) (bE (di 0 _ (bE (aS 0 _ _) bV) _) bV)) _) (bS (dA (dx _ (cA _ (cA _ (aS 9 _ _) (cA _ (bO _ _ _) (cA _ (aS 13 _ _) (bO _ _ _) _) _) _) (bO _ _ _) _) (bO _ _ _) _) (bS (cR (dS [(10,"used",_),(11,"rows",_)] 0 _) (dO (bE (cX (aS 0 _ _) (aS 13 _ _) _) (bE (cA _ (aS 11 _ _) (bO _ _ _) _) bV)) 0 _) _)
 cy) (bS (cR (cJ 10 _ _) (cA _ (aS 10 _ _) (cX (aS 0 _ _) (aS 13 _ _) _) _) _)
 (bS (cR (cJ 12 _ _) (mh _ (aS 12 _ _) (gh _ (aS 10 _ _) (aS 1 _ _) _) _) _)
 cy)) _)
 cy) cy _)
 (bS (dA (jf (aS 12 _ _)) (bS (cR (cJ 14 _ _) (di 20 _ (bE (cA _ (cA _ (aS 4 _ _) (bO _ _ _) _) (cA _ (aS 11 _ _) (bO _ _ _) _) _) (bE (aS 5 _ _) (bE (aS 6 _ _) bV))) _) _)
 (bS (cR (dS [(7,"mix",_),(8,"ways",_)] 0 _) (dO (bE (eS (cA _ (aS 19 _ _) (aS 20 _ _) _) (dS [(19,"x",_),(20,"part",_)] 0 _) (qc _ (aS 7 _ _) (aS 14 _ _) _) .nil _ [(19,"x"),(20,"part")] [19,20] _) (bE (cA _ (aS 8 _ _) (bO _ _ _) _) bV)) 0 _) _)
 cy)) cy _)
 cy))) cy _)
 (bS (cR (cJ 15 _ _) (di 19 _ (bE (cX (aS 7 _ _) (bO _ _ _) _) (bE (cX (aS 7 _ _) (bO _ _ _) _) (bE (cX (aS 7 _ _) (bO _ _ _) _) bV))) _) _)
 (bS (cR (cJ 16 _ _) (di 20 _ (bE (cA _ (cX (aS 15 _ _) (bO _ _ _) _) (bO _ _ _) _) (bE (cX (aS 15 _ _) (bO _ _ _) _) (bE (cX (aS 15 _ _) (bO _ _ _) _) bV))) _) _)
 (bS (dA (dx _ (di 0 _ (bE (eS (aS 21 _ _) (dS [(21,"x",_),(22,"part",_)] 0 _) (qc _ (aS 16 _ _) (aS 7 _ _) _) (.one (rS _ _ (gB (bO _ _ _) _) (cA _ (cA _ (aS 21 _ _) (aS 22 _ _) _) (cA _ (bO _ _ _) (bO _ _ _) _) _) (bO _ _ _) _)) _ [(21,"x"),(22,"part")] [21,22] _) bV) _) (bO _ _ _) _) (bS (dT (bO _ _ _) _)
 cy) cy _)
 (bS (cR (cJ 17 _ _) (cA _ (aS 6 _ _) (cA _ (aS 8 _ _) (cA _ (cA _ (aS 5 _ _) (cA _ (aS 8 _ _) (di 2 _ (bE (aS 3 _ _) bV) _) _) _) (bO _ _ _) _) _) _) _)
 (bS (cR (cJ 18 _ _) (nq (dx _ (aS 3 _ _) (bO _ _ _) _) (cA _ (cA _ (cA _ (aS 4 _ _) (bO _ _ _) _) (cA _ (bO _ _ _) (aS 3 _ _) _) _) (bO _ _ _) _) (bO _ _ _) _) _)
 (bS (dT (gh _ (dM cu (bE (cA _ (bO _ _ _) (cX (aS 15 _ _) (bO _ _ _) _) _) (bE (cX (aS 15 _ _) (bO _ _ _) _) (bE (cX (aS 15 _ _) (bO _ _ _) _) bV))) _) (dM cu (bE (aS 18 _ _) (bE (cA _ (cA _ (cA _ (aS 5 _ _) (aS 6 _ _) _) (di 2 _ (bE (aS 3 _ _) bV) _) _) (aS 17 _ _) _) (bE (aS 17 _ _) bV))) _) _) _)
 cy))))))))) (qh (iS 18)) rfl
noncomputable def GY:List (Nat×Str):=[(0,"script"),(1,"place"),(2,"drawn"),(3,"words"),(4,"begin"),(5,"order"),(6,"title"),(7,"ending"),(8,"parts"),(9,"room"),(10,"lay"),(11,"ahead"),(12,"behind"),(13,"paint"),(14,"wide"),(15,"more"),(16,"said")]
noncomputable def body_law:Ss:=ou
 (bS (cR (cJ 2 _ _) (eS (cA _ (cX (dM cu (bE (bO _ _ _) (bE (bO _ _ _) (bE (bO _ _ _) (bE (bO _ _ _) (bE (bO _ _ _) (bE (bO _ _ _) (bE (bO _ _ _) bV))))))) _) (aS 17 _ _) _) (di 1 _ (bE (gP cu (aS 0 _ _) (bE (aS 17 _ _) bV) bV (bE (bO _ _ _) bV) _ _) bV) _) _) (cJ 17 _ _) (kB _ (bE (bO _ _ _) bV) _) .nil _ [(17,"place"),(0,"script")] [17] _) _)
 (bS (cR (dS [(3,"words",_),(4,"begin",_)] 0 _) (dO (bE (dM bK bV _) (bE (cA _ (cX (aS 2 _ _) (bO _ _ _) _) (bO _ _ _) _) bV)) 0 _) _)
 (bS (gT (cJ 1 _ _) (kB _ (bE (bO _ _ _) bV) _) (bS (gD (dY (aS 3 _ _) 12 _ (bE (di 13 _ (bE (cX (aS 2 _ _) (aS 1 _ _) _) (bE (aS 1 _ _) (bE (nq (dx _ (aS 3 _ _) (dM cu bV _) _) (cX (cX (aS 3 _ _) (gB (bO _ _ _) _) _) (bO _ _ _) _) (bO _ _ _) _) bV))) _) bV) _) _)
 cy) cy _)
 (bS (cR (cJ 5 _ _) (gP cu (bO _ _ _) (bE (aS 4 _ _) bV) (bE (cA _ (cA _ (aS 4 _ _) (bO _ _ _) _) (cA _ (cA _ (cX (aS 2 _ _) (bO _ _ _) _) (bO _ _ _) _) (bO _ _ _) _) _) bV) bV _ _) _)
 (bS (cR (dS [(6,"title",_),(7,"ending",_)] 0 _) (dO (bE (cA _ (bO _ _ _) (cA _ (bO _ _ _) (cA _ (cA _ (cX (aS 2 _ _) (bO _ _ _) _) (bO _ _ _) _) (bO _ _ _) _) _) _) (bE (cX (dM cu (bE (bO _ _ _) (bE (bO _ _ _) bV)) _) (cA _ (cA _ (cX (aS 2 _ _) (bO _ _ _) _) (bO _ _ _) _) (bO _ _ _) _) _) bV)) 0 _) _)
 (bS (cR (dS [(8,"parts",_),(9,"room",_)] 0 _) (di 15 _ (bE (aS 3 _ _) (bE (aS 6 _ _) (bE (aS 5 _ _) (bE (cA _ (bO _ _ _) (cA _ (cA _ (cX (aS 2 _ _) (bO _ _ _) _) (bO _ _ _) _) (bO _ _ _) _) _) bV)))) _) _)
 (bS (cR (cJ 10 _ _) (dO (bE (aS 9 _ _) (bE (aS 5 _ _) (bE (aS 7 _ _) bV))) 0 _) _)
 (bS (cR (dS [(11,"ahead",_),(12,"behind",_)] 0 _) (dO (bE (di 17 _ (bE (aS 8 _ _) (bE (bO _ _ _) (bE (aS 10 _ _) bV))) _) (bE (di 17 _ (bE (aS 8 _ _) (bE (bO _ _ _) (bE (aS 10 _ _) bV))) _) bV)) 0 _) _)
 (bS (dA (dx _ (dM cu bV _) (dM cu (bE (aS 11 _ _) (bE (aS 12 _ _) bV)) _) _) (bS (dT (bO _ _ _) _)
 cy) cy _)
 (bS (cR (cJ 13 _ _) (dO (bE (cA _ (cX (aS 2 _ _) (bO _ _ _) _) (bO _ _ _) _) (bE (cA _ (cA _ (bO _ _ _) (cA _ (cA _ (cX (aS 2 _ _) (bO _ _ _) _) (bO _ _ _) _) (bO _ _ _) _) _) (bO _ _ _) _) (bE (cA _ (cA _ (bO _ _ _) (cA _ (cA _ (cX (aS 2 _ _) (bO _ _ _) _) (bO _ _ _) _) (bO _ _ _) _) _) (bO _ _ _) _) bV))) 0 _) _)
 (bS (cR (cJ 14 _ _) (eS (di 14 _ (bE (aS 18 _ _) bV) _) (cJ 18 _ _) (.val (aS 8 _ _)) .nil _ [(18,"part")] [18] _) _)
 (bS (cR (cJ 15 _ _) (eS (cA _ (di 3 _ (bE (gh _ (aS 19 _ _) (aS 11 _ _) _) bV) _) (di 3 _ (bE (gh _ (aS 19 _ _) (aS 12 _ _) _) bV) _) _) (cJ 19 _ _) (kB _ (bE (bO _ _ _) (bE (cA _ (di 0 _ (bE (aS 8 _ _) bV) _) (bO _ _ _) _) bV)) _) .nil _ [(19,"span"),(11,"ahead"),(12,"behind")] [19] _) _)
 (bS (cR (cJ 16 _ _) (eS (di 18 _ (bE (gP cu (aS 14 _ _) bV (bE (cA _ (aS 20 _ _) (bO _ _ _) _) bV) bV _ _) (bE (aS 9 _ _) (bE (aS 13 _ _) (bE (cX (aS 15 _ _) (aS 20 _ _) _) bV)))) _) (cJ 20 _ _) (kB _ (bE (di 0 _ (bE (aS 8 _ _) bV) _) bV) _) .nil _ [(20,"k"),(15,"more"),(13,"paint"),(9,"room"),(14,"wide")] [20] _) _)
 (bS (dT (gh _ (aS 16 _ _) (cA _ (dM cu (bE (bO _ _ _) bV) _) (di 0 _ (bE (aS 8 _ _) bV) _) _) _) _)
 cy)))))))))))))) (qh (iS 19)) rfl
end
set_option exponentiation.threshold 3000
noncomputable def kH (n:Int):Bool:=decide (n.natAbs<2 ^ 1000)
noncomputable def mq (n:Int):Bool:=decide (n.natAbs<1073741824)
noncomputable def SR (x y:V):Option V:=match x with
 |aO a=>(match y with|aO b=>aE (aO (a+b))|a_ b=>if kH a then aE (a_ (gY (fD a) b)) else aT|_=>aT)
 |cC a=>(match y with|cC b=>if a.length+b.length<=1000000 then aE (cC (a++b)) else aT|_=>aT)
 |cw a=>(match y with|cw b=>if a.length+b.length<=1000 then aE (cw (a++b)) else aT|_=>aT)
 |a_ a=>(match y with|a_ b=>aE (a_ (gY a b))|aO b=>if kH b then aE (a_ (gY a (fD b))) else aT|_=>aT)
 |_=>aT
noncomputable def Vz (x y:V):Option V:=match x with
 |aO a=>(match y with|aO b=>aE (aO (a-b))|a_ b=>if kH a then aE (a_ (eP (fD a) b)) else aT|_=>aT)
 |a_ a=>(match y with|a_ b=>aE (a_ (eP a b))|aO b=>if kH b then aE (a_ (eP a (fD b))) else aT|_=>aT)
 |_=>aT
noncomputable def SS (x y:V):Option V:=match x with
 |aO a=>(match y with|aO b=>if mq a then aE (aO (a*b)) else aT|a_ b=>if kH a then aE (a_ (fT (fD a) b)) else aT|_=>aT)
 |a_ a=>(match y with|a_ b=>aE (a_ (fT a b))|aO b=>if kH b then aE (a_ (fT a (fD b))) else aT|_=>aT)
 |cC a=>(match y with|aO n=>if a.length<=1000/\n.natAbs<=1000 then aE (cC (lU a n)) else aT|_=>aT)
 |cw l=>(match y with|aO n=>if l.length<=1000/\n.natAbs<=1000 then aE (cw (dw n.toNat l).flatten) else aT|_=>aT)
 |_=>aT
noncomputable def VA (x y:V):Option V:=match x with
 |aO a=>(match y with|aO b=>if b≠0/\t5 (gL (decide (a<0) != decide (b<0)) a.natAbs b.natAbs)=cu then aE (a_ (gL (decide (a<0) != decide (b<0)) a.natAbs b.natAbs)) else aT|_=>aT)
 |a_ a=>(match y with|a_ b=>if jH b=cu then aE (a_ (gN a b)) else aT|aO b=>if kH b=bK/\b≠0 then aE (a_ (gN a (fD b))) else aT|_=>aT)
 |_=>aT
noncomputable def GZ (x y:V):Option V:=match x with
 |aO a=>(match y with|aO b=>if b≠0/\mq b=bK then aE (aO (a.fdiv b)) else aT|_=>aT)
 |_=>aT
noncomputable def SU (x y:V):Option V:=match x with
 |aO a=>(match y with|aO b=>if b≠0 then aE (aO (a.fmod b)) else aT|_=>aT)
 |a_ a=>(match y with|a_ b=>if jH b=cu then aE (a_ (s_ a b).2) else aT|_=>aT)
 |_=>aT
noncomputable def VB (x y:V):Option V:=match x with
 |aO a=>(match y with|aO b=>if 0<=b/\b<=1000/\mq a=bK then aE (aO (a ^ b.toNat)) else aT|_=>aT)
 |_=>aT
noncomputable def fu (a:jL)(x y:V):Option V:=match a with
 |eL=>SR x y|nv=>Vz x y|gk=>SS x y|ny=>VA x y|wm=>GZ x y|nz=>SU x y|.Pow=>VB x y|_=>aT
theorem su {α:Type}{c:Prop}{d:Decidable c}{x v:α}(h:@ite (Option α) c d (aE x) aT=aE v):c/\x=v:=by
 by_cases q:c
 .rw[if_pos q] at h;exact⟨q,dk h⟩
 .rw[if_neg q] at h;exact nN h
section
variable {Kk:V->Prop}
theorem PE.sc (e:Kk v)(r:Rel ρ s.heap a v)(st:St C ρ σ s)(f:b.heap=s.heap)(i:b.gens=s.gens)(j:b.os=s.os)(k:s.toks<=b.toks):PE C [] ρ s.heap (λv c=>c=σ/\Kk v) a b:=by obtain⟨h,g,d,t,o⟩:=b;subst f i j;exact⟨ρ,σ,v,⟨rfl,e⟩,r,st.toks k,Ext.refl _ _ _⟩
theorem PE.nw (f:Kk (cw l))(r:Rels ρ s.heap vs l)(st:St C ρ σ s)(i:a.heap=s.heap.push {cls:=bT "list",data:=cK vs.toArray})(j:a.gens=s.gens)(m:a.os=s.os)(n:s.toks<=a.toks):
 PE C [] ρ s.heap (λv c=>c=σ/\Kk v) (aK s.heap.objs.size) a:=by
 obtain⟨h,g,d,t,o⟩:=a;subst i j m;have k:Kp s.heap (s.heap.push {cls:=bT "list",data:=cK vs.toArray}):=λb o e=>dK _ e;have X:Ext [] ρ ρ s.heap (s.heap.push {cls:=bT "list",data:=cK vs.toArray}):=Ext.of_all k;exact⟨ρ,σ,_,⟨rfl,f⟩,nr (fg _ rfl) (FreeH.new st.conc (eG _)) (r.ext X),st.keeps k n,X⟩
theorem Rels.append (r:Rels ρ h a b)(q:Rels ρ h c ys):Rels ρ h (a++c) (b++ys):=r.ind (P:=λa b=>Rels ρ h (a++c) (b++ys)) q λ_ _ _ _ r _ i=>fo r i
theorem Rels.rep (r:Rels ρ h a b):∀n:Nat,Rels ρ h (dw n a).flatten (dw n b).flatten:=by
 intro c;induction c with
 |zero=>exact fB|succ n d=>exact by refine cn (mJ ..) (cn (mJ ..) (cn (kj ..) (cn (kj ..) ?_)));exact Rels.append r (d)
theorem kY (h:kH n=bK):n.natAbs<2 ^ 1023:=fl (of_decide_eq_true h) (y2 (dd rfl) (dd rfl))
theorem C8 (h:mq n=bK):Builtin.Int.intBits n<=64:=by
 have h:n.natAbs<1073741824:=of_decide_eq_true h;unfold Builtin.Int.intBits;by_cases a:n.natAbs=0
 .refine cn (a ..) ?_;exact iteInduction (motive:=(·<=64)) (λ_=>by decide) (λ_=>by decide)
 .have:n.natAbs.log2<30:=(Nat.log2_lt a).mpr h
  exact iteInduction (motive:=(·<=64)) (λ_=>by decide) (λ_=>Nat.succ_le_of_lt (vm this (dd rfl)))
theorem C9 {x:Str}(b:x.length<=1000)(a:n.natAbs<=1000):MulOk x n:=by
 refine⟨by simp;exact RQ a,λh _=>?_,λh _=>?_⟩
 .have:(2 ^ 63-1:Int)/n>=(2 ^ 63-1)/1000:=by have c:(0:Int)<n:=Int.not_lt.mp h;rw[ge_iff_le,Int.le_ediv_iff_mul_le c];have:((2:Int) ^ 63-1)/1000=9223372036854775:=dd rfl;rw[this];have:(9223372036854775:Int)*n<=9223372036854775*1000:=Int.mul_le_mul_of_nonneg_left (zS a) (dd rfl);exact lQ this (dd rfl)
  have e:((2:Int) ^ 63-1)/1000=9223372036854775:=dd rfl;rw[e] at this;exact Int.not_lt.mpr (lQ (lQ (Int.ofNat_le.mpr b) (dd rfl)) this)
 .have:x.length*n.toNat<=1000*1000:=r7 b (GQ a)
  unfold Fh;rw[decide_eq_false_iff_not];rw[iK];exact jV (cx this (dd rfl))
theorem JY (C:Fx)(h:SR x y=aE v)(d:Kk v)(e:Rel ρ s.heap a x)(f:Rel ρ s.heap b y)(st:St C ρ σ s):cD (cm C.prog C.w) A (pW eL a b) (PQ C ρ s.heap σ Kk) Ee s:=by
 rcases x with _|_|i|i|i|_|i|_|_<;>try exact nN h
 .rcases y with _|_|j|j|j|_|j|_|_<;>try exact nN h
  .obtain rfl:=dk h;refine e.cI λ_=>?_;refine f.cI λ_=>?_;exact NR (PE.sc d (fq ..) st rfl rfl rfl (dU _))
  .refine dz (su h) λg c=>?_;subst c
   refine e.cI λ_=>?_;refine f.cF λ_ _=>?_;exact Uv (kY g) (PE.sc d (gC _ _ st.gens.2) st rfl rfl rfl (dU _))
 .rcases y with _|_|j|j|j|_|j|_|_<;>try exact nN h
  .refine dz (su h) λg c=>?_;subst c
   refine e.cF λ_ _=>?_;refine f.cI λ_=>?_;exact Uw (kY g) (PE.sc d (gC _ _ st.gens.2) st rfl rfl rfl (dU _))
  .obtain rfl:=dk h;refine e.cF λ_ _=>?_;refine f.cF λ_ _=>?_;exact UD (PE.sc d (gC _ _ st.gens.2) st rfl rfl rfl (dU _))
 .rcases y with _|_|j|j|j|_|j|_|_<;>try exact nN h
  .refine dz (su h) λg c=>?_;subst c
   refine e.cS λ_=>?_;refine f.cS λ_=>?_;exact wM (dP (UH (Q:=λv n=>∃k l,v=cV (i++j) k/\n={s with toks:=l}) (λk l=>⟨k,l,rfl,rfl⟩) (by refine cn (iK ..) ?_;exact cx g (dd rfl)))) (λv n q=>by refine dz q λw c=>?_;obtain⟨k,l,rfl,rfl⟩:=c;exact PE.sc d (gR ..) st rfl rfl rfl w)
 .rcases y with _|_|j|j|j|_|j|_|_<;>try exact nN h
  .refine dz (su h) λz c=>?_;subst c
   refine e.cL λB m D o H p=>?_;refine f.cL λF r G t I u=>?_;refine concat_meets (s:=s) ⟨_,o,rfl⟩ ⟨_,t,rfl⟩ noFill_list_add seq_list_add PySem.F.slot_list_add PySem.F.entry_list_add (PySem.F.args_list_add_2 ..) (list_addW B F m.toArray r.toArray D G aT aT #[] #[] (by refine cn (iK ..) ?_;simp only[jw,p.len,u.len];exact cx z (dd rfl))) ⟨o,t,?_⟩
   refine(PE.nw (vs:=m++r) d (Rels.append p u) st (by simp) rfl rfl (d9 _))
theorem wO (vs:List b_):∀n:Nat,Bz (λb c=>b++c) #[] (dw n vs.toArray)=(dw n vs).flatten.toArray:=by
 have d:∀(n:Nat) (a:List b_),Bz (λb c=>b++c) a.toArray (dw n vs.toArray)=(a++(dw n vs).flatten).toArray:=by
  intro n;induction n with
  |zero=>intro a;simp|succ n e=>intro a;refine cn (mJ ..) (cn (mJ ..) (cn (pL ..) (cn (kj ..) (ie (j5 ..) (ie (e (a++vs) ..) ?_)))));simp
 exact λn=>d n []
theorem JZ (C:Fx)(k:A.handled=aT)(h:Vz x y=aE v)(d:Kk v)(e:Rel ρ s.heap a x)(f:Rel ρ s.heap b y)(st:St C ρ σ s):cD (cm C.prog C.w) A (pW nv a b) (PQ C ρ s.heap σ Kk) Ee s:=by
 rcases x with _|_|i|i|i|_|i|_|_<;>try exact nN h
 .rcases y with _|_|j|j|j|_|j|_|_<;>try exact nN h
  .obtain rfl:=dk h
   refine e.cI λ_=>?_;refine f.cI λ_=>?_;exact UI (PE.sc d (fq ..) st rfl rfl rfl (dU _))
  .refine dz (su h) λg c=>?_;subst c
   refine e.cI λ_=>?_;refine f.cF λ_ _=>?_;exact Ux (kY g) (PE.sc d (gC _ _ st.gens.2) st rfl rfl rfl (dU _))
 .rcases y with _|_|j|j|j|_|j|_|_<;>try exact nN h
  .refine dz (su h) λg c=>?_;subst c
   refine e.cF λ_ _=>?_;refine f.cI λ_=>?_;exact Uy (kY g) (PE.sc d (gC _ _ st.gens.2) st rfl rfl rfl (dU _))
  .obtain rfl:=dk h
   refine e.cF λ_ _=>?_;refine f.cF λ_ _=>?_;exact UE (PE.sc d (gC _ _ st.gens.2) st rfl rfl rfl (dU _))
theorem J_ (C:Fx)(J:A.handled=aT)(h:SS x y=aE v)(g:Kk v)(l:Rel ρ s.heap a x)(m:Rel ρ s.heap b y)(st:St C ρ σ s):cD (cm C.prog C.w) A (pW gk a b) (PQ C ρ s.heap σ Kk) Ee s:=by
 rcases x with _|_|i|i|i|_|i|_|_<;>try exact nN h
 .rcases y with _|_|j|j|j|_|j|_|_<;>try exact nN h
  .obtain⟨c,rfl⟩:=su h
   refine l.cI λ_=>?_;refine m.cI λ_=>?_;exact UJ (PE.sc g (fq ..) st rfl rfl rfl (dU _)) (IntMulOk.of_left (C8 c))
  .obtain⟨c,rfl⟩:=su h
   refine l.cI λ_=>?_;refine m.cF λ_ _=>?_;exact Uz (kY c) (PE.sc g (gC _ _ st.gens.2) st rfl rfl rfl (dU _))
 .rcases y with _|_|j|j|j|_|j|_|_<;>try exact nN h
  .obtain⟨c,rfl⟩:=su h
   refine l.cF λ_ _=>?_;refine m.cI λ_=>?_;exact UA (kY c) (PE.sc g (gC _ _ st.gens.2) st rfl rfl rfl (dU _))
  .obtain rfl:=dk h
   refine l.cF λ_ _=>?_;refine m.cF λ_ _=>?_;exact UF (PE.sc g (gC _ _ st.gens.2) st rfl rfl rfl (dU _))
 .rcases y with _|_|j|j|j|_|j|_|_<;>try exact nN h
  .obtain⟨c,rfl⟩:=su h
   refine l.cS λ_=>?_;refine m.cI λ_=>?_;exact wM (dP (SB.mul (Q:=λv o=>∃p r,v=cV (lU i j) p/\o={s with toks:=r}) (C9 c.1 c.2) λp k=>⟨p,k,rfl,rfl⟩)) (λv o q=>by obtain⟨D,p,r,rfl,rfl⟩:=q;exact PE.sc g (gR ..) st rfl rfl rfl D)
 .rcases y with _|_|j|j|j|_|j|_|_<;>try exact nN h
  .obtain⟨c,rfl⟩:=su h
   refine m.cI λu=>l.cL λ_ _ _ n L t=>?_
   rename_i w d z
   have G:=t.len;have f:d.toArray.size*j.toNat<=1000000:=by have:d.length*j.toNat<=1000*1000:=r7 (G▸c.1) (GQ c.2);exact this
   refine wpAny_binaryOp_repeat_ref (T:="list") (U:="int") (dd rfl) ⟨_,n,rfl⟩ (λo=>rm o j u) noFill_list_mul F.fills_int_mul ON repeat_list F.slot_int_index.lookup
    (call_meets ON (rm s j u) F.entry_int_rmul (F.args_int_rmul_2 ..) (int___rmul___int_list j u w d.toArray z)
    ⟨n,rfl,⟨_,n,rfl⟩,call_meets F.slot_list_mul ⟨_,n,rfl⟩ F.entry_list_mul (F.args_list_mul_2 ..)
     (AutoListH.list___mul___list_int_3 w d.toArray z j u (by simp[Builtin.List.listFitsIndex];exact RQ c.2) (jV (cx f (dd rfl))) (by simp[Builtin.List.listTooLong,Gm];simp at f;exact cx f (dd rfl)))
     ⟨n,?_⟩⟩)
   have e:Bz (λH I=>H++I) #[] (dw (if d.toArray.isEmpty=bK then 0 else j.toNat) d.toArray)=(dw j.toNat d).flatten.toArray:=by
    by_cases B:d.toArray.isEmpty=bK
    .have:d=[]:=by simpa using B
     subst this;simp
    .exact cn (if_neg B ..)<|wO d j.toNat
   exact PE.nw (vs:=(dw j.toNat d).flatten) g (Rels.rep t _) st (ie (e ..) rfl) rfl rfl (d9 _)
theorem K2 (C:Fx)(k:A.handled=aT)(h:VA x y=aE v)(e:Kk v)(f:Rel ρ s.heap a x)(g:Rel ρ s.heap b y)(st:St C ρ σ s):cD (cm C.prog C.w) A (pW ny a b) (PQ C ρ s.heap σ Kk) Ee s:=by
 rcases x with _|_|i|i|i|_|i|_|_<;>try exact nN h
 .rcases y with _|_|j|j|j|_|j|_|_<;>try exact nN h
  .refine dz (su h) λd c=>?_;subst c
   refine f.cI λ_=>?_;refine g.cI λ_=>?_;exact AutoIntOps.truediv_2 (by simpa using d.1) (by simpa using d.2) (PE.sc e (gC _ _ st.gens.2) st rfl rfl rfl (dU _))
 .rcases y with _|_|j|j|j|_|j|_|_<;>try exact nN h
  .refine dz (su h) λd c=>?_;subst c
   refine f.cF λ_ _=>?_;refine g.cI λ_=>?_;exact AutoFloatOps.truediv_fi_2 (Float64.ofInt_fits (kY d.1)) (λq=>d.2 ((Flt.isZero_ofInt _).mp q)) (PE.sc e (gC _ _ st.gens.2) st rfl rfl rfl (dU _))
  .refine dz (su h) λd c=>?_;subst c
   refine f.cF λ_ _=>?_;refine g.cF λ_ _=>?_;exact Ur k (λq=>by rw[d] at q;exact dG q) λ_=>PE.sc e (gC _ _ st.gens.2) st rfl rfl rfl (dU _)
theorem HQ (C:Fx)(g:A.handled=aT)(h:GZ x y=aE v)(d:Kk v)(e:Rel ρ s.heap a x)(f:Rel ρ s.heap b y)(st:St C ρ σ s):cD (cm C.prog C.w) A (pW wm a b) (PQ C ρ s.heap σ Kk) Ee s:=by
 rcases x with _|_|i|i|i|_|i|_|_<;>try exact nN h
 .rcases y with _|_|j|j|j|_|j|_|_<;>try exact nN h
  .obtain⟨c,rfl⟩:=su h
   refine e.cI λ_=>?_;refine f.cI λ_=>?_;exact Uu c.1 (PE.sc d (fq ..) st rfl rfl rfl (dU _)) (.inl (PyProof.noPylong_small (of_decide_eq_true c.2)))
theorem K3 (C:Fx)(k:A.handled=aT)(h:SU x y=aE v)(e:Kk v)(f:Rel ρ s.heap a x)(g:Rel ρ s.heap b y)(st:St C ρ σ s):cD (cm C.prog C.w) A (pW nz a b) (PQ C ρ s.heap σ Kk) Ee s:=by
 rcases x with _|_|i|i|i|_|i|_|_<;>try exact nN h
 .rcases y with _|_|j|j|j|_|j|_|_<;>try exact nN h
  .refine dz (su h) λd c=>?_;subst c
   refine f.cI λ_=>?_;refine g.cI λ_=>?_;exact UG d (PE.sc e (fq ..) st rfl rfl rfl (dU _))
 .rcases y with _|_|j|j|j|_|j|_|_<;>try exact nN h
  .refine dz (su h) λd c=>?_;subst c
   refine f.cF λ_ _=>?_;refine g.cF λ_ _=>?_;exact AutoFloatOps.mod_1 (by refine cn (d ..) ?_;exact λh=>dG h) (PE.sc e (gC _ _ st.gens.2) st rfl rfl rfl (dU _))
theorem K4 (C:Fx)(g:A.handled=aT)(h:VB x y=aE v)(d:Kk v)(e:Rel ρ s.heap a x)(f:Rel ρ s.heap b y)(st:St C ρ σ s):cD (cm C.prog C.w) A (pW .Pow a b) (PQ C ρ s.heap σ Kk) Ee s:=by
 rcases x with _|_|i|i|i|_|i|_|_<;>try exact nN h
 .rcases y with _|_|j|j|j|_|j|_|_<;>try exact nN h
  .obtain⟨c,rfl⟩:=su h
   refine e.cI λ_=>?_;refine f.cI λ_=>?_;exact Ut c.1 (lQ c.2.1 (dd rfl)) (vm (of_decide_eq_true c.2.2) (dd rfl)) (PE.sc d (fq ..) st rfl rfl rfl (dU _))
theorem PU (C)(f:A.handled=aT)(h:fu g x y=aE v)(c:Kk v)(d:Rel ρ s.heap a x)(e:Rel ρ s.heap b y)(st:St C ρ σ s):cD (cm C.prog C.w) A (pW g a b) (PQ C ρ s.heap σ Kk) Ee s:=by
 induction g with
 |Add=>exact JY C h c d e st|Sub=>exact JZ C f h c d e st|Mult=>exact J_ C f h c d e st|Div=>exact K2 C f h c d e st|FloorDiv=>exact HQ C f h c d e st|Mod=>exact K3 C f h c d e st|Pow=>exact K4 C f h c d e st|_=>cases h
end
mutual
noncomputable def DA:V->PyData
 |dD=>.none|dB b=>.bool b|aO i=>.int i|cC s=>eJ s|dj l=>rW (gr l)|cw l=>eK (gr l)|_=>.dict []
noncomputable def gr:List V->List PyData
 |[]=>[]|v::c=>DA v::gr c
end
noncomputable def w4 (σ:Sg):V->PyData
 |aV n=>match σ[n]? with|some (cM l)=>eK (gr l)|_=>.dict []
 |v=>DA v
theorem jt (r:Rel ρ h a v):(DA v).canLay0=bK->∃c,Reads h a (DA v) c:=Rel.rec (motive_1:=λa v _=>(DA v).canLay0=bK->∃c,Reads h a (DA v) c) (motive_2:=λc d _=>jT (gr d)=bK->∃f,ReadsAll h c (gr d) f)
  (λ_=>⟨_,.none⟩) (λb _=>⟨_,.bool b⟩) (λi t _=>⟨_,.int i t⟩) (λ_ _ _ q=>absurd q dF) (λs t _=>⟨_,.str s t⟩)
  (λe _ _ i q=>(i q).elim λ_ x=>⟨_,.tuple e rfl rfl x⟩)
  (λe _ _ i q=>(i q).elim λ_ x=>⟨_,.list e rfl rfl x⟩)
  (λ_ q=>absurd q dF) (λ_ q=>absurd q dF) (λ_=>⟨_,.nil⟩)
  (λ_ _ i j q=>by have q:=Bool.and_eq_true_iff.mp q;refine eF (i q.1) λ_ x=>eF (j q.2) λ_ y=>?_;exact⟨_,.cons x y⟩) r
theorem vF (r:Rels ρ h c vs):jT (gr vs)=bK->∃d,ReadsAll h c (gr vs) d:=r.ind (P:=λc vs=>jT (gr vs)=bK->∃d,ReadsAll h c (gr vs) d) (λ_=>⟨_,.nil⟩) λ_ _ _ _ r _ j q=>by rw[gr,jT,eB] at q;obtain⟨_,x⟩:=jt r q.1;obtain⟨_,y⟩:=j q.2;exact⟨_,.cons x y⟩
theorem rD (c:Conc C ρ σ h)(r:Rel ρ h a v)(q:(w4 σ v).canLay0=bK):∃d,Reads h a (w4 σ v) d:=by
 cases r with
 |@obj n p e=>
  refine(?_:∃d,Reads h _ (match σ[n]? with|some (cM l)=>By (gr l)|_=>.dict []) d)
  have q:(match σ[n]? with|some (cM l)=>By (gr l)|_=>.dict []).canLay0=bK:=q
  generalize g:σ[n]?=o at q ⊢;rcases o with _|o
  .exact absurd q dF
  rcases o with l|_|_|_|_|_<;>try exact absurd q dF
  obtain⟨_,u,k,j,r⟩:=c.objs _ _ _ e g;obtain⟨_,x⟩:=vF r q;exact⟨_,.list j rfl rfl x⟩
 |none=>exact jt (ρ:=ρ) kD q|bool b=>exact jt (ρ:=ρ) (rT b) q|int i t=>exact jt (ρ:=ρ) (fq i t) q|flt b t m=>exact jt (ρ:=ρ) (gC b t m) q|str s t=>exact jt (ρ:=ρ) (gR s t) q|tup e f r=>exact jt (.tup e f r) q|lst e f r=>exact jt (nr e f r) q|raw=>exact jt (ρ:=ρ) (.raw _) q
noncomputable def K5 (x y:V):Bool:=match x with
 |aO a=>(match y with|aO b=>a==b|a_ b=>ky b a==aE .eq|_=>cu)
 |a_ a=>(match y with|aO b=>ky a b==aE .eq|a_ b=>fm a b==aE .eq|_=>cu)
 |_=>cu
noncomputable def wQ:List V->List V->Bool
 |[],[]=>bK|a::c,b::d=>K5 a b&&wQ c d|_,_=>cu
@[reducible] noncomputable def Yy (x y:V):Option Bool:=match x with
 |aO a=>(match y with|a_ b=>aE (ky b a==aE .eq)|_=>aT)
 |a_ a=>(match y with|aO b=>aE (ky a b==aE .eq)|a_ b=>aE (fm a b==aE .eq)|_=>aT)
 |cw l=>(match y with|cw r=>if wQ l r then aE bK else aT|_=>aT)
 |_=>aT
noncomputable def yO (σ:Sg)(x y:V):Option Bool:=if hZ (w4 σ x)=bK/\hZ (w4 σ y)=bK then aE (j0 (w4 σ x) (w4 σ y)) else Yy x y
noncomputable def A5 (σ:Sg)(x y:V):Option Bool:=if hZ (w4 σ x)=bK/\hZ (w4 σ y)=bK then aE (!j0 (w4 σ x) (w4 σ y)) else aT
noncomputable def Yz (x y:V):Option Bool:=match x with
 |aO a=>(match y with|aO b=>aE (decide (a<b))|a_ b=>aE (ky b a==aE .gt)|_=>aT)
 |a_ a=>(match y with|aO b=>aE (ky a b==aE .lt)|a_ b=>aE (fm a b==aE .lt)|_=>aT)
 |_=>aT
noncomputable def YA (x y:V):Option Bool:=match x with
 |aO a=>(match y with|aO b=>aE (decide (b<a))|_=>aT)
 |_=>aT
noncomputable def YB (x y:V):Option Bool:=match x with
 |aO a=>(match y with|aO b=>aE (decide (a<=b))|_=>aT)
 |_=>aT
noncomputable def YC (x y:V):Option Bool:=match x with
 |aO a=>(match y with|aO b=>aE (decide (b<=a))|_=>aT)
 |_=>aT
noncomputable def UU (x y:V):Option Bool:=match y with
 |cC b=>(match x with|cC a=>aE (!(Nu b a 0 b.length 1).isEmpty)|_=>aT)
 |cw l=>if jT (gr l)=bK/\(DA x).canLay0=bK/\gX (DA x)<=8 then aE ((gr l).any λy=>j0 y (DA x)) else aT
 |_=>aT
noncomputable def YD (x y:V):Option Bool:=match y with
 |dD=>(match x with|dD=>aE bK|cw _=>aE cu|_=>aT)
 |_=>aT
noncomputable def gq (c:jr)(σ:Sg)(x y:V):Option Bool:=match c with
 |.Eq=>yO σ x y|iu=>A5 σ x y|.Lt=>Yz x y|.Gt=>YA x y|.LtE=>YB x y|.GtE=>YC x y|.In=>UU x y|.Is=>YD x y|_=>aT
theorem DW {M:i8}{Ee:b_->cz->Prop}{s:cz}{a b:UInt64}{u v:Tok}{Q:Bool->cz->Prop} (e:(u==0||v==0)=cu) (d:o6 s.heap) (c:∀b,Q b s):cD M A (isSame (dm a u) (dm b v)) Q Ee s:=by
 show cD M A (isSame.created (a==b&&!P9 a) u v) Q Ee s;unfold isSame.created;refine Gh ?_;split
 .rename_i h;rw[e] at h;exact absurd h dF
 refine Gh ?_;split
 .exact cW (c _)
 refine Gh ?_;split
 .exact cW (c _)
 refine cq (Ni d ?_);first|rw[if_neg dF]|dsimp only[qW,if_false]
 refine cq (Ni d ?_);first|rw[if_neg dF]|dsimp only[qW,if_false]
 exact cq (ip (cq (Ov (cW (c _)))))
theorem HR {s:cz}(k:o6 s.heap)(l:Rel ρ s.heap a x)(m:Rel ρ s.heap b y)(j:K5 x y=bK)(h:Pp A s a b bK):Gc A s a b bK:=λe w Ee Q f=>by
 refine eU<|wpAny_ite_split (λn=>?_) (λ_=>?_)
 .exact cq (ip (cW f))
 .have d:cD (cm e w) A (richCompare CmpOp.Eq a b>>=truthOfDropped) Q Ee s:=cq (h e w Ee _ (uZ f))
  cases l with
  |flt _ _ g=>cases m with
   |flt _ _ i=>
    refine cq (DW (by simp[g,i]) k λc=>?_)
    induction c with
    |true=>exact cW f|false=>exact d
   |raw=>exact absurd j dF|_=>exact d
  |raw=>exact absurd j dF|_=>exact d
theorem SV (e:Rel ρ s.heap a x)(f:Rel ρ s.heap b y)(h:K5 x y=bK):Pp A s a b bK:=by
 rcases x with _|_|i|i|i|_|i|_|_<;>try exact dG h
 .rcases y with _|_|j|j|j|_|j|_|_<;>try exact dG h
  .refine e.cI λt=>?_;refine f.cI λu=>?_;have:=SeqAt.RcAt.int_int (A:=A) (s:=s) i t j u;rw[show(i==j)=bK from h] at this;exact this
  .refine e.cI λ_=>?_;refine f.cF λ_ _=>?_;exact λc w Ee Q d=>O5 (by refine cn ((show(ky j i==aE .eq)=bK from h) ..) ?_;exact d)
 .rcases y with _|_|j|j|j|_|j|_|_<;>try exact dG h
  .refine e.cF λ_ _=>?_;refine f.cI λ_=>?_;exact λc w Ee Q d=>O6 (by refine cn ((show(ky i j==aE .eq)=bK from h) ..) ?_;exact d)
  .refine e.cF λ_ _=>?_;refine f.cF λ_ _=>?_;exact λc w Ee Q d=>AutoFloatOps.eq_0 (by refine cn ((show(fm i j==aE .eq)=bK from h) ..) ?_;exact d)
theorem PV (n:o6 s.heap)(r:Rels ρ s.heap d i):Rels ρ s.heap c ys->wQ i ys=bK->d.length=c.length/\∀j (g:j<d.length) (k:j<c.length),Gc A s d[j] c[j] bK:=r.ind (P:=λd i=>∀c ys,Rels ρ s.heap c ys->wQ i ys=bK->d.length=c.length/\∀j (g:j<d.length) (k:j<c.length),Gc A s d[j] c[j] bK)
  (λc ys f h=>by
   rcases ys with _|⟨y,ys⟩
   .have e:c=[]:=f.inv
    refine cn (e ..) ?_;exact⟨rfl,λj g _=>absurd g (FA _)⟩
   .exact absurd h dF)
  (λ_ _ _ _ r _ o c ys f h=>by
   rcases ys with _|⟨y,ys⟩
   .exact absurd h dF
   .obtain⟨b,c,rfl,f,m⟩:=f.inv
    have h:=Bool.and_eq_true_iff.mp h;refine dz (o _ _ m h.2) λl q=>⟨by simp[l],λj g k=>?_⟩
    rcases j with _|j
    .exact HR n r f h.1 (SV r f h.1)
    .exact q j (pz g) (pz k)) c ys
section
variable {C:Fx}{ρ:Own}{σ:Sg}{s:cz}{A:et}{a b:b_}{x y:V}{Kk:Bool->Prop}{Ee:b_->cz->Prop}
inductive CmpPost (C:Fx) (ρ:Own) (σ:Sg) (h:cQ) (Kk:Bool->Prop):b_->cz->Prop where
 |mk {r:b_} {s':cz} (c:Bool):r=e_ c->Kk c->St C ρ σ s'->Ext [] ρ ρ h s'.heap->CmpPost C ρ σ h Kk r s'
theorem CmpPost.here (d:Kk c)(st:St C ρ σ s):CmpPost C ρ σ s.heap Kk (e_ c) s:=⟨c,rfl,d,st,Ext.refl _ _ _⟩
theorem VC (C:Fx)(m:∀h,fk C h->o6 h)(n:Room 100 A)(h:Yy x y=aE c)(d:Kk c)(f:Rel ρ s.heap a x)(g:Rel ρ s.heap b y)(st:St C ρ σ s):cD (cm C.prog C.w) A (mU .Eq a b) (CmpPost C ρ σ s.heap Kk) Ee s:=by
 rcases x with _|_|i|i|i|_|i|_|_<;>try exact nN h
 .rcases y with _|_|j|j|j|_|j|_|_<;>try exact nN h
  .obtain rfl:=dk h;refine f.cI λ_=>?_;refine g.cF λ_ _=>?_;exact O5 (.here d st)
 .rcases y with _|_|j|j|j|_|j|_|_<;>try exact nN h
  .obtain rfl:=dk h;refine f.cF λ_ _=>?_;refine g.cI λ_=>?_;exact O6 (.here d st)
  .obtain rfl:=dk h;refine f.cF λ_ _=>?_;refine g.cF λ_ _=>?_;exact AutoFloatOps.eq_0 (.here d st)
 .rcases y with _|_|j|j|j|_|j|_|_<;>try exact nN h
  refine dz (su h) λo k=>?_;subst k;refine f.cL λB p D r F t=>?_;refine g.cL λG H I u J v=>?_;refine dz (PV (A:=A.in1) (m _ st.based) t v o) λl q=>?_;have:=SeqAt.RcAt.lists (s:=s) (A:=A) (e:=λ_=>bK) ⟨_,r,rfl,_,rfl⟩ ⟨_,u,rfl,_,rfl⟩ (l) (by have:=n.2.1;exact fC (eO ..) this) (λj w z=>q j (by simpa using w) (by simpa using z))
  have e:((eZ p.toArray.size).all λ_=>bK)=bK:=by simp
  rw[e] at this;exact this _ _ _ _ (.here d st)
theorem XK (C:Fx)(i:∀h,fk C h->o6 h)(d:Room 100 A)(h:yO σ x y=aE c)(e:Kk c)(f:Rel ρ s.heap a x)(g:Rel ρ s.heap b y)(st:St C ρ σ s):cD (cm C.prog C.w) A (mU .Eq a b) (CmpPost C ρ σ s.heap Kk) Ee s:=by
 have j:A.units+64<cLine:=fC (eY (dd rfl) _) d.2.1;unfold yO at h;by_cases q:hZ (w4 σ x)=bK/\hZ (w4 σ y)=bK
 .rw[if_pos q] at h
  obtain rfl:=dk h;exact eF (rD st.conc f (AU q.1)) λ_ k=>eF (rD st.conc g (AU q.2)) λ_ l=>eq_dataH k l q.1 q.2 j (.here e st)
 .rw[if_neg q] at h
  exact VC C i d h e f g st
theorem XM (C:Fx)(l:∀h,fk C h->o6 h)(d:Room 100 A)(h:A5 σ x y=aE c)(e:Kk c)(f:Rel ρ s.heap a x)(g:Rel ρ s.heap b y)(st:St C ρ σ s):cD (cm C.prog C.w) A (mU iu a b) (CmpPost C ρ σ s.heap Kk) Ee s:=by
 have i:A.units+64<cLine:=fC (eY (dd rfl) _) d.2.1;unfold A5 at h;by_cases q:hZ (w4 σ x)=bK/\hZ (w4 σ y)=bK
 .rw[if_pos q] at h
  obtain rfl:=dk h;exact eF (rD st.conc f (AU q.1)) λ_ j=>eF (rD st.conc g (AU q.2)) λ_ k=>ne_dataH j k q.1 q.2 i (.here e st)
 .rw[if_neg q] at h
  exact nN h
theorem XN (C:Fx)(h:Yz x y=aE c)(d:Kk c)(e:Rel ρ s.heap a x)(f:Rel ρ s.heap b y)(st:St C ρ σ s):cD (cm C.prog C.w) A (mU .Lt a b) (CmpPost C ρ σ s.heap Kk) Ee s:=by
 rcases x with _|_|i|i|i|_|i|_|_<;>try exact nN h
 .rcases y with _|_|j|j|j|_|j|_|_<;>try exact nN h
  .obtain rfl:=dk h;refine e.cI λ_=>?_;refine f.cI λ_=>?_;exact UK (.here d st)
  .obtain rfl:=dk h;refine e.cI λ_=>?_;refine f.cF λ_ _=>?_;exact UQ (.here d st)
 .rcases y with _|_|j|j|j|_|j|_|_<;>try exact nN h
  .obtain rfl:=dk h;refine e.cF λ_ _=>?_;refine f.cI λ_=>?_;exact UR (.here d st)
  .obtain rfl:=dk h;refine e.cF λ_ _=>?_;refine f.cF λ_ _=>?_;exact AutoFloatOps.lt_0 (.here d st)
theorem XO (C:Fx)(h:YA x y=aE c)(d:Kk c)(e:Rel ρ s.heap a x)(f:Rel ρ s.heap b y)(st:St C ρ σ s):cD (cm C.prog C.w) A (mU .Gt a b) (CmpPost C ρ σ s.heap Kk) Ee s:=by
 rcases x with _|_|i|i|i|_|i|_|_<;>try exact nN h
 rcases y with _|_|j|j|j|_|j|_|_<;>try exact nN h
 obtain rfl:=dk h;refine e.cI λ_=>?_;refine f.cI λ_=>?_;exact UL (.here d st)
theorem XQ (C:Fx)(h:YB x y=aE c)(d:Kk c)(e:Rel ρ s.heap a x)(f:Rel ρ s.heap b y)(st:St C ρ σ s):cD (cm C.prog C.w) A (mU .LtE a b) (CmpPost C ρ σ s.heap Kk) Ee s:=by
 rcases x with _|_|i|i|i|_|i|_|_<;>try exact nN h
 rcases y with _|_|j|j|j|_|j|_|_<;>try exact nN h
 obtain rfl:=dk h;refine e.cI λ_=>?_;refine f.cI λ_=>?_;exact UM (.here d st)
theorem XR (C:Fx)(h:YC x y=aE c)(d:Kk c)(e:Rel ρ s.heap a x)(f:Rel ρ s.heap b y)(st:St C ρ σ s):cD (cm C.prog C.w) A (mU .GtE a b) (CmpPost C ρ σ s.heap Kk) Ee s:=by
 rcases x with _|_|i|i|i|_|i|_|_<;>try exact nN h
 rcases y with _|_|j|j|j|_|j|_|_<;>try exact nN h
 obtain rfl:=dk h;refine e.cI λ_=>?_;refine f.cI λ_=>?_;exact UN (.here d st)
theorem XS (C:Fx)(p:∀h,fk C h->o6 h)(m:Room 100 A)(h:UU x y=aE c)(g:Kk c)(k:Rel ρ s.heap a x)(l:Rel ρ s.heap b y)(st:St C ρ σ s):cD (cm C.prog C.w) A (mU .In a b) (CmpPost C ρ σ s.heap Kk) Ee s:=by
 rcases y with _|_|j|j|j|_|j|_|_<;>try exact nN h
 .rcases x with _|_|i|i|i|_|i|_|_<;>try exact nN h
  obtain rfl:=dk h;refine k.cS λ_=>?_;refine l.cS λ_=>?_;exact UO (.here g st)
 .refine dz (su h) λq d=>?_;subst d
  refine l.cL λ_ _ _ e f r=>eF (jt k q.2.1) λ_ n=>eF (vF r q.1) λ_ o=>SeqAt.in_list_reads (.list e rfl rfl o) n q.1 q.2.1 ?_ (.here g st);have:=pI (lN (gr j)) (gX (DA x));exact fC (cx (eY (cx this q.2.2) _) (cx (c_ (ic ..)) (eY (dd rfl) _))) m.2.1
theorem XT (C:Fx)(h:YD x y=aE c)(d:Kk c)(g:Rel ρ s.heap a x)(k:Rel ρ s.heap b y)(st:St C ρ σ s):cD (cm C.prog C.w) A (mU .Is a b) (CmpPost C ρ σ s.heap Kk) Ee s:=by
 rcases y with _|_|j|j|j|_|j|_|_<;>try exact nN h
 rcases x with _|_|i|i|i|_|i|_|_<;>try exact nN h
 .obtain rfl:=dk h;refine g.cN ?_;refine k.cN ?_;exact wpAny_is_self rfl (.here d st)
 .obtain rfl:=dk h
  exact k.cN<|g.cL λ_ _ _ e f r=>is_none_ne (by intro x;exact F4 x) (.here d st)
theorem PW (C:Fx)(g:∀h,fk C h->o6 h)(i:Room 100 A)(h:gq j σ x y=aE c)(d:Kk c)(e:Rel ρ s.heap a x)(f:Rel ρ s.heap b y)(st:St C ρ σ s):cD (cm C.prog C.w) A (mU j a b) (CmpPost C ρ σ s.heap Kk) Ee s:=by
 induction j with
 |Eq=>exact XK C g i h d e f st|NotEq=>exact XM C g i h d e f st|Lt=>exact XN C h d e f st|Gt=>exact XO C h d e f st|LtE=>exact XQ C h d e f st|GtE=>exact XR C h d e f st|In=>exact XS C g i h d e f st|Is=>exact XT C h d e f st|_=>exact nN h
end
theorem VD {α:Type}{f:List V->Option α}{o:Option O}{v:α}(h:(match o with|some (cM l)=>f l|_=>aT)=aE v):∃l,o=aE (cM l)/\f l=aE v:=by
 rcases o with _|o
 .exact nN h
 rcases o with l|_|_|_|_|_<;>first|exact nN h|exact⟨_,rfl,h⟩
noncomputable def sD (σ:Sg):V->Option Bool
 |dD=>aE cu|dB b=>aE b|aO i=>aE (i != 0)|cC s=>if s.length<=1000000 then aE ((s.length:Int) != 0) else aT|cw l=>if l.length<=1000000 then aE (!l.isEmpty) else aT|aV n=>match σ[n]? with|some (cM l)=>if l.length<=1000000 then aE (!l.isEmpty) else aT|_=>aT
 |_=>aT
noncomputable def p4 (i:Int)(n:Nat):Option Nat:=if-1000000000<=i/\i<=1000000000 then mV i n else aT
noncomputable def k9 (σ:Sg)(x y:V):Option V:=match y with
 |aO i=>match x with
  |cC s=>((p4 i s.length).bind (s.cps[·]?)).map λc=>cC ⟨#[c]⟩
  |dj l=>(p4 i l.length).bind (l[·]?)|cw l=>(p4 i l.length).bind (l[·]?)|aV n=>match σ[n]? with|some (cM l)=>(p4 i l.length).bind (l[·]?)|_=>aT
  |_=>aT
 |_=>aT
noncomputable def mr:Option V->Option (Option Int)
 |none=>aE aT|some dD=>aE aT|some (aO i)=>aE (aE i)|_=>aT
theorem m7 (i):mr (aE (aO i))=aE (aE i):=rfl
theorem m8:mr aT=aE aT:=rfl
noncomputable def gF {α:Type}(l:List α)(lo hi st:Option Int):List α:=(yC (n_ lo hi st l.length).1 (n_ lo hi st l.length).2.1 (n_ lo hi st l.length).2.2).filterMap (l[·]?)
noncomputable def nC (σ:Sg)(x:V)(lo hi st:Option V):Option V:=match mr lo,mr hi,mr st with
 |some a,aE b,aE c=>if c=aE 0 then aT else match x with
  |cC s=>if s.length<=1000000/\c=aT then aE (cC (rp s a b)) else aT|cw l=>if l.length<=1000000 then aE (cw (gF l a b c)) else aT|aV n=>match σ[n]? with|some (cM l)=>if l.length<=1000000 then aE (cw (gF l a b c)) else aT|_=>aT
  |_=>aT
 |_,_,_=>aT
section
variable {s:cz}
theorem VE {α:Type}{c:Prop}{d:Decidable c}{x y:Option α}{v:α}(h:@ite (Option α) c d x y=aE v):(c/\x=aE v)\/(¬c/\y=aE v):=by
 by_cases q:c
 .rw[if_pos q] at h;exact .inl ⟨q,h⟩
 .rw[if_neg q] at h;exact .inr ⟨q,h⟩
theorem S9 {α:Type}{c:Prop}{d:Decidable c}{x:Option α}{v:α}(h:@ite (Option α) c d x aT=aE v):c/\x=aE v:=(VE h).elim id λq=>nN q.2
theorem St.isList (st:St C ρ σ s)(r:Rel ρ s.heap a (aV n))(h:σ[n]?=aE (cM l)):∃x vs k,a=aK x/\s.heap.get? x=aE {cls:=bT "list",data:=cK (gW vs) k}/\Rels ρ s.heap vs l:=cU r.inv λp b e=>dz (st.conc.objs _ _ _ b h) λ_ q=>jX q λvs k c r=>⟨_,vs,k,e,c,r⟩
theorem HS {Kk:Bool->Prop}{c:Bool}(h:sD σ x=aE c)(d:Kk c)(i:Rel ρ s.heap a x)(st:St C ρ σ s):cD (cm C.prog C.w) A (rz a) (JM C ρ σ s.heap Kk) Ee s:=by
 have m:St C ρ σ {s with toks:=s.toks+1+1}:=st.toks (kM (dU _))
 have n:∀{x:cE} {j:List b_} {k:Nat} {l:List V},s.heap.get? x=aE {cls:=bT "list",data:=cK (gW j) k}->Rels ρ s.heap j l->l.length<=1000000->Kk (!l.isEmpty)->
  cD (cm C.prog C.w) A (rz (aK x)) (JM C ρ σ s.heap Kk) Ee s:=λ{x j k l} e r g d=>by
  refine Od (items:=j.toArray) ⟨_,e,rfl,_,rfl⟩ (JB r.len g) ⟨?_,m,Ext.refl _ _ _⟩;have e:j.toArray.isEmpty=l.isEmpty:=by cases r<;>rfl
  refine cn (e ..) ?_;exact d
 rcases x with _|_|_|_|_|_|_|_|_<;>try exact nN h
 .obtain rfl:=dk h;refine i.cN ?_;exact cW ⟨d,st,Ext.refl _ _ _⟩
 .obtain rfl:=dk h;refine i.cB ?_;exact uZ ⟨d,st,Ext.refl _ _ _⟩
 .obtain rfl:=dk h;refine i.cI λ_=>?_;exact UB ⟨d,st,Ext.refl _ _ _⟩
 .refine dz (su h) λg b=>?_;subst b
  refine i.cS λ_=>?_;exact P.truthy_str (zR g) ⟨d,m,Ext.refl _ _ _⟩
 .refine dz (su h) λ_ b=>?_;subst b
  rename_i g
  refine i.cL λ_ _ _ e f r=>?_;exact n e r g d
 .refine cU (VD h) λl p h=>dz (su h) λg b=>?_;subst b
  refine wo (st.isList i p) λx j k o e r=>?_;subst o;exact n e r g d
theorem tI {T id:String}(f:s.TypeIs o T) (g:kr (bT T) "__getitem__"=dq (aE (cH id))) (h:cD (cm prog w) A (pP o i) Q Ee s) (j:subscripted a cu o i=BE k (pP o i)):cD (cm prog w) A (nW c a o i) Q Ee s:=by
 refine cq ?_;refine cq (r4 f g ?_)
 have d:cD (cm prog w) A (subscripted a cu o i) (λr b=>cD (cm prog w) A (O_ c o r>>=λ_=>dq r) Q Ee b) Ee s:=
  cn (j ..)<|wpAny_operating (wM h (λr b e=>cq (y1 (cW e))))
 first
  |exact cW (cq d)
  |exact cq (cW (cq d))
  |exact cq d
theorem A6 (b:∀l u t p,a≠ir l u t p):subscripted a cu o i=BE [o,i] (pP o i):=by rcases a with _|_|_|_|_|_|_|_|_|_|_|_|_|_|_|_|_|_|_|_|_|_|_|_|_|_|_<;>first|rfl|exact absurd rfl (b _ _ _ _)
theorem Rels.at (r:Rels ρ h b c){i:Nat}:c[i]?=aE v->∃a,b[i]?=aE a/\Rel ρ h a v:=r.get
theorem rE (h:p4 i n=aE j):-1000000000<=i/\i<=1000000000/\mV i n=aE j:=by
 unfold p4 at h;split at h
 .rename_i q;exact n5 q.1 q.2 h
 .exact nN h
theorem vG (h:mV i n=aE j):j<n/\(0<=i->j=i.toNat)/\(i<0->-(n:Int)<=i/\j=(i+n).toNat):=by
 unfold mV at h;simp only[eB,decide_eq_true_eq] at h;by_cases z:i<0
 .simp only[if_pos z] at h
  split at h
  .rename_i q;simp only[Oe] at h;subst h;exact n5 ((FY q.1).mpr q.2) (λw=>absurd z (Int.not_lt.mpr w)) (λ_=>⟨Int.add_nonneg_iff_neg_le.mp q.1,rfl⟩)
  .exact nN h
 .simp only[if_neg z] at h
  split at h
  .rename_i q;simp only[Oe] at h;subst h;exact n5 ((FY q.1).mpr q.2) (λ_=>rfl) (λw=>absurd w z)
  .exact nN h
theorem za (C)(e:s.heap.get? o=aE {cls:=bT "list",data:=cK (gW vs) k})(r:Rels ρ s.heap vs l)
 (h:(p4 i l.length).bind (l[·]?)=aE v) (x:Kk v) (st:St C ρ σ s) (y:∀l u t p,c≠ir l u t p):
 cD (cm C.prog C.w) A (nW g c (aK o) (d6 i t)) (PQ C ρ s.heap σ Kk) Ee s:=by
 refine cU (Option.bind_eq_some_iff.mp h) λj m z=>dN (rE m) λB D m=>dN (vG m) λH F q=>cU (r.at z) λb w G=>?_;have n:s.heap.IsList o vs.toArray:=⟨_,e,rfl,_,rfl⟩;have a:=r.len;refine tI n.typeIs slot_list_getitem.lookup ?_ (A6 y);have f:=PE.sc (s:=s) x G st rfl rfl rfl (d9 _);by_cases d:0<=i
 .exact wpAny_getItem_list n d (qV D (dd rfl)) (by refine ie (F d ..) ?_;simpa using w) f
 .have d:=Int.not_le.mp d
  refine wpAny_getItem_list_neg n d (by refine cn (jw ..) (cn (a ..) ?_);exact(q d).1) (lQ (dd rfl) B) ?_ f
  have:=(q d).2;simp only[jw,a];refine ie (this ..) ?_
  simpa using w
theorem K6 (C:Fx){Kk:V->Prop}{g d:Expr}(h:k9 σ x y=aE v)(o:Kk v)(q:Rel ρ s.heap a x)(z:Rel ρ s.heap b y)(w:∀l u t p,d≠ir l u t p)(st:St C ρ σ s):cD (cm C.prog C.w) A (nW g d a b) (PQ C ρ s.heap σ Kk) Ee s:=by
 rcases y with _|_|i|_|_|_|_|_|_<;>try exact nN h
 .refine z.cI λt=>?_
  rcases x with _|_|_|_|B|_|_|_|_<;>try exact nN h
  .refine cU (Option.map_eq_some_iff.mp h) λc M D=>?_;subst D
   refine cU (Option.bind_eq_some_iff.mp M) λj m G=>dN (rE m) λH I m=>q.cS λ_=>tI (BA s ..) F.slot_str_getitem.lookup (P.getItem_str (by simp;exact⟨lQ (dd rfl) H,qV I (dd rfl)⟩) (Option.bind_eq_some_iff.mpr ⟨j,m,G⟩) (PE.sc o (gR ..) st rfl rfl rfl (dU _))) (A6 w)
  .refine cU (Option.bind_eq_some_iff.mp h) λj m G=>dN (rE m) λH I m=>q.cT λ_ _ _ e f r=>cU (r.at G) λb N z=>?_
   have n:=r.len;exact tI (T:="tuple") ⟨_,e,rfl⟩ slot_tuple_getitem.lookup (getItem_tuple ⟨_,e,rfl,_,rfl⟩ (lQ (dd rfl) H) (qV I (dd rfl)) (by simpa [n] using m) (by simpa using N) (PE.sc o z st rfl rfl rfl (d9 _))) (A6 w)
  .refine q.cL λ_ _ _ e f r=>?_;exact za C e r h o st w
  .refine cU (VD h) λl J h=>wo (st.isList q J) λx Q k L e r=>?_;subst L
   exact za C e r h o st w
theorem rF (h:mr o=aE p)(r:Rel ρ s.heap a (o.getD dD)):rA a p:=by
 rcases o with _|v
 .obtain rfl:=dk h;obtain rfl:=r.inv;exact .none
 rcases v with _|_|_|_|_|_|_|_|_<;>try exact nN h
 .obtain rfl:=dk h;obtain rfl:=r.inv;exact .none
 .obtain rfl:=dk h;refine eF r.inv λ_ b=>?_;subst b;exact .int _ _
theorem Rels.pick (r:Rels ρ h c d):∀(a:List Nat),Rels ρ h (a.filterMap (c[·]?)) (a.filterMap (d[·]?)):=by
 intro g;induction g with
 |nil=>exact fB|cons j a f=>
  exact by
   simp only[uU,uU];induction e:d[j]? with
   |none=>
    have:c[j]?=aT:=by rw[Nj] at e ⊢;simp only[r.len];exact e
    simp only[this];exact f
   |some v=>refine cU (r.at e) λb i k=>?_;simp only[i];exact fo k (f)
theorem A7 {lo hi:Option Expr}{st:Option Expr}:∃a,subscripted (ir lo hi st q) cu o i=BE a (pP o i):=by rcases st with _|_<;>exact⟨_,rfl⟩
def tJ (C:Fx)(ρ:Own)(σ:Sg)(h:cQ)(Kk:V->Prop):b_->cz->Prop:=λr a=>∃v,Kk v/\JL ρ h a.heap r v/\St C ρ σ a/\∀b o,h.get? b=aE o->a.heap.get? b=aE o
theorem Ca (C:Fx){Kk:V->Prop}{lo hi st:Option Expr}(e:s.heap.get? f=aE {cls:=bT "list",data:=cK (gW vs) k})
 (r:Rels ρ s.heap vs l) (p:l.length<=1000000) (t:rA u p1) (v:rA w d) (x:rA y c) (z:c≠aE 0) (g:s.heap.get? i=aE {cls:=bT "slice",data:=cY #[u,w,y]})
 (B:Kk (cw (gF l p1 d c))) (h:St C ρ σ s):
 cD (cm C.prog C.w) A (nW j (ir lo hi st q) (aK f) (aK i)) (tJ C ρ σ s.heap Kk) Ee s:=by
 obtain⟨D,F⟩:=A7 (lo:=lo) (hi:=hi) (st:=st) (q:=q) (o:=aK f) (i:=aK i);have m:s.heap.IsList f vs.toArray:=⟨_,e,rfl,_,rfl⟩;have a:=r.len;refine tI m.typeIs slot_list_getitem.lookup (wpAny_getItem_list_slice m ⟨_,g,rfl,rfl⟩ t v x z ?_ (by refine cn (iK ..) ?_;simp;exact d8 (jY 0x1c00001e8481c0438042438258500008000007 rfl p (c_ a)))) F
 have n:Kp s.heap (s.heap.push {cls:=bT "list",data:=cK (tj vs.toArray p1 d c)}):=λb o e=>dK _ e;have G:tj vs.toArray p1 d c=(gF vs p1 d c).toArray:=by unfold tj gF;simp
 refine⟨_,B,⟨s.heap.objs.size,gF vs p1 d c,0,rfl,eG _,?_,?_⟩,h.keep0 n,n⟩
 .refine cn (G ..) ?_;exact fg _ rfl
 .unfold gF;refine cn (a ..) ?_;exact r.pick _
theorem PY (C){lo hi st:Option Expr}(h:nC σ x l u t=aE v)(H:Kk v)(I:Rel ρ s.heap a x) (Y:Rel ρ s.heap Z (l.getD dD)) (r2:Rel ρ s.heap vu (u.getD dD)) (r3:Rel ρ s.heap vt (t.getD dD)) (d:s.heap.get? i=aE {cls:=bT "slice",data:=cY #[Z,vu,vt]}) (m:St C ρ σ s):
 cD (cm C.prog C.w) A (nW J (ir lo hi st q) a (aK i)) (tJ C ρ σ s.heap Kk) Ee s:=by
 delta nC at h
 generalize e1:mr l=o1 at h;rcases o1 with _|P
 .exact nN h
 generalize e2:mr u=o2 at h;rcases o2 with _|R
 .exact nN h
 generalize e3:mr t=o3 at h;rcases o3 with _|p3
 .exact nN h
 have L:=rF e1 Y;have y:=rF e2 r2;have M:=rF e3 r3;rcases VE h with⟨_,g⟩ |⟨U,g⟩
 .exact nN g
 clear h;rcases x with _|_|_|_|c|_|_|_|_<;>try exact nN g
 .refine dz (su g) λp j=>?_;subst j
  obtain⟨p,rfl⟩:=p;cases M
  refine I.cS λt=>?_;obtain⟨a0,ho⟩:=A7 (lo:=lo) (hi:=hi) (st:=st) (q:=q) (o:=cV c t) (i:=aK i);have z:∀(B D:Option (Int×Tok)),s.heap.IsSlice i B D aT->B.map (·.1)=P->D.map (·.1)=R->cD (cm C.prog C.w) A (pP (cV c t) (aK i)) (tJ C ρ σ s.heap Kk) Ee s:=λB D hs q1 q2=>by
   refine wM (dP (wpAny_getItem_str_slice (Q:=λv W=>∃G X,v=cV (rp c P R) G/\W={s with toks:=X}) (l:=B) (u:=D) (st:=aT) hs rfl ?_)) (λv W q=>by obtain⟨ht,G,X,rfl,rfl⟩:=q;exact⟨_,H,gR _ _,m.toks ht,λ_ _=>id⟩)
   subst q1 q2;exact post_val_or_str ⟨cx (Txt.slice_le c ..) (by rw[iK];exact cx p (ej ..)),λG k=>⟨G,k,rfl,rfl⟩⟩
  refine tI (BA s ..) F.slot_str_getitem.lookup ?_ ho;induction L with
  |none=>induction y with
   |none=>exact z aT aT ⟨_,d,rfl,rfl⟩ rfl rfl|int b u=>exact z aT (aE (b,u)) ⟨_,d,rfl,rfl⟩ rfl rfl
  |int a w=>induction y with
   |none=>exact z (aE (a,w)) aT ⟨_,d,rfl,rfl⟩ rfl rfl|int b u=>exact z (aE (a,w)) (aE (b,u)) ⟨_,d,rfl,rfl⟩ rfl rfl
 .refine dz (su g) λp j=>?_;subst j
  refine I.cL λ_ _ _ e f r=>?_;exact Ca C e r p L y M U d H m
 .rename_i n
  dsimp only[] at g;generalize hn:σ[n]?=o at g;rcases o with _|o
  .exact nN g
  rcases o with l|_|_|_|_|_<;>try exact nN g
  refine dz (su g) λp j=>?_;subst j;refine wo (m.isList I hn) λx vs k N e r=>?_;subst N;exact Ca C e r p L y M U d H m
end
noncomputable def uu (σ:Sg):V->Option Nat
 |cC s=>if s.length<=1000000 then aE s.length else aT|cw l=>if l.length<=1000000 then aE l.length else aT|aV n=>match σ[n]? with|some (cM l)=>if l.length<=1000000 then aE l.length else aT|_=>aT
 |_=>aT
noncomputable def qi:List V->Option (List Int)
 |[]=>aE []|aO i::l=>(qi l).map (i::·)|_=>aT
noncomputable def sE (a b c:UInt64):UInt64:=if fm b a==aE .gt then(if fm c b==aE .gt then c else b) else(if fm c a==aE .gt then c else a)
noncomputable def wR (a b c:UInt64):UInt64:=if fm b a==aE .lt then(if fm c b==aE .lt then c else b) else(if fm c a==aE .lt then c else a)
noncomputable def UV (vs:List V)(f:V->Option V):Option V:=match vs with|[x]=>f x|_=>aT
noncomputable def Xn (x:V)(f:Int->Option V):Option V:=match x with|aO i=>f i|_=>aT
noncomputable def Xo (x:V)(f:UInt64->Option V):Option V:=match x with|a_ i=>f i|_=>aT
noncomputable def YE (x:V)(f:Str->Option V):Option V:=match x with|cC i=>f i|_=>aT
noncomputable def YF (x:V)(f:List V->Option V):Option V:=match x with|cw i=>f i|_=>aT
noncomputable def Xp (vs:List V)(f:UInt64->UInt64->UInt64->Option V):Option V:=match vs with|[x,y,z]=>Xo x λa=>Xo y λb=>Xo z λc=>f a b c|_=>aT
theorem qu (h:UV vs f=aE v):∃x,vs=[x]/\f x=aE v:=by
 induction vs with
 |nil=>cases h|cons x l=>induction l with
  |nil=>exact iB x rfl h|cons=>cases h
theorem wU (h:Xn x f=aE v):∃i,x=aO i/\f i=aE v:=by cases x<;>first|exact⟨_,rfl,h⟩ |cases h
theorem wV (h:Xo x f=aE v):∃i,x=a_ i/\f i=aE v:=by cases x<;>first|exact⟨_,rfl,h⟩ |cases h
theorem K7 (h:YE x f=aE v):∃i,x=cC i/\f i=aE v:=by cases x<;>first|exact⟨_,rfl,h⟩ |cases h
theorem K8 (h:YF x f=aE v):∃i,x=cw i/\f i=aE v:=by cases x<;>first|exact⟨_,rfl,h⟩ |cases h
theorem Cb (h:Xp vs f=aE v):∃a b c,vs=[a_ a,a_ b,a_ c]/\f a b c=aE v:=by
 rcases vs with _|⟨x,_|⟨y,_|⟨z,_|⟨w,l⟩⟩⟩⟩
 .cases h
 .cases h
 .cases h
 .refine cU (wV h) λa d h=>?_;subst d
  refine cU (wV h) λb d h=>?_;subst d;refine cU (wV h) λc d h=>?_;subst d;exact⟨a,b,c,rfl,h⟩
 .cases h
noncomputable def VF:V->Option V
 |dB b=>aE (aO (if b then 1 else 0))|a_ f=>if pJ f then aE (aO (mW mP f)) else aT|_=>aT
noncomputable def SY (vs:List V):Option V:=match vs with
 |[x,y]=>Xn x λa=>Xn y λb=>aE (aO (if b>a then b else a))
 |_=>Xp vs λa b c=>aE (a_ (sE a b c))
theorem HT (h:SY vs=aE v):(∃a b,vs=[aO a,aO b]/\aO (if b>a then b else a)=v)\/∃a b c,vs=[a_ a,a_ b,a_ c]/\a_ (sE a b c)=v:=by
 have f:Xp vs (λa b c=>aE (a_ (sE a b c)))=aE v->∃a b c,vs=[a_ a,a_ b,a_ c]/\a_ (sE a b c)=v:=λh=>let ⟨a,b,c,e,h⟩:=Cb h;⟨a,b,c,e,dk h⟩
 rcases vs with _|⟨x,_|⟨y,_|⟨z,l⟩⟩⟩
 .cases h
 .cases h
 .refine cU (wU h) λa d h=>?_;subst d
  refine cU (wU h) λb d h=>?_;subst d;exact .inl ⟨a,b,rfl,dk h⟩
 .exact .inr (f h)
noncomputable def qn (k:Nat)(vs:List V)(σ:Sg):Option V:=match k with
 |0=>UV vs λx=>(uu σ x).map λn=>aO n
 |1=>UV vs λx=>YF x λl=>if l.length<=1000000 then(qi l).map λd=>aO d.sum else aT
 |2=>UV vs λx=>Xn x λa=>aE (aO (if a<0 then-a else a))
 |3=>UV vs VF|4=>UV vs λx=>YE x λs=>if s.length<=1000000 then aE (cw (kT s)) else aT
 |5=>SY vs|6=>Xp vs λa b c=>aE (a_ (wR a b c))
 |_=>aT
theorem PZ:∀{k:Nat},qn k vs σ=aE v->k<=6
 |0,_=>by decide
 |1,_=>by decide
 |2,_=>by decide
 |3,_=>by decide
 |4,_=>by decide
 |5,_=>by decide
 |6,_=>by decide
 |_+7,h=>nomatch (show(aT:Option V)=aE v from h)
noncomputable def Pt:Nat->b_
 |0=>cH "len"|1=>cH "sum"|2=>cH "abs"|3=>bT "int"|4=>bT "list"|5=>cH "max"|6=>cH "min"|_=>cG
theorem Rels.ints (r:Rels ρ h b l):qi l=aE a->IntsAre b a:=r.ind (P:=λb l=>∀a,qi l=aE a->IntsAre b a) (λ_ e=>by cases e;exact .nil) (λ_ v _ _ r _ d a e=>by
  rcases v with _|_|i|_|_|_|_|_|_<;>try exact nN e
  refine r.cI λt=>cU (Option.map_eq_some_iff.mp e) λg f c=>?_;subst c;exact .cons i t (d _ f)) a
theorem Rels.one (r:Rels ρ h c [x]):∃a,c=[a]/\Rel ρ h a x:=by refine lF r.inv λb d e r f=>?_;have g:d=[]:=f.inv;exact iB b (cn (e ..) (cn (g ..) rfl)) r
theorem Rels.two (r:Rels ρ h c [x,y]):∃a b,c=[a,b]/\Rel ρ h a x/\Rel ρ h b y:=lF r.inv λa c e r d=>cU d.one λb f g=>BN a b (cn (e ..) (cn (f ..) rfl)) r g
theorem Rels.three (r:Rels ρ h f [x,y,z]):∃a b c,f=[a,b,c]/\Rel ρ h a x/\Rel ρ h b y/\Rel ρ h c z:=lF r.inv λa f e r g=>lF g.two λb c i j d=>SD a b c (cn (e ..) (cn (i ..) rfl)) r j d
theorem DX (k:ItemsOf (SignAt x) f x.cps.size):Rels ρ h f.toList (kT x):=by
 have g:∀(b:List b_) (a:List Nat),b.length=a.length->(∀(j:Nat) (v:b_),b[j]?=aE v->∃c u,a[j]?=aE c/\v=tm ⟨#[c]⟩ u)->Rels ρ h b (a.map λc=>cC ⟨#[c]⟩):=by
  intro b;induction b with
  |nil=>intro a d _;cases a with|nil=>exact fB|cons c a=>cases d
  |cons v b m=>
   intro a d l;cases a with
   |nil=>cases d|cons c a=>
    refine jX (l 0 v rfl) λp u e i=>?_;subst i;cases e
    exact fo (gR ..) (m a (vk d) λj w n=>l (j+1) w (by simpa using n))
 exact g _ _ (by simpa using k.1) λj v o=>by
  obtain⟨c,u,e,rfl⟩:=k.2 j v (by simpa using o)
  exact⟨c,u,by simpa using e,rfl⟩
theorem p6:∀(i:Nat) (v:b_),(#[dm a t,dm b u,dm c x]:Array b_)[i]?=aE v->∃t,v=dm ([a,b,c].getD i 0) t
 |0,_,h=>⟨t,(dk h).symm⟩|1,_,h=>⟨u,(dk h).symm⟩|2,_,h=>⟨x,(dk h).symm⟩|_+3,_,h=>nN h
theorem Sa (g:UInt64->UInt64->Bool)(e:t≠0)(f:u≠0)(d:x≠0) (h:(#[dm a t,dm b u,dm c x]:Array b_)[argBest (λi j=>g ([a,b,c].getD i 0) ([a,b,c].getD j 0)) 2]?=aE v):∃t,t≠0/\v=dm (if g b a then(if g c b then c else b) else(if g c a then c else a)) t:=by
 have h:(#[dm a t,dm b u,dm c x]:Array b_)[(if g c ([a,b,c].getD (if g b a then 1 else 0) 0) then 2 else if g b a then 1 else 0:Nat)]?=aE v:=h
 revert h;generalize g b a=p;rcases p with _|_
 .show(#[dm a t,dm b u,dm c x]:Array b_)[(if g c a then 2 else 0:Nat)]?=aE v->∃t,t≠0/\v=dm (if g c a then c else a) t
  generalize g c a=p;rcases p with _|_
  .exact λh=>⟨t,e,(dk h).symm⟩
  .exact λh=>⟨x,d,(dk h).symm⟩
 .show(#[dm a t,dm b u,dm c x]:Array b_)[(if g c b then 2 else 1:Nat)]?=aE v->∃t,t≠0/\v=dm (if g c b then c else b) t
  generalize g c b=p;rcases p with _|_
  .exact λh=>⟨u,f,(dk h).symm⟩
  .exact λh=>⟨x,d,(dk h).symm⟩
theorem K9 {h:cQ}(a:d∈[h.objs.size+1,h.objs.size]):d<((h.push b).push c).objs.size:=by
 refine cn (lO ..) (cn (lO ..) ?_);rcases List.mem_cons.mp a with rfl|a
 .exact jG _
 .obtain rfl:=List.mem_singleton.mp a;exact yj (jG _)
theorem wW (q:A.handled=aT)(r:t≠0)(z:u≠0)(B:x≠0) (h:∀h' k t,t≠0->(Kp s.heap h')->Q (dm (sE a b c) t) {s with heap:=h',toks:=k}):
 cD (cm prog w) A (call (cH "max") [dm a t,dm b u,dm c x]) Q Ee s:=by
 have n:(s.heap.push {cls:=bT "tuple",data:=cK #[dm a t,dm b u,dm c x]}).IsTuple s.heap.objs.size #[dm a t,dm b u,dm c x]:=⟨_,fg _ rfl,rfl,0,rfl⟩;refine call_max_three (Fn n ?_);have f:(s.heap.push {cls:=bT "tuple",data:=cK #[dm a t,dm b u,dm c x]}).objs.size=s.heap.objs.size+1:=lO ..
 refine⟨_,[_,s.heap.objs.size],[_],_,_,_,λi j=>fm ([a,b,c].getD i 0) ([a,b,c].getD j 0)==aE .gt,rfl,Walks.tuple (A:=A.in1) q _ s.heap.objs.size (by refine cn (f ..) ?_;exact jI (jG _)) #[dm a t,dm b u,dm c x],
  ⟨⟨_,fg _ rfl,rfl,rfl⟩,n.push _⟩,λd p=>?_,ek _,?_,λv h' k C D=>?_⟩
 .rw[f] at p;exact K9 p
 .intro i j F G s Q Ee H I J
  obtain⟨P,rfl⟩:=p6 i F H;obtain⟨R,rfl⟩:=p6 j G I;exact AutoFloatOps.gt_0 J
 .have g:Kp s.heap h':=λd o e=>by
   refine D d o (λl=>?_) (dK _ (dK _ e));rcases List.mem_cons.mp l with L|l
   .have:=jk e;rw[L,f] at this;exact iC _ (qY this)
   .cases l
  have M:∃t,t≠0/\v=dm (sE a b c) t:=Sa (λx y=>fm x y==aE .gt) r z B C;refine cU M λt N m=>?_;subst m;exact h h' k t N g
theorem wX (q:A.handled=aT)(r:t≠0)(z:u≠0)(B:x≠0) (h:∀h' k t,t≠0->(Kp s.heap h')->Q (dm (wR a b c) t) {s with heap:=h',toks:=k}):
 cD (cm prog w) A (call (cH "min") [dm a t,dm b u,dm c x]) Q Ee s:=by
 have n:(s.heap.push {cls:=bT "tuple",data:=cK #[dm a t,dm b u,dm c x]}).IsTuple s.heap.objs.size #[dm a t,dm b u,dm c x]:=⟨_,fg _ rfl,rfl,0,rfl⟩;refine call_min_three (Fn n ?_);have f:(s.heap.push {cls:=bT "tuple",data:=cK #[dm a t,dm b u,dm c x]}).objs.size=s.heap.objs.size+1:=lO ..
 refine⟨_,[_,s.heap.objs.size],[_],_,_,_,λi j=>fm ([a,b,c].getD i 0) ([a,b,c].getD j 0)==aE .lt,rfl,Walks.tuple (A:=A.in1) q _ s.heap.objs.size (by refine cn (f ..) ?_;exact jI (jG _)) #[dm a t,dm b u,dm c x],
  ⟨⟨_,fg _ rfl,rfl,rfl⟩,n.push _⟩,λd p=>?_,ek _,?_,λv h' k C D=>?_⟩
 .rw[f] at p;exact K9 p
 .intro i j F G s Q Ee H I J
  obtain⟨P,rfl⟩:=p6 i F H;obtain⟨R,rfl⟩:=p6 j G I;exact AutoFloatOps.lt_0 J
 .have g:Kp s.heap h':=λd o e=>by
   refine D d o (λl=>?_) (dK _ (dK _ e));rcases List.mem_cons.mp l with L|l
   .have:=jk e;rw[L,f] at this;exact iC _ (qY this)
   .cases l
  have M:∃t,t≠0/\v=dm (wR a b c) t:=Sa (λx y=>fm x y==aE .lt) r z B C;refine cU M λt N m=>?_;subst m;exact h h' k t N g
theorem VG (C)(D:A.handled=aT)(p:qn 0 vs σ=aE v)(t:Kk v)(y:Rels ρ s.heap z vs)(st:St C ρ σ s):cD (cm C.prog C.w) A (call (Pt 0) z) (PQ C ρ s.heap σ Kk) Ee s:=by
 have two:s.toks<=s.toks+1+1:=kM (dU _);refine cU (qu p) λx b h=>?_;subst b;clear p;refine cU (Option.map_eq_some_iff.mp h) λn u i=>?_;subst i;refine cU y.one λa b r=>?_;subst b
 have d:∀{x:cE} {vs:List b_} {k:Nat} {l:List V},s.heap.get? x=aE {cls:=bT "list",data:=cK (gW vs) k}->Rels ρ s.heap vs l->l.length<=1000000->l.length=n->
  cD (cm C.prog C.w) A (call (cH "len") [aK x]) (PQ C ρ s.heap σ Kk) Ee s:=λ{x vs k l} e r c B=>by
  refine len_list (items:=vs.toArray) ⟨_,e,rfl,_,rfl⟩ (JB r.len c) ?_;have e:((vs.toArray.size:Nat):Int)=(n:Int):=(congrArg Gn r.len).trans B;exact cn (e ..)<|PE.sc t (fq ..) st rfl rfl rfl two
 refine cU (Option.bind_eq_some_iff.mp u) λw g e=>?_;clear u;obtain rfl:=dk e;rcases x with _|_|_|_|q|_|l|m|_<;>try exact nN g
 .refine dz (su (show(if q.length<=1000000 then aE q.length else aT)=aE w from g)) λc e=>?_;subst e
  refine r.cS λ_=>?_;exact P.len_str (zR c) (PE.sc t (fq ..) st rfl rfl rfl two)
 .refine dz (su (show(if l.length<=1000000 then aE l.length else aT)=aE w from g)) λc e=>?_;subst e
  refine r.cL λ_ _ _ e f r=>?_;exact d e r c rfl
 .have g:(match σ[m]? with|some (cM l)=>if l.length<=1000000 then aE l.length else aT|_=>aT)=aE w:=g
  generalize j:σ[m]?=o at g;rcases o with _|o
  .exact nN g
  cases o<;>try exact nN g
  rename_i l
  refine dz (su (show(if l.length<=1000000 then aE l.length else aT)=aE w from g)) λc e=>?_;subst e
  obtain⟨x,vs,k,rfl,e,r⟩:=st.isList r j;exact d e r c rfl
theorem VH (C)(y:A.handled=aT)(n:qn 1 vs σ=aE v)(z:Kk v)(B:Rels ρ s.heap D vs)(st:St C ρ σ s):cD (cm C.prog C.w) A (call (Pt 1) D) (PQ C ρ s.heap σ Kk) Ee s:=by
 refine cU (qu n) λx b o=>?_;subst b;refine cU (K8 o) λl b h=>?_;subst b;clear n o
 .refine dz (S9 h) λ_ g=>?_
  clear h;refine cU (Option.map_eq_some_iff.mp g) λk d m=>?_;subst m;refine cU B.one λa b r=>?_;subst b;refine r.cL λ_ _ _ e f r=>?_;have p:=r.ints d;obtain⟨F,t⟩:=p.allInts.items;have u:=(show s.heap.IsList _ _ from⟨_,e,rfl,_,rfl⟩);rw[t] at u;refine wM (dP (sum_intListG (Q:=λv w=>∃d i j,v=d6 k.sum j/\w={s with heap:=d,toks:=i}/\(Kp s.heap d)) y u λd i j c=>⟨d,i,j,?_,rfl,c⟩)) (λv w q=>?_)
  .have G:k=F.toList.map (·.1):=
    ie (nums_intItems ..) (ie (t ..) ((show numsOf _=k from p.numsOf).symm))
   exact cn (preSum_eq ..) (cn ((lY (by simp)) ..) (cn (G ..) rfl))
  .obtain⟨H,d,i,j,rfl,rfl,c⟩:=q
   exact⟨ρ,σ,_,⟨rfl,z⟩,fq _ _,st.keeps c H,Ext.of_all c⟩
theorem VI (C)(m:A.handled=aT)(d:qn 2 vs σ=aE v)(g:Kk v)(j:Rels ρ s.heap k vs)(st:St C ρ σ s):cD (cm C.prog C.w) A (call (Pt 2) k) (PQ C ρ s.heap σ Kk) Ee s:=by
 refine cU (qu d) λx b e=>?_;subst b;refine cU (wU e) λi b h=>?_;subst b;clear d e;obtain rfl:=dk h;refine cU j.one λa b r=>?_;subst b;refine r.cI λ_=>wM (dP (call_abs_int (Q:=λv f=>∃u c,v=d6 _ u/\f={s with toks:=c}) λu c=>⟨u,c,rfl,rfl⟩)) (λv f q=>?_);obtain⟨l,u,c,rfl,rfl⟩:=q;exact PE.sc g (fq ..) st rfl rfl rfl l
theorem VJ (C)(j:A.handled=aT)(c:qn 3 vs σ=aE v)(d:Kk v)(f:Rels ρ s.heap k vs)(st:St C ρ σ s):cD (cm C.prog C.w) A (call (Pt 3) k) (PQ C ρ s.heap σ Kk) Ee s:=by
 refine cU (qu c) λx b h=>?_;subst b;clear c;rcases x with _|_|_|_|_|_|_|_|_<;>first|(cases h;done)|skip
 .cases h
  refine cU f.one λa b r=>?_;subst b;exact r.cB<|call_int_bool (PE.sc d (fq ..) st rfl rfl rfl (dU _))
 .rename_i g
  dsimp only[VF] at h;split at h<;>cases h
  rename_i i
  refine cU f.one λa b r=>?_;subst b;exact r.cF λ_ _=>Flt.call_int_float3 j (λq=>absurd i (by rcases Flt.three g with⟨e,_⟩ |⟨_,e,_⟩ |⟨_,_,_,e,_⟩ <;>simp[pJ,P9,e] at q ⊢)) (λq=>absurd i (by rcases Flt.three g with⟨e,_⟩ |⟨_,e,_⟩ |⟨_,_,_,e,_⟩ <;>simp[pJ,t5,e] at q ⊢)) λ_=>PE.sc d (fq ..) st rfl rfl rfl (dU _)
theorem VK (C)(u:A.handled=aT)(m:qn 4 vs σ=aE v)(w:Kk v)(y:Rels ρ s.heap z vs)(st:St C ρ σ s):cD (cm C.prog C.w) A (call (Pt 4) z) (PQ C ρ s.heap σ Kk) Ee s:=by
 refine cU (qu m) λx c o=>?_;subst c;refine cU (K7 o) λf c h=>?_;subst c;clear m o;refine dz (su h) λB e=>?_;subst e;clear h;refine cU y.one λa c r=>?_;subst c;refine r.cS λ_=>?_
 rename_i t
 refine wM (dP (call_list_str (Q:=λv p=>∃g j b i,v=aK s.heap.objs.size/\p={s with heap:=g,toks:=j}/\(Kp s.heap g)/\
  g.get? s.heap.objs.size=aE {cls:=bT "list",dict:=aT,data:=cK b i,slots:=#[]}/\ItemsOf (SignAt f) b f.cps.size) u f t (λg j b i d k l=>⟨g,j,b,i,rfl,rfl,d,k,l⟩) (by refine cn (iK ..) ?_;exact cx B (dd rfl)))) (λv p q=>?_)
 obtain⟨D,g,j,b,i,rfl,rfl,d,k,l⟩:=q;have X:Ext [] ρ ρ s.heap g:=Ext.of_all d;exact⟨ρ,σ,_,⟨rfl,w⟩,nr (vs:=b.toList) (n:=i) (k) (FreeH.new st.conc (eG _)) (DX l),st.keeps d D,X⟩
theorem VL (C)(p:A.handled=aT)(z:qn 5 vs σ=aE v)(w:Kk v)(y:Rels ρ s.heap B vs)(st:St C ρ σ s):cD (cm C.prog C.w) A (call (Pt 5) B) (PQ C ρ s.heap σ Kk) Ee s:=by
 rcases HT (show SY vs=aE v from z) with⟨i,j,rfl,h⟩ |⟨_,_,_,rfl,h⟩
 .subst h
  refine lF y.two λa b l r m=>?_;subst l;refine r.cI λt=>?_;refine m.cI λu=>?_;refine wM (dP (max_two_ints (Q:=λv g=>∃e f,v=(if j>i then d6 j u else d6 i t)/\g={s with heap:=e,toks:=f}/\(Kp s.heap e)) p λe f d=>⟨e,f,rfl,rfl,d⟩)) (λv g q=>?_)
  obtain⟨k,e,f,rfl,rfl,d⟩:=q;refine⟨ρ,σ,_,⟨rfl,w⟩,?_,st.keeps d k,Ext.of_all d⟩;split<;>exact fq _ _
 .subst h
  refine tA y.three λa b c n r m o=>?_;subst n;refine r.cF λt D=>?_;refine m.cF λu F=>?_;refine o.cF λx G=>?_;refine wM (dP (wW (Q:=λv g=>∃e f,(∃t,t≠0/\v=dm (sE ..) t)/\g={s with heap:=e,toks:=f}/\(Kp s.heap e)) p D F G λe f t k d=>⟨e,f,⟨t,k,rfl⟩,rfl,d⟩)) (λv g q=>?_);obtain⟨k,e,f,⟨t,H,rfl⟩,rfl,d⟩:=q;exact⟨ρ,σ,_,⟨rfl,w⟩,gC _ _ H,st.keeps d k,Ext.of_all d⟩
theorem VM (C)(m:A.handled=aT)(k:qn 6 vs σ=aE v)(n:Kk v)(o:Rels ρ s.heap p vs)(st:St C ρ σ s):cD (cm C.prog C.w) A (call (Pt 6) p) (PQ C ρ s.heap σ Kk) Ee s:=by
 refine ud (Cb k) λ_ _ _ e h=>?_;subst e;clear k;obtain rfl:=dk h;refine tA o.three λa b c e r w i=>?_;subst e;refine r.cF λt y=>?_;refine w.cF λu z=>?_;refine i.cF λx B=>?_;refine wM (dP (wX (Q:=λv l=>∃f g,(∃t,t≠0/\v=dm (wR ..) t)/\l={s with heap:=f,toks:=g}/\(Kp s.heap f)) m y z B λf g t j d=>⟨f,g,⟨t,j,rfl⟩,rfl,d⟩)) (λv l q=>?_);obtain⟨j,f,g,⟨t,D,rfl⟩,rfl,d⟩:=q;exact⟨ρ,σ,_,⟨rfl,n⟩,gC _ _ D,st.keeps d j,Ext.of_all d⟩
theorem P_ (C)(a:A.handled=aT)(b:Kk v)(c:Rels ρ s.heap d vs)(st:St C ρ σ s):∀{k:Nat},qn k vs σ=aE v->cD (cm C.prog C.w) A (call (Pt k) d) (PQ C ρ s.heap σ Kk) Ee s
 |0,h=>VG C a h b c st|1,h=>VH C a h b c st|2,h=>VI C a h b c st|3,h=>VJ C a h b c st|4,h=>VK C a h b c st|5,h=>VL C a h b c st|6,h=>VM C a h b c st|_+7,h=>nomatch (show(aT:Option V)=aE v from h)
section
open Builtin
theorem HU {items}(k:A.handled=aT) (c:s.heap.IsListIter d l i) (n:s.heap.IsList l items) (p:items[i]?=aT) (q:∀h',l8 d s.heap h'->(∃o,h'.get? d=aE o)->Q aT {s with heap:=h'}):cD (cm prog w) A (h_ (aK d)) Q Ee s:=by
 refine hR (id c) λo e r f=>hR n λt g _ h=>?_;obtain⟨u,j⟩:=h
 refine cq (l6 (oQ (name:=fE "__next__") c.typeIs qX
  (kO qX c.typeIs B4 ?_ (B5 _))))
 show cD _ _ (js (aK d) 0>>=_) _ _ s;refine cq (fi e f (x:=aK l) rfl ?_);refine cn ((if_neg (show ¬((o7 l==jq)=bK) from dF)) ..) ?_;refine cq (fi e f (x:=d6 i 0) rfl ?_);refine cq (iY g j ?_);simp only[mK,p];refine cq (ip (cq (r8 e f (ek _) ?_)));refine cq ?_;refine cq (jy (cq (m:=jn ..) (iL (a:=jq) (by first|rfl|(dsimp only[jn];rfl)) (jy ?_ (by size_fits)))) (by size_fits))
 refine cq (rg ?_);refine cn ((show A.in1.handled=aT from k) ..)<|wpAny_bind (cW (rj ?_))
 refine cq (kl (T:="StopIteration") (b:=bK) ⟨_,fg _ rfl,rfl⟩ r9 ?_);exact cW (q _ (((nk ..).extBut.push _).push _) ⟨_,dK _ (dK _ (oR _ e (qR (nQ f _))))⟩)
theorem DY (g:A.handled=aT) (c:s.heap.IsStrIter d "str_ascii_iterator" x t i) (h:x.cps[i]?=aT) (j:∀h',l8 d s.heap h'->(∃o,h'.get? d=aE o)->Q aT {s with heap:=h'}):cD (cm prog w) A (h_ (aK d)) Q Ee s:=by
 refine hR (id c) λo e k f=>?_;dsimp only[h_]
 refine cq (l6 (oQ (name:=fE "__next__") c.typeIs N7
  (kO N7 c.typeIs F.entry_str_ascii_iterator_next ?_ (F.args_str_ascii_iterator_next_1 _))))
 show cD _ _ (js (aK d) 0>>=_) _ _ s;refine cq (fi e f (x:=cV x t) rfl ?_);show cD _ _ (js (aK d) 1>>=_) _ _ s;refine cq (fi e f (x:=d6 i 0) rfl ?_);simp only[mK,h];refine cq (ip (cq (r8 e f (ek _) (cq (rk ?_)))));show cD _ _ (yM (bT "StopIteration") []>>=_) _ _ _;refine cq ?_;dsimp only[yM,Gp];refine cq (jy (cq (m:=jn ..) (iL (a:=jq) (by first|rfl|(dsimp only[jn];rfl)) (jy ?_ (by size_fits)))) (by size_fits))
 dsimp only[Gq];refine cq (rg ?_);refine cn ((show A.in1.handled=aT from g) ..)<|wpAny_bind (cW (rj ?_))
 refine cq (kl (T:="StopIteration") (b:=bK) ⟨_,fg _ rfl,rfl⟩ r9 ?_);exact cW (j _ (((nk ..).extBut.push _).push _) ⟨_,dK _ (dK _ (oR _ e (qR (nQ f _))))⟩)
theorem HV (g:A.handled=aT) (c:s.heap.IsStrIter d "str_iterator" x t i) (h:x.cps[i]?=aT) (j:∀h',l8 d s.heap h'->(∃o,h'.get? d=aE o)->Q aT {s with heap:=h'}):cD (cm prog w) A (h_ (aK d)) Q Ee s:=by
 refine hR (id c) λo e k f=>?_;dsimp only[h_]
 refine cq (l6 (oQ (name:=fE "__next__") c.typeIs Nn
  (kO Nn c.typeIs F.entry_str_iterator_next ?_ (F.args_str_iterator_next_1 _))))
 show cD _ _ (js (aK d) 0>>=_) _ _ s;refine cq (fi e f (x:=cV x t) rfl ?_);show cD _ _ (js (aK d) 1>>=_) _ _ s;refine cq (fi e f (x:=d6 i 0) rfl ?_);simp only[mK,h];refine cq (ip (cq (r8 e f (ek _) (cq (rk ?_)))));show cD _ _ (yM (bT "StopIteration") []>>=_) _ _ _;refine cq ?_;dsimp only[yM,Gp];refine cq (jy (cq (m:=jn ..) (iL (a:=jq) (by first|rfl|(dsimp only[jn];rfl)) (jy ?_ (by size_fits)))) (by size_fits))
 dsimp only[Gq];refine cq (rg ?_);refine cn ((show A.in1.handled=aT from g) ..)<|wpAny_bind (cW (rj ?_))
 refine cq (kl (T:="StopIteration") (b:=bK) ⟨_,fg _ rfl,rfl⟩ r9 ?_);exact cW (j _ (((nk ..).extBut.push _).push _) ⟨_,dK _ (dK _ (oR _ e (qR (nQ f _))))⟩)
theorem DZ {x c step:Int}(g:A.handled=aT)(d:G6 s.heap f x c step)(e:c<=0) (i:∀h',l8 f s.heap h'->(∃o,h'.get? f=aE o)->Q aT {s with heap:=h'}):cD (cm prog w) A (h_ (aK f)) Q Ee s:=by
 have h:s.TypeIs (aK f) "range_iterator":=⟨_,d,rfl⟩
 refine cq (l6 (oQ (name:=fE "__next__") h Nf
  (kO Nf h F.entry_range_iterator_next ?_ (F.args_range_iterator_next_1 _))))
 show cD _ _ (js (aK f) 0>>=_) _ _ s;refine cq (fi d rfl (x:=rawInt x) rfl ?_);refine cq (fi d rfl (x:=rawInt c) rfl ?_);refine cq (fi d rfl (x:=rawInt step) rfl ?_);show cD _ _ (if c<=0 then _ else _) _ _ s
 refine cn (if_pos e ..)<|wpAny_bind (ip (cq ?_))
 refine cq ?_;refine cq (jy (cq (m:=jn ..) (iL (a:=jq) (by first|rfl|(dsimp only[jn];rfl)) (jy ?_ (by size_fits)))) (by size_fits))
 refine cq (rg ?_);first|rw[show A.in1.handled=aT from g]|rw[g]
 refine cq (cW (rj ?_));refine cq (kl (T:="StopIteration") (b:=bK) ⟨_,fg _ rfl,rfl⟩ r9 ?_);exact cW (i _ (((Heap.ExtBut.refl f s.heap).push _).push _) ⟨_,dK _ (dK _ d)⟩)
noncomputable def zipLike:List String:=["enumerate","zip","dict_itemiterator","dict_reverseitemiterator","odict_iterator","itertools.zip_longest","itertools.pairwise"]
theorem lx (d:o.data=cY vs)(e:vs[1]?=aE (d6 i t)):¬hU o:=λ⟨c,q,f,a,b,_⟩=>by rw[d] at a;cases a;rw[e] at b;cases b
structure Wk (prog:lT)(w:gf)(I:cE)(fp:List cE)(n:Nat)(P:Nat->b_->Prop)(Sw:Nat->cQ->Prop):Prop where
 frame:∀i h h',Sw i h->(∀b∈fp,∀o,h.get? b=aE o->h'.get? b=aE o)->Sw i h'
 obj:∀i h,Sw i h->∃o nm,h.get? I=aE o/\((∀xs n,o.data≠cK xs n)/\¬hU o)/\o.cls=bT nm/\zipLike.contains nm=cu
 item:∀(A:et) i (s:cz) (Q:Option b_->cz->Prop) (Ee:b_->cz->Prop),A.handled=aT->i<n->Sw i s.heap->
  (∀v h' tk,P i v->Sw (i+1) h'->(∀b o,b≠I->s.heap.get? b=aE o->h'.get? b=aE o)->Q (aE v) {s with heap:=h',toks:=tk})->cD (cm prog w) A (h_ (aK I)) Q Ee s
 done:∀(A:et) (s:cz) (Q:Option b_->cz->Prop) (Ee:b_->cz->Prop),A.handled=aT->Sw n s.heap->
  (∀h',(∀b o,b≠I->s.heap.get? b=aE o->h'.get? b=aE o)->(∃o,h'.get? I=aE o)->Q aT {s with heap:=h'})->cD (cm prog w) A (h_ (aK I)) Q Ee s
 self:∀(A:et) i (s:cz) (Q:b_->cz->Prop) (Ee:b_->cz->Prop),Sw i s.heap->Q (aK I) s->cD (cm prog w) A (pZ (aK I)) Q Ee s
theorem Wk.of (W:∀A:et,A.handled=aT->Walks prog w A I f [I] n P c) (d:∀i h,c i h->∃o nm,h.get? I=aE o/\((∀g n,o.data≠cK g n)/\¬hU o)/\o.cls=bT nm/\zipLike.contains nm=cu) (a:∀(A:et) (s:cz) (Q:Option b_->cz->Prop) (Ee:b_->cz->Prop),A.handled=aT->c n s.heap->(∀h',(∀b o,b≠I->s.heap.get? b=aE o->h'.get? b=aE o)->(∃o,h'.get? I=aE o)->Q aT {s with heap:=h'})->cD (cm prog w) A (h_ (aK I)) Q Ee s)
 (self:∀(A:et) i (s:cz) (Q:b_->cz->Prop) (Ee:b_->cz->Prop),c i s.heap->Q (aK I) s->cD (cm prog w) A (pZ (aK I)) Q Ee s):Wk prog w I f n P c:=
 ⟨(W {} rfl).frame,d,λA i s Q Ee j l m r=>(W A j).item i s Q Ee l m λv h' t p q k=>r v h' t p q λb o u e=>k b o (by simpa using u) e,a,self⟩
theorem Wk.list (I f)(g:f≠I)(items:Array b_):Wk prog w I [I,f] items.size (λi v=>items[i]?=aE v) (λi h=>h.IsListIter I f i/\h.IsList f items):=
 .of (λA j=>Walks.list j I f g items) (λi h a=>let ⟨o,e,c,d⟩:=a.1;⟨o,_,e,⟨(by intro t n q;rw[d] at q;exact ql q),lx d rfl⟩,c,by decide⟩)
  (λA s Q m j a l=>HU j a.1 a.2 (by simp) λp k x=>l p (λb o r e=>k b o r e) x) λA i s Q m a l=>NJ a.1 l
theorem Wk.str1 (I)(x)(t:Tok):Wk prog w I [I] x.cps.size (SignAt x) (λi h=>h.IsStrIter I "str_ascii_iterator" x t i):=
 .of (λA f=>Walks.strAscii f I x t) (λi h a=>let ⟨o,e,c,d⟩:=a;⟨o,_,e,⟨(by intro p n q;rw[d] at q;exact ql q),lx d rfl⟩,c,by decide⟩)
  (λA s Q j f a g=>DY f a (by simp) λl k x=>g l (λb o m e=>k b o m e) x) λA i s Q j a g=>wpAny_pyIter_striter_ascii a g
theorem Wk.str2 (I)(x)(t:Tok):Wk prog w I [I] x.cps.size (SignAt x) (λi h=>h.IsStrIter I "str_iterator" x t i):=
 .of (λA f=>Walks.strWide f I x t) (λi h a=>let ⟨o,e,c,d⟩:=a;⟨o,_,e,⟨(by intro p n q;rw[d] at q;exact ql q),lx d rfl⟩,c,by decide⟩)
  (λA s Q j f a g=>HV f a (by simp) λl k x=>g l (λb o m e=>k b o m e) x) λA i s Q j a g=>wpAny_pyIter_striter_wide a g
theorem Wk.range (I)(a c)(n):Wk prog w I [I] n (λi v=>∃t,v=d6 (a+i*c) t) (λi h=>G6 h I (a+(i:Nat)*c) ((n:Int)-(i:Nat)) c):=
 .of (λA f=>Walks.range f I a c n) (λi h d=>⟨_,_,d,⟨(by intro p n q;cases q),λ⟨_,_,_,a,b,_⟩=>by cases a;cases b⟩,rfl,by decide⟩)
  (λA s Q j f d g=>DZ f d (Int.le_of_eq (Int.sub_self _)) λl k x=>g l (λb o m e=>k b o m e) x) λA i s Q j d g=>wpAny_pyIter_rangeiter d g
theorem Conc.but (c:Conc C ρ σ h)(d:∀b o,b≠L->h.get? b=aE o->h'.get? b=aE o)(s:∃o,h'.get? L=aE o)(u:L∉fU)(k:Free ρ L)(v:C.hb.get? L=aT)(X:Ext [L] ρ ρ h h'):Conc C ρ σ h':=by
 refine⟨λb o e t=>d b o (λq=>by simp only[q,v] at e;exact nN e) (c.base b o e t),λt l=>?_,c.len,c.lo,λp m=>?_,c.low,c.apart,λa w=>?_,λn p o r A=>?_⟩
 .exact cU (c.tab t l) λB e z=>iB B (d _ _ (λq=>u (q▸l)) e) (z.of X.code)
 .refine dz (c.hi p m) λf g=>?_;obtain⟨a,x⟩:=f;obtain⟨b,y⟩:=g
  exact dz (k p m) λi j=>⟨⟨a,d _ _ (eN i) x⟩,b,d _ _ (eN j) y⟩
 .refine eF (c.hid a w) λo e=>?_
  by_cases q:a=L
  .refine cn (q ..) ?_;exact s
  .exact⟨o,d _ _ q e⟩
 .obtain⟨i,j⟩:=k p (jS r)
  exact(c.objs n p o r A).ext X (λo e=>d _ _ (eN i) e) λo e=>d _ _ (eN j) e
theorem Ext.but (c:∀b o,b≠L->h.get? b=aE o->h'.get? b=aE o)(e:h.get? L=aE d)(f:(∀g n,d.data≠cK g n)/\¬hU d)(i:∃o,h'.get? L=aE o):Ext [L] ρ ρ h h':=by
 refine⟨pG _,rfl,λb o q=>?_,λ_ h=>.inl h,λb o q ⟨g,n,z⟩ _=>?_,λb o q _ _ n=>c b o (λh=>n (List.mem_singleton.mpr h)) q,λb o q z=>c b o (λa=>by rw[a,e] at q;obtain rfl:=dk q;exact f.2 z) q⟩
 .by_cases a:b=L
  .exact a▸i
  .exact⟨o,c b o a q⟩
 .refine c b o (λa=>?_) q
  rw[a,e] at q;obtain rfl:=dk q;exact f.1 _ _ z
set_option backward.match.sparseCases true in
theorem VN (e:s.heap.get? I=aE o)(d:o.cls=bT nm)(f:zipLike.contains nm=cu)(h:Q () s):cD (cm prog w) A (OL b (aK I) v) Q Ee s:=by
 have c:cD (cm prog w) A (do
  let (aK r,aK a):=(o7 I,v)|return
  let o<-load r
  match o.cls,o.data with
  |bT n,cY g=>
   if zipLike.contains n&&g[0]?==aE (rawInt a) then
    rule "for.unpacks-the-owned-tuple"
    updateField r 0 cG
  |_,_=>dq ()) Q Ee s:=by
  induction v with
  |ref a=>
   refine cq (yD e (cn (d ..) ?_))
   cases o.data<;>first
    |exact cW h
    |(dsimp only;refine cn (f ..) ?_;exact cW h)
  |_=>exact cW h
 rcases b with _|_|_|_|_|_|_|_|_|_|_|_|_|_|_|_|_|_|_|_|_|_|_|_|_|_|_<;>first|exact cW h|exact c
theorem SZ {l:List V}(W:Wk C.prog C.w I fp n P Sw)(hl:l.length=n)(h1:I∉fU)(h3:C.hb.get? I=aT):∀(t:List V) (k:Nat) (ρ:Own) (h:cQ),t=l.drop k->k<=n->Sw k h->Free ρ I->(∀b∈fp,b≠I->FreeH ρ b/\∃o,h.get? b=aE o/\∃t n,o.data=cK t n)->(∀i v,P i v->i<n->∃x,l[i]?=aE x/\Rel ρ h v x)->Its C a7 [I] I t ρ h:=by
 have B:∀{k:Nat} {ρ c:Own} {h:cQ} {F D:List cE} {s:cz},Sw k h->Free ρ I->(∀b∈fp,b≠I->FreeH ρ b/\∃o,h.get? b=aE o/\∃t n,o.data=cK t n)->
  (∀i v,P i v->i<n->∃x,l[i]?=aE x/\Rel ρ h v x)->Ext F (ρ.hides D) c h s.heap->(∀a∈D,h.get? a=aT)->(∀p∈[I],p∉F)->
  Sw k s.heap/\Free c I/\(∀b∈fp,b≠I->FreeH c b/\∃o,s.heap.get? b=aE o/\∃t n,o.data=cK t n)/\(∀i v,P i v->i<n->∃x,l[i]?=aE x/\Rel c s.heap v x):=by
  intro k ρ c h F D s Q fr g rl X R hF;refine lF (W.obj _ _ Q) λo nm U _ _=>?_;have a0:Free (ρ.hides D) I:=fr;have fH:∀b o,h.get? b=aE o->FreeH ρ b->FreeH (ρ.hides D) b:=λb o e f=>⟨f.1,λm=>(List.mem_append.mp m).elim (λq=>by rw[R b q] at e;exact nN e) f.2⟩
  refine BM (W.frame _ _ _ Q λb hb o e=>?_) (a0.ext X U) (λb hb w=>?_) (λi v p hi=>?_)
  .by_cases q:b=I
   .subst q;exact X.keep _ _ e h1 a0 (hF _ (.head _))
   .obtain⟨f,o',J,Z⟩:=g b hb q
    rw[e] at J;cases J
    exact X.seq _ _ e Z (fH _ _ e f)
  .obtain⟨f,o',J,Z⟩:=g b hb w
   exact⟨(fH _ _ J f).ext X J,o',X.seq _ _ J Z (fH _ _ J f),Z⟩
  .exact cU (rl i v p hi) λx e r=>iB x e ((r.hides D R).ext X)
 intro t;induction t with
 |nil=>
  refine λk ρ h e hk Q fr g rl F D c a1 s X R hF G A Ee hA=>qs (B Q fr g rl X R hF) λu z H L=>?_;have:k=n:=by have:=congrArg i_ e;simp at this;exact eC (d8 (oV hk)) (d8 (vC 0x3808043988808487048c870cb0a11 rfl (c_ this.symm) (sB ..) (c_ hl.symm)))
  subst this;refine wM (dP (W.done A s (λr s'=>r=aT/\∃d,s'={s with heap:=d}/\(∀b o,b≠I->s.heap.get? b=aE o->d.get? b=aE o)/\∃o,d.get? I=aE o) Ee hA u λd hk hx=>⟨rfl,d,rfl,hk,hx⟩)) (λr s' q=>?_);refine dN q λ_ a2 a3=>?_;subst a2;obtain⟨d,rfl,j,hx⟩:=a3;refine lF (W.obj _ _ u) λo nm U hq _=>?_;have Y:Ext [I] c c s.heap d:=Ext.but j U hq hx;exact n5 rfl ⟨G.conc.but j hx h1 z h3 Y,G.os,G.gens⟩ Y
 |cons x t ih=>
  refine λk ρ h e hk Q fr g rl F D c a1 s X R hF G A Ee hA=>qs (B Q fr g rl X R hF) λu z H L=>?_;have M:k<n:=by
   rcases F_ k n with q|q
   .exact q
   .rw[NA (hl▸q)] at e;cases e
  have hx:l[k]?=aE x:=by have:=congrArg (·[0]?) e;simp at this;exact this.symm
  refine wM (dP (W.item A k s (λr s'=>∃v d tk,r=aE v/\s'={s with heap:=d,toks:=tk}/\P k v/\Sw (k+1) d/\(∀b o,b≠I->s.heap.get? b=aE o->d.get? b=aE o)) Ee hA M u λv d tk p q r=>⟨v,d,tk,rfl,rfl,p,q,r⟩)) (λr s' q=>?_);obtain⟨ht,v,d,tk,rfl,rfl,p,q,j⟩:=q;refine lF (W.obj _ _ u) λo nm U hq _=>BL (W.obj _ _ q) λo' a8 N a9 a4 a5=>?_;have Y:Ext [I] c c s.heap d:=Ext.but j U hq ⟨_,N⟩;have a6:St C c a1 {s with heap:=d,toks:=tk}:=⟨G.conc.but j ⟨_,N⟩ h1 z h3 Y,G.os,G.gens.1,fx (fl (j4 G.gens.2) ht)⟩;refine cU (L k v p M) λy ey ry=>?_;rw[hx] at ey;obtain rfl:=dk ey;refine iB v rfl (VN N a4 a5 ⟨ry.ext Y,a6,Y,ih (k+1) c d ?_ M q (z.ext Y U) (λb hb w=>?_) λi v p hi=>?_⟩)
  .refine ie (FG ..) (ie (e ..) ?_);rfl
  .obtain⟨f,o,e,Z⟩:=H b hb w
   exact⟨f.ext Y e,o,j _ _ w e,Z⟩
  .exact cU (L i v p hi) λx e r=>iB x e (r.ext Y)
theorem tK (st:St C ρ σ s)(W:Wk C.prog C.w s.heap.objs.size z n P I)(J:l.length=n)(o:Obj) (d:I 0 (s.heap.push o)) (j:∀b∈z,b≠s.heap.objs.size->FreeH ρ b/\∃o,s.heap.get? b=aE o/\∃m n,o.data=cK m n) (L:∀i v,P i v->i<n->∃x,l[i]?=aE x/\Rel ρ s.heap v x):IterPost C B ρ σ s.heap M l (aK s.heap.objs.size) {s with heap:=s.heap.push o}:=by
 have h:s.heap.get? s.heap.objs.size=aT:=eG _;have k:∀b a,s.heap.get? b=aE a->(s.heap.push o).get? b=aE a:=λb a e=>dK _ e;have X:Ext [] ρ ρ s.heap (s.heap.push o):=Ext.of_all k;refine lF (W.obj _ _ d) λoI nm N hq _=>?_;have D:=st.conc.notab h;have G:Free ρ s.heap.objs.size:=Free.new st.conc h;have c:∀b∈z,b≠s.heap.objs.size->FreeH ρ b/\∃a,(s.heap.push o).get? b=aE a/\∃m n,a.data=cK m n:=λb t u=>let ⟨f,a,e,w⟩:=j b t u;⟨f,a,k _ _ e,w⟩;refine⟨_,[s.heap.objs.size],rfl,λp R=>.inl (by refine cn (List.mem_singleton.mp R ..) ?_;exact h),by simpa using ⟨_,N⟩,st.keep0 k,X,?_,λF y g Y U A Z Q hQ=>?_⟩
 .exact SZ W J D (st.conc.nobase h) l 0 ρ _ rfl (eW _) d G c λi v p hi=>let ⟨x,e,r⟩:=L i v p hi;⟨x,e,r.ext X⟩
 .refine W.self A 0 g Q Z (W.frame _ _ _ d λb t a e=>?_) hQ
  by_cases q:b=s.heap.objs.size
  .subst q;exact Y.keep _ _ e D G (U _ (.head _))
  .obtain⟨f,a0,H,w⟩:=c b t q
   rw[e] at H;cases H
   exact Y.seq _ _ e w f
theorem S_ (r:Rel ρ h a (cw l)):IterOk C w t ρ h a l:=by
 intro x y s X z A F G;have B:=r.ext X;refine B.cL λg j n e f k=>?_;have u:s.heap.IsList g j.toArray:=⟨_,e,rfl,_,rfl⟩;have m:g≠s.heap.objs.size:=jI (jk e);refine Of u (tK z (Wk.list _ g m j.toArray) (k.len.symm) _ ⟨⟨_,fg _ rfl,rfl,rfl⟩,u.push _⟩ (λb c o=>?_) λi v p d=>?_)
 .rcases List.mem_cons.mp c with q|q
  .exact absurd q o
  .refine cn (List.mem_singleton.mp q ..) ?_;exact⟨f,_,e,_,_,rfl⟩
 .have p:j[i]?=aE v:=by simpa using p
  have d:i<l.length:=by refine ie (k.len ..) ?_;exact d
  refine cU (k.at (gK d)) λb c D=>?_;rw[p] at c;obtain rfl:=dk c;exact iB _ (gK d) D
theorem wY (x):(kT x).length=x.cps.size:=by unfold kT;exact eE ..
theorem T1 (r:Rel ρ h a (cC x)):IterOk C n k ρ h a (kT x):=by
 refine λf o s X l A q w=>r.cS λt=>?_;have m:∀i v,SignAt x i v->i<x.cps.size->∃y,(kT x)[i]?=aE y/\Rel f s.heap v y:=λi v p z=>by refine jX p λc u e g=>?_;subst g;refine iB (cC ⟨#[c]⟩) ?_ (gR ..);dsimp only[kT];simp[e]
 refine wpAny_pyIter_strU ?_;dsimp only[strIterType];split
 .exact tK l (Wk.str1 _ x t) (wY x) _ ⟨_,fg _ rfl,rfl,rfl⟩ (λb j d=>absurd (List.mem_singleton.mp j) d) m
 .exact tK l (Wk.str2 _ x t) (wY x) _ ⟨_,fg _ rfl,rfl,rfl⟩ (λb j d=>absurd (List.mem_singleton.mp j) d) m
theorem Ka {n:Nat}(m:IsRange h r a b c t u v)(o:r∉fU)(q:Free ρ r)(w:uW a b c=bK)(x:sU a b c=n) (g:l=(eZ n).map λ(k:Nat)=>aO (a+k*c)):IterOk C y j ρ h (aK r) l:=by
 intro z B s X D A J L;have d:IsRange s.heap r a b c t u v:=X.keep _ _ m o q (fh);have e:l.length=n:=by simp only[g];simp
 refine wpAny_pyIter_range d w (tK D (Wk.range _ a c n) e _ ?_ (λb F f=>absurd (List.mem_singleton.mp F) f) λi v p G=>?_)
 .show G6 _ _ _ _ _
  have H:a+((0:Nat):Int)*c=a:=by simp
  have I:(n:Int)-((0:Nat):Int)=sU a b c:=by simp only[x];exact rfl
  simp only[H,I];exact fg _ rfl
 .obtain⟨t,rfl⟩:=p
  refine iB (aO (a+i*c)) ?_ (fq ..);simp only[g];simp[G]
theorem A8 (a b):sU a b 1=((b-a).toNat:Int):=by dsimp only[sU];exact cn ((if_pos (dd rfl)) ..)<|iteInduction (motive:=(·=((b-a).toNat:Int))) (λh=>cn (Bs ..) (cn (B6 ..) (cn (y5 (Fd (yw h)) ..) rfl))) λh=>by refine cn (O1 (NS (Int.not_lt.mp h)) ..) ?_;rfl
theorem zb (a b):sU a b (-1)=((a-b).toNat:Int):=by
 dsimp only[sU];refine cn ((if_neg (dd rfl)) ..) ?_;show(if a>b then(a-b-1)/(1:Int)+1 else 0)=_
 exact iteInduction (motive:=(·=((a-b).toNat:Int))) (λh=>cn (Bs ..) (cn (B6 ..) (cn (y5 (Fd (yw h)) ..) rfl))) λh=>by refine cn (O1 (NS (Int.not_lt.mp h)) ..) ?_;rfl
theorem D_ (h:i.natAbs<=10000000):F2 i=bK:=by unfold F2;exact cn (eB ..) (cn (decide_eq_true_eq ..) (cn (decide_eq_true_eq ..) (⟨lQ (dd rfl) (JC h),qV (zS h) (dd rfl)⟩)))
theorem Cc {a b:Int}(c:a.natAbs<=1000000)(d:b.natAbs<=1000000):F2 ((b-a).toNat:Int)=bK:=D_ (by exact cn (B7 ..)<|Nat.le_trans (Int.toNat_le.mpr FJ) (cx (Og ..) (cx (eT d c) (cZ rfl))))
theorem Cd {a b:Int}(d:a.natAbs<=1000000)(c:b.natAbs<=1000000):uW a b 1=bK:=by unfold uW;rw[A8,if_pos (dd rfl),D_ (cx d (cZ rfl)),D_ (cx c (cZ rfl)),Cc d c,show b+(1-1:Int)=b from Ph b,D_ (cx c (cZ rfl)),Pi];rfl
theorem E0 {a b:Int}(d:a.natAbs<=1000000)(c:b.natAbs<=1000000):uW a b (-1)=bK:=by unfold uW;rw[zb,if_neg (dd rfl),D_ (cx d (cZ rfl)),D_ (cx c (cZ rfl)),Cc c d,show b+(-1+1:Int)=b from Ph b,D_ (cx c (cZ rfl)),Pi];rfl
inductive RngC (Kk:List V->Prop):List V->Prop
 |one {b:Int}:b.natAbs<=1000000->Kk (gz 0 b)->RngC Kk [aO b]
 |two {a b:Int}:a.natAbs<=1000000->b.natAbs<=1000000->Kk (gz a b)->RngC Kk [aO a,aO b]
 |three {a b:Int}:a.natAbs<=1000000->b.natAbs<=1000000->Kk (iz a b)->RngC Kk [aO a,aO b,aO (-1)]
theorem Q0 (h:SN Kk vs):RngC Kk vs:=by
 rcases vs with _|⟨x,vs⟩
 .exact h.elim
 rcases x with _|_|i|_|_|_|_|_|_<;>first|(rcases vs with _|⟨_,_|⟨_,_|_⟩⟩ <;>exact h.elim)|skip
 rcases vs with _|⟨y,vs⟩
 .exact .one h.1 h.2
 rcases y with _|_|j|_|_|_|_|_|_<;>first|(rcases vs with _|⟨_,_|_⟩ <;>exact h.elim)|skip
 rcases vs with _|⟨z,vs⟩
 .exact .two h.1.1 h.1.2 h.2
 rcases vs with _|_<;>rcases z with _|_|k|_|_|_|_|_|_<;>try exact h.elim
 obtain⟨⟨a,b,rfl⟩,h⟩:=h;exact .three a b h
theorem T2 (h:SN Kk vs)(j:Rels ρ s.heap G vs)(st:St C ρ σ s)(H:Room n A):cD (cm C.prog C.w) A (call (bT "range") G) (SO C ρ σ s.heap Kk) Ee s:=by
 have B:s.heap.get? s.heap.objs.size=aT:=eG _
 have d:∀(a b c:Int) (t u v m:Nat) (l:List V) (n:Nat),s.toks<=m->Kk l->uW a b c=bK->sU a b c=n->l=((eZ n).map λ(k:Nat)=>aO (a+k*c))->
  (SO C ρ σ s.heap Kk) (o7 s.heap.objs.size) {s with heap:=s.heap.push {cls:=bT "range",data:=cY #[d6 a t,d6 b u,d6 c v]},toks:=m}:=
  λa b c t u v m l n I J L M N=>by have k:∀D o,s.heap.get? D=aE o->(s.heap.push {cls:=bT "range",data:=cY #[d6 a t,d6 b u,d6 c v]}).get? D=aE o:=λb o e=>dK _ e;exact⟨l,J,st.keeps k I,Ext.of_all k,λ_=>Ka (IsRange.new ..) (st.conc.notab B) (Free.new st.conc B) L M N⟩
 have F:∀a b:Int,gz a b=((eZ (b-a).toNat).map λ(k:Nat)=>aO (a+k*1)):=λa b=>by unfold gz;simp
 have f:∀a b:Int,iz a b=((eZ (a-b).toNat).map λ(k:Nat)=>aO (a+k*(-1))):=λa b=>by dsimp only[iz];refine y6 λk _=>cn (Int.mul_neg ..) (cn (Int.mul_one ..) ?_);rfl
 rcases Q0 h with⟨g,i⟩ |⟨g,i,p⟩ |⟨g,i,p⟩
 .refine cU j.one λa q r=>?_;subst q
  exact r.cI λ_=>call_range_1 (d 0 _ 1 _ _ _ _ _ _ (kM (dU _)) i (Cd (dd rfl) g) (A8 ..) (cn (F ..) rfl))
 .refine lF j.two λa b w r x=>?_;subst w
  refine r.cI λ_=>?_;refine x.cI λ_=>?_;exact call_range_2 (d _ _ 1 _ _ _ _ _ _ (dU _) p (Cd g i) (A8 ..) (cn (F ..) rfl))
 .refine tA j.three λa b c y r x z=>?_;subst y
  refine r.cI λ_=>?_;refine x.cI λ_=>?_;refine z.cI λ_=>?_;exact call_range_3 (dd rfl) (d _ _ (-1) _ _ _ _ _ _ (d9 _) p (E0 g i) (zb ..) (cn (f ..) rfl)) (.inl (PyProof.noPylong_small (dd rfl)))
end
section
def Qa (z t i j:cE)(h h':cQ):Prop:=∀c o,c≠z->c≠t->c≠i->c≠j->h.get? c=aE o->h'.get? c=aE o
def VO (z t i j:cE)(h:cQ):Prop:=∀c∈[z,t,i,j],∃o,h.get? c=aE o
@[elab_as_elim] theorem E1 {α:Type}{P:α->Prop}{a b c d p:α}(h:p∈[a,b,c,d])(e:P a)(f:P b)(g:P c)(i:P d):P p:=by simp only[lP,fh,or_false] at h;rcases h with rfl|rfl|rfl|rfl<;>assumption
theorem YG {α:Type}{a b c d p:α}(h:p∉[a,b,c,d]):p≠a/\p≠b/\p≠c/\p≠d:=by simp only[lP,fh,or_false,not_or] at h;exact h
open Builtin
structure Sub (prog:lT)(w:gf)(i l:cE)(xs:Array b_)(Sw:Nat->cQ->Prop):Prop where
 at_:∀k h h',Sw k h->(∀o,h.get? i=aE o->h'.get? i=aE o)->(∀o,h.get? l=aE o->h'.get? l=aE o)->Sw k h'
 obj:∀k h,Sw k h->(∃o,h.get? i=aE o/\(∀xs n,o.data≠cK xs n)/\¬hU o)/\∃o,h.get? l=aE o
 item:∀(A:et) (k:Nat) (s:cz) (x:b_) (Q:b_->cz->Prop) (Ee:b_->cz->Prop),Sw k s.heap->xs[k]?=aE x->(∀h',Sw (k+1) h'->km i s.heap h'->Q x {s with heap:=h'})->
  cD (cm prog w) A (AR (aK i)) Q Ee s
 endd:∀(A:et) (k:Nat) (s:cz) (Q:b_->cz->Prop) (Ee:b_->cz->Prop),A.handled=aT->Sw k s.heap->xs[k]?=aT->
  (∀h' e,l8 i s.heap h'->(∃o,h'.get? i=aE o)->(∃o,h'.get? e=aE o/\o.cls=bT "StopIteration")->Ee (aK e) {s with heap:=h'})->cD (cm prog w) A (AR (aK i)) Q Ee s
section
variable {prog:lT}{w:gf}{A:et}{Ee:b_->cz->Prop}{s:cz}
theorem Sub.list (i l)(p:l≠i)(H:Array b_):Sub prog w i l H (λk h=>h.IsListIter i l k/\h.IsList l H) where
 at_:=λk h F c Z W=>⟨c.1.at Z,c.2.at W⟩
 obj:=λk h c=>⟨let ⟨o,e,_,d⟩:=c.1;⟨o,e,(by intro H n q;rw[d] at q;exact ql q),lx d rfl⟩,let ⟨o,e,_⟩:=c.2;⟨o,e⟩⟩
 item:=λA k s x Q Ee c r R=>wpAny_nextOf_list_item c.1 c.2 r λF t N=>R F ⟨t,c.2.extBut N.extBut p⟩ N
 endd:=λA k s Q Ee P c r X=>by
  obtain⟨f,Y⟩:=c;refine hR (id f) λo g hc j=>hR Y λol v _ C=>?_;obtain⟨nl,D⟩:=C
  refine cq (oQ (name:=fE "__next__") f.typeIs qX
   (kO qX f.typeIs B4 ?_ (B5 _)))
  show cD _ _ (js (aK i) 0>>=_) _ _ s;refine cq (fi g j (x:=aK l) rfl ?_);refine cn ((if_neg (show ¬((o7 l==jq)=bK) from dF)) ..) ?_;refine cq (fi g j (x:=d6 k 0) rfl ?_);refine cq (iY v D ?_);simp only[mK,r];refine cq (ip (cq (r8 g j (ek _) ?_)));refine cq ?_;refine cq (jy (cq (m:=jn ..) (iL (a:=jq) (by first|rfl|(simp only[jn];rfl)) (jy ?_ (by size_fits)))) (by size_fits))
  refine cq (rg ?_);first|rw[show A.in1.handled=aT from P]|rw[P]
  exact cq (cW (rj (X _ _ (((nk ..).extBut.push _).push _) ⟨_,dK _ (dK _ (oR _ g (qR (nQ j _))))⟩ ⟨_,fg _ rfl,rfl⟩)))
theorem Sub.tuple (i l:cE)(v:l≠i)(H:Array b_):Sub prog w i l H (λk h=>h.IsTupleIter i l k/\h.IsTuple l H) where
 at_:=λk h h' g Z W=>⟨g.1.at Z,g.2.at W⟩
 obj:=λk h g=>⟨let ⟨o,e,_,d⟩:=g.1;⟨o,e,(by intro H n q;rw[d] at q;exact ql q),lx d rfl⟩,let ⟨o,e,_⟩:=g.2;⟨o,e⟩⟩
 item:=λA k s x Q Ee g C R=>by
  obtain⟨c,D⟩:=g;refine hR (id c) λo j N f=>hR (id D) λX p _ r=>?_;obtain⟨Y,t⟩:=r
  refine cq (oQ (name:=fE "__next__") c.typeIs AP
   (kO AP c.typeIs Nb ?_ (N9 _)))
  show cD _ _ (js (aK i) 0>>=_) _ _ s;refine cq (fi j f (x:=aK l) rfl ?_);refine cn ((if_neg (show ¬((o7 l==jq)=bK) from dF)) ..) ?_;refine cq (fi j f (x:=d6 k 0) rfl ?_);refine cq (iY p t ?_);simp only[mK,C];refine cq (r8 j f (d9 _) (cW ⟨x,rfl,cW (R _ ⟨?_,D.extBut (nk ..).extBut v⟩ (nk ..))⟩));exact⟨_,oR _ j (qR (nQ f _)),(Oh ..).trans N,by refine cn (nQ f ..) ?_;exact rfl⟩
 endd:=λA k s Q Ee P g C hE=>by
  obtain⟨c,hl⟩:=g;refine hR (id c) λo j N f=>hR hl λX p _ r=>?_;obtain⟨Y,t⟩:=r
  refine cq (oQ (name:=fE "__next__") c.typeIs AP
   (kO AP c.typeIs Nb ?_ (N9 _)))
  show cD _ _ (js (aK i) 0>>=_) _ _ s;refine cq (fi j f (x:=aK l) rfl ?_);refine cn ((if_neg (show ¬((o7 l==jq)=bK) from dF)) ..) ?_;refine cq (fi j f (x:=d6 k 0) rfl ?_);refine cq (iY p t ?_);simp only[mK,C];refine cq (ip (cq (r8 j f (ek _) ?_)));refine cq ?_;refine cq (jy (cq (m:=jn ..) (iL (a:=jq) (by first|rfl|(simp only[jn];rfl)) (jy ?_ (by size_fits)))) (by size_fits))
  refine cq (rg ?_);first|rw[show A.in1.handled=aT from P]|rw[P]
  exact cq (cW (rj (hE _ _ (((nk ..).extBut.push _).push _) ⟨_,dK _ (dK _ (oR _ j (qR (nQ f _))))⟩ ⟨_,fg _ rfl,rfl⟩)))
end
section
variable {prog:lT}{w:gf}{A:et}{Ee:b_->cz->Prop}{s:cz}{z I u B G J L:cE}{Z W:Nat}{H ys:Array b_}{x y a b:b_}{U M:Nat->cQ->Prop}
theorem HW {Q:b_->cz->Prop}(D:rr z I u B G J L)(W1:Sub prog w B J H U)(W2:Sub prog w G L ys M) (hz:IsZip s.heap z I u cG) (ae:IsPair s.heap I (aK B) (aK G)) (af:IsPair s.heap u a b) (h1:U Z s.heap) (h2:M W s.heap) (hx:H[Z]?=aE x) (hy:ys[W]?=aE y) (hQ:∀h',IsZip h' z I u (rawInt s.heap.objs.size)->IsPair h' u x y->U (Z+1) h'->M (W+1) h'->IsPair h' s.heap.objs.size x y->(Qa z u B G s.heap h')->Q (aK s.heap.objs.size) {s with heap:=h'}):
 cD (cm prog w) A (Builtin.«zip.__next__» ⟨[aK z],[]⟩) (λag s'=>∃v,ag=.done (.ret v)/\Q v s') Ee s:=by
 show cD _ _ (js (aK z) 2>>=_) _ _ _;refine cq (fi hz rfl (x:=e_ cu) rfl ?_);show cD _ _ (js (aK z) 3>>=_) _ _ _;refine cq (fi hz rfl (x:=aK I) rfl (cq (iY ae rfl ?_)));show cD _ _ (N4 (aK z)>>=_) _ _ _;refine cq ?_;dsimp only[N4];refine cq (fi hz rfl (x:=cG) rfl (cW ?_));simp only[if_true];refine cq (ip (cq (fi hz rfl (x:=aK u) rfl (cq (pD hz (ek _) λC n f=>?_)))));replace n:IsZip C z I u rX:=n;refine cq (sk λQ1 q1=>?_);simp only[Ow,OO,Be,vd];refine cq (sk λQ2 q2=>cq (sk λQ3 q3=>Bp (SM λ_=>?_)));show cD _ _ (AR (aK B)>>=_) _ _ _;have a1:U Z C:=W1.at_ _ _ _ h1 (λo e=>f.extBut _ _ D.i1z e) λo e=>f.extBut _ _ D.l1z e;have a2:M W C:=W2.at_ _ _ _ h2 (λo e=>f.extBut _ _ D.i2z e) λo e=>f.extBut _ _ D.l2z e;refine cq (W1.item _ Z _ x _ _ a1 hx λa9 a0 i=>cW ?_);have q:IsPair a9 u a b:=i.extBut _ _ D.TOi1 (f.extBut _ _ D.TOz af);refine q3 _ _ (cq (iY q rfl (cq (Fe q λX l g=>?_))));replace l:IsPair X u x b:=l;refine cq (rk (cW (q2 _ _ (cq (sk λQ4 q4=>cq (sk λQ5 q5=>Bp (SM λ_=>?_)))))));show cD _ _ (AR (aK G)>>=_) _ _ _;have a3:M W X:=W2.at_ _ _ _ a2 (λo e=>g.extBut _ _ D.TOi2.symm (i.extBut _ _ D.i12.symm e)) λo e=>g.extBut _ _ D.l2TO (i.extBut _ _ D.l2i1 e);refine cq (W2.item _ W _ y _ _ a3 hy λaa a4 j=>cW ?_);have r:IsPair aa u x b:=j.extBut _ _ D.TOi2 l;refine q5 _ _ (cq (iY r rfl (cq (Fe r λd k h=>?_))));replace k:IsPair d u x y:=k;refine cq (rk (cW (q4 _ _ (cW (q1 _ _ (cq (iY k rfl (cq (FE ?_)))))))));have ab:d.objs.size=s.heap.objs.size:=cn (h.1 ..) (cn (j.1 ..) (cn (g.1 ..) (cn (i.1 ..) (cn (f.1 ..) rfl))));have F:IsZip d z I u rX:=h.extBut _ _ D.TOz.symm (j.extBut _ _ D.i2z.symm (g.extBut _ _ D.TOz.symm (i.extBut _ _ D.i1z.symm n)));have a5:Qa z u B G s.heap d:=λc o c1 c2 c3 c4 e=>h.extBut _ _ c2 (j.extBut _ _ c4 (g.extBut _ _ c2 (i.extBut _ _ c3 (f.extBut _ _ c1 e))))
 have a6:U (Z+1) d:=W1.at_ _ _ _ a0 (λo e=>h.extBut _ _ D.TOi1.symm (j.extBut _ _ D.i12 (g.extBut _ _ D.TOi1.symm e))) λo e=>h.extBut _ _ D.l1TO (j.extBut _ _ D.l1i2 (g.extBut _ _ D.l1TO e));have a7:M (W+1) d:=W2.at_ _ _ _ a4 (λo e=>h.extBut _ _ D.TOi2.symm e) λo e=>h.extBut _ _ D.l2TO e;have Y:z<d.objs.size:=jk F;show cD _ _ (N3 (aK z) (aK d.objs.size)>>=_) _ _ _;refine cq ?_;dsimp only[N3];have a8:IsZip (d.push {cls:=bT "tuple",data:=cK #[x,y]}) z I u rX:=dK _ F;refine cq (pD a8 (ek _) λac p N=>?_);replace p:IsZip ac z I u (rawInt d.objs.size):=p;refine pD p (ej ..) λt m P=>?_;replace m:IsZip t z I u (rawInt d.objs.size):=m;have up:∀c o,c≠z->d.get? c=aE o->t.get? c=aE o:=λc o c1 e=>P.extBut _ _ c1 (N.extBut _ _ c1 (dK _ e));have R:IsPair t d.objs.size x y:=P.extBut _ _ (fx Y) (N.extBut _ _ (fx Y) (fg _ rfl));rw[ab] at m R;refine cW ⟨_,rfl,?_⟩;show Q (aK d.objs.size) _;exact cn (ab ..)<|hQ t m (up _ _ D.TOz k) (W1.at_ _ _ _ a6 (λo e=>up _ o D.i1z e) λo e=>up _ o D.l1z e) (W2.at_ _ _ _ a7 (λo e=>up _ o D.i2z e) λo e=>up _ o D.l2z e) R λc o c1 c2 c3 c4 e=>up c o c1 (a5 c o c1 c2 c3 c4 e)
theorem Kc {Q:Fin->cz->Prop}(hh:A.handled=aT)(D:rr z I u B G J L)(W1:Sub prog w B J H U)(W2:Sub prog w G L ys M) (hz:IsZip s.heap z I u cG) (a8:IsPair s.heap I (aK B) (aK G)) (a9:IsPair s.heap u a b) (h1:U Z s.heap) (h2:M W s.heap) (a5:H[Z]?=aT\/ys[W]?=aT) (hE:∀h' e,(Qa z u B G s.heap h')->(VO z u B G h')->(∃o,h'.get? e=aE o/\o.cls=bT "StopIteration")->Ee (aK e) {s with heap:=h'}):
 cD (cm prog w) A (Builtin.«zip.__next__» ⟨[aK z],[]⟩) Q Ee s:=by
 show cD _ _ (js (aK z) 2>>=_) _ _ _;refine cq (fi hz rfl (x:=e_ cu) rfl ?_);refine cq (fi hz rfl (x:=aK I) rfl (cq (iY a8 rfl ?_)));refine cq ?_;refine cq (fi hz rfl (x:=cG) rfl (cW ?_));simp only[if_true];refine cq (ip (cq (fi hz rfl (x:=aK u) rfl (cq (pD hz (ek _) λp j g=>?_)))));replace j:IsZip p z I u rX:=j;refine cq ?_;simp only[Ow,OO,Be,vd];refine cq (cq (Bp ?_));have a1:U Z p:=W1.at_ _ _ _ h1 (λo e=>g.extBut _ _ D.i1z e) λo e=>g.extBut _ _ D.l1z e;have a2:M W p:=W2.at_ _ _ _ h2 (λo e=>g.extBut _ _ D.i2z e) λo e=>g.extBut _ _ D.l2z e;have q:IsPair p u a b:=g.extBut _ _ D.TOz a9;refine dz (W2.obj _ _ a2) λR _=>?_;obtain⟨o2,e2,_⟩:=R;induction hx:H[Z]? with
 |none=>
  refine cq (W1.endd _ Z _ _ _ hh a1 hx λt e f l he=>cU he λoe m v=>?_);have C:IsZip t z I u rX:=f _ _ D.i1z.symm j;have X:e≠z:=λx=>by subst x;rw[C] at m;obtain rfl:=dk m;simp at v
  exact pD C (ek _) λF Y d=>hE F e (λc o c1 _ c3 _ x=>d.extBut _ _ c1 (f _ _ c3 (g.extBut _ _ c1 x))) (eF l λoi l c hc=>E1 hc ⟨_,Y⟩ ⟨_,d.extBut _ _ D.TOz (f _ _ D.TOi1 q)⟩ ⟨_,d.extBut _ _ D.i1z l⟩ ⟨_,d.extBut _ _ D.i2z (f _ _ D.i12.symm e2)⟩) ⟨oe,d.extBut _ _ X m,v⟩
 |some x=>
  have hy:ys[W]?=aT:=by rcases a5 with h|h;rw[hx] at h;exact nS h;exact h
  refine cq (W1.item _ Z _ x _ _ a1 hx λt a0 f=>cW ?_);have r:IsPair t u a b:=f.extBut _ _ D.TOi1 q;refine cq (iY r rfl (cq (Fe r λF P d=>cq (rk (cW (cq (cq (Bp ?_))))))));have a3:M W F:=W2.at_ _ _ _ a2 (λo e=>d.extBut _ _ D.TOi2.symm (f.extBut _ _ D.i12.symm e)) λo e=>d.extBut _ _ D.l2TO (f.extBut _ _ D.l2i1 e);refine dz (W1.obj _ _ a0) λR _=>(cq (W2.endd _ W _ _ _ hh a3 hy λa6 e k n he=>cU he λoe m v=>?_));obtain⟨o1,e1,_⟩:=R;have N:IsZip a6 z I u rX:=k _ _ D.i2z.symm (d.extBut _ _ D.TOz.symm (f.extBut _ _ D.i1z.symm j));have X:e≠z:=λx=>by subst x;rw[N] at m;obtain rfl:=dk m;simp at v
  exact pD N (ek _) λa7 a4 i=>hE a7 e (λc o c1 c2 c3 c4 x=>i.extBut _ _ c1 (k _ _ c4 (d.extBut _ _ c2 (f.extBut _ _ c3 (g.extBut _ _ c1 x))))) (eF n λoi n c hc=>E1 hc ⟨_,a4⟩ ⟨_,i.extBut _ _ D.TOz (k _ _ D.TOi2 P)⟩ ⟨_,i.extBut _ _ D.i1z (k _ _ D.i12 (d.extBut _ _ D.TOi1.symm e1))⟩ ⟨_,i.extBut _ _ D.i2z n⟩) ⟨oe,i.extBut _ _ X m,v⟩
theorem uv {Q:Option b_->cz->Prop}(D:rr z I u B G J L)(g:Sub prog w B J H U)(h:Sub prog w G L ys M) (e:IsZip s.heap z I u cG) (c:IsPair s.heap I (aK B) (aK G)) (d:IsPair s.heap u a b) (i:U Z s.heap) (j:M W s.heap) (k:H[Z]?=aE x) (l:ys[W]?=aE y) (m:∀h',IsZip h' z I u (rawInt s.heap.objs.size)->IsPair h' u x y->U (Z+1) h'->M (W+1) h'->IsPair h' s.heap.objs.size x y->(Qa z u B G s.heap h')->Q (aE (aK s.heap.objs.size)) {s with heap:=h'}):
 cD (cm prog w) A (h_ (aK z)) Q Ee s:=by
 have f:s.TypeIs (aK z) "zip":=⟨_,e,rfl⟩
 exact cq (l6 (oQ (name:=fE "__next__") f Bh
  (kO Bh f Ox
   (HW D g h e c d i j k l λh' n o p q r t=>cW (m h' n o p q r t)) (Oi _))))
theorem vV {Q:Option b_->cz->Prop}(i:A.handled=aT)(D:rr z I u B G J L)(j:Sub prog w B J H U)(k:Sub prog w G L ys M) (g:IsZip s.heap z I u cG) (d:IsPair s.heap I (aK B) (aK G)) (f:IsPair s.heap u a b) (l:U Z s.heap) (m:M W s.heap) (c:H[Z]?=aT\/ys[W]?=aT) (n:∀h',(Qa z u B G s.heap h')->(VO z u B G h')->Q aT {s with heap:=h'}):cD (cm prog w) A (h_ (aK z)) Q Ee s:=by
 have h:s.TypeIs (aK z) "zip":=⟨_,g,rfl⟩
 refine cq (l6 (oQ (name:=fE "__next__") h Bh
  (kO Bh h Ox (Kc i D j k g d f l m c λh' e p q r=>?_) (Oi _))))
 exact cU r λo t v=>cq (kl (T:="StopIteration") (b:=bK) ⟨o,t,v⟩ r9 (cW (n _ p q)))
end
def Kd (l:cE)(o c:Obj):Prop:=∀(prog:lT) (w:gf) (A:et) (Ee:b_->cz->Prop) (s:cz) (Q:b_->cz->Prop),s.heap.get? l=aE o->Q (aK s.heap.objs.size) {s with heap:=s.heap.push c}->cD (cm prog w) A (pZ (aK l)) Q Ee s
noncomputable abbrev Xq (h:cQ)(c d:Obj):cQ:=(h.push c).push d
noncomputable abbrev Xr (h:cQ)(c d:Obj):cQ:=(Xq h c d).push {cls:=bT "tuple",data:=cK #[aK h.objs.size,aK (h.push c).objs.size]}
noncomputable abbrev Xs (h:cQ)(c d:Obj):cQ:=(Xr h c d).push {cls:=bT "tuple",data:=cK #[cG,cG]}
noncomputable abbrev Qb (h:cQ)(c d:Obj):cQ:=(Xs h c d).push {cls:=bT "zip",data:=cY #[cG,e_ cu,e_ cu,aK (Xq h c d).objs.size,aK (Xr h c d).objs.size]}
theorem HX (J L)(m n c f)(p:Kd J m c)(q:Kd L n f):Meets (Builtin.«zip.__new__» ⟨[bT "zip",aK J,aK L],[]⟩) (λ_ R s=>s.heap.get? J=aE m/\s.heap.get? L=aE n/\R (.ok (.ret (aK (Xs s.heap c f).objs.size))) {s with heap:=Qb s.heap c f}):=
 .of_wp λprog w A R s h=>by
  obtain⟨e,g,d,i,j⟩:=s;refine dN h λk l h=>?_;have o:=PySem.sub_zip;have r:=λ(A:et) (Ee:b_->cz->Prop) (Q:b_->cz->Prop) (h:Q (aK e.objs.size) ⟨e.push c,g,d,i,j⟩)=>p prog w A Ee ⟨e,g,d,i,j⟩ Q k h;have t:=λ(A:et) (Ee:b_->cz->Prop) (Q:b_->cz->Prop) (h:Q (aK (e.push c).objs.size) ⟨(e.push c).push f,g,d,i,j⟩)=>q prog w A Ee ⟨e.push c,g,d,i,j⟩ Q (dK _ l) h
  wp_walk using r _ _ _,t _ _ _
  exact iB _ rfl h
theorem Rels.hides' (l)(c:∀a∈l,h.get? a=Bx)(r:Rels ρ h a v):Rels (ρ.hides l) h a v:=r.ind (P:=λa v=>Rels (ρ.hides l) h a v) fB λ_ _ _ _ r _ i=>fo (Rel.hides l c r) i
theorem Conc.buts (c:Conc C ρ σ h)(d:∀b o,b∉P->h.get? b=aE o->h'.get? b=aE o)(f:∀p∈P,(∃o,h'.get? p=aE o)/\p∉fU/\Free ρ p/\C.hb.get? p=aT)(X:Ext P ρ ρ h h'):Conc C ρ σ h':=by
 refine⟨λb o e t=>d b o (λq=>by rw[(f b q).2.2.2] at e;exact nN e) (c.base b o e t),λt k=>?_,c.len,c.lo,λp g=>?_,c.low,c.apart,λa m=>?_,λn p o l r=>?_⟩
 .exact cU (c.tab t k) λv e z=>iB v (d _ _ (λq=>(f t q).2.1 k) e) (z.of X.code)
 .refine dz (c.hi p g) λi j=>?_;obtain⟨a,x⟩:=i;obtain⟨b,y⟩:=j
  exact⟨⟨a,d _ _ (λq=>((f _ q).2.2.1 p g).1 rfl) x⟩,b,d _ _ (λq=>((f _ q).2.2.1 p g).2 rfl) y⟩
 .refine eF (c.hid a m) λo e=>?_
  by_cases q:a∈P
  .exact(f a q).1
  .exact⟨o,d _ _ q e⟩
 .have g:=jS l
  exact(c.objs n p o l r).ext X (λo e=>d _ _ (λq=>((f _ q).2.2.1 p g).1 rfl) e) λo e=>d _ _ (λq=>((f _ q).2.2.1 p g).2 rfl) e
def ZS (z I u B G:cE)(U M:Nat->cQ->Prop)(k:Nat)(h:cQ):Prop:=IsZip h z I u cG/\IsPair h I (aK B) (aK G)/\(∃a b,IsPair h u a b)/\U k h/\M k h
def HY (h:cQ)(l:cE)(H:Array b_):Prop:=∃o n,h.get? l=aE o/\o.data=cK H n
structure ZFree (C:Fx)(ρ:Own)(h:cQ)(z TI TO i1 i2 l1 l2:cE)(xs ys:Array b_):Prop where
 own:∀p∈[z,TO,i1,i2],p∉fU/\Free ρ p/\C.hb.get? p=aT
 hid:TO∈ρ.hid
 ti:FreeH ρ TI
 f1:FreeH ρ l1
 f2:FreeH ρ l2
 q1:HY h l1 xs
 q2:HY h l2 ys
theorem VP {prog:lT}{w:gf}{z I u B G J L:cE}{H ys:Array b_}{U M:Nat->cQ->Prop}{k:Nat}{ρ:Own}{h h':cQ}{v a b:b_}(R:rr z I u B G J L)(C:Sub prog w B J H U)(D:Sub prog w G L ys M) (l:IsZip h z I u v) (g:IsPair h u a b) (F:U k h) (N:M k h) (P:u∈ρ.hid) (i:Qa z u B G h h') (Q:VO z u B G h'):Ext [z,u,B,G] ρ ρ h h':=by
 refine dz (C.obj _ _ F) λc _=>?_;obtain⟨X,m,p⟩:=c;refine dz (D.obj _ _ N) λc _=>?_;obtain⟨Y,r,t⟩:=c;refine⟨pG _,rfl,λb o e=>?_,λ_ h=>.inl h,λb o e ⟨H,n,d⟩ f=>?_,λb o e _ _ n=>?_,λb o e j=>?_⟩
 .by_cases q:b∈[z,u,B,G]
  .exact Q b q
  .simp only[lP,fh,or_false,not_or] at q
   exact⟨o,i b o q.1 q.2.1 q.2.2.1 q.2.2.2 e⟩
 .exact i b o (λq=>(by rw[q,l] at e;obtain rfl:=dk e;cases d)) (λq=>f.2 (q▸P)) (λq=>(by rw[q,m] at e;obtain rfl:=dk e;exact p.1 _ _ d)) (λq=>(by rw[q,r] at e;obtain rfl:=dk e;exact t.1 _ _ d)) e
 .simp only[lP,fh,or_false,not_or] at n
  exact i b o n.1 n.2.1 n.2.2.1 n.2.2.2 e
 .exact i b o (λq=>(by rw[q,l] at e;obtain rfl:=dk e;refine wo j λ_ _ _ a b _=>?_;cases a;cases b)) (λq=>(by rw[q,g] at e;obtain rfl:=dk e;exact fX rfl j)) (λq=>(by rw[q,m] at e;obtain rfl:=dk e;exact p.2 j)) (λq=>(by rw[q,r] at e;obtain rfl:=dk e;exact t.2 j)) e
theorem Qc {C:Fx}{z I u B G J L:cE}{H ys:List b_}{U M:Nat->cQ->Prop}{ts:List (Nat×Str×Pos)}{ah:Nat}{ai:Pos}{l r:List V}(D:rr z I u B G J L)(W1:Sub C.prog C.w B J H.toArray U)(W2:Sub C.prog C.w G L ys.toArray M):∀(items:List V) (k:Nat) (ρ:Own) (h:cQ),items=(l7 (λx y=>dj [x,y]) l r).drop k->ZS z I u B G U M k h->ZFree C ρ h z I u B G J L H.toArray ys.toArray->Rels ρ h H l->Rels ρ h ys r->Its C (Tg.back (dS ts ah ai)) [z,u,B,G] z items ρ h:=by
 have ag:∀{k:Nat} {ρ g:Own} {h:cQ} {F Hd:List cE} {s:cz},ZS z I u B G U M k h->ZFree C ρ h z I u B G J L H.toArray ys.toArray->Rels ρ h H l->Rels ρ h ys r->Ext F (ρ.hides Hd) g h s.heap->(∀a∈Hd,h.get? a=aT)->(∀p∈[z,u,B,G],p∉F)->
  ZS z I u B G U M k s.heap/\ZFree C g s.heap z I u B G J L H.toArray ys.toArray/\Rels g s.heap H l/\Rels g s.heap ys r:=by
  intro k ρ g h F Hd s zs P rx ry X hH hF;refine Jk zs λhz t v h1 h2=>?_;refine SA v λa b a0=>?_;have fH:∀b o,h.get? b=aE o->FreeH ρ b->FreeH (ρ.hides Hd) b:=λb o e f=>⟨f.1,λm=>(List.mem_append.mp m).elim (λq=>by rw[hH b q] at e;exact nN e) f.2⟩
  refine dz (W1.obj _ _ h1) λi _=>?_;obtain⟨o1,e1,_⟩:=i;refine dz (W2.obj _ _ h2) λi _=>?_;obtain⟨o2,e2,_⟩:=i;refine jX P.q1 λoa na ea da=>jX P.q2 λob nb eb db=>?_;have a7:∀p∈[z,u,B,G],∀o,h.get? p=aE o->s.heap.get? p=aE o/\Free g p:=λp hp o e=>⟨X.keep _ _ e (P.own p hp).1 (P.own p hp).2.1 (hF p hp),Free.ext X (show Free (ρ.hides Hd) p from(P.own p hp).2.1) e⟩
  have g1:s.heap.get? J=aE oa:=X.seq _ _ ea ⟨_,_,da⟩ (fH _ _ ea P.f1);have g2:s.heap.get? L=aE ob:=X.seq _ _ eb ⟨_,_,db⟩ (fH _ _ eb P.f2);have mz:z∈[z,u,B,G]:=.head _;have mT:u∈[z,u,B,G]:=.tail _ (.head _);have m1:B∈[z,u,B,G]:=.tail _ (.tail _ (.head _));have m2:G∈[z,u,B,G]:=.tail _ (.tail _ (.tail _ (.head _)))
  refine⟨⟨(a7 z mz _ hz).1,X.seq _ _ t ⟨_,_,rfl⟩ (fH _ _ t P.ti),⟨a,b,(a7 u mT _ a0).1⟩,W1.at_ _ _ _ h1 (λo e=>(a7 B m1 o e).1) (λo e=>by rw[ea] at e;obtain rfl:=dk e;exact g1),W2.at_ _ _ _ h2 (λo e=>(a7 G m2 o e).1) (λo e=>by rw[eb] at e;obtain rfl:=dk e;exact g2)⟩,
   ⟨λp hp=>⟨(P.own p hp).1,E1 hp (a7 _ mz _ hz).2 (a7 _ mT _ a0).2 (a7 _ m1 _ e1).2 (a7 _ m2 _ e2).2,(P.own p hp).2.2⟩,?_,(fH _ _ t P.ti).ext X t,(fH _ _ ea P.f1).ext X ea,(fH _ _ eb P.f2).ext X eb,⟨oa,na,g1,da⟩,⟨ob,nb,g2,db⟩⟩,?_,?_⟩
  .refine cn (X.hid ..) ?_;exact mZ _ P.hid
  .exact(Rels.hides' Hd hH rx).ext X
  .exact(Rels.hides' Hd hH ry).ext X
 have zl:∀(k:Nat),(l7 (λx y=>dj [x,y]) l r)[k]?=(match l[k]?,r[k]? with|some x,aE y=>aE (dj [x,y])|_,_=>aT):=λk=>by refine cn (List.getElem?_zipWith ..) ?_;cases l[k]?<;>cases r[k]?<;>rfl
 intro items;induction items with
 |nil=>
  refine λk ρ h e zs P rx ry F Hd g aj s X hH hF st A Ee hA=>qs (ag zs P rx ry X hH hF) λi n ae af=>?_;refine Jk i λhz t v h1 h2=>?_;obtain⟨a,b,a0⟩:=v;have aa:(l7 (λx y=>dj [x,y]) l r).length<=k:=List.drop_eq_nil_iff.mp e.symm;have ak:H.toArray[k]?=aT\/ys.toArray[k]?=aT:=by
   rw[List.length_zipWith] at aa;have J:=ae.len;have L:=af.len;rcases G0 l.length r.length with q|q
   .exact .inl (NB (cx (c_ J) (lE q▸aa)))
   .exact .inr (NB (cx (c_ L) (nU q▸aa)))
  refine wM (dP (vV (Q:=λr s'=>r=aT/\∃R,s'={s with heap:=R}/\(Qa z u B G s.heap R)/\VO z u B G R) hA D W1 W2 hz t a0 h1 h2 ak λR hk hx=>⟨rfl,R,rfl,hk,hx⟩)) (λr s' q=>?_);refine dN q λ_ a8 v=>?_;subst a8;refine hR v λR a8 hk hx=>?_;subst a8;have Y:Ext [z,u,B,G] g g s.heap R:=VP D W1 W2 hz a0 h1 h2 n.hid hk hx;refine⟨rfl,⟨st.conc.buts (λb o hb e=>?_) (λp hp=>⟨hx p hp,n.own p hp⟩) Y,st.os,st.gens⟩,Y⟩;have hb:=YG hb;exact hk b o hb.1 hb.2.1 hb.2.2.1 hb.2.2.2 e
 |cons x items ih=>
  refine λk ρ h e zs P rx ry F Hd g aj s X hH hF st A Ee hA=>qs (ag zs P rx ry X hH hF) λi n ae af=>?_;refine Jk i λhz t v h1 h2=>?_;obtain⟨a,b,a0⟩:=v;have hx:(l7 (λx y=>dj [x,y]) l r)[k]?=aE x:=by have:=congrArg (·[0]?) e;simp only[List.getElem?_cons_zero,ye,mR] at this;exact this.symm
  rw[zl] at hx;generalize ex:l[k]?=o1 at hx;generalize ey:r[k]?=o2 at hx;rcases o1 with _|xv
  .exact nN hx
  rcases o2 with _|yv
  .exact nN hx
  .obtain rfl:=dk hx
   refine cU (ae.at ex) λva ea ra=>cU (af.at ey) λvb eb rb=>wM (dP (uv (x:=va) (y:=vb) (Q:=λr s'=>r=aE (aK s.heap.objs.size)/\∃R,s'={s with heap:=R}/\IsZip R z I u (rawInt s.heap.objs.size)/\IsPair R u va vb/\U (k+1) R/\M (k+1) R/\IsPair R s.heap.objs.size va vb/\
    (Qa z u B G s.heap R)) D W1 W2 hz t a0 h1 h2 (by simpa using ea) (by simpa using eb) λR a1 a2 a3 a4 a5 a6=>⟨rfl,R,rfl,a1,a2,a3,a4,a5,a6⟩)) (λr s' q=>?_)
   refine dN q λ_ a8 v=>?_;subst a8;obtain⟨R,a8,a1,a2,a3,a4,a5,hk⟩:=v;subst a8;have ne:∀{c o},s.heap.get? c=aE o->s.heap.objs.size≠c:=λe=>fx (jk e);refine⟨_,rfl,wpAny_letOwnedTupleGo_zip a1 λj ab d=>?_⟩;refine dz (W1.obj _ _ h1) λi _=>?_;obtain⟨o1,e1,q1⟩:=i;refine dz (W2.obj _ _ h2) λi _=>?_;obtain⟨o2,e2,q2⟩:=i;have N:Qa z u B G s.heap j:=λc o c1 c2 c3 c4 e=>d.extBut _ _ c1 (hk c o c1 c2 c3 c4 e);have b1:U (k+1) j:=W1.at_ _ _ _ a3 (λo e=>d.extBut _ _ D.i1z e) λo e=>d.extBut _ _ D.l1z e;have b2:M (k+1) j:=W2.at_ _ _ _ a4 (λo e=>d.extBut _ _ D.i2z e) λo e=>d.extBut _ _ D.l2z e;have a9:IsPair j u va vb:=d.extBut _ _ D.TOz a2;refine dz (W1.obj _ _ b1) λi _=>?_;obtain⟨o3,e3,_⟩:=i;refine dz (W2.obj _ _ b2) λi _=>?_;obtain⟨o4,e4,_⟩:=i;have ac:VO z u B G j:=λc hc=>E1 hc ⟨_,ab⟩ ⟨_,a9⟩ ⟨_,e3⟩ ⟨_,e4⟩;have Y:Ext [z,u,B,G] g g s.heap j:=VP D W1 W2 hz a0 h1 h2 n.hid N ac;have am:St C g aj {s with heap:=j}:=⟨st.conc.buts (λb o hb e=>by have hb:=YG hb;exact N b o hb.1 hb.2.1 hb.2.2.1 hb.2.2.2 e) (λp hp=>⟨ac p hp,n.own p hp⟩) Y,st.os,st.gens⟩
   have hT:j.get? s.heap.objs.size=aE {cls:=bT "tuple",data:=cK [va,vb].toArray}:=d.extBut _ _ (ne hz) a5;refine⟨.tup hT (FreeH.new st.conc (eG _)) (fo (ra.ext Y) (fo (rb.ext Y) fB)),am,Y,jX n.q1 λoa na an da=>jX n.q2 λob nb ao db=>?_⟩;have al:∀p∈[z,u,B,G],p∉fU/\Free g p/\C.hb.get? p=aT:=n.own;refine ih (k+1) g j ?_ ⟨ab,d.extBut _ _ D.TIz (hk _ _ D.TIz D.TITO D.TIi1 D.TIi2 t),⟨_,_,a9⟩,b1,b2⟩ ⟨al,n.hid,n.ti,n.f1,n.f2,⟨oa,na,N _ _ D.l1z D.l1TO D.l1i1 D.l1i2 an,da⟩,⟨ob,nb,N _ _ D.l2z D.l2TO D.l2i1 D.l2i2 ao,db⟩⟩ (ae.ext Y) (af.ext Y);refine ie (FG ..) (ie (e ..) ?_);rfl
theorem HZ (c:J<n)(d:L<n):rr (n+4) (n+2) (n+3) n (n+1) J L:=zipApart_new c d
theorem Conc.hide1 (c:Conc C ρ σ h)(k:Kp h h')(e:h.get? D=aT)(d:∃o,h'.get? D=aE o):Conc C (ρ.hides [D]) σ h':=c.hide k e d
inductive Src (C:Fx) (ρ:Own) (h:cQ) (a:b_) (l:List V):Prop
 |mk (x:cE) (vs:List b_) (o:Obj) (it:Obj) (n:Nat) (Sw:cE->Nat->cQ->Prop) (ea:a=aK x) (eo:h.get? x=aE o) (ed:o.data=cK vs.toArray n) (fr:FreeH ρ x) (rs:Rels ρ h vs l) (nf:it.isFreed=cu) (its:Kd x o it) (sub:∀i,x≠i->Sub C.prog C.w i x vs.toArray (Sw i)) (st:∀i h',h'.get? x=aE o->h'.get? i=aE it->Sw i 0 h'):Src C ρ h a l
theorem Ke (j:oj x=aE l)(r:Rel ρ h a x):Src C ρ h a l:=by
 rcases x with _|_|_|_|_|_|_|_|_<;>try exact nN j
 rotate_left
 .obtain rfl:=dk j
  exact r.cL λc g n e f m=>⟨c,g,_,{cls:=bT "list_iterator",data:=cY #[aK c,d6 0 0]},n,λi k h=>h.IsListIter i c k/\h.IsList c g.toArray,rfl,e,rfl,f,m,rfl,
   λprog w A Ee s Q e o=>Of ⟨_,e,rfl,_,rfl⟩ o,λi d=>Sub.list i c d _,λi t p q=>⟨⟨_,q,rfl,rfl⟩,⟨_,p,rfl,_,rfl⟩⟩⟩
 .obtain rfl:=dk j
  exact r.cT λc g n e f m=>⟨c,g,_,{cls:=bT "tuple_iterator",data:=cY #[aK c,d6 0 0]},n,λi k h=>h.IsTupleIter i c k/\h.IsTuple c g.toArray,rfl,e,rfl,f,m,rfl,
   λprog w A Ee s Q e o=>Fn ⟨_,e,rfl,_,rfl⟩ o,λi d=>Sub.tuple i c d _,λi t p q=>⟨⟨_,q,rfl,rfl⟩,⟨_,p,rfl,_,rfl⟩⟩⟩
theorem T3 {C:Fx}{n:Nat}(hx:oj x=aE l)(hy:oj y=aE r)(ra:Rel ρ s.heap a x)(rb:Rel ρ s.heap b y)(st:St C ρ σ s)(aq:Room n A):cD (cm C.prog C.w) A (call (bT "zip") [a,b]) (Vj C ρ σ s.heap l r) Ee s:=by
 have d:=Ke (C:=C) hx ra;have X:=d;have d:=Ke (C:=C) hy rb;have Y:=d;obtain⟨J,H,o1,h,n1,U,rfl,a1,a3,a9,aa,ab,ac,a4,ae⟩:=X;obtain⟨L,ys,o2,i,n2,M,rfl,a2,a5,af,ag,ah,ai,a6,aj⟩:=Y
 refine callType_new F.called_zip (dd rfl) (F.typeCall_zip_2 ..) (F.newCall_zip_2 ..) (λak=>F.args_object_init_3 ak ..) F.entry_zip_new
  (HX J L o1 o2 h i ac ai) ⟨a1,a2,?_⟩
 have z1:(s.heap.push h).objs.size=s.heap.objs.size+1:=lO ..;have z2:(Xq s.heap h i).objs.size=s.heap.objs.size+2:=cn (lO ..) (cn (z1 ..) rfl);have z3:(Xr s.heap h i).objs.size=s.heap.objs.size+3:=cn (lO ..) (cn (z2 ..) rfl);have z4:(Xs s.heap h i).objs.size=s.heap.objs.size+4:=cn (lO ..) (cn (z3 ..) rfl);have a7:J<s.heap.objs.size:=jk a1;have a8:L<s.heap.objs.size:=jk a2;have D:rr (s.heap.objs.size+4) (s.heap.objs.size+2) (s.heap.objs.size+3) s.heap.objs.size (s.heap.objs.size+1) J L:=HZ a7 a8;have g5:(Qb s.heap h i).get? (Xs s.heap h i).objs.size=aE _:=fg _ rfl;have g4:(Qb s.heap h i).get? (Xr s.heap h i).objs.size=aE _:=dK _ (fg _ rfl);have g3:(Qb s.heap h i).get? (Xq s.heap h i).objs.size=aE _:=dK _ (dK _ (fg _ rfl));have g2:(Qb s.heap h i).get? (s.heap.push h).objs.size=aE i:=dK _ (dK _ (dK _ (fg _ ah)));have g1:(Qb s.heap h i).get? s.heap.objs.size=aE h:=dK _ (dK _ (dK _ (dK _ (fg _ ab))));have k:Kp s.heap (Qb s.heap h i):=λc o x=>dK _ (dK _ (dK _ (dK _ (dK _ x))))
 show _/\_;rw[z2,z3,z4] at g5;rw[z1,z2] at g3;rw[z3] at g4;rw[z1] at g2;refine cn (z4 ..) ?_;have g:∀j,s.heap.objs.size<=j->s.heap.get? j=aT:=λj R=>by
  induction z:s.heap.get? j with
  |none=>rfl|some o=>exact absurd (jk z) (Nat.not_lt.mpr R)
 generalize hN:s.heap.objs.size=N at *;revert N;refine Jj ?_;set_option tactic.hygienic false in intros
 refine⟨⟨_,g5,rfl⟩,[N+3],by simpa using g (N+3) (eO ..),⟨st.conc.hide1 k (g (N+3) (eO ..)) ⟨_,g4⟩,st.os,st.gens⟩,Ext.of_all k,λts an ao=>?_⟩
 intro a0 ar P X al A' E' au;have t:∀j,N<=j->j∉fU/\Free ρ j/\C.hb.get? j=aT:=λj R=>⟨st.conc.notab (g j R),Free.new st.conc (g j R),st.conc.nobase (g j R)⟩;have kp:∀j o,N<=j->(Qb s.heap h i).get? j=aE o->P.heap.get? j=aE o/\Free a0 j:=λj o R e=>⟨X.keep _ _ e (t j R).1 (t j R).2.1 (fh),Free.ext X (show Free (ρ.hides [N+3]) j from(t j R).2.1) e⟩;have fH:∀b o,b≠N+3->(Qb s.heap h i).get? b=aE o->FreeH ρ b->(∃H n,o.data=cK H n)->P.heap.get? b=aE o/\FreeH a0 b:=λb o hb e f sq=>by have f':FreeH (ρ.hides [N+3]) b:=⟨f.1,λm=>(List.mem_cons.mp m).elim hb f.2⟩;exact⟨X.seq _ _ e sq f',f'.ext X e⟩
 have d:=kp _ _ (eO ..) g5;have c5:=d.1;have d5:=d.2;have d:=kp _ _ (eO ..) g4;have c4:=d.1;have d4:=d.2;have d:=kp _ _ (dU _) g2;have c2:=d.1;have d2:=d.2;have d:=kp _ _ (d9 _) g1;have c1:=d.1;have d1:=d.2;have d:=fH _ _ (jI (jG _)) g3 (FreeH.new st.conc (g _ (eO ..))) ⟨_,_,rfl⟩;have c3:=d.1;have d3:=d.2;have d:=fH _ _ D.l1TO (k _ _ a1) a9 ⟨_,_,a3⟩;have e1:=d.1;have f1:=d.2;have d:=fH _ _ D.l2TO (k _ _ a2) af ⟨_,_,a5⟩;have e2:=d.1;have f2:=d.2;have W1:=a4 N D.l1i1;have W2:=a6 (N+1) D.l2i2;have q:∀{a:List b_} {v:List V},Rels ρ s.heap a v->Rels a0 P.heap a v:=λrs=>((Rels.hides' [N+3] (by simpa using g (N+3) (eO ..)) rs).ext (Ext.of_all (F:=[]) k)).ext X
 refine Oy c5 ⟨_,[N+4,N+3,N,N+1],rfl,λp hp=>.inr (E1 hp (g _ (eO ..)) (g _ (eO ..)) (g _ (d9 _)) (g _ (eO ..))),λp hp=>E1 hp ⟨_,c5⟩ ⟨_,c4⟩ ⟨_,c1⟩ ⟨_,c2⟩,al,Ext.refl _ _ _,?_,λF am ap Y hF A Ee Q hQ=>?_⟩
 .refine Qc D W1 W2 _ 0 a0 _ (rfl) ⟨c5,c3,⟨_,_,c4⟩,ae _ _ e1 c1,aj _ _ e2 c2⟩ ⟨λp hp=>E1 hp ⟨(t _ (eO ..)).1,d5,(t _ (eO ..)).2.2⟩ ⟨(t _ (eO ..)).1,d4,(t _ (eO ..)).2.2⟩ ⟨(t _ (d9 _)).1,d1,(t _ (d9 _)).2.2⟩ ⟨(t _ (dU _)).1,d2,(t _ (dU _)).2.2⟩,?_,d3,f1,f2,⟨_,_,e1,a3⟩,⟨_,_,e2,a5⟩⟩ (q aa) (q ag)
  .refine cn (X.hid ..) ?_;exact .head _
 .exact Oy (Y.keep _ _ c5 (t _ (eO ..)).1 d5 (hF _ (.head _))) hQ
end
section
open Builtin
theorem lh {ρ:Own}{h h':cQ}{n:Nat}(c:Conc C ρ σ h)(i:ρ.l[n]?=aE p)(j:q=p.1\/q=p.2)(a:l8 q h h')(k:∃o,h'.get? q=aE o)(l:∀o,h.get? q=aE o->¬hU o):Ext [] ρ ρ h h':=by
 have d:∀b,Free ρ b->b≠q:=λb f z=>by
  have:=f p (jS i);rcases j with e|e
  .exact this.1 (z.trans e)
  .exact this.2 (z.trans e)
 refine⟨pG _,rfl,λb o e=>?_,λ_ h=>.inl h,λb o e _ f=>a b o (d b f.1) e,λb o e _ f _=>a b o (d b f) e,λb o e z=>a b o (λw=>l o (w▸e) z) e⟩;by_cases g:b=q
 .exact g▸k
 .exact⟨o,a b o g e⟩
theorem Kf {ρ:Own}{σ:Sg}{h h':cQ}{n:Nat}(c:Conc C ρ σ h)(g:ρ.l[n]?=aE p)(j:q=p.1\/q=p.2)(k:l8 q h h')(B:∃o,h'.get? q=aE o)(D:∀o,h.get? q=aE o->¬hU o)(r:ORel ρ h' p o'):Conc C ρ (σ.set n o') h':=by
 have X:=lh c g j k B D;have d:=jS g;have F:C.hb.get? q=aT:=j.elim (λe=>e▸(c.lo p d).1) λe=>e▸(c.lo p d).2;have G:q∉fU:=j.elim (λe=>e▸(c.low p d).1) λe=>e▸(c.low p d).2;refine⟨λb o e t=>k b o (λz=>by rw[z,F] at e;exact nN e) (c.base b o e t),λt y=>?_,by simp only[List.length_set];exact c.len,c.lo,λf l=>⟨?_,?_⟩,c.low,c.apart,λa H=>?_,λi f o m u=>?_⟩
 .exact cU (c.tab t y) λI e z=>iB I (k _ _ (λw=>G (w▸y)) e) (z.of X.code)
 .refine eF ((c.hi f l).1) λo e=>?_;exact X.dom _ _ e
 .refine eF ((c.hi f l).2) λo e=>?_;exact X.dom _ _ e
 .refine eF (c.hid a H) λo e=>?_;exact X.dom _ _ e
 .by_cases x:i=n
  .subst x
   rw[g] at m;obtain rfl:=dk m;rw[xX (by refine ie (c.len ..) ?_;exact(List.getElem?_eq_some_iff.mp g).1)] at u
   obtain rfl:=dk u;exact r
  .rw[AY (eN x)] at u
   have v:=c.apart i n f p m g x;have J:f.1≠q:=j.elim (λe=>e▸v.1) λe=>e▸v.2.1;have L:f.2≠q:=j.elim (λe=>e▸v.2.2.1) λe=>e▸v.2.2.2;exact(c.objs i f o m u).ext X (λo e=>k _ _ J e) λo e=>k _ _ L e
theorem n9 (st:St C ρ σ s)(a:ρ.l[n]?=aE p)(b:q=p.1\/q=p.2)(c:l8 q s.heap h')(e:∃o,h'.get? q=aE o)(f:∀o,s.heap.get? q=aE o->¬hU o) (r:ORel ρ h' p o') (g:s.toks<=t):St C ρ (σ.set n o') ⟨h',s.gens,d,t,s.os⟩/\Ext [] ρ ρ s.heap h':=⟨⟨Kf st.conc a b c e f r,st.os,st.gens.1,fx (fl (j4 st.gens.2) g)⟩,lh st.conc a b c e f⟩
noncomputable def qw:List V->Option (List Str)
 |[]=>aE []|cC s::r=>(qw r).map (s::·)|_::_=>aT
theorem H_ (e:qw l=aE ts)(r:Rels ρ h vs l):∃q:List (Str×Tok),vs=yF q/\q.map (·.1)=ts:=r.ind (P:=λvs l=>∀ts,qw l=aE ts->∃q:List (Str×Tok),vs=yF q/\q.map (·.1)=ts) (λ_ e=>by cases e;exact iB ([]) rfl rfl) (λ_ v _ r c _ d ts e=>by
  rcases v with _|_|_|_|s|_|_|_|_<;>try exact nN e
  obtain⟨g,f,rfl⟩:=Option.map_eq_some_iff.mp (show(qw r).map (s::·)=aE ts from e)
  .refine cU (d _ f) λq a b=>?_;subst a;subst b
   exact c.cS λt=>iB ((s,t)::q) rfl rfl) ts e
noncomputable def methL:List (cE×Nat×cE):=[(94,19,56),(94,20,42),(94,21,91),(178,14,122),(178,15,130),(178,13,138),(178,16,160),(178,17,167),(178,18,175),(234,25,224),(234,26,217)]
structure MakesL (M:i8)(h:cQ)(C:cE):Prop where
 obj:∃oc od cd sl,h.get? C=aE ⟨oc,od,jg cd,sl⟩/\cd.abstract=cu/\cd.hasDel=cu/\cd.hasDict=bK/\cd.mro.isEmpty=cu
 made:Looks M h (Bind.madeBy (aK C)) (aE "list.__new__")
 base:Looks M h (Bind.staticBase (aK C)) (aK C)
 self:Looks M h (BC (aK C) (aK C)) bK
 top:Looks M h (BC (aK C) (bT "list")) bK
 call:Looks M h (pU (aK C) "__call__") (aE (cH "type.__call__"))
 typ:Looks M h (jJ (aK C) (bT "type")) bK
 mro:Looks M h (mroOf (aK C)) [aK C,bT "list",bT "object"]
 tck:∀a,Looks M h (checkBuiltinCall "type.__call__" ⟨[aK C,a],[]⟩) ()
 chk:∀a,Looks M h (checkBuiltinCall "list.__new__" ⟨[aK C,a],[]⟩) ()
noncomputable def Kg (c:cE):List b_:=if c=178 then[bT "list",bT "object"] else[bT "object"]
def WK (C:Fx)(Kk:i9):Prop:=Rc [
 (∀a o,Kk.lookup a=aE o->C.hb.get? a=aE o/\a∉fU),
 (∀c∈[94,178,234],∃b,clsIn Kk c=aE b/\b.hasDict=bK/\b.mro.isEmpty=cu/\b.mro.contains (bT "staticmethod")=cu/\b.mro.contains (bT "classmethod")=cu),
 (∀c∈[94,234],gy Kk (aK c) "__getattribute__"=aE (aE (cH "object.__getattribute__"))),
 (gy Kk (aK 178) "__getattribute__"=aE (aE (cH "list.__getattribute__"))),
 (∀c∈[94,178,234],gy Kk (aK c) "__getattr__"=aE aT),
 (∀c∈[94,178,234],∀m<12,gy Kk (aK c) (eh m)=aE aT),
 (∀x∈methL,gy Kk (aK x.1) (eh x.2.1)=aE (aE (aK x.2.2))/\lb Kk (aK x.2.2)=aE (bT "function")/\∃o fd,Kk.lookup x.2.2=aE o/\o.data=fK fd),
 (∀c∈[94,178,234],∃nm q N i j e k f l n p r t u d g,C.hb.get? c=aE (G7 nm q c N i (Kg c) bK j e k f l n p r t u d)/\c∉fU/\C.hb.Ns N g/\N∉fU/\g "__setattr__"=aT/\∀m<12,g (eh m)=aT),
 (∀x∈[(94,35),(234,210)],makesIn Kk x.1=bK/\gy Kk (aK x.1) "__init__"=aE (aE (aK x.2))/\lb Kk (aK x.2)=aE (bT "function")),
 ((∀(M:i8) (h:cQ),Kk.In h->MakesL M h 178)/\gy Kk (aK 178) "__init__"=aE (aE (aK 115))/\lb Kk (aK 115)=aE (bT "function")),
 (∃b,clsIn Kk 178=aE b/\b.mro=[aK 178,bT "list",bT "object"]/\b.qualname.toString="_Accumulator"),
 (mroIn Kk 178 (bT "module")=aE cu),
 (lb Kk (aK 178)=aE (bT "type")),
 (gy Kk (aK 178) "__iter__"=aE (aE (cH "list.__iter__"))),
 (mroIn Kk 178 (bT "collections.deque")=aE cu),
 (gy Kk (aK 178) "__getitem__"=aE (aE (cH "list.__getitem__"))),
 (gy Kk (aK 178) "__setitem__"=aE (aE (cH "list.__setitem__"))),
 (gy Kk (aK 178) "__len__"=aE (aE (aK 145))/\lb Kk (aK 145)=aE (bT "function")),
 (gy Kk (aK 178) "__str__"=aE (aE (aK 152))/\lb Kk (aK 152)=aE (bT "function")),
 (gy Kk (aK 178) "__bool__"=aE aT),
 (nsIn Kk cStatics "thirdparty.any"=aE aT),
 (gy Kk (aK 178) "append"=aE (aE (cH "list.append"))),
 (mroIn Kk 178 (bT "list")=aE bK)]
theorem WK.In {Kk:i9}(W:WK C Kk)(b:fk C h):Kk.In h:=λa o e=>b a o ((W 0) a o e).1 ((W 0) a o e).2
noncomputable def iT (a:List (Nat×V)):Bool:=a.all λp=>decide (p.1<27)
noncomputable def uw (σ:Sg)(v:V)(m:Nat):Option Nat:=match v with
 |aV n=>match σ[n]? with
  |some (cM _)=>if m=12 then aE 0 else if m=24 then aE 1 else aT|some (fe C a)=>if iT a&&(a.lookup m).isNone then(methL.findIdx? λx=>x.1==C&&x.2.1==m).map (·+10) else aT
  |some (d7 _ a)=>if iT a&&(a.lookup m).isNone then(if m=12 then aE 0 else(methL.findIdx? λx=>x.1==178&&x.2.1==m).map (·+10)) else aT
  |_=>aT
 |cw _=>if m=24 then aE 1 else aT|cC _=>if m=22 then aE 2 else if m=23 then aE 3 else aT|_=>aT
noncomputable def Ce (σ:Sg)(v:V)(m:Nat):Option Nat:=match v with
 |aV n=>match σ[n]? with
  |some (d7 _ a)=>if iT a&&(a.lookup m).isNone&&m==14 then aE 13 else aT|_=>aT
 |_=>aT
noncomputable def oU:Nat->b_
 |0=>cH "list.append"|1=>cH "list.count"|2=>cH "str.join"|3=>cH "str.isspace"|k=>aK ((methL[k-10]?.map (·.2.2)).getD 122)
def Sb (vs:List V)(σ:Sg)(Kk:V->Sg->Prop):Prop:=match vs with
 |[v,x]=>(match v with
  |aV n=>(match σ[n]? with
   |some (cM l)=>l.length<=1000000/\Kk dD (σ.set n (cM (l++[x])))|some (d7 l a)=>l.length<=1000000/\Kk dD (σ.set n (d7 (l++[x]) a))|_=>False)
  |_=>False)
 |_=>False
def VQ (vs:List V)(σ:Sg)(Kk:V->Sg->Prop):Prop:=match vs with
 |[v,x]=>(match x with
  |aO i=>(match (jh σ v).bind qi with
   |some a=>Kk (aO (a.count i:Nat)) σ|none=>False)
  |_=>False)
 |_=>False
def VR (vs:List V)(σ:Sg)(Kk:V->Sg->Prop):Prop:=match vs with
 |[x,v]=>(match x with
  |cC sep=>(match (jh σ v).bind qw with
   |some ts=>(ts.map (·.length)).sum+ts.length*sep.length<=1000000/\Kk (cC (iG sep ts)) σ|none=>False)
  |_=>False)
 |_=>False
def YH (vs:List V)(σ:Sg)(Kk:V->Sg->Prop):Prop:=match vs with
 |[x]=>(match x with|cC x=>Kk (dB (B2 x)) σ|_=>False)
 |_=>False
def lG (k:Nat)(vs:List V)(σ:Sg)(Kk:V->Sg->Prop):Prop:=match k with
 |0=>Sb vs σ Kk|1=>VQ vs σ Kk|2=>VR vs σ Kk|3=>YH vs σ Kk|_=>False
section
variable {C:Fx}{Kk:i9}{A:et}{Ee:b_->cz->Prop}{s:cz}{ρ:Own}{σ:Sg}
@[elab_as_elim] theorem YI {α c:Type}{a d:α}{b g:c}{motive:α->c->Prop}(e:a=d)(f:b=g)(h:motive d g):motive a b:=by subst e;subst f;exact h
theorem tL {M:i8}{id:String}{rest:List b_}{owner n:String}{Q:Unit->cz->Prop}(c:yy id=aE .method)(d:splitId id=aE (owner,n))(hi:Looks M s.heap (jJ self (bT owner)) bK) (a:i7 id ⟨self::rest,[]⟩) (q:Q () s):cD M A (checkBuiltinCall id ⟨self::rest,[]⟩) Q Ee s:=by
 delta checkBuiltinCall
 refine YI c d<|wpAny_bind (hi.at ?_)
 dsimp only[i7] at a;generalize y7 id=o at a ⊢;rcases o with _|b
 .exact cW q
 .exact iL (t:=Bind.checkArgs id b ⟨self::rest,[]⟩) a q
theorem qo (b:s.heap.get? l=aE o)(a:o.data=cK items n) (hi:Looks (cm prog w) s.heap (jJ (aK l) (bT "list")) bK) (f:∀h' g,h'.get? l=aE {o with data:=cK (items.push x) g}->km l s.heap h'->Q cG {s with heap:=h'}) (h:items.size<=Gm):
 cD (cm prog w) A (call (cH "list.append") [aK l,x]) Q Ee s:=by
 refine g_ (y3 slot_list_append.plain entry_list_append (tL (n:="append") (by decide+kernel) (by decide+kernel) hi (args_list_append ..) ?_))
 show cD _ _ (updateSeq l (·.push x)>>=λ_=>ret cG) _ _ s;refine cq ?_;have e:pT (·.push x) o={o with data:=cK (items.push x) (n+1)}:=by obtain⟨c,d,i,j⟩:=o;simp only at a;subst a;simp[pT]
 exact Bj b a (cW (f _ (n+1) (cn ((oR _ b (by rw[e];rfl)) ..) (cn (e ..) rfl)) (nk ..)))
theorem ow (W:WK C Kk){o:Obj}{h:cQ}(b:fk C h)(a:h.get? x=aE o)(c:o.cls=aK 178):Looks M h (jJ (aK x) (bT "list")) bK:=(((lS (part:=aE Gr) a).andThen jE:Looks M h (mY (aK x)) o.cls)).andThen (by refine cn (c ..) ?_;exact yz (W.In b) (W 22))
theorem oy (h:σ[n]?=aE (cM l)):jh σ (aV n)=aE l:=((cn (h ..) rfl):(match σ[n]? with|some (cM l)=>aE l|_=>aT)=aE l)
theorem yR (h:jh σ (aV n)=aE l):σ[n]?=aE (cM l):=by
 have h:(match σ[n]? with|some (cM l)=>aE l|_=>aT)=aE l:=h
 generalize σ[n]?=o at h ⊢;rcases o with _|o
 .exact nN h
 rcases o with a|_|_|_|_|_<;>try exact nN h
 exact congrArg (λl=>aE (cM l)) (dk h)
theorem rG (h:jh σ X=aE l):X=cw l\/∃n,X=aV n/\σ[n]?=aE (cM l):=V.casesOn (motive_1:=λX=>jh σ X=aE l->X=cw l\/∃n,X=aV n/\σ[n]?=aE (cM l)) X (λh=>nN h) (λ_ h=>nN h) (λ_ h=>nN h) (λ_ h=>nN h) (λ_ h=>nN h) (λ_ h=>nN h) (λl h=>.inl (congrArg cw (dk h))) (λn h=>.inr ⟨n,rfl,yR h⟩) (λ_ h=>nN h) h
theorem zc (c:Conc C ρ σ s.heap)(e:jh σ v=aE l)(r:Rel ρ s.heap a v):∃x vs n,a=aK x/\s.heap.get? x=aE {cls:=bT "list",data:=cK (gW vs) n}/\Rels ρ s.heap vs l:=by
 rcases rG e with rfl|⟨n,rfl,d⟩
 .refine r.cL λ_ _ _ h j f=>?_;exact⟨_,_,_,rfl,h,f⟩
 .refine r.cO λp i=>dz (c.objs _ _ _ i d) λq g=>?_;obtain⟨vs,n,b,f⟩:=g
  exact⟨_,vs,n,rfl,b,f⟩
theorem T4 (W:WK C Kk){vs:List V}{G:List b_}{KK:V->Sg->Prop}(h:Sb vs σ KK)(k:Rels ρ s.heap G vs)(st:St C ρ σ s):cD (cm C.prog C.w) A (call (oU 0) G) (PE C [] ρ s.heap KK) Ee s:=by
 rcases vs with _|⟨v,_|⟨x,_|_⟩⟩ <;>try exact h.elim
 rcases v with _|_|i|_|I|_|_|n|_<;>try exact h.elim
 obtain⟨_,_,rfl,r,k⟩:=k.inv;obtain⟨b,_,rfl,H,k⟩:=k.inv;obtain rfl:_=[]:=k.inv;refine r.cO λp g=>?_;dsimp only[Sb] at h;generalize u:σ[n]?=o at h;rcases o with _|o
 .exact h.elim
 rcases o with l|_|⟨l,y⟩ |_|_|_<;>try exact h.elim
 .refine dz h λB h=>dz (st.conc.objs _ _ _ g u) λq a=>?_;obtain⟨vs,m,e,w⟩:=a
  refine Nr (items:=vs.toArray) ⟨m,e⟩ (λJ D j=>?_) (by simp only[jw,w.len,iK];exact cx B (ej ..))
  refine eF D λF c=>?_;have X:=lh st.conc g (.inl rfl) j.extBut ⟨_,c⟩ (λo z=>by rw[e] at z;obtain rfl:=dk z;exact fX rfl)
  obtain⟨f,_⟩:=n9 (o':=cM (l++[x])) (d:=s.drawn) (t:=s.toks) st g (.inl rfl) j.extBut ⟨_,c⟩ (λo z=>by rw[e] at z;obtain rfl:=dk z;exact fX rfl)
   ⟨q,vs++[b],F,by simp only[c];simp,(w.ext X).snoc (H.ext X)⟩ (d9 _)
  exact⟨ρ,_,_,h,kD,f,X⟩
 .refine dz h λB h=>dN (st.conc.objs _ _ _ g u) λq a L=>?_;refine jX a λvs m e w=>?_
  refine qo e rfl (ow W st.based e rfl) (λJ F c j=>?_) (by simp only[jw,w.len,iK];exact cx B (ej ..))
  have X:=lh st.conc g (.inl rfl) j.extBut ⟨_,c⟩ (λo z=>by rw[e] at z;obtain rfl:=dk z;exact fX rfl)
  obtain⟨f,_⟩:=n9 (o':=d7 (l++[x]) y) (d:=s.drawn) (t:=s.toks) st g (.inl rfl) j.extBut ⟨_,c⟩ (λo z=>by rw[e] at z;obtain rfl:=dk z;exact fX rfl)
   ⟨q,⟨vs++[b],F,by simp only[c];simp,(w.ext X).snoc (H.ext X)⟩,L.ext X λo z=>j.extBut _ _ (eN q) z⟩ (d9 _)
  exact⟨ρ,_,_,h,kD,f,X⟩
theorem T5 (W:WK C Kk){vs:List V}{d:List b_}{KK:V->Sg->Prop}(h:VQ vs σ KK)(a:Rels ρ s.heap d vs)(st:St C ρ σ s):cD (cm C.prog C.w) A (call (oU 1) d) (PE C [] ρ s.heap KK) Ee s:=by
 rcases vs with _|⟨v,_|⟨x,_|_⟩⟩ <;>try exact h.elim
 rcases x with _|_|i|_|f|_|_|n|_<;>try exact h.elim
 dsimp only[VQ] at h;obtain⟨_,_,rfl,r,a⟩:=a.inv;obtain⟨_,_,rfl,g,a⟩:=a.inv
 (first|obtain⟨_,rfl⟩:=a.inv|obtain rfl:=a.inv|obtain⟨_,_,rfl⟩:=a.inv)
 refine g.cI λ_=>?_;generalize b:(jh σ v).bind qi=o at h;rcases o with _|m
 .exact h.elim
 .refine cU (Option.bind_eq_some_iff.mp b) λl j b=>wo (zc st.conc j r) λx vs n c e k=>?_;subst c
  exact count_list_ints ⟨_,e,rfl,n,rfl⟩ (k.ints b)<|⟨ρ,σ,_,h,fq _ _,st.toks (dU _),Ext.refl _ _ _⟩
theorem T6 (W:WK C Kk){vs:List V}{m:List b_}{KK:V->Sg->Prop}(h:VR vs σ KK)(a:Rels ρ s.heap m vs)(st:St C ρ σ s):cD (cm C.prog C.w) A (call (oU 2) m) (PE C [] ρ s.heap KK) Ee s:=by
 rcases vs with _|⟨x,_|⟨v,_|_⟩⟩ <;>try exact h.elim
 rcases x with _|_|i|_|d|_|_|n|_<;>try exact h.elim
 dsimp only[VR] at h;obtain⟨_,_,rfl,r,a⟩:=a.inv;obtain⟨_,_,rfl,t,a⟩:=a.inv
 (first|obtain⟨_,rfl⟩:=a.inv|obtain rfl:=a.inv|obtain⟨_,_,rfl⟩:=a.inv)
 refine r.cS λ_=>?_;generalize f:(jh σ v).bind qw=o at h;rcases o with _|D
 .exact h.elim
 .obtain⟨u,h⟩:=h
  refine cU (Option.bind_eq_some_iff.mp f) λl w f=>wo (zc st.conc w t) λx vs n g e y=>?_;subst g;refine cU (H_ f y) λq j k=>?_;subst j;subst k;refine wM (dP (SC.join (Q:=λv p=>∃b c,v=cV (iG d (q.map (·.1))) b/\p={s with toks:=c}) ⟨_,e,rfl,n,rfl⟩ rfl ?_ λb c=>⟨b,c,rfl,rfl⟩)) (λv p z=>?_)
  .unfold JoinOk Fh
   simp only[StrLaws.joinTotal,m_,decide_eq_false_iff_not,iK];exact jV (d8 (jY 0x7000007a1207612021cc24058500008000007 rfl u))
  .obtain⟨B,b,c,rfl,rfl⟩:=z
   exact⟨ρ,σ,_,h,gR _ _,st.toks B,Ext.refl _ _ _⟩
theorem T7 (W:WK C Kk){vs:List V}{b:List b_}{KK:V->Sg->Prop}(h:YH vs σ KK)(a:Rels ρ s.heap b vs)(st:St C ρ σ s):cD (cm C.prog C.w) A (call (oU 3) b) (PE C [] ρ s.heap KK) Ee s:=by
 rcases vs with _|⟨v,_|_⟩ <;>try exact h.elim
 rcases v with _|_|i|_|c|_|_|n|_<;>try exact h.elim
 obtain⟨_,_,rfl,r,a⟩:=a.inv
 (first|obtain⟨_,rfl⟩:=a.inv|obtain rfl:=a.inv|obtain⟨_,_,rfl⟩:=a.inv)
 exact r.cS λ_=>SC.isspace ⟨ρ,σ,_,h,rT _,st,Ext.refl _ _ _⟩
theorem Kh (W:WK C Kk){vs:List V}{b:List b_}{KK:V->Sg->Prop}(a:Rels ρ s.heap b vs)(st:St C ρ σ s):∀{k:Nat},lG k vs σ KK->cD (cm C.prog C.w) A (call (oU k) b) (PE C [] ρ s.heap KK) Ee s
 |0,h=>T4 W h a st|1,h=>T5 W h a st|2,h=>T6 W h a st|3,h=>T7 W h a st|_+4,h=>gc h
end
end
section
open Builtin Builtin.ObjectAttr
theorem I0 {h:cQ}(x:h.Ns1 d m):∃o,h.get? d=aE o/\(∃a n,o.data=hO a n)/\∀name,lookIn name o=aE (m name):=by
 refine U_ x λo a i e c j _ f=>sg o e ⟨a,i,c⟩ (λname=>?_);have g:=f name;unfold oh findBy at g;rw[<-Array.find?_toList] at g;dsimp only[lookIn];refine cn (c ..) ?_;dsimp only;split
 .rename_i p b;rw[b] at g;rw[<-g];rfl
 .rename_i b
  rw[b] at g;have:a.toList.any (·.refKey)=cu:=by rw[List.any_eq_false];refine λy l=>SA (j y (Array.mem_toList_iff.mp l)) λn t k=>?_;simp[DictEntry.refKey,k]
  refine cn (this ..) (ie (g ..) ?_);rfl
theorem zd:∀i<27,∀j<27,(eh i==eh j)=(i==j):=by decide+kernel
theorem I1 (c:m<27):∀{a:List (Nat×V)},iT a=bK->(a.map λp=>(eh p.1,p.2)).lookup (eh m)=a.lookup m:=by
 intro d;induction d with
 |nil=>exact @λ_=>rfl
 |cons p r e=>
  exact @λb=>by unfold iT at b;simp only[rd,eB] at b;have f:p.1<27:=of_decide_eq_true b.1;exact cn (fS ..) (cn (pH ..) (cn (pH ..) (cn (zd m c p.1 f ..) (cn (e b.2 ..) rfl))))
section
variable {C:Fx}{Kk:i9}{A:et}{Ee:b_->cz->Prop}{s:cz}{ρ:Own}{σ:Sg}
theorem AtRel.look {h:cQ}{b:List (Nat×V)}(x:AtRel ρ h d b)(f:iT b=bK):∃o,h.get? d=aE o/\∀m<27,∃r,lookIn (eh m) o=aE r/\match b.lookup m with
 |some v=>∃a,r=aE a/\Rel ρ h a v|none=>r=aT:=by
 refine cU x λj g q=>hR (I0 g) λo e _ l=>iB o e (λm i=>⟨_,l _,?_⟩);have:=q (eh m);rw[I1 i f] at this;split at this
 .rename_i v c;(try refine cn (c ..) ?_);exact this
 .rename_i c;(try refine cn (c ..) ?_);exact this
theorem wZ (W:WK C Kk)(a:c∈[94,178,234])(b:m<12)(f:InstAt s.heap x ox c (aE o))(l:lookIn (eh m) o=aE (aE r)):tu Kk c (aE o) (eh m)=aE (.value r):=by refine hR ((W 1) c a) λg d e _=>?_;dsimp only[tu,Pa];refine cn (d ..) (cn (kP ..) (cn ((W 5) c a m b ..) (cn (kP ..) (cn (kP ..) (cn (kP ..) (cn (e ..) (cn (if_pos rfl ..) (cn (l ..) ?_))))))));rfl
def vW (σ:Sg)(v:V)(m:Nat)(KK:V->Prop):Prop:=match v with
 |aV n=>match σ[n]? with
  |some (fe c a)=>(c=94\/c=234)/\iT a=bK/\m<12/\match a.lookup m with
   |some (hJ _)=>False|some w=>KK w|none=>False
  |some (d7 _ a)=>iT a=bK/\m<12/\match a.lookup m with
   |some (hJ _)=>False|some w=>KK w|none=>False
  |_=>False
 |_=>False
noncomputable def V.isRaw:V->Bool
 |hJ _=>bK|_=>cu
theorem Ki {w:V}{KK:V->Prop}(h:match aE w with|some (hJ _)=>False|some w=>KK w|none=>False):w.isRaw=cu/\KK w:=V.casesOn (motive_1:=λw=>(match aE w with|some (hJ _)=>False|some w=>KK w|none=>False)->w.isRaw=cu/\KK w) w (λh=>⟨@rfl Bool cu,h⟩) (λ_ h=>⟨@rfl Bool cu,h⟩) (λ_ h=>⟨@rfl Bool cu,h⟩) (λ_ h=>⟨@rfl Bool cu,h⟩) (λ_ h=>⟨@rfl Bool cu,h⟩) (λ_ h=>⟨@rfl Bool cu,h⟩) (λ_ h=>⟨@rfl Bool cu,h⟩) (λ_ h=>⟨@rfl Bool cu,h⟩) (λ_ h=>h.elim) h
theorem E2 (r:Rel ρ h a w)(b:w.isRaw=cu):Gs a=bK:=by cases r<;>first|rfl|exact absurd b dG
theorem sF {M:i8}{id:String}{rest:List b_}{owner n:String}{h:cQ}{g:Array yH}{d:tw}{t:Nat}{os:jM}{Q:Unit->cz->Prop}(c:yy id=aE .slot)(e:splitId id=aE (owner,n))(hi:Looks M h (jJ self (bT owner)) bK) (a:i7 id ⟨self::rest,[]⟩) (q:Q () ⟨h,g,d,t,os⟩):cD M A (checkBuiltinCall id ⟨self::rest,[]⟩) Q Ee ⟨h,g,d,t,os⟩:=by
 delta checkBuiltinCall
 refine YI c e<|wpAny_bind (hi.at ?_)
 dsimp only[i7] at a;generalize y7 id=o at a ⊢;rcases o with _|b
 .exact cW q
 .exact iL (t:=Bind.checkArgs id b ⟨self::rest,[]⟩) a q
theorem Kj:yy "list.__getattribute__"=aE .slot:=by decide+kernel
theorem I2:splitId "list.__getattribute__"=aE ("list","__getattribute__"):=by decide+kernel
theorem ze {x c:cE}{ox:Obj}{od:Option Obj}{name:Str}{a:Bool}{Q:b_->cz->Prop}(W:WK C Kk)(X:Kk.In s.heap)(I:InstAt s.heap x ox c od)(k:c=178) (h:cD (cm C.prog C.w) A.in1 (Builtin.«object.__getattribute__» ⟨[aK x,cV name s.toks],[]⟩) (λb f=>match b with|.done (.ret v)=>cD (cm C.prog C.w) A (handedOut v) Q Ee f|_=>False) (λ_ _=>False) {s with toks:=s.toks+1}):
 cD (cm C.prog C.w) A (pX (aK x) name a) Q Ee s:=by
 subst k;obtain⟨e,g,d,t,i⟩:=s;have j:=I.type (M:=cm C.prog C.w);have l:=jo (M:=cm C.prog C.w) X (W 3);have n:=jo (M:=cm C.prog C.w) X ((W 4) 178 (dd rfl));have o:Looks (cm C.prog C.w) e (jJ (aK x) (bT "list")) bK:=j.andThen (yz X (W 22));refine cq (yu (eU (cq (j.at (cq (l.at ?_))))));show cD _ _ (getAttrByItsOwn ..) _ _ _;refine cq (m:=hookBefore (aK 178)) ?_;show cD _ _ (kr (aK 178) "__getattr__") _ _ _;refine n.at<|wpAny_bind (l6 (eU ?_))
 have p:Fu (aK x) (cV name t) (cH "list.__getattribute__") a=boundAndCalled (cH "list.__getattribute__") (aK x) (cV name t):=by unfold Fu;rcases a with _|_<;>rfl
 show cD _ _ (Fu (aK x) (cV name t) (cH "list.__getattribute__") a) _ _ _;refine cn (p ..)<|wpAny_bind (iL (F.slot_list_getattribute.bind (aK x)) ?_)
 show cD _ _ (call (cH "list.__getattribute__") [aK x,cV name t]) _ _ _;refine g_ (y3 F.slot_list_getattribute.plain am_entry_list_getattribute ?_);have q:i7 "list.__getattribute__" ⟨[aK x,cV name t],[]⟩:=F.args_list_getattribute_2 _ _;refine sF (id:="list.__getattribute__") (self:=aK x) (rest:=[cV name t]) (h:=e) (g:=g) (d:=d) (t:=t+1) (os:=i) Kj I2 ?_ ?_ ?_
 .exact o
 .exact q
 refine kq h (λb f z=>?_) λ_ _ z=>z.elim;rcases b with(_|_|_|_)|_<;>first|exact z|exact z.elim
theorem w_ (W:WK C Kk)(X:Kk.In s.heap)(I:InstAt s.heap x ox c od)(b:c=178) (e:tu Kk c od name=aE (.value v)) (f:Gs v=bK) (h:Q v {s with toks:=s.toks+1}):cD (cm C.prog C.w) A (pX (aK x) name a) Q Ee s:=by
 refine ze W X I b ?_;obtain⟨i,g,d,t,l⟩:=s;have j:=I.type (M:=cm C.prog C.w);have k:=looks_find (M:=cm C.prog C.w) X I e;refine cq (cW (cq (cW (cq (j.at (cq (k.at (cW ?_))))))));show cD _ _ (handedOut v) _ _ _;refine cn (handedOut_of f ..) ?_;exact cW h
theorem I3 (W:WK C Kk)(X:Kk.In s.heap)(I:InstAt s.heap x ox c od)(e:c=178) (i:tu Kk c od name=aE (.bind (cH "function.__get__") (aK f))) (j:lb Kk (aK f)=aE (bT "function")) (h:Q (aK s.heap.objs.size) {s with heap:=s.heap.push (rq (aK f) (aK x)),toks:=s.toks+1}):cD (cm C.prog C.w) A (pX (aK x) name b) Q Ee s:=by
 refine ze W X I e ?_;obtain⟨a,g,d,t,k⟩:=s;have l:=I.type (M:=cm C.prog C.w);have m:=looks_find (M:=cm C.prog C.w) X I i;exact cq (cW (cq (cW (cq (l.at (cq (m.at (cq (eU (g_ (fn_get (s:=⟨a,g,d,t+1,k⟩) X j (cW<|wpAny_pure h))))))))))))
theorem zf (W:WK C Kk)(b:c∈[94,178,234])(d:gy Kk (aK c) name=aE (aE (aK f)))(a:lb Kk (aK f)=aE (bT "function"))(e:copiedNames.contains name=cu)(l:lookIn name od=aE aT):tu Kk c (aE od) name=aE (.bind (cH "function.__get__") (aK f)):=by
 refine hR ((W 1) c b) λn g h _=>?_;have i:tn Kk (aK f) "__get__"=aE (aE (cH "function.__get__")):=by unfold tn;refine cn (a ..) (cn (kP ..) ?_);show yE _ _=_;kernel_rfl
 have j:tn Kk (aK f) "__set__"=aE aT:=by unfold tn;refine cn (a ..) (cn (kP ..) ?_);show yE _ _=_;kernel_rfl
 have k:tn Kk (aK f) "__delete__"=aE aT:=by unfold tn;refine cn (a ..) (cn (kP ..) ?_);show yE _ _=_;kernel_rfl
 have m:takesIn Kk (aK f)=aE cu:=by unfold takesIn;refine cn (j ..) ?_;dsimp only;refine cn (k ..) ?_;rfl
 dsimp only[tu,Pa];refine cn (g ..) (cn (kP ..) (cn (d ..) (cn (kP ..) ?_)));dsimp only;refine cn (i ..) (cn (kP ..) ?_);dsimp only;refine cn (m ..) (cn (kP ..) (cn (h ..) (cn (if_pos rfl ..) ?_)));dsimp only;refine cn (l ..) (cn (kP ..) ?_);dsimp only;refine cn (e ..) ?_;rfl
theorem Kl (W:WK C Kk){x:V}{m:Nat}{KK:V->Prop}{a:b_}{ex:Bool}(h:vW σ x m KK)(r:Rel ρ s.heap a x)(st:St C ρ σ s):cD (cm C.prog C.w) A (pX a (eh m) ex) (PQ C ρ s.heap σ KK) Ee s:=by
 rcases x with _|_|_|_|_|_|_|n|_<;>try exact h.elim
 .refine r.cO λp H=>?_
  have j:∀{b:List (Nat×V)} {r:Option b_},(match b.lookup m with
   |some (hJ _)=>False|some w=>KK w|none=>False)->(match b.lookup m with
   |some v=>∃a,r=aE a/\Rel ρ s.heap a v|none=>r=aT)->∃a w,r=aE a/\Rel ρ s.heap a w/\KK w/\Gs a=bK:=by
   intro b r h i;generalize b.lookup m=o at h i;rcases o with _|w
   .exact h.elim
   refine cU i λa f d=>?_;subst f;exact⟨_,_,rfl,d,(Ki h).2,E2 d (Ki h).1⟩
  delta vW at h
  dsimp only at h;generalize k:σ[n]?=o at h;rcases o with _|o
  .exact h.elim
  rcases o with _|⟨c,b⟩ |⟨J,b⟩ |_|_|_<;>try exact h.elim
  .refine qs h λL u t h=>dN (st.conc.objs _ _ _ H k) λq e d=>cU (d.look u) λo y z=>?_
   obtain⟨r,l,i⟩:=z m (vm t (dd rfl));refine BL (j h i) λa w g d B D=>?_;subst g;have I:InstAt s.heap p.1 {cls:=aK c,dict:=aE p.2,data:=.plain} c (aE o):=⟨e,rfl,rfl,y⟩;have F:c∈[94,178,234]:=by rcases L with rfl|rfl<;>decide
   have G:c∈[94,234]:=by rcases L with rfl|rfl<;>decide
   exact get_value (W.In st.based) I ((W 2) c G) (wZ W F t I l) D ⟨ρ,σ,w,⟨rfl,B⟩,d,st.toks (dU _),Ext.refl _ _ _⟩
  .refine dN h λu t h=>dN (st.conc.objs _ _ _ H k) λq f d=>?_;refine jX f λM N e _=>?_
   refine cU (d.look u) λo y z=>?_;obtain⟨r,l,i⟩:=z m (vm t (dd rfl));refine BL (j h i) λa w g d B D=>?_;subst g;have I:InstAt s.heap p.1 {cls:=aK 178,dict:=aE p.2,data:=cK (gW M) N} 178 (aE o):=⟨e,rfl,rfl,y⟩;exact w_ W (W.In st.based) I rfl (wZ W (dd rfl) t I l) D ⟨ρ,σ,w,⟨rfl,B⟩,d,st.toks (dU _),Ext.refl _ _ _⟩
set_option backward.match.sparseCases true in
theorem nD {x c:cE}{ox od:Obj}{name:Str}{o:Sem Bool}{Q:b_×List b_->cz->Prop}(W:WK C Kk)(X:Kk.In s.heap)(I:InstAt s.heap x ox c (aE od))(k:c∈[94,178,234]) (w:gy Kk (aK c) name=aE (aE f)) {T:String} (l:lb Kk f=aE (bT T)) (y:T="function"\/T="method_descriptor") (B:lookIn name od=aE aT) (p:Q (f,[aK x]) s):cD (cm C.prog C.w) A (td (aK x) name o) Q Ee s:=by
 obtain⟨b,g,d,t,q⟩:=s;have D:=I.type (M:=cm C.prog C.w);have F:=jo (M:=cm C.prog C.w) X ((W 4) c k);have G:=jo (M:=cm C.prog C.w) X w;have H:=looks_typeIn (M:=cm C.prog C.w) X l;have a:∀j,(yg j != "object.__getattribute__")=cu->gy Kk (aK c) "__getattribute__"=aE (aE (cH j))->cD (cm C.prog C.w) A (td (aK x) name o) Q Ee ⟨b,g,d,t,q⟩:=by
  intro j h m;have J:=jo (M:=cm C.prog C.w) X m;have n:∀{u:Str} {r:Option b_},Looks (cm C.prog C.w) b (kr (aK c) u) r->Looks (cm C.prog C.w) b (pU (aK x) u) r:=λz=>D.andThen z;refine cq ((n J).at ?_);show cD _ _ (if(yg j != "object.__getattribute__")=bK then _ else _) _ _ _
  refine cn (h ..) (cn (if_neg dF ..) (cq ((n F).at (cq ((n G).at (cq (H.at ?_)))))));obtain⟨L,N,P,v⟩:=I
  have i:cD (cm C.prog C.w) A (do
   if let aE d:=(<-loadPart x (aE Gr)).dict then
    if(<-nsGet d name).isSome then return<-(do return (<-pX (aK x) name,[]))
   rule "call.method-form"
   return (f,[aK x])) Q Ee ⟨b,g,d,t,q⟩:=by
   refine cq (P0 L ?_);induction e:ox.dict with
   |none=>exact cq (ip (cW p))|some R=>rw[e] at v;exact cq (cq (P0 v (cn (nsLook_of B ..)<|wpAny_pure (cq (ip (cW p))))))
  rcases y with rfl|rfl
  .exact i
  .exact i
 simp only[lP,fh,or_false] at k;rcases k with rfl|rfl|rfl
 .exact a _ (by decide+kernel) ((W 2) 94 (dd rfl))
 .exact a _ canon_list_getattribute (W 3)
 .exact a _ (by decide+kernel) ((W 2) 234 (dd rfl))
theorem Cf:∀x∈methL,x.2.1<27/\x.1∈[94,178,234]:=dd rfl
theorem xa (h:(methL.findIdx? λx=>x.1==c&&x.2.1==m).map (·+10)=aE k):∃f,(c,m,f)∈methL/\oU k=aK f:=by
 refine cU (Option.map_eq_some_iff.mp h) λi d a=>?_;subst a;rw[List.findIdx?_eq_some_iff_getElem] at d;refine cU d λg b _=>?_;simp only[eB,beq_iff_eq] at b;refine iB (methL[i].2.2) ?_ ?_
 .have:(c,m,methL[i].2.2)=methL[i]:=ie (b.1 ..) (ie (b.2 ..) rfl)
  refine cn (this ..) ?_;exact sX g
 .have e:oU (i+10)=aK ((methL[i+10-10]?.map (·.2.2)).getD 122):=by unfold oU;rfl
  refine cn (e ..) (cn (O7 ..) (cn (gK g ..) ?_));rfl
theorem Cg (Kk:i9):lb Kk (cH "list.append")=aE (bT "method_descriptor"):=by kernel_rfl
theorem YJ (h:(iT a&&(a.lookup m).isNone)=bK):iT a=bK/\a.lookup m=aT:=⟨(Bool.and_eq_true_iff.mp h).1,Option.isNone_iff_eq_none.mp (Bool.and_eq_true_iff.mp h).2⟩
theorem tM {b:List (Nat×V)}{m:Nat}(c:b.lookup m=aT)(d:m<27)(e:∀m<27,∃r,lookIn (eh m) o=aE r/\match b.lookup m with
 |some v=>∃a,r=aE a/\Rel ρ h a v|none=>r=aT):lookIn (eh m) o=aE aT:=by
 refine cU (e m d) λr l q=>?_;simp only[c] at q;exact cn (l ..) (cn (q ..) rfl)
theorem Qd (W:WK C Kk){k m:Nat}{P:Sem Bool}(h:uw σ v m=aE k)(r:Rel ρ s.heap a v)(st:St C ρ σ s):cD (cm C.prog C.w) A (td a (eh m) P) (S5 C ρ σ s.heap (oU k) a) Ee s:=by
 have b:∀x:b_×List b_,x=x/\St C ρ σ s/\Ext [] ρ ρ s.heap s.heap:=λ_=>⟨rfl,st,Ext.refl _ _ _⟩;rcases v with _|_|_|_|q|_|l|n|_<;>try exact nN h
 .refine r.cS λt=>?_
  rcases VE (show(if m=22 then aE 2 else if m=23 then aE 3 else aT)=aE k from h) with⟨d,h⟩ |⟨_,h⟩
  .subst d;obtain rfl:=dk h;exact GM.join (b _)
  .refine dz (S9 h) λd h=>?_;subst d;obtain rfl:=dk h;exact GM.isspace (b _)
 .refine r.cL λ_ _ _ e f U=>dz (S9 (show(if m=24 then aE 1 else aT)=aE k from h)) λd h=>?_;subst d;obtain rfl:=dk h
  exact Fs Oj Ol ⟨_,e,rfl,_,rfl⟩ ⟨_,e,rfl⟩ (b _)
 .refine r.cO λp B=>?_
  delta uw at h
  dsimp only at h;generalize g:σ[n]?=o at h;rcases o with _|o
  .exact nN h
  rcases o with l|⟨c,D⟩ |⟨N,D⟩ |_|_|_<;>try exact nN h
  .refine dz (st.conc.objs _ _ _ B g) λq i=>?_;refine jX i λQ R e X=>?_
   rcases VE h with⟨d,h⟩ |⟨_,h⟩
   .subst d;obtain rfl:=dk h
    exact getMethod_list_append e rfl rfl (b _)
   .refine dz (S9 h) λd h=>?_;subst d;obtain rfl:=dk h
    exact Fs Oj Ol ⟨_,e,rfl,R,rfl⟩ ⟨_,e,rfl⟩ (b _)
  .exact dz (S9 h) λj h=>dz (YJ j) λG w=>dN (st.conc.objs _ _ _ B g) λq e H=>cU (xa h) λf u I=>dz (Cf _ u) λd J=>dN ((W 6) _ u) λL M _=>cU (H.look G) λo y z=>cn (I ..)<|nD (od:=o) W (W.In st.based) ⟨e,rfl,rfl,y⟩ J L M (.inl rfl) (tM w d z) (b _)
  .refine dz (S9 h) λj h=>dz (YJ j) λG w=>dN (st.conc.objs _ _ _ B g) λq i H=>?_;refine jX i λQ Y e _=>?_
   refine cU (H.look G) λo y z=>?_;rcases VE h with⟨d,h⟩ |⟨_,h⟩
   .subst d;obtain rfl:=dk h
    exact nD (od:=o) (T:="method_descriptor") W (W.In st.based) ⟨e,rfl,rfl,y⟩ (dd rfl) (W 21) (Cg Kk) (.inr rfl) (tM w (dd rfl) z) (b _)
   .exact cU (xa h) λf u I=>dz (Cf _ u) λd J=>dN ((W 6) _ u) λL M _=>cn (I ..)<|nD (od:=o) W (W.In st.based) ⟨e,rfl,rfl,y⟩ J L M (.inl rfl) (tM w d z) (b _)
theorem Qe (W:WK C Kk)(h:Ce σ v m=aE k)(r:Rel ρ s.heap a v)(st:St C ρ σ s):cD (cm C.prog C.w) A (pX a (eh m) bK) (S6 C ρ σ s.heap (oU k) a) Ee s:=by
 rcases v with _|_|_|_|_|_|_|n|_<;>try exact nN h
 .refine r.cO λp w=>?_
  delta Ce at h
  dsimp only at h;generalize f:σ[n]?=o at h;rcases o with _|o
  .exact nN h
  rcases o with _|_|⟨j,x⟩ |_|_|_<;>try exact nN h
  .refine dz (S9 h) λd g=>?_
   clear h
   .skip
    simp only[eB,Option.isNone_iff_eq_none,beq_iff_eq] at d;refine dz d λi c=>?_;obtain⟨y,z⟩:=i;subst c;obtain rfl:=dk g;refine dN (st.conc.objs _ _ _ w f) λq c B=>?_;refine jX c λL M e _=>?_;refine cU (B.look y) λo D F=>?_;obtain⟨G,l,H,I,t,J⟩:=(W 6) (178,14,122) (dd rfl);have k:Kp s.heap (s.heap.push (rq (aK 122) (aK p.1))):=λb o e=>dK _ e;have u:s.heap.get? s.heap.objs.size=aT:=eG _;exact I3 W (W.In st.based) ⟨e,rfl,rfl,D⟩ rfl (zf W (dd rfl) G l (dd rfl) (tM z (dd rfl) F)) l<|⟨⟨_,rfl,fg _ rfl,st.conc.notab u,Free.new st.conc u⟩,⟨122,H,I,rfl,((W 0) _ _ t).1,J,((W 0) _ _ t).2⟩,st.keeps k (dU _),Ext.of_all k⟩
end
end
section
open Builtin Builtin.ObjectAttr
theorem E3:StoreFacts "list" [bT "list",bT "object"] "object.__setattr__" "object" where
 mro:=by kernel_rfl
 slot:=.of (owner:="object") (n:="__setattr__") (by refine cn (r5 ..) (cn (qS ..) ?_);kernel_rfl) (by decide+kernel) (by decide+kernel) (by decide+kernel)
  (by first|exact .inl (by decide+kernel)|exact .inr (by decide+kernel)) (by rw[ve];kernel_rfl)
 entry:=F.entry_object_sa
 kind:=by decide+kernel
 split:=by decide+kernel
 hasOwner:=by decide+kernel
 args:=λa b c=>by unfold i7;kernel_rfl
 passes:=λd=>by kernel_rfl
noncomputable def nc:List (Nat×V)->Nat->V->List (Nat×V)
 |[],m,y=>[(m,y)]|(k,w)::r,m,y=>if k=m then(m,y)::r else(k,w)::nc r m y
theorem A9 (e:m<27)(x):∀{b:List (Nat×V)},iT b=bK->((nc b m y).map λp=>(eh p.1,p.2)).lookup x=if x=eh m then aE y else(b.map λp=>(eh p.1,p.2)).lookup x:=by
 intro f;induction f with
 |nil=>
  exact @λ_=>by
   show(G5 x [(eh m,y)])=_;simp only[pH];by_cases h:x=eh m
   .simp[h]
   .have:(x==eh m)=cu:=by simpa using h
    simp[this,h]
 |cons g r i=>
  obtain⟨k,w⟩:=g;exact @λc=>by
   unfold iT at c;simp only[rd,eB] at c;have j:k<27:=of_decide_eq_true c.1;dsimp only[nc];by_cases a:k=m
   .refine cn (if_pos a ..) (cn (fS ..) (cn (fS ..) (cn (pH ..) (cn (pH ..) (cn (a ..) ?_)))))
    by_cases h:x=eh m
    .simp[h]
    .have:(x==eh m)=cu:=by simpa using h
     simp[this,h]
   .have d:eh k≠eh m:=λq=>by have:=zd k j m e;simp only[q] at this;simp at this;exact a this
    simp only[if_neg a,fS,fS,pH,pH,i c.2];by_cases h:x=eh k
    .simp[h,d]
    .have:(x==eh k)=cu:=by simpa using h
     simp[this]
noncomputable def Aa (T:String)(m:Nat):Bool:=match yE T (eh m) with|some aT=>bK|_=>cu
theorem xb {T:String}(h:Aa T m=bK):kr (bT T) (eh m)=dq aT:=by
 refine cn (r5 ..) (cn (qS ..) ?_)
 delta Aa at h
 generalize yE T (eh m)=o at h ⊢;rcases o with _|_|_<;>first|exact absurd h dF|rfl
theorem xc:∀m<12,kr (bT "object") (eh m)=dq aT:=λm a=>xb ((show ∀m<12,Aa "object" m=bK by decide+kernel) m a)
theorem Ab:∀m<12,kr (bT "list") (eh m)=dq aT:=λm a=>xb ((show ∀m<12,Aa "list" m=bK by decide+kernel) m a)
def E4 (σ:Sg)(v:V)(m:Nat)(y:V)(KK:Sg->Prop):Prop:=match v with
 |aV n=>match σ[n]? with
  |some (fe c a)=>(c=94\/c=234)/\iT a=bK/\m<12/\a.length<=1000/\KK (σ.set n (fe c (nc a m y)))|some (d7 l a)=>iT a=bK/\m<12/\a.length<=1000/\KK (σ.set n (d7 l (nc a m y)))|_=>False
 |_=>False
theorem AtRel.within {b:List (Nat×V)}(q:∀x,match (b.map λp=>(eh p.1,p.2)).lookup x with
 |some v=>∃a,c x=aE a/\Rel ρ h a v|none=>c x=aT):Within c (b.map λp=>eh p.1):=λy d=>by
 have:=q y;split at this
 .rename_i v f
  exact cU (List.mem_map.mp (mem_of_lookup f)) λz g e=>List.mem_map.mpr ⟨z,g,(vo e).1⟩
 .exact absurd this d
theorem Obj.ext4 {a b:Obj}(c:a.cls=b.cls)(d:a.dict=b.dict)(e:a.data=b.data)(f:a.slots=b.slots):a=b:=by rcases a with⟨⟩;rcases b with⟨⟩;simp only at c d e f;subst c d e f;rfl
theorem zg (W:WK C Kk)(SF:StoreFacts B (Kg c) "object.__setattr__" "object")(hB:kr (bT B) (eh m)=dq aT)(hc:c∈[94,178,234])(R:ρ.l[n]?=aE p)(U:p.1≠p.2)(st:St C ρ σ s) (e:s.heap.get? p.1=aE ox) (h1:ox.cls=aK c) (G:ox.dict=aE p.2) (Y:notCls ox=bK) (ra:AtRel ρ s.heap p.2 l) (rb:Rel ρ s.heap b y) (ok:iT l=bK) (hm:m<12) (hl:l.length<=1000) (ho:∀h',Ext [] ρ ρ s.heap h'->h'.get? p.1=aE ox->AtRel ρ h' p.2 (nc l m y)->ORel ρ h' p o') {KK:Sg->Prop} (hk:KK (σ.set n o')):cD (cm C.prog C.w) A (setAttr (aK p.1) (eh m) b) (PT C [] ρ s.heap λ_ Z=>KK Z) Ee s:=by
  obtain⟨nm,q,N,bs,sn,a6,ab,a7,dd,k0,k1,k2,k3,k5,a0,mN,g1,g2,g3,g4,g5,g6⟩:=(W 7) c hc;refine cU ra λmA hn qa=>?_;have F:=st.conc.lo p (jS R);have a1:p.1≠c:=λz=>by have:=F.1;rw[z,g1] at this;exact nS this
  have NN:s.heap.Ns N mN:=
   ud g3 λo es ep e r=>⟨o,es,ep,st.based _ _ e g4,r⟩
  have I:s.heap.Inst p.1 c mA:=⟨ox,e,h1,λcd z=>(by unfold notCls at Y;rw[z] at Y;cases Y),.inr ⟨p.2,G,U.symm,hn⟩⟩
  have wi:=AtRel.within qa
  have a2:=store_attr (A:=A) (E:=Ee) (Q:=λ_ s'=>∃h' i,s'=⟨h',s.gens,s.drawn,i,s.os⟩/\h'.Inst p.1 c (λz=>if z=eh m then aE b else mA z)/\
   (∀b o,b≠p.1->(∀f H,s.heap.get? p.1=aE f->f.dict=aE H->b≠H)->s.heap.get? b=aE o->h'.get? b=aE o)/\
   (∀f,s.heap.get? p.1=aE f->∃h,h'.get? p.1=aE h/\h.cls=f.cls/\h.data=f.data/\h.slots=f.slots/\∀H,f.dict=aE H->h.dict=aE H)) (prog:=C.prog) (w:=C.w) (g:=s.gens) (d:=s.drawn) (t:=s.toks) (os:=s.os)
   SF (st.based _ _ g1 g2) NN g5 (g6 m hm) hB a1 I (λh' i i1 i2 i3=>⟨h',i,rfl,i1,i2,i3⟩) wi (by refine cn (eE ..) (cn (iK ..) ?_);exact cx hl (ej ..))
  refine kq (dP a2) (λ_ s' z=>?_) λ_ _=>id;obtain⟨ht,h',i,rfl,i1,i2,i3⟩:=z;refine Pw (i3 _ e) λh j f1 f2 f3 f4=>?_;have eo:h=ox:=Obj.ext4 f1 ((f4 _ G).trans G.symm) f2 f3;subst eo;refine uc i1 λa5 u _ _ i4=>?_;rw[j] at u;obtain rfl:=dk u;have M:l8 p.2 s.heap h':=λb o M P=>by
   by_cases J:b=p.1
   .rw[J] at P ⊢;rw[e] at P;obtain rfl:=dk P;exact j
   .exact i2 b o J (λf H D hd=>by rw[e] at D;obtain rfl:=dk D;rw[G] at hd;obtain rfl:=dk hd;exact M) P
  rcases i4 with⟨L,_⟩ |⟨d',L,_,i6⟩
  .rw[G] at L;exact nS L
  .rw[G] at L;obtain rfl:=dk L
   have e2:∃o,h'.get? p.2=aE o:=by obtain⟨o,_,_,e,_⟩:=i6;exact⟨o,e⟩
   have k:∀o,s.heap.get? p.2=aE o->¬hU o:=λo z=>by refine wo hn λo' es ep e d _=>?_;rw[e] at z;obtain rfl:=dk z;exact oY d
   have X:=lh st.conc R (.inr rfl) M e2 k;have a3:AtRel ρ h' p.2 (nc l m y):=by
    refine⟨_,i6,λx=>cn ((A9 (fl hm (ej ..)) x ok) ..) ?_⟩;by_cases F:x=eh m
    .exact cn (if_pos F ..)<|⟨b,if_pos F,rb.ext X⟩
    .refine cn (if_neg F ..) ?_
     have:=qa x;split at this
     .rename_i v hv
      exact cU this λa q1 q2=>⟨a,(if_neg F).trans q1,q2.ext X⟩
     .exact(if_neg F).trans this
   obtain⟨a4,_⟩:=n9 (o':=o') (d:=s.drawn) (t:=i) st R (.inr rfl) M e2 k (ho h' X j a3) ht;exact⟨ρ,_,hk,a4,X⟩
theorem Km (W:WK C Kk){KK:Sg->Prop}(h:E4 σ x m y KK)(r:Rel ρ s.heap a x)(I:Rel ρ s.heap b y)(st:St C ρ σ s):cD (cm C.prog C.w) A (setAttr a (eh m) b) (PT C [] ρ s.heap λ_ t=>KK t) Ee s:=by
 rcases x with _|_|_|_|_|_|_|n|_<;>try exact h.elim
 .refine r.cO λp k=>?_
  delta E4 at h
  dsimp only at h;generalize i:σ[n]?=o at h;rcases o with _|o
  .exact h.elim
  rcases o with _|⟨c,d⟩ |⟨l,d⟩ |_|_|_<;>try exact h.elim
  .refine Jk h λJ u j v g=>?_
   clear h;refine dN (st.conc.objs _ _ _ k i) λq e w=>?_;have z:c∈[94,178,234]:=by rcases J with rfl|rfl<;>decide
   have D:Kg c=[bT "object"]:=by rcases J with rfl|rfl<;>decide
   exact zg W (o':=fe c (nc d m y)) (B:="object") (by refine cn (D ..) ?_;exact F.store_object) (xc m j) z k q st e rfl rfl rfl w I u j v (λL X G f=>⟨q,G,f⟩) g
  .refine qs h λu j v g=>?_
   clear h;refine dN (st.conc.objs _ _ _ k i) λq H w=>?_;refine jX H λM N e P=>?_;exact zg W (o':=d7 l (nc d m y)) (c:=178) (B:="list") E3 (Ab m j) (dd rfl) k q st e rfl rfl rfl w I u j v (λL X G f=>⟨q,⟨M,N,G,P.ext X⟩,f⟩) g
end
section
open Builtin Builtin.ObjectAttr
theorem Room.make (h:Room (n+3) A):Room n (A.under (rY "type.__call__" ⟨aK c::e,[]⟩)):=by
 refine dN h λa b d=>?_;have f:Code.weight (rY "type.__call__" ⟨aK c::e,[]⟩)=1:=by kernel_rfl
 have g:Code.cUnits (rY "type.__call__" ⟨aK c::e,[]⟩)=1:=by kernel_rfl
 refine⟨?_,?_,d⟩
 .show A.depth+Code.weight _+n<_
  refine cn (f ..) ?_;exact gG (Jl a)
 .show A.units+Code.cUnits _+n<_
  refine cn (g ..) ?_;exact gG (Jl b)
section
variable {C:Fx}
theorem zh {h:cQ}(e:h.get? d=aE j3):h.Ns1 d λ_=>aT:=by refine Heap.Ns1.of_empty ⟨_,#[],_,e,rfl,λe a=>absurd a (by simp),λ_=>rfl⟩
theorem zi (W:WK C Kk){KK:V->Sg->Prop}(N:(c,fI)∈[((94:Nat),(35:Nat)),(234,210)])(P:Rels ρ s.heap Q vs)(st:St C ρ σ s)(R:Room (n+3) A) (i:∀{f:Own} {s₁:cz} {I:et} {B:List b_},Rels f s₁.heap B (aV σ.length::vs)->St C f (σ++[fe c []]) s₁->Room n I->fA (cm C.prog C.w) I (eR (aK fI) ⟨B,[]⟩) (yN (PE C [] f s₁.heap (λv F=>v=dD/\KK (aV σ.length) F)) Ee) s₁):cD (cm C.prog C.w) A (call (aK c) Q) (PE C [] ρ s.heap KK) Ee s:=by
 refine dN ((W 8) (c,fI) N) λU Y Z=>?_;have X:=W.In st.based;obtain⟨a,g,d,t,os⟩:=s;have k:Kp a ((a.push j3).push (yJ c a.objs.size)):=λb o e=>dK _ (dK _ e);have J:((a.push j3).push (yJ c a.objs.size)).get? (a.objs.size+1)=aE (yJ c a.objs.size):=by heap_get
 have L:((a.push j3).push (yJ c a.objs.size)).get? a.objs.size=aE j3:=dK _ (fg _ rfl);have n0:a.get? a.objs.size=aT:=eG _;have n1:a.get? (a.objs.size+1)=aT:=y4 (dU _);have G:=st.conc.own (p:=(a.objs.size+1,a.objs.size)) (o:=fe c []) k n1 n0 ⟨_,J⟩ ⟨_,L⟩ ⟨by simp,J,_,zh L,λ_=>rfl⟩
 refine dz G λcc M=>?_;have H:St C (ρ.add (a.objs.size+1,a.objs.size)) (σ++[fe c []]) ⟨(a.push j3).push (yJ c a.objs.size),g,d,t,os⟩:=⟨cc,st.os,st.gens⟩;have j:(ρ.add (a.objs.size+1,a.objs.size)).l[σ.length]?=aE (a.objs.size+1,a.objs.size):=by show(ρ.l++[_])[σ.length]?=_;refine ie (st.conc.len ..) ?_;exact sT ..
 refine g_ (make_core (makes_of X U) (jo X Y) (λD=>bind_fn X D Z) (.inl rfl) (t6 (i (fo (kF j) (P.ext M)) H R.make) λr s' z=>?_));rcases r with e|(_|_|_|v)<;>first|exact z|exact z.elim|skip
 obtain⟨m,q,w,⟨hw,hk⟩,x,y,h⟩:=z;subst hw;refine⟨by refine x.cN ?_;rfl,m,q,_,hk,?_,y,M.trans h⟩
 refine kF (p:=(a.objs.size+1,a.objs.size))<|eF h.pre λu hu=>ie (hu ..) (cn (jR (List.getElem?_eq_some_iff.mp j).1 ..) ?_);exact j
noncomputable abbrev lH (a:cE):Obj:={cls:=aK 178,dict:=aE a,data:=cK #[]}
section
variable {os:jM}
theorem VT (Y:MakesL (cm prog w) h 178)(k:R (.ok (.ret (aK (h.objs.size+1)))) ⟨(h.push j3).push (lH h.objs.size),g,d,t,os⟩):fA (cm prog w) A (eR (cH "list.__new__") ⟨[aK 178,a],[]⟩) R ⟨h,g,d,t,os⟩:=by
 obtain⟨⟨u,v,x,y,l,z,m,B,D⟩,f,i,j,n,b,o,q,r,e⟩:=Y;refine Bk ?_;show cD _ A.in1 (do checkBuiltinCall "list.__new__" ⟨[aK 178,a],[]⟩;again (rY "list.__new__" ⟨[aK 178,a],[]⟩)) _ _ _;refine cq ((e a).at (cW (⟨yq Oz _,codeAny_builtin_stack F.entry_list_new rfl λp G=>cn (AZ Oz _ ..) ?_⟩)));have c:=owner_list_new;simp only[c];have s:=dK (lH h.objs.size) (dK j3 l)
 repeat lk
 refine cn (m ..) (cn (if_neg dF ..) (cW (cW ?_)));show R _ _;exact cn (lO ..)<|k
theorem E5 (Y:MakesL (cm prog w) h 178)(hi:Looks (cm prog w) h (kr (aK 178) "__init__") (aE (aK 115))) (m:∀self,Looks (cm prog w) h (G8 (aK 115) self) (aK 115,[self])) (n:fA (cm prog w) (A.under (rY "type.__call__" ⟨[aK 178,a],[]⟩)) (eR (aK 115) ⟨[aK (h.objs.size+1),a],[]⟩) (InitBack (h.objs.size+1) R) ⟨(h.push j3).push (lH h.objs.size),g,d,t,os⟩):fA (cm prog w) A (eR (aK 178) ⟨[a],[]⟩) R ⟨h,g,d,t,os⟩:=by
 have p:=Y;obtain⟨⟨y,B,D,F,q,G,H,I,J⟩,f,l,self,s,c,u,i,j,_⟩:=Y;refine Bk ?_;refine nd_load q ?_;show cD _ _ (callAny.viaDunder (aK 178) _) _ _ _;refine cq (c.at ?_);dsimp only;refine cq (cW (cq (cW (cW (a:=Fin.again (eR (cH "type.__call__") ⟨[aK 178,a],[]⟩)) (dy rfl (codeAny_call_builtin_at (Code.quiet_builtin _ (by decide+kernel)) entry_typeCall ((j a).at (cq (i.at (cq (f.at (cq (cW (cq (eU (g_ (VT p ?_)))))))))))))))))
 have k:Kp h ((h.push j3).push (lH h.objs.size)):=λb o e=>dK _ (dK _ e);have x:((h.push j3).push (lH h.objs.size)).get? (h.objs.size+1)=aE (lH h.objs.size):=by heap_get
 have L:Looks (cm prog w) ((h.push j3).push (lH h.objs.size)) (mY (aK (h.objs.size+1))) (aK 178):=(lS x).andThen jE;have M:=self.keeps k;have N:=hi.keeps k;have P:=(m (aK (h.objs.size+1))).keeps k
 repeat (first|with_reducible refine g_ ?_|lk)
 refine t6 n λr Q z=>?_;rcases r with e|(_|_|_|v)<;>first|exact z|exact z.elim|skip
 obtain⟨rfl,z⟩:=z;exact cW (cW z)
end
theorem Kn (W:WK C Kk){KK:V->Sg->Prop}(N:Rel ρ s.heap a v)(st:St C ρ σ s)(P:Room (n+3) A) (i:∀{f:Own} {s₁:cz} {I:et} {B:List b_},Rels f s₁.heap B [aV σ.length,v]->St C f (σ++[d7 [] []]) s₁->Room n I->fA (cm C.prog C.w) I (eR (aK 115) ⟨B,[]⟩) (yN (PE C [] f s₁.heap (λv F=>v=dD/\KK (aV σ.length) F)) Ee) s₁):cD (cm C.prog C.w) A (call (aK 178) [a]) (PE C [] ρ s.heap KK) Ee s:=by
 refine dN (W 9) λQ R U=>?_;have X:=W.In st.based;obtain⟨c,g,d,t,os⟩:=s;have k:Kp c ((c.push j3).push (lH c.objs.size)):=λb o e=>dK _ (dK _ e);have J:((c.push j3).push (lH c.objs.size)).get? (c.objs.size+1)=aE (lH c.objs.size):=by heap_get
 have L:((c.push j3).push (lH c.objs.size)).get? c.objs.size=aE j3:=dK _ (fg _ rfl);have Y:c.get? c.objs.size=aT:=eG _;have Z:c.get? (c.objs.size+1)=aT:=y4 (dU _);have G:=st.conc.own (p:=(c.objs.size+1,c.objs.size)) (o:=d7 [] []) k Z Y ⟨_,J⟩ ⟨_,L⟩ ⟨by simp,⟨[],_,J,fB⟩,_,zh L,λ_=>rfl⟩
 refine dz G λcc M=>?_;have H:St C (ρ.add (c.objs.size+1,c.objs.size)) (σ++[d7 [] []]) ⟨(c.push j3).push (lH c.objs.size),g,d,t,os⟩:=⟨cc,st.os,st.gens⟩;have j:(ρ.add (c.objs.size+1,c.objs.size)).l[σ.length]?=aE (c.objs.size+1,c.objs.size):=by show(ρ.l++[_])[σ.length]?=_;refine ie (st.conc.len ..) ?_;exact sT ..
 refine g_ (E5 (Q _ _ X) (jo X R) (λD=>bind_fn X D U) (t6 (i (fo (kF j) (fo (N.ext M) fB)) H P.make) λr s' z=>?_));rcases r with e|(_|_|_|v)<;>first|exact z|exact z.elim|skip
 obtain⟨m,q,w,⟨hw,hk⟩,x,y,h⟩:=z;subst hw;refine⟨by refine x.cN ?_;rfl,m,q,_,hk,?_,y,M.trans h⟩
 refine kF (p:=(c.objs.size+1,c.objs.size))<|eF h.pre λu hu=>ie (hu ..) (cn (jR (List.getElem?_eq_some_iff.mp j).1 ..) ?_);exact j
end
end
section
open Builtin Builtin.ObjectAttr
theorem slot_wd:Slot "wrapper_descriptor" "__get__" "wrapper_descriptor.__get__":=.of (owner:="wrapper_descriptor") (n:="__get__") (by rw[r5,qS];kernel_rfl) (by decide+kernel) (by decide+kernel) (by decide+kernel)
 (by first|exact .inl (by decide+kernel)|exact .inr (by decide+kernel)) (by rw[ve];kernel_rfl)
theorem Ci:ru rC "wrapper_descriptor.__get__"=aE Builtin.«wrapper_descriptor.__get__»:=sY (by kernel_rfl)
theorem G_ (a b c):i7 "wrapper_descriptor.__get__" ⟨[a,b,c],[]⟩:=by unfold i7;kernel_rfl
theorem slot_md:Slot "method_descriptor" "__get__" "method_descriptor.__get__":=.of (owner:="method_descriptor") (n:="__get__") (by rw[r5,qS];kernel_rfl) (by decide+kernel) (by decide+kernel) (by decide+kernel)
 (by first|exact .inl (by decide+kernel)|exact .inr (by decide+kernel)) (by rw[ve];kernel_rfl)
theorem Ko:ru rC "method_descriptor.__get__"=aE Builtin.«method_descriptor.__get__»:=sY (by kernel_rfl)
theorem Qf (a b c):i7 "method_descriptor.__get__" ⟨[a,b,c],[]⟩:=by unfold i7;kernel_rfl
section
variable {os:jM}
theorem Ac {M:i8}{v T:b_}{Q:Bool->cz->Prop}(hi:Looks M h (jJ v (bT "list")) bK)(e:T=bT "list")(a:Q bK ⟨h,g,d,t,os⟩):cD M A (jJ v T) Q Ee ⟨h,g,d,t,os⟩:=by subst e;exact hi.at a
theorem Qg {Q:b_->cz->Prop}(hi:Looks (cm prog w) h (jJ (aK x) (bT "list")) bK)(a:Q (aK h.objs.size) ⟨h.push {cls:=bT "method-wrapper",data:=cY #[cH "list.__init__",aK x]},g,d,t,os⟩):
 cD (cm prog w) A (call (cH "wrapper_descriptor.__get__") [cH "list.__init__",aK x,aK 178]) Q Ee ⟨h,g,d,t,os⟩:=by
 have b:(⟨h,g,d,t,os⟩:cz).TypeIs (cH "list.__init__") "wrapper_descriptor":=by show mY _=_;show yA _=_;refine cn (y8 ..) ?_;kernel_rfl
 refine kO slot_wd b Ci ?_ (G_ ..);unfold Builtin.«wrapper_descriptor.__get__»
 repeat (first|(with_reducible refine Ac hi ?_ ?_;kernel_rfl)|lk)
 exact iB _ rfl a
theorem T8 {Q:b_->cz->Prop}(hi:Looks (cm prog w) h (jJ (aK x) (bT "list")) bK)(a:Q (aK h.objs.size) ⟨h.push {cls:=bT "method-wrapper",data:=cY #[cH "list.__len__",aK x]},g,d,t,os⟩):
 cD (cm prog w) A (call (cH "wrapper_descriptor.__get__") [cH "list.__len__",aK x,aK 178]) Q Ee ⟨h,g,d,t,os⟩:=by
 have b:(⟨h,g,d,t,os⟩:cz).TypeIs (cH "list.__len__") "wrapper_descriptor":=by show mY _=_;show yA _=_;refine cn (y8 ..) ?_;kernel_rfl
 refine kO slot_wd b Ci ?_ (G_ ..);unfold Builtin.«wrapper_descriptor.__get__»
 repeat (first|(with_reducible refine Ac hi ?_ ?_;kernel_rfl)|lk)
 exact iB _ rfl a
theorem T9 {Q:b_->cz->Prop}(hi:Looks (cm prog w) h (jJ (aK x) (bT "list")) bK)(a:Q (aK h.objs.size) ⟨h.push {cls:=bT "builtin_function_or_method",data:=cY #[cH "list.pop",aK x]},g,d,t,os⟩):
 cD (cm prog w) A (call (cH "method_descriptor.__get__") [cH "list.pop",aK x,aK 178]) Q Ee ⟨h,g,d,t,os⟩:=by
 have b:(⟨h,g,d,t,os⟩:cz).TypeIs (cH "list.pop") "method_descriptor":=OP;refine kO slot_md b Ko ?_ (Qf ..);unfold Builtin.«method_descriptor.__get__»
 repeat (first|(with_reducible refine Ac hi ?_ ?_;kernel_rfl)|lk)
 exact iB _ rfl a
theorem I4 {o:cE}{name:Str}{id p q r:String}{u:Tok}{Q:Fin->cz->Prop} (b:h.get? o=aE (G9 178 x 178)) (i:Looks (cm prog w) h (OA (aK 178)) aT) (v:Looks (cm prog w) h (mroOf (aK 178)) [aK 178,bT "list",bT "object"]) (f:Gu (bT "list") name=dq (aE (cH id))) (j:mY (cH id)=dq (bT p)) (k:kr (bT p) "__get__"=dq (aE (cH q))) (l:x≠178) (y:(name==("__class__":Str))=cu) (c:∀z B (s:b_->cz->Prop),s (aK h.objs.size) ⟨h.push {cls:=bT r,data:=cY #[cH id,aK x]},g,d,t,os⟩->cD (cm prog w) z (call (cH q) [cH id,aK x,aK 178]) s B ⟨h,g,d,t,os⟩)
 (C:Q (.done (.ret (aK h.objs.size))) ⟨h.push {cls:=bT r,data:=cY #[cH id,aK x]},g,d,t,os⟩):
 cD (cm prog w) A (Builtin.«super.__getattribute__» ⟨[aK o,cV name u],[]⟩) Q Ee ⟨h,g,d,t,os⟩:=by
 have n:(o7 x==o7 178)=cu:=by simp[l]
 have e:(G9 178 x 178).data=cY #[aK 178,aK x,aK 178]:=rfl;have D:(#[aK 178,aK x,aK 178]:Array b_)[0]?=aE (aK 178):=rfl;have F:(#[aK 178,aK x,aK 178]:Array b_)[1]?=aE (aK x):=rfl;have G:(#[aK 178,aK x,aK 178]:Array b_)[2]?=aE (aK 178):=rfl;exact cq (cW (cq (cW (cq (fi b e D (cq (fi b e F (cq (fi b e G (cn (a:=name==("__class__":Str)) y<|wpAny_bind (ks_wpAny_notOpaque i (cq (v.at (cq (m:=forIn [Value.type "list",bT "object"] ..) (cq (cq (iL f (cq (iL j (cq (iL k (cq (eU (cn n (c _ _ _ (cq (cW (cW (cW (cW C))))))))))))))))))))))))))))))
theorem Ad {f:cE}{name:Str}{id o p i:String}{u:Sem Bool}{Q:b_×List b_->cz->Prop} (c:h.get? f=aE (G9 178 x 178)) (j:Looks (cm prog w) h (OA (aK 178)) aT) (y:Looks (cm prog w) h (mroOf (aK 178)) [aK 178,bT "list",bT "object"]) (e:Gu (bT "list") name=dq (aE (cH id))) (k:mY (cH id)=dq (bT o)) (l:kr (bT o) "__get__"=dq (aE (cH p))) (m:x≠178) (B:(name==("__class__":Str))=cu) (b:∀t C D (q:b_->cz->Prop),q (aK h.objs.size) ⟨h.push {cls:=bT i,data:=cY #[cH id,aK x]},g,d,t,os⟩->cD (cm prog w) C (call (cH p) [cH id,aK x,aK 178]) q D ⟨h,g,d,t,os⟩)
 (G:Q (aK h.objs.size,[]) ⟨h.push {cls:=bT i,data:=cY #[cH id,aK x]},g,d,t+1,os⟩):
 cD (cm prog w) A (td (aK f) name u) Q Ee ⟨h,g,d,t,os⟩:=by
 have a:=F.ks_slot_super_ga.lookup;have r:=F.ks_canon_super_ga;have n:∀H,(⟨h,g,d,H,os⟩:cz).TypeIs (aK f) "super":=λ_=>⟨_,c,rfl⟩;refine cq (r4 (n _) a ?_);show cD _ _ (if(yg "super.__getattribute__" != "object.__getattribute__")=bK then _ else _) _ _ _
 refine cq (cq (yu (eU (cq (Bt (n _) (cq (iL a ?_)))))));refine cq (iL (show(if onTheHeap (bT "super") then kr (bT "super") "__getattr__" else dq aT)=dq aT from rfl) (cq (l6 (eU ?_))))
 refine cq (iL (F.ks_slot_super_ga.bind _) ?_)
 refine kq (Q:=λv s=>v=aK h.objs.size/\s=⟨h.push {cls:=bT i,data:=cY #[cH id,aK x]},g,d,t+1,os⟩) (E:=λ_ _=>False)
  (kO F.ks_slot_super_ga (n _) F.ks_entry_super_ga (I4 c j y e k l m B (b _) ⟨_,rfl,rfl,rfl⟩) (F.ks_gaArgs_super ..)) (λv s I=>?_) λ_ _ z=>z.elim
 obtain⟨rfl,rfl⟩:=I;exact cW (cW G)
theorem E6 {m:cE}{id:String}{b:String}{B:Builtin}{R:Result->cz->Prop}(n:h.get? m=aE {cls:=bT b,data:=cY #[cH id,aK x]})(c:b="method-wrapper"\/b="builtin_function_or_method")
 (i:∀(Q:Unit->cz->Prop) (o:b_->cz->Prop),Q () ⟨h,g,d,t,os⟩->cD (cm prog w) A.in1 (vg id ⟨[aK x],[]⟩) Q o ⟨h,g,d,t,os⟩) (k:plainId id=bK) (p:ru rC id=aE B)
 (q:cD (cm prog w) A.in1 (B ⟨[aK x],[]⟩) (λj a=>match j with|.done f=>R (.ok f) a|.again l=>l.quiet=bK/\fA (cm prog w) A l R a) (λe a=>R (.error e) a) ⟨h,g,d,t,os⟩):
 fA (cm prog w) A (eR (aK m) ⟨[],[]⟩) R ⟨h,g,d,t,os⟩:=by
 refine Bk ?_;refine cq (yD n ?_);rcases c with rfl|rfl
 all_goals
  exact cq (i _ _ (cW ⟨yq k _,FB p (cn (AZ k _ ..)<|q)⟩))
end
end
section
open Builtin Builtin.ObjectAttr
section
variable {os:jM}
abbrev Qh (M:i8)(A:et)(R:Result->cz->Prop):Fin->cz->Prop:=λa b=>match a with|.done f=>R (.ok f) b|.again c=>c.quiet=bK/\fA M A c R b
theorem yS (n):mV (-1) (n+1)=aE n:=by
 unfold mV;have e:(if(-1:Int)<0 then-1+((n+1:Nat):Int) else-1)=(n:Int):=by refine cn ((if_pos (dd rfl)) ..) ?_;exact(G1 ..).trans (Np (n:Int) 1)
 exact cn (e ..)<|cn ((if_pos (by simp;exact Int.lt_succ _)) ..)<|rfl
theorem ux (a:ox.data=cK items n):∃b,pT f ox={ox with data:=cK (f items) b}:=by obtain⟨c,d,e,g⟩:=ox;simp only at a;subst a;exact⟨_,rfl⟩
theorem Kq (a:h.get? x=aE ox)(b:ox.data=cK #[] n) (j:∀h' c,h'.get? x=aE {ox with data:=cK #[] c}->km x h h'->R (.ok (.ret cG)) ⟨h',g,d,t,os⟩):
 cD (cm prog w) k (Builtin.«list.__init__» ⟨[aK x],[]⟩) (Qh (cm prog w) A R) Ee ⟨h,g,d,t,os⟩:=by
 have L:cD (cm prog w) k (List.listItems (aK x)) (λv i=>v=#[]/\i=⟨h,g,d,t,os⟩) Ee ⟨h,g,d,t,os⟩:=
  cq (iY a b (cW ⟨rfl,rfl⟩))
 refine cq (wM L (λv i q=>?_));obtain⟨rfl,rfl⟩:=q;obtain⟨c,e⟩:=ux (f:=λ_=>#[]) b;exact cq (Bj a b (cq (rk (cW (j _ c (cn ((oR _ a (by rw[e];rfl)) ..) (cn (e ..) rfl)) (nk ..))))))
theorem Qi (a:h.get? x=aE ox)(b:ox.data=cK items n)(c:R (.ok (.ret (d6 items.size t))) ⟨h,g,d,t+1,os⟩):cD (cm prog w) e (Builtin.«list.__len__» ⟨[aK x],[]⟩) (Qh (cm prog w) A R) Ee ⟨h,g,d,t,os⟩:=by
 exact cq (cW (cq (cq (yD a (cn (b ..)<|wpAny_pure<|wpAny_bind (vp (cW c)))))))
theorem Qj (b:h.get? x=aE ox)(c:ox.data=cK (items.push v₀) n)(a:items.size+1<=Gm) (l:∀h' i,h'.get? x=aE {ox with data:=cK items i}->km x h h'->R (.ok (.ret v₀)) ⟨h',g,d,t,os⟩):
 cD (cm prog w) m (Builtin.«list.pop» ⟨[aK x],[]⟩) (Qh (cm prog w) A R) Ee ⟨h,g,d,t,os⟩:=by
 refine cq (cW ?_);dsimp only
 have L:cD (cm prog w) m (List.listItems (aK x)) (λv j=>v=items.push v₀/\j=⟨h,g,d,t,os⟩) Ee ⟨h,g,d,t,os⟩:=
  cq (iY b c (cW ⟨rfl,rfl⟩))
 refine cq (cW (cn ((if_neg (dd rfl)) ..)<|wpAny_bind (wM L (λv j q=>?_))))
 obtain⟨rfl,rfl⟩:=q;refine cn ((if_neg (by simp)) ..) ?_
 have o:((mV (-1) (items.push v₀).size).bind λk=>Gd (λy=>(k,y)) (items.push v₀)[k]?)=aE (items.size,v₀):=by
  have:mV (-1) (items.push v₀).size=aE items.size:=
   cn (yn ..)<|yS _
  refine cn (this ..) ?_;simp
 refine cn (o ..) ?_;obtain⟨i,e⟩:=ux (f:=λy=>y.eraseIdxIfInBounds items.size) c;refine cq (Bj b c (cW (l _ i ?_ (nk ..))) (by refine cn (yn ..) ?_;exact a) ?_)
 .show(Heap.update h x (pT λy=>y.eraseIdxIfInBounds items.size)).get? x=_
  refine cn ((oR _ b (by rw[e];rfl)) ..) (cn (e ..) ?_)
  have:(items.push v₀).eraseIdxIfInBounds items.size=items:=by
   dsimp only[Nq];refine cn ((dif_pos (by rw[yn];exact gG Jm)) ..) ?_
   apply Array.toList_inj.mp;refine cn (Array.toList_eraseIdx ..) (cn (Array.toList_push ..) (ie (Array.length_toList ..) (cn (N5 (d9 _) ..) ?_)));simp
  exact cn (this ..) rfl
 .show((items.push v₀).eraseIdxIfInBounds items.size).size<=_
  dsimp only[Nq];split
  .refine cn (Array.size_eraseIdx ..) (cn (yn ..) ?_);exact d8 (iP 0xe09614021cc28044438458530a09 rfl a (sA ..))
  .refine cn (yn ..) ?_;exact d8 (jY 0xe09614021cc28058530a09 rfl a)
end
def SK (C:Fx)(Kk:i9):Prop:=Rc [
 (∀f∈[115,138,175],∃o fd b,Kk.lookup f=aE o/\o.data=fK fd/\(fd.params.posonlyargs++fd.params.args).head?=aE b/\b.arg="self"/\
  ∃c d vs a e,fd.code=aK c/\Kk.lookup c=aE d/\d.data=cY vs/\vs[2]?=aE (cV a e)/\((C.prog.main.file:Str)==a)=bK),
 ((C.prog.main.scope.names.lookup ("super":Str)).isSome=cu),
 (lr C "super" (bT "super")),
 (∃o,Kk.lookup 102=aE o/\o.data=.cell (aE (aK 178))),
 (mroIn Kk 178 (aK 178)=aE bK)]
structure SupF (name:Str)(id dt gg bt:String)(B:Builtin):Prop where
 own:Gu (bT "list") name=dq (aE (cH id))
 ty:mY (cH id)=dq (bT dt)
 lk:kr (bT dt) "__get__"=dq (aE (cH gg))
 nm:(name==("__class__":Str))=cu
 get:∀{prog:lT} {w:gf} {A:et} {Ee:b_->cz->Prop} {h:cQ} {g:Array yH} {d:tw} {t:Nat} {os:jM} {x:cE} {Q:b_->cz->Prop},Looks (cm prog w) h (jJ (aK x) (bT "list")) bK->
  Q (aK h.objs.size) ⟨h.push {cls:=bT bt,data:=cY #[cH id,aK x]},g,d,t,os⟩->cD (cm prog w) A (call (cH gg) [cH id,aK x,aK 178]) Q Ee ⟨h,g,d,t,os⟩
 bt:bt="method-wrapper"\/bt="builtin_function_or_method"
 pl:plainId id=bK
 en:ru rC id=aE B
section
variable {C:Fx}
theorem Kr (b:clsIn Kk a=aE c):∃o,Kk.lookup a=aE o/\o.data=jg c:=by
 delta clsIn at b
 generalize Kk.lookup a=o at b ⊢;rcases o with _|⟨e,f,d,g⟩
 .exact nN b
 cases d<;>first|exact nN b|exact⟨_,rfl,congrArg PySem.Data.cls (dk b)⟩
theorem sG (W:WK C Kk)(Y:SK C Kk){id dt gg u:String}{KK:V->Sg->Prop}(j:SupF nm id dt gg u B) (F:(Z.endLine==p3.line)=bK) (hf:f∈[115,138,175]) (G:i.func=aE f) (a0:∃o fd,Kk.lookup f=aE o/\o.data=fK fd/\i.code=fd.code/\i.scope=fd.scope) (h1:i.kindOf "super"=aE kE) (h2:i.kindOf "__class__"=aE ft) (h3:i.cells.lookup ("__class__":Str)=aE 102) (R:EnvRel C i vis M ρ s.heap) (hv:(0,("self":Str))∈vis) (hM:M[0]?=aE (aE (aV n))) (a1:σ[n]?=aE (d7 l aa)) (st:St C ρ σ s) (a2:∀(x:cE) (ox:Obj) (h:cQ) (A:et) (g:Array yH) (d:tw) (t:Nat) (os:jM),fk C h->h.get? x=aE ox->ox.cls=aK 178->(∀c,ox.data≠jg c)->∀(Q:Unit->cz->Prop) (E':b_->cz->Prop),Q () ⟨h,g,d,t,os⟩->cD (cm C.prog C.w) A (vg id ⟨[aK x],[]⟩) Q E' ⟨h,g,d,t,os⟩) (H:∀p s₁ A',ρ.l[n]?=aE p->St C ρ σ s₁->Ext [] ρ ρ s.heap s₁.heap->cD (cm C.prog C.w) A' (B ⟨[aK p.1],[]⟩) (Qh (cm C.prog C.w) A (yN (PE C [] ρ s.heap KK) (λ_ _=>False))) (λ_ _=>False) s₁):Po (cm C.prog C.w) A (.func a8 i) (ei (iJ (jD (iJ (dI "super" p0) [] [] p1) nm Z) [] [] p3) i) (PE C [] ρ s.heap KK) Ee s:=by
 refine U_ ((Y 0) f hf) λo fd ar g1 g2 g3 g4 a3=>(BL a0 λo' ab f1 f2 f3 f4=>?_);obtain⟨cc,oc,vs,a9,tf,g5,g6,g7,g8,g9⟩:=a3;rw[g1] at f1;obtain rfl:=dk f1;rw[g2] at f2;obtain rfl:=PySem.Data.func.inj f2;have X:=W.In st.based;refine cU (Y 3) λoK k1 I=>hR (W 10) λcd c1 c2 _=>?_
 have hD:∃oD,s.heap.get? 178=aE oD/\oD.data=jg cd:=
  (Kr c1).elim λo h=>⟨o,X _ _ h.1,h.2⟩
 refine cU hD λoD w y=>?_;have ac:=h1
 refine PySem.wpAt_bind (PySem.wpAt_mono (ks_wpAt_super_base (Q:=λv s₁=>cD (cm C.prog C.w) A (do
  standAt Z.atName
  vv (iJ (dI "super" p0) [] [] p1) nm Z p3 i v 0 [] []) (PE C [] ρ s.heap KK) Ee s₁) h1 h2 j.nm G (X _ _ g1) g2 g3 (f3.trans g5) (X _ _ g6) g7 g8 g9 (Y 1) ?_) (λ_ _ x=>Bq x) λ_ _ x=>x)
 refine uX R.kind h1 ((Y 2) A _ i s _ st.based R.glob R.bi ⟨rfl,B3 R.kind h2 h3 ⟨_,X _ _ k1,I⟩ <|cn (g4 ..)<|lg R hv (by decide) hM λa ra=>ra.cO λ_ hp=>?_⟩)
 rename_i p
 refine dN (st.conc.objs _ _ _ hp a1) λne a4 ra=>?_;obtain⟨a5,m',e,rl⟩:=a4;obtain⟨hh,g,d,t,os⟩:=s;refine ks_wpAny_isType_cls w y ⟨rfl,ks_wpAny_call_super w y e rfl (λc z=>by cases z) (yz X (Y 4)) (λm e' k=>?_)⟩
 have L0:Looks (cm C.prog C.w) m (mroOf (aK 178)) [aK 178,bT "list",bT "object"]:=by refine ie (c2 ..) ?_;exact((looks_clsIn (X.keeps k) c1).andThen jE)
 have J:St C ρ σ ⟨m,g,d,t,os⟩:=st.keep0 k;have L:p.1≠178:=λz=>by rw[z,w] at e;obtain rfl:=dk e;cases y
 have N:∀{h:cQ},fk C h->h.get? p.1=aE {cls:=aK 178,dict:=aE p.2,data:=cK (gW a5) m'}->Looks (cm C.prog C.w) h (jJ (aK p.1) (bT "list")) bK:=λb z=>ow W b z rfl;refine cq (jW ?_);dsimp only[vv];have D:methodCallForm 0 [] []=bK:=rfl;refine cn (D ..) ?_;dsimp only[Gv];refine cq (eU (Ad e' (looks_opaque (X.keeps k) (W 20)) L0 j.own j.ty j.lk L j.nm (λt' A' E' Q' q=>j.get (N J.based (k _ _ e)) q) ?_));have I:Kp m (m.push {cls:=bT u,data:=cY #[cH id,aK p.1]}):=λb o e=>dK _ e;have U:St C ρ σ ⟨m.push {cls:=bT u,data:=cY #[cH id,aK p.1]},g,d,t+1,os⟩:=J.keeps I (dU _);have em:(m.push {cls:=bT u,data:=cY #[cH id,aK p.1]}).get? m.objs.size=aE {cls:=bT u,data:=cY #[cH id,aK p.1]}:=fg _ rfl;dsimp only[FQ];have a6:(!bK||Z.endLine==p3.line)=bK:=by exact F
 simp only[a6,if_true];refine cq (cW (mS (P:=λz=>z.get? m.objs.size=aE {cls:=bT u,data:=cY #[cH id,aK p.1]}) rfl (λz hz=>⟨lq,.inr (.inl rfl),?_⟩) ?_))
 .dsimp only[Gi]
  refine(lS (part:=aT) hz).andThen ?_;rcases j.bt with rfl|rfl<;>exact rh (by rfl)
 .refine PySem.evalArgs_none ⟨em,?_⟩
  have XX:Ext [] ρ ρ hh (m.push {cls:=bT u,data:=cY #[cH id,aK p.1]}):=Ext.of_all λb o e=>I b o (k b o e);refine g_ (E6 em j.bt (λQ E' q=>a2 p.1 _ _ _ _ _ _ _ U.based (I _ _ (k _ _ e)) rfl (λc z=>by cases z) Q E' q) j.pl j.en (kq (H p _ _ hp U XX) (λa7 s' z=>?_) λ_ _ z=>z.elim))
  rcases a7 with f|c
  .rcases f with _|_|_|v<;>first|exact z.elim|exact z
  .refine⟨z.1,t6 z.2 λr s' z=>?_⟩
   rcases r with e|(_|_|_|v)<;>first|exact z.elim|exact z
end
end
section
open Builtin Builtin.ObjectAttr
theorem Ks:SupF "__init__" "list.__init__" "wrapper_descriptor" "wrapper_descriptor.__get__" "method-wrapper" Builtin.«list.__init__» where
 own:=by show(dq (Gf "list" "__init__"):Sem (Option b_))=_;refine cn (Fo ..) ?_;kernel_rfl
 ty:=by show yA _=_;refine cn (y8 ..) ?_;kernel_rfl
 lk:=slot_wd.lookup
 nm:=dd rfl
 get:=Qg
 bt:=.inl rfl
 pl:=by decide+kernel
 en:=sY (by kernel_rfl)
theorem Qk:SupF "__len__" "list.__len__" "wrapper_descriptor" "wrapper_descriptor.__get__" "method-wrapper" Builtin.«list.__len__» where
 own:=by show(dq (Gf "list" "__len__"):Sem (Option b_))=_;refine cn (Fo ..) ?_;kernel_rfl
 ty:=by show yA _=_;refine cn (y8 ..) ?_;kernel_rfl
 lk:=slot_wd.lookup
 nm:=dd rfl
 get:=T8
 bt:=.inl rfl
 pl:=by decide+kernel
 en:=sY (by kernel_rfl)
theorem Ql:SupF "pop" "list.pop" "method_descriptor" "method_descriptor.__get__" "builtin_function_or_method" Builtin.«list.pop» where
 own:=by show(dq (Gf "list" "pop"):Sem (Option b_))=_;refine cn (Fo ..) ?_;kernel_rfl
 ty:=OP
 lk:=slot_md.lookup
 nm:=dd rfl
 get:=T9
 bt:=.inr rfl
 pl:=by decide+kernel
 en:=F.entry_list_pop
theorem Qm (x):vg "list.__init__" ⟨[aK x],[]⟩=dq ():=by kernel_rfl
theorem Ta (x):vg "list.__len__" ⟨[aK x],[]⟩=dq ():=by kernel_rfl
theorem Tb (W:WK C Kk)(x)(ox)(h)(A:et)(g:Array yH)(d:tw)(t)(os:jM)(b:fk C h)(j:h.get? x=aE ox)(m:ox.cls=aK 178)(n:∀c,ox.data≠jg c)(Q:Unit->cz->Prop)(o:b_->cz->Prop)(q:Q () ⟨h,g,d,t,os⟩):cD (cm C.prog C.w) A (vg "list.pop" ⟨[aK x],[]⟩) Q o ⟨h,g,d,t,os⟩:=by
 have X:=W.In b;refine hR (W 10) λp r _ u=>?_;have l:Looks (cm C.prog C.w) h (mY (aK x)) (aK 178):=m▸(lS j).andThen jE;have v:Looks (cm C.prog C.w) h (BC (aK 178) (bT "module")) cu:=yz X (W 11);have w:=looks_clsIn (M:=cm C.prog C.w) X r;have y:=looks_typeIn (M:=cm C.prog C.w) X (W 12);have z:Looks (cm C.prog C.w) h (jJ (aK x) (bT "module")) cu:=l.andThen v;have B:Looks (cm C.prog C.w) h (isType (aK x)) cu:=λA Q F s k q=>by obtain⟨G,g,d,t,os⟩:=s;exact ks_wpAny_isType_inst (k _ _ j) n q
 have i:∀a,y7 "list.pop"=aE a->Bind.checkArgs "list.pop" {a with full:="_Accumulator."++Bind.lastOf "list.pop"} ⟨[aK x],[]⟩=dq ():=by
  intro a e;have:y7 "list.pop"=aE ⟨.positional,"list.pop","pop",.self,[⟨"index",.posOnly,cu⟩]⟩:=by kernel_rfl
  rw[this] at e;obtain rfl:=dk e;kernel_rfl
 have D:(Manifest.varargsMethods.contains "list.pop"||false)=cu:=by decide+kernel
 dsimp only[vg];induction f:y7 "list.pop" with
 |none=>exact cW q|some a=>
  have H:yy "list.pop"=aE .method:=by decide+kernel
  refine cq (z.at (cn ((if_neg (by rw[D];decide)) ..)<|wpAny_bind (B.at ?_)))
  refine cq (l.at (cq (w.at (cq (y.at (cn ((if_pos (dd rfl)) ..) ?_))))));have e:toString p.qualname.toString++toString "."++toString (Bind.lastOf "list.pop")="_Accumulator."++Bind.lastOf "list.pop":=by refine cn (u ..) ?_;rfl
  exact cn (e ..) (cn (i a f ..) (cW q))
noncomputable def zj:List eQ:=qh (eX 5 0)
noncomputable def Cj:List eQ:=qh (eX 5 8)
noncomputable def sc_acinit:Scope:=S8 (eX 5 0)
noncomputable def sc_aclen:Scope:=S8 (eX 5 8)
structure SupFn (C:Fx)(Kk:i9)(f:cE)(fd:mX)(ps:List Str)(body:List eQ)(sc:Scope):Prop where
 e:GW C f fd ps (ps.zipIdx.map λx=>(x.2,x.1)) body
 k:∃o,Kk.lookup f=aE o/\o.data=fK fd
 clo:fd.closure=[(("__class__":Str),102)]
 sc:fd.scope=sc
theorem I5 (a b c d e l):swapsWith (iJ a b c d) aT l e=dq cu:=rfl
theorem I6 (W:WK C Kk)(Y:SK C Kk)(I:SupFn C Kk 115 fd ["self","initial_size"] zj sc_acinit){KK:V->Sg->Prop}(H:σ[n]?=aE (d7 [] []))(rs:Rels ρ s.heap as [aV n,v])(st:St C ρ σ s)(hA:Room (m+3) A) (hk:KK dD (σ.set n (d7 [] [(6,v)]))):fA (cm C.prog C.w) A (eR (aK 115) ⟨as,[]⟩) (yN (PE C [] ρ s.heap KK) Ee) s:=by
 refine nB (n:=m) (r:=0) (tr:=cu) I.e (by refine cn (I.sc ..) ?_;decide) (by refine cn (I.sc ..) ?_;decide) rfl rs st hA (λM a4 A' E' e1 e2 e3 e4 e5 R u a5 a8 _=>?_)
 have kd:∀x,M.kindOf x=sc_acinit.names.lookup x:=λx=>by unfold l9;exact cn (e1 ..) (cn (I.sc ..) rfl)
 have v0:(0,("self":Str))∈(["self","initial_size"]:List Str).zipIdx.map λx=>(x.2,x.1):=dd rfl;have v1:(1,("initial_size":Str))∈(["self","initial_size"]:List Str).zipIdx.map λx=>(x.2,x.1):=dd rfl;refine yh (ks_wpAt_Assign_Attr (Bq (iF (lg R v1 (dd rfl) rfl λb rb=>iF (lg R v0 (dd rfl) rfl λa ra=>wM (Km W (x:=aV n) (m:=6) (y:=v) (KK:=λB=>B=σ.set n (d7 [] [(6,v)])) (by unfold E4;simp only[H];exact⟨rfl,by decide,by decide,rfl⟩) ra rb u) (λ_ a6 q=>?_)) (dd rfl)) (dd rfl))) rfl)
 obtain⟨D,N,rfl,F,l⟩:=q;have P:n<σ.length:=(List.getElem?_eq_some_iff.mp H).1;have j:(σ.set n (d7 [] [(6,v)]))[n]?=aE (d7 [] [(6,v)]):=xX P;have k:=R.ext0 l
 refine cU I.k λo ko U=>yh (ks_wpAt_Expr_any (Br (sG W Y (KK:=λw B=>w=dD/\B=σ.set n (d7 [] [(6,v)])) Ks (dd rfl) (dd rfl) e4 ⟨o,fd,ko,U,e2,e1⟩ (by refine cn (kd ..) ?_;decide) (by refine cn (kd ..) ?_;decide) (by refine cn (e3 ..) (cn (I.clo ..) ?_);decide) k v0 rfl j F
  (λx ox h A g d t os b hx hc hn Q E' q=>iL (Qm x) q) λp J a9 X i L=>?_) (λw a7 q=>?_) λ_ _=>id) (qt k.kind) (I5 ..))
 .refine dN (i.conc.objs _ _ _ X j) λne Z a0=>?_;refine jX Z λvs n' e rl=>?_
  cases rl
  obtain⟨hh,g,d,t,os⟩:=J;refine Kq e rfl λh' a1 e' hs=>?_;have f:=lh i.conc X (.inl rfl) hs.extBut ⟨_,e'⟩ (λo z=>by rw[e] at z;obtain rfl:=dk z;exact fX rfl)
  obtain⟨c,_⟩:=n9 (o':=d7 [] [(6,v)]) (d:=d) (t:=t) i X (.inl rfl) hs.extBut ⟨_,e'⟩ (λo z=>by rw[e] at z;obtain rfl:=dk z;exact fX rfl)
   ⟨ne,⟨[],a1,e',fB⟩,a0.ext f λo z=>hs.extBut _ _ (eN ne) z⟩ (d9 _)
  rw[ri] at c;exact⟨D,_,dD,⟨rfl,rfl⟩,kD,c,L.trans f⟩
 .obtain⟨G,a2,w',⟨rfl,rfl⟩,a3,c,f⟩:=q
  refine Bq (Bg ⟨G,_,_,de,hk,.next,c,k.ext0 f,(l.trans f).m0⟩)
theorem Kt (W:WK C Kk)(Y:SK C Kk)(I:SupFn C Kk 175 fd ["self"] Cj sc_aclen){KK:V->Sg->Prop}(u:σ[n]?=aE (d7 l U))(X:Rels ρ s.heap Z [aV n])(st:St C ρ σ s)(hA:Room (m+3) A) (hk:KK (aO l.length) σ):fA (cm C.prog C.w) A (eR (aK 175) ⟨Z,[]⟩) (yN (PE C [] ρ s.heap KK) Ee) s:=by
 refine nB (n:=m) (r:=0) (tr:=cu) I.e (by refine cn (I.sc ..) ?_;decide) (by refine cn (I.sc ..) ?_;decide) rfl X st hA (λz J A' E' L B e3 e4 e5 R f M a0 _=>?_)
 have N:∀x,z.kindOf x=sc_aclen.names.lookup x:=λx=>by unfold l9;exact cn (L ..) (cn (I.sc ..) rfl)
 have v0:(0,("self":Str))∈(["self"]:List Str).zipIdx.map λx=>(x.2,x.1):=dd rfl
 refine cU I.k λo ko D=>yh (O2 (Br (sG W Y (KK:=λw F=>w=aO l.length/\F=σ) Qk (dd rfl) (dd rfl) e4 ⟨o,fd,ko,D,B,L⟩ (by refine cn (N ..) ?_;decide) (by refine cn (N ..) ?_;decide) (by refine cn (e3 ..) (cn (I.clo ..) ?_);decide) R v0 rfl u f
  (λx ox h A g d t os b hx hc hn Q E' q=>iL (Ta x) q) λp v a1 hp a y=>?_) (λw P q=>?_) λ_ _=>id))
 .refine dN (a.conc.objs _ _ _ hp u) λne G a2=>?_;refine jX G λvs n' e rl=>?_
  obtain⟨hh,g,d,t,os⟩:=v;refine Qi e rfl ?_;have B:((vs.toArray.size:Nat):Int)=(l.length:Int):=cn (jw ..) (cn (rl.len ..) rfl);exact⟨ρ,σ,aO l.length,⟨rfl,rfl⟩,by refine cn (B ..) ?_;exact fq _ _,a.toks (dU _),y⟩
 .obtain⟨i,H,w',⟨rfl,rfl⟩,j,k,c⟩:=q
  exact⟨i,_,_,dH _,hk,.ret j,k,R.ext0 c,c.m0⟩
end
section
open Builtin Builtin.ObjectAttr
noncomputable def H0:S:=wK (dA (dx _ (dY (aS 0 ..) 18 _ bV _) (bO ..) _)
 (bS (dT (dO (bE (bO ..) (bE (bO ..) bV)) 0 _) _) cy) cy _) (vT (qh (eX 5 3)) 0) rfl
noncomputable def Ck:List eQ:=qh (eX 5 3)
theorem Rels.split_last (r:Rels ρ h i (l++[x])):∃a b,i=a++[b]/\Rels ρ h a l/\Rel ρ h b x:=by
 induction l generalizing i with
 |nil=>refine lF r.inv λb a e d f=>?_;have g:a=[]:=f.inv;exact BN ([]) b (by refine cn (e ..) (cn (g ..) ?_);rfl) fB d
 |cons y l j=>exact lF r.inv λb a e d f=>lF (j f) λk c g q m=>BN (b::k) c (by refine cn (e ..) (cn (g ..) ?_);rfl) (fo d q) m
theorem Ku (W:WK C Kk)(Y:SK C Kk)(I:SupFn C Kk 138 fd ["self"] Ck sc_aclen)(H:m5 C m Z gv mv){KK:V->Sg->Prop}(J:σ[n]?=aE (d7 l L))(rs:Rels ρ s.heap as [aV n])(st:St C ρ σ s)(hA:Room (m+3) A) (hl:l.length<=1000000) (h0:DL Z H0 [aE (aV n)] σ λo M' M=>M=σ/\M'=[aE (aV n)]/\match l with|[]=>(match o with|dH v=>v=dj [cC "",cC ""]|_=>False)|_::_=>(match o with|de=>True|_=>False)) (a2:l=[]->KK (dj [cC "",cC ""]) σ) (hk:∀F x,l=F++[x]->KK x (σ.set n (d7 F L))):fA (cm C.prog C.w) A (eR (aK 138) ⟨as,[]⟩) (yN (PE C [] ρ s.heap KK) Ee) s:=by
 refine nB (n:=m) (r:=0) (tr:=cu) I.e (by refine cn (I.sc ..) ?_;decide) (by refine cn (I.sc ..) ?_;decide) rfl rs st hA (λa3 ab A' E' e1 e2 e3 e4 e5 R N ac a4 _=>?_)
 have kd:∀x,a3.kindOf x=sc_aclen.names.lookup x:=λx=>by unfold l9;exact cn (e1 ..) (cn (I.sc ..) rfl)
 have v0:(0,("self":Str))∈(["self"]:List Str).zipIdx.map λx=>(x.2,x.1):=dd rfl;refine cU I.k λo ko a5=>yh (Bq (wM (so H H0 (by refine cn (e1 ..) (cn (I.sc ..) ?_);decide+kernel) (dd rfl) R N a4 h0) (λf ae q=>?_)))
 obtain⟨k,u,af,ag,⟨rfl,rfl,c⟩,fr,B,D,G⟩:=q;cases l with
 |nil=>
  cases fr<;>try exact c.elim
  dsimp only at c;subst c;exact⟨k,u,_,dH _,a2 rfl,.ret (by assumption),B,D,G⟩
 |cons y ys=>
  cases fr<;>try exact c.elim
  obtain⟨F,x,P⟩:∃F x,y::ys=F++[x]:=⟨_,_,(Na (l5 y ys)).symm⟩;rw[P] at J
  refine yh (O2 (Br (sG W Y (KK:=λw M=>w=x/\M=u.set n (d7 F L)) Ql (dd rfl) (dd rfl) e4 ⟨o,fd,ko,a5,e2,e1⟩ (by refine cn (kd ..) ?_;decide) (by refine cn (kd ..) ?_;decide) (by refine cn (e3 ..) (cn (I.clo ..) ?_);decide) D v0 rfl J B
   (λx ox h A g d t os b hx hc hn Q E' q=>Tb W x ox h A g d t os b hx hc hn Q E' q) λp a0 ai hp i a1=>?_) (λw ah q=>?_) λ_ _=>id))
  .refine dN (i.conc.objs _ _ _ hp J) λne a6 a7=>?_;refine jX a6 λvs n' e rl=>?_
   refine lF rl.split_last λbs b a8 rb rx=>?_;subst a8;obtain⟨hh,g,d,t,os⟩:=a0;refine Qj (items:=bs.toArray) (v₀:=b) (n:=n') e (by simp) (by refine cn (jw ..) (cn (iK ..) ?_);have:=rl.len;rw[<-P,dJ] at this;exact cx (c_ this) (cx hl (dd rfl))) λh' a9 e' hs=>?_
   have hc:∀o,hh.get? p.1=aE o->¬hU o:=λo z=>by have e:hh.get? p.1=_:=e;rw[e] at z;obtain rfl:=dk z;exact fX rfl
   have a:=lh i.conc hp (.inl rfl) hs.extBut ⟨_,e'⟩ hc
   obtain⟨j,_⟩:=n9 (o':=d7 F L) (d:=d) (t:=t) i hp (.inl rfl) hs.extBut ⟨_,e'⟩ hc
    ⟨ne,⟨bs,a9,e',rb.ext a⟩,a7.ext a λo z=>hs.extBut _ _ (eN ne) z⟩ (d9 _)
   exact⟨k,_,x,⟨rfl,rfl⟩,rx.ext a,j,a1.trans a⟩
  .obtain⟨U,aa,w',⟨rfl,rfl⟩,X,j,a⟩:=q
   exact⟨U,_,_,dH _,hk F _ P,.ret X,j,D.ext0 a,G.trans (a.m0)⟩
end
section
open Builtin Builtin.ObjectAttr
section
variable {prog:lT}{w:gf}{A:et}{Ee:b_->cz->Prop}{s:cz}
theorem yT (a:s.heap.IsListIter c l i)(g:HY s.heap l items)(h:items[i]?=aE x) (j:∀h',h'.IsListIter c l (i+1)->km c s.heap h'->Q (aE x) {s with heap:=h'}):cD (cm prog w) A (h_ (aK c)) Q Ee s:=by
 refine hR (id a) λo d k b=>jX g λm n e f=>?_
 refine cq (l6 (oQ (name:=fE "__next__") a.typeIs qX
  (kO qX a.typeIs B4 ?_ (B5 _))))
 show cD _ _ (js (aK c) 0>>=_) _ _ s;refine cq (fi d b (x:=aK l) rfl ?_);refine cn ((if_neg (show ¬((o7 l==jq)=bK) from dF)) ..) ?_;refine cq (fi d b (x:=d6 i 0) rfl ?_);refine cq (iY e f ?_);simp only[mK,h];refine cq (r8 d b (d9 _) (cW ⟨x,rfl,cW (j _ ?_ (nk ..))⟩));exact⟨_,oR _ d (qR (nQ b _)),(Oh ..).trans k,by refine cn (nQ b ..) ?_;exact rfl⟩
theorem Ae (j:A.handled=aT) (c:s.heap.IsListIter d l i) (k:HY s.heap l items) (n:items[i]?=aT) (p:∀h',l8 d s.heap h'->(∃o,h'.get? d=aE o)->Q aT {s with heap:=h'}):cD (cm prog w) A (h_ (aK d)) Q Ee s:=by
 refine hR (id c) λo e q f=>jX k λr t g h=>?_
 refine cq (l6 (oQ (name:=fE "__next__") c.typeIs qX
  (kO qX c.typeIs B4 ?_ (B5 _))))
 show cD _ _ (js (aK d) 0>>=_) _ _ s;refine cq (fi e f (x:=aK l) rfl ?_);refine cn ((if_neg (show ¬((o7 l==jq)=bK) from dF)) ..) ?_;refine cq (fi e f (x:=d6 i 0) rfl ?_);refine cq (iY g h ?_);simp only[mK,n];refine cq (ip (cq (r8 e f (ek _) ?_)));refine cq ?_;refine cq (jy (cq (m:=jn ..) (iL (a:=jq) (by first|rfl|(dsimp only[jn];rfl)) (jy ?_ (by size_fits)))) (by size_fits))
 refine cq (rg ?_);refine cn ((show A.in1.handled=aT from j) ..)<|wpAny_bind (cW (rj ?_))
 refine cq (kl (T:="StopIteration") (b:=bK) ⟨_,fg _ rfl,rfl⟩ r9 ?_);exact cW (p _ (((nk ..).extBut.push _).push _) ⟨_,dK _ (dK _ (oR _ e (qR (nQ f _))))⟩)
noncomputable def iw (items:Array b_):List cE:=items.toList.filterMap λv=>match v with|Value.ref a=>aE a|_=>aT
theorem Af {i:Nat}(h:items[i]?=aE (aK a)):a∈iw items:=List.mem_filterMap.mpr ⟨aK a,Array.mem_toList_iff.mpr (Array.mem_of_getElem? h),rfl⟩
theorem E7 (P:A.handled=aT)(I x:cE)(items:Array b_)(D:x≠I)(J:I∉iw items)(L:Nat->b_->b_->Prop) (c:cQ) (F:∀i v,items[i]?=aE v->∃a p q,v=aK a/\c.IsTuple a #[p,q]/\L i p q):WalksU prog w A I (I::x::iw items) [I] items.size (λi u=>∃p q,u=#[p,q]/\L i p q) (λi h=>h.IsListIter I x i/\HY h x items/\∀a∈iw items,∀o,c.get? a=aE o->h.get? a=aE o) (λi T h=>T∈iw items/\h.IsListIter I x (i+1)/\HY h x items/\∀a∈iw items,∀o,c.get? a=aE o->h.get? a=aE o) where
 sub:=by simp
 frame:=λi h y f k=>⟨f.1.at λo e=>k I (.head _) o e,let ⟨o,n,e,d⟩:=f.2.1;⟨o,n,k x (.tail _ (.head _)) o e,d⟩,λa B o e=>k a (.tail _ (.tail _ B)) o (f.2.2 a B o e)⟩
 item:=λi s Q Ee R f l=>by have m:items[i]?=aE items[i]:=Array.getElem?_eq_getElem R;refine yT f.1 f.2.1 m λy G H=>wo (F i _ m) λa p q e U W=>cn (e ..) ?_;have B:a∈iw items:=Af (cn (m ..) (cn (e ..) rfl));have j:∀b∈iw items,∀o,c.get? b=aE o->y.get? b=aE o:=λb t o z=>H.extBut b o (λw=>J (w▸t)) (f.2.2 b t o z);exact l a #[p,q] y s.toks ⟨p,q,rfl,W⟩ (let ⟨o,e,r⟩:=U;⟨o,j a B o e,r⟩) ⟨B,G,jX f.2.1 λo n e d=>⟨o,n,H.extBut _ _ D e,d⟩,j⟩ λb o t e=>H.extBut b o (λh=>t (List.mem_singleton.mpr h)) e
 go:=λM k X i T s Q Ee g l=>qs g λm1 N Y Z=>hR (id N) λo eo hc hd=>VN (nm:="list_iterator") eo hc (dd rfl) (l s.heap ⟨N,Y,Z⟩ λ_ _ _ e=>e)
 apart:=λi T h g q=>J (by simp only[List.mem_singleton.mp q] at g;exact g.1)
 done:=λs Q Ee f l=>Ae P f.1 f.2.1 (by simp) λy D _=>l y s.toks λb o t e=>D b o (λh=>t (List.mem_singleton.mpr h)) e
 self:=λi s Q Ee f l=>NJ f.1 l
end
section
variable {C:Fx}{Kk:i9}{A:et}{Ee:b_->cz->Prop}{s:cz}{ρ:Own}{σ:Sg}
theorem Kv (W:WK C Kk)(b:fk C s.heap)(k:s.heap.get? x=aE ox)(l:ox.cls=aK 178) (m:Q (aK s.heap.objs.size) {s with heap:=s.heap.push {cls:=bT "list_iterator",data:=cY #[aK x,d6 0 0]}}):cD (cm C.prog C.w) A (pZ (aK x)) Q Ee s:=by
 have X:=W.In b;obtain⟨h,g,d,t,f⟩:=s;have u:Looks (cm C.prog C.w) h (mY (aK x)) (aK 178):=l▸(lS k).andThen jE;have o:Looks (cm C.prog C.w) h (pU (aK x) "__iter__") (aE (cH "list.__iter__")):=u.andThen (jo X (W 13));have y:Looks (cm C.prog C.w) h (jJ (aK x) (bT "list")) bK:=ow W b k l;refine cq (o.at ?_);refine cq (eU (cq (cq (o.at (cq (Ov ?_))))));have p:G8 (cH "list.__iter__") (aK x)=dq (cH "list.__iter__",[aK x]):=slot_list_iter.bind _;have j:cD (cm C.prog C.w) A (call (cH "list.__iter__") [aK x]) (λv i=>v=aK h.objs.size/\i=⟨h.push {cls:=bT "list_iterator",data:=cY #[aK x,d6 0 0]},g,d,t,f⟩) Ee ⟨h,g,d,t,f⟩:=by
  refine g_ (y3 slot_list_iter.plain entry_list_iter (sF (id:="list.__iter__") (self:=aK x) (rest:=[]) (owner:="list") (n:="__iter__") (h:=h) (g:=g) (d:=d) (t:=t) (os:=f) (by decide+kernel) (by decide+kernel) ?_ ?_ ?_))
  .exact y
  .exact args_list_iter _
  show cD _ _ (do ret (<-newFields "list_iterator" [aK x,rawInt 0])) _ _ _;exact cq (jy (cW ⟨rfl,rfl⟩))
 have e:cD (cm C.prog C.w) A (do
  let c<-call (cH "list.__iter__") [aK x]
  dq (aE c)) (λa i=>a=aE (aK h.objs.size)/\i=⟨h.push {cls:=bT "list_iterator",data:=cY #[aK x,d6 0 0]},g,d,t,f⟩) Ee ⟨h,g,d,t,f⟩:=
  cq (wM j (λv i q=>by obtain⟨rfl,rfl⟩:=q;exact cW ⟨rfl,rfl⟩))
 have r:(⟨h.push {cls:=bT "list_iterator",data:=cY #[aK x,d6 0 0]},g,d,t,f⟩:cz).TypeIs (aK h.objs.size) "list_iterator":=⟨_,fg _ rfl,rfl⟩;split
 .refine cq (cW (cW ?_))
  dsimp only;refine cn ((if_neg (show ¬((Pb "list.__iter__"==jq)=bK) from dF)) ..)<|wM e (λv i q=>?_)
  obtain⟨rfl,rfl⟩:=q;exact cq (r4 r slot_listiter_next.lookup (cW m))
 .refine wpAny_tryCatch (cq (cW (cW ?_)))
  dsimp only;refine cn ((if_neg (show ¬((Pb "list.__iter__"==jq)=bK) from dF)) ..)<|wM e (λv i q=>?_)
  obtain⟨rfl,rfl⟩:=q;exact cq (r4 r slot_listiter_next.lookup (cW m))
end
end
section
open Builtin Builtin.ObjectAttr
def GK (C:Fx):Prop:=Rc [
 (lr C "len" (cH "len")),
 (lr C "sum" (cH "sum")),
 (∃t,lr C "EMPTYSTRING" (cV "" t)),
 (∀h,fk C h->Looks (cm C.prog C.w) h (builtinsFor kn pS) pS),
 (C.hb.NoLimit)]
section
variable {C:Fx}
theorem qx (h:cD M A t (λv a=>Q [v] a) Ee s):cD M A (pY [(cu,t)]) Q Ee s:=cq (wM h (λv a q=>cq (cW (cq (eU (cW (cW q)))))))
theorem xd (h:cD M A t (λv b=>cD M A u (λw a=>Q [v,w] a) Ee b) Ee s):cD M A (pY [(cu,t),(cu,u)]) Q Ee s:=cq (wM h (λv b q=>cq (cW (cq (eU (qx (wM q (λw a q=>cW q))))))))
theorem xe {a:Env}{f x:Str}{id:String}{p1 c d:Pos}{Q:b_->cz->Prop}(e:∀(Q:b_->cz->Prop),Q (cH id) s->cD (cm C.prog C.w) A (Gj a f) Q Ee s) (g:∀(Q:b_->cz->Prop),Q v s->cD (cm C.prog C.w) A (Gj a x) Q Ee s) (b:(f==("__debug__":Str))=cu) (i:(x==("__debug__":Str))=cu) (h:cD (cm C.prog C.w) A (call (cH id) [v]) Q Ee s):cD (cm C.prog C.w) A (ei (iJ (dI f p1) [dI x c] [] d) a) Q Ee s:=by
 refine uY (iF (e _ (mS (P:=λ_=>True) rfl (λz _=>⟨lq,.inr (.inl rfl),rh rfl⟩) (fV rfl ?_))) b);show cD _ _ (pY [(cu,ei (dI x c) a)]) _ _ _;exact qx (iF (g _ ⟨trivial,h⟩) i)
theorem Qn (G:GK C)(d:c.scope.kind=gj)(f:c.kindOf "len"=aE kE)(k:c.kindOf "fws"=aE dv)(l:c.kindOf "part"=aE dv) (g:c.globals=kn) (h:c.builtins=pS) (i:fk C s.heap) (j:s.heap.Ns c.locals m) (n:m "fws"=aE (cV a u)) (e:m "part"=aE (cV b v)) (o:a.length<=1000000) (p:b.length<=1000000):cD (cm C.prog C.w) A (ei (.BinOp (iJ (dI "len" p1) [dI "fws" w] [] x) eL (iJ (dI "len" z) [dI "part" B] [] D) F) c) (λy r=>(∃t,y=d6 (a.length+b.length) t)/\Keeps s r) Ee s:=by
 exact wpAny_BinOp (xe (λQ q=>uX d f ((G 0) _ _ _ _ _ i g h q)) (λQ q=>uS d k j n q) (dd rfl) (dd rfl) (P.len_str (zR o) (xe (s:={s with toks:=s.toks+1+1}) (λQ q=>uX d f ((G 0) _ _ _ _ _ i g h q)) (λQ q=>uS d l j e q) (dd rfl) (dd rfl) (P.len_str (zR p) (NR ⟨⟨_,rfl⟩,s.heap,_,rfl,λ_ _=>id⟩)))))
theorem Kw (G:GK C)(f:(u.endLine==g.line)=bK)(h:c.scope.kind=gj)(w:c.kindOf "EMPTYSTRING"=aE kE)(x:c.kindOf "fws"=aE dv)(B:c.kindOf "part"=aE dv) (D:c.globals=kn) (F:c.builtins=pS) (H:fk C s.heap) (v:s.heap.Ns c.locals m) (I:m "fws"=aE (cV a i)) (j:m "part"=aE (cV b l)) (J:a.length<=1000000) (L:b.length<=1000000):cD (cm C.prog C.w) A (ei (iJ (jD (dI "EMPTYSTRING" p1) "join" u) [lp [dI "fws" n,dI "part" p] k q] [] g) c) (λy M=>(∃t,y=cV (iG "" [a,b]) t)/\Keeps s M) Ee s:=by
 refine eF (G 2) λW N=>cq (m6 (e:=ll 23 p1) (m:="join") (iF (uX h w (N _ _ _ _ _ H D F (cq (jW ?_)))) (dd rfl)));dsimp only[vv];have d:methodCallForm ([Expr.Tuple [dI "fws" n,dI "part" p] k q].length+([]:List yI).length) (backTo g (starEach [lp [dI "fws" n,dI "part" p] k q] c)) (vy g (vq [] c))=bK:=by rfl
 refine cn (d ..) ?_;dsimp only[Gv];refine cq (eU (GM.join ?_));dsimp only[FQ];have r:(!bK||u.endLine==g.line)=bK:=f
 simp only[r,if_true];refine cq (cW (mS (P:=λ_=>True) rfl (λz _=>⟨lq,.inr (.inl rfl),rh rfl⟩) (fV rfl ?_)));show cD _ _ (pY [(cu,ei (lp [dI "fws" n,dI "part" p] k q) c)]) _ _ _;refine qx (Tuple_ (xd (iF (uS h x v I (iF (uS h B v j (FE ⟨trivial,?_⟩ (by refine cn (iK ..) ?_;exact ej ..))) (dd rfl))) (dd rfl))))
 have Q:(s.heap.push {cls:=bT "tuple",data:=cK [tm a i,cV b l].toArray}).get? s.heap.objs.size=aE {cls:=bT "tuple",data:=cK [tm a i,cV b l].toArray}:=fg _ rfl;refine UC (ys:=[a,b]) ⟨_,Q,rfl,0,rfl⟩ (.cons a i (.cons b l .nil)) (by refine cn ((show(fE "").length=0 from by decide) ..) ?_;simp;exact cx (eT J L) (dd rfl)) λR U=>?_
 exact⟨⟨R,rfl⟩,_,U,rfl,λb o e=>dK _ e⟩
end
section
variable {prog:lT}
def YK (P:Nat->b_->Prop):Nat->b_->Prop
 |0,_=>False|i+1,v=>P i v
def Z1 (a:Nat->cz->Prop):Nat->cz->Prop
 |0,_=>False|i+1,s=>a i s
noncomputable def Sd (b:Int)(a:Nat->Int):Nat->Int
 |0=>b|i+1=>a i
theorem vH {d:Nat->cz->Prop}(W:WalksS prog w A I e f G n P d):WalksS prog w A I e f G (n+1) (YK P) (Z1 d) where
 sub:=W.sub
 grefl:=W.grefl
 gtrans:=W.gtrans
 frame:=λi s g h a j k=>by cases i with|zero=>exact a.elim|succ i=>exact W.frame i s g h a j k
 item:=λi s Q b l a c=>by cases i with|zero=>exact a.elim|succ i=>exact W.item i s Q b (pz l) a c
 done:=λs Q b a c=>W.done s Q b a c
 self:=λi s Q b a c=>by cases i with|zero=>exact a.elim|succ i=>exact W.self i s Q b a c
theorem I7 (h:cD (cm prog w) A.in1 (pZ x) (λD a=>∃I r u G n P y,∃c:Nat->Int,D=aK I/\WalksS prog w A.in1 I r u G n P y/\y 0 a/\(∀b∈r,b<a.heap.objs.size)/\(∀i v,P i v->∃t,v=d6 (c i) t)/\∀f j,Moved u G a f->Q (d6 (tv (Sd g c) (n+1)) j) f) Ee s):cD (cm prog w) A (call (cH "sum") [x,d6 g z]) Q Ee s:=by
 refine call_function_tree F.kind_sum F.plain_sum F.entry_sum (by unfold i7;kernel_rfl) ?_
 unfold Builtin.«sum»;dsimp only[j8,Bl];refine cn ((if_neg (dd rfl)) ..)<|wpAny_bind (iL (show Builtin.Builtins.bindParams "sum" ["start"] 0 ⟨[d6 g z],[]⟩=dq [aE (d6 g z)] from rfl) (cq (kq h (λD a k=>?_) λ_ _=>id)))
 obtain⟨I,r,u,G,n,P,y,c,rfl,W,l,B,m,H⟩:=k;have d:∀i v,YK P i v->∃t,v=d6 (Sd g c i) t:=λi v J=>by
  induction i with
  |zero=>exact J.elim|succ i=>exact m i v J
 have p:a.heap.objs.size∉r:=λq=>iC _ (B _ q);have L:tv (Sd g c) 1=g:=by simp[tv,Sd]
 dsimp only;split
 .refine cq (ip (cq (vp (cq (cW (cq (cq (cq (kl (T:="int") (b:=cu) (rm ..) Om (cW (cq (cq (kl (T:="int") (b:=cu) (rm ..) O3 (cW (cq (cq (kl (T:="int") (b:=cu) (rm ..) Nv (cW (cW (cq (jy ?_)))))))))))))))))))))
  refine cW ⟨yq OB _,NT (vH W) _ d a.heap.objs.size p n 1 _ a.toks 0 0 (.inl rfl) (xY ..) (ek _)
   (W.frame 0 a _ _ l (dU _) λb _ o e=>dK _ e) (by refine cn (L ..) ?_;exact fg _ rfl) λf j q=>?_⟩
  exact H f j (q.drop_new (dU _))
 .refine cq (cW (cq (cq (cq (kl (T:="int") (b:=cu) (rm ..) Om (cW (cq (cq (kl (T:="int") (b:=cu) (rm ..) O3 (cW (cq (cq (kl (T:="int") (b:=cu) (rm ..) Nv (cW (cW (cq (jy ?_)))))))))))))))))
  refine cW ⟨yq OB _,NT (vH W) _ d a.heap.objs.size p n 1 _ z 0 2 (.inr rfl) (xY ..) (ek _)
   (W.frame 0 a _ _ l (d9 _) λb _ o e=>dK _ e) (by refine cn (L ..) ?_;exact fg _ rfl) λf j q=>?_⟩
  exact H f j (q.drop_new (d9 _))
end
end
section
open Builtin Builtin.ObjectAttr
theorem Qo (h:vx l)(e:l[1]?=aE (cV q t)):False:=by
 cases l with
 |nil=>cases e|cons a l=>
  cases l with
  |nil=>cases e|cons b l=>obtain rfl:b=cV q t:=dk e;rcases a with _|_|_|_|_|_|_|_|_|_|_<;>exact h
theorem vI (h:vx ps.toList):¬hU (BG ps):=λ⟨c,q,t,a,b,_⟩=>by
 cases a
 exact Qo h (by refine ie (b ..) ?_;exact Array.getElem?_toList)
theorem xg (c:Conc C ρ σ h)(f:∀b o,b≠t->h.get? b=aE o->h'.get? b=aE o)(g:t∈fU)(e:h'.get? t=aE (BG vs))(v:TabOk h' t vs):Conc C ρ σ h'/\Ext [] ρ ρ h h':=by
 refine cU (c.tab t g) λG s w=>?_;have X:Ext [] ρ ρ h h':=by
  refine⟨pG _,rfl,λb o q=>?_,λ_ h=>.inl h,λb o q ⟨H,n,d⟩ _=>f b o (λz=>by rw[z,s] at q;obtain rfl:=dk q;cases d) q,λb o q m _ _=>f b o (λz=>m (z▸g)) q,λb o q d=>f b o (λz=>by rw[z,s] at q;have i:=dk q;replace q:=i.symm▸q;replace d:=i.symm▸d;exact vI w.1 d) q⟩
  by_cases j:b=t
  .exact⟨_,j▸e⟩
  .exact⟨o,f b o j q⟩
 have m:∀p∈ρ.l,p.1≠t/\p.2≠t:=λp k=>⟨λz=>(c.low p k).1 (z▸g),λz=>(c.low p k).2 (z▸g)⟩;refine⟨⟨λb o q n=>f b o (λz=>n (z▸g)) (c.base b o q n),λu r=>?_,c.len,c.lo,λp k=>⟨X.dom _ _ (c.hi p k).1.choose_spec,X.dom _ _ (c.hi p k).2.choose_spec⟩,c.low,c.apart,λa x=>X.dom _ _ (c.hid a x).choose_spec,λn p o l y=>?_⟩,X⟩
 .by_cases j:u=t
  .subst j;exact iB vs e v
  .exact cU (c.tab u r) λA l B=>iB A (f _ _ j l) (B.of X.code)
 .obtain⟨D,F⟩:=m p (jS l)
  exact(c.objs n p o l y).ext X (λo e=>f _ _ D e) λo e=>f _ _ F e
theorem Z2 {α l m n o r s t w:Type}{p k q:α->l->m->n->o->r->s->t->w->Prop}(f:∀a b c d e g h i j,p a b c d e g h i j->k a b c d e g h i j)(x:∃a b c d e g h i j,p a b c d e g h i j/\q a b c d e g h i j):∃a b c d e g h i j,k a b c d e g h i j/\q a b c d e g h i j:=by obtain⟨a,b,c,d,e,g,h,i,j,u,v⟩:=x;exact⟨a,b,c,d,e,g,h,i,j,f a b c d e g h i j u,v⟩
theorem Se (k:∀o,h.get? c=aE o->h'.get? c=aE o)(x:rB h c t):rB h' c t:=Z2 (λo _ _ _ _ _ _ _ _ e=>k o e) x
theorem Kx (st:St C ρ σ s)(B:k.code=aK c)(H:rB C.hb c t)(l:c∉fU)(D:t∈fU)(f:t≠240):cD (cm C.prog C.w) A (genexprCode k pos N m) (λ_ a=>St C ρ σ a/\Ext [] ρ ρ s.heap a.heap/\(∀b o,b≠t->s.heap.get? b=aE o->a.heap.get? b=aE o)/\s.heap.objs.size<=a.heap.objs.size/\a.gens=s.gens) Ee s:=by
 refine cU (st.conc.tab t D) λI e z=>?_;have n:rB s.heap c t:=Se (λo e=>st.based _ _ e l) H;induction F:codeAmong pos I.toList with
 |some P=>exact wpAny_genexprCode_hit B (n.code e z.1) F ⟨st,Ext.refl _ _ _,λ_ _ _ e=>e,d9 _,rfl⟩
 |none=>
  refine wM (dP (wpAny_genexprCodeX (Q:=λv a=>∃d i p,a={s with heap:=d,toks:=i}/\l8 t s.heap d/\s.heap.objs.size<=d.objs.size/\d.get? t=aE (BG p)/\vx p.toList) B (n.code e z.1) (n.tab e) F λR d i j r u w G g _=>?_)) (λv a q=>?_)
  .exact⟨d,i,_,rfl,j,cx r (eV u),g.2,by refine cn (Fi ..) ?_;exact P1 _ _ _ _ z.1⟩
  .obtain⟨x,d,i,p,rfl,j,y,J,L⟩:=q
   have h:=xg st.conc j D J ⟨L,λq=>absurd q f⟩;have M:=h.1;have X:=h.2;exact⟨⟨M,st.os,st.gens.1,fx (fl (j4 st.gens.2) x)⟩,X,j,y,rfl⟩
theorem Rels.back {i:Nat}(r:Rels ρ h b vs):b[i]?=aE a->∃v,vs[i]?=aE v/\Rel ρ h a v:=r.ind (P:=λb vs=>∀i,b[i]?=aE a->∃v,vs[i]?=aE v/\Rel ρ h a v) (λ_ e=>nN e)
  (λ_ _ _ _ r _ c i=>match i with|0=>λe=>⟨_,rfl,dk e▸r⟩ |i+1=>c i) i
noncomputable def vJ (p:Str×Str):V:=dj [cC p.1,cC p.2]
theorem qy (n):passing (λ_=>bK) n 0=eZ n:=by unfold passing;simp
structure GenMade (C:Fx)(A:et)(s₀:cQ)(s:cz)(a n:Nat)(F:Nat->b_->Prop):Prop where
 w:∃fp wr g Sx,WalksS C.prog C.w A.in4 a fp wr (Gx g) n F Sx/\Sx 0 s/\(∀b∈fp,b<s.heap.objs.size)/\a∈fp/\(∀i s',Sx i s'->s'.TypeIs (aK a) "generator")/\∀b∈wr,s₀.get? b=aT
 k:∃t∈fU,t≠240/\∀b o,b≠t->s₀.get? b=aE o->s.heap.get? b=aE o
theorem Cm (st:St C ρ σ s)(a:St C ρ σ s₁)(m:∃t∈fU,t≠240/\∀b o,b≠t->s.heap.get? b=aE o->s₁.heap.get? b=aE o)(n:∀b∈i,s.heap.get? b=aT)(d:Moved i (Gx g) s₁ j):St C ρ σ j/\Ext [] ρ ρ s.heap j.heap:=by
 refine hR m λt h f k=>?_;have l:∀b o,s.heap.get? b=aE o->b∉i:=λb o e q=>by rw[n b q] at e;exact nN e
 refine cU (st.conc.tab t h) λv p _=>cU (a.conc.tab t h) λw r z=>?_;obtain⟨c,X⟩:=xg st.conc (λb o u e=>d.heap b o (l b o e) (k b o u e)) h (d.heap t _ (l t _ p) r) ⟨z.1,λq=>absurd q f⟩;exact⟨⟨c,d.os.trans a.os,AllBare.moved a.gens.1 d.gens,fx (fl (j4 a.gens.2) d.toks)⟩,X⟩
def VU (C:Fx)(ρ:Own)(σ:Sg)(A:et)(h:cQ)(n:Nat)(F:Nat->b_->Prop)(c:b_)(b:cz):Prop:=∃a,c=aK a/\St C ρ σ b/\Ext [] ρ ρ h b.heap/\(∃o,b.heap.get? a=aE o)/\GenMade C A h b a n F
def VV (C:Fx)(ρ:Own)(σ:Sg)(A:et)(h:cQ)(n:Nat)(F:Nat->b_->Prop)(c:b_)(b:cz):Prop:=∃a,c=aK a/\(Conc C ρ σ b.heap/\b.os=C.os/\AllBare b.gens)/\Ext [] ρ ρ h b.heap/\(∃o,b.heap.get? a=aE o)/\GenMade C A h b a n F
theorem Qp (b:s.toks≠0)(k:cD (cm C.prog C.w) A x (VV C ρ σ A h n F) Ee s):cD (cm C.prog C.w) A x (VU C ρ σ A h n F) Ee s:=PA (dP k) λv i q=>let ⟨c,a,e,⟨d,f,g⟩,r⟩:=q;⟨a,e,⟨d,f,g,fx (fl (j4 b) c)⟩,r⟩
inductive PairIt (h h₃:cQ) (pr:List (Str×Str)) (i:Nat):b_->Prop
 |mk (a:cE) (x y:Str) (ta tb:Tok):h.get? a≠aT->h₃.IsTuple a #[cV x ta,cV y tb]->pr[i]?=aE (x,y)->PairIt h h₃ pr i (aK a)
theorem Ky (s:Rels ρ h vs (pr.map vJ))(e:Rels ρ g vs (pr.map vJ))(i)(v)(k:vs.toArray[i]?=aE v):PairIt h g pr i v:=by
 have k:vs[i]?=aE v:=by simpa using k
 refine cU (Rels.back e k) λy p l=>?_;rw[jx] at p;refine cU (Option.map_eq_some_iff.mp p) λq r m=>(cU (Rels.back s k) λF j c=>?_);replace l:=m.symm▸l;rw[jx,r] at j;replace c:=(dk j).symm▸c;obtain⟨a,b⟩:=q;revert c;refine l.cT λd G _ n H f c=>lF f.inv λu I t x f=>lF f.inv λw A B o f=>?_;have f:A=[]:=f.inv;subst f;subst B;subst t;revert n;refine x.cS λJ=>o.cS λL n=>.mk _ _ _ _ _ (λz=>?_) ⟨_,n,rfl,_,rfl⟩ r;obtain⟨_,_,_,C,D,_⟩:=c.inv;exact nN (z.symm.trans (yr C▸D))
theorem Kz {vs:List b_}(items:∀i v,vs.toArray[i]?=aE v->PairIt h c pr i v):∀a∈iw vs.toArray,h.get? a≠aT:=by
 intro a d;unfold iw at d;refine cU (List.mem_filterMap.mp d) λv e b=>eF (mI e) λi f=>?_;rcases items i v (by simpa using f) with⟨j,x,y,k,l,g,_,_⟩
 exact dk b▸g
theorem H1 (W:WK C Kk)(G:GK C){n:Nat}{pr:List (Str×Str)} (R:EnvRel C Z vis M ρ s.heap) (hv:(0,("self":Str))∈vis) (hM:M[0]?=aE (aE (aV n))) (ab:σ[n]?=aE (d7 (pr.map vJ) aF)) (st:St C ρ σ s) (hA:A.handled=aT) (a0:A.depth<FD) (hc:Z.code=aK c) (hd:rB C.hb c t) (ac:c∉fU) (ht:t∈fU) (N:t≠240) (ae:d.kind=gj) (af:d.isCoroutine=cu) (a1:vr d Z=dq []) (a2:∀y∈d.names,y.2≠eH) (h0:d.names.lookup (".0":Str)=aE NameKind.local) (ag:d.names.lookup ("fws":Str)=aE dv) (ah:d.names.lookup ("part":Str)=aE dv) (a7:∀(A':et) (E':b_->cz->Prop) (i:Nat) (a b:Str) (P U:Tok) (u:Env) (f:cz) (m:Str->Option b_),pr[i]?=aE (a,b)->u.scope=d->u.globals=kn->u.builtins=pS->fk C f.heap->f.heap.Ns u.locals m->m "fws"=aE (cV a P)->m "part"=aE (cV b U)->cD (cm C.prog C.w) A' (ei ai u) (λy k=>F i y/\Keeps f k) E' f):cD (cm C.prog C.w) A (ei (Hw ai [⟨lp [dI "fws" pa,dI "part" pb] kt pt,dI "self" ps,[],0⟩] d pos) Z) (VU C ρ σ A s.heap pr.length F) Ee s:=by
 refine Qp st.gens.2<|wpAny_GeneratorExp_walksQT hA af a1 a2 h0 ag ah (dd rfl) ae a0 (iF (lg R hv (dd rfl) hM λa ra=>ra.cO λ_ hp=>?_) (dd rfl)) (λx=>rfl)
 rename_i p
 refine dN (st.conc.objs _ _ _ hp ab) λne aj aG=>?_;refine jX aj λvs n' e rl=>?_;refine Kv W st.based e rfl ?_;have r:Kp s.heap (s.heap.push {cls:=bT "list_iterator",data:=cY #[aK p.1,d6 0 0]}):=λb o e=>dK _ e;have D:St C ρ σ {s with heap:=s.heap.push {cls:=bT "list_iterator",data:=cY #[aK p.1,d6 0 0]}}:=st.keep0 r;refine⟨iA (G 4) D.based,wM (Kx D hc hd ac ht N) (λaB k q=>Jk q λg H w J ak=>?_)⟩;simp only[R.glob,R.bi];refine((G 3) _ g.based) A _ Ee k (λ_ _=>id) ?_;have a3:s.heap.get? s.heap.objs.size=aT:=eG _;have al:s.heap.objs.size≠t:=λz=>st.conc.notab a3 (z▸ht);have am:p.1≠t:=λz=>(st.conc.low p (jS hp)).1 (z▸ht);have eI:k.heap.get? s.heap.objs.size=aE {cls:=bT "list_iterator",data:=cY #[aK p.1,d6 0 0]}:=w _ _ al (fg _ rfl);have ex:k.heap.get? p.1=aE {cls:=aK 178,dict:=aE p.2,data:=cK (gW vs) n'}:=w _ _ am (r _ _ e);have a4:Rels ρ k.heap vs (pr.map vJ):=(rl.ext (Ext.of_all (F:=[]) r)).ext H;have an:p.1≠s.heap.objs.size:=jI (jk e);have I:=Ky rl a4;have a8:=Kz I;have ao:s.heap.objs.size∉iw vs.toArray:=λq=>a8 _ q a3
 refine⟨s.heap.objs.size,s.heap.objs.size::p.1::iw vs.toArray,[s.heap.objs.size],vs.toArray.size,_,_,_,λ_=>bK,F,rfl,λA' a9=>E7 a9 s.heap.objs.size p.1 vs.toArray an ao (λi x y=>∃a b P U,pr[i]?=aE (a,b)/\x=cV a P/\y=cV b U) k.heap
  (λi v hv=>by rcases I i v hv with⟨a,x,y,P,U,_,h2,h3⟩;exact⟨a,_,_,rfl,h2,x,y,P,U,h3,rfl,rfl⟩),λi aC h=>by refine jX h λx y ap _=>?_;subst ap;exact⟨x,y,rfl⟩,⟨⟨_,eI,rfl,rfl⟩,⟨_,n',ex,rfl⟩,λ_ _ _ e=>e⟩,λb l=>?_,iA (G 4) g.based,?_,λaD a5=>?_,λa X tk gs aq ha L B hW hG=>?_⟩
 .rcases List.mem_cons.mp l with rfl|l
  .exact jk eI
  .rcases List.mem_cons.mp l with rfl|l
   .exact jk ex
   .cases z:s.heap.get? b with|none=>exact absurd z (a8 b l)|some o=>refine eF (H.dom b o (r _ _ z)) λo' z'=>?_;exact jk z'
 .have hl:=iA (G 4) st.based
  have aa:cStatics<s.heap.objs.size:=let ⟨_,hn,_⟩:=hl;hn.lt;exact λq=>absurd (List.mem_singleton.mp q) (jI aa)
 .refine⟨λA' E' i va vb f Y _ _ _ _ _ _=>?_,λA' E' i va vb f Y a9 ar _ au av aw a6=>?_⟩
  .simp only[vd]
   exact cW ⟨rfl,f.heap,f.toks,rfl,λ_ _=>id⟩
  .refine jX ar λx y ev ax=>?_;obtain⟨a,b,P,U,h1,ay,az⟩:=ax;replace ev:=ay▸ev;replace ev:=az▸ev
   have ev:[va,vb]=[tm a P,cV b U]:=by simpa using ev
   cases ev
   refine a7 A' E' i a b P U _ f Y h1 rfl R.glob rfl (λb o e nt=>?_) au av aw;have e3:=g.based b o e nt;have eb:=st.based b o e nt;exact a6 b (List.mem_range.mpr (jk e3)) (by simp only[ki];exact jI (jk eb)) o (a5 b o e3)
 .have cc:=g.conc.keeps B
  have X5:Ext [] ρ ρ k.heap X:=Ext.of_all B;have hn:(passing (λ_=>bK) vs.toArray.size 0).length=pr.length:=by simp only[qy,v5,jw,rl.len,eE]
  refine dz (id hG) λaA aH=>⟨a,rfl,⟨cc,g.os,AllBare.push g.gens.1 aq⟩,((Ext.of_all r).trans H).trans X5,let ⟨_,_,_,eg,_⟩:=aA;⟨_,eg⟩,⟨_,_,_,_,⟨hW.sub,hW.grefl,hW.gtrans,hW.frame,λi s Q Ee hi st hQ=>hW.item i s Q Ee (by simp only[hn];exact hi) st λv s' hp=>hQ v s' ?_,by simp only[<-hn];exact hW.done,hW.self⟩,hG,λb l=>?_,.head _,λi s' hs=>hs.1.typeIs,λb l=>?_⟩,⟨t,ht,N,λb o l e=>B b o (w b o l (r b o e))⟩⟩
  .refine cU hp λj hj hF=>?_
   rw[qy,Fj (by rw[<-hn,qy,v5] at hi;exact hi)] at hj
   cases hj;exact hF
  .show b<X.objs.size
   simp only[L];rcases List.mem_cons.mp l with l|l
   .simp only[l];exact jG _
   .rcases List.mem_cons.mp l with l|l
    .simp only[l];exact yj ha
    .exact yj (vm (List.mem_range.mp l) ha)
  .rcases List.mem_cons.mp l with rfl|l
   .exact y4 (cx (by simp only[lO];exact dU _) J)
   .simp only[List.mem_singleton.mp l];exact a3
end
section
open Builtin Builtin.ObjectAttr
noncomputable def gs_aclen:Scope:={kind:=gj,names:=[(".0",dv),("fws",dv),("part",dv),("len",kE)],isGenerator:=bK,isCoroutine:=cu}
noncomputable def zk:List eQ:=qh (eX 5 4)
noncomputable def sc_aclen2:Scope:=S8 (eX 5 4)
noncomputable def gs_acstr:Scope:={kind:=gj,names:=[(".0",dv),("fws",dv),("part",dv),("EMPTYSTRING",kE)],isGenerator:=bK,isCoroutine:=cu}
noncomputable def Cn:List eQ:=qh (eX 5 5)
noncomputable def sc_acstr:Scope:=S8 (eX 5 5)
structure GenFn (C:Fx)(f:cE)(fd:mX)(body:List eQ)(sc:Scope)(c t:cE):Prop where
 e:GW C f fd ["self"] [(0,"self")] body
 clo:fd.closure=[]
 sc:fd.scope=sc
 code:fd.code=aK c
 hd:rB C.hb c t
 ct:c∉fU
 tt:t∈fU
 t240:t≠240
noncomputable def gU (pr:List (Str×Str)):Nat:=(pr.map λp=>p.1.length+p.2.length).sum
theorem E8 (a):∀(pr:List (Str×Str)),tv (Sd a λi=>((pr[i]?).map λp=>((p.1.length+p.2.length:Nat):Int)).getD 0) (pr.length+1)=a+gU pr:=by
 have b:∀(pr:List (Str×Str)) (k:Nat),k<=pr.length->tv (Sd a λi=>((pr[i]?).map λp=>((p.1.length+p.2.length:Nat):Int)).getD 0) (k+1)=a+gU (pr.take k):=by
  intro pr k;induction k with
  |zero=>intro _;simp[tv,Sd,gU]|succ k d=>
   intro c;rw[tv,d (eV c)];have e:pr[k]?=aE pr[k]:=gK (c);have f:pr.take (k+1)=pr.take k++[pr[k]]:=by refine cn (FH ..) (cn (e ..) ?_);rfl
   rw[f];dsimp only[gU];refine cn (kx ..) (cn (Bm ..) ?_);simp[Sd,e];exact Pc _ _ _
 intro pr;have:=b pr pr.length (d9 _)
 rwa [Bb] at this
theorem I8 (W:WK C Kk)(G:GK C)(I:GenFn C f fd zk sc_aclen2 c t){KK:V->Sg->Prop}(D:σ[n]?=aE (d7 (pr.map vJ) H))(ok:iT H=bK)(Y:H.lookup 6=aE (aO c0)) (rs:Rels ρ s.heap as [aV n]) (st:St C ρ σ s) (hA:Room (m+3) A) (hb:∀p∈pr,p.1.length<=1000000/\p.2.length<=1000000) (Z:KK (aO (c0+gU pr)) σ):fA (cm C.prog C.w) A (eR (aK f) ⟨as,[]⟩) (yN (PE C [] ρ s.heap KK) Ee) s:=by
 refine ot (n:=m) (r:=0) (tr:=cu) I.e I.clo rfl rs st hA (λu J A' E' e1 e2 e3 R h a8 L=>?_);have kd:∀x,u.kindOf x=sc_aclen2.names.lookup x:=λx=>by unfold l9;simp only[e1,I.sc]
 have v0:(0,("self":Str))∈([(0,"self")]:List (Nat×Str)):=dd rfl;refine mO (Fq (uY (iF (uX R.kind (by simp only[kd];decide) ((G 1) A' E' u J _ h.based R.glob R.bi (mS (P:=λ_=>True) rfl (λz _=>⟨lq,.inr (.inl rfl),rh rfl⟩) (fV rfl ?_)))) (dd rfl))))
 show cD _ _ (pY [(cu,ei (Hw _ _ gs_aclen _) u),(cu,ei (jD (dI "self" _) "_initial_size" _) u)]) _ _ _
 refine xd (wM (H1 W G (F:=λi y=>∃p t,pr[i]?=aE p/\y=d6 ((p.1.length+p.2.length:Nat):Int) t) R v0 rfl D h L.2.2 (by have:=L.1;exact fC (eO ..) this) (e2.trans I.code) I.hd I.ct I.tt I.t240 rfl rfl (by kernel_rfl) (dd rfl) (dd rfl) (dd rfl) (dd rfl)
  (λaa ab i a b ta tb M d mm hi h1 h2 h3 h4 h5 Y h7=>?_)) (λgv d q=>?_))
 .have w:∀x,M.kindOf x=gs_aclen.names.lookup x:=λx=>by unfold l9;simp only[h1]
  have:=hb (a,b) (jS hi);refine wM (Qn G (by simp only[h1];rfl) (by simp only[w];decide) (by simp only[w];decide) (by simp only[w];decide) h2 h3 h4 h5 Y h7 this.1 this.2) (λy a9 q=>?_)
  refine dz q λa0 Z=>?_;obtain⟨X,rfl⟩:=a0;exact⟨⟨(a,b),X,hi,rfl⟩,Z⟩
 .refine Pw q λga k j N a1 gm=>?_;subst k;refine eF a1 λog eg=>?_
  obtain⟨⟨fp,wr,g,Sx,hW,hS,a2,ac,ae,a3⟩,a4⟩:=gm;simp only[arm_eval_Attribute];have Q:=R.ext0 N;refine cq (m6 (e:=aS 0 "self" _) (iF (lg Q v0 (dd rfl) rfl λa ra=>cq (jW (ra.cO λ_ hp=>?_))) (dd rfl)))
  rename_i p
  refine dN (j.conc.objs _ _ _ hp D) λne k a5=>?_;refine jX k λvs n' e rl=>?_;refine cU (a5.look ok) λo eo lk=>?_;obtain⟨r,l,hr⟩:=lk 6 (ej ..);rw[Y] at hr;refine cU hr λav k B=>?_;subst k
  (first|obtain⟨_,rfl⟩:=B.inv|obtain rfl:=B.inv|obtain⟨_,_,rfl⟩:=B.inv)
  rename_i tk
  refine cq (eU (w_ W (W.In j.based) ⟨e,rfl,rfl,eo⟩ rfl (wZ W (dd rfl) (m:=6) (dd rfl) (⟨e,rfl,rfl,eo⟩:InstAt d.heap p.1 _ 178 (aE o)) l) rfl (cq (y1 (cW (⟨trivial,?_⟩))))));have W1:=hW.of_in1.of_in1.of_in1;have U:Sx 0 {d with toks:=d.toks+1}:=hW.frame 0 d d.heap (d.toks+1) hS (dU _) λb _ o e=>e;refine I7 (W1.self 0 _ _ _ U ⟨ga,fp,wr,_,_,_,_,(λi=>((pr[i]?).map λp=>((p.1.length+p.2.length:Nat):Int)).getD 0),rfl,W1,U,a2,λi v hv=>?_,λs' X hm=>?_⟩)
  .refine jX hv λp X hp a6=>?_;subst a6
   exact⟨X,by dsimp only;simp only[hp];rfl⟩
  .obtain⟨a7,X'⟩:=Cm h (j.toks (dU _)) a4 a3 hm
   simp only[E8];exact⟨ρ,σ,_,dH _,Z,.ret (fq ..),a7,R.ext0 X',X'.m0⟩
noncomputable def Ag:List (Str×Str)->Str:=λa=>iG "" (a.map λp=>iG "" [p.1,p.2])
theorem I9 (a b):(iG "" [a,b]).length<=a.length+b.length:=by have:=StrLaws.join_length_le "" [a,b];have e:(fE "").length=0:=dd rfl;simp only[e] at this;dsimp only[iG];exact cn (StrLaws.glued_eq_join ..)<|this
theorem Ib:∀(pr:List (Str×Str)),((pr.map λp=>iG "" [p.1,p.2]).map (·.length)).sum<=gU pr:=by
 intro a;induction a with
 |nil=>exact d9 _|cons p r b=>
  exact by have c:=b;have d:=I9 p.1 p.2;unfold gU at *;simp only[fS,nY] at *;exact eT d c
theorem Qq {pr:List (Str×Str)}(h:ItemsOf (λi y=>∃p t,pr[i]?=aE p/\y=tm (iG "" [p.1,p.2]) t) (yF l).toArray pr.length):l.map (·.1)=pr.map λp=>iG "" [p.1,p.2]:=by
 refine dz h λb c=>?_;have d:l.length=pr.length:=by simpa [yF] using b
 refine List.ext_getElem? λi=>?_;simp only[jx,jx];induction e:l[i]? with
 |none=>rw[Nj] at e;refine cn ((List.getElem?_eq_none_iff.mpr (d▸e)) ..) ?_;rfl|some q=>
  obtain⟨p,t,f,a⟩:=c i (cV q.1 q.2) (by simp[yF,e])
  simp only[f];simp only[Value.str.injEq] at a;simp[a.1]
theorem KA (W:WK C Kk)(G:GK C){fd:mX}(I:GenFn C f fd Cn sc_acstr c t){KK:V->Sg->Prop}(Z:σ[n]?=aE (d7 (pr.map vJ) ac)) (rs:Rels ρ s.heap as [aV n]) (st:St C ρ σ s) (hA:Room (m+3) A) (hb:∀p∈pr,p.1.length<=1000000/\p.2.length<=1000000) (J:gU pr<=1000000) (hn:pr.length<=1000000) (hk:KK (cC (Ag pr)) σ):fA (cm C.prog C.w) A (eR (aK f) ⟨as,[]⟩) (yN (PE C [] ρ s.heap KK) Ee) s:=by
 refine ot (n:=m) (r:=0) (tr:=cu) I.e I.clo rfl rs st hA (λj L A' E' e1 e2 e3 R d a9 M=>?_);have kd:∀x,j.kindOf x=sc_acstr.names.lookup x:=λx=>by unfold l9;exact cn (e1 ..) (cn (I.sc ..) rfl)
 have v0:(0,("self":Str))∈([(0,"self")]:List (Nat×Str)):=dd rfl;refine eF (G 2) λte Ge=>mO (Fq (cn (arm_eval_Call ..)<|wpAny_bind (m6 (e:=ll 23 _) (m:="join") (iF (uX R.kind (by refine cn (kd ..) ?_;decide) (Ge A' E' j L _ d.based R.glob R.bi (cq (jW ?_)))) (dd rfl)))))
 dsimp only[vv];have w:∀(el:Expr) (gs:List Comprehension) (sc:Scope) (q p:Pos),methodCallForm ([On el gs sc q].length+([]:List yI).length) (backTo p (starEach [On el gs sc q] j)) (vy p (vq [] j))=bK:=λ_ _ _ _ _=>by rfl
 refine cn (w ..) ?_;dsimp only[Gv];simp only[if_true];refine cq (eU (GM.join ?_));have a0:(!bK||(pp 96015096031).endLine==(pp 96015096086).line)=bK:=by decide+kernel
 simp only[a0,if_true];refine cq (cW (mS (P:=λ_=>True) rfl (λz _=>⟨lq,.inr (.inl rfl),rh rfl⟩) (fV rfl ?_)))
 refine qx (wM (H1 W G (F:=λi y=>∃p t,pr[i]?=aE p/\y=cV (iG "" [p.1,p.2]) t) R v0 rfl Z d M.2.2 (by have:=M.1;exact fC (eO ..) this) (e2.trans I.code) I.hd I.ct I.tt I.t240 rfl rfl (by kernel_rfl) (dd rfl) (dd rfl) (dd rfl) (dd rfl)
  (λae af i a b ta tb N u mm X h1 h2 h3 h4 h5 h6 h7=>?_)) (λgv u q=>?_))
 .have B:∀x,N.kindOf x=gs_acstr.names.lookup x:=λx=>by unfold l9;exact cn (h1 ..) rfl
  have:=hb (a,b) (jS X);refine wM (Kw G (by decide+kernel) (by refine cn (h1 ..) ?_;rfl) (by refine cn (B ..) ?_;decide) (by refine cn (B ..) ?_;decide) (by refine cn (B ..) ?_;decide) h2 h3 h4 h5 h6 h7 this.1 this.2) (λy aa q=>?_)
  obtain⟨⟨H,rfl⟩,hk⟩:=q;exact⟨⟨(a,b),H,X,rfl⟩,hk⟩
 .refine Pw q λga a1 h ab a2 gm=>?_;subst a1;obtain⟨og,eg⟩:=a2
  obtain⟨⟨fp,wr,g,Sx,hW,hS,a3,a4,a5,a6⟩,a7⟩:=gm;refine⟨trivial,wM (dP (SC.joinGen (x:="") (t:=te) (Q:=λv Y=>∃H o k,v=cV (Ag pr) H/\Moved wr (Gx g) u o/\Y={o with toks:=k}) hW.of_in1.of_in1 a5 hS a3 a4 (λi v hv=>by obtain⟨p,t,_,rfl⟩:=hv;exact⟨_,_,rfl⟩) (λY l hm X=>?_) (by refine cn (iK ..) ?_;exact cx hn (ej ..)))) (λv Y q=>?_)⟩
  .rw[Qq X]
   refine⟨?_,λH k=>⟨H,Y,k,rfl,hm,rfl⟩⟩;dsimp only[JoinOk,Fh];rw[StrLaws.joinTotal,m_,decide_eq_false_iff_not,iK];have:=Ib pr;rw[show(fE "").length=0 from by decide]
   exact jV (d8 (iP 0xe00000f4240e021c02121cc1444258500008000007 rfl J this))
  .obtain⟨a8,H,o,k,rfl,hm,rfl⟩:=q
   obtain⟨D,X'⟩:=Cm d h a7 a6 hm;have U:St C ρ σ {o with toks:=k}:=⟨D.conc,D.os,D.gens.1,fx (fl (j4 h.gens.2) a8)⟩;exact⟨ρ,σ,_,dH _,hk,.ret (gR ..),U,R.ext0 X',X'.m0⟩
end
section
open Builtin Builtin.ObjectAttr
section
variable {os:jM}
theorem oz (a:h.get? x=aE ox)(b:ox.cls=aK 178):Looks M h (mY (aK x)) (aK 178):=b▸(lS a).andThen jE
theorem H2 (W:WK C Kk)(b:fk C h)(a:h.get? x=aE ox)(c:ox.cls=aK 178)(k)(name):Looks M h (sequenceKey (aK x) k name) k:=by
 refine(oz a c).andThen ?_
 have L:Looks M h (seqItemTypes.anyM λn=>BC (aK 178) (bT n)) cu:=
  λA Q d s e q=>cq (yz (W.In b) (W 14) A _ d s e (cW q))
 exact L.andThen<|jE
theorem vK {name:Str}{id n:String}{a:List b_}{Q:Option b_->cz->Prop}(W:WK C Kk)(b:fk C h)(e:h.get? x=aE ox)(f:ox.cls=aK 178)(i:gy Kk (aK 178) name=aE (aE (cH id))) (j:G8 (cH id) (aK x)=dq (cH id,[aK x])) (c:cD (cm C.prog C.w) A (call (cH id) (aK x::a)) (λv=>Q (aE v)) Ee ⟨h,g,d,t,os⟩):cD (cm C.prog C.w) A (Bu (aK x) name a) Q Ee ⟨h,g,d,t,os⟩:=by
 have L:Looks (cm C.prog C.w) h (pU (aK x) name) (aE (cH id)):=(oz e f).andThen (jo (W.In b) i);exact cq (L.at (eU<|cn (j ..)<|wpAny_bind (cW (cq (wM c (λv k q=>cW q))))))
theorem vL {Q:b_->cz->Prop}(W:WK C Kk)(b:fk C h)(c:h.get? x=aE ox)(e:ox.cls=aK 178)(j:i7 "list.__getitem__" ⟨[aK x,i],[]⟩) (k:cD (cm C.prog C.w) A.in1 (Builtin.«list.__getitem__» ⟨[aK x,i],[]⟩) (λa f=>∃v,a=.done (.ret v)/\Q v f) Ee ⟨h,g,d,t,os⟩):cD (cm C.prog C.w) A (pP (aK x) i) Q Ee ⟨h,g,d,t,os⟩:=by
 unfold pP;try with_reducible refine eU ?_
 refine cq ((H2 W b c e i _).at (cq (vK (n:="__getitem__") W b c e (W 15) (slot_list_getitem.bind _) (g_ (y3 slot_list_getitem.plain entry_list_getitem (tL (id:="list.__getitem__") (self:=aK x) (rest:=[i]) (owner:="list") (n:="__getitem__") (by decide+kernel) (by decide+kernel) ?_ ?_ ?_))))))
 .exact ow W b c e
 .exact j
 refine wM k (λa f q=>?_);obtain⟨v,rfl,q⟩:=q;exact cW q
theorem Co (W:WK C Kk)(b:fk C h)(k:h.get? x=aE ox)(l:ox.cls=aK 178)(p:ox.data≠ .plain) (m:cD (cm C.prog C.w) A (pP (aK x) i) Q Ee ⟨h,g,d,t,os⟩) (n:subscripted a cu (aK x) i=BE o (pP (aK x) i)):cD (cm C.prog C.w) A (nW e a (aK x) i) Q Ee ⟨h,g,d,t,os⟩:=by
 have L:Looks (cm C.prog C.w) h (pU (aK x) "__getitem__") (aE (cH "list.__getitem__")):=(oz k l).andThen (jo (W.In b) (W 15));refine cq<|cn ((getitemInPython_of_ne (λq=>F4 q)) ..)<|wpAny_bind (L.at ?_)
 have f:cD (cm C.prog C.w) A (subscripted a cu (aK x) i) (λr c=>cD (cm C.prog C.w) A (O_ e (aK x) r>>=λ_=>dq r) Q Ee c) Ee ⟨h,g,d,t,os⟩:=
  cn (n ..)<|wpAny_operating (wM m (λr c j=>cq (y1 (cW j))))
 first
  |exact cW (cq f)
  |exact cq (cW (cq f))
  |exact cq f
theorem KC (W:WK C Kk){KK:V->Prop}{p:cE×cE}(e:s.heap.get? p.1=aE {cls:=aK 178,dict:=aE p.2,data:=cK (gW vs) k})(r:Rels ρ s.heap vs l)
 (h:(p4 i l.length).bind (l[·]?)=aE v) (n:0<=i) (w:KK v) (st:St C ρ σ s) (x:∀l u t p,a≠ir l u t p):
 cD (cm C.prog C.w) A (nW o a (aK p.1) (d6 i t)) (PQ C ρ s.heap σ KK) Ee s:=by
 refine cU (Option.bind_eq_some_iff.mp h) λj q y=>dN (rE q) λH z q=>dN (vG q) λI B J=>cU (r.at y) λb D F=>?_;have c:=PE.sc (s:=s) (Kk:=KK) w F st rfl rfl rfl (d9 _);obtain⟨L,g,d,M,os⟩:=s;refine Co W st.based e rfl (by simp) (vL W st.based e rfl (Oo ..) ?_) (A6 x)
 have f:i<2 ^ 63:=qV z (dd rfl);show cD _ _ (Builtin.List.listSubscript? (d6 i t)>>=_) _ _ _;refine cq (wpAny_listSubscript_int (fitsIndex_of n f) ?_);obtain⟨m,rfl⟩:=Nw n;have G:m=j:=by have:=B n;exact this.symm
 subst G;refine cq (cq (wpAny_seqItemAt e rfl (cW (cn ((show vs.toArray[m]?=aE b from by simpa using D) ..) ?_))))
 first
  |exact cq (cW (cW ⟨b,rfl,c⟩))
  |exact cW ⟨b,rfl,c⟩
theorem Ic (W:WK C Kk){KK:V->Prop}{lo hi st:Option Expr}{p:cE×cE}(e:s.heap.get? p.1=aE {cls:=aK 178,dict:=aE p.2,data:=cK (gW vs) k})
 (r:Rels ρ s.heap vs l) (H:l.length<=1000000) (I:rA z p1) (J:rA B h) (L:rA D a) (F:a≠aE 0) (f:s.heap.get? i=aE {cls:=bT "slice",data:=cY #[z,B,D]})
 (M:KK (cw (gF l p1 h a))) (n:St C ρ σ s):
 cD (cm C.prog C.w) A (nW v (ir lo hi st q) (aK p.1) (aK i)) (tJ C ρ σ s.heap KK) Ee s:=by
 obtain⟨N,P⟩:=A7 (lo:=lo) (hi:=hi) (st:=st) (q:=q) (o:=aK p.1) (i:=aK i);have j:=r.len;have G:Kp s.heap (s.heap.push {cls:=bT "list",data:=cK (tj vs.toArray p1 h a)}):=λb o e=>dK _ e;have Q:tj vs.toArray p1 h a=(gF vs p1 h a).toArray:=by unfold tj gF;simp
 have w:tJ C ρ σ s.heap KK (aK s.heap.objs.size) {s with heap:=s.heap.push {cls:=bT "list",data:=cK (tj vs.toArray p1 h a)}}:=by
  refine⟨_,M,⟨s.heap.objs.size,gF vs p1 h a,0,rfl,eG _,?_,?_⟩,n.keep0 G,G⟩
  .refine cn (Q ..) ?_;exact fg _ rfl
  .unfold gF;refine cn (j ..) ?_;exact r.pick _
 obtain⟨y,g,d,R,os⟩:=s;refine Co W n.based e rfl (by simp) (vL W n.based e rfl (Oo ..) ?_) P
 have u:(⟨y,g,d,R,os⟩:cz).TypeIs (aK i) "slice":=⟨_,f,rfl⟩;show cD _ _ (Builtin.List.listSubscript? (aK i)>>=_) _ _ _;refine cq<|wpAny_bind (r4 u P2 (cW<|wpAny_bind (Bt u (cn ((if_neg (dd rfl)) ..)<|cn (listSliceParts_eq ..) ?_))))
 have t:¬((rawPart a==rawInt 0)=bK):=by
  induction a with
  |none=>exact dF|some c=>
   intro y;have:c=0:=by simpa [rawPart,rawInt] using y
   exact F (cn (this ..) rfl)
 exact cq (cq (fi f rfl (x:=D) rfl (cq (vh L (cn (if_neg t ..)<|wpAny_bind (fi f rfl (x:=z) rfl (cq (vh I (cq (fi f rfl (x:=B) rfl (cq (vh J (cW (cq (m:=Builtin.List.listItems (aK p.1))<|wpAny_bind (iY e rfl (cW (cq (iL (OC p1 h a vs.toArray.size F) (cq (jy (cW ⟨_,rfl,w⟩) (cx (slicePick_size_le vs.toArray p1 h a) (by refine cn (jw ..) (cn (j ..) (cn (iK ..) ?_));exact cx H (ej ..)))))))))))))))))))))))
end
end
section
open Builtin Builtin.ObjectAttr
theorem slot_setitem:Slot "list" "__setitem__" "list.__setitem__":=.of (owner:="list") (n:="__setitem__") (by rw[r5,qS];kernel_rfl) (by decide+kernel) (by decide+kernel) (by decide+kernel)
 (by first|exact .inl (by decide+kernel)|exact .inr (by decide+kernel)) (by rw[ve];kernel_rfl)
theorem yU:ru rC "list.__setitem__"=aE Builtin.«list.__setitem__»:=sY (by kernel_rfl)
theorem Ah (a b c):i7 "list.__setitem__" ⟨[a,b,c],[]⟩:=by unfold i7;kernel_rfl
def uy (σ:Sg)(v:V)(lo:Option V)(y:V)(KK:Sg->Prop):Prop:=match v,y with
 |aV n,cw a=>match σ[n]? with
  |some (d7 l b)=>(l.length<=1000000/\a.length<=1000000)/\match lo with
   |none=>KK (σ.set n (d7 a b))|some (aO i)=>(0<=i/\i<=l.length)/\KK (σ.set n (d7 (l.take i.toNat++a) b))|_=>False
  |_=>False
 |_,_=>False
theorem Rels.take (r:Rels ρ h a vs)(n):Rels ρ h (a.take n) (vs.take n):=r.ind (P:=λa vs=>∀n,Rels ρ h (a.take n) (vs.take n)) (λn=>by refine cn (FR ..) (cn (FR ..) ?_);exact fB) (λ_ _ _ _ r _ b n=>by
  rcases n with _|n
  .exact fB
  .exact fo r (b n)) n
theorem zm (W:WK C Kk){KK:Sg->Prop}(hp:ρ.l[n]?=aE p)(v:p.1≠p.2)(e:s.heap.get? p.1=aE {cls:=aK 178,dict:=aE p.2,data:=cK (gW vs) k})
 (r:Rels ρ s.heap vs l) (ra:AtRel ρ s.heap p.2 w) (ey:s.heap.get? y=aE {cls:=bT "list",data:=cK (gW ws) k2}) (hy:y≠p.1) (rn:Rels ρ s.heap ws new) (J:l.length<=1000000) (hn:new.length<=1000000) (i1:rA vl p1) (m:s.heap.get? i=aE {cls:=bT "slice",data:=cY #[vl,cG,cG]})
 (L:(p1=aT/\I=new)\/∃j:Nat,p1=aE (j:Int)/\j<=l.length/\I=l.take j++new) (hk:KK (σ.set n (d7 I w))) (st:St C ρ σ s):
 cD (cm C.prog C.w) A (BD (aK p.1) (aK i) (aK y)) (PT C [] ρ s.heap λ_ M=>KK M) Ee s:=by
 have c:=r.len;have h:=rn.len;obtain⟨q,g,d,N,os⟩:=s;have b:=st.based;unfold BD;try with_reducible refine eU ?_
 refine cq ((H2 W b e rfl (aK i) _).at (cq (vK (n:="__setitem__") W b e rfl (W 16) (slot_setitem.bind _) (g_ (y3 slot_setitem.plain yU (sF (id:="list.__setitem__") (self:=aK p.1) (rest:=[aK i,aK y]) (owner:="list") (n:="__setitem__") (by decide+kernel) (by decide+kernel) ?_ ?_ ?_))))))
 .exact ow W b e rfl
 .exact Ah _ _ _
 have B:(⟨q,g,d,N,os⟩:cz).TypeIs (aK i) "slice":=⟨_,m,rfl⟩;have P:(⟨q,g,d,N,os⟩:cz).TypeIs (aK y) "list":=⟨_,ey,rfl⟩;refine cq (cW ?_);dsimp only;refine cq ?_;refine cq (r4 B P2 ?_);refine cW ?_;dsimp only;refine cq (Bt B (cn ((if_neg (dd rfl)) ..) ?_));refine cq (cq (fi m rfl (x:=cG) rfl (cq (vh (k:=aT) .none (cn ((if_neg (show ¬((rawPart aT==rawInt 0)=bK) from dF)) ..)<|wpAny_bind (fi m rfl (x:=vl) rfl (cq (vh i1 (cq (fi m rfl (x:=cG) rfl (cq (vh (k:=aT) .none (cW ?_)))))))))))))
 have u:List.listSameRef (aK p.1) (aK y)=cu:=by show(p.1==y)=cu;exact beq_eq_false_iff_ne.mpr (eN hy)
 refine cn ((if_neg (by rw[u];exact dF)) ..)<|wpAny_bind ?_
 refine cq (Bt P (cn ((if_pos (dd rfl)) ..) ?_));refine cq (iY ey rfl (cW (cq (cq (iY e rfl (cW (cq (iL (OC p1 aT aT vs.toArray.size (dd rfl)) ?_))))))));obtain⟨a,D,Q,G⟩:∃a:Nat,n_ p1 aT aT vs.toArray.size=((a:Int),(vs.toArray.size:Int),1)/\a<=l.length/\I=l.take a++new:=by
  rcases L with⟨rfl,rfl⟩ |⟨j,rfl,hj,rfl⟩
  .exact⟨0,rfl,eW _,rfl⟩
  .refine⟨j,?_,hj,rfl⟩
   have R:¬((j:Int)<0):=Int.not_lt.mpr (JD (d8 wq));have h2:min (j:Int) (vs.toArray.size:Int)=j:=by refine cn (jw ..) (cn (c ..) ?_);exact OQ (Int.ofNat_le.mpr hj)
   have h3:max (0:Int) (j:Int)=j:=Fv (lD j);simp only[n_,Option.getD_none,if_neg R];simp only[show((1:Int)>0)=True from by decide,if_true,h2,h3]
 refine cn (D ..) ?_;dsimp only;refine cn ((if_pos (dd rfl)) ..)<|wpAny_bind (ip ?_)
 have U:List.listTooLong (vs.toArray.size+ws.toArray.size)=cu:=by unfold List.listTooLong;rw[decide_eq_false_iff_not,jw,jw,c,h,iK];exact jV (d8 (jY 0x7000007a1207010e00000f4240e121cc04258500008000007 rfl hn J))
 refine cn ((if_neg (by rw[U];exact dF)) ..) ?_
 obtain⟨F,hF⟩:∃F:Array b_->Array b_,F=(λH:Array b_=>H.extract 0 ((a:Int)).toNat++ws.toArray++H.extract (max (a:Int) (vs.toArray.size:Int)).toNat):=⟨_,rfl⟩;have hf:F vs.toArray=(vs.take a++ws).toArray:=by
  have R:(max (a:Int) (vs.toArray.size:Int)).toNat=vs.toArray.size:=by refine cn (jw ..) (cn (c ..) (cn (Fv (Int.ofNat_le.mpr Q) ..) ?_));exact mK _
  refine cn (hF ..) ?_;dsimp only;refine cn (R ..) ?_;simp
 show cD _ _ (updateSeq p.1 (λH:Array b_=>H.extract 0 ((a:Int)).toNat++ws.toArray++H.extract (max (a:Int) (vs.toArray.size:Int)).toNat)>>=_) _ _ _;refine ie (hF ..) ?_;obtain⟨n',Y⟩:=ux (ox:={cls:=aK 178,dict:=aE p.2,data:=cK (gW vs) k}) (items:=vs.toArray) (n:=k) (f:=F) rfl;rw[hf] at Y;refine cq (Bj e rfl (cq (rk (cW (cW ?_)))) (by refine cn (jw ..) (cn (c ..) (cn (iK ..) ?_));exact cx J (ej ..)) ?_)
 .have Z:km p.1 q (q.update p.1 (pT F)):=nk ..
  have e':(q.update p.1 (pT F)).get? p.1=aE {cls:=aK 178,dict:=aE p.2,data:=cK (vs.take a++ws).toArray n'}:=by have e:q.get? p.1=_:=e;exact cn ((oR _ e (by rw[Y];rfl)) ..) (cn (Y ..) rfl)
  have hc:∀o,q.get? p.1=aE o->¬hU o:=λo z=>by have e:q.get? p.1=_:=e;rw[e] at z;obtain rfl:=dk z;exact fX rfl
  have X:=lh st.conc hp (.inl rfl) Z.extBut ⟨_,e'⟩ hc;have rt:Rels ρ q (vs.take a) (l.take a):=Rels.take r a
  obtain⟨a0,_⟩:=n9 (o':=d7 I w) (d:=d) (t:=N) st hp (.inl rfl) Z.extBut ⟨_,e'⟩ hc
   ⟨v,⟨_,n',e',by refine cn (G ..) ?_;exact Rels.append (rt.ext X) (rn.ext X)⟩,ra.ext X λo z=>Z.extBut _ _ (eN v) z⟩ (d9 _)
  exact⟨ρ,_,hk,a0,X⟩
 .show(F vs.toArray).size<=_
  exact cn (hf ..) (cn (jw ..) (cn (dJ ..) (cn (kN ..) (cn (c ..) (cn (h ..) (cn (iK ..) (d8 (iP 0x3800003d09038087008487000007a1207110e62212c298500008000007 rfl J (pI ..) hn))))))))
theorem KD (W:WK C Kk){lo:Option V}{KK:Sg->Prop}(h:uy σ x lo y KK)(J:Rel ρ s.heap a x)(L:Rel ρ s.heap b y)(w:Rel ρ s.heap q (lo.getD dD))(c:s.heap.get? i=aE {cls:=bT "slice",data:=cY #[q,cG,cG]})(st:St C ρ σ s):
 cD (cm C.prog C.w) A (BD a (aK i) b) (PT C [] ρ s.heap λ_ t=>KK t) Ee s:=by
 rcases x with _|_|_|_|_|_|_|n|_<;>try exact h.elim
 rcases y with _|_|_|_|_|_|M|_|_<;>try exact h.elim
 delta uy at h
 dsimp only at h;generalize u:σ[n]?=o at h;rcases o with _|o
 .exact h.elim
 rcases o with _|_|⟨l,N⟩ |_|_|_<;>try exact h.elim
 refine J.cO λp f=>L.cL λ_ _ _ z P B=>dz h λQ g=>?_;clear h;refine dz Q λD F=>dN (st.conc.objs _ _ _ f u) λG v d=>?_;refine jX v λY k e r=>?_;have H:=(P.1 p (jS f)).1;rcases lo with _|lo
 .revert c
  exact(show Rel ρ s.heap q dD from w).cN λc=>zm W f G e r d z H B D F .none c (.inl ⟨rfl,rfl⟩) g st
 rcases lo with _|_|j|_|_|_|_|_|_<;>try exact g.elim
 refine dz g λI R=>dz I λU X=>?_;clear g I;revert c;refine(show Rel ρ s.heap q (aO j) from w).cI λ_ c=>?_;obtain⟨m,rfl⟩:=Nw U;exact zm W f G e r d z H B D F (.int ..) c (.inr ⟨m,rfl,d8 (oV (YW X)),rfl⟩) R st
end
section
open Builtin Builtin.ObjectAttr
section
variable {os:jM}
theorem H3 (W:WK C Kk)(b:fk C h)(e:h.get? x=aE ox)(i:ox.cls=aK 178)(j:gy Kk (aK 178) name=aE (aE (aK f)))(c:lb Kk (aK f)=aE (bT "function")) (a:cD (cm C.prog C.w) A (call (aK f) [aK x]) (λv=>Q (aE v)) Ee ⟨h,g,d,t,os⟩):cD (cm C.prog C.w) A (Bu (aK x) name []) Q Ee ⟨h,g,d,t,os⟩:=by
 have L:Looks (cm C.prog C.w) h (pU (aK x) name) (aE (aK f)):=(oz e i).andThen (jo (W.In b) j);refine cq (L.at ?_);exact eU<|wpAny_bind ((bind_fn (W.In b) (aK x) c).at (cq (wM a (λv k q=>cW q))))
theorem Cp (W:WK C Kk){Q:b_->cz->Prop}(b:fk C h)(i:h.get? x=aE ox)(j:ox.cls=aK 178) (a:cD (cm C.prog C.w) A (call (aK 145) [aK x]) (λr c=>∃n u,r=d6 n u/\0<=n/\n<2 ^ 63/\Q (d6 n c.toks) {c with toks:=c.toks+1}) Ee ⟨h,g,d,t,os⟩):
 cD (cm C.prog C.w) A (Builtin.«len» ⟨[aK x],[]⟩) (λe c=>∃v,e=.done (.ret v)/\Q v c) Ee ⟨h,g,d,t,os⟩:=by
 unfold Builtin.«len»;refine cq (m:=oneArg "len" _) (cW ?_);refine cq (m:=Bu (aK x) (fE "__len__")) (H3 W b i j (W 17).1 (W 17).2 (kq a (λr c k=>?_) λ_ _=>id));refine BL k λn u f l o p=>?_;subst f;refine cq (eU (cW ?_));refine cq (rk ?_);show cD _ _ (if n<0 then _ else _) _ _ _
 refine cn ((if_neg (Int.not_lt.mpr l)) ..) ?_;show cD _ _ (if n>=2 ^ 63 then _ else _) _ _ _
 exact cn ((if_neg (Int.not_le.mpr o)) ..)<|wpAny_bind (vp (cW ⟨_,rfl,p⟩))
theorem Qr (W:WK C Kk)(b:fk C h)(e:h.get? x=aE ox)(f:ox.cls=aK 178) (a:cD (cm C.prog C.w) A.in1 (call (aK 145) [aK x]) (λr c=>∃n u,r=d6 n u/\0<=n/\n<2 ^ 63/\Q (d6 n c.toks) {c with toks:=c.toks+1}) Ee ⟨h,g,d,t,os⟩):
 cD (cm C.prog C.w) A (call (cH "len") [aK x]) Q Ee ⟨h,g,d,t,os⟩:=by
 exact Calls.call_function_entry kind_len plain_len entry_len (args_len1 _)<|Cp W b e f a
theorem Ea (W:WK C Kk){Q:Bool->cz->Prop}(b:fk C h)(e:h.get? x=aE ox)(f:ox.cls=aK 178) (a:cD (cm C.prog C.w) A.in1 (call (aK 145) [aK x]) (λr c=>∃n u,r=d6 n u/\0<=n/\n<2 ^ 63/\Q (n != 0) {c with toks:=c.toks+1}) Ee ⟨h,g,d,t,os⟩):
 cD (cm C.prog C.w) A (rz (aK x)) Q Ee ⟨h,g,d,t,os⟩:=by
 have i:Looks (cm C.prog C.w) h (pU (aK x) "__bool__") aT:=(oz e f).andThen (jo (W.In b) (W 19));have j:Looks (cm C.prog C.w) h (pU (aK x) "__len__") (aE (aK 145)):=(oz e f).andThen (jo (W.In b) (W 17).1);refine cq (cq (i.at (cW (cq (j.at (cn ((if_neg (by simp)) ..)<|wpAny_bind (wpAny_runValue (FB entry_len (cn (AZ plain_len _ ..)<|wM (Cp W (Q:=λv c=>∃n u,v=d6 n u/\Q (n != 0) c) b e f (wM a (λr c q=>?_))) (λk c q=>?_))))))))))
 .obtain⟨n,u,rfl,l,m,q⟩:=q
  exact⟨n,u,rfl,l,m,n,_,rfl,q⟩
 .obtain⟨v,rfl,n,u,rfl,q⟩:=q
  exact cW q
end
end
section
open Builtin Builtin.Str
theorem Qs (W:WK C Kk)(f:A.in1.in1.units<cLine)(b:fk C s.heap)(g:s.heap.get? x=aE ox)(i:ox.cls=aK 178) (h:cD (cm C.prog C.w) A.in1.in1 (call (aK 152) [aK x]) (λr e=>∃y u,r=cV y u/\Q r e) Ee s):cD (cm C.prog C.w) A (call (bT "str") [aK x]) Q Ee s:=by
 refine callType_codes (T:="str") (Bi:=Builtin.«object.__init__») (Q₁:=λr a=>∃y u,r=cV y u/\Q r a) PySem.F.called_str (PySem.F.typeCall_str_1 _) PySem.F.entry_object_init ?_ ?_
 .refine Bk ?_
  show cD _ A.in1.in1 (do checkBuiltinCall "str.__new__" ⟨[bT "str",aK x],[]⟩;again (rY "str.__new__" ⟨[bT "str",aK x],[]⟩)) _ _ s;refine cq (iL (PySem.F.newCall_str_1 _) (cW ⟨yq (by decide+kernel) _,FB PySem.F.entry_str_new (cn ((AZ (by decide+kernel) _) ..)<|cn (str_new_tree ..)<|wpAny_bind (cW (cq (iL isSubtype_str_str ?_))))⟩))
  have c:cD (cm C.prog C.w) A.in1.in1 (Nx (aK x)) (λr a=>∃y u,r=cV y u/\Q r a) Ee s:=by
   unfold Nx;refine cn ((show isExactStr (aK x)=cu from rfl) ..)<|wpAny_bind (m:=cRoomFor ..) (wpAny_cRoomFor f (cq (m:=Bu (aK x) (fE "__str__")) (H3 W b g i (W 18).1 (W 18).2 (kq h (λr e d=>?_) λ_ _=>id))))
   obtain⟨y,u,rfl,q⟩:=d;exact cW ⟨y,u,rfl,q⟩
  exact cq (kq c (λr a d=>cW d) λ_ _=>id)
 .rintro j a ⟨y,u,rfl,k⟩
  exact⟨BA _ _ _,PySem.F.args_object_init_2 _ _,object_init_meets PySem.F.called_str.init.lookup PySem.F.called_str.made (dd rfl) C.prog C.w A.in1 _ a ⟨BA _ _ _,rfl,k⟩⟩
end
def Qt (c:jL)(x y:V)(Kk:V->Prop):Prop:=match c,x,y with
 |eL,aO a,aO b=>Kk (aO (a+b))|eL,cC a,cC b=>a.length+b.length<=1000000/\Kk (cC (a++b))|_,_,_=>False
theorem Tc {KK:V->Prop}(h:Qt d x y KK)(e:Rel ρ s.heap a x)(f:Rel ρ s.heap b y)(st:St C ρ σ s):cD (cm C.prog C.w) A (inplaceOp d a b) (PQ C ρ s.heap σ KK) Ee s:=by
 rcases d with _|_|_|_|_|_|_|_|_|_|_|_|_<;>try exact h.elim
 rcases x with _|_|i|_|n|_|_|_|_<;>try exact h.elim
 .rcases y with _|_|j|_|_|_|_|_|_<;>try exact h.elim
  refine e.cI λ_=>?_;refine f.cI λ_=>?_;exact PySem.AutoIntOps.iadd_0<|⟨ρ,σ,_,⟨rfl,h⟩,fq _ _,st.toks (dU _),Ext.refl _ _ _⟩
 .rcases y with _|_|_|_|o|_|_|_|_<;>try exact h.elim
  refine e.cS λ_=>?_;refine f.cS λ_=>?_;refine wM (dP (SB.iadd (Q:=λv g=>∃c l,v=cV (_++_) c/\g={s with toks:=l}) (λc k=>⟨c,k,rfl,rfl⟩) (by simp only[iK];exact cx h.1 (ej ..)))) (λv g z=>?_)
  obtain⟨m,c,l,rfl,rfl⟩:=z;exact⟨ρ,σ,_,⟨rfl,h.2⟩,gR _ _,st.toks m,Ext.refl _ _ _⟩
theorem Rel.grow (pre:ρ.l<+:ρ'.l)(k:Kp h h')(c:∀b o,h.get? b=aE o->(∃d n,o.data=cK d n)->FreeH ρ b->FreeH ρ' b)(r:Rel ρ h a v):Rel ρ' h' a v:=(iv (λ_ _ _ _ e f=>⟨k _ _ e,c _ _ e ⟨_,_,rfl⟩ f⟩) (v_ pre)).1 r
theorem Rels.grow (pre:ρ.l<+:ρ'.l)(k:Kp h h')(c:∀b o,h.get? b=aE o->(∃d n,o.data=cK d n)->FreeH ρ b->FreeH ρ' b)(r:Rels ρ h a v):Rels ρ' h' a v:=(iv (λ_ _ _ _ e f=>⟨k _ _ e,c _ _ e ⟨_,_,rfl⟩ f⟩) (v_ pre)).2 r
theorem Eb {h:cQ}(g:h.get? p.1=aT)(i:h.IsCell p.2 v):∀b o,h.get? b=aE o->(∃c n,o.data=cK c n)->FreeH ρ b->FreeH (ρ.add p) b:=λb o e ⟨c,n,d⟩ f=>by
 refine⟨λq a=>?_,f.2⟩;rcases List.mem_append.mp a with a|a
 .exact f.1 q a
 .obtain rfl:=List.mem_singleton.mp a
  refine⟨λz=>(by simp only[z,g] at e;exact nN e),λz=>cU i λl j k=>?_⟩
  simp only[z,j] at e;obtain rfl:=dk e;simp only[k] at d;exact ql d
theorem Conc.ownCell (c:Conc C ρ σ h)(k:Kp h h')(n:h.get? p.1=aT)(B:h.IsCell p.2 v)(L:C.hb.get? p.2=aT)(M:p.2∉fU)(w:Free ρ p.2) (N:∃o,h'.get? p.1=aE o) (r:ORel (ρ.add p) h' p o):Conc C (ρ.add p) (σ++[o]) h':=by
 have g:=c.keeps k;have x:=Free.new c n;have D:∀a v,Rel ρ h a v->Rel (ρ.add p) h' a v:=λa v r=>r.grow (yc ..) k (Eb n B);have F:∀a v,Rels ρ h a v->Rels (ρ.add p) h' a v:=λa v r=>r.grow (yc ..) k (Eb n B);have m:∀i q,(ρ.l++[p])[i]?=aE q->q∈ρ.l/\ρ.l[i]?=aE q\/q=p/\i=ρ.l.length:=λi q d=>by
  by_cases G:i<ρ.l.length
  .rw[jR G] at d;exact .inl ⟨jS d,d⟩
  .rw[lX (ia G)] at d
   have I:i-ρ.l.length=0:=by
    induction l:i-ρ.l.length with
    |zero=>rfl|succ k=>rw[l] at d;simp at d
   rw[I] at d;have:p=q:=dk d;exact .inr ⟨this.symm,eC (d8 (BQ (c_ I) (sB ..))) (d8 (oV (ia G)))⟩
 refine⟨g.base,g.tab,by simp[Own.add,g.len],λq s=>?_,λq s=>?_,λq s=>?_,λi j q l d P t=>?_,g.hid,λi q H d y=>?_⟩
 .rcases List.mem_append.mp s with f|f
  .exact g.lo q f
  .obtain rfl:=List.mem_singleton.mp f;exact⟨c.nobase n,L⟩
 .rcases List.mem_append.mp s with f|f
  .exact g.hi q f
  .obtain rfl:=List.mem_singleton.mp f;exact⟨N,let ⟨o,e,_⟩:=B;⟨o,k _ _ e⟩⟩
 .rcases List.mem_append.mp s with f|f
  .exact g.low q f
  .obtain rfl:=List.mem_singleton.mp f;exact⟨c.notab n,M⟩
 .rcases m i q d with⟨u,D⟩ |⟨rfl,z⟩ <;>rcases m j l P with⟨A,F⟩ |⟨rfl,Q⟩
  .exact g.apart i j q l D F t
  .exact⟨eN (x q u).1,eN (w q u).1,eN (x q u).2,eN (w q u).2⟩
  .exact⟨(x l A).1,(x l A).2,(w l A).1,(w l A).2⟩
  .exact absurd (z.trans Q.symm) t
 .rcases m i q d with⟨u,J⟩ |⟨rfl,z⟩
  .have R:σ[i]?=aE H:=by rw[jR (by refine ie (c.len ..) ?_;exact(List.getElem?_eq_some_iff.mp J).1)] at y;exact y
   exact(c.objs i q H J R).mv D F (k _) (k _) (λb o e _=>k b o e)
  .rw[lX (by refine cn (z ..) (cn (c.len ..) ?_);exact d9 _),z,c.len,t7] at y
   obtain rfl:o=H:=dk y;exact r
theorem vX (l)(h:vx l)(e:codeAmong pos (l++[rawInt a,rawInt b,c])=aE v):codeAmong pos l=aE v\/v=c:=by
 fun_induction vx l with
 |case1=>
  dsimp only[pN,rawInt,codeAmong] at e;split at e
  .exact .inr (dk e).symm
  .exact nN e
 |case2 i t j u x f g=>
  dsimp only[l_,codeAmong] at e ⊢;split at e
  .rename_i d;refine cn (if_pos d ..) ?_;exact .inl e
  .rename_i d;refine cn (if_neg d ..) ?_;exact g h e
 |case3 l k m=>exact h.elim
structure LK (C:Fx):Prop where
 ns:∃mg,C.hb.Ns kn mg/\C.hb.BuiltinsAt mg 240/\∀bm,mg "__builtins__"=aE (aK bm)->bm∉fU
 hd:rB C.hb 244 240
theorem Ec:kn∉fU:=dd rfl
theorem LK.at (L:LK C)(b:fk C h):∃a,h.Ns kn a/\h.BuiltinsAt a 240/\rB h 244 240:=by refine hR L.ns λa f g i=>?_;obtain⟨c,j,d,k,l,m,n,p⟩:=g;exact ud f λq r s t u=>sg a ⟨q,r,s,b _ _ t Ec,u⟩ ⟨c,j,d,k,l,m,b _ _ n (i c d),p⟩ (Se (λo e=>b _ o e (dd rfl)) L.hd)
noncomputable def lamP:Pos:=pp (nat_lit 197018197075)
def VW (C:Fx)(ρ:Own)(σ:Sg)(s:cz)(c:cE)(k:V)(r:b_)(d:cz):Prop:=∃f,r=aK f/\s.heap.get? f=aT/\(∀b o,b≠240->s.heap.get? b=aE o->d.heap.get? b=aE o)/\St C (ρ.add (f,c)) (σ++[kC k]) d/\Ext [] ρ ρ s.heap d.heap/\
 (∀a v,Rel ρ s.heap a v->Rel (ρ.add (f,c)) d.heap a v)
noncomputable def KF (c:cE)(b d a:b_):Obj:={cls:=bT "function",data:=fK (yK "<lambda>" lamQ kR n7 lamScope [("signs",c)] b d a)}
theorem KG (L:LK C)(st:St C ρ σ s)(B:j.cells.lookup ("signs":Str)=aE c)(D:∃v,s.heap.IsCell c (aE v)/\Rel ρ s.heap v k)(n2:C.hb.get? c=aT)(t2:c∉fU)(f2:Free ρ c) (l:j.globals=kn) (m:j.code=aK 244) (hq:j.qual++"<lambda>"=lamQ):cD (cm C.prog C.w) A (ei (.Lambda kR n7 lamScope lamP) j) (VW C ρ σ s c k) Ee s:=by
 refine hR (L.at st.based) λmg hg R hd=>cU D λv D rv=>?_;obtain⟨ps,W,F⟩:=st.conc.tab 240 (dd rfl);refine kla_eval rfl<|cn (hq ..) ?_
 have J:vr lamScope j=dq [(("signs":Str),c)]:=by dsimp only[vr];show(forIn _ _ _>>=_)=_;simp only[lamScope,Be,vd,BF,B];rfl
 have g:c≠240:=λq=>t2 (by refine cn (q ..) ?_;decide)
 have M:∀(d:cQ) (n f G:b_) (h:Tok),s.toks<=h->(∀b o,b≠240->s.heap.get? b=aE o->d.get? b=aE o)->s.heap.objs.size<=d.objs.size->Conc C ρ σ d->Ext [] ρ ρ s.heap d->d.CodeRec n lamQ->
  VW C ρ σ s c k (aK d.objs.size) {s with heap:=d.push (KF c G n f),toks:=h}:=by
  intro d n f G h t u w Y X i;have I:Kp d (d.push (KF c G n f)):=λb o e=>dK _ e;refine cU D λoc Z dc=>?_;have y:d.IsCell c (aE v):=⟨oc,u _ _ g Z,dc⟩;have U:d.get? d.objs.size=aT:=eG _;have ef:(d.push (KF c G n f)).get? d.objs.size=aE (KF c G n f):=fg _ rfl;have g1:∀a v,Rel ρ d a v->Rel (ρ.add (d.objs.size,c)) (d.push (KF c G n f)) a v:=λa v r=>r.grow (yc ..) I (Eb U y);have a0:=Y.ownCell (p:=(d.objs.size,c)) (o:=kC k) I U y n2 t2 f2 ⟨_,ef⟩ ⟨λz=>(by have z:d.objs.size=c:=z;rw[z,u _ _ g Z] at U;exact nS U),⟨G,n,f,ef,kS (λb o e _=>I b o e) i⟩,v,⟨oc,I _ _ (u _ _ g Z),dc⟩,g1 _ _ (rv.ext X)⟩
  exact⟨_,rfl,y4 w,λb o R e=>I b o (u b o R e),⟨a0,st.os,st.gens.1,fx (fl (j4 st.gens.2) t)⟩,X.trans (Ext.of_all I),λa v r=>g1 a v (r.ext X)⟩
 induction hf:codeAmong lamP ps.toList with
 |some n=>refine wM (dP (kla_makeFunctionHit (Q:=λr N=>∃(f:b_) (d:cQ) (h:Tok),(Kp s.heap d)/\s.heap.objs.size<=d.objs.size/\r=aK d.objs.size/\N={s with heap:=d.push {cls:=bT "function",data:=fK (yK "<lambda>" lamQ kR n7 lamScope [("signs",c)] ((mg "__name__").getD cG) n f)},toks:=h}) J l hg m hd W F.1 hf R λf d h u w=>⟨f,d,h,u,w,rfl,rfl⟩)) (λr N q=>?_);obtain⟨t,f,d,h,u,w,rfl,rfl⟩:=q;exact M d n f _ h t (λb o _ e=>u b o e) w (st.conc.keeps u) (Ext.of_all u) (kS (λb o e _=>u b o e) (F.2 rfl _ _ hf))
 |none=>
  refine wM (dP (kla_makeFunction (Q:=λr N=>∃(x:cE) (f:b_) (d:cQ) (h:Tok),l8 240 s.heap d/\s.heap.objs.size<=x/\x<d.objs.size/\d.CodeRec (aK x) lamQ/\d.get? 240=aE (BG (ps++#[rawInt lamP.line,rawInt lamP.col,aK x]))/\r=aK d.objs.size/\N={s with heap:=d.push (kla_obj "<lambda>" lamQ kR n7 lamScope [("signs",c)] ((mg "__name__").getD cG) x f),toks:=h}) J l hg m hd W F.1 hf (dd rfl) R λx f d h h1 h2 h3 h4 h5=>⟨x,f,d,h,h1,h2,h3,h4,h5,rfl,rfl⟩)) (λr N q=>?_);obtain⟨t,x,f,d,h,hx,a1,a2,i,P,rfl,rfl⟩:=q;have H:∀b o,b≠240->s.heap.get? b=aE o->d.get? b=aE o:=hx;have a3:∀b o,s.heap.get? b=aE o->hU o->d.get? b=aE o:=λb o e z=>H b o (λq=>by rw[q,W] at e;obtain rfl:=dk e;exact vI F.1 z) e
  obtain⟨Y,X⟩:=xg st.conc H (dd rfl) P ⟨by refine cn (Fi ..) ?_;exact P1 _ _ _ _ F.1,λ_ a4 v e=>by
   rw[Fi] at e;rcases vX _ F.1 e with z|rfl
   .exact kS a3 (F.2 rfl _ _ z)
   .exact i⟩
  exact M d (aK x) f _ h t H (cx a1 (eV a2)) Y X i
noncomputable def KH:S:=wK (cR (cJ 1 ..) (di 11 _ (bE (bO ..) bV) _) _) (vT (qh (iS 12)) 0) rfl
noncomputable def s_lex3:S:=wK (dT (di 11 _ (bE (aS 1 ..) bV) _) _) (vT (qh (iS 12)) 2) rfl
noncomputable def KJ:List eQ:=qh (iS 12)
noncomputable def sc_lex:Scope:=S8 (iS 12)
noncomputable abbrev w5:List (Nat×Str):=[(0,"signs"),(1,"stream")]
theorem Ext.addP (X:Ext F ρ ρ' h h')(a:h.get? p.1=aT)(b:h.get? p.2=aT):Ext F ρ (ρ'.add p) h h':=⟨X.pre.trans (yc ..),X.hid,X.dom,λq c=>(List.mem_append.mp c).elim (X.new q) λd=>by obtain rfl:=List.mem_singleton.mp d;exact .inr ⟨a,b⟩,X.seq,X.keep,X.code⟩
theorem Td (L:LK C)(I:GW C 245 fd ["signs"] w5 KJ)(ah:fd.closure=[])(Q:fd.scope=sc_lex)(ai:fd.code=aK 244)(iq:fd.qualname="_law_lexer")(H:m5 C m Z gv mv) {KK:V->Sg->Prop} (rs:Rels ρ s.heap as [x]) (st:St C ρ σ s) (hA:Room (m+3) A) (h:DL Z KH [aE x,aT] σ λo M u=>match o with
   |de=>∃ns,M=[aE x,aE ns]/\Z.set (u++[kC x]) ns 11 (aV u.length) λl=>DL Z s_lex3 [aE x,aE ns] l λo _ U=>match o with
    |dH v=>KK v U|_=>False
   |_=>False):
  fA (cm C.prog C.w) A (eR (aK 245) ⟨as,[]⟩) (yN (PE C [] ρ s.heap KK) Ee) s:=by
  refine wI (n:=m) (r:=1) (tr:=cu) I ah ((I 9) as rs.len) rfl rs st hA (λe au A' E' e1 e2 e3 R W a5 Y vf=>?_);have kd:∀x,e.kindOf x=sc_lex.names.lookup x:=λx=>by unfold l9;exact cn (e1 ..) (cn (Q ..) rfl)
  refine mO (wM (so H KH (by refine cn (e1 ..) (cn (Q ..) ?_);decide+kernel) (dd rfl) R W Y h) (λf a6 q=>?_))
  obtain⟨g,l,av,aw,k,fr,B,d,a7⟩:=q;cases fr<;>try exact k.elim
  refine cU k λns D a8=>?_;subst D;have a9:Ext [] ρ g s.heap a6.heap:=((a5.m0).trans a7).drop λb hb=>.inr (vf b hb);have kc:e.kindOf "signs"≠aE dv:=by refine cn (kd ..) ?_;decide
  have v0:(0,("signs":Str))∈w5:=dd rfl;obtain⟨aA,c,ov,hc,F,hv⟩:=d.cel 0 "signs" v0 kc;refine cU (hv x rfl) λv D rv=>(dN (d.celO 0 "signs" c v0 kc hc) λt2 f2 n2=>?_);subst D;have n2:=n2 (by refine cn (kd ..) ?_;decide)
  have c0:s.heap.get? c=aT:=by have:=vf (tB e "signs") (uT (f:=λx:Nat×Str=>tB e x.2) v0);unfold tB at this;rw[if_neg kc,hc] at this;exact this
  refine mO (uV (wM (KG L B hc ⟨v,F,rv⟩ n2 t2 f2 d.glob (e2.trans ai) (by refine cn (e3 ..) (cn (iq ..) ?_);decide+kernel)) (λr t q=>?_)) rfl rfl)
  obtain⟨f,D,f0,a0,a1,aa,ab⟩:=q;subst D;have aj:s.heap.get? f=aT:=by
   induction z:s.heap.get? f with
   |none=>rfl|some o=>obtain⟨o',z'⟩:=a9.dom f o z;rw[f0] at z';cases z'
  have ak:Ext [] ρ (g.add (f,c)) s.heap t.heap:=(a9.trans aa).addP aj c0;refine cU d.ns λmm hn hm=>?_;have al:s.heap.get? e.locals=aT:=by
   have:=vf (tB e "stream") (uT (f:=λx:Nat×Str=>tB e x.2) (show(1,("stream":Str))∈w5 by decide))
   unfold tB at this;rw[if_pos (by refine cn (kd ..) ?_;decide)] at this
   exact this
  have am:e.locals≠c:=λz=>by refine wo hn λoL es ep q1 q2 _=>cU F λoc w1 w2=>?_;rw[z,w1] at q1;obtain rfl:=dk q1;rw[w2] at q2;exact ql q2
  have an:e.locals≠f:=λz=>by refine wo hn λoL es ep q1 q2 _=>?_;rw[z,f0] at q1;exact nN q1
  have ao:e.locals≠240:=λz=>d.nsO.1 (by refine cn (z ..) ?_;decide)
  have fL:Free (g.add (f,c)) e.locals:=λp hp=>(List.mem_append.mp hp).elim (d.nsO.2.1 p) λh1=>by obtain rfl:=List.mem_singleton.mp h1;exact⟨an,am⟩
  have N:EnvRel C e [(1,"stream")] [aE x,aE ns] (g.add (f,c)) t.heap:=by
   refine⟨d.kind,d.glob,d.bi,⟨mm,?_,λi y hy G w hM=>?_⟩,λi y hy G=>?_,⟨d.nsO.1,fL,d.nsO.2.2⟩,λi y c hy G=>?_,λi y j z c hy hz G=>?_⟩
   .exact ud hn λoL es ep q1 q2=>⟨oL,es,ep,a0 _ _ ao q1,q2⟩
   .exact cU (hm i y (.tail _ hy) G w hM) λa ha ra=>⟨a,ha,ab _ _ ra⟩
   all_goals
    obtain⟨rfl,rfl⟩:=vo (List.mem_singleton.mp hy);exact absurd (by refine cn (kd ..) ?_;decide) G
  show cD _ A' (p_ (jD (dI "stream" _) "read" _) e (aK f)) _ _ t;have rf:Rel (g.add (f,c)) t.heap (aK f) (aV l.length):=kF (p:=(f,c)) (by show(g.l++[_])[l.length]?=_;refine ie (B.conc.len ..) ?_;exact sT ..)
  refine cq (eU (iF (lg N (i:=1) (dd rfl) (dd rfl) rfl λa ra=>cq (jW (cq (eU (wM (H 14 11 a8 ra rf a1 Y) (λ_ ac q=>yp ?_)))))) (dd rfl)));obtain⟨ap,aq,ae,a2,P⟩:=q;show cD _ A' (q0 (s_lex3.back::[]) e) _ _ ac;refine mO (wM (so H s_lex3 (vis:=[(1,"stream")]) (by refine cn (e1 ..) (cn (Q ..) ?_);decide+kernel) (dd rfl) (N.ext0 P) a2 Y ae) (λf af q=>?_))
  obtain⟨J,a3,ax,ay,k,fr,a4,az,ag⟩:=q;cases fr<;>try exact k.elim
  rename_i w a ar
  have X:Ext [] ρ J s.heap af.heap:=by refine(((ak.trans P).mono (F':=kX e [(1,"stream")]) (λ_ h=>(fh h).elim)).trans ag).drop λb hb=>.inr ?_;obtain rfl:=List.mem_singleton.mp (show b∈[tB e "stream"] from hb);unfold tB;exact cn ((if_pos (by rw[kd];decide)) ..)<|al
  exact⟨J,a3,dH _,k,.ret ar,a4,X⟩
theorem KM {KK:V->Sg->Prop}(st:St C ρ σ s) (G:a.scope.kind=gj) (U:a.kindOf "signs"=aE ft) (W:a.cells.lookup ("signs":Str)=aE c) (f:s.heap.IsCell c (aE (aK q.1))) (H:a.kindOf "count"=aE dv) (hn:s.heap.Ns a.locals m) (hm:m "count"=aE (d6 1 t)) (I:ρ.l[j]?=aE q) (hj:σ[j]?=aE (cM l)) (J:l.length<=1000000) (h0:l=[]->KK (cC "") σ) (h1:∀p x,l=p++[x]->KK x (σ.set j (cM p))):cD (cm C.prog C.w) A (ei n7 a) (PE C [] ρ s.heap KK) Ee s:=by
 have r:s.toks<=s.toks+1+1:=kM (dU _);obtain⟨qe,X,n,e,u⟩:=st.conc.objs _ _ _ I hj;have v:X.toArray.isEmpty=l.isEmpty:=by cases u<;>rfl
 refine wpAny_IfExp (kq (Q:=λb s'=>b=!l.isEmpty/\∃w,s.toks<=w/\s'={s with toks:=w}) ?_ (λb Y z=>?_) λ_ _=>id)
 .refine O0 (AS ?_)
  show cD _ _ (nZ (Internal.E.loc 0 "signs" _).back a (ei (Internal.E.loc 0 "signs" _).back a)) _ _ _;rw[wC rfl];refine cq (iF (B3 G U W f (cq (jW (eU (Od (items:=X.toArray) ⟨_,e,rfl,n,rfl⟩ (by refine cn (jw ..) (cn (u.len ..) ?_);exact Int.ofNat_lt.mpr (fC J (dd rfl))) ?_)))) (dd rfl)) (dd rfl))
  refine cn (v ..) ?_;cases l with
  |nil=>exact⟨rfl,_,r,rfl⟩|cons y L=>exact AS (NH (iF (uS G H hn hm (vp (UP (uZ (NF ⟨rfl,_,kM r,rfl⟩))))) (dd rfl)) rfl)
 .obtain⟨rfl,w,B,rfl⟩:=z
  have i:St C ρ σ {s with toks:=w}:=st.toks B;cases l with
  |nil=>exact yu ⟨ρ,σ,_,h0 rfl,gR _ _,i.toks (dU _),Ext.refl _ _ _⟩|cons y L=>
   obtain⟨p,x,D⟩:∃p x,y::L=p++[x]:=⟨_,_,(Na (l5 y L)).symm⟩;rw[D] at u J;refine lF u.split_last λh b M rb rx=>?_;subst M;refine cq (m6 (e:=aS 0 "signs" _) (m:="pop") (iF (B3 G U W f (cq (jW ?_)) (dd rfl)) (dd rfl)));have N:methodCallForm (([]:List Expr).length+([]:List yI).length) (backTo (pp 197032197043) (starEach [] a)) (vy (pp 197032197043) (vq [] a))=bK:=by rfl
   refine cq (eU (Fs PySem.F.slot_list_pop (by show yA _=_;refine cn (y8 ..) ?_;kernel_rfl) ⟨_,e,rfl,n,rfl⟩ ⟨_,e,rfl⟩ ?_))
   have a0:(!bK||(pp 197032197041).endLine==(pp 197032197043).line)=bK:=by decide+kernel
   refine cq (cW ?_);have ex:(h++[b]).toArray[(h++[b]).toArray.size-1]?=aE b:=by simp
   refine PySem.P.pop_list (items:=(h++[b]).toArray) (n:=n) e ex ?_ (by refine cn (jw ..) (cn (u.len ..) (cn (iK ..) ?_));exact cx J (ej ..))
   have P:(s.heap.update q.1 (pT λR=>R.eraseIdxIfInBounds ((h++[b]).toArray.size-1))).get? q.1=aE {cls:=bT "list",data:=cK h.toArray (n+1)}:=by
    refine cn ((oR _ e rfl) ..) ?_;simp only[pT];have e1:(h++[b]).toArray.eraseIdxIfInBounds ((h++[b]).toArray.size-1)=h.toArray:=by apply Array.ext';simp[N5]
    simp only[e1];exact cn ((if_neg (by simp)) ..) rfl
   have Z:km q.1 s.heap (s.heap.update q.1 (pT λR=>R.eraseIdxIfInBounds ((h++[b]).toArray.size-1))):=nk ..;have F:∀o,s.heap.get? q.1=aE o->¬hU o:=λo z=>by rw[e] at z;obtain rfl:=dk z;exact fX rfl
   have g:=lh st.conc I (.inl rfl) Z.extBut ⟨_,P⟩ F;obtain⟨k,_⟩:=n9 (o':=cM p) (d:=s.drawn) (t:=w) st I (.inl rfl) Z.extBut ⟨_,P⟩ F ⟨qe,h,_,P,rb.ext g⟩ B;exact⟨ρ,_,x,h1 _ _ D,rx.ext g,k,g⟩
theorem Ed {L j:Nat}{KK:V->Sg->Prop}(d:C.hb.NoLimit)(g:σ[L]?=aE (kC (aV j)))(D:σ[j]?=aE (cM l))(F:ρ.l[L]?=aE p)(st:St C ρ σ s)(G:Room (k+3) A) (H:l.length<=1000000) (I:l=[]->KK (cC "") σ) (J:∀y x,l=y++[x]->KK x (σ.set j (cM y))):cD (cm C.prog C.w) A (call (aK p.1) [d6 1 t]) (PE C [] ρ s.heap KK) Ee s:=by
 refine dN (st.conc.objs _ _ _ F g) λne h a=>?_;refine ud h λM N i P m=>?_;refine cU a λv c Q=>?_;refine cU Q.inv λ_ R a=>?_;subst a
 rename_i q
 have U:Gy (yK "<lambda>" lamQ kR n7 lamScope [("signs",p.2)] M N i) ⟨[d6 1 t],[]⟩=dq [(("count":Str),Value.int 1 t)]:=by kernel_rfl
 refine g_ (kla_callFunE (by have:=G.1;exact fC (eO ..) this) P rfl rfl rfl rfl m (cn (U ..)<|wpAny_pure (NQ (show ∀x∈lamScope.names,x.2≠eH by decide) (by intro x W;obtain rfl:=List.mem_singleton.mp W;show lamScope.names.lookup ("count":Str)=aE dv;decide) (λn r f=>⟨?_,kla_codeExpr ?_⟩) rfl)))
 .exact(iA d st.based).fresh _ f
 .have u:Kp s.heap n:=λb o e=>(f.2 b (jI (jk e))).trans (dK _ e)
  have w:St C ρ σ {s with heap:=n,toks:=s.toks+1}:=st.keeps u (dU _);refine cU c λX Y Z=>wM (KM (s:={s with heap:=n,toks:=s.toks+1}) w rfl rfl rfl ⟨X,u _ _ Y,Z⟩ rfl r rfl R D H I J) (λv B z=>z.up (Ext.of_all u))
noncomputable def Cq:Ss:=ou (bS (dA (dx _ (aS 1 ..) (bO ..) _) (bS (.augA (aS 0 ..) 7 _ _ (bO ..) _) cy) cy _)
 (bS (dT (aS 1 ..) _) cy)) ((qh (eX 10 1)).drop 1) rfl
noncomputable def Sf:List eQ:=qh (eX 10 1)
noncomputable def sc_rc:Scope:=S8 (eX 10 1)
noncomputable abbrev sH:List (Nat×Str):=[(0,"self"),(1,"ch")]
theorem XU {KK:V->Prop}(a:∀v,w≠hJ v)(k:KK w):match aE w with|some (hJ _)=>False|some w=>KK w|none=>False:=V.casesOn (motive_1:=λw=>(∀v,w≠hJ v)->KK w->match aE w with|some (hJ _)=>False|some w=>KK w|none=>False) w (λ_ k=>k) (λ_ _=>id) (λ_ _=>id) (λ_ _=>id) (λ_ _=>id) (λ_ _=>id) (λ_ _=>id) (λ_ _=>id) (λv a _=>absurd rfl (a v)) a k
theorem xh (W:WK C Kk)(j:σ[n]?=aE (fe 234 b))(u:iT b=bK)(x:b.lookup 11=aE w)(y:∀v,w≠hJ v)(r:Rel ρ s.heap a (aV n))(st:St C ρ σ s):cD (cm C.prog C.w) A (td a (eh 11) I) (λr k=>r.2=[]/\PE C [] ρ s.heap (λv f=>f=σ/\v=w) r.1 k) Ee s:=by
 refine r.cO λ_ l=>?_
 rename_i p
 refine dN (st.conc.objs _ _ _ l j) λJ e L=>?_;have X:=W.In st.based;have B:Looks (cm C.prog C.w) s.heap (mY (aK p.1)) (aK 234):=(lS (part:=aE Gr) e).andThen jE;have h:∀{m:Str} {r:Option b_},Looks (cm C.prog C.w) s.heap (kr (aK 234) m) r->Looks (cm C.prog C.w) s.heap (pU (aK p.1) m) r:=λz=>B.andThen z;have D:=jo (M:=cm C.prog C.w) X ((W 2) 234 (dd rfl));have F:=jo (M:=cm C.prog C.w) X ((W 4) 234 (dd rfl));have G:=jo (M:=cm C.prog C.w) X ((W 5) 234 (dd rfl) 11 (dd rfl));have c:vW σ (aV n) 11 (λv=>v=w):=by
  dsimp only[vW];refine cn (j ..)<|⟨.inr rfl,u,by decide,?_⟩
  exact cn (x ..)<|XU (KK:=λv=>v=w) y rfl
 have i:=λo=>Kl (A:=A) (Ee:=Ee) (ex:=o) W c (kF l) st;obtain⟨H,g,d,t,N⟩:=s;dsimp only[td];refine cq ((h D).at ?_);show cD _ _ (if(yg "object.__getattribute__" != "object.__getattribute__")=bK then _ else _) _ _ _
 refine cn ((show(yg "object.__getattribute__" != "object.__getattribute__")=cu by decide+kernel) ..) (cn (if_neg dF ..) (cq ((h F).at (cq ((h G).at (cq (wM (i _) (λv k q=>cW ⟨rfl,q⟩))))))))
theorem Cr (W:WK C Kk)(I:GW C 217 fd ["self"] sH Sf)(a6:fd.closure=[])(u:fd.scope=sc_rc)(H:m5 C (k+3) Z gv mv) {KK:V->Sg->Prop} (a7:σ[ms]?=aE (fe 234 M)) (a8:iT M=bK) (a9:M.lookup 11=aE (aV L)) (hL:σ[L]?=aE (kC (aV j))) (hj:σ[j]?=aE (cM l)) (hl:l.length<=1000000) (N:∀Kk,Kk (aV ms)->Z.att σ (aV n) 8 Kk) (rs:Rels ρ s.heap as [aV n]) (st:St C ρ σ s) (hA:Room (k+6) A) (h0:l=[]->dp Z Cq [aE (aV n),aE (cC "")] σ (lu cu σ.length KK)) (h1:∀l' x,l=l'++[x]->dp Z Cq [aE (aV n),aE x] (σ.set j (cM l')) (lu cu σ.length KK)):fA (cm C.prog C.w) A (eR (aK 217) ⟨as,[]⟩) (yN (PE C [] ρ s.heap KK) Ee) s:=by
  refine ot (n:=k+3) (r:=1) (tr:=cu) I a6 rfl rs st hA (λg U A' E' e1 e2 e3 R y ah w=>?_);have kd:∀x,g.kindOf x=sc_rc.names.lookup x:=λx=>by unfold l9;exact cn (e1 ..) (cn (u ..) rfl)
  have v0:(0,("self":Str))∈sH:=dd rfl;have v1:(1,("ch":Str))∈sH:=dd rfl;refine mO (uV (kq (Q:=PE C [] ρ U.heap λv h=>dp Z Cq [aE (aV n),aE v] h (lu cu σ.length KK)) ?_ (λv X q=>?_) λ_ _=>id) rfl rfl)
  .refine cn (arm_eval_Call ..)<|wpAny_bind (m6 (e:=dZ (aS 0 "self" _) 8 _) (m:="read") (wM (k7 H (dZ (aS 0 "self" _) 8 _) (vis:=sH) (Kk:=λv h=>h=σ/\v=aV ms) (by refine cn (e1 ..) (cn (u ..) ?_);decide+kernel) R y w (N _ ⟨rfl,rfl⟩)) (λa X q=>cq (jW ?_))))
   obtain⟨B,D,Y,⟨rfl,rfl⟩,i,c,d⟩:=q;have aa:methodCallForm ([Pd (.int 1) 0 (pp 160032160033)].length+([]:List yI).length) (backTo (pp 160013160034) (starEach [Pd (.int 1) 0 (pp 160032160033)] g)) (vy (pp 160013160034) (vq [] g))=bK:=by rfl
   refine cq (eU (wM (xh W a7 a8 a9 (by intro v q;exact Internal.V.noConfusion q) i c) (λr a0 q=>?_)))
   obtain⟨f,ab⟩:=r;refine dz q λac F=>?_;subst ac;obtain⟨ae,G,ai,⟨rfl,rfl⟩,a1,b,o⟩:=F;have aj:(!bK||(pp 160013160031).endLine==(pp 160013160034).line)=bK:=by decide+kernel
   refine cq (cW ?_);refine cU a1.inv λ_ hp J=>?_;subst J
   rename_i p
   refine dN (b.conc.objs _ _ _ hp hL) λne F J=>?_;refine ud F λpm cv af ho ak=>?_;refine cU J λv ag rv=>?_;refine mS (P:=λz=>z.get? p.1=aE {cls:=bT "function",data:=fK (yK "<lambda>" lamQ kR n7 lamScope [("signs",p.2)] pm cv af)}) rfl (λz hz=>⟨.frame,.inl rfl,?_⟩) (fV rfl ?_)
   .exact(lS (part:=aT) hz).andThen jE
   .show cD _ _ (pY [(cu,ei (u7 (.int 1) 0 (pp 160032160033)) g)]) _ _ _
    refine qx (vp ⟨ho,wM (Ed (I 1) hL hj hp (b.toks (dU _)) w hl (KK:=λv h=>dp Z Cq [aE (aV n),aE v] h (lu cu G.length KK)) h0 h1) (λv a2 q=>q.up (d.trans o))⟩)
  .obtain⟨B,D,Y,a3,i,c,d⟩:=q
   have a4:=R.ext0 d;have ea:∀p,(assignEach [th ("ch":Str) p] g).map (·.2)=[p_ (cJ 1 "ch" p).back g]:=λ_=>rfl;refine wM (oo (vis:=sH) (t:=cJ 1 "ch" _) (dd rfl) rfl (by refine cn (e1 ..) (cn (u ..) ?_);decide+kernel) a4 c w.2.2 i) (λ_ a0 q=>?_)
   refine dN q λb a5 o=>wM (jz H Cq (vis:=sH) (by refine cn (e1 ..) (cn (u ..) ?_);decide+kernel) (dd rfl) a5 b w a3) (λf a2 q=>q.up ((d.m0).trans (o.mono (tF (nm:=sc_rc.names) (by decide+kernel)))))
theorem H4:Slot "callable_iterator" "__iter__" "callable_iterator.__iter__":=
 .of (owner:="callable_iterator") (n:="__iter__") (by refine cn (r5 ..) (cn (qS ..) ?_);kernel_rfl) (by decide+kernel) (by decide+kernel) (by decide+kernel)
  (by first|exact .inl (by decide+kernel)|exact .inr (by decide+kernel)) (by rw[ve];kernel_rfl)
theorem ci_next:Slot "callable_iterator" "__next__" "callable_iterator.__next__":=
 .of (owner:="callable_iterator") (n:="__next__") (by refine cn (r5 ..) (cn (qS ..) ?_);kernel_rfl) (by decide+kernel) (by decide+kernel) (by decide+kernel)
  (by first|exact .inl (by decide+kernel)|exact .inr (by decide+kernel)) (by rw[ve];kernel_rfl)
theorem sd:ru rC "callable_iterator.__next__"=aE Builtin.«callable_iterator.__next__»:=sY (by kernel_rfl)
theorem tN (a):i7 "callable_iterator.__next__" ⟨[a],[]⟩:=by unfold i7;kernel_rfl
theorem Ai (a):i7 "callable_iterator.__iter__" ⟨[a],[]⟩:=by unfold i7;kernel_rfl
theorem vY (h:cD M A (call f pos) Q Ee s):cD M A (callBorrowed f pos) Q Ee s:=λc p b=>by refine jX (h c p b) λr a d q=>⟨r,a,d,?_⟩;rcases r with e|(_|_|_|v)<;>exact q
theorem H5 {α:Type}{M:i8}{Q:α->cz->Prop}(c:A.handled=aT)(d:∀h' e,(Kp s.heap h')->(∃o,h'.get? e=aE o/\o.cls=bT "StopIteration")->Ee (aK e) {s with heap:=h'}):cD M A (N6:Sem α) Q Ee s:=by
 unfold N6;refine cq ?_;dsimp only[yM,Gp];refine cq (jy (cq (m:=jn ..) (iL (a:=jq) (by first|rfl|(dsimp only[jn];rfl)) (jy ?_ (by size_fits)))) (by size_fits))
 dsimp only[Gq];exact cq (rg (cn (c ..)<|wpAny_bind (cW (rj (d _ _ (λb o e=>dK _ (dK _ e)) ⟨_,fg _ rfl,rfl⟩)))))
theorem yV:ru rC "callable_iterator.__iter__"=aE Builtin.«dict_keyiterator.__iter__»:=entryFor_alias (id':="dict_keyiterator.__iter__") (by kernel_rfl) rfl (by decide+kernel) (by kernel_rfl)
theorem Ef {k:Nat}(c:σ[k]?=aE (gQ l o))(g:ρ.l[k]?=aE p)(st:St C ρ σ s)(h:Q (aK p.1) s):cD (cm C.prog C.w) A (pZ (aK p.1)) Q Ee s:=by refine dN (st.conc.objs _ _ _ g c) λi d _=>?_;refine ud d λt a b e j=>?_;have f:s.TypeIs (aK p.1) "callable_iterator":=⟨_,e,rfl⟩;refine wpAny_pyIter_slot f H4 (kO H4 f yV ?_ (Ai _));exact cW ⟨_,rfl,"callable_iterator",_,f,ci_next.lookup,h⟩
theorem Room.in1 (h:Room (n+1) A):Room n A.in1:=dN h λa b c=>⟨by show A.depth+n<_;exact gG (iP 0xe11614d850480873090111 rfl a),by show A.units+1+n<_;exact gG (iP 0x708b0a6c2824043984b0a0111 rfl b),c⟩
theorem Eg {k:Nat}{p:cE×cE}(c:σ[k]?=aE (gQ cu o))(h:ρ.l[k]?=aE p)(st:St C ρ σ s)(i:A.handled=aT):cD (cm C.prog C.w) A (h_ (aK p.1)) (λr f=>r=aT/\St C ρ σ f/\Ext [] ρ ρ s.heap f.heap) Ee s:=by refine dN (st.conc.objs _ _ _ h c) λq d _=>?_;refine ud d λt a b e u=>?_;have g:s.TypeIs (aK p.1) "callable_iterator":=⟨_,e,rfl⟩;refine cq (l6 (oQ (name:=fE "__next__") g ci_next (kO ci_next g sd ?_ (tN _))));show cD _ _ (js (aK p.1) 2>>=_) _ _ s;refine cq (fi e rfl (x:=e_ bK) rfl ?_);exact cn ((if_pos (dd rfl)) ..)<|wpAny_bind (ip (cq (H5 i λv w k j=>cU j λl m n=>cq (kl (T:="StopIteration") (b:=bK) ⟨l,m,n⟩ r9 (cW ⟨rfl,st.keep0 k,Ext.of_all k⟩)))))
theorem Eh (W:WK C Kk){p:cE×cE}{KK:Option V->Sg->Prop}(a0:σ[k]?=aE (gQ bK o))(hp:ρ.l[k]?=aE p)(st:St C ρ σ s)(hA:Room (m+1) A) (L:∀{A':et} {v:b_},Room m A'->Rel ρ s.heap v o->fA (cm C.prog C.w) A' (eR (aK 217) ⟨[v],[]⟩) (yN (PE C [] ρ s.heap (λw M=>∃x,w=cC x/\M[k]?=aE (gQ bK o)/\if x.length=0 then KK aT (M.set k (gQ cu o)) else KK (aE (cC x)) M)) (λ_ _=>False)) s):cD (cm C.prog C.w) A (h_ (aK p.1)) (Xi C ρ s.heap KK) Ee s:=by
 refine dN (st.conc.objs _ _ _ hp a0) λne N P=>?_;refine ud N λt a b e hb=>?_;refine hR P λv e2 rv R=>?_;obtain⟨q,rfl⟩:=R;simp only[if_true] at e;have hT:s.TypeIs (aK p.1) "callable_iterator":=⟨_,e,rfl⟩;obtain⟨f1,f2,of,ff,f3,f4⟩:=(W 6) (234,26,217) (dd rfl);refine dz ((W 0) _ _ f3) λf5 f6=>?_;have H:∀{q:cE} {B:et} {E':b_->cz->Prop} {f:cz} {Q:Bool->cz->Prop},fk C f.heap->f.heap.get? p.2=aE {cls:=bT "method",data:=cY #[aK 217,aK q]}->Q bK f->cD (cm C.prog C.w) B (borrowsExactly (aK p.2)) Q E' f:=by
  intro q B E' f Q hb hm hq;refine cq (yD hm ?_);dsimp only;refine cn ((if_pos (dd rfl)) ..)<|wpAny_bind (yD (hb _ _ f5 f6) ?_)
  simp only[f4];exact cW hq
 refine cq (l6 (oQ (name:=fE "__next__") hT ci_next (kO ci_next hT sd (sk λQ9 q9=>?_) (tN _))));show cD _ _ (js (aK p.1) 2>>=_) _ _ s;refine cq (fi e rfl (x:=e_ cu) rfl ?_);refine cn ((if_neg (dd rfl)) ..)<|wpAny_bind (fi e rfl (x:=aK p.2) rfl (cq (l6 (cq (H st.based e2 (cn (if_pos rfl ..)<|vY (g_ (method_call e2 (t6 (L hA.in1 rv) λr f z=>?_)))))))))
 rcases r with er|(_|_|_|a4)<;>try exact z.elim
 obtain⟨l,U,w,⟨x,rfl,hk,j⟩,X,g,y⟩:=z;refine X.cS λt'=>?_;have n:l.l[k]?=aE p:=by refine eF y.pre λu hu=>ie (hu ..) (cn (jR (List.getElem?_eq_some_iff.mp hp).1 ..) ?_);exact hp
 refine dN (g.conc.objs _ _ _ n hk) λD N P=>?_;refine ud N λF a5 a6 i _=>?_;refine hR P λa7 G Y R=>?_;obtain⟨I,rfl⟩:=R;simp only[if_true] at i;refine cq (fi i rfl (x:=e_ cu) rfl ?_);refine cn ((if_neg (dd rfl)) ..)<|wpAny_bind (fi i rfl (x:=cV ⟨#[]⟩ F) rfl (cq (eU (eqBool_str ?_))))
 have a1:((⟨#[]⟩:Str)==x)=decide (x.length=0):=by
  obtain⟨c⟩:=x;rw[OS,beq_iff_eq,decide_eq_true_eq];constructor
  .intro h;refine ie (h ..) ?_;rfl
  .intro h
   have h:c.size=0:=h;exact cn (Array.size_eq_zero_iff.mp h ..) rfl
 refine cn (a1 ..) ?_;by_cases hx:x.length=0
 .rw[if_pos hx] at j
  refine cn ((if_neg (by simp[hx])) ..)<|wpAny_bind (ip (cq ?_))
  refine cq (fi i rfl (x:=aK p.2) rfl (cq ?_));refine cq (H g.based G (cn (if_pos rfl ..)<|wpAny_pure<|wpAny_bind (pD i (ek _) λh1 g1 k1=>cq (pD g1 (eO ..) λh2 g2 k2=>pD g2 (d9 _) λh3 g3 k3=>H5 hA.2.2 λh4 ex k4 he=>cU he λoe a2 a3=>cq (kl (T:="StopIteration") (b:=bK) ⟨oe,a2,a3⟩ r9 ?_)))))
  have hs:l8 p.1 f.heap h4:=λb o hb eb=>k4 _ _ ((k3.2 b hb).trans ((k2.2 b hb).trans ((k1.2 b hb).trans eb)));have g4:=k4 _ _ g3;have hc:∀o,f.heap.get? p.1=aE o->¬hU o:=λo z=>by
   rw[i] at z;obtain rfl:=dk z
   rintro ⟨vs,q,t,d1,d2,d3⟩
   cases d1
   have d2:aE (tm ⟨#[]⟩ F)=aE (cV q t):=d2;cases d2
   exact d3 rfl
  have J:=lh g.conc n (.inl rfl) hs ⟨_,g4⟩ hc
  obtain⟨Z,_⟩:=n9 (o':=gQ cu o) (d:=f.drawn) (t:=f.toks) g n (.inl rfl) hs ⟨_,g4⟩ hc
   ⟨D,⟨F,cG,cG,g4,λ_=>rfl⟩,aK I,hs _ _ (eN D) G,Y.ext J,I,rfl⟩ (d9 _)
  exact cW ⟨l,_,aT,j,trivial,Z,y.trans J⟩
 .rw[if_neg hx] at j
  refine cn ((if_pos (by simp[hx])) ..)<|wpAny_bind (cW (cW (q9 _ _ ⟨_,rfl,cW ⟨l,U,_,j,gR _ _,g,y⟩⟩)))
noncomputable def YL:S:=wK (dA (jf (dZ (aS 0 ..) 10 _)) (bS (dT (dY (dZ (aS 0 ..) 10 _) 13 _ (bE (bO ..) bV) _) _)
 cy) cy _) (vT (qh (eX 10 2)) 0) rfl
noncomputable def YM:S:=wK (cR (cJ 1 ..) (bO ..) _) (vT (qh (eX 10 2)) 1) rfl
noncomputable def YN:eQ:=vT (qh (vT (qh (eX 10 2)) 3)) 1
noncomputable def Sh:S:=wK (nu 2 _ _ 3 _ _ (bS (dA (dx _ (aS 3 ..) (bO ..) _) (bS (dT (aS 1 ..) _)
 cy) (bS (dA (dx _ (aS 3 ..) (bO ..) _) (bS (cR (cJ 3 ..) (dY (aS 0 ..) 26 _ bV _) _)
 cy) cy _)
 cy) _)
 (bS (qd 1 _ _ _ (aS 3 ..) _)
 cy)) _) (vT (qh YN) 0) rfl
noncomputable def KN:S:=wK (nu 2 _ _ 3 _ _ (bS (dA (dx _ (aS 3 ..) (dZ (aS 0 ..) 9 _) _) (bS (dT (aS 1 ..) _)
 cy) (bS (dA (dx _ (aS 3 ..) (bO ..) _) (bS (cR (cJ 3 ..) (dY (aS 0 ..) 26 _ bV _) _)
 cy) cy _)
 cy) _)
 (bS (qd 1 _ _ _ (aS 3 ..) _)
 cy)) _) (vT (XJ YN) 2) rfl
noncomputable def YO:Ss:=ou (bS (nu 2 _ _ 3 _ _ (bS (dA (dx _ (aS 3 ..) (dZ (aS 0 ..) 9 _) _) (bS (u6 _)
 cy) cy _)
 (bS (dA (dx _ (aS 3 ..) (bO ..) _) (bS Sh
 cy) (bS (dA (dx _ (aS 3 ..) (bO ..) _) (bS (cR (cJ 3 ..) (dY (aS 0 ..) 26 _ bV _) _)
 cy) cy _)
 (bS (qd 1 _ _ _ (aS 3 ..) _)
 (bS KN
 cy))) _)
 cy)) _)
 (bS (dT (aS 1 ..) _)
 cy)) (((qh (eX 10 2))).drop 3) rfl
noncomputable def Si:List eQ:=qh (eX 10 2)
noncomputable def sc_gt:Scope:=S8 (eX 10 2)
noncomputable abbrev xi:List (Nat×Str):=[(0,"self"),(1,"token"),(2,"fiter"),(3,"ch")]
section
variable {C:Fx}
theorem Ie (W:WK C Kk)(X:Kk.In s.heap)(I:InstAt s.heap x ox c od)(e:c∈[94,234]) (j:tu Kk c od name=aE (.bind (cH "function.__get__") (aK f))) (k:lb Kk (aK f)=aE (bT "function")) (h:Q (aK s.heap.objs.size) {s with heap:=s.heap.push (rq (aK f) (aK x)),toks:=s.toks+1}):cD (cm C.prog C.w) A (pX (aK x) name i) Q Ee s:=by
 have a:c∈[94,178,234]:=by
  rcases List.mem_cons.mp e with rfl|h
  .decide
  .obtain rfl:=List.mem_singleton.mp h
   decide
 refine get_bind X I ((W 2) c e) j ((W 4) c a) ?_;obtain⟨b,g,d,t,l⟩:=s;refine g_ (fn_get (s:=⟨b,g,d,t+1,l⟩) X k ?_);exact cW h
theorem KP:ru rC "iter"=aE Builtin.«iter»:=sY (by kernel_rfl)
theorem Qu:yy "iter"=aT:=by decide+kernel
theorem KQ:plainId "iter"=bK:=by decide+kernel
theorem Qv (a b):i7 "iter" ⟨[a,b],[]⟩:=by unfold i7;kernel_rfl
theorem Qw:kr (bT "method") "__call__"=dq (aE (cH "method.__call__")):=by rw[r5,qS];kernel_rfl
theorem Ei (a:s.TypeIs (aK x) "method")(h:Q (aK s.heap.objs.size) {s with heap:=s.heap.push {cls:=bT "callable_iterator",data:=cY #[aK x,v,e_ cu]}}):
 cD (cm C.prog C.w) A (call (cH "iter") [aK x,v]) Q Ee s:=by
 refine Calls.call_function_entry Qu KQ KP (Qv ..) ?_;refine cq (m:=PySem.someArgs "iter" 1 2 _) (cW (cq (r4 a Qw ?_)));refine cn ((if_neg (λh=>dG h)) ..)<|wpAny_bind (ip (cq ?_))
 exact jy (cW ⟨_,rfl,h⟩) (by size_fits)
theorem Qx {Z:Sem0}{gv mv:Nat->b_}(W:WK C Kk)(F:lr C "iter" (cH "iter")){fd:mX}(I:GW C 224 fd ["self"] xi Si)(a8:fd.closure=[])(k:fd.scope=sc_gt){m:Nat}(H:m5 C m Z gv mv) {n:Nat} {tr:Bool} {G:List (Nat×V)} {as:List b_} {KK:V->Sg->Prop} (hn:σ[n]?=aE (fe 234 G)) (ok:iT G=bK) (a9:G.lookup 26=aT) (rs:Rels ρ s.heap as [aV n]) (st:St C ρ σ s) (hA:Room (m+3) A) (h1:DL Z YL [aE (aV n),aT,aT,aT] σ λo M u=>M=[aE (aV n),aT,aT,aT]/\u=σ/\match o with|de=>True|_=>False) (h2:dp Z YO [aE (aV n),aE (cC ""),aE (aV σ.length),aT] (σ++[gQ bK (aV n)]) (lu tr σ.length KK)):fA (cm C.prog C.w) A (eR (aK 224) ⟨as,[]⟩) (yN (PE C [] ρ s.heap KK) Ee) s:=by
 refine ot (n:=m) (r:=3) (tr:=tr) I a8 rfl rs st hA (λw ai A' E' Y e2 e3 R J aj B=>?_);have kd:∀x,w.kindOf x=sc_gt.names.lookup x:=λx=>by unfold l9;exact cn (Y ..) (cn (k ..) rfl)
 have v0:(0,("self":Str))∈xi:=dd rfl;refine mO (wM (so H YL (by refine cn (Y ..) (cn (k ..) ?_);decide+kernel) (dd rfl) R J B h1) (λf ak q=>?_))
 obtain⟨aa,L,al,am,⟨rfl,rfl,i⟩,fr,N,a0,a1⟩:=q;cases fr<;>try exact i.elim
 refine mO (wM (so H YM (Kk:=λo M u=>M=[aE (aV n),aE (cC ""),aT,aT]/\u=L/\match o with|de=>True|_=>False) (by refine cn (Y ..) (cn (k ..) ?_);decide+kernel) (dd rfl) a0 N B ?_) (λf c q=>?_))
 .dsimp only[YM,DL,j_,jv,jb,jc,RR,RS,V7,V8,Yq,RT,SI,V9,RU,RV,RW,RX,RY,RZ,R_,S0,S1,Va,Vb,JE,JF,DG,wt,BV,S2,wu,wx,wy,wz,Vc,JG,JH,Vd,Yr,Ys,SJ,Ve,Vf,Vg,Vh,Yt,JI,wA,S3,Xj,XF,JS,Vm,Vn,Vo,Vp,Vq,S7,PG,Vr,Vs,Vt,Vu,Xk,PH,Xl,XG,wD,Pr,Yx,Xm,Vv,qm]
  exact⟨rfl,rfl,trivial⟩
 obtain⟨g,j,an,ao,⟨rfl,rfl,i⟩,fr,d,y,a2⟩:=q;cases fr<;>try exact i.elim
 have ab:=a1.trans a2;refine mO (uV (kq (Q:=PE C [] g c.heap λv u=>v=aV j.length/\u=j++[gQ bK (aV n)]) ?_ (λv ap q=>?_) λ_ _=>id) rfl rfl)
 .refine uY (tD y d (by refine cn (Y ..) (cn (k ..) ?_);decide) (dd rfl) F ?_)
  refine mS (P:=λ_=>True) rfl (λz _=>⟨lq,.inr (.inl rfl),rh rfl⟩) (fV rfl ?_);show cD _ _ (pY [(cu,ei (jD (dI "self" _) "_read_char" _) w),(cu,ei (u7 (.str "") 0 ⟨169,38,169,40⟩) w)]) _ _ _;refine xd ?_;refine cq (m6 (e:=aS 0 "self" _) (m:="_read_char") (iF (lg y v0 (dd rfl) rfl λa ra=>cq (jW (ra.cO λ_ hp=>?_))) (dd rfl)))
  rename_i p
  refine dN (d.conc.objs _ _ _ hp hn) λne e ac=>cU (ac.look ok) λod eo lk=>?_;obtain⟨g1,g2,of,ff,g3,g4⟩:=(W 6) (234,26,217) (dd rfl);have a3:=(W 0) _ _ g3;have g5:=a3.1;have g6:=a3.2;refine cq (eU (Ie W (W.In d.based) ⟨e,rfl,rfl,eo⟩ (dd rfl) (zf W (dd rfl) g1 g2 (dd rfl) (tM a9 (dd rfl) lk)) g2 (cq (y1 (cW (yu ⟨trivial,?_⟩))))));have hm:(c.heap.push (rq (aK 217) (aK p.1))).get? c.heap.objs.size=aE (rq (aK 217) (aK p.1)):=fg _ rfl;refine Ei ⟨_,hm,rfl⟩ ?_;have k2:∀b o,c.heap.get? b=aE o->((c.heap.push (rq (aK 217) (aK p.1))).push {cls:=bT "callable_iterator",data:=cY #[aK c.heap.objs.size,cV "" (c.toks+1),e_ cu]}).get? b=aE o:=λb o e=>dK _ (dK _ e);have n0:c.heap.get? c.heap.objs.size=aT:=eG _;have n1:c.heap.get? (c.heap.objs.size+1)=aT:=y4 (dU _);have hx:((c.heap.push (rq (aK 217) (aK p.1))).push {cls:=bT "callable_iterator",data:=cY #[aK c.heap.objs.size,cV "" (c.toks+1),e_ cu]}).get? (c.heap.objs.size+1)=aE {cls:=bT "callable_iterator",data:=cY #[aK c.heap.objs.size,cV "" (c.toks+1),e_ cu]}:=by heap_get
  have a4:=dK {cls:=bT "callable_iterator",data:=cY #[aK c.heap.objs.size,cV "" (c.toks+1),e_ cu]} hm;have ae:(g.add (c.heap.objs.size+1,c.heap.objs.size)).l[n]?=aE p:=by show(g.l++[_])[n]?=_;refine cn (jR (List.getElem?_eq_some_iff.mp hp).1 ..) ?_;exact hp
  obtain⟨cc,XX⟩:=d.conc.own (p:=(c.heap.objs.size+1,c.heap.objs.size)) (o:=gQ bK (aV n)) k2 n1 n0 ⟨_,hx⟩ ⟨_,a4⟩ ⟨by simp,⟨c.toks+1,cG,cG,hx,λh=>dG h⟩,aK p.1,a4,kF ae,p.1,rfl⟩
  have af:(c.heap.push (rq (aK 217) (aK p.1))).objs.size=c.heap.objs.size+1:=lO ..;refine cn (af ..)<|⟨_,_,_,⟨rfl,rfl⟩,kF (p:=(c.heap.objs.size+1,c.heap.objs.size)) (by show(g.l++[_])[j.length]?=_;refine ie (d.conc.len ..) ?_;exact sT ..),⟨cc,d.os,d.gens.1,v8 _⟩,XX⟩
 .obtain⟨ag,ah,aq,⟨rfl,rfl⟩,a5,U,D⟩:=q
  have ea:∀p,(assignEach [th ("fiter":Str) p] w).map (·.2)=[p_ (cJ 2 "fiter" p).back w]:=λ_=>rfl;refine wM (oo (vis:=xi) (t:=cJ 2 "fiter" _) (dd rfl) rfl (by refine cn (Y ..) (cn (k ..) ?_);decide+kernel) (y.ext0 D) U B.2.2 a5) (λ_ ar q=>?_)
  refine dN q λX a6 a7=>wM (jz H YO (vis:=xi) (by refine cn (Y ..) (cn (k ..) ?_);decide+kernel) (dd rfl) a6 X B h2) (λf au q=>q.up ((ab.trans (D.m0)).trans (a7.mono (tF (nm:=sc_gt.names) (by decide+kernel)))))
end
noncomputable abbrev Wd:=List Nat
noncomputable abbrev fY:=Wd×Wd×Wd
structure Dg where
 m:Nat
 r:Nat
 f:Nat
 w:Nat
 l:Nat
noncomputable def dg (n:Int):Dg:=⟨(n%4).toNat,(n/4%3).toNat,(n/12%3).toNat,(n/36%4).toNat,(n/144%4).toNat⟩
noncomputable def xj (l:Nat):Wd:=([[],[59],[32],[9]]:List Wd).getD l []
noncomputable def xk (m:Nat):Wd:=([[],[35],[34],[92]]:List Wd).getD m []
noncomputable def nE (w:Nat):Wd:=([[],[32],[9],[32,9]]:List Wd).getD w []
noncomputable def fQ (d:Dg)(k:Nat):Wd:=xk d.m++dw (1+d.r) (97+k)++xj d.l
noncomputable def jl (f:Nat)(c:Nat):Wd:=if f=2\/c∈([34,92,32,9]:Wd).take (4-2*f) then[92,c] else[c]
noncomputable def gn (d:Dg)(k:Nat):Wd:=let t:=(fQ d k).flatMap (jl d.f);if d.f=1 then 34::t++[34] else t
noncomputable def lI (d:Dg)(a:Wd):Wd:=if nE d.w≠[] then nE d.w else if a≠[]/\a.getLast?≠aE 34 then[32] else[]
noncomputable def oA (d:Dg)(k:Nat)(a:Wd):fY:=(lI d a,gn d k,fQ d k)
noncomputable def fZ (p:List fY):Wd:=p.flatMap λt=>t.1++t.2.1
noncomputable def dW (p:List fY):Nat:=(fZ p).length
noncomputable def ix (a:List fY)(k:Nat):Wd:=(a.getD k default).1.take 1++((a.getD (k-1) default).2.1.getLast?).toList
noncomputable def gA (a:List fY)(order:Wd):List (List Nat):=((order.map λc=>([1,2,3,4]:List Nat).filter λk=>c∈ix a k).filter (·≠[]))++[[]]
noncomputable def dR (a:List fY)(b e:Nat):List fY:=(a.take e).drop b
noncomputable def hY (a:List fY)(first:List fY)(b:List (List Nat))(room:Nat)(d:Nat×Nat):Nat:=if b.any (λc=>c.any λk=>d.1<k/\k<d.2) then max room (dW ((if d.1=0 then first else[])++dR a d.1 d.2)) else room
noncomputable def oB (room:Nat):List fY->List fY->List fY×List fY
 |a,[]=>(a,[])|a,t::b=>if dW (a++t::b)>room/\room>=dW (a++[t]) then oB room (a++[t]) b else(a,t::b)
noncomputable def ik (b:List fY)(a:Wd):List fY:=[([],a++(if(b.getD 0 default).1=[] then[32] else[]),a)]
noncomputable def fF (a:List fY)(f order:Wd)(room:Nat):List (List fY)×Nat:=let b:=gA a order;let e:=0::b.headD []++[5];let c:=ik a f;let d:=e.zip e.tail;let room:=d.foldl (hY a c b.tail) room;let g:=d.map λh=>dR a h.1 h.2;let (i,j):=oB room c (g.headD [])
 (i::j::g.tail,room)
structure VS where
 lines:List Wd
 pr:List (Wd×Wd)
 c:Nat
noncomputable def df (pr:List (Wd×Wd)):Wd:=pr.flatMap λp=>p.1++p.2
noncomputable def uz (s:VS):Nat:=s.c+(df s.pr).length
noncomputable def iM (pr:List (Wd×Wd)):List (Wd×Wd)×(Wd×Wd):=match pr.getLast? with|none=>([],([],[]))|some x=>(pr.dropLast,x)
noncomputable def dX (s:VS):VS:=let (a,e):=iM s.pr;let a:=if e≠([32],[]) then a++[e] else a
 ⟨if s.c+(df a).length>0 then s.lines++[df a] else s.lines,[],0⟩
noncomputable def gI (pr:List (Wd×Wd))(a:Nat)(i:Nat):Bool:=((a=32\/a=9)&&(pr.getD i default).1.head?==aE a)||(pr.getD (i-1) default).2.getLast?==aE a
noncomputable def iU (pr:List (Wd×Wd))(a:Nat):Nat->Option Nat
 |0=>aT|i+1=>if gI pr a (i+1) then aE (i+1) else iU pr a i
noncomputable def fG (pr:List (Wd×Wd)):Wd->Option Nat
 |[]=>aT|a::r=>(iU pr a (pr.length-1)).orElse λ_=>fG pr r
noncomputable def fy (W:Nat)(order:Wd)(s:VS)(x:Wd×Wd):VS:=let s:={s with pr:=s.pr++[x]}
 if uz s>W then match fG s.pr order with
  |some i=>⟨s.lines++[df (s.pr.take i)],s.pr.drop i,0⟩|none=>
   let (a,e):=iM s.pr
   if s.c>0 then
    let s:=dX {s with pr:=a}
    {s with pr:=s.pr++[(if e.1=[] then[32] else e.1,e.2)]}
   else {s with pr:=a++[e]}
 else s
noncomputable def f_ (sep:Wd)(l:List Wd):Wd:=(l.intersperse sep).flatten
structure LS where
 left:Wd
 line:Nat
noncomputable def dh (s:LS):Option Nat×LS:=match s.left with
 |[]=>(aT,s)|c::r=>(aE c,⟨r,if c=10 then s.line+1 else s.line⟩)
noncomputable def ub (c:Nat):Bool:=c=10\/c=9\/c=13\/c=32
noncomputable def fJ:Nat->Wd->LS->Wd×LS×Bool
 |0,a,s=>(a,s,cu)|n+1,a,s=>match dh s with
  |(aT,s)=>(a,s,cu)|(aE c,s)=>if c=34 then(a,s,bK) else if c=92 then
   match dh s with
   |(aT,s)=>fJ n a s|(aE c,s)=>fJ n (a++[c]) s
   else fJ n (a++[c]) s
noncomputable def ji:Nat->Wd->LS->Wd×LS×Bool
 |0,a,s=>(a,s,cu)|n+1,a,s=>match dh s with
  |(aT,s)=>(a,s,cu)|(aE c,s)=>if ub c then(a,s,bK) else if c=92 then
   match dh s with
   |(aT,s)=>ji n a s|(aE c,s)=>ji n (a++[c]) s
   else ji n (a++[c]) s
noncomputable def fM:Nat->LS->Wd×LS
 |0,s=>([],s)|n+1,s=>match dh s with
  |(aT,s)=>([],s)|(aE c,s)=>if ub c then fM n s else if c=34 then let (t,s,_):=fJ (s.left.length+1) [] s;(t,s)
   else
    let (t,s):Wd×LS:=if c=92 then(match dh s with|(aT,s)=>([],s)|(aE c,s)=>([c],s)) else([c],s)
    let (t,s,_):=ji (s.left.length+1) t s
    (t,s)
theorem xl:fM (n+1) s=match dh s with
 |(aT,s)=>([],s)|(aE c,s)=>if ub c then fM n s else if c=34 then let (t,s,_):=fJ (s.left.length+1) [] s;(t,s)
  else
   let (t,s):Wd×LS:=if c=92 then(match dh s with|(aT,s)=>([],s)|(aE c,s)=>([c],s)) else([c],s)
   let (t,s,_):=ji (s.left.length+1) t s
   (t,s):=rfl
structure FS where
 rows:List Nat
 row:Nat
 used:Nat
 due:Wd
 vs:VS
noncomputable def du (b:List (List fY))(start W:Nat)(order mark:Wd)(s:FS)(k:Nat):FS:=let p:=b.getD k [];let a:=fZ p
 let (a,c,d,e):=if k>start/\s.used+a.length>W then
  ((if k=1/\((b.getD 1 []).getD 0 default).1=[] then[32] else[])++a,s.row+1,0,s.due++mark) else(a,s.row,s.used,s.due)
 ⟨s.rows++[c],c,d+a.length,e++a,(p.filter λt=>t.2.2.head?≠aE 120).foldl (λs t=>fy W order s (t.1,t.2.1)) s.vs⟩
noncomputable def ee (page:Wd):List (fY×Nat)->LS->Option LS
 |[],s=>aE s|(t,b)::r,s=>
  let (c,s):=fM (s.left.length+1) s;let a:=s.line-(if t.2.1.getLast?≠aE 34/\page[page.length-s.left.length-1]?=aE 10 then 1 else 0)
  if c=t.2.2/\a=b then ee page r s else aT
theorem vM:ee page ((t,a)::r) s=if(fM (s.left.length+1) s).1=t.2.2/\(fM (s.left.length+1) s).2.line-(if t.2.1.getLast?≠aE 34/\page[page.length-(fM (s.left.length+1) s).2.left.length-1]?=aE 10 then 1 else 0)=a then ee page r (fM (s.left.length+1) s).2 else aT:=rfl
noncomputable def j9 (a:List (List fY))(start W:Nat)(order mark:Wd):List Nat:=let b:=if start=0 then((a.getD 0 []).getD 0 default).2.1 else[]
 let s:=(gO start (a.length-start)).foldl (du a start W order mark) ⟨[],1,0,[],⟨[],[],b.length⟩⟩;let d:=dX s.vs;let c:=b++f_ mark d.lines
 if c≠s.due\/b++f_ mark (dX d).lines≠s.due then[] else
 match ee c ((a.drop start).zip s.rows |>.flatMap λe=>e.1.map λt=>(t,e.2)) ⟨c,1⟩ with
 |none=>[]|some f=>if(fM (f.left.length+1) f).1=[] then s.rows else[]
noncomputable def il (a:List (List fY))(W:Nat)(order mark:Wd):Nat->Nat->List Nat->List Nat
 |0,_,_=>[]|n+1,c,b=>if c<a.length then
  let d:=j9 a c W order mark
  if d=[] then[] else if d.getLast?=aE 1 then b else
   let e:=c+d.count 1+1
   il a W order mark n e (b++[e])
  else b
theorem KR:il ps W order mark (n+1) a b=if a<ps.length then(if j9 ps a W order mark=[] then[] else if(j9 ps a W order mark).getLast?=aE 1 then b else il ps W order mark n (a+(j9 ps a W order mark).count 1+1) (b++[a+(j9 ps a W order mark).count 1+1])) else b:=rfl
noncomputable def fz (sizes:List Nat)(W c:Nat)(s:Nat×Nat×Bool)(k:Nat):Nat×Nat×Bool:=if c/2 ^ (k-1)%2=1 then(sizes.getD k 0,s.2.1+1,s.2.2) else(s.1+sizes.getD k 0,s.2.1,s.2.2&&decide (s.1+sizes.getD k 0<=W))
noncomputable def nF (sizes:List Nat)(W c:Nat):Nat×Nat×Bool:=(gO 1 (sizes.length-1)).foldl (fz sizes W c) (sizes.getD 0 0,1,bK)
noncomputable def kJ (sizes:List Nat)(W:Nat):List Nat:=(eZ (2 ^ (sizes.length-1))).filterMap λc=>if(nF sizes W c).2.2 then aE (nF sizes W c).2.1 else aT
noncomputable def xm (l:List Nat):Int:=((l.filter (·%2=0)).length:Int)-((l.filter (·%2=1)).length:Int)
def zo {α:Type}(o:Option α)(Kk:α->Prop):Prop:=match o with|some v=>Kk v|none=>False
theorem KS {α:Type}{v:α}{Kk:α->Prop}:zo (aE v) Kk=Kk v:=rfl
theorem ja {α:Type}{o:Option α}{Kk:α->Prop}(h:zo o Kk):∃v,o=aE v/\Kk v:=by cases o with|none=>exact h.elim|some v=>exact iB v rfl h
def asc (w:Wd):Prop:=∀c∈w,c<128
def nd (w:Wd):Prop:=∀c∈w,c=59\/c=32\/c=9\/c=34
noncomputable def fv (w:Wd):Str:=⟨w.toArray⟩
noncomputable def sv (w:Wd):V:=cC (fv w)
noncomputable def iN (t:fY):V:=dj [sv t.1,sv t.2.1,sv t.2.2]
noncomputable def d_ (p:List fY):V:=cw (p.map iN)
noncomputable def iV (ps:List (List fY)):V:=cw (ps.map d_)
noncomputable def dQ (l:List Nat):V:=cw (l.map λn:Nat=>aO n)
noncomputable def Cs (p:Wd×Wd):V:=dj [sv p.1,sv p.2]
noncomputable def mu (c:Nat):V:=sv [c]
noncomputable def Te:V:=sv [10,9,13,32]
noncomputable def r_ (pr:List (Wd×Wd))(c:Nat):O:=d7 (pr.map Cs) [(6,aO c)]
noncomputable def mw (l:List Wd):O:=cM (l.map sv)
noncomputable def UW (W:Int)(order:Wd)(a b:Nat):O:=fe 94 [(0,aO W),(1,sv [45,45]),(2,aO 2),(3,sv order),(4,aV a),(5,aV b)]
noncomputable def Ct (line:Nat)(a b:Nat):O:=fe 234 [(7,aO line),(8,aV a),(9,Te),(10,aV b)]
noncomputable def KU (L a:Nat):O:=fe 234 [(7,aO 1),(8,dD),(9,Te),(10,aV a),(11,aV L)]
noncomputable def Cu (l:Wd):O:=cM (l.reverse.map mu)
structure VFat (σ:Sg)(n a b:Nat)(W:Int)(order:Wd)(s:VS):Prop where
 n:σ[n]?=aE (UW W order a b)
 a:σ[a]?=aE (mw s.lines)
 b:σ[b]?=aE (r_ s.pr s.c)
noncomputable def eu (σ:Sg)(a b:Nat)(s:VS):Sg:=(σ.set a (mw s.lines)).set b (r_ s.pr s.c)
structure LXat (σ:Sg)(n ms L j pb pb2:Nat)(s:LS):Prop where
 pj:pb≠j
 n:σ[n]?=aE (Ct s.line ms pb)
 ms:σ[ms]?=aE (KU L pb2)
 L:σ[L]?=aE (kC (aV j))
 j:σ[j]?=aE (Cu s.left)
 pb:σ[pb]?=aE (cM [])
noncomputable def lJ (σ:Sg)(n j a b:Nat)(s:LS):Sg:=(σ.set j (Cu s.left)).set n (Ct s.line a b)
def VS.small (s:VS):Prop:=s.c<=1000/\s.pr.length<=1000/\(df s.pr).length<=100000/\s.lines.length<=1000/\(s.lines.map (·.length)).sum<=100000/\∀p∈s.pr,asc p.1/\asc p.2
def qp (w:Wd):Prop:=∃c∈w,97<=c/\c<=101
noncomputable def Ig:List V->Option (List (Str×Str))
 |[]=>aE []|dj [cC a,cC b]::r=>(Ig r).map ((a,b)::·)|_=>aT
theorem Qy:∀{l:List V} {pr:List (Str×Str)},Ig l=aE pr->l=pr.map vJ:=by
 intro d;induction d with
 |nil=>exact @λpr h=>by cases h;rfl
 |cons x r e=>
  exact @λpr h=>by
   rcases x with _|_|_|_|_|l|_|_|_<;>try exact nN h
   rcases l with _|⟨x,_|⟨y,_|_⟩⟩
   .exact nN h
   all_goals rcases x with _|_|_|_|a|_|_|_|_<;>try exact nN h
   all_goals rcases y with _|_|_|_|b|_|_|_|_<;>try exact nN h
   refine cU (Option.map_eq_some_iff.mp h) λq f c=>?_;subst c;refine cn (e f ..) ?_;rfl
noncomputable def m9 (pr:List (Str×Str)):Bool:=decide (gU pr<=1000000)&&decide (pr.length<=1000000)
theorem zp:∀{pr:List (Str×Str)},∀p∈pr,p.1.length+p.2.length<=gU pr
 |q::r,p,a=>by
  unfold gU;simp only[fS,nY];rcases List.mem_cons.mp a with rfl|a
  .exact eO _ _
  .have:=zp p a
   unfold gU at this;exact cx this (ej ..)
theorem tO (h:m9 pr=bK):∀p∈pr,p.1.length<=1000000/\p.2.length<=1000000:=λp a=>by have:=zp p a;unfold m9 at h;simp only[eB,decide_eq_true_eq] at h;exact⟨d8 (iP 0xe00000f4240e021c02c4424382585000007a1207 rfl h.1 this),d8 (iP 0xe00000f4240e021c02c4424384585000007a1207 rfl h.1 this)⟩
noncomputable def tP (σ:Sg):V->Option (List (Str×Str)×Int)
 |aV n=>match σ[n]? with
  |some (d7 l a)=>match Ig l,a.lookup 6 with
   |some b,aE (aO c)=>if iT a&&m9 b&&decide (0<=c)&&decide (c<=1000000) then aE (b,c) else aT|_,_=>aT
  |_=>aT
 |_=>aT
noncomputable def qj (σ:Sg)(x:V):Option Int:=(tP σ x).map λp=>p.2+gU p.1
noncomputable def Cv (σ:Sg)(x:V):Option Str:=(tP σ x).map λp=>Ag p.1
inductive AccI (σ:Sg) (x:V) (pr:List (Str×Str)) (c:Int):Prop
 |mk (n:Nat) (at_:List (Nat×V)) (_:x=aV n) (_:σ[n]?=aE (d7 (pr.map vJ) at_)) (_:iT at_=bK) (_:at_.lookup 6=aE (aO c)) (_:m9 pr=bK) (_:0<=c) (_:c<=1000000)
theorem oC (h:tP σ x=aE (pr,c)):AccI σ x pr c:=by
 rcases x with _|_|_|_|_|_|_|n|_<;>try exact nN h
 delta tP at h
 dsimp only at h;generalize d:σ[n]?=o at h;rcases o with _|o
 .exact nN h
 rcases o with _|_|⟨l,a⟩ |_|_|_<;>try exact nN h
 dsimp only at h;generalize f:Ig l=q at h;rcases q with _|g
 .exact nN h
 generalize i:a.lookup 6=w at h;rcases w with _|w
 .exact nN h
 rcases w with _|_|j|_|_|_|_|_|_<;>try exact nN h
 refine dz (su h) λb e=>?_;clear h;simp only[eB,decide_eq_true_eq] at b;cases e
 exact⟨n,a,rfl,cn (d ..) (cn (Qy f ..) rfl),b.1.1.1,i,b.1.1.2,b.1.2,b.2⟩
noncomputable def s7 (lv:Nat)(σ:Sg)(x:V):Option Int:=match uu σ x with
 |some n=>aE n|none=>if 1<=lv then qj σ x else aT
noncomputable def ka (lv:Nat)(σ:Sg)(x:V):Option Bool:=match sD σ x with
 |some b=>aE b|none=>if 1<=lv then(qj σ x).map (· != 0) else aT
noncomputable def e9 (σ:Sg)(x y:V):Option V:=match k9 σ x y with
 |some v=>aE v|none=>match x,y with
  |aV n,aO i=>match σ[n]? with
   |some (d7 l _)=>if 0<=i then(p4 i l.length).bind (l[·]?) else aT|_=>aT
  |_,_=>aT
noncomputable def kI (σ:Sg)(x:V)(lo hi st:Option V):Option V:=match nC σ x lo hi st with
 |some v=>aE v|none=>match x,mr lo,mr hi,mr st with
  |aV n,aE a,aE b,aE c=>match σ[n]? with
   |some (d7 l _)=>if c=aE 0\/¬l.length<=1000000 then aT else aE (cw (gF l a b c))|_=>aT
  |_,_,_,_=>aT
noncomputable def vZ (r g b:UInt64):Option (UInt64×UInt64×UInt64):=let a:=sE r g b;let d:=wR r g b;let c:=eP a d
 if fm d a==aE .eq then aE (0,0,a) else
 if jH a||Float64.isZero c then aT else
 let s:=gN c a;let e:=gN (eP a r) c;let f:=gN (eP a g) c;let i:=gN (eP a b) c
 let h:=if fm r a==aE .eq then eP i f
  else if fm g a==aE .eq then eP (gY 0x4000000000000000 e) i
  else eP (gY 0x4010000000000000 f) e
 aE ((s_ (gN h 0x4018000000000000) 0x3ff0000000000000).2,s,a)
noncomputable def Aj (h s v:UInt64):Option (UInt64×UInt64×UInt64):=if fm s 0==aE .eq then aE (v,v,v) else
 let a:=fT h 0x4018000000000000
 if pJ a&&kH (mW mP a) then
  let i:=mW mP a;let f:=eP a (fD i);let p:=fT v (eP 0x3ff0000000000000 s);let q:=fT v (eP 0x3ff0000000000000 (fT s f));let t:=fT v (eP 0x3ff0000000000000 (fT s (eP 0x3ff0000000000000 f)));let j:=i.fmod 6
  if j=0 then aE (v,t,p) else if j=1 then aE (q,v,p) else if j=2 then aE (p,v,t) else if j=3 then aE (p,q,v) else if j=4 then aE (t,p,v) else if j=5 then aE (v,p,q) else aT
 else aT
noncomputable def nG (p:UInt64×UInt64×UInt64):V:=dj [a_ p.1,a_ p.2.1,a_ p.2.2]
noncomputable def qF (n:Nat):UInt64:=gL cu n 4
def fR (t:fY):Prop:=t.1.length<=2/\t.2.1.length<=20/\t.2.2.length<=20/\t.2.1≠[]/\t.2.2≠[]/\asc t.1/\asc t.2.1/\asc t.2.2
def se (ps:List (List fY)):Prop:=ps.length<=10/\(∀p∈ps,p≠[]/\p.length<=10/\∀t∈p,fR t/\(t.2.2.head?≠aE 120->qp t.2.1))/\ps≠[]
inductive CS13 (lv:Nat) (vs:List V) (σ:Sg) (Kk:V->Sg->Prop):Prop
 |mk (_:1<=lv) (n:Int) (k:Nat) (w:Wd) (_:vs=[aO n,aO k,sv w]) (_:k<5) (_:w.length<=1000) (_:asc w) (_:Kk (iN (oA (dg n) k w)) σ)
inductive CS15 (lv:Nat) (vs:List V) (σ:Sg) (Kk:V->Sg->Prop):Prop
 |mk (_:2<=lv) (j:Nat) (ws:List fY) (title order:Wd) (room:Nat) (_:vs=[aV j,sv title,sv order,aO room]) (_:σ[j]?=aE (cM (ws.map iN))) (_:ws.length=5) (_:(∀t∈ws,fR t)) (_:title.length<=10) (_:title≠[]) (_:order.length<=10) (_:asc title) (_:asc order) (_:room<=1000) (_:Kk (dj [iV (fF ws title order room).1,aO ((fF ws title order room).2:Nat)]) σ)
inductive CS16 (lv:Nat) (vs:List V) (σ:Sg) (Kk:V->Sg->Prop):Prop
 |mk (_:5<=lv) (ps:List (List fY)) (start W:Nat) (order mark:Wd) (_:vs=[iV ps,aO start,dj [aO W,sv order,sv mark]]) (_:se ps) (_:start<ps.length) (_:order.length<=10) (_:nd order) (_:(mark=[10]\/mark=[13,10])) (_:W<=1000) (_:Kk (dQ (j9 ps start W order mark)) σ)
inductive CS17 (lv:Nat) (vs:List V) (σ:Sg) (Kk:V->Sg->Prop):Prop
 |mk (_:6<=lv) (ps:List (List fY)) (start W:Nat) (order mark:Wd) (_:vs=[iV ps,aO start,dj [aO W,sv order,sv mark]]) (_:se ps) (_:start<=ps.length) (_:order.length<=10) (_:nd order) (_:(mark=[10]\/mark=[13,10])) (_:W<=1000) (_:Kk (dQ (il ps W order mark 20 start [start])) σ)
inductive CS18 (lv:Nat) (vs:List V) (σ:Sg) (Kk:V->Sg->Prop):Prop
 |mk (_:2<=lv) (sizes:List Nat) (W t s v:Nat) (d:Int) (_:vs=[dQ sizes,aO W,dj [aO t,a_ (qF s),a_ (qF v)],aO d]) (_:1<=sizes.length) (_:sizes.length<=6) (_:t<16) (_:1<=s) (_:s<=4) (_:1<=v) (_:v<=4) (_:d=xm (kJ sizes W)) (_:(d=-1\/d=0\/d=1)) (_:Kk (dB bK) σ)
def qq (lv k:Nat)(vs:List V)(σ:Sg)(Kk:V->Sg->Prop):Prop:=match k with
 |0=>∃x,vs=[x]/\zo (s7 lv σ x) λi=>Kk (aO i) σ
 |7=>1<=lv/\∃x,vs=[x]/\zo (Cv σ x) λt=>Kk (cC t) σ
 |9=>1<=lv/\∃v,vs=[v]/\Kk (aV σ.length) (σ++[d7 [] [(6,v)]])|10=>2<=lv/\∃(h:Nat) (W:Int) (a:Wd),vs=[aO h,aO W,sv [45,45],sv a]/\Kk (aV σ.length) (σ++[UW W a (σ.length+1) (σ.length+2),mw [],r_ [] h])|11=>1<=lv/\∃v,vs=[v]/\Kk (aV σ.length) (σ++[fe 234 [(7,aO 1),(8,v),(9,Te),(10,aV (σ.length+1))],cM []])|12=>2<=lv/\∃j,vs=[aV j]/\Kk (aV (σ.length+3)) (σ++[KU (σ.length+2) (σ.length+1),cM [],kC (aV j),Ct 1 σ.length (σ.length+4),cM []])|13=>CS13 lv vs σ Kk|14=>1<=lv/\∃p:List fY,vs=[d_ p]/\p.length<=100/\(∀t∈p,fR t)/\Kk (aO (dW p:Nat)) σ|15=>CS15 lv vs σ Kk|16=>CS16 lv vs σ Kk|17=>CS17 lv vs σ Kk|18=>CS18 lv vs σ Kk|19=>1<=lv/\∃r g b,vs=[a_ r,a_ g,a_ b]/\zo (vZ r g b) λp=>Kk (nG p) σ
 |20=>1<=lv/\∃h s v,vs=[a_ h,a_ s,a_ v]/\zo (Aj h s v) λp=>Kk (nG p) σ
 |k=>zo (qn k vs σ) λv=>Kk v σ
inductive CM10 (lv:Nat) (vs:List V) (σ:Sg) (Kk:V->Sg->Prop):Prop
 |mk (_:3<=lv) (n a b W order s:_) (_:vs=[aV n]) (_:VFat σ n a b W order s) (_:s.small) (_:(s.c=0->s.lines≠[]->df s.pr≠[]->qp (df s.pr))) (_:Kk dD (eu σ a b (dX s)))
inductive CM11 (lv:Nat) (vs:List V) (σ:Sg) (Kk:V->Sg->Prop):Prop
 |mk (_:4<=lv) (n a b W order s mark:_) (_:vs=[aV n,sv mark]) (_:VFat σ n a b W order s) (_:s.small) (_:mark.length<=10) (_:(s.c=0->s.lines≠[]->df s.pr≠[]->qp (df s.pr))) (_:Kk (sv (f_ mark (dX s).lines)) (eu σ a b (dX s)))
inductive CM12 (lv:Nat) (vs:List V) (σ:Sg) (Kk:V->Sg->Prop):Prop
 |mk (_:4<=lv) (n a b W:Nat) (order:Wd) (s:VS) (f t:Wd) (_:vs=[aV n,sv f,sv t]) (_:VFat σ n a b W order s) (_:s.small) (_:order.length<=10) (_:nd order) (_:f.length<=10) (_:t.length<=100) (_:asc f) (_:asc t) (_:(s.c=0->s.lines≠[]->s.pr≠[]->qp (df s.pr))) (_:qp t) (_:Kk dD (eu σ a b (fy W order s (f,t))))
inductive CM13 (lv:Nat) (vs:List V) (σ:Sg) (Kk:V->Sg->Prop):Prop
 |mk (_:1<=lv) (n l at_ x y:_) (_:vs=[aV n,x,y]) (_:σ[n]?=aE (d7 l at_)) (_:iT at_=bK) (_:at_.lookup 12=aT) (_:l.length<=10000) (_:Kk dD (σ.set n (d7 (l++[dj [x,y]]) at_)))
inductive CM14 (lv:Nat) (vs:List V) (σ:Sg) (Kk:V->Sg->Prop):Prop
 |mk (_:1<=lv) (n l at_ i:_) (_:vs=[aV n,aO (i:Nat)]) (_:σ[n]?=aE (d7 l at_)) (_:l.length<=10000) (_:i<=l.length) (_:Kk (cw (l.drop i)) (σ.set n (d7 (l.take i) at_)))
inductive CM15 (lv:Nat) (vs:List V) (σ:Sg) (Kk:V->Sg->Prop):Prop
 |mk (_:2<=lv) (n l at_:_) (_:vs=[aV n]) (_:σ[n]?=aE (d7 l at_)) (_:iT at_=bK) (_:at_.lookup 18=aT) (_:l.length<=10000) (_:(l=[]->Kk (dj [cC "",cC ""]) σ)) (_:∀l' x,l=l'++[x]->Kk x (σ.set n (d7 l' at_)))
inductive CM16 (lv:Nat) (vs:List V) (σ:Sg) (Kk:V->Sg->Prop):Prop
 |mk (_:1<=lv) (n l at_ new:_) (_:(vs=[aV n]/\new=[]\/vs=[aV n,cw new])) (_:σ[n]?=aE (d7 l at_)) (_:iT at_=bK) (_:at_.length<=100) (_:l.length<=10000) (_:new.length<=10000) (_:Kk dD (σ.set n (d7 new (nc at_ 6 (aO 0)))))
inductive CM19 (lv:Nat) (vs:List V) (σ:Sg) (Kk:V->Sg->Prop):Prop
 |mk (_:3<=lv) (n ms L j pb pb2 s:_) (_:vs=[aV n]) (_:LXat σ n ms L j pb pb2 s) (_:s.left.length<=100000) (_:asc s.left) (_:Kk (sv (fM (s.left.length+1) s).1) (lJ σ n j ms pb (fM (s.left.length+1) s).2))
inductive CM20 (lv:Nat) (vs:List V) (σ:Sg) (Kk:V->Sg->Prop):Prop
 |mk (_:1<=lv) (n ms L j pb pb2 s:_) (_:vs=[aV n]) (_:LXat σ n ms L j pb pb2 s) (_:s.left.length<=100000) (_:asc s.left) (_:Kk (sv (dh s).1.toList) (lJ σ n j ms pb (dh s).2))
def n6 (lv k:Nat)(vs:List V)(σ:Sg)(Kk:V->Sg->Prop):Prop:=match k with
 |10=>CM10 lv vs σ Kk|11=>CM11 lv vs σ Kk|12=>CM12 lv vs σ Kk|13=>CM13 lv vs σ Kk|14=>CM14 lv vs σ Kk|15=>CM15 lv vs σ Kk|16=>CM16 lv vs σ Kk|17=>2<=lv/\∃x a c,vs=[x]/\tP σ x=aE (a,c)/\Kk (dB (c==0&&(decide (c+gU a=0)||Txt.isspace (Ag a)))) σ
 |18=>1<=lv/\∃n l b,vs=[aV n]/\σ[n]?=aE (d7 l b)/\Kk (aO (l.length:Nat)) σ|19=>CM19 lv vs σ Kk|20=>CM20 lv vs σ Kk|k=>lG k vs σ Kk
def KW (lv:Nat)(σ:Sg)(k:Nat)(Kk:Option V->Sg->Prop):Prop:=2<=lv/\∃a n,σ[k]?=aE (gQ a (aV n))/\match a with
 |false=>Kk aT σ|true=>∃d L j e b s,LXat σ n d L j e b s/\s.left.length<=100000/\asc s.left/\match s.left with
  |[]=>Kk aT (σ.set k (gQ cu (aV n)))|c::_=>Kk (aE (mu c)) (lJ σ n j d e (dh s).2)
noncomputable def p7:Nat->b_
 |7=>bT "str"|8=>cH "iter"|9=>aK 178|10=>aK 94|11=>aK 234|12=>aK 245|13=>aK 250|14=>aK 255|15=>aK 260|16=>aK 265|17=>aK 272|18=>aK 277|19=>aK 189|20=>aK 196|21=>aK 282|k=>Pt k
noncomputable def KX:Nat->V
 |22=>sv [10]|23=>sv []|k=>hJ (p7 k)
noncomputable def ZL (lv:Nat):Sem0 where
 bin b x y Kk:=zo (fu b x y) Kk
 cmp b a x y Kk:=zo (gq b a x y) Kk
 truth a x Kk:=zo (ka lv a x) Kk
 sub a x y Kk:=zo (e9 a x y) Kk
 slc a x l u t Kk:=zo (kI a x l u t) Kk
 spec:=qq lv
 mspec:=n6 lv
 cspec k c a Kk:=k=13/\n6 lv k c a Kk
 res:=uw
 resb:=Ce
 gval:=KX
 att:=vW
 set:=E4
 setsl:=uy
 ipl:=Qt
 next:=KW lv
def NM (C:Fx):Prop:=Rc [
 (∀k<22,lr C (lV k) (p7 k)),
 (∃t,lr C "NL" (cV (fv [10]) t)),
 (∃t,lr C "EMPTYSTRING" (cV (fv []) t)),
 (lr C "range" (bT "range")),
 (lr C "zip" (bT "zip")),
 (∀h,fk C h->o6 h),
 (∀f∈([245,250,255,260,265,272,277,189,196,282,56,42,91,122,130,138,160,167,175,224,217]:List cE),∃o a,C.hb.get? f=aE o/\o.data=fK a/\f∉fU),
 (∀c∈([94,178,234]:List cE),∀h,fk C h->Looks (cm C.prog C.w) h (Gi (aK c)) lq)]
theorem oE (h:∀a,f≠aK a):sj C f:=λ_ _=>⟨lq,.inr (.inl rfl),by rcases f with _|_|_|_|_|_|_|_|_|_|_<;>first|exact absurd rfl (h _)|exact rh rfl⟩
theorem H6 (h:∃o fd,C.hb.get? f=aE o/\o.data=fK fd/\f∉fU):sj C (aK f):=λe b=>by refine lF h λo fd a c d=>iB .frame (.inl rfl) ?_;exact(lS (part:=aT) (b _ _ a d)).andThen<|cn (c ..)<|jE
theorem c7:∀k<7,k=0\/k=1\/k=2\/k=3\/k=4\/k=5\/k=6:=dd rfl
theorem Z3:∀k<10,k=0\/k=1\/k=2\/k=3\/k=4\/k=5\/k=6\/k=7\/k=8\/k=9:=dd rfl
noncomputable def Sj (l:List cE):b_->Bool
 |aK a=>l.contains a|_=>bK
theorem Qz (N:NM C):∀k<22,sj C (p7 k):=λk c=>by
 have q:Sj ([245,250,255,260,265,272,277,189,196,282]++[94,178,234]) (p7 k)=bK:=(by decide:∀k<22,Sj ([245,250,255,260,265,272,277,189,196,282]++[94,178,234]) (p7 k)=bK) k c
 generalize p7 k=v at q;cases v with
 |ref a=>
  rcases List.mem_append.mp (List.contains_iff_mem.mp q) with q|q
  .exact H6 ((N 6) a (oS [56,42,91,122,130,138,160,167,175,224,217] q))
  .exact λh b=>⟨lq,.inr (.inl rfl),(N 7) a q h b⟩
 |_=>exact λ_ _=>⟨lq,.inr (.inl rfl),rh rfl⟩
theorem QA (N:NM C)(k):sj C (oU k):=by
 rcases k with _|_|_|_|k
 .exact oE λa q=>nomatch q
 .exact oE λa q=>nomatch q
 .exact oE λa q=>nomatch q
 .exact oE λa q=>nomatch q
 .refine H6 ((N 6) _ ?_)
  induction h:methL[k+4-10]? with
  |none=>decide|some x=>have:∀y∈methL,y.2.2∈([245,250,255,260,265,272,277,189,196,282,56,42,91,122,130,138,160,167,175,224,217]:List cE):=dd rfl;exact this x (jS h)
theorem KY (W:WK C Kk)(N:NM C)(hn:100<=n) (fc:∀{k vs KK ρ σ s A U Ee},(k=0->∃x,vs=[x]/\uu σ x=aT)->qq lv k vs σ KK->(∀v,qn k vs σ≠aE v)->Rels ρ s.heap U vs->St C ρ σ s->Room n A->cD (cm C.prog C.w) A (call (p7 k) U) (PE C [] ρ s.heap KK) Ee s) (mc:∀{k vs KK ρ σ s A U} {Ee:b_->cz->Prop},10<=k->n6 lv k vs σ KK->Rels ρ s.heap U vs->St C ρ σ s->Room n A->fA (cm C.prog C.w) A (eR (oU k) ⟨U,[]⟩) (yN (PE C [] ρ s.heap KK) Ee) s) (nx:∀{k KK ρ σ s A p Ee},KW lv σ k KK->ρ.l[k]?=aE p->St C ρ σ s->Room n A->cD (cm C.prog C.w) A (h_ (aK p.1)) (Xi C ρ s.heap KK) Ee s) (tr:∀{x i} {KK:Bool->Prop} {ρ σ s A a Ee},1<=lv->qj σ x=aE i->KK (i != 0)->Rel ρ s.heap a x->St C ρ σ s->Room n A->cD (cm C.prog C.w) A (rz a) (JM C ρ σ s.heap KK) Ee s):m5 C n (ZL lv) p7 oU:=Rc.c (λh B G j D=>let ⟨v,f,H⟩:=ja h;PU C D.2.2 f H B G j)<|
 Rc.c (λh B G j _=>Tc h B G j)<|
 Rc.c (λh B G j D=>let ⟨v,f,H⟩:=ja h;wM (PW C (N 5) ⟨by have:=D.1;exact gG (iP 0x700800000003270e11614c042439800000003270911 rfl hn this),by have:=D.2.1;exact gG (iP 0x700800000003270e11614c042439800000003270911 rfl hn this),D.2.2⟩ f H B G j) (λr s' q=>let ⟨c,a,b,d,e⟩:=q;⟨c,a,b,d,e⟩))<|
 Rc.c (λ{x Kk ρ σ s A a Ee} h B j D=>by
  refine cU (ja h) λv f H=>?_;replace f:ka lv σ x=aE v:=f
  delta ka at f
  generalize hT:sD σ x=o at f;rcases o with _|b
  rotate_left
  .obtain rfl:=dk f;exact HS hT H B j
  .replace f:(if 1<=lv then(qj σ x).map (· != 0) else aT)=aE v:=f
   split at f
   .rename_i hl
    refine cU (Option.map_eq_some_iff.mp f) λi M a4=>?_;subst a4;exact tr hl M H B j D
   .exact nN f)<|
 Rc.c (λ{x y Kk ρ σ s A a b Ee Y a5} h B G hs j D=>by
  refine cU (ja h) λv f H=>?_;replace f:e9 σ x y=aE v:=f
  delta e9 at f
  generalize M:k9 σ x y=o at f;rcases o with _|w
  .rcases x with _|_|_|_|_|_|_|n|_<;>try exact nN f
   rcases y with _|_|i|_|_|_|_|_|_<;>try exact nN f
   clear M;dsimp only at f;generalize I:σ[n]?=o at f;rcases o with _|o
   .exact nN f
   rcases o with _|_|⟨l,a6⟩ |_|_|_<;>try exact nN f
   obtain⟨h0,f⟩:=S9 (show(if 0<=i then(p4 i l.length).bind (l[·]?) else aT)=aE v from f)
   refine B.cO λ_ Z=>G.cI λt=>dN (j.conc.objs _ _ _ Z I) λne F a7=>?_;refine jX F λvs m e rl=>?_;exact KC W e rl f h0 H j hs
  .obtain rfl:=dk f;exact K6 C M H B G hs j)<|
 Rc.c (λ{x l u t Kk ρ σ s A a vl vu vt i Ee Y lo M j q} h B r1 r2 r3 a2 J D=>by
  refine cU (ja h) λv f H=>?_;replace f:kI σ x l.head? u.head? t.head?=aE v:=f
  delta kI at f
  generalize M:nC σ x l.head? u.head? t.head?=o at f;rcases o with _|w
  .rcases x with _|_|_|_|_|_|_|n|_<;>try exact nN f
   clear M;generalize e1:mr l.head?=p1 at f;generalize e2:mr u.head?=p2 at f;generalize e3:mr t.head?=p3 at f;rcases p1 with _|p1
   .exact nN f
   rcases p2 with _|p2
   .exact nN f
   rcases p3 with _|p3
   .exact nN f
   dsimp only at f;generalize I:σ[n]?=o at f;rcases o with _|o
   .exact nN f
   rcases o with _|_|⟨l',a6⟩ |_|_|_<;>try exact nN f
   have f:(if p3=aE 0\/¬l'.length<=1000000 then aT else aE (cw (gF l' p1 p2 p3)))=aE v:=f
   by_cases hc:p3=aE 0\/¬l'.length<=1000000
   .rw[if_pos hc] at f;exact nN f
   .rw[if_neg hc] at f
    obtain rfl:=dk f;refine B.cO λ_ Z=>dN (J.conc.objs _ _ _ Z I) λne F a7=>?_;refine jX F λvs m e rl=>?_;exact Ic W e rl (Classical.byContradiction λz=>hc (.inr z)) (rF e1 r1) (rF e2 r2) (rF e3 r3) (λz=>hc (.inl z)) a2 H J
  .obtain rfl:=dk f;exact PY C M H B r1 r2 r3 a2 J)<|
 Rc.c (λ{k vs KK ρ σ s A U Ee} h P j D=>by
  by_cases hb:∃v,qn k vs σ=aE v
  .refine eF hb λv L=>?_
   have R:KK v σ/\k<=6:=by
    have a3:=PZ L;refine⟨?_,a3⟩;have c7:=c7 k (j7 a3);rcases c7 with rfl|rfl|rfl|rfl|rfl|rfl|rfl
    .obtain⟨x,rfl,h⟩:=h
     replace L:(uu σ x).map (λn=>aO n)=aE v:=L;induction hm:uu σ x with
     |none=>rw[hm] at L;cases L|some m=>
      rw[hm] at L;cases L
      have e:s7 lv σ x=aE (m:Int):=by unfold s7;exact cn (hm ..) rfl
      rw[e] at h;exact h
    all_goals
     refine cU (ja (show zo (qn _ vs σ) (λv=>KK v σ) from h)) λw f H=>?_;rw[L] at f;obtain rfl:=dk f;exact H
   have e:p7 k=Pt k:=by have c7:=c7 k (j7 R.2);rcases c7 with rfl|rfl|rfl|rfl|rfl|rfl|rfl<;>rfl
   exact cn (e ..)<|qf (P_ C (Kk:=λv=>KK v σ) D.2.2 R.1 P j L) λr s' a8 a9 w hw r' J X=>⟨a8,a9,w,by refine dz hw λa0 k=>?_;subst a0;exact k,r',J,X⟩
  .refine fc (λh0=>?_) h (λv L=>hb ⟨v,L⟩) P j D
   subst h0;refine cU h λx F h=>?_;subst F;refine⟨x,rfl,?_⟩;induction hl:uu σ x with
   |none=>rfl|some m=>exact absurd ⟨aO m,show(uu σ x).map (λn=>aO n)=aE _ by refine cn (hl ..) ?_;rfl⟩ hb)<|
 Rc.c (λk R=>⟨(N 0) k R,Qz N k R⟩)<|
 Rc.c (λ{k vs KK ρ σ s A U Ee} h P j D=>by
  by_cases R:10<=k
  .exact g_ (mc R h P j D)
  .have hb:lG k vs σ KK:=by have c:=Z3 k (jU R);rcases c with rfl|rfl|rfl|rfl|rfl|rfl|rfl|rfl|rfl|rfl<;>exact h
   exact Kh W P j hb)<|
 Rc.c (λh B j _=>Qd W h B j)<|
 Rc.c (λ_ {_ _ _ _ _ _ _ _} h P j D=>by refine dz h λa0 h=>?_;subst a0;exact mc (dd rfl) h P j D)<|
 Rc.c (QA N)<|
 Rc.c (λg hg=>by
  by_cases a1:g<22
  .refine⟨_,(N 0) g a1,λρ h=>?_⟩
   have:(ZL lv).gval g=hJ (p7 g):=by show KX g=_;unfold KX;split<;>first|exact absurd a1 (dd rfl)|rfl
   exact cn (this ..)<| .raw _
  .have:g=22\/g=23:=(by decide:∀g<24,¬g<22->g=22\/g=23) g hg a1
   rcases this with rfl|rfl
   .refine eF (N 1) λt h=>?_;exact⟨_,h,λρ h=>gR _ _⟩
   .refine eF (N 2) λt h=>?_;exact⟨_,h,λρ h=>gR _ _⟩)<|
 Rc.c (λh B j _=>Kl W h B j)<|
 Rc.c (λ_ {_ _ _ _ _ _ _ _ _ _} h B G j _=>Km W h B G j)<|
 Rc.c (λh B j _=>Qe W h B j)<|
 Rc.c (λh B G rl M j _=>KD W h B G rl M j)<|
 Rc.c (S_)<|
 Rc.c (T1)<|
 Rc.c ((N 3))<|
 Rc.c ((N 4))<|
 Rc.c (λ_ {_ _ _ _ _ _ _} h P j D=>T2 h P j D)<|
 Rc.c (λhx hy B G j D=>T3 hx hy B G j D)<|
 Rc.c (λt=>oE (by intro a q;exact F4 q))<|
 Rc.c (λ{k Kk ρ σ s A p Ee Q} h Z j hq=>by refine dz h λhl F=>?_;obtain⟨aa,n,I,_⟩:=F;exact Ef I Z j hq)<|
 Rc.c (λh Z j D=>nx h Z j D)<|Rc.n
theorem sI {α:Type}(l:List α)(a:Nat):∀m:Nat,(eZ m).filterMap (λk=>l[a+k]?)=(l.drop a).take m:=by
 intro b;induction b with
 |zero=>exact by exact rfl
 |succ m c=>
  exact by simp only[List.range_succ,List.filterMap_append,c,FH,ye];cases h:l[a+m]?<;>simp[h]
theorem qz (a b:Nat):yC (a:Int) (b:Int) 1=(eZ (b-a)).map λk=>a+k:=by
 unfold yC;have e:(if(1:Int)>0 then(if(a:Int)<b then((b:Int)-a+1-1)/1 else 0) else(if(a:Int)>b then((a:Int)-b-1-1)/(-1) else 0)).toNat=b-a:=by rw[if_pos (dd rfl)];exact iteInduction (motive:=λx:Int=>x.toNat=b-a) (λ_=>by rw[Bs,Fp,FT]) λh=>(uR (Int.ofNat_le.mp (Int.not_lt.mp h))).symm
 simp only[e];refine y6 λk _=>?_;rw[Int.one_mul];rfl
theorem qA {α:Type}(l:List α)(lo hi:Option Int):gF l lo hi aT=(l.drop (lo.elim 0 (clipAt l.length))).take (hi.elim l.length (clipAt l.length)-lo.elim 0 (clipAt l.length)):=by unfold gF;simp only[sliceBounds_plain];simp only[qz,yd];exact sI l _ _
theorem sJ {α:Type}(l:List α)(a:Nat):gF l (aE (a:Int)) aT aT=l.drop a:=by
 rw[qA];simp only[Ga,Fw];by_cases h:a<=l.length
 .rw[lE h,lY (by simp)]
 .rw[nU (by exact d8 (sh (jU h))),AV (by exact d9 _),AV (by exact d8 (sh (jU h)))];simp
theorem Ej {α:Type}(l:List α)(b:Nat):gF l aT (aE (b:Int)) aT=l.take b:=by
 rw[qA];simp only[Ga,Fw,Bo,yx];by_cases h:b<=l.length
 .rw[lE h]
 .rw[nU (by exact d8 (sh (jU h))),lY (by exact d9 _),lY (by exact d8 (sh (jU h)))]
theorem Ih {α:Type}(l:List α)(a b:Nat):gF l (aE (a:Int)) (aE (b:Int)) aT=(l.take b).drop a:=by
 rw[qA];simp only[Ga,Fw];rw[P3];by_cases h:a<=l.length
 .rw[lE h]
  by_cases c:b<=l.length
  .rw[lE c]
  .rw[nU (by exact d8 (sh (jU c))),lY (by simp),lY (by simp;exact d8 (vC 0xe62212021c02c286438658531109 rfl (sB ..) (jU c)))]
 .have d:l.drop a=[]:=AV (d8 (sh (jU h)))
  have e:l.drop l.length=[]:=AV (d9 _);have f:min a l.length=l.length:=nU (Fy h);rw[f,d,e];simp
def FN (C:Fx)(Kk:i9):Prop:=Rc [
 (WK C Kk),
 (NM C),
 (GK C),
 (SK C Kk),
 (LK C),
 (∃b,FnIs C 35 b ["self","headerlen","maxlen","continuation_ws","splitchars"] C3 A0),
 (∃b,FnIs C 42 b ["self","linesep"] DQ C4),
 (∃b,FnIs C 56 b ["self"] wL body_vf_newline),
 (∃b,FnIs C 91 b ["self","fws","string"] A1 body_vf_chunk),
 (∃b,FnIs C 122 b ["self","fws","string"] C5 A2),
 (∃b,FnIs C 130 b ["self","i"] wN vU),
 (∃b,FnIs C 160 b ["self","startval"] A3 yQ/\∀a:b_,ur C b ⟨[a],[]⟩ ((["self","startval"]:List Str).zip [a,cG])),
 (∃b,FnIs C 167 b ["self"] HM DR),
 (∃b,FnIs C 189 b ["r","g","b"] PO body_rgb),
 (∃b,FnIs C 196 b ["h","s","v"] PR body_hsv),
 (∃b,FnIs C 210 b ["self","fp"] C6 A4),
 (∃b,FnIs C 250 b ["number","k","before"] C7 body_element),
 (∃b,FnIs C 255 b ["part"] HN DS),
 (∃b,FnIs C 260 b ["words","title","order","room"] HO body_parts),
 (∃b,FnIs C 265 b ["parts","start","setting"] DT body_folded),
 (∃b,FnIs C 272 b ["parts","start","setting"] HP DU),
 (∃b,FnIs C 277 b ["sizes","width","paint","sign"] DV body_agrees),
 (∃b,SupFn C Kk 115 b ["self","initial_size"] zj sc_acinit),
 (∃b,SupFn C Kk 175 b ["self"] Cj sc_aclen),
 (∃b,SupFn C Kk 138 b ["self"] Ck sc_aclen),
 (∃b c t,GenFn C 145 b zk sc_aclen2 c t),
 (∃b c t,GenFn C 152 b Cn sc_acstr c t),
 (∃b,GW C 245 b ["signs"] w5 KJ/\b.closure=[]/\b.scope=sc_lex/\b.code=aK 244/\b.qualname="_law_lexer"),
 (∃b,GW C 217 b ["self"] sH Sf/\b.closure=[]/\b.scope=sc_rc),
 (∃b,GW C 224 b ["self"] xi Si/\b.closure=[]/\b.scope=sc_gt)]
abbrev Calls (C:Fx)(A:et)(f:cE)(d:List b_)(ρ:Own)(s:cz)(KK:V->Sg->Prop)(Ee:b_->cz->Prop):Prop:=fA (cm C.prog C.w) A (eR (aK f) ⟨d,[]⟩) (yN (PE C [] ρ s.heap KK) Ee) s
section
variable {C:Fx}{Kk:i9}{A:et}{Ee:b_->cz->Prop}{s:cz}{ρ:Own}{σ:Sg}{n lv:Nat}{d:List b_}{vs:List V}{KK:V->Sg->Prop}
theorem Room.le (h:Room n A)(a:m<=n):Room m A:=⟨fC (eY a _) h.1,fC (eY a _) h.2.1,h.2.2⟩
theorem Ak (h:σ[n]?=aE (d7 l a))(b:iT a=bK)(c:a.lookup m=aT)(e:(if m=12 then aE 0 else(methL.findIdx? λx=>x.1==178&&x.2.1==m).map (·+10))=aE k):uw σ (aV n) m=aE k:=by unfold uw;simp only[h,b,c,O8,FU,if_true];exact e
theorem mx (h:σ[n]?=aE (fe c a))(b:iT a=bK)(e:a.lookup m=aT)(f:(methL.findIdx? λx=>x.1==c&&x.2.1==m).map (·+10)=aE k):uw σ (aV n) m=aE k:=by unfold uw;simp only[h,b,e,O8,FU,if_true];exact f
theorem VX:(ZL lv).set=E4:=rfl
theorem KZ:(ZL lv).setsl=uy:=rfl
theorem XW:(ZL lv).res=uw:=rfl
theorem VY:(ZL lv).resb=Ce:=rfl
theorem VZ:(ZL lv).mspec 0=lG 0:=rfl
theorem XY:(ZL lv).mspec 1=lG 1:=rfl
theorem XZ:(ZL lv).mspec 2=lG 2:=rfl
theorem Ii {α:Type}{o:Option α}{v:α}{Kk:α->Prop}(h:o=aE v)(k:Kk v):zo o Kk:=h▸k
theorem fw {a:jL}{Kk:V->Prop}(h:fu a x y=aE v)(k:Kk v):(ZL lv).bin a x y Kk:=Ii h k
theorem gu {a:jr}{c:Bool}{Kk:Bool->Prop}(h:gq a σ x y=aE c)(k:Kk c):(ZL lv).cmp a σ x y Kk:=Ii h k
theorem H7 {c:Bool}{Kk:Bool->Prop}(h:ka lv σ x=aE c)(k:Kk c):(ZL lv).truth σ x Kk:=Ii h k
theorem jZ {Kk:V->Prop}(h:e9 σ x y=aE v)(k:Kk v):(ZL lv).sub σ x y Kk:=Ii h k
theorem Ek {l u t:Option V}{Kk:V->Prop}(h:kI σ x l u t=aE v)(k:Kk v):(ZL lv).slc σ x l u t Kk:=Ii h k
theorem K_ {i:Int}{Kk:V->Sg->Prop}(h:s7 lv σ x=aE i)(k:Kk (aO i) σ):(ZL lv).spec 0 [x] σ Kk:=⟨x,rfl,Ii h k⟩
theorem h9 (h:GA n 1000=bK):n<=1000:=cZ h
theorem tx {Z:Sem0}{Kk:KV}{a:Sg->KL->Prop}{m k:Nat}(h:Z.res σ v m=aE k)(q:a σ (wu Z Kk k v)):wx Z Kk a m v σ:=by unfold wx;rw[h];exact q
theorem Z4 {Z:Sem0}{Kk:KV}{a:Sg->KV->Prop}{m k:Nat}(h:Z.resb σ v m=aE k)(q:a σ (wy Z Kk k v)):wz Z Kk a m v σ:=by unfold wz;rw[h];exact q
theorem Xu {Kk:KO}{a ws:Mm->Sg->KO->Prop}{M:Mm}{c:Bool}(h:c=bK)(q:a M σ Kk):Xk Kk a ws M c σ:=by subst h;exact q
theorem Xv {Kk:KO}{a ws:Mm->Sg->KO->Prop}{M:Mm}{c:Bool}(h:c=cu)(q:ws M σ Kk):Xk Kk a ws M c σ:=by subst h;exact q
theorem Z5 {Kk:KO}{a:Mm->Sg->KO->Prop}{M:Mm}{I:Nat->Mm->Sg->Prop}{n:Nat}{c:Bool}(h:c=bK)(q:a M σ (PH Kk I n)):Xl Kk a M I n c σ:=by subst h;exact q
theorem Z6 {Kk:KO}{a:Mm->Sg->KO->Prop}{M:Mm}{I:Nat->Mm->Sg->Prop}{n:Nat}{c:Bool}(h:c=cu)(q:Kk de M σ):Xl Kk a M I n c σ:=by subst h;exact q
theorem L1 (h:σ[n]?=aE o):uw σ (aV n) m=uw [o] (aV 0) m:=by unfold uw;dsimp only;rw[h];rfl
theorem Xw {n:Nat}{l:List V}{Kk:KV}(h:σ[n]?=aE (cM l))(a:l.length<=1000000)(k:Kk dD (σ.set n (cM (l++[x])))):(ZL lv).mspec 0 [aV n,x] σ Kk:=by rw[VZ];show Sb [aV n,x] σ Kk;unfold Sb;dsimp only;rw[h];exact⟨a,k⟩
theorem Z7 {n:Nat}{l:List V}{a:List (Nat×V)}{Kk:KV}(h:σ[n]?=aE (d7 l a))(b:l.length<=1000000)(k:Kk dD (σ.set n (d7 (l++[x]) a))):(ZL lv).mspec 0 [aV n,x] σ Kk:=by rw[VZ];show Sb [aV n,x] σ Kk;unfold Sb;dsimp only;rw[h];exact⟨b,k⟩
theorem V_ {n m c:Nat}{a:List (Nat×V)}{KK:Sg->Prop}(h:σ[n]?=aE (fe c a))(b:(c=94\/c=234)/\iT a=bK/\m<12/\a.length<=1000)(k:KK (σ.set n (fe c (nc a m y)))):(ZL lv).set σ (aV n) m y KK:=by rw[VX];unfold E4;dsimp only;rw[h];exact⟨b.1,b.2.1,b.2.2.1,b.2.2.2,k⟩
theorem W3 {n m:Nat}{l:List V}{a:List (Nat×V)}{KK:Sg->Prop}(h:σ[n]?=aE (d7 l a))(b:iT a=bK/\m<12/\a.length<=1000)(k:KK (σ.set n (d7 l (nc a m y)))):(ZL lv).set σ (aV n) m y KK:=by rw[VX];unfold E4;dsimp only;rw[h];exact⟨b.1,b.2.1,b.2.2,k⟩
theorem Cw {m c:Nat}{a:List (Nat×V)}{KK:Sg->Prop}(b:(c=94\/c=234)/\iT a=bK/\m<12/\a.length<=1000)(k:KK (σ++fe c (nc a m y)::r)):(ZL lv).set (σ++fe c a::r) (aV σ.length) m y KK:=V_ (by rw[lX (d9 _),t7];rfl) b (by rw[xZ _ _ (d9 _),t7];exact k)
theorem QB {m c:Nat}{a:List (Nat×V)}{KK:Sg->Prop}(b:(c=94\/c=234)/\iT a=bK/\m<12/\a.length<=1000)(k:KK (σ++fe c (nc a m y)::(r++q))):(ZL lv).set (σ++fe c a::r++q) (aV σ.length) m y KK:=by rw[j5];exact Cw b k
theorem W4 {n:Nat}{l new:List V}{a:List (Nat×V)}{KK:Sg->Prop}(h:σ[n]?=aE (d7 l a))(b:l.length<=1000000)(c:new.length<=1000000)(k:KK (σ.set n (d7 new a))):(ZL lv).setsl σ (aV n) aT (cw new) KK:=by rw[KZ];unfold uy;dsimp only;rw[h];exact⟨⟨b,c⟩,k⟩
theorem X_ {n i:Nat}{l new:List V}{a:List (Nat×V)}{KK:Sg->Prop}(h:σ[n]?=aE (d7 l a))(b:l.length<=1000000)(c:new.length<=1000000)(hi:i<=l.length)(k:KK (σ.set n (d7 (l.take i++new) a))):(ZL lv).setsl σ (aV n) (aE (aO i)) (cw new) KK:=by rw[KZ];unfold uy;dsimp only;rw[h];exact⟨⟨b,c⟩,⟨lD _,Int.ofNat_le.mpr hi⟩,k⟩
theorem Y2 {i:Int}{l:List Int}{Kk:KV}(h:(jh σ v).bind qi=aE l)(k:Kk (aO (l.count i:Nat)) σ):(ZL lv).mspec 1 [v,aO i] σ Kk:=by rw[XY];show VQ [v,aO i] σ Kk;unfold VQ;dsimp only;rw[h];exact k
theorem W5 {sep:Str}{ts:List Str}{Kk:KV}(h:(jh σ v).bind qw=aE ts)(a:(ts.map (·.length)).sum+ts.length*sep.length<=1000000)(k:Kk (cC (iG sep ts)) σ):(ZL lv).mspec 2 [cC sep,v] σ Kk:=by rw[XZ];show VR [cC sep,v] σ Kk;unfold VR;dsimp only;rw[h];exact⟨a,k⟩
theorem YP (a b:Int):gq .Eq σ (aO a) (aO b)=aE (a==b):=by show yO σ _ _=_;unfold yO;rw[if_pos ⟨rfl,rfl⟩];rfl
theorem W6 (h:a=b):gq .Eq σ (aO a) (aO b)=aE bK:=(YP a b).trans (congrArg aE (beq_iff_eq.mpr h))
theorem W7 (h:a≠b):gq .Eq σ (aO a) (aO b)=aE cu:=(YP a b).trans (congrArg aE (beq_eq_false_iff_ne.mpr h))
theorem QC (F:FN C Kk)(H:m5 C n (ZL lv) p7 oU)(h:n6 (lv+1) 13 vs σ KK)(c:Rels ρ s.heap d vs)(st:St C ρ σ s)(e:Room (n+10) A):Calls C A 122 d ρ s KK Ee:=by refine eF (F 9) λo I=>?_;obtain⟨_,m,l,f,x,y,rfl,a,g,b,i,j⟩:=h;refine gH H I (r:=0) (tr:=cu) rfl ?_ c st (e.le (d8 yP));refine tx (k:=0) (Ak a g b (dd rfl)) (dy (h9 rfl) (Z7 a (d8 (Hx i)) ?_));exact j
theorem L2 (h:σ[m]?=aE (d7 l a))(b:l.length<=1000000)(i:Nat):kI σ (aV m) (aE (aO i)) aT aT=aE (cw (l.drop i)):=by
 unfold kI;have e:nC σ (aV m) (aE (aO i)) aT aT=aT:=by unfold nC;simp only[m7,m8,h];rw[if_neg (dd rfl)]
 rw[e];simp only[m7,m8,h];rw[if_neg (by simp;exact d8 (gp 0x1c00001e8481c04380585000007a1207 rfl b)),sJ]
theorem El (F:FN C Kk)(H:m5 C n (ZL lv) p7 oU)(h:n6 (lv+1) 14 vs σ KK)(c:Rels ρ s.heap d vs)(st:St C ρ σ s)(e:Room (n+10) A):Calls C A 130 d ρ s KK Ee:=by refine eF (F 10) λo I=>?_;obtain⟨_,m,l,f,i,rfl,a,b,g,j⟩:=h;refine gH H I (r:=1) (tr:=cu) rfl ?_ c st (e.le (d8 yP));have k:=L2 a (d8 (Hx b)) i;refine Ek k (dy (h9 rfl) (X_ a (d8 (Hx b)) (eW _) g ?_));rw[ib];exact j
theorem L3 (F:FN C Kk)(H:m5 C n (ZL lv) p7 oU)(h:n6 (lv+1) 16 vs σ KK)(i:Rels ρ s.heap d vs)(st:St C ρ σ s)(q:Room (n+10) A):Calls C A 160 d ρ s KK Ee:=by
 refine cU (F 11) λy I t=>?_;obtain⟨_,m,l,e,o,u,f,v,p,w,j,x⟩:=h;have b:m<σ.length:=(List.getElem?_eq_some_iff.mp f).1;have k:l.length<=1000000:=d8 (Hx w);have g:=x;rw[<-ri (a:=d7 o e)] at g;have c:iT e=bK/\6<12/\e.length<=1000:=⟨v,by decide,d8 (gp 0x1c00000000c9c0438058500000001f47 rfl p)⟩
 rcases u with⟨rfl,rfl⟩ |rfl
 .obtain⟨_,_,rfl,r,i⟩:=i.inv
  (first|obtain⟨_,rfl⟩:=i.inv|obtain rfl:=i.inv|obtain⟨_,_,rfl⟩:=i.inv)
  refine HL H I (r:=0) (tr:=cu) (t _) (vs:=[aV m,dD]) rfl (dy (h9 rfl) (W4 f k (eW _) (W3 (xX b) c ?_))) (fo r (fo kD fB)) st (q.le (d8 yP));exact g
 .refine gH H I (r:=0) (tr:=cu) rfl ?_ i st (q.le (d8 yP))
  refine W4 (lv:=lv) f k (by exact d8 (Hx j)) (W3 (xX b) c ?_)
  exact g
theorem Ij (F:FN C Kk)(h:qq (lv+1) 9 vs σ KK)(k:Rels ρ s.heap d vs)(st:St C ρ σ s)(l:Room (n+10) A):cD (cm C.prog C.w) A (call (aK 178) d) (PE C [] ρ s.heap KK) Ee s:=by
 obtain⟨_,v,rfl,o⟩:=h;refine eF (F 22) λr I=>cU k.one λa g p=>?_;subst g;refine Kn (F 0) (n:=n+3) p st (l.le (d8 Jn)) λ{i j t q} b c f=>I6 (m:=n) (F 0) (F 3) I (by rw[lX (d9 _)];simp) b c f ⟨rfl,?_⟩
 have e:(σ++[d7 [] []]).set σ.length (d7 [] [(6,v)])=σ++[d7 [] [(6,v)]]:=by rw[xZ _ _ (d9 _)];simp
 rw[e];exact o
theorem H8 (F:FN C Kk)(h:tP σ x=aE (pr,c))(r:Rel ρ s.heap a x)(st:St C ρ σ s)(J:Room (n+3) A) (L:∀v t j,0<=v->v<2 ^ 63->v=c+gU pr->St C ρ σ j->Ext [] ρ ρ s.heap j.heap->Q (d6 v t) j):cD (cm C.prog C.w) A (call (aK 145) [a]) Q Ee s:=by
 obtain⟨k,M,l,o,N,P,e,p,y⟩:=oC h;subst l;refine UZ (F 25) λfd cc t I=>?_;have R:=tO e;have z:gU pr<=1000000:=by unfold m9 at e;simp only[eB,decide_eq_true_eq] at e;exact e.1
 refine wM (g_ (I8 (m:=n) (KK:=λv g=>v=aO (c+gU pr)/\g=σ) (F 0) (F 2) I o N P (fo r fB) st J R ⟨rfl,rfl⟩)) (λv j q=>?_);obtain⟨f,g,w,⟨rfl,rfl⟩,B,i,X⟩:=q;refine B.cI λt'=>?_;have U:f.l=ρ.l:=by obtain⟨u,G⟩:=X.pre;have H:=i.conc.len;have W:=st.conc.len;rw[<-G,dJ] at H;have:u=[]:=AL (Nat.add_left_cancel (H.trans W.symm));rw[<-G,this,ib]
 have D:f=ρ:=by obtain⟨a,b⟩:=ρ;obtain⟨Y,Z⟩:=f;have e1:Y=a:=U;have e2:Z=b:=X.hid;subst e1;subst e2;rfl
 subst D;exact L _ _ _ (Int.add_nonneg p (lD _)) (qV (Int.add_le_add y (Int.ofNat_le.mpr z)) (dd rfl)) rfl i X
end
noncomputable def Ss.hd:Ss->S
 |bS s _=>s|cy=>u5 (pp 0)
noncomputable def Ss.tl:Ss->Ss
 |bS _ s=>s|cy=>cy
noncomputable def S.thn:S->Ss
 |dA _ a _ _=>a|_=>cy
noncomputable def S.els:S->Ss
 |dA _ _ b _=>b|gT _ _ _ b _=>b|_=>cy
noncomputable def S.bdy:S->Ss
 |gT _ _ a _ _=>a|rU _ a _=>a|nu _ _ _ _ _ _ a _=>a|_=>cy
noncomputable def S.itr:S->It
 |gT _ a _ _ _=>a|_=>.val (ll 0 (pp 0))
noncomputable def S.tgt:S->Tg
 |gT t _ _ _ _=>t|cR t _ _=>t|_=>cJ 0 "" (pp 0)
section
variable {C:Fx}{Kk:i9}{A:et}{Ee:b_->cz->Prop}{s:cz}{ρ:Own}{σ:Sg}{n lv:Nat}{b:List b_}{vs:List V}{KK:V->Sg->Prop}
theorem Em (h:tP σ x=aE (pr,c))(r:Rel ρ s.heap a x)(st:St C ρ σ s):∃p ox,a=aK p/\s.heap.get? p=aE ox/\ox.cls=aK 178:=by obtain⟨k,i,d,f⟩:=oC h;subst d;refine r.cO λ_ j=>dN (st.conc.objs _ _ _ j f) λl g _=>?_;obtain⟨vs,m,e,o⟩:=g;exact BN _ _ rfl e rfl
theorem Ik (F:FN C Kk)(h:qj σ x=aE i)(o:KK (aO i) σ)(r:Rel ρ s.heap a x)(st:St C ρ σ s)(q:Room (n+10) A):cD (cm C.prog C.w) A (call (cH "len") [a]) (PE C [] ρ s.heap KK) Ee s:=by refine cU (Option.map_eq_some_iff.mp h) λk j f=>?_;obtain⟨z,c⟩:=k;subst f;refine lF (Em j r st) λp B f e u=>?_;subst f;obtain⟨D,g,d,t,G⟩:=s;refine Qr (F 0) st.based e u (H8 F (n:=n) j r st (q.le (m:=n+3+1) (d8 (gp 0xe614c68058535201 rfl))).in1 λv t H w j y l X=>⟨v,t,rfl,w,j,ρ,σ,aO v,by rw[y];exact o,fq _ _,l.toks (dU _),X⟩)
theorem Cx (F:FN C Kk){i:Int}{KK:Bool->Prop}(h:qj σ x=aE i)(o:KK (i != 0))(r:Rel ρ s.heap a x)(st:St C ρ σ s)(q:Room (n+10) A):cD (cm C.prog C.w) A (rz a) (JM C ρ σ s.heap KK) Ee s:=by
 refine cU (Option.map_eq_some_iff.mp h) λk j f=>?_;obtain⟨z,c⟩:=k;subst f;refine lF (Em j r st) λp B f e u=>?_;subst f;obtain⟨D,g,d,t,G⟩:=s;refine Ea (F 0) st.based e u (H8 F (n:=n) j r st (q.le (m:=n+3+1) (eY (by decide:4<=10) n)).in1 λv t H w j y l X=>⟨v,t,rfl,w,j,by rw[y];exact o,l.toks (dU _),X⟩)
theorem Il (F:FN C Kk)(h:qq (lv+1) 7 vs σ KK)(G:Rels ρ s.heap b vs)(st:St C ρ σ s)(H:Room (n+10) A):cD (cm C.prog C.w) A (call (bT "str") b) (PE C [] ρ s.heap KK) Ee s:=by
 obtain⟨_,x,rfl,h⟩:=h;refine cU G.one λa j z=>?_;subst j;refine cU (ja h) λU J L=>cU (Option.map_eq_some_iff.mp J) λl B d=>?_;obtain⟨D,c⟩:=l;subst d;refine lF (Em B z st) λp W d e M=>?_;subst d;obtain⟨k,N,d,o,Y,Z,f,P,Q⟩:=oC B;subst d;refine UZ (F 26) λfd cc t I=>?_;have R:=tO f;unfold m9 at f;simp only[eB,decide_eq_true_eq] at f;have g:Room (n+3) A.in1.in1:=(H.le (m:=n+3+1+1) (d8 (gp 0x730a614c68058535201 rfl))).in1.in1;refine Qs (F 0) (by have:=g.2.1;exact gG (iP 0x1c22c29b1a09010e0111 rfl this)) st.based e M (wM (g_ (KA (m:=n) (KK:=λv i=>v=cC (Ag D)/\i=σ) (F 0) (F 2) I o (fo z fB) st g R f.1 f.2 ⟨rfl,rfl⟩)) (λv s' q=>?_))
 obtain⟨r,i,w,⟨rfl,rfl⟩,u,y,X⟩:=q;exact u.cS λt'=>⟨_,_,rfl,r,_,cC (Ag D),L,gR _ _,y,X⟩
theorem QD (F:FN C Kk)(h:n6 (lv+1) 18 vs σ KK)(c:Rels ρ s.heap b vs)(st:St C ρ σ s)(d:Room (n+10) A):Calls C A 175 b ρ s KK Ee:=by obtain⟨_,m,l,e,rfl,a,f⟩:=h;exact eF (F 23) λg I=>Kt (m:=n) (F 0) (F 3) I a c st (d.le (d8 yP)) f
theorem QE (F:FN C Kk)(H:m5 C n (ZL lv) p7 oU)(h:n6 (lv+1) 15 vs σ KK)(f:Rels ρ s.heap b vs)(st:St C ρ σ s)(g:Room (n+10) A):Calls C A 138 b ρ s KK Ee:=by
 obtain⟨i,m,l,c,rfl,a,j,d,k,e,o⟩:=h;refine eF (F 24) λq I=>Ku (m:=n) (F 0) (F 3) I H a f st (g.le (d8 yP)) (d8 (Hx k)) ?_ e o;have p:(ZL lv).res σ (aV m) 18=aE 18:=Ak a j d (dd rfl);refine tx p ⟨by exact d8 (GG i),m,l,c,rfl,a,?_⟩
 rcases l with _|⟨x,r⟩
 .exact gu (W6 rfl) (dy (h9 rfl) (⟨rfl,rfl,rfl⟩))
 .exact gu (W7 (V6 (v8 _)))<|⟨rfl,rfl,trivial⟩
end
section
variable {KK:V->Sg->Prop}
theorem QF (a b):yO σ (aO a) (aO b)=aE (a==b):=by unfold yO;rw[if_pos ⟨rfl,rfl⟩];rfl
theorem p8 (h:t8 a=bK):hZ (w4 σ (cC a))=bK:=by show(iZ (eJ a)&&decide (gX (eJ a)<=64))=bK;simp[iZ,h,gX]
theorem Al (c:t8 a=bK)(d:t8 b=bK):yO σ (cC a) (cC b)=aE (a==b):=by unfold yO;rw[if_pos ⟨p8 c,p8 d⟩];rfl
theorem QG (a b):A5 σ (aO a) (aO b)=aE (!(a==b)):=by unfold A5;rw[if_pos ⟨rfl,rfl⟩];rfl
theorem QH (c:t8 a=bK)(d:t8 b=bK):A5 σ (cC a) (cC b)=aE (!(a==b)):=by unfold A5;rw[if_pos ⟨p8 c,p8 d⟩];rfl
theorem En (f:1<=lv)(h:qj σ x=aE i):ka lv σ x=aE (i != 0):=by
 refine cU (Option.map_eq_some_iff.mp h) λa g _=>?_;obtain⟨l,c⟩:=a;obtain⟨k,j,b,d⟩:=oC g;subst b;unfold ka;have e:sD σ (aV k)=aT:=by unfold sD;simp only[d]
 rw[e];simp only[f,if_true,h,sZ]
theorem L4 (f:1<=lv)(h:qj σ x=aE i):s7 lv σ x=aE i:=by
 refine cU (Option.map_eq_some_iff.mp h) λa g _=>?_;obtain⟨l,c⟩:=a;obtain⟨k,j,b,d⟩:=oC g;subst b;unfold s7;have e:uu σ (aV k)=aT:=by unfold uu;simp only[d]
 rw[e];simp only[f,if_true,h]
theorem W8 {KK:V->Prop}(a:w.isRaw=cu)(k:KK w):match aE w with|some (hJ _)=>False|some w=>KK w|none=>False:=V.casesOn (motive_1:=λw=>w.isRaw=cu->KK w->match aE w with|some (hJ _)=>False|some w=>KK w|none=>False) w (λ_ k=>k) (λ_ _=>id) (λ_ _=>id) (λ_ _=>id) (λ_ _=>id) (λ_ _=>id) (λ_ _=>id) (λ_ _=>id) (λ_ a _=>dG a) a k
theorem Cy {KK:V->Prop}(b:σ[m]?=aE (d7 l a))(c:iT a=bK)(d:k<12)(h:a.lookup k=aE w)(e:w.isRaw=cu)(q:KK w):vW σ (aV m) k KK:=by dsimp only[vW];rw[b];refine n5 c d ?_;rw[h];exact W8 e q
theorem mj {KK:V->Prop}(b:σ[m]?=aE (fe c a))(d:c=94\/c=234)(e:iT a=bK)(f:k<12)(h:a.lookup k=aE w)(g:w.isRaw=cu)(q:KK w):vW σ (aV m) k KK:=by dsimp only[vW];rw[b];refine BM d e f ?_;rw[h];exact W8 g q
theorem Y3 (F:FN C Kk)(H:m5 C n (ZL lv) p7 oU)(h:n6 (lv+1) 17 vs σ KK)(o:Rels ρ s.heap p vs)(st:St C ρ σ s)(q:Room (n+10) A):Calls C A 167 p ρ s KK Ee:=by
 obtain⟨t,x,e,c,rfl,f,a⟩:=h;obtain⟨m,u,g,i,v,w,y,z,B⟩:=oC f;subst g;refine eF (F 12) λD I=>?_;have b:1<=lv:=d8 (GG t);refine gH H I (r:=0) (tr:=cu) rfl ?_ o st (q.le (d8 yP));have j:qj σ (aV m)=aE (c+gU e):=by unfold qj;rw[f];rfl
 have k:Cv σ (aV m)=aE (Ag e):=by unfold Cv;rw[f];rfl
 refine Cy i v (dd rfl) w rfl ?_;by_cases d:c=0
 .refine gu (W6 d) (H7 rfl (H7 (En b j) ?_))
  subst d;by_cases l:(0:Int)+gU e=0
  .rw[l] at a ⊢
   exact a
  .rw[decide_eq_false l] at a
   rw[bne_iff_ne.mpr l];exact⟨b,_,rfl,Ii k a⟩
 .refine gu (W7 d) ?_
  rw[beq_eq_false_iff_ne.mpr d] at a;exact a
theorem Tf:fE "\n\t\x0d "=fv [10,9,13,32]:=dd rfl
theorem L5 (F:FN C Kk)(H:m5 C n (ZL lv) p7 oU)(h:qq (lv+1) 11 vs σ KK)(f:Rels ρ s.heap g vs)(st:St C ρ σ s)(i:Room (n+10) A):cD (cm C.prog C.w) A (call (aK 234) g) (PE C [] ρ s.heap KK) Ee s:=by
 obtain⟨_,v,rfl,j⟩:=h;refine eF (F 15) λl I=>zi (F 0) (n:=n+3) (fI:=210) (dd rfl) f st (i.le (d8 Jn)) λ{d e m k} a b c=>gH H I (r:=0) (tr:=cu) rfl ?_ a b c;refine Cw ⟨.inr rfl,rfl,by decide,h9 rfl⟩ (Cw ⟨.inr rfl,rfl,by decide,h9 rfl⟩ (Cw ⟨.inr rfl,rfl,by decide,h9 rfl⟩ (dy (h9 rfl) (QB ⟨.inr rfl,rfl,by decide,h9 rfl⟩ ?_))))
 refine dy rfl ?_;rw[Tf,dJ];exact j
end
section
variable {KK:V->Sg->Prop}
theorem L6 (F:FN C Kk)(H:m5 C n (ZL lv) p7 oU)(h:qq (lv+1) 10 vs σ KK)(i:Rels ρ s.heap j vs)(st:St C ρ σ s)(k:Room (n+10) A):cD (cm C.prog C.w) A (call (aK 94) j) (PE C [] ρ s.heap KK) Ee s:=by
 obtain⟨l,p,W,d,rfl,m⟩:=h;have e:1<=lv:=d8 (GG l);refine eF (F 5) λq I=>zi (F 0) (n:=n+3) (fI:=35) (dd rfl) i st (k.le (d8 Jn)) λ{f g t o} a b c=>gH H I (r:=0) (tr:=cu) rfl ?_ a b c;refine Cw ⟨.inl rfl,rfl,by decide,h9 rfl⟩ (Cw ⟨.inl rfl,rfl,by decide,h9 rfl⟩ (K_ (rfl) (Cw ⟨.inl rfl,rfl,by decide,h9 rfl⟩ (Cw ⟨.inl rfl,rfl,by decide,h9 rfl⟩ (dy (h9 rfl) (QB ⟨.inl rfl,rfl,by decide,h9 rfl⟩ ?_))))))
 refine⟨e,_,rfl,QB ⟨.inl rfl,rfl,by decide,h9 rfl⟩ ?_⟩
 refine dy rfl ?_;rw[dJ,dJ];exact m
theorem W9 (F:FN C Kk)(H:m5 C n (ZL lv) p7 oU)(h:qq (lv+1) 12 vs σ KK)(e:Rels ρ s.heap f vs)(st:St C ρ σ s)(g:Room (n+10) A):Calls C A 245 f ρ s KK Ee:=by
 obtain⟨i,j,rfl,k⟩:=h;have a:1<=lv:=d8 (GG i);refine Pw (F 27) λo I b c d l=>Td (m:=n) (F 4) I b c d l H e st (g.le (d8 yP))<|⟨a,_,rfl,_,rfl,QB ⟨.inr rfl,rfl,by decide,h9 rfl⟩ ⟨a,_,rfl,?_⟩⟩
 rw[j5,dJ,dJ];exact k
end
noncomputable def Wa:O->Nat|cM _=>0|fe _ _=>1|d7 _ _=>2|gQ _ _=>3|kC _=>4|.dead=>5
theorem oX {a b:O}(h:aE a=aE b)(k:(Wa a==Wa b)=cu):False:=by rw[dk h,beq_self_eq_true] at k;exact dG k
theorem rH (a b):(fv a==fv b)=decide (a=b):=by
 rw[OS,beq_iff_eq,decide_eq_true_eq];constructor
 .intro h
  have:a.toArray=b.toArray:=congrArg Str.cps h
  simpa using this
 .intro h;rw[h]
theorem kb (h:asc w):t8 (fv w)=bK:=by unfold t8 fv;simp only[List.all_toArray,jj,decide_eq_true_eq];intro c a;have:=h c a;exact fl this (ej ..)
theorem gJ (w):(fv w).length=w.length:=by unfold fv;show(w.toArray).size=_;exact rfl
theorem qB {σ:Sg}(h:σ[i]?=aE o):σ.set i o=σ:=by refine eF (List.getElem?_eq_some_iff.mp h) λa e=>?_;rw[<-e];exact List.set_getElem_self a
theorem fj {σ:Sg}(h:i≠j):(σ.set i o)[j]?=σ[j]?:=AY h
theorem pd {σ:Sg}(h:σ[i]?=aE o'):(σ.set i o)[i]?=aE o:=by rw[xX (List.getElem?_eq_some_iff.mp h).1]
theorem LXat.ne {n a L j c b:Nat}(X:LXat σ n a L j c b s):j≠n/\j≠a/\j≠L/\n≠L/\n≠a/\n≠c:=by
 refine⟨λe=>?_,λe=>?_,λe=>?_,λe=>?_,λe=>?_,λe=>?_⟩
 .have:=X.j;rw[e,X.n] at this;exact oX this rfl
 .have:=X.j;rw[e,X.ms] at this;exact oX this rfl
 .have:=X.j;rw[e,X.L] at this;exact oX this rfl
 .have:=X.n;rw[e,X.L] at this;exact oX this rfl
 .have h:=X.n
  rw[e,X.ms] at h;unfold KU Ct at h
  injection h with h
  injection h with h1 d
  have:=congrArg i_ d;simp at this
 .have:=X.n;rw[e,X.pb] at this;exact oX this rfl
theorem uA {n b L j c a:Nat}(X:LXat σ n b L j c a s):lJ σ n j b c s=σ:=by unfold lJ;rw[qB X.j,qB X.n]
theorem L7 (h:j≠n):lJ (lJ σ n j a b s) n j a b t=lJ σ n j a b t:=by unfold lJ;rw[nX _ _ h,ri,nX _ _ h.symm,nX (l:=σ) _ _ h,ri,nX _ _ h.symm]
theorem LXat.put {n b L j c a:Nat}(X:LXat σ n b L j c a s)(t):LXat (lJ σ n j b c t) n b L j c a t:=by
 refine Sz X.ne λd e f g h i=>?_;unfold lJ;refine⟨X.pj,pd (o':=Ct s.line b c) (by rw[fj d];exact X.n),?_,?_,?_,?_⟩
 .rw[fj h,fj e];exact X.ms
 .rw[fj g,fj f];exact X.L
 .rw[fj (eN d)];exact pd X.j
 .rw[fj i,fj (eN X.pj)];exact X.pb
theorem jA:asc []:=λc a=>nomatch a
theorem tQ (h:c<128):asc [c]:=λ_ a=>(List.mem_singleton.mp a).symm▸h
theorem Wb (c:asc a)(d:asc b):gq .Eq σ (sv a) (sv b)=aE (decide (a=b)):=by show yO σ (cC (fv a)) (cC (fv b))=_;rw[Al (kb c) (kb d),rH]
theorem Im (c:asc a)(d:asc b)(h:a=b):gq .Eq σ (sv a) (sv b)=aE bK:=(Wb c d).trans (congrArg aE (decide_eq_true h))
theorem Eo (c:asc a)(d:asc b)(h:a≠b):gq .Eq σ (sv a) (sv b)=aE cu:=(Wb c d).trans (congrArg aE (decide_eq_false h))
section
variable {KK:V->Sg->Prop}
theorem Wc (F:FN C Kk)(D:100<=n)(H:m5 C n (ZL lv) p7 oU)(h:n6 (lv+1) 20 vs σ KK)(G:Rels ρ s.heap J vs)(st:St C ρ σ s)(M:Room (n+10) A):Calls C A 217 J ρ s KK Ee:=by
 obtain⟨_,m,z,L,j,B,N,t,rfl,X,P,Q,a⟩:=h;refine Sz X.ne λR Z h3 h4 h5 h6=>hR (F 28) λfd I l o=>?_;obtain⟨k,rfl⟩:∃k,n=k+3:=⟨n-3,eC (d8 (jY 0x1cc68240438058531a09 rfl (sB ..))) (d8 (jY 0x1c12c6804398d00b0a09 rfl (sC (d8 (gp 0x38040000000193870d30a01 rfl D)))))⟩;refine Cr (k:=k) (F 0) I l o H X.ms rfl rfl X.L X.j (by simpa using (cx P (ej ..):t.left.length<=1000000)) (λU p=>mj X.n (.inr rfl) rfl (dd rfl) rfl rfl p) G st (M.le (d8 (gp 0xe66402c29a931a01 rfl))) (λW=>?_) (λl' x i=>?_)
 .have f:t.left=[]:=by simpa using W
  refine gu (Eo jA (tQ (dd rfl)) nofun) ?_;rw[show dh t=(aT,t) by unfold dh;rw[f]] at a
  rw[uA X] at a;exact a
 .obtain⟨c,r,u⟩:∃c r,t.left=c::r:=by
   induction p:t.left with
   |nil=>rw[p] at i;simp at i|cons c r=>exact⟨c,r,rfl⟩
  rw[u,u_,kx,fS,G2] at i;obtain⟨v,g⟩:=OD i rfl;simp only[List.cons.injEq,and_true] at g;subst g;simp only[<-v];rw[show dh t=(aE c,⟨r,if c=10 then t.line+1 else t.line⟩) by unfold dh;rw[u]] at a
  have b:asc [c]:=λy Y=>by simp only[List.mem_singleton.mp Y];exact Q c (by simp only[u];exact .head _)
  have d:(σ.set j (cM (r.reverse.map mu)))[m]?=aE (Ct t.line z B):=by simp only[fj R];exact X.n
  by_cases h:c=10
  .subst h
   refine gu (Im b b rfl) (mj d (.inr rfl) (by rfl) (by decide) (w:=aO t.line) (by rfl) rfl (V_ (lv:=lv) d ⟨.inr rfl,rfl,by decide,h9 rfl⟩ ?_))
   exact a
  .refine gu (Eo b (tQ (dd rfl)) λq=>h (nM q)) ?_
   rw[if_neg h] at a;have e:lJ σ m j z B ⟨r,t.line⟩=σ.set j (cM (r.reverse.map mu)):=qB d;rw[e] at a;exact a
end
theorem Th (F:FN C Kk)(y:100<=n)(H:m5 C n (ZL lv) p7 oU){KK:Option V->Sg->Prop}(h:KW (lv+1) σ k KK)(w:ρ.l[k]?=aE p)(st:St C ρ σ s)(x:Room (n+11) A):cD (cm C.prog C.w) A (h_ (aK p.1)) (Xi C ρ s.heap KK) Ee s:=by
 refine dz h λN g=>?_;obtain⟨b,m,a,h⟩:=g;induction b with
 |false=>refine wM (Eg a w st x.2.2) (λr P q=>?_);refine dN q λi l X=>?_;subst i;exact SD ρ σ aT h trivial l X
 |true=>
  obtain⟨z,L,j,B,o,t,X,D,G,d⟩:=h;refine Eh (F 0) (m:=n+10) a w st x λ{Q v} u I=>Wc F y H ⟨by exact ek _,m,z,L,j,B,o,t,rfl,X,D,G,?_⟩ (fo I fB) st u
  induction f:t.left with
  |nil=>
   rw[f] at d;rw[show dh t=(aT,t) by unfold dh;rw[f]]
   rw[uA X];exact sg _ rfl a (by rw[if_pos (by rfl)];exact d)
  |cons c r=>
   rw[f] at d;dsimp only at d;refine sg (fv [c]) (by rw[show dh t=(aE c,⟨r,if c=10 then t.line+1 else t.line⟩) by unfold dh;rw[f]];rfl) ?_ ?_
   .unfold lJ
    have J:m≠k:=λe=>by have:=X.n;rw[e,a] at this;exact oX this rfl
    have M:j≠k:=λe=>by have:=X.j;rw[e,a] at this;exact oX this rfl
    rw[fj J,fj M];exact a
   .rw[if_neg (by rw[gJ];simp)]
    exact d
theorem Rel.closed (r:Rel ρ h a v):Cl ρ.l.length v:=Rel.rec (motive_1:=λ_ v _=>Cl ρ.l.length v) (motive_2:=λ_ c _=>Cls ρ.l.length c) trivial (λ_=>trivial) (λ_ _=>trivial) (λ_ _ _=>trivial) (λ_ _=>trivial)
  (λ_ _ _ r=>r) (λ_ _ _ r=>r) (λe=>(List.getElem?_eq_some_iff.mp e).1) (λ_=>trivial) trivial (λ_ _ a b=>⟨a,b⟩) r
theorem Rels.closed (r:Rels ρ h a v):Cls ρ.l.length v:=by
 induction a generalizing v with
 |nil=>cases r;exact trivial|cons a d b=>cases r with|cons r c=>exact⟨r.closed,b c⟩
theorem Cls.of:∀{l:List V},(∀v∈l,Cl k v)->Cls k l:=by
 intro a;induction a with
 |nil=>exact @λ_=>trivial
 |cons v l b=>exact @λh=>⟨h v (.head _),b λw c=>h w (.tail _ c)⟩
theorem ClAt.of (h:∀p∈a,Cl k p.2):ClAt k a:=λx v b=>by refine cU (List.mem_map.mp (mem_of_lookup b)) λy c d=>?_;simp only[<-(vo d).2];exact h y c
theorem ClOs.of:∀{l:List O},(∀o∈l,ClO k o)->ClOs k l:=by
 intro a;induction a with
 |nil=>exact @λ_=>trivial
 |cons v l b=>exact @λh=>⟨h v (.head _),b λw c=>h w (.tail _ c)⟩
theorem ClOs.mem (h:ClOs k l)(o)(m:o∈l):ClO k o:=by
 induction l with
 |nil=>exact absurd m fh|cons x l a=>exact(List.mem_cons.mp m).elim (λe=>e▸h.1) (a h.2)
theorem ClOs.set (h:ClOs k l)(a:ClO k o):ClOs k (l.set i o):=ClOs.of λb m=>by
 rcases List.mem_or_eq_of_mem_set m with q|q
 .exact h.mem b q
 .simp only[q];exact a
theorem ORel.closed (r:ORel ρ h p o):ClO ρ.l.length o:=by
 have b:∀{d b},AtRel ρ h d b->ClAt ρ.l.length b:=λ{d b} ⟨i,_,q⟩ x v f=>by have:=q x;rw[f] at this;exact cU this λa _ r=>r.closed
 induction o with
 |list l=>refine dz r λ_ c=>?_;obtain⟨g,n,_,r⟩:=c;exact r.closed
 |inst C l=>refine dN r λ_ _ r=>?_;exact b r
 |acc l a=>refine dN r λ_ c q=>?_;obtain⟨g,n,_,r⟩:=c;exact⟨r.closed,b q⟩
 |citer l o=>refine dN r λ_ _ e=>?_;obtain⟨v,_,r,_⟩:=e;exact r.closed
 |lam k=>refine dN r λ_ _ e=>?_;obtain⟨v,_,r⟩:=e;exact r.closed
 |dead=>trivial
theorem St.closed (st:St C ρ σ s):ClOs σ.length σ:=ClOs.of λo b=>by
 refine eF (mI b) λi a=>?_;have c:i<ρ.l.length:=by rw[st.conc.len];exact(List.getElem?_eq_some_iff.mp a).1
 rw[<-st.conc.len];exact(st.conc.objs i _ o (gK c) a).closed
theorem Cz (X:LXat σ n e L j f g s)(h:ClOs σ.length σ)(t):ClOs σ.length (lJ σ n j e f t):=by
 have b:∀{i:Nat} {o:O},σ[i]?=aE o->i<σ.length:=λh=>(List.getElem?_eq_some_iff.mp h).1;refine(h.set ?_).set (ClAt.of λp d=>?_)
 .refine Cls.of λv k=>cU (List.mem_map.mp k) λc _ a=>?_;subst a
  trivial
 .simp only[lP,fh,or_false] at d
  rcases d with rfl|rfl|rfl|rfl
  .trivial
  .exact b X.ms
  .trivial
  .exact b X.pb
noncomputable def nI (σ:Sg)(n b j c:Nat)(s:LS)(a:Bool):Sg:=lJ σ n j b c s++[gQ a (aV n)]
theorem ke (σ)(n j a b)(s):(lJ σ n j a b s).length=σ.length:=by unfold lJ;simp
theorem LXat.lt {n b L j c a:Nat}(X:LXat σ n b L j c a s):n<σ.length/\b<σ.length/\L<σ.length/\j<σ.length/\c<σ.length:=have lt:∀{i:Nat} {o:O},σ[i]?=aE o->i<σ.length:=λh=>(List.getElem?_eq_some_iff.mp h).1
 ⟨lt X.n,lt X.ms,lt X.L,lt X.j,lt X.pb⟩
theorem LXat.app {n b L j c a:Nat}(X:LXat σ n b L j c a s)(l):LXat (σ++l) n b L j c a s:=by
 have g:∀{i:Nat} {o:O},σ[i]?=aE o->(σ++l:Sg)[i]?=aE o:=λh=>by rw[jR (List.getElem?_eq_some_iff.mp h).1];exact h
 exact⟨X.pj,g X.n,g X.ms,g X.L,g X.j,g X.pb⟩
theorem L8 (a:n<σ.length)(b:j<σ.length)(l):lJ (σ++l) n j c d s=lJ σ n j c d s++l:=by unfold lJ;rw[NU _ _ b,NU _ _ (by simpa using a)]
theorem Am (X:LXat σ n c L j d b e)(s)(a):LXat (nI σ n c j d s a) n c L j d b s:=(X.put s).app _
theorem H9 (X:LXat σ n b L j c e d)(s t)(a):lJ (nI σ n b j c s a) n j b c t=nI σ n b j c t a:=by unfold nI;rw[L8 (by rw[ke];exact X.lt.1) (by rw[ke];exact X.lt.2.2.2.1),L7 X.ne.1]
theorem La (s)(a):(nI σ n b j c s a)[σ.length]?=aE (gQ a (aV n)):=by unfold nI;rw[lX (by rw[ke];exact d9 _),ke];simp
theorem Lb (s):(nI σ n a j b s bK).set σ.length (gQ cu (aV n))=nI σ n a j b s cu:=by unfold nI;rw[xZ _ _ (by rw[ke];exact d9 _),ke];simp
theorem qC (X:LXat σ n a L j b d e)(f:2<=lv)(g:s.left.length<=100000)(i:asc s.left)(h:match s.left with|[]=>Kk aT (nI σ n a j b s cu)|c::_=>Kk (aE (mu c)) (nI σ n a j b (dh s).2 bK)):(ZL lv).next (nI σ n a j b s bK) σ.length Kk:=by show KW lv _ _ _;refine⟨f,bK,n,La s bK,a,L,j,b,d,s,Am X s bK,g,i,?_⟩;rw[Lb,H9 X];exact h
theorem An {α:Type}(l:List α):l=[]\/∃c r,l=c::r:=match l with|[]=>.inl rfl|c::r=>.inr ⟨c,r,rfl⟩
theorem uB (X:LXat σ n a L j b d c)(f:2<=lv)(g:s.left.length<=100000)(i:asc s.left)(e:s.left=[])(h:Kk aT (nI σ n a j b s cu)):(ZL lv).next (nI σ n a j b s bK) σ.length Kk:=qC X f g i (by rw[e];exact h)
theorem uC (X:LXat σ n a L j b f d)(g:2<=lv)(i:s.left.length<=100000)(k:asc s.left)(e:s.left=c::r)(h:Kk (aE (mu c)) (nI σ n a j b (dh s).2 bK)):(ZL lv).next (nI σ n a j b s bK) σ.length Kk:=qC X g i k (by rw[e];exact h)
theorem xn (a:2<=lv)(h:Kk aT (nI σ n b j c s cu)):(ZL lv).next (nI σ n b j c s cu) σ.length Kk:=show KW lv _ _ _ from⟨a,cu,n,La s cu,h⟩
theorem xo (X:LXat σ n b L j c d e)(f:1<=lv)(g:s.left.length<=100000)(i:asc s.left)(h:Kk (sv (dh s).1.toList) (nI σ n b j c (dh s).2 a)):n6 lv 20 [aV n] (nI σ n b j c s a) Kk:=by refine⟨f,n,b,L,j,c,d,s,rfl,Am X s a,g,i,?_⟩;rw[H9 X];exact h
theorem Ao (X:LXat σ n c L j d e b)(s)(a):(ZL lv).res (nI σ n c j d s a) (aV n) 26=aE 20:=mx (Am X s a).n rfl rfl (dd rfl)
theorem Lc (X:LXat σ n c L j d e b)(s)(a)(h:Kk Te):vW (nI σ n c j d s a) (aV n) 9 Kk:=mj (Am X s a).n (.inr rfl) rfl (dd rfl) (w:=Te) rfl rfl h
theorem my (s):(dh s).2.left=s.left.drop 1:=by
 unfold dh;induction h:s.left with
 |nil=>assumption|cons c r=>exact rfl
theorem Ld (h:asc w)(k):asc (w.drop k):=λc a=>h c (pB a)
theorem w6 (a b):fv a++fv b=fv (a++b):=by unfold fv;show(⟨a.toArray++b.toArray⟩:Str)=_;simp
theorem Ha:UU (cC (fv [c])) (cC (fv w))=aE (decide (c∈w)):=by
 show aE (!(Nu (fv w) (fv [c]) 0 (fv w).length 1).isEmpty)=_;have:=StrLaws.found_one (fv w) c;rw[show(⟨#[c]⟩:Str)=fv [c] from rfl] at this;rw[this]
 congr 2
theorem inV_ws:UU (cC (fv [c])) Te=aE (ub c):=by
 unfold Te sv;rw[Ha];unfold ub
 congr 1
 simp only[lP,fh,or_false]
inductive qInv (σ:Sg) (n ms j pb:Nat) (fin:Wd×LS×Bool) (q:Bool):Nat->Mm->Sg->Prop
 |run {tok:Wd} {s:LS} {ch:Option V} {f:Nat}:tok.length+s.left.length<=200000->s.left.length<=100000->asc s.left->s.left.length<=f->(match q with|true=>fJ (f+1) tok s|false=>ji (f+1) tok s)=fin->
  qInv σ n ms j pb fin q (s.left.length+1) [aE (aV n),aE (sv tok),aE (aV σ.length),ch] (nI σ n ms j pb s bK)
 |dead {tok:Wd} {s:LS} {ch:Option V}:s.left.length<=100000->asc s.left->fin=(tok,s,cu)->qInv σ n ms j pb fin q 0 [aE (aV n),aE (sv tok),aE (aV σ.length),ch] (nI σ n ms j pb s cu)
section
variable {σ:Sg}{n d L j g l lv:Nat}{i:LS}
theorem Ap (h:asc w)(a:c∈w):asc [c]:=λx b=>by rw[List.mem_singleton.mp b];exact h c a
theorem uD {a b:Wd}{Kk:V->Prop}(h:a.length+b.length<=1000000)(q:Kk (sv (a++b))):Qt eL (sv a) (sv b) Kk:=by dsimp only[Qt,sv];exact⟨by rw[gJ,gJ];exact h,by rw[w6];exact q⟩
theorem Hb:asc [34]:=by intro c a;simp at a;exact gG (gp 0x38000000008b80870080000000407 rfl (c_ a))
theorem zq:asc [92]:=by intro c a;simp at a;exact gG (gp 0x38000000017380870080000000407 rfl (c_ a))
theorem Ep (s:LS):(dh s).1.toList.length+(dh s).2.left.length=s.left.length:=by
 unfold dh;rcases h:s.left with _|⟨c,r⟩
 .exact(iH _).trans (congrArg i_ h)
 .exact iE 1 _
theorem uE (h:asc s.left):asc (dh s).2.left:=by rw[my];exact Ld h 1
theorem Aq (h:s.left=c::r):(dh s).1=aE c:=by unfold dh;rw[h]
theorem Io (h:s.left=c::r):fJ (f+1) tok s=if c=34 then(tok,(dh s).2,bK) else if c=92 then fJ f (tok++(dh (dh s).2).1.toList) (dh (dh s).2).2 else fJ f (tok++[c]) (dh s).2:=by
 have e:dh s=(aE c,(dh s).2):=Prod.ext (Aq h) rfl;show(match dh s with|(aT,s)=>_|(aE c,s)=>_)=_
 rw[e];generalize (dh s).2=t;show(if c=34 then _ else if c=92 then _ else _)=_
 generalize dh t=p;rcases p with⟨_|_,_⟩
 .show _=if c=34 then _ else if c=92 then fJ f (tok++[]) _ else _
  rw[ib]
 .rfl
theorem Ip (h:s.left=[]):fJ (f+1) tok s=(tok,s,cu):=by
 have e:dh s=(aT,s):=by unfold dh;rw[h]
 show(match dh s with|(aT,s)=>_|(aE c,s)=>_)=_
 rw[e]
theorem Sk {tok:Wd}{s:LS}(a:tok.length+s.left.length<=200000)(b:(dh s).2.left.length+1=s.left.length):tok.length+(dh (dh s).2).1.toList.length<=1000000:=cx (eY (cx (eO ..) (cx (c_ (Ep _)) (nR (c_ b)))) _) (cx a (cZ rfl))
theorem Le {tok:Wd}{s:LS}{c:Nat}(a:tok.length+s.left.length<=200000)(b:(dh s).2.left.length+1=s.left.length):tok.length+[c].length<=1000000:=cx (eY (b▸ej 1 _) _) (cx a (cZ rfl))
theorem qI {f:Nat}{tok:Wd}{s t:LS}{k:Nat}(o:tok.length+s.left.length<=200000)(p:s.left.length<=100000)(r:asc t.left)(b:s.left.length<=f){w:Wd}(c:k+t.left.length+1=s.left.length)(u:w.length<=k+1) (h:(match q with|true=>fJ f (tok++w) t|false=>ji f (tok++w) t)=a):∃m,m<s.left.length+1/\qInv σ n d j g a q m [aE (aV n),aE (sv (tok++w)),aE (aV σ.length),v] (nI σ n d j g t bK):=have e:t.left.length<s.left.length:=c▸j7 (ej ..)
 ⟨t.left.length+1,ym e,.run (by rw[dJ,ic];refine cx (eY (cx (oT u _) ?_) _) o;rw[<-c,kL];exact d9 _) (cx (eV e) p) r (Nat.le_sub_one_of_lt (fl e b)) (f:=f-1) (by rw[sW (fC (eW _) (fl e b))];exact h)⟩
theorem Ti (X:LXat σ n d L j g l i)(A:2<=lv){t:Wd×LS×Bool}{tok:Wd}{s:LS}{B:Option V}{f:Nat}{Kk:Out->Mm->Sg->Prop}(x:tok.length+s.left.length<=200000)(o:s.left.length<=100000)(p:asc s.left)(C:s.left.length<=f)(h:fJ (f+1) tok s=t) (F:∀M s tok,t=(tok,s,bK)->Kk (dH (sv tok)) M (nI σ n d j g s bK)) (D:∀s tok B,t=(tok,s,cu)->s.left.length<=100000->asc s.left->Kk de [aE (aV n),aE (sv tok),aE (aV σ.length),B] (nI σ n d j g s cu)):DL (ZL lv) Sh [aE (aV n),aE (sv tok),aE (aV σ.length),B] (nI σ n d j g s bK) Kk:=by
 refine sg (qInv σ n d j g t bK) ⟨_,.run x o p C h⟩ ⟨λ_ _=>True,qC X A o p (by rcases s.left with _|_<;>trivial)⟩ ?_
 clear h C p o x;intro N M G h;induction h with
 |dead o p e=>exact xn A (D _ _ _ e o p)|@run tok s B f x o p C e=>
  obtain y|⟨c,r,y⟩:=An s.left
  .exact uB X A o p y (D s tok B (e.symm.trans (Ip y)) o p)
  .have e:=(Io y).symm.trans e
   have u:asc [c]:=Ap p (by rw[y];exact .head _)
   have m:(dh s).2.left.length+1=s.left.length:=by rw[my,y];rfl
   have z:=uE p;refine uC X A o p y ?_;by_cases v:c=34
   .rw[if_pos v] at e
    exact gu (Im u Hb (congrArg (λc=>[c]) v))<|F _ _ tok e.symm
   .rw[if_neg v] at e
    refine gu (Eo u Hb λq=>v (nM q)) ?_;by_cases w:c=92
    .rw[if_pos w] at e
     exact gu (Im u zq (congrArg (λc=>[c]) w)) (tx (Ao X _ bK) (xo X (nR A) (cx (nR (c_ m)) o) z (uD (Sk x m) (qI x o (uE z) C (by rw[Ep];exact m) (dU _) e))))
    .rw[if_neg w] at e
     exact gu (Eo u zq λq=>w (nM q))<|uD (a:=tok) (b:=[c]) (Le x m) (qI x o z C (k:=0) ((congrArg (·+1) (iH _)).trans m) (d9 _) e)
end
theorem QI (h:s.left=c::r):ji (f+1) tok s=if ub c then(tok,(dh s).2,bK) else if c=92 then ji f (tok++(dh (dh s).2).1.toList) (dh (dh s).2).2 else ji f (tok++[c]) (dh s).2:=by
 have e:dh s=(aE c,(dh s).2):=Prod.ext (Aq h) rfl;show(match dh s with|(aT,s)=>_|(aE c,s)=>_)=_
 rw[e];generalize (dh s).2=t;show(if ub c then _ else if c=92 then _ else _)=_
 generalize dh t=p;rcases p with⟨_|_,_⟩
 .show _=if ub c then _ else if c=92 then ji f (tok++[]) _ else _
  rw[ib]
 .rfl
theorem QJ (h:s.left=[]):ji (f+1) tok s=(tok,s,cu):=by
 have e:dh s=(aT,s):=by unfold dh;rw[h]
 show(match dh s with|(aT,s)=>_|(aE c,s)=>_)=_
 rw[e]
theorem Tj (X:LXat σ n y L j z D B)(v:2<=lv)(o:tok.length+s.left.length<=200000)(g:s.left.length<=100000)(i:asc s.left)(w:s.left.length<=f)(h:ji (f+1) tok s=p) (F:∀M s tok,p=(tok,s,bK)->Kk (dH (sv tok)) M (nI σ n y j z s bK)) (C:∀s tok A,p=(tok,s,cu)->s.left.length<=100000->asc s.left->Kk de [aE (aV n),aE (sv tok),aE (aV σ.length),A] (nI σ n y j z s cu)):DL (ZL lv) KN [aE (aV n),aE (sv tok),aE (aV σ.length),A] (nI σ n y j z s bK) Kk:=by
 refine sg (qInv σ n y j z p cu) ⟨_,.run o g i w h⟩ ⟨λ_ _=>True,qC X v g i (by rcases s.left with _|_<;>trivial)⟩ ?_
 clear h w i g o;intro N M G h;induction h with
 |dead g i d=>exact xn v (C _ _ _ d g i)|@run tok s A f o g i w d=>
  obtain t|⟨c,r,t⟩:=An s.left
  .exact uB X v g i t (C s tok A (d.symm.trans (QJ t)) g i)
  .have d:=(QI t).symm.trans d
   have x:asc [c]:=Ap i (by rw[t];exact .head _)
   have e:(dh s).2.left.length+1=s.left.length:=by rw[my,t];rfl
   have u:=uE i;refine uC X v g i t<|Lc X _ bK ?_
   by_cases l:ub c=bK
   .rw[if_pos l] at d
    exact gu (inV_ws.trans (congrArg aE l))<|F _ _ tok d.symm
   .rw[if_neg l] at d
    refine gu (inV_ws.trans (congrArg aE (Bool.eq_false_iff.mpr l))) ?_;by_cases m:c=92
    .rw[if_pos m] at d
     exact gu (Im x zq (congrArg (λc=>[c]) m)) (tx (Ao X _ bK) (xo X (nR v) (cx (nR (c_ e)) g) u (uD (Sk o e) (qI o g (uE u) w (by rw[Ep];exact e) (dU _) d))))
    .rw[if_neg m] at d
     exact gu (Eo x zq λq=>m (nM q))<|uD (a:=tok) (b:=[c]) (Le o e) (qI o g u w (k:=0) ((congrArg (·+1) (iH _)).trans e) (d9 _) d)
inductive oInv (σ:Sg) (n ms j pb:Nat) (fin:Wd×LS):Nat->Mm->Sg->Prop
 |run {s:LS} {ch:Option V} {f:Nat}:s.left.length<=100000->asc s.left->s.left.length<=f->fM (f+1) s=fin->oInv σ n ms j pb fin (s.left.length+1) [aE (aV n),aE (sv []),aE (aV σ.length),ch] (nI σ n ms j pb s bK)
 |dead {tok:Wd} {s:LS} {ch:Option V}:fin=(tok,s)->oInv σ n ms j pb fin 0 [aE (aV n),aE (sv tok),aE (aV σ.length),ch] (nI σ n ms j pb s cu)
noncomputable def CA (tok:Wd)(t:LS):Wd×LS:=((ji (t.left.length+1) tok t).1,(ji (t.left.length+1) tok t).2.1)
theorem Tn (h:s.left=c::r):fM (f+1) s=if ub c then fM f (dh s).2 else if c=34 then((fJ ((dh s).2.left.length+1) [] (dh s).2).1,(fJ ((dh s).2.left.length+1) [] (dh s).2).2.1) else if c=92 then CA (dh (dh s).2).1.toList (dh (dh s).2).2 else CA [c] (dh s).2:=by
 have e:dh s=(aE c,(dh s).2):=Prod.ext (Aq h) rfl;show(match dh s with|(aT,s)=>_|(aE c,s)=>_)=_
 rw[e];generalize (dh s).2=t;show(if ub c then _ else if c=34 then _ else _)=(if ub c then _ else if c=34 then _ else _)
 by_cases a:c=92
 .rw[if_pos a,if_pos a]
  rcases dh t with⟨_|_,_⟩ <;>rfl
 .rw[if_neg a,if_neg a]
  rfl
theorem To (h:s.left=[]):fM (f+1) s=([],s):=by
 have e:dh s=(aT,s):=by unfold dh;rw[h]
 show(match dh s with|(aT,s)=>_|(aE c,s)=>_)=_
 rw[e]
section
variable {KK:V->Sg->Prop}
theorem QK (X:LXat σ m b L j c f d)(g:ClOs σ.length σ)(h:KK (sv tok) (lJ σ m j b c t)):lu bK σ.length KK (dH (sv tok)) M (nI σ m b j c t a):=by
 have e:(nI σ m b j c t a).take σ.length=lJ σ m j b c t:=by dsimp only[nI];rw[AN (by rw[ke];exact d9 _),lY (by rw[ke];exact d9 _)]
 refine⟨by unfold nI;rw[dJ,ke];exact dU _,trivial,?_,?_⟩
 .rw[e];exact Cz X g t
 .rw[e];exact h
theorem xp (h:σ[k]?=aE (cM l))(a:l.length<=1000000):ka lv σ (aV k)=aE (!l.isEmpty):=by dsimp only[ka,sD];rw[h];dsimp only;rw[if_pos a]
theorem Y4 (F:FN C Kk)(H:m5 C n (ZL lv) p7 oU)(h:n6 (lv+1) 19 vs σ KK)(rs:Rels ρ s.heap as vs)(st:St C ρ σ s)(hA:Room (n+10) A):Calls C A 224 as ρ s KK Ee:=by
 obtain⟨h3,m,ms,L,j,Q,a4,t,rfl,X,D,G,hk⟩:=h;have R:2<=lv:=mM h3;refine hR (F 29) λfd I a1 a2=>?_;have a3:=st.closed;refine Qx (m:=n) (tr:=bK) (F 0) ((F 1 0) 8 (dd rfl)) I a1 a2 H X.n rfl rfl rs st (hA.le (eY (dd rfl) _)) ?_ ?_
 .exact mj X.n (.inr rfl) rfl (dd rfl) (w:=aV Q) rfl rfl<|H7 (xp X.pb (eW _))<|⟨rfl,rfl,trivial⟩
 generalize a0:fM (t.left.length+1) t=o at hk;revert o;refine Jj ?_;set_option tactic.hygienic false in intros
 have e0:σ++[gQ bK (aV m)]=nI σ m ms j Q t bK:=by unfold nI;rw[uA X]
 rw[e0];have em:(cC "":V)=sv []:=rfl;rw[em];have l:∀(M:Mm) {i s' J},o=(i,s')->lu bK σ.length KK (dH (sv i)) M (nI σ m ms j Q s' J):=λM {i s' J} e=>QK X a3 (by rw[e] at hk;exact hk)
 refine sg (oInv σ m ms j Q o) ⟨_,.run D G (d9 _) a0⟩ ⟨λ_ _=>True,qC X R D G (by rcases t.left with _|_<;>trivial)⟩ ?_
 intro N M a5 h;induction h with
 |dead h=>exact xn R (l [] h)|@run s1 ch f hs ha v d=>
  obtain U|⟨c,r,U⟩:=An s1.left
  .exact uB X R hs ha U (l [] (d.symm.trans (To U)))
  have d:=(Tn U).symm.trans d;have x:asc [c]:=Ap ha (by rw[U];exact .head _)
  have k:(dh s1).2.left.length+1=s1.left.length:=by rw[my,U];rfl
  have p:(dh s1).2.left.length<=100000:=cx (nR (c_ k)) hs;have u:=uE ha;refine uC X R hs ha U (Lc X _ bK ?_);by_cases hw:ub c=bK
  .rw[if_pos hw] at d
   refine gu (inV_ws.trans (congrArg aE hw)) ?_;rcases f with _|f
   .exact absurd (k.trans (Nat.le_zero.mp v)) (v8 _)
   exact⟨_,ym (Oq (c_ k)),.run p u (F7 (cx (c_ k) v)) d⟩
  rw[if_neg hw] at d;refine gu (inV_ws.trans (congrArg aE (Bool.eq_false_iff.mpr hw))) ?_;by_cases y:c=34
  .rw[if_pos y] at d
   exact gu (Im x Hb (congrArg (λc=>[c]) y))<|Ti X R (tok:=[]) (cx (c_ (iH _)) (cx p (cZ rfl))) p u (d9 _) rfl (λM W i e=>(by rw[e] at d;exact l [] d.symm)) (λW i Y e _ _=>(by rw[e] at d;exact⟨0,ek _,.dead d.symm⟩))
  rw[if_neg y] at d;refine gu (Eo x Hb λq=>y (nM q)) ?_
  have P:∀{W:LS} {i:Wd} {Y:Option V} {Kb:Out->Mm->Sg->Prop},W.left.length<=100000->asc W.left->i.length<=1->CA i W=o->
   (∀M z g,o=(g,z)->Kb (dH (sv g)) M (nI σ m ms j Q z bK))->(∀z g Z,o=(g,z)->Kb de [aE (aV m),aE (sv g),aE (aV σ.length),Z] (nI σ m ms j Q z cu))->DL (ZL lv) KN [aE (aV m),aE (sv i),aE (aV σ.length),Y] (nI σ m ms j Q W bK) Kb:=by
   intro W i Y Kb b1 b2 b3 v k1 k2;refine Tj X R (cx (eT b3 b1) (cZ rfl)) b1 b2 (d9 _) rfl (λM z g e=>k1 M z g ?_) (λz g Z e _ _=>k2 z g Z ?_)
   .unfold CA at v;rw[e] at v;exact v.symm
   .unfold CA at v;rw[e] at v;exact v.symm
  by_cases B:c=92
  .rw[if_pos B] at d
   refine gu (Im x zq (congrArg (λc=>[c]) B)) (tx (Ao X _ bK) (xo X (nR R) p u ?_));have l1:(dh (dh s1).2).1.toList.length<=1:=by rcases(dh (dh s1).2).1 with _|_<;>first|exact eW _|exact d9 _
   exact uD (a:=[]) (cx (eY l1 _) (cZ rfl))<|P (cx (by rw[my,nV];exact gZ ..) p) (uE u) l1 d (λ_ _ _ e=>l [] e) λ_ _ _ e=>⟨0,ek _,.dead e⟩
  .rw[if_neg B] at d
   exact gu (Eo x zq λq=>B (nM q))<|uD (a:=[]) (b:=[c]) (cZ rfl)<|P p u (d9 _) d (λ_ _ _ e=>l [] e) λ_ _ _ e=>⟨0,ek _,.dead e⟩
end
noncomputable abbrev Ch:=Wd×Wd
theorem ng (a b):df (a++b)=df a++df b:=by unfold df;simp
theorem eA (a b):(df (a++b)).length=(df a).length+(df b).length:=by rw[ng,dJ]
theorem jd (pr)(x:Ch):iM (pr++[x])=(pr,x):=by unfold iM;simp
noncomputable def oF (W:Nat)(order:Wd)(s:VS)(Q:List Ch):VS:=Q.foldl (fy W order) s
theorem sL (h:c+(df (pr++[x])).length<=W):fy W order ⟨lines,pr,c⟩ x=⟨lines,pr++[x],c⟩:=by unfold fy;simp only[uz];exact cn ((if_neg (jV h)) ..) rfl
theorem CB (h:fG (pr++[x]) order=aT\/(df (pr++[x])).length<=W):fy W order ⟨lines,pr,0⟩ x=⟨lines,pr++[x],0⟩:=by
 by_cases a:(df (pr++[x])).length<=W
 .exact sL (d8 (Jp a))
 .have h:=h.resolve_right a
  unfold fy;simp only[uz];refine cn (if_pos (yi (jU a) (iH _).symm) ..) (cn (h ..) ?_);simp only[jd];exact cn ((if_neg (FA _)) ..) rfl
theorem Ar (a:c+(df (pr++[x])).length>W)(h:fG (pr++[x]) order=aE i):fy W order ⟨lines,pr,c⟩ x=⟨lines++[df ((pr++[x]).take i)],(pr++[x]).drop i,0⟩:=by unfold fy;simp only[uz];exact cn ((if_pos (a)) ..) (cn (h ..) rfl)
noncomputable def f9 (pr:List Ch):List Ch:=if(iM pr).2≠([32],[]) then(iM pr).1++[(iM pr).2] else(iM pr).1
theorem jO (s):dX s=⟨if s.c+(df (f9 s.pr)).length>0 then s.lines++[df (f9 s.pr)] else s.lines,[],0⟩:=rfl
theorem zr:f9 []=[([],[])]:=dd rfl
theorem Er (a:x≠([32],[])):f9 (pr++[x])=pr++[x]:=by unfold f9;exact cn (jd ..) (cn (if_pos a ..) rfl)
theorem vN (h:pr≠[]->(pr.getLast?.map (·.2))≠aE [])(a:c+(df pr).length>0):dX ⟨lines,pr,c⟩=⟨lines++[df pr],[],0⟩:=by
 simp only[jO];rcases x_ pr with rfl|⟨q,x,rfl⟩
 .have e:df [(([]:Wd),([]:Wd))]=[]:=rfl
  simp only[zr,e];refine cn ((if_pos (by simpa [df] using a)) ..) ?_
  rfl
 .rw[qT] at *
  have b:x≠([32],[]):=by
   intro e;have:=h (by simp)
   rw[e] at this;simp at this
  simp only[Er b];exact cn ((if_pos (a)) ..) rfl
theorem CD (a:c>0)(b:c+(df (pr++[x])).length>W)(h:fG (pr++[x]) order=aT)(d:pr≠[]->(pr.getLast?.map (·.2))≠aE []):fy W order ⟨[],pr,c⟩ x=⟨[df pr],[(if x.1=[] then[32] else x.1,x.2)],0⟩:=by
 unfold fy;simp only[uz];refine cn ((if_pos (b)) ..) (cn (h ..) ?_);simp only[jd];refine cn (if_pos a ..) (cn ((vN d (fl a (eO ..))) ..) ?_);rfl
theorem CE:∀(Q pr:List Ch),c+(df (pr++Q)).length<=W->oF W order ⟨lines,pr,c⟩ Q=⟨lines,pr++Q,c⟩:=by
 intro a;induction a with
 |nil=>exact @λpr _=>by simp[oF]
 |cons x Q b=>
  exact @λpr h=>by
   have d:c+(df (pr++[x])).length<=W:=by
    rw[eA] at h ⊢;have:(df (x::Q)).length=(df [x]).length+(df Q).length:=by refine ie (eA ..) ?_;rfl
    exact cx (eY (eY (this▸eO ..) _) _) h
   show oF W order (fy W order ⟨lines,pr,c⟩ x) Q=_;refine cn (sL d ..) (cn ((b (pr++[x]) (by rw[j5];exact h)) ..) ?_)
   simp
theorem uF:∀(Q pr:List Ch),((df (pr++Q)).length<=W\/∀i,pr.length<i->i<=(pr++Q).length->fG ((pr++Q).take i) order=aT)->oF W order ⟨lines,pr,0⟩ Q=⟨lines,pr++Q,0⟩:=by
 intro b;induction b with
 |nil=>exact @λpr _=>by simp[oF]
 |cons x Q c=>
  exact @λpr h=>by
   have a:fG (pr++[x]) order=aT\/(df (pr++[x])).length<=W:=by
    rcases h with h|h
    .refine .inr ?_
     rw[eA] at h ⊢;have:(df (x::Q)).length=(df [x]).length+(df Q).length:=by refine ie (eA ..) ?_;rfl
     exact cx (eY (this▸eO ..) _) h
    .refine .inl ?_
     have:=h (pr.length+1) (jG _) (by simp)
     rwa [show(pr++x::Q).take (pr.length+1)=pr++[x] by simp[Bc,lY]] at this
   show oF W order (fy W order ⟨lines,pr,0⟩ x) Q=_;rw[CB a,c (pr++[x]) ?_]
   .simp
   .refine cn (j5 ..) ?_
    rcases h with h|h
    .exact .inl h
    .exact .inr λi a d=>h i (by simp at a;exact qY a) d
theorem Et:∀(Q a:List Ch) (lines:List Wd) (c:Nat),(a≠[]->c+(df (pr++a)).length<=W)->c+(df (pr++a++Q)).length>W->(∀i,i<=(a++Q).length->0<i->fG (pr++(a++Q).take i) order=aE pr.length)->(Q≠[])->((df (a++Q)).length<=W\/∀i,0<i->i<=(a++Q).length->fG ((a++Q).take i) order=aT)->oF W order ⟨lines,pr++a,c⟩ Q=⟨lines++[df pr],a++Q,0⟩:=by
 intro j;induction j with
 |nil=>exact @λ_ _ _ _ _ _ k _=>absurd rfl k
 |cons x Q l=>
  exact @λa lines c r g h _ b=>by
   show oF W order (fy W order ⟨lines,pr++a,c⟩ x) Q=_;by_cases d:c+(df (pr++a++[x])).length<=W
   .refine cn (sL d ..) ?_
    have m:Q≠[]:=by intro e;rw[e] at g;exact absurd g (jV d)
    have:=l (a++[x]) lines c (λ_=>by refine ie (j5 ..) ?_;exact d) (by simpa using g) (by simpa using h) m (by simpa using b)
    rw[<-j5] at this;refine cn (this ..) ?_;simp
   .have f:=h (a.length+1) (by simp) (ek _)
    rw[show(a++x::Q).take (a.length+1)=a++[x] by simp[Bc,lY],<-j5] at f
    refine cn ((Ar (jU d) f) ..) ?_;have n:(pr++a++[x]).take pr.length=pr:=by simp[j5]
    have o:(pr++a++[x]).drop pr.length=a++[x]:=by simp[j5]
    rw[n,o,uF Q (a++[x]) ?_]
    .simp
    .have p:a++[x]++Q=a++x::Q:=j5 ..
     refine cn (p ..) ?_;rcases b with b|b
     .exact .inl b
     .exact .inr λi d q=>b i (by simp at d;exact nT (by assumption)) q
theorem xq:∀{n:Nat},(∀i,1<=i->i<=n->gI pr a i=cu)->iU pr a n=aT:=by
 intro b;induction b with
 |zero=>exact @λ_=>rfl
 |succ n c=>
  exact @λh=>by dsimp only[iU];exact cn ((h (n+1) (ek _) (d9 _)) ..) (cn (if_neg dF ..) (c λi d e=>h i d (kM e)))
theorem Eu (b:1<=m)(d:gI pr c m=bK):∀{n:Nat},m<=n->(∀i,m<i->i<=n->gI pr c i=cu)->iU pr c n=aE m:=by
 intro f;induction f with
 |zero=>exact @λa _=>absurd b (jV a)
 |succ n g=>
  exact @λa h=>by
   dsimp only[iU];by_cases e:m=n+1
   .subst e;exact cn (if_pos d ..) rfl
   .exact cn ((h (n+1) (pE a e) (d9 _)) ..) (cn (if_neg dF ..) (g (mM (pE a e)) λi b j=>h i b (kM j)))
theorem CF:∀{order:Wd},(∀a∈order,∀i,1<=i->i<=pr.length-1->gI pr a i=cu)->fG pr order=aT:=by
 intro b;induction b with
 |nil=>exact @λ_=>rfl
 |cons c r d=>
  exact @λh=>by dsimp only[fG];refine cn (xq (h c (.head _)) ..) (cn ((d λa e=>h a (.tail _ e)) ..) ?_);rfl
theorem CG (e:iU pr b (pr.length-1)=aE m):∀{pre:Wd},(∀d∈pre,∀i,1<=i->i<=pr.length-1->gI pr d i=cu)->fG pr (pre++b::a)=aE m:=by
 intro f;induction f with
 |nil=>
  exact @λ_=>by show((iU pr b (pr.length-1)).orElse λ_=>fG pr a)=_;refine cn (e ..) ?_;rfl
 |cons c r g=>
  exact @λh=>by show((iU pr c (pr.length-1)).orElse λ_=>fG pr (r++b::a))=_;refine cn (xq (h c (.head _)) ..) (cn ((g λd j=>h d (.tail _ j)) ..) ?_);rfl
def Run (a:List fY)(b:Nat)(X:List Ch):Prop:=∀i x,X[i]?=aE x->∃t,a[b+i]?=aE t/\x.2=t.2.1/\(0<i->x.1=t.1)
def As (w:Wd):Prop:=w=[]\/w=[32]\/w=[9]\/w=[32,9]
def pe (a:List fY):Prop:=∀t∈a,As t.1/\t.2.1≠[]/\t.2.2.head?≠aE 120
theorem We (b:1<=i)(a:i<=n-1):i<n:=by
 rcases n with _|n
 .exact absurd (cx b a) (dd rfl)
 .exact j7 a
theorem Y5 (b:c=32\/c=9):(decide (a=32\/a=9)&&(aE c==aE a))=decide (a∈[c]):=by
 by_cases h:a=c
 .subst h;rcases b with rfl|rfl<;>rfl
 .exact cn ((beq_eq_false_iff_ne.mpr (λe=>h (dk e).symm)) ..) (cn (P4 ..) (cn ((decide_eq_false (λq=>h (List.mem_singleton.mp q))) ..) rfl))
theorem w7 {α:Type}[Inhabited α]{l:List α}{i:Nat}{x d:α}(h:l[i]?=aE x):l.getD i d=x:=by simp[kK,h]
theorem ma {a:List fY}{X:List Ch}(R:Run a b X)(p:pe a)(f:1<=i)(k:i<=X.length-1):gI X c i=decide (c∈ix a (b+i)):=by
 obtain⟨x,l⟩:∃x,X[i]?=aE x:=⟨_,gK (We f k)⟩;obtain⟨y,m⟩:∃y,X[i-1]?=aE y:=⟨_,gK (gG (vC 0x704808700888708b0a190e1909 rfl (sA ..) k (sC (d8 (BP f)))))⟩;refine hR (R i x l) λt n q d=>hR (R (i-1) y m) λu o g _=>?_;have d:=d (f);unfold gI ix;have r:b+(i-1)=b+i-1:=eC (d8 (vC 0x704b0a010e61432c2444398088b0a19 rfl (sC (d8 (BP f))) (sB ..))) (d8 (vC 0x730a09010e60232c284438458530919 rfl (sB ..) (sC (d8 (Ju f)))));rw[r] at o;refine cn (w7 l ..) (cn (w7 m ..) (cn (w7 n ..) (cn (w7 o ..) (cn (d ..) (cn (g ..) ?_)))));have j:=(p t (jS n)).1;have s:(decide (c=32\/c=9)&&t.1.head?==aE c)=decide (c∈t.1.take 1):=by
  rcases j with e|e|e|e<;>refine cn (e ..) ?_
  .exact P4 _
  .exact Y5 (.inl rfl)
  .exact Y5 (.inr rfl)
  .exact Y5 (.inl rfl)
 refine cn (s ..) ?_;have v:(u.2.1.getLast?==aE c)=decide (c∈u.2.1.getLast?.toList):=by
  induction u.2.1.getLast? with
  |none=>exact rfl|some z=>
   simp only[Option.toList,ki];by_cases h:z=c
   .simp[h]
   .simp[h,eN h]
 refine cn (v ..) ?_;simp[OT]
theorem CH (sep):∀l:List Wd,Gz (fv sep) (l.map fv)=fv (f_ sep l)
 |[]=>rfl|[x]=>by simp[Gz,f_]
 |x::y::r=>by
  have c:=CH sep (y::r);rw[fS,fS,Gz]
  .rw[fS] at c
   rw[c,w6,w6]
   congr 1
   dsimp only[f_];exact j5 ..
  .intro h;cases h
theorem lj:∀l:List Wd,f_ [] l=l.flatten
 |[]=>rfl|[x]=>rfl|x::y::r=>by have c:=lj (y::r);unfold f_ at *;simp only[xU,kj,kj,c];exact rfl
theorem tR (sep)(l):iG (fv sep) (l.map fv)=fv (f_ sep l):=by dsimp only[iG];simp only[StrLaws.glued_eq_join,CH]
theorem mB:fE ""=fv []:=dd rfl
noncomputable def Pu (pr:List (Wd×Wd)):List (Str×Str):=pr.map λp=>(fv p.1,fv p.2)
theorem Lf:∀pr:List (Wd×Wd),Ig (pr.map Cs)=aE (Pu pr):=by
 intro c;induction c with
 |nil=>exact rfl|cons p r d=>
  exact by show(Ig (r.map Cs)).map _=_;simp only[d];rfl
theorem sM:∀pr:List (Wd×Wd),gU (Pu pr)=(df pr).length:=by
 intro c;induction c with
 |nil=>exact rfl|cons p r d=>
  exact by have:=d;unfold gU Pu df at *;simp only[fS,nY,lM,dJ,gJ] at *;exact congrArg (_+·) this
theorem CI (pr):Ag (Pu pr)=fv (df pr):=by
 dsimp only[Ag,Pu];simp only[mQ];have e:((λp:Str×Str=>iG "" [p.1,p.2])∘λp:Wd×Wd=>(fv p.1,fv p.2))=λp:Wd×Wd=>fv (p.1++p.2):=by
  funext p
  show iG (fE "") [fv p.1,fv p.2]=_;have:=tR [] [p.1,p.2];simp only[mB];simp only[show[fv p.1,fv p.2]=[p.1,p.2].map fv from rfl,this,lj];simp
 simp only[e];show iG (fE "") _=_;simp only[mB,show(pr.map λp:Wd×Wd=>fv (p.1++p.2))=(pr.map λp=>p.1++p.2).map fv by rw[mQ];rfl,tR,lj]
 congr 1
theorem QL (c:(df pr).length<=1000000)(d:pr.length<=1000000):m9 (Pu pr)=bK:=by dsimp only[m9];rw[sM];dsimp only[Pu];simp[c,d]
section
variable {n a b:Nat}
theorem VFat.ne (X:VFat σ n a b W order s):a≠b/\n≠a/\n≠b:=by
 refine⟨λe=>?_,λe=>?_,λe=>?_⟩
 .have:=X.a;simp only[e,X.b] at this;exact oX this rfl
 .have:=X.n;simp only[e,X.a] at this;exact oX this rfl
 .have:=X.n;simp only[e,X.b] at this;exact oX this rfl
theorem zt (X:VFat σ n a b W order s):eu σ a b s=σ:=by unfold eu;rw[qB X.a,qB X.b]
theorem VFat.put (X:VFat σ n a b W order s)(t:VS):VFat (eu σ a b t) n a b W order t:=by refine dN X.ne λc d e=>?_;dsimp only[eu];exact⟨(by rw[fj (eN e),fj (eN d)];exact X.n),(by rw[fj (eN c)];exact pd X.a),pd (o':=r_ s.pr s.c) (by rw[fj c];exact X.b)⟩
theorem w8 (h:a≠b)(t)(pr)(c):(eu σ a b t).set b (r_ pr c)=eu σ a b ⟨t.lines,pr,c⟩:=by unfold eu;simp only[ri]
theorem Ew (h:a≠b)(t)(l):(eu σ a b t).set a (mw l)=eu σ a b ⟨l,t.pr,t.c⟩:=by dsimp only[eu];rw[nX _ _ (eN h),ri]
theorem xr (X:VFat σ n a b W order s)(c:(df s.pr).length<=1000000)(d:s.pr.length<=1000000)(e:s.c<=1000000):tP σ (aV b)=aE (Pu s.pr,(s.c:Int)):=by
 dsimp only[tP];rw[X.b];dsimp only[r_];rw[Lf];show(if(iT [((6:Nat),aO s.c)]&&m9 (Pu s.pr)&&decide ((0:Int)<=s.c)&&decide ((s.c:Int)<=1000000))=bK then aE (Pu s.pr,(s.c:Int)) else aT)=_
 rw[if_pos]
 .have:iT [((6:Nat),aO s.c)]=bK:=by rfl
  simp only[eB,decide_eq_true_eq];exact⟨⟨⟨this,QL c d⟩,lD _⟩,Int.ofNat_le.mpr e⟩
end
theorem gb (X:VFat σ n a b W order c)(s)(d:m<12)(h:[((0:Nat),aO W),(1,sv [45,45]),(2,aO 2),(3,sv order),(4,aV a),(5,aV b)].lookup m=aE w)(e:w.isRaw=cu)(q:Kk w):vW (eu σ a b s) (aV n) m Kk:=mj (X.put s).n (.inl rfl) rfl d h e q
theorem CJ (X:VFat σ n a b W order g)(i:2<=lv)(j:s.pr.length<=10000)(h:Kk (Cs (iM s.pr).2) (eu σ a b ⟨s.lines,(iM s.pr).1,s.c⟩)):n6 lv 15 [aV b] (eu σ a b s) Kk:=by
 refine⟨i,b,s.pr.map Cs,_,rfl,(X.put s).b,by rfl,by rfl,by simpa using j,λe=>?_,λl x e=>?_⟩
 .have e:s.pr=[]:=by simpa using e
  have c:=h;unfold iM at c;rw[e] at c;have f:(⟨s.lines,([]:List (Wd×Wd)),s.c⟩:VS)=s:=by rw[<-e]
  simp only[Os] at c;rw[f] at c;exact c
 .rcases x_ s.pr with d|⟨q,y,d⟩
  .rw[d] at e;simp at e
  .rw[qT] at d
   rw[d,kx,fS,G2] at e;obtain⟨k,f⟩:=OD e rfl;simp only[List.cons.injEq,and_true] at f;subst k;subst f;rw[d,jd] at h;have:=w8 X.ne.1 (σ:=σ) s q s.c;unfold r_ at this;rw[this];exact h
theorem oG (X:VFat σ n a b W order c)(d:1<=lv)(e:s.pr.length<=10000)(h:Kk dD (eu σ a b ⟨s.lines,s.pr++[(x,y)],s.c⟩)):n6 lv 13 [aV b,sv x,sv y] (eu σ a b s) Kk:=by
 refine⟨d,b,s.pr.map Cs,_,_,_,rfl,(X.put s).b,by rfl,by rfl,by simpa using e,?_⟩
 have:=w8 X.ne.1 (σ:=σ) s (s.pr++[(x,y)]) s.c;unfold r_ at this;rw[kx] at this;rw[<-this] at h;exact h
theorem CK (X:VFat σ n a b W order c)(d:1<=lv)(f:(df s.pr).length<=1000000)(g:s.pr.length<=1000000)(i:s.c<=1000000)(h:Kk (aO ((s.c+(df s.pr).length:Nat):Int)) (eu σ a b s)):qq lv 0 [aV b] (eu σ a b s) Kk:=by
 refine⟨_,rfl,?_⟩;have e:qj (eu σ a b s) (aV b)=aE ((s.c+(df s.pr).length:Nat):Int):=by
  dsimp only[qj];rw[xr (X.put s) f g i];simp only[sZ,sM]
  congr 1
 rw[L4 d e];exact h
theorem CL (X:VFat σ n a b W order c)(d:1<=lv)(f:(df s.pr).length<=1000000)(g:s.pr.length<=1000000)(i:s.c<=1000000)(h:Kk (sv (df s.pr)) (eu σ a b s)):qq lv 7 [aV b] (eu σ a b s) Kk:=by
 refine⟨d,_,rfl,?_⟩;have e:Cv (eu σ a b s) (aV b)=aE (fv (df s.pr)):=by dsimp only[Cv];rw[xr (X.put s) f g i];simp only[sZ,CI]
 rw[e];exact h
theorem QM (X:VFat σ n a b W order c)(d:2<=lv)(e:(df s.pr).length<=1000000)(f:s.pr.length<=1000000)(g:s.c<=1000000)(h:Kk (dB ((s.c:Int)==0&&(decide ((s.c:Int)+(df s.pr).length=0)||Txt.isspace (fv (df s.pr))))) (eu σ a b s)):n6 lv 17 [aV b] (eu σ a b s) Kk:=by refine⟨d,_,_,_,rfl,xr (X.put s) e f g,?_⟩;rw[sM,CI];exact h
theorem xu (X:VFat σ n a b W order c)(d:s.lines.length<=1000000)(h:Kk dD (eu σ a b ⟨s.lines++[w],s.pr,s.c⟩)):lG 0 [aV a,sv w] (eu σ a b s) Kk:=by
 dsimp only[lG,Sb];simp only[(X.put s).a,mw];refine⟨by simpa using d,?_⟩
 have:=Ew X.ne.1 (σ:=σ) s (s.lines++[w]);unfold mw at this;rw[kx] at this;rw[<-this] at h;exact h
theorem xw (X:VFat σ n a b W order d)(e:1<=lv)(f:s.pr.length<=10000)(g:new.length<=10000)(i:vs=[aV b]/\new=[]\/vs=[aV b,cw (new.map Cs)])(h:Kk dD (eu σ a b ⟨s.lines,new,0⟩)):n6 lv 16 vs (eu σ a b s) Kk:=by
 refine⟨e,b,s.pr.map Cs,[(6,aO s.c)],new.map Cs,?_,(X.put s).b,by rfl,ek _,by simpa using f,by simpa using g,?_⟩
 .rcases i with⟨c,j⟩ |c
  .exact .inl ⟨c,by rw[j];rfl⟩
  .exact .inr c
 .have:=w8 X.ne.1 (σ:=σ) s new 0
  unfold r_ at this;rw[<-this] at h;exact h
theorem mC (X:VFat σ n a b W order c)(s)(d:[((6:Nat),aO s.c)].lookup m=aT)(e:(if m=12 then aE 0 else(methL.findIdx? λx=>x.1==178&&x.2.1==m).map (·+10))=aE k):(ZL lv).res (eu σ a b s) (aV b) m=aE k:=Ak (X.put s).b rfl d e
theorem QN (X:VFat σ n a b W order c)(s):(ZL lv).resb (eu σ a b s) (aV b) 14=aE 13:=by simp only[VY];dsimp only[Ce];simp only[(X.put s).b,r_];rfl
theorem Hc (X:VFat σ n a b W order c)(s):(ZL lv).res (eu σ a b s) (aV a) 12=aE 0:=by simp only[XW];dsimp only[uw];simp only[(X.put s).a,mw];rfl
theorem QO:fE " "=fv [32]:=dd rfl
theorem Lg (a:asc e.1)(b:asc e.2):A5 σ (Cs e) (dj [cC " ",cC ""])=aE (decide (e≠([32],[]))):=by
 have c:hZ (w4 σ (Cs e))=bK:=by show(iZ (rW [eJ (fv e.1),eJ (fv e.2)])&&decide (gX (rW [eJ (fv e.1),eJ (fv e.2)])<=64))=bK;simp[iZ,jT,kb a,kb b,gX,lN]
 have d:hZ (w4 σ (dj [cC " ",cC ""]))=bK:=by show hZ (rW [eJ (fE " "),eJ (fE "")])=bK;decide+kernel
 dsimp only[A5];rw[if_pos ⟨c,d⟩];show aE (!(j0 (rW [eJ (fv e.1),eJ (fv e.2)]) (rW [eJ (fE " "),eJ (fE "")])))=_;rw[QO,mB];simp only[j0,FV,rH,FL];obtain⟨x,y⟩:=e
 congr 1
 by_cases f:x=[32]<;>by_cases g:y=[]<;>simp[f,g]
theorem CM (h:qp w):B2 (fv w)=cu:=by
 refine hR h λc d f g=>?_;dsimp only[B2];rw[Bool.and_eq_false_iff];right;rw[Array.all_eq_false];refine eF (mI d) λi a=>?_;have b:i<w.length:=(List.getElem?_eq_some_iff.mp a).1;refine⟨i,by simpa [fv] using b,?_⟩
 have e:(fv w).cps[i]'(by simpa [fv] using b)=c:=by unfold fv;simp;exact(List.getElem?_eq_some_iff.mp a).2
 rw[e];have:c=97\/c=98\/c=99\/c=100\/c=101:=(by decide+kernel:∀c<102,97<=c->c=97\/c=98\/c=99\/c=100\/c=101) c (j7 g) f
 rcases this with rfl|rfl|rfl|rfl|rfl<;>decide
theorem xx (pr):(iM pr).1.length<=pr.length/\(df (iM pr).1).length<=(df pr).length/\(df ((iM pr).1++[(iM pr).2])).length<=(df pr).length/\(iM pr).1.length+1<=pr.length+1:=by
 rcases x_ pr with rfl|⟨q,x,rfl⟩
 .decide
 .rw[qT,jd,eA]
  simp
theorem CN (h:∀p∈pr,asc p.1/\asc p.2):(asc (iM pr).2.1/\asc (iM pr).2.2)/\∀p∈(iM pr).1,asc p.1/\asc p.2:=by
 rcases x_ pr with rfl|⟨q,x,rfl⟩
 .refine⟨⟨λc a=>?_,λc a=>?_⟩,λp b=>?_⟩
  .cases a
  .cases a
  .cases b
 .rw[qT] at *
  rw[jd];exact⟨h x (mZ _ (.head _)),λp b=>h p (by simp[b])⟩
theorem Lh (h:qp (df pr)):qp (df (f9 pr)):=by
 rcases x_ pr with rfl|⟨q,x,rfl⟩
 .refine cU h λc a _=>?_;cases a
 .rw[qT] at *
  dsimp only[f9];rw[jd];by_cases e:x=([32],[])
  .rw[if_neg (by simpa using e)]
   refine hR h λc a d f=>?_;rw[ng,e] at a;rcases List.mem_append.mp a with b|b
   .exact⟨c,b,d,f⟩
   .simp[df] at b;exact gc (gp 0x3800000000838087008000000030f rfl (c_ b) d)
  .rw[if_pos (e)];exact h
section
variable {KK:V->Sg->Prop}
theorem Iq (F:FN C Kk)(H:m5 C n (ZL lv) p7 oU)(h:n6 (lv+1) 10 vs σ KK)(rs:Rels ρ s.heap as vs)(st:St C ρ σ s)(hA:Room (n+10) A):Calls C A 56 as ρ s KK Ee:=by
 obtain⟨h3,m,a,b,W,L,v,rfl,X,⟨s1,z,s3,s4,s5,s6⟩,t,j⟩:=h;have M:2<=lv:=d8 (gp 0x3985008d070930a01 rfl h3);refine eF (F 7) λfd I=>gH H I (r:=1) (tr:=cu) rfl ?_ rs st (hA.le (d8 yP));obtain⟨B,pb⟩:=CN s6;refine qs (xx v.pr) λN l2 l3 l4=>?_;obtain⟨tl,ht⟩:∃tl,tl=body_vf_newline.tl.tl:=⟨_,rfl⟩
 have u:(df (f9 v.pr)).length<=100000/\(f9 v.pr).length<=1001:=
  iteInduction (motive:=λx=>(df x).length<=100000/\x.length<=1001) (λ_=>⟨cx l3 s3,by rw[dJ];exact kQ (cx N z)⟩) (λ_=>⟨cx l2 s3,kM (cx N z)⟩)
 have D:1<=lv:=nR M;have P:(df (f9 v.pr)).length<=1000000:=cx u.1 (cZ rfl);have Q:(f9 v.pr).length<=1000000:=cx u.2 (cZ rfl);have R:v.c<=1000000:=cx s1 (cZ rfl);have e:∀{x:Option V},dp (ZL lv) body_vf_newline.tl.tl [aE (aV m),x] (eu σ a b ⟨v.lines,f9 v.pr,v.c⟩) (lu cu σ.length KK):=by
  intro x;have p:∀{d:List Wd} {G:List (Wd×Wd)} {c:Nat},G.length<=1001->KK dD (eu σ a b ⟨d,[],0⟩)->dp (ZL lv) body_vf_newline.tl.tl.tl [aE (aV m),x] (eu σ a b ⟨d,G,c⟩) (lu cu σ.length KK):=λ{d G c} o U=>gb X _ (dd rfl) rfl rfl (tx (k:=16) (mC X _ rfl (dd rfl)) (xw X D (s:=⟨d,G,c⟩) (cx o (cZ rfl)) (new:=[]) (eW _) (.inl ⟨rfl,rfl⟩) U))
  have w:∀{Y:KO},Y de [aE (aV m),x] (eu σ a b ⟨v.lines++[df (f9 v.pr)],f9 v.pr,v.c⟩)->dp (ZL lv) body_vf_newline.tl.tl.hd.thn.hd.els [aE (aV m),x] (eu σ a b ⟨v.lines,f9 v.pr,v.c⟩) Y:=λ{Y} j=>gb X _ (dd rfl) rfl rfl (tx (Hc X _) (gb X _ (dd rfl) rfl rfl (CL X D (s:=⟨v.lines,f9 v.pr,v.c⟩) P Q R (xu X (s:=⟨v.lines,f9 v.pr,v.c⟩) (cx s4 (cZ rfl)) j))))
  rw[jO] at j;refine gb X _ (dd rfl) rfl rfl (CK X D (s:=⟨v.lines,f9 v.pr,v.c⟩) P Q R ?_);by_cases o:v.c+(df (f9 v.pr)).length>0
  .rw[if_pos o] at j
   refine Xu (decide_eq_true (V5 o))<|gb X _ (dd rfl) rfl rfl (tx (k:=17) (mC X _ rfl (dd rfl)) (QM X M (s:=⟨v.lines,f9 v.pr,v.c⟩) P Q R ?_))
   by_cases g:((v.c:Int)==0&&(decide ((v.c:Int)+(df (f9 v.pr)).length=0)||Txt.isspace (fv (df (f9 v.pr)))))=bK
   .have i:v.lines=[]:=by
     rw[eB,OU,decide_eq_true_eq,beq_iff_eq] at g;obtain⟨hc,g⟩:=g;have g:=g.resolve_left (V6 (fx o));refine Classical.byContradiction λZ=>?_;have f:df v.pr≠[]:=by
      intro f;have h0:(df (f9 v.pr)).length<=(df v.pr).length:=by
       dsimp only[f9];split
       .exact l3
       .exact l2
      rw[f] at h0;have:(df (f9 v.pr)).length<=0:=h0;exact gc (jY 0x380804380824398084b0a02 rfl this (c_ (Yp hc)) o)
     have:=CM (Lh (t (eC (d8 (gp 0x701008700b0a02 rfl (c_ (Yp hc)))) (d8 wq)) Z f));rw[this] at g;exact dG g
    exact H7 (congrArg aE g) (gb X _ (dd rfl) rfl rfl (H7 (xp (l:=[]) ((by rw[(X.put _).a,i];rfl)) (eW _)) (w (p u.2 j))))
   .exact H7 (congrArg aE (Bool.eq_false_iff.mpr g))<|w (p u.2 j)
  .rw[if_neg o] at j
   exact Xv (decide_eq_false (λh=>o (Int.ofNat_lt.mp h)))<|p u.2 j
 have y:dp (ZL lv) body_vf_newline [aE (aV m),aT] (eu σ a b v) (lu cu σ.length KK):=by
  refine gb X v (dd rfl) rfl rfl (tx (k:=15) (mC X v rfl (dd rfl)) (CJ X M (s:=v) (cx z (cZ rfl)) (dy (h9 rfl) ?_)));by_cases J:(iM v.pr).2=([32],[])
  .have hb:f9 v.pr=(iM v.pr).1:=by unfold f9;rw[if_neg (by simpa using J)]
   refine gu ((Lg B.1 B.2).trans (congrArg aE (decide_eq_false (λq=>q J)))) ?_;rw[<-hb];exact e
  .have hb:f9 v.pr=(iM v.pr).1++[(iM v.pr).2]:=by unfold f9;rw[if_pos J]
   refine gu ((Lg B.1 B.2).trans (congrArg aE (decide_eq_true J)))<|gb X _ (dd rfl) rfl rfl (Z4 (QN X _) (dy (h9 rfl) (dy rfl (oG X D (s:=⟨v.lines,(iM v.pr).1,v.c⟩) (cx N (cx z (cZ rfl))) ?_))))
   have e:=@e;rw[hb] at e;exact e
 rw[zt X] at y;exact y
end
theorem CP:∀l:List Wd,qw (l.map sv)=aE (l.map fv):=by
 intro a;induction a with
 |nil=>exact rfl|cons w r b=>
  exact by show(qw (r.map sv)).map _=_;rw[b];rfl
theorem He (l:List Wd):((l.map fv).map (·.length)).sum=(l.map (·.length)).sum:=by
 rw[mQ]
 congr 1
theorem xy (h:s.small):(dX s).lines.length<=1001/\((dX s).lines.map (·.length)).sum<=200000:=by
 refine Sz h λg i a b c j=>qs (xx s.pr) λk d e l=>?_;have f:(df (f9 s.pr)).length<=100000:=by unfold f9;exact iteInduction (motive:=λx=>(df x).length<=100000) (λ_=>cx e a) (λ_=>cx d a)
 rw[jO];show(if s.c+(df (f9 s.pr)).length>0 then s.lines++[df (f9 s.pr)] else s.lines).length<=1001/\(Gl (λx=>x.length) (if s.c+(df (f9 s.pr)).length>0 then s.lines++[df (f9 s.pr)] else s.lines)).sum<=200000
 split
 .rw[dJ,kx,Bm]
  simp;exact⟨d8 (gp 0x1c00000007d1c0438058500000001f47 rfl b),d8 (jY 0x7000000c3507010e00000186a0e121cc04258500000186a07 rfl f c)⟩
 .exact⟨by exact d8 (gp 0x1c00000007d1c0438058500000001f4f rfl b),d8 (gp 0x1c0000030d41c0438058500000186a07 rfl c)⟩
section
variable {KK:V->Sg->Prop}
theorem Wf (F:FN C Kk)(H:m5 C n (ZL lv) p7 oU)(h:n6 (lv+1) 11 vs σ KK)(g:Rels ρ s.heap i vs)(st:St C ρ σ s)(j:Room (n+10) A):Calls C A 42 i ρ s KK Ee:=by
 obtain⟨l,m,a,b,W,c,v,e,rfl,X,f,o,d,p⟩:=h;refine eF (F 6) λu I=>gH H I (r:=0) (tr:=cu) rfl ?_ g st (j.le (eY (dd rfl) _));obtain⟨q,t⟩:=xy f;refine tx (k:=10) (mx X.n rfl rfl (dd rfl)) ⟨F7 l,m,a,b,W,c,v,rfl,X,f,d,gb X _ (dd rfl) rfl rfl (W5 (ts:=(dX v).lines.map fv) ?_ ?_ ?_)⟩
 .rw[oy (X.put _).a]
  exact CP _
 .rw[He,eE,gJ]
  exact cx (eT t (r7 q o)) (cZ rfl)
 .rw[tR]
  exact p
end
theorem xB (k:Nat):iz (k+1:Nat) 0=aO ((k+1:Nat):Int)::iz (k:Nat) 0:=by
 dsimp only[iz];simp only[show(((k+1:Nat):Int)-0).toNat=k+1 by exact ic _ _ _,show(((k:Nat):Int)-0).toNat=k by exact mR _,List.range_succ_eq_map,fS,mQ]
 congr 1
 refine y6 λi _=>?_;show aO _=aO _;exact congrArg aO (Int.add_sub_add_right (k:Int) 1 i)
theorem uG {i n:Nat}(h:i<n)(c:n<=1000000):p4 (i:Int) n=aE i:=by dsimp only[p4];rw[if_pos ⟨lQ (dd rfl) (lD i),Int.ofNat_le.mpr (cx (eV h) (cx c (dd rfl)))⟩];unfold mV;have d:¬((i:Int)<0):=Int.not_lt.mpr (JD (d8 wq));simp only[eB,decide_eq_true_eq,d,if_false];rw[if_pos (⟨JD (d8 wq),V5 (gG (BO h))⟩)];exact rfl
theorem tS (h:0<n)(d:n<=1000000):p4 (-1) n=aE (n-1):=by dsimp only[p4];rw[if_pos (dd rfl)];unfold mV;have c:((-1:Int)<0):=lD _;simp only[eB,decide_eq_true_eq,c,if_true];obtain⟨m,rfl⟩:∃m,n=m+1:=⟨n-1,(Nat.succ_pred_eq_of_pos h).symm⟩;have e:(-1:Int)+((m+1:Nat):Int)=m:=(G1 ..).trans (Np (m:Int) 1);rw[e,if_pos ⟨lD m,V5 (jG m)⟩];rfl
section
variable {σ:Sg}{n a b lv:Nat}{W:Int}{order:Wd}{g s:VS}{Kk:V->Sg->Prop}
theorem zu (X:VFat σ n a b W order g){i:Nat}(hi:i<s.pr.length)(c:s.pr.length<=1000000):e9 (eu σ a b s) (aV b) (aO i)=aE (Cs (s.pr.getD i default)):=by dsimp only[e9,k9];simp only[(X.put s).b,r_];rw[if_pos (lD _),eE,uG hi c];simp only[kP,jx,gK hi,sZ,kK,OE]
theorem Ir (X:VFat σ n a b W order g)(c:1<=i)(hi:i<s.pr.length)(d:s.pr.length<=1000000):e9 (eu σ a b s) (aV b) (aO ((i:Int)-1))=aE (Cs (s.pr.getD (i-1) default)):=(congrArg (λz=>e9 (eu σ a b s) (aV b) (aO z)) (pQ c).symm).trans (zu X (fC (gZ ..) hi) d)
theorem Wg (p:Wd×Wd):e9 σ (Cs p) (aO 0)=aE (sv p.1):=rfl
theorem Wh (p:Wd×Wd):e9 σ (Cs p) (aO 1)=aE (sv p.2):=rfl
theorem CQ (h:w.length<=1000000):ka lv σ (sv w)=aE (decide (w≠[])):=by
 dsimp only[ka,sD,sv];simp only[gJ,h,if_true]
 congr 1
 cases w with
 |nil=>rfl|cons c r=>simp;exact V6 (fx (gG wq))
theorem Au (w:Wd):(fv w).cps=w.toArray:=rfl
theorem Hf (h:p4 i w.length=aE j)(d:w[j]?=aE c):e9 σ (sv w) (aO i)=aE (mu c):=by
 have e:k9 σ (sv w) (aO i)=aE (mu c):=by dsimp only[k9,sv];simp only[gJ,h,Au,kP,NK,d,sZ];rfl
 dsimp only[e9];rw[e]
theorem Hg (h:(c::r).length<=1000000):e9 σ (sv (c::r)) (aO 0)=aE (mu c):=Hf (j:=0) (uG (i:=0) (ek _) h) rfl
theorem w9 (h:w.length<=1000000)(d:w.getLast?=aE c):e9 σ (sv w) (aO (-1))=aE (mu c):=by
 have e:0<w.length:=by cases w with|nil=>cases d|cons _ _=>exact ek _
 refine Hf (j:=w.length-1) (tS e h) ?_;rw[xW] at d;exact d
theorem xC (h:c=59\/c=32\/c=9\/c=34):B2 (fv [c])=decide (c=32\/c=9):=by rcases h with rfl|rfl|rfl|rfl<;>decide+kernel
theorem uH (w:Wd):kT (fv w)=w.map mu:=by dsimp only[kT];simp only[Au];rfl
theorem Li (i:c<128)(j:d<128):yO σ (mu c) (mu d)=aE (decide (c=d)):=by
 have h:∀{x:Nat},x<128->asc [x]:=λ{x} h y e=>by simp at e;exact e▸h
 show yO σ (cC (fv [c])) (cC (fv [d]))=_;rw[Al (kb (h i)) (kb (h j)),rH]
 congr 1
 simp
theorem CR (h:p∈pr):p.1.length+p.2.length<=(df pr).length:=by
 induction pr with
 |nil=>cases h|cons q r c=>
  have e:(df (q::r)).length=q.1.length+q.2.length+(df r).length:=by simp[df];exact(ic ..).symm
  simp only[e];rcases List.mem_cons.mp h with rfl|h
  .exact eO _ _
  .have:=c h;exact cx this (ej ..)
theorem kf {α:Type}[Inhabited α]{l:List α}{i:Nat}(h:i<l.length):l.getD i default∈l:=by simp only[kK,gK h];exact sX h
theorem Lj (h:nd w)(d:c∈w):c<128:=by rcases h c d with rfl|rfl|rfl|rfl<;>decide
end
noncomputable def ck_fr:S:=body_vf_chunk.tl.hd.thn.hd
noncomputable def ck_ob:Ss:=ck_fr.bdy
noncomputable def ck_ib:Ss:=ck_ob.hd.bdy
section
variable {σ:Sg}{m a b lv:Nat}{W:Int}{order:Wd}{g s:VS}{f t p o u:Option V}
theorem rI:ka lv σ (sv [])=aE cu:=CQ (eW _)
theorem tT (h:w.length<=1000000)(e:w≠[]):ka lv σ (sv w)=aE bK:=(CQ h).trans (congrArg aE (decide_eq_true e))
theorem Wi (e:d<128)(h:c=d):gq .Eq σ (mu c) (mu d)=aE bK:=(Li (h▸e) e).trans (congrArg aE (decide_eq_true h))
theorem Wj (e:c<128)(i:d<128)(h:c≠d):gq .Eq σ (mu c) (mu d)=aE cu:=(Li e i).trans (congrArg aE (decide_eq_false h))
theorem QP (X:VFat σ m a b W order g){w i:Nat}(z:1<=i)(hi:i<s.pr.length)(A:s.pr.length<=1000000)(B:(df s.pr).length<=1000000)(C:∀p∈s.pr,asc p.1/\asc p.2)(x:w<128){Kk:Out->Mm->Sg->Prop} (j:∀D,Kk (if(s.pr.getD (i-1) default).2.getLast?==aE w then nA else de) [aE (aV m),f,t,aE (mu w),aE (aO i),D,o,u] (eu σ a b s)):dp (ZL lv) ck_ib.tl [aE (aV m),f,t,aE (mu w),aE (aO i),p,o,u] (eu σ a b s) Kk:=by
 have v:=kf (l:=s.pr) (i:=i-1) (by exact fC (gZ ..) hi)
 have d:=cx (NL (CR v)) B;have h:=(C _ v).2;refine gb X _ (by decide) rfl rfl (jZ (lv:=lv) (Ir X z hi A) (jZ (lv:=lv) (Wh _) ?_))
 have j:=j (aE (sv (s.pr.getD (i-1) default).2));revert j d h;generalize (s.pr.getD (i-1) default).2=q;intro d h j;rcases q.eq_nil_or_concat with rfl|⟨r,c,rfl⟩
 .exact H7 rI j
 .rw[qT] at *
  have y:(r++[c]).getLast?=aE c:=A_;rw[y] at j;refine H7 (tT d (F1 _ (l5 _ _))) (jZ (w9 d y) ?_);by_cases k:c=w
  .rw[if_pos (beq_iff_eq.mpr (congrArg aE k))] at j
   exact gu (Wi x k) j
  .rw[if_neg (λe=>k (dk (beq_iff_eq.mp e)))] at j
   exact gu (Wj (h c (mZ _ (.head _))) x k) j
theorem QQ (X:VFat σ m a b W order g){d i:Nat}(H:1<=i)(hi:i<s.pr.length)(D:s.pr.length<=1000000)(F:(df s.pr).length<=1000000)(G:∀p∈s.pr,asc p.1/\asc p.2)(A:d=59\/d=32\/d=9\/d=34){Kk:Out->Mm->Sg->Prop} (j:∀I C,Kk (if gI s.pr d i then nA else de) [aE (aV m),I,t,aE (mu d),aE (aO i),C,o,u] (eu σ a b s)):dp (ZL lv) ck_ib [aE (aV m),f,t,aE (mu d),aE (aO i),p,o,u] (eu σ a b s) Kk:=by
 have z:=kf (l:=s.pr) (i:=i) hi;have v:=cx (AW (CR z)) F;have w:=(G _ z).1;have k:d<128:=by rcases A with rfl|rfl|rfl|rfl<;>decide
 unfold gI at j;have x:∀{f:Option V},(∀C,Kk (if(s.pr.getD (i-1) default).2.getLast?==aE d then nA else de) [aE (aV m),f,t,aE (mu d),aE (aO i),C,o,u] (eu σ a b s))->dp (ZL lv) ck_ib.tl [aE (aV m),f,t,aE (mu d),aE (aO i),p,o,u] (eu σ a b s) Kk:=λh=>QP X H hi D F G k h
 by_cases B:d=32\/d=9
 .rw[decide_eq_true B] at j
  rw[Bool.true_and] at j;refine Xu ((xC A).trans (decide_eq_true B))<|gb X _ (dd rfl) rfl rfl (jZ (zu X hi D) (jZ (Wg _) ?_))
  revert w v j;generalize (s.pr.getD i default).1=q;intro j v w;rcases q with _|⟨c,r⟩
  .exact H7 rI (x (j _))
  .refine H7 (tT v (l5 _ _)) (jZ (Hg v) ?_)
   by_cases y:c=d
   .have j:=j (aE (sv (c::r))) p
    rw[if_pos (by rw[y];show(aE d==aE d||_)=bK;rw[beq_self_eq_true];rfl)] at j
    exact gu (Wi k y) j
   .have e:((c::r).head?==aE d)=cu:=beq_eq_false_iff_ne.mpr λe=>y (dk e)
    rw[e,Pe] at j;exact gu (Wj (w c (.head _)) k y) (x (j _))
 .rw[decide_eq_false B] at j
  rw[Bool.false_and,Pe] at j;exact Xv ((xC A).trans (decide_eq_false B))<|x (j f)
end
theorem Lk:∀{n:Nat},iU pr a n=aE i->1<=i/\i<=n:=by
 intro b;induction b with
 |zero=>exact @λh=>by cases h
 |succ n c=>
  exact @λh=>by
   replace h:(if gI pr a (n+1)=bK then aE (n+1) else iU pr a n)=aE i:=h
   split at h
   .cases h;exact⟨d8 BR,d8 (gp 8095155841337857 rfl)⟩
   .have:=c h;exact⟨d8 (BP this.1),d8 (Jo this.2)⟩
theorem xD (h:iU pr c (pr.length-1)=aT):fG pr (c::r)=fG pr r:=by show(iU pr c (pr.length-1)).orElse (λ_=>fG pr r)=_;rw[h];rfl
theorem CS (h:iU pr c (pr.length-1)=aE i):fG pr (c::r)=aE i:=by show(iU pr c (pr.length-1)).orElse (λ_=>fG pr r)=_;rw[h];rfl
theorem zv:∀{l:Wd},fG pr l=aE i->1<=i/\i<=pr.length-1:=by
 intro b;induction b with
 |nil=>exact @λh=>by cases h
 |cons c r d=>
  exact @λh=>by
   cases a:iU pr c (pr.length-1) with
   |some j=>obtain rfl:=dk ((CS a).symm.trans h);exact Lk a
   |none=>exact d ((xD a).symm.trans h)
theorem QR (h:gI pr a (j+1)=bK):iU pr a (j+1)=aE (j+1):=if_pos h
theorem QS (h:¬gI pr a (j+1)=bK):iU pr a (j+1)=iU pr a j:=if_neg h
theorem Ll (X:VFat σ m a b W order n)(w:s.pr.length<=1000000)(x:(df s.pr).length<=1000000)(z:∀p∈s.pr,asc p.1/\asc p.2)(k:c=59\/c=32\/c=9\/c=34):∀{j:Nat},j<s.pr.length->∀{f o p:Option V},(iU s.pr c j=aT->∀d A e,B [aE (aV m),d,t,aE (mu c),A,e,r,u] (eu σ a b s))->(∀i:Nat,iU s.pr c j=aE i->∀d e,Kk de [aE (aV m),d,t,aE (mu c),aE (aO i),e,r,u] (eu σ a b s))->om (wD Kk (dp (ZL lv) ck_ib) (cJ 4 y q)) B (iz j 0) [aE (aV m),f,t,aE (mu c),o,p,r,u] (eu σ a b s):=by
 intro C;induction C with
 |zero=>exact @λ_ _ _ _ g _=>g rfl _ _ _
 |succ j D=>
  exact @λv f o p g l=>by
   rw[xB];refine QQ X (ek _) v w x z k λd e=>?_;by_cases h:gI s.pr c (j+1)
   .rw[if_pos h]
    exact l (j+1) (QR h) _ _
   .rw[if_neg h]
    rw[QS h] at g l;exact D (qY v) g l
theorem Wl (X:VFat σ m a b W order c)(d:1<=lv)(g:s.pr≠[])(d:s.pr.length<=1000000)(h:Kk (iz ((s.pr.length-1:Nat):Int) 0) (eu σ a b s)):JJ (ZL lv) ck_ob.hd.itr [aE (aV m),f,t,i,j,p,l,n] (eu σ a b s) Kk:=by
 refine gb X _ (dd rfl) rfl rfl (tx (k:=18) (mC X _ rfl (dd rfl)) ⟨by assumption,b,_,_,rfl,(X.put s).b,?_⟩)
 rw[eE];have e:((s.pr.length:Nat):Int)-1=((s.pr.length-1:Nat):Int):=(pQ (List.length_pos_iff.mpr g)).symm;exact fw (congrArg (λx=>aE (aO x)) e)<|⟨⟨cx (gZ ..) d,eW _,rfl⟩,h⟩
theorem QT (X:VFat σ m a b W order h)(d:1<=lv)(j:s.pr≠[])(k:s.pr.length<=1000000)(o:(df s.pr).length<=1000000)(q:∀p∈s.pr,asc p.1/\asc p.2)(r:c=59\/c=32\/c=9\/c=34) (u:iU s.pr c (s.pr.length-1)=aT->∀e v g,Kk ua [aE (aV m),e,t,aE (mu c),v,g,l,n] (eu σ a b s)) (w:∀i:Nat,iU s.pr c (s.pr.length-1)=aE i->∀e g,Kk nA [aE (aV m),e,t,aE (mu c),aE (aO i),g,l,n] (eu σ a b s)):dp (ZL lv) ck_ob [aE (aV m),f,t,aE (mu c),x,p,l,n] (eu σ a b s) Kk:=Wl X d j k (Ll X k o q r (BB (List.length_pos_iff.mpr j) Pk) u w)
theorem Lm (X:VFat σ m a b W order r)(j:1<=lv)(B:s.pr≠[])(C:s.pr.length<=1000000)(k:(df s.pr).length<=1000000)(D:∀p∈s.pr,asc p.1/\asc p.2):∀{l:Wd},nd l->∀{f u v p:Option V},(fG s.pr l=aT->∀d n F g,G [aE (aV m),d,t,n,F,g,w,x] (eu σ a b s))->(∀i:Nat,fG s.pr l=aE i->∀d n g,Kk de [aE (aV m),d,t,n,aE (aO i),g,w,x] (eu σ a b s))->om (wD Kk (dp (ZL lv) ck_ob) (cJ 3 y q)) G (l.map mu) [aE (aV m),f,t,u,v,p,w,x] (eu σ a b s):=by
 intro H;induction H with
 |nil=>exact @λ_ _ _ _ _ o _=>o rfl _ _ _ _
 |cons I l J=>
  exact @λz f u v p o A=>QT X j B C k D (z I (.head _)) (λh _ _ _=>J (λc k=>z c (.tail _ k)) (λe=>o ((xD h).trans e)) λi e=>A i ((xD h).trans e)) λi h d g=>A i (CS h) _ _ _
theorem Av (X:VFat σ m a b W order c)(d:1<=lv)(e:s.pr.length<=10000){i:Nat}(hi:i<=s.pr.length)(h:Kk (cw ((s.pr.drop i).map Cs)) (eu σ a b ⟨s.lines,s.pr.take i,s.c⟩)):n6 lv 14 [aV b,aO i] (eu σ a b s) Kk:=by
 refine⟨d,b,s.pr.map Cs,_,i,rfl,(X.put s).b,by simpa using e,by simpa using hi,?_⟩
 have:=w8 X.ne.1 (σ:=σ) s (s.pr.take i) s.c;unfold r_ at this;rw[yt] at this;rw[<-vj,this];exact h
theorem Ln (h:a≠b)(s t):eu (eu σ a b s) a b t=eu σ a b t:=by dsimp only[eu];rw[nX _ _ h,ri,nX _ _ h.symm,nX (l:=σ) _ _ h,ri,nX _ _ h.symm]
noncomputable def ck_if:S:=body_vf_chunk.tl.hd
noncomputable def Aw:Ss:=ck_if.thn.tl
section
variable {C:Fx}{KK:V->Sg->Prop}
variable {m a b:Nat}
theorem Lo (X:VFat σ m a b W order j)(d:1<=lv)(e:v.pr.length<=10000)(l:(df v.pr).length<=1000000)(n:v.c<=1000000)(o:v.lines.length<=1000000){i:Nat}(hi:i<=v.pr.length) (q:∀M,Kk de M (eu σ a b ⟨v.lines++[df (v.pr.take i)],v.pr.drop i,0⟩)):dp (ZL lv) Aw [aE (aV m),f,t,r,aE (aO i),p,u,w] (eu σ a b v) Kk:=by
 have g:(df (v.pr.take i)).length<=1000000:=by refine cx ?_ l;have:=eA (v.pr.take i) (v.pr.drop i);rw[F8] at this;rw[this];exact eO _ _
 have c:(v.pr.take i).length<=10000:=cx (by rw[kN];exact pI ..) e
 have h:(v.pr.drop i).length<=10000:=cx (by rw[nV];exact gZ ..) e
 exact gb X _ (dd rfl) rfl rfl (tx (k:=14) (mC X _ rfl (dd rfl)) (Av X d e hi (gb X _ (dd rfl) rfl rfl (tx (Hc X _) (gb X _ (dd rfl) rfl rfl (CL X d (s:=⟨v.lines,v.pr.take i,v.c⟩) g (cx c (cZ rfl)) n (xu X (s:=⟨v.lines,v.pr.take i,v.c⟩) o (gb X _ (dd rfl) rfl rfl (tx (k:=16) (mC X _ rfl (dd rfl)) (xw X d (s:=⟨v.lines++[df (v.pr.take i)],v.pr.take i,v.c⟩) c (new:=v.pr.drop i) h (.inr rfl) (q _)))))))))))
theorem QU {Kk:V->Sg->Prop}(X:VFat σ m a b W order c)(d:1<=lv)(e:v.pr.length<=10000)(h:Kk dD (eu σ a b ⟨v.lines,v.pr++[([32],y)],v.c⟩)):n6 lv 13 [aV b,cC " ",sv y] (eu σ a b v) Kk:=by rw[QO];exact oG X d e h
noncomputable def Lp:Ss:=ck_fr.els
theorem QV (X:VFat σ m a b W order u)(o:3<=lv)(j:VS.small ⟨v.lines,(iM v.pr).1,v.c⟩)(x:v.pr.length<=10000)(d:(iM v.pr).2.1.length<=1000000){Kk:Out->Mm->Sg->Prop} (c:∀M,Kk (dH dD) M (eu σ a b (if v.c>0 then(let s:=dX ⟨v.lines,(iM v.pr).1,v.c⟩;⟨s.lines,s.pr++[(if(iM v.pr).2.1=[] then[32] else(iM v.pr).2.1,(iM v.pr).2.2)],s.c⟩) else⟨v.lines,(iM v.pr).1++[(iM v.pr).2],v.c⟩))):
 dp (ZL lv) Lp [aE (aV m),f,t,y,z,p,A,B] (eu σ a b v) Kk:=by
 have q:1<=lv:=cx (cZ rfl) o;refine gb X _ (dd rfl) rfl rfl (tx (k:=15) (mC X _ rfl (dd rfl)) (CJ X (nR o) x ?_));revert j d c;generalize (iM v.pr).2=e;generalize (iM v.pr).1=g;intro j d c;have r:g.length<=10000:=cx j.2.1 (cZ rfl);refine gb X _ (dd rfl) rfl rfl (Cy (X.put _).b rfl (dd rfl) rfl rfl ?_);by_cases i:v.c>0
 .rw[if_pos i] at c
  refine Xu (decide_eq_true (Int.ofNat_lt.mpr i))<|tx (k:=10) (mx (X.put _).n rfl rfl (dd rfl)) ⟨o,m,a,b,W,order,⟨v.lines,g,v.c⟩,rfl,X.put _,j,λh=>absurd h (fx i),?_⟩
  rw[Ln X.ne.1];by_cases l:e.1=[]
  .rw[if_pos l] at c
   exact H7 ((congrArg (λw=>ka lv _ (sv w)) l).trans rI)<|gb X _ (dd rfl) rfl rfl (tx (k:=13) (mC X _ rfl (dd rfl)) (QU X q (v:=dX ⟨v.lines,g,v.c⟩) (eW _) (c _)))
  .rw[if_neg l] at c
   exact H7 (tT d l)<|gb X _ (dd rfl) rfl rfl (tx (k:=13) (mC X _ rfl (dd rfl)) (oG X q (s:=dX ⟨v.lines,g,v.c⟩) (eW _) (c _)))
 .rw[if_neg i] at c
  exact Xv (decide_eq_false λh=>i (Int.ofNat_lt.mp h))<|gb X _ (dd rfl) rfl rfl (tx (k:=13) (mC X _ rfl (dd rfl)) (oG X q (s:=⟨v.lines,g,v.c⟩) r (c _)))
theorem QW (F:FN C Kk)(H:m5 C n (ZL lv) p7 oU)(h:n6 (lv+1) 12 vs σ KK)(rs:Rels ρ s.heap as vs)(st:St C ρ σ s)(hA:Room (n+10) A):Calls C A 91 as ρ s KK Ee:=by
 obtain⟨h4,m,a,b,W,e,v,f,t,rfl,X,⟨P,D,Q,R,s5,U⟩,ho,u,Y,ht,G,J,Z,a0,l⟩:=h;have hl:3<=lv:=mM h4;have z:1<=lv:=cx (cZ rfl) hl;refine eF (F 8) λfd I=>gH H I (r:=5) (tr:=cu) rfl ?_ rs st (hA.le (eY (dd rfl) _));have L:(df (v.pr++[(f,t)])).length<=1000000:=by rw[eA];refine cx (eT Q (c:=(df [(f,t)]).length) (d:=1000) ?_) (cZ rfl);show(f++t++[]).length<=1000;rw[ib,dJ];exact cx (eT Y ht) (cZ rfl)
 have o:(v.pr++[(f,t)]).length<=10000:=by rw[dJ];exact cx (oT D 1) (cZ rfl)
 have w:(v.pr++[(f,t)]).length<=1000000:=cx o (cZ rfl);have x:v.c<=1000000:=cx P (cZ rfl);have g:iM (v.pr++[(f,t)])=(v.pr,(f,t)):=jd _ _;have y:dp (ZL lv) body_vf_chunk [aE (aV m),aE (sv f),aE (sv t),aT,aT,aT,aT,aT] (eu σ a b v) (lu cu σ.length KK):=by
  refine gb X _ (dd rfl) rfl rfl (tx (k:=13) (mC X _ rfl (dd rfl)) (oG X z (s:=v) (cx D (cZ rfl)) (gb X _ (dd rfl) rfl rfl (CK X z (s:=⟨v.lines,v.pr++[(f,t)],v.c⟩) L w x (gb X _ (dd rfl) rfl rfl ?_)))));unfold fy uz at l;by_cases B:v.c+(df (v.pr++[(f,t)])).length>W
  .rw[if_pos B,g] at l
   refine Xu (decide_eq_true (Int.ofNat_lt.mpr B))<|gb X _ (dd rfl) rfl rfl ?_
   have N:∀p∈v.pr++[(f,t)],asc p.1/\asc p.2:=λp hp=>(List.mem_append.mp hp).elim (U p) λh=>by cases h with|head=>exact⟨G,J⟩ |tail _ h=>cases h
   have y:om (wD (qm (qm (lu cu σ.length KK) (dp (ZL lv) cy)) (dp (ZL lv) Aw)) (dp (ZL lv) ck_ob) (cJ 3 "ch" (pp 0))) (Pr (qm (qm (lu cu σ.length KK) (dp (ZL lv) cy)) (dp (ZL lv) Aw)) (dp (ZL lv) Lp)) (e.map mu) [aE (aV m),aE (sv f),aE (sv t),aT,aT,aT,aT,aT] (eu σ a b ⟨v.lines,v.pr++[(f,t)],v.c⟩):=by
    refine Lm X (s:=⟨v.lines,v.pr++[(f,t)],v.c⟩) z (F1 _ (l5 _ _)) w L N u (λq f' c' i' p'=>?_) λi j f' c' p'=>?_
    .rw[show fG (v.pr++[(f,t)]) e=aT from q] at l
     exact QV X hl (v:=⟨v.lines,v.pr++[(f,t)],v.c⟩) (by rw[g];exact⟨P,D,Q,R,s5,U⟩) o ((by rw[g];exact cx Y (cZ rfl))) λM=>(by rw[g];exact l)
    .rw[show fG (v.pr++[(f,t)]) e=aE i from j] at l
     exact Lo X z (v:=⟨v.lines,v.pr++[(f,t)],v.c⟩) o L x (cx R (cZ rfl)) (cx (zv j).2 (gZ ..)) λM=>l
   rw[<-uH] at y;exact y
  .rw[if_neg B] at l
   exact Xv (decide_eq_false λh=>B (Int.ofNat_lt.mp h))<|l
 rw[zt X] at y;exact y
end
theorem zw {α:Type}{step:V->List V->Sg->(List V->Sg->Prop)->Prop}{Kk:List V->Sg->Prop}{g:α->V}{f:α->List V}:∀{l:List α} {a:List V},(∀x∈l,∀a k,a.length<=1000->k (a++f x) σ->step (g x) a σ k)->(∀x∈l,(f x).length<=1)->a.length+l.length<=1000->Kk (a++l.flatMap f) σ->lW step Kk (l.map g) a σ:=by
 intro i;induction i with
 |nil=>exact @λa _ _ _ h=>by simpa [lW] using h
 |cons x l j=>
  exact @λa d e b h=>by
   rw[fS,lW];have m:=e x (.head _);simp only[j8] at b;refine d x (.head _) a _ (cx (eO ..) b)<|j (λy c=>d y (by simp[c])) (λy c=>e y (by simp[c])) (by rw[dJ];exact d8 (iP 0x1c14021c00000007d1db0a11090e622c04258500000001f47 rfl m b)) ?_
   rw[j5];exact h
theorem kZ {α:Type}{step:V->List V->Sg->(List V->Sg->Prop)->Prop}{Kk:List V->Sg->Prop}{g:α->V}{f:α->V}{l:List α}(b:∀x∈l,∀a k,a.length<=1000->k (a++[f x]) σ->step (g x) a σ k)(c:l.length<=1000)(h:Kk (l.map f) σ):lW step Kk (l.map g) [] σ:=by
 refine zw (f:=λx=>[f x]) b (λ_ _=>d9 _) (by simpa using c) ?_
 rw[pN,<-List.map_eq_flatMap];exact h
theorem md {α:Type}{step:V->List V->Sg->(List V->Sg->Prop)->Prop}{Kk:List V->Sg->Prop}{g:α->V}{f:α->V}{p:α->Bool}{l:List α}(b:∀x∈l,∀a k,a.length<=1000->k (a++if p x then[f x] else[]) σ->step (g x) a σ k)(c:l.length<=1000)(h:Kk ((l.filter p).map f) σ):lW step Kk (l.map g) [] σ:=by
 refine zw (f:=λx=>if p x then[f x] else[]) b (λx _=>by split<;>simp) (by simpa using c) ?_
 simp only[pN];have e:∀l:List α,l.flatMap (λx=>if p x then[f x] else[])=(l.filter p).map f:=λl=>by
  induction l with
  |nil=>rfl|cons x l d=>simp only[lM,d,pK];by_cases i:p x<;>simp[i]
 simp only[e];exact h
theorem jm (h:a.length+b.length<=1000000):SR (sv a) (sv b)=aE (sv (a++b)):=by
 show(if(fv a).length+(fv b).length<=1000000 then aE (cC (fv a++fv b)) else aT)=_
 rw[if_pos (by rw[gJ,gJ];exact h),w6]
 rfl
theorem Lq {k:Nat}(a:0<k)(h:k<1000):GZ (aO n) (aO (k:Int))=aE (aO (n/(k:Int))):=by
 dsimp only[GZ];have b:mq (k:Int)=bK:=by unfold mq;simp;exact fl h (ej ..)
 simp only[b];rw[if_pos ⟨Int.ofNat_ne_zero.mpr (fx a),trivial⟩,Ng _ (lD _)]
theorem QX {k:Nat}(a:0<k):SU (aO n) (aO (k:Int))=aE (aO (n%(k:Int))):=by
 show(if(k:Int)≠0 then aE (aO (n.fmod k)) else aT)=_
 rw[if_pos (Int.ofNat_ne_zero.mpr (fx a)),AQ _ (lD _)]
theorem Ax {n:Nat}(h:n<=1000):SS (mu c) (aO (n:Int))=aE (sv (dw n c)):=by
 show(if(fv [c]).length<=1000/\(n:Int).natAbs<=1000 then aE (cC (lU (fv [c]) n)) else aT)=_
 rw[if_pos ⟨by rw[gJ];exact ek _,h⟩]
 congr 2
 have e:=mul_one_list c n;have b:(lU (fv [c]) (n:Int)).cps=(dw n c).toArray:=by have:fv [c]=⟨#[c]⟩:=rfl;rw[this,<-Array.toList_inj];rw[e];exact rfl
 show lU (fv [c]) n=fv _;induction d:lU (fv [c]) (n:Int) with
 |mk a=>rw[d] at b;show BH a=BH _;rw[show a=_ from b]
theorem Wm (h:w.length<=1000000):s7 lv σ (sv w)=aE (w.length:Int):=by dsimp only[s7,uu,sv];simp only[gJ,h,if_true]
theorem zx {α:Type}(f:α->Nat):∀l:List α,qi (l.map λx=>aO (f x:Int))=aE (l.map λx=>(f x:Int)):=by
 intro a;induction a with
 |nil=>exact rfl|cons x l b=>exact congrArg (Gd (((f x:Nat):Int)::·)) (b)
theorem QY {α:Type}(f:α->Nat):∀l:List α,(l.map λx=>(f x:Int)).sum=((l.map f).sum:Nat):=by
 intro a;induction a with
 |nil=>exact rfl|cons x l b=>
  exact by simp only[fS,nY,b,fS,nY];rfl
theorem Ex (p):dW p=(p.map λt=>t.1.length+t.2.1.length).sum:=by
 dsimp only[dW,fZ];induction p with
 |nil=>rfl|cons t p a=>simp only[lM,dJ,fS,nY,a,dJ]
section
variable {KK:V->Sg->Prop}
theorem QZ (F:FN C Kk)(H:m5 C n (ZL lv) p7 oU)(h:qq (lv+1) 14 vs σ KK)(d:Rels ρ s.heap e vs)(st:St C ρ σ s)(g:Room (n+10) A):Calls C A 255 e ρ s KK Ee:=by
 obtain⟨_,p,rfl,c,i,j⟩:=h;refine eF (F 17) λx I=>gH H I (r:=3) (tr:=cu) rfl ?_ d st (g.le (eY (dd rfl) _));refine kZ (f:=λt:fY=>aO ((t.1.length+t.2.1.length:Nat):Int)) (λt l o k q b=>?_) (cx c (cZ rfl)) ?_
 .obtain⟨u,w,y,_⟩:=i t l
  have a:=cx (eT u w) (cZ (n:=_) (m:=1000000) rfl);refine fw (jm a) (K_ (Wm (by rw[dJ];exact a)) ?_)
  rw[dJ];exact⟨q,b⟩
 .refine Ii (α:=V) (v:=aO (dW p:Nat)) ?_ j
  rw[Ex,<-QY];show(if _<=1000000 then(qi _).map _ else aT)=_
  rw[if_pos,zx]
  .rfl
  .rw[eE];exact cx c (cZ rfl)
end
theorem nJ (h:0<b)(a:b<1000):fu wm (aO n) (aO b)=aE (aO (n/b)):=by obtain⟨k,rfl⟩:∃k:Nat,b=k:=⟨b.toNat,(y5 (yw h)).symm⟩;exact Lq (Int.natCast_pos.mp h) (Int.ofNat_lt.mp a)
theorem oH (h:0<b):fu nz (aO n) (aO b)=aE (aO (n%b)):=by obtain⟨k,rfl⟩:∃k:Nat,b=k:=⟨b.toNat,(y5 (yw h)).symm⟩;exact QX (Int.natCast_pos.mp h)
theorem add_i:fu eL (aO n) (aO b)=aE (aO (n+b)):=rfl
theorem zy:fu nv (aO n) (aO b)=aE (aO (n-b)):=rfl
theorem iW {j:Nat}(h:j<l.length)(a:l.length<=1000000):e9 σ (cw l) (aO j)=l[j]?:=by
 have e:k9 σ (cw l) (aO j)=l[j]?:=by unfold k9;simp only[uG h a,kP]
 unfold e9;simp only[e,gK h]
theorem xE (h:j<4):j=0\/j=1\/j=2\/j=3:=(by decide:∀j<4,j=0\/j=1\/j=2\/j=3) j h
theorem Lr (h:k<5):k=0\/k=1\/k=2\/k=3\/k=4:=(by decide:∀k<5,k=0\/k=1\/k=2\/k=3\/k=4) k h
theorem Ls {k:Nat}(h:k<5):e9 σ (cC "abcde") (aO k)=aE (mu (97+k)):=by
 have e:fE "abcde"=fv [97,98,99,100,101]:=by decide+kernel
 rw[e];refine Hf (w:=[97,98,99,100,101]) (uG (h) (dd rfl)) ?_;rcases Lr h with rfl|rfl|rfl|rfl|rfl<;>rfl
noncomputable def qD:Wd:=[35,34,92,97,98,99,100,101,59,32,9]
theorem Tp:∀f∈[0,1],∀c∈qD,UU (mu c) (cC (rp "\"\\ \t" aT (aE (4-2*(f:Nat):Int))))=aE (decide (c∈([34,92,32,9]:Wd).take (4-2*f))):=by decide+kernel
structure Dg.ok (d:Dg):Prop where
 m:d.m<4
 r:d.r<3
 f:d.f<3
 w:d.w<4
 l:d.l<4
theorem vO (n):(dg n).ok:=by exact⟨jF n 4 (dd rfl),jF (n/4) 3 (dd rfl),jF (n/12) 3 (dd rfl),jF (n/36) 4 (dd rfl),jF (n/144) 4 (dd rfl)⟩
theorem zz:∀m<4,(xk m).length<=1/\∀c∈xk m,c∈qD:=dd rfl
theorem zA:∀m<4,(xj m).length<=1/\∀c∈xj m,c∈qD:=dd rfl
theorem Ey:∀m<4,(nE m).length<=2:=dd rfl
theorem qE (h:d.ok)(b:k<5):(fQ d k).length<=5/\∀c∈fQ d k,c∈qD:=by
 refine dz (zz d.m h.m) λe f=>dz (zA d.l h.l) λg i=>?_;have:=h.r;unfold fQ;refine⟨by simp only[dJ,y0];exact d8 (iP 0x70d30a010e0a090e0a110e612d808508b0a2a rfl this g e),λc a=>?_⟩
 rcases List.mem_append.mp a with a|a
 .rcases List.mem_append.mp a with a|a
  .exact f c a
  .rw[(List.mem_replicate.mp a).2]
   rcases Lr b with rfl|rfl|rfl|rfl|rfl<;>decide
 .exact i c a
theorem Iu:∀c∈qD,c<128:=dd rfl
theorem Ay (b:c∈qD):(jl f c).length<=2/\∀x∈jl f c,x∈qD:=by
 unfold jl;split
 .exact⟨d9 _,λx a=>by simp at a;rcases a with rfl|rfl;exact(dd rfl);exact b⟩
 .exact⟨ek _,λx a=>by simp at a;rw[a];exact b⟩
theorem CT {α:Type}{l:List α}{f:α->Wd}(h:∀x∈l,(f x).length<=2):(l.flatMap f).length<=2*l.length:=by
 induction l with
 |nil=>exact d9 _|cons x l b=>have a:=h x B8;have:=b λy c=>h y (B0 _ c);simp only[lM,dJ,j8];exact le_of_le_of_eq (eT a this) (iE ..)
theorem Lu {d:Dg}(h:d.ok){k:Nat}(g:k<5):((fQ d k).flatMap (jl d.f)).length<=10/\∀c∈(fQ d k).flatMap (jl d.f),c∈qD:=by refine dz (qE h g) λi e=>?_;have:=CT (l:=fQ d k) (f:=jl d.f) λx a=>(Ay (e x a)).1;exact⟨by exact d8 (jY 0xb1500870a00848704b0a52 rfl i this),λc b=>cU (List.mem_flatMap.mp b) λx a b=>(Ay (e x a)).2 c b⟩
theorem Lv (h:∀c∈w,c∈qD):asc w:=λc a=>Iu c (h c a)
section
variable {C:Fx}{n lv:Nat}{KK:V->Sg->Prop}
theorem qH (c:asc a)(d:asc b):gq iu σ (sv a) (sv b)=aE (decide (a≠b)):=by
 show A5 σ (cC (fv a)) (cC (fv b))=_;rw[QH (kb c) (kb d),rH]
 congr 1
 by_cases h:a=b<;>simp[h]
theorem CU (c:asc a)(d:asc b):gq .Eq σ (sv a) (sv b)=aE (decide (a=b)):=by show yO σ (cC (fv a)) (cC (fv b))=_;rw[Al (kb c) (kb d),rH]
theorem eq_i:gq .Eq σ (aO a) (aO b)=aE (decide (a=b)):=by show yO σ _ _=_;rw[QF];congr 1
theorem Xx:fE "\""=fv [34]:=dd rfl
theorem Z8:fE "\\"=fv [92]:=dd rfl
theorem CV (h:M[i]?=aE (aE v))(k:Kk v σ):j_ (ZL lv) (aS i x p) M σ Kk:=by
 show match M[i]? with|some (aE v)=>Kk v σ|_=>False
 rw[h];exact k
theorem Lw (d:w.length<=1000)(a:asc w)(f:M[2]?=aE (aE (sv w)))(h:Kk (dB (decide (w≠[])&&decide (w.getLast?≠aE 34))) σ):(ZL lv).cmp iu σ (sv w) (cC "") (jb (SI (ZL lv) Kk (j_ (ZL lv) (gh iu (cX (aS 2 x g) (gB (bO (.int 1) 0 l) m) o) (bO (.str "\"") 0 q) s) M) .And) σ):=by
 have i:gq iu σ (sv w) (cC "")=aE (decide (w≠[])):=by rw[mB];exact qH a jA
 refine gu i ?_;rcases w.eq_nil_or_concat with rfl|⟨r,c,rfl⟩
 .exact h
 .rw[qT] at *
  have b:(r++[c]).getLast?=aE c:=A_;have e:r++[c]≠[]:=F1 _ (l5 _ _);rw[decide_eq_true e] at h ⊢;refine CV (lv:=lv) (x:=x) (p:=g) f (jZ (lv:=lv) (w9 (cx d (cZ rfl)) b) ?_);have j:gq iu σ (mu c) (cC "\"")=aE (decide ([c]≠[34])):=by rw[Xx];exact qH (tQ (a c (mZ _ (.head _)))) (tQ (dd rfl))
  refine gu j ?_;rw[b] at h;have k:decide ([c]≠[34])=decide (aE c≠aE 34):=decide_eq_decide.mpr (not_congr ⟨λh=>congrArg aE (nM h),λh=>congrArg (λx=>[x]) (dk h)⟩);rw[k];exact h
theorem Iv (b:(l.map (·.length)).sum+l.length*sep.length<=1000000)(h:Kk (sv (f_ sep l)) σ):lG 2 [sv sep,cw (l.map sv)] σ Kk:=by
 show match (jh σ (cw (l.map sv))).bind qw with
  |some a=>(a.map (·.length)).sum+a.length*(fv sep).length<=1000000/\Kk (cC (iG (fv sep) a)) σ|none=>False
 simp only[show(jh σ (cw (l.map sv))).bind qw=aE (l.map fv) from CP l];exact⟨(by simp only[He,eE,gJ];exact b),(by simp only[tR];exact h)⟩
theorem Q_ {l:List Wd}(h:∀w∈l,w.length<=2):(l.map (·.length)).sum<=2*l.length:=by
 induction l with
 |nil=>exact d9 _|cons w l b=>have a:=h w B8;have:=b λy c=>h y (B0 _ c);simp only[fS,nY,j8];exact le_of_le_of_eq (eT a this) (iE ..)
theorem Lx:cC (fE " ")=sv [32]:=by rw[QO];rfl
theorem ly (h:Kk (aO ((if b then 1 else 0:Nat):Int)) σ):(ZL lv).spec 3 [dB b] σ Kk:=by
 have:Kk (aO (if b then 1 else 0)) σ:=by rcases b with _|_<;>exact h
 exact this
theorem Tq (h:n<=1000):fu gk (sv [32]) (aO (n:Int))=aE (sv (dw n 32)):=Ax (c:=32) h
theorem vP {step:V->List V->Sg->(List V->Sg->Prop)->Prop}{w:Wd}(b:∀c∈w,∀a k,a.length<=1000->k (a++[f c]) σ->step (mu c) a σ k)(d:w.length<=1000)(h:Kk (w.map f) σ):lW step Kk (kT (fv w)) [] σ:=by rw[uH];exact kZ b d h
theorem Ly {α:Type}{l:List α}{f:α->Wd}{Kk:V->Sg->Prop}(a:((l.map f).map (·.length)).sum<=1000000)(h:Kk (sv (l.flatMap f)) σ):lG 2 [cC "",cw (l.map λx=>sv (f x))] σ Kk:=by rw[mB];rw[OF,<-lj] at h;have:=Iv (sep:=[]) (l:=l.map f) a h;rw[mQ] at this;exact this
theorem zB (h:a=b):gq .Eq σ (aO a) (aO b)=aE bK:=eq_i.trans (congrArg aE (decide_eq_true h))
theorem zC (h:a≠b):gq .Eq σ (aO a) (aO b)=aE cu:=eq_i.trans (congrArg aE (decide_eq_false h))
theorem Iw (F:FN C Kk)(H:m5 C n (ZL lv) p7 oU)(h:qq (lv+1) 13 vs σ KK)(Z:Rels ρ s.heap as vs)(st:St C ρ σ s)(hA:Room (n+10) A):Calls C A 250 as ρ s KK Ee:=by
 obtain⟨_,z,k,w,rfl,q,hw,J,L⟩:=h;refine eF (F 16) λfd I=>gH H I (r:=7) (tr:=cu) rfl ?_ Z st (hA.le (eY (dd rfl) _));obtain⟨d,t⟩:∃d,d=dg z:=⟨_,rfl⟩;have g:d.ok:=t▸vO z;have em:(z%4)=((d.m:Nat):Int):=by rw[t];exact(oW z 4 (dd rfl)).symm
 have er:(1+z/4%3)=((1+d.r:Nat):Int):=by rw[t];exact congrArg ((1:Int)+·) (oW (z/4) 3 (dd rfl)).symm
 have ef:(z/12%3)=((d.f:Nat):Int):=by rw[t];exact(oW (z/12) 3 (dd rfl)).symm
 have ew:(z/36%4)=((d.w:Nat):Int):=by rw[t];exact(oW (z/36) 4 (dd rfl)).symm
 have el:(z/144%4)=((d.l:Nat):Int):=by rw[t];exact(oW (z/144) 4 (dd rfl)).symm
 rw[<-t] at L;obtain⟨U,W⟩:=qE g q;obtain⟨X,t2⟩:=Lu g q;have i1:e9 σ (cw [cC "",cC ";",cC " ",cC "\t"]) (aO (d.l:Nat))=aE (sv (xj d.l)):=by
  rw[iW (by have:=g.l;exact this) (ej ..)]
  rcases xE g.l with h|h|h|h<;>rw[h]<;>(show aE (cC _)=aE (cC _);congr 2)
 have i2:e9 σ (cw [cC "",cC "#",cC "\"",cC "\\"]) (aO (d.m:Nat))=aE (sv (xk d.m)):=by
  rw[iW (by have:=g.m;exact this) (ej ..)]
  rcases xE g.m with h|h|h|h<;>rw[h]<;>(show aE (cC _)=aE (cC _);congr 2)
 have i3:e9 σ (cw [cC "",cC " ",cC "\t",cC " \t"]) (aO (d.w:Nat))=aE (sv (nE d.w)):=by
  rw[iW (by have:=g.w;exact this) (ej ..)]
  rcases xE g.w with h|h|h|h<;>rw[h]<;>(show aE (cC _)=aE (cC _);congr 2)
 have u:fu gk (mu (97+k)) (aO (1+z/4%3))=aE (sv (dw (1+d.r) (97+k))):=by rw[er];exact Ax (cx (eY (eV g.r) 1) (cZ rfl))
 have Y:=(zz d.m g.m).1;have al:=(zA d.l g.l).1;have a1:fu eL (sv (xk d.m)) (sv (dw (1+d.r) (97+k)))=aE (sv (xk d.m++dw (1+d.r) (97+k))):=jm (by rw[y0];exact cx (eT Y (eY (eV g.r) 1)) (cZ rfl))
 have a2:fu eL (sv (xk d.m++dw (1+d.r) (97+k))) (sv (xj d.l))=aE (sv (fQ d k)):=jm (by rw[dJ,y0];exact cx (eT (eT Y (eY (eV g.r) 1)) al) (cZ rfl))
 refine jZ (Ls q) (fw (nJ (dd rfl) (dd rfl)) (fw (oH (dd rfl)) (fw add_i (fw u (dy (h9 rfl) (fw (nJ (dd rfl) (dd rfl)) (fw (oH (dd rfl)) (jZ (el▸i1) (dy (h9 rfl) (dy (h9 rfl) (fw (oH (dd rfl)) (jZ (em▸i2) (fw a1 (fw a2 (fw (nJ (dd rfl) (dd rfl)) (fw ((oH (dd rfl)).trans (congrArg (λi=>aE (aO i)) ef)) ?_))))))))))))))));have y:dp (ZL lv) body_element.tl.tl.tl.tl.tl [aE (aO z),aE (aO k),aE (sv w),aE (sv (dw (1+d.r) (97+k))),aE (sv (xj d.l)),aE (sv (fQ d k)),aE (aO d.f),aE (sv ((fQ d k).flatMap (jl d.f))),aE (sv (lI d w)),aT] σ (lu cu σ.length KK):=by
  by_cases G:d.f=1
  .have e:[34]++(fQ d k).flatMap (jl d.f)++[34]=gn d k:=by unfold gn;rw[if_pos G];rfl
   have b1:fu eL (cC "\"") (sv ((fQ d k).flatMap (jl d.f)))=aE (sv ([34]++(fQ d k).flatMap (jl d.f))):=by rw[Xx];exact jm (a:=[34]) (cx (eY X 1) (cZ rfl))
   have b2:fu eL (sv ([34]++(fQ d k).flatMap (jl d.f))) (cC "\"")=aE (sv (gn d k)):=by rw[Xx,<-e];exact jm (b:=[34]) (by rw[dJ];exact cx (oT (eY X 1) 1) (cZ rfl))
   exact gu (zB (congrArg o8 G)) (fw b1 (fw b2 (⟨h9 rfl,L⟩)))
  .have e:(fQ d k).flatMap (jl d.f)=gn d k:=by unfold gn;rw[if_neg G]
   refine gu (zC λh=>G (iD h))<|And.intro (h9 rfl) ?_
   rw[e];exact L
 have o:=Q_ (l:=(fQ d k).map (jl d.f)) λx hx=>by obtain⟨c,M,rfl⟩:=List.mem_map.mp hx;exact(Ay (W c M)).1
 rw[eE] at o;refine vP (f:=λc=>sv (jl d.f c)) (λc M a0 k' N j=>?_) (cx U (cZ rfl)) (Ly (cx o (cx (ju 2 U) (cZ rfl))) ?_)
 .have B:fu eL (cC "\\") (mu c)=aE (sv [92,c]):=by rw[Z8];exact jm (a:=[92]) (b:=[c]) (cZ rfl)
  by_cases p:d.f=2
  .have e:jl d.f c=[92,c]:=by unfold jl;rw[if_pos (.inl p)]
   rw[e] at j;exact gu (zB (congrArg o8 p)) (fw B ⟨N,j⟩)
  .have D:d.f∈[0,1]:=by
    have h:=g.f;revert p h;rcases d.f with _|_|_|k
    .intros;exact .head _
    .intros;exact .tail _ (.head _)
    .intro h _;exact absurd rfl h
    .intro _ h;exact absurd (pz (pz (pz h))) (FA _)
   have P:gq .In σ (mu c) (cC (rp "\"\\ \t" aT (aE (4-2*(d.f:Int)))))=_:=Tp d.f D c (W c M);refine gu (zC λh=>p (iD h))<|fw (v:=aO (2*(d.f:Int))) rfl (fw zy (Ek (v:=cC (rp "\"\\ \t" aT (aE (4-2*(d.f:Int))))) rfl (gu P ?_)))
   by_cases u:c∈([34,92,32,9]:Wd).take (4-2*d.f)
   .rw[decide_eq_true u]
    have e:jl d.f c=[92,c]:=by unfold jl;rw[if_pos (.inr u)]
    rw[e] at j;exact fw B ⟨N,j⟩
   .rw[decide_eq_false u]
    have e:jl d.f c=[c]:=by unfold jl;rw[if_neg (λh=>h.elim p u)]
    rw[e] at j;exact⟨N,j⟩
 .refine dy (h9 rfl) (fw (nJ (dd rfl) (dd rfl)) (fw (oH (dd rfl)) (jZ (ew▸i3) ?_)))
  have Q:(nE d.w).length<=1000000:=cx (Ey d.w g.w) (cZ rfl);by_cases m:nE d.w=[]
  .refine H7 ((congrArg (λw=>ka lv σ (sv w)) m).trans rI)<|Lw hw J rfl (ly ?_)
   have e:dw (if(decide (w≠[])&&decide (w.getLast?≠aE 34))=bK then 1 else 0) 32=lI d w:=by
    unfold lI;rw[if_neg (show ¬nE d.w≠[] from λh=>h m)];by_cases R:w=[]
    .subst R;rfl
    .by_cases p:w.getLast?=aE 34
     .simp[R,p]
     .simp[R,p]
   refine fw (v:=sv (lI d w)) ?_ y;rw[QO,<-e];exact Tq (by split<;>exact cZ rfl)
  .have e:nE d.w=lI d w:=by unfold lI;rw[if_pos m]
   refine H7 (tT Q m) ?_;rw[e];exact y
end
section
variable {C:Fx}{Kk:i9}{A:et}{Ee:b_->cz->Prop}{s:cz}{ρ:Own}{σ:Sg}{n lv:Nat}{z:List b_}{vs:List V}{KK:V->Sg->Prop}
theorem eq_f:gq .Eq σ (a_ a) (a_ b)=aE (fm a b==aE .eq):=by show yO σ _ _=_;dsimp only[yO];rw[if_neg];intro h;have c:=h.1;exact dF (Bool.and_eq_true_iff.mp c).1
theorem qk:fu nv (a_ a) (a_ b)=aE (a_ (eP a b)):=rfl
theorem Hh:fu eL (a_ a) (a_ b)=aE (a_ (gY a b)):=rfl
theorem xF:fu gk (a_ a) (a_ b)=aE (a_ (fT a b)):=rfl
theorem zD (h:jH b=cu):fu ny (a_ a) (a_ b)=aE (a_ (gN a b)):=by
 show(if jH b=cu then aE (a_ (gN a b)) else aT)=_
 rw[if_pos h]
theorem Wn (h:jH b=cu):fu nz (a_ a) (a_ b)=aE (a_ (s_ a b).2):=by
 show(if jH b=cu then aE (a_ (s_ a b).2) else aT)=_
 rw[if_pos h]
theorem Lz {a b c:UInt64}{Kk:V->Sg->Prop}(h:Kk (a_ (sE a b c)) σ):(ZL lv).spec 5 [a_ a,a_ b,a_ c] σ Kk:=h
theorem LA {a b c:UInt64}{Kk:V->Sg->Prop}(h:Kk (a_ (wR a b c)) σ):(ZL lv).spec 6 [a_ a,a_ b,a_ c] σ Kk:=h
theorem Wo:fu nz (aO i) (aO 6)=aE (aO (i.fmod 6)):=by
 show(if(6:Int)≠0 then aE (aO (i.fmod 6)) else aT)=_
 rw[if_pos (dd rfl)]
theorem Wp:fu ny (a_ a) (a_ 0x4018000000000000)=aE (a_ (gN a 0x4018000000000000)):=zD (by decide+kernel)
theorem mod_1:fu nz (a_ a) (a_ 0x3ff0000000000000)=aE (a_ (s_ a 0x3ff0000000000000).2):=Wn (by decide+kernel)
theorem Tr (h:kH i=bK):fu nv (a_ a) (aO i)=aE (a_ (eP a (fD i))):=by
 show(if kH i then aE (a_ (eP a (fD i))) else aT)=_
 rw[if_pos h]
noncomputable def Tt:Ss:=body_rgb.tl.tl.tl.tl.tl.tl.tl.tl.tl.tl
section
variable {R U Q X G L B u N P D w:Option V}{o:Ss}{r g b l W J v m h Y Z y:UInt64}{d:Out->Mm->Sg->Prop}
theorem R0 (a:∀M,d (dH (nG ((s_ (gN h 0x4018000000000000) 0x3ff0000000000000).2,m,v))) M σ):dp (ZL lv) Tt [R,U,Q,X,G,L,aE (a_ v),aE (a_ m),N,P,D,aE (a_ h)] σ d:=fw Wp (fw mod_1 (dy (h9 rfl) (a _)))
theorem Wq (a:dp (ZL lv) o [aE (a_ r),aE (a_ g),aE (a_ b),aE (a_ (sE r g b)),aE (a_ (wR r g b)),aE (a_ (eP (sE r g b) (wR r g b))),aE (a_ (sE r g b)),u,N,P,D,w] σ d):dp (ZL lv) (bS body_rgb.hd (bS body_rgb.tl.hd (bS body_rgb.tl.tl.hd (bS body_rgb.tl.tl.tl.hd o)))) [aE (a_ r),aE (a_ g),aE (a_ b),X,G,L,B,u,N,P,D,w] σ d:=Lz (LA (fw qk a))
theorem Wr (c:(fm W l==aE .eq)=bK->∀M,d (dH (nG (0,0,v))) M σ)(e:¬(fm W l==aE .eq)=bK->dp (ZL lv) o [R,U,Q,aE (a_ l),aE (a_ W),L,aE (a_ v),u,N,P,D,w] σ d):dp (ZL lv) (bS body_rgb.tl.tl.tl.tl.hd o) [R,U,Q,aE (a_ l),aE (a_ W),L,aE (a_ v),u,N,P,D,w] σ d:=by
 by_cases a:(fm W l==aE .eq)=bK
 .exact gu (eq_f.trans (congrArg aE a)) (dy (h9 rfl) (c a _))
 .exact gu (eq_f.trans (congrArg aE (Bool.eq_false_iff.mpr a))) (e a)
theorem Ws (a:jH l=cu)(c:dp (ZL lv) o [R,U,Q,aE (a_ l),G,aE (a_ J),B,aE (a_ (gN J l)),N,P,D,w] σ d):dp (ZL lv) (bS body_rgb.tl.tl.tl.tl.tl.hd o) [R,U,Q,aE (a_ l),G,aE (a_ J),B,u,N,P,D,w] σ d:=fw (zD a) c
theorem Wt (a:jH J=cu)(c:dp (ZL lv) o [aE (a_ r),U,Q,aE (a_ l),G,aE (a_ J),B,u,aE (a_ (gN (eP l r) J)),P,D,w] σ d):dp (ZL lv) (bS body_rgb.tl.tl.tl.tl.tl.tl.hd o) [aE (a_ r),U,Q,aE (a_ l),G,aE (a_ J),B,u,N,P,D,w] σ d:=fw qk (fw (zD a) c)
theorem Wu (a:jH J=cu)(c:dp (ZL lv) o [R,aE (a_ g),Q,aE (a_ l),G,aE (a_ J),B,u,N,aE (a_ (gN (eP l g) J)),D,w] σ d):dp (ZL lv) (bS body_rgb.tl.tl.tl.tl.tl.tl.tl.hd o) [R,aE (a_ g),Q,aE (a_ l),G,aE (a_ J),B,u,N,P,D,w] σ d:=fw qk (fw (zD a) c)
theorem Tu (a:jH J=cu)(c:dp (ZL lv) o [R,U,aE (a_ b),aE (a_ l),G,aE (a_ J),B,u,N,P,aE (a_ (gN (eP l b) J)),w] σ d):dp (ZL lv) (bS body_rgb.tl.tl.tl.tl.tl.tl.tl.tl.hd o) [R,U,aE (a_ b),aE (a_ l),G,aE (a_ J),B,u,N,P,D,w] σ d:=fw qk (fw (zD a) c)
theorem Wv (a:dp (ZL lv) o [aE (a_ r),aE (a_ g),Q,aE (a_ l),G,L,B,u,aE (a_ Y),aE (a_ Z),aE (a_ y),aE (a_ (if fm r l==aE .eq then eP y Z else if fm g l==aE .eq then eP (gY 0x4000000000000000 Y) y else eP (gY 0x4010000000000000 Z) Y))] σ d):dp (ZL lv) (bS body_rgb.tl.tl.tl.tl.tl.tl.tl.tl.tl.hd o) [aE (a_ r),aE (a_ g),Q,aE (a_ l),G,L,B,u,aE (a_ Y),aE (a_ Z),aE (a_ y),w] σ d:=by
 by_cases c:(fm r l==aE .eq)=bK
 .rw[if_pos c] at a
  exact gu (eq_f.trans (congrArg aE c)) (fw qk a)
 .rw[if_neg c] at a
  refine gu (eq_f.trans (congrArg aE (Bool.eq_false_iff.mpr c))) ?_;by_cases e:(fm g l==aE .eq)=bK
  .rw[if_pos e] at a
   exact gu (eq_f.trans (congrArg aE e)) (fw Hh (fw qk a))
  .rw[if_neg e] at a
   exact gu (eq_f.trans (congrArg aE (Bool.eq_false_iff.mpr e))) (fw Hh (fw qk a))
end
theorem Ww (F:FN C Kk)(H:m5 C n (ZL lv) p7 oU)(h:qq (lv+1) 19 vs σ KK)(i:Rels ρ s.heap z vs)(st:St C ρ σ s)(j:Room (n+10) A):Calls C A 189 z ρ s KK Ee:=by
 obtain⟨_,r,g,b,rfl,h⟩:=h;refine eF (F 13) λk I=>gH H I (r:=9) (tr:=cu) rfl (cU (ja h) λp h f=>?_) i st (j.le (eY (dd rfl) _));dsimp only[vZ] at h;refine Wq (Wr (λc _=>?_) λc=>?_)
 .have e:=dk ((if_pos c).symm.trans h)
  subst e;exact f
 .have h:=(if_neg c).symm.trans h
  clear c;revert h;generalize sE r g b=l;generalize wR r g b=W;generalize eP l W=J;intro h;by_cases a:(jH l||Float64.isZero J)=bK
  .exact O9 rfl (heq_of_eq ((if_pos a).symm.trans h))
  .have e:=dk ((if_neg a).symm.trans h)
   rw[Bool.not_eq_true,Bool.or_eq_false_iff] at a;subst e;exact Ws a.1 (Wt a.2 (Wu a.2 (Tu a.2 (Wv (R0 λ_=>f)))))
theorem Ez {a:UInt64}(c:pJ a=bK){Kk:V->Sg->Prop}(h:Kk (aO (mW mP a)) σ):(ZL lv).spec 3 [a_ a] σ Kk:=by
 show zo (if pJ a then aE (aO (mW mP a)) else aT) _
 rw[if_pos c];exact h
theorem rJ {k j:Int}{x y a1:Nat}{sx sy sz:Str}{m:Ss}{M:Mm}{e t F f i q H I a0:Pos}{d:Out->Mm->Sg->Prop}(h3:M[3]?=aE (aE (aO j)))(hx:M[x]?=aE (aE a))(hy:M[y]?=aE (aE b))(hz:M[a1]?=aE (aE c)) (h1:j=k->d (dH (dj [a,b,c])) M σ) (h2:j≠k->dp (ZL lv) m M σ d):dp (ZL lv) (bS (dA (dx .Eq (aS 3 "i" e) (bO (.int k) 0 t) F) (bS (dT (dO (bE (aS x sx f) (bE (aS y sy i) (bE (aS a1 sz q) bV))) 0 H) I) cy) cy a0) m) M σ d:=by
 refine CV (lv:=lv) (x:="i") (p:=e) h3 ?_;by_cases h:j=k
 .exact gu (lv:=lv) (zB h) (CV (lv:=lv) (x:=sx) (p:=f) hx (CV (lv:=lv) (x:=sy) (p:=i) hy (CV (lv:=lv) (x:=sz) (p:=q) hz ⟨h9 rfl,h1 h⟩)))
 .exact gu (lv:=lv) (zC h) (h2 h)
noncomputable def Wx:Ss:=body_hsv.tl.tl.tl.tl.tl.tl.tl
noncomputable def hs_md:Ss:=body_hsv.tl
theorem R1 {I m v f p q t:UInt64}{i:Int}{d:Out->Mm->Sg->Prop}{r:UInt64×UInt64×UInt64}{M:Mm}(x:M=[aE (a_ I),aE (a_ m),aE (a_ v),aE (aO i),aE (a_ f),aE (a_ p),aE (a_ q),aE (a_ t)]) (a:(if i=0 then aE (v,t,p) else if i=1 then aE (q,v,p) else if i=2 then aE (p,v,t) else if i=3 then aE (p,q,v) else if i=4 then aE (t,p,v) else if i=5 then aE (v,p,q) else aT)=aE r) (h:d (dH (nG r)) M σ):dp (ZL lv) Wx M σ d:=by
 have c:M[3]?=aE (aE (aO i)):=by rw[x];rfl
 have j:M[2]?=aE (aE (a_ v)):=by rw[x];rfl
 have k:M[5]?=aE (aE (a_ p)):=by rw[x];rfl
 have F:M[6]?=aE (aE (a_ q)):=by rw[x];rfl
 have H:M[7]?=aE (aE (a_ t)):=by rw[x];rfl
 refine rJ c j H k (λe=>?_) λe=>?_
 .rw[if_pos e] at a;obtain rfl:=dk a;exact h
 rw[if_neg e] at a;refine rJ c F j k (λe=>?_) λe=>?_
 .rw[if_pos e] at a;obtain rfl:=dk a;exact h
 rw[if_neg e] at a;refine rJ c k j H (λe=>?_) λe=>?_
 .rw[if_pos e] at a;obtain rfl:=dk a;exact h
 rw[if_neg e] at a;refine rJ c k F j (λe=>?_) λe=>?_
 .rw[if_pos e] at a;obtain rfl:=dk a;exact h
 rw[if_neg e] at a;refine rJ c H k j (λe=>?_) λe=>?_
 .rw[if_pos e] at a;obtain rfl:=dk a;exact h
 rw[if_neg e] at a;refine rJ c j k F (λe=>?_) λe=>?_
 .rw[if_pos e] at a;obtain rfl:=dk a;exact h
 rw[if_neg e] at a;cases a
theorem Tv {a m v f:UInt64}{L B u:Option V}{i:Int}{o:Ss}{d:Out->Mm->Sg->Prop} (h:dp (ZL lv) o [aE (a_ a),aE (a_ m),aE (a_ v),aE (aO (i.fmod 6)),aE (a_ f),aE (a_ (fT v (eP 0x3ff0000000000000 m))),aE (a_ (fT v (eP 0x3ff0000000000000 (fT m f)))),aE (a_ (fT v (eP 0x3ff0000000000000 (fT m (eP 0x3ff0000000000000 f)))))] σ d):dp (ZL lv) (bS hs_md.tl.tl.hd (bS hs_md.tl.tl.tl.hd (bS hs_md.tl.tl.tl.tl.hd (bS hs_md.tl.tl.tl.tl.tl.hd o)))) [aE (a_ a),aE (a_ m),aE (a_ v),aE (aO i),aE (a_ f),L,B,u] σ d:=fw qk (fw xF (fw xF (fw qk (fw xF (fw qk (fw xF (fw qk (fw xF (fw Wo h)))))))))
theorem Y6 {c m v:UInt64}{X G L B u:Option V}{o:Ss}{d:Out->Mm->Sg->Prop}(e:(fm m 0==aE .eq)=bK->∀M,d (dH (nG (v,v,v))) M σ)(f:¬(fm m 0==aE .eq)=bK->dp (ZL lv) o [aE (a_ c),aE (a_ m),aE (a_ v),X,G,L,B,u] σ d):dp (ZL lv) (bS body_hsv.hd o) [aE (a_ c),aE (a_ m),aE (a_ v),X,G,L,B,u] σ d:=by
 by_cases a:(fm m 0==aE .eq)=bK
 .exact gu (eq_f.trans (congrArg aE a)) (dy (h9 rfl) (e a _))
 .exact gu (eq_f.trans (congrArg aE (Bool.eq_false_iff.mpr a))) (f a)
theorem Y7 {c m v a:UInt64}{X G L B u:Option V}{o:Ss}{d:Out->Mm->Sg->Prop}(j:fu gk (a_ c) (a_ 0x4018000000000000)=aE (a_ a))(k:pJ a=bK)(e:kH (mW mP a)=bK) (f:dp (ZL lv) o [aE (a_ c),aE (a_ m),aE (a_ v),aE (aO (mW mP a)),aE (a_ (eP a (fD (mW mP a)))),L,B,u] σ d):dp (ZL lv) (bS hs_md.hd (bS hs_md.tl.hd o)) [aE (a_ c),aE (a_ m),aE (a_ v),X,G,L,B,u] σ d:=by
 refine fw j (Ez k (fw j ?_));revert e f;generalize mW mP a=i;exact λe f=>fw (Tr e) f
theorem Wy (F:FN C Kk)(H:m5 C n (ZL lv) p7 oU)(h:qq (lv+1) 20 vs σ KK)(q:Rels ρ s.heap z vs)(st:St C ρ σ s)(t:Room (n+10) A):Calls C A 196 z ρ s KK Ee:=by
 obtain⟨_,j,m,v,rfl,h⟩:=h;refine eF (F 14) λfd I=>gH H I (r:=5) (tr:=cu) rfl (cU (ja h) λr a k=>?_) q st (t.le (eY (dd rfl) _));dsimp only[Aj] at a;refine Y6 (λf _=>?_) λf=>?_
 .have e:=dk ((if_pos f).symm.trans a)
  subst e;exact k
 .have a:=(if_neg f).symm.trans a
  clear f;revert a;generalize p:fT j 0x4018000000000000=i;have M:fu gk (a_ j) (a_ 0x4018000000000000)=aE (a_ i):=congrArg (λx=>aE (a_ x)) p;clear p;intro a;by_cases c:(pJ i&&kH (mW mP i))=bK
  .have a:=(if_pos c).symm.trans a
   rw[eB] at c;exact Y7 M c.1 c.2 (Tv (R1 rfl a k))
  .exact O9 rfl (heq_of_eq ((if_neg c).symm.trans a))
end
theorem jP:∀l:List Nat,gr (l.map λn:Nat=>aO n)=l.map λn:Nat=>vw n:=by
 intro a;induction a with
 |nil=>exact rfl|cons n l b=>exact by simp only[fS,gr,b];rfl
theorem ni:∀l:List Nat,jT (l.map λn:Nat=>vw n)=bK:=by
 intro a;induction a with
 |nil=>exact rfl|cons n l b=>exact by simp only[fS,jT,b];rfl
theorem sf:∀l:List Nat,lN (l.map λn:Nat=>vw n)<=1:=by
 intro a;induction a with
 |nil=>exact by exact eW _
 |cons n l b=>
  exact by have:=b;simp[lN,gX] at *;try exact this
theorem jQ (σ)(l):hZ (w4 σ (dQ l))=bK:=by show(iZ (eK (gr _))&&decide (gX (eK (gr _))<=64))=bK;rw[jP];have:=sf l;simp[iZ,ni,gX];exact cx this (ej ..)
theorem wa (l):j0 (eK (l.map λn:Nat=>vw n)) (eK [])=decide (l=[]):=by
 induction l with
 |nil=>exact rfl|cons n l=>exact rfl
theorem LB (l):gq .Eq σ (dQ l) (cw [])=aE (decide (l=[])):=by show yO σ _ _=_;unfold yO;rw[if_pos ⟨jQ σ l,jQ σ []⟩];show aE (j0 (eK (gr _)) (eK []))=_;rw[jP,wa]
theorem Az (l):gq iu σ (dQ l) (cw [])=aE (decide (l≠[])):=by
 show A5 σ _ _=_;unfold A5;rw[if_pos ⟨jQ σ l,jQ σ []⟩];show aE (!j0 (eK (gr _)) (eK []))=_;rw[jP,wa]
 congr 1
 by_cases h:l=[]<;>simp[h]
theorem EA (l:List Nat):qi (l.map λn:Nat=>aO n)=aE (l.map λn:Nat=>(n:Int)):=zx (λn=>n) l
theorem EB (l:List Nat)(i:Nat):(l.map λn:Nat=>(n:Int)).count (i:Int)=l.count i:=by
 induction l with
 |nil=>rfl|cons n l a=>
  simp only[fS,OV,OV,a]
  congr 1
  by_cases h:n=i
  .simp[h]
  .have:¬((n:Int)=i):=λe=>h (iD e)
   simp[h,this]
theorem Iy {x:Nat}(a:l.length<=1000000)(h:l.getLast?=aE x):e9 σ (dQ l) (aO (-1))=aE (aO x):=by
 have b:0<l.length:=by cases l with|nil=>cases h|cons _ _=>exact ek _
 have e:k9 σ (dQ l) (aO (-1))=aE (aO x):=by unfold k9 dQ;simp only[eE,tS b a,kP,jx];rw[xW] at h;rw[h];rfl
 unfold e9;rw[e]
theorem EC {l:List Nat}(a:σ[m]?=aE (cM (l.map λn:Nat=>aO n)))(b:l.length<=1000000)(h:l.getLast?=aE x):e9 σ (aV m) (aO (-1))=aE (aO x):=by
 have c:0<l.length:=by cases l with|nil=>cases h|cons _ _=>exact ek _
 have e:k9 σ (aV m) (aO (-1))=aE (aO x):=by unfold k9;simp only[a,eE,tS c b,kP,jx];rw[xW] at h;rw[h];rfl
 unfold e9;rw[e]
theorem Y8:gq .Lt σ (aO a) (aO b)=aE (decide (a<b)):=rfl
theorem Tw (ps)(h:ps.length<=1000000):s7 lv σ (iV ps)=aE (ps.length:Int):=by unfold s7 uu iV;simp only[eE,h,if_true]
theorem CW (ps)(start W)(order mark):(j9 ps start W order mark).length<=ps.length:=by
 have a:∀(l:List Nat) (s:FS),(l.foldl (du ps start W order mark) s).rows.length=s.rows.length+l.length:=by
  intro l;induction l with
  |nil=>intro s;rfl|cons k l d=>
   intro s;simp only[pL,d,j8];have:(du ps start W order mark s k).rows.length=s.rows.length+1:=by unfold du;simp only[];split<;>simp
   exact eC (d8 (iP 0x730a09010e62202c29b0a1109 rfl (c_ this))) (d8 (iP 0x704b0a010e6c2844058531109 rfl (c_ this.symm)))
 have:=a (gO start (ps.length-start)) ⟨[],1,0,[],⟨[],[],(if start=0 then((ps.getD 0 []).getD 0 default).2.1 else[]).length⟩⟩
 unfold j9;simp only[] at this ⊢;rw[pF] at this;generalize (if start=0 then((ps.getD 0 []).getD 0 default).2.1 else[])=b at *
 generalize (Bz (du ps start W order mark) ⟨[],1,0,[],⟨[],[],b.length⟩⟩ (gO start (ps.length-start)))=c at *;revert c;refine Jj ?_;set_option tactic.hygienic false in intros
 have this:c.rows.length<=ps.length:=by simp only[this];show 0+_<=_;exact d8 (Jp (sA ..))
 split
 .exact eW _
 .split
  .exact eW _
  .split
   .exact this
   .exact eW _
theorem CX (h:ClOs σ.length σ)(e):ClOs σ.length ((σ++e).take σ.length):=by rw[AN (d9 _),Bb];exact h
theorem tU (l:List Nat):Cls k (l.map λn:Nat=>aO n):=Cls.of λv b=>by
 refine cU (List.mem_map.mp b) λx _ a=>?_;subst a
 trivial
section
variable {KK:V->Sg->Prop}
theorem Hi (a:ClOs σ.length σ)(b:e=cM l)(c:Cls σ.length l)(h:KK (cw l) σ):lu bK σ.length KK (dH (aV σ.length)) M (σ++[e]):=by
 have g:(σ++[e])[σ.length]?=aE (cM l):=by rw[lX (d9 _)];simp[b]
 refine⟨by simp,.inr ⟨l,g,c⟩,CX a _,?_⟩
 rw[AN (d9 _),Bb]
 have:frz (σ++[e]) σ.length (aV σ.length)=cw l:=
  zY (iC _) g
 rw[this];exact h
theorem tV (a:ClOs σ.length σ)(b:XH (σ++e) σ.length v)(h:KK (frz (σ++e) σ.length v) σ):lu bK σ.length KK (dH v) M (σ++e):=by
 refine⟨by simp,b,CX a _,?_⟩
 rw[AN (d9 _),Bb];exact h
inductive sInv (σ:Sg) (ps:List (List fY)) (start W:Nat) (order mark:Wd) (R:List Nat):Nat->Mm->Sg->Prop
 |mk {l:List Nat} {last q:Nat} {x4:Option V}:l.getLast?=aE last->l.length+(q+1)<=21->ps.length<last+(q+1)->il ps W order mark (q+1) last l=R->
  sInv σ ps start W order mark R (q+1) [aE (iV ps),aE (aO start),aE (dj [aO W,sv order,sv mark]),aE (aV σ.length),x4] (σ++[cM (l.map λn:Nat=>aO n)])
theorem Y9 (e:uw [o] (aV 0) m=aE k):(ZL lv).res (σ++[o]) (aV σ.length) m=aE k:=(L1 (by rw[lX (d9 _),t7];rfl)).trans e
theorem Z9 (l c q):l+(q+1+1)<=l+c+1+(q+1):=by rw[kL l c 1,kL (l+1) c (q+1),kL l 1 (q+1)];exact eO _ _
theorem Xy (h:n<=1000):n<=1000000:=cx h (cZ rfl)
theorem R3 (F:FN C Kk)(H:m5 C n (ZL lv) p7 oU)(h:qq (lv+1) 17 vs σ KK)(Z:Rels ρ s.heap as vs)(st:St C ρ σ s)(hA:Room (n+10) A):Calls C A 272 as ρ s KK Ee:=by
 obtain⟨h6,p,d,W,c,f,rfl,P,a0,Q,G,U,hW,w⟩:=h;refine eF (F 20) λfd I=>?_;obtain⟨R,J⟩:∃R,il p W c f 20 d [d]=R:=⟨_,rfl⟩;rw[J] at w;have y:=st.closed;refine gH H I (r:=2) (tr:=bK) rfl ?_ Z st (hA.le (eY (dd rfl) _));refine⟨h9 rfl,sInv σ p d W c f R,⟨20,.mk (l:=[d]) rfl (d9 _) (fC (cx P.1 (cZ (m:=19) rfl)) (fl (dd rfl) (ej 20 _))) J⟩,?_⟩;intro q M a1 hI;induction hI with
 |@mk l b q x4 z L N j=>
 have g:(σ++[cM (l.map λn:Nat=>aO n)])[σ.length]?=aE (cM (l.map λn:Nat=>aO n)):=by rw[lX (d9 _),t7];rfl
 have u:l.length<=1000000:=cx (AW L) (cZ rfl);have X:=EC g u z;have v:p.length<=1000000:=cx P.1 (cZ rfl);refine jZ X (K_ (Tw p v) ?_);replace j:(if b<p.length then _ else _)=_:=j
 by_cases o:b<p.length
 .rw[if_pos o] at j
  refine Z5 (decide_eq_true (Int.ofNat_lt.mpr o)) (jZ X ⟨F7 h6,p,b,W,c,f,rfl,P,o,Q,G,U,hW,?_⟩);have B:=CW p b W c f;revert B j;generalize j9 p b W c f=a;refine λj B=>dy (h9 rfl) ?_;by_cases D:a=[]
  .refine gu ((LB a).trans (congrArg aE (decide_eq_true D)))<|And.intro (h9 rfl) (gu ((Az a).trans (congrArg aE (decide_eq_false λh=>h D))) (dy (h9 rfl) (tV (M:=[]) y trivial ?_)))
   have e:=(if_pos D).symm.trans j;rw[<-e] at w;exact w
  .have j:=(if_neg D).symm.trans j
   refine gu ((LB a).trans (congrArg aE (decide_eq_false D))) ?_;obtain⟨x,Y⟩:∃x,a.getLast?=aE x:=⟨_,N8 D⟩;rw[Y] at j;refine jZ (Iy (cx B v) Y) ?_;by_cases t:x=1
   .refine gu (zB (congrArg o8 t)) (dy (h9 rfl) (gu ((Az a).trans (congrArg aE (decide_eq_true D))) (Hi (M:=[]) y rfl (tU l) ?_)))
    have e:=(if_pos (congrArg aE t)).symm.trans j;rw[<-e] at w;exact w
   .have j:=(if_neg λe=>t (dk e)).symm.trans j
    refine gu (zC λh=>t (iD h))<|tx (Y9 (k:=0) rfl) (jZ (lv:=lv) X (Y2 (lv:=lv) (i:=1) (EA a) (Xw (lv:=lv) g (by rw[eE];exact u) ?_)))
    have e:(b:Int)+((a.map λn:Nat=>(n:Int)).count 1:Nat)+1=((b+a.count 1+1:Nat):Int):=by rw[show(1:Int)=((1:Nat):Int) from rfl,EB];rfl
    have e2:(σ++[cM (l.map λn:Nat=>aO n)]).set σ.length (cM (l.map (λn:Nat=>aO n)++[aO ((b:Int)+((a.map λn:Nat=>(n:Int)).count 1:Nat)+1)]))=σ++[cM ((l++[b+a.count 1+1]).map λn:Nat=>aO n)]:=by rw[xZ _ _ (d9 _),t7,kx,e];rfl
    rcases q with _|q
    .exact absurd (fl N o) (iC _)
    .refine⟨q+1,jG _,?_⟩
     rw[e2];refine .mk A_ ?_ ?_ j
     .rw[dJ];exact cx (c_ (by rw[ic,iE [_].length];rfl)) L
     .exact fl N (Z9 ..)
 .have j:=(if_neg o).symm.trans j
  refine Z6 (decide_eq_false λh=>o (Int.ofNat_lt.mp h)) (Hi (M:=[]) y rfl (tU l) ?_);rw[<-j] at w;exact w
end
theorem jB (d:asc a)(e:asc b):asc (a++b):=λc f=>(List.mem_append.mp f).elim (d c) (e c)
theorem tW (h:∀p∈pr,asc p.1/\asc p.2):asc (df pr):=λc a=>cU (List.mem_flatMap.mp a) λp b a=>(List.mem_append.mp a).elim ((h p b).1 c) ((h p b).2 c)
structure VOk (N:Nat)(s:VS):Prop where
 c:s.c<=1000
 n:s.pr.length+s.lines.length<=2*N
 l:(df s.pr).length+(s.lines.map (·.length)).sum<=50*N
 a:∀p∈s.pr,asc p.1/\asc p.2/\qp p.2
 la:∀x∈s.lines,asc x
theorem VOk.small (h:VOk N s)(a:N<=200):s.small:=by obtain⟨f,b,c,d,g⟩:=h;exact⟨f,cx (cx (eO ..) b) (cx (ju 2 a) (dd rfl)),cx (cx (eO ..) c) (cx (ju 50 a) (dd rfl)),cx (cx (ej ..) b) (cx (ju 2 a) (dd rfl)),cx (cx (ej ..) c) (cx (ju 50 a) (dd rfl)),λp e=>⟨(d p e).1,(d p e).2.1⟩⟩
theorem VOk.ink (h:VOk N s)(a:s.pr≠[]):qp (df s.pr):=eF (Nk _ a) λp a=>cU ((h.a p a).2.2) λc b d=>⟨c,List.mem_flatMap.mpr ⟨p,a,mZ _ b⟩,d⟩
theorem Iz (pr):(df (f9 pr)).length<=(df pr).length:=qs (xx pr) λc a b d=>iteInduction (motive:=λx=>(df x).length<=_) (λ_=>b) (λ_=>a)
theorem IA (h:∀p∈pr,asc p.1/\asc p.2):asc (df (f9 pr)):=by
 refine dz (CN h) λc a=>?_;unfold f9;split
 .simp only[ng]
  exact jB (tW a) (tW (pr:=[(iM pr).2]) λp b=>by rw[ki] at b;subst b;exact c)
 .exact tW a
theorem VOk.linesOk (h:VOk N s)(c:Prop)[Decidable c]:(if c then s.lines++[df (f9 s.pr)] else s.lines).length<=2*N+1/\((if c then s.lines++[df (f9 s.pr)] else s.lines).map (·.length)).sum<=50*N/\∀x∈(if c then s.lines++[df (f9 s.pr)] else s.lines),asc x:=by
 have b:s.lines.length<=2*N:=cx (ej ..) h.n;refine iteInduction (motive:=λL:List Wd=>L.length<=2*N+1/\(L.map (·.length)).sum<=50*N/\∀x∈L,asc x) (λ_=>⟨?_,?_,λx a=>(List.mem_append.mp a).elim (h.la x) λa=>List.mem_singleton.mp a▸IA λp d=>⟨(h.a p d).1,(h.a p d).2.1⟩⟩) λ_=>⟨kM b,cx (ej ..) h.l,h.la⟩
 .rw[dJ];exact kQ b
 .rw[kx,Bm,iE]
  exact cx (oT (Iz _) _) h.l
theorem VOk.newline (h:VOk N s):VOk (N+1) (dX s):=by rw[jO];exact dN (h.linesOk (s.c+(df (f9 s.pr)).length>0)) λA B C=>⟨eW _,cx (c_ (iH _)) (kM A),cx (c_ (iH _)) (cx B (eO _ 50)),λp a=>by(cases a),C⟩
theorem VOk.chunk (n:VOk N s)(o:f.length<=10)(q:t.length<=20)(g:asc f)(h:asc t)(hi:qp t):VOk (N+1) (fy W order s (f,t)):=by
 obtain⟨w,r,y,z,u⟩:=id n;have D:(df (s.pr++[(f,t)])).length=(df s.pr).length+(f.length+t.length):=by rw[eA];exact congrArg ((df s.pr).length+·) ((congrArg i_ (ib _)).trans dJ)
 have c:∀p∈s.pr++[(f,t)],asc p.1/\asc p.2/\qp p.2:=λp a=>by
  rcases List.mem_append.mp a with a|a
  .exact z p a
  .simp only[ki] at a;subst a;exact⟨g,h,hi⟩
 have b:VOk (N+1) {s with pr:=s.pr++[(f,t)]}:=⟨w,by show(s.pr++[(f,t)]).length+_<=_;rw[dJ,kL];exact kM (kQ r),by show(df (s.pr++[(f,t)])).length+(s.lines.map (·.length)).sum<=_;rw[D,kL];exact eT y (cx (eT o q) (dd rfl)),c,u⟩
 unfold fy;dsimp only[];split
 .split
  .rename_i i k
   have l:=zv k;have v:=eA ((s.pr++[(f,t)]).take i) ((s.pr++[(f,t)]).drop i);simp only[F8] at v;refine⟨eW _,?_,?_,λp a=>c p (pB a),λx d=>?_⟩
   .show((s.pr++[(f,t)]).drop i).length+(s.lines++[_]).length<=_
    rw[nV,dJ,dJ];exact cx (oT (NV (eY l.1 s.pr.length)) _) (kM (kQ r))
   .show(df ((s.pr++[(f,t)]).drop i)).length+((s.lines++[_]).map _).sum<=_
    rw[kx,Bm];exact cx (c_ ((iE ..).trans ((ic ..).trans (iE ..))))<|v▸b.l
   .rcases List.mem_append.mp d with d|d
    .exact u x d
    .simp only[ki] at d;rw[d]
     exact tW λp a=>⟨(c p (lZ a)).1,(c p (lZ a)).2.1⟩
  .rw[jd]
   split
   .refine dN (n.linesOk (s.c+(df (f9 s.pr)).length>0)) λA B C=>?_
    rw[jO];have j:((if f=[] then[32] else f:Wd)).length<=10/\asc (if f=[] then[32] else f):=by
     split
     .exact⟨ek _,tQ (dd rfl)⟩
     .exact⟨o,g⟩
    generalize ((if f=[] then[32] else f:Wd))=m at *
    have e:(df [(m,t)]).length=m.length+t.length:=(congrArg i_ (ib _)).trans dJ;refine⟨eW _,cx (c_ (iE ..)) (kQ A),?_,λp a=>?_,C⟩
    .refine cx (eT (c_ e) B) (cx (oT (cx (eT j.1 q) (dd rfl)) _) (c_ (iE 50 _)))
    .obtain rfl:=List.mem_singleton.mp (a:p∈[(m,t)]);exact⟨j.2,h,hi⟩
   .exact b
 .exact b
noncomputable abbrev FM (ps:List (List fY))(start W:Nat)(order mark a:Wd)(L H j:Nat)(m:Wd)(J g f d G I y q D B F x z:Option V):Mm:=[aE (iV ps),aE (aO start),aE (dj [aO W,sv order,sv mark]),aE (aO W),aE (sv order),aE (sv mark),aE (sv a),aE (aV L),aE (aV (L+3)),aE (aO H),aE (aO j),aE (sv m),J,g,f,d,G,I,y,q,D,B,F,x,z]
noncomputable def SF (σ:Sg)(W:Nat)(order:Wd)(vs:VS)(rows:List Nat):Sg:=σ++[UW W order (σ.length+1) (σ.length+2),mw vs.lines,r_ vs.pr vs.c,cM (rows.map λn:Nat=>aO n)]
theorem Ya:fE "x"=fv [120]:=dd rfl
noncomputable def fd_for:S:=body_folded.tl.tl.tl.tl.hd
noncomputable def fd_body:Ss:=fd_for.bdy
noncomputable def fd_in:S:=fd_body.tl.tl.tl.tl.hd
section
variable {C:Fx}{Kk:i9}{A:et}{Ee:b_->cz->Prop}{s:cz}{ρ:Own}{σ:Sg}{n lv:Nat}{M:List b_}{KK:V->Sg->Prop}
variable {ps:List (List fY)}{start W:Nat}{order mark a m:Wd}{L H j:Nat}{J g f d G I y q D B F x z:Option V}{vs:VS}{rows:List Nat}
theorem kg (σ:Sg)(l:Sg)(i:Nat):(σ++l)[σ.length+i]?=l[i]?:=by rw[lX (eO ..)];congr 1;exact eC (d8 (iP 0x1cc442584808700b0a11 rfl (sC (d8 GH)))) (d8 (iP 0x1cc044584808704b0a11 rfl (sB ..)))
theorem tX (σ:Sg)(l:Sg):(σ++l)[σ.length]?=l[0]?:=kg σ l 0
theorem mf (σ:Sg)(l:Sg)(i:Nat)(o:O):(σ++l).set (σ.length+i) o=σ++l.set i o:=by rw[xZ _ _ (by exact d8 GH)];congr 2;exact eC (d8 (iP 0x1cc442584808700b0a11 rfl (sC (d8 GH)))) (d8 (iP 0x1cc044584808704b0a11 rfl (sB ..)))
theorem sf_vf:VFat (SF σ W order vs rows) σ.length (σ.length+1) (σ.length+2) W order vs:=by unfold SF;exact⟨by simp only[tX];rfl,by simp only[kg];rfl,by simp only[kg];rfl⟩
theorem Tx (v:VS):eu (SF σ W order vs rows) (σ.length+1) (σ.length+2) v=SF σ W order v rows:=by unfold eu SF;simp only[mf,mf];rfl
theorem wb:(SF σ W order vs rows)[σ.length+3]?=aE (cM (rows.map λn:Nat=>aO n)):=by unfold SF;simp only[kg];rfl
theorem ED (r:Nat):(SF σ W order vs rows).set (σ.length+3) (cM (rows.map (λn:Nat=>aO n)++[aO (r:Nat)]))=SF σ W order vs (rows++[r]):=by unfold SF;simp only[mf,kx];rfl
theorem VOk.succ {N:Nat}{s:VS}(h:VOk N s):VOk (N+1) s:=⟨h.c,cx h.n (eO _ 2),cx h.l (eO _ 50),h.a,h.la⟩
theorem pf (h:k<ps.length)(b:ps.length<=1000):e9 σ (iV ps) (aO k)=aE (d_ (ps.getD k [])):=by
 unfold iV;rw[iW (by simpa using h) (by simp;exact cx b (ej ..))]
 simp[jx,gK h]
noncomputable def Sl:Ss:=fd_in.bdy
theorem LC (hl:4<=lv){N:Nat}{t:fY}(hg:fR t/\(t.2.2.head?≠aE 120->qp t.2.1))(hN:N<=190)(o:VOk N vs)(ho:order.length<=10)(l:nd order){Kk:Out->Mm->Sg->Prop} (h:VOk (N+1) (if t.2.2.head?≠aE 120 then fy W order vs (t.1,t.2.1) else vs)->Kk de (FM ps start W order mark a σ.length H j m J (aE (sv t.1)) (aE (sv t.2.1)) (aE (sv t.2.2)) G I y q D B F x z) (SF σ W order (if t.2.2.head?≠aE 120 then fy W order vs (t.1,t.2.1) else vs) rows)):dp (ZL lv) Sl (FM ps start W order mark a σ.length H j m J (aE (sv t.1)) (aE (sv t.2.1)) (aE (sv t.2.2)) G I y q D B F x z) (SF σ W order vs rows) Kk:=by
 obtain⟨⟨R,U,u,g4,v,X,Y,P⟩,p⟩:=hg;revert h p u v P;generalize t.2.2=w;intro h p u v P;rcases w with _|⟨c,r⟩
 .exact absurd rfl v
 have hc:c<128:=P c (.head _);refine jZ (Hg (cx u (cZ rfl))) ?_;have Z:∀b,decide ([c]≠[120])=b->gq iu (SF σ W order vs rows) (mu c) (cC "x")=aE b:=λb e=>by rw[Ya,<-e];exact qH (tQ hc) (tQ (dd rfl))
 by_cases i:c=120
 .rw[if_neg (λh=>h (congrArg aE i))] at h
  exact gu (Z _ (decide_eq_false λh=>h (congrArg (λc=>[c]) i))) (h o.succ)
 .have Q:((c::r).head?≠aE 120):=λe=>i (dk e)
  rw[if_pos Q] at h;refine gu (Z _ (decide_eq_true λh=>i (nM h)))<|tx (k:=12) (mx sf_vf.n rfl rfl (dd rfl)) ⟨hl,σ.length,σ.length+1,σ.length+2,W,order,vs,t.1,t.2.1,rfl,sf_vf,o.small (cx hN (cZ rfl)),ho,l,cx R (cZ rfl),cx U (cZ rfl),X,Y,λ_ _ hp=>o.ink hp,p Q,?_⟩
  rw[Tx];exact h (o.chunk (cx R (cZ rfl)) U X Y (p Q))
noncomputable def AA (W:Nat)(order:Wd)(s:VS)(t:fY):VS:=if t.2.2.head?≠aE 120 then fy W order s (t.1,t.2.1) else s
theorem R4 (W:Nat)(order:Wd):∀(p:List fY) (s:VS),(p.filter λt=>t.2.2.head?≠aE 120).foldl (λs t=>fy W order s (t.1,t.2.1)) s=p.foldl (AA W order) s:=by
 intro e;induction e with
 |nil=>exact @λ_=>rfl
 |cons t p c=>
  exact @λs=>by
   rw[pK,pL];unfold AA;by_cases b:t.2.2.head?≠aE 120
   .rw[if_pos b,if_pos (decide_eq_true b),pL];exact c _
   .rw[if_neg b,if_neg (λh=>b (of_decide_eq_true h))];exact c _
theorem R5 (hl:4<=lv)(ho:order.length<=10)(b:nd order){Kk:KO}{Y:Mm->Sg->Prop}{c i k l:Pos}{o r v:Str}:∀{p:List fY} {N:Nat} {vs:VS} {g f d:Option V},(∀t∈p,fR t/\(t.2.2.head?≠aE 120->qp t.2.1))->N+p.length<=190->VOk N vs->(∀g f d,VOk (N+p.length) (p.foldl (AA W order) vs)->Y (FM ps start W order mark a σ.length H j m J g f d G I y q D B F x z) (SF σ W order (p.foldl (AA W order) vs) rows))->om (wD Kk (dp (ZL lv) Sl) (dS [(13,o,c),(14,r,i),(15,v,k)] 0 l)) Y (p.map iN) (FM ps start W order mark a σ.length H j m J g f d G I y q D B F x z) (SF σ W order vs rows):=by
 intro L9;induction L9 with
 |nil=>exact @λN vs g f d _ _ w h=>h g f d w
 |cons t p ih=>
  exact @λN vs g f d Z hN w h=>
   have e:N+(t::p).length=N+1+p.length:=(kL N p.length 1)
   LC hl (Z t (.head _)) (cx (eO ..) hN) w ho b λP=>ih (λu hu=>Z u (.tail _ hu)) (e▸hN) P λQ R U X=>h Q R U (e▸X)
theorem LF (e:4<=lv){k N:Nat}(i:k<ps.length)(c:ps.length<=1000){p:List fY}(l:p=ps.getD k [])(o:∀t∈p,fR t/\(t.2.2.head?≠aE 120->qp t.2.1))(r:N+p.length<=190)(u:VOk N vs)(v:order.length<=10)(b:nd order){Kk:Out->Mm->Sg->Prop} (h:∀g f d,VOk (N+p.length) ((p.filter λt=>t.2.2.head?≠aE 120).foldl (λs t=>fy W order s (t.1,t.2.1)) vs)->Kk de (FM ps start W order mark a σ.length H j m (aE (aO k)) g f d G I y q D B F x z) (SF σ W order ((p.filter λt=>t.2.2.head?≠aE 120).foldl (λs t=>fy W order s (t.1,t.2.1)) vs) rows)):DL (ZL lv) fd_in (FM ps start W order mark a σ.length H j m (aE (aO k)) g f d G I y q D B F x z) (SF σ W order vs rows) Kk:=by
 subst l;rw[R4] at h;exact jZ (pf i c) (R5 e v b o r u h)
end
noncomputable def fd_t1:Ss:=fd_body.tl
noncomputable def LG:Ss:=fd_t1.tl
section
variable {σ:Sg}
variable {start W:Nat}
theorem rK (h:w.length<=1000000)(a:Kk (aO (w.length:Int)) σ):(ZL lv).spec 0 [sv w] σ Kk:=K_ (Wm h) a
theorem CY (z:4<=lv){k N:Nat}(A:k<ps.length)(l:ps.length<=1000){p:List fY}(B:p=ps.getD k [])(C:∀t∈p,fR t/\(t.2.2.head?≠aE 120->qp t.2.1))(D:N+p.length<=190)(F:VOk N vs)(G:order.length<=10)(a:nd order)(m:rows.length<=1000)(b:lay.length<=1000)(n:c.length<=100000){Kk:Out->Mm->Sg->Prop} (h:∀d e f,VOk (N+p.length) ((p.filter λt=>t.2.2.head?≠aE 120).foldl (λs t=>fy W order s (t.1,t.2.1)) vs)->Kk de (FM ps start W order mark g σ.length i (j+lay.length) (c++lay) (aE (aO k)) d e f (aE (sv lay)) o q r u v w x y) (SF σ W order ((p.filter λt=>t.2.2.head?≠aE 120).foldl (λs t=>fy W order s (t.1,t.2.1)) vs) (rows++[i]))):dp (ZL lv) LG (FM ps start W order mark g σ.length i j c (aE (aO k)) d e f (aE (sv lay)) o q r u v w x y) (SF σ W order vs rows) Kk:=by
 refine tx (k:=0) ((L1 wb).trans rfl) (Xw wb (by rw[eE];exact Xy m) ?_)
 rw[ED];exact rK (Xy b) (fw add_i (fw (jm (cx (eT n b) (cZ rfl))) (dy (h9 rfl) (LF z A l B C D F G a h))))
theorem wc {b:Bool}(a:w.length<=1000):fu gk (sv w) (aO ((if b then 1 else 0:Nat):Int))=aE (sv (if b then w else[])):=by
 show(if(fv w).length<=1000/\(((if b then 1 else 0:Nat):Int)).natAbs<=1000 then aE (cC (lU (fv w) ((if b then 1 else 0:Nat):Int))) else aT)=_
 rw[if_pos ⟨by rw[gJ];exact a,by split<;>simp⟩]
 induction b with
 |false=>rfl|true=>
  have:lU (fv w) 1=fv w:=by unfold lU;rw[if_neg (by decide),if_pos (by rfl)]
  show aE (cC (lU (fv w) 1))=_;rw[this];rfl
theorem gt_i:gq .Gt σ (aO a) (aO b)=aE (decide (b<a)):=rfl
theorem uI (t):e9 σ (iN t) (aO 0)=aE (sv t.1):=rfl
theorem uJ (t):e9 σ (iN t) (aO 1)=aE (sv t.2.1):=rfl
theorem zE {j:Nat}(h:j<p.length)(a:p.length<=1000):e9 σ (d_ p) (aO j)=aE (iN (p.getD j default)):=by
 unfold d_;rw[iW (by simpa using h) (by simp;exact cx a (ej ..))]
 simp[jx,gK h]
theorem LH {k:Nat}(I:k<ps.length)(J:ps.length<=1000)(L:∀p∈ps,p≠[]/\p.length<=10/\∀t∈p,asc t.1)(g:lay.length<=1000)(m:i.length<=100000)(R:mark.length<=10){Kk:Out->Mm->Sg->Prop} (l:(k>start/\c+lay.length>W)->dp (ZL lv) LG (FM ps start W order mark f σ.length (n+1) 0 (i++mark) (aE (aO k)) o q r (aE (sv ((if k=1/\((ps.getD 1 []).getD 0 default).1=[] then[32] else[])++lay))) u v w y z A B C) (SF σ W order vs rows) Kk) (U:¬(k>start/\c+lay.length>W)->dp (ZL lv) LG (FM ps start W order mark f σ.length n c i (aE (aO k)) o q r (aE (sv lay)) u v w y z A B C) (SF σ W order vs rows) Kk):dp (ZL lv) fd_t1 (FM ps start W order mark f σ.length n c i (aE (aO k)) o q r (aE (sv lay)) u v w y z A B C) (SF σ W order vs rows) Kk:=by
 by_cases e:k>start
 .refine gu (gt_i.trans (congrArg aE (decide_eq_true (Int.ofNat_lt.mpr e)))) (rK (Xy g) (fw add_i ?_))
  by_cases G:c+lay.length>W
  .have l:=l ⟨e,G⟩
   refine gu (gt_i.trans (congrArg aE (decide_eq_true (Int.ofNat_lt.mpr G)))) ?_;have M:∀{N:V->Sg->Prop} (b:Bool),decide (k=1/\((ps.getD 1 []).getD 0 default).1=[])=b->(∀p,p=(if k=1/\((ps.getD 1 []).getD 0 default).1=[] then[32] else[]:Wd)->p.length<=1->fu gk (cC " ") (aO ((if b then 1 else 0:Nat):Int))=aE (sv p)->N (aO ((if b then 1 else 0:Nat):Int)) (SF σ W order vs rows))->(ZL lv).spec 3 [dB b] (SF σ W order vs rows) N:=by
    intro N b X I;refine ly (I _ rfl ?_ ?_)
    .split<;>exact cZ rfl
    .rw[Lx,wc (cZ rfl),<-X]
     by_cases H:k=1/\((ps.getD 1 []).getD 0 default).1=[]
     .rw[decide_eq_true H,if_pos H];rfl
     .rw[decide_eq_false H,if_neg H];rfl
   by_cases d:k=1
   .have j:1<ps.length:=d▸I
    have D:ps.getD 1 []∈ps:=by rw[kK,gK j];exact sX j
    obtain⟨Y,Z,n3⟩:=L _ D;have F:0<(ps.getD 1 []).length:=List.length_pos_iff.mpr Y;refine gu (lv:=lv) (zB (congrArg o8 d)) (jZ (lv:=lv) (pf j J) (jZ (lv:=lv) (zE F (cx Z (cZ rfl))) (jZ (lv:=lv) (uI _) (gu (lv:=lv) ((congrArg (λs=>gq .Eq _ _ (cC s)) mB).trans (CU (n3 _ (kf F)) jA)) (M _ ?_ λp hp P Q=>?_)))))
    .exact decide_eq_decide.mpr ⟨λh=>h.2,λh=>⟨d,h⟩⟩
    .rw[<-hp] at l
     exact fw Q (fw (jm (cx (eT P g) (cZ rfl))) (fw add_i (fw (jm (cx (eT m R) (cZ rfl))) (dy (h9 rfl) l))))
   .rw[if_neg λh=>d h.1] at l
    have m0:fu gk (cC " ") (aO 0)=aE (sv []):=by rw[Lx];exact wc (b:=cu) (cZ rfl)
    have m1:fu eL (cC (lU (fE " ") (if cu=bK then 1 else 0))) (sv lay)=aE (sv ([]++lay)):=(congrArg (λx=>fu eL x (sv lay)) (dk (m0:aE (cC (lU (fE " ") (if cu=bK then 1 else 0)))=aE (sv [])))).trans (jm (a:=[]) (cx (eY g 0) (cZ rfl)))
    exact gu (lv:=lv) (zC λh=>d (iD h)) (fw (lv:=lv) m1 (fw (lv:=lv) add_i (fw (lv:=lv) (jm (cx (eT m R) (cZ rfl))) (dy (h9 rfl) l))))
  .exact gu (gt_i.trans (congrArg aE (decide_eq_false λh=>G (Int.ofNat_lt.mp h)))) (U (λh=>G h.2))
 .exact gu (gt_i.trans (congrArg aE (decide_eq_false λh=>e (Int.ofNat_lt.mp h)))) (U (λh=>e h.1))
end
structure FOk (j:Nat)(fs:FS):Prop where
 row:fs.row<=j+1
 used:fs.used<=300*j
 due:fs.due.length<=300*j
 asc:asc fs.due
 vs:VOk (10*j) fs.vs
 rows:fs.rows.length=j
 ne:0<j->fs.due≠[]
theorem VOk.mono (h:VOk N s)(a:N<=M):VOk M s:=⟨h.c,cx h.n (ju 2 a),cx h.l (ju 50 a),h.a,h.la⟩
theorem LI (f:p.length<=10)(a:∀t∈p,fR t):(fZ p).length<=220/\asc (fZ p):=by
 have:∀p:List fY,(∀t∈p,fR t)->(fZ p).length<=22*p.length:=by
  intro p;induction p with
  |nil=>intro _;exact d9 _|cons t p g=>
   intro a;have i:=g λu j=>a u (by simp[j])
   have d:=a t (.head _);have e:(fZ (t::p)).length=t.1.length+t.2.1.length+(fZ p).length:=by simp[fZ];exact(ic ..).symm
   simp only[e,j8];exact cx (eT (eT d.1 d.2.1) i) (c_ (iE 22 _))
 have h:=this p a;refine⟨by exact d8 (jY 0x2d948043ad00424382585000000006e7 rfl f h),λc b=>cU (List.mem_flatMap.mp b) λt k b=>?_⟩
 obtain⟨n,o,q,r,s,l,m,v⟩:=a t k;exact(List.mem_append.mp b).elim (l c) (m c)
theorem Tz (h:p≠[])(b:∀t∈p,fR t):fZ p≠[]:=by refine eF (Nk _ h) λt a=>?_;intro e;have:t.1++t.2.1=[]:=List.flatMap_eq_nil_iff.mp e t a;exact(b t a).2.2.2.1 (List.append_eq_nil_iff.mp this).2
theorem Hj (h:mark=[10]\/mark=[13,10]):mark.length<=2/\asc mark:=by
 rcases h with rfl|rfl
 .exact⟨by decide,tQ (dd rfl)⟩
 .exact⟨by decide,(by decide:∀c∈([13,10]:Wd),c<128)⟩
section
variable {σ:Sg}
variable {start W:Nat}
theorem EE (hl:4<=lv){j k:Nat}{fs:FS}(q:se ps)(n:k<ps.length)(G:j<=9)(hf:FOk j fs)(ho:order.length<=10)(i:nd order)(H:mark=[10]\/mark=[13,10]){Kk:Out->Mm->Sg->Prop} (h:∀r u v w,FOk (j+1) (du ps start W order mark fs k)->Kk de (FM ps start W order mark x σ.length (du ps start W order mark fs k).row (du ps start W order mark fs k).used (du ps start W order mark fs k).due (aE (aO k)) r u v w I J L M N P Q R) (SF σ W order (du ps start W order mark fs k).vs (du ps start W order mark fs k).rows)):dp (ZL lv) fd_body (FM ps start W order mark x σ.length fs.row fs.used fs.due (aE (aO k)) r u v w I J L M N P Q R) (SF σ W order fs.vs fs.rows) Kk:=by
 have d:ps.length<=1000:=cx q.1 (cZ rfl);have y:ps.getD k []∈ps:=by rw[kK,gK n];exact sX n
 obtain⟨n1,o,m⟩:=q.2.1 _ y;obtain⟨p,b⟩:∃p,ps.getD k []=p:=⟨_,rfl⟩;have i1:=pf (σ:=SF σ W order fs.vs fs.rows) n d;rw[b] at n1 o m i1;have b:=b.symm;obtain⟨a,z⟩:=LI o λt l=>(m t l).1;have U:(p.map λt:fY=>t.1++t.2.1).flatten=fZ p:=by rw[fZ,OF]
 have A:((p.map λt:fY=>t.1++t.2.1).map (·.length)).sum=(fZ p).length:=by rw[<-U,List.length_flatten]
 obtain⟨f1,f2,X,f4,f5,B,f7⟩:=hf;have C:=Tz n1 λt l=>(m t l).1;obtain⟨Y,m2⟩:=Hj H;have hN:10*j+p.length<=190:=cx (eT (ju 10 G) o) (cZ rfl);have D:fs.rows.length<=1000:=cx (c_ B) (cx G (cZ rfl));have c:fs.due.length<=2700:=cx X (ju 300 G);refine jZ i1 (kZ (f:=λt:fY=>sv (t.1++t.2.1)) (λt l a3 k' ha Z=>fw (jm (cx (eT (m t l).1.1 (m t l).1.2.1) (cZ rfl))) (dy ha Z)) (cx o (cZ rfl)) (Ly (by rw[A];exact cx a (cZ rfl)) (LH (lay:=fZ p) n d (λp b=>⟨(q.2.1 p b).1,(q.2.1 p b).2.1,λt l=>((q.2.1 p b).2.2 t l).1.2.2.2.2.2.1⟩) (cx a (cZ rfl)) (cx c (cZ rfl)) (cx Y (cZ rfl)) (λhc=>?_) (λhc=>?_))))
 .have ef:du ps start W order mark fs k=⟨fs.rows++[fs.row+1],fs.row+1,0+((if k=1/\((ps.getD 1 []).getD 0 default).1=[] then[32] else[])++fZ p).length,fs.due++mark++((if k=1/\((ps.getD 1 []).getD 0 default).1=[] then[32] else[])++fZ p),(p.filter λt=>t.2.2.head?≠aE 120).foldl (λs t=>fy W order s (t.1,t.2.1)) fs.vs⟩:=by unfold du;simp only[<-b];rw[if_pos hc]
  rw[ef] at h;have g:(if k=1/\((ps.getD 1 []).getD 0 default).1=[] then[32] else[]:Wd).length<=1/\asc (if k=1/\((ps.getD 1 []).getD 0 default).1=[] then[32] else[]):=by
   split
   .exact⟨d9 _,tQ (dd rfl)⟩
   .exact⟨eW _,jA⟩
  generalize (if k=1/\((ps.getD 1 []).getD 0 default).1=[] then[32] else[]:Wd)=F at *
  exact CY hl n d b m hN f5 ho i D (by rw[dJ];exact d8 (jY 0xe00000000dce021c14121cc04258500000001f47 rfl a g.1)) (by rw[dJ];exact cx (eT c Y) (cZ rfl)) λa0 a1 a2 hv=>h _ _ _ _<|⟨by show fs.row+1<=_;exact d8 (jY 0x730a09010e61402c298530a09 rfl f1),by show 0+(F++fZ p).length<=_;rw[dJ,iH];exact cx (eT g.1 a) (cx (cZ rfl) (ej 300 (300*j))),by show(fs.due++mark++(F++fZ p)).length<=_;rw[dJ,dJ,dJ,ic];exact eT X (cx (eT Y (eT g.1 a)) (cZ rfl)),jB (jB f4 m2) (jB g.2 z),hv.mono (d8 (jY 0x1ca4021cc055025852a30a09 rfl o)),by show(fs.rows++[_]).length=_;rw[dJ];simp;exact eC (d8 (oV (c_ B))) (d8 (oV (c_ B.symm))),λ_ e=>C (List.append_eq_nil_iff.mp (List.append_eq_nil_iff.mp e).2).2⟩
 .have ef:du ps start W order mark fs k=⟨fs.rows++[fs.row],fs.row,fs.used+(fZ p).length,fs.due++fZ p,(p.filter λt=>t.2.2.head?≠aE 120).foldl (λs t=>fy W order s (t.1,t.2.1)) fs.vs⟩:=by unfold du;simp only[<-b];rw[if_neg hc]
  rw[ef] at h;exact CY hl n d b m hN f5 ho i D (d8 (gp 0x1c00000001b9c0438058500000001f47 rfl a)) (cx c (cZ rfl)) λa0 a1 a2 hv=>h _ _ _ _<|⟨by show fs.row<=_;exact d8 (jY 0xe61412021c02c298530a09 rfl f1),eT f2 (cx a (cZ rfl)),by show(fs.due++fZ p).length<=_;rw[dJ];exact eT X (cx a (cZ rfl)),jB f4 z,hv.mono (d8 (jY 0x1ca4021cc055025852a30a09 rfl o)),by show(fs.rows++[_]).length=_;rw[dJ];simp;exact eC (d8 (oV (c_ B))) (d8 (oV (c_ B.symm))),λ_ e=>C (List.append_eq_nil_iff.mp e).2⟩
theorem LJ (J:4<=lv)(L:se ps)(M:order.length<=10)(m:nd order)(n:mark=[10]\/mark=[13,10]){Kk:KO}{G:Mm->Sg->Prop}{q:Pos}{y:Str}:∀{l:List Nat} {j:Nat} {fs:FS} {a b c d f:Option V},(∀k∈l,k<ps.length)->j+l.length<=10->FOk j fs->(∀a b c d f,FOk (j+l.length) (l.foldl (du ps start W order mark) fs)->G (FM ps start W order mark g σ.length (l.foldl (du ps start W order mark) fs).row (l.foldl (du ps start W order mark) fs).used (l.foldl (du ps start W order mark) fs).due a b c d f o p r s t u v w) (SF σ W order (l.foldl (du ps start W order mark) fs).vs (l.foldl (du ps start W order mark) fs).rows))->om (wD Kk (dp (ZL lv) fd_body) (cJ 12 y q)) G (l.map λk:Nat=>aO k) (FM ps start W order mark g σ.length fs.row fs.used fs.due a b c d f o p r s t u v w) (SF σ W order fs.vs fs.rows):=by
 intro N;induction N with
 |nil=>exact @λj fs a b c d f _ _ x h=>h _ _ _ _ _ x
 |cons k l P=>
  exact @λj fs a b c d f H I x h=>
   have e:j+(k::l).length=j+1+l.length:=(kL j l.length 1)
   EE J L (H k (.head _)) (mM (fl (F5 (ek _)) I)) x M m n λz A B C D=>P (λi Q=>H i (.tail _ Q)) (e▸I) D λR z A B C F=>h _ _ _ _ _ (e▸F)
theorem lz (a b:Nat):gz (a:Int) (b:Int)=(gO a (b-a)).map λk:Nat=>aO k:=by
 unfold gz;simp only[List.range'_eq_map_range,mQ,FT b a];refine y6 λk _=>?_;show aO _=aO _
 congr 1
theorem IB (w:4<=lv)(v:se ps)(i:start<ps.length)(x:order.length<=10)(l:nd order)(u:mark=[10]\/mark=[13,10]){fs:FS}(y:FOk 0 fs){Kk:Out->Mm->Sg->Prop} (h:∀c d e f g,FOk (ps.length-start) ((gO start (ps.length-start)).foldl (du ps start W order mark) fs)->Kk de (FM ps start W order mark b σ.length ((gO start (ps.length-start)).foldl (du ps start W order mark) fs).row ((gO start (ps.length-start)).foldl (du ps start W order mark) fs).used ((gO start (ps.length-start)).foldl (du ps start W order mark) fs).due c d e f g m n o p q r s t) (SF σ W order ((gO start (ps.length-start)).foldl (du ps start W order mark) fs).vs ((gO start (ps.length-start)).foldl (du ps start W order mark) fs).rows)):DL (ZL lv) fd_for (FM ps start W order mark b σ.length fs.row fs.used fs.due c d e f g m n o p q r s t) (SF σ W order fs.vs fs.rows) Kk:=by
 have a:=v.1;have z:om (wD Kk (dp (ZL lv) fd_body) fd_for.tgt) (Pr Kk (dp (ZL lv) fd_for.els)) (gz start ps.length) (FM ps start W order mark b σ.length fs.row fs.used fs.due c d e f g m n o p q r s t) (SF σ W order fs.vs fs.rows):=by rw[lz];exact LJ w v x l u (j:=0) (λk A=>fl (List.mem_range'_1.mp A).2 (c_ (pC (eV i)))) (by rw[pF,iH];exact cx (gZ ..) (cx a (cZ rfl))) y (by rw[pF,iH];exact h)
 exact K_ (Tw ps (cx a (cZ rfl))) (dy ⟨cx (eV i) (cx a (cZ rfl)),cx a (cZ rfl)⟩ z)
end
noncomputable def Ss.app:Ss->Ss->Ss
 |cy,B=>B|bS s A,B=>bS s (A.app B)
def Fz (σ:Sg)(k:Nat):Mm->Mm->Prop
 |_,[]=>True|_::M,aT::N=>Fz σ k M N|some w::M,aE v::N=>(zZ σ k w/\v=sr σ k w)/\Fz σ k M N|_,_=>False
theorem Fz.get:∀{M N:Mm} {i:Nat} {v:V},Fz σ k M N->N[i]?=aE (aE v)->∃w,M[i]?=aE (aE w)/\v=sr σ k w/\zZ σ k w
 |_,[],i,v,_,e=>by simp at e
 |[],x::N,i,v,h,_=>by rcases x with _|_<;>exact h.elim
 |none::M,aE x::N,i,v,h,_=>h.elim|x::M,aT::N,0,v,h,e=>by simp at e
 |x::M,aT::N,i+1,v,h,e=>by have h:Fz σ k M N:=h;exact Fz.get h (i:=i) (by simpa using e)
 |some w::M,aE x::N,0,v,h,e=>by obtain⟨⟨h1,h2⟩,_⟩:=h;simp at e;subst e;exact⟨w,rfl,h2,h1⟩
 |some w::M,aE x::N,i+1,v,h,e=>by simpa using Fz.get h.2 (i:=i) (by simpa using e)
def Wz (Z:Sem0)(B:Ss)(a:Nat)(c:Out->Mm->Sg->Prop):Out->Mm->Sg->Prop:=λo M b=>match o with
 |de=>∃k,a<=k/\ClOs k (b.take k)/\∃N,Fz b k M N/\dp Z B N (b.take k) c|o=>c o M b
theorem Ss.ind {P:Ss->Prop}(b:P cy)(c:∀s a,P a->P (bS s a)):∀a,P a
 |cy=>b|bS s a=>c s a (Ss.ind b c a)
theorem EnvRel.frz (R:EnvRel C u vis M ρ' h)(c:Conc C ρ' σ h)(t:ρ.l=ρ'.l.take k)(F:ρ'.hid=ρ.hid)(g:∀(i:Nat) p,ρ'.l[i]?=aE p->k<=i->p.1∉ρ.hid) (G:Fz σ k M N):EnvRel C u vis N ρ h:=by
 have j:∀{i:Nat} {v:V},N[i]?=aE (aE v)->∃w,M[i]?=aE (aE w)/\v=sr σ k w/\zZ σ k w:=λ{i v} e=>G.get e;refine cU R.ns λm H I=>⟨R.kind,R.glob,R.bi,⟨m,H,λi x o s v e=>?_⟩,λi x o s=>?_,⟨R.nsO.1,?_,R.nsO.2.2⟩,λi x y o s z=>?_,R.inj⟩
 .refine hR (j e) λw A l f=>?_;subst l
  exact cU (I i x o s w A) λa q r=>⟨a,q,tH c t F g r f⟩
 .refine dz (R.cel i x o s) λJ B=>?_;obtain⟨y,L,z,n,r⟩:=B
  refine⟨J,y,L,z,n,λv e=>?_⟩;refine hR (j e) λw A l f=>?_;subst l;exact cU (r w A) λa q r=>⟨a,q,tH c t F g r f⟩
 .intro p D;exact R.nsO.2.1 p (lZ (t▸D))
 .exact dN (R.celO i x y o s z) λa b d=>⟨a,λp D=>b p (lZ (t▸D)),d⟩
theorem TA (H:m5 C n Z gv mv)(v:St C a F w) (J:o_ b.scope.names vis B=bK) (hv:qg vis=bK) (hA:Room n A):∀(L:Ss) {M:Mm} {σ:Sg} {ρ:Own} {s:cz},o_ b.scope.names vis L=bK->EnvRel C b vis M ρ s.heap->St C ρ σ s->Ext (kX b vis) a ρ w.heap s.heap->dp Z L M σ (Wz Z B F.length Kb)->cD (cm C.prog C.w) A (q0 (L.app B).back b) (PS C (kX b vis) b vis a w.heap Kb) E' s:=by
 refine Ss.ind ?_ ?_
 .exact @λM σ ρ s ok R y X h=>by
   refine hR h λk hk hc P=>?_;refine cU P λN hM hB=>?_;have D:a.l.length<=k:=by rw[v.conc.len];exact hk
   have G:∀(i:Nat) p,ρ.l[i]?=aE p->k<=i->p.1∉ρ.hid:=λi p I hi hm=>by
    rcases X.new p (jS I) with z|⟨z,_⟩
    .refine eF (mI z) λj Q=>?_
     have U:ρ.l[j]?=aE p:=by refine eF X.pre λt W=>?_;rw[<-W,jR (List.getElem?_eq_some_iff.mp Q).1];exact Q
     have:j<a.l.length:=(List.getElem?_eq_some_iff.mp Q).1;exact(y.conc.apart i j p p I U (fx (gG (vC 0x704808700888708b0a190e1909 rfl hi D this)))).1 rfl
    .refine eF (v.conc.hid _ (X.hid▸hm)) λo e=>?_;rw[z] at e;exact nN e
   have Y:St C ⟨ρ.l.take k,ρ.hid⟩ (σ.take k) s:=⟨y.conc.trunc rfl rfl hc,y.os,y.gens⟩;have Rt:EnvRel C b vis N ⟨ρ.l.take k,ρ.hid⟩ s.heap:=R.frz y.conc rfl rfl G hM;have Xt:Ext (kX b vis) a ⟨ρ.l.take k,ρ.hid⟩ w.heap s.heap:=by refine⟨eF X.pre λt W=>⟨t.take (k-a.l.length),?_⟩,X.hid,X.dom,λp I=>X.new p (lZ I),X.seq,X.keep,X.code⟩;show _=ρ.l.take k;rw[<-W,Bc,lY D]
   exact wM (jz H B J hv Rt Y hA hB) (λf a0 q=>q.up Xt)
 .exact @λy ss ih M σ ρ s ok R hs X h=>by
   refine xA ok λo1 o2=>?_;show cD _ _ (q0 (y.back::(ss.app B).back) b) _ _ _;refine mO (wM (so H y o1 hv R hs hA h) (λf a1 q=>?_));obtain⟨d,g,x,o,l,fr,c,m,u⟩:=q;induction fr with
   |next=>exact ih o2 m c (X.trans u) l|brk=>exact⟨d,g,x,_,l,.brk,c,m,X.trans u⟩|cont=>exact⟨d,g,x,_,l,.cont,c,m,X.trans u⟩|ret r=>exact⟨d,g,x,_,l,.ret r,c,m,X.trans u⟩
theorem CZ:∀{a B:Ss},o_ nm vis (a.app B)=bK->o_ nm vis a=bK/\o_ nm vis B=bK:=by
 intro a;refine Ss.ind (P:=λa=>∀{B:Ss},o_ nm vis (a.app B)=bK->o_ nm vis a=bK/\o_ nm vis B=bK) ?_ ?_ a
 .exact @λB h=>⟨rfl,h⟩
 .exact @λs A b B h=>xA h λc d=>dz (b d) λe f=>⟨Bool.and_eq_true_iff.mpr ⟨c,e⟩,f⟩
theorem C_ (H:m5 C n Z l m)(I:FnIs C a fd ps vis (d.app B)) (b:vs.length=ps.length) (h:dp Z d (vs.map aE++dw r aT) σ (Wz Z B σ.length (lu tr σ.length Kk))) (g:Rels ρ s.heap i vs) (st:St C ρ σ s) (j:Room (n+3) A):fA (cm C.prog C.w) A (eR (aK a) ⟨i,[]⟩) (yN (PE C [] ρ s.heap Kk) Ee) s:=ot I.e (I 4) b g st j λk e o p f q t R st X c=>TA H st (by rw[f];exact(CZ (I 15)).2) (I 12) c d (by rw[f];exact(CZ (I 15)).1) R st (Ext.refl ..) h
def Adv (s a:LS):Prop:=(∃k,a.left=s.left.drop k)/\s.line<=a.line
theorem Adv.refl (s):Adv s s:=⟨⟨0,rfl⟩,d9 _⟩
theorem Adv.trans (h:Adv a b)(g:Adv b c):Adv a c:=by refine dz h λd e=>?_;obtain⟨k,f⟩:=d;refine dz g λd i=>?_;obtain⟨j,l⟩:=d;exact⟨⟨k+j,by simp only[l,f,FG]⟩,cx e i⟩
theorem Adv.sub (h:Adv a b):∀c∈b.left,c∈a.left:=λc e=>by refine dz h λd _=>?_;obtain⟨k,f⟩:=d;rw[f] at e;exact pB e
theorem Adv.len (h:Adv a b):b.left.length<=a.left.length:=by refine dz h λc _=>?_;obtain⟨k,d⟩:=c;simp only[d,nV];exact gZ _ _
theorem k_ (s):Adv s (dh s).2/\∀c,(dh s).1=aE c->c∈s.left:=by
 obtain⟨l,n⟩:=s;induction l with
 |nil=>exact⟨Adv.refl _,λc h=>by cases h⟩
 |cons c r=>
  refine⟨⟨⟨1,rfl⟩,?_⟩,λd h=>?_⟩
  .show n<=if c=10 then n+1 else n
   exact iteInduction (motive:=(n<=·)) (λ_=>dU _) (λ_=>d9 _)
  .cases h;exact B8
theorem LL (h:s.left≠[]):(dh s).2.left.length<s.left.length:=by
 obtain⟨l,n⟩:=s;induction l with
 |nil=>exact absurd rfl h|cons c r=>show r.length<(c::r).length;exact d9 _
theorem lA:∀(n:Nat) (tok:Wd) (s:LS),Adv s (fJ n tok s).2.1/\∀c∈(fJ n tok s).1,c∈tok\/c∈s.left
 |0,tok,s=>⟨Adv.refl _,λc h=>.inl h⟩
 |n+1,tok,s=>by
  have h:=k_ s;dsimp only[fJ];induction k:dh s with
  |mk o f=>
   rw[k] at h;induction o with
   |none=>exact⟨h.1,λc h=>.inl h⟩
   |some c=>
    have e:=h.2 c rfl;dsimp only[];split
    .exact⟨h.1,λc h=>.inl h⟩
    .split
     .have b:=k_ f
      induction g:dh f with
      |mk l j=>
       rw[g] at b;induction l with
       |none=>have a:=lA n tok j;exact⟨h.1.trans (b.1.trans a.1),λc e=>(a.2 c e).imp id λq=>(h.1.trans b.1).sub c q⟩
       |some d=>
        have i:=h.1.sub d (b.2 d rfl);have a:=lA n (tok++[d]) j;refine⟨h.1.trans (b.1.trans a.1),λc e=>?_⟩;rcases a.2 c e with q|q
        .rcases List.mem_append.mp q with q|q
         .exact .inl q
         .rw[ki] at q;refine cn (q ..) ?_;exact .inr i
        .exact .inr ((h.1.trans b.1).sub c q)
     .have a:=lA n (tok++[c]) f
      refine⟨h.1.trans a.1,λd i=>?_⟩;rcases a.2 d i with q|q
      .rcases List.mem_append.mp q with q|q
       .exact .inl q
       .rw[ki] at q;refine cn (q ..) ?_;exact .inr e
      .exact .inr (h.1.sub d q)
theorem je:∀(n:Nat) (tok:Wd) (s:LS),Adv s (ji n tok s).2.1/\∀c∈(ji n tok s).1,c∈tok\/c∈s.left
 |0,tok,s=>⟨Adv.refl _,λc h=>.inl h⟩
 |n+1,tok,s=>by
  have h:=k_ s;dsimp only[ji];induction k:dh s with
  |mk o f=>
   rw[k] at h;induction o with
   |none=>exact⟨h.1,λc h=>.inl h⟩
   |some c=>
    have e:=h.2 c rfl;dsimp only[];split
    .exact⟨h.1,λc h=>.inl h⟩
    .split
     .have b:=k_ f
      induction g:dh f with
      |mk l j=>
       rw[g] at b;induction l with
       |none=>have a:=je n tok j;exact⟨h.1.trans (b.1.trans a.1),λc e=>(a.2 c e).imp id λq=>(h.1.trans b.1).sub c q⟩
       |some d=>
        have i:=h.1.sub d (b.2 d rfl);have a:=je n (tok++[d]) j;refine⟨h.1.trans (b.1.trans a.1),λc e=>?_⟩;rcases a.2 c e with q|q
        .rcases List.mem_append.mp q with q|q
         .exact .inl q
         .rw[ki] at q;refine cn (q ..) ?_;exact .inr i
        .exact .inr ((h.1.trans b.1).sub c q)
     .have a:=je n (tok++[c]) f
      refine⟨h.1.trans a.1,λd i=>?_⟩;rcases a.2 d i with q|q
      .rcases List.mem_append.mp q with q|q
       .exact .inl q
       .rw[ki] at q;refine cn (q ..) ?_;exact .inr e
      .exact .inr (h.1.sub d q)
theorem tY:∀(n:Nat) (s:LS),Adv s (fM n s).2/\∀c∈(fM n s).1,c∈s.left:=by
 intro k;induction k with
 |zero=>exact @λs=>⟨Adv.refl _,λc h=>by cases h⟩
 |succ n g=>
  exact @λs=>by
   have h:=k_ s;dsimp only[fM];induction l:dh s with
   |mk o b=>
    rw[l] at h;induction o with
    |none=>exact⟨h.1,λc h=>by cases h⟩
    |some c=>
     have m:=h.2 c rfl;dsimp only[];split
     .have g:=g b
      exact⟨h.1.trans g.1,λd a=>h.1.sub d (g.2 d a)⟩
     .split
      .have q:=lA (b.left.length+1) [] b
       exact⟨h.1.trans q.1,λd a=>h.1.sub d ((q.2 d a).resolve_left (fh))⟩
      .split
       .have f:=k_ b
        induction j:dh b with
        |mk p i=>
         rw[j] at f;induction p with
         |none=>have q:=je (i.left.length+1) [] i;exact⟨h.1.trans (f.1.trans q.1),λd a=>(h.1.trans f.1).sub d ((q.2 d a).resolve_left (fh))⟩
         |some e=>
          have r:=h.1.sub e (f.2 e rfl);have q:=je (i.left.length+1) [e] i;refine⟨h.1.trans (f.1.trans q.1),λd a=>?_⟩;rcases q.2 d a with q|q
          .rw[ki] at q;refine cn (q ..) ?_;exact r
          .exact(h.1.trans f.1).sub d q
       .have q:=je (b.left.length+1) [c] b
        refine⟨h.1.trans q.1,λd a=>?_⟩;rcases q.2 d a with q|q
        .rw[ki] at q;refine cn (q ..) ?_;exact m
        .exact h.1.sub d q
theorem R6 (h:s.left≠[]):(fM (n+1) s).2.left.length<s.left.length:=by
 have a:=LL h;dsimp only[fM];induction i:dh s with
 |mk o b=>
  rw[i] at a;have a:b.left.length<s.left.length:=a;induction o with
  |none=>exact a|some c=>
   dsimp only[];split
   .exact fC (tY n b).1.len a
   .split
    .exact fC (lA (b.left.length+1) [] b).1.len a
    .split
     .have d:=(k_ b).1.len
      induction g:dh b with
      |mk j f=>
       rw[g] at d;have d:f.left.length<=b.left.length:=d;induction j with
       |none=>exact fC (je (f.left.length+1) [] f).1.len (fC d a)|some e=>exact fC (je (f.left.length+1) [e] f).1.len (fC d a)
     .exact fC (je (b.left.length+1) [c] b).1.len a
theorem oJ (page):∀(a b:List (fY×Nat)) (s:LS),ee page (a++b) s=(ee page a s).bind (ee page b):=by
 intro e;induction e with
 |nil=>exact @λb s=>rfl
 |cons f a g=>
  obtain⟨t,c⟩:=f;exact @λb s=>by
   refine(?_:(if(fM (s.left.length+1) s).1=t.2.2/\(fM (s.left.length+1) s).2.line-(if t.2.1.getLast?≠aE 34/\page[page.length-(fM (s.left.length+1) s).2.left.length-1]?=aE 10 then 1 else 0)=c then ee page (a++b) (fM (s.left.length+1) s).2 else aT)=(if(fM (s.left.length+1) s).1=t.2.2/\(fM (s.left.length+1) s).2.line-(if t.2.1.getLast?≠aE 34/\page[page.length-(fM (s.left.length+1) s).2.left.length-1]?=aE 10 then 1 else 0)=c then ee page a (fM (s.left.length+1) s).2 else aT).bind (ee page b))
   generalize (if t.2.1.getLast?≠aE 34/\page[page.length-(fM (s.left.length+1) s).2.left.length-1]?=aE 10 then 1 else 0)=d
   revert d;refine Jj ?_;set_option tactic.hygienic false in intros
   by_cases h:(fM (s.left.length+1) s).1=t.2.2/\(fM (s.left.length+1) s).2.line-d=c
   .exact cn (if_pos h ..) (cn (if_pos h ..) (g b _))
   .refine cn (if_neg h ..) (cn (if_neg h ..) ?_);rfl
theorem TB (t):Cl k (iN t):=⟨trivial,trivial,trivial,trivial⟩
theorem R7 (p):Cl k (d_ p):=Cls.of λv b=>by refine cU (List.mem_map.mp b) λt _ a=>?_;subst a;exact TB t
theorem xG (ps):Cl k (iV ps):=Cls.of λv b=>by refine cU (List.mem_map.mp b) λt _ a=>?_;subst a;exact R7 t
mutual
theorem Cl.mono (h:k<=m):∀{v:V},Cl k v->Cl m v
 |aV n,c=>fl c h|dj l,c=>Cls.mono h c|cw l,c=>Cls.mono h c|dD,_=>trivial|dB _,_=>trivial|aO _,_=>trivial|a_ _,_=>trivial|cC _,_=>trivial|hJ _,_=>trivial
theorem Cls.mono (h:k<=m):∀{l:List V},Cls k l->Cls m l
 |[],_=>trivial|_::_,c=>⟨Cl.mono h c.1,Cls.mono h c.2⟩
end
theorem ClO.mono (h:k<=m)(c:ClO k o):ClO m o:=by
 induction o with
 |list l=>exact Cls.mono h c|inst C a=>exact λx v e=>Cl.mono h (c x v e)
 |acc l a=>exact⟨Cls.mono h c.1,λx v e=>Cl.mono h (c.2 x v e)⟩
 |citer b o=>exact Cl.mono h c|lam v=>exact Cl.mono h c|dead=>trivial
theorem ClOs.mono (h:k<=m)(c:ClOs k l):ClOs m l:=ClOs.of λo a=>(c.mem o a).mono h
theorem ClOs.app (c:ClOs k a)(d:∀o∈b,ClO k o):ClOs k (a++b):=ClOs.of λo e=>(List.mem_append.mp e).elim (c.mem o) (d o)
theorem qJ {α a:Type}{f g:α->Option a}:∀{l:List α},(∀x∈l,f x=g x)->l.filterMap f=l.filterMap g:=by
 intro b;induction b with
 |nil=>exact @λ_=>rfl
 |cons x l c=>
  exact @λh=>by simp only[uU,uU,h x (.head _),c λy d=>h y (.tail _ d)]
theorem IC {α:Type}(l:List α):gF l aT aT (aE (-1))=l.reverse:=by
 unfold gF;have c:n_ aT aT (aE (-1)) l.length=((l.length:Int)-1,-1,-1):=by unfold n_;exact rfl
 simp only[c];unfold yC;dsimp only[];rw[if_neg (dd rfl)];have d:(if(l.length:Int)-1>-1 then((l.length:Int)-1- -1- -1-1)/ - -1 else 0).toNat=l.length:=by simp only[show(-(-1:Int))=1 from rfl,Bs];rw[Gb,Gb,B6,Fp];exact iteInduction (motive:=λx:Int=>x.toNat=l.length) (λ_=>rfl) λh=>(Nat.eq_zero_of_not_pos λf=>h (O4 (dd rfl) (Fd (Int.ofNat_le.mpr f)))).symm
 rw[d,yd];have a:=sI l.reverse 0 l.length;rw[Bo,lY (by simp)] at a
 refine Eq.trans (qJ λk b=>?_) a;rw[P5] at b;show l[_]?=_;rw[List.getElem?_reverse (by exact gG (jY 0x38258500873010209 rfl b))]
 congr 1
 show((l.length:Int)-1+-1*(k:Int)).toNat=_;have e:(l.length:Int)-1+-1*(k:Int)=(l.length:Int)-((1+k:Nat):Int):=by rw[Int.natCast_add,Int.neg_one_mul];exact(Int.sub_sub (l.length:Int) 1 k)
 rw[e,FT,iH,Nat.sub_sub]
theorem zF (sep):∀l:List Wd,(f_ sep l).length<=(l.map (·.length)).sum+l.length*sep.length
 |[]=>eW _|[x]=>by simp[f_]
 |x::y::r=>by have a:=zF sep (y::r);unfold f_ at *;rw[xU,kj,kj,dJ,dJ,fS,nY,j8,Nat.succ_mul];exact cx (eY (eY a _) _) (c_ ((congrArg (x.length+·) ((iE ..).trans (ic ..))).trans (ic ..).symm))
theorem zG (a:asc sep):∀{l:List Wd},(∀x∈l,asc x)->asc (f_ sep l)
 |[],_=>λc b=>by cases b
 |[x],h=>by simpa [f_] using h x (.head _)
 |x::y::r,h=>by
  have d:=zG a (l:=y::r) λz e=>h z (by simp[List.mem_cons.mp e])
  unfold f_ at *;simp only[xU,kj,kj];exact jB (h x (.head _)) (jB a d)
noncomputable abbrev GM (ps:List (List fY))(start W:Nat)(order mark a:Wd)(q:Nat)(rows:List Nat)(r b:Option V)(c:Wd)(d e f g h i j k l m n o p:Option V):Mm:=[aE (iV ps),aE (aO start),aE (dj [aO W,sv order,sv mark]),aE (aO W),aE (sv order),aE (sv mark),aE (sv a),aE (aV q),aE (dQ rows),r,b,aE (sv c),d,e,f,g,h,i,j,k,l,m,n,o,p]
noncomputable def SG (σ:Sg)(W:Nat)(order:Wd)(vs:VS):Sg:=σ++[UW W order (σ.length+1) (σ.length+2),mw vs.lines,r_ vs.pr vs.c]
noncomputable def SX (σ:Sg)(W:Nat)(order:Wd)(vs:VS)(ls:LS):Sg:=σ++[UW W order (σ.length+1) (σ.length+2),mw vs.lines,r_ vs.pr vs.c,Cu ls.left,KU (σ.length+6) (σ.length+5),cM [],kC (aV (σ.length+3)),Ct ls.line (σ.length+4) (σ.length+8),cM []]
noncomputable def fd_B:Ss:=body_folded.tl.tl.tl.tl.tl
noncomputable def fd_B2:Ss:=fd_B.tl.tl
noncomputable def fd_B4:Ss:=fd_B2.tl.tl
section
variable {σ:Sg}
variable {start W:Nat}
theorem sg_vf:VFat (SG σ W order vs) σ.length (σ.length+1) (σ.length+2) W order vs:=by unfold SG;exact⟨by simp only[tX];rfl,by simp only[kg];rfl,by simp only[kg];rfl⟩
theorem TC (v):eu (SG σ W order vs) (σ.length+1) (σ.length+2) v=SG σ W order v:=by unfold eu SG;simp only[mf,mf];rfl
theorem D0 (c:4<=lv)(b:VOk N vs)(d:N<=200)(f:mark.length<=10)(h:Kk (sv (f_ mark (dX vs).lines)) (SG σ W order (dX vs))):n6 lv 11 [aV σ.length,sv mark] (SG σ W order vs) Kk:=by
 refine⟨c,σ.length,σ.length+1,σ.length+2,W,order,vs,mark,rfl,sg_vf,b.small d,f,λ_ _ a=>b.ink λe=>a (by rw[e];rfl),?_⟩
 rw[TC];exact h
theorem WA (C:4<=lv){N:Nat}(j:VOk N vs)(k:N<=190)(m:mark=[10]\/mark=[13,10])(g:a.length<=100)(c:asc a)(L:b.length<=100000)(d:asc b){Kk:Out->Mm->Sg->Prop} (D:(a++f_ mark (dX vs).lines≠b\/a++f_ mark (dX (dX vs)).lines≠b)->∀M P,Kk (dH (cw [])) M (SG σ W order P)) (n:a++f_ mark (dX vs).lines=b->a++f_ mark (dX (dX vs)).lines=b->dp (ZL lv) fd_B2 (GM ps start W order mark a σ.length rows Q o b p q r s t (aE (sv b)) u w x y z A B) (SG σ W order (dX (dX vs))) Kk):dp (ZL lv) fd_B (GM ps start W order mark a σ.length rows Q o b p q r s t R u w x y z A B) (SG σ W order vs) Kk:=by
 obtain⟨F,U⟩:=Hj m;have e:∀{M:Nat} {v:VS},VOk M v->M<=200->(f_ mark v.lines).length<=20000/\asc (f_ mark v.lines):=λ{M v} h G=>by
  have:=zF mark v.lines;have n:v.lines.length*mark.length<=(2*M)*2:=r7 (by have:=h.n;exact cx (ej ..) this) F
  exact⟨cx this (cx (eT (cx (ej ..) h.l) n) (cx (eT (ju 50 G) (Fc 2 (ju 2 G))) (cZ rfl))),zG U h.la⟩
 obtain⟨X,H⟩:=e j.newline (d8 (gp 0xe00000000bee021cc28058500000000647 rfl k));obtain⟨Y,I⟩:=e j.newline.newline (d8 (gp 0x7000000005f7010e614c28058500000000647 rfl k));have J:∀v,(ZL lv).res (SG σ W order v) (aV σ.length) 20=aE 11:=λv=>mx sg_vf.n rfl rfl (dd rfl);have f:mark.length<=10:=cx F (cZ rfl);refine tx (J _) (D0 C j (cx k (cZ rfl)) f (fw (jm (cx (eT g X) (cZ rfl))) ?_));by_cases i:a++f_ mark (dX vs).lines=b
 .refine gu ((qH (jB c H) d).trans (congrArg aE (decide_eq_false λh=>h i))) (tx (J _) (D0 C j.newline (cx (oT k 1) (cZ rfl)) f (fw (jm (cx (eT g Y) (cZ rfl))) ?_)))
  by_cases l:a++f_ mark (dX (dX vs)).lines=b
  .refine gu ((qH (jB c I) d).trans (congrArg aE (decide_eq_false λh=>h l))) ?_
   have:=n i l;rw[<-i] at this ⊢;exact this
  .exact gu ((qH (jB c I) d).trans (congrArg aE (decide_eq_true l))) (dy (h9 rfl) (D (.inr l) ..))
 .exact gu ((qH (jB c H) d).trans (congrArg aE (decide_eq_true i))) (dy (h9 rfl) (D (.inl i) ..))
end
section
variable {σ:Sg}
variable {start W:Nat}
theorem ID (h:w.length<=1000000)(a:Kk (cw (w.map mu)) σ):(ZL lv).spec 4 [sv w] σ Kk:=by
 show zo (if(fv w).length<=1000000 then aE (cw (kT (fv w))) else aT) _
 rw[gJ,if_pos h,uH];exact a
theorem R8 (h:l.length<=1000000):kI σ (cw l) aT aT (aE (aO (-1)))=aE (cw l.reverse):=by
 have e:nC σ (cw l) aT aT (aE (aO (-1)))=aE (cw l.reverse):=by dsimp only[nC];simp only[m7,m8];rw[if_neg (dd rfl),if_pos h,IC]
 dsimp only[kI];rw[e]
theorem qK (h:l.length<=1000000)(i:Nat):kI σ (cw l) (aE (aO i)) aT aT=aE (cw (l.drop i)):=by
 have e:nC σ (cw l) (aE (aO i)) aT aT=aE (cw (l.drop i)):=by dsimp only[nC];simp only[m7,m8];rw[if_neg (dd rfl),if_pos h,sJ]
 dsimp only[kI];rw[e]
theorem D1 (h:l.length<=1000000)(i:Nat):kI σ (cw l) aT (aE (aO i)) aT=aE (cw (l.take i)):=by
 have e:nC σ (cw l) aT (aE (aO i)) aT=aE (cw (l.take i)):=by dsimp only[nC];simp only[m7,m8];rw[if_neg (dd rfl),if_pos h,Ej]
 dsimp only[kI];rw[e]
theorem zH (ls):LXat (SX σ W order vs ls) (σ.length+7) (σ.length+4) (σ.length+6) (σ.length+3) (σ.length+8) (σ.length+5) ls:=by dsimp only[SX];exact⟨by exact fx (gG (gp 3954860311041 rfl)),by simp only[kg];rfl,by simp only[kg];rfl,by simp only[kg];rfl,by simp only[kg];rfl,by simp only[kg];rfl⟩
theorem LN (ls t):lJ (SX σ W order vs ls) (σ.length+7) (σ.length+3) (σ.length+4) (σ.length+8) t=SX σ W order vs t:=by dsimp only[lJ,SX];simp only[mf,mf];rfl
theorem WB (q:2<=lv)(o:page.length<=1000000){Kk:Out->Mm->Sg->Prop} (h:dp (ZL lv) fd_B4 (GM ps start W order mark a σ.length rows r b c d e f g i (aE (sv page)) (aE (aV (σ.length+3))) (aE (aV (σ.length+7))) j k l m n) (SX σ W order vs ⟨page,1⟩) Kk):dp (ZL lv) fd_B2 (GM ps start W order mark a σ.length rows r b c d e f g i (aE (sv page)) s t j k l m n) (SG σ W order vs) Kk:=by
 refine ID o (Ek (R8 (by rw[eE];exact o)) ?_)
 have p:(SG σ W order vs).length=σ.length+3:=by unfold SG;rw[dJ];rfl
 have u:(SG σ W order vs++[cM (page.map mu).reverse]).length=σ.length+4:=by rw[dJ,p];rfl
 have v:SG σ W order vs++[cM (page.map mu).reverse]++[KU (σ.length+4+2) (σ.length+4+1),cM [],kC (aV (σ.length+3)),Ct 1 (σ.length+4) (σ.length+4+4),cM []]=SX σ W order vs ⟨page,1⟩:=by dsimp only[SG,SX,Cu];rw[j5,j5,Ou];rfl
 refine⟨q,(SG σ W order vs).length,rfl,?_⟩;rw[u,p,v];exact h
noncomputable def fd_zip:S:=fd_B4.hd
noncomputable def fd_rdI:S:=fd_zip.bdy.hd
noncomputable def Sm:Ss:=fd_rdI.bdy
theorem R9 (f:asc a)(g:asc c):gq iu σ (cw [sv a,aO b]) (cw [sv c,aO d])=aE (decide (¬(a=c/\b=d))):=by
 have e:∀{w:Wd} {i:Int},asc w->hZ (w4 σ (cw [sv w,aO i]))=bK:=λ{w i} h=>by show(iZ (eK [eJ (fv w),.int i])&&decide (gX (eK [eJ (fv w),.int i])<=64))=bK;simp[iZ,jT,kb h,gX,lN]
 show A5 σ _ _=_;dsimp only[A5];rw[if_pos ⟨e f,e g⟩];show aE (!j0 (eK [eJ (fv a),.int b]) (eK [eJ (fv c),.int d]))=_;simp only[j0,FV,rH,FL]
 congr 1
 by_cases j:a=c<;>by_cases k:b=d<;>simp[j,k]
theorem Hk (e:asc a)(f:asc c)(g:a=c/\b=d->Kk cu)(i:¬(a=c/\b=d)->Kk bK):(ZL lv).cmp iu σ (cw [sv a,aO b]) (cw [sv c,aO d]) Kk:=by
 refine gu (R9 e f) ?_;by_cases h:a=c/\b=d
 .rw[decide_eq_false λq=>q h];exact g h
 .rw[decide_eq_true h];exact i h
theorem Za:fE "\n"=fv [10]:=dd rfl
theorem Ra (h:Kk (aO ls.line)):vW (SX σ W order vs ls) (aV (σ.length+7)) 7 Kk:=mj (zH ls).n (.inr rfl) rfl (dd rfl) (w:=aO ls.line) rfl rfl h
theorem Rb (h:ls.left.length<=1000000):s7 lv (SX σ W order vs ls) (aV (σ.length+3))=aE (ls.left.length:Int):=by dsimp only[s7,uu];simp only[(zH ls).j,Cu,eE,List.length_reverse,h,if_true]
theorem LO (hl:3<=lv){t:fY}{f:Nat}{ls:LS}(hg:fR t)(p:ls.left.length<=100000)(G:asc ls.left)(w:1<=ls.line)(a1:ls.left.length<=page.length)(H:page.length<=1000000)(I:page≠[])(a2:asc page){Kk:Out->Mm->Sg->Prop} (h0:ee page [(t,f)] ls=aT->∀M y,Kk (dH (cw [])) M (SX σ W order vs y)) (h1:∀i,ee page [(t,f)] ls=aE (fM (ls.left.length+1) ls).2->Kk de (GM ps start W order mark u σ.length rows (aE (aO f)) J L N (aE (sv t.1)) (aE (sv t.2.1)) (aE (sv t.2.2)) P (aE (sv page)) (aE (aV (σ.length+3))) (aE (aV (σ.length+7))) Q i R U X) (SX σ W order vs (fM (ls.left.length+1) ls).2)):dp (ZL lv) Sm (GM ps start W order mark u σ.length rows (aE (aO f)) J L N (aE (sv t.1)) (aE (sv t.2.1)) (aE (sv t.2.2)) P (aE (sv page)) (aE (aV (σ.length+3))) (aE (aV (σ.length+7))) Q i R U X) (SX σ W order vs ls) Kk:=by
 obtain⟨g1,g2,g3,g4,g5,g6,g7,g8⟩:=hg;obtain⟨A,Y⟩:=tY (ls.left.length+1) ls;have j:(fM (ls.left.length+1) ls).2.left.length<page.length:=by
  by_cases e:ls.left=[]
  .have a3:ls.left.length=0:=by rw[e];rfl
   exact fC (cx A.len (c_ a3)) (List.length_pos_iff.mpr I)
  .exact fl (R6 e) a1
 have B:asc (fM (ls.left.length+1) ls).1:=λc D=>G c (Y c D);have C:1<=(fM (ls.left.length+1) ls).2.line:=cx w A.2;have g:=A.len;rw[vM] at h0 h1;obtain⟨a,l⟩:∃a,a=fM (ls.left.length+1) ls:=⟨_,rfl⟩;simp only[show ∀s,ee page [] s=aE s from λ_=>rfl,<-l] at h0 h1;rw[<-l] at j B C g;refine tx (k:=19) (mx (zH ls).n rfl rfl (dd rfl)) ⟨hl,σ.length+7,σ.length+4,σ.length+6,σ.length+3,σ.length+8,σ.length+5,ls,rfl,zH ls,p,G,?_⟩;rw[LN,<-l];refine Ra ?_;clear l;obtain⟨r,c,a4⟩:∃r c,t.2.1=r++[c]:=(t.2.1.eq_nil_or_concat).elim (λh=>absurd h g4) λ⟨r,c,h⟩=>⟨r,c,h.trans (qT)⟩;have D:t.2.1.getLast?=aE c:=by rw[a4];exact A_
 have a5:c<128:=g7 c (NW D);have f1:∀d:Nat,d<=1->(if t.2.1.getLast?≠aE 34/\page[page.length-a.2.left.length-1]?=aE 10 then 1 else 0)=d->a.1=t.2.2/\(a.2.line:Int)-(d:Int)=(f:Int)->∀i,Kk de (GM ps start W order mark u σ.length rows (aE (aO f)) J L N (aE (sv t.1)) (aE (sv t.2.1)) (aE (sv t.2.2)) P (aE (sv page)) (aE (aV (σ.length+3))) (aE (aV (σ.length+7))) Q i R U X) (SX σ W order vs a.2):=λd F e h x=>h1 x (if_pos ⟨h.1,by rw[e];exact iD ((pQ (cx F C)).trans h.2)⟩)
 have f0:∀d:Nat,d<=1->(if t.2.1.getLast?≠aE 34/\page[page.length-a.2.left.length-1]?=aE 10 then 1 else 0)=d->¬(a.1=t.2.2/\(a.2.line:Int)-(d:Int)=(f:Int))->∀M y,Kk (dH (cw [])) M (SX σ W order vs y):=λd F e h=>h0 (if_neg λq=>h ⟨q.1,by have q:=q.2;rw[e] at q;exact(pQ (cx F C)).symm.trans (congrArg o8 q)⟩)
 clear h0 h1;have Z:∀b,decide ([c]≠[34])=b->gq iu (SX σ W order vs a.2) (mu c) (cC "\"")=aE b:=λb e=>by rw[Xx,<-e];exact qH (tQ a5) (tQ (dd rfl))
 refine jZ (w9 (cx g2 (cZ rfl)) D) ?_;by_cases m:c=34
 .have e:(if t.2.1.getLast?≠aE 34/\page[page.length-a.2.left.length-1]?=aE 10 then 1 else 0)=0:=if_neg λh=>h.1 (D.trans (congrArg aE m))
  exact gu (Z _ (decide_eq_false λh=>h (congrArg (λc=>[c]) m))) (dy (h9 rfl) (dy (h9 rfl) (Hk B g8 (λh=>f1 0 (eW _) e h _) λh=>dy (h9 rfl) (f0 0 (eW _) e h ..))))
 .have v:page.length-a.2.left.length-1<page.length:=fl (BB (v7 j) Pk) (gZ ..)
  have a0:(page.length:Int)-(a.2.left.length:Int)-1=((page.length-a.2.left.length-1:Nat):Int):=by rw[<-pQ (eV j)];exact(pQ (v7 j)).symm
  obtain⟨x,hx⟩:∃x,page[page.length-a.2.left.length-1]?=aE x:=⟨_,gK v⟩;have a6:x<128:=a2 x (jS hx);have a7:gq .Eq (SX σ W order vs a.2) (mu x) (cC "\n")=aE (decide ([x]=[10])):=by rw[Za];exact CU (tQ a6) (tQ (dd rfl))
  refine gu (Z _ (decide_eq_true λh=>m (nM h))) (rK H (K_ (Rb (cx g (cx p (cZ rfl)))) (fw zy (fw zy (jZ ((congrArg (λz=>e9 _ (sv page) (aO z)) a0).trans (Hf (uG v H) hx)) (gu a7 (ly (fw zy ?_))))))));have F:(if decide ([x]=[10])=bK then 1 else 0)<=1:=by split<;>decide
  have e:(if t.2.1.getLast?≠aE 34/\page[page.length-a.2.left.length-1]?=aE 10 then 1 else 0)=(if decide ([x]=[10])=bK then 1 else 0):=by
   rw[D,hx];by_cases o:x=10
   .rw[if_pos ⟨λh=>m (dk h),congrArg aE o⟩,if_pos (decide_eq_true (congrArg (λc=>[c]) o))]
   .rw[if_neg (λh=>o (dk h.2)),if_neg (λh=>o (nM (of_decide_eq_true h)))]
  exact dy (h9 rfl) (dy (h9 rfl) (Hk B g8 (λh=>f1 _ F e h _) λh=>dy (h9 rfl) (f0 _ F e h ..)))
end
structure RdOk (page:Wd)(ls:LS):Prop where
 len:ls.left.length<=page.length
 asc:asc ls.left
 line:1<=ls.line
theorem RdOk.tok (h:RdOk page ls)(n):RdOk page (fM n ls).2:=dz (tY n ls) λa _=>⟨cx a.len h.len,λc b=>h.asc c (a.sub c b),cx h.line a.2⟩
section
variable {σ:Sg}
variable {start W:Nat}
theorem LQ (L:3<=lv)(k:page.length<=100000)(l:page≠[])(x:asc page){a:Nat}{Kk:KO}{I:Mm->Sg->Prop}{m n o q:Pos}{r s v:Str}:∀{p:List fY} {ls:LS} {b c d f:Option V},(∀t∈p,fR t)->RdOk page ls->(ee page (p.map λt=>(t,a)) ls=aT->∀M g,Kk (dH (cw [])) M (SX σ W order vs g))->(∀b c d f g,ee page (p.map λt=>(t,a)) ls=aE g->RdOk page g->I (GM ps start W order mark i σ.length rows (aE (aO a)) y z A b c d B (aE (sv page)) (aE (aV (σ.length+3))) (aE (aV (σ.length+7))) C f D F G) (SX σ W order vs g))->om (wD Kk (dp (ZL lv) Sm) (dS [(13,r,m),(14,s,n),(15,v,o)] 0 q)) I (p.map iN) (GM ps start W order mark i σ.length rows (aE (aO a)) y z A b c d B (aE (sv page)) (aE (aV (σ.length+3))) (aE (aV (σ.length+7))) C f D F G) (SX σ W order vs ls):=by
 intro N;induction N with
 |nil=>exact @λls b c d f _ j _ h=>h _ _ _ _ _ rfl j
 |cons t p P=>
  exact @λls b c d f J j w H=>by
   have e:ee page ((t::p).map λt=>(t,a)) ls=(ee page [(t,a)] ls).bind (ee page (p.map λt=>(t,a))):=by rw[<-oJ];rfl
   rw[e] at w H;refine LO L (J t (.head _)) (cx j.len k) j.asc j.line j.len (cx k (cZ rfl)) l x (λQ=>?_) λR U=>?_
   .rw[Q] at w
    exact w rfl
   .rw[U] at w H
    exact P (λu X=>J u (.tail _ X)) (j.tok _) w H
theorem IE (s:3<=lv)(i:page.length<=100000)(c:page≠[])(j:asc page){b:Nat}{p:List fY}{ls:LS}(u:∀t∈p,fR t)(v:RdOk page ls){Kk:Out->Mm->Sg->Prop} (w:ee page (p.map λt=>(t,b)) ls=aT->∀M a,Kk (dH (cw [])) M (SX σ W order vs a)) (x:∀d e f g a,ee page (p.map λt=>(t,b)) ls=aE a->RdOk page a->Kk de (GM ps start W order mark h σ.length rows (aE (aO b)) k l m d e f n (aE (sv page)) (aE (aV (σ.length+3))) (aE (aV (σ.length+7))) (aE (d_ p)) g o q r) (SX σ W order vs a)):DL (ZL lv) fd_rdI (GM ps start W order mark h σ.length rows (aE (aO b)) k l m d e f n (aE (sv page)) (aE (aV (σ.length+3))) (aE (aV (σ.length+7))) (aE (d_ p)) g o q r) (SX σ W order vs ls) Kk:=by
 exact LQ s i c j u v w x
theorem LR (I:3<=lv)(r:page.length<=100000)(i:page≠[])(s:asc page){Kk:KO}{G:Mm->Sg->Prop}{j k m:Pos}{n o:Str}:∀{l:List (List fY×Nat)} {ls:LS} {p b c d e f:Option V},(∀pr∈l,∀t∈pr.1,fR t)->RdOk page ls->(ee page (l.flatMap λpr=>pr.1.map λt=>(t,pr.2)) ls=aT->∀M a,Kk (dH (cw [])) M (SX σ W order vs a))->(∀p b c d e f a,ee page (l.flatMap λpr=>pr.1.map λt=>(t,pr.2)) ls=aE a->RdOk page a->G (GM ps start W order mark g σ.length rows p v w x b c d y (aE (sv page)) (aE (aV (σ.length+3))) (aE (aV (σ.length+7))) e f z A B) (SX σ W order vs a))->om (wD Kk (dp (ZL lv) (bS fd_rdI cy)) (dS [(20,n,j),(9,o,k)] 0 m)) G (l.map λpr:List fY×Nat=>dj [d_ pr.1,aO pr.2]) (GM ps start W order mark g σ.length rows p v w x b c d y (aE (sv page)) (aE (aV (σ.length+3))) (aE (aV (σ.length+7))) e f z A B) (SX σ W order vs ls):=by
 intro J;induction J with
 |nil=>exact @λls p b c d e f _ C _ h=>h _ _ _ _ _ _ _ rfl C
 |cons pr l L=>
  exact @λls p b c d e f H C q D=>by
   rw[lM,oJ] at q D;refine IE I r i s (H pr (.head _)) C (λN=>?_) λP Q R U a X F=>?_
   .rw[N] at q
    exact q rfl
   .rw[X] at q D
    exact L (λu Y=>H u (.tail _ Y)) F q D
theorem IF (l:List (List fY))(r):l7 (λx y=>dj [x,y]) (l.map d_) (r.map λn:Nat=>aO n)=(l.zip r).map λpr:List fY×Nat=>dj [d_ pr.1,aO pr.2]:=by simp only[OG,List.zip,OH]
theorem WC (H:3<=lv)(o:ps.length<=1000)(g:page.length<=100000)(i:page≠[])(j:asc page)(J:∀p∈ps,∀t∈p,fR t){Kk:Out->Mm->Sg->Prop} (h:∀M d,Kk (dH (dQ (match ee page ((ps.drop start).zip rows |>.flatMap λpr=>pr.1.map λt=>(t,pr.2)) ⟨page,1⟩ with
  |none=>[]|some ls=>if(fM (ls.left.length+1) ls).1=[] then rows else[]))) M (SX σ W order vs d)):
 dp (ZL lv) fd_B4 (GM ps start W order mark l σ.length rows L q r u v w x y (aE (sv page)) (aE (aV (σ.length+3))) (aE (aV (σ.length+7))) z A B C D) (SX σ W order vs ⟨page,1⟩) Kk:=by
 have I:om (wD (qm Kk (dp (ZL lv) fd_B4.tl)) (dp (ZL lv) (bS fd_rdI cy)) fd_zip.tgt) (Pr (qm Kk (dp (ZL lv) fd_B4.tl)) (dp (ZL lv) fd_zip.els)) (((ps.drop start).zip rows).map λpr:List fY×Nat=>dj [d_ pr.1,aO pr.2]) (GM ps start W order mark l σ.length rows L q r u v w x y (aE (sv page)) (aE (aV (σ.length+3))) (aE (aV (σ.length+7))) z A B C D) (SX σ W order vs ⟨page,1⟩):=by
  refine LR H g i j (λpr F t f=>J pr.1 ?_ t f) (show RdOk page ⟨page,1⟩ from⟨d9 _,j,d9 _⟩) (λN=>?_) λy9 P Q R U X d Y G=>?_
  .obtain⟨a,b⟩:=pr
   exact pB (v9 F).1
  .rw[N] at h
   exact h
  .rw[Y] at h
   have m:asc (fM (d.left.length+1) d).1:=λc Z=>G.asc c ((tY _ d).2 c Z);refine tx (k:=19) (mx (zH d).n rfl rfl (dd rfl)) ⟨H,σ.length+7,σ.length+4,σ.length+6,σ.length+3,σ.length+8,σ.length+5,d,rfl,zH d,cx G.len g,G.asc,?_⟩;rw[LN];by_cases f:(fM (d.left.length+1) d).1=[]
   .have h:∀M e,Kk (dH (dQ (if(fM (d.left.length+1) d).1=[] then rows else[]))) M (SX σ W order vs e):=h
    rw[if_pos f] at h;exact gu ((congrArg (λs=>gq .Eq _ _ (cC s)) mB).trans ((CU m jA).trans (congrArg aE (decide_eq_true f)))) (h ..)
   .have h:∀M e,Kk (dH (dQ (if(fM (d.left.length+1) d).1=[] then rows else[]))) M (SX σ W order vs e):=h
    rw[if_neg f] at h;exact gu ((congrArg (λs=>gq .Eq _ _ (cC s)) mB).trans ((CU m jA).trans (congrArg aE (decide_eq_false f)))) (dy (h9 rfl) (h ..))
 rw[<-IF,vj] at I;exact Ek (qK (by rw[eE];exact Xy o) _) I
end
noncomputable def fd_A:Ss:=bS body_folded.hd (bS body_folded.tl.hd (bS body_folded.tl.tl.hd (bS body_folded.tl.tl.tl.hd (bS fd_for cy))))
section
variable {Kk:i9}{KK:V->Sg->Prop}
variable {start W:Nat}
theorem Hl:(SF σ W order v rows).take (σ.length+3)=SG σ W order v:=by
 unfold SF SG;rw[Bc,lY (eO ..),show σ.length+3-σ.length=3 by exact eC (d8 (jY 0x1cc682584808700b0a1a rfl (sC (d8 (gp 3849772538369 rfl))))) (d8 (jY 0x1cc04258d00870d30a09 rfl (sB ..)))]
 rfl
theorem IG (e:ClOs σ.length σ):ClOs (σ.length+3) (SG σ W order v):=by
 unfold SG;refine(e.mono (eO ..)).app λo d=>?_;simp only[lP,fh,or_false] at d;rcases d with rfl|rfl|rfl
 .refine ClAt.of λp b=>?_
  simp only[lP,fh,or_false] at b;rcases b with rfl|rfl|rfl|rfl|rfl|rfl
  .trivial
  .trivial
  .trivial
  .trivial
  .show σ.length+1<σ.length+3;exact dU _
  .show σ.length+2<σ.length+3;exact jG _
 .refine Cls.of λx c=>cU (List.mem_map.mp c) λw _ a=>?_;subst a
  trivial
 .refine⟨Cls.of λx c=>?_,ClAt.of λp b=>?_⟩
  .refine cU (List.mem_map.mp c) λw _ a=>?_;subst a
   exact⟨trivial,trivial,trivial⟩
  .simp only[lP,fh,or_false] at b
   subst b;trivial
theorem WD:Fz (SF σ W order v rows) (σ.length+3) (FM ps start W order mark a σ.length c b d e f g h i j k l m n o p q) (GM ps start W order mark a σ.length rows (aE (aO c)) (aE (aO b)) d aT aT aT aT aT aT aT aT aT aT aT aT aT):=by
 have r:zZ (SF σ W order v rows) (σ.length+3) (aV σ.length)/\aV σ.length=sr (SF σ W order v rows) (σ.length+3) (aV σ.length):=
  ⟨.inl (gG (gp 1879775745 rfl)),(PK (gG (gp 1879775745 rfl))).symm⟩
 have s:zZ (SF σ W order v rows) (σ.length+3) (aV (σ.length+3))/\dQ rows=sr (SF σ W order v rows) (σ.length+3) (aV (σ.length+3)):=
  ⟨.inr ⟨_,wb,tU _⟩,(zY (iC _) wb).symm⟩
 exact⟨⟨xG _,rfl⟩,⟨trivial,rfl⟩,⟨⟨trivial,trivial,trivial,trivial⟩,rfl⟩,⟨trivial,rfl⟩,⟨trivial,rfl⟩,⟨trivial,rfl⟩,⟨trivial,rfl⟩,r,s,⟨trivial,rfl⟩,⟨trivial,rfl⟩,⟨trivial,rfl⟩,trivial⟩
theorem TF (o:2<=lv)(m:se ps)(j:start<ps.length){n:Out->Mm->Sg->Prop} (h:dp (ZL lv) (bS fd_for cy) (FM ps start W order mark (if start=0 then((ps.getD 0 []).getD 0 default).2.1 else[]) σ.length 1 0 [] aT aT aT aT aT aT aT aT aT aT aT aT aT) (SF σ W order ⟨[],[],(if start=0 then((ps.getD 0 []).getD 0 default).2.1 else[]:Wd).length⟩ []) n):dp (ZL lv) fd_A [aE (iV ps),aE (aO start),aE (dj [aO W,sv order,sv mark]),aT,aT,aT,aT,aT,aT,aT,aT,aT,aT,aT,aT,aT,aT,aT,aT,aT,aT,aT,aT,aT,aT] σ n:=by
 have k:ps.length<=1000:=cx m.1 (cZ rfl);have b:0<ps.length:=nT j;have d:ps.getD 0 []∈ps:=by rw[kK,gK b];exact sX b
 obtain⟨p,q,r⟩:=m.2.1 _ d;have f:0<(ps.getD 0 []).length:=List.length_pos_iff.mpr p;have g:=(r _ (kf f)).1.2.1;have l:fu gk (sv ((ps.getD 0 []).getD 0 default).2.1) (aO ((if decide ((start:Int)=0)=bK then 1 else 0:Nat):Int))=aE (sv (if start=0 then((ps.getD 0 []).getD 0 default).2.1 else[])):=by
  rw[wc (cx g (cZ rfl))];by_cases i:start=0
  .rw[if_pos i,if_pos (decide_eq_true (show(start:Int)=0 from congrArg o8 i))]
  .rw[if_neg i,if_neg λh:decide ((start:Int)=0)=bK=>i (iD (of_decide_eq_true h))]
 have c:(if start=0 then((ps.getD 0 []).getD 0 default).2.1 else[]:Wd).length<=20:=by
  split
  .exact g
  .exact eW _
 revert l c h;generalize (if start=0 then((ps.getD 0 []).getD 0 default).2.1 else[]:Wd)=a
 refine λh l c=>jZ (pf b k) (jZ (zE f (cx q (cZ rfl))) (jZ (uJ _) (gu eq_i (ly (fw l (rK (cx c (cZ rfl)) ⟨o,a.length,W,order,?_,?_⟩))))))
 .rw[show fE "--"=fv [45,45] by decide];rfl
 .refine dy (h9 rfl) (dy (h9 rfl) ?_)
  have e:σ++[UW W order (σ.length+1) (σ.length+2),mw [],r_ [] a.length]++[cM []]=SF σ W order ⟨[],[],a.length⟩ []:=by rw[j5];rfl
  rw[e,dJ];exact h
theorem LU (F:FN C Kk)(H:m5 C n (ZL lv) p7 oU)(h:qq (lv+1) 16 vs σ KK)(P:Rels ρ s.heap Q vs)(st:St C ρ σ s)(R:Room (n+10) A):Calls C A 265 Q ρ s KK Ee:=by
 obtain⟨x,b,start,W,d,l,rfl,f,c,y,m,o,hW,k⟩:=h;have G:4<=lv:=d8 (gp 0x39850095071130a01 rfl x);refine eF (F 19) λfd I=>?_;have e:body_folded=fd_A.app fd_B:=rfl;rw[e] at I;have g:=st.closed;refine C_ H I (r:=22) (tr:=bK) rfl ?_ P st (R.le (d8 yP));refine TF (d8 (gp 0x39850095070930a01 rfl x)) f c ?_;unfold j9 at k;dsimp only[] at k;have i:=f.1;have q:0<b.length:=gG (Jq c);have u:b.getD 0 []∈b:=by simp only[kK,gK q];exact sX q
 refine dN (f.2.1 _ u) λU n2 X=>?_;have z:0<(b.getD 0 []).length:=List.length_pos_iff.mpr U;have v:=(X _ (kf z)).1;have j:(if start=0 then((b.getD 0 []).getD 0 default).2.1 else[]:Wd).length<=20/\asc (if start=0 then((b.getD 0 []).getD 0 default).2.1 else[]):=by
  split
  .exact⟨v.2.1,v.2.2.2.2.2.2.1⟩
  .exact⟨eW _,jA⟩
 generalize (if start=0 then((b.getD 0 []).getD 0 default).2.1 else[]:Wd)=a at *
 revert a;refine Jj ?_;set_option tactic.hygienic false in intros
 refine IB G f c y m o (fs:=⟨[],1,0,[],⟨[],[],a.length⟩⟩) ⟨d9 _,d9 _,d9 _,jA,⟨by show a.length<=_;exact d8 (gp 0x3a880438058500000001f47 rfl j.1),d9 _,d9 _,λp w=>by(cases w),λp w=>by(cases w)⟩,rfl,λh=>absurd h (jV<|d8 (la [] 1880295938 rfl))⟩ λY Z a0 a1 a2 hf=>?_
 generalize (gO start (b.length-start)).foldl (du b start W d l) ⟨[],1,0,[],⟨[],[],a.length⟩⟩=J at *;revert J;refine Jj ?_;set_option tactic.hygienic false in intros
 obtain⟨f1,f2,B,L,f5,f6,f7⟩:=hf;refine⟨σ.length+3,d8 (gp 3849772538369 rfl),?_,_,WD,?_⟩
 .simp only[Hl];exact IG g
 .simp only[Hl]
  refine WA G f5 (d8 (jY 0x159480558042439502585000000005f7 rfl i (sA ..))) o (d8 (gp 0x3a880438058500000000327 rfl j.1)) j.2 (cx B (cx (ju 300 (cx (gZ ..) i)) (cZ rfl))) L (λD M v'=>?_) λN h2=>?_
  .rw[if_pos D] at k
   exact tV (M:=M) g trivial k
  .rw[if_neg (by rintro (h|h);exact h N;exact h h2),N] at k
   refine WB (d8 (gp 0x39850095070930a01 rfl x)) (cx B (cx (ju 300 (cx (gZ ..) f.1)) (cZ rfl)))<|WC (d8 (gp 0x39850095070d30a01 rfl x)) (d8 (gp 0x39480438058500000001f47 rfl i)) (cx B (cx (ju 300 (cx (gZ ..) f.1)) (cZ rfl))) (f7 (gG (iP 0x398884808700b0a110e0209 rfl (sB ..) c))) L (λp w t ht=>((f.2.1 p w).2.2 t ht).1) λM a3=>tV g (tU _) k
end
theorem Yb (k n:Nat):min (k:Int) (n:Int)=((min k n:Nat):Int):=by
 rcases G0 k n with h|h
 .rw[lE h,OQ (JD h)]
 .rw[nU h,Int.min_eq_right (JD h)]
theorem EF (w)(k:Nat):rp (fv w) aT (aE (k:Int))=fv (w.take k):=by
 have a:Nc aT (aE (k:Int)) 1 (fv w).length=(eZ (min k w.length)).map λi=>0+i:=by
  unfold Nc;rw[gJ];simp only[];have:=qz 0 (min k w.length);simp only[yx] at this;rw[<-this]
  congr 1
  rw[if_pos (dd rfl),if_neg (Int.not_lt.mpr (lD _))];exact(Fv (Int.le_min.mpr ⟨lD _,lD _⟩)).trans (Yb k w.length)
 dsimp only[rp];rw[a];simp only[eE,v5,gJ];split
 .rename_i h
  have:min k w.length=w.length:=of_decide_eq_true h;rw[lY (cx (c_ this.symm) (vc ..))]
 .rw[yd]
  have b:=sI w 0 (min k w.length);have c:(eZ (min k w.length)).filterMap ((λi=>(fv w).cps[i]?)∘λi=>0+i)=(eZ (min k w.length)).filterMap λi=>w[0+i]?:=by refine qJ λi _=>?_;show(fv w).cps[0+i]?=_;rw[Au,NK]
  rw[c,b,Bo];show BH _=BH _
  congr 2
  by_cases h:k<=w.length
  .rw[lE h]
  .rw[nU (Fy h),lY (d9 _),lY (Fy h)]
theorem Rd (h:w.length<=1000000)(k:Nat):kI σ (sv w) aT (aE (aO k)) aT=aE (sv (w.take k)):=by
 have e:nC σ (sv w) aT (aE (aO k)) aT=aE (sv (w.take k)):=by dsimp only[nC,sv];simp only[m7,m8];rw[if_neg (dd rfl),if_pos ⟨by rw[gJ];exact h,trivial⟩,EF]
 dsimp only[kI];simp only[e]
theorem D2 {l:List V}(h:σ[j]?=aE (cM l))(a:k<l.length)(b:l.length<=1000000):e9 σ (aV j) (aO k)=l[k]?:=by
 have e:k9 σ (aV j) (aO k)=l[k]?:=by dsimp only[k9];simp only[h,uG a b,kP]
 dsimp only[e9];simp only[e,gK a]
theorem uK {ws:List fY}(h:σ[j]?=aE (cM (ws.map iN)))(a:k<ws.length)(b:ws.length<=1000):e9 σ (aV j) (aO k)=aE (iN (ws.getD k default)):=by
 simp only[D2 h (by simpa using a) (by rw[eE];exact cx b (dd rfl))]
 simp[jx,gK a]
theorem WE:gq .In σ (mu c) (sv w)=aE (decide (c∈w)):=Ha
noncomputable def hC (a:List (List Nat)):V:=cw (a.map dQ)
noncomputable def pt_b3:Ss:=body_parts.tl.tl
noncomputable abbrev PM (j:Nat)(a order:Wd)(room:Nat)(f g h i k l b c d e:Option V):Mm:=[aE (aV j),aE (sv a),aE (sv order),aE (aO (room:Nat)),f,g,h,i,k,l,b,c,d,e]
theorem LV (h:1<=k):fu nv (aO (k:Nat)) (aO 1)=aE (aO ((k-1:Nat):Int)):=congrArg (λz=>aE (aO z)) (pQ h).symm
theorem WG (h:σ[j]?=aE (cM (ws.map iN)))(M:ws.length=5)(B:∀t∈ws,fR t)(N:order.length<=10) (n:dp (ZL lv) pt_b3 (PM j r order room (aE (hC (gA ws order))) U W X Y Z C D F G) σ Kk):dp (ZL lv) body_parts (PM j r order room x4 U W X Y Z C D F G) σ Kk:=by
 have P:ws.length<=1000:=cx (c_ M) (cZ rfl);have u:∀{c k:Nat},1<=k->k<ws.length->∃x,(ws.getD (k-1) default).2.1.getLast?=aE x:=λ{c k} h1 n=>by have H:=B _ (kf (i:=k-1) (fC (gZ ..) n));exact⟨_,N8 H.2.2.2.1⟩
 refine vP (f:=λc=>dQ (([1,2,3,4]:List Nat).filter λk=>c∈ix ws k)) (λc hc m v I e=>?_) (cx N (cZ rfl)) ?_
 .have go:∀{q Kk},(∀k∈([1,2,3,4]:List Nat),∀m v,m.length<=1000->v (m++if decide (c∈ix ws k) then[aO k] else[]) σ->q (aO k) m σ v)->Kk (((([1,2,3,4]:List Nat).filter λk=>decide (c∈ix ws k)).map λk:Nat=>aO k)) σ->lW q Kk (gz 1 5) [] σ:=λQ n=>md (l:=([1,2,3,4]:List Nat)) (g:=λk:Nat=>aO k) Q (cZ rfl) n
  refine dy ⟨cZ rfl,cZ rfl⟩ (go (λk n w k2 J a=>?_) (dy I e));have d:1<=k/\k<ws.length:=by rw[M];exact(by decide:∀k∈([1,2,3,4]:List Nat),1<=k/\k<5) k n
  obtain⟨x,R⟩:=u (c:=c) d.1 d.2;have y:k-1<ws.length:=fC (gZ ..) d.2;have g0:=B _ (kf d.2);have H:=B _ (kf y);have z:((ws.getD k default).1.take 1).length<=1:=by rw[kN];exact vc _ _
  refine jZ (uK h d.2 P) (jZ (uI _) (Ek (Rd (cx g0.1 (cZ rfl)) 1) (fw (LV d.1) (jZ (uK h y P) (jZ (uJ _) (jZ (w9 (cx H.2.1 (cZ rfl)) R) (fw (jm (b:=[x]) (cx (oT z 1) (cZ rfl))) (gu WE ?_))))))));have es:(ws.getD k default).1.take 1++[x]=ix ws k:=by unfold ix;rw[R];rfl
  rw[es];by_cases A:c∈ix ws k
  .rw[decide_eq_true A] at a ⊢
   exact dy J a
  .rw[decide_eq_false A] at a ⊢
   have a:k2 (w++[]) σ:=a;rw[ib] at a;exact a
 .have e2:order.map (λc=>dQ (([1,2,3,4]:List Nat).filter λk=>c∈ix ws k))=(order.map λc=>([1,2,3,4]:List Nat).filter λk=>c∈ix ws k).map dQ:=by rw[mQ];rfl
  rw[e2];have o:(order.map λc=>([1,2,3,4]:List Nat).filter λk=>c∈ix ws k).length<=10:=by rw[eE];exact N
  unfold gA at n;revert n o;generalize (order.map λc=>([1,2,3,4]:List Nat).filter λk=>c∈ix ws k)=L;refine λn o=>md (l:=L) (g:=dQ) (f:=dQ) (p:=λs=>decide (s≠[])) (λs Q m v I e=>?_) (cx o (cZ rfl)) ?_
  .refine dy (h9 rfl) (gu (Az s) ?_)
   by_cases A:s≠[]
   .rw[decide_eq_true A] at e ⊢
    exact dy I e
   .rw[decide_eq_false A] at e ⊢
    have e:v (m++[]) σ:=e;rw[ib] at e;exact e
  .have e3:fu eL (cw ((L.filter λs=>decide (s≠[])).map dQ)) (cw [cw []])=aE (hC (L.filter (λx=>decide (x≠[]))++[[]])):=by unfold hC;rw[kx];exact if_pos (by rw[eE];exact cx (oT (cx (Fb ..) o) 1) (cZ rfl))
   exact dy (h9 rfl) (dy (h9 rfl) (fw e3 n))
theorem IH:∀a:List (List Nat),jT (gr (a.map dQ))=bK:=by
 intro b;induction b with
 |nil=>exact rfl|cons l a c=>
  exact by simp only[fS,gr,jT,c];show(iZ (eK (gr _))&&bK)=bK;simp only[jP];simp[iZ,ni]
theorem D4:∀a:List (List Nat),lN (gr (a.map dQ))<=3:=by
 intro b;induction b with
 |nil=>exact by exact eW _
 |cons l a c=>
  exact by have d:=c;have e:=sf l;rw[fS,gr];show lN (eK (gr _)::_)<=3;rw[jP];simp[lN,gX] at *;exact Nat.max_le.mpr ⟨kQ (cx e (dd rfl)),d⟩
theorem II (σ)(a):hZ (w4 σ (hC a))=bK:=by show(iZ (eK (gr _))&&decide (gX (eK (gr _))<=64))=bK;have:=D4 a;simp[iZ,IH,gX];exact cx this (ej ..)
theorem WH (c):gq iu σ (hC c) (cw [])=aE (decide (c≠[])):=by
 show A5 σ _ _=_;unfold A5;rw[if_pos ⟨II σ c,jQ σ []⟩];show aE (!j0 (eK (gr _)) (eK []))=_
 congr 1
 induction c with
 |nil=>exact rfl|cons a b=>exact rfl
noncomputable def pt_b4:Ss:=pt_b3.tl
noncomputable def pt_for:S:=pt_b4.hd
noncomputable def LW:Ss:=pt_for.bdy
noncomputable def pt_b5:Ss:=pt_b4.tl
section
variable {lv j room:Nat}{ws:List fY}
noncomputable def SP (σ:Sg)(P:List (List fY)):Sg:=σ++[cM (P.map d_)]
theorem Yc (h:σ[j]?=aE (cM (ws.map iN)))(P:List (List fY)):(SP σ P)[j]?=aE (cM (ws.map iN)):=by unfold SP;rw[jR (List.getElem?_eq_some_iff.mp h).1];exact h
theorem EG (P):(SP σ P)[σ.length]?=aE (cM (P.map d_)):=by unfold SP;simp only[tX];rfl
theorem TG (P)(p):(SP σ P).set σ.length (cM (P.map d_++[d_ p]))=SP σ (P++[p]):=by unfold SP;have:=mf σ [cM (P.map d_)] 0 (cM (P.map d_++[d_ p]));simp only[mR] at this;simp only[this,kx];rfl
theorem xH (c:a.length<=10)(b:a≠[])(d:asc a):∀t∈ik ws a,fR t:=by
 intro t h;unfold ik at h;rw[ki] at h;subst h;refine⟨eW _,?_,by show a.length<=20;exact cx c (dd rfl),?_,b,jA,?_,d⟩
 .show(a++_).length<=20
  rw[dJ];exact eT c (iteInduction (motive:=λx:Wd=>x.length<=10) (λ_=>by decide) (λ_=>by decide))
 .show a++_≠[]
  exact λe=>b (List.append_eq_nil_iff.mp e).1
 .refine jB d ?_
  split
  .exact tQ (dd rfl)
  .exact jA
theorem D5 (c)(h:c≠[]):e9 σ (hC c) (aO 0)=aE (dQ (c.headD [])):=by
 unfold hC;induction c with
 |nil=>exact absurd rfl h|cons a b=>
  unfold e9;have e:k9 σ (cw ((a::b).map dQ)) (aO 0)=aE (dQ a):=by unfold k9 p4 mV;simp
  rw[e];rfl
theorem xI (ws)(order):gA ws order≠[]:=by unfold gA;simp
theorem D6 (ws)(order):(gA ws order).length<=order.length+1/\∀s∈gA ws order,s.length<=4:=by
 unfold gA;refine⟨?_,λs a=>?_⟩
 .have:=Fb (λx=>decide (x≠[])) (order.map λc=>([1,2,3,4]:List Nat).filter λk=>c∈ix ws k)
  rw[dJ];simp only[eE] at this;simp only[j8,Bl];exact j7 this
 .rcases List.mem_append.mp a with a|a
  .refine cU (List.mem_map.mp (List.mem_filter.mp a).1) λc _ b=>?_;subst b
   exact Fb _ _
  .simp only[ki] at a;rw[a];exact eW _
theorem D7 (a b)(h:a.length+b.length<=1000):fu eL (dQ a) (dQ b)=aE (dQ (a++b)):=by
 show(if(a.map λn:Nat=>aO n).length+(b.map λn:Nat=>aO n).length<=1000 then aE (cw (a.map (λn:Nat=>aO n)++b.map λn:Nat=>aO n)) else aT)=_
 rw[if_pos (by simpa using h),<-kx]
 rfl
theorem Yd (h:σ[j]?=aE (cM (ws.map iN)))(p:ws.length=5)(u:∀t∈ws,fR t)(v:c.length<=10)(g:d≠[])(e:∀s∈d,s.length<=4) (i:dp (ZL lv) pt_b4 (PM j c order room (aE (hC d)) (aE (aV σ.length)) (aE (dQ (0::d.headD []++[5]))) w x y k l m n) (SP σ [ik ws c]) Kk):dp (ZL lv) pt_b3 (PM j c order room (aE (hC d)) F G w x y k l m n) σ Kk:=by
 have q:0<ws.length:=p▸ek 4;have z:=u _ (kf q);have f:(d.headD []).length<=4:=by
  rcases d with _|⟨a,b⟩
  .exact eW _
  .exact e a (.head _)
 have A:fu gk (cC " ") (aO ((if decide ((ws.getD 0 default).1=[])=bK then 1 else 0:Nat):Int))=aE (sv (if decide ((ws.getD 0 default).1=[])=bK then[32] else[])):=by rw[Lx];exact wc (cZ rfl)
 have o:(if decide ((ws.getD 0 default).1=[])=bK then[32] else[]:Wd).length<=1:=by split<;>exact cZ rfl
 have B:d_ (ik ws c)=cw [dj [cC "",sv (c++if decide ((ws.getD 0 default).1=[])=bK then[32] else[]),sv c]]:=by
  unfold ik d_;rw[mB];by_cases r:(ws.getD 0 default).1=[]
  .simp only[r,decide_true,if_true];rfl
  .simp only[r,decide_false,if_false];rfl
 have C:fu eL (cw [aO 0]) (dQ (d.headD []))=aE (dQ (0::d.headD [])):=D7 [0] _ (cx (eY f 1) (cZ rfl));have D:fu eL (dQ (0::d.headD [])) (cw [aO 5])=aE (dQ (0::d.headD []++[5])):=D7 _ [5] (cx (oT (kQ f) 1) (cZ rfl));refine jZ (uK h q (cx (c_ p) (cZ rfl))) (jZ (uI _) (gu ((congrArg (λs=>gq .Eq _ _ (cC s)) mB).trans (CU z.2.2.2.2.2.1 jA)) (ly (fw A (fw (jm (cx (eT v o) (cZ rfl))) (dy (h9 rfl) (dy (h9 rfl) (dy (h9 rfl) (dy (h9 rfl) (jZ (D5 d g) (fw C (dy (h9 rfl) (fw D (dy (h9 rfl) ?_))))))))))))));unfold SP at i;rw[fS,B] at i;exact i
end
theorem Re (h:σ[j]?=aE (cM (ws.map iN)))(a:ws.length<=1000)(b e:Nat):kI σ (aV j) (aE (aO b)) (aE (aO e)) aT=aE (d_ (dR ws b e)):=by
 have c:nC σ (aV j) (aE (aO b)) (aE (aO e)) aT=aE (d_ (dR ws b e)):=by
  unfold nC;simp only[m7,m8,h];rw[if_neg (dd rfl),if_pos (by simp;exact d8 (gp 0x1c00000007d1c04380585000007a1207 rfl a)),Ih]
  unfold d_ dR;rw[vj,yt]
 unfold kI;rw[c]
theorem TH (b e)(l:List (List Nat)):decide ((l.filter λs=>decide (s.filter (λk=>decide (b<k)&&decide (k<e))≠[]))≠[])=l.any (λs=>s.any λk=>decide (b<k/\k<e)):=by
 have a:∀s:List Nat,decide (s.filter (λk=>decide (b<k)&&decide (k<e))≠[])=s.any λk=>decide (b<k/\k<e):=by
  intro s;induction s with
  |nil=>rfl|cons k s c=>rw[pK,vi];by_cases d:b<k<;>by_cases f:k<e<;>simp[d,f] at c ⊢<;>exact c
 simp only[a];induction l with
 |nil=>rfl|cons s l c=>
  rw[pK,vi];induction g:(s.any λk=>decide (b<k/\k<e)) with
  |true=>exact rfl|false=>exact c
theorem WI {Kk:V->Sg->Prop}(h:Kk (aO ((max a b:Nat):Int)) σ):(ZL lv).spec 5 [aO a,aO b] σ Kk:=by
 have e:(if(b:Int)>(a:Int) then(b:Int) else a)=((max a b:Nat):Int):=iteInduction (motive:=(·=((max a b:Nat):Int))) (λh=>congrArg Gn (Bd (eV (Int.ofNat_lt.mp h))).symm) (λh=>congrArg Gn (Bn (Int.ofNat_le.mp (Int.not_lt.mp h))).symm)
 have:Kk (aO (if(b:Int)>(a:Int) then(b:Int) else a)) σ:=by rw[e];exact h
 exact this
theorem IJ {b:Bool}(a:p.length<=1000):fu gk (d_ p) (aO ((if b then 1 else 0:Nat):Int))=aE (d_ (if b then p else[])):=by
 show(if(p.map iN).length<=1000/\(((if b then 1 else 0:Nat):Int)).natAbs<=1000 then aE (cw (dw (((if b then 1 else 0:Nat):Int)).toNat (p.map iN)).flatten) else aT)=_
 rw[if_pos ⟨by simpa using a,by split<;>simp⟩]
 induction b with
 |false=>rfl|true=>unfold d_;simp
theorem tZ (h:p.length+q.length<=1000):fu eL (d_ p) (d_ q)=aE (d_ (p++q)):=by
 show(if(p.map iN).length+(q.map iN).length<=1000 then aE (cw (p.map iN++q.map iN)) else aT)=_
 rw[if_pos (by simpa using h),<-kx]
 rfl
theorem pg (a:1<=lv)(b:p.length<=100)(c:∀t∈p,fR t)(h:Kk (aO (dW p:Nat)) σ):(ZL lv).spec 14 [d_ p] σ Kk:=⟨a,p,rfl,b,c,h⟩
theorem AB (h:jh σ X=aE l)(b:k<l.length)(c:l.length<=1000000):e9 σ X (aO k)=l[k]?:=by
 rcases rG h with rfl|⟨m,rfl,a⟩
 .exact iW b c
 .exact D2 a b c
theorem D8 (h:jh σ X=aE (l++[v]))(c:l.length<=1000):e9 σ X (aO (-1))=aE v:=by
 have b:p4 (-1) (l++[v]).length=aE l.length:=by
  have:=tS (n:=(l++[v]).length) (by simp) (by simp;exact d8 (gp 0x1c00000007d1c04380585000007a11ff rfl c))
  rw[this];simp
 rcases rG h with rfl|⟨m,rfl,a⟩
 .have e:k9 σ (cw (l++[v])) (aO (-1))=aE v:=
   ((cn (b ..) ((sT):(l++[v])[l.length]?=aE v)):(p4 (-1) (l++[v]).length).bind (λk=>(l++[v])[k]?)=aE v)
  delta e9;exact cn (e ..) rfl
 .have e:k9 σ (aV m) (aO (-1))=aE v:=by
   delta k9;dsimp only
   exact cn (a ..)<|((cn (b ..) ((sT):(l++[v])[l.length]?=aE v)):(p4 (-1) (l++[v]).length).bind (λk=>(l++[v])[k]?)=aE v)
  delta e9;exact cn (e ..) rfl
theorem LY (a b:Nat):gq .Lt σ (aO (a:Int)) (aO (b:Int))=aE (decide (a<b)):=by
 rw[Y8];congr 1;by_cases h:a<b
 .rw[decide_eq_true h,decide_eq_true (by exact V5 (gG (BO h)))]
 .rw[decide_eq_false h,decide_eq_false (by exact Int.not_lt.mpr (JD (d8 (oV (ia h)))))]
theorem LZ (Y:1<=lv)(h:σ[j]?=aE (cM (ws.map iN)))(M:ws.length=5)(Z:∀t∈ws,fR t)(N:first.length<=5)(z:∀t∈first,fR t){Q:List (List fY)}(A:Q.length<=100)(r:d.length<=100)(u:∀s∈d,s.length<=4){Kk:Out->Mm->Sg->Prop} (q:Kk de (PM j n order (hY ws first d.tail room (b,e)) (aE (hC d)) (aE (aV σ.length)) x6 (aE (aO b)) (aE (aO e)) x9 B C D F) (SP σ (first::Q++[dR ws b e]))):dp (ZL lv) LW (PM j n order room (aE (hC d)) (aE (aV σ.length)) x6 (aE (aO b)) (aE (aO e)) x9 B C D F) (SP σ (first::Q)) Kk:=by
 have G:∀t∈dR ws b e,fR t:=λt v=>Z t (lZ (pB v));have w:(dR ws b e).length<=5:=by unfold dR;rw[nV,kN];exact cx (gZ ..) (cx (pI ..) (c_ M))
 refine tx (k:=0) ((L1 (EG _)).trans rfl) (Ek (Re (Yc h _) (cx (c_ M) (cZ rfl)) b e) (Xw (EG _) (by rw[eE];exact cx (kQ A) (cZ rfl)) ?_))
 rw[TG];refine Ek (qK (i:=1) (by rw[eE];exact cx r (cZ rfl))) ?_
 rw[<-vj,Pf];have H:d.tail.length<=1000:=by rw[List.length_tail];exact cx (gZ ..) (cx r (cZ rfl))
 refine md (l:=d.tail) (g:=dQ) (f:=dQ) (p:=λs=>decide (s.filter (λk=>decide (b<k)&&decide (k<e))≠[])) (λs hs I k' ha c=>?_) H ?_
 .refine md (l:=s) (g:=λk:Nat=>aO k) (f:=λk:Nat=>aO k) (p:=λk=>decide (b<k)&&decide (k<e)) (λk q m P J a=>?_) (cx (u s (List.mem_of_mem_tail hs)) (cZ rfl)) ?_
  .refine gu (LY ..) ?_
   by_cases R:b<k
   .rw[decide_eq_true R] at a ⊢
    refine gu (LY ..) ?_;by_cases U:k<e
    .rw[decide_eq_true U] at a ⊢
     exact dy J a
    .rw[decide_eq_false U] at a ⊢
     have a:P (m++[]) _:=a;rw[ib] at a;exact a
   .rw[decide_eq_false R] at a ⊢
    have a:P (m++[]) _:=a;rw[ib] at a;exact a
  .refine dy (h9 rfl) (gu (Az (s.filter λk=>decide (b<k)&&decide (k<e))) ?_)
   by_cases W:s.filter (λk=>decide (b<k)&&decide (k<e))≠[]
   .rw[decide_eq_true W] at c ⊢
    exact dy ha c
   .rw[decide_eq_false W] at c ⊢
    have c:k' (I++[]) _:=c;rw[ib] at c;exact c
 .refine dy (h9 rfl) (gu ((WH _).trans (congrArg aE (TH b e d.tail))) ?_)
  unfold hY at q;revert q;generalize (d.tail.any λs=>s.any λk=>decide (b<k/\k<e))=L;intro q;rcases L with _|_
  .exact q
  .have X:jh (SP σ (first::Q++[dR ws b e])) (aV σ.length)=aE ((first::Q++[dR ws b e]).map d_):=oy (EG _)
   have i0:e9 (SP σ (first::Q++[dR ws b e])) (aV σ.length) (aO 0)=aE (d_ first):=AB (k:=0) X (by rw[eE];exact ek _) (by rw[eE,dJ];exact cx (oT (kQ A) 1) (cZ rfl))
   have i1:e9 (SP σ (first::Q++[dR ws b e])) (aV σ.length) (aO (-1))=aE (d_ (dR ws b e)):=
    D8 (l:=(first::Q).map d_) (by rw[X,kx];rfl) (by rw[eE];exact cx (kQ A) (cZ rfl))
   have x:fu gk (d_ first) (aO ((if decide ((b:Int)=0)=bK then 1 else 0:Nat):Int))=aE (d_ (if b=0 then first else[])):=by
    rw[IJ (cx N (cZ rfl))];by_cases y:b=0
    .rw[if_pos y,if_pos (decide_eq_true (show(b:Int)=0 from congrArg o8 y))]
    .rw[if_neg y,if_neg λh:decide ((b:Int)=0)=bK=>y (iD (of_decide_eq_true h))]
   have o:(if b=0 then first else[]:List fY).length<=5/\∀t∈(if b=0 then first else[]:List fY),fR t:=by
    split
    .exact⟨N,z⟩
    .exact⟨eW _,λt v=>by cases v⟩
   exact jZ i0 (gu eq_i (ly (fw x (jZ i1 (fw (tZ (cx (eT o.1 w) (cZ rfl))) (pg Y (by rw[dJ];exact cx (eT o.1 w) (cZ rfl)) (λt v=>(List.mem_append.mp v).elim (o.2 t) (G t)) (WI q)))))))
theorem Rf (y:1<=lv)(h:σ[j]?=aE (cM (ws.map iN)))(z:ws.length=5)(A:∀t∈ws,fR t)(B:first.length<=5)(g:∀t∈first,fR t)(i:f.length<=100)(e:∀s∈f,s.length<=4):∀{l:List (Nat×Nat)} {Q:List (List fY)} {room:Nat} {c d:Option V},Q.length+l.length<=50->(∀c d,C (PM j b order (l.foldl (hY ws first f.tail) room) (aE (hC f)) (aE (aV σ.length)) D c d F k m n o) (SP σ (first::(Q++l.map λa=>dR ws a.1 a.2))))->om (wD Kk (dp (ZL lv) LW) (dS [(7,q,r),(8,u,v)] 0 w)) C (l.map λa:Nat×Nat=>dj [aO a.1,aO a.2]) (PM j b order room (aE (hC f)) (aE (aV σ.length)) D c d F k m n o) (SP σ (first::Q)):=by
 intro G;induction G with
 |nil=>
  exact @λQ room c d _ p=>by have:=p c d;rw[G2,ib] at this;exact this
 |cons a l H=>
  exact @λQ room c d x p=>
   LZ y h z A B g (cx (AW x) (cZ rfl)) i e
    (H (Q:=Q++[dR ws a.1 a.2]) (by rw[dJ,ic,iE [_].length];exact x) λI J=>by rw[j5];exact p I J)
theorem L_ (l r:List Nat):l7 (λx y=>dj [x,y]) (l.map λn:Nat=>aO n) (r.map λn:Nat=>aO n)=(l.zip r).map λa:Nat×Nat=>dj [aO a.1,aO a.2]:=by rw[OG,List.zip,OH]
theorem Ye (v:1<=lv)(h:σ[j]?=aE (cM (ws.map iN)))(w:ws.length=5)(x:∀t∈ws,fR t)(y:first.length<=5)(m:∀t∈first,fR t)(n:c.length<=100)(d:∀s∈c,s.length<=4)(q:a.length<=40) (z:∀o p,dp (ZL lv) pt_b5 (PM j b order ((a.zip a.tail).foldl (hY ws first c.tail) room) (aE (hC c)) (aE (aV σ.length)) (aE (dQ a)) o p r e f g k) (SP σ (first::(a.zip a.tail).map λl=>dR ws l.1 l.2)) Kk):dp (ZL lv) pt_b4 (PM j b order room (aE (hC c)) (aE (aV σ.length)) (aE (dQ a)) o p r e f g k) (SP σ [first]) Kk:=by
 have u:om (wD (qm Kk (dp (ZL lv) pt_b5)) (dp (ZL lv) LW) pt_for.tgt) (Pr (qm Kk (dp (ZL lv) pt_b5)) (dp (ZL lv) pt_for.els)) ((a.zip a.tail).map λl:Nat×Nat=>dj [aO l.1,aO l.2]) (PM j b order room (aE (hC c)) (aE (aV σ.length)) (aE (dQ a)) o p r e f g k) (SP σ [first]):=
  Rf v h w x y m n d (Q:=[]) (by rw[OW];exact cx (eY (vc ..) 0) (cx (c_ (iH _)) (cx q (cZ rfl)))) z
 rw[<-L_,<-Pf,vj] at u;exact Ek (qK (i:=1) (by rw[eE];exact cx q (cZ rfl))) u
noncomputable def Sn:Ss:=pt_b5.tl
theorem M0 (k:Nat)(h:jh σ X=aE l)(b:l.length<=1000000):kI σ X (aE (aO k)) aT aT=aE (cw (l.drop k)):=by
 rcases rG h with rfl|⟨m,rfl,a⟩
 .exact qK b k
 .have e:nC σ (aV m) (aE (aO k)) aT aT=aE (cw (l.drop k)):=
   ((cn (a ..) ((if_pos b).trans (cn (sJ ..) rfl))):(match σ[m]? with|some (cM l)=>if l.length<=1000000 then aE (cw (gF l (aE (k:Int)) aT aT)) else aT|_=>aT)=aE (cw (l.drop k)))
  delta kI;exact cn (e ..) rfl
theorem IK (a:p.length<=1000)(k:Nat):kI σ (d_ p) aT (aE (aO k)) aT=aE (d_ (p.take k)):=by dsimp only[d_];rw[D1 (by simp;exact cx a (ej ..)),yt]
theorem IL (a:p.length<=1000)(k:Nat):kI σ (d_ p) (aE (aO k)) aT aT=aE (d_ (p.drop k)):=by dsimp only[d_];rw[qK (by simp;exact d8 (gp 0x1c00000007d1c04380585000007a1207 rfl a)),vj]
theorem EH (a b:Nat):gq .GtE σ (aO (a:Int)) (aO (b:Int))=aE (decide (b<=a)):=by
 show aE (decide ((b:Int)<=(a:Int)))=_
 congr 1
 by_cases h:b<=a
 .rw[decide_eq_true h,decide_eq_true (Int.ofNat_le.mpr h)]
 .rw[decide_eq_false h,decide_eq_false (by exact Int.not_le.mpr (V5 (gG (BO (jU h)))))]
theorem M4 (a b:Nat):gq .Gt σ (aO (a:Int)) (aO (b:Int))=aE (decide (b<a)):=by
 show aE (decide ((b:Int)<(a:Int)))=_
 congr 1
 by_cases h:b<a
 .rw[decide_eq_true h,decide_eq_true (Int.ofNat_lt.mpr h)]
 .rw[decide_eq_false h,decide_eq_false (by exact Int.not_lt.mpr (JD (d8 (oV (ia h)))))]
inductive wInv (σ:Sg) (room j:Nat) (title order:Wd) (rest:List (List fY)) (R:List fY×List fY) (N:Nat) (x4 x6 x7 x8 x9 x10 x11 x12 x13:Option V):Nat->Mm->Sg->Prop
 |mk {X:V} {a b:List fY}:jh σ X=aE ((a::b::rest).map d_)->a.length+b.length<=50->(∀t∈a++b,fR t)->oB room a b=R->(∀m,X=aV m->m=N)->
  wInv σ room j title order rest R N x4 x6 x7 x8 x9 x10 x11 x12 x13 b.length (PM j title order room x4 (aE X) x6 x7 x8 x9 x10 x11 x12 x13) σ
theorem Yf (H:1<=lv){p0 p1:List fY}{rest:List (List fY)}(v:rest.length<=100)(c:p0.length+p1.length<=50)(s:∀t∈p0++p1,fR t)(g:jh σ X=aE ((p0::p1::rest).map d_)){N:Nat}(e:∀m,X=aV m->m=N){Kk:Out->Mm->Sg->Prop} (L:∀X,jh σ X=aE (((oB room p0 p1).1::(oB room p0 p1).2::rest).map d_)->(∀m,X=aV m->m=N)->dp (ZL lv) Sn (PM j d order room y (aE X) z A B C i l n o) σ Kk):dp (ZL lv) pt_b5 (PM j d order room y (aE X) z A B C i l n o) σ Kk:=by
 refine⟨wInv σ room j d order rest (oB room p0 p1) N y z A B C i l n o,⟨_,.mk g c s rfl e⟩,?_⟩;clear g c s e;intro q M P Q;induction Q with
 |@mk X a b g c s I e=>
 have D:e9 σ X (aO 0)=aE (d_ a):=AB (k:=0) g (by rw[eE];exact ek _) (by rw[eE];exact cx (kQ (kQ v)) (cZ rfl))
 have w:e9 σ X (aO 1)=aE (d_ b):=AB (k:=1) g (by rw[eE];exact ym (ek _)) (by rw[eE];exact cx (kQ (kQ v)) (cZ rfl))
 have f:b.length<=50:=NL c;have p:oB room a b=(a,b)->dp (ZL lv) Sn (PM j d order room y (aE X) z A B C i l n o) σ Kk:=λF=>L X (by rw[<-I,F];exact g) e
 refine jZ D (jZ w (fw (tZ (cx c (cZ rfl))) (pg H (by rw[dJ];exact cx c (cZ rfl)) s ?_)))
 by_cases u:room<dW (a++b)
 .have G:(b.take 1).length<=b.length:=by rw[kN];exact pI _ _
  have r:a.length+(b.take 1).length<=50:=cx (eY G _) c;have J:kI σ (d_ b) aT (aE (aO 1)) aT=aE (d_ (b.take 1)):=IK (cx f (cZ rfl)) 1;refine gu ((M4 ..).trans (congrArg aE (decide_eq_true u))) (jZ D (jZ w (Ek J (fw (tZ (cx r (cZ rfl))) (pg H (by rw[dJ];exact cx r (cZ rfl)) (λt R=>s t ((List.mem_append.mp R).elim (λh=>oS _ h) λh=>mZ _ (lZ h))) ?_)))))
  rcases b with _|⟨t,b⟩
  .rw[FR]
   exact gu ((EH ..).trans (congrArg aE (decide_eq_false (qZ u)))) (p rfl)
  .by_cases x:dW (a++(t::b).take 1)<=room
   .have U:kI σ (d_ (t::b)) (aE (aO 1)) aT aT=aE (d_ b):=IL (cx f (cZ rfl)) 1
    have W:kI σ X (aE (aO 2)) aT aT=aE (cw (rest.map d_)):=M0 2 g (by rw[eE];exact cx (kQ (kQ v)) (cZ rfl))
    have Y:fu eL (cw [d_ (a++[t]),d_ b]) (cw (rest.map d_))=aE (cw (((a++[t])::b::rest).map d_)):=if_pos (by rw[eE];exact cx (eY v 2) (cZ rfl))
    refine gu ((EH ..).trans (congrArg aE (decide_eq_true x))) (jZ D (jZ w (Ek J (fw (tZ (cx r (cZ rfl))) (jZ w (Ek U (dy (h9 rfl) (Ek W (fw Y (⟨b.length,jG _,.mk rfl ?_ ?_ ?_ λm h=>Internal.V.noConfusion h⟩))))))))))
    .rw[dJ,ic,iE [_].length];exact c
    .rw[j5];exact s
    .rw[<-I]
     exact(if_pos ⟨u,x⟩).symm
   .exact gu ((EH ..).trans (congrArg aE (decide_eq_false x))) (p (if_neg (λh=>x h.2)))
 .refine gu ((M4 ..).trans (congrArg aE (decide_eq_false u))) (p ?_)
  rcases b with _|⟨t,b⟩
  .rfl
  .exact if_neg (λh=>u h.1)
section
variable {KK:V->Sg->Prop}
theorem Rg (F:FN C Kk)(H:m5 C n (ZL lv) p7 oU)(h:qq (lv+1) 15 vs σ KK)(rs:Rels ρ s.heap as vs)(st:St C ρ σ s)(hA:Room (n+10) A):Calls C A 260 as ρ s KK Ee:=by
 obtain⟨h2,j,i,d,g,D,rfl,Z,W,Y,w,G,J,P,a6,a0,x⟩:=h;have hl:1<=lv:=mM h2;refine eF (F 18) λfd I=>?_;have a1:=st.closed;refine gH H I (r:=10) (tr:=bK) rfl (WG Z W Y J ?_) rs st (hA.le (eY (dd rfl) _));obtain⟨a2,y⟩:=D6 i g;refine Yd Z W Y w (xI i g) y ?_;have a3:((gA i g).headD []).length<=4:=by
  have:=xI i g;induction hp:gA i g with
  |nil=>exact absurd hp this|cons a b=>exact y a (by rw[hp];exact .head _)
 unfold fF at x;simp only[] at x;have u:(0::(gA i g).headD []++[5]).length<=40:=by simp only[dJ,j8,Bl];exact d8 (gp 0x7110087361404c28058500000000147 rfl a3)
 have Q:(ik i d).length=1:=rfl;refine Ye hl Z W Y (first:=ik i d) (cx (c_ Q) (dd rfl)) (xH w G P) (cx a2 (cx (kQ J) (dd rfl))) y u λx7 x8=>?_
 obtain⟨k,o⟩:∃p,p=(0::(gA i g).headD []++[5]).zip (0::(gA i g).headD []++[5]).tail:=⟨_,rfl⟩;rw[<-o] at x ⊢;have z:k.length<=40:=by rw[o,OW];exact d8 (jY 0x1c0000000051c0438042438258500000000147 rfl u (vc ..))
 obtain⟨f,c,v⟩:∃f c,k=f::c:=by
  rw[o];induction hh:(gA i g).headD [] with
  |nil=>exact⟨_,_,rfl⟩|cons a b=>exact⟨_,_,rfl⟩
 have hP:jh (SP σ (ik i d::k.map λf=>dR i f.1 f.2)) (aV σ.length)=aE ((ik i d::k.map λf=>dR i f.1 f.2).map d_):=
  oy (EG _)
 have B:(dR i f.1 f.2).length<=5:=by unfold dR;rw[nV,kN];exact d8 (iP 0x715008700848704888708b0a2a rfl (c_ W) (pI ..) (sA ..))
 rw[v] at hP x ⊢;rw[<-v] at x ⊢;generalize k.foldl (hY i (ik i d) (gA i g).tail) D=q at *;simp only[v,fS,OX,P6] at x hP ⊢;have a4:(c.map λf=>dR i f.1 f.2).length<=100:=by
  have:k.length=c.length+1:=by rw[v];rfl
  rw[eE];exact d8 (jY 0xe0000000028e021c02c282438258500000000327 rfl z (c_ this.symm))
 refine Yf hl (p0:=ik i d) (p1:=dR i f.1 f.2) (rest:=c.map λf=>dR i f.1 f.2) a4 (d8 (jY 0x1c54021c14121cc04258500000000197 rfl B (c_ Q))) (λt R=>?_) hP (N:=σ.length) (λm h=>by cases h;rfl) λX hX a5=>?_
 .rcases List.mem_append.mp R with R|R
  .exact xH w G P t R
  .exact Y t (lZ (pB R))
 .refine dy (h9 rfl) ?_
  generalize hL:((oB q (ik i d) (dR i f.1 f.2)).1::(oB q (ik i d) (dR i f.1 f.2)).2::c.map λf=>dR i f.1 f.2)=L at *;have U:zZ (SP σ (ik i d::dR i f.1 f.2::c.map λf=>dR i f.1 f.2)) σ.length X/\sr (SP σ (ik i d::dR i f.1 f.2::c.map λf=>dR i f.1 f.2)) σ.length X=iV L:=by
   cases X with
   |lst l=>have:l=L.map d_:=dk hX;subst this;exact⟨xG L,rfl⟩|obj m=>
    have hm:=a5 m rfl;subst hm;have he:=dk ((oy (EG _)).symm.trans hX);refine⟨.inr ⟨_,EG _,?_⟩,?_⟩
    .exact xG (ik i d::dR i f.1 f.2::c.map λf=>dR i f.1 f.2)
    .rw[zY (by exact jV<|d8 Jm) (EG _),he];rfl
   |_=>cases hX
  refine tV (M:=[]) a1 ⟨U.1,trivial,trivial⟩ ?_;have e:frz (SP σ (ik i d::dR i f.1 f.2::c.map λf=>dR i f.1 f.2)) σ.length (dj [X,aO (q:Nat)])=dj [iV L,aO (q:Nat)]:=by show dj [sr _ _ X,sr _ _ _]=_;rw[U.2];rfl
  exact e▸x
end
noncomputable def DF (n:Nat):UInt64:=gL cu n 128
noncomputable def D3 (c:Nat×Nat×Nat):UInt64×UInt64×UInt64:=(DF c.1,DF c.2.1,DF c.2.2)
noncomputable def pick {α:Type}(j:Nat)(a p q u:α):α×α×α:=if j=0 then(a,u,p) else if j=1 then(q,a,p) else if j=2 then(p,a,u) else if j=3 then(p,q,a) else if j=4 then(u,p,a) else(a,p,q)
noncomputable def iy (s v x:Nat):Nat×Nat×Nat:=pick (3*x/8) (32*v) (8*v*(4-s)) (v*(32-s*(3*x%8))) (v*(32-s*(8-3*x%8)))
noncomputable def pre (h:UInt64)(x:Nat):Bool:=let a:=fT h 0x4018000000000000;let i:=mW mP a
 pJ a&&kH i&&decide (i.fmod 6=(3*x/8:Nat))&&(eP a (fD i)==gL cu (3*x%8) 8)
noncomputable def nK (x y:UInt64):Bool:=let d:=fT (eP x y) (fD (2 ^ 30))
 (ky d (-1)==aE .gt)&&(ky d 1==aE .lt)
noncomputable def qG (s v:UInt64)(g:Nat):UInt64:=fT v (eP 0x3ff0000000000000 (fT s (gL cu g 8)))
noncomputable def WJ:Bool:=(eZ 16).all λt=>[1,2,3,4,5,6].all λr=>pre (gY (gL cu t 16) (gL cu r 2)) ((t+8*r)%16)
noncomputable def So:Bool:=(eZ 16).all λt=>pre (gY (gL cu t 16) (fD 1)) t&&(ky (fT (fD 16) (gL cu t 16)) t==aE .eq)
noncomputable def WL:Bool:=(eZ 8).all λf=>eP 0x3ff0000000000000 (gL cu f 8)==gL cu (8-f) 8
noncomputable def WM:Bool:=[1,2,3,4].all λs=>[1,2,3,4].all λv=>(fm (qF s) 0 != aE .eq)&&(fT (qF v) (eP 0x3ff0000000000000 (qF s))==DF (8*v*(4-s)))&&(qF v==DF (32*v))&&(eZ 9).all λg=>qG (qF s) (qF v) g==DF (v*(32-s*g))
noncomputable def WN:Bool:=[1,2,3,4].all λs=>[1,2,3,4].all λv=>(eZ 16).all λt=>(vZ (D3 (iy s v t)).1 (D3 (iy s v t)).2.1 (D3 (iy s v t)).2.2).map (·.1)==aE (gL cu t 16)
noncomputable def h8 (s v:Nat):Nat:=8*v*(8-s)
noncomputable def D9 (s v:Nat)(a b:Int):UInt64:=fT (qF v) (eP (fD a) (gN (fT (qF s) (fD (a-b))) (fD 2)))
noncomputable def Da (s v:Nat)(a b:Int)(c M:UInt64):Bool:=(jH (D9 s v a b)==cu)&&(fm c (gN (fT (fT (qF s) (qF v)) (fD b)) (D9 s v a b))==aE .eq)&&(fm M (D9 s v a b)==aE .eq)
noncomputable def M5 (s v k:Nat):Bool:=let M:=DF (k*h8 s v+32*v);let a:=gN (DF (8*s*v)) M
 (fm a 0 != aE .eq)&&nK M M&&nK (fT M (eP 0x3ff0000000000000 a)) (DF (k*h8 s v+8*v*(4-s)))&&
 ((eZ 9).all λg=>nK (qG a M g) (DF (k*h8 s v+v*(32-s*g))))&&Da s v (2*k+1) 1 a M
noncomputable def IM (s:Nat):Bool:=[1,2,3,4].all λv=>(eZ 16).all λk=>M5 s v k
noncomputable def WO:Bool:=[1,2,3,4].all λs=>[1,2,3,4].all λv=>(eZ 17).all λk=>k==0||(nK (DF (k*h8 s v)) (DF (k*h8 s v))&&Da s v (2*k) 0 0 (DF (k*h8 s v)))
noncomputable def WQ:Bool:=(eZ 4300).all λn=>(Float64.decode (DF n) matches .fin cu ..)&&decide (Float64.val (DF n)=(n:Int)*2 ^ 1067)
section
open PySem PySem.Float64
theorem TJ:WJ=bK:=by decide+kernel
theorem Rh:So=bK:=by decide+kernel
theorem TK:WL=bK:=by decide+kernel
theorem TL:WM=bK:=by decide+kernel
theorem TM:WN=bK:=by decide+kernel
theorem TN:WO=bK:=by decide+kernel
theorem TP:WQ=bK:=by decide+kernel
theorem TQ:IM 1=bK:=by decide+kernel
theorem TR:IM 2=bK:=by decide+kernel
theorem TS:IM 3=bK:=by decide+kernel
theorem TT:IM 4=bK:=by decide+kernel
end
section
open PySem PySem.Float64
theorem AC {g:Bool}(o:0<D)(h:Right r g W D)(h':Right y g W D):r=y:=by
 refine uc h λt c z p C=>?_;subst c;refine uc h' λu c F s G=>?_;subst c;suffices t=u by rw[this]
 by_cases k:t=infMag
 .exact k.trans (s.mpr (p.mp k)).symm
 have H:u≠infMag:=λe=>k (p.mpr (s.mp e));have T:=C (pE z k);have U:=G (pE F H);have i:∀{a b:Nat},a<b->(∀d,dist W (D*jK a)<=dist W (D*jK d)/\(jK d≠jK a->dist W (D*jK a)=dist W (D*jK d)->a%2=0))->(∀d,dist W (D*jK b)<=dist W (D*jK d)/\(jK d≠jK b->dist W (D*jK b)=dist W (D*jK d)->b%2=0))->False:=by
  intro a b j A B;have v:=V_lt j;have e:dist W (D*jK a)=dist W (D*jK b):=eC (A b).1 (B a).1;have I:=(A b).2 (fx v) e;have w:=(B a).2 (jI v) e.symm;have J:=V_lt (jG a);have L:=V_lt (show a+1<b from pE j λq=>by have q:a+1=b:=q;rw[<-q,Pl,I] at w;exact absurd w (dd rfl))
  have l:=(A (a+1)).1;have m:=xV J o;have x:=xV L o;have n:=(B (a+1)).1;unfold dist at l n;rcases G0 W (D*jK (a+1)) with f|f
  .rw[uR f,uR (cx f (eV x)),iH,iH] at n
   exact absurd n (qZ (Nat.sub_lt_sub_right f x))
  .rw[uR f,uR (cx (eV m) f),mR,mR] at l
   exact absurd l (qZ (Nat.sub_lt_sub_left (fl m f) m))
 rcases yk t u with h|h|h
 .exact(i h T U).elim
 .exact h
 .exact(i h U T).elim
theorem mE (h:n<4300):(∃m e,decode (DF n)=.fin cu m e)/\val (DF n)=(n:Int)*2 ^ 1067:=by
 have:=TP;unfold WQ at this;rw[jj] at this;have:=this n (by simpa using h)
 rw[eB,decide_eq_true_eq] at this;refine⟨?_,this.2⟩;have a:=this.1;generalize decode (DF n)=o at a ⊢;cases o with
 |fin b m e=>cases b with
  |false=>exact⟨m,e,rfl⟩|true=>exact absurd a dF
 |_=>exact absurd a dF
theorem M6 (n):Right (DF n) cu (n*2 ^ 1067) 1:=by
 refine ofFrac_right (dd rfl) ?_ (dd rfl);rw[show(2:Nat) ^ 1074=2 ^ 1067*128 from by rw[show(1074:Nat)=1067+7 from rfl,Nat.pow_add]]
 rw[Pj,P8]
theorem Hm:DF 0=zero cu:=by decide+kernel
theorem rL:(0:Int)<2 ^ 1067:=by have:(2:Int) ^ 1067=((2 ^ 1067:Nat):Int):=rfl;simp only[this];exact Int.ofNat_lt.mpr (FC _)
theorem Dc {n:Nat}(a:x=(n:Int)*2 ^ 1067)(h:Right r (decide (x<0)) x.natAbs 1):r=DF n:=by
 have b:¬x<0:=by simp only[a];have:=Int.mul_nonneg (lD n) (yw rL);exact Int.not_lt.mpr this
 rw[decide_eq_false b] at h;have e:x.natAbs=n*2 ^ 1067:=by
  simp only[a,Int.natAbs_mul,B7]
  congr 1
 rw[e] at h;exact AC (dd rfl) h (M6 n)
theorem M7 (h:a+b<4300):gY (DF a) (DF b)=DF (a+b):=by
 obtain⟨⟨m,e,i⟩,d⟩:=mE (n:=a) (fC (eO a b) h);obtain⟨⟨k,f,j⟩,g⟩:=mE (n:=b) (fC (ej b a) h);obtain⟨l,o⟩:=add_right i j;by_cases c:val (DF a)+val (DF b)=0
 .rw[l c]
  rw[d,g,<-Pm] at c;have:(a:Int)+b=0:=(Int.mul_eq_zero.mp c).resolve_right (G3 rL);have:a+b=0:=iD (this:o8 (a+b)=o8 0);rw[this,Hm];rfl
 .refine Dc ?_ (o c)
  rw[d,g,<-Pm];norm_cast
theorem AD (h:a<4300)(g:b<=a):eP (DF a) (DF b)=DF (a-b):=by
 obtain⟨⟨m,e,n⟩,j⟩:=mE h;obtain⟨⟨k,f,i⟩,l⟩:=mE (fC g h);obtain⟨o,p⟩:=sub_right n i;have c:(a:Int)-b=((a-b:Nat):Int):=(pQ g).symm;by_cases d:val (DF a)-val (DF b)=0
 .rw[o d]
  rw[j,l,<-Pn] at d;have:(a:Int)-b=0:=(Int.mul_eq_zero.mp d).resolve_right (G3 rL);have:a-b=0:=iD ((pQ g).trans this);rw[this,Hm];rfl
 .refine Dc ?_ (p d)
  rw[j,l,<-Pn,c]
theorem nL (d:a<4300)(g:b<4300):fm (DF a) (DF b)=aE (compare a b):=by
 refine dz (mE d) λc i=>?_;obtain⟨m,e,j⟩:=c;refine dz (mE g) λc l=>?_;obtain⟨k,f,n⟩:=c;simp only[cmp_right j n,i,l]
 congr 1
 rcases yk a b with h|h|h
 .rw[Nat.compare_eq_lt.mpr h,Int.compare_eq_lt.mpr (Nd (Int.ofNat_lt.mpr h) rL)]
 .subst h;simp
 .rw[Nat.compare_eq_gt.mpr h,Int.compare_eq_gt.mpr (Nd (Int.ofNat_lt.mpr h) rL)]
theorem zI (h:0<a)(f:a<4300):jH (DF a)=cu:=by
 refine dz (mE f) λb g=>?_;obtain⟨m,e,c⟩:=b;unfold jH;rw[c];induction m with
 |succ m=>rfl|zero=>
  exfalso;have d:val (DF a)=0:=by rw[val_eq c];unfold sgn;simp
  rw[g] at d;have:=(Int.mul_eq_zero.mp d).resolve_right (G3 rL);exact absurd (iD this) (fx h)
end
theorem sN (a b:Nat):((aE (compare a b):Option Ordering)==aE .gt)=decide (b<a):=by
 rcases yk a b with h|h|h
 .rw[Nat.compare_eq_lt.mpr h,decide_eq_false (by exact jV<|d8 (sh h))];rfl
 .subst h;simp
 .simp only[Nat.compare_eq_gt.mpr h,decide_eq_true h];rfl
theorem sO (a b:Nat):((aE (compare a b):Option Ordering)==aE .lt)=decide (a<b):=by
 rcases yk a b with h|h|h
 .rw[Nat.compare_eq_lt.mpr h,decide_eq_true h];rfl
 .subst h;simp
 .rw[Nat.compare_eq_gt.mpr h,decide_eq_false (by exact jV<|d8 (sh h))];rfl
theorem ph (a b:Nat):((aE (compare a b):Option Ordering)==aE .eq)=decide (a=b):=by
 rcases yk a b with h|h|h
 .rw[Nat.compare_eq_lt.mpr h,decide_eq_false (jI h)];rfl
 .subst h;simp
 .rw[Nat.compare_eq_gt.mpr h,decide_eq_false (fx h)];rfl
theorem s4:∀s<5,1<=s->s=1\/s=2\/s=3\/s=4:=dd rfl
theorem j6:∀j<6,j=0\/j=1\/j=2\/j=3\/j=4\/j=5:=dd rfl
theorem Xz (a c)(d:1<=v)(h:a+b=c)(g:0<b)(e:x=a*v)(f:y=b*v):c*v-x=y/\0<y:=by rw[e,f,<-h,t9,Ny];exact⟨rfl,Nat.mul_pos g d⟩
theorem Hn (f:a<4300)(g:b<4300)(h:c<4300):sE (DF a) (DF b) (DF c)=DF (max a (max b c)):=by
 dsimp only[sE];simp only[nL g f,nL h g,nL h f,sN,sN,sN];simp only[decide_eq_true_eq];split
 .rename_i e
  rw[Bd (cx (eV e) (r6 ..))];split
  .rename_i d;rw[Bd (eV d)]
  .rename_i d;rw[Bn (ia d)]
 .rename_i e
  rw[<-Nat.max_assoc,Bn (ia e)];split
  .rename_i d;rw[Bd (eV d)]
  .rename_i d;rw[Bn (ia d)]
theorem Ho (f:a<4300)(g:b<4300)(h:c<4300):wR (DF a) (DF b) (DF c)=DF (min a (min b c)):=by
 dsimp only[wR];simp only[nL g f,nL h g,nL h f,sO,sO,sO];simp only[decide_eq_true_eq];split
 .rename_i e
  rw[nU (cx (vc ..) (eV e))];split
  .rename_i d;rw[nU (eV d)]
  .rename_i d;rw[lE (ia d)]
 .rename_i e
  rw[<-Nat.min_assoc,lE (ia e)];split
  .rename_i d;rw[nU (eV d)]
  .rename_i d;rw[lE (ia d)]
noncomputable def WR (c d g a:Nat):UInt64:=let b:=gN (DF c) (DF a);let e:=gN (DF d) (DF a);let f:=gN (DF g) (DF a);let h:=if c=0 then eP f e else if d=0 then eP (gY 0x4000000000000000 b) f else eP (gY 0x4010000000000000 e) b
 (s_ (gN h 0x4018000000000000) 0x3ff0000000000000).2
theorem M8 (f:a<4300)(g:b<4300)(j:c<4300)(h:min a (min b c)<max a (max b c)):vZ (DF a) (DF b) (DF c)=aE (WR (max a (max b c)-a) (max a (max b c)-b) (max a (max b c)-c) (max a (max b c)-min a (min b c)),gN (DF (max a (max b c)-min a (min b c))) (DF (max a (max b c))),DF (max a (max b c))):=by
 unfold vZ;rw[Hn f g j,Ho f g j];generalize d:max a (max b c)=i at *;generalize l:min a (min b c)=p at *;have e:i<4300:=d▸Nat.max_lt.mpr ⟨f,Nat.max_lt.mpr ⟨g,j⟩⟩;dsimp only[];rw[nL (by exact vm h e) e,ph,AD e (by exact eV h),AD e (by exact d8 (vC 0x7048087008887088c870cb0a09 rfl (c_ d) (q_ ..) (q_ ..))),AD e (by exact d8 (vC 0x7048087008887088c870cb0a09 rfl (c_ d) (q_ ..) (r6 ..))),AD e (by exact d8 (iP 0x704808700888708b0a09 rfl (c_ d) (r6 ..))),zI (by exact gG (Jq h)) e,zI (by exact gG (iP 0x398884808700b0a110e0209 rfl (sB ..) h)) (by exact gG (jY 0x1c0000002199d8500870084870480000008667 rfl e (sA ..))),nL f e,nL g e,ph,ph]
 rw[if_neg (by simp;exact jI (gG (BO h))),if_neg (λh=>dG h)]
 dsimp only[WR];simp only[decide_eq_true_eq];have k:∀{x:Nat},x<=i->(x=i)=(i-x=0):=λ{x} m=>propext ⟨λh=>by rw[h];exact t7 _,λh=>eC m (NO h)⟩
 have n:=k (x:=a) (d▸r6 ..);have o:=k (x:=b) (d▸cx (r6 ..) (q_ ..));simp only[n,o]
theorem M9 (b:a<4300):vZ (DF a) (DF a) (DF a)=aE (0,0,DF a):=by dsimp only[vZ];rw[Hn b b b,Ho b b b];simp only[Nat.max_self,Nat.min_self];rw[nL b b,ph,if_pos (by simp)]
theorem IP (d:kz+a<4300)(e:kz+b<4300)(f:kz+c<4300)(h:min a (min b c)<max a (max b c))(g:(vZ (DF a) (DF b) (DF c)).map (·.1)=aE x):vZ (DF (kz+a)) (DF (kz+b)) (DF (kz+c))=aE (x,gN (DF (max a (max b c)-min a (min b c))) (DF (kz+max a (max b c))),DF (kz+max a (max b c))):=by
 rw[M8 (by exact gG (Jv d)) (by exact gG (Jv e)) (by exact gG (Jv f)) h] at g
 have i:max (kz+a) (max (kz+b) (kz+c))=kz+max a (max b c):=by rw[NX,NX]
 have j:min (kz+a) (min (kz+b) (kz+c))=kz+min a (min b c):=by rw[NY,NY]
 simp only[M8 d e f (by rw[i,j];exact sV h kz)]
 simp only[i,j,B1,B1,B1,B1];have:=dk g;dsimp only[] at this;simp only[this]
theorem Dd (b:x<16)(a:pre h x=bK)(c:(fm s 0==aE .eq)=cu):Aj h s v=aE (pick (3*x/8) v (fT v (eP 0x3ff0000000000000 s)) (qG s v (3*x%8)) (qG s v (8-3*x%8))):=by
 unfold pre at a;simp only[eB,decide_eq_true_eq,beq_iff_eq] at a;obtain⟨⟨⟨d,e⟩,f⟩,g⟩:=a;unfold Aj;rw[c,if_neg dF];dsimp only[];rw[d,e,FU,if_pos rfl,g];have i:eP 0x3ff0000000000000 (gL cu (3*x%8) 8)=gL cu (8-3*x%8) 8:=by have:=TK;unfold WL at this;rw[jj] at this;exact ku (this (3*x%8) (by simp;exact ro _ (dd rfl)))
 rw[i,f];have k:3*x/8<6:=Ff (xV b (dd rfl));dsimp only[qG,pick];generalize 3*x/8=j at *;have:=j6 j k;rcases this with rfl|rfl|rfl|rfl|rfl|rfl<;>rfl
theorem Ri (a:x<16):pre (gY (gL cu x 16) (fD 1)) x=bK/\(ky (fT (fD 16) (gL cu x 16)) x==aE .eq)=bK:=by
 have:=Rh;unfold So at this;simp only[jj] at this;have:=this x (by simpa using a)
 rwa [eB] at this
theorem AE (a:1<=s)(b:s<=4):s∈([1,2,3,4]:List Nat):=(by decide:∀k<5,1<=k->k∈([1,2,3,4]:List Nat)) s (j7 b) a
theorem TU (a:1<=s)(b:s<=4)(c:1<=v)(d:v<=4)(e:x<16):(vZ (DF (iy s v x).1) (DF (iy s v x).2.1) (DF (iy s v x).2.2)).map (·.1)=aE (gL cu x 16):=by have:=TM;unfold WN at this;rw[jj] at this;have:=this s (AE a b);rw[jj] at this;have:=this v (AE c d);simp only[jj] at this;exact ku (this x (by simpa using e))
noncomputable def Ma (s v x:Nat):Bool:=let c:=iy s v x;let d:=iy s v ((x+8)%16);decide (max c.1 (max c.2.1 c.2.2)=32*v)&&decide (min c.1 (min c.2.1 c.2.2)=8*v*(4-s))&&decide (c.1+d.1=h8 s v)&&decide (c.2.1+d.2.1=h8 s v)&&decide (c.2.2+d.2.2=h8 s v)
theorem Mb:([1,2,3,4].all λs=>[1,2,3,4].all λv=>(eZ 16).all λx=>Ma s v x)=bK:=by decide+kernel
theorem AF (a:1<=s)(b:s<=4)(c:1<=v)(d:v<=4)(e:x<16):Ma s v x=bK:=by have:=Mb;rw[jj] at this;have:=this s (AE a b);rw[jj] at this;have:=this v (AE c d);simp only[jj] at this;exact this x (by simpa using e)
noncomputable def De (t:Nat)(d:Int):Int:=if d≠0 then((t:Int)+4-4*d).fmod 16 else 0
noncomputable def yW (d:Int):Int:=if d<0 then-d else d
def Rj (t s v:Nat)(c d:Int)(m:UInt64×UInt64×UInt64):Prop:=∃a b,vZ m.1 m.2.1 m.2.2=aE a/\Aj (gY a.1 (fD 1)) a.2.1 a.2.2=aE b/\
  nK b.1 m.1=bK/\nK b.2.1 m.2.1=bK/\nK b.2.2 m.2.2=bK/\
  (ky (fT (fD 16) a.1) (De t d)==aE .eq)=bK/\Da s v c (yW d) a.2.1 a.2.2=bK
theorem Mc (d:1<=s)(e:s<=4)(a:1<=v)(b:v<=4)(c:k<16):M5 s v k=bK:=by
 have:IM s=bK:=by
  have:=s4 s (j7 ‹s<=4›) ‹1<=s›;rcases this with rfl|rfl|rfl|rfl
  .exact TQ
  .exact TR
  .exact TS
  .exact TT
 unfold IM at this;rw[jj] at this;have:=this v (AE a b);rw[jj] at this;exact this k (by simpa using c)
theorem Hp {t s v x k:Nat}(r:1<=s)(u:s<=4)(e:1<=v)(m:v<=4)(n:x<16)(B:k<16)(G:yW d=1)(o:De t d=x):Rj t s v (2*k+1:Nat) d (D3 (k*h8 s v+(iy s v x).1,k*h8 s v+(iy s v x).2.1,k*h8 s v+(iy s v x).2.2)):=by
 have w:=AF r u e m n;unfold Ma at w;simp only[eB,decide_eq_true_eq] at w;obtain⟨⟨⟨⟨C,H⟩,I⟩,J⟩,L⟩:=w;have M:=TU r u e m n;have y:=Mc r u e m B;have h:h8 s v<=224:=by dsimp only[h8];have:8*v*(8-s)<=32*7:=r7 (ju _ m) (d8 (jY 0x380428390980848704b0a3a rfl r (sC (d8 (gp 0x711008700b0a42 rfl u)))));exact this
 have f:k*h8 s v<=15*224:=r7 (d8 (gp 0x3a0985008700b0a7a rfl B)) h;have N:32*v<=128:=ju 32 m;have c:max (iy s v x).1 (max (iy s v x).2.1 (iy s v x).2.2)-min (iy s v x).1 (min (iy s v x).2.1 (iy s v x).2.2)=8*s*v/\0<8*s*v:=by
  rw[C,H];have:=s4 s (j7 ‹s<=4›) ‹1<=s›;rcases this with rfl|rfl|rfl|rfl
  .exact Xz 24 32 e (b:=8) rfl (dd rfl) (B9 8 v _) rfl
  .exact Xz 16 32 e (b:=16) rfl (dd rfl) (B9 8 v _) rfl
  .exact Xz 8 32 e (b:=24) rfl (dd rfl) (B9 8 v _) rfl
  .exact Xz 0 32 e (b:=32) rfl (dd rfl) (B9 8 v _) rfl
 have p:=IP (kz:=k*h8 s v) (by exact gG (Jw h (c_ I) f)) (by exact gG (Jw h (c_ J) f)) (by exact gG (Jw h (c_ L) f)) (Ot (by rw[c.1];exact c.2)) M
 rw[c.1,C] at p;unfold M5 at y;simp only[eB,bne_iff_ne,ne_eq] at y;obtain⟨⟨⟨⟨P,i⟩,l⟩,D⟩,Q⟩:=y;obtain⟨R,U⟩:=Ri n;have q:(fm (gN (DF (8*s*v)) (DF (k*h8 s v+32*v))) 0==aE .eq)=cu:=by rw[beq_eq_false_iff_ne];exact P
 have W:=Dd (v:=DF (k*h8 s v+32*v)) n R q;refine⟨_,_,p,W,?_⟩;rw[jj] at D;have F:∀g,g<=8->nK (qG (gN (DF (8*s*v)) (DF (k*h8 s v+32*v))) (DF (k*h8 s v+32*v)) g) (DF (k*h8 s v+v*(32-s*g)))=bK:=λg h=>D g (by simp;exact gG (gp 0xe42010e014a rfl h))
 have z:=F (3*x%8) (d8 (gp 0x390985008700b0a42 rfl (ro _ (by decide:8>0))))
 have A:=F (8-3*x%8) (d8 (gp 0x721008700b0a42 rfl (sA ..)));rw[G,o];have a:=dy U Q;dsimp only[iy,D3];generalize Y:gN (DF (8*s*v)) (DF (k*h8 s v+32*v))=S at *;have X:3*x/8<6:=Ff (xV n (dd rfl));generalize 3*x/8=j at *;have:=j6 j X;rcases this with rfl|rfl|rfl|rfl|rfl|rfl
 .exact BM i A l a
 .exact BM z i l a
 .exact BM l i A a
 .exact BM l z i a
 .exact BM A l i a
 .exact BM i l z a
theorem Md (e:1<=s)(f:s<=4)(h:1<=v)(g:v<=4)(i:1<=k)(b:k<=16):Rj t s v (2*k:Nat) 0 (D3 (k*h8 s v,k*h8 s v,k*h8 s v)):=by
 have a:=TN;unfold WO at a;rw[jj] at a;have a:=a s (AE e f);rw[jj] at a;have a:=a v (AE h g);simp only[jj] at a;have a:=a k (by simp;exact j7 b)
 simp only[OU,beq_iff_eq,eB] at a;obtain⟨c,j⟩:=a.resolve_left (fx i);have l:h8 s v<=224:=by dsimp only[h8];have:8*v*(8-s)<=32*7:=r7 (ju _ g) (d8 (jY 0x380428390980848704b0a3a rfl e (sC (d8 (gp 0x711008700b0a42 rfl f)))));exact this
 have d:k*h8 s v<=16*224:=r7 (b) l;have m:Aj (gY 0 (fD 1)) 0 (DF (k*h8 s v))=aE (DF (k*h8 s v),DF (k*h8 s v),DF (k*h8 s v)):=by
  dsimp only[Aj];have:(fm 0 0==aE Ordering.eq)=bK:=by decide+kernel
  rw[if_pos this]
 refine⟨(0,0,DF (k*h8 s v)),_,M9 (fC d (dd rfl)),m,c,c,c,?_,?_⟩
 .show(ky (fT (fD 16) 0) 0==aE .eq)=bK
  decide+kernel
 .exact j
noncomputable def lB (t s v E O:Nat):Nat×Nat×Nat:=let a:=iy s v t;let b:=iy s v ((t+8)%16)
 (E*a.1+O*b.1,E*a.2.1+O*b.2.1,E*a.2.2+O*b.2.2)
theorem TV {t s v E O:Nat}(o:t<16)(j:1<=s)(l:s<=4)(m:1<=v)(n:v<=4)(p:d=(E:Int)-O)(x:d=-1\/d=0\/d=1)(y:1<=E+O)(f:E+O<=32):Rj t s v (E+O:Nat) d (D3 (lB t s v E O)):=by
 have q:=AF j l m n o;unfold Ma at q;simp only[eB,decide_eq_true_eq] at q;obtain⟨⟨⟨⟨z,A⟩,r⟩,u⟩,w⟩:=q;have c:∀(k a b g:Nat),a+b=g->(k+1)*a+k*b=k*g+a/\k*a+(k+1)*b=k*g+b/\k*a+k*b=k*g:=λk a b g h=>by subst h;exact⟨by rw[t9,vn,Bw,kL],by rw[t9,vn,Bw,ic],(Bw k a b).symm⟩
 rcases x with h|h|h
 .have i:O=E+1:=iD (by show(O:Int)=(E:Int)+1;rw[p] at h;rw[<-Int.sub_eq_iff_eq_add',<-Int.neg_sub,h];rfl)
  subst i;have e:lB t s v E (E+1)=(E*h8 s v+(iy s v ((t+8)%16)).1,E*h8 s v+(iy s v ((t+8)%16)).2.1,E*h8 s v+(iy s v ((t+8)%16)).2.2):=by unfold lB;dsimp only[];simp only[(c E _ _ _ r).2.1,(c E _ _ _ u).2.1,(c E _ _ _ w).2.1]
  simp only[e,show E+(E+1)=2*E+1 by exact eC (d8 (gp 0xe6c2804058530a1401 rfl)) (d8 (gp 0xe6142802c29b0a0101 rfl)),h]
  refine Hp j l m n (gG (Js (ro _ (by decide:16>0)))) (gG (gp 0x1c0000000041db0a0101160182 rfl f)) rfl ?_
  dsimp only[De];rw[if_pos (dd rfl),AQ _ (dd rfl)];show((t:Int)+4- -4)%16=_;rw[Gb,Pc];rfl
 .have i:O=E:=(iD (Int.eq_of_sub_eq_zero (p.symm.trans h))).symm
  subst i;have e:lB t s v O O=(O*h8 s v,O*h8 s v,O*h8 s v):=by unfold lB;dsimp only[];simp only[(c O _ _ _ r).2.2,(c O _ _ _ u).2.2,(c O _ _ _ w).2.2]
  simp only[e,show O+O=2*O by exact eC (d8 (gp 0x398080b0a1401 rfl)) (d8 (gp 990661458460929 rfl)),h]
  exact Md j l m n (d8 (gp 0x398080850b0530a01 rfl y)) (d8 (gp 0x1c0000000041d80808b00b0a82 rfl f))
 .have i:E=O+1:=iD (by show(E:Int)=(O:Int)+1;rw[G1,<-p.symm.trans h,B6])
  subst i;have e:lB t s v (O+1) O=(O*h8 s v+(iy s v t).1,O*h8 s v+(iy s v t).2.1,O*h8 s v+(iy s v t).2.2):=by unfold lB;dsimp only[];simp only[(c O _ _ _ r).1,(c O _ _ _ u).1,(c O _ _ _ w).1]
  simp only[e,show O+1+O=2*O+1 by exact eC (d8 (gp 0xe602c28058530a1401 rfl)) (d8 (gp 0xe6142802c2980b0a01 rfl)),h]
  refine Hp j l m n o (gG (gp 0x1c0000000041d80b0a01160182 rfl f)) rfl ?_;dsimp only[De];rw[if_pos (dd rfl),AQ _ (dd rfl)];show((t:Int)+4-4)%16=_;rw[Fp];exact Int.emod_eq_of_lt (lD t) (Int.ofNat_lt.mpr o)
theorem Rk (f:t<16)(h:1<=s)(i:s<=4)(l:1<=v)(m:v<=4)(n:1<=r)(o:r<=6):Aj (gY (gL cu t 16) (gL cu r 2)) (qF s) (qF v)=aE (D3 (iy s v ((t+8*r)%16))):=by
 have b:=TJ;unfold WJ at b;rw[jj] at b;have b:=b t (by simpa using f)
 rw[jj] at b;have p:r∈([1,2,3,4,5,6]:List Nat):=(by decide:∀k<7,1<=k->k∈([1,2,3,4,5,6]:List Nat)) r (j7 o) n
 have b:=b r p;have a:=TL;unfold WM at a;rw[jj] at a;have a:=a s (AE h i);rw[jj] at a;have a:=a v (AE l m);simp only[eB,bne_iff_ne,ne_eq,beq_iff_eq] at a;obtain⟨⟨⟨q,u⟩,w⟩,c⟩:=a;rw[jj] at c;have d:∀g,g<=8->qG (qF s) (qF v) g=DF (v*(32-s*g)):=λg y=>ku (c g (by simp;exact gG (gp 0xe42010e014a rfl y)))
 have e:(t+8*r)%16<16:=ro _ (dd rfl);generalize (t+8*r)%16=x at *;rw[Dd e b (beq_eq_false_iff_ne.mpr q),u,d _ (by exact d8 (gp 0x390985008700b0a42 rfl (ro _ (by decide:8>0)))),d _ (by exact d8 (gp 0x721008700b0a42 rfl (sA ..))),w]
 dsimp only[iy,D3];have z:3*x/8<6:=Ff (xV e (dd rfl));generalize 3*x/8=j at *;have:=j6 j z;rcases this with rfl|rfl|rfl|rfl|rfl|rfl<;>rfl
theorem Rl (a:t<16):(t+8*r)%16=if r%2=0 then t else(t+8)%16:=by
 rw[Pl,show 8*r%16=8*(r%2) from Nat.mul_mod_mul_left 8 r 2,OI a];rcases Nh r with h|h
 .rw[h,if_pos rfl];exact OI a
 .rw[h,if_neg (dd rfl)]
noncomputable def iX (l:List Nat):Nat:=(l.filter (·%2=0)).length
noncomputable def mF (l:List Nat):Nat:=(l.filter (·%2=1)).length
noncomputable def s8 (t s v:Nat)(l:List Nat):V:=match l with
 |[]=>cw [aO 0,aO 0,aO 0]|_=>cw [a_ (DF (lB t s v (iX l) (mF l)).1),a_ (DF (lB t s v (iX l) (mF l)).2.1),a_ (DF (lB t s v (iX l) (mF l)).2.2)]
noncomputable def ag_for:S:=body_agrees.tl.tl.hd
noncomputable def ag_b:Ss:=ag_for.bdy
noncomputable def ag_in:S:=ag_b.tl.hd
noncomputable def Me:Ss:=ag_in.bdy
noncomputable def Mf:Ss:=ag_b.tl.tl
noncomputable def ag_end:Ss:=body_agrees.tl.tl.tl
noncomputable abbrev AM (sizes:List Nat)(W t s v:Nat)(d:Int)(b:V)(a:Nat)(q c e f g h i j k l m n o p:Option V):Mm:=[aE (dQ sizes),aE (aO (W:Nat)),aE (dj [aO (t:Nat),a_ (qF s),a_ (qF v)]),aE (aO d),aE (aO (t:Nat)),aE (a_ (qF s)),aE (a_ (qF v)),aE b,aE (aO (a:Nat)),q,c,e,f,g,h,i,j,k,l,m,n,o,p]
theorem zJ {k:Nat}(h:k<l.length)(a:l.length<=1000):e9 σ (dQ l) (aO k)=aE (aO (l.getD k 0:Nat)):=by
 unfold dQ;rw[iW (by simpa using h) (by simp;exact cx a (ej ..))]
 simp[jx,gK h]
theorem TX {k:Nat}(h:k<=100):fu .Pow (aO 2) (aO (k:Int))=aE (aO ((2 ^ k:Nat):Int)):=by
 show(if(0:Int)<=(k:Int)/\(k:Int)<=1000/\mq 2=bK then aE (aO (2 ^ ((k:Int)).toNat)) else aT)=_
 rw[if_pos ⟨by exact lD _,JD (d8 (gp 0x1c00000000c9c0438058500000001f47 rfl h)),by decide⟩]
 exact rfl
theorem TY {a b:Nat}(h:0<b)(c:b<1000000):fu wm (aO (a:Int)) (aO (b:Int))=aE (aO ((a/b:Nat):Int)):=by
 show(if(b:Int)≠0/\mq (b:Int)=bK then aE (aO ((a:Int).fdiv (b:Int))) else aT)=_
 rw[if_pos ⟨by exact V6 (fx (gG (gp 0x700b0a020e0201 rfl h))),by unfold mq;simp;exact fl c (ej ..)⟩,Ng _ (by exact JD (d8 wq))]
 rfl
theorem WS {a b:Nat}(h:0<b):fu nz (aO (a:Int)) (aO (b:Int))=aE (aO ((a%b:Nat):Int)):=by
 show(if(b:Int)≠0 then aE (aO ((a:Int).fmod (b:Int))) else aT)=_
 rw[if_pos (Int.ofNat_ne_zero.mpr (fx h)),AQ _ (lD _)];rfl
theorem Mg {a:Bool}(A:1<=k)(x:k<sizes.length)(y:sizes.length<=6) (h:Kk de (AM sizes W t s v d i g (aE (aO (c:Nat))) (aE (aO ((fz sizes W c (f,rows,a) k).1:Nat))) (aE (aO ((fz sizes W c (f,rows,a) k).2.1:Nat))) (aE (dB (fz sizes W c (f,rows,a) k).2.2)) (aE (aO (k:Nat))) j l m n o p q r u) σ):dp (ZL lv) Me (AM sizes W t s v d i g (aE (aO (c:Nat))) (aE (aO (f:Nat))) (aE (aO (rows:Nat))) (aE (dB a)) (aE (aO (k:Nat))) j l m n o p q r u) σ Kk:=by
 have B:2 ^ (k-1)<1000000:=fC (y2 (dd rfl) (show k-1<=6 from cx (gZ ..) (cx (eV x) y))) (dd rfl);refine fw (LV A) (fw (TX (cx (gZ ..) (cx (eV x) (cx y (cZ rfl))))) (fw (TY (FC _) B) (fw (WS (b:=2) (dd rfl)) ?_)));have z:=zJ (σ:=σ) x (cx y (cZ rfl));unfold fz at h;by_cases w:c/2 ^ (k-1)%2=1
 .rw[if_pos w] at h
  exact gu (zB (congrArg o8 w)) (jZ z (fw add_i (dy (h9 rfl) h)))
 .rw[if_neg w] at h
  refine gu (zC λh=>w (iD h)) (jZ z (fw add_i ?_));rcases a with _|_
  .exact h
  .have C:∀b,b=decide (f+sizes.getD k 0<=W)->Kk de (AM sizes W t s v d i g (aE (aO (c:Nat))) (aE (aO ((f+sizes.getD k 0:Nat):Int))) (aE (aO (rows:Nat))) (aE (dB b)) (aE (aO (k:Nat))) j l m n o p q r u) σ:=λb e=>by rw[e];exact h
   exact C _ (decide_eq_decide.mpr Int.ofNat_le)
theorem Mh (z:sizes.length<=6){Kk:KO}:∀{l:List Nat} {w:Nat×Nat×Bool} {a:Option V},(∀k∈l,1<=k/\k<sizes.length)->(∀a,A (AM sizes W t s v d e b (aE (aO (c:Nat))) (aE (aO ((l.foldl (fz sizes W c) w).1:Nat))) (aE (aO ((l.foldl (fz sizes W c) w).2.1:Nat))) (aE (dB (l.foldl (fz sizes W c) w).2.2)) a f g j m n o p r u) σ)->om (wD Kk (dp (ZL lv) Me) (cJ 13 y q)) A (l.map λk:Nat=>aO k) (AM sizes W t s v d e b (aE (aO (c:Nat))) (aE (aO (w.1:Nat))) (aE (aO (w.2.1:Nat))) (aE (dB w.2.2)) a f g j m n o p r u) σ:=by
 intro B;induction B with
 |nil=>exact @λw a _ h=>h a
 |cons k l C=>
  exact @λw a x h=>Mg (x k (.head _)).1 (x k (.head _)).2 z (C (w:=fz sizes W c w k) (λi D=>x i (.tail _ D)) h)
theorem EI (l)(r):iX (l++[r])=iX l+(if r%2=0 then 1 else 0):=by
 unfold iX;simp only[Oa,dJ]
 congr 1
 by_cases h:r%2=0<;>simp[h]
theorem IQ (l)(r):mF (l++[r])=mF l+(if r%2=0 then 0 else 1):=by
 unfold mF;simp only[Oa,dJ]
 congr 1
 by_cases h:r%2=0
 .simp[h]
 .have:r%2=1:=eC (d8 (Jr (ro _ (by decide:2>0)))) (d8 (DC (j4 h)))
  simp[this]
theorem Mi:∀l:List Nat,iX l+mF l=l.length:=by
 intro b;induction b with
 |nil=>exact rfl|cons r l a=>
  exact by
   have a:=a;unfold iX mF at *;simp only[pK,pK,j8];by_cases h:r%2=0
   .rw[if_pos (decide_eq_true h),if_neg (by simp[h]),j8,kL,a]
   .rw[if_neg (by simpa using h),if_pos (by simp;exact(Nh r).resolve_left h),j8];exact congrArg Nat.succ a
theorem AG (c:1<=s)(d:s<=4)(e:1<=v)(b:v<=4)(f:x<16):(iy s v x).1<=128/\(iy s v x).2.1<=128/\(iy s v x).2.2<=128:=by have a:=AF c d e b f;unfold Ma at a;simp only[eB,decide_eq_true_eq] at a;have h:=a.1.1.1.1;have m:=cx (c_ h) (ju 32 b);exact⟨cx (r6 ..) m,cx (cx (r6 ..) (q_ ..)) m,cx (cx (q_ ..) (q_ ..)) m⟩
theorem IR (a:t<16)(l):lB t s v (iX (l++[r])) (mF (l++[r]))=((lB t s v (iX l) (mF l)).1+(iy s v ((t+8*r)%16)).1,(lB t s v (iX l) (mF l)).2.1+(iy s v ((t+8*r)%16)).2.1,(lB t s v (iX l) (mF l)).2.2+(iy s v ((t+8*r)%16)).2.2):=by
 simp only[EI,IQ,Rl a];unfold lB;by_cases h:r%2=0
 .simp only[if_pos h,mR,t9,vn]
  simp only[kL]
 .simp only[if_neg h,mR,t9,vn,ic]
theorem Rm {t s v E O:Nat}(j:t<16)(d:1<=s)(e:s<=4)(f:1<=v)(i:v<=4)(h:E+O<=32):(lB t s v E O).1<=4096/\(lB t s v E O).2.1<=4096/\(lB t s v E O).2.2<=4096:=by
 refine dN (AG d e f i j) λk l m=>?_;obtain⟨n,p,q⟩:=AG d e f i (show(t+8)%16<16 by exact gG (Js (ro _ (by decide:16>0))))
 have c:∀{a b:Nat},a<=128->b<=128->E*a+O*b<=4096:=λ{a b} r u=>by have w:=ju E r;have x:=ju O u;exact cx (eT w x) (cx (c_ (t9 ..).symm) (Fc 128 h))
 exact n5 (c k n) (c l p) (c m q)
theorem TZ:fD 0=DF 0:=by decide+kernel
theorem Mj:1<=(nF sizes W c).2.1/\(nF sizes W c).2.1<=1+(sizes.length-1):=by
 have:∀(l:List Nat) (w:Nat×Nat×Bool),w.2.1<=(l.foldl (fz sizes W c) w).2.1/\(l.foldl (fz sizes W c) w).2.1<=w.2.1+l.length:=by
  intro l;induction l with
  |nil=>intro w;simp|cons k l a=>
   intro w;obtain⟨b,d⟩:=a (fz sizes W c w k);have:(fz sizes W c w k).2.1=w.2.1\/(fz sizes W c w k).2.1=w.2.1+1:=by unfold fz;split<;>simp
   simp only[pL,j8];have f:w.2.1<=(fz sizes W c w k).2.1:=this.elim (λe=>c_ e.symm) λe=>eV (yi (jG _) e.symm);have h:(fz sizes W c w k).2.1<=w.2.1+1:=this.elim (λe=>kM (c_ e)) c_;exact⟨cx f b,cx d (cx (oT h _) (c_ (kL _ 1 _)))⟩
 have:=this (gO 1 (sizes.length-1)) (sizes.getD 0 0,1,bK);simp only[pF] at this;exact this
section
variable {σ:Sg}{lv:Nat}{sizes:List Nat}
theorem Rn (j:t<16)(p:1<=s)(u:s<=4)(w:1<=v)(C:v<=4)(H:l.length<=32){K:List V->Sg->Prop} {step:V->List V->Sg->(List V->Sg->Prop)->Prop} (d:∀x y z b k,b.length<=1000->fu eL x y=aE z->k (b++[z]) σ->step (dj [x,y]) b σ k) (h:∀q,s8 t s v (l++[r])=cw q->K q σ):∀f,s8 t s v l=cw f->lW step K (l7 (λx y=>dj [x,y]) f [a_ (D3 (iy s v ((t+8*r)%16))).1,a_ (D3 (iy s v ((t+8*r)%16))).2.1,a_ (D3 (iy s v ((t+8*r)%16))).2.2]) [] σ:=by
 intro f e;obtain⟨D,F,G⟩:=AG p u w C (show(t+8*r)%16<16 by exact gG (Js (ro _ (by decide:16>0))))
 obtain⟨I,J,L⟩:=Rm j p u w C (show iX l+mF l<=32 by rw[Mi];exact H)
 have M:s8 t s v (l++[r])=cw [a_ (DF (lB t s v (iX (l++[r])) (mF (l++[r]))).1),a_ (DF (lB t s v (iX (l++[r])) (mF (l++[r]))).2.1),a_ (DF (lB t s v (iX (l++[r])) (mF (l++[r]))).2.2)]:=by rcases l with _|_<;>rfl
 have h:=h _ M;rw[IR j] at h;cases l with
 |nil=>
  cases e
  have N:lB t s v (iX []) (mF [])=(0,0,0):=by simp[lB,iX,mF]
  rw[N] at h;simp only[iH] at h;have a:∀{n:Nat},n<=128->fu eL (aO 0) (a_ (DF n))=aE (a_ (DF n)):=λ{n} i=>by
   show(if kH 0 then aE (a_ (gY (fD 0) (DF n))) else aT)=_
   rw[if_pos (by decide),TZ,M7 (by exact gG (gp 0x1c0000000101c0439808100000008667 rfl i)),iH]
  simp only[l7,lW];exact d _ _ _ _ _ (eW _) (a D) (d _ _ _ _ _ (ek _) (a F) (d _ _ _ _ _ (ej ..) (a G) h))
 |cons c l=>
  cases e
  have a:∀{m n:Nat},m<=4096->n<=128->fu eL (a_ (DF m)) (a_ (DF n))=aE (a_ (DF (m+n))):=λ{m n} P i=>by rw[Hh,M7 (by exact gG (jY 0xe0000000080e021c0000002001c2439808480000008667 rfl i P))]
  simp only[l7,lW];exact d _ _ _ _ _ (eW _) (a I D) (d _ _ _ _ _ (ek _) (a J F) (d _ _ _ _ _ (ej ..) (a L G) h))
theorem Hq (h:0<b)(c:t5 (gL cu a b)=cu):fu ny (aO (a:Int)) (aO (b:Int))=aE (a_ (gL cu a b)):=by
 have e:(decide ((a:Int)<0) != decide ((b:Int)<0))=cu:=by rw[decide_eq_false (by exact Int.not_lt.mpr (JD (d8 wq))),decide_eq_false (by exact Int.not_lt.mpr (JD (d8 wq)))];rfl
 show(if(b:Int)≠0/\t5 (gL (decide ((a:Int)<0) != decide ((b:Int)<0)) (a:Int).natAbs (b:Int).natAbs)=cu then aE (a_ (gL (decide ((a:Int)<0) != decide ((b:Int)<0)) (a:Int).natAbs (b:Int).natAbs)) else aT)=_
 rw[e,B7,B7,if_pos ⟨by exact V6 (fx (gG (gp 0x700b0a020e0201 rfl h))),c⟩]
theorem WT:∀t<16,t5 (gL cu t 16)=cu:=by decide+kernel
theorem Yg:∀r<7,t5 (gL cu r 2)=cu:=by decide+kernel
def Ev (lv:Nat)(M:Mm)(σ:Sg)(e:E)(v:V):Prop:=∀K:KV,K v σ->j_ (ZL lv) e M σ K
section
variable {K:KO}{o:KV}{g A B:Ss}
theorem Ev.loc (h:M[i]?=aE (aE u)):Ev lv M σ (aS i nm p) u:=λ_=>CV h
theorem Ev.int:Ev lv M σ (bO (.int j) k p) (aO j):=λ_ h=>h
theorem Ev.bin (c:Ev lv M σ a x)(d:Ev lv M σ b y)(h:fu e x y=aE u):Ev lv M σ (cA e a b p) u:=λ_ f=>c _ (d _ (Ii h f))
theorem Ev.sub (c:Ev lv M σ a x)(d:Ev lv M σ b y)(h:e9 σ x y=aE u):Ev lv M σ (cX a b p) u:=λ_ e=>c _ (d _ (Ii h e))
theorem Mk (d:Ev lv M σ a x)(e:Ev lv M σ b y)(f:Ev lv M σ c z)(h:(ZL lv).spec k [x,y,z] σ o):j_ (ZL lv) (di k q (bE a (bE b (bE c bV))) p) M σ o:=d _ (e _ (f _ h))
theorem Df (h:j_ (ZL lv) a M σ λv σ=>dp (ZL lv) g (M.set i (aE v)) σ K):dp (ZL lv) (bS (cR (cJ i nm q) a p) g) M σ K:=h
theorem Yh (a:M[i]?=aE (aE (dB bK)))(h:dp (ZL lv) A M σ (qm K (dp (ZL lv) g))):dp (ZL lv) (bS (dA (jf (aS i nm q)) A B p) g) M σ K:=CV (lv:=lv) (x:=nm) (p:=q) a h
end
theorem Dh (a:1<=lv){K:V->Sg->Prop}(e:Aj h s v=aE p)(k:K (nG p) σ):(ZL lv).spec 20 [a_ h,a_ s,a_ v] σ K:=⟨a,_,_,_,rfl,Ii e k⟩
theorem Di (h:l.length<=1000000):s7 lv σ (dQ l)=aE (l.length:Int):=by unfold s7 uu dQ;simp only[eE,h,if_true]
theorem Ml (X:1<=lv)(I:t<16)(N:1<=s)(P:s<=4)(Q:1<=v)(R:v<=4)(J:l.length<=32){f:Bool}(Y:1<=r)(U:r<=6){K:Out->Mm->Sg->Prop} (h:∀a,K de (AM sizes W t s v d (s8 t s v (l++(if f then[r] else[]))) (l++(if f then[r] else[])).length (aE (aO (c:Nat))) e (aE (aO (r:Nat))) (aE (dB f)) i a j m n p u w C D) σ):dp (ZL lv) Mf (AM sizes W t s v d (s8 t s v l) l.length (aE (aO (c:Nat))) e (aE (aO (r:Nat))) (aE (dB f)) i a j m n p u w C D) σ K:=by
 rcases f with _|_
 .have h:∀a,K de (AM sizes W t s v d (s8 t s v (l++[])) (l++[]).length (aE (aO (c:Nat))) e (aE (aO (r:Nat))) (aE (dB cu)) i a j m n p u w C D) σ:=h
  rw[ib] at h;exact h _
 .have h:∀a,K de (AM sizes W t s v d (s8 t s v (l++[r])) (l++[r]).length (aE (aO (c:Nat))) e (aE (aO (r:Nat))) (aE (dB bK)) i a j m n p u w C D) σ:=h
  obtain⟨H,G⟩:∃H,s8 t s v l=cw H:=by rcases l with _|_<;>exact⟨_,rfl⟩
  have Z:=λ{K:List V->Sg->Prop} {F} hs L=>Rn (σ:=σ) (K:=K) (step:=F) (l:=l) (r:=r) I N P Q R J hs L H G;rw[G]
  have M:Ev lv (AM sizes W t s v d (cw H) l.length (aE (aO (c:Nat))) e (aE (aO (r:Nat))) (aE (dB bK)) i a j m n p u w C D) σ (cA eL (cA ny (aS 4 "tint" (pp 0)) (bO (.int 16) 0 (pp 0)) (pp 0)) (cA ny (aS 11 "rows" (pp 0)) (bO (.int 2) 0 (pp 0)) (pp 0)) (pp 0)) (a_ (gY (gL cu t 16) (gL cu r 2))):=
   .bin (.bin (.loc rfl) .int (Hq (b:=16) (dd rfl) (WT t I))) (.bin (.loc rfl) .int (Hq (b:=2) (dd rfl) (Yg _ (fC U (dd rfl))))) Hh
  refine Yh rfl (Df (Mk M (.loc rfl) (.loc rfl) (Dh X (Rk I N P Q R Y (cx U (cZ rfl))) (Z (λx y z a0 k ha hz L=>fw hz (dy ha L)) (λq hq=>fw add_i (dy (h9 rfl) ?_))))));have:=h (aE (nG (D3 (iy s v ((t+8*r)%16)))));rw[hq,dJ] at this;exact this
theorem Ro (F:1<=lv)(C:1<=sizes.length)(z:sizes.length<=6)(G:t<16)(H:1<=s)(I:s<=4)(J:1<=v)(L:v<=4)(D:l.length<=32){K:Out->Mm->Sg->Prop} (h:∀e f i b a,K de (AM sizes W t s v d (s8 t s v (l++(if(nF sizes W c).2.2 then[(nF sizes W c).2.1] else[]))) (l++(if(nF sizes W c).2.2 then[(nF sizes W c).2.1] else[])).length (aE (aO (c:Nat))) e f i b a j m n p q r u x) σ):dp (ZL lv) ag_b (AM sizes W t s v d (s8 t s v l) l.length (aE (aO (c:Nat))) e f i b a j m n p q r u x) σ K:=by
 obtain⟨M,N⟩:=Mj (sizes:=sizes) (W:=W) (c:=c);have P:(nF sizes W c).2.1<=6:=cx N (cx (c_ (pC C)) z);have Q:=zJ (σ:=σ) (k:=0) (l:=sizes) C (cx z (cZ rfl));have y:sizes.length<=1000000:=cx z (cZ rfl);have R:om (wD (qm K (dp (ZL lv) Mf)) (dp (ZL lv) Me) ag_in.tgt) (Pr (qm K (dp (ZL lv) Mf)) (dp (ZL lv) ag_in.els)) (gz ((1:Nat):Int) sizes.length) (AM sizes W t s v d (s8 t s v l) l.length (aE (aO (c:Nat))) (aE (aO (sizes.getD 0 0:Nat))) (aE (aO (1:Nat))) (aE (dB bK)) b a j m n p q r u x) σ:=by rw[lz];exact Mh z (w:=(sizes.getD 0 0,1,bK)) (λk U=>by have:=List.mem_range'_1.mp U;rw[pC C] at this;exact this) λX=>Ml F G H I J L D M P λa=>h _ _ _ _ _
 exact jZ Q (dy (h9 rfl) (K_ (Di y) (dy (dy (cZ rfl) y) R)))
end
set_option exponentiation.threshold 3000
theorem Rp (G:1<=lv)(H:1<=sizes.length)(I:sizes.length<=6)(J:t<16)(L:1<=s)(M:s<=4)(N:1<=v)(P:v<=4):∀{j l:List Nat} {m a b e f g:Option V},l.length+j.length<=32->(∀m a b e f g,Q (AM sizes W t s v d (s8 t s v (l++j.filterMap λc=>if(nF sizes W c).2.2 then aE (nF sizes W c).2.1 else aT)) (l++j.filterMap λc=>if(nF sizes W c).2.2 then aE (nF sizes W c).2.1 else aT).length m a b e f g n o p r u w x z) σ)->om (wD Kk (dp (ZL lv) ag_b) (cJ 9 y q)) Q (j.map λk:Nat=>aO k) (AM sizes W t s v d (s8 t s v l) l.length m a b e f g n o p r u w x z) σ:=by
 intro R;induction R with
 |nil=>
  exact @λl m a b e f g _ h=>by have:=h m a b e f g;rw[List.filterMap_nil,ib] at this;exact this
 |cons c j U=>
  exact @λl m a b e f g i h=>by
   refine Ro G H I J L M N P (AW i) λX Y Z a0 a1=>?_;have i:l.length+1+j.length<=32:=by rw[kL];exact i
   refine U (l:=l++(if(nF sizes W c).2.2 then[(nF sizes W c).2.1] else[])) (cx (oT (by rw[dJ];exact eY (by split<;>exact cZ rfl) _) _) i) λz9 A B C D F=>?_
   have:=h z9 A B C D F;rw[uU] at this;revert this;rcases(nF sizes W c).2.2 with _|_
   .intro this
    rw[if_neg dF,ib];exact this
   .intro this
    rw[if_pos rfl,j5];exact this
theorem Mn:∀m<6,∀k<6,1<=k->k<=m->(2 ^ m-1)/2 ^ (k-1)%2=1:=by decide+kernel
theorem Rq (d:1<=sizes.length)(f:sizes.length<=6):kJ sizes W≠[]:=by
 have b:(nF sizes W (2 ^ (sizes.length-1)-1)).2.2=bK:=by
  have:∀(l:List Nat) (w:Nat×Nat×Bool),(∀k∈l,1<=k/\k<=sizes.length-1)->w.2.2=bK->(l.foldl (fz sizes W (2 ^ (sizes.length-1)-1)) w).2.2=bK:=by
   intro l;induction l with
   |nil=>intro w _ h;exact h|cons k l j=>
    intro w c m;rw[pL];refine j _ (λi n=>c i (by simp[n])) ?_
    have a:=c k (.head _);unfold fz;rw[if_pos (Mn _ (by exact gG (jY 0x719008700b0a090e0932 rfl f (sC (d8 (BP d))))) k (by exact gG (iP 0x719008700b0a090e09110e1132 rfl f (sC (d8 (BP d))) a.2)) a.1 a.2)]
    exact m
  exact this _ _ (λk c=>by have:=List.mem_range'_1.mp c;exact⟨d8 (BP this.1),d8 (jY 0x1cc242985008700b0a09 rfl this.2)⟩) rfl
 intro e;have g:(nF sizes W (2 ^ (sizes.length-1)-1)).2.1∈kJ sizes W:=by
  unfold kJ;rw[List.mem_filterMap];refine⟨2 ^ (sizes.length-1)-1,?_,by rw[b,if_pos rfl]⟩
  rw[P5];have:=FC (sizes.length-1);exact BB (by assumption) (dd rfl)
 rw[e] at g;cases g
theorem T_ (m:1<=lv)(j:1<=sizes.length)(a:sizes.length<=6)(n:t<16)(o:1<=s)(p:s<=4)(q:1<=v)(r:v<=4) (h:∀u b c e f g,dp (ZL lv) ag_end (AM sizes W t s v d (s8 t s v (kJ sizes W)) (kJ sizes W).length u b c e f g aT aT aT aT aT aT aT aT) σ Kk):dp (ZL lv) body_agrees [aE (dQ sizes),aE (aO (W:Nat)),aE (dj [aO (t:Nat),a_ (qF s),a_ (qF v)]),aE (aO d),aT,aT,aT,aT,aT,aT,aT,aT,aT,aT,aT,aT,aT,aT,aT,aT,aT,aT,aT] σ Kk:=by
 have k:2 ^ (sizes.length-1)<=32:=cx (y2 (dd rfl) (show sizes.length-1<=5 from NV a)) (dd rfl);have i:sizes.length<=1000000:=cx a (cZ rfl);have w:om (wD (qm Kk (dp (ZL lv) ag_end)) (dp (ZL lv) ag_b) ag_for.tgt) (Pr (qm Kk (dp (ZL lv) ag_end)) (dp (ZL lv) ag_for.els)) (gz ((0:Nat):Int) ((2 ^ (sizes.length-1):Nat):Int)) (AM sizes W t s v d (s8 t s v []) 0 aT aT aT aT aT aT aT aT aT aT aT aT aT aT) σ:=by rw[lz,yx,<-List.range_eq_range'];exact Rp m j a n o p q r (l:=[]) (by rw[v5];exact cx (c_ (iH _)) k) h
 exact dy (h9 rfl) (dy (h9 rfl) (K_ (Di i) (fw (LV j) (fw (TX (cx (gZ ..) (cx a (cZ rfl)))) (dy (cx k (cZ rfl)) w)))))
theorem EJ (h:kH b=bK):fu gk (a_ a) (aO b)=aE (a_ (fT a (fD b))):=by
 show(if kH b then aE (a_ (fT a (fD b))) else aT)=_
 rw[if_pos h]
theorem U0 (h:kH b=bK):fu gk (aO b) (a_ a)=aE (a_ (fT (fD b) a)):=by
 show(if kH b then aE (a_ (fT (fD b) a)) else aT)=_
 rw[if_pos h]
theorem U1 (h:kH b=bK):fu eL (a_ a) (aO b)=aE (a_ (gY a (fD b))):=by
 show(if kH b then aE (a_ (gY a (fD b))) else aT)=_
 rw[if_pos h]
theorem U2 (h:kH b=bK):fu nv (aO b) (a_ a)=aE (a_ (eP (fD b) a)):=by
 show(if kH b then aE (a_ (eP (fD b) a)) else aT)=_
 rw[if_pos h]
theorem U3 (h:kH b=bK)(c:b≠0):fu ny (a_ a) (aO b)=aE (a_ (gN a (fD b))):=by
 show(if kH b=bK/\b≠0 then aE (a_ (gN a (fD b))) else aT)=_
 rw[if_pos ⟨h,c⟩]
theorem EK (h:b.natAbs<2 ^ 40):kH b=bK:=by unfold kH;simp only[decide_eq_true_eq];exact fl h (y2 (dd rfl) (dd rfl))
theorem lt_if:gq .Lt σ (aO a) (a_ b)=aE (ky b a==aE .gt):=rfl
theorem lt_fi:gq .Lt σ (a_ a) (aO b)=aE (ky a b==aE .lt):=rfl
theorem ne_i:gq iu σ (aO a) (aO b)=aE (decide (a≠b)):=by
 show A5 σ _ _=_;rw[QG]
 congr 1
 by_cases h:a=b<;>simp[h]
theorem U4 (h:b≠0):fu nz (aO a) (aO b)=aE (aO (a.fmod b)):=by
 show(if b≠0 then aE (aO (a.fmod b)) else aT)=_
 rw[if_pos h]
theorem U5 (h:mq a=bK):fu gk (aO a) (aO b)=aE (aO (a*b)):=by
 show(if mq a=bK then aE (aO (a*b)) else aT)=_
 rw[if_pos h]
theorem Mo (h:Kk (aO (yW a)) σ):(ZL lv).spec 2 [aO a] σ Kk:=h
theorem U6 (d:(ky a i==aE .eq)=bK)(g:(fm b e==aE .eq)=bK)(j:(fm c f==aE .eq)=bK):gq .Eq σ (cw [a_ a,a_ b,a_ c]) (cw [aO i,a_ e,a_ f])=aE bK:=by
 show yO σ _ _=_;unfold yO;rw[if_neg]
 .show(if wQ [a_ a,a_ b,a_ c] [aO i,a_ e,a_ f] then aE bK else aT)=_
  rw[if_pos];refine(?_:((ky a i==aE .eq)&&((fm b e==aE .eq)&&((fm c f==aE .eq)&&bK)))=bK);rw[d,g,j];rfl
 .intro h
  have d:=h.1;unfold hZ at d;rw[eB] at d;exact absurd d.1 (λh=>dG h)
set_option exponentiation.threshold 3000
noncomputable def ag_e4:Ss:=ag_end.tl.tl.tl
noncomputable def S.rhs:S->E
 |cR _ e _=>e|dT e _=>e|_=>ll 0 (pp 0)
theorem Ev.abs (h:M[i]?=aE (aE (aO d))):Ev lv M σ (di 2 q (bE (aS i nm p) bV) r) (aO (yW d)):=λ_ a=>CV (lv:=lv) (x:=nm) (p:=p) h (Mo (lv:=lv) a)
theorem Ev.lst3 (d:Ev lv M σ a x)(e:Ev lv M σ b y)(f:Ev lv M σ c z):Ev lv M σ (dM cu (bE a (bE b (bE c bV))) p) (cw [x,y,z]):=λ_ g=>d _ (e _ (f _ (dy (h9 rfl) g)))
theorem Ev.cmp (c:Ev lv M σ a x)(d:Ev lv M σ b y)(h:gq e σ x y=aE r):Ev lv M σ (gh e a b p) (dB r):=λ_ f=>c _ (d _ (Ii h f))
theorem Yi (h:j_ (ZL lv) a M σ λv σ=>Kk (dH v) M σ):dp (ZL lv) (bS (dT a p) b) M σ Kk:=h
theorem flt_item:e9 σ (nG (a,b,c)) (aO 0)=aE (a_ a)/\e9 σ (nG (a,b,c)) (aO 1)=aE (a_ b)/\e9 σ (nG (a,b,c)) (aO 2)=aE (a_ c):=⟨rfl,rfl,rfl⟩
theorem IS:e9 σ (cw [a,b,c]) (aO 0)=aE a/\e9 σ (cw [a,b,c]) (aO 1)=aE b/\e9 σ (cw [a,b,c]) (aO 2)=aE c:=⟨rfl,rfl,rfl⟩
theorem Mp (I:d=-1\/d=0\/d=1)(U:t<16)(H:a<=32)(x:(ky (fT (fD 16) c.1) (De t d)==aE .eq)=bK)(b:Da s v (a:Nat) (yW d) c.2.1 c.2.2=bK) (g:∀M,Kk (dH (dB bK)) M σ):dp (ZL lv) ag_e4 (AM sizes W t s v d j a A k l m n o (aE (nG c)) p e y q r u w) σ Kk:=by
 obtain⟨B,C,D⟩:=c;unfold Da at b;simp only[eB,beq_iff_eq] at b;obtain⟨⟨J,L⟩,N⟩:=b;have F:∀i:Int,i.natAbs<=100->kH i=bK:=λi h=>EK (fC h (dd rfl));have f:(yW d).natAbs<=1:=by unfold yW;rcases I with rfl|rfl|rfl<;>decide
 have G:((a:Int)-yW d).natAbs<=100:=cx (Og ..) (cx (eT H f) (cZ rfl))
 have P:Ev lv (AM sizes W t s v d j a A k l m n o (aE (nG (B,C,D))) p e y q r u w) σ ag_e4.hd.rhs (a_ (D9 s v (a:Nat) (yW d))):=
  .bin (.loc rfl) (.bin (.loc rfl) (.bin (.bin (.loc rfl) (.bin (.loc rfl) (.abs (i:=3) rfl) zy) (EJ (F _ G))) .int (U3 (dd rfl) (dd rfl))) (U2 (F _ (cx H (cZ rfl))))) xF
 have Q:∀{e},Ev lv (AM sizes W t s v d j a A k l m n o (aE (nG (B,C,D))) p e y q r u w) σ ag_e4.tl.hd.rhs (aO (De t d)):=λ{e} Kk g=>by
  unfold De at g;by_cases z:d=0
  .rw[if_neg (λh=>h z)] at g
   exact gu (ne_i.trans (congrArg aE (decide_eq_false λh=>h z))) g
  .rw[if_pos z] at g
   exact gu (ne_i.trans (congrArg aE (decide_eq_true z))) (fw add_i (fw (U5 (dd rfl)) (fw zy (fw (U4 (dd rfl)) g))))
 have R:Ev lv (AM sizes W t s v d j a A k l m n o (aE (nG (B,C,D))) p (aE (a_ (D9 s v (a:Nat) (yW d)))) (aE (aO (De t d))) q r u w) σ ag_e4.tl.tl.hd.rhs (dB bK):=
  .cmp (.lst3 (.bin .int (.sub (.loc rfl) .int flt_item.1) (U0 (dd rfl))) (.sub (.loc rfl) .int flt_item.2.1) (.sub (.loc rfl) .int flt_item.2.2)) (.lst3 (.loc rfl) (.bin (.bin (.bin (.loc rfl) (.loc rfl) xF) (.abs (i:=3) rfl) (EJ (F _ (cx f (cZ rfl))))) (.loc rfl) (zD J)) (.loc rfl)) (U6 x (by rw[L];rfl) (by rw[N];rfl))
 exact Df (P _ (Df (Q _ (Yi (R _ (g _))))))
set_option exponentiation.threshold 3000
noncomputable def T.fst:T->E
 |dx _ a _ _=>a|_=>ll 0 (pp 0)
noncomputable def E.arg0:E->E
 |di _ _ (bE a _) _=>a|_=>ll 0 (pp 0)
noncomputable def E.cnd:E->Ts
 |eS _ _ _ c _ _ _ _=>c|_=>.nil
noncomputable def Ts.tst:Ts->T
 |.one t=>t|.nil=>jf (ll 0 (pp 0))
noncomputable def S.cnd:S->T
 |dA t _ _ _=>t|_=>jf (ll 0 (pp 0))
section
variable {lv:Nat}{M H:Mm}{σ:Sg}{a b c:E}{x y z u:V}{p q:Pos}{i k:Nat}{Kk:KV}{B:KB}{L:KL}{w J:jr}{r:Bool}
theorem WU (l:Ev lv M σ a x)(m:Ev lv M σ b y)(hc:Ev lv M σ c z)(h1:gq w σ x y=aE bK)(h2:gq J σ y z=aE r)(hk:B r σ):HA (ZL lv) (rS w J a b c p) M σ B:=l _ (m _ (gu h1 (hc _ (gu h2 hk))))
theorem Ev.m1:Ev lv M σ (gB (bO (.int 1) k p) q) (aO (-1)):=λ_ l=>l
theorem Mq (hM:iR tg x (Dz m M)=aE H)(ht:∀B:KB,B bK σ->uh (ZL lv) tc H σ B)(he:Ev lv H σ e v)(ha:l.length<=1000)(hk:L (l++[v]) σ):wt M (j_ (ZL lv) e) (uh (ZL lv) tc) tg m x l σ L:=by unfold wt;rw[hM];exact ht _ (he _ ⟨ha,hk⟩)
theorem U7 (h1:iR m x1 (Dz l M)=aE M1)(h2:iR m x2 (Dz l M)=aE M2)(h3:iR m x3 (Dz l M)=aE M3) (t1:∀B:KB,B bK σ->uh (ZL lv) tc M1 σ B) (t2:∀B:KB,B bK σ->uh (ZL lv) tc M2 σ B) (t3:∀B:KB,B bK σ->uh (ZL lv) tc M3 σ B) (e1:Ev lv M1 σ e v1) (e2:Ev lv M2 σ e v2) (e3:Ev lv M3 σ e v3) (hk:Kk (cw [v1,v2,v3]) σ):BV Kk M (j_ (ZL lv) e) (uh (ZL lv) tc) m l [x1,x2,x3] σ:=Mq h1 t1 e1 (eW _) (Mq h2 t2 e2 (h9 rfl) (Mq h3 t3 e3 (h9 rfl) hk))
theorem Yj {l r:List V}(m:Ev lv M σ a x)(hb:Ev lv M σ b y)(hx:oj x=aE l)(hy:oj y=aE r)(hk:L (l7 (λx y=>dj [x,y]) l r) σ):JJ (ZL lv) (qc q a b p) M σ L:=m _ (hb _ (by unfold wA;rw[hx,hy];exact hk))
theorem WV (h:j_ (ZL lv) a M σ λv σ=>(ZL lv).spec k [v] σ Kk):j_ (ZL lv) (di k q (bE a bV) p) M σ Kk:=h
theorem Mr (l:1<=lv){r g b:UInt64}{p:UInt64×UInt64×UInt64}(e:vZ r g b=aE p)(k:Kk (nG p) σ):(ZL lv).spec 19 [a_ r,a_ g,a_ b] σ Kk:=⟨l,_,_,_,rfl,Ii e k⟩
theorem Yk {t:T}{m l:Ss}{Kk:KO}(ht:∀B:KB,B cu σ->HA (ZL lv) t M σ B)(h:dp (ZL lv) l M σ Kk):dp (ZL lv) (bS (dA t m cy p) l) M σ Kk:=ht _ h
end
section
variable {C:Fx}{Kk:i9}{A:et}{Ee:b_->cz->Prop}{Z:cz}{ρ:Own}{σ:Sg}{n lv:Nat}{I:List b_}{vs:List V}{KK:V->Sg->Prop}
variable {sizes:List Nat}{W t s v f:Nat}{d:Int}{h:V}{F o N G D j g e Y X P U R Q:Option V}
theorem Yl {Kk:V->Sg->Prop}(h:Kk (aO 3) σ):(ZL lv).spec 0 [cw [a,b,c]] σ Kk:=⟨_,rfl,h⟩
theorem WW:fu .Pow (aO 2) (aO 30)=aE (aO (2 ^ 30)):=TX (k:=30) (dd rfl)
theorem xJ (m:M[21]?=aE (aE (a_ x)))(hy:M[22]?=aE (aE (a_ y)))(l:nK x y=bK)(B:KB)(hB:B bK σ):HA (ZL lv) ag_end.tl.tl.hd.cnd.fst.arg0.cnd.tst M σ B:=by unfold nK at l;rw[eB] at l;exact WU .m1 (.bin (.bin (.loc m) (.loc hy) qk) (.bin .int .int WW) (EJ (dd rfl))) .int (lt_if.trans (congrArg aE l.1)) (lt_fi.trans (congrArg aE l.2)) hB
theorem IT (hl:1<=lv)(hd:d=-1\/d=0\/d=1)(ht:t<16)(hw:f<=32){m:UInt64×UInt64×UInt64}(he:Rj t s v (f:Nat) d m){Kk:Out->Mm->Sg->Prop} (hk:∀M,Kk (dH (dB bK)) M σ):dp (ZL lv) ag_end (AM sizes W t s v d (cw [a_ m.1,a_ m.2.1,a_ m.2.2]) f F o N G D j g e Y X P U R Q) σ Kk:=by
 obtain⟨l,a1,a2,a3,c1,c2,c3,a4,a0⟩:=he;obtain⟨l0,l1,l2⟩:=IS (σ:=σ) (a:=a_ m.1) (b:=a_ m.2.1) (c:=a_ m.2.2);have t0:e9 σ (nG l) (aO 0)=aE (a_ l.1):=rfl;have t1:e9 σ (nG l) (aO 1)=aE (a_ l.2.1):=rfl;have t2:e9 σ (nG l) (aO 2)=aE (a_ l.2.2):=rfl;have a5:∀B:KB,B cu σ->HA (ZL lv) ag_end.tl.tl.hd.cnd (AM sizes W t s v d (cw [a_ m.1,a_ m.2.1,a_ m.2.2]) f F o N G D j (aE (nG l)) (aE (nG a1)) Y X P U R Q) σ B:=λB hB=>WV (Yj (.loc rfl) (.loc rfl) rfl rfl (U7 rfl rfl rfl (xJ rfl rfl c1) (xJ rfl rfl c2) (xJ rfl rfl c3) (.loc rfl) (.loc rfl) (.loc rfl) (Yl hB)))
 exact Df (Mk (.sub (.loc rfl) .int l0) (.sub (.loc rfl) .int l1) (.sub (.loc rfl) .int l2) (Mr hl a2 (Df (Mk (.bin (.sub (.loc rfl) .int t0) .int (U1 (dd rfl))) (.sub (.loc rfl) .int t1) (.sub (.loc rfl) .int t2) (Dh hl a3 (Yk a5 (Mp hd ht hw a4 a0 hk)))))))
theorem Ms (F:FN C Kk)(a5:m5 C n (ZL lv) p7 oU)(h:qq (lv+1) 18 vs σ KK)(rs:Rels ρ Z.heap I vs)(st:St C ρ σ Z)(hA:Room (n+10) A):Calls C A 277 I ρ Z KK Ee:=by
 obtain⟨h2,sizes,W,t,s,v,d,rfl,h1,h6,ht,s1,s2,v1,v2,hd,a1,hk⟩:=h;have hl:1<=lv:=pz h2;refine eF (F 21) λfd a6=>gH a5 a6 (r:=19) (tr:=cu) rfl ?_ rs st (hA.le (eY (dd rfl) _));refine T_ hl h1 h6 ht s1 s2 v1 v2 λF o N G D j=>?_;have a2:=Rq (W:=W) h1 h6;have m:(kJ sizes W).length<=32:=by
  unfold kJ;have:=F3 (λc=>if(nF sizes W c).2.2 then aE (nF sizes W c).2.1 else aT) (eZ (2 ^ (sizes.length-1)))
  rw[v5] at this;have hp:2 ^ (sizes.length-1)<=32:=cx (y2 (dd rfl) (show sizes.length-1<=5 by exact d8 (jY 0x38c804380585048704b0a2a rfl h6 (sC (d8 (BP h1)))))) (dd rfl)
  exact d8 (jY 0x1c0000000041c0438042438258500000000107 rfl hp this)
 have a4:d=(iX (kJ sizes W):Int)-mF (kJ sizes W):=hd;generalize kJ sizes W=l at *;have a0:=Mi l;have a3:1<=l.length:=List.length_pos_iff.mpr a2;have he:=TV (E:=iX l) (O:=mF l) ht s1 s2 v1 v2 a4 a1 (d8 (iP 0x1cc44240438042838298531109 rfl (c_ a0.symm) a3)) (d8 (iP 0x700000000107010e01622121cc44258500000000107 rfl m (c_ a0)));rw[a0] at he;have em:s8 t s v l=cw [a_ (D3 (lB t s v (iX l) (mF l))).1,a_ (D3 (lB t s v (iX l) (mF l))).2.1,a_ (D3 (lB t s v (iX l) (mF l))).2.2]:=by
  induction l with
  |nil=>exact absurd rfl a2|cons a b=>rfl
 rw[em];exact IT hl a1 ht m he λ_=>hk
end
theorem Zb:∀k<21,k=0\/k=1\/k=2\/k=3\/k=4\/k=5\/k=6\/k=7\/k=8\/k=9\/k=10\/k=11\/k=12\/k=13\/k=14\/k=15\/k=16\/k=17\/k=18\/k=19\/k=20:=dd rfl
theorem WX:∀k<21,10<=k->k=10\/k=11\/k=12\/k=13\/k=14\/k=15\/k=16\/k=17\/k=18\/k=19\/k=20:=dd rfl
theorem Dj {KK:V->Sg->Prop}(j)(h:qq lv (j+21) vs σ KK):zo (qn (j+21) vs σ) λv=>KK v σ:=h
@[elab_as_elim] theorem YQ {P:Nat->Prop}(n:k<21)(o:P 0)(p:P 1)(q:P 2)(r:P 3)(s:P 4)(t:P 5)(u:P 6)(v:P 7)(w:P 8)(x:P 9)(a:P 10)(b:P 11)(c:P 12)(d:P 13)(f:P 14)(g:P 15)(h:P 16)(i:P 17)(j:P 18)(l:P 19)(m:P 20):P k:=(λe=>e.elim (λe=>e▸o) (λe=>e.elim (λe=>e▸p) (λe=>e.elim (λe=>e▸q) (λe=>e.elim (λe=>e▸r) (λe=>e.elim (λe=>e▸s) (λe=>e.elim (λe=>e▸t) (λe=>e.elim (λe=>e▸u) (λe=>e.elim (λe=>e▸v) (λe=>e.elim (λe=>e▸w) (λe=>e.elim (λe=>e▸x) (λe=>e.elim (λe=>e▸a) (λe=>e.elim (λe=>e▸b) (λe=>e.elim (λe=>e▸c) (λe=>e.elim (λe=>e▸d) (λe=>e.elim (λe=>e▸f) (λe=>e.elim (λe=>e▸g) (λe=>e.elim (λe=>e▸h) (λe=>e.elim (λe=>e▸i) (λe=>e.elim (λe=>e▸j) (λe=>e.elim (λe=>e▸l) (λe=>e▸m))))))))))))))))))))) (Zb k n)
@[elab_as_elim] theorem YR {P:Nat->Prop}(n:k<21)(o:10<=k)(a:P 10)(b:P 11)(c:P 12)(d:P 13)(f:P 14)(g:P 15)(h:P 16)(i:P 17)(j:P 18)(l:P 19)(m:P 20):P k:=(λe=>e.elim (λe=>e▸a) (λe=>e.elim (λe=>e▸b) (λe=>e.elim (λe=>e▸c) (λe=>e.elim (λe=>e▸d) (λe=>e.elim (λe=>e▸f) (λe=>e.elim (λe=>e▸g) (λe=>e.elim (λe=>e▸h) (λe=>e.elim (λe=>e▸i) (λe=>e.elim (λe=>e▸j) (λe=>e.elim (λe=>e▸l) (λe=>e▸m))))))))))) (WX k n o)
theorem oM (F:FN C Kk)(w:100<=n)(H:m5 C n (ZL lv) p7 oU):m5 C (n+20) (ZL (lv+1)) p7 oU:=by
 refine KY (F 0) (F 1) (d8 (gp 0xe010000000064e1c00000000c9d853a201 rfl w)) (λ{k t q z l s A G B} f h c e d b=>?_) (λ{k t q z l s A G B} m h e d b=>?_) (λ{l k q z s A p B} h I d b=>?_) (λ{l x i q z s A a B} _ h m r d b=>?_)
 .have b:Room (n+10) A:=b.le (d8 Jt)
  have g:∀{k:Nat},(zo (qn k t l) λv=>q v l)->(∀v,qn k t l≠aE v)->False:=λh c=>let ⟨v,J,_⟩:=ja h;c v J;by_cases m:21<=k
  .obtain⟨j,rfl⟩:∃j,k=j+21:=⟨k-21,by exact eC (d8 (GJ (sB ..))) (d8 (GL (sC (d8 (GN m)))))⟩
   exact(g (Dj j h) c).elim
  .revert h c f
   refine YQ (jU m) (λf h c=>?_) (λf h c=>?_) (λf h c=>?_) (λf h c=>?_) (λf h c=>?_) (λf h c=>?_) (λf h c=>?_) (λf h c=>?_) (λf h c=>?_) (λf h c=>?_) (λf h c=>?_) (λf h c=>?_) (λf h c=>?_) (λf h c=>?_) (λf h c=>?_) (λf h c=>?_) (λf h c=>?_) (λf h c=>?_) (λf h c=>?_) (λf h c=>?_) (λf h c=>?_)
   .refine cU (f rfl) λx o L=>(cU h λy M h=>?_);subst o
    cases M
    refine cU (ja h) λi u m=>?_;unfold s7 at u;rw[L] at u;dsimp only[show 1<=lv+1 by exact d8 BR,if_true] at u
    refine cU e.one λa o N=>?_;subst o;exact Ik F u m N d b
   .exact(g h c).elim
   .exact(g h c).elim
   .exact(g h c).elim
   .exact(g h c).elim
   .exact(g h c).elim
   .exact(g h c).elim
   .exact Il F h e d b
   .exact(g (k:=8) h c).elim
   .exact Ij F h e d b
   .exact L6 F H h e d b
   .exact L5 F H h e d b
   .exact g_ (W9 F H h e d b)
   .exact g_ (Iw F H h e d b)
   .exact g_ (QZ F H h e d b)
   .exact g_ (Rg F H h e d b)
   .exact g_ (LU F H h e d b)
   .exact g_ (R3 F H h e d b)
   .exact g_ (Ms F H h e d b)
   .exact g_ (Ww F H h e d b)
   .exact g_ (Wy F H h e d b)
 .have b:Room (n+10) A:=b.le (d8 Jt)
  by_cases D:21<=k
  .obtain⟨j,rfl⟩:∃j,k=j+21:=⟨k-21,by exact eC (d8 (GJ (sB ..))) (d8 (GL (sC (d8 (GN D)))))⟩
   have h:lG (j+21) t l q:=h;exact gc h
  .revert h
   exact YR (jU ‹¬21<=k›) ‹10<=k› (λh=>Iq F H h e d b) (λh=>Wf F H h e d b) (λh=>QW F H h e d b) (λh=>QC F H h e d b) (λh=>El F H h e d b) (λh=>QE F H h e d b) (λh=>L3 F H h e d b) (λh=>Y3 F H h e d b) (λh=>QD F h e d b) (λh=>Y4 F H h e d b) (λh=>Wc F w H h e d b)
 .exact Th F w H h I d (b.le (d8 (gp 8117146073932289 rfl)))
 .exact Cx (n:=n) F h m r d (b.le (d8 Jt))
theorem Mt (W:WK C Kk)(N:NM C):m5 C 100 (ZL 0) p7 oU:=by
 refine KY W N (d8 (la [] 0x1c00000000c9d8500000000327 rfl)) (λ{k l f n e s A G o} c h b H t u=>?_) (λ{k l f n e s A G o} g h H t u=>?_) (λ{e k f n s A p o} h L t u=>?_) (λ{e x i f n s A a o} w h g r t u=>?_)
 .exfalso
  have d:∀{k:Nat},(zo (qn k l e) λv=>f v e)->(∀v,qn k l e≠aE v)->False:=λh b=>let ⟨v,w,_⟩:=ja h;b v w;by_cases g:21<=k
  .obtain⟨j,rfl⟩:∃j,k=j+21:=⟨k-21,by exact eC (d8 (GJ (sB ..))) (d8 (GL (sC (d8 (GN g)))))⟩
   exact d (Dj j h) b
  .have z:∀{m:Nat} {p:Prop},1<=m->(m<=0/\p)->False:=λh q=>by have:=q.1;exact gc (BS q.1 h)
   revert h b c;refine YQ (jU g) (λc h b=>?_) (λc h b=>?_) (λc h b=>?_) (λc h b=>?_) (λc h b=>?_) (λc h b=>?_) (λc h b=>?_) (λc h b=>?_) (λc h b=>?_) (λc h b=>?_) (λc h b=>?_) (λc h b=>?_) (λc h b=>?_) (λc h b=>?_) (λc h b=>?_) (λc h b=>?_) (λc h b=>?_) (λc h b=>?_) (λc h b=>?_) (λc h b=>?_) (λc h b=>?_)
   .refine cU (c rfl) λx B I=>(cU h λy J h=>?_);subst B
    cases J
    refine cU (ja h) λi D g=>?_;unfold s7 at D;rw[I] at D;simp at D
   .exact d h b
   .exact d h b
   .exact d h b
   .exact d h b
   .exact d h b
   .exact d h b
   .exact z (m:=1) (dd rfl) h
   .exact d (k:=8) h b
   .exact z (m:=1) (dd rfl) h
   .exact z (m:=2) (dd rfl) h
   .exact z (m:=1) (dd rfl) h
   .exact z (m:=2) (dd rfl) h
   .rcases h with⟨q,_⟩;exact absurd q (dd rfl)
   .exact z (m:=1) (dd rfl) h
   .rcases h with⟨q,_⟩;exact absurd q (dd rfl)
   .rcases h with⟨q,_⟩;exact absurd q (dd rfl)
   .rcases h with⟨q,_⟩;exact absurd q (dd rfl)
   .rcases h with⟨q,_⟩;exact absurd q (dd rfl)
   .exact z (m:=1) (dd rfl) h
   .exact z (m:=1) (dd rfl) h
 .exfalso
  by_cases F:21<=k
  .obtain⟨j,rfl⟩:∃j,k=j+21:=⟨k-21,by exact eC (d8 (GJ (sB ..))) (d8 (GL (sC (d8 (GN F)))))⟩
   have h:lG (j+21) l e f:=h;exact gc h
  .have z:∀{m:Nat} {p:Prop},1<=m->(m<=0/\p)->False:=λh q=>by have:=q.1;exact gc (BS q.1 h)
   revert h;refine YR (jU ‹¬21<=k›) ‹10<=k› (λh=>?_) (λh=>?_) (λh=>?_) (λh=>?_) (λh=>?_) (λh=>?_) (λh=>?_) (λh=>?_) (λh=>?_) (λh=>?_) (λh=>?_)
   .rcases h with⟨q,_⟩;exact absurd q (dd rfl)
   .rcases h with⟨q,_⟩;exact absurd q (dd rfl)
   .rcases h with⟨q,_⟩;exact absurd q (dd rfl)
   .rcases h with⟨q,_⟩;exact absurd q (dd rfl)
   .rcases h with⟨q,_⟩;exact absurd q (dd rfl)
   .rcases h with⟨q,_⟩;exact absurd q (dd rfl)
   .rcases h with⟨q,_⟩;exact absurd q (dd rfl)
   .exact z (m:=2) (dd rfl) h
   .exact z (m:=1) (dd rfl) h
   .rcases h with⟨q,_⟩;exact absurd q (dd rfl)
   .rcases h with⟨q,_⟩;exact absurd q (dd rfl)
 .exact absurd h.1 (dd rfl)
 .exact gc (la [] 918026 rfl w)
theorem Rr (F:FN C Kk):m5 C 220 (ZL 6) p7 oU:=by have a:=oM F (dd rfl) (Mt (F 0) (F 1));have b:=oM F (dd rfl) a;have c:=oM F (dd rfl) b;have d:=oM F (dd rfl) c;have e:=oM F (dd rfl) d;exact oM F (dd rfl) e
inductive Esc (q:Bool):Wd->Wd->Prop
 |nil:Esc q [] []
 |lit {c:Nat} {w x:Wd}:c≠34->c≠92->c≠10->(q=cu->ub c=cu)->Esc q w x->Esc q (c::w) (c::x)
 |esc {c:Nat} {w x:Wd}:c≠10->Esc q w x->Esc q (c::w) (92::c::x)
theorem Esc.append (h:Esc q a x)(g:Esc q b y):Esc q (a++b) (x++y):=by
 induction h with
 |nil=>exact g|lit c e f i _ d=>exact .lit c e f i d|esc c _ d=>exact .esc c d
theorem Esc.len (h:Esc q w x):w.length<=x.length:=by
 induction h with
 |nil=>exact d9 _|lit _ _ _ _ _ a=>simp;exact a|esc _ _ a=>simp;exact kM a
theorem fN (c)(r)(line)(h:c≠10):dh ⟨c::r,line⟩=(aE c,⟨r,line⟩):=by dsimp only[dh];simp[h]
theorem zK (r)(line):dh ⟨10::r,line⟩=(aE 10,⟨r,line+1⟩):=rfl
theorem EL (h:Esc bK w x):∀{n:Nat} {tok rest:Wd} {line:Nat},w.length<n->fJ n tok ⟨x++34::rest,line⟩=(tok++w,⟨rest,line⟩,bK):=by
 induction h with
 |nil=>
  intro n tok rest line a;obtain⟨m,rfl⟩:∃m,n=m+1:=⟨n-1,by simp at a;exact(sW a).symm⟩
  dsimp only[fJ];refine cn (pN ..) (cn ((fN _ _ _ (dd rfl)) ..) ?_);simp
 |@lit c w x b e f g _ d=>
  intro n tok rest line a;obtain⟨m,rfl⟩:∃m,n=m+1:=⟨n-1,by simp at a;exact eC (d8 (z5 (sB ..))) (d8 (zQ (sC (d8 (GO a)))))⟩
  dsimp only[fJ];refine cn (l_ ..) (cn (fN _ _ _ f ..) ?_);simp only[if_neg b,if_neg e];refine cn ((d (by simp at a;exact a)) ..) ?_
  simp
 |@esc c w x b _ d=>
  intro n tok rest line a;obtain⟨m,rfl⟩:∃m,n=m+1:=⟨n-1,by simp at a;exact eC (d8 (z5 (sB ..))) (d8 (zQ (sC (d8 (GO a)))))⟩
  dsimp only[fJ];refine cn (l_ ..) (cn (l_ ..) (cn ((fN _ _ _ (dd rfl)) ..) ?_));simp only[if_neg (show ¬(92:Nat)=34 by decide),if_pos]
  refine cn (fN _ _ _ b ..) ?_;simp only[];refine cn ((d (by simp at a;exact a)) ..) ?_
  simp
def t_ (rest:Wd):Prop:=rest=[]\/∃v r,rest=v::r/\ub v=bK
noncomputable def sP (rest:Wd)(line:Nat):LS:=⟨rest.tail,line+(if rest.head?=aE 10 then 1 else 0)⟩
theorem Dk (h:Esc cu w x):∀{n:Nat} {tok rest:Wd} {line:Nat},t_ rest->w.length<n->∃b,ji n tok ⟨x++rest,line⟩=(tok++w,sP rest line,b):=by
 induction h with
 |nil=>
  intro n tok rest line e a;obtain⟨m,rfl⟩:∃m,n=m+1:=⟨n-1,by simp at a;exact eC (d8 (z5 (sB ..))) (d8 (zQ (sC (d8 (DC a)))))⟩
  dsimp only[ji];simp only[pN];rcases e with rfl|⟨v,r,rfl,i⟩
  .exact⟨cu,by simp[dh,sP]⟩
  .by_cases d:v=10
   .subst d
    simp only[zK];exact⟨bK,by simp[i,sP]⟩
   .simp only[fN _ _ _ d]
    refine⟨bK,?_⟩;simp[i,sP,d]
 |@lit c w x j k l o _ f=>
  intro n tok rest line e a;obtain⟨m,rfl⟩:∃m,n=m+1:=⟨n-1,by simp at a;exact eC (d8 (z5 (sB ..))) (d8 (zQ (sC (d8 (GO a)))))⟩
  obtain⟨b,g⟩:=f (n:=m) (tok:=tok++[c]) (line:=line) e (by simp at a;exact gG (BO a))
  refine⟨b,?_⟩;dsimp only[ji];simp only[l_,fN _ _ _ l];simp only[o rfl,qW,if_false,if_neg k];refine cn (g ..) ?_;simp
 |@esc c w x j _ f=>
  intro n tok rest line e a;obtain⟨m,rfl⟩:∃m,n=m+1:=⟨n-1,by simp at a;exact eC (d8 (z5 (sB ..))) (d8 (zQ (sC (d8 (GO a)))))⟩
  obtain⟨b,g⟩:=f (n:=m) (tok:=tok++[c]) (line:=line) e (by simp at a;exact gG (BO a))
  refine⟨b,?_⟩;dsimp only[ji];refine cn (l_ ..) (cn (l_ ..) (cn ((fN _ _ _ (dd rfl)) ..) ?_));have p:ub 92=cu:=dd rfl;simp only[p,qW,if_false,if_true];refine cn (fN _ _ _ j ..) ?_;simp only[g];simp
theorem U8:∀{g:Wd} {m line:Nat},(∀c∈g,ub c=bK)->fM (g.length+m) ⟨g++y,line⟩=fM m ⟨y,line+g.count 10⟩:=by
 intro i;induction i with
 |nil=>exact @λm line _=>by simp
 |cons c g e=>
  exact @λm line h=>by
   have f:=h c (.head _);simp only[j8,show g.length+1+m=(g.length+m)+1 by exact kL _ _ _]
   by_cases a:c=10
   .subst a
    simp only[xl,l_,zK];simp only[f,if_true];simp only[e (λd b=>h d (by simp[b]))]
    simp only[NZ]
    congr 2
    exact kL _ _ _
   .simp only[xl,l_,fN _ _ _ a]
    simp only[f,if_true];simp only[e (λd b=>h d (by simp[b]))]
    simp only[AX (a)]
theorem EM (h:Esc bK w x):fM (m+1) ⟨34::x++34::rest,line⟩=(w,⟨rest,line⟩):=by rw[xl,l_,fN _ _ _ (dd rfl)];have a:ub 34=cu:=dd rfl;simp only[a,qW,if_false,if_true];exact cn ((EL h (by have:=h.len;simp;exact gG (iP 0x1c12021c02c29b0a1109 rfl this))) ..)<|rfl
theorem xK (h:Esc cu w x)(a:w≠[])(f:t_ rest):fM (m+1) ⟨x++rest,line⟩=(w,sP rest line):=by
 induction h with
 |nil=>exact absurd rfl a|@lit c w x d g i j h=>
  obtain⟨b,e⟩:=Dk h (n:=(x++rest).length+1) (tok:=[c]) (line:=line) f (by have:=h.len;simp;exact gG (iP 0x38240438058531109 rfl this))
  rw[xl,l_,fN _ _ _ i];simp only[j rfl,qW,if_false,if_neg d,if_neg g];exact cn (e ..)<|rfl
 |@esc c w x d h=>
  obtain⟨b,e⟩:=Dk h (n:=(x++rest).length+1) (tok:=[c]) (line:=line) f (by have:=h.len;simp;exact gG (iP 0x38240438058531109 rfl this))
  rw[xl,l_,l_,fN _ _ _ (dd rfl)];have a:ub 92=cu:=dd rfl;simp only[a,qW,if_false,if_neg (show ¬(92:Nat)=34 by decide),if_true]
  exact cn (fN _ _ _ d ..)<|cn (e ..)<|rfl
def EN (t:fY):Prop:=(∀m a b,fM (m+1) ⟨t.2.1++a,b⟩=(t.2.2,⟨a,b⟩))/\t.2.1.getLast?≠aE 10/\t.2.1≠[]
def U9 (t:fY):Prop:=(∀m a b,t_ a->fM (m+1) ⟨t.2.1++a,b⟩=(t.2.2,sP a b))/\t.2.1.getLast?≠aE 10/\t.2.1.getLast?≠aE 34/\t.2.1≠[]
noncomputable abbrev Dl:=Wd×fY×Nat
noncomputable def eM (a:List Dl):Wd:=a.flatMap λi=>i.1++i.2.1.2.1
def oN:Bool->Nat->List Dl->Prop
 |_,_,[]=>True|b,r,i::a=>(∀c∈i.1,ub c=bK)/\(b=bK->i.1≠[])/\i.2.2=r+i.1.count 10/\(EN i.2.1/\oN cu i.2.2 a\/U9 i.2.1/\oN bK i.2.2 a)
theorem qL (g)(t)(b)(a):eM ((g,t,b)::a)=g++(t.2.1++eM a):=by unfold eM;simp only[lM,j5]
theorem IU (h:oN bK r a):t_ (eM a):=by
 induction a with
 |nil=>exact .inl rfl|cons i a=>
  obtain⟨g,t,c⟩:=i;refine dN h λd b _=>?_;have b:=b rfl;induction g with
  |nil=>exact absurd rfl b|cons v r=>exact .inr ⟨v,_,by simp only[qL];rfl,d v (.head _)⟩
theorem AH:(a++b)[(a++b).length-b.length-1]?=if a=[] then(a++b)[0]? else a.getLast?:=by
 induction a with
 |nil=>simp|cons c a=>exact cn ((if_neg (l5 _ _)) ..) (cn (xW ..) (cn (dJ ..) (cn (O7 ..) (cn ((jR (d9 _)) ..) rfl))))
theorem qM (h:b≠[]):(a++b).getLast?=b.getLast?:=by
 simp only[qU];induction c:b.getLast? with
 |none=>exact absurd (List.getLast?_eq_none_iff.mp c) h|some x=>rfl
theorem EO:∀(a:List Dl) {po:Bool} {r:Nat} {page pre:Wd} {ls:LS},oN po r a->(po=cu->ls=⟨eM a,r⟩)->(po=bK->ls=sP (eM a) r)->page=pre++ls.left->∃line,ee page (a.map λi=>(i.2.1,i.2.2)) ls=aE ⟨[],line⟩:=by
 intro L;induction L with
 |nil=>
  exact @λpo r page pre ls _ z A q=>by
   refine⟨ls.line,?_⟩;induction po with
   |false=>refine cn (z rfl ..) ?_;rfl|true=>refine cn (A rfl ..) ?_;rfl
 |cons M a I=>
  obtain⟨g,t,e⟩:=M;exact @λpo r page pre ls N z A q=>by
   refine qs N λu B w P=>?_;have w:e=r+g.count 10:=w;have u:∀c∈g,ub c=bK:=u;obtain⟨k,line,C,Q,D⟩:∃k line,ls=⟨k++(t.2.1++eM a),line⟩/\line+k.count 10=e/\∀c∈k,ub c=bK:=by
    induction po with
    |false=>exact BN g r (cn (z rfl ..) (cn (qL ..) rfl)) w.symm u|true=>
     have B:g≠[]:=B rfl;induction g with
     |nil=>exact absurd rfl B|cons c g=>
      refine BN g (r+(if c=10 then 1 else 0)) (by refine cn (A rfl ..) (cn (qL ..) ?_);simp[sP]) ?_ (λd R=>u d (by simp[R]))
      refine cn (w ..) ?_;by_cases F:c=10
      .subst F;refine cn (NZ ..) (cn (if_pos rfl ..) ?_);exact kL _ _ _
      .rw[AX (F),if_neg F];exact kL _ _ _
   subst C;refine cn (fS ..) (cn (vM ..) ?_);have n:(k++(t.2.1++eM a)).length+1=k.length+((t.2.1++eM a).length+1):=by simp;exact ic _ _ _
   have s:fM ((k++(t.2.1++eM a)).length+1) ⟨k++(t.2.1++eM a),line⟩=fM ((t.2.1++eM a).length+1) ⟨t.2.1++eM a,e⟩:=
    cn (n ..) (cn (U8 D ..) (cn (Q ..) rfl))
   refine cn (s ..) ?_;rcases P with⟨⟨o,G,x⟩,y⟩ |⟨⟨o,G,x,J⟩,y⟩
   .have o:=o ((t.2.1++eM a).length) (eM a) e
    refine cn (o ..) ?_;have b:page=(pre++k++t.2.1)++eM a:=by refine cn (q ..) ?_;simp
    have f:page[page.length-(eM a).length-1]?≠aE 10:=
     cn (b ..) (cn (AH ..) (cn ((if_neg (by simp[x])) ..) (cn (qM x ..) G)))
    simp only[f,and_false,if_false,yx,and_self,if_true];exact I y (λ_=>rfl) (λh=>dG h) b
   .have j:=IU y
    have o:=o ((t.2.1++eM a).length) (eM a) e j;refine cn (o ..) ?_;have p:(sP (eM a) e).line-(if t.2.1.getLast?≠aE 34/\page[page.length-(sP (eM a) e).left.length-1]?=aE 10 then 1 else 0)=e:=by
     rcases j with j|⟨v,H,j,U⟩
     .have b:page=(pre++k++t.2.1)++[]:=by refine cn (q ..) (cn (j ..) ?_);simp
      have f:page[page.length-(sP (eM a) e).left.length-1]?≠aE 10:=by refine cn (j ..) ?_;show page[page.length-([]:Wd).length-1]?≠aE 10;exact cn (b ..) (cn (AH ..) (cn ((if_neg (by simp[J])) ..) (cn (qM J ..) G)))
      refine cn ((if_neg (λh=>f h.2)) ..) (cn (j ..) ?_);rfl
     .have b:page=(pre++k++t.2.1++[v])++H:=by refine cn (q ..) (cn (j ..) ?_);simp
      have f:page[page.length-(sP (eM a) e).left.length-1]?=aE v:=by
       refine cn (j ..) ?_;show page[page.length-H.length-1]?=aE v;refine cn (b ..) (cn (AH ..) (cn ((if_neg (by simp)) ..) (cn ((qM (l5 _ _)) ..) ?_)))
       rfl
      refine cn (f ..) (cn (j ..) ?_);show(e+if(aE v:Option Nat)=aE 10 then 1 else 0)-_=e
      by_cases l:v=10
      .refine cn ((if_pos (by rw[l])) ..) (cn ((if_pos ⟨x,by rw[l]⟩) ..) ?_);exact xY _ _ _
      .refine cn ((if_neg (by simpa using l)) ..) (cn ((if_neg (λh=>l (dk h.2))) ..) ?_);exact xY _ _ _
    refine cn (p ..) ?_;simp only[and_self,if_true];have b:∃m,page=m++(sP (eM a) e).left:=by
     rcases j with j|⟨v,H,j,U⟩
     .exact⟨page,by refine cn (j ..) ?_;exact(ib _).symm⟩
     .exact⟨pre++k++t.2.1++[v],by refine cn (q ..) (cn (j ..) ?_);simp[sP]⟩
    obtain⟨m,b⟩:=b;exact I y (λh=>dG h) (λ_=>rfl) b
theorem Mu (i:f<3)(d:c∈([35,34,92,97,98,99,100,101,59,32,9]:Wd)):Esc (decide (f=1)) [c] (jl f c):=by
 have a:c≠10:=by intro e;subst e;simp at d
 unfold jl;split
 .exact .esc a .nil
 .rename_i h
  rw[not_or] at h;have g:f=0\/f=1:=(by decide:∀f<3,¬f=2->f=0\/f=1) f i h.1
  rcases g with rfl|rfl
  .have b:c∉([34,92,32,9]:Wd):=h.2
   simp at b d;refine .lit (b.1) (b.2.1) a (λ_=>?_) .nil;unfold ub;simp;exact⟨a,b.2.2.2,λe=>absurd (e▸d) (dd rfl),b.2.2.1⟩
  .have b:c∉([34,92]:Wd):=h.2
   simp at b;exact .lit b.1 b.2 a (λh=>by cases h) .nil
theorem Mv (a:f<3):∀{w:Wd},(∀c∈w,c∈([35,34,92,97,98,99,100,101,59,32,9]:Wd))->Esc (decide (f=1)) w (w.flatMap (jl f)):=by
 intro b;induction b with
 |nil=>exact @λ_=>.nil
 |cons c w e=>
  exact @λh=>by simp only[lM];exact(Mu a (h c (.head _))).append (e λd g=>h d (by simp[g]))
theorem IV:(jl f c).getLast?=aE c:=by unfold jl;split<;>rfl
theorem IW:∀{w:Wd},(w.flatMap (jl f)).getLast?=w.getLast?:=by
 intro b;induction b with
 |nil=>exact rfl|cons c w e=>
  exact by
   simp only[lM];by_cases a:w=[]
   .subst a;simp[IV]
   .simp only[qU,e]
    induction h:w.getLast? with
    |none=>exact absurd (List.getLast?_eq_none_iff.mp h) a|some x=>
     simp only[Option.some_or];induction w with
     |nil=>exact absurd rfl a|cons d w=>simp only[List.getLast?_cons_cons];exact h.symm
noncomputable def iO (ws:List fY)(a b:Nat):List Ch:=(dR ws a b).map λt=>(t.1,t.2.1)
theorem oO (h:b<=ws.length):(dR ws a b).length=b-a:=by unfold dR;rw[nV,kN,lE h]
theorem jC (h:b<=ws.length):(iO ws a b).length=b-a:=by unfold iO;rw[eE,oO h]
theorem xM (h:a+i<b):(dR ws a b)[i]?=ws[a+i]?:=by unfold dR;exact cn (ye ..) (cn (Ob ..) (cn (if_pos h ..) rfl))
theorem rM (d:ws[a]?=aE t)(c:a<b):dR ws a b=t::dR ws (a+1) b:=by
 have e:=List.getElem?_eq_some_iff.mp d;have f:a<(ws.take b).length:=by refine cn (kN ..) ?_;exact Nat.lt_min.mpr ⟨c,e.1⟩
 exact(List.drop_eq_getElem_cons f).trans (congrArg (·::_) (List.getElem_take.trans e.2))
theorem Mw:dR ws a a=[]:=NA (by rw[kN];exact vc ..)
theorem Mx (x:Ch):df [x]=x.1++x.2:=ib _
theorem Hr (p q):dW (p++q)=dW p+dW q:=(congrArg i_ yb).trans dJ
theorem qN (ws)(a b):df (iO ws a b)=fZ (dR ws a b):=by unfold iO df fZ;simp only[OJ]
theorem rN (h:b<=ws.length):Run ws a (iO ws a b):=by
 intro i x c;unfold iO at c;rw[jx] at c;have f:a+i<b:=by
  have:i<(dR ws a b).length:=by
   induction d:(dR ws a b)[i]? with
   |none=>rw[d] at c;cases c|some y=>exact(List.getElem?_eq_some_iff.mp d).1
  rw[oO h] at this;exact NP this
 rw[xM f] at c;induction e:ws[a+i]? with
 |none=>rw[e] at c;cases c|some t=>rw[e] at c;cases c;exact sg t rfl rfl (λ_=>rfl)
theorem Run.append (R:Run ws b X)(j:b+X.length=m)(f:e<=ws.length):Run ws b (X++iO ws m e):=by
 intro i x a;by_cases c:i<X.length
 .rw[jR c] at a
  exact R i x a
 .rw[lX (ia c)] at a
  refine hR (rN f (i-X.length) x a) λt g k l=>sg t (ie (g ..) (ie (j ..) (cn (ic ..) (cn (pC (ia c) ..) rfl)))) k (λ_=>?_);unfold iO at a;rw[jx] at a;have d:m+(i-X.length)<e:=by
   have:i-X.length<(dR ws m e).length:=by
    induction h:(dR ws m e)[i-X.length]? with
    |none=>rw[h] at a;cases a|some y=>exact(List.getElem?_eq_some_iff.mp h).1
   rw[oO f] at this;exact NP this
  rw[xM d,g] at a;cases a;rfl
theorem Run.take (R:Run ws b X)(n):Run ws b (X.take n):=by
 intro i x a;rw[Ob] at a;split at a
 .exact R i x a
 .exact nN a
theorem Dm (c:b<=ws.length)(hi:a+i<=b):(iO ws a b).take i=iO ws a (a+i):=by
 unfold iO dR;refine ie (yt ..) (cn (List.take_drop ..) ?_)
 congr 2
 exact cn (FI ..) (cn (lE hi ..) rfl)
structure Cut (ws:List fY)(order:Wd)(W:Nat)(ps:List (List fY))(name:fY)(B:Nat->Nat):Prop where
 len5:ws.length=5
 okw:pe ws
 n2:2<=ps.length
 nm:name.2.2.head?=aE 120/\name.1=[]/\name.2.1≠[]
 part0:ps.getD 0 []=name::dR ws 0 (B 1)
 part:∀k,1<=k->k<ps.length->ps.getD k []=dR ws (B k) (B (k+1))
 lt:∀k,1<=k->k<ps.length->B k<B (k+1)
 top:B ps.length=5
 main:∃pre post,order=pre++post/\(∀ch∈pre,∀i,1<=i->i<5->ch∉ix ws i)/\(post=[]->ps.length=2)/\∀c1 r,post=c1::r->∀i,1<=i->i<5->(c1∈ix ws i↔∃k,2<=k/\k<ps.length/\i=B k)
 room:∀k,2<=k->k<ps.length->(∃ch∈order,∃i,B k<i/\i<B (k+1)/\ch∈ix ws i)->dW (ps.getD k [])<=W
 room0:(∃ch∈order,∃i,0<i/\i<B 2/\ch∈ix ws i)->dW (ps.getD 0 []++ps.getD 1 [])<=W
 move:dW (ps.getD 0 []++ps.getD 1 [])<=W\/dW (ps.getD 0 []++dR ws (B 1) (B 1+1))>W
 move0:0<B 1->dW (ps.getD 0 [])<=W
theorem Cut.le (C:Cut ws order W ps name B)(a:1<=k):∀{m:Nat},k+m<=ps.length->B k+m<=B (k+m)
 |0,_=>d9 _|m+1,h=>by
  have b:=C.le a (m:=m) (eV h);have:=C.lt (k+m) (cx a (eO ..)) (h);simp only[show k+(m+1)=k+m+1 by exact mR _]
  exact fC b this
theorem Cut.mono (C:Cut ws order W ps name B)(a:1<=j)(h:j<=k)(b:k<=ps.length):B j+(k-j)<=B k:=by
 have:=C.le a (m:=k-j) (d8 (vC 0x1c12021c02c644439888cb0a09 rfl b (sC (d8 (oV h)))))
 rwa [show j+(k-j)=k by exact pC h] at this
theorem Cut.le5 (C:Cut ws order W ps name B)(a:1<=k)(b:k<=ps.length):B k<=5:=by have:=C.mono a b (d9 _);simp only[C.top] at this;exact cx (eO ..) this
theorem Cut.nohit (C:Cut ws order W ps name B)(R:Run ws b X)(h:∀a∈order,∀i,b<i->i<b+X.length->a∉ix ws i):fG X order=aT:=CF λa c i d e=>cn (ma R C.okw d e ..)<|decide_eq_false (h a c (b+i) (eY d _) (sV (We d e) b))
theorem Cut.hit (C:Cut ws order W ps name B)(A:2<=k)(f:k<ps.length)(R:Run ws b X)(F:X≠[])(n:b+X.length=B k)(d:1<=i)(c:B k+i<=B (k+1)):fG (X++(iO ws (B k) (B (k+1))).take i) order=aE X.length:=by
 have s:B (k+1)<=5:=C.le5 (ek _) (f);have t:=C.len5;have e:0<X.length:=List.length_pos_iff.mpr F;refine cn ((Dm (t▸s) c) ..) ?_;have u:Run ws b (X++iO ws (B k) (B k+i)):=R.append n (d8 (vC 0x1c02541c54121c12c6444398c88b0a01 rfl (c_ t.symm) s c));have a:(X++iO ws (B k) (B k+i)).length=X.length+i:=by refine cn (dJ ..) (cn ((jC (d8 (vC 0x1c02541c54121c12c6444398c88b0a01 rfl (c_ t.symm) s c))) ..) ?_);exact eC (d8 (vC 0x731109612021cc04658531119 rfl (sC (d8 GH)))) (d8 (vC 0x730111612021cc24658531119 rfl (sB ..)))
 refine BL C.main λG o H p v g=>?_;induction o with
 |nil=>have:=v rfl;exact gc (jY 0x709008700b0a090e0912 rfl (c_ this) f A)|cons I r=>
  have q:=g I r rfl;refine cn (H ..) ?_;have h:b+(X.length+i)<=5:=by refine ie (ic ..) (cn (n ..) ?_);exact cx c s
  have J:=c;refine CG ?_ λL w j d c=>?_
  .refine Eu (m:=X.length) (d8 (DC e)) ?_ (by refine cn (a ..) ?_;exact d8 (Jx d (sB ..))) λj d c=>?_
   .exact cn ((ma u C.okw (d8 (DC e)) (by rw[a];exact d8 (Jx d (sB ..)))) ..)<|decide_eq_true ((q _ (d8 (jY 0x1c02c280838298530109 rfl e)) (gG (iP 0x1c02141c54d80888487311092a rfl d h))).mpr ⟨k,A,f,n⟩)
   .rw[a] at c
    refine cn ((ma u C.okw (d8 (Jy d)) (by rw[a];exact d8 (oV c))) ..)<|decide_eq_false λx=>?_
    obtain⟨y,M,N,D⟩:=(q _ (d8 (iP 0x1c12c280438298530911 rfl d)) (fl (sV (We (fC (eW _) d) c) b) h)).mp x;have z:b+j<B k+i:=by refine ie (n ..) (cn (ic ..) ?_);exact sV (We (fC (eW _) d) c) b
    rcases F_ k y with l|l
    .have:=C.mono (j:=k+1) (k:=y) (d8 BR) (d8 (zQ l)) (d8 (sh N))
     exact iC _ (fl z (cx J (cx (eO ..) (cx this (c_ D.symm)))))
    .have:=C.mono (j:=y) (k:=k) (d8 (gp 0x70089070530a01 rfl M)) (d8 (oV l)) (d8 (sh f))
     exact iC _ (fl (sV d b) (cx (c_ D) (cx (cx (eO ..) this) (c_ n.symm))))
  .rw[a] at c
   exact cn ((ma u C.okw d (by rw[a];exact d8 (oV c))) ..)<|decide_eq_false (p L w _ (d8 (Ju d)) (fl (sV (We d c) b) h))
theorem Cut.roomy (C:Cut ws order W ps name B)(s:1<=k)(c:k<ps.length):(df (iO ws (B k) (B (k+1)))).length<=W\/∀i,0<i->i<=(iO ws (B k) (B (k+1))).length->fG ((iO ws (B k) (B (k+1))).take i) order=aT:=by
 have m:B (k+1)<=5:=C.le5 (ek _) (c);have n:=C.len5;have t:=C.part k s c;have g:(df (iO ws (B k) (B (k+1)))).length=dW (ps.getD k []):=by simp only[qN,t];rfl
 by_cases h:∃l∈order,∃i,B k<i/\i<B (k+1)/\l∈ix ws i
 .left
  simp only[g];by_cases d:2<=k
  .exact C.room k d c h
  .have o:k=1:=eC (d8 (Jr (jU d))) (d8 (BP s))
   subst o;refine cU h λl f p=>?_;refine hR p λi x u q=>?_;have:=C.room0 ⟨l,f,i,nT (by assumption),u,q⟩
   have e:dW (ps.getD 0 []++ps.getD 1 [])=dW (ps.getD 0 [])+dW (ps.getD 1 []):=by unfold dW fZ;simp only[yb,dJ]
   exact d8 (vC 0x38240438058c88870cb0a09 rfl this (c_ e.symm))
 .right
  intro i v d;rw[jC (by exact d8 (ue (c_ n.symm) m))] at d
  refine C.nohit (b:=B k) ((rN (ws:=ws) (a:=B k) (b:=B (k+1)) (d8 (ue (c_ n.symm) m))).take i) λl f j w r q=>?_;rw[kN,jC (by exact d8 (ue (c_ n.symm) m))] at r
  rw[lE d] at r;exact h ⟨l,f,j,w,fl r (Nat.add_le_of_le_sub' (eV (Ot (fl v d))) d),q⟩
theorem xN (mark)(x):∀{l:List Wd},l≠[]->f_ mark (l++[x])=f_ mark l++mark++x
 |[],h=>absurd rfl h|[a],_=>by simp[f_]
 |a::b::r,_=>by have c:=xN mark x (l:=b::r) (l5 _ _);unfold f_ at *;refine cn (l_ ..) (cn (l_ ..) (cn (xU ..) (cn (kj ..) (cn (kj ..) (ie (l_ ..) (cn (c ..) (cn (xU ..) (cn (kj ..) (cn (kj ..) ?_)))))))));simp
noncomputable def IX (p:List fY):List Ch:=(p.filter λt=>t.2.2.head?≠aE 120).map λt=>(t.1,t.2.1)
theorem EP (W)(order)(vs)(p):(p.filter λt=>t.2.2.head?≠aE 120).foldl (λs t=>fy W order s (t.1,t.2.1)) vs=oF W order vs (IX p):=by dsimp only[oF,IX];exact cn (List.foldl_map ..) rfl
theorem AI (c:pe ws)(a b):IX (dR ws a b)=iO ws a b:=by
 dsimp only[IX,iO]
 congr 1
 refine List.filter_eq_self.mpr λt d=>?_;have:t∈ws:=lZ (pB d);exact decide_eq_true ((c t this).2.2)
theorem xO (R:Run ws b X)(c:pe ws):X≠[]->(X.getLast?.map (·.2))≠aE []:=by
 intro d e;induction a:X.getLast? with
 |none=>exact d (List.getLast?_eq_none_iff.mp a)|some x=>rw[a] at e;rw[xW] at a;refine hR (R _ x a) λt f g _=>?_;have:=(c t (jS f)).2.1;apply this;exact ie (g ..)<|Option.some.inj e
structure Inv (ws:List fY)(B:Nat->Nat)(mark hd:Wd)(k:Nat)(fs:FS)(b c:Nat)(lines:List Wd)(X:List Ch)(base:Wd):Prop where
 vs:fs.vs=⟨lines,X,c⟩
 used:fs.used=c+(df X).length
 due:fs.due=base++df X
 base:∀Y,base++Y=hd++f_ mark (lines++[Y])
 run:Run ws b X
 at_:b+X.length=B k
 ne:2<=k->X≠[]
 c0:c=0\/c=hd.length/\lines=[]
theorem zL (h:∀Y,a++Y=b++f_ mark (lines++[Y]))(Y):(a++x++mark)++Y=b++f_ mark ((lines++[x])++[Y]):=by
 refine cn (h x ..) (cn ((xN mark Y (l:=lines++[x]) (by simp)) ..) ?_)
 simp
theorem IY (C:Cut ws order W ps name B){start:Nat}(d:start<ps.length):∃b c lines X f,Inv ws B mark (if start=0 then name.2.1 else[]) (start+1) (du ps start W order mark ⟨[],1,0,[],⟨[],[],(if start=0 then name.2.1 else[]:Wd).length⟩⟩ start) b c lines X f/\(start=0->lines=[]/\c=name.2.1.length/\X=iO ws 0 (B 1)):=by
 have k:=C.len5;have e:du ps start W order mark ⟨[],1,0,[],⟨[],[],(if start=0 then name.2.1 else[]:Wd).length⟩⟩ start=⟨[1],1,0+(fZ (ps.getD start [])).length,[]++fZ (ps.getD start []),oF W order ⟨[],[],(if start=0 then name.2.1 else[]:Wd).length⟩ (IX (ps.getD start []))⟩:=by unfold du;simp only[EP];refine cn ((if_neg (λh=>absurd h.1 (iC _))) ..) ?_;rfl
 refine cn (e ..) ?_;by_cases i:start=0
 .subst i
  simp only[if_true];have m:B 1<=5:=C.le5 (d9 _) (by have:=C.n2;exact d)
  have j:IX (ps.getD 0 [])=iO ws 0 (B 1):=by refine cn (C.part0 ..) ?_;dsimp only[IX];exact cn (pK ..) (cn ((if_neg (by simpa using C.nm.1)) ..) (AI C.okw 0 (B 1)))
  have a:fZ (ps.getD 0 [])=name.2.1++df (iO ws 0 (B 1)):=by refine cn (C.part0 ..) (cn (qN ..) ?_);show fZ (name::dR ws 0 (B 1))=_;dsimp only[fZ];refine cn (lM ..) (cn (C.nm.2.1 ..) ?_);rfl
  have g:oF W order ⟨[],[],name.2.1.length⟩ (iO ws 0 (B 1))=⟨[],iO ws 0 (B 1),name.2.1.length⟩:=by
   by_cases p:B 1=0
   .have:iO ws 0 (B 1)=[]:=by apply AL;refine cn ((jC (k▸m)) ..) ?_;exact p
    refine cn (this ..) ?_;rfl
   .have n:=C.move0 (j4 p)
    unfold dW at n;rw[a,dJ] at n;exact CE _ [] (n)
  refine cn (j ..) (cn (g ..) (cn (a ..) (⟨0,name.2.1.length,[],iO ws 0 (B 1),name.2.1,⟨rfl,by simp,rfl,λY=>by simp[f_],rN (k▸m),by refine cn ((jC (k▸m)) ..) ?_;show 0+(B 1-0)=B 1;exact iH _,λh=>iC _ h |>.elim,.inr ⟨rfl,rfl⟩⟩,λ_=>⟨rfl,rfl,rfl⟩⟩)))
 .simp only[if_neg i]
  have o:B (start+1)<=5:=C.le5 (ek _) (d);have l:=C.lt start (j4 i) d;have j:IX (ps.getD start [])=iO ws (B start) (B (start+1)):=by refine cn ((C.part start (j4 i) d) ..) ?_;exact AI C.okw _ _
  have a:fZ (ps.getD start [])=df (iO ws (B start) (B (start+1))):=cn ((C.part start (j4 i) d) ..) (cn (qN ..) rfl);have g:oF W order ⟨[],[],0⟩ (iO ws (B start) (B (start+1)))=⟨[],iO ws (B start) (B (start+1)),0⟩:=by have:=uF (W:=W) (order:=order) (lines:=[]) (iO ws (B start) (B (start+1))) [] (C.roomy (j4 i) d);exact this
  refine cn (j ..) (cn (a ..) ?_);show ∃b c lines X f,Inv ws B mark [] (start+1) ⟨[1],1,_,_,oF W order ⟨[],[],0⟩ _⟩ b c lines X f/\_;refine cn (g ..)<|⟨B start,0,[],iO ws (B start) (B (start+1)),[],⟨rfl,rfl,rfl,λY=>(ib _).symm,rN (d8 (ue (c_ k.symm) o)),by refine cn ((jC (d8 (ue (c_ k.symm) o))) ..) ?_;exact eC (d8 (Jz (sC (d8 (sh l))))) (d8 (JA (sB ..))),λ_=>?_,.inl rfl⟩,λh=>absurd h i⟩
  intro q;have:=congrArg i_ q;rw[jC (by exact d8 (ue (c_ k.symm) o))] at this
  simp at this;exact gc (BQ (c_ this) (sB ..) l)
theorem kh {start k:Nat}(h:¬(k>start/\fs.used+(fZ (ps.getD k [])).length>W)):du ps start W order mark fs k=⟨fs.rows++[fs.row],fs.row,fs.used+(fZ (ps.getD k [])).length,fs.due++fZ (ps.getD k []),oF W order fs.vs (IX (ps.getD k []))⟩:=by dsimp only[du];simp only[EP];exact cn (if_neg h ..) rfl
noncomputable def s9 (ps:List (List fY))(k:Nat):Wd:=if k=1/\((ps.getD 1 []).getD 0 default).1=[] then[32] else[]
theorem pk {start k:Nat}(h:k>start/\fs.used+(fZ (ps.getD k [])).length>W):du ps start W order mark fs k=⟨fs.rows++[fs.row+1],fs.row+1,0+(s9 ps k++fZ (ps.getD k [])).length,fs.due++mark++(s9 ps k++fZ (ps.getD k [])),oF W order fs.vs (IX (ps.getD k []))⟩:=by dsimp only[du,s9];simp only[EP];exact cn (if_pos h ..) rfl
theorem Cut.wid0 (C:Cut ws order W ps name B):dW (ps.getD 0 [])=name.2.1.length+(df (iO ws 0 (B 1))).length:=cn (C.part0 ..) (cn (qN ..) ((congrArg i_ (lM ..)).trans<|cn (C.nm.2.1 ..)<|List.length_append))
theorem My (C:Cut ws order W ps name B){start k:Nat}(w:start<k)(y:k<ps.length)(a9:hd=if start=0 then name.2.1 else[])(I:Inv ws B mark hd k fs b c lines X d)(h1:k=1->lines=[]/\c=name.2.1.length/\X=iO ws 0 (B 1)):∃b c lines X d,Inv ws B mark hd (k+1) (du ps start W order mark fs k) b c lines X d:=by
 have g:=C.len5;have l:B (k+1)<=5:=C.le5 (ek _) (y);have a:=C.lt k (nT (by assumption)) y
 have J:IX (ps.getD k [])=iO ws (B k) (B (k+1)):=by refine cn ((C.part k (nT (by assumption)) y) ..) ?_;exact AI C.okw _ _
 have f:fZ (ps.getD k [])=df (iO ws (B k) (B (k+1))):=cn ((C.part k (nT (by assumption)) y) ..) (cn (qN ..) rfl)
 have s:(iO ws (B k) (B (k+1))).length=B (k+1)-B k:=jC (g▸l);have n:iO ws (B k) (B (k+1))≠[]:=λe=>by have:=congrArg i_ e;rw[s] at this;simp at this;exact gc (BQ (c_ this) (sB ..) a)
 have o:(df (X++iO ws (B k) (B (k+1)))).length=(df X).length+(df (iO ws (B k) (B (k+1)))).length:=eA _ _;by_cases hc:k>start/\fs.used+(fZ (ps.getD k [])).length>W
 .refine cn (pk hc ..) (cn (J ..) (cn (f ..) ?_))
  have z:c+(df X).length+(df (iO ws (B k) (B (k+1)))).length>W:=by have:=hc.2;rw[I.used,f] at this;exact this
  refine cn (I.vs ..) ?_;by_cases u:2<=k
  .have L:s9 ps k=[]:=by unfold s9;rw[if_neg];intro h;exact absurd (h.1▸u:2<=1) (dd rfl)
   have M:=Et (W:=W) (order:=order) (pr:=X) (iO ws (B k) (B (k+1))) [] lines c (λh=>absurd rfl h) (by refine cn (ib ..) (cn (o ..) ?_);exact gG (vC 0x731962212c28043805b191109 rfl z))
    (λi h1 h2=>by rw[pN] at h1 ⊢;exact C.hit u y I.run (I.ne u) I.at_ h2 (cx (eY (s▸h1) _) (c_ (pC (eV a))))) n (by refine cn (pN ..) ?_;exact C.roomy (d8 (Jy w)) y)
   rw[ib,pN] at M;refine cn (M ..) (cn (L ..) (⟨B k,0,lines++[df X],iO ws (B k) (B (k+1)),d++df X++mark,⟨rfl,rfl,by simp[I.due],zL I.base,rN (d8 (ue (c_ g.symm) l)),by refine cn (s ..) ?_;exact eC (d8 (Jz (sC (d8 (sh a))))) (d8 (JA (sB ..))),λ_=>n,.inl rfl⟩⟩))
  .have N:k=1:=eC (d8 (Jr (jU u))) (d8 (Jy w))
   refine dN (h1 N) λa1 a2 a3=>?_;subst a1;subst a2;subst a3;subst N;simp only[Nat.reduceAdd] at *;have P:dW (ps.getD 0 []++ps.getD 1 [])=name.2.1.length+(df (iO ws 0 (B 1))).length+(df (iO ws (B 1) (B 2))).length:=by refine cn (Hr ..) (cn (C.wid0 ..) ?_);exact congrArg _ (congrArg i_ f)
   have p:∀A∈order,∀i,0<i->i<B 2->A∉ix ws i:=λA q i i1 Q hs=>absurd (P▸C.room0 ⟨A,q,i,i1,Q,hs⟩) (qZ z);have a4:name.2.1.length>0:=List.length_pos_iff.mpr C.nm.2.2;obtain⟨t,R⟩:∃t,ws[B 1]?=aE t:=⟨_,gK (gG (iP 0x700950715048704b0a110e1101 rfl (c_ g.symm) l a))⟩;have hQ:iO ws (B 1) (B 2)=(t.1,t.2.1)::iO ws (B 1+1) (B 2):=congrArg (Gl λt:fY=>(t.1,t.2.1)) (rM R a);have a5:name.2.1.length+(df (iO ws 0 (B 1))).length+(t.1++t.2.1).length>W:=by refine C.move.elim (λhm=>absurd (P▸hm) (qZ z)) λhm=>?_;rw[Hr,C.wid0,rM R (jG _),Mw] at hm;exact yi hm (congrArg _ (congrArg i_ (ib _)))
   have U:Run ws 0 (iO ws 0 (B 1)):=rN (d8 (iP 0x3804a838a824382585088708b0a01 rfl (c_ g.symm) l a));have D:(iO ws 0 (B 1)).length=B 1:=by refine cn ((jC (d8 (iP 0x3804a838a824382585088708b0a01 rfl (c_ g.symm) l a))) ..) ?_;exact eC (d8 (oV (sA ..))) (d8 (jY 0x398104808700b0a09 rfl (sB ..)))
   have Y:[(t.1,t.2.1)]=(iO ws (B 1) (B 2)).take 1:=by refine cn (hQ ..) ?_;rfl
   have F:fG (iO ws 0 (B 1)++[(t.1,t.2.1)]) order=aT:=by
    refine cn (Y ..) (cn ((Dm (by exact d8 (ue (c_ g.symm) l)) (by exact d8 (zQ a))) ..) (C.nohit (b:=0) (U.append (by exact eC (d8 (Jp (c_ D))) (d8 (jY 0x38240438058530902 rfl (c_ D.symm)))) (by exact d8 (iP 0x1c02541c54121c12c2844398508b0a01 rfl (c_ g.symm) l a))) λA q i i1 Q=>p A q i i1 ?_))
    rw[dJ,D,jC (by exact d8 (iP 0x1c02541c54121c12c2844398508b0a01 rfl (c_ g.symm) l a))] at Q
    exact gG (vC 0x382585008730a01602221cd88808130a190e1909 rfl a (sC (d8 (gp 3849772534273 rfl))) Q)
   have v:=CD (W:=W) (order:=order) (pr:=iO ws 0 (B 1)) (c:=name.2.1.length) (x:=(t.1,t.2.1)) a4 (by refine cn (eA ..) (cn (Mx ..) (ie (ic ..) ?_));exact a5) F (xO U C.okw)
   have Z:oF W order ⟨[],iO ws 0 (B 1),name.2.1.length⟩ (iO ws (B 1) (B 2))=⟨[df (iO ws 0 (B 1))],(if t.1=[] then[32] else t.1,t.2.1)::iO ws (B 1+1) (B 2),0⟩:=by
    refine cn (hQ ..) ?_;show oF W order (fy W order ⟨[],iO ws 0 (B 1),name.2.1.length⟩ (t.1,t.2.1)) (iO ws (B 1+1) (B 2))=_;refine cn (v ..) ?_;have a0:=uF (W:=W) (order:=order) (lines:=[df (iO ws 0 (B 1))]) (iO ws (B 1+1) (B 2)) [(if t.1=[] then[32] else t.1,t.2.1)] (.inr λi i1 Q=>?_)
    .exact a0
    .have G:Run ws (B 1) [((if t.1=[] then[32] else t.1:Wd),t.2.1)]:=by
      intro i x hx;induction i with
      |zero=>cases hx;exact sg t R rfl (λh=>gc (la [] 1880295938 rfl h))
      |succ i=>simp at hx
     have a6:=(G.append (m:=B 1+1) rfl (show B 2<=ws.length by exact d8 (ue (c_ g.symm) l))).take i
     refine C.nohit a6 λA q j j1 j2=>p A q j (gG (Jq j1)) ?_;rw[kN,dJ,jC (by exact d8 (ue (c_ g.symm) l))] at j2
     simp at j2;exact fl j2 (cx (eY (pI ..) _) (c_ ((ic ..).symm.trans (pC a))))
   refine cn (Z ..) ?_;have H:s9 ps 1=if t.1=[] then[32] else[]:=by
    dsimp only[s9];have:((ps.getD 1 []).getD 0 default)=t:=by
     refine cn ((C.part 1 (d8 (la [] 1884490250 rfl)) y) ..) ?_;have:(dR ws (B 1) (B (1+1)))[0]?=aE t:=by refine cn ((xM (a)) ..) ?_;exact R
     simp[kK,this]
    refine cn (this ..) ?_;simp
   have r:df ((if t.1=[] then[32] else t.1,t.2.1)::iO ws (B 1+1) (B 2))=s9 ps 1++df (iO ws (B 1) (B 2)):=by refine cn (H ..) (cn (hQ ..) ?_);by_cases a7:t.1=[]<;>simp[df,a7]
   have aa:[]++[df (iO ws 0 (B 1))]=([df (iO ws 0 (B 1))]:List Wd):=rfl;refine⟨B 1,0,[df (iO ws 0 (B 1))],(if t.1=[] then[32] else t.1,t.2.1)::iO ws (B 1+1) (B 2),d++df (iO ws 0 (B 1))++mark,⟨rfl,cn (r ..) rfl,cn (r ..) (cn (I.due ..) rfl),?_,?_,?_,λ_=>l5 _ _,.inl rfl⟩⟩
   .exact zL I.base
   .have G:Run ws (B 1) [((if t.1=[] then[32] else t.1:Wd),t.2.1)]:=by
     intro i x hx;induction i with
     |zero=>cases hx;exact sg t R rfl (λh=>gc (la [] 1880295938 rfl h))
     |succ i=>simp at hx
    exact G.append (m:=B 1+1) rfl (d8 (ue (c_ g.symm) l))
   .refine cn (j8 ..) (cn ((jC (d8 (ue (c_ g.symm) l))) ..) ?_)
    show B 1+(B 2-(B 1+1)+1)=B 2;have:B 1<B 2:=a;exact eC (d8 (iP 0x708b61412021cd850084b0a11 rfl (sC (d8 (zQ a))))) (d8 (iP 0x736142212021c02c29b0a0911 rfl (sB ..)))
 .refine cn (kh hc ..) (cn (J ..) (cn (f ..) (cn (I.vs ..) ?_)))
  have a8:c+(df (X++iO ws (B k) (B (k+1)))).length<=W:=by refine cn (o ..) ?_;have:¬fs.used+(fZ (ps.getD k [])).length>W:=λh=>hc ⟨w,h⟩;rw[I.used,f] at this;refine ie (ic ..) ?_;exact ia this
  refine cn (CE _ _ a8 ..)<|⟨b,c,lines,X++iO ws (B k) (B (k+1)),d,⟨rfl,by show fs.used+(df (iO ws (B k) (B (k+1)))).length=_;refine cn (I.used ..) (cn (o ..) ?_);exact eC (d8 (iP 0x731161202c29b110901 rfl)) (d8 (iP 0x736221202c2988b0901 rfl)),cn (I.due ..) (cn (ng ..) (cn (j5 ..) rfl)),I.base,I.run.append I.at_ (d8 (ue (c_ g.symm) l)),by refine cn (dJ ..) (cn (s ..) (ie (ic ..) (cn (I.at_ ..) ?_)));exact eC (d8 (Jz (sC (d8 (sh a))))) (d8 (JA (sB ..))),λ_=>by simp[n],I.c0⟩⟩
noncomputable def zM (l:List Nat)(c:Nat)(s:Nat×Nat×Bool)(k:Nat):Nat×Nat×Bool:=if c/2 ^ (k-1)%2=1 then(k,s.2.1+1,s.2.2) else(s.1,s.2.1,s.2.2&&decide (l.getD (k-1) 0<=s.1))
noncomputable def Ua (l:List Nat)(m c:Nat):Nat×Nat×Bool:=(gO 1 (m-1)).foldl (zM l c) (0,1,bK)
noncomputable def Mz (l:List Nat)(m:Nat):List Nat:=(eZ (2 ^ (m-1))).filterMap λc=>if(Ua l m c).2.2 then aE (Ua l m c).2.1 else aT
noncomputable def yX (l:List Nat)(N a:Nat):Nat->Nat->Nat
 |0,k=>k|f+1,k=>if k<N/\l.getD (k-1) 0<=a then yX l N a f (k+1) else k
noncomputable def pn (l:List Nat)(N:Nat):Nat->Nat->List Nat->List Nat
 |0,_,b=>b|f+1,a,b=>if a<N then
  let k:=yX l N a N (a+1)
  if k<N then pn l N f (k+1) (b++[k+1]) else b
  else b
theorem Ub:yX l N a (f+1) k=if k<N/\l.getD (k-1) 0<=a then yX l N a f (k+1) else k:=rfl
theorem Dn:pn l N (f+1) a b=if a<N then(if yX l N a N (a+1)<N then pn l N f (yX l N a N (a+1)+1) (b++[yX l N a N (a+1)+1]) else b) else b:=rfl
noncomputable def AJ (l:List Nat)(N m:Nat):Bool:=xm (Mz l m)==((if(pn l N 10 0 [0]).contains m then 1 else 0)-(if(pn l N 10 1 [1]).contains m then 1 else 0):Int)
noncomputable def Do (n:Nat)(lo:Nat)(p:Nat->Bool):Bool:=(eZ n).all λa=>!decide (lo<=a)||p a
theorem mG (h:Do n b p=bK)(c:a<n)(d:b<=a):p a=bK:=by
 have:=List.all_eq_true.mp h a (List.mem_range.mpr c)
 simpa [d] using this
noncomputable def MA:Bool:=Do 2 0 λa=>Do 3 a λb=>Do 4 b λc=>Do 5 c λd=>Do 6 d λe=>Do 7 1 λN=>Do (N+1) 1 λm=>AJ [a,b,c,d,e] N m
theorem yY:MA=bK:=by decide+kernel
theorem IZ (h:a<2)(i:b<3)(j:a<=b)(k:c<4)(l:b<=c)(n:d<5)(o:c<=d)(p:e<6)(q:d<=e)(r:N<7)(g:1<=m)(f:m<=N):AJ [a,b,c,d,e] N m=bK:=mG (mG (mG (mG (mG (mG (mG yY h (eW _)) i j) k l) n o) p q) r (cx g f)) (j7 f) g
noncomputable def fa (sizes:List Nat)(i k:Nat):Nat:=((sizes.drop i).take (k+1-i)).sum
theorem qO (sizes)(k):fa sizes k k=sizes.getD k 0:=by
 dsimp only[fa];refine cn (Ny ..) ?_;induction h:sizes.drop k with
 |nil=>
  have:sizes.length<=k:=by simpa using h
  refine cn (kK ..) (cn (ND this ..) ?_);rfl
 |cons a r=>
  have:sizes[k]?=aE a:=by
   have:=congrArg (·[0]?) h
   simpa using this
  simp[kK,this]
theorem yZ (l:List Nat):∀n,(l.take (n+1)).sum=(l.take n).sum+l.getD n 0:=by
 induction l with
 |nil=>intro n;simp|cons a r b=>
  intro n;induction n with
  |zero=>exact iE ..|succ n=>have:=b n;simp only[Fk,nY,List.getD_cons_succ] at *;exact cn (this ..) (cn (ic ..) rfl)
theorem nj (sizes:List Nat)(h:i<=k):fa sizes i (k+1)=fa sizes i k+sizes.getD (k+1) 0:=by
 dsimp only[fa];simp only[show k+1+1-i=(k+1-i)+1 by exact eC (d8 (vC 0x1cc442585008730a61402c446438658530a09 rfl (sB ..) (sC (d8 (jY 0x1c12021c02c298530a09 rfl h))))) (d8 (vC 0x1cc44258530a010e61402c446439850cb0a09 rfl (sB ..) (sC (d8 (Jo h))))),yZ]
 congr 1
 simp only[kK,ye]
 congr 2
 exact eC (d8 (iP 0x730a11612021cc04258530a11 rfl (sC (d8 (Jo h))))) (d8 (iP 0x731109614021cc28058530911 rfl (sB ..)))
theorem Dp (sizes)(h:i<k):fa sizes (i+1) k<=fa sizes i k:=by
 dsimp only[fa];induction b:sizes.drop i with
 |nil=>
  have:sizes.drop (i+1)=[]:=by
   have:sizes.length<=i:=by simpa using b
   simp;exact kM this
  simp only[this];simp
 |cons a r=>
  have e:sizes.drop (i+1)=r:=by simp only[<-List.tail_drop,b];rfl
  simp only[e,show k+1-i=(k+1-(i+1))+1 by exact eC (d8 (vC 0x1cd850884b0a010e61402c446438658530a09 rfl (sB ..) (sC (d8 (jY 0x1c12c280438058530a09 rfl h))))) (d8 (vC 0x1cc442585008730a016c28446439850cb0a09 rfl (sB ..) (sC (d8 (jY 0xe09614021cc28058530a09 rfl h))))),Fk,nY]
  exact ej _ _
theorem uL (sizes)(h:i<=j)(a:j<=k):fa sizes j k<=fa sizes i k:=by
 induction j with
 |zero=>have:i=0:=uR h;refine cn (this ..) ?_;exact d9 _|succ j b=>
  by_cases e:i=j+1
  .refine cn (e ..) ?_;exact d9 _
  .exact cx (Dp sizes (a)) (b (mM (pE h e)) (eV a))
noncomputable def pq (sizes:List Nat)(W k:Nat):Nat:=((eZ k).find? λi=>decide (fa sizes i k<=W)).getD k
theorem rO (sizes)(W k):pq sizes W k<=k:=by
 dsimp only[pq];induction h:(eZ k).find? λi=>decide (fa sizes i k<=W) with
 |none=>exact d9 _|some i=>have:=Nl h;simp at this ⊢;exact eV this
theorem u0 (sizes)(W)(hi:i<k):fa sizes i k<=W↔pq sizes W k<=i:=by
 dsimp only[pq];induction h:(eZ k).find? λi=>decide (fa sizes i k<=W) with
 |none=>rw[List.find?_eq_none] at h;have:=h i (List.mem_range.mpr hi);simp at this ⊢;exact⟨λh=>absurd this (jV h),λh=>absurd hi (jV h)⟩
 |some j=>
  have b:=List.find?_some h;have e:=List.mem_range.mp (Nl h);simp only[decide_eq_true_eq] at b;simp only[OE];constructor
  .intro c
   apply ia;intro a;rw[List.find?_range_eq_some] at h;have:=h.2.2 i a;simp at this;exact absurd this (jV c)
  .exact λd=>cx (uL sizes d (eV hi)) b
theorem rP (sizes)(W k):pq sizes W k<=pq sizes W (k+1):=by
 apply ia;intro h;have a:=rO sizes W k;have b:fa sizes (pq sizes W (k+1)) (k+1)<=W:=(u0 sizes W (fl h (kM a))).mpr (d9 _);have c:fa sizes (pq sizes W (k+1)) k<=W:=by rw[nj sizes (cx (eV h) a)] at b;exact d8 (iP 0x384584808700b0a11 rfl b)
 have:=(u0 sizes W (gG (iP 0x704808700b0a110e1109 rfl a h))).mp c;exact gc (oV this h)
noncomputable def vQ (sizes:List Nat)(W:Nat):List Nat:=[pq sizes W 1,pq sizes W 2,pq sizes W 3,pq sizes W 4,pq sizes W 5]
theorem zN (sizes)(W)(a:1<=k)(b:k<6):(vQ sizes W).getD (k-1) 0=pq sizes W k:=by
 have:=(by decide:∀k<6,1<=k->k=1\/k=2\/k=3\/k=4\/k=5) k b a
 rcases this with rfl|rfl|rfl|rfl|rfl<;>rfl
theorem MB (sizes)(W c)(l)(n:∀k,1<=k->k<sizes.length->∀i<k,(fa sizes i k<=W↔l.getD (k-1) 0<=i)):∀j,j<sizes.length->((gO 1 j).foldl (zM l c) (0,1,bK)).1<=j/\((gO 1 j).foldl (fz sizes W c) (sizes.getD 0 0,1,bK)).1=fa sizes ((gO 1 j).foldl (zM l c) (0,1,bK)).1 j/\((gO 1 j).foldl (fz sizes W c) (sizes.getD 0 0,1,bK)).2=((gO 1 j).foldl (zM l c) (0,1,bK)).2:=by
 intro j;induction j with
 |zero=>intro _;exact n5 (d9 _) ((qO sizes 0).symm) rfl|succ j o=>
  intro d;obtain⟨a,h,m⟩:=o (qY d);refine cn (N_ ..) (cn (Ft ..) (cn (Ft ..) ?_));generalize p:(gO 1 j).foldl (zM l c) (0,1,bK)=g at *;generalize q:(gO 1 j).foldl (fz sizes W c) (sizes.getD 0 0,1,bK)=f at *;simp only[pL,List.foldl_nil];have e:1+j=j+1:=iE _ _;refine cn (e ..) ?_;dsimp only[zM,fz];by_cases b:c/2 ^ (j+1-1)%2=1
  .exact cn (if_pos b ..) (cn (if_pos b ..) (n5 (d9 _) ((qO sizes _).symm) (cn (m ..) rfl)))
  .refine cn (if_neg b ..) (cn (if_neg b ..) (n5 (by simp only;exact kM a) (by simp only[h];exact cn (nj sizes a ..) rfl) ?_))
   have:decide (f.1+sizes.getD (j+1) 0<=W)=decide (l.getD (j+1-1) 0<=g.1):=
    cn (h ..) (ie (nj sizes a ..) (decide_eq_decide.mpr (n (j+1) (ek _) d g.1 (j7 a))))
   simp only[this,m]
theorem I_ (a:sizes≠[])(b:∀k,1<=k->k<sizes.length->∀i<k,(fa sizes i k<=W↔l.getD (k-1) 0<=i)):kJ sizes W=Mz l sizes.length:=by
 dsimp only[kJ,Mz];have d:sizes.length-1<sizes.length:=by have:=List.length_pos_iff.mpr a;exact BB (by assumption) (dd rfl)
 congr 1
 funext c
 have:=(MB sizes W c l b _ d).2.2;unfold nF Ua;exact cn (this ..) rfl
theorem Dq (sizes)(m)(a:k<m):fa (sizes.take m) i k=fa sizes i k:=by
 dsimp only[fa];simp only[P3,FI]
 congr 2
 exact lE (Nat.sub_le_sub_right a i)
theorem MC (n:sizes.length<=6)(o:1<=m)(g:m<=sizes.length):xm (kJ (sizes.take m) W)=(if(pn (vQ sizes W) sizes.length 10 0 [0]).contains m then 1 else 0)-(if(pn (vQ sizes W) sizes.length 10 1 [1]).contains m then 1 else 0):=by
 have f:(sizes.take m).length=m:=by refine cn (kN ..) ?_;exact lE g
 rw[I_ (l:=vQ sizes W) (by intro h;rw[h] at f;simp at f;exact gc (BS (c_ f.symm) o)) λk p j i q=>?_]
 .refine cn (f ..) ?_
  have:=IZ (a:=pq sizes W 1) (b:=pq sizes W 2) (c:=pq sizes W 3) (d:=pq sizes W 4) (e:=pq sizes W 5) (N:=sizes.length) (m:=m)
   (j7 (rO ..)) (j7 (rO ..)) (rP ..) (j7 (rO ..)) (rP ..) (j7 (rO ..)) (rP ..) (j7 (rO ..)) (rP ..) (j7 n) o g
  unfold AJ at this;exact ku this
 .rw[f] at j
  exact cn ((zN sizes W p (gG (iP 0x719008700848704b0a110e1132 rfl n g j))) ..) (cn (Dq sizes m j ..) (u0 sizes W q))
inductive GI:Bool->Nat->List Dl->Bool->Nat->Prop
 |nil {po r}:GI po r [] po r
 |cons {po po1 po':Bool} {r row r':Nat} {g:Wd} {t:fY} {its:List Dl}:(∀c∈g,ub c=bK)->(po=bK->g≠[])->row=r+g.count 10->(po1=cu/\EN t\/po1=bK/\U9 t)->GI po1 row its po' r'->GI po r ((g,t,row)::its) po' r'
theorem GI.good (h:GI po r a c i):oN po r a:=by
 induction h with
 |nil=>trivial|cons d e f g _ b=>
  refine⟨d,e,f,?_⟩;rcases g with⟨rfl,h⟩ |⟨rfl,h⟩
  .exact .inl ⟨h,b⟩
  .exact .inr ⟨h,b⟩
theorem GI.append (h:GI po r a p1 c)(g:GI p1 c b d e):GI po r (a++b) d e:=by
 induction h with
 |nil=>exact g|cons f i j k _ l=>exact .cons f i j k (l g)
def Ru (o:Bool)(t:fY):Prop:=o=cu/\EN t\/o=bK/\U9 t
structure LexW (ws:List fY)(name:fY)(τ:Nat->Bool):Prop where
 w:∀i t,ws[i]?=aE t->(∀c∈t.1,ub c=bK)/\t.1.count 10=0/\(τ i=bK->t.1≠[])/\Ru (τ (i+1)) t
 nm:Ru (τ 0) name
noncomputable def lK (G:Wd)(a:Nat):List fY->List Dl
 |[]=>[]|t::r=>(G++t.1,t,a)::r.map λt=>(t.1,t,a)
theorem qP (G)(a)(h:p≠[]):eM (lK G a p)=G++fZ p:=by
 induction p with
 |nil=>exact absurd rfl h|cons t r=>unfold lK eM fZ;simp only[lM,lM,OJ];simp
theorem sQ (G)(a)(p):(lK G a p).map (λi=>(i.2.1,i.2.2))=p.map λt=>(t,a):=by
 induction p with
 |nil=>rfl|cons t r=>unfold lK;simp
section
variable {ps:List (List fY)}
theorem xP (L:LexW ws name d)(f:b<=ws.length)(c):∀{n a:Nat},a+n=b->GI (d a) c ((dR ws a b).map λt=>(t.1,t,c)) (d b) c:=by
 intro i;induction i with
 |zero=>
  exact @λa h=>by
   have:dR ws a b=[]:=AL (by refine cn (oO f ..) ?_;exact eC (d8 (iP 0x1cc082404380584888708b0a02 rfl (c_ h.symm) (sC (d8 (jY 0x382581008700b0a09 rfl (c_ h)))))) (d8 wq))
   exact cn (this ..) (cn ((show a=b by exact h) ..) .nil)
 |succ n j=>
  exact @λa h=>by obtain⟨t,g⟩:∃t,ws[a]?=aE t:=⟨_,gK (gG (vC 0x3824043805b0a19110e1109 rfl f (c_ h)))⟩;have e:dR ws a b=t::dR ws (a+1) b:=rM g (yi (F5 (ek n)) h);exact cn (e ..) (cn (fS ..) (qs (L.w a t g) λk l m o=>.cons k m (by refine cn (l ..) ?_;exact mK _) o (j (a:=a+1) (eC (d8 (iP 0x708b61412021cc258500b0a11 rfl (c_ h))) (d8 (iP 0x736142212021c02c2988b0a09 rfl (c_ h.symm)))))))
theorem J0 (L:LexW ws name g)(d:a<b)(i:b<=ws.length)(k:∀c∈G,ub c=bK)(f:po=bK->g a=bK):GI po r (lK G (r+G.count 10) (dR ws a b)) (g b) (r+G.count 10):=by
 obtain⟨t,j⟩:∃t,ws[a]?=aE t:=⟨_,gK (cx d i)⟩;have e:dR ws a b=t::dR ws (a+1) b:=rM j d;refine qs (L.w a t j) λl m o p=>cn (e ..) ?_;unfold lK;refine .cons (λc q=>(List.mem_append.mp q).elim (k c) (l c)) (λh s=>o (f h) (List.append_eq_nil_iff.mp s).2) (by refine cn (yl ..) (cn (m ..) ?_);exact mR _) p ?_
 exact xP L i _ (n:=b-(a+1)) (pC d)
theorem ER (L:LexW ws name e)(a:name.1=[])(f:b<=ws.length)(r):GI cu r (lK [] r (name::dR ws 0 b)) (e b) r:=by
 unfold lK;refine .cons (λc d=>?_) (λh=>dG h) (by refine cn (a ..) ?_;exact rfl) L.nm (xP L f r (n:=b) (iH _))
 rw[a] at d;cases d
structure Inv2 (ps:List (List fY))(B:Nat->Nat)(τ:Nat->Bool)(start j:Nat)(fs:FS)(its:List Dl):Prop where
 page:eM its=fs.due
 map:its.map (λi=>(i.2.1,i.2.2))=(((ps.drop start).take j).zip fs.rows).flatMap λpr=>pr.1.map λt=>(t,pr.2)
 gi:GI cu 1 its (τ (B (start+j))) fs.row
 len:fs.rows.length=j
theorem J1 {start j:Nat}(h:start+j<ps.length):(ps.drop start).take (j+1)=(ps.drop start).take j++[ps.getD (start+j) []]:=by simp only[FH,ye,gK h];simp[kK,gK h]
theorem xQ {start j:Nat}{rows:List Nat}(h:start+j<ps.length)(b:rows.length=j)(a:Nat):(((ps.drop start).take (j+1)).zip (rows++[a])).flatMap (λpr:List fY×Nat=>pr.1.map λt=>(t,pr.2))=(((ps.drop start).take j).zip rows).flatMap (λpr:List fY×Nat=>pr.1.map λt=>(t,pr.2))++(ps.getD (start+j) []).map λt=>(t,a):=by
 refine cn (J1 h ..) (cn ((List.zip_append (by rw[kN,nV,b];exact lE (Nat.le_sub_of_add_le (eV (iE start j▸h))))) ..) (cn (yb ..) ?_))
 simp
theorem wd (C:Cut ws order W ps name B)(a:k<ps.length):ps.getD k []≠[]:=by
 intro e;by_cases b:k=0
 .subst b;rw[C.part0] at e;cases e
 .rw[C.part k (j4 b) a] at e
  have:=congrArg i_ e;rw[oO (le_of_le_of_eq (C.le5 (k:=k+1) (ek _) a) C.len5.symm)] at this;exact absurd (C.lt k (j4 b) a) (jV (NO this))
theorem sR (C:Cut ws order W ps name B)(L:LexW ws name d)(e:1<=k)(a:k<ps.length)(f:∀c∈G,ub c=bK)(b:po=bK->d (B k)=bK):GI po r (lK G (r+G.count 10) (ps.getD k [])) (d (B (k+1))) (r+G.count 10):=cn (C.part k e a ..)<|J0 L (C.lt k e a) (le_of_le_of_eq (C.le5 (k:=k+1) (ek _) a) C.len5.symm) f b
theorem ES (C:Cut ws order W ps name B)(L:LexW ws name f){start:Nat}(a:start<ps.length):∃b,Inv2 ps B f start 1 (du ps start W order mark ⟨[],1,0,[],vs⟩ start) b:=by
 have e:du ps start W order mark ⟨[],1,0,[],vs⟩ start=⟨[]++[1],1,0+(fZ (ps.getD start [])).length,[]++fZ (ps.getD start []),oF W order vs (IX (ps.getD start []))⟩:=kh (λh=>absurd h.1 (iC _));refine cn (e ..)<|⟨lK [] 1 (ps.getD start []),cn (qP _ _ (wd C a) ..) rfl,?_,?_,rfl⟩
 .refine cn (sQ ..) ?_
  have:=xQ (ps:=ps) (start:=start) (j:=0) (rows:=[]) (a) rfl 1;exact this.symm
 .by_cases d:start=0
  .subst d
   exact cn (C.part0 ..)<|ER L C.nm.2.1 (le_of_le_of_eq (C.le5 (k:=1) (d9 _) a) C.len5.symm) 1
  .have:=sR C L (k:=start) (j4 d) a (G:=[]) (λc g=>by cases g) (r:=1) (po:=cu) (λh=>dG h)
   exact this
theorem J2 (C:Cut ws order W ps name B)(L:LexW ws name i)(f:mark=[10]\/mark=[13,10]){start j:Nat}(l:1<=j)(d:start+j<ps.length)(I:Inv2 ps B i start j fs a):∃a,Inv2 ps B i start (j+1) (du ps start W order mark fs (start+j)) a:=by
 by_cases e:start+j>start/\fs.used+(fZ (ps.getD (start+j) [])).length>W
 .simp only[pk e]
  have m:∀c∈mark++s9 ps (start+j),ub c=bK:=by
   intro c e;rcases List.mem_append.mp e with h|h
   .rcases f with rfl|rfl
    .simp at h;subst h;decide
    .simp at h;rcases h with rfl|rfl<;>decide
   .unfold s9 at h
    split at h
    .simp at h;subst h;decide
    .cases h
  have g:(mark++s9 ps (start+j)).count 10=1:=by
   simp only[yl];have n:mark.count 10=1:=by rcases f with rfl|rfl<;>decide
   have o:(s9 ps (start+j)).count 10=0:=by unfold s9;split<;>decide
   exact o▸n
  have b:=sR C L (k:=start+j) (cx l (ej ..)) d m (r:=fs.row) (po:=i (B (start+j))) id;rw[g] at b;refine⟨a++lK (mark++s9 ps (start+j)) (fs.row+1) (ps.getD (start+j) []),?_,?_,?_,?_⟩
  .show eM (a++_)=fs.due++mark++(s9 ps (start+j)++fZ (ps.getD (start+j) []))
   unfold eM;simp only[yb];have:=qP (mark++s9 ps (start+j)) (fs.row+1) (wd C d);unfold eM at this;simp only[this,<-I.page];unfold eM;simp
  .simp only[kx,sQ,I.map]
   exact(xQ d I.len _).symm
  .exact I.gi.append b
  .show(fs.rows++[_]).length=_
   simp only[dJ,I.len];rfl
 .simp only[kh e]
  have b:=sR C L (k:=start+j) (cx l (ej ..)) d (G:=[]) (λc e=>by cases e) (r:=fs.row) (po:=i (B (start+j))) id
  simp only[List.count_nil,mR] at b;refine⟨a++lK [] fs.row (ps.getD (start+j) []),?_,?_,?_,?_⟩
  .show eM (a++_)=fs.due++fZ (ps.getD (start+j) [])
   unfold eM;simp only[yb];have:=qP [] fs.row (wd C d);unfold eM at this;simp only[this,<-I.page];unfold eM;exact rfl
  .simp only[kx,sQ,I.map]
   exact(xQ d I.len _).symm
  .exact I.gi.append b
  .show(fs.rows++[_]).length=_
   simp only[dJ,I.len];rfl
noncomputable def gw (ps:List (List fY)):List Nat:=ps.map dW
theorem Dr (a:k<ps.length):(gw ps).getD k 0=(fZ (ps.getD k [])).length:=by unfold gw;simp[kK,jx,gK a];rfl
def Rv (ps:List (List fY))(W start j:Nat)(fs:FS):Prop:=fs.rows.getLast?=aE fs.row/\((fs.row=1/\fs.rows=dw j 1/\fs.used=fa (gw ps) start (start+j-1)/\∀k,start<k->k<start+j->fa (gw ps) start k<=W)\/
  (2<=fs.row/\∃a,start<a/\a<start+j/\fs.rows.count 1=a-start/\fa (gw ps) start a>W/\∀k,start<k->k<a->fa (gw ps) start k<=W))
theorem ET {start:Nat}(a:start<ps.length):Rv ps W start 1 (du ps start W order mark ⟨[],1,0,[],vs⟩ start):=by
 have e:du ps start W order mark ⟨[],1,0,[],vs⟩ start=⟨[]++[1],1,0+(fZ (ps.getD start [])).length,[]++fZ (ps.getD start []),oF W order vs (IX (ps.getD start []))⟩:=kh (λh=>absurd h.1 (iC _));simp only[e];refine⟨rfl,.inl ⟨rfl,rfl,?_,λk b c=>absurd c (jV b)⟩⟩;show 0+_=_;simp only[show start+1-1=start by exact xY _ _ _,qO,Dr a]
 exact iH _
theorem J3 {start j:Nat}(g:1<=j)(p:start+j<ps.length)(I:Rv ps W start j fs):Rv ps W start (j+1) (du ps start W order mark fs (start+j)):=by
 refine dz I λs I=>?_;have a:fa (gw ps) start (start+j)=fa (gw ps) start (start+j-1)+(fZ (ps.getD (start+j) [])).length:=by
  have:=nj (gw ps) (i:=start) (k:=start+j-1) (d8 (Jx g (sB ..)));rw[show start+j-1+1=start+j by exact eC (d8 (iP 0x731109614021cc28058531109 rfl (sC (d8 (Ju g))))) (d8 (iP 0x730a11612021cc24058530a11 rfl (sB ..))),Dr p] at this
  exact this
 by_cases l:start+j>start/\fs.used+(fZ (ps.getD (start+j) [])).length>W
 .simp only[pk l]
  refine⟨by simp,.inr ?_⟩
  rcases I with⟨b,d,c,f⟩ |⟨b,m,d,c,f,n,o⟩
  .refine⟨by show 2<=fs.row+1;exact d8 (gp 0x38042838498530a01 rfl (c_ b.symm)),start+j,eY g _,jG _,?_,?_,f⟩
   .show(fs.rows++[fs.row+1]).count 1=_
    simp only[d,yl,b];simp
   .refine cn (a ..) (ie (c ..) ?_);exact l.2
  .refine⟨by show 2<=fs.row+1;exact yj b,m,d,gG (iP 0xe62212c28043805b0a1109 rfl c),?_,n,o⟩
   show(fs.rows++[fs.row+1]).count 1=_;exact cn (yl ..) (cn (f ..) (cn ((AX (by simp;exact fx (gG (gp 0xe01120e0201 rfl b)))) ..) rfl))
 .simp only[kh l]
  refine⟨by simp,?_⟩
  rcases I with⟨b,d,c,f⟩ |⟨b,m,d,c,f,n,o⟩
  .left
   refine⟨b,?_,?_,λk q r=>?_⟩
   .show fs.rows++[fs.row]=_
    simp only[d,b,List.replicate_succ']
   .show fs.used+_=_
    simp only[show start+(j+1)-1=start+j by exact eC (d8 (iP 0x736142212c280438058531109 rfl (sC (d8 (jY 7904125405235457 rfl))))) (d8 (iP 0x730a116c282404398480b0a11 rfl (sB ..))),a,c]
   .by_cases e:k=start+j
    .subst e
     refine cn (a ..) (ie (c ..) ?_);have:¬fs.used+(fZ (ps.getD (start+j) [])).length>W:=λh=>l ⟨by exact gG (jY 0x700850704b0109 rfl g),h⟩
     exact ia this
    .exact f k q (pE (mM r) e)
  .right
   refine⟨b,m,d,gG (iP 0xe62212c28043805b0a1109 rfl c),?_,n,o⟩;show(fs.rows++[fs.row]).count 1=_;exact cn (yl ..) (cn (f ..) (cn ((AX (by simp;exact fx (gG (gp 0xe01120e0a01 rfl b)))) ..) rfl))
end
theorem y_ (l):dX ⟨l,[],0⟩=⟨l,[],0⟩:=by refine cn (jO ..) ?_;simp only[zr];exact cn ((if_neg (dd rfl)) ..) rfl
theorem YS (h:a<n):a+(n-a-1)+1=n:=by rw[ic,sW (v7 h)];exact pC (eV h)
noncomputable def Uc (ps:List (List fY))(W:Nat)(order mark:Wd)(name:fY)(start n:Nat):FS:=(gO start n).foldl (du ps start W order mark) ⟨[],1,0,[],⟨[],[],(if start=0 then name.2.1 else[]:Wd).length⟩⟩
theorem MD {start n:Nat}:Uc ps W order mark name start (n+1)=du ps start W order mark (Uc ps W order mark name start n) (start+n):=by delta Uc;rw[N_,Ft];rfl
inductive FoldOk (ps:List (List fY)) (start W:Nat) (rows:List Nat):Prop
 |all:rows≠[]->rows.getLast?=aE 1->(∀k,start<k->k<ps.length->fa (gw ps) start k<=W)->FoldOk ps start W rows
 |cut (ks:Nat):rows≠[]->rows.getLast?≠aE 1->start<ks->ks<ps.length->rows.count 1=ks-start->fa (gw ps) start ks>W->(∀k,start<k->k<ks->fa (gw ps) start k<=W)->FoldOk ps start W rows
inductive AllI (ws:List fY) (B:Nat->Nat) (mark:Wd) (name:fY) (τ:Nat->Bool) (ps:List (List fY)) (W start n:Nat) (fs:FS):Prop
 |mk (b c:Nat) (lines:List Wd) (X:List Ch) (base:Wd) (its:List Dl):Inv ws B mark (if start=0 then name.2.1 else[]) (start+n+1) fs b c lines X base->(start+n=0->lines=[]/\c=name.2.1.length/\X=iO ws 0 (B 1))->Inv2 ps B τ start (n+1) fs its->Rv ps W start (n+1) fs->AllI ws B mark name τ ps W start n fs
theorem Rw (C:Cut ws order W ps name B)(L:LexW ws name p)(j:mark=[10]\/mark=[13,10]){start:Nat}:∀n,start+n<ps.length->AllI ws B mark name p ps W start n (Uc ps W order mark name start (n+1)):=by
 intro q;induction q with
 |zero=>intro h;obtain⟨b,c,a,X,d,I,l⟩:=IY (mark:=mark) C h;exact eF (ES (mark:=mark) (vs:=⟨[],[],(if start=0 then name.2.1 else[]:Wd).length⟩) C L h) λg m=>.mk b c a X d g I (λe=>l e) m (ET h)
 |succ n r=>
  intro h;rcases r (qY h) with⟨b,c,a,X,d,g,I,l,m,s⟩
  refine cn (MD ..) ?_;generalize Uc ps W order mark name start (n+1)=y at *;obtain⟨t,u,v,w,f,x⟩:=My C (k:=start+n+1) (start:=start) (j7 (eO ..)) (h) rfl I (λe=>l (vk e));exact eF (J2 C L j (ek _) (h) m) λi o=>.mk t u v w f i x (λe=>(v8 _ e).elim) o (J3 (ek _) (h) s)
theorem J4 (C:Cut ws order W ps name B)(L:LexW ws name P)(u:mark=[10]\/mark=[13,10]){start:Nat}(g:start<ps.length):FoldOk ps start W (j9 ps start W order mark):=by
 rcases Rw C L u (start:=start) (ps.length-start-1) (Oq (c_ (YS g))) with⟨b,c,a,X,f,j,I,_,q,r,F⟩
 have m:(if start=0 then((ps.getD 0 []).getD 0 default).2.1 else[]:Wd)=if start=0 then name.2.1 else[]:=by refine cn (C.part0 ..) ?_;rfl
 have n:∀i:FS,Uc ps W order mark name start (ps.length-start)=i->
  (∃b c a X f,Inv ws B mark (if start=0 then name.2.1 else[]) ps.length i b c a X f)->(∃j,Inv2 ps B P start (ps.length-start) i j)->j9 ps start W order mark=i.rows:=by
  rintro i o ⟨b,c,a,X,f,I⟩ ⟨j,q⟩
  unfold j9;refine cn (m ..) ?_;have o:(gO start (ps.length-start)).foldl (du ps start W order mark) ⟨[],1,0,[],⟨[],[],(if start=0 then name.2.1 else[]:Wd).length⟩⟩=i:=o
  simp only[o];have G:=I.ne C.n2;have s:0<c+(df X).length:=by
   have H:=xO I.run C.okw G;induction v:X.getLast? with
   |none=>exact absurd (List.getLast?_eq_none_iff.mp v) G|some x=>
    rw[v] at H;have w:x∈X:=NW v;have z:x.2≠[]:=λe=>H (cn (sZ ..) (cn (e ..) rfl));have:0<x.2.length:=List.length_pos_iff.mpr z;have t:x.2.length<=(df X).length:=by
     have:∀(l:List Ch),x∈l->x.2.length<=(df l).length:=by
      intro l;induction l with
      |nil=>intro h;cases h|cons y l Q=>
       intro h;have e:(df (y::l)).length=y.1.length+y.2.length+(df l).length:=by simp[df];exact(ic ..).symm
       refine cn (e ..) ?_;rcases List.mem_cons.mp h with rfl|h
       .exact d8 (iP 7901926340102401 rfl)
       .have:=Q h;exact cx this (ej ..)
     exact this X w
    exact gG (iP 0x38240438058501070130911 rfl t this)
  have R:dX i.vs=⟨a++[df X],[],0⟩:=
   cn (I.vs ..)<|vN (xO I.run C.okw) s
  rw[R,y_];have p:(if start=0 then name.2.1 else[])++f_ mark (a++[df X])=i.due:=ie (I.base ..) (cn (I.due ..) rfl)
  simp only[p,ne_eq,not_true_eq_false,or_self,if_false];have d:=EO j q.gi.good (page:=i.due) (pre:=[]) (ls:=⟨i.due,1⟩) (λ_=>cn (q.page ..) rfl) (λh=>dG h) rfl;obtain⟨J,d⟩:=d;rw[q.map,lY (by refine cn (nV ..) ?_;exact d9 _)] at d
  refine cn (d ..) ?_;rfl
 have U:=n _ rfl ⟨b,c,a,X,f,by have:=I;rwa [sW (v7 g),YS g] at this⟩ ⟨j,by have:=q;rwa [sW (v7 g)] at this⟩
 rw[sW (v7 g)] at r F;refine cn (U ..) ?_;generalize Uc ps W order mark name start (ps.length-start)=i at *;revert i;refine Jj ?_;set_option tactic.hygienic false in intros
 have M:i.rows≠[]:=λe=>by rw[e] at r;cases r
 rcases F with⟨A,N,t,D⟩ |⟨A,Y,N,t,D,Z,h6⟩
 .exact .all M (cn (r ..) (cn (A ..) rfl)) (λk k1 k2=>D k k1 (gG (vC 0x1cc4424043805850c870cb0911 rfl (sB ..) k2)))
 .exact .cut Y M (by refine cn (r ..) ?_;simp;exact fx A) N (gG (vC 0x1c22c2404398084b0a190e1911 rfl (sC (d8 (sh g))) t)) D Z h6
theorem Hs:∀{f k:Nat},k<=b->b-k<=f->(∀m,k<=m->m<b->m<N/\l.getD (m-1) 0<=a)->(N<=b\/¬l.getD (b-1) 0<=a)->yX l N a f k=b:=by
 intro i;induction i with
 |zero=>exact @λk d g _ _=>by show k=b;exact eC (d8 (oV d)) (d8 (BQ g (sB ..)))
 |succ f j=>
  exact @λk d g h c=>by
   refine cn (Ub ..) ?_;by_cases e:k=b
   .subst e
    exact cn ((if_neg (by rintro ⟨n,o⟩;rcases c with c|c;exact absurd n (jV c);exact c o)) ..) rfl
   .exact cn ((if_pos (h k (d9 _) (pE d e))) ..)<|j (pE d e) (Nat.pred_le_pred g) (λm p q=>h m (eV p) q) c
theorem xR (C:Cut ws order W ps name B)(L:LexW ws name z)(q:mark=[10]\/mark=[13,10])(u:ps.length<=6):∀(f g:Nat) {a:Nat} {c:List Nat},1<=f->1<=g->ps.length<a+f->ps.length<a+g->il ps W order mark f a c=pn (vQ (gw ps) W) ps.length g a c:=by
 intro f;induction f with
 |zero=>exact @λg a c h=>absurd h (dd rfl)
 |succ f v=>
  intro g;rcases g with _|g
  .exact @λa c _ h=>absurd h (dd rfl)
  .intro a c _ _ s t
   refine cn (KR ..) (cn (Dn ..) ?_);by_cases e:a<ps.length
   .refine cn (if_pos e ..) (cn (if_pos e ..) ?_)
    have i:∀m,a<m->m<ps.length->(fa (gw ps) a m<=W↔(vQ (gw ps) W).getD (m-1) 0<=a):=λm j d=>cn ((zN _ _ (nT (by assumption)) (cx d u)) ..)<|u0 _ _ j
    rcases J4 C L q e with⟨k,b,l⟩ |⟨p,k,b,n,o,w,x,y⟩
    .refine cn (if_neg k ..) (cn (if_pos b ..) ?_)
     have r:yX (vQ (gw ps) W) ps.length a ps.length (a+1)=ps.length:=
      Hs (e) (gZ ..) (λm j d=>⟨d,(i m (j) d).mp (l m (j) d)⟩) (.inl (d9 _))
     exact cn (r ..) (cn ((if_neg (iC _)) ..) rfl)
    .refine cn (if_neg k ..) (cn (if_neg b ..) ?_)
     have r:yX (vQ (gw ps) W) ps.length a ps.length (a+1)=p:=
      Hs (n) (d8 (iP 0x382585008700888708b0a09 rfl o (sA ..))) (λm j d=>⟨by exact gG (iP 0x382585008700b0a110e1109 rfl o d),(i m (gG (BO j)) (gG (iP 0x382585008700b0a110e1109 rfl o d))).mp (y m (gG (BO j)) d)⟩) (.inr λh=>by have:=(i p n o).mpr h;exact gc (oV this x))
     exact cn (r ..) (cn (if_pos o ..) (cn (w ..) (cn ((show a+(p-a)+1=p+1 by exact eC (d8 (iP 0x708b09010e614c04258530a11 rfl (sC (d8 (sh n))))) (d8 (iP 0x731109010e61402c298530911 rfl (sB ..)))) ..) (v g (d8 (iP 0x736142212c280438058504870530a11 rfl s e)) (d8 (iP 0x736142212c280438058504870530a11 rfl t e)) (gG (vC 0x382585008736143202c284438458cb0a09 rfl n s)) (gG (vC 0x382585008736143202c284438458cb0a09 rfl n t))))))
   .exact cn (if_neg e ..) (cn (if_neg e ..) rfl)
theorem zO:∀{f a:Nat} {b:List Nat},b≠[]->pn l N f a b≠[]:=by
 intro c;induction c with
 |zero=>exact @λa b h=>h
 |succ f d=>
  exact @λa b h=>cn (Dn ..)<|iteInduction (motive:=λx=>x≠[]) (λ_=>iteInduction (motive:=λx=>x≠[]) (λ_=>d (by simp)) λ_=>h) λ_=>h
theorem J5 (C:Cut ws order W ps name B)(L:LexW ws name f)(b:mark=[10]\/mark=[13,10])(a:ps.length<=6):il ps W order mark 20 0 [0]≠[]/\il ps W order mark 20 1 [1]≠[]/\∀m,1<=m->m<=ps.length->xm (kJ ((gw ps).take m) W)=(if(il ps W order mark 20 0 [0]).contains m then 1 else 0)-(if(il ps W order mark 20 1 [1]).contains m then 1 else 0):=by
 refine cn ((xR C L b a 20 10 (by exact d8 (la [] 1884490402 rfl)) (by exact d8 (la [] 1884490322 rfl)) (by exact gG (gp 0x719008700ba202 rfl a)) (by exact gG (gp 0x719008700b5202 rfl a))) ..) (cn ((xR C L b a 20 10 (by exact d8 (la [] 1884490402 rfl)) (by exact d8 (la [] 1884490322 rfl)) (by exact gG (gp 0x719008700ba20a rfl a)) (by exact gG (gp 0x719008700b520a rfl a))) ..) ?_)
 have c:(gw ps).length=ps.length:=by unfold gw;exact eE ..
 refine n5 (zO (l5 _ _)) (zO (l5 _ _)) (λm d e=>?_);have:=MC (sizes:=gw ps) (W:=W) (m:=m) (d8 (jY 0x719008700848704b0a32 rfl a (c_ c))) d (d8 (iP 0x704808700888708b0a09 rfl (c_ c.symm) e));rw[c] at this;exact this
theorem EU:∀{p1 p0:List fY},p1≠[]->∃m,m<p1.length/\oB W p0 p1=(p0++p1.take m,p1.drop m)/\(0<m->dW (p0++p1.take m)<=W)/\(dW (p0++p1)<=W\/dW (p0++p1.take (m+1))>W):=by
 intro d;induction d with
 |nil=>exact @λ_ h=>absurd rfl h
 |cons t r e=>
  exact @λp0 _=>by
   dsimp only[oB];by_cases a:dW (p0++t::r)>W/\W>=dW (p0++[t])
   .refine cn (if_pos a ..) ?_
    have f:r≠[]:=by rintro rfl;exact absurd a.1 (jV a.2)
    refine uc (e (p0:=p0++[t]) f) λm g i j k=>⟨m+1,by simp;exact g,by refine cn (i ..) ?_;simp,λ_=>?_,by simpa using k⟩
    by_cases b:m=0
    .subst b;exact a.2
    .simpa using j (j4 b)
   .refine cn (if_neg a ..)<|⟨0,ek _,by simp,λh=>iC _ h |>.elim,?_⟩
    by_cases c:dW (p0++t::r)<=W
    .exact .inl c
    .right
     have:¬W>=dW (p0++[t]):=λh=>a ⟨by exact jU c,h⟩
     dsimp only[Fk,List.take_zero];exact jU this
theorem Ds:room<=hY ws first a room b:=iteInduction (motive:=(room<=·)) (λ_=>r6 ..) (λ_=>d9 _)
theorem room_ge:∀{l:List (Nat×Nat)} {room:Nat},room<=l.foldl (hY ws first a) room/\∀b∈l,(a.any λs=>s.any λk=>decide (b.1<k/\k<b.2))=bK->dW ((if b.1=0 then first else[])++dR ws b.1 b.2)<=l.foldl (hY ws first a) room:=by
 intro f;induction f with
 |nil=>exact @λroom=>⟨d9 _,λb h=>by cases h⟩
 |cons x l g=>
  exact @λroom=>by
   obtain⟨e,i⟩:=g (room:=hY ws first a room x)
   refine⟨cx Ds e,λb d c=>?_⟩;rcases List.mem_cons.mp d with rfl|d
   .refine cn (pL ..)<|Nat.le_trans ?_ e
    dsimp only[hY];exact cn (c ..) (cn (if_pos rfl ..) (q_ _ _))
   .exact i b d c
noncomputable def gV (ws:List fY)(c:Nat):List Nat:=([1,2,3,4]:List Nat).filter λk=>c∈ix ws k
theorem spots_mem:k∈gV ws c↔(1<=k/\k<5)/\c∈ix ws k:=by
 dsimp only[gV];rw[List.mem_filter];simp only[lP,fh,or_false,decide_eq_true_eq];constructor
 .rintro ⟨h,g⟩;exact⟨by rcases h with rfl|rfl|rfl|rfl<;>decide,g⟩
 .rintro ⟨h,g⟩;exact⟨(by decide:∀k<5,1<=k->k=1\/k=2\/k=3\/k=4) k h.2 h.1,g⟩
theorem Dt (ws):∀ordw:Wd,∃b a,ordw=b++a/\(∀e∈b,gV ws e=[])/\((a=[]/\(ordw.map (gV ws)).filter (·≠[])=[])\/∃f r rest,a=f::r/\gV ws f≠[]/\(ordw.map (gV ws)).filter (·≠[])=gV ws f::rest):=by
 intro i;induction i with
 |nil=>exact⟨[],[],rfl,λ_ h=>(by cases h),.inl ⟨rfl,rfl⟩⟩
 |cons c ordw j=>
  exact by
   by_cases d:gV ws c=[]
   .refine lF (j) λb a k l m=>BN (c::b) a (by refine cn (k ..) ?_;rfl) (λe g=>?_) ?_
    .rcases List.mem_cons.mp g with rfl|h
     .exact d
     .exact l e h
    .exact cn (fS ..) (cn (pK ..) (cn ((if_neg (by simpa using d)) ..) m))
   .exact BN ([]) (c::ordw) rfl (λ_ h=>(by cases h)) (.inr ⟨c,ordw,(ordw.map (gV ws)).filter (·≠[]),rfl,d,cn (fS ..) (cn (pK ..) (cn ((if_pos (decide_eq_true d)) ..) rfl))⟩)
theorem uM (h:m<=e):(dR ws 0 e).take m=dR ws 0 m:=by dsimp only[dR];simp only[Bo,FI,lE h]
theorem zP:(dR ws 0 e).drop m=dR ws m e:=by dsimp only[dR];exact rfl
abbrev GF (a:List Nat)(D:Nat->Nat):Prop:=(D 0=0/\D (a.length+1)=5)/\
 (∀k<a.length+1,D k<D (k+1)/\D (k+1)<=5/\∀i∈a,i<=D k\/D (k+1)<=i)/\
 (∀i<5,1<=i->(i∈a↔∃j,j<a.length/\i=D (j+1)))/\
 (0::a++[5]).zip (0::a++[5]).tail=(0,D 1)::(eZ a.length).map λj=>(D (j+1),D (j+2))
noncomputable def Ud (a:List Nat)(k:Nat):Nat:=(0::a++[5]).getD k 5
theorem Zc:∀a b c d:Bool,GF (([1,2,3,4]:List Nat).filter λk=>[a,b,c,d].getD (k-1) cu) (Ud (([1,2,3,4]:List Nat).filter λk=>[a,b,c,d].getD (k-1) cu)):=by decide+kernel
theorem YT (p:Nat->Bool):GF (([1,2,3,4]:List Nat).filter p) (Ud (([1,2,3,4]:List Nat).filter p)):=by
 have e:([1,2,3,4]:List Nat).filter p=([1,2,3,4]:List Nat).filter λk=>[p 1,p 2,p 3,p 4].getD (k-1) cu:=List.filter_congr λx a=>by simp at a;rcases a with rfl|rfl|rfl|rfl<;>rfl
 rw[e];exact Zc ..
noncomputable def WY (m:Nat)(D:Nat->Nat):Nat->Nat
 |0=>0|1=>m|j+2=>D (j+1)
theorem ME {L:List (List Nat)}(h5:ws.length=5)(ok:pe ws) (hn:name.2.2.head?=aE 120/\name.1=[]/\name.2.1≠[]) (g:GF c D) (ho:ordw=C++t) (F:∀f∈C,gV ws f=[]) (hc:(t=[]/\c=[])\/∃N r,t=N::r/\c=gV ws N) (hL:∀f∈ordw,∀i∈gV ws f,i∈c\/gV ws f∈L) (hr:∀d∈(0,D 1)::(eZ c.length).map λj=>(D (j+1),D (j+2)),(L.any λs=>s.any λk=>decide (d.1<k/\k<d.2))=bK->dW ((if d.1=0 then[name] else[])++dR ws d.1 d.2)<=W):∃B,Cut ws ordw W ((oB W [name] (dR ws 0 (D 1))).1::(oB W [name] (dR ws 0 (D 1))).2::((eZ c.length).map λj=>(D (j+1),D (j+2))).map λd=>dR ws d.1 d.2) name B:=by
 obtain⟨⟨d0,dn⟩,J,me,_⟩:=g;obtain⟨Q,p5,p9⟩:=J 0 (ek _);rw[d0] at Q p9;have R:∀b e,(b,e)∈(0,D 1)::(eZ c.length).map (λj=>(D (j+1),D (j+2)))->e<=5->(∀i∈c,i<=b\/e<=i)->∀i,b<i->i<e->∀f∈ordw,f∈ix ws i->dW ((if b=0 then[name] else[])++dR ws b e)<=W:=λb e U q5 q9 i o p f l y=>by have i5:=fl p q5;have G:i∈gV ws f:=spots_mem.mpr ⟨⟨fC (eW _) o,i5⟩,y⟩;exact hr (b,e) U (List.any_eq_true.mpr ⟨_,(hL f l i G).resolve_left λhi=>(q9 i hi).elim (qZ o) (qZ p),List.any_eq_true.mpr ⟨i,G,decide_eq_true ⟨o,p⟩⟩⟩)
 have u:(((eZ c.length).map λj=>(D (j+1),D (j+2))).map λd=>dR ws d.1 d.2).length=c.length:=by rw[eE,eE,v5]
 have X:∀j<c.length,(((eZ c.length).map λj=>(D (j+1),D (j+2))).map λd=>dR ws d.1 d.2).getD j []=dR ws (D (j+1)) (D (j+2)):=λj H=>by rw[kK,jx,jx,Fj H];rfl
 have G:∀j<c.length,(D (j+1),D (j+2))∈(0,D 1)::(eZ c.length).map λj=>(D (j+1),D (j+2)):=λj H=>B0 _ (List.mem_map.mpr ⟨j,List.mem_range.mpr H,rfl⟩);have I:(0,D 1)∈(0,D 1)::(eZ c.length).map (λj=>(D (j+1),D (j+2))):=B8;generalize ((eZ c.length).map λj=>(D (j+1),D (j+2))).map (λd=>dR ws d.1 d.2)=M at u X ⊢;generalize (0,D 1)::(eZ c.length).map (λj=>(D (j+1),D (j+2)))=P at R G I hr;have v:=oO (ws:=ws) (a:=0) (b:=D 1) (h5▸p5);refine uc (EU (W:=W) (p0:=[name]) (p1:=dR ws 0 (D 1)) λe=>jI Q (by rw[e] at v;exact v)) λm z Y m3 m4=>?_
 have z:m<D 1:=yi z v;rw[uM (eV z)] at Y m3;rw[uM z] at m4;rw[zP] at Y;rw[Y];have Z:∀b,m<=b->([name]++dR ws 0 m)++dR ws m b=[name]++dR ws 0 b:=λb hb=>by rw[j5,<-uM hb,<-zP (ws:=ws) (e:=b) (m:=m),F8]
 have n:∀{j:Nat},j+2<M.length+2->j<c.length:=λh=>u▸pz (pz h);refine⟨WY m D,⟨h5,ok,ej 2 _,hn,rfl,λk x w=>?_,λk x w=>?_,?_,⟨C,t,ho,λf l i o p y=>?_,λe=>?_,λN r e i o p=>?_⟩,λk x w A=>?_,λA=>?_,?_,m3⟩⟩
 .rcases k with _|_|j
  .exact absurd x (dd rfl)
  .rfl
  .exact X j (n w)
 .rcases k with _|_|j
  .exact absurd x (dd rfl)
  .exact z
  .exact(J (j+1) (ym (n w))).1
 .show WY m D (M.length+2)=5
  rw[u];exact dn
 .have:=spots_mem.mpr ⟨⟨o,p⟩,y⟩
  rw[F f l] at this;cases this
 .rcases hc with⟨_,q⟩ |⟨_,_,q,_⟩
  .show M.length+2=2
   rw[u,q];rfl
  .rw[q] at e;cases e
 .rcases hc with⟨q,_⟩ |⟨_,_,q,es⟩
  .rw[q] at e;cases e
  .obtain⟨rfl,_⟩:=List.cons.inj (q.symm.trans e)
   have:_↔i∈c:=⟨λh=>es▸spots_mem.mpr ⟨⟨o,p⟩,h⟩,λh=>(spots_mem.mp (es▸h)).2⟩;refine this.trans ((me i p o).trans ⟨λ⟨j,H,e⟩=>⟨j+2,ej 2 j,Nat.add_lt_add_right (u.symm▸H) 2,e⟩,λ⟨k,x,w,e⟩=>?_⟩);rcases k with _|_|j
   .exact absurd x (dd rfl)
   .exact absurd x (dd rfl)
   .exact⟨j,n w,e⟩
 .obtain⟨f,l,i,o,p,y⟩:=A
  rcases k with _|_|j
  .exact absurd x (dd rfl)
  .exact absurd x (dd rfl)
  .have s:=J (j+1) (ym (n w))
   have:=R _ _ (G j (n w)) s.2.1 s.2.2 i o p f l y;rw[if_neg (fx (fC (eW _) (J j (yj (n w))).1))] at this;show dW (M.getD j [])<=W;rw[X j (n w)];exact this
 .obtain⟨f,l,i,o,p,y⟩:=A
  have:=R _ _ I p5 p9 i o p f l y;show dW (([name]++dR ws 0 m)++dR ws m (D 1))<=W;rw[Z _ (eV z)];exact this
 .show dW (([name]++dR ws 0 m)++dR ws m (D 1))<=W\/dW (([name]++dR ws 0 m)++dR ws m (m+1))>W
  rw[Z _ (eV z),Z _ (dU m)];exact m4
theorem Ue (v:ws.length=5)(w:pe ws)(s:a.head?=aE 120):∃B,Cut ws ordw (fF ws a ordw W0).2 (fF ws a ordw W0).1 ([],a++(if(ws.getD 0 default).1=[] then[32] else[]),a) B:=by
 refine lF (Dt ws ordw) λx f y o l=>?_;obtain⟨m,L,g,b,z,A⟩:∃m L,GF m (Ud m)/\gA ws ordw=m::L/\((f=[]/\m=[])\/∃n r,f=n::r/\m=gV ws n)/\∀d∈ordw,∀i∈gV ws d,i∈m\/gV ws d∈L:=by
  have b:gA ws ordw=(ordw.map (gV ws)).filter (·≠[])++[[]]:=rfl;have h:∀d∈ordw,∀i∈gV ws d,gV ws d∈gA ws ordw:=λd c i j=>oS _ (List.mem_filter.mpr ⟨uT c,decide_eq_true (List.ne_nil_of_mem j)⟩);rcases l with⟨t,u⟩ |⟨n,r,p,t,u,C⟩
  .rw[u] at b
   refine⟨[],[],YT λ_=>cu,b,.inl ⟨t,rfl⟩,λd c i j=>?_⟩;have:=h d c i j;rw[b] at this;rw[List.mem_singleton.mp this] at j;cases j
  .rw[C] at b
   refine⟨gV ws n,p++[[]],YT λk=>decide (n∈ix ws k),b.trans rfl,.inr ⟨n,r,t,rfl⟩,λd c i j=>?_⟩;have:=h d c i j;rw[b] at this;rcases List.mem_cons.mp this with q|q
   .exact .inl (q▸j)
   .exact .inr q
 dsimp only[fF];rw[b];dsimp only[OX,P6];rw[g.2.2.2];exact ME v w ⟨s,rfl,λe=>by rw[(List.append_eq_nil_iff.mp e).1] at s;cases s⟩ g y o z A room_ge.2
theorem J6:∀m<4,(∀c∈nE m,c=32\/c=9)/\As (nE m):=by
 intro m a;rcases xE a with rfl|rfl|rfl|rfl
 .exact⟨by decide,.inl rfl⟩
 .exact⟨by decide,.inr (.inl rfl)⟩
 .exact⟨by decide,.inr (.inr (.inl rfl))⟩
 .exact⟨by decide,.inr (.inr (.inr rfl))⟩
theorem rQ (h:d.ok)(e):As (lI d e)/\(∀c∈lI d e,c=32\/c=9)/\(e≠[]->e.getLast?≠aE 34->lI d e≠[]):=by
 refine dz (J6 d.w h.w) λg i=>?_;unfold lI;split
 .rename_i f;exact n5 i g (λ_ _=>f)
 .split
  .exact n5 (.inr (.inl rfl)) (by decide) (λ_ _=>by exact l5 _ _)
  .rename_i j;exact n5 (.inl rfl) (λc k=>(by cases k)) (λa b=>absurd ⟨a,b⟩ j)
theorem xS:97+k∈fQ d k:=by unfold fQ;exact oS _ (mZ _ (List.mem_replicate.mpr ⟨by exact fx (gG (gp 1880293642 rfl)),rfl⟩))
theorem Rx:c∈jl f c:=by unfold jl;split<;>simp
theorem we:97+k∈gn d k:=by
 have h:97+k∈(fQ d k).flatMap (jl d.f):=List.mem_flatMap.mpr ⟨_,xS,Rx⟩;unfold gn;simp only[];split
 .exact oS _ (B0 _ h)
 .exact h
theorem Ug (a:k<5):qp (gn d k):=⟨97+k,we,eO _ _,eY (mM a) 97⟩
theorem J7 (h:d.ok)(f:k<5):(gn d k).length<=12/\∀c∈gn d k,c∈qD:=by
 refine dz (Lu h f) λb e=>?_;unfold gn;simp only[];split
 .refine⟨by simp only[dJ,j8];simp only[j8,Bl];exact d8 (gp 0xe52010e6c28098500b0a62 rfl b),λc a=>?_⟩
  rw[OT,lP] at a;rcases a with(rfl|a)|a
  .decide
  .exact e c a
  .rw[ki] at a;simp only[a];decide
 .exact⟨by exact d8 (gp 0x729008700b0a62 rfl b),e⟩
theorem Ry (h:d.ok)(b:k<5)(a):fR (oA d k a):=by
 refine dz (qE h b) λf g=>dz (J7 h b) λi j=>dN (rQ h a) λl m _=>⟨?_,by show(gn d k).length<=20;exact d8 (gp 0x731008700b0aa2 rfl i),by show(fQ d k).length<=20;exact d8 (gp 0x715008700b0aa2 rfl f),?_,?_,?_,Lv j,Lv g⟩
 .show(lI d a).length<=2
  rcases l with e|e|e|e<;>rw[e]<;>simp
 .intro e
  have:=we (d:=d) (k:=k);rw[show gn d k=[] from e] at this;cases this
 .intro e
  have:=xS (d:=d) (k:=k);rw[show fQ d k=[] from e] at this;cases this
 .intro c n
  rcases m c n with rfl|rfl<;>decide
theorem Rz (h:d.ok)(a:k<5):(fQ d k).head?≠aE 120:=by intro e;have b:=(qE h a).2 120 (List.mem_of_head? e);revert b;decide
theorem EV (h:d.ok)(g:k<5):(fQ d k).getLast?≠aE 10/\(fQ d k).getLast?≠aE 34:=by
 have:∃c,(fQ d k).getLast?=aE c/\c≠10/\c≠34:=by
  unfold fQ;rw[qU];rcases xE h.l with e|e|e|e<;>rw[e]
  .refine sg (97+k) ?_ (by exact fx (gG (gp 0x3949808000000030f rfl))) (by exact fx (gG (gp 0x1c0000000045d808000000030f rfl)))
   rw[show xj 0=[] from rfl,Os,Option.none_or,qU,Nz,if_neg (by exact fx (gG (gp 1880293642 rfl)))]
   rfl
  .exact sg 59 rfl (dd rfl) (dd rfl)
  .exact sg 32 rfl (dd rfl) (dd rfl)
  .exact sg 9 rfl (dd rfl) (dd rfl)
 refine hR this λc a b f=>?_;rw[a];exact⟨by simpa using b,by simpa using f⟩
theorem MF (h:d.ok)(n:k<5)(i):Ru (decide (d.f≠1)) (oA d k i)/\(d.f≠1->(gn d k).getLast?≠aE 34):=by
 refine dz (qE h n) λu p=>?_;have g:Esc (decide (d.f=1)) (fQ d k) ((fQ d k).flatMap (jl d.f)):=Mv h.f λc q=>by have:=p c q;unfold qD at this;exact this
 refine dz (EV h n) λr o=>?_;have l:fQ d k≠[]:=by intro e;have:=xS (d:=d) (k:=k);rw[e] at this;cases this
 by_cases j:d.f=1
 .rw[decide_eq_true j] at g
  refine⟨.inl ⟨by simp[j],?_,?_,?_⟩,λh=>absurd j h⟩
  .intro m a b
   show fM (m+1) ⟨gn d k++a,b⟩=(fQ d k,⟨a,b⟩);have e:gn d k++a=34::(fQ d k).flatMap (jl d.f)++34::a:=by unfold gn;simp[j]
   rw[e];exact EM g
  .show(gn d k).getLast?≠aE 10
   unfold gn;simp only[j,if_true];rw[qU];simp
  .show gn d k≠[]
   unfold gn;simp[j]
 .rw[decide_eq_false j] at g
  have e:gn d k=(fQ d k).flatMap (jl d.f):=by unfold gn;simp[j]
  have f:(gn d k).getLast?=(fQ d k).getLast?:=by rw[e,IW]
  refine⟨.inr ⟨by simp[j],?_,?_,?_,?_⟩,λ_=>by rw[f];exact o⟩
  .intro m a b s
   show fM (m+1) ⟨gn d k++a,b⟩=(fQ d k,sP a b);rw[e];exact xK g l s
  .show(gn d k).getLast?≠aE 10
   rw[f];exact r
  .show(gn d k).getLast?≠aE 34
   rw[f];exact o
  .show gn d k≠[]
   intro t;have:=we (d:=d) (k:=k);rw[t] at this;cases this
theorem Du:∀n:Nat,Esc cu (dw n 120) (dw n 120):=by
 intro a;induction a with
 |zero=>exact .nil|succ n b=>
  exact by simp only[mJ];exact .lit (dd rfl) (dd rfl) (dd rfl) (λ_=>by decide) (b)
theorem MG (f:1<=n)(w:Wd):Ru (decide (w≠[])) (([]:Wd),dw n 120++(if w=[] then[32] else[]),dw n 120):=by
 have d:dw n 120≠[]:=by intro e;have:=congrArg i_ e;simp at this;exact gc (BS (c_ this) f)
 have g:(dw n 120).getLast?=aE 120:=by rw[Nz,if_neg (by exact fx (gG (gp 0xe010a0e0201 rfl f)))]
 by_cases c:w=[]
 .left
  refine⟨by simp[c],?_,?_,?_⟩
  .intro m a b
   simp only[c,if_true];show fM (m+1) ⟨dw n 120++[32]++a,b⟩=(dw n 120,⟨a,b⟩);have h:=xK (rest:=32::a) (m:=m) (line:=b) (Du n) d (.inr ⟨32,a,rfl,by decide⟩)
   simp only[j5];show fM (m+1) ⟨dw n 120++32::a,b⟩=_;simp only[h];exact rfl
  .simp only[c,if_true]
   simp only[qU];simp
  .simp[c]
 .right
  refine⟨by simp[c],?_,?_,?_,?_⟩
  .intro m a b i
   simp only[c,if_false,ib];exact xK (Du n) d i
  .simp only[c,if_false,ib,g];decide
  .simp only[c,if_false,ib,g];decide
  .simp only[c,if_false,ib];exact d
noncomputable def dC (dr:Nat->Int):Nat->List fY
 |0=>[]|n+1=>dC dr n++[oA (dg (dr n)) n (if n=0 then[] else((dC dr n).getLast?.map (·.2.1)).getD [])]
noncomputable def u2 (dr:Nat->Int)(n:Nat):fY:=oA (dg (dr n)) n (if n=0 then[] else((dC dr n).getLast?.map (·.2.1)).getD [])
theorem lC (dr:Nat->Int)(n):dC dr (n+1)=dC dr n++[u2 dr n]:=rfl
theorem gx (dr:Nat->Int):∀n,(dC dr n).length=n:=by
 intro a;induction a with
 |zero=>exact rfl|succ n b=>exact by simp only[lC,dJ,b];rfl
theorem pv (dr:Nat->Int):∀{n:Nat},i<n->(dC dr n)[i]?=aE (u2 dr i)
 |n+1,h=>by
  simp only[lC];by_cases a:i<n
  .rw[jR (by rw[gx];exact a)]
   exact pv dr a
  .have:i=n:=eC (d8 (BU h)) (d8 (oV (ia a)))
   subst this;rw[lX (by rw[gx];exact d8 Jm),gx]
   simp
theorem EW (dr:Nat->Int)(n):u2 dr (n+1)=oA (dg (dr (n+1))) (n+1) (gn (dg (dr n)) n):=by
 unfold u2;rw[if_neg (by exact fx (gG wq)),lC,qU]
 rfl
theorem sS (dr:Nat->Int)(h:n<5):fR (u2 dr n):=Ry (vO _) h _
theorem EX (dr:Nat->Int)(n):(u2 dr n).2.1=gn (dg (dr n)) n:=rfl
theorem qQ (dr:Nat->Int)(h:n<=5):∀t∈dC dr n,fR t/\(t.2.2.head?≠aE 120->qp t.2.1):=λt c=>by
 refine eF (mI c) λi b=>?_;have a:i<n:=by have:=(List.getElem?_eq_some_iff.mp b).1;rwa [gx] at this
 rw[pv dr a] at b;obtain rfl:=dk b;exact⟨sS dr (gG (jY 0x715008700b0a090e092a rfl h a)),λ_=>by simp only[EX];exact Ug (gG (jY 0x715008700b0a090e092a rfl h a))⟩
theorem MH (dr:Nat->Int):pe (dC dr 5):=λt c=>by
 obtain⟨i,b⟩:=mI c;have a:i<5:=by have:=(List.getElem?_eq_some_iff.mp b).1;rwa [gx] at this
 rw[pv dr a] at b;obtain rfl:=dk b;refine n5 ?_ ((sS dr a).2.2.2.1) ?_
 .exact(rQ (vO (dr i)) _).1
 .show(fQ (dg (dr i)) i).head?≠aE 120
  exact Rz (vO _) a
theorem J8 (dr:Nat->Int)(m:1<=n):LexW (dC dr 5) (([]:Wd),dw n 120++(if((dC dr 5).getD 0 default).1=[] then[32] else[]),dw n 120) (λi=>if i=0 then decide (((dC dr 5).getD 0 default).1≠[]) else decide ((dg (dr (i-1))).f≠1)):=by
 refine⟨λi t b=>?_,MG m _⟩;have a:i<5:=by have:=(List.getElem?_eq_some_iff.mp b).1;rwa [gx] at this
 have o:=b;rw[pv dr a] at b;obtain rfl:=dk b;refine dN (rQ (vO (dr i)) (if i=0 then[] else((dC dr i).getLast?.map (·.2.1)).getD [])) λr j s=>⟨λc p=>?_,?_,λg=>?_,?_⟩
 .rcases j c p with rfl|rfl<;>decide
 .refine List.count_eq_zero.mpr λq=>?_
  rcases j 10 q with h|h<;>cases h
 .by_cases h:i=0
  .subst h
   have e:(dC dr 5).getD 0 default=u2 dr 0:=by rw[kK,o];rfl
   rw[if_pos rfl,e] at g;exact of_decide_eq_true g
  .rw[if_neg h] at g
   obtain⟨k,rfl⟩:∃k,i=k+1:=⟨i-1,eC (d8 (z5 (sB ..))) (d8 (zQ (sC (d8 (DC (j4 h))))))⟩;have l:=of_decide_eq_true g;rw[show k+1-1=k by exact eC (d8 (BU (sC (d8 BR)))) (d8 (BU (sB ..)))] at l
   rw[EW];refine(rQ (vO (dr (k+1))) (gn (dg (dr k)) k)).2.2 ?_ ((MF (vO (dr k)) (gG (gp 0x38a98530a010e012a rfl a)) []).2 l);intro e;have:=we (d:=dg (dr k)) (k:=k);rw[e] at this;cases this
 .rw[if_neg (by exact fx (gG wq)),show i+1-1=i by exact eC (d8 (BU (sC (d8 BR)))) (d8 (BU (sB ..)))]
  exact(MF (vO _) a _).1
theorem RA (h:∀b e,dW (first++dR ws b e)<=300)(f:∀b e,dW (dR ws b e)<=300):∀{l:List (Nat×Nat)} {room:Nat},room<=300->l.foldl (hY ws first c) room<=300:=by
 intro g;induction g with
 |nil=>exact @λroom a=>a
 |cons x l i=>
  exact @λroom a=>by
   simp only[pL];refine i ?_;unfold hY;split
   .by_cases d:x.1=0
    .simp only[d,if_true]
     exact Nat.max_le.mpr ⟨a,h 0 x.2⟩
    .simp only[d,if_false,pN]
     exact Nat.max_le.mpr ⟨a,f x.1 x.2⟩
   .exact a
theorem Dv (a:p.length<=10)(b:∀t∈p,fR t):dW p<=220:=(LI a b).1
theorem RB (C:Cut ws order W ps name B):ps.length<=6:=by
 have:=C.mono (j:=1) (k:=ps.length) (d9 _) (by have:=C.n2;exact nT (by assumption)) (d9 _)
 simp only[C.top] at this;exact d8 (iP 0x1c54c2404398504888708b0a32 rfl this (sB ..))
theorem MI (dr:Nat->Int)(w:1<=n)(x:n<=10)(G:W0<=300)(y:mark=[10]\/mark=[13,10]):se (fF (dC dr 5) (dw n 120) order W0).1/\2<=(fF (dC dr 5) (dw n 120) order W0).1.length/\(fF (dC dr 5) (dw n 120) order W0).1.length<=6/\(fF (dC dr 5) (dw n 120) order W0).2<=300/\il (fF (dC dr 5) (dw n 120) order W0).1 (fF (dC dr 5) (dw n 120) order W0).2 order mark 20 0 [0]≠[]/\il (fF (dC dr 5) (dw n 120) order W0).1 (fF (dC dr 5) (dw n 120) order W0).2 order mark 20 1 [1]≠[]/\∀m,1<=m->m<=(fF (dC dr 5) (dw n 120) order W0).1.length->xm (kJ ((gw (fF (dC dr 5) (dw n 120) order W0).1).take m) (fF (dC dr 5) (dw n 120) order W0).2)=(if(il (fF (dC dr 5) (dw n 120) order W0).1 (fF (dC dr 5) (dw n 120) order W0).2 order mark 20 0 [0]).contains m then 1 else 0)- (if(il (fF (dC dr 5) (dw n 120) order W0).1 (fF (dC dr 5) (dw n 120) order W0).2 order mark 20 1 [1]).contains m then 1 else 0):=by
 have q:=gx dr 5;have z:(dw n 120).length<=10:=by simp;exact x
 have r:dw n 120≠[]:=by intro e;have:=congrArg i_ e;simp at this;exact gc (BS (c_ this) w)
 have A:asc (dw n 120):=λc H=>by rw[(List.mem_replicate.mp H).2];decide
 have s:(dw n 120).head?=aE 120:=by
  induction n with
  |zero=>exact iC _ w |>.elim
  |succ n=>rfl
 obtain⟨B,C⟩:=Ue (ordw:=order) (W0:=W0) q (MH dr) s;have L:=J8 dr w;have u:=xH (ws:=dC dr 5) z r A;have d:=qQ dr (d9 5);have f:∀b e,∀t∈dR (dC dr 5) b e,t∈dC dr 5:=λb e t a=>lZ (pB a);have g:∀b e,(dR (dC dr 5) b e).length<=5:=λb e=>by unfold dR;rw[nV,kN,q];exact d8 (jY 0x715008700848704b0a2a rfl (pI ..) (sA ..))
 have i:(fF (dC dr 5) (dw n 120) order W0).2<=300:=by
  unfold fF;simp only[];refine RA (λb e=>?_) (λb e=>?_) G
  .refine cx (Dv ?_ λt a=>?_) (dd rfl)
   .rw[dJ]
    exact cx (eT (d9 1) (g b e)) (dd rfl)
   .exact(List.mem_append.mp a).elim (u t) λh=>(d t (f b e t h)).1
  .exact cx (Dv (by have:=g b e;exact d8 (gp 0x715008700b0a52 rfl this)) λt a=>(d t (f b e t a)).1) (dd rfl)
 have D:=RB C;have j:se (fF (dC dr 5) (dw n 120) order W0).1:=by
  refine⟨by exact d8 (gp 0x719008700b0a52 rfl D),λp I=>eF (mI I) λk F=>?_,λe=>by have:=C.n2;rw[e] at this;simp at this⟩
  have l:=(List.getElem?_eq_some_iff.mp F).1;have o:(fF (dC dr 5) (dw n 120) order W0).1.getD k []=p:=by rw[kK,F];rfl
  refine n5 (by rw[<-o];exact wd C l) ?_ (λt a=>?_)
  .rw[<-o]
   by_cases v:k=0
   .subst v;rw[C.part0,j8];have:=g 0 (B 1);exact d8 (gp 0x38a804398500b0a52 rfl this)
   .rw[C.part k (d8 (DC (j4 v))) l];have:=g (B k) (B (k+1));exact d8 (gp 0x715008700b0a52 rfl this)
  .rw[<-o] at a
   by_cases v:k=0
   .subst v
    rw[C.part0] at a;rcases List.mem_cons.mp a with rfl|a
    .refine⟨u _ (by unfold ik;exact List.mem_singleton.mpr rfl),λh=>absurd s h⟩
    .exact d t (f _ _ t a)
   .rw[C.part k (d8 (DC (j4 v))) l] at a
    exact d t (f _ _ t a)
 exact dN (J5 C L y D) λJ M N=>⟨j,C.n2,D,i,J,M,N⟩
theorem J9 {α d:Type}(f:α->d)(l:List α)(a b c:Option Int):gF (l.map f) a b c=(gF l a b c).map f:=by dsimp only[gF];simp only[List.map_filterMap];simp only[eE,jx]
theorem EY:∀n<64,∀p:Nat,p<7->(yC (n_ (aE (p:Int)) aT (aE 7) n).1 (n_ (aE (p:Int)) aT (aE 7) n).2.1 (n_ (aE (p:Int)) aT (aE 7) n).2.2).length<=63:=by decide+kernel
theorem Ja (a:l.length<=63){p:Nat}(b:p<7):(gF l (aE (p:Int)) aT (aE 7)).length<=63:=by dsimp only[gF];exact cx (F3 ..) (EY _ (j7 a) p b)
theorem Jb:∀l:List Int,qi (l.map aO)=aE l:=by
 intro b;induction b with
 |nil=>exact rfl|cons a l c=>exact congrArg (Gd (a::·)) (c)
noncomputable def Sp (n:Nat):Int:=([159,324,86,133,225,644,149]:List Int).getD n 0
noncomputable def UX (a:List Int)(n:Nat):Int:=Sp n+(gF a (aE (n:Int)) aT (aE 7)).sum
noncomputable def lw_3:Ss:=body_law.tl.tl
noncomputable def lw_4:Ss:=lw_3.tl
noncomputable abbrev LM (a b:V)(n o p q r s t u c d e f g h i j k l m:Option V):Mm:=[aE a,n,aE b,o,p,q,r,s,t,u,c,d,e,f,g,h,i,j,k,l,m]
noncomputable def Dw (dr:Nat->Int):V:=cw ((eZ 7).map λn=>aO (dr n))
theorem MJ {l:List Int}(h:l.length<=1000000)(a:Kk (aO l.sum) σ):(ZL lv).spec 1 [cw (l.map aO)] σ Kk:=by
 show zo (if(l.map aO).length<=1000000 then(qi (l.map aO)).map λb=>aO b.sum else aT) _
 rw[if_pos (by simpa using h),Jb,sZ,KS]
 exact a
theorem wg {dr:Nat->Int}{n:Nat}(h:n<7):e9 σ (Dw dr) (aO n)=aE (aO (dr n)):=by dsimp only[Dw];rw[iW (h) (ej ..)];simp[jx,Fj h]
theorem WZ {a:List Int}(f:a.length<=63){Kk:Out->Mm->Sg->Prop} (h:dp (ZL lv) lw_3 (LM (cw (a.map aO)) (Dw (UX a)) B (aE (aV σ.length)) (aE (aO (UX a 5%4))) C D F G H i j m o q r s t u v w) (σ++[cM []]) Kk):dp (ZL lv) body_law [aE (cw (a.map aO)),B,aT,M,N,C,D,F,G,H,i,j,m,o,q,r,s,t,u,v,w] σ Kk:=by
 have I:∀{c Kk},(∀p∈eZ 7,∀b y,b.length<=1000->y (b++[aO (UX a p)]) σ->c (aO p) b σ y)->Kk ((eZ 7).map λp=>aO (UX a p)) σ->lW c Kk (gz 0 7) [] σ:=λf h=>kZ (l:=eZ 7) (g:=λn:Nat=>aO n) f (cZ rfl) h;refine dy (cZ rfl) (I (λp z b k A e=>?_) ?_)
 .have d:p<7:=List.mem_range.mp z
  have J:e9 σ (cw [aO 159,aO 324,aO 86,aO 133,aO 225,aO 644,aO 149]) (aO p)=aE (aO (Sp p)):=by
   rw[iW d (cZ rfl)];clear z A e;rcases p with _|_|_|_|_|_|_|p
   iterate 7 rfl
   exact absurd d (jV (ej 7 p))
  have x:kI σ (cw (a.map aO)) (aE (aO p)) aT (aE (aO 7))=aE (cw ((gF a (aE (p:Int)) aT (aE 7)).map aO)):=by
   have L:nC σ (cw (a.map aO)) (aE (aO p)) aT (aE (aO 7))=aE (cw ((gF a (aE (p:Int)) aT (aE 7)).map aO)):=by dsimp only[nC];dsimp only[m7,m8];rw[if_neg (dd rfl),if_pos (by rw[eE];exact cx f (cZ rfl)),J9]
   dsimp only[kI];rw[L]
  exact dy (h9 rfl) (jZ J (Ek x (MJ (cx (Ja f d) (cZ rfl)) (fw add_i (dy A e)))))
 .exact dy (h9 rfl) (jZ (wg (dr:=UX a) (n:=5) (dd rfl)) (fw (oH (dd rfl)) (dy (h9 rfl) h)))
theorem Jc:∀ws:List fY,gr (ws.map iN)=ws.map λt=>Bv [eJ (fv t.1),eJ (fv t.2.1),eJ (fv t.2.2)]:=by
 intro a;induction a with
 |nil=>exact rfl|cons t ws b=>exact by rw[fS,gr,b];rfl
theorem Dx:∀ws:List fY,(∀t∈ws,fR t)->jT (ws.map λt=>Bv [eJ (fv t.1),eJ (fv t.2.1),eJ (fv t.2.2)])=bK:=by
 intro a;induction a with
 |nil=>exact @λ_=>rfl
 |cons t ws b=>
  exact @λh=>by
   obtain⟨g,i,j,k,l,c,d,e⟩:=h t (.head _);simp only[fS,jT,b λu f=>h u (by simp[f])]
   simp[iZ,jT,kb c,kb d,kb e]
theorem z0:∀ws:List fY,lN (ws.map λt=>Bv [eJ (fv t.1),eJ (fv t.2.1),eJ (fv t.2.2)])<=4:=by
 intro a;induction a with
 |nil=>exact by exact eW _
 |cons t ws b=>
  exact by have:=b;simp[lN,gX] at *;exact Nat.max_le.mpr ⟨by decide,this⟩
theorem MK (h:σ[j]?=aE (cM (ws.map iN)))(c:∀t∈ws,fR t):gq iu σ (aV j) (cw [])=aE (decide (ws≠[])):=by
 have e:w4 σ (aV j)=eK (ws.map λt=>Bv [eJ (fv t.1),eJ (fv t.2.1),eJ (fv t.2.2)]):=by dsimp only[w4];simp only[h,Jc]
 have d:hZ (w4 σ (aV j))=bK:=by rw[e];dsimp only[hZ];have:=z0 ws;simp[iZ,Dx ws c,gX];exact cx this (ej ..)
 show A5 σ _ _=_;dsimp only[A5];rw[if_pos ⟨d,jQ σ []⟩,e];show aE (!j0 _ (eK []))=_
 congr 1
 induction ws with
 |nil=>exact rfl|cons a b=>exact rfl
noncomputable def ML:Ss:=lw_3.hd.bdy
noncomputable def SW (σ:Sg)(ws:List fY):Sg:=σ++[cM (ws.map iN)]
theorem uN (ws):(SW σ ws)[σ.length]?=aE (cM (ws.map iN)):=by unfold SW;rw[tX];rfl
theorem Uh (ws)(t):(SW σ ws).set σ.length (cM (ws.map iN++[iN t]))=SW σ (ws++[t]):=by dsimp only[SW];have:=mf σ [cM (ws.map iN)] 0 (cM (ws.map iN++[iN t]));simp only[mR] at this;simp only[this,kx];rfl
theorem MM {dr:Nat->Int}{n:Nat}(M:1<=lv)(s:n<5) (y:Kk de (LM a (Dw dr) (aE (aO (n:Nat))) (aE (aV σ.length)) z A B C F G c d f g i j l m o p q) (SW σ (dC dr (n+1)))):dp (ZL lv) ML (LM a (Dw dr) (aE (aO (n:Nat))) (aE (aV σ.length)) z A B C F G c d f g i j l m o p q) (SW σ (dC dr n)) Kk:=by
 have N:∀t∈dC dr n,fR t:=λt P=>(qQ dr (eV s) t P).1;have x:=wg (σ:=SW σ (dC dr n)) (dr:=dr) (fl s (by decide:5<=7))
 revert y x;generalize Dw dr=D;intro y x;have u:∀w:Wd,w=(if n=0 then[] else((dC dr n).getLast?.map (·.2.1)).getD [])->w.length<=1000->asc w->(ZL lv).spec 13 [aO (dr n),aO (n:Nat),sv w] (SW σ (dC dr n)) (JH (wu (ZL lv) (XF (qm Kk (dp (ZL lv) cy)) (LM a D (aE (aO (n:Nat))) (aE (aV σ.length)) z A B C F G c d f g i j l m o p q)) 0 (aV σ.length)) (ug (ZL lv) bV (LM a D (aE (aO (n:Nat))) (aE (aV σ.length)) z A B C F G c d f g i j l m o p q))):=by
  refine λw Q H I=>⟨M,dr n,n,w,rfl,s,H,I,Xw (uN _) (by rw[eE,gx];exact cx (eV s) (cZ rfl)) ?_⟩
  rw[Q,Uh];exact y
 have L:=λ{b} (h:decide (dC dr n≠[])=b)=>(MK (uN (σ:=σ) (dC dr n)) N).trans (congrArg aE h);rcases n with _|n
 .refine tx (k:=0) ((L1 (uN _)).trans rfl) (jZ x (dy (h9 rfl) (gu (L (decide_eq_false λh=>h rfl)) ?_)))
  have:=u [] rfl (eW _) jA;unfold sv at this;rw[<-mB] at this;exact this
 .have J:dC dr (n+1)≠[]:=by intro e;have:=gx dr (n+1);rw[e] at this;cases this
  have r:jh (SW σ (dC dr (n+1))) (aV σ.length)=aE ((dC dr n).map iN++[iN (u2 dr n)]):=by rw[oy (uN _),lC,kx];rfl
  have v:=sS dr (n:=n) (qY s);refine tx (k:=0) ((L1 (uN _)).trans rfl) (jZ x (dy (h9 rfl) (gu (L (decide_eq_true J)) (jZ (D8 r (by rw[eE,gx];exact cx (eV (qY s)) (cZ rfl))) (jZ (uJ _) (u (u2 dr n).2.1 ?_ (cx v.2.1 (cZ rfl)) v.2.2.2.2.2.2.1))))))
  rw[if_neg (v8 _),lC,qU];rfl
theorem MN {dr:Nat->Int}(t:1<=lv):∀{m n:Nat} {b:Option V},n+m=5->(∀b,u (LM a (Dw dr) b (aE (aV σ.length)) v w x z A B c d e f g i j l o p r) (SW σ (dC dr 5)))->om (wD Kk (dp (ZL lv) ML) (cJ 1 y q)) u ((gO n m).map λk:Nat=>aO k) (LM a (Dw dr) b (aE (aV σ.length)) v w x z A B c d e f g i j l o p r) (SW σ (dC dr n)):=by
 intro C;induction C with
 |zero=>
  exact @λn b h s=>by have h:n=5:=h;subst h;exact s b
 |succ m D=>
  exact @λn b h s=>MM t (fl (F5 (ek _)) (c_ h)) (D (n:=n+1) ((kL n 1 m).trans h) s)
theorem RC {dr:Nat->Int}(v:1<=lv) (w:∀o,dp (ZL lv) lw_4 (LM a (Dw dr) o (aE (aV σ.length)) p q r s t u b c d e f g h i j k l) (SW σ (dC dr 5)) Kk):dp (ZL lv) lw_3 (LM a (Dw dr) o (aE (aV σ.length)) p q r s t u b c d e f g h i j k l) (σ++[cM []]) Kk:=by
 have x:om (wD (qm Kk (dp (ZL lv) lw_4)) (dp (ZL lv) ML) lw_3.hd.tgt) (Pr (qm Kk (dp (ZL lv) lw_4)) (dp (ZL lv) lw_3.hd.els)) (gz 0 5) (LM a (Dw dr) o (aE (aV σ.length)) p q r s t u b c d e f g h i j k l) (SW σ (dC dr 0)):=MN v (n:=0) (m:=5) rfl w;exact dy (cZ rfl) x
noncomputable def uO (b q:Nat):Wd:=(([59,32,9,34,59,32]:Wd).drop b).take (1+q)
theorem Ht:∀b:Nat,b<4->∀q:Nat,q<3->rp "; \t\"; " (aE (b:Int)) (aE (((b:Int)+1+(q:Int))))=fv (uO b q)/\(uO b q).length<=10:=by decide+kernel
theorem MO:nd (uO b q):=λc a=>by have:c∈([59,32,9,34,59,32]:Wd):=pB (lZ a);exact(by decide:∀c∈([59,32,9,34,59,32]:Wd),c=59\/c=32\/c=9\/c=34) c this
noncomputable def xT (i:Nat):Wd:=if i=0 then[10] else[13,10]
noncomputable def lw_8:Ss:=lw_4.tl.tl.tl.tl
theorem RD {dr:Nat->Int}(L:2<=lv) (p:∀(b q n i W0:Nat),n<7->1<=n->i<2->W0<=15->b<4->q<3->dp (ZL lv) lw_8 (LM d (Dw dr) M (aE (aV σ.length)) (aE (aO (b:Nat))) (aE (sv (uO b q))) (aE (sv (dw n 120))) (aE (sv (xT i))) (aE (iV (fF (dC dr 5) (dw n 120) (uO b q) W0).1)) (aE (aO ((fF (dC dr 5) (dw n 120) (uO b q) W0).2:Nat))) (aE (dj [aO ((fF (dC dr 5) (dw n 120) (uO b q) W0).2:Nat),sv (uO b q),sv (xT i)])) r s u v w y z A B C) (SW σ (dC dr 5)) Kk):dp (ZL lv) lw_4 (LM d (Dw dr) M (aE (aV σ.length)) (aE (aO (dr 5%4))) x5 x6 x7 x8 x9 N r s u v w y z A B C) (SW σ (dC dr 5)) Kk:=by
 obtain⟨b,P,j⟩:∃b:Nat,dr 5%4=(b:Int)/\b<4:=Py (dr 5) 4 (dd rfl);obtain⟨q,Q,k⟩:∃q:Nat,dr 5/4%3=(q:Int)/\q<3:=Py (dr 5/4) 3 (dd rfl);obtain⟨n,R,f,g⟩:∃n:Nat,1+dr 5/12%6=(n:Int)/\1<=n/\n<7:=Px (dr 5/12) 1 6 (dd rfl);obtain⟨i,U,h⟩:∃i:Nat,dr 5/864%2=(i:Int)/\i<2:=Py (dr 5/864) 2 (dd rfl);obtain⟨W0,W,_,a⟩:∃W0:Nat,4+dr 5/72%12=(W0:Int)/\4<=W0/\W0<16:=Px (dr 5/72) 4 12 (dd rfl);have a:W0<=15:=mM a;have p:=p b q n i W0 g f h a j k;have o:∀l:Sg,e9 l (Dw dr) (aO 5)=aE (aO (dr 5)):=λl=>wg (n:=5) (dd rfl);obtain⟨X,Y⟩:=Ht b j q k;rw[P];have D:kI (SW σ (dC dr 5)) (cC "; \t\"; ") (aE (aO (b:Nat))) (aE (aO ((b:Int)+1+(q:Int)))) aT=aE (sv (uO b q)):=by
  have Z:nC (SW σ (dC dr 5)) (cC "; \t\"; ") (aE (aO (b:Nat))) (aE (aO ((b:Int)+1+(q:Int)))) aT=aE (sv (uO b q)):=by
   unfold nC;simp only[m7,m8];rw[if_neg (dd rfl),if_pos ⟨by decide,trivial⟩,X]
   rfl
  unfold kI;rw[Z]
 have hx:fu gk (cC "x") (aO (n:Int))=aE (sv (dw n 120)):=by
  have:cC (fE "x")=mu 120:=by rw[show fE "x"=fv [120] by decide];rfl
  rw[this];exact Ax (d8 (gp 0x1c74c280438058500000001f47 rfl g))
 have m:e9 (SW σ (dC dr 5)) (cw [cC "\n",cC "\x0d\n"]) (aO (i:Nat))=aE (sv (xT i)):=by rw[iW (h) (ej ..)];rcases(by decide:∀i<2,i=0\/i=1) i h with rfl|rfl<;>(show aE (cC _)=aE (cC _);congr 2)
 have F:asc (dw n 120):=λc G=>by rw[(List.mem_replicate.mp G).2];decide
 have H:asc (uO b q):=λc G=>Lj MO G;have I:(dw n 120).length<=10:=by rw[y0];exact cx (eV g) (cZ rfl)
 have J:dw n 120≠[]:=λe=>by have:=congrArg i_ e;rw[y0] at this;rw[this] at f;exact absurd f (dd rfl)
 exact fw add_i (jZ (o _) (fw (nJ (dd rfl) (dd rfl)) (fw ((oH (dd rfl)).trans (congrArg (λx=>aE (aO x)) Q)) (fw add_i (Ek D (jZ (o _) (fw (nJ (dd rfl) (dd rfl)) (fw (oH (dd rfl)) (fw (add_i.trans (congrArg (λx=>aE (aO x)) R)) (fw hx (dy (h9 rfl) (jZ (o _) (fw (nJ (dd rfl) (dd rfl)) (fw ((oH (dd rfl)).trans (congrArg (λx=>aE (aO x)) U)) (jZ m (dy (h9 rfl) (jZ (o _) (fw (nJ (dd rfl) (dd rfl)) (fw (oH (dd rfl)) (fw (add_i.trans (congrArg (λx=>aE (aO x)) W)) (⟨L,σ.length,dC dr 5,dw n 120,uO b q,W0,rfl,uN _,gx dr 5,λt ht=>(qQ dr (d9 5) t ht).1,I,J,Y,F,H,cx a (cZ rfl),dy (h9 rfl) p⟩)))))))))))))))))))))
noncomputable def lw_10:Ss:=lw_8.tl.tl
noncomputable def W_:Ss:=lw_10.tl
theorem Ui (c:a≠[])(d:b≠[]):gq .In σ (cw []) (cw [dQ a,dQ b])=aE cu:=by
 have e:gr [dQ a,dQ b]=[eK (a.map λn:Nat=>vw n),eK (b.map λn:Nat=>vw n)]:=by show[By (gr _),By (gr _)]=_;rw[jP,jP]
 show UU (cw []) (cw [dQ a,dQ b])=_;have f:jT (gr [dQ a,dQ b])=bK:=by rw[e];simp[jT,iZ,ni]
 show(if jT (gr [dQ a,dQ b])=bK/\(DA (cw [])).canLay0=bK/\gX (DA (cw []))<=8 then aE ((gr [dQ a,dQ b]).any λy=>j0 y (DA (cw []))) else aT)=_
 rw[if_pos ⟨f,by rfl,ek _⟩,e]
 show aE (List.any _ λy=>j0 y (eK []))=_;rw[vi,vi,List.any_nil,wa,wa,decide_eq_false c,decide_eq_false d];rfl
theorem Hu:gq .In σ (aO (m:Nat)) (dQ l)=aE (l.contains m):=by
 show(if jT (gr (l.map λn:Nat=>aO n))=bK/\(DA (aO m)).canLay0=bK/\gX (DA (aO m))<=8 then aE ((gr (l.map λn:Nat=>aO n)).any λy=>j0 y (DA (aO m))) else aT)=_
 rw[jP,if_pos ⟨ni l,by rfl,eW _⟩]
 congr 1
 rw[List.any_map];induction l with
 |nil=>rfl|cons a l b=>
  rw[vi,List.contains_cons,b]
  congr 1
  show((a:Int)==(m:Int))=(m==a);by_cases h:m=a
  .subst h
   rw[beq_self_eq_true,beq_self_eq_true]
  .rw[beq_eq_false_iff_ne.mpr h,beq_eq_false_iff_ne.mpr (λe=>h (iD (e:(a:Int)=m)).symm)]
theorem X0 (n):gq .Eq σ (cw (dw n (dB bK))) (cw (dw n (dB bK)))=aE bK:=by
 have e:∀n,gr (dw n (dB bK))=dw n (yB bK):=by
  intro n;induction n with
  |zero=>rfl|succ n a=>rw[mJ,gr,a];rfl
 have l:∀n,jT (dw n (yB bK))=bK:=by
  intro n;induction n with
  |zero=>rfl|succ n a=>rw[mJ,jT,a];rfl
 have d:∀n,lN (dw n (yB bK))<=1:=by
  intro n;induction n with
  |zero=>exact eW _|succ n a=>rw[mJ];simp[lN,gX] at *;try exact a
 have q:∀n,FV (dw n (yB bK)) (dw n (yB bK))=bK:=by
  intro n;induction n with
  |zero=>exact rfl|succ n a=>rw[mJ];assumption
 have b:hZ (w4 σ (cw (dw n (dB bK))))=bK:=by dsimp only[hZ];show(iZ (eK (gr _))&&decide (gX (eK (gr _))<=64))=bK;rw[e];have:=d n;simp[iZ,l,gX];exact cx this (ej ..)
 show yO σ _ _=_;dsimp only[yO];rw[if_pos ⟨b,b⟩];show aE (j0 (eK (gr _)) (eK (gr _)))=_;rw[e];simp[j0,q]
theorem X1:∀s<5,t5 (gL cu s 4)=cu:=by decide+kernel
noncomputable def oP (A B:List Nat)(m:Nat):Int:=(if A.contains m then 1 else 0)-(if B.contains m then 1 else 0)
theorem MP (A B)(m):oP A B m=-1\/oP A B m=0\/oP A B m=1:=by dsimp only[oP];cases A.contains m<;>cases B.contains m<;>simp
section
variable {σ:Sg}
theorem MQ {dr:Nat->Int}(H:2<=lv)(J:se ps)(h2:2<=ps.length)(i:ps.length<=6)(y:t<16)(L:1<=s)(N:s<=4)(P:1<=v)(Q:v<=4) (d:∀m,1<=m->m<=ps.length->xm (kJ ((gw ps).take m) W)=oP A B m) (q:∀M,Kk (dH (dB bK)) M σ):dp (ZL lv) W_ (LM w (Dw dr) x1 x3 x4 x5 x6 x7 (aE (iV ps)) (aE (aO (W:Nat))) R (aE (dQ A)) (aE (dQ B)) (aE (dj [aO (t:Nat),a_ (qF s),a_ (qF v)])) U X Y Z a0 a1 a2) σ Kk:=by
 have j:(gw ps).length=ps.length:=by unfold gw;exact eE ..
 have e:ps.length<=1000000:=cx i (cZ rfl);have z:=Tw (σ:=σ) (lv:=lv) ps e;have o:(ps.map λp=>aO ((dW p:Nat):Int))=(gw ps).map λn:Nat=>aO n:=by dsimp only[gw];rw[mQ];rfl
 have I:fu gk (cw [dB bK]) (aO (ps.length:Int))=aE (cw (dw ps.length (dB bK))):=by
  show(if[dB bK].length<=1000/\((ps.length:Int)).natAbs<=1000 then aE (cw (dw ((ps.length:Int)).toNat [dB bK]).flatten) else aT)=_
  rw[if_pos ⟨h9 rfl,cx i (cZ rfl)⟩,mK];have:∀n:Nat,(dw n [dB bK]).flatten=dw n (dB bK):=by
   intro n;induction n with
   |zero=>rfl|succ n ih=>rw[mJ,kj,ih,mJ];rfl
  rw[this]
 have hr:(gO 0 ps.length).map (λ_:Nat=>dB bK)=dw ps.length (dB bK):=by rw[List.map_const',pF]
 have e1:∀m,fu nv (aO ((if A.contains m then 1 else 0:Nat):Int)) (aO ((if B.contains m then 1 else 0:Nat):Int))=aE (aO (oP A B m)):=λm=>congrArg (λx=>aE (aO x)) (by dsimp only[oP];cases A.contains m<;>cases B.contains m<;>rfl)
 have gM:∀{b Kk},(∀m∈gO 1 ps.length,∀a r,a.length<=1000->r (a++[aO (oP A B m)]) σ->b (aO m) a σ r)->Kk ((gO 1 ps.length).map λm=>aO (oP A B m)) σ->lW b Kk (gz 1 ((ps.length:Int)+1)) [] σ:=λC q=>by rw[show(1:Int)=((1:Nat):Int) from rfl,show((ps.length:Int)+((1:Nat):Int))=((ps.length+1:Nat):Int) from rfl,lz];exact kZ (g:=λk:Nat=>aO k) C (by rw[pF];exact cx i (cZ rfl)) q
 have gS:∀{b Kk},(∀k∈gO 0 ps.length,∀a r,a.length<=1000->r (a++[dB bK]) σ->b (aO k) a σ r)->Kk (dw ps.length (dB bK)) σ->lW b Kk (gz 0 (ps.length:Int)) [] σ:=λC q=>by rw[show(0:Int)=((0:Nat):Int) from rfl,lz,yx];rw[<-hr] at q;exact kZ (g:=λk:Nat=>aO k) C (by rw[pF];exact cx i (cZ rfl)) q
 refine kZ (l:=ps) (g:=d_) (f:=λp=>aO ((dW p:Nat):Int)) (λp hp a k u c=>?_) (cx i (cZ rfl)) ?_
 .obtain⟨n1,n2,n3⟩:=J.2.1 p hp
  exact pg (lv:=lv) (nR H) (cx n2 (cZ rfl)) (λt y=>(n3 t y).1) (dy u c)
 rw[o];refine K_ (lv:=lv) z (fw (lv:=lv) add_i (dy ⟨cZ rfl,by exact cx (kQ i) (cZ rfl)⟩ (gM (λm I a k u c=>?_) ?_)))
 .exact gu (lv:=lv) Hu (ly (lv:=lv) (gu (lv:=lv) Hu (ly (lv:=lv) (fw (lv:=lv) (e1 m) (dy u c)))))
 refine K_ (lv:=lv) z (dy e (gS (λk D a kk u c=>?_) ?_))
 .have h:k<ps.length:=by have:=(List.mem_range'_1.mp D).2;rw[iH] at this;exact this
  have F:kI σ (dQ (gw ps)) aT (aE (aO ((k:Int)+1))) aT=aE (dQ ((gw ps).take (k+1))):=by unfold dQ;rw[yt];exact D1 (by rw[eE,j];exact e) (k+1)
  have G:e9 σ (cw ((gO 1 ps.length).map λm:Nat=>aO (oP A B m))) (aO (k:Nat))=aE (aO (oP A B (k+1))):=by
   rw[iW (by rw[eE,pF];exact h) (by rw[eE,pF];exact e),jx,List.getElem?_range' h,vn,iE]
   rfl
  exact fw (lv:=lv) add_i (Ek (lv:=lv) F (jZ (lv:=lv) G ⟨H,(gw ps).take (k+1),W,t,s,v,oP A B (k+1),rfl,by rw[kN,j];exact Nat.le_min.mpr ⟨ek _,nT h⟩,by rw[kN,j];exact cx (pI ..) i,y,L,N,P,Q,(d (k+1) (ek _) h).symm,MP A B _,u,c⟩))
 .exact dy (h9 rfl) (K_ (lv:=lv) z (fw (lv:=lv) I (gu (lv:=lv) (X0 _) (q _))))
theorem RE {dr:Nat->Int}(o:6<=lv)(p:se ps)(r:2<=ps.length)(A:ps.length<=6)(B:W<=300)(u:order.length<=10)(e:nd order)(f:mark=[10]\/mark=[13,10]) (C:il ps W order mark 20 0 [0]≠[]) (D:il ps W order mark 20 1 [1]≠[]) (d:∀m,1<=m->m<=ps.length->xm (kJ ((gw ps).take m) W)=oP (il ps W order mark 20 0 [0]) (il ps W order mark 20 1 [1]) m) (F:∀M,Kk (dH (dB bK)) M σ):dp (ZL lv) lw_8 (LM j (Dw dr) x1 x3 x4 x5 x6 x7 (aE (iV ps)) (aE (aO (W:Nat))) (aE (dj [aO (W:Nat),sv order,sv mark])) G H I J L N P Q R U) σ Kk:=by
 obtain⟨t,X,g⟩:∃t:Nat,dr 6%16=(t:Int)/\t<16:=Py (dr 6) 16 (dd rfl);obtain⟨s,Y,Z,k⟩:∃s:Nat,1+dr 6/16%4=(s:Int)/\1<=s/\s<5:=Px (dr 6/16) 1 4 (dd rfl);have k:s<=4:=mM k;obtain⟨v,hv,v1,l⟩:∃v:Nat,1+dr 6/64%4=(v:Int)/\1<=v/\v<5:=Px (dr 6/64) 1 4 (dd rfl);have l:v<=4:=mM l;have q:∀i:Sg,e9 i (Dw dr) (aO 6)=aE (aO (dr 6)):=λi=>wg (n:=6) (dd rfl);have w:W<=1000:=cx B (cZ rfl);refine⟨o,ps,0,W,order,mark,rfl,p,eW _,u,e,f,w,⟨o,ps,1,W,order,mark,rfl,p,cx (dU 1) r,u,e,f,w,dy (h9 rfl) (dy (h9 rfl) (dy (h9 rfl) (gu (Ui C D) ?_)))⟩⟩;have y:∀(a c:Int) (z:Nat),1+dr 6/a%c=(z:Int)->fu eL (aO 1) (aO (dr 6/a%c))=aE (aO (z:Nat)):=λa c z h=>congrArg (λx=>aE (aO x)) h;exact jZ (q _) (fw ((oH (dd rfl)).trans (congrArg (λx=>aE (aO x)) X)) (jZ (q _) (fw (nJ (dd rfl) (dd rfl)) (fw (oH (dd rfl)) (fw (y 16 4 s Y) (fw (Hq (b:=4) (dd rfl) (X1 s (j7 k))) (jZ (q _) (fw (nJ (dd rfl) (dd rfl)) (fw (oH (dd rfl)) (fw (y 64 4 v hv) (fw (Hq (b:=4) (dd rfl) (X1 v (j7 l))) (dy (h9 rfl) (MQ (cx (cZ rfl) o) p r A g Z k v1 l d F)))))))))))))
end
section
variable {KK:V->Sg->Prop}
theorem X2 (H:m5 C n (ZL lv) p7 oU){fd:mX}(I:FnIs C 282 fd ["script"] GY body_law)(k:6<=lv){a:List Int}(o:a.length<=63)(p:KK (dB bK) σ)(t:Rels ρ s.heap u [cw (a.map aO)])(st:St C ρ σ s)(v:Room (n+10) A):Calls C A 282 u ρ s KK Ee:=by
 have e:=st.closed;refine gH H I (r:=20) (tr:=bK) rfl ?_ t st (v.le (eY (dd rfl) _));refine WZ o<|RC (nT (by assumption)) λN=>RD (fC (ej ..) k) λb q m i l f g w c h j=>?_
 have d:xT i=[10]\/xT i=[13,10]:=by unfold xT;split;exact .inl rfl;exact .inr rfl
 obtain⟨x,y,z,B,D,F,G⟩:=MI (UX a) (n:=m) (W0:=l) (order:=uO b q) (mark:=xT i) g (cx (eV f) (dd rfl)) (cx c (ej ..)) d;exact RE k x y z B (Ht b h q j).2 MO d D F (λm J L=>G m J L) λM=>tV e trivial p
end
noncomputable def nH (i:Nat):b_:=cV (match i with|194=>"cpy313.email.header"|404=>"cpy313.colorsys"|438=>"cpy313.netrc"|_=>"law_tr0060_01") i
noncomputable def fO (a:cE)(q:Str)(n:eQ)(b:List (Str×cE))(d:b_)(c:cE)(e:b_)(i:Nat):cE×Obj:=(a,⟨bT "function",aT,fK ⟨Y_ n,q,Z0 n,.stmts (qh n),S8 n,3,b,d,cG,cG,nH i,aT,aK c,e,0⟩,#[]⟩)
noncomputable def cO (a:cE)(n q:Str)(t:Nat)(l k:Int)(b:Nat)(h:Bool)(T:Nat):cE×Obj:=let r (i:Nat):b_:=match h with|true=>aK i|false=>cG
 (a,⟨bT "code",aT,cY #[cV n t,cV q (t+1),cV "/claim/cut.py" (t+2),d6 l 0,d6 k 0,d6 0 0,d6 0 0,d6 3 0,aK b,e_ bK,d6 181 0,aK (b+1),cG,r (b+2),r (b+3),aK (match h with|true=>b+4|false=>b+2),d6 T 0,d6 l 0,cV "/claim/cut.py" (T+1)],#[]⟩)
noncomputable def dE (w:gf)(k:Str)(t:Nat)(v:b_):yG:=⟨reduceHash (w.params.strHash k.cps),cV k t,v⟩
noncomputable def K0 (w:gf):i9:=[(94,⟨bT "type",aT,jg ⟨"_ValueFormatter",[bT "object"],[aK 94,bT "object"],93,"_ValueFormatter",bK,[],[],cu,aT,cu⟩,#[aT,aT,aE (cV "_ValueFormatter" 200),aE (cV "_ValueFormatter" 208),aE (cH "object.__new__"),aE (e_ bK)]⟩),
 (178,⟨bT "type",aT,jg ⟨"_Accumulator",[bT "list"],[aK 178,bT "list",bT "object"],177,"_Accumulator",bK,[],[],cu,aT,cu⟩,#[aE (aK 99),aT,aE (cV "_Accumulator" 308),aE (cV "_Accumulator" 316),aE (cH "list.__new__"),aE (e_ bK)]⟩),
 (234,⟨bT "type",aT,jg ⟨"_netrclex",[bT "object"],[aK 234,bT "object"],233,"_netrclex",bK,[],[],cu,aT,cu⟩,#[aT,aT,aE (cV "_netrclex" 440),aE (cV "_netrclex" 448),aE (cH "object.__new__"),aE (e_ bK)]⟩),
 (93,⟨bT "dict",aT,hO #[dE w "__module__" 207 (nH 194),dE w "__firstlineno__" 211 (d6 (7) 210),dE w "__init__" 222 (aK 35),dE w "_str" 230 (aK 42),dE w "__str__" 237 (aK 49),dE w "newline" 245 (aK 56),dE w "add_transition" 252 (aK 63),dE w "feed" 262 (aK 70),dE w "_maxlengths" 269 (aK 77),dE w "_ascii_split" 279 (aK 84),dE w "_append_chunk" 293 (aK 91),dE w "__static_attributes__" 300 (aK 92),dE w "__dict__" 302 (aK 95),dE w "__weakref__" 304 (aK 96),dE w "__doc__" 305 (cG)] 4,#[]⟩),
 (177,⟨bT "dict",aT,hO #[dE w "__module__" 315 (nH 194),dE w "__firstlineno__" 319 (d6 (73) 318),dE w "__init__" 329 (aK 115),dE w "push" 338 (aK 122),dE w "pop_from" 348 (aK 130),dE w "pop" 356 (aK 138),dE w "__len__" 363 (aK 145),dE w "__str__" 370 (aK 152),dE w "reset" 378 (aK 160),dE w "is_onlyws" 385 (aK 167),dE w "part_count" 393 (aK 175),dE w "__static_attributes__" 395 (aK 176),dE w "__dict__" 398 (aK 179),dE w "__weakref__" 400 (aK 180),dE w "__doc__" 401 (cG)] 5,#[]⟩),
 (233,⟨bT "dict",aT,hO #[dE w "__module__" 447 (nH 438),dE w "__firstlineno__" 451 (d6 (151) 450),dE w "__init__" 459 (aK 210),dE w "_read_char" 467 (aK 217),dE w "get_token" 477 (aK 224),dE w "push_token" 485 (aK 231),dE w "__static_attributes__" 490 (aK 232),dE w "__dict__" 492 (aK 235),dE w "__weakref__" 494 (aK 236),dE w "__doc__" 495 (cG)] 4,#[]⟩),
 (2,⟨cG,aT,hO #[] 0,#[]⟩),
 (3,⟨bT "dict",aT,hO #[dE w "__name__" 165 (nH 498),dE w "__doc__" 166 (cG),dE w "__package__" 167 (cG),dE w "__loader__" 168 (cH "__main__.__loader__#opaque"),dE w "__spec__" 169 (cG),dE w "__annotations__" 170 (aK 6),dE w "__builtins__" 171 (aK 4),dE w "__file__" 173 (cV "/claim/cut.py" 172),dE w "__cached__" 174 (cG),dE w "_wall" 193 (aK 21),dE w "NL" 197 (cV "\n" 196),dE w "EMPTYSTRING" 199 (cV "" 198),dE w "_ValueFormatter" 307 (aK 94),dE w "_Accumulator" 403 (aK 178),dE w "rgb_to_hsv" 423 (aK 189),dE w "hsv_to_rgb" 437 (aK 196),dE w "_netrclex" 497 (aK 234),dE w "_law_lexer" 508 (aK 245),dE w "_law_element" 514 (aK 250),dE w "_law_width" 520 (aK 255),dE w "_law_parts" 526 (aK 260),dE w "_law_folded" 532 (aK 265),dE w "_law_stops" 543 (aK 272),dE w "_law_agrees" 549 (aK 277),dE w "law" 555 (aK 282)] 25,#[]⟩),
 (102,⟨bT "cell",aT,.cell (aE (aK 178)),#[]⟩),
 fO 35 "_ValueFormatter.__init__" (eX 4 0) [] (cG) 34 (cG) 194,
 fO 42 "_ValueFormatter._str" (eX 4 1) [] (cG) 41 (cG) 194,
 fO 56 "_ValueFormatter.newline" (eX 4 3) [] (cG) 55 (cG) 194,
 fO 91 "_ValueFormatter._append_chunk" (eX 4 8) [] (cG) 90 (cG) 194,
 fO 122 "_Accumulator.push" (eX 5 1) [] (cG) 121 (cG) 194,
 fO 130 "_Accumulator.pop_from" (eX 5 2) [] (aK 123) 129 (cG) 194,
 fO 160 "_Accumulator.reset" (eX 5 6) [] (aK 153) 159 (cG) 194,
 fO 167 "_Accumulator.is_onlyws" (eX 5 7) [] (cG) 166 (cG) 194,
 fO 189 "rgb_to_hsv" (iS 7) [] (cG) 188 (cG) 404,
 fO 196 "hsv_to_rgb" (iS 8) [] (cG) 195 (cG) 404,
 fO 210 "_netrclex.__init__" (eX 10 0) [] (cG) 209 (cG) 438,
 fO 250 "_law_element" (iS 13) [] (cG) 249 (cG) 498,
 fO 255 "_law_width" (iS 14) [] (cG) 254 (cG) 498,
 fO 260 "_law_parts" (iS 15) [] (cG) 259 (cG) 498,
 fO 265 "_law_folded" (iS 16) [] (cG) 264 (cG) 498,
 fO 272 "_law_stops" (iS 17) [] (cG) 271 (cG) 498,
 fO 277 "_law_agrees" (iS 18) [] (cG) 276 (cG) 498,
 fO 282 "law" (iS 19) [] (cG) 281 (cG) 498,
 fO 115 "_Accumulator.__init__" (eX 5 0) [("__class__",102)] (aK 107) 114 (aK 108) 194,
 fO 175 "_Accumulator.part_count" (eX 5 8) [("__class__",102)] (cG) 174 (aK 168) 194,
 fO 138 "_Accumulator.pop" (eX 5 3) [("__class__",102)] (cG) 137 (aK 131) 194,
 fO 145 "_Accumulator.__len__" (eX 5 4) [] (cG) 144 (cG) 194,
 fO 152 "_Accumulator.__str__" (eX 5 5) [] (cG) 151 (cG) 194,
 fO 245 "_law_lexer" (iS 12) [] (cG) 244 (cG) 498,
 fO 217 "_netrclex._read_char" (eX 10 1) [] (cG) 216 (cG) 438,
 fO 224 "_netrclex.get_token" (eX 10 2) [] (cG) 223 (cG) 438,
 (107,⟨bT "tuple",aT,cK #[d6 (0) 320] 0,#[]⟩),
 (123,⟨bT "tuple",aT,cK #[d6 (0) 339] 0,#[]⟩),
 (153,⟨bT "tuple",aT,cK #[cG] 0,#[]⟩),
 cO 34 "__init__" "_ValueFormatter.__init__" 212 9 5 29 bK 220,
 cO 41 "_str" "_ValueFormatter._str" 223 17 2 36 bK 228,
 cO 55 "newline" "_ValueFormatter.newline" 238 24 1 50 bK 243,
 cO 90 "_append_chunk" "_ValueFormatter._append_chunk" 280 47 3 85 bK 291,
 cO 121 "push" "_Accumulator.push" 330 79 3 116 bK 336,
 cO 129 "pop_from" "_Accumulator.pop_from" 340 82 2 124 bK 346,
 cO 159 "reset" "_Accumulator.reset" 371 98 2 154 bK 376,
 cO 166 "is_onlyws" "_Accumulator.is_onlyws" 379 104 1 161 bK 383,
 cO 188 "rgb_to_hsv" "rgb_to_hsv" 406 110 3 183 bK 421,
 cO 195 "hsv_to_rgb" "hsv_to_rgb" 424 129 3 190 bK 435,
 cO 209 "__init__" "_netrclex.__init__" 452 153 2 204 bK 457,
 cO 249 "_law_element" "_law_element" 509 199 3 246 cu 512,
 cO 254 "_law_width" "_law_width" 515 206 1 251 cu 518,
 cO 259 "_law_parts" "_law_parts" 521 208 4 256 cu 524,
 cO 264 "_law_folded" "_law_folded" 527 219 3 261 cu 530,
 cO 271 "_law_stops" "_law_stops" 533 245 3 266 bK 541,
 cO 276 "_law_agrees" "_law_agrees" 544 253 4 273 cu 547,
 cO 281 "law" "law" 550 274 1 278 cu 553,
 cO 114 "__init__" "_Accumulator.__init__" 321 75 2 109 bK 327,
 cO 174 "part_count" "_Accumulator.part_count" 386 107 1 169 bK 391,
 cO 137 "pop" "_Accumulator.pop" 349 87 1 132 bK 354,
 cO 144 "__len__" "_Accumulator.__len__" 357 92 1 139 bK 361,
 cO 151 "__str__" "_Accumulator.__str__" 364 95 1 146 bK 368,
 cO 244 "_law_lexer" "_law_lexer" 500 195 1 239 bK 506,
 cO 216 "_read_char" "_netrclex._read_char" 460 159 1 211 bK 465,
 cO 223 "get_token" "_netrclex.get_token" 468 165 1 218 bK 475]
noncomputable def K1:i9:=[(140,⟨cG,aT,cY #[],#[]⟩),(147,⟨cG,aT,cY #[],#[]⟩),(240,⟨cG,aT,cY #[],#[]⟩)]
noncomputable def X3:List Nat:=[0,2,3,4,5,7,8,10,12,13,14,15,16,17,18,19]
noncomputable def qv:lT:=view AO X3
noncomputable def EZ:List Str:=["_Accumulator"]
noncomputable def uP (w:gf):i9:=K0 w++K1
noncomputable def kA:List cE:=[94,178,234,93,177,233,2,3,102,35,42,56,91,122,130,160,167,189,196,210,250,255,260,265,272,277,282,115,175,138,145,152,245,217,224,107,123,153,34,41,55,90,121,129,159,166,188,195,209,249,254,259,264,271,276,281,114,174,137,144,151,244,216,223,140,147,240]
noncomputable def yf (s:cz):List (Option Obj):=kA.map s.heap.get?
noncomputable def ya (w:gf):List (Option Obj):=kA.map λa=>(uP w).lookup a
noncomputable def YU (s:cz):Bool×List (Option Obj):=(decide (s.toks≠0),yf s)
noncomputable def YV (w:gf):Bool×List (Option Obj):=(bK,ya w)
theorem X4:LeftO AO qv EZ (λs=>xlAt qv [] s&&recOk [] s) YU YV 3524:=by intro w;kernel_rfl
section
variable {w:gf}{h:cQ}{os:jM}{j l:Str->Option b_}{i:ExcName->Option b_}{q:lT}{loose:List Str}
noncomputable abbrev CC (w:gf)(h:cQ)(os:jM):Fx:=⟨AO,w,h,os⟩
theorem tt {p:Prop}[Decidable p](e:decide p=bK):p:=of_decide_eq_true e
theorem RF:(K0 w).map (·.1)=kA.take 64:=rfl
theorem pw {a:cE}{o:Obj}(e:(K0 w).lookup a=aE o):a∉fU:=by have b:a∈(K0 w).map (·.1):=List.mem_map.mpr ⟨(a,o),P7 e,rfl⟩;rw[RF] at b;exact(by decide:∀a∈kA.take 64,a∉fU) a b
theorem mH (X:(uP w).In h){a:cE}{o:Obj}(e:(K0 w).lookup a=aE o):h.get? a=aE o:=X a o (by rw[uP,Fl,e];rfl)
noncomputable def Uj (w:gf):Array yG:=match (K0 w).lookup 3 with
 |some ⟨_,_,hO a _,_⟩=>a|_=>#[]
theorem Dy (X:(uP w).In h)(g:h.Ns kn j)(x):j x=oh (Uj w) x:=by
 obtain⟨o,c,f,a,b,_,d⟩:=g;have e:h.get? 3=aE ⟨bT "dict",aT,hO (Uj w) 25,#[]⟩:=mH X (by kernel_rfl)
 have a:h.get? 3=aE o:=a;rw[e] at a;obtain rfl:=dk a;obtain⟨rfl,_⟩:=PySem.Data.dict.inj b;exact(d x).symm
theorem u3 {os:jM}(b:fk (CC w h os) h')(g:h.Ns a m)(t:a∉fU):h'.Ns a m:=let ⟨o,c,d,e,r⟩:=g;⟨o,c,d,b a o e t,r⟩
theorem rR (X:(uP w).In h)(g:h.Ns kn j){x:Str}{v:b_}(e:oh (Uj w) x=aE v):lr (CC w h os) x v:=λA f a s Q b c _ d=>loadGlobal_global (by rw[c];exact u3 b g (dd rfl)) ((Dy X g x).trans e) d
theorem ml (X:(uP w).In h)(T:Top q loose i j l h){x:Str}{v:b_}(e:oh (Uj w) x=aT)(a:bootBuiltins x=aE v)(c:x≠"__name__"):lr (CC w h os) x v:=λA m d s Q b f g k=>loadGlobal_builtin (by rw[f];exact u3 b T.g (dd rfl)) ((Dy X T.g x).trans e) (by rw[g];exact u3 b T.b (dd rfl)) ((T.builtins x c).trans a) k
theorem Jd (w):decide (∀k:Nat,k<22->(oh (Uj w) (lV k)=aE (p7 k)\/(oh (Uj w) (lV k)=aT/\bootBuiltins (lV k)=aE (p7 k)):Prop))=bK:=by kernel_rfl
theorem MR:∀k<22,(lV k==("__name__":Str))=cu:=by decide+kernel
theorem wh (X:(uP w).In h){h':cQ}(b:fk (CC w h os) h'):(K0 w).In h':=λa o e=>b a o (mH X e) (pw e)
noncomputable def Sq:Data->Bool
 |fK _=>bK|_=>cu
noncomputable def Hv (o:Obj):Bool:=Sq o.data
theorem MS {o:Obj}(e:Hv o=bK):∃fd,o.data=fK fd:=G4 (motive:=λd=>Sq d=bK->∃fd,d=fK fd) o.data (λh=>dG h) (λ_ h=>dG h) (λ_ _ h=>dG h) (λ_ _ h=>dG h) (λ_ _ _ h=>dG h) (λ_ _ h=>dG h) (λ_ h=>dG h) (λf _=>⟨f,rfl⟩) (λ_ h=>dG h) (λ_ h=>dG h) (λh=>dG h) e
theorem uQ {α:Type}{o:Option α}{p:α->Bool}(e:o.any p=bK):∃x,o=aE x/\p x=bK:=by
 rcases o with _|x
 .exact dG e
 .exact⟨x,rfl,e⟩
theorem Sr {a:cE}(e:((K0 w).lookup a).any Hv=bK):∃o fd,(K0 w).lookup a=aE o/\o.data=fK fd:=let ⟨o,h,q⟩:=uQ e;let ⟨fd,b⟩:=MS q;⟨o,fd,h,b⟩
theorem Uk (w):decide (∀f∈([245,250,255,260,265,272,277,189,196,282,56,42,91,122,130,138,160,167,175,224,217]:List cE),((K0 w).lookup f).any Hv=bK)=bK:=by kernel_rfl
theorem MT (X:(uP w).In h):∀h',fk (CC w h os) h'->o6 h':=λh' b=>⟨λ_=>aT,⟨_,#[],0,b 2 _ (mH X rfl) (dd rfl),rfl,by intro e a;exact absurd a (by simp),λ_=>rfl⟩,rfl⟩
theorem MU (w):decide (∀c∈([94,178,234]:List cE),tn (K0 w) (aK c) "__call__"=aE (aE (cH "type.__call__")))=bK:=by kernel_rfl
noncomputable def E_:Data->Bool
 |jg _=>bK|_=>cu
noncomputable def MV (o:Option Obj):Bool:=o.any λo=>E_ o.data
theorem Je {d:Data}(e:E_ d=bK):∃a,d=jg a:=G4 (motive:=λd=>E_ d=bK->∃a,d=jg a) d (λh=>dG h) (λ_ h=>dG h) (λ_ _ h=>dG h) (λ_ _ h=>dG h) (λ_ _ _ h=>dG h) (λ_ _ h=>dG h) (λ_ h=>dG h) (λ_ h=>dG h) (λf _=>⟨f,rfl⟩) (λ_ h=>dG h) (λh=>dG h) e
theorem Jf {o:Option Obj}(e:MV o=bK):∃a d b c,o=aE ⟨a,d,jg b,c⟩:=by obtain⟨⟨a,d,f,c⟩,rfl,q⟩:=uQ e;obtain⟨b,q⟩:=Je q;exact⟨a,d,b,c,by rw[show f=jg b from q]⟩
theorem RG (w):decide (∀c∈([94,178,234]:List cE),MV ((K0 w).lookup c)=bK)=bK:=by kernel_rfl
theorem X6 (X:(uP w).In h)(T:Top q loose i j l h):NM (CC w h os):=Rc.c (λk g=>by
  rcases tt (Jd w) k g with e|⟨e,n⟩
  .exact rR X T.g e
  .exact ml X T e n (beq_eq_false_iff_ne.mp (MR k g)))<|
 Rc.c (⟨196,rR X T.g (by kernel_rfl)⟩)<|
 Rc.c (⟨198,rR X T.g (by kernel_rfl)⟩)<|
 Rc.c (ml X T (by kernel_rfl) (by kernel_rfl) (dd rfl))<|
 Rc.c (ml X T (by kernel_rfl) (by kernel_rfl) (dd rfl))<|
 Rc.c (MT X)<|
 Rc.c (λf p=>by obtain⟨o,r,a,b⟩:=Sr (tt (Uk w) f p);exact⟨o,r,mH X a,b,pw a⟩)<|
 Rc.c (λc m s b=>by have e:=tt (MU w) c m;obtain⟨a,d,t,u,q⟩:=Jf (tt (RG w) c m);exact(lS (part:=aT) (wh X b _ _ q)).andThen ((looks_specialIn (wh X b) e).andThen jE))<|Rc.n
theorem X7 (X:(uP w).In h)(T:Top q loose i j l h):GK (CC w h os):=Rc.c (ml X T (by kernel_rfl) (by kernel_rfl) (dd rfl))<|
 Rc.c (ml X T (by kernel_rfl) (by kernel_rfl) (dd rfl))<|
 Rc.c (⟨198,rR X T.g (by kernel_rfl)⟩)<|
 Rc.c (λv b=>by
  obtain⟨x,y,a,d,f,g,m,n⟩:=T.bmain;have c:j "__builtins__"=aE (aK 4):=(Dy X T.g _).trans (by kernel_rfl)
  rw[c] at a;obtain rfl:=yr (dk a);exact λA Q z s k p=>wpAny_builtinsFor (s:=s) (let ⟨o,t,u,e,r⟩:=u3 b T.g (dd rfl);⟨o,t,u,k _ _ e,r⟩) c d (k _ _ (b 4 _ f (dd rfl))) g m n p)<|
 Rc.c (T.nolimit)<|Rc.n
theorem X8 (w:gf):decide (∀c∈([94,234]:List cE),gy (K0 w) (aK c) "__getattribute__"=aE (aE (cH "object.__getattribute__")))=bK:=by kernel_rfl
theorem X9 (w:gf):decide (∀c∈([94,178,234]:List cE),gy (K0 w) (aK c) "__getattr__"=aE aT)=bK:=by kernel_rfl
theorem RH (w:gf):decide (∀c∈([94,178,234]:List cE),∀m:Nat,m<12->gy (K0 w) (aK c) (eh m)=aE aT)=bK:=by kernel_rfl
theorem RI (w:gf):decide (∀x∈methL,gy (K0 w) (aK x.1) (eh x.2.1)=aE (aE (aK x.2.2))/\lb (K0 w) (aK x.2.2)=aE (bT "function")/\((K0 w).lookup x.2.2).any Hv=bK)=bK:=by kernel_rfl
theorem Ul (w:gf):decide (∀c∈([94,178,234]:List cE),(clsIn (K0 w) c).any (λa=>a.hasDict&&!a.mro.isEmpty&&!a.mro.contains (bT "staticmethod")&&!a.mro.contains (bT "classmethod"))=bK)=bK:=by kernel_rfl
noncomputable def AK:b_->Bool
 |cV _ _=>bK|_=>cu
theorem Jg (e:AK v=bK):∃x t,v=cV x t:=FW (motive:=λv=>AK v=bK->∃x t,v=cV x t) v (λh=>dG h) (λh=>dG h) (λh=>dG h) (λ_ h=>dG h) (λ_ _ h=>dG h) (λ_ _ h=>dG h) (λx t _=>⟨x,t,rfl⟩) (λ_ _ h=>dG h) (λ_ h=>dG h) (λ_ h=>dG h) (λ_ h=>dG h) e
theorem Xa (X:(uP w).In h)(e:(K0 w).lookup a=aE ⟨bT "dict",aT,hO b ep,#[]⟩)(c:b.toList.all (λe=>AK e.key)=bK):h.Ns a (oh b):=⟨_,b,ep,mH X e,rfl,λd f=>Jg (List.all_eq_true.mp c d (Array.mem_toList_iff.mpr f)),λ_=>rfl⟩
noncomputable def RJ (w:gf)(a:cE):Array yG:=match (K0 w).lookup a with
 |some ⟨_,_,hO b _,_⟩=>b|_=>#[]
theorem F0 (X:(uP w).In h){c N:cE}{nm s:Str}{b:List b_}{d f g k n:Option b_}{t:String}{ep:Nat}(e:(K0 w).lookup c=aE (G7 nm s c N b (Kg c) bK [] [] cu aT aT d f g k n t)) (u:(K0 w).lookup N=aE ⟨bT "dict",aT,hO (RJ w N) ep,#[]⟩) (v:(RJ w N).toList.all (λe=>AK e.key)=bK) (x:oh (RJ w N) "__setattr__"=aT) (y:decide (∀m:Nat,m<12->oh (RJ w N) (eh m)=aT)=bK):∃nm q N b z o A p B d f g k n a r,h.get? c=aE (G7 nm q c N b (Kg c) bK z o A p B d f g k n a)/\c∉fU/\h.Ns N r/\N∉fU/\r "__setattr__"=aT/\∀m<12,r (eh m)=aT:=⟨nm,s,N,b,_,_,_,_,_,d,f,g,k,n,t,_,mH X e,pw e,Xa X u v,pw u,x,tt y⟩
theorem MW {P:cE->Prop}{a b c:cE}(e:P a)(f:P b)(g:P c):∀x∈[a,b,c],P x:=λx d=>by
 rcases List.mem_cons.mp d with rfl|d
 .exact e
 rcases List.mem_cons.mp d with rfl|d
 .exact f
 .obtain rfl:=List.mem_singleton.mp d;exact g
theorem Xb (X:(uP w).In h):WK (CC w h os) (K0 w):=Rc.c (λa o e=>⟨mH X e,pw e⟩)<|
 Rc.c (λc d=>by obtain⟨f,e,g⟩:=uQ (tt (Ul w) c d);obtain⟨g,k⟩:=Bool.and_eq_true_iff.mp g;obtain⟨g,m⟩:=Bool.and_eq_true_iff.mp g;obtain⟨n,p⟩:=Bool.and_eq_true_iff.mp g;exact⟨f,e,n,(m_ _).mp p,(m_ _).mp m,(m_ _).mp k⟩)<|
 Rc.c (tt (X8 w))<|
 Rc.c (by kernel_rfl)<|
 Rc.c (tt (X9 w))<|
 Rc.c (tt (RH w))<|
 Rc.c (λx r=>let ⟨a,b,c⟩:=tt (RI w) x r;⟨a,b,Sr c⟩)<|
 Rc.c (MW (F0 X (N:=93) (ep:=4) rfl (by kernel_rfl) (by kernel_rfl) (by kernel_rfl) (by kernel_rfl)) (F0 X (N:=177) (ep:=5) rfl (by kernel_rfl) (by kernel_rfl) (by kernel_rfl) (by kernel_rfl)) (F0 X (N:=233) (ep:=4) rfl (by kernel_rfl) (by kernel_rfl) (by kernel_rfl) (by kernel_rfl)))<|
 Rc.c (tt (by kernel_rfl))<|
 Rc.c (⟨λM h X=>⟨⟨_,_,_,_,X 178 _ rfl,rfl,rfl,rfl,rfl⟩,pR X (by kernel_rfl),pR X (by kernel_rfl),pR X (by kernel_rfl),pR X (by kernel_rfl),pR X (by kernel_rfl),pR X (by kernel_rfl),pR X (by kernel_rfl),λ_=>pR X (by kernel_rfl),λ_=>pR X (by kernel_rfl)⟩,by kernel_rfl,by kernel_rfl⟩)<|
 Rc.c (⟨_,rfl,rfl,by kernel_rfl⟩)<|
 Rc.c (by kernel_rfl)<|
 Rc.c (by kernel_rfl)<|
 Rc.c (by kernel_rfl)<|
 Rc.c (by kernel_rfl)<|
 Rc.c (by kernel_rfl)<|
 Rc.c (by kernel_rfl)<|
 Rc.c (⟨by kernel_rfl,by kernel_rfl⟩)<|
 Rc.c (⟨by kernel_rfl,by kernel_rfl⟩)<|
 Rc.c (by kernel_rfl)<|
 Rc.c (by kernel_rfl)<|
 Rc.c (by kernel_rfl)<|
 Rc.c (by kernel_rfl)<|Rc.n
end
section
variable {os:jM}
theorem Xc (X:(uP w).In h)(T:Top q loose a b c h):SK (CC w h os) (K0 w):=Rc.c (MW ⟨_,_,_,rfl,rfl,rfl,rfl,_,_,_,_,_,rfl,rfl,rfl,rfl,by kernel_rfl⟩ ⟨_,_,_,rfl,rfl,rfl,rfl,_,_,_,_,_,rfl,rfl,rfl,rfl,by kernel_rfl⟩ ⟨_,_,_,rfl,rfl,rfl,rfl,_,_,_,_,_,rfl,rfl,rfl,rfl,by kernel_rfl⟩)<|
 Rc.c (by kernel_rfl)<|
 Rc.c (ml X T (by kernel_rfl) (by kernel_rfl) (dd rfl))<|
 Rc.c (⟨_,rfl,rfl⟩)<|
 Rc.c (by kernel_rfl)<|Rc.n
theorem Xd (X:(uP w).In h)(T:Top q loose c d o h):LK (CC w h os) where
 ns:=by
  obtain⟨g,i,f,j,k,l,m,n⟩:=T.bmain;have b:d "__builtins__"=aE (aK 4):=(Dy X T.g _).trans (by kernel_rfl)
  rw[b] at f;obtain rfl:=yr (dk f);exact⟨d,T.g,⟨4,i,b,j,by decide,by decide,k,l,m,n⟩,λg e=>by rw[b] at e;obtain rfl:=yr (dk e);decide⟩
 hd:=⟨_,_,_,_,_,_,_,_,_,mH X (a:=244) rfl,rfl,rfl,rfl,rfl,rfl,rfl,rfl,rfl,by decide⟩
theorem Zd {P:List b_->Prop}(h:P [])(a)(e:a.length=0):P a:=AL e▸h
theorem Xe {P:List b_->Prop}(h:∀a b,b.length=n->P (a::b))(b)(e:b.length=n+1):P b:=List.casesOn (motive:=λb=>b.length=n+1->P b) b (λe=>Nat.noConfusion e) (λa b e=>h a b (vk e)) e
theorem Ji {P:List b_->Prop}(h:∀a,P [a]):∀b:List b_,b.length=1->P b:=Xe λa=>Zd (h a)
theorem UY {P:List b_->Prop}(h:∀a b,P [a,b]):∀c:List b_,c.length=2->P c:=Xe λa=>Ji (P:=λl=>P (a::l)) (h a)
theorem Su {P:List b_->Prop}(h:∀a b c,P [a,b,c]):∀d:List b_,d.length=3->P d:=Xe λa=>UY (P:=λl=>P (a::l)) (h a)
theorem Ym {P:List b_->Prop}(h:∀a b c d,P [a,b,c,d]):∀e:List b_,e.length=4->P e:=Xe λa=>Su (P:=λl=>P (a::l)) (h a)
theorem Ze {P:List b_->Prop}(h:∀a b c d e,P [a,b,c,d,e]):∀f:List b_,f.length=5->P f:=Xe λa=>Ym (P:=λl=>P (a::l)) (h a)
noncomputable def Um:Data->Option (Array b_)
 |cY a=>aE a|_=>aT
noncomputable def Yn (q:Str):b_->Bool
 |cV x _=>x==q|_=>cu
noncomputable def Un (Kk:i9)(q:Str):b_->Bool
 |aK c=>(Kk.lookup c).any λo=>(Um o.data).any λa=>a[1]?.any (Yn q)
 |_=>cu
theorem Uo {q:Str}(e:Yn q v=bK):∃t,v=cV q t:=FW (motive:=λv=>Yn q v=bK->∃t,v=cV q t) v (λh=>dG h) (λh=>dG h) (λh=>dG h) (λ_ h=>dG h) (λ_ _ h=>dG h) (λ_ _ h=>dG h) (λx t e=>⟨t,congrArg (tm · t) (ku e)⟩) (λ_ _ h=>dG h) (λ_ h=>dG h) (λ_ h=>dG h) (λ_ h=>dG h) e
theorem RK (e:Um d=aE vs):d=cY vs:=G4 (motive:=λd=>Um d=aE vs->d=cY vs) d (λh=>nN h) (λ_ h=>nN h) (λ_ _ h=>nN h) (λ_ _ h=>nN h) (λ_ _ _ h=>nN h) (λ_ _ h=>nN h) (λ_ h=>nN h) (λ_ h=>nN h) (λ_ h=>nN h) (λx e=>congrArg Data.fields (dk e)) (λh=>nN h) e
theorem RL {q:Str}(e:Un Kk q v=bK):∃c o vs t,v=aK c/\Kk.lookup c=aE o/\o.data=cY vs/\vs[1]?=aE (cV q t):=FW (motive:=λv=>Un Kk q v=bK->∃c o vs t,v=aK c/\Kk.lookup c=aE o/\o.data=cY vs/\vs[1]?=aE (cV q t)) v (λh=>dG h) (λh=>dG h) (λh=>dG h) (λ_ h=>dG h) (λ_ _ h=>dG h) (λ_ _ h=>dG h) (λ_ _ h=>dG h) (λ_ _ h=>dG h) (λ_ h=>dG h) (λ_ h=>dG h) (λc e=>let ⟨o,a,e⟩:=uQ e;let ⟨vs,b,e⟩:=uQ e;let ⟨x,d,e⟩:=uQ e;let ⟨t,f⟩:=Uo e;⟨c,o,vs,t,rfl,a,RK b,f▸d⟩) e
noncomputable def Sv:ScopeKind->Bool
 |gj=>bK|_=>cu
theorem MX (e:Sv k=bK):k=gj:=by cases k<;>first|rfl|exact dG e
noncomputable def fW (w:gf)(a:cE):mX:=match (K0 w).lookup a with
 |some o=>(match o.data with|fK b=>b|_=>default)
 |none=>default
noncomputable def Sy (Kk:i9)(fd:mX)(ps:List Str)(vis:List (Nat×Str)):Bool:=Un Kk fd.qualname fd.code&&(decide (fd.globals=3)&&(decide (fd.builtins=0)&&(Sv fd.scope.kind&&(!fd.scope.isCoroutine&&(!fd.scope.isGenerator&&(decide ps.Nodup&&(qg vis&&(vis.all (λy=>fb fd.scope.names y.2)&&ps.zipIdx.all λx=>vis.contains (x.2,x.1)))))))))
theorem RM {ps:List Str}{vis:List (Nat×Str)}(c:(ps.zipIdx.all λx=>vis.contains (x.2,x.1))=bK)(i)(x)(a:ps[i]?=aE x):(i,x)∈vis:=List.contains_iff_mem.mp (List.all_eq_true.mp c (x,i) (List.mem_zipIdx_iff_getElem?.mpr a))
theorem RN (X:(uP w).In h)(T:Top q loose i H I h){a:cE}{fd:mX}{ps:List Str}{vis:List (Nat×Str)}{d:List eQ}(e:(K0 w).lookup a=aE ⟨bT "function",aT,fK fd,#[]⟩)(l:fd.body=.stmts d) (c:Sy (K0 w) fd ps vis=bK) (f:∀g:List b_,g.length=ps.length->∀m,peek (K0 w) m (Gy fd ⟨g,[]⟩)=aE (ps.zip g)):GW (CC w h os) a fd ps vis d:=by
 refine xA c λn c=>xA c λp c=>xA c λr c=>xA c λu c=>xA c λv c=>xA c λx c=>xA c λy c=>xA c λz c=>xA c λA c=>?_;obtain⟨k,o,B,t,C,j,D,F⟩:=RL n;exact(Rc.c (⟨_,mH X e,rfl,pw e⟩)<|Rc.c (T.nolimit)<|Rc.c (⟨k,o,B,t,C,mH X j,D,F,pw j⟩)<|Rc.c (l)<|Rc.c (tt p)<|Rc.c (tt r)<|Rc.c (MX u)<|Rc.c ((m_ _).mp v)<|Rc.c ((m_ _).mp x)<|Rc.c (λg G s b=>kp_binds (wh X b) (f g G))<|Rc.c (tt y)<|Rc.c (z)<|Rc.c (List.all_eq_true.mp A)<|Rc.c (RM c)<|Rc.n)
theorem qr (X:(uP w).In h)(T:Top q loose g m n h)(e:(K0 w).lookup a=aE ⟨bT "function",aT,fK fd,#[]⟩)(i:fd.body=.stmts b.back)(j:fd.closure=[]) (c:Sy (K0 w) fd ps vis=bK) (d:∀f:List b_,f.length=ps.length->∀k,peek (K0 w) k (Gy fd ⟨f,[]⟩)=aE (ps.zip f)) (l:o_ fd.scope.names vis b=bK):FnIs (CC w h os) a fd ps vis b:=let I:=RN (os:=os) X T e i c d
 (Rc.c ((I 0))<|Rc.c ((I 1))<|Rc.c ((I 2))<|Rc.c ((I 3))<|Rc.c (j)<|Rc.c ((I 4))<|Rc.c ((I 5))<|Rc.c ((I 6))<|Rc.c ((I 7))<|Rc.c ((I 8))<|Rc.c ((I 9))<|Rc.c ((I 10))<|Rc.c ((I 11))<|Rc.c ((I 12))<|Rc.c ((I 13))<|Rc.c (l)<|Rc.n)
theorem Up (X:(uP w).In h)(T:Top q loose a b c h):∃fd,FnIs (CC w h os) 282 fd ["script"] GY body_law:=⟨fW w 282,qr X T (by kernel_rfl) (by kernel_rfl) (by kernel_rfl) (by kernel_rfl) (Ji λ_ _=>by kernel_rfl) (by kernel_rfl)⟩
theorem Jh (X:(uP w).In h)(T:Top q loose c d e h):FN (CC w h os) (K0 w):=Rc.c (Xb X)<|
 Rc.c (X6 X T)<|
 Rc.c (X7 X T)<|
 Rc.c (Xc X T)<|
 Rc.c (Xd X T)<|
 Rc.c (⟨fW w 35,qr X T (fd:=fW w 35) (by kernel_rfl) (by kernel_rfl) (by kernel_rfl) (by kernel_rfl) (Ze λ_ _ _ _ _ _=>by kernel_rfl) (by kernel_rfl)⟩)<|
 Rc.c (⟨fW w 42,qr X T (fd:=fW w 42) (by kernel_rfl) (by kernel_rfl) (by kernel_rfl) (by kernel_rfl) (UY λ_ _ _=>by kernel_rfl) (by kernel_rfl)⟩)<|
 Rc.c (⟨fW w 56,qr X T (fd:=fW w 56) (by kernel_rfl) (by kernel_rfl) (by kernel_rfl) (by kernel_rfl) (Ji λ_ _=>by kernel_rfl) (by kernel_rfl)⟩)<|
 Rc.c (⟨fW w 91,qr X T (fd:=fW w 91) (by kernel_rfl) (by kernel_rfl) (by kernel_rfl) (by kernel_rfl) (Su λ_ _ _ _=>by kernel_rfl) (by kernel_rfl)⟩)<|
 Rc.c (⟨fW w 122,qr X T (fd:=fW w 122) (by kernel_rfl) (by kernel_rfl) (by kernel_rfl) (by kernel_rfl) (Su λ_ _ _ _=>by kernel_rfl) (by kernel_rfl)⟩)<|
 Rc.c (⟨fW w 130,qr X T (fd:=fW w 130) (by kernel_rfl) (by kernel_rfl) (by kernel_rfl) (by kernel_rfl) (UY λ_ _ _=>by kernel_rfl) (by kernel_rfl)⟩)<|
 Rc.c (⟨fW w 160,qr X T (fd:=fW w 160) (by kernel_rfl) (by kernel_rfl) (by kernel_rfl) (by kernel_rfl) (UY λ_ _ _=>by kernel_rfl) (by kernel_rfl),λa s b=>kp_binds (wh X b) λ_=>by kernel_rfl⟩)<|
 Rc.c (⟨fW w 167,qr X T (fd:=fW w 167) (by kernel_rfl) (by kernel_rfl) (by kernel_rfl) (by kernel_rfl) (Ji λ_ _=>by kernel_rfl) (by kernel_rfl)⟩)<|
 Rc.c (⟨fW w 189,qr X T (fd:=fW w 189) (by kernel_rfl) (by kernel_rfl) (by kernel_rfl) (by kernel_rfl) (Su λ_ _ _ _=>by kernel_rfl) (by kernel_rfl)⟩)<|
 Rc.c (⟨fW w 196,qr X T (fd:=fW w 196) (by kernel_rfl) (by kernel_rfl) (by kernel_rfl) (by kernel_rfl) (Su λ_ _ _ _=>by kernel_rfl) (by kernel_rfl)⟩)<|
 Rc.c (⟨fW w 210,qr X T (fd:=fW w 210) (by kernel_rfl) (by kernel_rfl) (by kernel_rfl) (by kernel_rfl) (UY λ_ _ _=>by kernel_rfl) (by kernel_rfl)⟩)<|
 Rc.c (⟨fW w 250,qr X T (fd:=fW w 250) (by kernel_rfl) (by kernel_rfl) (by kernel_rfl) (by kernel_rfl) (Su λ_ _ _ _=>by kernel_rfl) (by kernel_rfl)⟩)<|
 Rc.c (⟨fW w 255,qr X T (fd:=fW w 255) (by kernel_rfl) (by kernel_rfl) (by kernel_rfl) (by kernel_rfl) (Ji λ_ _=>by kernel_rfl) (by kernel_rfl)⟩)<|
 Rc.c (⟨fW w 260,qr X T (fd:=fW w 260) (by kernel_rfl) (by kernel_rfl) (by kernel_rfl) (by kernel_rfl) (Ym λ_ _ _ _ _=>by kernel_rfl) (by kernel_rfl)⟩)<|
 Rc.c (⟨fW w 265,qr X T (fd:=fW w 265) (by kernel_rfl) (by kernel_rfl) (by kernel_rfl) (by kernel_rfl) (Su λ_ _ _ _=>by kernel_rfl) (by kernel_rfl)⟩)<|
 Rc.c (⟨fW w 272,qr X T (fd:=fW w 272) (by kernel_rfl) (by kernel_rfl) (by kernel_rfl) (by kernel_rfl) (Su λ_ _ _ _=>by kernel_rfl) (by kernel_rfl)⟩)<|
 Rc.c (⟨fW w 277,qr X T (fd:=fW w 277) (by kernel_rfl) (by kernel_rfl) (by kernel_rfl) (by kernel_rfl) (Ym λ_ _ _ _ _=>by kernel_rfl) (by kernel_rfl)⟩)<|
 Rc.c (⟨fW w 115,RN X T (fd:=fW w 115) (by kernel_rfl) (by kernel_rfl) (by kernel_rfl) (UY λ_ _ _=>by kernel_rfl),⟨_,(by kernel_rfl:(K0 w).lookup _=aE ⟨.type "function",aT,.func (fW w _),#[]⟩),rfl⟩,by kernel_rfl,by kernel_rfl⟩)<|
 Rc.c (⟨fW w 175,RN X T (fd:=fW w 175) (by kernel_rfl) (by kernel_rfl) (by kernel_rfl) (Ji λ_ _=>by kernel_rfl),⟨_,(by kernel_rfl:(K0 w).lookup _=aE ⟨.type "function",aT,.func (fW w _),#[]⟩),rfl⟩,by kernel_rfl,by kernel_rfl⟩)<|
 Rc.c (⟨fW w 138,RN X T (fd:=fW w 138) (by kernel_rfl) (by kernel_rfl) (by kernel_rfl) (Ji λ_ _=>by kernel_rfl),⟨_,(by kernel_rfl:(K0 w).lookup _=aE ⟨.type "function",aT,.func (fW w _),#[]⟩),rfl⟩,by kernel_rfl,by kernel_rfl⟩)<|
 Rc.c (⟨fW w 145,144,140,RN X T (fd:=fW w 145) (by kernel_rfl) (by kernel_rfl) (by kernel_rfl) (Ji λ_ _=>by kernel_rfl),rfl,rfl,rfl,⟨_,_,_,_,_,_,_,_,_,mH X (a:=144) rfl,rfl,rfl,rfl,rfl,rfl,rfl,rfl,rfl,by decide⟩,by decide,by decide,by decide⟩)<|
 Rc.c (⟨fW w 152,151,147,RN X T (fd:=fW w 152) (by kernel_rfl) (by kernel_rfl) (by kernel_rfl) (Ji λ_ _=>by kernel_rfl),rfl,rfl,rfl,⟨_,_,_,_,_,_,_,_,_,mH X (a:=151) rfl,rfl,rfl,rfl,rfl,rfl,rfl,rfl,rfl,by decide⟩,by decide,by decide,by decide⟩)<|
 Rc.c (⟨fW w 245,RN X T (fd:=fW w 245) (by kernel_rfl) (by kernel_rfl) (by kernel_rfl) (Ji λ_ _=>by kernel_rfl),rfl,rfl,rfl,rfl⟩)<|
 Rc.c (⟨fW w 217,RN X T (fd:=fW w 217) (by kernel_rfl) (by kernel_rfl) (by kernel_rfl) (Ji λ_ _=>by kernel_rfl),rfl,rfl⟩)<|
 Rc.c (⟨fW w 224,RN X T (fd:=fW w 224) (by kernel_rfl) (by kernel_rfl) (by kernel_rfl) (Ji λ_ _=>by kernel_rfl),rfl,rfl⟩)<|Rc.n
end
theorem MY (d:Str->Option cE)(P:Params)(a:List yG->List yG):∀(b:List Int) (s:cz),∃c,layAllW [] d P a (b.map tp) s=aE (c,{s with toks:=s.toks+b.length})/\∀ρ h,Rels ρ h c (b.map aO):=by
 intro f;induction f with
 |nil=>exact @λs=>⟨[],rfl,λ_ _=>fB⟩
 |cons i b g=>
  exact @λs=>by obtain⟨c,e,r⟩:=g {s with toks:=s.toks+1};refine⟨d6 i s.toks::c,?_,λρ h=>fo (fq ..) (r ρ h)⟩;show layAllW [] d P a (tp i::b.map tp) s=_;unfold layAllW;dsimp only[layW];rw[e];dsimp only;rw[j8,ic,iE 1]
theorem MZ:∀{a:List WData},WShape.hasItems [] a .int=bK->∃b:List Int,a=b.map tp:=by
 intro c;induction c with
 |nil=>exact @λ_=>⟨[],rfl⟩
 |cons x a d=>
  exact @λe=>by
   have e:(WShape.has [] x .int&&WShape.hasItems [] a .int)=bK:=by rw[WShape.hasItems] at e;exact e
   obtain⟨f,g⟩:=Bool.and_eq_true_iff.mp e;obtain⟨i,rfl⟩:=hasW_int f;obtain⟨b,rfl⟩:=d g;exact⟨i::b,rfl⟩
theorem M_ (e:yf s=ya w)(k:∀b o,s.heap.get? b=aE o->h.get? b=aE o):(uP w).In h:=λa o q=>by
 have c:a∈kA:=by have:a∈(uP w).map (·.1):=List.mem_map.mpr ⟨(a,o),P7 q,rfl⟩;exact this
 exact k _ _ ((List.map_inj_left.mp e a c).trans q)
theorem N0 (X:(uP w).In s.heap)(b:s.gens=#[])(c:s.toks≠0):St (CC w s.heap s.os) ⟨[],[]⟩ [] s where
 conc:={
  base:=λ_ _ e _=>e
  tab:=MW (P:=λt=>∃a,s.heap.get? t=aE {cls:=cG,data:=cY a}/\TabOk s.heap t a) ⟨#[],X _ _ rfl,trivial,λ_ _ _ e=>by cases e⟩ ⟨#[],X _ _ rfl,trivial,λ_ _ _ e=>by cases e⟩ ⟨#[],X _ _ rfl,trivial,λ_ _ _ e=>by cases e⟩
  len:=rfl
  lo:=λ_ h=>absurd h fh
  hi:=λ_ h=>absurd h fh
  low:=λ_ h=>absurd h fh
  apart:=λ_ _ _ _ h=>by cases h
  hid:=λ_ h=>absurd h fh
  objs:=λ_ _ _ h=>by cases h}
 os:=rfl
 gens:=⟨.of_eq b,c⟩
theorem N1 (X:(uP w).In h):∀t∈fU,isCodeTable h t:=MW ⟨144,_,_,mH X rfl,rfl,rfl,rfl⟩ ⟨151,_,_,mH X rfl,rfl,rfl,rfl⟩ ⟨244,_,_,mH X rfl,rfl,rfl,rfl⟩
theorem Uq {os:jM}(X:(uP w).In h)(c:Conc (CC w h os) ρ σ h'):OldK h h' where
 old b o e:=by
  by_cases a:b∈fU
  .obtain⟨d,q,_⟩:=c.tab b a
   have:(uP w).lookup b=aE ⟨cG,aT,cY #[],#[]⟩:=MW (P:=λb=>(uP w).lookup b=aE ⟨cG,aT,cY #[],#[]⟩) rfl rfl rfl b a;rw[X _ _ this] at e;obtain rfl:=dk e;exact .inr (.inl ⟨N1 X b a,rfl,#[],d,rfl,by rw[q];simp⟩)
  .exact .inl (c.base b o e a)
 there b o e:=by
  by_cases a:b∈fU
  .obtain⟨d,q,_⟩:=c.tab b a;exact⟨_,q⟩
  .exact⟨o,c.base b o e a⟩
theorem RO {s:cz}(X:(uP w).In s.heap)(T:Top q loose d m n s.heap)(g:s.gens=#[])(h:s.toks≠0) {f:List Int} (i:f.length<=63) (r:Rel ⟨[],[]⟩ s.heap a (cw (f.map aO))):cD (cm AO w) callerA (Pq (aK 282) [a]) (λv b=>v=e_ bK/\OldK s.heap b.heap/\b.os=s.os/\AllBare b.gens) (λ_ _=>False) s:=by
 have F:=Jh (os:=s.os) X T;obtain⟨o,I⟩:=Up (os:=s.os) X T;refine g_ (t6 (X2 (Ee:=λ_ _=>False) (KK:=λv _=>v=dB bK) (A:=callerA) (Rr F) I (d9 6) i rfl (fo r fB) (N0 X g h) ⟨by decide,by decide,rfl⟩) λr b q=>?_)
 rcases r with e|r
 .exact q
 .rcases r with _|_|_|v
  .exact q.elim
  .exact q.elim
  .exact q.elim
  .obtain⟨j,k,p,rfl,l,c,_⟩:=q
   exact⟨l.inv,Uq X c.conc,c.os,c.gens.1⟩
theorem RP {a:List Int}(b:PySem.Challenge.rw_tr0060_01.row.pre.holds [] {args:=[.list (a.map tp)]}=bK):a.length<=63:=by
 by_cases c:(63:Int)<(a.length:Int)
 .have e:PySem.Challenge.rw_tr0060_01.row.pre.holds [] {args:=[.list (a.map tp)]}=cu:=by unfold WTm.holds;simp[Us,OpenLaw.row,OpenLaw.pre,WTm.value,less?,Num.less?,c]
  rw[e] at b;cases b
 .exact Int.ofNat_le.mp (Int.not_lt.mp c)
theorem wj:(defOf qv PySem.Challenge.rw_tr0060_01.row.name).isSome=bK:=by kernel_rfl
theorem N2:WalkX qv EZ (XL qv []) YU YV PySem.Challenge.rw_tr0060_01.row.toRowW ((defOf qv PySem.Challenge.rw_tr0060_01.row.name).get wj).1 ((defOf qv PySem.Challenge.rw_tr0060_01.row.name).get wj).2 λf vs=>Pq f vs:=by
 intro w b l mg mb G y a o pm cd t dV kV h1 h2 h3 h4 u x m n as L c p A k s;have B:decide (b.toks≠0)=bK:=congrArg Prod.fst y;have C:yf b=ya w:=congrArg Prod.snd y;have X:=M_ C L.keeps;have D:a=282:=by
  have e:=(Dy X G.T.g _).symm.trans u;have F:oh (Uj w) ((defOf qv PySem.Challenge.rw_tr0060_01.row.name).get wj).1.name=aE (aK 282):=by kernel_rfl
  exact(yr (dk (F.symm.trans e))).symm
 subst D;obtain⟨H,I⟩:=pre_splitW c;obtain⟨d,r,rfl,J,M⟩:=hasAllW_cons H;obtain rfl:=hasAllW_nil M;obtain⟨xs,rfl,N⟩:=hasW_list J;obtain⟨j,rfl⟩:=MZ N;have g:j.length<=63:=RP I;obtain⟨i,_,P⟩:=L.laid;obtain⟨Q,e,R⟩:=MY (classAt b.heap) w.params i j b;have U:layAllW [] (classAt b.heap) w.params i [.list (j.map tp)] b=aE ([aK b.heap.objs.size],{b with toks:=b.toks+j.length,heap:=b.heap.push {cls:=bT "list",data:=cK Q.toArray}}):=by unfold layAllW layW;dsimp only;rw[e];rfl
 have W:=dk (U.symm.trans P);obtain⟨rfl,rfl⟩:=vo W;refine kq (RO X G.T x (by have:=of_decide_eq_true B;exact λz=>this (Nat.eq_zero_of_add_eq_zero_right z)) g (nr (fg _ rfl) ⟨λ_ h=>absurd h fh,fh⟩ (R ..))) (λv s' q=>?_) λ_ _ q=>q.elim
 obtain⟨rfl,Y,Z,q3⟩:=q;exact⟨.inl ⟨_,.bool bK,[],rfl,λ_=>rfl,.bool _,by kernel_rfl,λ_=>⟨List.nodup_nil,λ_ h=>absurd h fh⟩⟩,Y,Z,q3⟩
theorem law_holds:PySem.Challenge.rw_tr0060_01.Holds:=holds_law (by kernel_rfl) λa=>holds_openX (q:=qv) (loose:=EZ) (XP:=XL qv []) (N:=3524) X4 (λs e=>xl_of s (Bool.and_eq_true_iff.mp e).1) XL.keeps (Option.some_get wj).symm (by kernel_rfl) (by kernel_rfl) (λs e=>recFacts_of (Bool.and_eq_true_iff.mp e).2) rfl a (by kernel_rfl) ⟨rfl,rfl,rfl,rfl,rfl,by decide+kernel⟩ ⟨[.list []],by decide+kernel,by decide+kernel⟩ N2
end Py60.Internal
theorem PySem.Challenge.cw_tr0060_01_holds : PySem.Challenge.rw_tr0060_01.Holds :=
  Py60.Internal.law_holds
