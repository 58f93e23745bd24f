import PyProof.Rows.All
import Wide.All
import OpenK.AllK
import Wide.FinOn
import Lean
import PySem.Challenge.RW_wc0030_02
set_option Elab.async false
set_option genSizeOf false
set_option genSizeOfSpec false
set_option genInjectivity false
set_option genCtorIdx false
set_option compiler.extract_closed false
set_option maxRecDepth 100000
set_option linter.all false
set_option tactic.hygienic false
open And renaming intro->lh,symm->oo
open Array renaming length_toList->cH,toList_append->eD,getElem?_eq_getElem->eW,getElem?_toList->fQ,mk->gw
open Bool renaming and_eq_true->aA,not_eq_true'->bU,not_eq_false->b5,false_ne_true->dq,noConfusion->gb,false_eq_true->gG,and_eq_true_iff->ib,or_eq_true->iu,not_not->kr,and_eq_false_iff->nF,or_eq_false_iff->nV,or_eq_true_iff->om,eq_iff_iff->pD,or_false->qa,and_true->qb
open Classical renaming em->jc
open Eq renaming trans->ax
open Exists renaming imp->dh
open Int renaming le_trans->aB,natCast_nonneg->aC,fmod->a_,fdiv->bg,ofNat_lt->bo,mul_le_mul_of_nonneg_left->br,zero_mul->bA,ofNat_le->bB,mul_zero->bE,not_lt->bP,le_of_eq->bT,le_of_lt->bX,lt_of_le_of_lt->b7,toNat_of_nonneg->cj,mul_comm->cu,mul_left_comm->cQ,natAbs_neg->cX,le_refl->c7,zero_add->dA,mul_assoc->dH,add_zero->dJ,one_mul->dO,natAbs_of_nonneg->dP,eq_ofNat_of_zero_le->dQ,toNat_natCast->dU,natAbs_sub_le->dW,natAbs_add_le->dX,neg_pos_of_neg->ee,pow_succ->ej,add_le_add->er,fmod_nonneg_of_pos->eI,sub_mul->eK,lt_irrefl->eM,lt_of_lt_of_le->eS,fdiv_eq_ediv_of_nonneg->eT,natCast_pow->fc,natCast_mul->fe,mul_ne_zero->ff,mul_sub->fk,lt_iff_le_and_ne->fm,ofNat_sub->ft,add_le_add_left->fC,mul_le_mul_of_nonneg_right->fE,mul_add->fG,ofNat_natAbs_of_nonpos->fY,pow_zero->gm,lt_trans->gn,add_comm->gp,sub_add_cancel->gJ,mul_nonneg_of_nonpos_of_nonpos->gK,mul_one->gR,mul_nonneg->g6,add_nonneg->g7,not_le->ia,sub_le_sub_right->ij,mul_pos->ik,add_mul->il,add_le_add_right->ip,natCast_add->iC,toNat_lt->iN,natAbs_mul->iZ,lt_or_gt_of_ne->i4,le_add_of_nonneg_right->i5,fmod_lt_of_pos->i6,fmod_eq_emod_of_nonneg->i7,add_sub_cancel->i8,mul_pos_of_neg_of_neg->ja,le_add_of_nonneg_left->jb,neg_neg->jh,neg_mul->ji,add_assoc->jn,natCast_sub->jI,ediv_nonneg->jJ,neg_le_neg->jX,natAbs_lt_natAbs_of_nonneg_of_lt->j2,mul_nonpos_of_nonpos_of_nonneg->ka,neg_fdiv_neg->k8,natCast_succ->k9,neg_sub->lz,natAbs_ediv_le_natAbs->mv,mul_neg_of_neg_of_pos->mw,le_of_add_le_add_left->mx,ofNat_inj->mI,neg_nonneg_of_nonpos->mJ,ofNat->m4,toNat_le->nu,sub_zero->nv,sub_self->nx,sub_eq_iff_eq_add'->ny,ne_of_lt->nz,lt_or_le->nA,le_total->nB,sub_eq_iff_eq_add->nT,two_mul->n9,sub_sub->n_,pow_pos->oa,neg_le_of_neg_le->od,neg_add->og,ediv_emod_unique->oh,sub_eq_add_neg->oN,neg_neg_of_pos->oO,natAbs_natCast->oP,mul_right_comm->oQ,lt_trichotomy->o7,add_left_comm->o8,neg_fmod_neg->pB,noConfusion->pP,pow_nonneg->p7,natAbs_pow->p8,le_natAbs->qk
open Int.ofNat renaming inj->cW
open List renaming length_map->ao,range->aq,replicate->aw,getElem?_eq_getElem->aD,mem_cons->aE,length_append->aG,mem_singleton->aN,getElem?_eq_some_iff->aO,length_range->aS,length_cons->aV,getElem?_set_ne->aW,getElem?_map->aZ,append_assoc->a9,append_nil->bh,size_toArray->bj,map_map->bk,getElem?_set_self->bu,map_cons->bC,getElem?_append_left->bD,mem_range->bF,mem_of_getElem?->bG,length_erase_le->bH,nodup_cons->bI,lookup_cons->bM,map_append->bN,mem_append->bQ,mem_map->bZ,getElem?_eq_none->cf,forall_mem_cons->cp,getD_eq_getElem?_getD->cq,length_reverse->cw,zip_cons_cons->cC,length_filter_le->cG,getElem_of_mem->cK,length_set->cO,length_eq_zero_iff->cP,erase_cons_head->cS,toArray->c9,flatMap_cons->c_,range_eq_range'->dm,range'->dn,mem_filter->du,foldl_cons->dw,mem_reverse->dy,all_eq_true->dz,map_congr_left->dC,mem_append_right->dE,contains_iff_mem->dF,filter_cons->dK,getElem?_concat_length->dN,reverse_cons->dR,nil_append->dY,map_fst_zip->d_,length_range'->ed,length_erase_of_mem->eh,ext_getElem?->ew,replicate_succ->eE,flatMap_append->eF,length_pos_of_mem->eG,getElem?_append_right->eN,mem_of_mem_erase->eR,pairwise_map->fa,mem_append_left->fb,all_cons->fq,getElem?_range->fz,length_take->fA,range_succ->fL,length_nil->fM,range'_succ->f9,mem_flatMap->f_,isEmpty_iff->f',getLast?_eq_getElem?->gj,filterMap_cons->gu,forIn_cons->gE,length_replicate->g_,map_snd_zip->hO,any_eq_true->hU,any_cons->h_,length_zip->ir,length_pos_iff->iA,filter_sublist->iB,pairwise_cons->iQ,mem_cons_self->iS,filter_append->iT,nodup_append->i_,range'_eq_map_range->jg,map_reverse->jq,getElem?_replicate->jr,range_succ_eq_map->jC,map_nil->jD,drop_eq_nil_of_le->jE,all_map->jF,length->jP,drop_drop->jQ,set_set->ki,mem_range'_1->kj,flatten_cons->kl,filter_congr->km,not_mem_nil->kH,length_drop->kJ,drop->kK,cons_append->kM,lookup->kY,getLast?_eq_some_getLast->kZ,filter_map->lu,erase_comm->lx,dropLast_concat_getLast->ly,perm_ext_iff_of_nodup->lL,nodup_nil->lM,mem_of_find?_eq_some->l_,getLast?_eq_none_iff->ma,drop_eq_getElem_cons->me,map_take->mn,filterMap_cons_some->mq,filterMap_cons_none->mr,pairwise_singleton->mG,cons->mH,take_of_length_le->mX,filter_eq_nil_iff->mY,drop_of_length_le->mZ,set_append_left->nL,reverse_reverse->nM,perm_cons_erase->nN,map->nO,length_take_le'->nP,length_dropLast->nQ,erase_cons_tail->nR,contains_cons->oF,getElem?_inj->oM,take_length->oY,isEmpty_nil->oZ,flatMap_map->o1,countP_cons->o6,of_mem_zip->pz,find?_some->pA,filterMap->pN,drop_zero->pO,take_nil->pY,sum_cons->pZ,drop_nil->p0,all_nil->qj
open List.Sublist renaming map->iG
open List.cons renaming inj->fF
open Nat renaming le_trans->aa,le_refl->ag,lt_of_lt_of_le->ai,lt_of_le_of_lt->av,sub_add_cancel->aH,le_of_succ_le_succ->aJ,le_of_eq->aK,le_add_right->aM,add_le_add_left->aP,mul_le_mul_left->aU,pow_le_pow_right->aX,add_le_add_right->a8,add_sub_cancel_left->bc,le_of_lt->bl,add_le_add->bq,ne_of_gt->bw,two_pow_pos->bx,add_comm->bz,le_add_left_of_le->bJ,le_of_lt_succ->bO,mul_comm->bS,zero_add->bW,lt_succ_self->bY,le_of_succ_le->b6,le_add_left->b8,lt_irrefl->b9,add_assoc->b_,succ_le_succ->cb,div_lt_iff_lt_mul->cg,succ_add->cm,lt_of_le_of_ne->ct,ne_of_lt->cy,mul_le_mul_right->cz,add_right_comm->cD,pow_add->cJ,add_sub_cancel'->cM,add_lt_add_left->cN,not_lt->cV,le_succ->cZ,sub_le->c8,lt_succ_of_le->da,mod_lt->dr,mul_le_mul->dG,mul_succ->dS,lt_succ_of_lt->dT,zero_le->dZ,div_add_mod->d5,lt_trans->eH,mul_one->eJ,pos_of_ne_zero->eO,lt_of_lt_of_eq->eP,eq_zero_or_pos->eQ,sub_le_sub_right->fi,le_succ_of_le->fj,succ_pos->fJ,le_antisymm->fO,mul_assoc->fR,lt_of_succ_lt->fW,lt_add_one_of_le->fX,succ_ne_zero->gg,one_le_of_lt->gh,le_of_not_lt->gi,exists_eq_add_of_le'->gB,not_le->gI,one_mul->gM,le_mul_of_pos_right->gN,exists_eq_add_of_le->gQ,sub_zero->gW,lt_of_succ_lt_succ->gX,le_mul_of_pos_left->gY,add_zero->gZ,sub_lt->hZ,two_mul->ic,mul_add->ie,div_le_div_right->ig,min_eq_left->iz,pow_succ->iJ,mul_lt_mul_of_pos_right->iK,min_self->iM,sub_pos_of_lt->je,add_mul->jf,lt_add_of_pos_right->jv,div_eq_of_lt->jw,le_of_add_right_le->jG,sub_eq_zero_of_le->jN,mul_two->jU,lt_add_one_of_lt->jV,div_lt_of_lt_mul->jW,one_le_two_pow->j',succ_mul->ku,lt_trichotomy->ky,lt_asymm->kA,le_one_iff_eq_zero_or_eq_one->kC,succ_ne_self->kU,lt_of_not_le->kW,pow_pos->ll,one_pos->lq,noConfusion->lB,min_le_left->lC,lt_add_left->lD,lt_of_add_lt_add_right->lY,add_lt_add_of_lt_of_le->lZ,add_lt_add_of_le_of_lt->l9,sub_lt_left_of_lt_add->ml,add_mul_mod_self_left->mm,pow_succ'->mA,testBit_mul_two_pow->mQ,testBit_div_two_pow->mU,sub_le_iff_le_add'->nh,pow_zero->ni,ne_of_beq_eq_false->nj,div_div_eq_div_mul->nk,beq->nr,le_div_iff_mul_le->nK,pow_one->nY,le_sub_one_of_lt->nZ,le_sub_of_add_le->n0,eq_of_testBit_eq->n3,add_sub_add_left->n4,add_mul_div_left->n7,add_lt_add_right->n8,sub_lt_sub_left->oz,pow_le_pow_left->oA,add_left_cancel->oC,mul_right_comm->oK,succ_le_of_lt->oU,mul_left_comm->oV,add_pos_right->oW,add_left_comm->oX,succ_lt_succ->pq,mod_eq_of_lt->px,mul_add_div->pM,succ->pX
open Nat.succ renaming inj->cE
open Ne renaming symm->fK
open Neg renaming neg->ng
open Option renaming map_eq_some_iff->ck,bind_some->d8,isSome_iff_exists->gq,bind_eq_some_iff->gz,none_or->lj,isNone_iff_eq_none->lA,elim->mP,map_some->oJ
open Option.some renaming inj->ae
open Prod renaming fst->nI
open Prod.mk renaming inj->b0,injEq->jO
open PyProof.Rows renaming step_dedup->iE,rangeInts->iP,exec_Assign->kh,firstMet->kT,IntsAre->lE,get?_update_seq->my,markedEach_of_false->pG
open PySem renaming wpAny_bind->af,Value->aj,Shared->ay,Expr->a7,Str->ba,Addr->bK,builtinLookup_eq_fast->cx,Params->cF,wpAny_holding->cU,mainGlobals->dg,Pos->dB,treeTable->dD,Expr->dI,typeLookup_type->dM,isSubtype_type->d6,World->d7,standAt->eu,Operator->eB,Scope->eV,typeLookup->eX,builtinsNs->eY,stored->e_,strKind->fh,wpAny_truthy_bool->fx,codeAny_call_builtin->fy,swappedStores->fD,Builtin->fH,rawInt->fI,Heap->fP,sysModules->fS,wpAny_newObj_type->fZ,Stmt->gv,holding->gx,Obj->gA,Sem->gH,backToKw->gS,call_meets->gV,wpAny_callSpecial?_slot->g8,sizeLine_eq->g9,valueAt->hJ,wpAny_Call_ofName->hY,callWith_type->iq,wpAny_call_entry->iw,swapsWith->ix,cellsFrom->iy,Arguments->iD,Program->iF,wpAny_of_eq->iH,bindArgs->iI,wpAny_specialOf->iU,TriplesOk->jd,wpAny_pyIter_tuple->jj,newFunctionEnv->jl,wpAny_dictEntries->jA,codeAny->jB,seqIndex?->jK,entryFor_of_tree->jL,Pairs->jM,wpAny_execs_nil->jY,importedModules->jZ,wpAny_field->j4,wpAny_alloc->j5,sizeLine->j6,isTrue->j7,entryFor->j8,dictEntries->j9,callWith->j_,specialOf->kb,isSubtype->kg,behindInMarks->kG,Env->kN,wpAny_load->kQ,Flow->k_,FuncBody->lH,wpAny_isInstance->lP,lastMarks->lQ,dictDisplay->mf,codeAny_of_tree->mz,relabel->mM,notedBy->mO,wpAny_setField->m5,wpAny_seqItems->m6,wpAny_rule->m7,wpAny_call->m8,letTemporaryGo->m9,JoinOk->nt,wpAny_binaryOp_repeat_ref->nG,not_mem_of_findIdx_none->ot,dictPut->oH,int___rmul___int_list->oS,wpAny_loadName_local->o_,unsupported->pb,table->pd,dictFind->pf,alloc->ph,Const->pC,wpAny_loadName_cell->pE,any_of_findIdx_some->pH,Tok->pJ,KeyKind->pL,wpAny_setSeqItemAt->pT,assignEach->pU,argsOk->pV,merged->pW,IsEnum->p6,wpAny_pyIter_list->qc,wpAny_pyIter_enum->qd,slot_list_setitem->qe,hashInt->qf,foldedSetIterable->qg,asItWas->qh,again->qi
open PySem.AutoListH renaming list_append_list_val_0->gF,list___mul___list_int_3->jS
open PySem.AutoSeq1 renaming wpAny_loadPart'->gf
open PySem.Bind renaming lastOf->lg,checkArgs->pS
open PySem.Builtin renaming divisionGoesByPylong->aQ,bitNot->fw,bitAnd->fU,bitOr->i9,bitXor->jH
open PySem.Builtin.Int renaming intBits->au
open PySem.Builtin.List renaming listFitsIndex->hV,listTooLong->kq
open PySem.Builtin.Range renaming rangeSize->cB,small->jo,rangeFitsLong->j0
open PySem.Builtin.SmallTypes renaming nextOf->o9
open PySem.Builtin.Str renaming occurrences->kO,tooLong->lO
open PySem.Calls renaming callWith_builtin->jz,evalArgs_plain->nE,wpAny_keep->oR
open PySem.Const.str renaming elim->kF
open PySem.Env renaming kindOf->fu,blockKind->ql
open PySem.Expr.Attribute renaming elim->lb
open PySem.Expr.Call renaming elim->kE
open PySem.Expr.Constant renaming elim->jy
open PySem.Expr.Lambda renaming elim->pk
open PySem.Expr.Name renaming elim->jx
open PySem.Expr.Slice renaming elim->nC
open PySem.Expr.Subscript renaming elim->la
open PySem.Expr.Tuple renaming elim->j3
open PySem.F renaming slot_int_rmul->gU,args_list_mul_2->lJ,args_int_rmul_2->lK,slot_int_index->lT,entry_list_mul->lU,entry_int_rmul->lX,slot_list_mul->mi,fills_int_mul->mj
open PySem.Heap renaming get?_push_of_some->aY,get?_push_size->bb,lt_size->bR,get?_update_self->d9,SameBut->fg,get?_none_of_le->jR,size_push->lN,ExtBut->nU,get?_update_ne->oj
open PySem.Heap.Ns renaming new->pQ
open PySem.Heap.SameBut renaming update->cT
open PySem.IntMulOk renaming of_le->oG
open PySem.Manifest renaming signature?->mD,canonical->mW,find?->oD
open PySem.Obj renaming mapSeq->iX,data_mapFields->iY,isFreed_of_fields->nJ,data_mapDictKeys->nX,isFreed_of_dict->oy,cls_mapFields->oT,data_mapDict->pn
open PySem.PyData renaming keyHash->fV
open PySem.SeqAt renaming RcNeAt->nf,EqAt->p9
open PySem.SeqAt.EqAt renaming bool_bool->pR
open PySem.Stmt.FunctionDef renaming elim->pK
open PySem.Str renaming ofString->az,join->iW,cps_append->jT,empty->pj
open PySem.StrLaws renaming glued_between_self->kR,glued_eq_join->mh
open PySem.Txt renaming replace->cY,lower->iO,find->js,join->lR
open PySem.Value renaming type->dk,builtin->hH,ref->jm,bool->j1,isStrOf_shape->nH,noConfusion->ov,isInt_shape->ox
open PySem.W renaming boot_drawn->eZ,boot_heap->gy,topRun->jk,segRun_of->oq,boot_toks->ou,SharedT->oI,CodeHd->p_
open PySem.W.Fast renaming te14364793385576792824->jt,te10110043849684766642->ju
open PySem.Walks renaming tuple->m_,range->nc,list->nW
open Option renaming some->Y,none->N
noncomputable section
namespace Zz
@[elab_as_elim] theorem Q {o:Sort _}{G p:o}{b:o->Prop}(e:G=p)(a:b p):b G:=e▸a
@[elab_as_elim] theorem J {o:Sort _}{G p:o}{b:o->Prop}(e:p=G)(a:b p):b G:=e▸a
theorem rG {G:Prop}(t:A/\sZ)(o:A->sZ->G):G:=o t.1 t.2
theorem qN {G:Prop}{k:Prop}(t:A/\sZ/\G)(o:A->sZ->G->k):k:=o t.1 t.2.1 t.2.2
theorem rj {G:Prop}(H:A)(p:sZ)(a:G):A/\sZ/\G:=⟨H,p,a⟩
theorem uQ {G k:Prop}{u:Prop}(t:A/\sZ/\G/\k)(o:A->sZ->G->k->u):u:=o t.1 t.2.1 t.2.2.1 t.2.2.2
theorem td {G k:Prop}(H:A)(p:sZ)(a:G)(b:k):A/\sZ/\G/\k:=⟨H,p,a,b⟩
theorem Ve {G k u:Prop}{n:Prop}(t:A/\sZ/\G/\k/\u)(o:A->sZ->G->k->u->n):n:=o t.1 t.2.1 t.2.2.1 t.2.2.2.1 t.2.2.2.2
theorem Ef {G k u:Prop}(H:A)(p:sZ)(a:G)(b:k)(q:u):A/\sZ/\G/\k/\u:=⟨H,p,a,b,q⟩
theorem Vd {H k u n:Prop}(I:A)(p:sZ)(a:H)(b:k)(q:u)(T:n)(o:G):A/\sZ/\H/\k/\u/\n/\G:=⟨I,p,a,b,q,T,o⟩
theorem rN {p:Sort _}{b:p->Prop}{v:Prop}(U:∃G,b G)(o:∀G,b G->v):v:=U.elim λG U=>o G U
theorem NR {o:Sort _}{b:o->Prop}(G:o)(p:b G):∃G,b G:=⟨G,p⟩
theorem qt {p:Sort _}{b T:p->Prop}{v:Prop}(U:∃G,b G/\T G)(o:∀G,b G->T G->v):v:=U.elim λG U=>o G U.1 U.2
theorem qr {o:Sort _}{b U:o->Prop}(G:o)(p:b G)(a:U G):∃G,b G/\U G:=⟨G,p,a⟩
theorem rU {p:Sort _}{b T g:p->Prop}{v:Prop}(U:∃G,b G/\T G/\g G)(o:∀G,b G->T G->g G->v):v:=U.elim λG U=>o G U.1 U.2.1 U.2.2
theorem ry {o:Sort _}{b U g:o->Prop}(G:o)(p:b G)(a:U G)(c:g G):∃G,b G/\U G/\g G:=⟨G,p,a,c⟩
theorem HE {p:Sort _}{b T g n:p->Prop}{v:Prop}(U:∃G,b G/\T G/\g G/\n G)(o:∀G,b G->T G->g G->n G->v):v:=U.elim λG U=>o G U.1 U.2.1 U.2.2.1 U.2.2.2
theorem HB {o:Sort _}{b U g n:o->Prop}(G:o)(p:b G)(a:U G)(c:g G)(q:n G):∃G,b G/\U G/\g G/\n G:=⟨G,p,a,c,q⟩
theorem HD {p:Sort _}{b T g n G:p->Prop}{v:Prop}(U:∃H,b H/\T H/\g H/\n H/\G H)(o:∀H,b H->T H->g H->n H->G H->v):v:=U.elim λH U=>o H U.1 U.2.1 U.2.2.1 U.2.2.2.1 U.2.2.2.2
theorem zz {o:Sort _}{b U g n G:o->Prop}(H:o)(p:b H)(a:U H)(c:g H)(q:n H)(T:G H):∃H,b H/\U H/\g H/\n H/\G H:=⟨H,p,a,c,q,T⟩
theorem Ee {o:Sort _}{b U g n G a:o->Prop}(H:o)(p:b H)(c:U H)(d:g H)(q:n H)(T:G H)(s:a H):∃H,b H/\U H/\g H/\n H/\G H/\a H:=⟨H,p,c,d,q,T,s⟩
theorem se {q:Sort _}{v:Sort _}{b:q->v->Prop}{A:Prop}(U:∃G p,b G p)(o:∀G p,b G p->A):A:=U.elim λG U=>U.elim λp U=>o G p U
theorem tH {o:Sort _}{v:Sort _}{b:o->v->Prop}(G:o)(p:v)(a:b G p):∃G p,b G p:=⟨G,p,a⟩
theorem zA {q:Sort _}{v:Sort _}{b T:q->v->Prop}{A:Prop}(U:∃G p,b G p/\T G p)(o:∀G p,b G p->T G p->A):A:=U.elim λG U=>U.elim λp U=>o G p U.1 U.2
theorem wy {o:Sort _}{v:Sort _}{b U:o->v->Prop}(G:o)(p:v)(a:b G p)(c:U G p):∃G p,b G p/\U G p:=⟨G,p,a,c⟩
theorem qZ {q:Sort _}{v:Sort _}{b T g:q->v->Prop}{A:Prop}(U:∃G p,b G p/\T G p/\g G p)(o:∀G p,b G p->T G p->g G p->A):A:=U.elim λG U=>U.elim λp U=>o G p U.1 U.2.1 U.2.2
theorem tb {o:Sort _}{v:Sort _}{b U g:o->v->Prop}(G:o)(p:v)(a:b G p)(c:U G p)(q:g G p):∃G p,b G p/\U G p/\g G p:=⟨G,p,a,c,q⟩
theorem yw {q:Sort _}{v:Sort _}{b T g n:q->v->Prop}{A:Prop}(U:∃G p,b G p/\T G p/\g G p/\n G p)(o:∀G p,b G p->T G p->g G p->n G p->A):A:=U.elim λG U=>U.elim λp U=>o G p U.1 U.2.1 U.2.2.1 U.2.2.2
theorem uv {o:Sort _}{v:Sort _}{b U g n:o->v->Prop}(G:o)(p:v)(a:b G p)(c:U G p)(q:g G p)(T:n G p):∃G p,b G p/\U G p/\g G p/\n G p:=⟨G,p,a,c,q,T⟩
theorem HA {o:Sort _}{v:Sort _}{b U g n G:o->v->Prop}(H:o)(p:v)(a:b H p)(c:U H p)(q:g H p)(T:n H p)(s:G H p):∃H p,b H p/\U H p/\g H p/\n H p/\G H p:=⟨H,p,a,c,q,T,s⟩
theorem Hz {o:Sort _}{v:Sort _}{b U g n G a:o->v->Prop}(H:o)(p:v)(c:b H p)(d:U H p)(q:g H p)(T:n H p)(s:G H p)(e:a H p):∃H p,b H p/\U H p/\g H p/\n H p/\G H p/\a H p:=⟨H,p,c,d,q,T,s,e⟩
theorem acS {q:Sort _}{v:Sort _}{A:Sort _}{b:q->v->A->Prop}{k:Prop}(U:∃G p a,b G p a)(o:∀G p a,b G p a->k):k:=U.elim λG U=>U.elim λp U=>U.elim λa U=>o G p a U
theorem acR {q:Sort _}{v:Sort _}{A:Sort _}{b T:q->v->A->Prop}{k:Prop}(U:∃G p a,b G p a/\T G p a)(o:∀G p a,b G p a->T G p a->k):k:=U.elim λG U=>U.elim λp U=>U.elim λa U=>o G p a U.1 U.2
theorem wR {o:Sort _}{v:Sort _}{A:Sort _}{b U:o->v->A->Prop}(G:o)(p:v)(a:A)(c:b G p a)(q:U G p a):∃G p a,b G p a/\U G p a:=⟨G,p,a,c,q⟩
theorem Eh {q:Sort _}{v:Sort _}{A:Sort _}{b T g:q->v->A->Prop}{k:Prop}(U:∃G p a,b G p a/\T G p a/\g G p a)(o:∀G p a,b G p a->T G p a->g G p a->k):k:=U.elim λG U=>U.elim λp U=>U.elim λa U=>o G p a U.1 U.2.1 U.2.2
theorem Ed {o:Sort _}{v:Sort _}{A:Sort _}{b U g:o->v->A->Prop}(G:o)(p:v)(a:A)(c:b G p a)(q:U G p a)(T:g G p a):∃G p a,b G p a/\U G p a/\g G p a:=⟨G,p,a,c,q,T⟩
theorem Eg {q:Sort _}{v:Sort _}{A:Sort _}{b T g n:q->v->A->Prop}{k:Prop}(U:∃G p a,b G p a/\T G p a/\g G p a/\n G p a)(o:∀G p a,b G p a->T G p a->g G p a->n G p a->k):k:=U.elim λG U=>U.elim λp U=>U.elim λa U=>o G p a U.1 U.2.1 U.2.2.1 U.2.2.2
theorem AJ {o:Sort _}{v:Sort _}{A:Sort _}{b U g n:o->v->A->Prop}(G:o)(p:v)(a:A)(c:b G p a)(q:U G p a)(T:g G p a)(s:n G p a):∃G p a,b G p a/\U G p a/\g G p a/\n G p a:=⟨G,p,a,c,q,T,s⟩
theorem Ec {o:Sort _}{v:Sort _}{A:Sort _}{b U g n G a:o->v->A->Prop}(H:o)(p:v)(c:A)(d:b H p c)(q:U H p c)(T:g H p c)(s:n H p c)(e:G H p c)(L:a H p c):∃H p c,b H p c/\U H p c/\g H p c/\n H p c/\G H p c/\a H p c:=⟨H,p,c,d,q,T,s,e,L⟩
theorem acQ {q:Sort _}{v:Sort _}{A:Sort _}{k:Sort _}{b:q->v->A->k->Prop}{u:Prop}(U:∃G p a c,b G p a c)(o:∀G p a c,b G p a c->u):u:=U.elim λG U=>U.elim λp U=>U.elim λa U=>U.elim λc U=>o G p a c U
theorem Hy {o:Sort _}{v:Sort _}{A:Sort _}{k:Sort _}{b U:o->v->A->k->Prop}(G:o)(p:v)(a:A)(c:k)(q:b G p a c)(T:U G p a c):∃G p a c,b G p a c/\U G p a c:=⟨G,p,a,c,q,T⟩
theorem HC {q:Sort _}{v:Sort _}{A:Sort _}{k:Sort _}{b T g:q->v->A->k->Prop}{u:Prop}(U:∃G p a c,b G p a c/\T G p a c/\g G p a c)(o:∀G p a c,b G p a c->T G p a c->g G p a c->u):u:=U.elim λG U=>U.elim λp U=>U.elim λa U=>U.elim λc U=>o G p a c U.1 U.2.1 U.2.2
theorem AI {o:Sort _}{v:Sort _}{A:Sort _}{k:Sort _}{b U g n:o->v->A->k->Prop}(G:o)(p:v)(a:A)(c:k)(q:b G p a c)(T:U G p a c)(s:g G p a c)(d:n G p a c):∃G p a c,b G p a c/\U G p a c/\g G p a c/\n G p a c:=⟨G,p,a,c,q,T,s,d⟩
theorem Hx {o:Sort _}{v:Sort _}{A:Sort _}{k:Sort _}{b U g n G:o->v->A->k->Prop}(H:o)(p:v)(a:A)(c:k)(q:b H p a c)(T:U H p a c)(s:g H p a c)(d:n H p a c)(L:G H p a c):∃H p a c,b H p a c/\U H p a c/\g H p a c/\n H p a c/\G H p a c:=⟨H,p,a,c,q,T,s,d,L⟩
theorem NT {q:Sort _}{v:Sort _}{A:Sort _}{k:Sort _}{u:Sort _}{b:q->v->A->k->u->Prop}{n:Prop}(U:∃G p a c s,b G p a c s)(o:∀G p a c s,b G p a c s->n):n:=U.elim λG U=>U.elim λp U=>U.elim λa U=>U.elim λc U=>U.elim λs U=>o G p a c s U
theorem Hw {o:Sort _}{v:Sort _}{A:Sort _}{k:Sort _}{u:Sort _}{b:o->v->A->k->u->Prop}(G:o)(p:v)(a:A)(c:k)(q:u)(T:b G p a c q):∃G p a c q,b G p a c q:=⟨G,p,a,c,q,T⟩
theorem acP {q:Sort _}{v:Sort _}{A:Sort _}{k:Sort _}{u:Sort _}{b L:q->v->A->k->u->Prop}{n:Prop}(U:∃G p a c s,b G p a c s/\L G p a c s)(o:∀G p a c s,b G p a c s->L G p a c s->n):n:=by obtain ⟨G,p,a,c,s,T,t⟩:=U;exact o G p a c s T t
theorem qm {o:Prop}{b:Decidable o}(G:o) {v:Sort _}{p a:v}:@ite v o b p a=p:=if_pos G
theorem qn {o:Prop}{b:Decidable o}(G:¬o) {v:Sort _}{H p:v}:@ite v o b H p=p:=if_neg G
theorem qo {o:Sort _}{v:Sort _}{G p:o}(b:o->v) (e:G=p):b G=b p:=congrArg b e
theorem Eb:∀{q:Int}{c:Nat},0<=q/\q<↑c->q.toNat<c:=λt=>(iN t.1).mpr t.2
theorem NQ:∀{q:Int},q<0->-q-1=↑(-q-1).toNat:=λG=>(cj (Int.sub_nonneg_of_le (ee G))).symm
theorem NP:∀{q a x2:Int},x2<=a->¬x2<q->q<=a:=λw G=>aB (bP.mp G) w
theorem NO:∀{c h x2 x3:Nat},h=x2->x3+c=x2->x3<h->c=c-1+1:=λe i G=>(aH (Nat.pos_of_lt_add_right (eP G (e.trans i.symm)))).symm
theorem NN:∀{q:Int},(-1)*q=-q:=by intros;lia
theorem NM:∀{q a x2:Int},q<=x2->x2*1<=a->q<=a:=λw i=>aB w (aB (bT (gR _).symm) i)
theorem Ea:∀{q:Int}{c:Nat},0<=q+↑c/\q+↑c<↑c->(q+↑c).toNat<c:=λt=>(iN t.1).mpr t.2
theorem NL:∀{q a x2 x3:Int},a=x2-(x3+q)->q+a=x2-x3:=by intros;lia
theorem NK:∀{q:Int}{c:Nat},q.natAbs<c->49+q.natAbs<=49*c:=λG=>aa (aa (aP (gY _ (by decide)) _) (aK (bz ..))) (aU 49 G)
theorem NJ:∀{c h x2 x3 x4 x5:Nat},c<=282475249*x3->x3<=x4->x5<=x4->4294967296*x4<=x2->h<x5->2*c+h<x2:=λw i b T G=>ai (l9 (aU 2 (aa w (aU _ i))) (ai G b)) (aa (by rw[<- fR,<-ku];exact cz _ (by decide)) T)
theorem NI:∀{c h x2:Nat},x2+(h+1)<=50->c<=x2->c<=60:=λw i=>aa i (aa (aM ..) (aa w (by decide)))
theorem NH:∀{q a:Int},0<=a/\a<=3->q<=a*3->q<=9:=λt w=>aB w (fE t.2 (by decide))
theorem NG:∀{c h:Nat},h<c->c-h=c-(h+1)+1:=λG=>(Nat.succ_pred_eq_of_pos (je G)).symm
theorem NF:∀{q a x2 x3 x4:Int},q<=x3->x3<=x4+x2->x4<=a->q<=a+x2:=λw i b=>aB w (aB i (ip b _))
theorem ND:∀{q:Int}{c x2:Nat},c<=65536->0<=q/\x2=q.toNat\/q<0/\-↑c<=q/\x2=(q+↑c).toNat->-2^63<=q:=λw n=>n.elim (λn=>aB (by decide) n.1) λn=>aB (aB (by decide:(-2^63:Int)<=-(65536:Nat)) (jX (bB.mpr w))) n.2.1
theorem NC:∀{q a x2 x3 x4:Int},q<=x3+x4->a+x3+x4<=x2->q<=-(a-x2):=λw i=>aB w (aB (Int.le_sub_left_of_add_le (aB (bT (jn ..).symm) i)) (bT (lz ..).symm))
theorem AH:∀{c h:Nat},c+(h+1)<=50->c+1+h<=50:=@λc h w=>aa (aK (cm c h)) w
theorem NB:∀{c h x2:Nat},c<x2->h+1=x2->¬c+1=x2->c<h:=λG e H=>ct (bO (eP G e.symm)) λi=>H ((congrArg (·+1) i).trans e)
theorem NA:∀{q a:Int}{c:Nat},a<=9*↑c->q<=9->q+a<=9*↑(c+1):=@λq a c w i=>aB (er i w) (bT ((gp ..).trans (fG 9 c 1).symm))
theorem Nz:∀{c h:Nat}{x2:Int},x2<↑h->x2=↑c->c<h:=λG e=>bo.mp (e▸G)
theorem Ny:∀{q a x2:Int},q+a=q+x2+(a-x2):=by intros;lia
theorem Nx:∀{q:Int}{c:Nat},0<=q+↑c/\q+↑c<↑c->q<↑c:=@λq c t=>eS (Int.lt_of_add_lt_add_right (eS t.2 (bT (dA _).symm))) (aC c)
theorem Nv:∀{c h:Nat},↑c+(-↑h-(1:Int))<↑c:=by intros;lia
theorem Nu:∀{c h x2 x3:Nat},c<x3->h+x3<=x2->c+h<x2:=λG w=>ai (av (aK (bz ..)) (cN G _)) w
theorem Nt:∀{c h t T z:Nat},c<=h+z+0+t->z<=T->c<=h+(t+T):=@λc h t T z w i=>aa w (aa (aK ((b_ h z t).trans (congrArg (h+·) (bz ..)))) (aP (aP i _) _))
theorem Nr:∀{c h x2:Nat},x2+(c+1)=h->c<h:=λe=>e▸b8 ..
theorem Nq:∀{q a:Int},a<q->¬q<a:=λG T=>eM _ (gn G T)
theorem Np:∀{c h x2 x3:Nat},h<=x2->c<=x3->c+h<=x2+x3:=λw i=>aa (bq i w) (aK (bz ..))
theorem Nn:∀{q a:Int},0<=q->0<a->0<q+a:=λw G=>Int.add_pos_of_nonneg_of_pos w G
theorem Nm:∀{q a d G n:Int},0<a->d<=G->G<=n->d=n+q->q<a:=@λq a d G n H w i e=>b7 (mx (aB (bT e.symm) (aB (aB w i) (bT (dJ n).symm)))) H
theorem Nl:∀{q:Int}{c x2:Nat},c<=65536->x2<c->0<=q/\x2=q.toNat\/q<0/\-↑c<=q/\x2=(q+↑c).toNat->q<2^63:=λw G n=>n.elim (λn=>b7 (bT (cj n.1).symm) (eS (bo.mpr (n.2▸ai G w)) (by decide:((65536:Nat):Int)<=2^63))) λn=>gn n.1 (by decide)
theorem Nk:∀{c h:Nat},c=h->0<h->c<=h-1->False:=@λc h e G w=>b9 c (av w (eP (hZ G lq) e.symm))
theorem Nj:∀{c h:Nat},0<h->c<=h-1->c<h:=λG w=>av w (hZ G lq)
theorem Ni:∀{c h x2:Nat},h+(x2+1)<=50->c=h->c<=60:=λw e=>e▸aa (aM ..) (aa w (by decide))
theorem Nh:∀{c h:Nat},h<=16000->c<=30000->c+h-1<=50000:=λw i=>aa (c8 ..) (aa (bq i w) (by decide))
theorem Ng:∀{q:Int}{c h t T z:Nat},h<t->↑(T+h)=↑z-↑c+q->T+t<=z->q<↑c:=@λq c h t T z G e w=>ia.mp λi=>eM _ (eS (bo.mpr (ai (cN G T) w)) (aB (aB (bT (gJ (z:Int) c).symm) (fC i _)) (bT e.symm)))
theorem Nf:∀{q a:Int},q<0->q+a<a:=@λq a G=>eS (Int.add_lt_add_right G a) (bT (dA _))
theorem Nd:∀{q a:Int},-(-q - -a)=q-a:=by intros;lia
theorem Nc:∀{c h x2 x3:Nat},x2+h=x3->↑c+(-↑h-(1:Int))+(-↑x2-↑c)=-↑x3-(1:Int):=by intros;lia
theorem Nb:∀{q:Int},0<q->-q<0:=λG=>oO G
theorem yv:∀{q:Int},0<=q->0<=q+1:=λw=>g7 w (by decide)
theorem Na:∀{c h:Nat},c<h+1->¬c=h->c<h:=λG H=>ct (bO G) H
theorem M':∀{q a d G n:Int},G<=n->0<=a->q+n<=-d->q<=a-d-G:=@λq a d G n w i b=>aB (Int.le_sub_right_of_add_le b) (Int.sub_le_sub (aB (bT (Int.zero_sub d).symm) (ij i _)) w)
theorem M_:∀{q a:Int},a<=0->0<a->q<=0:=λw G=>absurd w (ia.mpr G)
theorem M9:∀{c h t T:Nat},h=t->c+(T+1)=t->c<h:=@λc h t T e i=>eP (jv (fJ T)) (i.trans e.symm)
theorem M8:∀{q:Int}{c:Nat}{a:Int},↑q.natAbs<=a->2*a<↑c->q.natAbs<c:=@λq c a w G=>bo.mp (b7 (aB w (aB (bT (dO a).symm) (fE (by decide) (aB (aC _) w)))) G)
theorem M7:∀{q a:Int},0<=a->0<q->0<q+a:=λw G=>Int.add_pos_of_pos_of_nonneg G w
theorem M6:∀{c h:Nat},c<=h+1->¬c=h+1->c<=h:=λw G=>bO (ct w G)
theorem M5:∀{c h:Nat},c<=60->c-h<=65536:=λw=>aa (c8 ..) (aa w (by decide))
theorem M4:∀{q a x2:Int},x2<=a->q<x2->q<=a:=λw G=>aB (bX G) w
theorem D':∀{c h x2:Nat},c=h->c<=h+x2:=λe=>e▸aM ..
theorem M3:∀{c h x2:Nat},h=x2->h+c=x2->c=0:=λe i=>oC (i.trans e.symm)
theorem M1:∀{c h:Nat},h<c->(0:Int)<=↑c+(-↑h-(1:Int)):=by intros;lia
theorem M0:∀{c h t:Nat},h<=c->t<=h->c=h-t+(c-h+t):=@λc h t w i=>by rw[bz (c-h),<-b_,aH i,cM w]
theorem MZ:∀{c:Nat}{q:Int},q=-↑c-1->c<=q.natAbs:=@λc q e=>aa (cZ c) (aK (by rw[e,oN,<-og,cX];rfl))
theorem MY:∀{q a:Int}{x2:Nat},a.natAbs<2^50->(q+a).natAbs<=x2+a.natAbs->(q+a).natAbs<=x2+2^51:=λG w=>aa w (aP (aa (bl G) (by decide)) _)
theorem MX:∀{c h x2:Nat},c*1<=x2->c<=h+x2:=λw=>aa (aK (eJ _).symm) (aa w (b8 ..))
theorem MW:∀{q:Int}{c:Nat},0<=q/\q<↑c->q<↑c:=λt=>t.2
theorem MV:∀{q a:Int},a=q->(-3)<=a/\a<=21->q.natAbs<=21:=λe t=>e▸(Int.natAbs_eq _).elim (λi=>bB.mp (aB (bT i.symm) t.2)) λi=>bB.mp (aB (Int.le_of_neg_le_neg (aB t.1 (bT i))) (by decide))
theorem MU:∀{c h t T:Nat},c=T->h+(t+1)=T->c-1-h=t:=@λc h t T e i=>(congrArg (λz=>z-1-h) (e.trans i.symm)).trans (bc h t)
theorem MT:∀{c h:Nat},h<=20000->(c+5)*1<=h->c<=20000:=@λc h w i=>aa (aM c 5) (aa (aK (eJ _).symm) (aa i w))
theorem MS:∀{c:Nat}{q:Int}{x2:Nat},32+6*c<=32+6*c+q.toNat+x2:=by intros;lia
theorem MR:∀{q a d G n:Int},0<=a->d<=G->G<=n->d=n+q->q<=a:=@λq a d G n w i b e=>aB (mx (aB (bT e.symm) (aB (aB i b) (bT (dJ n).symm)))) w
theorem MQ:∀{c:Nat},c<=2*5->c<=100000:=λw=>aa w (by decide)
theorem MP:∀{c h t:Nat},c+(h+1)=t->c+1+h=t:=@λc h t e=>(cm c h).trans e
theorem MO:∀{q a:Int},q<=a->0+q<=a:=λw=>aB (bT (dA _)) w
theorem MN:∀{q:Int}{c x2:Nat},c<=65536->x2<c->0<=q/\x2=q.toNat\/q<0/\-↑c<=q/\x2=(q+↑c).toNat->¬q < -2^63/\¬q≥2^63:=λw G n=>⟨bP.mpr (n.elim (λG=>aB (by decide) G.1) λG=>aB (aB (by decide:(-2^63:Int)<=-(65536:Nat)) (jX (bB.mpr w))) G.2.1),ia.mpr (n.elim (λn=>b7 (bT (cj n.1).symm) (eS (bo.mpr (n.2▸ai G w)) (by decide:((65536:Nat):Int)<=2^63))) λn=>gn n.1 (by decide))⟩
theorem MM:∀{c h:Nat}{x2:Int},x2=↑c->x2=↑h->c=h:=λe i=>cW (e.symm.trans i)
theorem YI:∀{n:Nat},0<n->(-1:Int)=((n-1:Nat):Int)-n
 |n+1,J=>(ny.mpr (Int.add_neg_cancel_right n 1).symm).symm
theorem Si {L:Int}{U:Nat}(T:-3<=L/\L<=3) (e:L+3=U):U<7:=bo.mp<|e▸b7 (ip T.2 3) (by decide)
theorem YH {I:Int}{T:Nat}(L:0<=I/\I<=3) (U:13<=T):1+4*I.toNat<=T:=aa (aP (aU 4<|nu.mpr L.2) 1) U
theorem ag4 {U:Nat}(L:f+s=g+U)(T:A+U=sZ+Dj):A+f+s=sZ+g+Dj:=(b_ ..).trans<|(congrArg (A+·) L).trans<|(oX ..).trans<|(congrArg (g+·) T).trans<|(oX ..).trans (b_ ..).symm
theorem ag5:∀{n U:Nat},0<n->n+1+U=n-1+U+2
 |n+1,U,J=>cD n 2 U
theorem NS {U:Nat}(T:U<=65536):-65537<=(U:Int)/\(U:Int)<=65537:=⟨aB (by decide) (aC U),bB.mpr<|fj T⟩
theorem acO {U:Nat}{T:Int}(I:U<=65536) (L:-(U:Int)<=T) (H:T<U):-2^63<=T/\T<2^63:=⟨aB (jX<|bB.mpr<|aa I<|by decide) L,gn H<|bo.mpr<|av I<|by decide⟩
theorem Sj (U:-3<=x/\x<=3):0<=x+3:=ip U.1 3
end Zz
end
open Zz
noncomputable section
namespace Mp
abbrev Po:=Nat->Int
noncomputable def qx (b:Nat->Int):List Nat->Int
 |[]=>0|u::l=>b u+qx b l
theorem Rk {a:List Nat}(b:v∈a):(a.erase v).length+1=a.length:=Q (eh b)<|aH<|eG b
theorem OX {a:List Nat}(b:v∈a)(x:a.length<=n+1):(a.erase v).length<=n:=aJ<|aa (aK<|Rk b) x
theorem qQ {b e:Nat->Int}:∀{l:List Nat},(∀u∈l,b u=e u)->qx b l=qx e l
 |[]=>@λJ=>rfl
 |u::l=>@λg=>by refine (Q (g u<|.head _)<|Q (qQ λh a=>g h<|.tail _ a) rfl:b u+qx b l=e u+qx e l)
theorem xC (b e:Nat->Int):∀a,qx (λu=>b u+e u) a=qx b a+qx e a
 |[]=>rfl|u::a=>by refine (Q (xC b e a) ?_:(b u+e u)+qx (λu=>b u+e u) a=(b u+qx b a)+(e u+qx e a));lia
theorem xB (b f:Nat->Int)(a):qx (λc=>b c-f c) a=qx b a-qx f a:=by
 induction a with
 |nil=>rfl|cons c a e=>
  refine (Q e ?_:(b c-f c)+qx (λc=>b c-f c) a=(b c+qx b a)-(f c+qx f a));lia
theorem r8 (q)(b:Nat->Int):∀a,qx (λu=>q*b u) a=q*qx b a
 |[]=>(bE q).symm|u::a=>by refine (Q (r8 q b a)<|Q (fG ..) rfl:q*b u+qx (λu=>q*b u) a=q*(b u+qx b a))
theorem xQ {b:Nat->Int}:∀{l:List Nat},(∀u∈l,0<=b u)->0<=qx b l
 |[]=>@λJ=>c7 _
 |u::l=>@λe=>g7 (e u<|.head _)<|xQ λh a=>e h<|.tail _ a
theorem s9:∀a:List Nat,qx (λJ=>0) a=0
 |[]=>rfl|_::a=>by show 0+qx (λJ=>0) a=0;exact Q (s9 a) rfl
theorem BF {b:Nat->Int}{a:List Nat}(T:a.Perm k):qx b a=qx b k:=by
 induction T with
 |nil=>rfl|cons c J e=>refine (?_:b c+_=b c+_);refine Q e rfl
 |swap c h a=>exact (o8 _ _ _:b h+(b c+_)=b c+(b h+_))|trans J W i n=>exact i.trans n
theorem UK (b:Nat->Nat->Int):∀{l:List Nat},l.Nodup->qx (λc=>qx (λh=>b c h)<|l.erase c) l=qx (λh=>qx (λc=>b c h)<|l.erase h) l
 |[]=>@λW=>rfl
 |a::l=>@λx=>by
  have t:=bI.mp x;have G:∀c∈l,(a::l).erase c=a::l.erase c:=λc e=>by rw[nR];simp;rintro rfl;exact t.1 e
  refine (Q (cS ..) ?_:qx (λh=>b a h) ((a::l).erase a)+qx (λc=>qx (λh=>b c h)<|(a::l).erase c) l=qx (λc=>b c a) ((a::l).erase a)+qx (λh=>qx (λc=>b c h)<|(a::l).erase h) l);exact Q (J (xC ..)<|qQ λc e=>Q (G c e) rfl:qx (λc=>qx (λh=>b c h)<|(a::l).erase c) l=qx (λc=>b c a) l+qx (λc=>qx (λh=>b c h)<|l.erase c) l)<|Q (J (xC ..)<|qQ λc e=>Q (G c e) rfl:qx (λh=>qx (λc=>b c h)<|(a::l).erase h) l=qx (λh=>b a h) l+qx (λh=>qx (λc=>b c h)<|l.erase h) l)<|Q (UK b t.2)<|o8 _ _ _
noncomputable def sh (A:Po):Po
 |0=>0|j+1=>A j
section
variable (d:Nat->Int) (w:Nat->Nat->Int)
noncomputable def mu:Nat->List Nat->Po
 |J,[]=>λc=>if c=0 then 1 else 0
 |0,_::_=>λJ=>0
 |n+1,t::S=>λc=>sh (mu n S) c-d t*mu n S c-qx (λT=>w t T*mu n (S.erase T) c) S
theorem QA:∀c,mu d w c []=λh=>if h=0 then 1 else 0
 |0=>rfl|J+1=>rfl
theorem FR:∀(n m:Nat)(S:List Nat),S.length<=n->S.length<=m->mu d w n S=mu d w m S
 |0,0,S,J,W=>rfl|n,m,[],J,W=>(QA d w n).trans (QA d w m).symm
 |n+1,m+1,t::S,x,i=>by
  have x:=aJ x;have i:=aJ i
  funext j
  refine (Q (FR n m S x i) ?_:sh (mu d w n S) j-d t*mu d w n S j-qx (λz=>w t z*mu d w n (S.erase z) j) S=sh (mu d w m S) j-d t*mu d w m S j-qx (λz=>w t z*mu d w m (S.erase z) j) S);congr 1;exact qQ λz a=>by refine Q (FR n m (S.erase z) (aa (bH ..) x)<|aa (bH ..) i) rfl
def m (a:List Nat):Po:=mu d w a.length a
theorem CH (c):m d w [] c=if c=0 then 1 else 0:=rfl
theorem tn (c)(a)(h):m d w (c::a) h=sh (m d w a) h-d c*m d w a h-qx (λt=>w c t*m d w (a.erase t) h) a:=by show sh (mu d w a.length a) h-d c*mu d w a.length a h-qx (λt=>w c t*mu d w a.length (a.erase t) h) a=_;congr 1;exact qQ λt b=>Q (FR d w a.length (a.erase t).length (a.erase t) (bH ..)<|ag _) rfl
end
theorem DA {A T:Po}(b:∀j,A j=T j):∀j,sh A j=sh T j
 |0=>rfl|j+1=>b j
theorem ZF (b:Nat->Po)(a):∀j,sh (λh=>qx (λt=>b t h) a) j=qx (λt=>sh (b t) j) a
 |0=>(s9 a).symm|j+1=>rfl
theorem ZG (A T i:Po)(q):∀j,sh (λh=>A h-q*T h-i h) j=sh A j-q*sh T j-sh i j
 |0=>by refine (?_:(0:Int)=0-q*0-0);lia
 |j+1=>rfl
theorem Kb {a:List Nat}(G:c∉a)(b:u∈a):(c::a).erase u=c::a.erase u:=by rw[nR];simp;rintro rfl;exact G b
theorem VP {S:List Nat}(G:b∉S)(g:c≠b)(t):m d f (c::b::S) t =
  (sh (sh<|m d f S) t-d b*sh (m d f S) t-qx (λT=>f b T*sh (m d f<|S.erase T) t) S)-d c*(sh (m d f S) t-d b*m d f S t-qx (λT=>f b T*m d f (S.erase T) t) S)
  - (f c b*m d f S t+(qx (λT=>f c T*sh (m d f<|S.erase T) t) S-d b*qx (λT=>f c T*m d f (S.erase T) t) S-qx (λT=>qx (λz=>f c T*(f b z*m d f ((S.erase T).erase z) t))<|S.erase T) S)):=by
 refine Q (tn ..) ?_;have e:sh (m d f<|b::S) t=sh (sh<|m d f S) t-d b*sh (m d f S) t-qx (λT=>f b T*sh (m d f<|S.erase T) t) S:=by
  refine Q (DA (tn d f b S) t)<|Q (ZG ..)<|Q (ZF ..) ?_
  congr 1;exact qQ λT W=>by cases t<;>simp[sh]
 have n:qx (λT=>f c T*m d f ((b::S).erase T) t) (b::S)=f c b*m d f S t+(qx (λT=>f c T*sh (m d f<|S.erase T) t) S-d b*qx (λT=>f c T*m d f (S.erase T) t) S-qx (λT=>qx (λz=>f c T*(f b z*m d f ((S.erase T).erase z) t))<|S.erase T) S):=by
  show f c b*m d f ((b::S).erase b) t+qx (λT=>f c T*m d f ((b::S).erase T) t) S=_;refine Q (cS ..) ?_;congr 1;refine J (r8 ..)<|J (xB ..)<|J (xB ..) ?_
  exact qQ λT a=>by refine Q (Kb G a) ?_;rw[tn,r8,fk,fk,cQ (f c T)<|d b]
 refine Q e<|Q n<|Q (tn ..) rfl
theorem aaq (g:∀c h,b c h=b h c){c:Nat}{S:List Nat}(G:c∉S)(a:h∉S)(e:c≠h)(x:S.Nodup)(t):m d b (c::h::S) t=m d b (h::c::S) t:=by
 rw[VP a e,VP G<|fK e,g h c];refine Q (Q (UK _ x) (qQ λT J=>qQ λz J=>by refine Q (lx ..)<|Q (cQ ..) rfl):qx (λT=>qx (λz=>b c T*(b h z*m d b ((S.erase T).erase z) t))<|S.erase T) S=qx (λT=>qx (λz=>b h T*(b c z*m d b ((S.erase T).erase z) t))<|S.erase T) S) ?_;generalize qx (λT=>qx (λz=>b h T*(b c z*m d b ((S.erase T).erase z) t))<|S.erase T) S=X;refine Q (by refine Q (fk ..)<|Q (fk ..) rfl:d c*(sh (m d b S) t-d h*m d b S t-qx (λT=>b h T*m d b (S.erase T) t) S)=d c*sh (m d b S) t-d c*(d h*m d b S t)-d c*qx (λT=>b h T*m d b (S.erase T) t) S)<|Q (by refine Q (fk ..)<|Q (fk ..) rfl:d h*(sh (m d b S) t-d c*m d b S t-qx (λT=>b c T*m d b (S.erase T) t) S)=d h*sh (m d b S) t-d h*(d c*m d b S t)-d h*qx (λT=>b c T*m d b (S.erase T) t) S)<|Q (cQ ..) ?_
 lia
theorem zc (g:∀c h,w c h=w h c):∀(n:Nat){S f:List Nat},S.length<=n->S.Perm f->S.Nodup->∀T,m d w S T=m d w f T
 |0,[],f,W,U,V,T=>by refine Q (List.nil_perm.mp U) rfl
 |n+1,S,f,A,U,x,T=>by
  induction U generalizing T with
  |nil=>rfl|@cons z S f H G=>
   have A:=aJ A;have a:=(bI.mp x).2;refine Q (tn ..)<|Q (tn ..)<|Q (DA (λT=>zc g n A H a T) T)<|Q (zc g n A H a T)<|Q (BF H) ?_
   congr 1;exact qQ λI b=>by refine Q (zc g n (aa (bH ..) A) (H.erase I) (a.erase I) T) rfl
  |swap c h S=>
   have t:=bI.mp x;have a:=bI.mp t.2;exact aaq g (λU=>t.1<|.tail _ U) a.1 (λe=>t.1<|Q e<|.head _) a.2 T
  |@trans S f j H y p i=>refine Q (p A x T)<|Q (i (J H.length_eq A) (H.nodup x) T) rfl
theorem Oz (g:∀c h,b c h=b h c){S:List Nat}(x:S.Nodup)(a:t∈S)(T):m d b S T=sh (m d b<|S.erase t) T-d t*m d b (S.erase t) T-qx (λz=>b t z*m d b ((S.erase t).erase z) T) (S.erase t):=by refine Q (zc g S.length (ag _) (nN a) x T)<|Q (tn ..) rfl
section
variable {d:Nat->Int}
theorem EO:∀(n:Nat)(S:List Nat),S.length<=n->S.Nodup->∀h:Nat,((h:Int)+1)*m d f S (h+1)=qx (λt=>m d f (S.erase t) h) S
 |W,[],V,P,h=>by refine (Q (qn<|gg h)<|Q (bE ..) rfl:((h:Int)+1)*(if h+1=0 then 1 else 0)=0)
 |n+1,t::T,w,x,h=>by
  have w:=aJ w;have u:=bI.mp x;have e:((h:Int)+1)*m d f T h=m d f T h+qx (λU=>sh (m d f<|T.erase U) h) T:=by
   cases h with
   |zero=>
    refine Q (s9 T) ?_;simp
   |succ z=>
    refine Q (((EO n T w u.2) z).symm)<|Q (k9 ..) ?_;rw[il _ 1,dO,gp]
  have i:qx (λA=>m d f ((t::T).erase A) h) (t::T)=m d f T h+(qx (λU=>sh (m d f<|T.erase U) h) T-d t*qx (λU=>m d f (T.erase U) h) T-qx (λU=>qx (λA=>f t A*m d f ((T.erase U).erase A) h)<|T.erase U) T):=by show m d f ((t::T).erase t) h+qx (λA=>m d f ((t::T).erase A) h) T=_;refine Q (cS ..) ?_;congr 1;exact J (r8 ..)<|J (xB ..)<|J (xB ..)<|qQ λA a=>by refine Q (Kb u.1 a)<|Q (tn ..) rfl
  refine Q i<|Q (tn ..) ?_
  show ((h:Int)+1)*(m d f T h-d t*m d f T (h+1)-qx (λA=>f t A*m d f (T.erase A) (h+1)) T)=_;refine Q (fk ..)<|Q (fk ..)<|Q e<|Q (cQ ..)<|Q ((EO n T w u.2) h)<|Q (J (UK _ u.2)<|J (r8 ..)<|qQ λA a=>Q (cQ ..)<|Q (EO n (T.erase A) (aa (bH ..) w) (u.2.erase A) h)<|J (r8 ..)<|qQ λU W=>by refine Q (lx ..) rfl:((h:Int)+1)*qx (λA=>f t A*m d f (T.erase A) (h+1)) T=qx (λU=>qx (λA=>f t A*m d f ((T.erase U).erase A) h)<|T.erase U) T) ?_
  lia
theorem ahI {c:Nat}{q a:Int}(w:0<=q) (i:((c:Int)+2)*a<=((c:Int)+1)*q):a<=q:=by
 by_cases b:a<=q
 .exact b
 .skip
  exact MR w i (br (bX<|ia.mp b)<|aC _) (by rw[show (c:Int)+2=(c:Int)+1+1 by rfl,il _ 1,dO])
theorem XG {c:Nat}{q a:Int}(G:0<q) (w:((c:Int)+2)*a<=((c:Int)+1)*q):a<q:=by
 by_cases T:a<q
 .exact T
 .skip
  exact Nm G w (br (bP.mp T)<|aC _) (by rw[show (c:Int)+2=(c:Int)+1+1 by rfl,il _ 1,dO])
noncomputable def D (A T:Po)(c:Nat):Int:=A (c+1)*T c-A c*T (c+1)
theorem GH {S:List Nat}(x:S.Nodup)(g:∀c∈S,∀j,0<=D (m d e S) (m d e<|S.erase c) j)(j:Nat):((j:Int)+2)*(m d e S j*m d e S (j+2))<=((j:Int)+1)*(m d e S (j+1)*m d e S (j+1)):=by
 have w:=xQ λc a=>g c a j
 rw[(J (r8 ..)<|J (r8 ..)<|J (xB ..) rfl:qx (λc=>D (m d e S) (m d e<|S.erase c) j) S=m d e S (j+1)*qx (λc=>m d e (S.erase c) j) S-m d e S j*qx (λc=>m d e (S.erase c)<|j+1) S),<-EO S.length S (ag _) x j,<-EO S.length S (ag _) x<|j+1] at w
 rw[(rfl:((j+1:Nat):Int)+1=(j:Int)+2),cQ,cQ<|m d e S j] at w
 exact Int.sub_nonneg.mp w
theorem aiw (g:∀e h,w e h=w h e){S:List Nat}(x:S.Nodup)(a:t∈S)(j):D (m d w S) (m d w<|S.erase t) j =
  (m d w (S.erase t) j*m d w (S.erase t) j-sh (m d w<|S.erase t) j*m d w (S.erase t) (j+1))+qx (λA=>w t A*D (m d w<|S.erase t) (m d w<|(S.erase t).erase A) j) (S.erase t):=by
 refine Q (J (r8 ..)<|J (r8 ..)<|J (xB ..)<|qQ λA W=>by rw[D,fk,cQ,cQ<|w t A]:qx (λA=>w t A*D (m d w<|S.erase t) (m d w<|(S.erase t).erase A) j) (S.erase t)=m d w (S.erase t) (j+1)*qx (λA=>w t A*m d w ((S.erase t).erase A) j) (S.erase t)-m d w (S.erase t) j*qx (λA=>w t A*m d w ((S.erase t).erase A) (j+1)) (S.erase t)) ?_;rw[D,Oz g x a<|j+1,Oz g x a j];show (m d w (S.erase t) j-d t*m d w (S.erase t) (j+1)-qx (λA=>w t A*m d w ((S.erase t).erase A) (j+1)) (S.erase t))*_-_=_;generalize qx (λA=>w t A*m d w ((S.erase t).erase A) (j+1)) (S.erase t)=X;generalize qx (λA=>w t A*m d w ((S.erase t).erase A) j) (S.erase t)=Dj;generalize m d w (S.erase t) (j+1)=h;generalize m d w (S.erase t) j=e;generalize sh (m d w<|S.erase t) j=c;generalize d t=z
 grind
theorem Ib (g:∀c h,e c h=e h c)(o:∀c h,0<=e c h):∀(n:Nat)(S:List Nat),S.length<=n->S.Nodup->∀T∈S,∀z,0<=D (m d e S) (m d e<|S.erase T) z/\(m d e (S.erase T) z≠0->0<D (m d e S) (m d e<|S.erase T) z)
 |n+1,S,w,x,T,b,z=>by
  have U:=x.erase T;refine Q (aiw g x b z) ?_;have i:0<=qx (λA=>e T A*D (m d e<|S.erase T) (m d e<|(S.erase T).erase A) z) (S.erase T):=xQ λA H=>g6 (o T A) ((Ib g o n (S.erase T) (OX b w) U) A H z).1
  have t:sh (m d e<|S.erase T) z*m d e (S.erase T) (z+1)<=m d e (S.erase T) z*m d e (S.erase T) z/\(m d e (S.erase T) z≠0->sh (m d e<|S.erase T) z*m d e (S.erase T) (z+1)<m d e (S.erase T) z*m d e (S.erase T) z):=by
   have a:∀c:Int,0<=c*c:=λc=>by rcases nB 0 c with q|q;exact g6 q q;exact gK q q
   have G:∀c:Int,c≠0->0<c*c:=λc q=>(i4 q).elim (λq=>ja q q) λq=>ik q q
   cases z with
   |zero=>
    show 0*_<=_/\(_->0*_<_);exact Q (bA ..) ⟨a _,G _⟩
   |succ u=>
    have f:=GH U (λA H z=>((Ib g o n (S.erase T) (OX b w) U) A H z).1) u;exact ⟨ahI (a _) f,λq=>XG (G _ q) f⟩
  exact ⟨by omega,λq=>by have:=t.2 q;omega⟩
 |0,[],J,W,V,b,P=>nomatch b
end
theorem zd:∀(n:Nat)(S:List Nat),S.length<=n->∀h,S.length<h->m d w S h=0
 |W,[],V,h=>@λe=>by refine Q (CH ..)<|Q (qn<|show ¬h=0 from bw e) rfl
 |n+1,t::S,x,0=>@λe=>nomatch e
 |n+1,t::S,x,h+1=>@λe=>by
  have x:=aJ x;have e:=gX e;refine Q (tn ..) ?_;show m d w S h-_-_=0;refine Q (zd n S x h e)<|Q (zd n S x (h+1)<|dT e) ?_
  refine Q (J (s9 S) (qQ λT W=>by refine Q (zd n _ (aa (bH ..) x) (h+1)<|av (bH ..)<|dT e)<|Q (bE ..) rfl):qx (λT=>w t T*m d w (S.erase T) (h+1)) S=0) ?_;simp
theorem vX:∀a:List Nat,m d w a a.length=1
 |[]=>rfl|v::a=>by
  refine Q (aV ..)<|Q (tn ..) ?_
  show m d w a a.length-_-_=1;refine Q (vX a)<|Q (zd _ a (ag _) _<|bY _) ?_
  refine Q (J (s9 a) (qQ λh W=>by refine Q (zd _ _ (ag _) (a.length+1)<|da<|bH ..)<|Q (bE ..) rfl):qx (λh=>w v h*m d w (a.erase h) (a.length+1)) a=0) ?_;simp
structure Ok (d:Nat->Int) (w:Nat->Nat->Int):Prop where
 sym:∀a b,w a b=w b a
 pos:∀a b,0<=w a b
section
variable (H:Ok d w)
include H
theorem Dn {S:List Nat}(x:S.Nodup)(a:v∈S)(h):0<=D (m d w S) (m d w<|S.erase v) h:=(Ib H.sym H.pos S.length S (ag _) x v a h).1
theorem Ds {S:List Nat}(x:S.Nodup)(a:v∈S)(c:m d w (S.erase v) j≠0):0<D (m d w S) (m d w<|S.erase v) j:=(Ib H.sym H.pos S.length S (ag _) x v a j).2 c
theorem Nw {a:List Nat}(x:a.Nodup)(c:Nat):((c:Int)+2)*(m d w a c*m d w a (c+2))<=((c:Int)+1)*(m d w a (c+1)*m d w a (c+1)):=GH x (λh b c=>Dn H x b c) c
theorem TK {a:List Nat}(x:a.Nodup)(b:v∈a)(e:m d w a j=0)(i:m d w a (j+1)=0):m d w (a.erase v) j=0:=by
 by_cases n:m d w (a.erase v) j=0
 .exact n
 .have:=Ds H x b n;rw[D,e,i,bA,bA] at this
  exact absurd this<|by decide
theorem Ju {S:List Nat}(x:S.Nodup)(a:c∈S)(h:∀t,t<=i+1->m d w (S.erase c) t=0):m d w S i=0:=by
 refine Q (Oz H.sym x a ..)<|Q (h i<|cZ i) ?_
 have e:sh (m d w<|S.erase c) i=0:=by
  cases i with
  |zero=>rfl|succ i=>exact h i (by lia)
 refine Q e<|Q (J (s9<|S.erase c) (qQ λT G=>by refine Q (TK H (x.erase c) G (h i<|cZ i)<|h (i+1)<|ag _)<|Q (bE ..) rfl):qx (λT=>w c T*m d w ((S.erase c).erase T) i) (S.erase c)=0) ?_;simp
theorem zC:∀(n:Nat)(S:List Nat),S.length<=n->S.Nodup->∀h,h+1<=S.length->m d w S h=0->m d w S (h+1)=0->∀t,t<=h->m d w S t=0
 |n+1,[],J,W,h,y,V,P,F,R=>nomatch y|n+1,T::f,i,x,h,y,j,o,t,b=>by
  have z:=TK H x (.head _) j o
  cases h with
  |zero=>exact Q (Nat.le_zero.mp b) j|succ h=>
   have I:m d w ((T::f).erase T) h=0:=by
    by_cases c:m d w ((T::f).erase T) h=0
    .exact c
    .have:=Ds H x (.head _) c;rw[D,j,z,bA,bE] at this
     exact absurd this<|by decide
   rw[cS ..] at z I
   by_cases c:t=h+1
   .exact Q c j
   .exact Ju H x (.head _) λA U=>by
     refine Q (cS ..) ?_
     by_cases k:A=h+1
     .exact Q k z
     .exact (zC n f (aJ i) (bI.mp x).2 h (aJ y) I z) A (bO<|ct (aa U<|cb<|bO<|ct b c) k)
 |0,[],J,W,h,y,V,P,F,R=>nomatch y
theorem Sk {a:List Nat}(x:a.Nodup)(y:c+2<=a.length)(e:m d w a (c+1)=0):m d w a c*m d w a (c+2)<0\/∀h,h<=c+1->m d w a h=0:=by
 by_cases i:m d w a c=0
 .right
  intro h j
  by_cases n:h=c+1
  .exact Q n e
  .exact zC H a.length a (ag _) x c (fW y) i e h<|M6 j n
 .by_cases z:m d w a (c+2)=0
  .exact .inr<|zC H a.length a (ag _) x (c+1) y e z
  .left
   have b:=Nw H x c;rw[e,bE,bE] at b
   have T:m d w a c*m d w a (c+2)<=0:=by
    by_cases n:m d w a c*m d w a (c+2)<=0
    .exact n
    .skip
     exact M_ b (ik (show (0:Int)<(c:Int)+2 from bo.mpr<|fJ (c+1))<|ia.mp n)
   exact fm.mpr ⟨T,ff i z⟩
end
noncomputable def uw (A:Po):Nat->Bool->Nat×Bool
 |0=>@λT=>(0,T)
 |j+1=>@λT=>if A j=0 then uw A j T else if decide (0<A j)=T then uw A j T else ((uw A j !T).1+1,(uw A j !T).2)
def Last (A:Po)(c:Nat)(T:Bool):Prop:=(A c≠0->decide (0<A c)=T)/\(A c=0->(A (c+1)≠0/\decide (0<A (c+1))=T)\/∀h,h<=c->A h=0)
noncomputable def ne2 (T G:Bool):Nat:=if T=G then 0 else 1
noncomputable def fl (q:Int)(T:Bool):Bool:=decide (q≠0)&&decide (decide (0<q)≠T)
theorem Cr (A)(c)(s):uw A (c+1) s=((uw A c<|s ^^ fl (A c) s).1+(fl (A c) s).toNat,(uw A c<|s ^^ fl (A c) s).2):=by
 show (if A c=0 then uw A c s else if decide (0<A c)=s then uw A c s else ((uw A c !s).1+1,(uw A c !s).2))=_;have e0:∀G,G=false->uw A c s=((uw A c<|s ^^ G).1+G.toNat,(uw A c<|s ^^ G).2):=λG e=>Q e<|Q (Bool.xor_false ..) rfl
 by_cases e:A c=0
 .exact Q (qm e)<|e0 _<|by delta fl;exact Q (decide_eq_false λf=>f e) rfl
 .refine Q (qn e) ?_
  by_cases i:decide (0<A c)=s
  .exact Q (qm i)<|e0 _<|by delta fl;refine Q (decide_eq_false (p:=decide (0<A c)≠s) λf=>f i)<|Q (Bool.and_false ..) rfl
  .exact Q (qn i)<|Q (show fl (A c) s=true by delta fl;exact Q (decide_eq_true e)<|Q (decide_eq_true i) rfl)<|Q (Bool.xor_true ..) rfl
theorem Last.next (o:Last A (c+1) s)(hz:A c=0->A (c+1)=0->∀h,h<=c->A h=0):Last A c<|s ^^ fl (A c) s:=by
 delta fl;refine ⟨λe=>?_,λe=>?_⟩
 .cases s<;>by_cases G:0<A c<;>simp[e,G]
 .by_cases G:A (c+1)=0
  .exact .inr<|hz e G
  .refine .inl ⟨G,Q (o.1 G) ?_⟩;simp[e]
def Sg (q:Int)(T:Bool):Prop:=(T=true/\0<q)\/(T=false/\q<0)
theorem Sg.ne (I:Sg x s):x≠0:=I.elim (λI=>(nz I.2).symm) λI=>nz I.2
theorem Sg.same (I:Sg x s)(z:Sg y s):0<x*y:=by
 rcases I with ⟨e,I⟩|⟨e,I⟩<;>rcases z with ⟨i,z⟩|⟨i,z⟩
 .exact ik I z
 .exact gb<|e.symm.trans i
 .exact gb<|e.symm.trans i
 .exact ja I z
theorem Sg.Z6 (I:Sg x s)(z:Sg y<|!s):x*y<0:=by
 rcases I with ⟨e,I⟩|⟨e,I⟩<;>subst e<;>rcases z with ⟨i,z⟩|⟨i,z⟩
 .exact gb i
 .exact Int.mul_neg_of_pos_of_neg I z
 .exact mw I z
 .exact gb i
theorem vk (e:decide (0<x)=s)(c:x≠0):Sg x s:=by
 cases s
 .exact .inr ⟨rfl,fm.mpr ⟨bP.mp<|of_decide_eq_false e,c⟩⟩
 .exact .inl ⟨rfl,of_decide_eq_true e⟩
theorem Me (e:fl x s=true):Sg x<|!s:=by
 have c:decide (0<x)≠s:=of_decide_eq_true ((aA _ _).mp e).2;refine vk ?_<|of_decide_eq_true ((aA _ _).mp e).1
 cases s<;>cases i:decide (0<x)<;>simp_all
theorem J3 (e:fl x s=false):x=0\/Sg x s:=by
 by_cases i:x=0
 .exact .inl i
 .by_cases n:decide (0<x)=s
  .exact .inr<|vk n i
  .delta fl at e;simp[i,n] at e
theorem ail (c:s≠t):t=!s:=by cases s<;>cases t<;>first|rfl|exact absurd rfl c
theorem b4:∀T G x g:Bool,(T=true->G=false->x≠g->False)->(T=false->G=true->x=g->False)->T.toNat+ne2 x g=G.toNat+ne2 (x ^^ T) (g ^^ G):=by decide
theorem SO {e:Int}(y:0<=a*I-q*b)(i:0<=e*b-a*b2)(f:I≠0->0<a*I-q*b)(h:b≠0->0<e*b-a*b2)(g:a≠0->decide (0<a)=U)(o:a=0->(e≠0/\decide (0<e)=U)\/q=0)(j:b≠0->decide (0<b)=L)(p:b=0->(b2≠0/\decide (0<b2)=L)\/(I=0/\q=0))(G:b=0->I*b2<0\/(I=0/\q=0))(tz:I=0->b=0->q=0) :
  (fl q U).toNat+ne2 U L=(fl I L).toNat+ne2 (U ^^ fl q U) (L ^^ fl I L):=by
 have T:fl q U=true->fl I L=false->U≠L->False:=λq1 q2 c=>by
  have q1:=Me q1;have q2:=J3 q2;have n:L=!U:=ail c;subst n
  by_cases A:a=0
  .have t:=(o A).resolve_right q1.ne;have t:=vk t.2 t.1
   by_cases u:b=0
   .by_cases v:I=0
    .exact q1.ne<|tz v u
    .have:=f v;rw[A,u,bA,bE] at this;exact eM _ this
   .have:=h u;have:=t.Z6<|vk (j u) u
    rw[A,bA] at *;lia
  .skip
   by_cases u:b=0
   .rcases p u with k2|k2
    .rcases G u with z|z
     .rcases q2 with q2|q2
      .rw[q2,bA] at z;exact eM _ z
      .have:=q2.same<|vk k2.2 k2.1;lia
     .exact q1.ne z.2
    .exact q1.ne k2.2
   .have k:=q1.same<|vk (j u) u
    rcases q2 with q2|q2
    .rw[q2,bE] at y;lia
    .have:=(vk (g A) A).Z6 q2;lia
 have x:fl q U=false->fl I L=true->U=L->False:=λq1 q2 c=>by
  have q1:=J3 q1;have q2:=Me q2;have s:=f q2.ne;subst c
  by_cases A:a=0
  .by_cases u:b=0
   .rw[A,u,bA,bE] at s;lia
   .revert s;refine Q A<|Q (bA ..) ?_;intro s
    rcases q1 with q1|q1
    .rw[q1,bA] at s;lia
    .have:=q1.same<|vk (j u) u;lia
  .skip
   by_cases u:b=0
   .rcases p u with k2|k2
    .have:=(vk (g A) A).same<|vk k2.2 k2.1
     rw[u,bE] at i;lia
    .exact q2.ne k2.1
   .have k:=(vk (g A) A).Z6 q2;rcases q1 with q1|q1
    .rw[q1,bA] at s;lia
    .have:=q1.same<|vk (j u) u;lia
 exact b4 _ _ U L T x
section
variable (H:Ok d w)
include H
theorem wJ {a:List Nat}(x:a.Nodup)(y:j+1<=a.length)(e:m d w a j=0)(i:m d w a (j+1)=0):∀h,h<=j+1->m d w a h=0:=λh k=>by
 by_cases n:h=j+1
 .exact Q n i
 .exact zC H a.length a (ag _) x j y e i h (by lia)
theorem Xd {S:List Nat}(x:S.Nodup)(a:v∈S)(y:j+1<=(S.erase v).length)(o:Last (m d w S) (j+1) s)(L:Last (m d w<|S.erase v) (j+1) t) :
  (fl (m d w S j) s).toNat+ne2 s t=(fl (m d w (S.erase v) j) t).toNat+ne2 (s ^^ fl (m d w S j) s) (t ^^ fl (m d w (S.erase v) j) t):=by
 have g:m d w (S.erase v) (j+1)=0->m d w (S.erase v) j*m d w (S.erase v) (j+2)<0\/∀u,u<=j+1->m d w (S.erase v) u=0:=λe=>by
  by_cases i:j+1=(S.erase v).length
  .rw[i,vX] at e;lia
  .exact Sk H (x.erase v) (ct y i) e
 exact SO (Dn H x a j) (Dn H x a<|j+1) (Ds H x a) (Ds H x a) o.1 (λe=>(o.2 e).imp id λp=>p j<|cZ j) L.1 (λe=>(L.2 e).imp id λp=>⟨p j<|cZ j,(Ju H x a) p⟩) (λe=>(g e).imp id λp=>⟨p j<|cZ j,(Ju H x a) p⟩) λn z=>(Ju H x a)<|(wJ H (x.erase v) y) n z
end
theorem aai (q):ne2 (true ^^ fl q true) true=(fl q true).toNat:=by cases fl q true<;>rfl
theorem BA {A:Po}(c:A z≠0)(h0:∀h,h<z->A h=0):∀(j:Nat)(s:Bool),(j<=z->uw A j s=(0,s))/\(z<j->(uw A j s).2=decide (0<A z))
 |0=>@λs=>⟨λJ=>rfl,λc=>nomatch c⟩
 |j+1=>@λs=>by
  refine ⟨λx=>?_,λx=>?_⟩
  .show (if A j=0 then uw A j s else _)=_;exact Q (qm<|h0 j x)<|(BA c h0 j s).1<|b6 x
  .refine Q (Cr ..) ?_;show (uw A j<|s ^^ fl (A j) s).2=_
   by_cases e:j=z
   .subst e;refine Q ((BA c h0 j _).1<|ag _) ?_;delta fl
    cases s<;>by_cases G:0<A j<;>simp[c,G]
   .exact (BA c h0 j _).2<|ct (bO x)<|fK e
section
def pos (b:Nat->Int)(e:Nat->Nat->Int)(a:List Nat):Nat:=(uw (m b e a) a.length true).1
def fin (b:Nat->Int)(e:Nat->Nat->Int)(a:List Nat):Bool:=(uw (m b e a) a.length true).2
def sd (A:Po)(c:Nat):Prop:=A c≠0/\∀h,h<c->A h=0
theorem w4 (a:List Nat):∃c,c<=a.length/\sd (m d w a) c:=by
 have g:∀h:Nat,(∀t,t<h->m d w a t=0)\/∃c,c<h/\sd (m d w a) c:=λh=>by
  induction h with
  |zero=>exact .inl λt G=>nomatch G
  |succ h n=>
   rcases n with n|⟨c,k,x⟩
   .by_cases e:m d w a h=0
    .exact .inl λt T=>by
      by_cases i:t=h
      .exact Q i e
      .exact n t<|Na T i
    .exact .inr ⟨h,bY h,e,n⟩
   .exact .inr ⟨c,dT k,x⟩
 rcases g (a.length+1) with G|⟨c,k,x⟩
 .have:=G a.length<|bY _
  rw[vX] at this;lia
 .exact qr c (bO k) x
theorem Ff {a:List Nat}(y:z<=a.length)(x:sd (m d w a) z):fin d w a=decide (0<m d w a z):=by
 by_cases e:z=a.length
 .subst e;rw[fin,(BA x.1 x.2 _ _).1<|ag _,vX];rfl
 .exact (BA x.1 x.2 _ _).2<|ct y e
variable (H:Ok d w)
include H
theorem Lv {S:List Nat}(x:S.Nodup)(a:v∈S):∀(j:Nat)(U G:Bool),j<=(S.erase v).length->Last (m d w S) j U->Last (m d w<|S.erase v) j G->
  (uw (m d w S) j U).1+ne2 U G=(uw (m d w<|S.erase v) j G).1+ne2 (uw (m d w S) j U).2 (uw (m d w<|S.erase v) j G).2
 |0=>@λU G J J J=>rfl
 |j+1=>@λU G A o ht=>by
  have n:(S.erase v).length+1=S.length:=Rk a;have e:=Xd H x a A o ht;have i:=Lv x a j (U ^^ fl (m d w S j) U) (G ^^ fl (m d w (S.erase v) j) G) (b6 A) (o.next λz y T k=>wJ H x (n▸fj A) z y T<|by lia)<|ht.next λz y T k=>wJ H (x.erase v) A z y T<|by lia
  refine Q (Cr ..)<|Q (Cr ..) ?_
  exact ag4 e i
theorem Ja {S:List Nat}(x:S.Nodup)(a:c∈S):pos d w S=pos d w (S.erase c)+ne2 (fin d w S) (fin d w<|S.erase c):=by
 have o:Last (m d w S) ((S.erase c).length+1) true:=by refine J ((Rk a).symm) ⟨λW=>by rw[vX];rfl,λe=>?_⟩;rw[vX] at e;lia
 have L:Last (m d w<|S.erase c) (S.erase c).length true:=by refine ⟨λW=>by rw[vX];rfl,λe=>?_⟩;rw[vX] at e;lia
 have i:=Lv H x a _ _ _ (ag _) (o.next λW e=>by rw[<- (Rk a).symm,vX] at e;lia) L;rewrite [pos,fin];refine Q ((Rk a).symm)<|Q (Cr ..) ?_
 rw[aai] at i
 exact i
theorem aat {S:List Nat}(x:S.Nodup)(a:v∈S)(hf:sd (m d w S) z)(q:sd (m d w<|S.erase v) y):z<=y+1/\y<=z+1:=by
 refine ⟨?_,?_⟩
 .by_cases A:z<=y+1
  .exact A
  .exact absurd (TK H x a (hf.2 y<|bl<|gI.mp A)<|hf.2 (y+1)<|kW A) q.1
 .by_cases A:y<=z+1
  .exact A
  .exact absurd (Ju H x a λG i=>q.2 G<|av i<|gI.mp A) hf.1
theorem Js {S:List Nat}(x:S.Nodup)(a:v∈S)(z:sd (m d w S)<|y+1)(q:sd (m d w<|S.erase v) y):0<m d w S (y+1)*m d w (S.erase v) y:=by
 have:=Ds H x a q.1;rw[D,z.2 y<|bY y,bA] at this
 exact Int.lt_of_sub_pos this
theorem TG {S:List Nat}(x:S.Nodup)(a:v∈S)(y:sd (m d w S) z)(q:sd (m d w<|S.erase v)<|z+1):m d w S z*m d w (S.erase v) (z+1)<0:=by
 have:=Dn H x a z;rw[D,q.2 z<|bY z,bE] at this
 have:=ff y.1 q.1;lia
end
noncomputable def ev:Nat->Int
 |0=>1|k+1=>- ev k
theorem Av (c):ev (c+1)=- ev c:=rfl
theorem J9 (c):ev (c+2)=ev c:=by show - - ev c=ev c;exact jh _
theorem Fh:∀k,ev k*ev k=1
 |0=>rfl|k+1=>(Q (Int.neg_mul_neg ..)<|Fh k:- ev k*- ev k=1)
theorem aeE (c):ev c≠0:=λe=>by have:=Fh c;rw[e] at this;exact absurd this (by decide)
theorem A2 (i:Nat->Int)(j:Nat->Nat->Int):∀(n:Nat)(S:List Nat),S.length<=n->S.Nodup->∀h,m (λv=>- i v) j S h=ev (S.length+h)*m i j S h
 |W,[],V,P,0=>rfl|W,[],V,P,h+1=>by rw[CH,CH,qn<|gg h,bE]
 |n+1,v::S,y,x,h=>by
  have x:=(bI.mp x).2;have k:=A2 i j n S (aJ y) x;refine Q (tn ..)<|Q (tn ..)<|Q (k h) ?_
  have o:sh (m (λv=>- i v) j S) h=ev ((v::S).length+h)*sh (m i j S) h:=by
   cases h with
   |zero=>exact (bE _).symm|succ A=>
    refine (?_:m (λv=>- i v) j S A=_*m i j S A);refine Q (k A)<|Q (aV ..)<|Q (show S.length+1+(A+1)=S.length+A+2 by exact cm _ _)<|Q (J9 ..) rfl
  have G:qx (λT=>j v T*m (λv=>- i v) j (S.erase T) h) S=ev ((v::S).length+h)*qx (λT=>j v T*m i j (S.erase T) h) S:=by
   refine J (r8 ..) ?_;exact qQ λT p=>by refine Q (A2 i j n (S.erase T) (aa (bH ..)<|aJ y) (x.erase T) h)<|Q (by refine Q (eh p)<|Q (aV ..) ?_;exact ag5<|eG p:(v::S).length+h=(S.erase T).length+h+2)<|Q (J9 ..)<|Q (cQ ..) rfl
  refine Q o<|Q G<|Q (aV ..)<|Q (show S.length+1+h=S.length+h+1 by exact cm _ _)<|Q (Av ..) ?_
  clear o G k;generalize ev (S.length+h)=e;generalize m i j S h=a;generalize sh (m i j S) h=b;generalize qx (λT=>j v T*m i j (S.erase T) h) S=c;generalize i v=z
  grind
theorem Ok.neg {b:Nat->Int}{e:Nat->Nat->Int}(L:Ok b e):Ok (λv=>- b v) e:=⟨L.sym,L.pos⟩
theorem sd.neg {b:Nat->Int}{e:Nat->Nat->Int}{a:List Nat}(U:a.Nodup)(x:sd (m b e a) z):sd (m (λv=>- b v) e a) z:=⟨Q (A2 b e _ a (ag _) U ..)<|ff (aeE _) x.1,λt G=>by rw[A2 b e _ a (ag _) U,x.2 t G,bE]⟩
theorem CB {q a:Int}(G:0<q*a):ne2 (decide<|0<q) (decide<|0<a)=0:=by
 by_cases T:0<q
 .have k:0<a:=by
   by_cases k:0<a
   .exact k
   .exact absurd G<|bP.mpr<|Int.mul_nonpos_of_nonneg_of_nonpos (bX T)<|bP.mp k
  exact Q (decide_eq_true T)<|Q (decide_eq_true k) rfl
 .skip
  exact Q (decide_eq_false T)<|Q (decide_eq_false λk=>eM _<|eS G<|ka (bP.mp T)<|bX k) rfl
theorem CC {q a:Int}(G:q*a<0):ne2 (decide<|0<q) (decide<|0<a)=1:=by
 by_cases T:0<q
 .have I:¬0<a:=λI=>eM _<|gn G<|ik T I
  exact Q (decide_eq_true T)<|Q (decide_eq_false I) rfl
 .have k:q<0:=by
   by_cases e:q=0
   .rw[e,bA] at G;exact Q e G
   .exact fm.mpr ⟨bP.mp T,e⟩
  have I:0<a:=by
   by_cases I:0<a
   .exact I
   .have:=gK (bX k)<|bP.mp I;lia
  exact Q (decide_eq_false T)<|Q (decide_eq_true I) rfl
section
variable (H:Ok d w) {S:List Nat}(f:S.Nodup) (g:v∈S)
include H f g
theorem Jb (x:sd (m d w S) z)(q:sd (m d w<|S.erase v) y)(A:z<=S.length)(i:y<=(S.erase v).length):pos d w S=pos d w (S.erase v)+ne2 (decide<|0<m d w S z) (decide<|0<m d w (S.erase v) y):=by refine Q (Ja H f g)<|Q (Ff A x)<|Q (Ff i q) rfl
theorem Jn (hf:sd (m d w S) h)(hg:sd (m d w<|S.erase v) t)(x:h<=S.length)(i:t<=(S.erase v).length):pos (λv=>- d v) w S=pos (λv=>- d v) w (S.erase v)+ne2 (decide<|0<ev (S.length+h)*m d w S h) (decide<|0<ev ((S.erase v).length+t)*m d w (S.erase v) t):=by refine Q (Ja H.neg f g)<|Q (Ff x<|hf.neg f) ?_;rw[Ff i<|hg.neg<|f.erase v,A2 d w _ S (ag _) f,A2 d w _ _ (ag _)<|f.erase v]
theorem Rx {h:Nat}(y:sd (m d w S) h) (q:sd (m d w<|S.erase v) h) (z:h<=(S.erase v).length) (s:Int) (n:(0<s/\m d w S h*m d w (S.erase v) h<0)\/(s<0/\0<m d w S h*m d w (S.erase v) h)) :
  pos d w S=pos d w (S.erase v)+(if 0<s then 1 else 0)/\pos (λv=>- d v) w S=pos (λv=>- d v) w (S.erase v)+(if 0<s then 0 else 1):=by
 have e:S.length=(S.erase v).length+1:=Q (eh g)<|(aH<|eG g).symm
 have i:ev (S.length+h)*m d w S h*(ev ((S.erase v).length+h)*m d w (S.erase v) h)=- (m d w S h*m d w (S.erase v) h):=by
  refine Q e<|Q (show (S.erase v).length+1+h=(S.erase v).length+h+1 by exact cm _ _) ?_
  show-ev _*_*_=_;have:=Fh<|(S.erase v).length+h
  generalize ev ((S.erase v).length+h)=x at *
  generalize m d w S h=a;generalize m d w (S.erase v) h=b
  grind
 refine Q (Jb H f g y q (by lia) z)<|Q (Jn H f g y q (by lia) z) ?_
 rcases n with ⟨G,T⟩|⟨G,T⟩
 .exact Q (qm G)<|Q (qm G)<|Q (CC T)<|Q (CB<|Q i<|ee T) ⟨rfl,rfl⟩
 .exact Q (qn<|by lia)<|Q (qn<|by lia)<|Q (CB T)<|Q (CC<|Q i<|Nb T) ⟨rfl,rfl⟩
theorem O2 {z:Nat}(y:sd (m d w S)<|z+1) (q:sd (m d w<|S.erase v) z) (A:z<=(S.erase v).length) :
  pos d w S=pos d w (S.erase v)/\pos (λv=>- d v) w S=pos (λv=>- d v) w (S.erase v):=by
 have e:S.length=(S.erase v).length+1:=Q (eh g)<|(aH<|eG g).symm
 have G:=Js H f g y q;have i:ev (S.length+(z+1))*m d w S (z+1)*(ev ((S.erase v).length+z)*m d w (S.erase v) z)=m d w S (z+1)*m d w (S.erase v) z:=by
  refine Q e<|Q (show (S.erase v).length+1+(z+1)=(S.erase v).length+z+2 by exact cm _ _)<|Q (J9 ..) ?_
  have:=Fh<|(S.erase v).length+z
  generalize ev ((S.erase v).length+z)=x at *
  generalize m d w S (z+1)=a;generalize m d w (S.erase v) z=b
  grind
 exact Q (Jb H f g y q (by lia) A)<|Q (Jn H f g y q (by lia) A)<|Q (CB G)<|Q (CB<|Q i G) ⟨rfl,rfl⟩
theorem O3 {z:Nat}(y:sd (m d w S) z) (q:sd (m d w<|S.erase v)<|z+1) (A:z+1<=(S.erase v).length) :
  pos d w S=pos d w (S.erase v)+1/\pos (λv=>- d v) w S=pos (λv=>- d v) w (S.erase v)+1:=by
 have e:S.length=(S.erase v).length+1:=Q (eh g)<|(aH<|eG g).symm
 have G:=TG H f g y q;have i:ev (S.length+z)*m d w S z*(ev ((S.erase v).length+(z+1))*m d w (S.erase v) (z+1))=m d w S z*m d w (S.erase v) (z+1):=by
  refine Q e<|Q (show (S.erase v).length+1+z=(S.erase v).length+z+1 by exact cm _ _)<|Q (show (S.erase v).length+(z+1)=(S.erase v).length+z+1 by rfl) ?_
  have:=Fh<|(S.erase v).length+z+1
  generalize ev ((S.erase v).length+z+1)=x at *
  generalize m d w S z=a;generalize m d w (S.erase v) (z+1)=b
  grind
 exact Q (Jb H f g y q (by lia) A)<|Q (Jn H f g y q (by lia) A)<|Q (CC G)<|Q (CC<|Q i G) ⟨rfl,rfl⟩
end
noncomputable def M (T U:Po)(L:Nat):Nat->Int
 |0=>T 0*U L|k+1=>M T U L k+T (k+1)*U (L-(k+1))
def conv (A T:Po):Po:=λc=>M A T c c
theorem Rv (A T i v:Po)(q)(c):∀k,M (λt=>A t-q*T t-i t) v c k=M A v c k-q*M T v c k-M i v c k
 |0=>by refine (Q (eK ..)<|Q (eK ..)<|Q (dH ..) rfl:(A 0-q*T 0-i 0)*v c=A 0*v c-q*(T 0*v c)-i 0*v c)
 |k+1=>by refine (Q (Rv A T i v q c k)<|Q (eK ..)<|Q (eK ..)<|Q (dH ..)<|Q (fG ..) ?_:M _ v c k+(A (k+1)-q*T (k+1)-i (k+1))*v (c-(k+1))=(M A v c k+A (k+1)*v (c-(k+1)))-q*(M T v c k+T (k+1)*v (c-(k+1)))-(M i v c k+i (k+1)*v (c-(k+1))));lia
theorem Rr (b:Nat->Int)(d:Nat->Po)(g)(a)(c):∀k,M (λt=>qx (λT=>b T*d T t) a) g c k=qx (λT=>b T*M (d T) g c k) a
 |0=>(Q (cu ..)<|J (r8 ..)<|qQ λT W=>by refine Q (cu ..)<|Q (dH ..) rfl:qx (λT=>b T*d T 0) a*g c=qx (λT=>b T*(d T 0*g c)) a)
 |k+1=>(Q (Rr b d g a c k)<|Q (cu ..)<|J (r8 ..)<|J (xC ..)<|qQ λT W=>by rw[fG,cu<|g _,dH]:M _ g c k+qx (λT=>b T*d T (k+1)) a*g (c-(k+1))=qx (λT=>b T*(M (d T) g c k+d T (k+1)*g (c-(k+1)))) a)
theorem Wo (A T)(c):∀k,M (sh A) T (c+1) (k+1)=M A T c k
 |0=>by refine (Q (bA ..)<|Q (dA ..)<|Q (Nat.add_sub_cancel ..) rfl:0*T (c+1)+A 0*T (c+1-(0+1))=A 0*T c)
 |k+1=>by refine (Q (Wo A T c k)<|Q (Nat.add_sub_add_right ..) rfl:M (sh A) T (c+1) (k+1)+A (k+1)*T (c+1-(k+1+1))=M A T c k+A (k+1)*T (c-(k+1)))
theorem Ye (A T):∀j,conv (sh A) T j=sh (conv A T) j
 |0=>by refine (Q (bA ..) rfl:0*T 0=0)
 |j+1=>Wo A T j j
theorem Rt (A)(c):∀k,M (λt=>if t=0 then 1 else 0) A c k=A c
 |0=>dO _|k+1=>by show M _ A c k+(if k+1=0 then 1 else 0)*A (c-(k+1))=A c;refine Q (Rt A c k)<|Q (qn<|gg k)<|Q (bA ..)<|Q (dJ ..) rfl
theorem Kr {A T:Po}(b:∀c,A c=T c)(h):∀k,M A g h k=M T g h k
 |0=>by refine (Q (b ..) rfl:A 0*_=T 0*_)
 |k+1=>by refine (?_:_+A _*_=_+T _*_);refine Q (Kr b h k)<|Q (b ..) rfl
theorem Ru {A T:Po}(c:∀U,U<a->A U=0)(d:∀U,U<b->T U=0)(G:j<a+b):∀k,k<=j->M A T j k=0
 |0=>@λJ=>by
  refine (?_:A 0*T j=0)
  by_cases q:a=0
  .refine Q (d j<|ai G<|aK<|q▸bW b)<|Q (bE ..) rfl
  .refine Q (c 0<|eO q)<|Q (bA ..) rfl
 |k+1=>@λw=>by
  show M A T j k+A (k+1)*T (j-(k+1))=0;refine Q (Ru c d G k<|b6 w)<|Q (dA ..) ?_
  by_cases q:k+1<a
  .refine Q (c _ q)<|Q (bA ..) rfl
  .refine Q (d _<|ml w<|ai G<|a8 (cV.mp q) b)<|Q (bE ..) rfl
theorem Wq {A T:Po}(c:∀t,t<a->A t=0)(d:∀t,t<b->T t=0):∀k,k<=a+b->M A T (a+b) k=if a<=k then A a*T b else 0
 |0=>@λJ=>by
  refine (?_:A 0*T (a+b)=_)
  by_cases f:a=0
  .refine Q f ?_;clear f;refine Q (qm<|ag _)<|Q (bW ..) rfl
  .refine Q (qn<|gI.mpr<|eO f)<|Q (c 0<|eO f)<|Q (bA ..) rfl
 |k+1=>@λw=>by
  show M A T (a+b) k+A (k+1)*T (a+b-(k+1))=_;refine Q (Wq c d k<|b6 w) ?_
  by_cases f:k+1<a
  .exact Q (qn<|gI.mpr<|fW f)<|Q (qn<|gI.mpr f)<|Q (c _ f)<|Q (bA ..) rfl
  .by_cases e:k+1=a
   .refine Q (qn<|e▸Nat.not_succ_le_self k)<|Q (qm<|aK e.symm)<|Q e<|Q (bc ..)<|Q (dA ..) rfl
   .have i:a<=k:=bO<|ct (cV.mp f)<|fK e
    refine Q (qm i)<|Q (qm<|fj i)<|Q (d (a+b-(k+1))<|ml w<|n8 (da i) b)<|Q (bE ..)<|Q (dJ ..) rfl
theorem vL (x:sd A a)(q:sd T b):sd (conv A T) (a+b)/\conv A T (a+b)=A a*T b:=by
 have e:conv A T (a+b)=A a*T b:=by show M A T (a+b) (a+b)=_;refine Q (Wq x.2 q.2 _<|ag _)<|Q (qm<|aM a b) rfl
 exact ⟨⟨Q e<|ff x.1 q.1,λt G=>Ru x.2 q.2 G t<|ag _⟩,e⟩
theorem Dx (b:Nat->Int)(a):∀f,qx b (f++a)=qx b f+qx b a
 |[]=>(dA _).symm|u::f=>(Q (Dx b a f)<|(jn _ _ _).symm:b u+qx b (f++a)=b u+qx b f+qx b a)
theorem EP (b:Nat->Int)(d:Nat->Nat->Int)(a):∀(n:Nat)(S:List Nat),S.length<=n->(∀h∈S,∀v∈a,d h v=0)->∀T,m b d (S++a) T=conv (m b d S) (m b d a) T
 |W,[],V,P,T=>(Rt (m b d a) T T).symm|n+1,v::S,w,c,T=>by
  have w:=aJ w;have G:∀h∈S,∀v∈a,d h v=0:=λh f=>c h<|.tail _ f
  refine (Q (tn ..)<|Q (DA (EP b d a n S w G) T)<|Q ((EP b d a n S w G) T)<|Q (Dx ..) ?_:m b d (v::(S++a)) T=_);have e:qx (λh=>d v h*m b d ((S++a).erase h) T) S=qx (λh=>d v h*conv (m b d<|S.erase h) (m b d a) T) S:=qQ λh f=>by refine Q (List.erase_append_left _ f)<|Q (EP b d a n (S.erase h) (aa (bH ..) w) (λz H=>G z<|eR H) T) rfl
  refine Q (J (s9 a) (qQ λh f=>by refine Q (c v (.head _) h f)<|Q (bA ..) rfl):qx (λh=>d v h*m b d ((S++a).erase h) T) a=0)<|Q e<|Q (dJ ..) ?_
  show _=M (m b d<|v::S) (m b d a) T T;refine Q (Kr (tn b d v S) T T)<|Q (Rv ..)<|Q (Rr ..) ?_
  show sh (conv (m b d S)<|m b d a) T-_-_=conv (sh<|m b d S) (m b d a) T-_-_
  exact Q (Ye ..) rfl
section
def Dl (A T:Po)(q a:Int):Prop:=∃c,sd A c/\sd T c/\A c*a=- q*T c/\q≠0/\a≠0
def wO (A T:Po):Prop:=∃c,sd A (c+1)/\sd T c
def Ck (A T:Po):Prop:=∃c,sd A c/\sd T (c+1)
theorem sd.same (x:sd f a)(s:sd f b):a=b:=by
 rcases ky a b with q|q|q
 .exact absurd (s.2 a q) x.1
 .exact q
 .exact absurd (x.2 b q) s.1
theorem Dl.conv {i:Po}(p:Dl A T U L)(x:sd i b):Dl (conv A i) (conv T i) U L:=by obtain ⟨h,q,k,e,c,j⟩:=p;refine zz (h+b) (vL q x).1 (vL k x).1 (Q (vL q x).2<|Q (vL k x).2<|Q (oQ ..)<|Q e<|Q (dH ..) rfl) c j
theorem wO.conv {i:Po}(k:wO A g)(x:sd i b):wO (conv A i)<|conv g i:=by
 obtain ⟨h,q,n⟩:=k;refine qr (h+b) ?_<|(vL n x).1
 have:=(vL q x).1;rw[show h+1+b=h+b+1 by exact cm _ _] at this;exact this
theorem Ck.conv {i:Po}(G:Ck A g)(x:sd i b):Ck (conv A i)<|conv g i:=by obtain ⟨h,q,k⟩:=G;refine qr (h+b) ((vL q x).1) ?_;have:=(vL k x).1;rw[show h+1+b=h+b+1 by exact cm _ _] at this;exact this
inductive wh (ab:Nat->Int) (c:Nat):Nat->Prop
 |self:wh ab c c
 |step {v p:Nat}:c<v->ab v=(p:Int)->p<v->wh ab c p->wh ab c v
theorem wh.le {b:Nat->Int}(G:wh b c v):c<=v:=by
 induction G with
 |self=>exact ag _|step G J W V P=>exact bl G
noncomputable def wt (b d:Nat->Int)(c h:Nat):Int:=if c<h/\b h=(c:Int) then d h*d h else if h<c/\b c=(h:Int) then d c*d c else 0
theorem Ei (b d:Nat->Int)(c h):wt b d c h=wt b d h c:=by
 delta wt
 by_cases t:c<h/\b h=(c:Int)
 .refine Q (qm t)<|Q (qn λj=>kA t.1 j.1)<|Q (qm t) rfl
 .refine Q (qn t) ?_
  by_cases j:h<c/\b c=(h:Int)
  .refine Q (qm j)<|Q (qm j) rfl
  .refine Q (qn j)<|Q (qn j)<|Q (qn t) rfl
theorem N7 (s:Int):0<=s*s:=by rcases nB 0 s with q|q;exact g6 q q;exact gK q q
theorem Vr (b d:Nat->Int)(c h:Nat):0<=wt b d c h:=by
 delta wt
 split
 .exact N7 _
 .split
  .exact N7 _
  .exact c7 _
theorem Ej (b:Nat->Int)(d g:Nat->Int):Ok b<|wt d g:=⟨Ei d g,Vr d g⟩
noncomputable def sl (c n:Nat):List Nat:=dn c<|n-c
theorem rI:v∈sl k n↔k<=v/\v<n:=by
 delta sl;rw[kj];refine and_congr_right λw=>?_
 rcases Nat.le_total k n with q|q
 .rw[cM q]
 .exact Q (jN q)<|Q (gZ ..) ⟨λG=>absurd G<|cV.mpr w,λG=>absurd (ai G q)<|cV.mpr w⟩
theorem uF (c h):(sl c h).Nodup:=List.nodup_range'
theorem Ai (G:k<n):sl k n=k::sl (k+1) n:=by delta sl;refine Q (show n-k=(n-(k+1))+1 from (aH<|je G:n-k-1+1=n-k).symm)<|ax f9 rfl
open Classical in
noncomputable def dl (b:Nat->Int)(c:Nat)(a:List Nat):List Nat:=a.filter λh=>decide<|wh b c h
open Classical in
noncomputable def vJ (b:Nat->Int)(c:Nat)(a:List Nat):List Nat:=a.filter λh=>!decide (wh b c h)
theorem dl_mem {b:Nat->Int}{a:List Nat}:v∈dl b c a↔v∈a/\wh b c v:=by delta dl;rw[du];simp
theorem LQ {b:Nat->Int}{a:List Nat}:v∈vJ b c a↔v∈a/\¬wh b c v:=by delta vJ;rw[du];simp
theorem Mn (b:Nat->Int)(c)(a):(dl b c a++vJ b c a).Perm a:=List.filter_append_perm ..
theorem A9 {b:Nat->Int}{a:List Nat}(x:a.Nodup):(dl b c a).Nodup:=x.filter _
theorem cut {b d:Nat->Int}{a:List Nat}(g:∀h∈a,b c≠(h:Int))(o:∀t∈a,∀T∈a,b t=(T:Int)->T<t):∀T∈dl b c a,∀t∈vJ b c a,wt b d T t=0:=λT e t H=>by
 have e:=dl_mem.mp e;have H:=LQ.mp H;delta wt;rw[qn,qn]
 .rintro ⟨I,h2⟩
  cases e.2 with
  |self=>exact g t H.1 h2|step U n k G=>
   exact H.2<|Q (mI.mp<|h2.symm.trans n) G
 .rintro ⟨I,h2⟩;exact H.2<|.step (av e.2.le I) h2 I e.2
end
section
variable (d:Nat->Int) (f ti:Nat->Int) (n:Nat)
def Gp (h:Nat):Po:=m d (wt f ti)<|dl f h<|sl (h+1) n
def Fp (c:Nat):Po:=m d (wt f ti)<|c::dl f c (sl (c+1) n)
end
theorem Fm (h):(h::dl f h (sl (h+1) n)).Nodup:=bI.mpr ⟨λa=>by have:=rI.mp (dl_mem.mp a).1;lia,A9<|uF _ _⟩
theorem split {a:List Nat}(x:a.Nodup)(H:c<n)(o:∀t,wh f c t->t<n->t∈a)(I:∀t∈a,t<n)(b:∀T∈a,f c≠(T:Int))(G:∀t∈a,∀z∈a,f t=(z:Int)->z<t) :
  m d (wt f ti) a=conv (Fp d f ti n c) (m d (wt f ti)<|vJ f c a)/\m d (wt f ti) (a.erase c)=conv (Gp d f ti n c) (m d (wt f ti)<|vJ f c a):=by
 have V0:(dl f c a).Perm<|c::dl f c (sl (c+1) n):=by
  refine (lL (A9 x)<|Fm c).mpr λt=>?_
  rw[dl_mem,aE,dl_mem,rI];constructor
  .rintro ⟨g,L⟩;have:=L.le;have:=I t g
   by_cases e:t=c
   .exact .inl e
   .exact .inr ⟨⟨ct L.le<|fK e,I t g⟩,L⟩
  .rintro (rfl|⟨g,L⟩)
   .exact ⟨o _ .self H,.self⟩
   .exact ⟨o _ L g.2,L⟩
 have A:a.Perm<|c::(dl f c (sl (c+1) n)++vJ f c a):=(Mn f c a).symm.trans<|V0.append_right _
 have p:∀z∈c::dl f c (sl (c+1) n),∀t∈vJ f c a,wt f ti z t=0:=λz U=>(cut b G) z<|V0.mem_iff.mpr U
 refine ⟨funext λu=>?_,funext λu=>?_⟩
 .exact ax (zc (Ei f ti) a.length (ag _) A x u)<|EP d (wt f ti) (vJ f c a) _ (c::dl f c (sl (c+1) n)) (ag _) p u
 .have y:(a.erase c).Perm<|dl f c (sl (c+1) n)++vJ f c a:=by
   have:=A.erase c;rw[cS] at this;exact this
  exact ax (zc (Ei f ti) _ (ag _) y (x.erase c) u)<|EP d (wt f ti) (vJ f c a) _ _ (ag _) (λz U=>p z<|.tail _ U) u
theorem wh.trans (G:wh f a b)(x:wh f b c):wh f a c:=by
 induction x with
 |self=>exact G|step H r T y z=>exact .step (av G.le H) r T z
def Hk (U:Nat->Int)(c:Nat):Prop:=∀h,h<c->∀t:Nat,U h=(t:Int)->t<h
theorem kid (a:Hk f n)(H:h<t)(U:t<n)(hab:f t=(h:Int)):t∈dl f h (sl (h+1) n)/\
  m d (wt f ti) (dl f h<|sl (h+1) n)=conv (Fp d f ti n t) (m d (wt f ti)<|vJ f t<|dl f h<|sl (h+1) n)/\m d (wt f ti) ((dl f h<|sl (h+1) n).erase t)=conv (Gp d f ti n t) (m d (wt f ti)<|vJ f t<|dl f h<|sl (h+1) n):=by
 refine ⟨dl_mem.mpr ⟨rI.mpr ⟨H,U⟩,(.step H hab H .self:wh f h t)⟩,split (A9<|uF _ _) U (λT G k=>dl_mem.mpr ⟨rI.mpr ⟨aa H G.le,k⟩,(.step H hab H .self:wh f h t).trans G⟩) (λT G=>(rI.mp (dl_mem.mp G).1).2) (λz G i=>?_) λT G A J i=>a T (rI.mp (dl_mem.mp G).1).2 A i⟩;exact cy (rI.mp (dl_mem.mp G).1).1<|cW<|hab.symm.trans i
theorem whole (a:Hk f n)(G:h<n):m d (wt f ti) (sl h n)=conv (Fp d f ti n h) (m d (wt f ti)<|vJ f h<|sl h n)/\m d (wt f ti) (sl (h+1) n)=conv (Gp d f ti n h) (m d (wt f ti)<|vJ f h<|sl h n):=by
 have t:=split (d:=d) (ti:=ti) (uF _ _) G (λu t U=>rI.mpr ⟨t.le,U⟩) (λu t=>(rI.mp t).2) (λT t e=>by have:=a h G T e;have:=(rI.mp t).1;lia) λu t z J e=>a u (rI.mp t).2 z e
 replace t:=(show (sl h n).erase h=sl (h+1) n by refine Q (Ai G)<|Q (cS ..) rfl)▸t;exact t
theorem Ih (G:c<u):wt f ti c u=if f u=(c:Int) then ti u*ti u else 0:=by
 delta wt
 by_cases e:f u=(c:Int)
 .refine Q (qm ⟨G,e⟩)<|Q (qm e) rfl
 .refine Q (qn λt=>e t.2)<|Q (qn λt=>by lia)<|Q (qn e) rfl
def Kind (b:Nat->Int)(U g:Nat->Int)(c:Nat)(o G:Nat->Int)(h:Nat):Prop:=g h=0\/Dl (Fp b U g c h) (Gp b U g c h) (o h) (G h)\/wO (Fp b U g c h) (Gp b U g c h)\/Ck (Fp b U g c h) (Gp b U g c h)
theorem Pl (h t):Fp d f ti n h t=sh (Gp d f ti n h) t-d h*Gp d f ti n h t-qx (λT=>wt f ti h T*m d (wt f ti) ((dl f h<|sl (h+1) n).erase T) t) (dl f h<|sl (h+1) n):=tn d (wt f ti) h _ t
theorem IC {b:Nat->Int}:∀{l:List Nat},(∀u∈l,0<=b u)->(∃u∈l,0<b u)->0<qx b l
 |[]=>@λJ a=>qt a λJ a J=>nomatch a
 |u::l=>@λe a=>by
  show 0<b u+qx b l;obtain ⟨h,hx,G⟩:=a;rcases aE.mp hx with rfl|hx
  .exact M7 (xQ λh hx=>e h<|.tail _ hx) G
  .exact Nn (e u<|.head _) (IC (λh hx=>e h<|.tail _ hx)<|qr h hx G)
section
variable (o:Hk ab n) (v:k<n) (j:∀c,k<c->c<n->ab c=(k:Int)->Kind d ab ti n U L c)
include o v j
theorem TU {t:Nat}(T:k<t)(p:t<n)(e:ab t=(k:Int)):ti t=0\/Dl (Gp d ab ti n k) (m d (wt ab ti)<|(dl ab k<|sl (k+1) n).erase t) (U t) (L t)\/wO (Gp d ab ti n k) (m d (wt ab ti)<|(dl ab k<|sl (k+1) n).erase t)\/Ck (Gp d ab ti n k) (m d (wt ab ti)<|(dl ab k<|sl (k+1) n).erase t):=by
 refine qN (kid (d:=d) (ti:=ti) o T p e) λa i q=>qt (w4 (d:=d) (w:=wt ab ti)<|vJ ab t<|dl ab k<|sl (k+1) n) λz J x=>?_
 have i:Gp d ab ti n k=_:=i;exact Q i<|Q q<|(j t T p e).imp id<|Or.imp (·.conv x)<|Or.imp (·.conv x) (·.conv x)
theorem Gq {T:Nat}(x:sd (Gp d ab ti n k) T)(b:u∈dl ab k (sl (k+1) n))(f:i<T)(hz:i+1=T->¬(ab u=(k:Int)/\ti u≠0/\wO (Gp d ab ti n k) (m d (wt ab ti)<|(dl ab k<|sl (k+1) n).erase u))):wt ab ti k u*m d (wt ab ti) ((dl ab k<|sl (k+1) n).erase u) i=0:=by
 have t:=rI.mp (dl_mem.mp b).1;refine Q (Ih<|show k<u by lia) ?_
 by_cases e:ab u=(k:Int)
 .refine Q (qm e) ?_;rcases TU o v j (by lia) t.2 e with h|h|h|h
  .refine Q h ?_;simp
  .obtain ⟨w,a,p,_⟩:=h;refine Q (p.2 i<|Q (a.same x) f)<|Q (bE ..) rfl
  .by_cases q:ti u=0
   .refine Q q ?_;simp
   .obtain ⟨w,a,p⟩:=id h
    by_cases z:i+1=T
    .exact absurd ⟨e,q,h⟩<|hz z
    .refine Q (p.2 i<|NB f (a.same x) z)<|Q (bE ..) rfl
  .obtain ⟨w,a,p⟩:=h;refine Q (p.2 i<|a.same x▸dT f)<|Q (bE ..) rfl
 .refine Q (qn e)<|Q (bA ..) rfl
theorem below {T:Nat}(x:sd (Gp d ab ti n k) T)(a:z<T)(G:z+1=T->∀A∈dl ab k (sl (k+1) n),¬(ab A=(k:Int)/\ti A≠0/\wO (Gp d ab ti n k) (m d (wt ab ti)<|(dl ab k<|sl (k+1) n).erase A))):Fp d ab ti n k z=0:=by
 refine Q (Pl ..)<|Q (x.2 z a) ?_
 have e:sh (Gp d ab ti n k) z=0:=by
  cases z with
  |zero=>rfl|succ z=>exact x.2 z<|fW a
 refine Q e<|Q (J (s9<|dl ab k<|sl (k+1) n)<|qQ λA b=>Gq o v j x b a λp=>G p A b:qx (λA=>wt ab ti k A*m d (wt ab ti) ((dl ab k<|sl (k+1) n).erase A) z) (dl ab k<|sl (k+1) n)=0) ?_;simp
theorem Sr {t:Nat}(T:k<t)(p:t<n)(h3:ab t=(k:Int))(f:ti t≠0)(hc:wO (Fp d ab ti n t)<|Gp d ab ti n t):Ck (Fp d ab ti n k)<|Gp d ab ti n k:=by
 refine qN (kid (d:=d) (ti:=ti) o T p h3) λhm i y=>qt (w4 (d:=d) (w:=wt ab ti)<|vJ ab t<|dl ab k<|sl (k+1) n) λz W x=>?_
 have b:wO (Gp d ab ti n k)<|m d (wt ab ti)<|(dl ab k<|sl (k+1) n).erase t:=by have i:Gp d ab ti n k=_:=i;exact Q i<|Q y<|hc.conv x
 obtain ⟨A,a,G⟩:=b;refine qr A ⟨?_,λI hi=>below o v j a (jV hi) λe=>by lia⟩ a;have s:0<qx (λu=>Gp d ab ti n k (A+1)*(wt ab ti k u*m d (wt ab ti) ((dl ab k<|sl (k+1) n).erase u) A)) (dl ab k<|sl (k+1) n):=by
  have tm:∀u∈dl ab k (sl (k+1) n),ab u=(k:Int)->ti u≠0->wO (Gp d ab ti n k) (m d (wt ab ti)<|(dl ab k<|sl (k+1) n).erase u)->0<Gp d ab ti n k (A+1)*(wt ab ti k u*m d (wt ab ti) ((dl ab k<|sl (k+1) n).erase u) A):=λu g q h b=>by
   obtain ⟨H,a',y'⟩:=b;have e:H=A:=cE<|a'.same a
   refine J e ?_;clear e;have hm:=rI.mp (dl_mem.mp g).1;refine Q (Ih<|show k<u by lia)<|Q (qm q)<|Q (cQ ..)<|ik ?_<|Js (Ej d ab ti) (A9<|uF _ _) g a' y'
   exact fm.mpr ⟨N7 _,(ff h h).symm⟩
  refine IC (λu g=>?_)<|qr t hm<|tm t hm h3 f<|qr A a G
  by_cases q:ab u=(k:Int)/\ti u≠0/\wO (Gp d ab ti n k) (m d (wt ab ti)<|(dl ab k<|sl (k+1) n).erase u)
  .exact bX<|tm u g q.1 q.2.1 q.2.2
  .exact Q (Gq o v j a g (bY A) λW=>q)<|Q (bE ..)<|c7 _
 intro h0;revert h0;refine Q (Pl ..)<|Q (a.2 A<|bY A) ?_;intro h0
 have e3:sh (Gp d ab ti n k) A=0:=by
  cases A with
  |zero=>rfl|succ A=>exact a.2 A<|cZ _
 rw[e3] at h0
 rw[r8] at s
 rw[(by simp at h0;exact h0:qx (λu=>wt ab ti k u*m d (wt ab ti) ((dl ab k<|sl (k+1) n).erase u) A) (dl ab k<|sl (k+1) n)=0),bE] at s
 exact eM _ s
theorem Sq {l:Int}(G:∀c,k<c->c<n->ab c=(k:Int)->ti c≠0->¬wO (Fp d ab ti n c) (Gp d ab ti n c))(f:l≠0)(hp:∀(g:Int)(T:Nat->Int),(∀c,k<c->c<n->ab c=(k:Int)->ti c≠0->Dl (Fp d ab ti n c) (Gp d ab ti n c) (U c) (L c)->g*L c=- U c*T c)->
   (∀c,k<c->c<n->ab c=(k:Int)->ti c≠0->Ck (Fp d ab ti n c) (Gp d ab ti n c)->T c=0)->
   l*(d k*g+qx (λc=>wt ab ti k c*T c) (dl ab k<|sl (k+1) n))=u*g) :
  (u≠0->Dl (Fp d ab ti n k) (Gp d ab ti n k) u l)/\(u=0->wO (Fp d ab ti n k) (Gp d ab ti n k)):=by
 refine qt (w4 (d:=d) (w:=wt ab ti)<|dl ab k<|sl (k+1) n) λz hZl I=>?_
 have I:sd (Gp d ab ti n k) z:=I;have QX:∀c,k<c->c<n->ab c=(k:Int)->ti c≠0->∀{A:Po}{b:Nat},sd A b->wO (Gp d ab ti n k) (m d (wt ab ti)<|(dl ab k<|sl (k+1) n).erase c)->False:=λc h1 h2 h3 ht A b W hz=>by
  refine qN (kid (d:=d) (ti:=ti) o h1 h2 h3) λhm i e2=>qt (w4 (d:=d) (w:=wt ab ti)<|vJ ab c<|dl ab k<|sl (k+1) n) λb W hb=>?_
  have i:Gp d ab ti n k=_:=i;obtain ⟨t,a,y⟩:=hz;rcases j c h1 h2 h3 with h|h|h|h
  .exact ht h
  .obtain ⟨z',p,q,_⟩:=h.conv hb
   rw[<- i] at p;rw[<- e2] at q
   have:=p.same a;have:=q.same y;lia
  .exact G c h1 h2 h3 ht h
  .obtain ⟨z',p,q⟩:=h.conv hb
   rw[<- i] at p;revert q;refine J e2 ?_;intro q
   have:=p.same a;have:=q.same y;lia
 have Um:∀H,H<z->Fp d ab ti n k H=0:=λH hi=>below o v j I hi λW w hw h=>QX w (by have:=rI.mp (dl_mem.mp hw).1;lia) (rI.mp (dl_mem.mp hw).1).2 h.1 h.2.1 I h.2.2
 have E4:Fp d ab ti n k z*l=- u*Gp d ab ti n k z:=by
  have hq:=hp (Gp d ab ti n k z) (λc=>m d (wt ab ti) ((dl ab k<|sl (k+1) n).erase c) z) (λc h1 h2 h3 ht h=>by
    obtain ⟨hm,i,e2⟩:=kid o h1 h2 h3;obtain ⟨b,_,hb⟩:=w4 (vJ ab c<|dl ab k<|sl (k+1) n);obtain ⟨z',p,q,A,_⟩:=h.conv hb
    rw[<- i] at p A;replace A:=e2.symm▸A
    have:=p.same I;refine J this ?_;clear this;exact A) (λc h1 h2 h3 ht h=>by
    obtain ⟨hm,i,e2⟩:=kid o h1 h2 h3;obtain ⟨b,_,hb⟩:=w4 (vJ ab c<|dl ab k<|sl (k+1) n);obtain ⟨z',p,q⟩:=h.conv hb
    rw[<- i] at p;rw[<- e2] at q
    have:=p.same I;refine J this ?_;clear this;exact q.2 z'<|bY z')
  refine Q (Pl ..) ?_;have e3:sh (Gp d ab ti n k) z=0:=by
   cases z with
   |zero=>rfl|succ t=>exact I.2 t<|bY t
  refine Q e3 ?_;generalize qx (λc=>wt ab ti k c*m d (wt ab ti) ((dl ab k<|sl (k+1) n).erase c) z) (dl ab k<|sl (k+1) n)=s at *
  generalize Gp d ab ti n k z=g at *
  clear hp Um QX I;generalize d k=x at *
  grind
 refine ⟨λhu=>zz z ⟨λh0=>?_,Um⟩ I E4 hu f,λhu=>?_⟩
 .rw[h0,bA] at E4
  exact ff (Int.neg_ne_zero.mpr hu) I.1 E4.symm
 .have h0:Fp d ab ti n k z=0:=by
   rw[hu,Int.neg_zero,bA] at E4
   exact (Int.mul_eq_zero.mp E4).resolve_right f
  refine qt (w4 (d:=d) (w:=wt ab ti)<|k::dl ab k (sl (k+1) n)) λt hz1 hz=>?_
  have hup:=(aat (Ej d ab ti) (Fm k) (iS ..) hz<|Q (cS ..) I).1;have:¬t<=z:=λq=>by
   by_cases e:t=z
   .exact hz.1<|Q e h0
   .exact hz.1<|Um t<|by lia
  exact qr z (J (by lia:t=z+1) hz) I
end
structure LS where
 U:Nat->Int
 L:Nat->Int
 no:Nat->Int
 a:Int
 b:Int
 c:Int
noncomputable def up (b:Nat->Int)(c:Nat)(q:Int):Nat->Int:=λh=>if h=c then q else b h
def lst (T o:Nat->Int)(e:Nat)(f:LS):LS:=
 if 0<f.no e then { f with a:=f.a+1,b:=f.b+1,c:=f.c-1 }
 else if f.U e=0 then { f with c:=f.c+1,no:=if o e=0 then f.no else up f.no (T e).toNat (f.no (T e).toNat+1) }
 else { f with a:=if 0<f.U e*f.L e then f.a+1 else f.a,b:=if 0<f.U e*f.L e then f.b else f.b+1,U:=if o e=0 then f.U else up f.U (T e).toNat (f.U (T e).toNat*f.U e-o e*o e*f.L e*f.L (T e).toNat),L:=if o e=0 then f.L else up f.L (T e).toNat (f.L (T e).toNat*f.U e) }
section
variable (d j o:Nat->Int) (n:Nat)
def Done (a:LS)(h:Nat):Prop:=(0<a.no h->Ck (Fp d j o n h) (Gp d j o n h))/\(a.no h<=0->a.U h≠0->Dl (Fp d j o n h) (Gp d j o n h) (a.U h) (a.L h))/\(a.no h<=0->a.U h=0->wO (Fp d j o n h) (Gp d j o n h))
def Todo (h:Nat)(a:LS)(t:Nat):Prop:=a.L t≠0/\0<=a.no t/\(0<a.no t↔∃T,h<=T/\T<n/\j T=(t:Int)/\o T≠0/\wO (Fp d j o n T) (Gp d j o n T))/\
 ∀(q:Int)(p:Nat->Int),(∀T,h<=T->T<n->j T=(t:Int)->o T≠0->Dl (Fp d j o n T) (Gp d j o n T) (a.U T) (a.L T)->q*a.L T=- a.U T*p T)->
  (∀T,h<=T->T<n->j T=(t:Int)->o T≠0->(wO (Fp d j o n T) (Gp d j o n T)\/Ck (Fp d j o n T) (Gp d j o n T))->p T=0)->
  a.L t*(d t*q+qx (λT=>if j T=(t:Int) then o T*o T*p T else 0) (sl h n))=a.U t*q
structure yp (k:Nat) (s:LS):Prop where
 don:∀c,k<=c->c<n->Done d j o n s c
 Vv:∀p,p<k->p<n->Todo d j o n k s p
 cnt:s.a=(pos d (wt j o)<|sl k n:Nat)/\s.b=(pos (λv=>- d v) (wt j o)<|sl k n:Nat)/\∃z:Nat,sd (m d (wt j o)<|sl k n) z/\s.c=(z:Int)
end
theorem P_ (c):sl c c=[]:=by delta sl;exact Q (Nat.sub_self ..) rfl
theorem ES {s:LS}(h1:s.U=d)(h2:s.L=λJ=>1)(h3:s.no=λJ=>0)(h4:s.a=0)(h5:s.b=0)(h6:s.c=0):yp d j o n n s where
 don:=λc h k=>absurd h<|gI.mpr k
 Vv:=λp J hp=>by
  refine td (Q h2 (by decide:(1:Int)≠0)) (Q h3<|c7 0) ?_ λg η J J=>?_
  .exact Q h3 ⟨λh=>absurd h<|eM 0,λrS=>rU rS λc a b J=>absurd a<|gI.mpr b⟩
  .refine Q h1<|Q h2<|Q (P_ ..) ?_
   show 1*(d p*g+0)=d p*g;refine Q (dO ..)<|Q (dJ ..) rfl
 cnt:=Q (P_ ..)<|Q h4<|Q h5<|Q h6<|⟨rfl,rfl,0,⟨(by decide:(1:Int)≠0),λi h=>nomatch h⟩,rfl⟩
theorem kinds_of (i:yp d j o n (h+1) s):∀t,h<t->t<n->j t=(h:Int)->Kind d j o n s.U s.L t:=λt G T J=>by
 obtain ⟨a,b,e⟩:=i.don t G T
 by_cases k:0<s.no t
 .exact .inr<|.inr<|.inr<|a k
 .by_cases f:s.U t=0
  .exact .inr<|.inr<|.inl<|e (bP.mp k) f
  .exact .inr<|.inl<|b (bP.mp k) f
theorem Xq (p:Dl f g U L)(k:wO f g):False:=by obtain ⟨c,x,q,_⟩:=p;obtain ⟨h,s,t⟩:=k;have:=x.same s;have:=q.same t;lia
theorem WW (k:wO f g)(G:Ck f g):False:=by obtain ⟨c,x,q⟩:=k;obtain ⟨h,p,s⟩:=G;have:=x.same p;have:=q.same s;lia
theorem Kj (a:Hk j n)(H:h<n)(u:yp d j o n (h+1) s):Done d j o n s h:=by
 obtain ⟨c,w,f,I⟩:=u.Vv h (bY h) H;have E0:s.no h<=0->∀t,h<t->t<n->j t=(h:Int)->o t≠0->¬wO (Fp d j o n t) (Gp d j o n t):=λi t T k e x y=>by have:=f.mpr<|zz t T k e x y;lia
 have G:s.no h<=0->_:=λi=>Sq a H (kinds_of u) (E0 i) c λq v p b=>by
  have z:=I q v (λt T k e x=>p t T k e x) λt T k e x y=>y.elim (λy=>absurd y<|E0 i t T k e x)<|b t T k e x
  refine J z ?_;congr 2;have A:qx (λt=>if j t=(h:Int) then o t*o t*v t else 0) (vJ j h<|sl (h+1) n)=0:=by
   refine (qQ λt g=>qn λz=>?_).trans<|s9 _
   have g:=LQ.mp g;have:=rI.mp g.1;exact g.2<|.step (show h<t by lia) z (by lia) .self
  refine Q (J (Dx ..)<|BF (Mn j h _).symm:qx (λt=>if j t=(h:Int) then o t*o t*v t else 0) (sl (h+1) n)=qx (λt=>if j t=(h:Int) then o t*o t*v t else 0) (dl j h<|sl (h+1) n)+qx (λt=>if j t=(h:Int) then o t*o t*v t else 0) (vJ j h<|sl (h+1) n))<|Q A<|Q (dJ ..)<|qQ λt g=>?_
  have:=rI.mp (dl_mem.mp g).1;refine Q (Ih<|show h<t by lia) ?_
  by_cases i:j t=(h:Int)
  .refine Q (qm i)<|Q (qm i) rfl
  .refine Q (qn i)<|Q (qn i)<|Q (bA ..) rfl
 exact ⟨λi=>HD (f.mp i) λt T k e x y=>Sr a H (kinds_of u) T k e x y,λi=>(G i).1,λi=>(G i).2⟩
theorem Ct {b:Nat->Int}{c:Nat}(e:i≠c):up b c x i=b i:=qn e
theorem up_eq {b:Nat->Int}{c:Nat}:up b c x c=x:=qm rfl
theorem Jt {b:Nat->Int}{e:Nat->Nat->Int}{a:List Nat}(x:sd (m b e a) z):z<=a.length:=by
 by_cases w:z<=a.length
 .exact w
 .have:=x.2 a.length<|kW w
  rw[vX] at this;exact absurd this (by decide)
theorem gk {q:Prop}(b:∀v:Prop,(q->v)->v):q:=b q id
theorem ZK {t:Int}(e:f*t=- u*g)(c:u≠0)(v:t≠0)(x:g≠0):(0<u*t/\f*g<0)\/(u*t<0/\0<f*g):=by
 have sq:∀y:Int,y≠0->0<y*y:=λy q=>(i4 q).elim (λq=>ja q q) λq=>ik q q
 have i:f*g*(t*t)=- (u*t*(g*g)):=by clear c v x sq;grind
 rcases i4 (ff c v) with q|q
 .refine .inr ⟨q,ia.mp λw=>?_⟩;have z:=ka w<|bX<|sq t v
  rw[i] at z
  exact absurd (ee (mw q<|sq g x))<|bP.mpr z
 .refine .inl ⟨q,ia.mp λw=>?_⟩;have z:=g6 w<|bX<|sq t v
  rw[i] at z
  exact absurd (oO (ik q<|sq g x))<|bP.mpr z
section
variable (A:Hk ab n) (j:∀k,k<n->ti k≠0->∃p:Nat,ab k=(p:Int)) (o:k<n) (h:yp d ab ti n (k+1) s)
include A j o
theorem par {p:Nat}(c:ti k≠0):(ab k).toNat<k/\(ab k=(p:Int)↔p=(ab k).toNat):=rN (j k o c) λz e=>Q e<|Q (dU ..) ⟨A k o z e,λh=>(mI.mp h).symm,λh=>by refine Q h rfl⟩
theorem keep (w:k<=c):(lst ab ti k s).U c=s.U c/\(lst ab ti k s).L c=s.L c/\(lst ab ti k s).no c=s.no c:=by
 delta lst
 by_cases T:0<s.no k
 .rw[qm T];exact ⟨rfl,rfl,rfl⟩
 .rw[qn T]
  by_cases e:s.U k=0
  .rw[qm e];refine ⟨rfl,rfl,?_⟩
   by_cases i:ti k=0
   .refine Q (qm i) rfl
   .exact Q (qn i)<|Ct<|by have:=(par A j o (p:=0) i).1;lia
  .rw[qn e];refine ⟨?_,?_,rfl⟩
   .show (if ti k=0 then s.U else up s.U _ _) c=s.U c
    by_cases i:ti k=0
    .refine Q (qm i) rfl
    .exact Q (qn i)<|Ct<|by have:=(par A j o (p:=0) i).1;lia
   .show (if ti k=0 then s.L else up s.L _ _) c=s.L c
    by_cases i:ti k=0
    .refine Q (qm i) rfl
    .exact Q (qn i)<|Ct<|by have:=(par A j o (p:=0) i).1;lia
include h
theorem SP:∀T,k<=T->T<n->Done d ab ti n (lst ab ti k s) T:=λT w U=>by
 refine qN (keep A j o (s:=s) w) λe i q=>?_
 have:Done d ab ti n s T:=by
  by_cases z:T=k
  .exact Q z<|Kj A o h
  .exact h.don T (ct w<|fK z) U
 delta Done at *
 exact Q e<|Q i<|Q q this
theorem SQ:(lst ab ti k s).a=(pos d (wt ab ti)<|sl k n:Nat)/\(lst ab ti k s).b=(pos (λT=>- d T) (wt ab ti)<|sl k n:Nat)/\∃z:Nat,sd (m d (wt ab ti)<|sl k n) z/\(lst ab ti k s).c=(z:Int):=by
 refine gk λv I=>qN h.cnt λc1 i U=>qt U λt x y=>?_
 obtain ⟨a,G,b⟩:=Kj A o h;obtain ⟨f,H⟩:=whole A o;refine qt (w4 (d:=d) (w:=wt ab ti)<|vJ ab k<|sl k n) λu W q=>?_
 have hS:=uF k n;have hv:k∈sl k n:=rI.mpr ⟨ag _,o⟩;have c:(sl k n).erase k=sl (k+1) n:=by refine Q (Ai o)<|Q (cS ..) rfl
 by_cases q1:0<s.no k
 .replace I:=λL=>I<|Q (show lst ab ti k s=_ from qm q1) L
  obtain ⟨z,a1,a2⟩:=(a q1).conv q
  revert a1;refine J f ?_;intro a1;rw[<- H] at a2
  have e:=a2.same x;subst e;obtain ⟨g,p2⟩:=O3 (Ej d ab ti) hS hv a1 (Q c a2) (Q c<|Jt x);rw[c] at g p2
  refine I ⟨?_,?_,z,a1,?_⟩
  .show s.a+1=_;exact Q g<|Q c1 rfl
  .show s.b+1=_;exact Q p2<|Q i rfl
  .show s.c-1=_;refine Q y ?_;lia
 .skip
  by_cases q2:s.U k=0
  .replace I:=λL=>I<|Q (show lst ab ti k s=_ from (qn q1).trans (qm q2)) L
   obtain ⟨z,a1,a2⟩:=(b (bP.mp q1) q2).conv q
   rw[<- f] at a1;rw[<- H] at a2
   have e:=a2.same x;subst e;obtain ⟨g,p2⟩:=O2 (Ej d ab ti) hS hv a1 (Q c a2) (Q c<|Jt x);rw[c] at g p2
   refine I ⟨?_,?_,z+1,a1,?_⟩
   .refine Q g<|ax c1 rfl
   .refine Q p2<|ax i rfl
   .show s.c+1=_;exact Q y rfl
  .replace I:=λL=>I<|Q (show lst ab ti k s=_ from (qn q1).trans (qn q2)) L
   obtain ⟨z,a1,a2,a3,a4,a5⟩:=(G (bP.mp q1) q2).conv q
   rw[<- f] at a1 a3;rw[<- H] at a2 a3
   have e:=a2.same x;subst e;obtain ⟨g,p2⟩:=Rx (Ej d ab ti) hS hv a1 (Q c a2) (Q c<|Jt x) (s.U k*s.L k) (Q c<|ZK a3 a4 a5 a2.1);rw[c] at g p2
   refine I ⟨?_,?_,z,a1,y⟩
   .show (if 0<s.U k*s.L k then s.a+1 else s.a)=_;refine Q g<|Q c1 ?_;split<;>rfl
   .show (if 0<s.U k*s.L k then s.b else s.b+1)=_;refine Q p2<|Q i ?_;split<;>rfl
end
theorem Zl {u:Int}(e:g*lk=- uk*y)(o:lp*(dp*g+u)=up0*g):lp*uk*(dp*g+(t*t*y+u))=(up0*uk-t*t*lk*lp)*g:=by grind
section
variable (j:Hk ab n) (f:∀k,k<n->ti k≠0->∃p:Nat,ab k=(p:Int)) (i:k<n) (h:yp d ab ti n (k+1) s)
include j f i h
theorem x_ {o:LS}{p:Nat}(a:p<k)(e:o.U p=s.U p)(u:o.L p=s.L p)(v:o.no p=s.no p)(I:∀T,k<=T->o.U T=s.U T/\o.L T=s.L T)(hz:ab k=(p:Int)->ti k≠0->Ck (Fp d ab ti n k) (Gp d ab ti n k)):Todo d ab ti n k o p:=by
 obtain ⟨c,w,x,t4⟩:=h.Vv p (jV a) (eH a i);delta Todo;refine Q e<|Q u<|Q v<|td c w (x.trans ⟨λU=>qt U λT y A=>qr T (by lia) A,λb=>HD b λT y A z q L=>zz T ?_ A z q L⟩) λq G y A=>?_
 .by_cases H:T=k
  .subst H;exact (WW L<|hz z q).elim
  .lia
 .refine Q (Ai i) ?_;show s.L p*(d p*q+((if ab k=(p:Int) then ti k*ti k*G k else 0)+qx _ (sl (k+1) n)))=_;have e0:(if ab k=(p:Int) then ti k*ti k*G k else 0)=0:=by
   by_cases H:ab k=(p:Int)
   .rw[qm H]
    by_cases t:ti k=0
    .refine Q t ?_;simp
    .refine Q (A k (ag _) i H t<|.inr<|hz H t)<|Q (bE ..) rfl
   .rw[qn H]
  refine Q e0<|Q (dA ..)<|t4 q G (λT e u v h4 r=>?_) λT e u v h4 r=>A T (by lia) u v h4 r
  obtain ⟨e1,g⟩:=I T (by lia);have:=y T (by lia) u v h4<|Q e1<|Q g r
  rw[e1,g] at this;exact this
theorem SN:∀p,p<k->p<n->Todo d ab ti n k (lst ab ti k s) p:=λp o u=>by
 have G:∀T,k<=T->(lst ab ti k s).U T=s.U T/\(lst ab ti k s).L T=s.L T:=λT w=>qN (keep j f i w) λa v W=>⟨a,v⟩
 obtain ⟨d1,d2,d3⟩:=Kj j i h;obtain ⟨c,y,A,t4⟩:=h.Vv p (jV o) u
 by_cases I:0<s.no k
 .have e:(lst ab ti k s).U=s.U/\(lst ab ti k s).L=s.L/\(lst ab ti k s).no=s.no:=by delta lst;exact Q (qm I)<|rj rfl rfl rfl
  exact x_ j f i h o (by refine Q e.1 rfl) (by refine Q e.2.1 rfl) (by refine Q e.2.2 rfl) G λW W=>d1 I
 .skip
  by_cases L:s.U k=0
  .have eU:(lst ab ti k s).U=s.U/\(lst ab ti k s).L=s.L/\(lst ab ti k s).no=if ti k=0 then s.no else up s.no (ab k).toNat (s.no (ab k).toNat+1):=by delta lst;exact Q (qn I)<|Q (qm L)<|rj rfl rfl rfl
   by_cases t:ti k=0
   .revert eU;refine Q (qm t) ?_;intro eU;exact x_ j f i h o (by refine Q eU.1 rfl) (by refine Q eU.2.1 rfl) (by refine Q eU.2.2 rfl) G λW z=>absurd t z
   .revert eU;refine Q (qn t) ?_;intro eU;refine rG (par j f i (p:=p) t) λb1 b2=>?_
    by_cases e:p=(ab k).toNat
    .skip
     delta Todo;refine Q eU.1<|Q eU.2.1<|Q eU.2.2<|J e<|Q (up_eq ..)<|td c (by lia) ⟨λW=>zz k (ag _) i (b2.mpr e) t<|d3 (bP.mp I) L,λW=>by lia⟩ λg x a v=>Q (Ai i) ?_
     show s.L p*(d p*g+((if ab k=(p:Int) then ti k*ti k*x k else 0)+qx _ (sl (k+1) n)))=_;exact Q (qm<|b2.mpr e)<|Q (v k (ag _) i (b2.mpr e) t<|.inl<|d3 (bP.mp I) L)<|Q (bE ..)<|Q (dA ..)<|t4 g x (λT b U H h4 r=>a T (by lia) U H h4 r) λT b U H h4 r=>v T (by lia) U H h4 r
    .exact x_ j f i h o (by refine Q eU.1 rfl) (by refine Q eU.2.1 rfl) (Q eU.2.2<|Ct e) G λz W=>absurd (b2.mp z) e
  .skip
   have eU:(lst ab ti k s).U=(if ti k=0 then s.U else up s.U (ab k).toNat (s.U (ab k).toNat*s.U k-ti k*ti k*s.L k*s.L (ab k).toNat))/\(lst ab ti k s).L=(if ti k=0 then s.L else up s.L (ab k).toNat (s.L (ab k).toNat*s.U k))/\(lst ab ti k s).no=s.no:=by delta lst;exact Q (qn I)<|Q (qn L)<|rj rfl rfl rfl
   by_cases t:ti k=0
   .revert eU;refine Q (qm t)<|Q (qm t) ?_;intro eU
    exact x_ j f i h o (by refine Q eU.1 rfl) (by refine Q eU.2.1 rfl) (by refine Q eU.2.2 rfl) G λW z=>absurd t z
   .revert eU;refine Q (qn t)<|Q (qn t) ?_;intro eU
    refine rG (par j f i (p:=p) t) λb1 b2=>?_
    by_cases e:p=(ab k).toNat
    .skip
     delta Todo;refine Q (show (lst ab ti k s).U p=s.U p*s.U k-ti k*ti k*s.L k*s.L p by refine Q eU.1<|J e<|ax up_eq rfl)<|Q (show (lst ab ti k s).L p=s.L p*s.U k by refine Q eU.2.1<|J e<|ax up_eq rfl)<|Q eU.2.2<|td (ff c L) y (A.trans ⟨λyq=>qt yq λT a v=>qr T (by lia) v,λyr=>HD yr λT a v e g z=>zz T ?_ v e g z⟩) λg x a v=>?_
     .by_cases q:T=k
      .subst q;exact (Xq (d2 (bP.mp I) L) z).elim
      .lia
     .refine Q (Ai i) ?_;show s.L p*s.U k*(d p*g+((if ab k=(p:Int) then ti k*ti k*x k else 0)+qx _ (sl (k+1) n)))=_;refine Q (qm<|b2.mpr e) ?_;have hη:=a k (ag _) i (b2.mpr e) t<|Q ((G k<|ag _).1)<|Q ((G k<|ag _).2)<|d2 (bP.mp I) L
      rw[(G k<|ag _).1,(G k<|ag _).2] at hη
      have hm:=t4 g x (λT b U H h4 r=>by
       obtain ⟨e1,e2⟩:=G T (by lia);have:=a T (by lia) U H h4<|Q e1<|Q e2 r
       rw[e1,e2] at this;exact this) λT b U H h4 r=>v T (by lia) U H h4 r
      exact Zl hη hm
    .exact x_ j f i h o (Q eU.1<|Ct e) (Q eU.2.1<|Ct e) (by refine Q eU.2.2 rfl) G λz W=>absurd (b2.mp z) e
theorem GR:yp d ab ti n k<|lst ab ti k s:=⟨SP j f i h,SN j f i h,SQ j f i h⟩
end
noncomputable def val (A:Po)(q:Int):Nat->Int
 |0=>0|NNq+1=>val A q NNq+A NNq*q^NNq
theorem Lx (A T i:Po)(q a):∀NNq,val (λh=>A h-q*T h-i h) a NNq=val A a NNq-q*val T a NNq-val i a NNq
 |0=>by refine (?_:(0:Int)=0-q*0-0);lia
 |NNq+1=>by refine (Q (Lx A T i q a NNq)<|Q (eK ..)<|Q (eK ..)<|Q (fG ..)<|Q (dH ..) ?_:val _ a NNq+(A NNq-q*T NNq-i NNq)*a^NNq=(val A a NNq+A NNq*a^NNq)-q*(val T a NNq+T NNq*a^NNq)-(val i a NNq+i NNq*a^NNq));lia
theorem Lw (b:Nat->Int)(d:Nat->Po)(y)(a):∀NNq,val (λh=>qx (λt=>b t*d t h) a) y NNq=qx (λt=>b t*val (d t) y NNq) a
 |0=>by refine (s9 a).symm.trans<|qQ λt W=>(bE _).symm
 |NNq+1=>(Q (Lw b d y a NNq)<|Q (cu ..)<|J (r8 ..)<|J (xC ..)<|qQ λt W=>by rw[fG,cu<|y^NNq,dH]:val _ y NNq+qx (λt=>b t*d t NNq) a*y^NNq=qx (λt=>b t*(val (d t) y NNq+d t NNq*y^NNq)) a)
theorem Pz (A)(q):∀NNq,val (sh A) q (NNq+1)=q*val A q NNq
 |0=>(Q (bA ..)<|Q (bE ..) rfl:(0:Int)+0*q^0=q*0)
 |NNq+1=>by refine (Q (Pz A q NNq)<|Q (fG ..)<|Q (ej ..) ?_:val (sh A) q (NNq+1)+A NNq*q^(NNq+1)=q*(val A q NNq+A NNq*q^NNq));congr 1;rw[cQ q,cu q]
theorem val_congr {A T:Po}(b:∀c,A c=T c)(q)(U):val A q U=val T q U:=by refine Q (show A=T from funext b) rfl
noncomputable def en (b:Nat->Int)(d:Nat->Nat->Int):Nat->List Nat->Int
 |J,[]=>1|0,_::_=>0
 |n+1,h::S=>b h*en b d n S-qx (λt=>d h t*en b d n (S.erase t)) S
theorem Ki (b:Nat->Int)(d:Nat->Nat->Int):∀c,en b d c []=1
 |0=>rfl|J+1=>rfl
theorem F6 (b:Nat->Int)(d:Nat->Nat->Int):∀(n h:Nat)(S:List Nat),S.length<=n->S.length<=h->en b d n S=en b d h S
 |n,h,[],J,W=>(Ki b d n).trans (Ki b d h).symm|n+1,h+1,t::S,w,i=>by
  have w:=aJ w;have i:=aJ i
  refine (Q (F6 b d n h S w i) ?_:b t*en b d n S-_=b t*en b d h S-_);congr 1;exact qQ λT J=>by refine Q (F6 b d n h (S.erase T) (aa (bH ..) w)<|aa (bH ..) i) rfl
theorem En (b:Nat->Int)(d:Nat->Nat->Int)(q):∀(n:Nat)(S:List Nat),S.length<=n->val (m b d S) q (n+1)=en (λh=>q-b h) d n S
 |n,[],J=>by
  have:∀U,val (m b d []) q (U+1)=1:=λU=>by
   induction U with
   |zero=>exact (Q (gm ..) rfl:(0:Int)+1*q^0=1)|succ U e=>
    exact (Q e<|Q (CH ..)<|Q (qn<|gg U)<|Q (bA ..) rfl:val (m b d []) q (U+1)+m b d [] (U+1)*q^(U+1)=1)
  rw[this,Ki]
 |n+1,h::S,w=>by
  have w:=aJ w;rw[val_congr<|tn b d h S,Lx,Lw,Pz,En b d q n S w];show q*en _ d n S-b h*val (m b d S) q (n+1+1)-_=(q-b h)*en _ d n S-qx (λz=>d h z*en _ d n (S.erase z)) S;have i:val (m b d S) q (n+1+1)=en (λh=>q-b h) d n S:=by show val (m b d S) q (n+1)+m b d S (n+1)*q^(n+1)=_;refine Q (zd S.length S (ag _) (n+1)<|by assumption)<|Q (bA ..)<|Q (dJ ..)<|Q (En b d q n S w) rfl
  have o:∀z,val (m b d<|S.erase z) q (n+1+1)=en (λh=>q-b h) d n (S.erase z):=λz=>by refine (Q (zd (S.erase z).length (S.erase z) (ag _) (n+1)<|fX<|aa (bH ..) w)<|Q (bA ..)<|Q (dJ ..)<|Q (En b d q n _<|aa (bH ..) w) rfl:val (m b d<|S.erase z) q (n+1)+m b d (S.erase z) (n+1)*q^(n+1)=_)
  refine Q i<|Q (eK ..) ?_
  congr 1;exact qQ λz J=>by refine Q (o z) rfl
noncomputable def dig (q a:Int):Int×Int:=if (q.natAbs:Int)<2*((a_ a q).natAbs:Int) then (bg a q+1,a_ a q-q) else (bg a q,a_ a q)
theorem Rq (q)(G:0<b):bg q b=q/b/\a_ q b=q%b:=⟨eT q<|bX G,i7 q<|bX G⟩
theorem HZ {d:Int}(w:0<=c)(G:c<b):bg (c+b*d) b=d/\a_ (c+b*d) b=c:=by have T:=b7 w G;exact Q ((Rq _ T).1)<|Q ((Rq _ T).2)<|Q (Int.add_mul_ediv_left c d<|Int.ne_of_gt T)<|Q (Int.add_mul_emod_self_left ..)<|Q (Int.ediv_eq_zero_of_lt w G)<|Q (Int.emod_eq_of_lt w G) ⟨dA d,rfl⟩
theorem Mq {a d:Int}(G:0<b)(T:2*(a.natAbs:Int)<b):dig b (a+b*d)=(d,a):=by
 have e:=dP<|bX G
 delta dig;refine Q e ?_;rcases nA a 0 with h|h
 .have i:=fY<|bX h
  rw[i] at T
  clear i e;have s:a+b<b:=Nf h;refine Q (Q (fk ..)<|Q (gR ..) Ny  : a+b*d=(a+b)+b*(d-1))<|Q ((HZ (by omega) s).1)<|Q ((HZ (by omega) s).2)<|Q (dP<|by omega)<|ax (qm<|by omega)<|Q (gJ ..)<|Q (i8 ..) rfl
 .have i:=dP h;have s:a<b:=by rw[i] at T;exact b7 (aB (i5 h)<|bT (n9 a).symm) T
  refine Q ((HZ h s).1)<|Q ((HZ h s).2)<|Q (qn<|bP.mpr<|bX T) rfl
theorem Yd (q a):dig (-q) a=((dig q <| -a).1,-(dig q <| -a).2):=by
 delta dig;refine Q (by refine J (pB ..)<|Q (jh ..) rfl:a_ a (-q)=- a_ (-a) q)<|Q (by refine J (k8 ..)<|Q (jh ..) rfl:bg a (-q)=bg (-a) q)<|Q (cX ..)<|Q (cX ..) ?_
 split
 .exact Prod.ext rfl (by refine (Q (lz ..)<|Q (Int.sub_neg ..)<|Q (gp ..)<|ax oN rfl:- a_ (-a) q - -q=-(a_ (-a) q-q)))
 .rfl
theorem abC {q c d:Int}(G:2*(c.natAbs:Int)<(q.natAbs:Int)):dig q (c+q*d)=(d,c):=by
 rcases o7 q 0 with h|h|h
 .have e:=Yd (-q)<|c+q*d
  rw[jh,show -(c+q*d)=-c+-q*d by refine ax og<|Q (ji ..) rfl,Mq (ee h)<|Q (cX ..)<|J (fY<|bX h) G,jh] at e
  exact e
 .subst h;exact absurd G<|bP.mpr<|g6 (by decide)<|aC _
 .exact Mq h (by rw[dP<|bX h] at G;exact G)
noncomputable def xJ (q:Int):Nat->Int->List Int×Int
 |0=>@λa=>([],a)
 |NNq+1=>@λa=>let b:=xJ q NNq (dig q a).1;((dig q a).2::b.1,b.2)
noncomputable def tJ (q:Int):List Int->Int
 |[]=>0|c::l=>c+q*tJ q l
theorem DV {q:Int}:∀a:List Int,(∀c∈a,2*(c.natAbs:Int)<(q.natAbs:Int))->xJ q a.length (tJ q a)=(a,0)
 |[]=>@λJ=>rfl
 |c::a=>@λh=>by refine (Q (abC<|h c<|.head _)<|Q (DV a λd e=>h d<|.tail _ e) rfl:(let b:=xJ q a.length (dig q<|c+q*tJ q a).1;((dig q<|c+q*tJ q a).2::b.1,b.2))=_)
theorem L8 (A)(q):∀(NNq k:Nat),tJ q ((dn k NNq).map A)*q^k=val A q (k+NNq)-val A q k
 |0=>@λk=>by refine (Q (bA ..)<|Q (nx ..) rfl:0*q^k=val A q k-val A q k)
 |NNq+1=>@λk=>by
  refine Q (f9 ..)<|Q (bC ..) ?_
  show (A k+q*tJ q ((dn (k+1) NNq).map A))*q^k=_;have e:=L8 A q NNq<|k+1
  rw[show k+1+NNq=k+(NNq+1) by exact cm _ _,ej] at e
  rw[(rfl:val A q (k+1)=val A q k+A k*q^k)] at e
  rw[il,cu q,dH,cu q];exact NL e
theorem GY (A)(q)(U):tJ q ((aq U).map A)=val A q U:=by
 have:=L8 A q U 0;rw[bW,gm,gR] at this
 refine Q (dm ..)<|ax this ?_
 show _-0=_;exact nv _
theorem val_neg (A)(q):∀NNq,val (λh=>ev h*A h) (-q) NNq=val A q NNq
 |0=>rfl|NNq+1=>by
  refine (Q (val_neg A q NNq) ?_:val _ (-q) NNq+ev NNq*A NNq*(-q)^NNq=val A q NNq+A NNq*q^NNq);have:∀NNq,ev NNq*(-q)^NNq=q^NNq:=λNNq=>by
   induction NNq with
   |zero=>exact Q (gm ..)<|Q (gm ..) rfl
   |succ NNq e=>
    refine Q (ej ..)<|Q (ej ..)<|J e ?_
    show-ev NNq*((-q)^NNq*-q)=ev NNq*(-q)^NNq*q;generalize ev NNq=a;generalize (-q)^NNq=b
    grind
  refine Q (oQ ..) ?_;rw[this,cu]
noncomputable def chg:List Bool->Nat
 |a::G::l=>ne2 a G+chg (G::l)|_=>0
theorem MB:∀(l:List Bool)(T G:Bool),chg (l++[T,G])=chg (l++[T])+ne2 T G
 |[]=>@λT G=>(bz _ _:ne2 T G+0=0+ne2 T G)
 |[x]=>@λT G=>(rfl:ne2 x T+(ne2 T G+0)=ne2 x T+0+ne2 T G)
 |x::g::l=>@λT G=>(Q (MB (g::l) T G)<|(b_ _ _ _).symm:ne2 x g+chg (g::l++[T,G])=ne2 x g+chg (g::l++[T])+ne2 T G)
noncomputable def uy (a:List Int):List Bool:=(a.filter λx=>decide<|x≠0).map λx=>decide<|0<x
theorem Kw (A):∀(j:Nat)(T:Bool),chg (uy ((aq j).map A)++[T])=(uw A j T).1
 |0=>@λT=>rfl
 |j+1=>@λT=>by
  refine Q (fL ..)<|Q (bN ..) ?_
  show chg (uy ((aq j).map A++[A j])++[T])=_;refine Q (by delta uy;refine Q (iT ..)<|ax bN rfl:uy ((aq j).map A++[A j])=uy ((aq j).map A)++uy [A j]) ?_;show _=(if A j=0 then uw A j T else if decide (0<A j)=T then uw A j T else ((uw A j !T).1+1,(uw A j !T).2)).1
  by_cases e:A j=0
  .exact Q (qm e)<|Q (by delta uy;simp[e]:uy [A j]=[])<|Q (bh ..)<|Kw A j T
  .refine Q (qn e)<|Q (by delta uy;simp[e]:uy [A j]=[decide<|0<A j])<|Q (a9 ..) ?_
   show chg (_++[decide<|0<A j,T])=_;rw[MB,Kw A j]
   by_cases i:decide (0<A j)=T
   .refine Q (qm i)<|Q i ?_
    delta ne2;refine Q (qm rfl)<|Q (gZ ..) rfl
   .refine Q (qn i)<|Q (by cases T<;>cases n:decide (0<A j)<;>simp_all:decide (0<A j)=!T)<|Q (by cases T<;>rfl:ne2 (!T) T=1) rfl
theorem My {b:Nat->Int}{d:Nat->Nat->Int}(S:List Nat):chg (uy<|(aq<|S.length+1).map<|m b d S)=pos b d S:=by
 refine Q (fL ..)<|Q (bN ..) ?_
 show chg (uy<|(aq S.length).map (m b d S)++[m b d S S.length])=_;have e:uy ((aq S.length).map (m b d S)++[m b d S S.length])=uy ((aq S.length).map<|m b d S)++[true]:=by delta uy;exact Q (iT ..)<|ax bN<|Q (vX ..) rfl
 exact Q e<|Kw _ _ _
theorem Mz:∀c:List Bool,chg (c.map not)=chg c
 |[]=>rfl|[J]=>rfl
 |a::b::c=>by
  refine (Q (Mz<|b::c) ?_:ne2 (!a) (!b)+chg ((b::c).map not)=ne2 a b+chg (b::c))
  cases a<;>cases b<;>rfl
theorem Xi (a:List Int):uy (a.map λq=>- q)=(uy a).map not:=by
 induction a with
 |nil=>rfl|cons q a e=>
  unfold uy at *
  refine Q (bC ..)<|Q (dK ..)<|Q (dK ..) ?_
  by_cases i:q=0
  .simp[i];simpa using e
  .skip
   simp only[i,(by lia:- q≠0),ne_eq,not_false_eq_true,decide_true,if_true,bC];refine Q e ?_;congr 1
   by_cases G:0<q
   .skip
    exact Q (decide_eq_true G)<|Q (decide_eq_false<|by lia) rfl
   .skip
    exact Q (decide_eq_false G)<|Q (decide_eq_true<|ee<|fm.mpr ⟨bP.mp G,i⟩) rfl
theorem US {b:Nat->Int}{d:Nat->Nat->Int}{S:List Nat}(x:S.Nodup):chg (uy<|(aq<|S.length+1).map λc=>ev c*m b d S c)=pos (λi=>- b i) d S:=by
 refine J (My ..) ?_;have g:∀c,m (λi=>- b i) d S c=ev S.length*(ev c*m b d S c):=λc=>by
  rw[A2 b d _ S (ag _) x,<-dH];congr 1;generalize S.length=t
  induction t with
  |zero=>exact Q (bW ..)<|(dO _).symm
  |succ t ih=>refine Q (show t+1+c=t+c+1 by exact cm _ _)<|Q (Av ..)<|Q (Av ..)<|Q ih<|Q (ji ..) rfl
 refine Q (Q (bk ..)<|dC λc W=>g c:(aq<|S.length+1).map (m (λi=>- b i) d S)=((aq<|S.length+1).map λc=>ev c*m b d S c).map λa=>ev S.length*a) ?_;have n:ev S.length=1\/ev S.length=-1:=by
  generalize S.length=t
  induction t with
  |zero=>exact .inl rfl|succ t ih=>exact Q (Av ..)<|ih.symm.imp (qo ng)<|qo ng
 rcases n with h|h
 .refine Q h ?_;congr 2;exact (List.map_id'' (λa=>dO a) _).symm
 .skip
  refine Q (funext λa=>by refine Q h ?_;lia:(λa:Int=>ev S.length*a)=λa=>- a)<|Q (Xi ..)<|Q (Mz ..) rfl
theorem Cy {e f:Nat->Int}:∀{l:List Nat},(∀u∈l,e u<=f u)->qx e l<=qx f l
 |[]=>@λJ=>c7 _
 |u::l=>@λg=>er (g u<|.head _)<|Cy λh i=>g h<|.tail _ i
theorem Et {e:Nat->Int}{f:List Nat}{g:Nat}(h:g∈f):qx e f=e g+qx e (f.erase g):=BF<|nN h
section
variable {d:Nat->Int}{b:Nat->Nat->Int}(c:∀u v,b u v=b v u) (a:∀u v,0<=b u v)
include c a
theorem dom:∀(n:Nat)(S:List Nat),S.length<=n->S.Nodup->(∀u∈S,qx (b u) (S.erase u)<=- d u)->
  (∀T,0<=m d (λu v=>b u v*b u v) S T)/\∀v∈S,∀q:Int,0<=q->q+qx (b v) (S.erase v)<=- d v->∀T,q*m d (λu v=>b u v*b u v) (S.erase v) T<=m d (λu v=>b u v*b u v) S T
 |n,[],W,V,P=>⟨λT=>by refine Q (CH ..) ?_;split<;>decide,λv g=>nomatch g⟩
 |n+1,f::S,w,x,hd=>by
  have G:∀v∈f::S,∀q:Int,0<=q->q+qx (b v) ((f::S).erase v)<=- d v->∀T,q*m d (λu v=>b u v*b u v) ((f::S).erase v) T<=m d (λu v=>b u v*b u v) (f::S) T:=λv g q i h T=>by
   have p:∀u∈(f::S).erase v,b v u+qx (b u) (((f::S).erase v).erase u)<=- d u:=λu H=>by
    have:=hd u<|eR H
    rw[Et<|(List.mem_erase_of_ne<|fK λe=>(List.Nodup.not_mem_erase x)<|e▸H).mpr g,lx,c u v] at this
    exact this
   have ih:=dom n ((f::S).erase v) (OX g w) (x.erase v) λu H=>by have:=p u H;have:=a v u;lia
   refine Q (Oz (λu v=>by refine Q (c u v) rfl) x g T) ?_;have I:qx (λu=>b v u*b v u*m d (λu v=>b u v*b u v) (((f::S).erase v).erase u) T) ((f::S).erase v)<=qx (b v) ((f::S).erase v)*m d (λu v=>b u v*b u v) ((f::S).erase v) T:=by
    refine Q (cu ..)<|J (r8 ..)<|Cy λu H=>?_
    rw[dH,cu<|m d _ _ T];exact br (ih.2 u H (b v u) (a v u) (p u H) T)<|a v u
   have U:0<=sh (m d (λu v=>b u v*b u v)<|(f::S).erase v) T:=by
    cases T with
    |zero=>exact c7 _|succ T=>exact ih.1 T
   have j:(q+qx (b v) ((f::S).erase v))*m d (λu v=>b u v*b u v) ((f::S).erase v) T<=- d v*m d (λu v=>b u v*b u v) ((f::S).erase v) T:=fE h<|ih.1 T
   rw[il,ji] at j
   exact M' I U j
  refine ⟨λT=>?_,G⟩;have:=G f (.head _) 0 (c7 _) (Q (dA ..)<|hd f<|.head _) T;rw[bA] at this;exact this
end
theorem na3 (q a d:Int):((q-a-d).natAbs:Int)<=(q.natAbs:Int)+a.natAbs+d.natAbs:=bB.mpr<|aa (dW (q-a) d)<|a8 (dW q a) _
theorem ID (b:Nat->Int):∀a:List Nat,((qx b a).natAbs:Int)<=qx (λu=>((b u).natAbs:Int)) a
 |[]=>c7 _|u::a=>aB (bB.mpr<|dX _ _)<|fC (ID b a) _
theorem MI (q a:Int):((q*a).natAbs:Int)=(q.natAbs:Int)*(a.natAbs:Int):=Q (iZ ..)<|fe ..
theorem C2 {b:Nat->Int}(e:∀c,0<=b c)(c)(a:List Nat):qx b (a.erase c)<=qx b a:=by
 by_cases d:c∈a
 .exact Q (Et d)<|jb<|e c
 .exact Q (List.erase_of_not_mem d)<|c7 _
section
variable {w:Nat->Nat->Int}(e:∀u v,0<=w u v) {QQq:Int}(g:1<=QQq)
include e g
theorem WA:∀(n:Nat)(S:List Nat),S.length<=n->(∀v,v∈S->1+((d v).natAbs:Int)+qx (w v) S<=QQq)->∀T,((m d w S T).natAbs:Int)<=QQq^S.length
 |n,[],W,V,T=>by refine Q (CH ..)<|Q (gm QQq) ?_;split<;>decide
 |n+1,v::S,i,hd,T=>by
  have i:=aJ i;have hd1:∀u,u∈S->1+((d u).natAbs:Int)+qx (w u) S<=QQq:=λu c=>aB (fC (jb<|e u v) _)<|hd u<|.tail _ c
  have f:0<=QQq^S.length:=bX<|oa<|by assumption
  have a:∀u∈S,((m d w (S.erase u) T).natAbs:Int)<=QQq^S.length:=λu c=>by
   have h:=WA n (S.erase u) (aa (bH ..) i) (λb H=>aB (fC (C2 (e b) u S) _)<|hd1 b<|eR H) T;rw[eh c] at h
   have G:QQq^(S.length-1)*1<=QQq^(S.length-1)*QQq:=br g<|bX<|oa<|by assumption
   rw[gR] at G
   exact Q (J (ej ..)<|qo _ (aH<|eG c).symm:QQq^S.length=QQq^(S.length-1)*QQq)<|aB h G
  have U:((sh (m d w S) T).natAbs:Int)<=QQq^S.length:=by
   cases T with
   |zero=>exact f|succ T=>exact (WA n S i hd1) T
  have j:((qx (λu=>w v u*m d w (S.erase u) T) S).natAbs:Int)<=qx (w v) S*QQq^S.length:=by
   refine aB (ID _ S)<|Q (cu ..)<|J (r8 ..)<|Cy λu c=>?_
   rw[MI,cu<|QQq^S.length];exact Q (dP<|e v u)<|br (a u c)<|e v u
  have y:(1+((d v).natAbs:Int)+qx (w v) S)*QQq^S.length<=QQq*QQq^S.length:=fE (aB (fC (jb<|e v v) _)<|hd v<|.head _) f;rw[il,il,dO] at y
  exact Q (tn ..)<|Q (aV ..)<|Q (ej ..)<|Q (cu _ QQq)<|aB (na3 _ _ _)<|aB (er (er U (Q (MI ..)<|br ((WA n S i hd1) T)<|aC _)) j) y
end
def E (b:Nat->Int)(d:Nat->Nat->Int)(a:List Nat):Int:=en b d a.length a
theorem WT (b:Nat->Int)(d:Nat->Nat->Int)(a):E b d a=val (m (λc=>- b c) d a) 0 (a.length+1):=Q (En _ _ _ a.length a<|ag _)<|Q (funext λc=>by lia:(λc=>0 - - b c)=b) rfl
theorem Cn (b:Nat->Int)(d:Nat->Nat->Int)(c)(a):E b d (c::a)=b c*E b d a-qx (λh=>d c h*E b d (a.erase h)) a:=by show b c*en b d a.length a-qx (λh=>d c h*en b d a.length (a.erase h)) a=_;congr 1;exact qQ λh J=>Q (F6 b d a.length (a.erase h).length (a.erase h) (bH ..)<|ag _) rfl
theorem Sd {b:Nat->Int}{d:Nat->Nat->Int}(g:∀c h,d c h=d h c){a:List Nat}(x:a.Nodup)(U:a.Perm T):E b d a=E b d T:=Q (WT ..)<|Q (WT ..)<|Q U.length_eq<|val_congr (zc g a.length (ag _) U x) 0 _
theorem Cm (b:Nat->Int){d g:Nat->Nat->Int}:∀(n:Nat)(S:List Nat),S.length<=n->(∀h∈S,∀t∈S,d h t=g h t)->E b d S=E b g S
 |J,[],W,V=>rfl|n+1,t::S,w,o=>by
  have w:=aJ w;refine Q (Cn ..)<|Q (Cn ..)<|Q (Cm b n S w λT a z G=>o T (.tail _ a) z<|.tail _ G) ?_
  congr 1;exact qQ λh U=>by refine Q (o t (.head _) h<|.tail _ U)<|Q (Cm b n (S.erase h) (aa (bH ..) w) λT a z G=>o T (.tail _<|eR a) z<|.tail _<|eR G) rfl
theorem acK {b:Nat->Int}{d g:Nat->Nat->Int}(n:∀c h,d c h=d h c)(H:∀c h,g c h=g h c)(x:(t::U::T).Nodup)(a:∀z A,¬(z=t/\A=U)->¬(z=U/\A=t)->g z A=d z A):E b g (t::U::T)=E b d (t::U::T)-(g t U-d t U)*E b d T:=by
 have u:=bI.mp x;have G:∀{f:List Nat},t∉f->E b g f=E b d f:=λ{f} I=>Cm b f.length f (ag _) λz i A L=>a z A (λj=>I<|J j.1 i) λj=>I<|J j.2 L
 rw[Cn b g t,Cn b d t,G u.1];show _-(g t U*E b g ((U::T).erase U)+qx (λz=>g t z*E b g ((U::T).erase z)) T)=_-(d t U*E b d ((U::T).erase U)+qx (λz=>d t z*E b d ((U::T).erase z)) T)-_;have e:qx (λz=>g t z*E b g ((U::T).erase z)) T=qx (λz=>d t z*E b d ((U::T).erase z)) T:=qQ λz i=>by refine Q (a t z (λj=>(λj=>(bI.mp u.2).1<|J j i:z≠U) j.2) λj=>u.1<|Q j.1<|.head _)<|Q (G λk=>u.1<|eR k) rfl
 refine Q e<|Q (cS ..)<|Q (G λk=>u.1<|.tail _ k)<|Q (eK ..) ?_
 lia
noncomputable def rest (a f:List Nat):List Nat:=a.filter λc=>!f.contains c
theorem u9 {a f:List Nat}:v∈rest a f↔v∈a/\v∉f:=by delta rest;rw[du];simp
theorem yy {a f:List Nat}(x:a.Nodup):(rest a f).Nodup:=x.filter _
noncomputable def u_ (b:Nat->Int):List Nat->Int
 |[]=>1|v::l=>b v*u_ b l
theorem Sf (b:Nat->Int):∀a:List Nat,E b (λJ J=>0) a=u_ b a
 |[]=>rfl|v::a=>Q (Cn ..)<|Q (Sf b a)<|Q ((qQ λh J=>bA _).trans<|s9 a)<|Q (nv ..) rfl
noncomputable def Bl (b:Nat->Int)(d:Nat->Nat):List Nat->Nat->Nat->Int
 |[]=>@λJ J=>0
 |k::a=>@λh t=>if (h=k/\t=d k)\/(h=d k/\t=k) then b k*b k else Bl b d a h t
theorem yD (b:Nat->Int)(d:Nat->Nat):∀(a:List Nat)(c i:Nat),Bl b d a c i=Bl b d a i c
 |[]=>@λJ J=>rfl
 |k::a=>@λc i=>by
  show (if _ then _ else _)=if _ then _ else _
  refine Q (yD b d a c i) ?_
  by_cases h:(c=k/\i=d k)\/(c=d k/\i=k)
  .refine Q (qm h)<|Q (qm<|h.symm.imp oo oo) rfl
  .refine Q (qn h)<|Q (qn λz=>h<|z.symm.imp oo oo) rfl
theorem Ig (e:Nat->Int)(d:Nat->Nat):∀(f:List Nat),c∉f->(∀x∈f,d x<x)->d c<c->Bl e d f c (d c)=0
 |[]=>@λJ J J=>rfl
 |x::f=>@λG g H=>by
  show (if _ then _ else _)=_;rw[qn,Ig e d f (λh=>G<|.tail _ h) (λt I=>g t<|.tail _ I) H];rintro (⟨a,_⟩|⟨a,b⟩)
  .exact G<|Q a<|.head _
  .exact kA H<|av (aK a)<|ai (g x<|.head _)<|aK b.symm
noncomputable def Gy (b d:Nat->Int)(g:Nat->Nat)(a:List Nat):List Nat->List Nat->Int
 |[]=>@λf=>u_ b<|rest a f
 |k::j=>@λf=>Gy b d g a j f+if k∈f\/g k∈f then 0 else-(d k*d k)*Gy b d g a j (k::g k::f)
theorem I_ {q ti:Nat->Int}{g:Nat->Nat}{a:List Nat}(x:a.Nodup):∀(f j:List Nat),f.Nodup->(∀c∈f,g c<c/\c∈a/\g c∈a)->Gy q ti g a f j=E q (Bl ti g f) (rest a j)
 |[]=>@λj J J=>(Sf q _).symm
 |k::f=>@λj U G=>by
  have U:=bI.mp U;have t:=G k<|.head _
  have p:∀c∈f,g c<c/\c∈a/\g c∈a:=λc b=>G c<|.tail _ b
  refine (Q (I_ x f j U.2 p) ?_:Gy q ti g a f j+(if k∈j\/g k∈j then 0 else-(ti k*ti k)*Gy q ti g a f (k::g k::j))=_)
  by_cases s:k∈j\/g k∈j
  .refine Q (qm s)<|Q (dJ ..)<|Cm q (rest a j).length _ (ag _) λu H T d=>((λu T h o=>qn λz=>z.elim h o) u T (λe=>?_) λe=>?_).symm
   .have H:=(u9.mp H).2;have d:=(u9.mp d).2;exact s.elim (λz=>H<|e.1▸z) λz=>d<|e.2▸z
   .have H:=(u9.mp H).2;have d:=(u9.mp d).2;exact s.elim (λz=>d<|e.2▸z) λz=>H<|e.1▸z
  .refine Q (qn s)<|Q (I_ x f (k::g k::j) U.2 p) ?_
   have L:(k::g k::rest a (k::g k::j)).Nodup:=bI.mpr ⟨λz=>by
    rcases aE.mp z with z|z
    .lia
    .exact (u9.mp z).2<|.head _,bI.mpr ⟨λz=>(u9.mp z).2<|.tail _<|.head _,yy x⟩⟩
   have v:(rest a j).Perm<|k::g k::rest a (k::g k::j):=(lL (yy x) L).mpr λT=>by
    rw[u9,aE,aE,u9,aE,aE];constructor
    .rintro ⟨h,o⟩
     by_cases i:T=k
     .exact .inl i
     .by_cases n:T=g k
      .exact .inr<|.inl n
      .exact .inr<|.inr ⟨h,λz=>z.elim i λz=>z.elim n o⟩
    .rintro (rfl|rfl|⟨h,o⟩)
     .exact ⟨t.2.1,λz=>s<|.inl z⟩
     .exact ⟨t.2.2,λz=>s<|.inr z⟩
     .exact ⟨h,λz=>o<|.inr<|.inr z⟩
   refine Q (Sd (yD ti g f) (yy x) v)<|Q (Sd (yD ti g<|k::f) (yy x) v)<|Q (acK (yD ti g f) (yD ti g<|k::f) L λu T h o=>qn λz=>z.elim h o)<|Q (Ig ti g f U.1 (λc b=>(p c b).1) t.1) ?_
   have:Bl ti g (k::f) k (g k)=ti k*ti k:=qm<|.inl ⟨rfl,rfl⟩
   exact Q this<|Q (nv ..)<|Q (ji ..) rfl
noncomputable def sm (b:Nat->Int):Nat->Int
 |0=>0|n+1=>sm b n+b n
theorem xD {b e:Nat->Int}:∀{n:Nat},(∀h,h<n->b h=e h)->sm b n=sm e n
 |0=>@λJ=>rfl
 |n+1=>@λg=>by refine (Q (xD λh G=>g h<|dT G)<|Q (g n<|bY n) rfl:sm b n+b n=sm e n+e n)
theorem P7 (c:Nat->Int)(a):∀b,sm c (a+b)=sm c a+sm (λt=>c<|a+t) b
 |0=>by refine (?_:sm c a=sm c a+0);lia
 |b+1=>(Q (P7 c a b)<|jn _ _ _:sm c (a+b)+c (a+b)=sm c a+(sm (λt=>c<|a+t) b+c (a+b)))
theorem P4 (s)(b:Nat->Int):∀n,sm (λh=>s*b h) n=s*sm b n
 |0=>(bE s).symm|n+1=>by refine (Q (P4 s b n)<|Q (fG ..) rfl:sm (λh=>s*b h) n+s*b n=s*(sm b n+b n))
theorem LG:∀n,sm (λJ=>0) n=0
 |0=>rfl|n+1=>by show sm (λJ=>0) n+0=0;exact Q (LG n) rfl
noncomputable def bits (c:Nat):Nat->List Nat->List Nat
 |J,[]=>[]
 |k,t::l=>if c/2^k%2=1 then t::bits c (k+1) l else bits c (k+1) l
theorem D5 (c)(h):∀(l:List Nat)(k:Nat),bits c k (l++[h])=bits c k l++if c/2^(k+l.length)%2=1 then [h] else []
 |[]=>@λk=>rfl
 |x::l=>@λk=>by
  refine (Q (D5 c h l<|k+1)<|Q (show k+1+l.length=k+(x::l).length from Q (aV ..) (cm _ _)) ?_:(if c/2^k%2=1 then x::bits c (k+1) (l++[h]) else bits c (k+1) (l++[h]))=(if c/2^k%2=1 then x::bits c (k+1) l else bits c (k+1) l)++_)
  by_cases i:c/2^k%2=1
  .exact Q (qm i)<|Q (qm i) rfl
  .refine Q (qn i)<|Q (qn i) rfl
theorem Hd (c h):∀(l:List Nat)(t:Nat),t+l.length<=h->bits (2^h+c) t l=bits c t l
 |[]=>@λW W=>rfl
 |e::l=>@λt w=>by
  replace w:=aV▸w;show (if _ then _ else _)=if _ then _ else _
  have f:(2^h+c)/2^t%2=c/2^t%2:=by
   have i:2^h=2^t*(2*2^(h-t-1)):=by refine J (fR ..)<|J (iJ ..)<|J (cJ ..)<|Q (Nat.sub_sub ..)<|Q (cM<|aa (aP (cb<|dZ _) t) w) rfl
   refine Q i<|Q (bz ..)<|Q (n7 _ _<|bx t)<|Q (mm ..) rfl
  refine Q f<|Q (Hd c h l (t+1)<|aa (aK<|cD ..) w) rfl
theorem Gz (b:Nat->Int)(c):∀a,u_ b (a++[c])=u_ b a*b c
 |[]=>(cu _ _:b c*1=1*b c)
 |x::a=>by refine (Q (Gz b c a)<|Q (dH ..) rfl:b x*u_ b (a++[c])=b x*u_ b a*b c)
section
variable (q d:Nat->Int) (pa:Nat->Nat) (S:List Nat)
noncomputable def tk (U:List Nat):List Nat:=U++U.map pa
def yQ (U j:List Nat):Int:=if (tk pa U).Nodup/\∀c∈tk pa U,c∉j then u_ (λt=>- (d t*d t)) U*u_ q (rest S<|tk pa U++j) else 0
theorem Ob {f:List Nat}(h:∀c,c∈f↔c∈R'):rest S f=rest S R':=by
 refine km λc J=>?_
 congr 1;exact pD.mpr<|(dF.trans<|h c).trans dF.symm
variable {pa}
theorem BC {U:List Nat}:v∈tk pa (U++[e])↔v∈tk pa U\/v=e\/v=pa e:=by delta tk;simp only[bN,bQ,bC,jD,aN];constructor<;>intro n<;>grind
theorem Iy {M:List Nat}(c:pa e≠e):(tk pa<|M++[e]).Nodup↔(tk pa M).Nodup/\e∉tk pa M/\pa e∉tk pa M:=by
 have T:(tk pa<|M++[e]).Perm<|e::pa e::tk pa M:=by delta tk;exact Q (bN ..)<|Q (a9 ..)<|(List.perm_middle (l₂:=M.map pa++[e].map pa)).trans<|List.Perm.cons e<|J (a9 ..)<|List.perm_append_comm
 rw[T.nodup_iff,bI,bI,aE];constructor
 .intro t;exact qN t λG a x=>rj x (λb=>G<|.inr b) a
 .intro j;exact qN j λG a x=>rj (λb=>b.elim (λb=>c b.symm) a) x G
theorem W6 {U j:List Nat}(e:pa c≠c):yQ q d pa S (U++[c]) j=if c∈j\/pa c∈j then 0 else-(d c*d c)*yQ q d pa S U (c::pa c::j):=by
 delta yQ
 by_cases n:c∈j\/pa c∈j
 .rw[qm n,qn];rintro ⟨_,b⟩;exact n.elim (b c<|BC.mpr<|.inr<|.inl rfl)<|b (pa c)<|BC.mpr<|.inr<|.inr rfl
 .rw[qn n]
  by_cases k:(tk pa U).Nodup/\∀h∈tk pa U,h∉c::pa c::j
  .rw[qm k,qm,Gz,Ob S]
   .generalize u_ q _=t;generalize u_ _ U=b;generalize d c*d c=x
    grind
   .intro h;rw[bQ,bQ,BC,aE,aE]
    grind
   .refine ⟨(Iy e).mpr ⟨k.1,λa=>k.2 c a<|.head _,λa=>k.2 _ a<|.tail _<|.head _⟩,λh G=>?_⟩;rcases BC.mp G with a|rfl|rfl
    .exact λw=>k.2 h a<|.tail _<|.tail _ w
    .exact λw=>n<|.inl w
    .exact λw=>n<|.inr w
  .rw[qn k,qn,bE];rintro ⟨t,b⟩;refine qN ((Iy e).mp t) λx u H=>k ⟨x,λh G w=>?_⟩
   rcases aE.mp w with rfl|w
   .exact u G
   .rcases aE.mp w with rfl|w
    .exact H G
    .exact b h (BC.mpr<|.inl G) w
theorem Bz:∀(es:List Nat),(∀e∈es,pa e≠e)->∀j,sm (λh=>yQ q d pa S (bits h 0 es.reverse) j) (2^es.length)=Gy q d pa S es j
 |[]=>@λW j=>by refine (?_:(0:Int)+yQ q d pa S [] j=u_ q (rest S j));delta yQ;refine Q (qm ⟨lM,λt a=>nomatch a⟩) ?_;show 0+1*u_ q (rest S j)=_;lia
 |e::es=>@λhe j=>by
  refine (?_:_=Gy q d pa S es j+if e∈j\/pa e∈j then 0 else-(d e*d e)*Gy q d pa S es (e::pa e::j));refine Q (aV ..)<|Q (iJ ..)<|Q (jU ..)<|Q (P7 ..)<|J (Bz es (λu G=>he u<|.tail _ G) j)<|J (Bz es (λu G=>he u<|.tail _ G)<|e::pa e::j)<|Q (dR ..) ?_
  congr 1
  .refine xD λh H=>Q (D5 ..)<|Q (bW ..)<|Q (cw ..)<|Q (jw H)<|Q (qn<|by decide)<|Q (bh ..) rfl
  .have I:∀z,z<2^es.length->yQ q d pa S (bits (2^es.length+z) 0<|es.reverse++[e]) j=yQ q d pa S (bits z 0 es.reverse++[e]) j:=λz T=>by
    refine Q (D5 ..)<|Q (Hd z es.length es.reverse 0<|by refine Q (cw ..) ?_;lia)<|Q (bW ..)<|Q (cw ..)<|Q (Nat.add_div_left _<|bx _)<|Q (jw T)<|Q (qm rfl) rfl
   refine Q (xD I)<|ax (xD λz W=>W6 q d S<|he e<|.head _) ?_
   by_cases a:e∈j\/pa e∈j
   .exact Q (qm a)<|Q (xD λz W=>qm a)<|LG _
   .refine Q (qn a)<|Q (xD λz W=>qn a)<|Q (P4 ..) rfl
end
structure xw (n:Nat) (i c g:Nat->Int):Prop where
 n5:n<=5
 o3:∀k,k<n->((i k).natAbs:Int)<=3
 C1:∀k,0<=g k/\g k<=3
 ti0:g 0=0
 ab0:c 0=-1
 WN:∀k,0<k->k<n->0<=c k/\c k<k
noncomputable def pa (U:Nat->Int)(d:Nat):Nat:=(U d).toNat
def uC (U:Nat->Int)(d h:Nat):List Nat:=(sl h d).filter λt=>decide<|(h:Int)<=U t
def u4 (L I H:Nat->Int)(d h:Nat)(q:Int):Int:=sm (λt=>yQ (λU=>q-L U) H (pa I) (sl h d) (bits t 0<|uC I d h) [])<|2^(uC I d h).length
section
variable {i c g:Nat->Int}(T:xw n i c g)
include T
theorem xw.fth:Hk c n:=λj G t e=>by
 rcases eQ j with rfl|h
 .rw[T.ab0] at e;exact absurd (aC t) (e▸by decide)
 .exact bo.mp<|e▸(T.WN j h G).2
theorem xw.hti:∀h,h<n->g h≠0->∃t:Nat,c h=(t:Int):=λh G d=>by
 rcases eQ h with rfl|h0
 .exact absurd T.ti0 d
 .exact ⟨(c h).toNat,(cj (T.WN h h0 G).1).symm⟩
theorem yL (a:t∈uC c n h):h<=t/\t<n/\(h:Int)<=c t/\(pa c t:Int)=c t/\pa c t<t:=by
 have a:=du.mp a;have w:(h:Int)<=c t:=of_decide_eq_true a.2;have G:0<t:=by
  rcases eQ t with rfl|h0
  .rw[T.ab0] at w;exact absurd (aB (aC h) w) (by decide)
  .exact h0
 have u:=T.WN t G (rI.mp a.1).2;exact Ef (rI.mp a.1).1 (rI.mp a.1).2 w (cj u.1)<|(iN u.1).mpr u.2
theorem Pw {f:Nat}(G:u<v):∀b:List Nat,(∀k∈b,pa c k<k)->Bl g (pa c) b u v=if v∈b/\pa c v=u then g v*g v else 0
 |[]=>@λJ=>Q (qn λe=>nomatch e.1) rfl
 |k::b=>@λe=>by
  have U:=e k<|.head _
  refine (Q (Pw (f:=f) G b λd h=>e d<|.tail _ h) ?_:(if (u=k/\v=pa c k)\/(u=pa c k/\v=k) then g k*g k else Bl g (pa c) b u v)=_)
  by_cases t:u=pa c k/\v=k
  .refine Q (qm<|.inr t)<|Q (qm ⟨Q t.2<|.head _,Q t.2 t.1.symm⟩)<|Q t.2 rfl
  .rw[qn λo=>o.elim (λa=>kA U<|av (aK a.1.symm)<|ai G<|aK a.2) λo=>t o]
   by_cases L:v∈b/\pa c v=u
   .refine Q (qm L)<|Q (qm ⟨.tail _ L.1,L.2⟩) rfl
   .refine Q (qn L) ?_;rw[qn];rintro ⟨a,j⟩;rcases aE.mp a with rfl|a
    .exact t ⟨j.symm,rfl⟩
    .exact L ⟨a,j⟩
theorem Zb (d:t∈sl j n)(G:U∈sl j n):Bl g (pa c) (uC c n j).reverse t U=wt c g t U:=by
 have key:∀{t U:Nat},t∈sl j n->U∈sl j n->t<U->Bl g (pa c) (uC c n j).reverse t U=wt c g t U:=λ{t U} d G h=>by
  refine ax (Pw T (f:=j) h _ λA f=>(yL T<|dy.mp f).2.2.2.2) ?_;delta wt;have e:(U∈(uC c n j).reverse/\pa c U=t)↔(t<U/\c U=(t:Int)):=by
   constructor
   .rintro ⟨b,k⟩;have:=yL T<|dy.mp b
    exact ⟨h,by lia⟩
   .rintro ⟨b,k⟩;have L:=rI.mp d;refine ⟨dy.mpr<|du.mpr ⟨G,decide_eq_true<|by lia⟩,?_⟩;delta pa;exact qo _ k
  by_cases s:t<U/\c U=(t:Int)
  .refine Q (qm<|e.mpr s)<|Q (qm s) rfl
  .refine Q (qn λz=>s<|e.mp z)<|Q (qn s)<|Q (qn λz=>by lia) rfl
 rcases ky t U with h|rfl|h
 .exact key d G h
 .skip
  refine Q (by delta wt;refine Q (qn λz=>by lia)<|Q (qn λz=>by lia) rfl:wt c g t t=0) ?_;have:∀a:List Nat,(∀A∈a,pa c A<A)->Bl g (pa c) a t t=0:=λa=>by
   induction a with
   |nil=>exact λJ=>rfl
   |cons A a ih=>
    intro h;have f:=h A<|.head _
    exact (Q (qn<|by rintro (z|z)<;>lia)<|ih λu o=>h u<|.tail _ o:(if (t=A/\t=pa c A)\/(t=pa c A/\t=A) then g A*g A else Bl g (pa c) a t t)=0)
  exact this _ λA f=>(yL T<|dy.mp f).2.2.2.2
 .exact Q (yD ..)<|Q (Ei ..)<|key G d h
theorem Ls (h)(s a):u4 i c g n h s=val (m (λt=>i t-a) (wt c g)<|sl h n) (s-a) ((sl h n).length+1):=by
 have e:=Bz (λt=>s-i t) g (sl h n) (uC c n h).reverse (λz d=>cy (yL T<|dy.mp d).2.2.2.2) [];rw[nM,cw] at e
 have j:=I_ (q:=λt=>s-i t) (ti:=g) (uF h n) (uC c n h).reverse [] ((List.reverse_perm _).nodup_iff.mpr<|(uF h n).filter _) λa G=>by
  have:=yL T<|dy.mp G
  exact ⟨this.2.2.2.2,rI.mpr ⟨this.1,this.2.1⟩,rI.mpr ⟨bB.mp<|Q this.2.2.2.1 this.2.2.1,eH this.2.2.2.2 this.2.1⟩⟩
 rw[(by exact List.filter_eq_self.mpr λJ J=>rfl:rest (sl h n) []=sl h n)] at j
 refine (?_:sm _ _=_);refine Q e<|Q j<|ax (Cm (λt=>s-i t) (sl h n).length (sl h n) (ag _) λH U t b=>Zb T U b)<|Q (En _ _ _ _ _<|ag _) ?_
 delta E;refine Q (funext λt=>by lia:(λt=>s-i t)=λt=>s-a-(i t-a)) rfl
theorem F8 (h)(q)(t):((m (λe=>i e-q) (wt c g) (sl h n) t).natAbs:Int)<=(49+(q.natAbs:Int))^5:=by
 have w:(sl h n).length<=5:=by delta sl;refine Q (ed ..) ?_;have:=T.n5;exact aa (c8 _ _) this
 have o:∀z e,wt c g z e<=9:=λz e=>by
  have H:∀A,g A*g A<=9:=λA=>by have u:=T.C1 A;have:=br u.2 u.1;exact NH u this
  delta wt
  split
  .exact H e
  .split
   .exact H z
   .decide
 have a:∀(z:Nat)(f:List Nat),qx (wt c g z) f<=9*(f.length:Int):=λz f=>by
  induction f with
  |nil=>exact c7 0|cons e f b=>
   refine (?_:wt c g z e+qx (wt c g z) f<=9*((f.length+1:Nat):Int));have:=o z e;exact NA b this
 have u:=WA (d:=λe=>i e-q) (λz e=>Vr c g z e) (QQq:=49+(q.natAbs:Int)) (by lia) (sl h n).length (sl h n) (ag _) (λe j=>by
  have k:=T.o3 e (rI.mp j).2;have G:=a e<|sl h n
  have U:((i e-q).natAbs:Int)<=((i e).natAbs:Int)+(q.natAbs:Int):=bB.mpr<|dW _ _
  exact aB (er (fC (aB U<|ip k _) 1)<|aB G<|br (bB.mpr w)<|by decide)<|bT<|by clear a o k G U w;generalize (q.natAbs:Int)=X;lia) t
 refine aB u ?_;have:∀A:Nat,(49+(q.natAbs:Int))^(sl h n).length<=(49+(q.natAbs:Int))^((sl h n).length+A):=λA=>by
  induction A with
  |zero=>exact c7 _|succ A b=>
   refine J (b_ ..)<|Q (ej ..) ?_
   have:=br (show (1:Int)<=49+(q.natAbs:Int) by lia) (bX<|oa<|by lia:0<=(49+(q.natAbs:Int))^((sl h n).length+A));exact NM b this
 have p:=this<|5-(sl h n).length
 rwa [show (sl h n).length+(5-(sl h n).length)=5 by exact cM w] at p
end
def co (b d g:Nat->Int)(c h:Nat)(q:Int):List Int:=(aq<|(sl h c).length+1).map<|m (λt=>b t-q) (wt d g)<|sl h c
def cn (b d g:Nat->Int)(c h:Nat)(q:Int):List Int:=(aq<|(sl h c).length+1).map λt=>ev t*m (λU=>b U-q) (wt d g) (sl h c) t
theorem Uy:∀j,ev j=1\/ev j=-1
 |0=>.inl rfl|j+1=>Q (Av ..)<|(Uy j).symm.imp (qo ng)<|qo ng
theorem L6:∀(y:Nat)(a:List Bool),(aw y true++false::a).idxOf false=y
 |0=>@λa=>List.idxOf_cons_self
 |y+1=>@λa=>Q (eE ..)<|Q (kM ..)<|ax List.idxOf_cons<|Q (L6 y a) rfl
theorem yS (c h):(sl c h).length=h-c:=by delta sl;refine ax ed rfl
section
theorem B9 (h)(q):(co own ab ti n h q).length=n-h+1:=by delta co;refine Q (ao ..)<|Q (aS ..)<|Q (yS ..) rfl
theorem RE (h)(q):(cn own ab ti n h q).length=n-h+1:=by delta cn;refine Q (ao ..)<|Q (aS ..)<|Q (yS ..) rfl
theorem Mv (h)(q):(co own ab ti n h q)[n-h]?=Y 1:=by
 delta co;refine J (yS h n)<|Q aZ<|Q (fz<|bY _) ?_
 show Y (m _ _ _ _)=_;refine Q (vX ..) rfl
theorem Yi (i)(q):∃a,(cn own ab ti n i q)[n-i]?=Y a/\a^2=1:=by
 delta cn;refine J (yS i n)<|Q aZ<|Q (fz<|bY _) ?_
 refine qr _ rfl ?_;show (ev _*m _ _ _ _)^2=1;refine Q (vX ..)<|Q (gR ..) ?_
 rcases Uy (sl i n).length with h|h<;>refine Q h ?_<;>rfl
variable (T:xw n own ab ti)
include T
theorem Cq (h)(q a):u4 own ab ti n h q=tJ (q-a) (co own ab ti n h a):=ax (Ls T h q a)<|(GY _ _ _).symm
theorem WY (h)(q a):u4 own ab ti n h q=tJ (a-q) (cn own ab ti n h a):=Q (Ls T h q a)<|J (val_neg ..)<|Q (show -(q-a)=a-q by exact lz _ _)<|(GY _ _ _).symm
theorem H4 (h)(q):∀a∈co own ab ti n h q,(a.natAbs:Int)<=(49+(q.natAbs:Int))^5:=λa b=>by
 refine qt (bZ.mp b) λz W e=>J e ?_;clear e
 exact F8 T h q z
theorem aeO (i)(q):∀a∈cn own ab ti n i q,(a.natAbs:Int)<=(49+(q.natAbs:Int))^5:=λa b=>by
 refine qt (bZ.mp b) λU W e=>J e ?_;clear e
 rcases Uy U with h|h<;>refine Q h ?_
 .exact Q (dO ..)<|F8 T i q U
 .exact Q (show -1*m (λt=>own t-q) (wt ab ti) (sl i n) U=- m (λt=>own t-q) (wt ab ti) (sl i n) U by exact NN )<|Q (cX ..)<|F8 T i q U
theorem abp (h){a:Int}(G:2*(49+(a.natAbs:Int))^5<((U-a).natAbs:Int)):xJ (U-a) (n-h+1) (u4 own ab ti n h U)=(co own ab ti n h a,0):=Q (Cq T h U a)<|J (B9 h a)<|DV _ λd b=>b7 (br (H4 T h a d b)<|by decide) G
theorem abq (h){x:Int}(G:2*(49+(x.natAbs:Int))^5<((U-x).natAbs:Int)):xJ (x-U) (n-h+1) (u4 own ab ti n h U)=(cn own ab ti n h x,0):=Q (WY T h U x)<|J (RE h x)<|DV _ λd a=>b7 (br (aeO T h x d a)<|by decide)<|J (cX<|x-U)<|Q (lz ..) G
omit T in
theorem abP (h)(q):chg (uy<|co own ab ti n h q)=pos (λt=>own t-q) (wt ab ti) (sl h n):=My _
omit T in
theorem abQ (h)(q):chg (uy<|cn own ab ti n h q)=pos (λt=>- (own t-q)) (wt ab ti) (sl h n):=US<|uF h n
omit T in
theorem aau (x:sd f y)(s:sd f z):y=z:=by
 rcases ky y z with q|q|q
 .exact absurd (s.2 y q) x.1
 .exact q
 .exact absurd (x.2 z q) s.1
omit T in
theorem XJ (x:sd (m (λU=>own U-q) (wt ab ti)<|sl h n) t):t<=n-h/\((co own ab ti n h q).map λc=>decide<|c=0).idxOf false=t:=by
 refine qt (w4<|sl h n) λz w h2=>J (aau h2 x) ?_
 rw[yS] at w
 refine ⟨w,?_⟩;obtain ⟨v,e⟩:∃v,n-h=z+v:=⟨_,(cM w).symm⟩;have i:(co own ab ti n h q).map (λc=>decide<|c=0)=(aq z).map (λW=>true)++false::((dn (z+1) v).map λu=>decide<|m (λU=>own U-q) (wt ab ti) (sl h n) u=0):=by
  delta co;refine Q (yS ..)<|Q e<|Q (bk ..)<|Q (b_ ..)<|Q (dm ..)<|J (List.range'_append_1 ..)<|Q (bN ..)<|Q (bW ..) ?_
  congr 1
  .exact J (dm ..)<|dC λH a=>decide_eq_true<|h2.2 H<|bF.mp a
  .refine Q (f9 ..)<|ax bC ?_
   congr 1;exact decide_eq_false h2.1
 refine Q i<|Q (by refine ax List.map_const'<|Q (aS ..) rfl:(aq z).map (λW=>true)=aw z true)<|Q (L6 ..) rfl
end
theorem BW {d:Nat}{y:Int}(G:y.natAbs<2^d):∀a:List Int,(∀c∈a,c.natAbs<2^d)->(tJ y a).natAbs<2^((d+1)*a.length)
 |[]=>@λJ=>bx _
 |c::a=>@λo=>by
  have w:=dX c<|y*tJ y a
  rw[iZ] at w
  refine Q aV<|Q (show (d+1)*(a.length+1)=1+(d+(d+1)*a.length) by refine Q (dS ..) ?_;lia) ?_;rw[cJ,cJ 2 d]
  have i:2^d*1<=2^d*2^((d+1)*a.length):=aU _<|bx _
  rw[eJ] at i
  exact av w<|ai (lZ (o c<|.head _)<|dG (bl G)<|bl<|BW G a λf b=>o f<|.tail _ b)<|Q (nY ..)<|Q (ic ..)<|a8 i _
section
variable (T:xw n own ab ti)
noncomputable def bt (b d:Nat->Int)(c h:Nat):Int:=if c<h/\b h=(c:Int) then d h else if h<c/\b c=(h:Int) then d c else 0
theorem abV (c h):bt ab ti c h=bt ab ti h c:=by
 delta bt
 by_cases t:c<h/\ab h=(c:Int)
 .refine Q (qm t)<|Q (qn λU=>kA t.1 U.1)<|Q (qm t) rfl
 .refine Q (qn t) ?_
  by_cases j:h<c/\ab c=(h:Int)
  .refine Q (qm j)<|Q (qm j) rfl
  .refine Q (qn j)<|Q (qn j)<|Q (qn t) rfl
theorem ae1:(λc h=>bt ab ti c h*bt ab ti c h)=wt ab ti:=by
 funext c h
 delta bt wt
 by_cases t:c<h/\ab h=(c:Int)
 .refine Q (qm t)<|Q (qm t) rfl
 .refine Q (qn t)<|Q (qn t) ?_
  by_cases j:h<c/\ab c=(h:Int)
  .refine Q (qm j)<|Q (qm j) rfl
  .exact Q (qn j)<|Q (qn j) rfl
theorem one_le {f:Nat->Int}(w:0<=c){p:Nat->Prop}[DecidablePred p](g:∀d h,p d->p h->d=h):∀a:List Nat,a.Nodup->qx (λu=>if p u then c else 0) a<=c
 |[]=>@λJ=>w
 |u::a=>@λx=>by
  refine rG (bI.mp x) λG U=>(?_:(if p u then c else 0)+qx _ a<=c)
  by_cases H:p u
  .skip
   refine Q (qm H)<|Q (qQ λb e=>qn λq=>G<|Q (g u b H q) e)<|Q (s9 ..) ?_;lia
  .refine Q (qn H) ?_;exact MO (one_le (f:=f) w g a U)
def AV (b d g:Nat->Int)(c h:Nat):Int:=b h+g h+qx (λt=>if d t=(h:Int) then g t else 0) (aq c)
include T
theorem ZP:qx (bt ab ti h) ((sl 0 n).erase h)<=ti h+qx (λt=>if ab t=(h:Int) then ti t else 0) (aq n):=by
 have o:=T.C1;have w:qx (bt ab ti h) ((sl 0 n).erase h)<=qx (bt ab ti h) (sl 0 n):=C2 (λU=>by
  delta bt
  split
  .exact (o U).1
  .split
   .exact (o h).1
   .exact c7 0) h _
 have i:qx (bt ab ti h) (sl 0 n)<=qx (λU=>(if ab h=(U:Int) then ti h else 0)+(if ab U=(h:Int) then ti U else 0)) (sl 0 n):=Cy λU J=>by
  have c:=(o U).1;have a:=(o h).1;delta bt
  by_cases u:h<U/\ab U=(h:Int)
  .refine Q (qm u)<|Q (qm u.2) ?_;split<;>lia
  .refine Q (qn u) ?_
   by_cases j:U<h/\ab h=(U:Int)
   .refine Q (qm j)<|Q (qm j.2) ?_;split<;>lia
   .refine Q (qn j) ?_;split<;>split<;>lia
 rw[xC] at i
 have G:=one_le (f:=λJ=>0) (o h).1 (p:=λU:Nat=>ab h=(U:Int)) (λc a b e=>MM b e) (sl 0 n)<|uF 0 n
 rw[(by delta sl;refine Q (gW ..)<|Q (dm ..) rfl:sl 0 n=aq n)] at *
 exact NF w i G
theorem aeN (o:∀h,h<n->AV own ab ti n h<=H):∀a∈co own ab ti n 0 H,0<=a:=λa b=>by
 refine qt (bZ.mp b) λz W e=>J e ?_;clear e
 refine J (ae1 ..)<|(dom (abV) (λt U=>?_) n (sl 0 n) (Q (yS ..)<|ag _) (uF 0 n) λt G=>?_).1 z
 .delta bt
  split
  .exact (T.C1 U).1
  .split
   .exact (T.C1 t).1
   .exact c7 0
 .skip
  have w:=o t (rI.mp G).2;unfold AV at w
  exact NC (ZP T) w
end
theorem abr (c:Nat)(q:Int):c<=((c:Int)-q).natAbs+q.natAbs/\c<=((c:Int)+q).natAbs+q.natAbs/\((c:Int)-q).natAbs<=c+q.natAbs/\(q-(c:Int)).natAbs<=c+q.natAbs:=by
 have w:=dX ((c:Int)-q) q;have i:=dW ((c:Int)+q) q;have b:=dW q (c:Int);rw[gJ] at w
 rw[i8] at i
 rw[bz] at b
 exact td w i (dW (c:Int) q) b
theorem LH {h:Nat}{q:Int}(G:2*c+q.natAbs<h):2*(c:Int)<(((h:Int)-q).natAbs:Int)/\2*(c:Int)<(((h:Int)+q).natAbs:Int)/\2*(c:Int)<(h:Int):=by
 refine uQ (abr h q) λw i J J=>?_
 have b:∀t:Nat,h<=t+q.natAbs->2*(c:Int)<(t:Int):=λt d=>bo.mpr<|lY<|ai G d
 exact ⟨b _ w,b _ i,bo.mpr<|av (aM _ _) G⟩
theorem Xh {q:Int}(H:q.natAbs<2^b)(x:32+6*b<=w):2*(49+(q.natAbs:Int))^5<(((2:Int)^w-q).natAbs:Int)/\2*(49+(q.natAbs:Int))^5<(((2:Int)^w+q).natAbs:Int)/\2*(49+(q.natAbs:Int))^5<(2:Int)^w:=by
 have i:2^(32+6*b)<=2^w:=aX (by decide) x;have e:2^(32+6*b)=4294967296*(2^b)^6:=by refine Q (cJ ..)<|Q (bS 6 b)<|Q (Nat.pow_mul ..) rfl
 have c:49+q.natAbs<=49*2^b:=NK H;have a:=oA c 5;rw[Nat.mul_pow] at a
 have G:1<=2^b:=bx b;have U:(2^b)^5<=(2^b)^6:=aX G (by decide);have d:2^b<=(2^b)^6:=by
  have:=aX G<|show 1<=6 by decide
  rwa [nY] at this
 have j:((2:Int)^w)=((2^w:Nat):Int):=(fc 2 w).symm;have o:(49+(q.natAbs:Int))^5=(((49+q.natAbs)^5:Nat):Int):=Q (fc ..)<|Q (iC ..) rfl
 refine Q j<|Q o ?_
 rw[e] at i
 generalize (49+q.natAbs)^5=A at *
 generalize (2^b)^6=P6 at *
 generalize (2^b)^5=P5 at *
 generalize 2^b=P at *
 generalize 2^w=W at *
 have z:49^5=282475249:=rfl;rw[z] at a
 refine LH ?_;generalize q.natAbs=X at *
 clear e c G j o z;exact NJ a U d i H
theorem N9 {q:Int}(x:q.natAbs<=21)(i:32<=w):2*(49+(q.natAbs:Int))^5<(((2:Int)^w-q).natAbs:Int)/\2*(49+(q.natAbs:Int))^5<(((2:Int)^w+q).natAbs:Int)/\2*(49+(q.natAbs:Int))^5<(2:Int)^w:=Q ((fc 2 w).symm)<|Q (Q (fc ..)<|Q (iC ..) rfl:(49+(q.natAbs:Int))^5=(((49+q.natAbs)^5:Nat):Int))<|LH<|av (bq (aU 2<|oA (aP x 49) 5) x)<|ai (by decide)<|aX (by decide) i
end Mp
end
section
open PySem PySem.W PyProof.Rows PySem.Calls PySem.Spec PySem.SeqAt
noncomputable section
namespace uK
abbrev DS:=Option bK×List (gH aj×gH aj)
noncomputable def hq (q a:Int):Bool:=Int.rec (λc=>Int.rec (λh=>nr c h) (λJ=>false) a) (λc=>Int.rec (λJ=>false) (λh=>nr c h) a) q
theorem MD (c h):nr c h=decide (c=h):=by
 cases i:nr c h with
 |true=>exact (decide_eq_true (Nat.eq_of_beq_eq_true i)).symm|false=>exact (decide_eq_false (nj i)).symm
theorem aej (q a):(q==a)=hq q a:=by
 cases q with
 |ofNat c=>cases a with
  |ofNat h=>exact (decide_eq_decide.mpr mI).trans (MD c h).symm|negSucc h=>exact decide_eq_false λe=>pP e
 |negSucc c=>cases a with
  |ofNat h=>exact decide_eq_false λe=>pP e
  |negSucc h=>exact (decide_eq_decide.mpr Int.negSucc_inj).trans (MD c h).symm
def Qn (q:Int)(a:List DictEntry):Nat->List Nat:=List.rec (motive:=λJ=>Nat->List Nat) (λJ=>[]) (λg J b c=>Bool.rec (b (c+1)) (c::b (c+1)) (hq g.hash q)) a
theorem Qm (q):∀(l f:List DictEntry),Qn q l f.length=(dn f.length l.length).filter λc=>((f++l)[c]?.map (·.hash))==Y q
 |[],f=>rfl|e::l,f=>by
  have g:=Qm q l (f++[e]);rw[aG,a9] at g
  have i:Qn q (e::l) f.length=Bool.rec (Qn q l (f.length+1)) (f.length::Qn q l (f.length+1)) (hq e.hash q):=rfl;rw[i];rw[aV,f9,dK];have n:(f++e::l)[f.length]?=Y e:=by simp
  rw[n];have z:((Y e).map (·.hash)==Y q)=hq e.hash q:=aej e.hash q;rw[z]
  cases H:hq e.hash q with
  |true=>simp only[if_true];congr 1
  |false=>simp only[gG,if_false];exact g
theorem Lc (a:Array DictEntry)(q):placesWithHash a.size (λc=>a[c]?.map (·.hash)) q=Qn q a.toList 0:=by
 have:=Qm q a.toList [];simp only[fM,dY] at this
 rw[this];unfold placesWithHash;rw[dm];simp
noncomputable def dfb:{ U:bK->aj->Int->Array DictEntry->gH (Option Nat) // ∀v s q,pf v s q=gx [s] (j9 v (keyPart s)>>=U v s q) }:=⟨_,λv s q=>rfl⟩
def dfc:{ U:bK->aj->Int->Array DictEntry->gH (Option Nat) // ∀v s q a,dfb.1 v s q a=U v s q a }:=⟨_,λv s q a=>by
 conv=>
  lhs
  delta dfb;dsimp (config:={zeta:=false}) only;rw[Lc]⟩
def dfq:{ F:bK->aj->Int->gH (Option Nat) // ∀v s q,pf v s q=F v s q }:=⟨λv s q=>gx [s] (j9 v (keyPart s)>>=dfc.1 v s q),λv s q=>(dfb.2 v s q).trans (qo (λg=>gx [s] (j9 v (keyPart s)>>=g)) (funext λa=>dfc.2 v s q a))⟩
theorem abD:pf=dfq.1:=funext λv=>funext λa=>funext λq=>dfq.2 v a q
def dpq:{ F:bK->Int->aj->aj->gH Unit // ∀v q s a,oH v q s a=F v q s a }:=⟨_,λv q s a=>by delta oH;exact Q abD rfl⟩
theorem abA:oH=dpq.1:=funext λv=>funext λb=>funext λq=>funext λa=>dpq.2 v b q a
def mmq:{ F:bK->aj->Bool->gH Unit // ∀v s T,mergeMapping v s T=F v s T }:=⟨_,λv s T=>by delta mergeMapping;exact Q abA rfl⟩
theorem aao:mergeMapping=mmq.1:=funext λv=>funext λa=>funext λw=>mmq.2 v a w
def xd:{ b:((Option (gH aj)×gH aj)->DS->gH (ForInStep DS))×(DS->gH aj) // ∀a,mf a=(forIn a ((N,[]):DS) b.1>>=b.2) }:=⟨(_,_),λa=>by delta mf;refine Q aao ?_;rw[PySem.W.Fast.te11913375310210876947]⟩
noncomputable abbrev pw:iF:=PySem.Challenge.pw_wc0030_02
def s_ (c:Nat):gv:=pw.main.body.getD c (.Pass ⟨0,0,0,0⟩)
noncomputable def Fc (c:gv):ba×iD×List gv×eV:=if e:c.ctorIdx=0 then pK (motive_2:=λJ=>ba×iD×List gv×eV) c e λp H a J J J v J J J=>(p,H,a,v) else (pj,⟨[],[],N,[],[],N,[]⟩,[],{ kind:=.module,names:=[],isGenerator:=false,isCoroutine:=false,more:=[] })
def t9 (c:gv):iD:=(Fc c).2.1
def CP (c:gv):lH:=.stmts (Fc c).2.2.1
def BZ (c:gv):eV:=(Fc c).2.2.2
noncomputable def de (T:cF)(f:String)(c:Nat)(s:aj):DictEntry:=⟨fV T (az f),.str (az f) c,s⟩
noncomputable def di (q:Int)(c:Nat)(s:aj):DictEntry:=⟨q,.int q c,s⟩
noncomputable def ents (o:gA):Array DictEntry:=match o.data with|.dict a J=>a|_=>#[]
noncomputable def ah9 (o:gA):Array aj:=match o.data with|.fields a=>a|_=>#[]
def dj (c:Nat)(b:Int×ba):DictEntry:=di b.1 c (.str b.2 (c+1))
noncomputable def QF (c:Nat):Nat->List (Int×ba)->List DictEntry
 |J,[]=>[]
 |t,b::l=>dj t b::QF c (t+c) l
noncomputable def tuL:Nat->List String->List aj
 |J,[]=>[]
 |t,f::l=>.str (az f) t::tuL (t+1) l
noncomputable def Ip:gA:=⟨.type "tuple",N,.seq #[] 0,#[]⟩
noncomputable def J4:gA:=⟨.none,N,.fields #[],#[]⟩
def Zf (c:Nat)(a:List String):gA:=⟨.type "tuple",N,.seq (gw (tuL c a)) 0,#[]⟩
def fnD (c:Nat)(f:String)(v:bK)(s a h:aj):FuncData:={ name:=az f,qualname:=az f,params:=t9 (s_ c),body:=CP (s_ c),scope:=BZ (s_ c),globals:=v,closure:=[],defaults:=s,kwdefaults:=.none,doc:=.none,pyModule:=a,annotations:=N,code:=h,closureTuple:=.none,builtins:=0 }
def fn0 (c:Nat)(f:String):gA:=⟨.none,N,.func (fnD c f 0 .none .none .none),#[]⟩
def Wh (c:Nat)(f:String)(s:aj)(p:String)(h t:Nat):gA:=⟨.type "function",N,.func (fnD c f 3 s (.str (az p) h) (.ref t)),#[]⟩
noncomputable def Ws (f:String)(c:Nat)(q:Int)(a d G n:Int)(h t:Nat)(s b i:aj)(T:Nat)(z:Nat):gA:=⟨.type "code",N,.fields #[.str (az f) c,.str (az f) (c+1),.str (az "/claim/cut.py") (c+2),.int q 0,.int a 0,.int d 0,.int G 0,.int n 0,.ref h,.bool true,.int 181 0,.ref t,s,b,i,.ref T,.int z 0,.int q 0,.str (az "/claim/cut.py") (z+1)],#[]⟩
def fap (o:gA)(q:Int)(c:Nat):gA:=⟨.none,N,.fields (ah9 o++#[.int q 0,.int 0 0,.ref c]),#[]⟩
def Ms (o:gA)(a:List DictEntry)(c:Nat):gA:=⟨.type "dict",N,.dict (gw ((ents o).toList++a)) c,#[]⟩
noncomputable def dcO (a:List DictEntry)(c:Nat):gA:=⟨.type "dict",N,.dict (gw a) c,#[]⟩
def dnm (o:gA)(g:DictEntry)(c:Nat):gA:=⟨.type "dict",N,.dict (gw (g::(ents o).toList.tail)) c,#[]⟩
def uq:kN:={ scope:=pw.main.scope,locals:=mainNs,globals:=mainNs,cells:=[],code:=.ref 13,frame:=Y 14 }
def Pc:List gv:=behindTheImports pw
def u1:Code:=.body Pc uq
noncomputable def q0:dB:=⟨0,0,0,0⟩
def B0:List Frame:=[topFrame q0]
noncomputable def tv:Option aj:=Y (.ref 6)
abbrev FH:=PySem.W.Fast.tw10110043849684766642 PySem.W.Fast.tw14364793385576792824 pw
abbrev Z4 (a:List gv)(e:dB):Thread:=⟨(PySem.W.Fast.tw12563942051412417395 a uq).wrap doneF deadEnd id id,u1,e,B0⟩
theorem adj {b:oI}{a:List gv}{y:Option (k_×oI×Code×dB)}(f:FH w 11 tv 1 n b (Z4 a e)=y):segRunT dD pw w 11 tv 1 n b (piecesOf a uq u1 e B0)=y:=by rw[ju,jt];unfold piecesOf;rw[PySem.W.Fast.te12563942051412417395];exact f
theorem N_ {a:oI}{y:Option (k_×oI×Code×dB)}(e:FH w 11 tv 1 n a t=y):segRunT dD pw w 11 tv 1 n a t=y:=by rw[ju,jt];exact e
noncomputable def xt {o v:Type}(b:o->v->gH (ForInStep v)):List o->v->gH (ForInStep v)
 |[],G=>pure (.yield G)|x::l,G=>b x G>>=λU=>match U with|.done a=>pure (.done a)|.yield a=>xt b l a
theorem Rd {o v:Type}(b:o->v->gH (ForInStep v))(a f:List o):∀G:v,forIn (f++a) G b=xt b f G>>=λU=>match U with|.done p=>pure p|.yield p=>forIn a p b:=by
 induction f with
 |nil=>exact λG=>(pure_bind ..).symm
 |cons p l d=>exact λG=>(gE ..).trans ((qo (b p G>>=·) (funext λU=>ForInStep.casesOn U (λc=>(pure_bind ..).symm) d)).trans (bind_assoc ..).symm)
noncomputable def S5:ForInStep DS->k_:=λU=>match U with
 |.done J=>.cont|.yield U=>if U.2.isEmpty then (match U.1 with|Y v=>.ret (.ref v)|N=>.brk) else .cont
theorem S4 (e:S5 a=.ret (.ref v)):a=.yield (Y v,[]):=by
 cases a with
 |done p=>exact (nomatch (e:k_.cont=.ret (.ref v)))|yield p=>cases p with
  |mk m l=>cases l with
   |cons J W=>exact (nomatch (e:k_.cont=.ret (.ref v)))|nil=>cases m with
    |none=>exact (nomatch (e:k_.brk=.ret (.ref v)))|some q=>exact qo (λv=>ForInStep.yield (Y v,[])) (jm.inj (k_.ret.inj e))
noncomputable def Cg (c:gv):List dI×dI×dB:=if e:c.ctorIdx=5 then gv.Assign.elim (motive_2:=λJ=>List dI×dI×dB) c e λa L f=>(a,L,f) else ([],.Name pj ⟨0,0,0,0⟩,⟨0,0,0,0⟩)
noncomputable def H0 (L:dI):List (Option dI)×List dI×dB:=if e:L.ctorIdx=6 then a7.Dict.elim (motive_1:=λJ=>List (Option dI)×List dI×dB) L e λa f g=>(a,f,g) else ([],[],⟨0,0,0,0⟩)
noncomputable def nmP (L:dI):ba×dB:=if e:L.ctorIdx=23 then jx (motive_1:=λJ=>ba×dB) L e λp f=>(p,f) else (pj,⟨0,0,0,0⟩)
noncomputable def DZ (L:dI):pC:=if e:L.ctorIdx=19 then jy (motive_1:=λJ=>pC) L e λA J J=>A else .none
noncomputable def aaH (A:pC):Option Int:=if e:A.ctorIdx=2 then pC.int.elim (motive:=λJ=>Option Int) A e Y else N
noncomputable def II (A:pC):Option ba:=if e:A.ctorIdx=5 then kF (motive:=λJ=>Option ba) A e Y else N
abbrev H8:List (Option dI):=(H0 (Cg (s_ 11)).2.1).1
abbrev H7:List dI:=(H0 (Cg (s_ 11)).2.1).2.1
abbrev acb:dB:=(H0 (Cg (s_ 11)).2.1).2.2
def yM (c:Nat):List (Option (gH aj)×gH aj):=(evalEachOpt ((H8.drop (17*c)).take 17) uq).zip ((evalEach ((H7.drop (17*c)).take 17) uq).map λv=>do let x←v;eu acb;pure x)
def sW:List (Option (gH aj)×gH aj):=(evalEachOpt H8 uq).zip ((evalEach H7 uq).map λv=>do let x←v;eu acb;pure x)
theorem UJ (f)(a):evalEach a f=a.map λL=>eval L f:=by
 induction a with
 |nil=>rfl|cons L a e=>exact qo (eval L f::·) e
theorem Lk (f)(a):evalEachOpt a f=a.map λy=>evalOpt y f:=by
 induction a with
 |nil=>rfl|cons y a e=>exact qo (evalOpt y f::·) e
theorem aeS (c):(sW.drop (17*c)).take 17=yM c:=by unfold sW yM;simp only[UJ,Lk,mn,List.map_drop,List.zip,List.drop_zipWith,List.take_zipWith]
abbrev Wt (c:Nat)(p:DS)(e:dB):Thread:=⟨(xt xd.1.1 (yM c) p).wrap (λU=>.pure (.done (S5 U))) deadEnd id id,u1,e,B0⟩
def eC (c:Nat):List (Int×ba):=(((H8.drop (17*c)).zip (H7.drop (17*c))).take 17).filterMap λb=>b.1.bind λL=>(aaH (DZ L)).bind λL=>(II (DZ b.2)).map λp=>(L,p)
def eL:List (List (Int×ba)):=(aq 39).map eC
noncomputable def flt:Nat->List (List (Int×ba))->List DictEntry
 |J,[]=>[]
 |t,a::l=>QF 3 t a++flt (t+51) l
abbrev HS:=BT×gA×gA×Nat×Nat
abbrev HF:=cF->HS
noncomputable def SS (a:HF)(n:d7)(u:OsState):oI:=⟨(a n.params).1,(a n.params).2.2.2.1,{},#[],eZ,(a n.params).2.2.2.2,u⟩
noncomputable def OI:Nat->List gA->BT->BT
 |J,[],s=>s|i,G::l,s=>OI (i+1) l (s.ins i G)
abbrev RF (o:Type):=Nat->Nat->Nat->Int->Int->String->String->Nat->Nat->List String->List String->o
noncomputable def cA (a:List String):Nat:=if a.isEmpty then 3 else 5
def coR (c h:Nat)(q b:Int)(f:String)(a U:List String):gA:=if a.isEmpty then Ws f h q b 0 0 3 c (c+1) .none .none .none (c+2) (h+3) else Ws f h q b 0 0 3 c (c+1) .none (.ref (c+2)) (.ref (c+3)) (c+4) (h+(3+a.length+U.length))
noncomputable def md (b:cF->gA->gA)(d:gA->gA)(g:BT->BT)(c h:Nat)(a:HF):HF:=λT=>(g (((a T).1.set 3 λJ=>b T (a T).2.1).set 12 λJ=>d (a T).2.2.1),b T (a T).2.1,d (a T).2.2.1,c,h)
def fd:RF (HF->HF):=λc h t q b f p T z a L=>md (λU G=>Ms G [de U f (t+(5+a.length+L.length)) (.ref (h+cA a+1))] z) (λo=>fap o q (h+cA a)) (OI h (Ip::J4::((if a.isEmpty then [] else [Zf (t+3) a,Zf (t+(3+a.length)) L])++[fn0 c f,coR h t q b f a L,Wh c f .none p T (h+cA a)]))) (h+cA a+2) (t+(6+a.length+L.length))
def kf:RF (Frag->Frag):=λc h t q d f p T J a U b=>(h+cA a,coR h t q d f a U)::(h+cA a+1,Wh c f .none p T (h+cA a))::b
def nm (f:String)(c h t:Nat):HF->HF:=md (λT G=>dnm G (de T "__name__" 165 (.str (az f) c)) h) id id t (c+2)
noncomputable def CE:="cpy313._pylong"
noncomputable def Oy:="cpy313.stringprep"
noncomputable def ya:="cpy313.xml.etree.ElementTree"
noncomputable def vK:="law_wc0030_02"
def r2 {o:Type}(G:RF o):o:=G 2 15 191 3 3 "_div2n1n" CE 187 11 ["a","b","n","pad","half_n","mask","b1","b2","q1","r","q2"] []
def r3 {o:Type}(G:RF o):o:=G 3 22 208 19 6 "_div3n2n" CE 187 12 ["a12","a3","b","b1","b2","n","q","r"] []
def r4 {o:Type}(G:RF o):o:=G 4 29 222 29 2 "_int2digits" CE 187 13 ["a","n"] ["n","a_digits","inner"]
def r5 {o:Type}(G:RF o):o:=G 5 36 233 45 2 "_digits2int" CE 187 14 ["digits","n"] ["digits","n","inner"]
def r6 {o:Type}(G:RF o):o:=G 6 43 244 54 2 "_divmod_pos" CE 187 15 ["a","b","n","a_digits","r","q_digits","a_digit","q_digit","q"] []
def r7 {o:Type}(G:RF o):o:=G 7 50 259 65 2 "int_divmod" CE 187 16 ["a","b","q","r"] []
def r10 {o:Type}(G:RF o):o:=G 10 68 331 78 1 "in_table_b1" Oy 269 18 ["code"] []
def VB {o:Type}(G:RF o):o:=G 12 114 2289 81 1 "map_table_b3" Oy 269 20 ["code","r"] []
def r15 {o:Type}(G:RF o):o:=G 15 130 2310 92 2 "_serialize_text" ya 2297 22 ["write","elem","part"] []
def r16 {o:Type}(G:RF o):o:=G 16 137 2319 97 1 "_raise_serialization_error" ya 2297 23 ["text"] []
def r17 {o:Type}(G:RF o):o:=G 17 144 2326 99 1 "_escape_cdata" ya 2297 24 ["text"] []
def r18 {o:Type}(G:RF o):o:=G 18 151 2333 110 1 "_escape_attrib" ya 2297 25 ["text"] []
def r19 {o:Type}(G:RF o):o:=G 19 158 2340 129 1 "_escape_attrib_html" ya 2297 26 ["text"] []
def r20 {o:Type}(G:RF o):o:=G 20 165 2347 140 1 "_escape_cdata_c14n" ya 2297 27 ["text"] []
def r21 {o:Type}(G:RF o):o:=G 21 172 2354 153 1 "_escape_attrib_c14n" ya 2297 28 ["text"] []
def r23 {o:Type}(G:RF o):o:=G 23 179 2363 171 3 "_law_read" vK 2361 29 [] []
def r24 {o:Type}(G:RF o):o:=G 24 184 2369 184 2 "_law_element" vK 2361 30 ["tag","attrib"] ["tag","one"]
def r25 {o:Type}(G:RF o):o:=G 25 191 2379 194 6 "_law_page" vK 2361 31 ["letters","own","above","ties","hand","last","page","made","kept","k","text","given","step"] []
def r26 {o:Type}(G:RF o):o:=G 26 198 2398 203 2 "_law_taken_apart" vK 2361 32 ["page","letters","own","above","ties","path","last","sign"] []
def r27 {o:Type}(G:RF o):o:=G 27 205 2412 216 2 "_law_above" vK 2361 33 ["n","number","above","path","k"] []
def r28 {o:Type}(G:RF o):o:=G 28 212 2423 223 5 "_law_whole" vK 2361 34 [] []
def r29 {o:Type}(G:RF o):o:=G 29 217 2429 234 3 "_law_figures" vK 2361 35 ["whole","base","count","figures","step","left"] []
def r30 {o:Type}(G:RF o):o:=G 30 224 2441 244 1 "_law_changes" vK 2361 36 [] []
def r31 {o:Type}(G:RF o):o:=G 31 229 2447 247 4 "_law_leaves" vK 2361 37 [] []
def r32 {o:Type}(G:RF o):o:=G 32 234 2453 262 1 "law" vK 2361 38 [] []
noncomputable def o13:gA:=⟨.type "code",N,.fields #[.str (az "<module>") 182,.str (az "<module>") 183,.str (az "/claim/cut.py") 184,.int 1 0,.int 0 0,.int 0 0,.int 0 0,.int 0 0,.ref 11,.bool false,.int 181 0,.ref 12,.none,.none,.none,.none,.int 185 0,.int 1 0,.str (az "/claim/cut.py") 186],#[]⟩
noncomputable def o14:gA:=⟨.type "frame",N,.plain,#[Y (.ref 13),Y (.ref 3),Y (.ref 3),N,Y (.str (az "__main__") 164),N,Y (.ref 0)]⟩
def L':HF:=λT=>((.node (boot_o_0 T) (.node (boot_o_1 T) (.node (boot_o_3 T) (.node (boot_o_7 T) .nil .nil) (.node Ip .nil .nil)) (.node (boot_o_5 T) (.node (boot_o_9 T) .nil .nil) (.node o13 .nil .nil))) (.node (boot_o_2 T) (.node (boot_o_4 T) (.node (boot_o_8 T) .nil .nil) (.node J4 .nil .nil)) (.node (boot_o_6 T) (.node (boot_o_10 T) .nil .nil) (.node o14 .nil .nil)))),Ip,J4,15,187)
def L7:HF:=md (λT J=>⟨.type "dict",N,.dict #[de T "__name__" 165 (.str (az "cpy313._pylong") 187),de T "__doc__" 166 (.none),de T "__package__" 167 (.none),de T "__loader__" 168 (.builtin "__main__.__loader__#opaque"),de T "__spec__" 169 (.none),de T "__annotations__" 170 (.ref 6),de T "__builtins__" 171 (.ref 4),de T "__file__" 173 (.str (az "/claim/cut.py") 172),de T "__cached__" 174 (.none)] 9,#[]⟩) id id 15 189 L'
def zN:=md (λT G=>Ms G [de T "_DIV_LIMIT" 190 (.int 4000 189)] 10) id id 15 191 L7
def yt:=r2 fd zN
def hp3:=r3 fd yt
def hp4:=r4 fd hp3
def hp5:=r5 fd hp4
def tT:=r6 fd hp5
def hp7:=r7 fd tT
def hp8:=nm Oy 269 16 57 hp7
noncomputable def b1a:List aj:=[.int 173 271,.int 847 272,.int 6150 273,.int 6155 274,.int 6156 275,.int 6157 276,.int 8203 277,.int 8204 278,.int 8205 279,.int 8288 280,.int 65279 281]
noncomputable def b1b:List aj:=[.int 65024 287,.int 65025 288,.int 65026 289,.int 65027 290,.int 65028 291,.int 65029 292,.int 65030 293,.int 65031 294,.int 65032 295,.int 65033 296,.int 65034 297,.int 65035 298,.int 65036 299,.int 65037 300,.int 65038 301,.int 65039 302]
noncomputable def oB (T:cF):gA:=⟨.type "set",N,.set #[(65024,.int 65024 287),(65025,.int 65025 288),(65026,.int 65026 289),(65027,.int 65027 290),(65028,.int 65028 291),(65029,.int 65029 292),(6150,.int 6150 273),(65030,.int 65030 293),(65031,.int 65031 294),(65032,.int 65032 295),(65033,.int 65033 296),(6155,.int 6155 274),(6156,.int 6156 275),(6157,.int 6157 276),(8203,.int 8203 277),(8204,.int 8204 278),(8205,.int 8205 279),(65034,.int 65034 297),(65035,.int 65035 298),(65036,.int 65036 299),(65037,.int 65037 300),(65038,.int 65038 301),(65039,.int 65039 302),(173,.int 173 271),(847,.int 847 272),(8288,.int 8288 280),(65279,.int 65279 281)] 29 { mask:=127,place:=#[0,1,2,3,4,5,6,7,8,9,10,11,12,13,14,15,16,17,18,19,20,21,22,45,79,96,127],dummies:=#[],finger:=0,led:=!T.followText "set-order",moves:=2,plain:=true },#[]⟩
def hp9:HF:=λT=>md (λT G=>Ms G [de T "b1_set" 330 (.ref 64)] 17) id (OI 57 [⟨.type "list",N,.seq (gw b1a) 0,#[]⟩,⟨.type "range",N,.fields #[.int 65024 282,.int 65040 283,.int 1 284],#[]⟩,⟨.type "list",N,.seq (gw b1b) 18,#[]⟩,⟨.type "range_iterator",N,.fields #[.int 65040 0,.int 0 0,.int 1 0],#[]⟩,Ip,⟨.type "StopIteration",N,.fields #[.ref 61,.none,.none,.none,.bool false,.none],#[]⟩,⟨.type "list",N,.seq (gw (b1a++b1b)) 0,#[]⟩,oB T,⟨.type "list_iterator",N,.fields #[.none,.int 27 0],#[]⟩,Ip,⟨.type "StopIteration",N,.fields #[.ref 66,.none,.none,.none,.bool false,.none],#[]⟩]) 68 331 hp8 T
def JI:=r10 fd hp9
def bgO (c:Nat):gA:=dcO (flt 338 (eL.take (c+1))) (17*(c+1))
def tc (T:cF)(c:Nat):BT:=Nat.rec ((JI T).1.ins 75 (bgO 0)) (λc s=>(s.set 75 λJ=>bgO (c+1)).ins (76+c) (dcO (QF 3 (389+51*c) (eL.getD (c+1) [])) 17)) c
def hc (c:Nat):HF:=λT=>(tc T c,(JI T).2.1,(JI T).2.2.1,76+c,389+51*c)
def oL:gA:=Ms (bgO 37) (QF 2 2276 (eC 38)) 650
def Ul:=md (λT G=>Ms G [de T "b3_exceptions" 2288 (.ref 75)] 19) id (λs=>(s.set 75 λJ=>oL).ins 113 (dcO (QF 2 2276 (eC 38)) 4)) 114 2289 (hc 37)
def Uk:=VB fd Ul
def Uj:=nm ya 2297 20 121 Uk
noncomputable def oS0:gA:=⟨.type "dict",N,.dict #[] 0,#[]⟩
noncomputable def oS1:gA:=⟨.type "tuple",N,.seq #[.ref 121] 0,#[]⟩
def Z':gA:=Ws "SubElement" 2299 87 3 0 0 11 123 124 (.none) (.ref 125) (.ref 126) 127 2307
def Z_:gA:=Wh 14 "SubElement" (.ref 122) "cpy313.xml.etree.ElementTree" 2297 128
def Ui:HF:=md (λT G=>Ms G [de T "SubElement" 2309 (.ref 129)] 21) (λo=>fap o 87 128) (OI 121 [oS0,oS1,Ip,J4,Zf 2302 ["parent","tag","attrib","extra","element"],Ip,fn0 14 "SubElement",Z',Z_]) 130 2310 Uj
def Uh:=r15 fd Ui
def Ug:=r16 fd Uh
def Ue:=r17 fd Ug
def Ud:=r18 fd Ue
def Uc:=r19 fd Ud
def Ub:=r20 fd Uc
def Ua:=r21 fd Ub
def T_:=nm vK 2361 28 179 Ua
def T9:=r23 fd T_
def T8:=r24 fd T9
def T7:=r25 fd T8
def tM:=r26 fd T7
def T6:=r27 fd tM
def T5:=r28 fd T6
def T4:=r29 fd T5
def T3:=r30 fd T4
def T2:=r31 fd T3
def A5:=r32 fd T2
abbrev PC (c U:Nat)(b a:HF)(e d:dB)(u:OsState)(n:d7):Prop:=FH n 11 tv 1 U (SS b n u) (Z4 [s_ c] e)=Y (.next,SS a n u,u1,d)
abbrev CK (c:Nat)(u:OsState)(n:d7):Prop:=FH n 11 tv 1 400 (SS (hc c) n u) (Wt (c+1) (Y 75,[]) ⟨80,16,80,8704⟩)=Y (.ret (.ref 75),SS (hc (c+1)) n u,u1,⟨80,16,80,8704⟩)
noncomputable abbrev AL (U:List Nat):Prop:=∀T∈U,∀(os:OsState)(L:d7),CK T os L
theorem ac {a:List Nat}(G:∀(os:OsState)(U:d7),CK c os U)(d:AL a):AL (c::a):=cp.mpr ⟨G,d⟩
theorem sg {b:d7->Prop}:(∀n:d7,b (n.withFollow "special-get-raises" false))->(∀n:d7,b (n.withFollow "special-get-raises" true))->∀n:d7,b n:=byRow2 "special-get-raises"
end uK
end
noncomputable section
set_option maxHeartbeats 0
namespace uK
theorem ahD (u)(n):PC 0 10 L' L7 ⟨0,0,0,0⟩ ⟨1,0,1,8⟩ u n:=by kernel_rfl
theorem ahC (u)(n):PC 1 10 L7 zN ⟨1,0,1,8⟩ ⟨2,0,2,10⟩ u n:=by kernel_rfl
theorem ahB (u)(n):PC 2 40 zN yt ⟨2,0,2,10⟩ ⟨3,0,18,33⟩ u n:=by kernel_rfl
theorem ahA (u)(n):PC 3 37 yt hp3 ⟨3,0,18,33⟩ ⟨19,0,28,17⟩ u n:=by kernel_rfl
theorem ahz (u)(n):PC 4 34 hp3 hp4 ⟨19,0,28,17⟩ ⟨29,0,44,19⟩ u n:=by kernel_rfl
theorem ahy (u)(n):PC 5 34 hp4 hp5 ⟨29,0,44,19⟩ ⟨45,0,53,49⟩ u n:=by kernel_rfl
theorem ahx (u)(n):PC 6 38 hp5 tT ⟨45,0,53,49⟩ ⟨54,0,64,17⟩ u n:=by kernel_rfl
theorem ahw (u)(n):PC 7 33 tT hp7 ⟨54,0,64,17⟩ ⟨65,0,75,32⟩ u n:=by kernel_rfl
theorem ahv (u)(n):PC 8 10 hp7 hp8 ⟨65,0,75,32⟩ ⟨76,0,76,8⟩ u n:=by kernel_rfl
theorem ahu (u):∀n:d7,PC 9 1996 hp8 hp9 ⟨76,0,76,8⟩ ⟨77,0,77,6⟩ u n:=by refine byRow2 "set-order" ?_ ?_<;>refine sg ?_ ?_<;>(intro n;kernel_rfl)
theorem adM (u)(n):PC 10 30 hp9 JI ⟨77,0,77,6⟩ ⟨78,0,79,30⟩ u n:=by kernel_rfl
theorem adL (u)(n):PC 12 31 Ul Uk ⟨80,0,80,13⟩ ⟨81,0,85,23⟩ u n:=by kernel_rfl
theorem adK (u)(n):PC 13 10 Uk Uj ⟨81,0,85,23⟩ ⟨86,0,86,8⟩ u n:=by kernel_rfl
theorem adJ (u)(n):PC 14 37 Uj Ui ⟨86,0,86,8⟩ ⟨87,0,91,18⟩ u n:=by kernel_rfl
theorem adI (u)(n):PC 15 32 Ui Uh ⟨87,0,91,18⟩ ⟨92,0,96,24⟩ u n:=by kernel_rfl
theorem adH (u)(n):PC 16 30 Uh Ug ⟨92,0,96,24⟩ ⟨97,0,98,82⟩ u n:=by kernel_rfl
theorem adG (u)(n):PC 17 30 Ug Ue ⟨97,0,98,82⟩ ⟨99,0,109,40⟩ u n:=by kernel_rfl
theorem adF (u)(n):PC 18 30 Ue Ud ⟨99,0,109,40⟩ ⟨110,0,128,40⟩ u n:=by kernel_rfl
theorem adE (u)(n):PC 19 30 Ud Uc ⟨110,0,128,40⟩ ⟨129,0,139,40⟩ u n:=by kernel_rfl
theorem adD (u)(n):PC 20 30 Uc Ub ⟨129,0,139,40⟩ ⟨140,0,152,40⟩ u n:=by kernel_rfl
theorem adC (u)(n):PC 21 30 Ub Ua ⟨140,0,152,40⟩ ⟨153,0,169,40⟩ u n:=by kernel_rfl
theorem adB (u)(n):PC 22 10 Ua T_ ⟨153,0,169,40⟩ ⟨170,0,170,8⟩ u n:=by kernel_rfl
theorem adA (u)(n):PC 23 27 T_ T9 ⟨170,0,170,8⟩ ⟨171,0,183,109⟩ u n:=by kernel_rfl
theorem adz (u)(n):PC 24 33 T9 T8 ⟨171,0,183,109⟩ ⟨184,0,193,14⟩ u n:=by kernel_rfl
theorem ady (u)(n):PC 25 42 T8 T7 ⟨184,0,193,14⟩ ⟨194,0,202,111⟩ u n:=by kernel_rfl
theorem adx (u)(n):PC 26 37 T7 tM ⟨194,0,202,111⟩ ⟨203,0,215,35⟩ u n:=by kernel_rfl
theorem adw (u)(n):PC 27 34 tM T6 ⟨203,0,215,35⟩ ⟨216,0,222,16⟩ u n:=by kernel_rfl
theorem adv (u)(n):PC 28 27 T6 T5 ⟨216,0,222,16⟩ ⟨223,0,233,16⟩ u n:=by kernel_rfl
theorem adu (u)(n):PC 29 35 T5 T4 ⟨223,0,233,16⟩ ⟨234,0,243,41⟩ u n:=by kernel_rfl
theorem adt (u)(n):PC 30 27 T4 T3 ⟨234,0,243,41⟩ ⟨244,0,246,77⟩ u n:=by kernel_rfl
theorem ads (u)(n):PC 31 27 T3 T2 ⟨244,0,246,77⟩ ⟨247,0,261,25⟩ u n:=by kernel_rfl
theorem adq (u)(n):PC 32 27 T2 A5 ⟨247,0,261,25⟩ ⟨262,0,282,150⟩ u n:=by kernel_rfl
theorem aih (u):∀n:d7,FH n 11 tv 1 400 (SS JI n u) (Wt 0 (N,[]) ⟨80,16,80,8704⟩)=Y (.ret (.ref 75),SS (hc 0) n u,u1,⟨80,16,80,8704⟩):=sg (λn=>by kernel_rfl) (λn=>by kernel_rfl)
theorem ckA (U)(a:AL U):AL (0::1::2::3::4::5::U):=by
 repeat refine ac (λu=>sg (λn=>by kernel_rfl) (λn=>by kernel_rfl)) ?_
 exact a
theorem ckB (T)(L:AL T):AL (6::7::8::9::10::T):=by
 repeat refine ac (λU=>sg (λI=>by kernel_rfl) (λI=>by kernel_rfl)) ?_
 exact L
theorem ckC (T)(L:AL T):AL (11::12::13::14::15::T):=by
 repeat refine ac (λU=>sg (λI=>by kernel_rfl) (λI=>by kernel_rfl)) ?_
 exact L
theorem ckD (T)(L:AL T):AL (16::17::18::19::T):=by
 repeat refine ac (λU=>sg (λI=>by kernel_rfl) (λI=>by kernel_rfl)) ?_
 exact L
theorem ckE (T)(L:AL T):AL (20::21::22::23::T):=by
 repeat refine ac (λU=>sg (λI=>by kernel_rfl) (λI=>by kernel_rfl)) ?_
 exact L
theorem ckF (T)(L:AL T):AL (24::25::26::27::T):=by
 repeat refine ac (λU=>sg (λI=>by kernel_rfl) (λI=>by kernel_rfl)) ?_
 exact L
theorem ckG (T)(L:AL T):AL (28::29::30::T):=by
 repeat refine ac (λU=>sg (λI=>by kernel_rfl) (λI=>by kernel_rfl)) ?_
 exact L
theorem ckH (T)(L:AL T):AL (31::32::33::T):=by
 repeat refine ac (λU=>sg (λI=>by kernel_rfl) (λI=>by kernel_rfl)) ?_
 exact L
theorem ckI (T)(L:AL T):AL (34::35::36::T):=by
 repeat refine ac (λU=>sg (λI=>by kernel_rfl) (λI=>by kernel_rfl)) ?_
 exact L
section
noncomputable def KA (p:ba)(e:dB)(a:List (Option dI))(g:List dI)(c:dB)(h:kN):aj->gH k_:=λs=>(do
 match←(do assignStores h s (← fD [.Name p e] (.Dict a g c) h) ((pU [.Name p e] h).map (·.2))) with
 |.next=>execs [] h|f=>pure f)
theorem R4 (p)(e)(a)(f)(c L)(g):execs [.Assign [.Name p e] (.Dict a f c) L] g=(eu L>>=λJ=>(eu c>>=λJ=>mf ((evalEachOpt a g).zip ((evalEach f g).map λv=>do let p←v;eu c;pure p)))>>=KA p e a f c g):=by have h:swapsWithSole [.Name p e] (.Dict a f c) L.line g=pure false:=rfl;rw[execs_cons,kh,arm_eval_Dict,h];simp only[bind_assoc,pure_bind,gG,if_false];rfl
def UZ (c:gv):ba×dB×List (Option dI)×List dI×dB×dB:=let b:=nmP ((Cg c).1.getD 0 (Cg c).2.1);let a:=H0 (Cg c).2.1;(b.1,b.2,a.1,a.2.1,a.2.2,(Cg c).2.2)
abbrev bp:=UZ (s_ 11)
theorem aca:s_ 11=.Assign [.Name bp.1 bp.2.1] (.Dict bp.2.2.1 bp.2.2.2.1 bp.2.2.2.2.1) bp.2.2.2.2.2:=by kernel_rfl
theorem RT:sW=(evalEachOpt bp.2.2.1 uq).zip ((evalEach bp.2.2.2.1 uq).map λv=>do let x←v;eu bp.2.2.2.2.1;pure x):=by kernel_rfl
abbrev GD:DS->gH k_:=λp=>xd.1.2 p>>=KA bp.1 bp.2.1 bp.2.2.1 bp.2.2.2.1 bp.2.2.2.2.1 uq
theorem RU:execs [s_ 11] uq=(eu bp.2.2.2.2.2>>=λJ=>eu bp.2.2.2.2.1>>=λJ=>(forIn sW ((N,[]):DS) xd.1.1>>=GD)):=by refine (qo (λc=>execs [c] uq) aca).trans ((R4 _ _ _ _ _ _ _).trans ?_);rw[<- RT,xd.2];simp only[bind_assoc]
abbrev KR (a:List gv):k_->gH Fin:=λf=>match f with|.next=>(execs a uq).wrap doneF (leaveH uq) id id|f=>doneF f
variable {w:d7}
theorem Yr {t:ay}{a:List gv}{e:dB}(f:jk dD pw w 11 tv NNq s ⟨(forIn sW ((N,[]):DS) xd.1.1>>=GD).wrap (KR a) (leaveH uq) id id,u1,bp.2.2.2.2.1,B0⟩=Y t) :
  jk dD pw w 11 tv (2+NNq) s (restOf ([s_ 11]++a) uq u1 e B0)=Y t:=by
 unfold restOf;rw[execs_app_wrap,RU];exact go_top (n:=2) rfl f
theorem RJ {U:ay}{b:k_->gH Fin}{f:aj->gH Fin}(h:segRun dD pw w 11 tv 1 n s (Wt i p e)=Y (.ret (.ref d),s',u1,p'))(j:jk dD pw w 11 tv NNq s' ⟨(forIn (sW.drop (17*(i+1))) ((Y d,[]):DS) xd.1.1>>=GD).wrap b f id id,u1,p',B0⟩=Y U) :
  jk dD pw w 11 tv (n+NNq) s ⟨(forIn (sW.drop (17*i)) p xd.1.1>>=GD).wrap b f id id,u1,e,B0⟩=Y U:=by
 have o:sW.drop (17*i)=yM i++sW.drop (17*(i+1)):=by rw[<- aeS,show 17*(i+1)=17*i+17 from rfl,<-jQ,List.take_append_drop]
 have H:((forIn (sW.drop (17*i)) p xd.1.1>>=GD:gH k_)).wrap b f id id=(xt xd.1.1 (yM i) p).wrap (λU=>((match U with|.done a=>pure a|.yield a=>forIn (sW.drop (17*(i+1))) a xd.1.1:gH DS)>>=GD).wrap b f id id) f id id:=by
  conv=>lhs;rw[o]
  rw[Rd,bind_assoc,gH.bind_eq_wrap',gH.wrap_wrap];exact gH.wrap_congr _ _ _ (λU=>by cases U<;>rfl) λJ=>rfl
 rw[H];obtain ⟨k,c,g⟩:=seg_top (res:=S5) (K':=λU=>((match U with|.done a=>pure a|.yield a=>forIn (sW.drop (17*(i+1))) a xd.1.1:gH DS)>>=GD).wrap b f id id) (H':=f) (B:=B0) (gd:=id) (lv:=id) rfl n s (Wt i p e)
  ⟨(xt xd.1.1 (yM i) p).wrap (λU=>((match U with|.done a=>pure a|.yield a=>forIn (sW.drop (17*(i+1))) a xd.1.1:gH DS)>>=GD).wrap b f id id) f id id,u1,e,B0⟩ _ _ _ _ ⟨rfl,rfl,.inl ⟨rfl,rfl,_,rfl,rfl⟩⟩ h
 cases S4 c
 exact g NNq U j
abbrev OF (c:Nat)(p:DS)(e:dB):Thread:=⟨(forIn (sW.drop (17*c)) p xd.1.1>>=GD).wrap doneF deadEnd id id,u1,e,B0⟩
theorem TQ {U:ay}{a:List gv}(f:segRun dD pw w 11 tv 1 n s (OF t p e)=Y (.next,s',u1,c))(i:jk dD pw w 11 tv NNq s' (restOf a uq u1 c B0)=Y U) :
  jk dD pw w 11 tv (n+NNq) s ⟨(forIn (sW.drop (17*t)) p xd.1.1>>=GD).wrap (KR a) (leaveH uq) id id,u1,e,B0⟩=Y U:=by
 obtain ⟨T,o,b⟩:=seg_top (res:=id) (K':=KR a) (H':=leaveH uq) (B:=B0) (gd:=id) (lv:=id) rfl n s (OF t p e)
  ⟨(forIn (sW.drop (17*t)) p xd.1.1>>=GD).wrap (KR a) (leaveH uq) id id,u1,e,B0⟩ _ _ _ _ ⟨rfl,rfl,.inl ⟨rfl,rfl,_,rfl,rfl⟩⟩ f
 obtain rfl:T=.next:=o;exact b NNq U i
end
noncomputable abbrev S0 (n:d7)(u:OsState):ay:=⟨gy n.params,gw [],eZ,ou,u⟩
theorem ahs (n)(u):topGo dD pw n 11 tv 12 (S0 n u) (topStub pw)=Y ((SS L' n u).abs,⟨denote dD u1,u1,⟨0,0,0,0⟩,B0⟩):=by kernel_rfl
theorem ab4 (n)(u):segRun dD pw n 11 tv 1 1 (SS L' n u).abs (blockOf Pc uq u1 ⟨0,0,0,0⟩ B0)=Y (.next,(SS L' n u).abs,u1,⟨0,0,0,0⟩):=by kernel_rfl
theorem adP:∀n:d7,(fencedOpening dD pw n 1000000).map (λU=>(U.heap,U.gens,U.drawn,U.toks))=Y (gy n.params,gw [],eZ,ou):=boot_open (by kernel_rfl) (by decide) (by intro U;kernel_rfl)
noncomputable def KF (T:cF):Frag:=(1,boot_o_1 T)::(2,boot_o_2 T)::(3,(A5 T).2.1)::(121,oS0)::(122,oS1)::(128,Z')::(129,Z_)::(30,J4)::(37,J4)::(64,oB T)::(75,oL)::(185,J4)::r2 kf (r3 kf (r4 kf (r5 kf (r6 kf (r7 kf (r10 kf (VB kf (r15 kf (r16 kf (r17 kf (r18 kf (r19 kf (r20 kf (r21 kf (r23 kf (r24 kf (r25 kf (r26 kf (r27 kf (r28 kf (r29 kf (r30 kf (r31 kf (r32 kf []))))))))))))))))))))))))
noncomputable abbrev KQ:List bK:=[1,2,3,121,122,128,129,30,37,64,75,185,20,21,27,28,34,35,41,42,48,49,55,56,73,74,119,120,135,136,142,143,149,150,156,157,163,164,170,171,177,178,182,183,189,190,196,197,203,204,210,211,215,216,222,223,227,228,232,233,237,238]
noncomputable abbrev qv:iF:={ pw with main:={ pw.main with body:=[s_ 32] } }
noncomputable abbrev yb:List ba:=["SubElement","_div2n1n","_div3n2n","_int2digits","_digits2int","_divmod_pos","int_divmod","in_table_b1","map_table_b3","_serialize_text","_raise_serialization_error","_escape_cdata","_escape_attrib","_escape_attrib_html","_escape_cdata_c14n","_escape_attrib_c14n","_law_read","_law_element","_law_page","_law_taken_apart","_law_above","_law_whole","_law_figures","_law_changes","_law_leaves","b1_set","b3_exceptions","_DIV_LIMIT"].map az
noncomputable abbrev H1 (T:cF):fP:=absHeap (A5 T).1 239 {}
theorem ade:∀n:d7,((gy n.params).isNs dg&&(gw []:Array GenState).size==0,(gy n.params).objs.size,(gy n.params).nsMap dg "__annotations__")=(true,11,tv):=λn=>by kernel_rfl
noncomputable abbrev WQ:ay->Bool:=λU=>xlAt qv [] U&&recOk [] U
theorem ad2 (n:d7)(u):(staticsOk (jZ pw.main.body) (gy n.params) (H1 n.params)&&namesBound pw (H1 n.params)&&gensDone ⟨H1 n.params,#[],eZ,2459,u⟩&&laidKept (gy n.params) (H1 n.params))=true:=by kernel_rfl
theorem ad1 (n:d7)(u):openSeen qv yb (jZ pw.main.body) WQ true ⟨H1 n.params,#[],eZ,2459,u⟩=openGood qv yb:=by kernel_rfl
theorem ad0 (n:d7)(u):X.obsZ KQ ⟨H1 n.params,#[],eZ,2459,u⟩=X.valZ KF 239 2459 n:=by kernel_rfl
section
theorem ad5 (U):∀w:d7,FH w 11 tv 1 500 (SS (hc 37) w U) (OF 38 (Y 75,[]) ⟨80,16,80,8704⟩)=Y (.next,SS Ul w U,u1,⟨80,0,80,13⟩):=sg (λw=>by kernel_rfl) (λw=>by kernel_rfl)
variable {w:d7}{b:OsState}
theorem Ux:jk dD pw w 11 tv 2 (SS A5 w b).abs ⟨doneF .next,u1,⟨262,0,282,150⟩,B0⟩=Y (SS A5 w b).abs:=by kernel_rfl
abbrev RX (n:d7)(U:OsState)(c:Nat)(d:HF)(a:List gv)(e:dB):Prop:=jk dD pw n 11 tv c (SS d n U).abs (restOf a uq u1 e B0)=Y (SS A5 n U).abs
theorem sR {a:List gv}(c:∀b w,PC i NNq h h' p p' b w)(d:RX w b n h' a p'):RX w b (NNq+n) h ([s_ i]++a) p:=piece_app (oq (adj (c b w))) d
theorem cR {U:ay}{f:k_->gH Fin}{d:aj->gH Fin}(g:∀b w,CK c b w)(e:jk dD pw w 11 tv NNq (SS (hc (c+1)) w b).abs ⟨(forIn (sW.drop (17*(c+1+1))) ((Y 75,[]):DS) xd.1.1>>=GD).wrap f d id id,u1,⟨80,16,80,8704⟩,B0⟩=Y U) :
  jk dD pw w 11 tv (400+NNq) (SS (hc c) w b).abs ⟨(forIn (sW.drop (17*(c+1))) ((Y 75,[]):DS) xd.1.1>>=GD).wrap f d id id,u1,⟨80,16,80,8704⟩,B0⟩=Y U:=RJ (oq (N_ (g b w))) e
abbrev TT (n:d7)(L:OsState)(U:ay)(e:k_->gH Fin)(d:aj->gH Fin)(c T:Nat):Prop:=jk dD pw n 11 tv T (SS (hc c) n L).abs ⟨(forIn (sW.drop (17*(c+1))) ((Y 75,[]):DS) xd.1.1>>=GD).wrap e d id id,u1,⟨80,16,80,8704⟩,B0⟩=Y U
theorem cka (c)(G:c<37)(U)(n):CK c U n:=(ckA _ (ckB _ (ckC _ (ckD _ (ckE _ (ckF _ (ckG _ (ckH _ (ckI [] nofun)))))))):AL (aq 37)) c (bF.mpr G) U n
theorem cRn {U:ay}{c:k_->gH Fin}{d:aj->gH Fin}(e:TT w b U c d 37 NNq):∀n,n<=37->TT w b U c d (37-n) (Nat.rec NNq (λJ t=>400+t) n)
 |0,J=>e|n+1,x=>cR (cka _ (hZ (by decide) n.succ_pos)) ((aH (je x):37-(n+1)+1=37-n).symm▸cRn e n (b6 x))
theorem cRs {U:ay}{c:k_->gH Fin}{d:aj->gH Fin}(e:TT w b U c d 37 NNq):TT w b U c d 0 (Nat.rec NNq (λJ h=>400+h) 37):=cRn e 37 (ag _)
theorem Yn:Pc=(aq 33).map s_:=by kernel_rfl
theorem r_0:RX w b 18592 L' ((aq 33).map s_) ⟨0,0,0,0⟩:=Eq.mp (by kernel_rfl) (sR ahD (sR ahC (sR ahB (sR ahA (sR ahz (sR ahy (sR ahx (sR ahw (sR ahv (sR ahu (sR adM (Yr (RJ (i:=0) (oq (N_ (aih b w))) (cRs (TQ (oq (N_ (ad5 b w))) (sR adL (sR adK (sR adJ (sR adI (sR adH (sR adG (sR adF (sR adE (sR adD (sR adC (sR adB (sR adA (sR adz (sR ady (sR adx (sR adw (sR adv (sR adu (sR adt (sR ads (sR adq (piece_nil Ux)))))))))))))))))))))))))))))))))))))
theorem ahm (n)(U):jk dD pw n 11 tv (12+(1+18592)) (S0 n U) (topStub pw)=Y (SS A5 n U).abs:=go_top (ahs n U) (piece_block (ab4 n U) (by rw[Yn];exact r_0))
end
theorem aho (n)(u):jk dD pw n 11 tv 18605 ⟨gy n.params,gw [],eZ,ou,u⟩ (topStub pw)=Y ⟨H1 n.params,#[],eZ,2459,u⟩:=Eq.mp (by kernel_rfl) (ahm n u)
theorem adZ (n:d7):(λu=>((staticsOk (jZ pw.main.body) (gy n.params) (H1 n.params)&&namesBound pw (H1 n.params)&&gensDone ⟨H1 n.params,#[],eZ,2459,u⟩&&laidKept (gy n.params) (H1 n.params)),openSeen qv yb (jZ pw.main.body) WQ true ⟨H1 n.params,#[],eZ,2459,u⟩,X.obsZ KQ ⟨H1 n.params,#[],eZ,2459,u⟩))=λJ=>(true,openGood qv yb,X.valZ KF 239 2459 n):=funext λu=>by rw[ad2 n u,ad1 n u,ad0 n u]
theorem ad3:LeftO pw qv yb WQ (X.obsZ KQ) (X.valZ KF 239 2459) 1000000:=by
 refine LeftO.of_pieces (H₀:=gy) (H₁:=H1) (gs₀:=gw []) (gs₁:=#[]) (d₀:=eZ) (d₁:=eZ) (k₀:=ou) (k₁:=2459) (m₀:=11) (ann:=tv) (M:=18605) ?a ?b ?c ?d ?e
 case a=>exact adP
 case b=>exact ade
 case c=>exact aho
 case d=>decide
 case e=>exact adZ
end uK
end
section
set_option maxHeartbeats 200000
namespace uK
abbrev yT:=PySem.Challenge.rw_wc0030_02.row
noncomputable def dL:DefRec:=⟨"law",t9 (s_ 32),(match CP (s_ 32) with|.stmts a=>a|_=>[]),BZ (s_ 32),⟨262,0,282,150⟩⟩
theorem k1:defOf qv yT.name=Y (dL,[]):=by kernel_rfl
theorem k2:yT.prog.theDef yT.name=Y (dL.params,dL.body,dL.scope):=by kernel_rfl
theorem k3:kwWritten? dL.params.kwonlyargs dL.params.kw_defaults=Y []:=by kernel_rfl
theorem k4q:PySem.W.Fast.tw9446332074065402090 PySem.Challenge.rw_wc0030_02=true:=by kernel_rfl
theorem k4:PySem.Challenge.rw_wc0030_02.wellSaid=true:=(congrFun PySem.W.Fast.te9446332074065402090 _).trans k4q
theorem k5:(chainsOk qv&&opensWell yT.prog&&(frees yT.toRowW&&yT.within.isEmpty))=true:=by decide +kernel
theorem k6:yT.prog.bare:=⟨rfl,rfl,rfl,rfl,rfl,by decide +kernel⟩
theorem aa2 (b:yT.toRowW.promised)(a:WalkX qv yb (XL qv []) (X.obsZ KQ) (X.valZ KF 239 2459) yT.toRowW dL [] λs c=>PySem.call s c):PySem.Challenge.rw_wc0030_02.Holds:=by
 refine holds_law k4 λe=>?_
 refine holds_openX (r:=yT) (q:=qv) (loose:=yb) (Xt:=WQ) (XP:=XL qv []) (Yf:=X.obsZ KQ) (Ya:=X.valZ KF 239 2459) (d:=dL) (kwd:=[]) (N:=1000000) ?h1 ?h2 ?h3 ?h4 ?h5 ?h6 ?h7 ?h8 ?h9 ?Wc ?h11 ?h12 ?h13
 case h1=>exact ad3
 case h2=>exact λU i=>xl_of U (ib.mp i).1
 case h3=>exact XL.keeps
 case h4=>exact k1
 case h5=>exact k2
 case h6=>exact k3
 case h7=>exact λU i=>recFacts_of (ib.mp i).2
 case h8=>rfl
 case h9=>exact e
 case Wc=>exact k5
 case h11=>exact k6
 case h12=>exact b
 case h13=>exact a
end uK
end
noncomputable section
set_option maxHeartbeats 1000000
namespace Vm
theorem nS {o:Type _}{G:o}{v:Prop}(e:(N:Option o)=Y G):v:=nomatch e
theorem sN {o:Type _}{G:o}{v:Prop}(e:Y G=(N:Option o)):v:=nomatch e
theorem fT {o:Prop}(e:false=true):o:=nomatch e
theorem tF {o:Prop}(e:true=false):o:=nomatch e
theorem sI {o:Type _}{G p:o}{v:Prop}(e:Y G=Y p) (b:G=p->v):v:=b<|ae e
theorem sz {o v:Type _}{G p:o}{a c:v}{A:Prop}(e:Y (G,a)=Y (p,c)) (b:G=p->a=c->A):A:=b (qo nI<|ae e)<|qo Prod.snd<|ae e
theorem ahH {o:Type _}{G:o}{a:List o}{v:Prop}(e:[]=G::a):v:=nomatch e
theorem Wr {o:Type _}{G:o}{a:List o}{v:Prop}(e:G::a=[]):v:=nomatch e
theorem qX {o:Type _}{v:Prop} [Decidable v] {y:Option o}{G:o}{A:Prop}(e:(if v then y else N)=Y G) (b:v->y=Y G->A):A:=by
 by_cases p:v
 .exact b p (by rw[qm p] at e;exact e)
 .rw[qn p] at e;exact nS e
theorem aaD {o:Type _}{v:Prop} [Decidable v] {y h:Option o}{G:o}{A:Prop}(e:(if v then y else h)=Y G) (b:v->y=Y G->A) (d:¬v->h=Y G->A):A:=if p:v then b p ((qm p).symm.trans e) else d p ((qn p).symm.trans e)
theorem rX {o:Type _}{v:Prop} [Decidable v] {y:Option o}{G:o}{A:Prop}(e:(if v then N else y)=Y G) (b:¬v->y=Y G->A):A:=by
 by_cases p:v
 .rw[qm p] at e;exact nS e
 .exact b p (by rw[qn p] at e;exact e)
@[elab_as_elim] theorem sE {o v:Type _}{G p:o}{a c:v}{b:o->v->Prop}(e:Y (G,a)=Y (p,c))(q:b G a):b p c:=sz e λi n=>J i<|J n q
@[elab_as_elim] theorem A1 {q v:Type _}{b:q->v}{o:Option q}{G:v}{d:v->Prop}(e:o.map b=Y G)(k:∀p,o=Y p->d (b p)):d G:=by
 cases o with
 |none=>exact nS e|some p=>exact J (ae e)<|k p rfl
theorem qO {q v:Type _}{b:q->v}{o:Option q}{G:v}{A:Prop}(e:o.map b=Y G) (d:∀p,o=Y p->b p=G->A):A:=by
 cases o with
 |none=>exact nS e|some p=>exact d p rfl<|ae e
theorem so {q v:Type _}{b:q->Option v}{o:Option q}{G:v}{A:Prop}(e:o.bind b=Y G) (d:∀p,o=Y p->b p=Y G->A):A:=by
 cases o with
 |none=>exact nS e|some p=>exact d p rfl e
@[elab_as_elim] theorem rwE {o:Sort _}{G p:o}{b:o->Prop}(e:G=p)(a:b p):b G:=Q e a
theorem gk {o:Prop}(b:∀v:Prop,(o->v)->v):o:=b o id
theorem wpAny_toks {o:Type}{v:gH o}{T:o->ay->Prop}{d:aj->ay->Prop}{U:ay}(e:wpAny q_ A v (λG s=>U.toks<=s.toks->T G s) (λG s=>U.toks<=s.toks->d G s) U):wpAny q_ A v T d U:=wpAny_with_toks (ag _) e
end Vm
end
noncomputable section
namespace zt
open PySem.Flt
theorem Bp:eX (.type "function") "__getattr__"=pure N:=by refine Q (dM ..)<|Q (cx ..) ?_;kernel_rfl
theorem wX:Slot "function" "__getattribute__" "object.__getattribute__":=
 .of (owner:="object") (n:="__getattribute__") (by refine Q (dM ..)<|Q (cx ..) ?_;kernel_rfl) rfl rfl rfl
  (by first|exact .inl rfl|exact .inr rfl) (by refine Q (d6 ..) ?_;kernel_rfl)
theorem yx:Slot "function" "__setattr__" "object.__setattr__":=
 .of (owner:="object") (n:="__setattr__") (by refine Q (dM ..)<|Q (cx ..) ?_;kernel_rfl) rfl rfl rfl
  (by first|exact .inl rfl|exact .inr rfl) (by refine Q (d6 ..) ?_;kernel_rfl)
theorem Hm:kg (.type "function") (.type "staticmethod")=pure false:=by refine Q (d6 ..) ?_;kernel_rfl
theorem Hn:kg (.type "function") (.type "classmethod")=pure false:=by refine Q (d6 ..) ?_;kernel_rfl
theorem UT:(mW "object.__getattribute__" != "object.__getattribute__")=false:=rfl
theorem UI:j8 pd "object.__getattribute__"=Y fH.«object.__getattribute__»:=F.entry_object_getattribute
theorem YE (s a):pV "object.__getattribute__" ⟨[s,a],[]⟩:=by kernel_rfl
theorem YD (s a h):pV "object.__setattr__" ⟨[s,a,h],[]⟩:=by kernel_rfl
theorem UH:j8 pd "object.__setattr__"=Y fH.«object.__setattr__»:=jL (by kernel_rfl)
theorem aan:mroOf (.type "function")=pure [.type "function",.type "object"]:=by refine Q (mroOf_type ..) ?_;kernel_rfl
def Vb (i:fP)(v q:bK)(n:FuncData)(b:ba->Option aj):Prop:=i.get? v=Y ⟨.type "function",Y q,.func n,#[]⟩/\i.Ns q b
section
variable {a:OsState}
theorem Ut {y:pJ}{U:Fin->ay->Prop}(u:Vb h x D fd md)(e:eX (.type "function") name=pure N)(i:md name=Y v)(I:U (.done (.ret v)) ⟨h,g,d,t,a⟩):wpAny (model G n) A (fH.«object.__getattribute__» ⟨[.ref x,.str name y],[]⟩) U E ⟨h,g,d,t,a⟩:=by
 obtain ⟨o,k⟩:=u;have L:(⟨h,g,d,t,a⟩:ay).TypeIs (.ref x) "function":=⟨_,o,rfl⟩;have z:=Hm;have H:=Hn
 repeat (any_goals (first|assumption|with_reducible apply wpAny_nsGet_known|with_reducible apply wpAny_loadPart_known|wp_step))
theorem Fb {U:aj->ay->Prop}(w:Vb h x D fd md)(e:eX (.type "function") name=pure N)(i:md name=Y v)(o:handedOut v=pure v)(I:U v ⟨h,g,d,t+1,a⟩):wpAny (model G n) A (getAttr (.ref x) name ex) U E ⟨h,g,d,t,a⟩:=by
 have z:=w.1;have L:(⟨h,g,d,t,a⟩:ay).TypeIs (.ref x) "function":=⟨_,z,rfl⟩;have u:(⟨h,g,d,t+1,a⟩:ay).TypeIs (.ref x) "function":=⟨_,z,rfl⟩;have H:=wX.lookup;have c:=Bp;have k:=wX.bind (.ref x)
 cases ex
 all_goals (
  repeat (any_goals (first|assumption|(rw[qn (show ¬(true&&onTheHeap (hH "object.__getattribute__"))=true by decide)])|wp_step))
  refine fy wX.plain UI (wX.check _ _ _ _ _ _ _ _ u (YE _ _) (Ut w e i ?_))
  repeat (any_goals (first|assumption|wp_step)))
theorem J0 {U:aj×List aj->ay->Prop}(u:Vb h x D fd md)(e:eX (.type "function") name=pure N)(i:md name=Y v)(o:handedOut v=pure v)(H:U (v,[]) ⟨h,g,d,t+1,a⟩):wpAny (model G n) A (getMethod (.ref x) name pl) U E ⟨h,g,d,t,a⟩:=by
 have z:=u.1;have I:(⟨h,g,d,t,a⟩:ay).TypeIs (.ref x) "function":=⟨_,z,rfl⟩;refine af (iU I wX.lookup ?_);refine (?_:wpAny _ A (if (mW "object.__getattribute__" != "object.__getattribute__")=true then _ else _) U E _);refine Q (UT ..) (Q (qn (by decide)) ?_);refine af (iU I Bp ?_);refine af (iU I e ?_);exact af (Fb u e i o (wpAny_pure H))
end
end zt
end
noncomputable section
namespace zt
open PySem.Flt Builtin Builtin.ObjectAttr
theorem Rf:∀s:aj,refuseLoop s "__setattr__" [.type "function",.type "object"]=pure ():=λs=>by kernel_rfl
theorem OS:typeHasDict (.type "function")=true:=by rfl
theorem Us:finalisedInACycleAlone "function"=false:=by rfl
section
variable {a:OsState}
theorem JZ {p:ba}{x:pJ}{U:Fin->ay->Prop}(s:h.Ns1 D md)(b:Within md ns)(G:ns.length<65536)(n:∀k q,k.Ns1 D (λj=>if j=p then Y v else md j)->fg D h k->U (.done (.ret .none)) ⟨k,g,d,q,a⟩) :
  wpAny q_ A (storeInDict D (.str p x) p v) U E ⟨h,g,d,t,a⟩:=by
 refine af (wpAny_pure (af (wpAny_nsSet1 s λk c u=>?_)));refine Eh (c.count (Within.cons p v b)) λo H T e i w=>?_
 refine af (wpAny_lookBehind e (by refine Q i ?_;exact pastItsLine_dict (aa w (by refine Q (aV ..) (Q (g9 ..) ?_);exact cb<|aa (bl G)<|by decide))) ?_)
 wp_walk
 exact n k _ c u
theorem Lj {y:pJ}{U:Fin->ay->Prop}(e:h.get? x=Y ⟨.type "function",dict,.func fd,#[]⟩)(i:eX (.type "function") name=pure N)(j:∀q,dict=Y q->wpAny (model G n) A (storeInDict q (.str name y) name v) U E ⟨h,g,d,t,a⟩)(p:dict=N->wpAny (model G n) A (storeInDict h.objs.size (.str name y) name v) U E ⟨(h.push { cls:=.type "dict",data:=.dict #[] }).update x λo=>{ cls:=o.cls,dict:=Y h.objs.size,data:=o.data,slots:=o.slots },g,d,t,a⟩) :
  wpAny (model G n) A (fH.«object.__setattr__» ⟨[.ref x,.str name y,v],[]⟩) U E ⟨h,g,d,t,a⟩:=by
 have H:(⟨h,g,d,t,a⟩:ay).TypeIs (.ref x) "function":=(qr _ e rfl);have s:=Rf (.ref x);have z:=aan
 repeat (first|refine Q (refuse_eq ..) ?_|refine ax z ?_|refine ax s ?_|wp_step)
 cases dict with
 |some q=>exact wpAny_pure (j q rfl)|none=>
  refine Q (OS ..) (Q (qn (by decide)) ?_);refine af (wpAny_alloc' ?_);refine af (wpAny_update' (aY _ e) ?_);delta dictMade;dsimp only;refine Q (Us ..) ?_
  first
   |exact wpAny_pure (p rfl)
   |exact af (wpAny_pure (wpAny_pure (p rfl)))
theorem E_ {T:Unit->ay->Prop}(e:h.get? x=Y ⟨.type "function",dict,.func fd,#[]⟩)(i:eX (.type "function") name=pure N)(j:∀q y,dict=Y q->∀(p:Fin->ay->Prop)(H:aj->ay->Prop),(∀U,T () U->p (.done (.ret .none)) U)->wpAny (model G n) A.in1 (storeInDict q (.str name y) name v) p H ⟨h,g,d,t+1,a⟩)(b:dict=N->∀y,∀(p:Fin->ay->Prop)(H:aj->ay->Prop),(∀U,T () U->p (.done (.ret .none)) U)->wpAny (model G n) A.in1 (storeInDict h.objs.size (.str name y) name v) p H ⟨(h.push { cls:=.type "dict",data:=.dict #[] }).update x λo=>{ cls:=o.cls,dict:=Y h.objs.size,data:=o.data,slots:=o.slots },g,d,t+1,a⟩) :
  wpAny (model G n) A (setAttr (.ref x) name v) T E ⟨h,g,d,t,a⟩:=by
 have I:(⟨h,g,d,t+1,a⟩:ay).TypeIs (.ref x) "function":=(qr _ e rfl);have s:=yx.lookup;have z:=yx.bind (.ref x)
 repeat (any_goals (first|assumption|wp_step))
 refine fy yx.plain UH (yx.check _ _ _ _ _ _ _ _ I (YD _ _ _) (Lj e i (λq u=>j q _ u _ _ λU L=>?_) λu=>b u _ _ _ λU L=>?_))
 all_goals (repeat (any_goals (first|assumption|wp_step)))
end
theorem zB:typeOf (.builtin "list.append")=pure (.type "method_descriptor"):=by kernel_rfl
theorem z6:Slot "method_descriptor" "__get__" "method_descriptor.__get__":=
 .of (owner:="method_descriptor") (n:="__get__") (by refine Q (dM ..)<|Q (cx ..) ?_;kernel_rfl) rfl rfl rfl
  (by first|exact .inl rfl|exact .inr rfl) (by refine Q (d6 ..) ?_;kernel_rfl)
theorem Kh:j8 pd "method_descriptor.__get__"=Y fH.«method_descriptor.__get__»:=jL (by kernel_rfl)
theorem Lq (s a h):pV "method_descriptor.__get__" ⟨[s,a,h],[]⟩:=by kernel_rfl
theorem QM:eX (.type "method_descriptor") "__set__"=pure N:=by refine Q (dM ..)<|Q (cx ..) ?_;kernel_rfl
theorem QN:eX (.type "method_descriptor") "__delete__"=pure N:=by refine Q (dM ..)<|Q (cx ..) ?_;kernel_rfl
theorem Zw:kb (.builtin "list.append") "__get__"=pure (Y<|.builtin "method_descriptor.__get__"):=by delta kb;exact Q (zB ..) z6.lookup
theorem Zv:kb (.builtin "list.append") "__set__"=pure N:=by delta kb;exact Q (zB ..) QM
theorem Zx:kb (.builtin "list.append") "__delete__"=pure N:=by delta kb;exact Q (zB ..) QN
theorem K7:Manifest.toldItsClass.contains "list.append"=false:=rfl
theorem sub_list_list:kg (.type "list") (.type "list")=pure true:=by refine Q (d6 ..) ?_;kernel_rfl
theorem Eu:kg (.type "list") (.type "module")=pure false:=by refine Q (d6 ..) ?_;kernel_rfl
theorem Lh:builtinKind "list.append"=Y .method:=rfl
theorem FA:Manifest.varargsMethods.contains "list.append"=false:=rfl
theorem I6:(Code.builtin "list.append" as).quiet=true:=Code.quiet_builtin _ (by decide +kernel)
theorem ER:eX (.type "list") "__getattr__"=pure N:=by refine Q (dM ..)<|Q (cx ..) ?_;kernel_rfl
theorem entry_list_ga:j8 pd "list.__getattribute__"=Y fH.«object.__getattribute__»:=entryFor_alias (id':="object.__getattribute__") (by kernel_rfl) rfl (by decide +kernel) (by kernel_rfl)
noncomputable def zV (g:String)(s:aj):gA:=⟨.type "builtin_function_or_method",N,.fields #[.builtin g,s],#[]⟩
section
variable {f:OsState}
theorem get_append {P:Fin->ay->Prop}(hx:h.get? a=Y ⟨.type "list",N,.seq xs k,#[]⟩)(hq:P (.done<|.ret<|.ref h.objs.size) ⟨h.push<|zV "list.append"<|.ref a,g,d,t,f⟩) :
  wpAny q_ A (fH.«method_descriptor.__get__» ⟨[.builtin "list.append",.ref a,.type "list"],[]⟩) P E ⟨h,g,d,t,f⟩:=by
 refine af<|iH (a:=(.builtin "list.append",Y<|.ref a,Y<|.type "list")) (by first|rfl|kernel_rfl) ?_
 dsimp only;refine Q (K7 ..)<|Q (qn<|by decide) ?_
 show wpAny q_ A (((kfb_private% "checkInstance") (.builtin "list.append")<|.ref a)>>=λJ=>newFields "builtin_function_or_method" [.builtin "list.append",.ref a]>>=λv=>ret v) P E _;have e:(kfb_private% "checkInstance") (.builtin "list.append") (.ref a)=(isInstance (.ref a) (.type "list")>>=λb=>if (!b)=true then (do rule "descr.get.wrong-instance";raiseError "TypeError" s!"descriptor '{("append" : Str).toString}' for '{← typeName (.type "list")}' objects doesn't apply to a '{← typeNameOf (.ref a)}' object") else pure ()):=by first|rfl|kernel_rfl
 exact Q e<|af<|af<|lP (qr _ hx rfl) sub_list_list<|wpAny_pure<|af<|fZ<|wpAny_pure hq
end
def K0 (f:String)(T:Args):Prop:=(match mD "list.append" with
 |N=>pure ()|Y p=>pS "list.append" { p with full:=f } T)=pure ()
theorem U9 (s a):K0 (toString (lg "list")++toString "."++toString (lg "list.append")) ⟨[s,a],[]⟩:=by delta K0;refine Q (signature?_of (id:="list.append") (n:=['d','n','e','p','p','a']) (o:=['t','s','i','l']) (by kernel_rfl) F.owner_list) ?_;kernel_rfl
section
variable {b:OsState}
theorem OD {x:pJ}{U:Fin->ay->Prop}(e:h.get? a=Y ⟨.type "list",N,.seq xs k,#[]⟩)(I:U (.done (.ret (.ref h.objs.size))) ⟨h.push (zV "list.append" (.ref a)),g,d,t,b⟩):wpAny (model G n) A (fH.«object.__getattribute__» ⟨[.ref a,.str "append" x],[]⟩) U E ⟨h,g,d,t,b⟩:=by
 have L:(⟨h,g,d,t,b⟩:ay).TypeIs (.ref a) "list":=⟨_,e,rfl⟩;have i:=F.slot_list_append.lookup;have o:=Zw;have z:=Zv;have H:=Zx;have u:(⟨h,g,d,t,b⟩:ay).TypeIs (.builtin "list.append") "method_descriptor":=zB;unfold fH.«object.__getattribute__»
 repeat (any_goals (first|assumption|with_reducible apply wpAny_loadPart_known|rw[o]|rw[z]|rw[H]|wp_step))
 exact fy z6.plain Kh (z6.check _ _ _ _ _ _ _ _ u (Lq _ _ _) (get_append e (wpAny_pure I)))
theorem FW {U:aj->ay->Prop}(e:h.get? a=Y ⟨.type "list",N,.seq xs k,#[]⟩)(H:U (.ref h.objs.size) ⟨h.push (zV "list.append" (.ref a)),g,d,t+1,b⟩):wpAny (model G n) A (getAttr (.ref a) "append" ex) U E ⟨h,g,d,t,b⟩:=by
 have I:(⟨h,g,d,t,b⟩:ay).TypeIs (.ref a) "list":=⟨_,e,rfl⟩;have u:(⟨h,g,d,t+1,b⟩:ay).TypeIs (.ref a) "list":=⟨_,e,rfl⟩;have i:=F.slot_list_getattribute.lookup;have o:=ER;have z:=F.slot_list_getattribute.bind (.ref a)
 cases ex
 all_goals (
  repeat (any_goals (first|assumption|(rw[qn (show ¬(true&&onTheHeap (hH "list.__getattribute__"))=true by decide)])|wp_step))
  refine fy F.slot_list_getattribute.plain entry_list_ga (F.slot_list_getattribute.check _ _ _ _ _ _ _ _ u (F.args_list_getattribute_2 _ _) (OD e ?_))
  repeat (any_goals (first|assumption|wp_step)))
theorem Ln {f:String}{e:dB}{g:List<|Bool×gH aj}{I:aj->ay->Prop}(h:g.any (·.1)=false)(d:wpAny L T (evalArgs (.ref v) true g []) (λU w=>w.heap.get? v=Y (zV f u)/\wpAny L T (call (.ref v) (first++U.pos) U.kw) I E w) E s):wpAny L T (j_ e (.ref v) first g []) I E s:=by
 refine af<|cU<|wpAny_mono d (λU w t=>af<|wpAny_standAt ?_) λJ J U=>U
 obtain ⟨i,c⟩:=t;exact Q h<|af (m:=keeperOf<|.ref v)<|af<|kQ i (Q (qm rfl)<|Q (qm rfl)<|wpAny_pure<|af<|wpAny_mono c (λa G H=>af<|cU<|wpAny_point<|wpAny_pure H) λJ J U=>U:wpAny L T (if (dk "builtin_function_or_method" != dk "method")=true then pure (if (dk "builtin_function_or_method"==dk "builtin_function_or_method"||dk "builtin_function_or_method"==dk "method-wrapper")=true then Keeper.machine else Keeper.caller) else _) _ E w)
theorem Kx {U:Unit->ay->Prop}(e:h.get? a=Y ⟨.type "list",N,.seq xs k,#[]⟩)(G:U () ⟨h,g,d,t,b⟩):wpAny q_ A (checkBoundCall "list.append" ⟨[.ref a,v],[]⟩) U E ⟨h,g,d,t,b⟩:=by
 have H:(⟨h,g,d,t,b⟩:ay).TypeIs (.ref a) "list":=qr _ e rfl;delta checkBoundCall
 cases i:mD "list.append" with
 |none=>exact wpAny_pure G|some p=>
  refine Q (Lh ..) ?_;dsimp only;refine Q (qn<|by decide)<|af<|lP H Eu<|Q (FA ..)<|Q (qn<|by decide)<|af<|af<|wpAny_loadPart_known e<|wpAny_pure<|Q (qn<|show ¬(false=true) by decide)<|af<|wpAny_typeOf H ?_
  have:=U9 (.ref a) v;unfold K0 at this
  rw[i] at this
  have this:pS "list.append" { p with full:=toString (lg "list")++toString "."++toString (lg "list.append") } ⟨[.ref a,v],[]⟩=pure ():=this;dsimp only;exact Q this<|wpAny_pure G
theorem Ym {U:ay}{L:aj->ay->Prop}(e:U.heap.get? u=Y (zV "list.append"<|.ref a))(i:U.heap.get? a=Y ⟨.type "list",N,.seq xs n,#[]⟩)(w:xs.size<=j6)(H:L .none { U with heap:=U.heap.update a<|iX (·.push v) }):wpAny (model G o) A (call (.ref u) [v]) L E U:=by
 refine m8<|mz<|af<|kQ e (Q (qm rfl) ?_:wpAny _ A.in1 (if (dk "builtin_function_or_method"==dk "method"||dk "builtin_function_or_method"==dk "builtin_function_or_method"||dk "builtin_function_or_method"==dk "method-wrapper")=true then _ else _) _ _ U)
 show wpAny _ A.in1 (if (dk "builtin_function_or_method" != dk "method")=true then _ else _) _ _ U;refine Q (qm rfl) ?_;obtain ⟨j,I,T,t,b⟩:=U;exact af<|Kx i<|af<|wpAny_pure<|wpAny_pure<|⟨I6,codeAny_builtin F.entry_list_append<|gF a xs n v w G o A (wants L E) _ ⟨i,H⟩⟩
end
end zt
end
noncomputable section
namespace Vm
inductive V where
 |none|bool (b:Bool)|int (i:Int)|str (s:ba)
 |tup (l:List V)|lst (l:List V)|ru (ks vs:List V)
 |tS (a b c:Int)
 |qu (s:ba)|ref (i:Nat)|con (v:aj)|bm (id:String) (self:V)
 deriving Inhabited
theorem V.str.inj (e:V.str a=V.str b):a=b:=qo (λk:V=>match k with|.str f=>f|_=>a) e
structure wQ where
 params:iD
 body:lH
 scope:eV
 qual:ba
inductive O where
 |gone
 |list (l:List V)
 |dict (ks vs:List V)
 |cell (v:Option V)
 |fn (f:wQ) (cells:List<|ba×Nat) (d:Option Nat)
 |ns (l:List<|ba×V)
noncomputable def tA:V->V->Option Bool
 |.int a,.int b=>Y<|decide<|a=b
 |.str a,.str b=>Y<|decide<|a=b
 |J,W=>N
def rk (a:List V):Prop:=a.Pairwise λk L=>tA k L=Y false
abbrev Tm:=pJ->Option ba
def Tm.le (L G:Tm):Prop:=∀x q,L x=Y q->G x=Y q
noncomputable def Tm.put (L:Tm)(x:pJ)(q:ba):Tm:=λs=>if s=x then Y q else L s
theorem Tm.rP (L:Tm)(x)(q):L.put x q x=Y q:=qm rfl
theorem Tm.le.refl (L):Tm.le L L:=λJ J e=>e
theorem Tm.le.trans {L f:Tm}(h:Tm.le L sO)(g:Tm.le sO f):Tm.le L f:=λx q e=>g x q<|h x q e
theorem Tm.vM {T:Tm}(e:T x=N):Tm.le T<|T.put x q:=λs j i=>by
 delta Tm.put
 by_cases n:s=x
 .subst n;revert i;refine Q e ?_;intro i;cases i
 .exact Q (qn n) i
abbrev Gm:=bK->Option gA
structure Gh where
 I:Gm
 F:Gm
 T:Tm
def Gm.le (s a:Gm):Prop:=∀v G,s v=Y G->a v=Y G
noncomputable def Gm.put (s:Gm)(v:bK)(o:gA):Gm:=λq=>if q=v then Y o else s q
theorem Gm.le.refl (s):Gm.le s s:=λJ J e=>e
theorem Gm.le.trans {s f:Gm}(h:Gm.le s sO)(e:Gm.le sO f):Gm.le s f:=λv G g=>e v G<|h v G g
theorem Gm.vM {I:Gm}(e:I v=N):Gm.le I<|I.put v o:=λq s i=>by
 delta Gm.put
 by_cases n:q=v
 .subst n;revert i;refine Q e ?_;intro i;cases i
 .exact Q (qn n) i
theorem Gm.rP (s:Gm)(v)(o):s.put v o v=Y o:=qm rfl
theorem Gm.sr {s:Gm}(c:b≠a):s.put a o b=s b:=qn c
def acG (U:cF)(g:DictEntry):V->Prop
 |.str q=>(∃x,g.key=.str q x)/\g.hash=fV U q|.int q=>(∃x,g.key=.int q x)/\g.hash=qf q
 |_=>False
abbrev RL:=(List aj->Prop)×(List V->List DictEntry->Prop)
noncomputable abbrev ZT:RL:=⟨λU=>U=[],λf j=>f=[]/\j=[]⟩
noncomputable abbrev ZV (U:cF)(b:aj->Prop)(u:RL):RL:=⟨λL=>∃s f,L=s::f/\b s/\u.1 f,λj v=>∃k G g d,j=k::G/\v=g::d/\acG U g k/\b g.val/\u.2 G d⟩
section
variable (P:cF) (T:Tm) (I:Gm) (p:List bK)
def Rep (k:V):aj->Prop:=V.rec
 (λs=>s=.none) (λU s=>s=.bool U) (λq s=>∃x,s=.int q x) (λt s=>∃x,s=.str t x)
 (λJ u s=>∃v f c,s=.ref v/\I v=Y ⟨.type "tuple",N,.seq (c9 f) c,#[]⟩/\u.1 f)
 (λJ u s=>∃v f c,s=.ref v/\I v=Y ⟨.type "list",N,.seq (c9 f) c,#[]⟩/\u.1 f)
 (λj J J u s=>∃v w c,s=.ref v/\I v=Y ⟨.type "dict",N,.dict (c9 w) c,#[]⟩/\rk j/\u.2 j w)
 (λv U a s=>∃x y z A,s=.ref A/\I A=Y ⟨.type "range",N,.fields #[.int v x,.int U y,.int a z],#[]⟩)
 (λt s=>∃x,s=.str t x/\T x=Y t) (λq s=>∃v,s=.ref v/\p[q]?=Y v) (λk s=>s=k)
 (λg J z s=>∃b v,s=.ref v/\I v=Y ⟨.type "builtin_function_or_method",N,.fields #[.builtin g,b],#[]⟩/\z b)
 ZT (λJ J z u=>ZV P z u) k
def acE (f:List V):RL:=V.rec_1
 (λs=>s=.none) (λU s=>s=.bool U) (λq s=>∃x,s=.int q x) (λt s=>∃x,s=.str t x)
 (λJ u s=>∃v j c,s=.ref v/\I v=Y ⟨.type "tuple",N,.seq (c9 j) c,#[]⟩/\u.1 j)
 (λJ u s=>∃v j c,s=.ref v/\I v=Y ⟨.type "list",N,.seq (c9 j) c,#[]⟩/\u.1 j)
 (λw J J u s=>∃v G c,s=.ref v/\I v=Y ⟨.type "dict",N,.dict (c9 G) c,#[]⟩/\rk w/\u.2 w G)
 (λv U a s=>∃x y z A,s=.ref A/\I A=Y ⟨.type "range",N,.fields #[.int v x,.int U y,.int a z],#[]⟩)
 (λt s=>∃x,s=.str t x/\T x=Y t) (λq s=>∃v,s=.ref v/\p[q]?=Y v) (λb s=>s=b)
 (λg J z s=>∃h v,s=.ref v/\I v=Y ⟨.type "builtin_function_or_method",N,.fields #[.builtin g,h],#[]⟩/\z h)
 ZT (λJ J z u=>ZV P z u) f
def qJ (f:List V)(U:List aj):Prop:=(acE P T I p f).1 U
def rJ (f j:List V)(u:List DictEntry):Prop:=(acE P T I p j).2 f u
end
theorem Rep.bool (U):Rep P T I p (.bool U)<|.bool U:=rfl
theorem Rep.int (q)(x):Rep P T I p (.int q)<|.int q x:=⟨x,rfl⟩
theorem Rep.str (q)(x):Rep P T I p (.str q)<|.str q x:=⟨x,rfl⟩
theorem Rep.qu (e:T t=Y s):Rep P T I p (.qu s)<|.str s t:=qr t rfl e
theorem Rep.con (s):Rep P T I p (.con s) s:=rfl
theorem Rep.ref (e:p[i]?=Y a):Rep P T I p (.ref i)<|.ref a:=qr a rfl e
theorem Rep.tup {f:List V}{vs:List aj}(e:I a=Y ⟨.type "tuple",N,.seq vs.toArray n,#[]⟩)(b:qJ P T I p f vs):Rep P T I p (.tup f)<|.ref a:=Ed a vs n rfl e b
theorem Rep.lst {f:List V}{j:List aj}(e:I a=Y ⟨.type "list",N,.seq j.toArray n,#[]⟩)(b:qJ P T I p f j):Rep P T I p (.lst f)<|.ref a:=Ed a j n rfl e b
theorem Rep.ru {u:List DictEntry}(e:I a=Y ⟨.type "dict",N,.dict u.toArray n,#[]⟩)(o:rk ks)(y:rJ P T I p ks vs u):Rep P T I p (.ru ks vs)<|.ref a:=AJ a u n rfl e o y
theorem Rep.tS {v:pJ}{w:bK}(e:I w=Y ⟨.type "range",N,.fields #[.int a t,.int b u,.int c v],#[]⟩):Rep P T I p (.tS a b c)<|.ref w:=Hy t u v w rfl e
theorem Rep.bm {f:String}(e:I a=Y ⟨.type "builtin_function_or_method",N,.fields #[.builtin f,self],#[]⟩)(G:Rep P T I p v self):Rep P T I p (.bm f v)<|.ref a:=tb self a rfl e G
theorem Rep.none:Rep P T I p .none .none:=rfl
theorem qJ.nil:qJ P T I p [] []:=rfl
theorem qJ.cons {f:List V}{U:List aj}(G:Rep P T I p k c)(a:qJ P T I p f U):qJ P T I p (k::f)<|c::U:=tb c U rfl G a
theorem rJ.nil:rJ P T I p [] [] []:=⟨rfl,rfl⟩
theorem rJ.str (e:h=fV P x)(G:Rep P T I p k c)(y:rJ P T I p ks vs es):rJ P T I p (.str x::ks) (k::vs)<|⟨h,.str x t,c⟩::es:=Hx _ _ _ _ rfl rfl (⟨⟨t,rfl⟩,e⟩) G y
theorem rJ.int (e:h=qf x)(G:Rep P T I p k c)(y:rJ P T I p ks vs es):rJ P T I p (.int x::ks) (k::vs)<|⟨h,.int x t,c⟩::es:=Hx _ _ _ _ rfl rfl (⟨⟨t,rfl⟩,e⟩) G y
theorem rJ.vt (y:rJ P T I p ks [] es):ks=[]/\es=[]:=y
theorem rJ.aad (y:rJ P T I p [] f j):f=[]/\j=[]:=by
 cases f with
 |nil=>exact ⟨rfl,y.2⟩|cons k f=>exact y.elim λL y=>y.elim λd y=>y.elim λg y=>y.elim λj y=>nomatch y.1
theorem rJ.sk (y:rJ P T I p (k::ks) (L::vs) es):∃g G,es=g::G/\acG P g k/\Rep P T I p L g.val/\rJ P T I p ks vs G:=y.elim λA y=>y.elim λd y=>y.elim λg y=>y.elim λG y=>uv g G y.2.1 (Q ((fF y.1).1) y.2.2.1) y.2.2.2.1<|Q ((fF y.1).2) y.2.2.2.2
def rm (U f:List bK):Prop:=∀(c:Nat)(v:bK),U[c]?=Y v->f[c]?=Y v
theorem rm.refl (U):rm U U:=λJ J e=>e
theorem rm.trans (h:rm a b)(i:rm b c):rm a c:=λd v e=>i d v<|h d v e
theorem rm.push (p)(v):rm p<|p++[v]:=λc q e=>by refine Q (bD<|(aO.mp e).1) ?_;exact e
abbrev CW (U:cF)(L H:Tm)(s a:Gm)(A f:List bK)(j:List V):Prop:=(∀z,qJ U L s A j z->qJ U H a f j z)/\∀G d,rJ U L s A G j d->rJ U H a f G j d
theorem qJ.up {j:List V}(b:∀s,Rep P T I p v s->Rep P T' I' wa v s)(k:CW P T T' I I' p wa j):CW P T T' I I' p wa<|v::j:=⟨λJ a=>a.imp λJ a=>a.imp λJ a=>⟨a.1,b _ a.2.1,k.1 _ a.2.2⟩,λJ J a=>a.imp λJ a=>a.imp λJ a=>a.imp λJ a=>a.imp λJ a=>Ef a.1 a.2.1 a.2.2.1 (b _ a.2.2.2.1)<|k.2 _ _ a.2.2.2.2⟩
theorem Rep.mono (w:Tm.le T T')(U:Gm.le I I')(d:rm p wa):∀{s:aj},Rep P T I p n s->Rep P T' I' wa n s:=
 V.rec (motive_1:=λn=>∀{s:aj},Rep P T I p n s->Rep P T' I' wa n s)
  id (λJ J=>id) (λJ J=>id) (λJ J=>id)
  (λJ k J G=>G.imp λJ G=>G.imp λJ G=>G.imp λJ G=>⟨G.1,U _ _ G.2.1,k.1 _ G.2.2⟩) (λJ k J G=>G.imp λJ G=>G.imp λJ G=>G.imp λJ G=>⟨G.1,U _ _ G.2.1,k.1 _ G.2.2⟩)
  (λJ J J k J G=>G.imp λJ G=>G.imp λJ G=>G.imp λJ G=>td G.1 (U _ _ G.2.1) G.2.2.1<|k.2 _ _ G.2.2.2)
  (λJ J J J G=>G.imp λJ G=>G.imp λJ G=>G.imp λJ G=>G.imp λJ G=>⟨G.1,U _ _ G.2⟩)
  (λJ J G=>G.imp λJ G=>⟨G.1,w _ _ G.2⟩) (λJ J G=>G.imp λJ G=>⟨G.1,d _ _ G.2⟩) (λJ J=>id)
  (λJ J k J G=>G.imp λJ G=>G.imp λJ G=>⟨G.1,U _ _ G.2.1,k G.2.2⟩)
  ⟨λJ=>id,λJ J=>id⟩ (λJ J b k=>qJ.up (λJ=>b) k) n
theorem CW.all (w:Tm.le T T')(U:Gm.le I I')(d:rm p wa)(j):CW P T T' I I' p wa j:=by
 induction j with
 |nil=>exact ⟨λJ=>id,λJ J=>id⟩|cons k j z=>exact qJ.up (λJ=>Rep.mono w U d) z
theorem qJ.mono (w:Tm.le T T')(U:Gm.le I I')(d:rm p wa)(a:qJ P T I p v c):qJ P T' I' wa v c:=(CW.all w U d v).1 _ a
theorem rJ.mono (w:Tm.le T T')(U:Gm.le I I')(d:rm p wa)(y:rJ P T I p ks vs es):rJ P T' I' wa ks vs es:=(CW.all w U d vs).2 _ _ y
def xX (s:Gm)(t:aj)(q:ba):Prop:=∃v G a x,t=.ref v/\s v=Y G/\G.data=.fields a/\a[1]?=Y (.str q x)
theorem xX.mono {s:Gm}(a:Gm.le s I')(U:xX s cv q):xX I' cv q:=U.imp λJ U=>U.imp λJ U=>U.imp λJ U=>U.imp λJ U=>rj U.1 (a _ _ U.2.1) U.2.2
structure Gf (I:Gm) (f:wQ) (fd:FuncData):Prop where
 params:fd.params=f.params
 body:fd.body=f.body
 scope:fd.scope=f.scope
 qual:fd.qualname=f.qual
 globals:fd.globals=dg
 builtins:fd.builtins=eY
 defaults:fd.defaults=.none
 kwdefaults:fd.kwdefaults=.none
 code:xX I fd.code f.qual
theorem Gf.mono {s:Gm}{n:FuncData}(U:Gm.le s I')(o:Gf s f n):Gf I' f n:=⟨o.params,o.body,o.scope,o.qual,o.globals,o.builtins,o.defaults,o.kwdefaults,o.code.mono U⟩
def AE (U:List bK):Option Nat->Option bK->Prop
 |N,N=>True|Y c,Y D=>U[c]?=Y D
 |J,W=>False
theorem AE.mono {U:List bK}(d:rm U wa):∀{y:Option Nat}{h:Option bK},AE U y h->AE wa y h
 |N,N=>@λJ=>trivial
 |Y c,Y D=>@λG=>d _ _ G
 |N,Y J=>@λG=>G
 |Y J,N=>@λG=>G
def Bk (G:gA)(b:ba->Option aj):Prop:=∃a c,G.data=.dict a c/\StrKeys a/\UniqKeys a/\∀q,nsFind a q=b q
def rB (U:cF)(L:Tm)(s:Gm)(A:List bK)(H:gA):O->Prop
 |.gone=>True|.list l=>∃j c,H=⟨.type "list",N,.seq (c9 j) c,#[]⟩/\qJ U L s A l j
 |.dict u j=>∃G c,H=⟨.type "dict",N,.dict (c9 G) c,#[]⟩/\rk u/\rJ U L s A u j G
 |.cell N=>H=⟨.type "cell",N,.cell N,#[]⟩|.cell<|Y k=>∃w,H=⟨.type "cell",N,.cell<|Y w,#[]⟩/\Rep U L s A k w
 |.fn t d y=>∃n h,H=⟨.type "function",h,.func n,#[]⟩/\Gf s t n/\(∀q i,d.lookup q=Y i->∃v,A[i]?=Y v/\n.closure.lookup q=Y v)/\AE A y h
 |.ns l=>∃b,Bk H b/\(∀q k,l.lookup q=Y k->∃w,b q=Y w/\Rep U L s A k w)/\(∀q,l.lookup q=N->b q=N)
theorem rB.gone (G):rB P T I p G .gone:=trivial
theorem rB.list {f:List V}(a:qJ P T I p f vs):rB P T I p ⟨.type "list",N,.seq vs.toArray n,#[]⟩<|.list f:=wy vs n rfl a
theorem rB.dict (o:rk ks)(y:rJ P T I p ks vs es):rB P T I p ⟨.type "dict",N,.dict es.toArray n,#[]⟩<|.dict ks vs:=tb es n rfl o y
theorem rB.aeU:rB P T I p ⟨.type "cell",N,.cell N,#[]⟩<|.cell N:=rfl
theorem rB.cell (G:Rep P T I p v c):rB P T I p ⟨.type "cell",N,.cell<|Y c,#[]⟩<|.cell<|Y v:=qr c rfl G
theorem rB.fn {t:wQ}{n:FuncData}{f:List<|ba×Nat}{y:Option Nat}{h:Option bK}(o:Gf I t n) (b:∀q c,f.lookup q=Y c->∃o,p[c]?=Y o/\n.closure.lookup q=Y o) (G:AE p y h):rB P T I p ⟨.type "function",h,.func n,#[]⟩<|.fn t f y:=uv n h rfl o b G
theorem rB.ns {f:List<|ba×V}{b:ba->Option aj}(a:Bk ob b)(d:∀q k,f.lookup q=Y k->∃s,b q=Y s/\Rep P T I p k s)(s:∀q,f.lookup q=N->b q=N):rB P T I p ob<|.ns f:=ry b a d s
theorem rB.Yl {U:cF}{L:Tm}{s:Gm}{H:List bK}(a:rB U L s H ob<|.cell y):∃h,ob=⟨.type "cell",N,.cell h,#[]⟩:=by
 cases y with
 |none=>exact ⟨_,a⟩|some y=>exact Exists.elim a λb a=>⟨_,a.1⟩
theorem rB.mono {U:cF}{L:Tm}{s:Gm}{H:List bK}(w:Tm.le L T')(a:Gm.le s I')(d:rm H wa):rB U L s H ob o->rB U T' I' wa ob o:=
 O.casesOn o id (λJ r=>r.imp λJ r=>r.imp λJ r=>⟨r.1,r.2.mono w a d⟩) (λJ J r=>r.imp λJ r=>r.imp λJ r=>rj r.1 r.2.1<|r.2.2.mono w a d)
  (λy=>Option.casesOn y id λJ r=>r.imp λJ r=>⟨r.1,r.2.mono w a d⟩)
  (λJ J J r=>r.imp λJ r=>r.imp λJ r=>td r.1 (r.2.1.mono a) (λq h e=>(r.2.2.1 q h e).imp λJ t=>⟨d _ _ t.1,t.2⟩)<|r.2.2.2.mono d)
  λJ r=>r.imp λJ r=>rj r.1 (λq y e=>(r.2.1 q y e).imp λJ t=>⟨t.1,t.2.mono w a d⟩) r.2.2
def aiu (U:cF)(L:Tm)(s:Gm)(H:List bK)(t:aj):V->Prop
 |.none=>t=.none|.bool a=>t=.bool a
 |.int q=>∃x,t=.int q x
 |.str w=>∃x,t=.str w x
 |.qu w=>∃x,t=.str w x/\L x=Y w
 |.con b=>t=b|.ref q=>∃v,t=.ref v/\H[q]?=Y v
 |.tup l=>∃v u c,t=.ref v/\s v=Y ⟨.type "tuple",N,.seq (c9 u) c,#[]⟩/\qJ U L s H l u
 |.lst l=>∃v u c,t=.ref v/\s v=Y ⟨.type "list",N,.seq (c9 u) c,#[]⟩/\qJ U L s H l u
 |.ru G u=>∃v d c,t=.ref v/\s v=Y ⟨.type "dict",N,.dict (c9 d) c,#[]⟩/\rk G/\rJ U L s H G u d
 |.tS v a e=>∃x y z A,t=.ref A/\s A=Y ⟨.type "range",N,.fields #[.int v x,.int a y,.int e z],#[]⟩
 |.bm id b=>∃h v,t=.ref v/\s v=Y ⟨.type "builtin_function_or_method",N,.fields #[.builtin id,h],#[]⟩/\Rep U L s H b h
def afc (U:cF)(L:Tm)(s:Gm)(H:List bK)(G:List aj):List V->Prop
 |[]=>G=[]|v::l=>∃t u,G=t::u/\Rep U L s H v t/\qJ U L s H l u
theorem Rep.inv (G:Rep P T I p v c):aiu P T I p c v:=by cases v<;>exact G
theorem qJ.inv (a:qJ P T I p v c):afc P T I p c v:=by cases v<;>exact a
theorem rB.inv (L:rB P T I p c v):rB P T I p c v:=L
@[elab_as_elim] theorem Rep.ahP {b:aj->Prop}(G:Rep P T I p (.int q) s)(k:∀x,b<|.int q x):b s:=G.inv.elim λx e=>J e.symm<|k x
@[elab_as_elim] theorem Rep.ahf {b:aj->Prop}(G:Rep P T I p (.str q) s)(k:∀x,b<|.str q x):b s:=G.inv.elim λx e=>J e.symm<|k x
@[elab_as_elim] theorem qJ.vt {b:List aj->Prop}(a:qJ P T I p [] c)(G:b []):b c:=J a.inv.symm G
@[elab_as_elim] theorem qJ.sk {f:List V}{b:List aj->Prop}(a:qJ P T I p (n::f) j)(k:∀j U,Rep P T I p n j->qJ P T I p f U->b (j::U)):b j:=a.inv.elim λj a=>a.elim λU a=>J a.1.symm<|k j U a.2.1 a.2.2
structure Ctx where
 prog:iF
 w:d7
 tG:Gm
 tabs:List bK
 sys:fS∈tabs
 nb:∀h:fP,(∀a o,tG a=some o->h.get? a=some o)->NoneBooked h
 qual:bK->Nat->Nat->Option ba
 Sz:gA
 os:OsState
 mg:ba->Option aj
 mb:ba->Option aj
 gl:∀h:fP,(∀a o,tG a=some o->h.get? a=some o)->h.Ns dg mg/\h.Ns eY mb
end Vm
end
noncomputable section
namespace L1
open uK
open Vm
noncomputable def sQ:List bK:=[1,30,37,185]
def I0 (i:fP):Gm:=λv=>if v∈sQ then N else i.get? v
noncomputable def VC (c h t:Nat):Option ba:=
 if c=30/\h=32/\t=4 then Y "_int2digits.<locals>.inner" else if c=37/\h=47/\t=4 then Y "_digits2int.<locals>.inner"
 else if c=185/\h=185/\t=10 then Y "_law_element.<locals>.<lambda>" else if c=185/\h=192/\t=19 then Y "_law_element.<locals>.<lambda>" else N
theorem HR {k:fP}(b:∀v o,I0 h v=Y o->k.get? v=Y o){v:bK}(e:h.get? v=Y o)(G:v∉sQ):k.get? v=Y o:=b v o (by unfold I0;rw[qn G];exact e)
theorem ns0 {k:fP}(b:∀v o,I0 h v=Y o->k.get? v=Y o){v:bK}{d:ba->Option aj}(n:h.Ns v d)(G:v∉sQ):k.Ns v d:=let ⟨o,a,c,e,t⟩:=n;⟨o,a,c,HR b e G,t⟩
structure Bx (w:d7) (s:ay) (mg mb:ba->Option aj):Prop where
 K:∀(i a:Nat)(o:gA),(KF w.params)[i]?=some (a,o)->s.heap.get? a=some o
 g:s.heap.Ns dg mg
 b:s.heap.Ns eY mb
 lim:s.heap.NoLimit
 bt:∀x:ba,x≠"__name__"->mb x=bootBuiltins x
 bm:∃bm ob,mg "__builtins__"=some (.ref bm)/\bm≠eY/\s.heap.get? bm=some ob/\ob.cls=.type "module"/\ob.dict=some eY/\ob.data=.plain
theorem ac8 (T):∃a c,(boot_o_2 T).data=.dict a c/\StrKeys a/\nsFind a sharingNotToldKey=N:=by
 refine ⟨_,_,rfl,?_,by kernel_rfl⟩;intro g b;simp at b
 try (rcases b with rfl|rfl|rfl|rfl|rfl|rfl|rfl|rfl<;>exact ⟨_,_,rfl⟩)
def vO (w:d7)(s:ay)(mg mb:ba->Option aj)(H:Bx w s mg mb):Vm.Ctx where
 prog:=pw
 w:=w
 tG:=I0 s.heap
 tabs:=sQ
 sys:=by decide
 nb:=λh k=>by obtain ⟨es,ep,e1,e2,e3⟩:=ac8 w.params;exact ⟨_,⟨_,es,ep,HR k (H.K 1 2 _ rfl) (by decide),e1,e2,λJ=>rfl⟩,e3⟩
 qual:=VC
 Sz:=boot_o_1 w.params
 os:=s.os
 mg:=mg
 mb:=mb
 gl:=λh k=>⟨ns0 k H.g (by decide),ns0 k H.b (by decide)⟩
def Fin (n:d7)(U:ay):Prop:=∀(a:List Int)(c:Nat)(f:List aj),a.length<=63->lE f a->U.heap.get? c=Y ⟨.type "list",N,.seq f.toArray 0,#[]⟩->c∉sQ->U.gens=#[]->0<U.toks->
 ∀(T:aj->ay->Prop)(E:aj->ay->Prop),(∀s t,t=.bool true->OldK U.heap s.heap->s.os=U.os->s.gens=#[]->T t s)->wpAny (model pw n) callerA (call (.ref 238) [.ref c]) T E U
def Bad (T:Vm.Ctx):Prop:=∃(n:d7)(U:ay)(b d:ba->Option aj)(y:Bx n U b d),T=vO n U b d y/\¬Fin n U
theorem LP (i:fP)(b:∀(v:bK)(o:gA),Y (default:gA)=Y o->i.get? v=Y o):False:=absurd (bR (b i.objs.size default rfl)) (b9 _)
theorem abJ:Nonempty Vm.Ctx:=⟨{ prog:=pw,w:=⟨λJ J=>0,{ strHash:=λJ=>0,shareClass:=λJ=>0,mergeTok:=id,idOf:=λJ=>0,idOfShared:=λJ J=>0,followText:=λJ=>false,idOfImm:=λJ=>0 }⟩,tG:=λJ=>Y default,tabs:=sQ,sys:=by decide,nb:=λi b=>(LP i b).elim,qual:=VC,Sz:=default,os:=default,mg:=λJ=>N,mb:=λJ=>N,gl:=λi b=>(LP i b).elim }⟩
end L1
namespace Vm
noncomputable def C:Ctx:=@Classical.epsilon Ctx L1.abJ L1.Bad
end Vm
namespace L1
theorem X8 (b:∀(n:d7)(U:ay)(d g:ba->Option aj)(y:Bx n U d g),Vm.C=vO n U d g y->Fin n U)(n)(U)(d g:ba->Option aj)(y:Bx n U d g):Fin n U:=
 Classical.byContradiction λG=>by obtain ⟨n,U,d,g,y,e,a⟩:Bad Vm.C:=@Classical.epsilon_spec Vm.Ctx Bad ⟨_,n,U,d,g,y,rfl,G⟩;exact a (b n U d g y e)
end L1
end
noncomputable section
namespace Vm
def xV (T:Ctx)(s:Gm)(v:bK)(o:gA):Prop:=(v=fS/\o=T.Sz)\/v≠fS/\∃a,o=tabObj a/\jd a.toList/\∀e t p,codeAmong e a.toList=Y t->T.qual v e.line e.col=Y p->xX s t p
theorem xV.mono {v:bK}(T:Gm.le I I')(s:xV C I v o):xV C I' v o:=s.imp_right λs=>⟨s.1,s.2.imp λJ s=>⟨s.1,s.2.1,λe t p f i=>(s.2.2 e t p f i).mono T⟩⟩
structure q7 (C:Ctx) (G:Gh) (σ:List bK) (hp:List O) (s:ay):Prop where
 I:∀a o,G.I a=some o->s.heap.get? a=some o
 F:∀a o,G.F a=some o->s.heap.get? a=some o
 IF:∀a,G.I a≠none->G.F a=none
 top:Gm.le C.tG G.I
 tab:∀P∈C.tabs,G.I P=none/\G.F P=none/\P∉σ/\∃o,s.heap.get? P=some o/\xV C G.I P o
 len:σ.length=hp.length
 nd:σ.Nodup
 rY:∀(i:Nat)(a:bK),σ[i]?=some a->G.I a=none/\G.F a=none/\∃o ob,hp[i]?=some o/\s.heap.get? a=some ob/\rB C.w.params G.T G.I σ ob o
 gens:s.gens=#[]
 os:s.os=C.os
 pos:0<s.toks
 T:∀t x,G.T t=some x->0<t/\t<s.toks
theorem q7.sF (H:q7 C G σ hp s):G.I s.heap.objs.size=N:=by
 cases i:G.I s.heap.objs.size with
 |none=>rfl|some I=>exact absurd (bR<|H.I _ _ i)<|b9 _
theorem q7.wo (H:q7 C G σ hp s):G.F s.heap.objs.size=N:=by
 cases i:G.F s.heap.objs.size with
 |none=>rfl|some I=>exact absurd (bR<|H.F _ _ i)<|b9 _
theorem q7.freshT (c:q7 C G σ hp s):s.heap.objs.size∉C.tabs:=λa=>uQ (c.tab _ a) λJ J J U=>qt U λH e J=>absurd (bR e)<|b9 _
theorem q7.vq (c:q7 C G σ hp s):s.heap.objs.size∉σ:=λa=>by obtain ⟨d,H,e⟩:=cK a;refine qN (c.rY d _<|by refine ax (aD H)<|Q e rfl) λJ J T=>?_;exact qZ T λI L J i J=>absurd (bR i)<|b9 _
theorem q7.keep (H:q7 C G σ hp s)(x)(k:∀b o,b≠x->s.heap.get? b=Y o->s'.heap.get? b=Y o)(xI:G.I x=N)(xF:G.F x=N)(xσ:x∉σ)(xT:x∉C.tabs)(hg:s'.gens=s.gens)(ho:s'.os=s.os)(ht:s.toks<=s'.toks):q7 C G σ hp s' where
 I a o e:=k a o (λq=>by subst q;rw[xI] at e;cases e)<|H.I a o e
 F a o e:=k a o (λq=>by subst q;rw[xF] at e;cases e)<|H.F a o e
 IF:=H.IF
 top:=H.top
 tab P hP:=uQ (H.tab P hP) λa b c yq=>qt yq λo e t=>⟨a,b,c,o,k P o (λq=>xT<|J q hP) e,t⟩
 len:=H.len
 nd:=H.nd
 rY i a e:=qN (H.rY i a e) λp q yr=>qZ yr λo ob h1 h2 h3=>⟨p,q,o,ob,h1,k a ob (λz=>xσ<|J z<|bG e) h2,h3⟩
 gens:=hg.trans H.gens
 os:=ho.trans H.os
 pos:=ai H.pos ht
 T t x e:=⟨(H.T t x e).1,ai (H.T t x e).2 ht⟩
theorem q7.ext (c:q7 C G σ hp s)(b:∀v o,s.heap.get? v=Y o->s'.heap.get? v=Y o)(w:s.toks<=s'.toks)(e:s'.gens=s.gens)(i:s'.os=s.os):q7 C G σ hp s':=c.keep s.heap.objs.size (λv o J n=>b v o n) c.sF c.wo c.vq c.freshT e i w
theorem q7.push (c:q7 C G σ hp s)(o)(w:s.toks<=t):q7 C G σ hp { s with heap:=s.heap.push o,toks:=t }:=c.ext (λv p e=>aY _ e) w rfl rfl
theorem q7.toks (c:q7 C G σ hp s)(x)(w:s.toks<=x):q7 C G σ hp { s with toks:=x }:=c.ext (λJ J e=>e) w rfl rfl
def Gh.vr (L:Gh)(v:bK)(o:gA):Gh:=⟨L.I.put v o,L.F,L.T⟩
def Gh.FK (L:Gh)(v:bK)(o:gA):Gh:=⟨L.I,L.F.put v o,L.T⟩
structure Gh.le (G G':Gh):Prop where
 I:Gm.le G.I G'.I
 F:G'.F=G.F
 T:Tm.le G.T G'.T
theorem Gh.le.refl (L):Gh.le L L:=⟨λJ J e=>e,rfl,λJ J e=>e⟩
theorem Gh.le.trans (T:Gh.le G G')(n:Gh.le G' G''):Gh.le G G'':=⟨T.I.trans n.I,n.F.trans T.F,T.T.trans n.T⟩
theorem q7.freeze (H:q7 C G σ hp s)(e:s.heap.get? a=Y o)(aI:G.I a=N)(aF:G.F a=N)(aσ:a∉σ)(aT:a∉C.tabs):q7 C (G.vr a o) σ hp s where
 I b x h:=by
  replace h:(G.I.put a o) b=Y x:=h
  by_cases q:b=a
  .subst q;revert h;refine Q (Gm.rP ..) ?_;intro h;cases h;exact e
  .rw[Gm.sr q] at h;exact H.I b x h
 F:=H.F
 IF b h:=by
  by_cases q:b=a
  .refine Q q ?_;clear q;exact aF
  .replace h:(G.I.put a o) b≠N:=h;rw[Gm.sr q] at h
   exact H.IF b h
 top:=H.top.trans<|Gm.vM aI
 tab P hP:=by
  refine uQ (H.tab P hP) λx y z Ic=>qt Ic λw w1 w2=>⟨?_,y,z,w,w1,w2.mono<|Gm.vM aI⟩
  show (G.I.put a o) P=N;exact Q (Gm.sr λq=>aT<|by exact J q hP) x
 len:=H.len
 nd:=H.nd
 rY i b h:=by
  refine qN (H.rY i b h) λp q xY=>qZ xY λx ob h1 h2 h3=>⟨?_,q,x,ob,h1,h2,h3.mono (Tm.le.refl _) (Gm.vM aI)<|rm.refl _⟩
  show (G.I.put a o) b=N;exact Q (Gm.sr λz=>aσ<|by exact J z<|bG h) p
 gens:=H.gens
 os:=H.os
 pos:=H.pos
 T:=H.T
theorem Gh.wK (e:G.I a=N):Gh.le G<|G.vr a o:=⟨Gm.vM e,rfl,Tm.le.refl _⟩
theorem q7.DH (c:q7 C G σ hp s)(o:gA)(e:o.isFreed=false)(w:s.toks<=t):q7 C (G.vr s.heap.objs.size o) σ hp { s with heap:=s.heap.push o,toks:=t }:=(c.push o w).freeze (bb _ e) c.sF c.wo c.vq c.freshT
theorem q7.AN (H:q7 C G σ hp s)(e:s.heap.get? a=Y ob)(aI:G.I a=N)(aF:G.F a=N)(aσ:a∉σ)(aT:a∉C.tabs)(r:rB C.w.params G.T G.I (σ++[a]) ob o) :
  q7 C G (σ++[a]) (hp++[o]) s where
 I:=H.I
 F:=H.F
 IF:=H.IF
 top:=H.top
 tab P hP:=by
  refine uQ (H.tab P hP) λx y z w=>td x y (λq=>?_) w
  rcases bQ.mp q with q|q
  .exact z q
  .exact aT (by rw[aN] at q;exact J q hP)
 len:=ax aG<|Q (aG ..)<|Q (H.len ..) rfl
 nd:=i_.mpr ⟨H.nd,by simp,λx hx y hy=>by rw[aN] at hy;refine Q hy ?_;clear hy;exact λq=>aσ<|J q hx⟩
 rY i b h:=by
  by_cases q:i<σ.length
  .rw[bD q] at h
   exact qN (H.rY i b h) λp q' By=>qZ By λx Am h1 h2 h3=>⟨p,q',x,Am,by refine Q (bD<|J H.len q) ?_;exact h1,h2,h3.mono (Tm.le.refl _) (Gm.le.refl _)<|rm.push _ _⟩
  .skip
   have hi:i=σ.length:=by
    have:=(aO.mp h).1;rw[aG,List.length_singleton] at this
    exact fO (bO this)<|gi q
   subst hi;revert h;refine Q dN ?_;intro h
   cases h
   exact ⟨aI,aF,o,ob,by refine Q H.len<|Q dN rfl,e,r⟩
 gens:=H.gens
 os:=H.os
 pos:=H.pos
 T:=H.T
theorem q7.ahJ (c:q7 C G σ hp s)(H:gA)(o)(e:H.isFreed=false)(I:rB C.w.params G.T G.I (σ++[s.heap.objs.size]) H o)(w:s.toks<=t) :
  q7 C G (σ++[s.heap.objs.size]) (hp++[o]) { s with heap:=s.heap.push H,toks:=t }:=
 (c.push H w).AN (bb _ e) c.sF c.wo c.vq c.freshT I
theorem q7.upd (H:q7 C G σ hp s)(ha:σ[i]?=Y a)(b:∀q o,q≠a->s.heap.get? q=Y o->s'.heap.get? q=Y o)(j:s'.heap.get? a=Y ob)(L:rB C.w.params G.T G.I σ ob o)(n:s'.gens=s.gens)(z:s'.os=s.os)(w:s.toks<=s'.toks):q7 C G σ (hp.set i o) s':=by
 have d:=(H.rY i a ha).1;have c:=(H.rY i a ha).2.1;exact {
  I:=λq p h=>b q p (λe=>by subst e;rw[d] at h;cases h)<|H.I q p h
  F:=λq p h=>b q p (λe=>by subst e;rw[c] at h;cases h)<|H.F q p h
  IF:=H.IF
  top:=H.top
  tab:=λy f=>uQ (H.tab y f) λp g k U=>qt U λv t u=>⟨p,g,k,v,b y v (λe=>k<|Q e<|bG ha) t,u⟩
  len:=Q (cO ..) H.len
  nd:=H.nd
  rY:=λA q h=>by
   refine qN (H.rY A q h) λv e YJ=>qZ YJ λp Am t u h3=>?_
   by_cases k:A=i
   .subst k;replace h:=ha▸h;cases h;exact ⟨v,e,o,ob,by refine Q (bu<|J H.len<|(aO.mp ha).1) rfl,j,L⟩
   .refine ⟨v,e,p,Am,by refine Q (aW<|fK k) ?_;exact t,b q Am (λg=>k ?_) u,h3⟩;subst g;exact ((oM ((aO.mp ha).1) H.nd).mp<|ha.trans h.symm).symm
  gens:=n.trans H.gens
  os:=z.trans H.os
  pos:=ai H.pos w
  T:=λx p j=>⟨(H.T x p j).1,ai (H.T x p j).2 w⟩ }
def Gh.Ta (L:Gh)(x:pJ)(p:ba):Gh:=⟨L.I,L.F,L.T.put x p⟩
theorem q7.DR (c:q7 C G σ hp s):G.T s.toks=N:=by
 cases i:G.T s.toks with
 |none=>rfl|some p=>exact absurd (c.T _ _ i).2<|b9 _
theorem q7.aae (H:q7 C G σ hp s)(x):q7 C (G.Ta s.toks x) σ hp { s with toks:=s.toks+1 } where
 I:=H.I
 F:=H.F
 IF:=H.IF
 top:=H.top
 tab:=H.tab
 len:=H.len
 nd:=H.nd
 rY i b h:=qN (H.rY i b h) λp q ag6=>qZ ag6 λy ob h1 h2 h3=>⟨p,q,y,ob,h1,h2,h3.mono (Tm.vM H.DR) (Gm.le.refl _)<|rm.refl _⟩
 gens:=H.gens
 os:=H.os
 pos:=fJ _
 T t y e:=by
  replace e:(if t=s.toks then Y x else G.T t)=Y y:=e
  by_cases q:t=s.toks
  .refine Q q ?_;clear q;exact ⟨H.pos,bY _⟩
  .rw[qn q] at e
   exact ⟨(H.T t y e).1,dT (H.T t y e).2⟩
structure K where
 scope:eV
 slots:List ba
 cells:List ba
 qual:ba
 code:Option aj:=none
structure St where
 loc:List<|Option V
 hp:List O
structure Wd where
 G:Gh
 σ:List bK
 s:ay
structure Wd.le (W W':Wd):Prop where
 G:Gh.le W.G W'.G
 σ:rm W.σ W'.σ
theorem Wd.le.refl (s:Wd):s.le s:=⟨Gh.le.refl _,rm.refl _⟩
theorem Wd.le.trans {s:Wd}(T:s.le W')(f:W'.le W''):s.le W'':=⟨T.G.trans f.G,T.σ.trans f.σ⟩
abbrev qY (T:Ctx)(a:List O)(s:Wd):Prop:=q7 T s.G s.σ a s.s
abbrev qw (T:Ctx)(t:Wd)(k:V)(s:aj):Prop:=Rep T.w.params t.G.T t.G.I t.σ k s
abbrev qG (T:Ctx)(s:Wd)(a:List V)(f:List aj):Prop:=qJ T.w.params s.G.T s.G.I s.σ a f
theorem qw.mono {s:Wd}(k:qw C s v c)(T:s.le W'):qw C W' v c:=Rep.mono T.G.T T.G.I T.σ k
theorem qG.mono {s:Wd}(U:qG C s v c)(T:s.le W'):qG C W' v c:=qJ.mono T.G.T T.G.I T.σ U
structure vh (B:K) (M:List Nat) (σ:List bK) (env:kN):Prop where
 scope:env.scope=B.scope
 fn:B.scope.kind=.function
 nd:B.slots.Nodup
 globals:env.globals=dg
 builtins:env.builtins=eY
 qual:env.qual=B.qual
 code:∀c,B.code=some c->env.code=c
 cell:∀(k:Nat)(x:ba),B.cells[k]?=some x->(B.scope.names.lookup x=some .cell\/B.scope.names.lookup x=some .free)->∃i a,M[k]?=some i/\σ[i]?=some a/\env.cells.lookup x=some a
theorem vh.mono {U:List Nat}(a:vh B U σ env)(d:rm σ wa):vh B U wa env:=⟨a.scope,a.fn,a.nd,a.globals,a.builtins,a.qual,a.code,λc p e o=>let ⟨h,v,i,n,z⟩:=a.cell c p e o;(tb h v i (d _ _ n) z)⟩
structure Loc (C:Ctx) (B:K) (L:bK) (loc:List<|Option V) (W:Wd):Prop where
 ns:∃m,W.s.heap.Ns L m/\∀(i:Nat)(x:ba)(v:V),B.slots[i]?=some x->loc[i]?=some (some v)->∃c,m x=some c/\qw C W v c
 I:W.G.I L=none
 F:W.G.F L=none
 σ:L∉W.σ
 T:L∉C.tabs
structure At (C:Ctx) (B:K) (M:List Nat) (env:kN) (st:St) (W:Wd):Prop where
 ok:vh B M W.σ env
 H:qY C st.hp W
 L:Loc C B env.locals st.loc W
def rl (c:Nat)(T:Around):Prop:=T.handled=N/\T.depth+c<900/\T.units+10*c+50<9000
def Tr {o:Type}(T:Ctx)(I:K)(H:List Nat)(f:kN)(U:Around)(v:gH o)(x:St)(b:Wd->o->Prop)(s:Wd):Prop:=∀(L:o->ay->Prop)(E:aj->ay->Prop),(∀a G,s.le a->At T I H f x a->b a G->L G a.s)->wpAny (model T.prog T.w) U v L E s.s
def TE (T:Ctx)(c:Nat)(G:K)(H:List Nat)(L:a7)(x:St)(k:V)(I:St):Prop:=∀(U:Around)(f:kN)(W:Wd),rl c U->At T G H f x W->Tr T G H f U (eval L f) I (λa s=>qw T a k s) W
structure Pext0 (C:Ctx) (W W':Wd):Prop where
 σ:W'.σ=W.σ
 G:Gh.le W.G W'.G
 hk:∀b o,W.s.heap.get? b=some o->W'.s.heap.get? b=some o
 new:∀a,W.G.I a=none->(W.s.heap.get? a).isSome=true->W'.G.I a=none
 hp:W.s.toks<=W'.s.toks->∀hp,qY C hp W->qY C hp W'
structure xp (C:Ctx) (W W':Wd):Prop extends Pext0 C W W' where
 tk:W.s.toks<=W'.s.toks
theorem Pext0.le {s:Wd}(G:Pext0 C s W'):s.le W':=⟨G.G,Q G.σ<|rm.refl _⟩
theorem xp.le {s:Wd}(L:xp C s W'):s.le W':=L.toPext0.le
theorem Pext0.strict {s:Wd}(G:Pext0 C s W')(w:s.s.toks<=W'.s.toks):xp C s W':=⟨G,w⟩
theorem Pext0.refl (s):Pext0 C s s:=⟨rfl,Gh.le.refl _,λJ J e=>e,λJ e J=>e,λJ J e=>e⟩
theorem xp.refl (s):xp C s s:=⟨.refl s,ag _⟩
theorem Loc.rz {W:Wd}(h:Loc C B L loc W)(p:Pext0 C W W'):Loc C B L loc W' where
 ns:=qt h.ns λm a b=>qr m (a.keeps p.hk) λi x v e f=>qt (b i x v e f) λc q r=>qr c q<|r.mono p.le
 I:=by
  refine qt h.ns λm rS b=>?_;obtain ⟨o,es,ep,ho,_⟩:=rS
  exact p.new _ h.I<|Q ho rfl
 F:=Q p.G.F h.F
 σ:=Q p.σ h.σ
 T:=h.T
theorem At.rz {U:List Nat}{x:St}{s:Wd}(G:At C B U env x s)(L:xp C s W'):At C B U env x W':=⟨G.ok.mono L.le.σ,L.hp L.tk _ G.H,G.L.rz L.toPext0⟩
theorem Pext0.toks {s:Wd}(x):Pext0 C s ⟨s.G,s.σ,{ s.s with toks:=x }⟩:=⟨rfl,Gh.le.refl _,λJ J e=>e,λJ e J=>e,λw a e=>e.toks x w⟩
theorem Pext0.push {s:Wd}(o)(x):Pext0 C s ⟨s.G,s.σ,{ s.s with heap:=s.s.heap.push o,toks:=x }⟩:=⟨rfl,Gh.le.refl _,λJ J e=>aY _ e,λJ e J=>e,λw a e=>e.push o w⟩
theorem Pext0.DH {s:Wd}(o:gA)(e:o.isFreed=false)(x)(i:s.G.I s.s.heap.objs.size=N):Pext0 C s ⟨s.G.vr s.s.heap.objs.size o,s.σ,{ s.s with heap:=s.s.heap.push o,toks:=x }⟩:=
 ⟨rfl,Gh.wK i,λJ J n=>aY _ n,λv n z=>by obtain ⟨U,H⟩:=gq.mp z;exact (Q (Gm.sr<|cy<|bR H) n:(s.G.I.put s.s.heap.objs.size o) v=N),λw a n=>n.DH o e w⟩
theorem Pext0.ext {s:Wd}{s':ay}(b:∀v o,s.s.heap.get? v=Y o->s'.heap.get? v=Y o)(e:s'.gens=s.s.gens)(i:s'.os=s.s.os):Pext0 C s ⟨s.G,s.σ,s'⟩:=⟨rfl,Gh.le.refl _,b,λJ n J=>n,λw a n=>n.ext b w e i⟩
theorem abm {s:Wd}(b:qY C hp s)(c:q7 C s.G s.σ hp s')(e:s'.heap.get? a=Y o)(i:s.s.heap.get? a=N)(n:s.G.I a=N):q7 C (s.G.vr a o) s.σ hp s':=by
 refine c.freeze e n ?_ ?_ ?_
 .cases H:s.G.F a with
  |none=>rfl|some p=>rw[b.F a p H] at i;exact Vm.sN i
 .intro H;obtain ⟨d,G,f⟩:=cK H;refine qN (b.rY d _<|by refine Q (aD G)<|Q f rfl) λJ J T=>?_;refine qZ T λU v J k J=>?_
  rw[i] at k;exact Vm.nS k
 .intro H;refine uQ (b.tab _ H) λJ J J I=>qt I λU f J=>?_
  rw[i] at f;exact Vm.nS f
theorem Pext0.frz {s:Wd}{s':ay}(b:∀q o,s.s.heap.get? q=Y o->s'.heap.get? q=Y o)(e:s'.heap.get? a=Y o)(i:s.s.heap.get? a=N)(n:s.G.I a=N)(z:s'.gens=s.s.gens)(H:s'.os=s.s.os) :
  Pext0 C s ⟨s.G.vr a o,s.σ,s'⟩:=
 ⟨rfl,Gh.wK n,b,λq c k=>(Q (Gm.sr λG=>by rw[G,i] at k;exact Vm.fT k) c:(s.G.I.put a o) q=N),λw d c=>abm c (c.ext b w z H) e i n⟩
theorem Pext0.tok {s:Wd}(p)(e:s.G.T s.s.toks=N):Pext0 C s ⟨s.G.Ta s.s.toks p,s.σ,{ s.s with toks:=s.s.toks+1 }⟩:=⟨rfl,⟨Gm.le.refl _,rfl,Tm.vM e⟩,λJ J i=>i,λJ i J=>i,λJ a i=>i.aae p⟩
def q8 {o:Type}(T:Ctx)(U:Around)(v:gH o)(b:Wd->o->Prop)(s:Wd):Prop:=∀(L:o->ay->Prop)(E:aj->ay->Prop),(∀a G,xp T s a->b a G->L G a.s)->wpAny (model T.prog T.w) U v L E s.s
theorem q8.mk {o:Type}{T:Around}{v:gH o}{b:Wd->o->Prop}{s:Wd}
  (h:∀(L:o->ay->Prop)(n:aj->ay->Prop),(∀U G,Pext0 C s U->b U G->L G U.s)->wpAny (model C.prog C.w) T v L n s.s):q8 C T v b s:=
 λL n H=>wpAny_toks<|h _ _ λU G I a w=>H U G (I.strict w) a
theorem q8.tr {o:Type}{z:List Nat}{x:St}{v:gH o}{b:Wd->o->Prop}{s:Wd}(G:q8 C A v b s)(H:At C B z env x s):Tr C B z env A v x b s:=λU g n=>G U g λT I L p=>n T I L.le (H.rz L) p
theorem TE.const_int {I:List Nat}{e:dB}{x:St}:TE C d B I (.Constant (.int i) k e) x (.int i) x:=λT f s L G U g h=>wpAny_Constant_int<|h ⟨s.G,s.σ,_⟩ _ (Pext0.toks _).le (G.rz<|(Pext0.toks _).strict<|cZ _)<|.int i _
theorem TE.binop {M:List Nat}{L c:a7}{e:dB}{x:St}(h1:TE C d B M L x a ac5)(z:TE C d B M c ac5 b Vz)(i:∀j t s k,rl d j->qY C Vz.hp t->qw C t a s->qw C t b k->q8 C j (binaryOp U s k) (λo h=>qw C o v h) t):TE C d B M (.BinOp L U c e) x v Vz:=
 λj f t hr H QQq g q=>wpAny_BinOp<|h1 j f t hr H _ _ λn s T y G=>z j f n hr y _ _ λu k w A I=>i j u s k hr A.H (G.mono w) I _ _ λur h p uG=>q ur h ((T.trans w).trans p.le) (A.rz p) uG
theorem TE.l {c:Nat}{y:K}{A:List Nat}{p:ba}{e:dB}{x:St}{i:Nat}{k:V}(g:y.slots[i]?=Y p) (j:y.scope.names.lookup p=Y .local) (n:x.loc[i]?=Y (Y k)) (z:(p==("__debug__":ba))=false) :
  TE C c y A (.Name p e) x k x:=λT f s L G U d h=>qt G.L.ns λo q I=>qt (I i p k g n) λa H t=>wpAny_Name (o_ (Q G.ok.scope G.ok.fn) (by delta fu;exact Q G.ok.scope j) q H<|h s a (Wd.le.refl _) G t) z
end Vm
end
noncomputable section
namespace Vm
set_option genCtorIdx true in
inductive Bf where
 |len|range|sum|list|chr|ord|max|abs|set|divmod
set_option genCtorIdx true in
inductive Mt where
 |append|reverse|index|pop|join|replace|lower|get|yf
inductive Tg where
 |l (i:Nat)|cell (i:Nat)|tup (l:List Tg)
inductive X where
 |k (v:V)|l (i:Nat)|cell (i:Nat)
 |bin (op:eB) (a b:X)|un (op:UnaryOp) (a:X)
 |and (l:List X)|or (l:List X)
 |cmp (a:X) (ops:List CmpOp) (l:List X)
 |rf (c a b:X)
 |call (f:X) (as:List X) (kn:List ba) (kv:List X)
 |bf (b:Bf) (as:List X)
 |mt (m:Mt) (o:X) (as:List X)
 |attr (o:X) (n:ba)
 |mc (o:X) (n:ba) (as:List X)
 |sub (o i:X)|C4 (o lo hi:X)
 |list (l:List X)|tup (l:List X)|dict (ks vs:List X)|star (l:List X)
 |enum (a:X)|rev (a:X)
 |new (a:X)
 |comp (elt:X) (ts:List Tg) (is:List X) (fs:List<|List X) (n:Nat) (m:Nat)
 |lam (f:wQ) (cl:List<|ba×Nat)
inductive XS where
 |expr (e:X)|asg (t:Tg) (e:X)
 |wj (o i e:X)|setAttr (o:X) (n:ba) (e:X)
 |aug (t:Tg) (op:eB) (e:X)|uD (o i:X) (op:eB) (e:X)
 |ret (e:X)|rf (c:X) (a b:List XS)|uZ (t:Tg) (e:X) (body:List XS)
 |Lu (c:X) (body:List XS)
 |DY (t:Tg) (f:wQ) (cl:List<|ba×Nat)|yP (body:List XS)|stop
structure Glob where
 top:List<|ba×aj
 blt:List<|ba×aj
 CA:List<|aj×Nat×Nat×ba:=[]
 vals:List<|ba×V:=[]
noncomputable def Glob.yW (a:Glob)(y:Option aj)(c h:Nat):Option ba:=match y with
 |Y<|.ref v=>(a.CA.find? λb=>(match b.1 with|.ref q=>q==v|_=>false)&&b.2.1==c&&b.2.2.1==h).map (·.2.2.2)|_=>N
noncomputable def bfB (f:String):Option Bf:=
 if f="len" then Y .len else if f="sum" then Y .sum else if f="chr" then Y .chr else if f="ord" then Y .ord
 else if f="max" then Y .max else if f="abs" then Y .abs else if f="divmod" then Y .divmod else N
noncomputable def bfT (f:String):Option Bf:=if f="range" then Y .range else if f="list" then Y .list else N
def aci:aj->Option Bf
 |.builtin f=>bfB f|.type f=>bfT f
 |_=>N
noncomputable def w3:Mt->ba
 |.append=>"append"|.reverse=>"reverse"|.index=>"index"|.pop=>"pop"|.join=>"join"|.replace=>"replace"|.lower=>"lower"|.get=>"get"|.yf=>"bit_length"
noncomputable def Ow (p:ba):Option Mt:=
 if p="append" then Y .append else if p="reverse" then Y .reverse else if p="index" then Y .index else if p="pop" then Y .pop
 else if p="join" then Y .join else if p="replace" then Y .replace else if p="lower" then Y .lower else if p="get" then Y .get
 else if p="bit_length" then Y .yf else N
noncomputable def idx (a:List ba)(p:ba):Option Nat:=a.findIdx? (·==p)
noncomputable def H6 (b:a7):Option<|a7×List a7×List Keyword:=if e:b.ctorIdx=16 then Y (kE b e λc a f J=>(c,a,f)) else N
noncomputable def nameP (a:a7):Option ba:=if e:a.ctorIdx=23 then Y (jx a e λp J=>p) else N
noncomputable def yO (b:a7):Option<|List a7:=if e:b.ctorIdx=25 then Y (j3 b e λa J J=>a) else N
noncomputable def U5 (a:a7):Option<|a7×ba×dB:=if e:a.ctorIdx=20 then Y (lb a e λb p f=>(b,p,f)) else N
noncomputable def SI (a:a7):Option<|a7×a7:=if e:a.ctorIdx=21 then Y (la a e λb f J=>(b,f)) else N
noncomputable def ZE (a:a7):Option<|Option a7×Option a7×Option a7:=if e:a.ctorIdx=26 then Y (nC a e λy h f J=>(y,h,f)) else N
noncomputable def aim (a:a7):Option<|a7×eB:=if e:a.ctorIdx=2 then Y (a7.BinOp.elim a e λb c J J=>(b,c)) else N
noncomputable def DZ (a:a7):Option pC:=if e:a.ctorIdx=19 then Y (jy a e λb J J=>b) else N
noncomputable def II (a:pC):Option ba:=if e:a.ctorIdx=5 then Y (kF a e id) else N
theorem UW (h:H6 e=Y x):∃k,e=.Call x.1 x.2.1 x.2.2 k:=by
 by_cases i:e.ctorIdx=16
 .exact kE e i (λb a f k h=>⟨k,J (ae h) rfl⟩) h
 .exact nS<|(dif_neg i).symm.trans h
theorem y0 (f:nameP e=Y x):∃h,e=.Name x h:=by
 by_cases i:e.ctorIdx=23
 .exact jx e i (λk h f=>⟨h,J (ae f) rfl⟩) f
 .exact nS<|(dif_neg i).symm.trans f
theorem LF (f:SI e=Y x):∃h,e=.Subscript x.1 x.2 h:=by
 by_cases i:e.ctorIdx=21
 .exact la e i (λa k h f=>⟨h,J (ae f) rfl⟩) f
 .exact nS<|(dif_neg i).symm.trans f
theorem ME (f:U5 e=Y x):e=.Attribute x.1 x.2.1 x.2.2:=by
 by_cases i:e.ctorIdx=20
 .exact lb e i (λa p h f=>J (ae f) rfl) f
 .exact nS<|(dif_neg i).symm.trans f
theorem Xg (f:ZE e=Y x):∃k,e=.Slice x.1 x.2.1 x.2.2 k:=by
 by_cases i:e.ctorIdx=26
 .exact nC e i (λy h n k f=>⟨k,J (ae f) rfl⟩) f
 .exact nS<|(dif_neg i).symm.trans f
theorem Cu (h:yO e=Y x):∃c k,e=.Tuple x c k:=by
 by_cases i:e.ctorIdx=25
 .exact j3 e i (λf c k h=>tH c k<|J (ae h) rfl) h
 .exact nS<|(dif_neg i).symm.trans h
theorem Yg (f:DZ e=Y x):∃c h,e=.Constant x c h:=by
 by_cases i:e.ctorIdx=19
 .exact jy e i (λk c h f=>tH c h<|J (ae f) rfl) f
 .exact nS<|(dif_neg i).symm.trans f
theorem Xc (f:II e=Y x):e=.str x:=by
 by_cases i:e.ctorIdx=5
 .exact kF e i (λk f=>qo pC.str<|ae f) f
 .exact nS<|(dif_neg i).symm.trans f
def vd (a:a7):Bool:=match H6 a with
 |Y b=>!(b.1.ctorIdx==23&&b.2.1.isEmpty&&b.2.2.isEmpty)|N=>true
noncomputable def noStar (a:a7):Bool:=a.ctorIdx != 22
noncomputable def Od (v a:eV):eV:={ v with names:=v.names.map λ(p,h)=>if (h==.free&&a.kind==.function&&a.names.lookup p==Y .cell) then (p,.cell) else (p,h) }
noncomputable def rb (v:eV):List ba:=(v.names.filter λb=>b.2==.cell).map (·.1)
def K.comp (z:K)(v:eV):K:=⟨Od v z.scope,(v.names.filter λb=>b.2==.local&&b.1 != (".0":ba)).map (·.1),rb v++z.cells,z.qual,z.code⟩
noncomputable def Cc (v:eV):List ba:=(v.names.filter λx=>x.2==.cell||x.2==.free).map (·.1)
noncomputable def slotNames (v:eV):List ba:=(v.names.filter λb=>b.2==.local).map (·.1)
def K.of (v:eV)(p:ba)(y:Option aj):K:=⟨v,slotNames v,Cc v,p,y⟩
noncomputable def o2 {z x w:Type}(y:Option z)(h:Option x)(f:z->x->Option w):Option w:=y.bind λa=>h.bind<|f a
def o3 {z x v w:Type}(y:Option z)(h:Option x)(e:Option v)(f:z->x->v->Option w):Option w:=y.bind λa=>o2 h e<|f a
def o5 {x w t v u z:Type}(y:Option x)(h:Option w)(e:Option t)(a:Option v)(q:Option u)(f:x->w->t->v->u->Option z):Option z:=o3 y h e λb p r=>o2 a q<|f b p r
noncomputable def qP {z y:Type}(c:z->Option y):List z->Option (List y)
 |[]=>Y []|a::l=>match c a with
  |Y b=>match qP c l with
   |Y r=>Y<|b::r
   |N=>N
  |N=>N
def tgN (z:K)(p:ba):Option NameKind->Option Tg
 |Y .local=>(idx z.slots p).map .l|Y .cell=>(idx z.cells p).map .cell
 |_=>N
noncomputable def uf (B:K):Nat->a7->Option Tg
 |0=>@λJ=>N
 |n+1=>@λb=>(nameP b).elim ((yO b).elim N λa=>(qP (uf B n) a).map .tup) λp=>tgN B p<|B.scope.names.lookup p
def zp (z:K)(sc:eV):Option<|List<|ba×Nat:=
 (qP (λ(b:ba×NameKind)=>match z.scope.names.lookup b.1 with
  |Y .cell=>(idx z.cells b.1).map (b.1,·)|Y .free=>(idx z.cells b.1).map (b.1,·)
  |_=>N)<|sc.names.filter λb=>b.2==.free).map List.reverse
noncomputable def wH (a:iD):Bool:=a.posonlyargs.isEmpty&&a.vararg.isNone&&a.kwonlyargs.isEmpty&&a.kw_defaults.isEmpty&&a.kwarg.isNone&&a.defaults.isEmpty&&a.args.all (·.annotation.isNone)
noncomputable def isName (a:a7):Bool:=a.ctorIdx==23
noncomputable def BQ (a:a7):Bool:=a.ctorIdx != 7
noncomputable def isCall (a:a7):Bool:=a.ctorIdx==16
noncomputable def isSlice (a:a7):Bool:=a.ctorIdx==26
noncomputable def yJ (e:a7):Bool:=!(e.ctorIdx==8||e.ctorIdx==9||e.ctorIdx==10)
theorem oE {z y:Type}{o:Option z}{h:Option y}{b:z->Option y}{a:y}{c:Prop}(e:o.elim h b=Y a) (d:∀p,o=Y p->b p=Y a->c) (i:o=N->h=Y a->c):c:=by
 cases o with
 |none=>exact i rfl e|some p=>exact d p rfl e
@[elab_as_elim] theorem BS {G:a7->Prop}(h:isName e=true)(k:∀x p,G<|.Name x p):G e:=jx e (eq_of_beq h) k
@[elab_as_elim] theorem RM {G:a7->Prop}(h:isCall e=true)(k:∀f a q p,G<|.Call f a q p):G e:=kE e (eq_of_beq h) k
@[elab_as_elim] theorem comp_elim {b:a7->Prop}(h:¬yJ e=true)(d:∀i a v k,b<|.ListComp i a v k)(n:∀i a v k,b<|.SetComp i a v k)(o:∀i a v k c,b<|.DictComp i a v k c):b e:=
 (jc<|e.ctorIdx=8).elim (λp=>a7.ListComp.elim e p d) λq=>(jc<|e.ctorIdx=9).elim (λp=>a7.SetComp.elim e p n) λs=>(jc<|e.ctorIdx=10).elim (λp=>a7.DictComp.elim e p o)
  λf=>absurd (by rw[yJ,beq_false_of_ne q,beq_false_of_ne s,beq_false_of_ne f];rfl) h
noncomputable def ahg:X->Option X
 |.rev J=>N|.enum J=>N
 |x=>Y x
def BG (o:Option X):Option X:=o.bind ahg
def aeZ:a7×List a7×List Keyword->Option (ba×a7)
 |(a,[b],[])=>(nameP a).map λp=>(p,b)
 |_=>N
def y9 (a:a7):Option<|ba×a7:=(H6 a).bind aeZ
noncomputable def Im:aj->Option String
 |.type f=>Y f|_=>N
def SX (a:Glob)(b:a7->Option X)(c:a7)(p:ba)(d:a7):Option X:=if (a.blt.lookup p).bind Im=Y "reversed" then (if noStar d then (b d).map .rev else N) else if (a.blt.lookup p).bind Im=Y "enumerate" then (if noStar d then (b d).map .enum else N) else BG (b c)
def srcOf (a:Glob)(c:a7->Option X)(z:K)(b:a7):Option X:=match y9 b with
 |Y (p,d)=>if z.scope.names.lookup p=Y .globalImplicit/\a.top.lookup p=N then SX a c b p d else BG (c b)
 |N=>BG<|c b
noncomputable def isTup (a:a7):Bool:=a.ctorIdx==25
noncomputable def aaG:X->Bool
 |.enum J=>true|_=>false
def Dw (a:X)(b:a7):Bool:=if aaG a then isTup b else isName b
def lsA (c:a7)(a:List a7)(f:List Keyword):Option<|a7×a7:=match a,f with
 |[d],[]=>if nameP c=Y "len" then (y9 d).bind λb=>if b.1="set"/\noStar b.2=true then (H6 d).map λe=>(e.1,b.2) else N else N
 |J,W=>N
def TV (o:Option a7):Option X:=o.bind λa=>(DZ a).bind λb=>(II b).map λp=>.k<|.qu p
noncomputable def abK:pC->Option X
 |.int q=>Y<|.k<|.int q|.str p=>Y<|.k<|.qu p|.bool a=>Y<|.k<|.bool a|.none=>Y<|.k .none|_=>N
noncomputable def ag9:aj->V
 |.int q J=>.int q|v=>.con v
def VL (a:Glob)(p:ba):Option aj->Option X
 |Y s=>Y<|.k<|ag9 s
 |N=>(a.blt.lookup p).map λs=>.k<|.con s
def VM (g:Glob)(p:ba):Option V->Option X
 |Y k=>Y<|.k k
 |N=>VL g p<|g.top.lookup p
def adV (g:Glob)(z:K)(p:ba):Option NameKind->Option X
 |Y .local=>(idx z.slots p).map .l|Y .cell=>(idx z.cells p).map .cell
 |Y .free=>if p==("__classdict__":ba) then N else (idx z.cells p).map .cell
 |Y .globalImplicit=>VM g p<|g.vals.lookup p
 |_=>N
def VK (a:Glob)(z:K)(p:ba):Option X:=if p==("__debug__":ba) then N else adV a z p (z.scope.names.lookup p)
section
variable (g:Glob) (r:K->a7->Option X) (B:K)
noncomputable def ae2 (b:BoolOp)(a:List X):X:=match b with
 |.And=>.and a|.Or=>.or a
def mtX (p:ba)(o:X)(a:List X):X:=match Ow p with
 |Y m=>.mt m o a|N=>.mc o p a
noncomputable def O5:X->Option aj
 |.k<|.con s=>Y s|_=>N
theorem F7 (e:O5 x=Y v):x=.k (.con v):=by
 cases x with
 |k n=>cases n with
  |con a=>exact Q (ae e) rfl|_=>exact nS e
 |_=>exact nS e
def bfX (a:List ba)(f k:List X)(s:aj):Option X:=(aci s).elim (Y<|.call (.k<|.con s) f a k) λn=>if a.isEmpty then Y (.bf n f) else N
def H5 (a:List ba)(b:X)(f k:List X):Option X:=(O5 b).elim (Y<|.call b f a k) λs=>bfX a f k s
def aeY (c:a7)(a:List a7)(f:List Keyword)(e:dB):Option X:=(U5 c).elim
 (if !(isName c) then N else if !(a.all noStar&&decide (a.length+f.length<12)&&f.all (λd=>d.arg.isSome)) then N else
   o3 (r B c) (qP (r B) a) (qP (λd=>r B d.value) f) λc a k=>H5 (f.filterMap (·.arg)) c a k)
 λb=>if !(vd b.1&&a.all noStar&&f.isEmpty&&decide (a.length<25)&&b.2.2.endLine==e.line) then N else
   o2 (r B b.1) (qP (r B) a) λh a=>Y<|mtX b.2.1 h a
def HT (s:aj)(a:X):Bool:=match O5 a,s with
 |Y<|.builtin f,.builtin p=>f==p|Y<|.type f,.type p=>f==p
 |J,W=>false
def lsX (c:a7)(b:a7×a7):Option X:=o3 (r B c) (r B b.1) (r B b.2) λd e a=>if HT (.builtin "len") d&&HT (.type "set") e then Y (.bf .set [a]) else N
def aeX (b:a7)(a:List a7)(f:List Keyword)(e:dB):Option X:=(lsA b a f).elim (aeY r B b a f e)<|lsX r B b
noncomputable def Oj:Option a7->Option X
 |Y a=>r B a|N=>Y<|.k .none
def ahh (o:a7)(y h:Option a7):Option a7->Option X
 |N=>o3 (r B o) (Oj r B y) (Oj r B h) λo y h=>Y<|.C4 o y h
 |Y J=>N
def Zt (o a:a7):Option X:=(ZE a).elim (o2 (r B o) (r B a) λo a=>Y<|.sub o a) λb=>ahh r B o b.1 b.2.1 b.2.2
def O1 (a:List<|Option a7)(f:List a7):Option X:=if a.all (·.isNone)&&!a.isEmpty&&a.length==f.length then (qP (r B) f).map .star else if !(a.length==f.length&&decide (a.length<=15)) then N else o2 (qP TV a) (qP (r B) f) λa f=>Y<|.dict a f
def Bb (a:List Comprehension)(v:eV):Bool:=v.kind==.function&&(zp B v).isSome&&a.all (λb=>b.is_async==0&&BQ b.iter)&&decide (v.names.map (·.1)).Nodup&&(rb v).all (λp=>!B.cells.contains p)
def aeK (d:a7)(v:eV):List Comprehension->Option X
 |[]=>N|c::a=>o5 (srcOf g (r B) B c.iter) (qP (λ(c:Comprehension)=>srcOf g (r<|B.comp v) (B.comp v) c.iter) a) (qP (λ(c:Comprehension)=>uf (B.comp v) 5 c.target)<|c::a) (qP (λ(c:Comprehension)=>qP (r<|B.comp v) c.ifs)<|c::a) (r (B.comp v) d) λe f k u d=>if !((e::f).zip<|c::a).all (λb=>Dw b.1 b.2.target) then N else Y (.comp d k (e::f) u (B.comp v).slots.length (rb v).length)
def uR (e:a7):Option X:=a7.casesOn e
 (λd a J=>(qP (r B) a).map<|ae2 d)
 (λJ J J=>N)
 (λh d b J=>o2 (r B h) (r B b) λh b=>Y<|.bin d h b)
 (λd h J=>(r B h).map<|.un d)
 (λi k v n=>
  if !(wH i&&g.yW B.code n.line n.col==Y (B.qual++"<lambda>")) then N else
  (zp B v).map λcl=>.lam ⟨i,.expr k,v,B.qual++"<lambda>"⟩ cl)
 (λc h b J=>o3 (r B c) (r B h) (r B b) λc h b=>Y<|.rf c h b)
 (λq u J=>O1 r B q u)
 (λJ J J=>N)
 (λs t v J=>if !(Bb B t v) then N else aeK g r B s v t)
 (λJ J J J=>N)
 (λJ J J J J=>N)
 (λJ J J J=>N)
 (λJ J=>N)
 (λJ J=>N)
 (λJ J=>N)
 (λh ops a J=>if (ops.zip a).any (λx=>kG x.1 x.2)||ops.length != a.length then N else (o2 (r B h) (qP (r B) a) λh a=>Y<|.cmp h ops a))
 (λf y z n=>aeX r B f y z n)
 (λJ J J J=>N)
 (λJ J=>N)
 (λc J J=>abK c)
 (λo p J=>if !vd o then N else (r B o).map (.attr · p))
 (λo w J=>Zt r B o w)
 (λJ J=>N)
 (λx J=>VK g B x)
 (λa J=>if !(a.all noStar&&decide (a.length<=65536)) then N else (qP (r B) a).map .list)
 (λa J J=>if !(a.all noStar&&decide (a.length<=65536)) then N else (qP (r B) a).map .tup)
 λJ J J J=>N
end
noncomputable def Cb (a:Glob):Nat->K->a7->Option X
 |0=>λJ J=>N
 |n+1=>uR a<|Cb a n
abbrev yj:=List ba
def zl (e:a7):Bool:=e.ctorIdx==24||e.ctorIdx==8||e.ctorIdx==6||(match aim e with
 |Y b=>b.1.ctorIdx==24&&b.2.ctorIdx==2|N=>false)
def zE (o:yj)(a b:a7)(c:X):X:=if zl b&&(match nameP a with|Y c=>o.contains c|N=>false) then .new c else c
noncomputable def N0 (o:yj):List a7->List a7->List X->List X
 |t::a,b::f,c::k=>zE o t b c::N0 o a f k|J,W,k=>k
noncomputable def aha:X->Option (List X)
 |.tup l=>Y l|_=>N
def HH (o:yj)(b c:a7)(d:X):X:=match yO b,yO c,aha d with
 |Y a,Y f,Y k=>.tup<|N0 o a f k
 |J,W,V=>zE o b c d
theorem Gl {o:yj}(h:yO t=N\/yO e=N):HH o t e x=zE o t e x:=by
 delta HH;rcases h with h|h<;>rw[h]
 cases yO t<;>rfl
noncomputable def PT (z:K)(ts vs:List a7):Option<|Option<|List ba:=
 if !(ts.length==2||ts.length==3)||vs.length != ts.length then Y N else
 if (vs.any λa=>fD.match_5 (λJ=>Bool) a (λJ J=>true) λJ=>false) then Y N else
 let c:=(ts.head?.map (·.pos.line)).getD 0;let names:=ts.filterMap λa=>fD.match_8 (λJ=>Option ba) a (λp e=>if z.scope.names.lookup p==Y .local&&e.line==c then Y p else N) λJ=>N
 if names.length != ts.length||names.eraseDups.length != names.length then Y N else
 if vs.all (foldedForSure 8) then Y N else
 if vs.all (constantsAlone 8) then N else Y (Y names)
noncomputable def yF (z:K):List ba->List Tg->Bool
 |[],[]=>true|x::a,.l c::f=>z.slots[c]?==Y x&&z.scope.names.lookup x==Y .local&&yF z a f
 |J,W=>false
def aeC (z:K)(a:List ba):Tg->Bool
 |.tup f=>yF z a f&&decide a.Nodup|_=>false
def WL (z:K)(q:Tg):Option (Option<|List ba)->Bool
 |Y N=>true|Y<|Y a=>aeC z a q
 |N=>false
def WM (z:K)(b c:a7)(q:Tg):Bool:=match yO b,yO c with
 |Y a,Y f=>WL z q<|PT z a f
 |J,W=>true
section
variable (g:Glob) (mu:yj) (r:K->a7->Option X) (L:K->gv->Option XS) (B:K)
def KP (a b:a7):Option XS:=o2 (uf B 5 a) (r B b) λq c=>if WM B a b q then Y (XS.asg q<|HH mu a b c) else N
def R5 (a o e:a7):Option XS:=if isSlice e then N else if !yJ a then N else o3 (r B o) (r B e) (r B a) λo e a=>Y<|.wj o e a
def newX (p:ba)(a:a7)(b:X):X:=if mu.contains p&&zl a then .new b else b
def ais (a:a7)(c:a7):Option XS:=(SI c).elim ((U5 c).elim (KP mu r B c a) λb=>if !vd b.1 then N else (o2 (r B b.1) (r B a) λd e=>Y<|.setAttr d b.2.1<|newX mu b.2.1 a e)) λb=>R5 r B a b.1 b.2
def WK (a:a7):List a7->Option XS
 |[b]=>ais mu r B a b|_=>N
def acv (a:eB)(c:a7)(d:a7):Option XS:=(SI d).elim (if !(isName d) then N else (o2 (uf B 5 d) (r B c) λd c=>Y<|.aug d a c))
 λb=>if isSlice b.2 then N else (o3 (r B b.1) (r B b.2) (r B c) λe f c=>Y<|.uD e f a c)
def ah7 (b c:a7)(a f:List gv):Option XS:=if !f.isEmpty then N else if !(BQ c) then N else o3 (uf B 5 b) (srcOf g (r B) B c) (qP (L B) a) λq c a=>if Dw c b then Y (.uZ q c a) else N
def ag8 (b:a7)(a f:List gv):Option XS:=if !f.isEmpty then N else o2 (r B b) (qP (L B) a) λb a=>Y<|.Lu b a
def aie (p:ba)(b:iD)(a:List gv)(v:eV)(k:ba)(e:dB):Option XS:=if !(wH b&&p==k&&g.yW B.code e.line e.col==Y (B.qual++p)) then N else o2 (uf B 5<|.Name k e) (zp B v) λq f=>Y<|.DY q ⟨b,.stmts a,v,B.qual++p⟩ f
def stepT (c:gv):Option XS:=gv.casesOn c
 (λp b a f ret k v h n e=>if f.isEmpty&&ret.isNone&&k.isEmpty&&h.isNone then aie g B p b a v n e else N)
 (λJ J J J J J J J J J=>N)
 (λJ J J J J J J J J J J=>N)
 (λi J=>(match i with
  |Y i=>(r B i).map .ret|N=>Y<|.ret<|.k .none))
 (λJ J=>N)
 (λh i J=>WK mu r B i h)
 (λJ J J J J J J=>N)
 (λo q i J=>acv r B q i o)
 (λJ J J J J=>N)
 (λo i a u J=>ah7 g r L B o i a u)
 (λJ J J J J=>N)
 (λs a u J=>ag8 r L B s a u)
 (λs t d J=>o3 (r B s) (qP (L B) t) (qP (L B) d) λs t d=>Y<|.rf s t d)
 (λJ J J=>N)
 (λJ J J=>N)
 (λJ J J=>N)
 (λJ J J=>Y .stop)
 (λa w u x J=>if w.isEmpty||!u.isEmpty||!x.isEmpty then N else (qP (L B) a).map .yP)
 (λJ J J J J=>N)
 (λJ J J=>N)
 (λJ J=>N)
 (λJ J J J=>N)
 (λJ J=>N)
 (λJ J=>N)
 (λi J=>if isCall i then (r B i).map .expr else N)
 (λJ=>N)
 (λJ=>N)
 λJ=>N
end
noncomputable def Ku (a:Glob)(o:yj):Nat->K->gv->Option XS
 |0=>λJ J=>N
 |n+1=>stepT a o (Cb a n)<|Ku a o n
section
variable {A j H T U I:Type}{G:Prop}
theorem yZ {c:A->j->Option I}(e:o2 a b c=Y y)(d:∀p f,a=Y p->b=Y f->c p f=Y y->G):G:=by
 cases a with
 |none=>exact nS e|some p=>cases b with
  |none=>exact nS e|some f=>exact d p f rfl rfl e
theorem AY {f:A->j->H->Option I}(e:o3 a b c f=Y y)(d:∀p h r,a=Y p->b=Y h->c=Y r->f p h r=Y y->G):G:=by
 cases a with
 |none=>exact nS e|some p=>exact yZ (a:=b) e λh r=>d p h r rfl
theorem Ou {f:A->j->H->T->U->Option I}(h:o5 a b c d e f=Y y)(k:∀p o r q s,a=Y p->b=Y o->c=Y r->d=Y q->e=Y s->f p o r q s=Y y->G):G:=AY h λp o r i n z h=>yZ h λq s=>k p o r q s i n z
end
def F_ (b:Glob)(o:yj)(z:K)(a:List gv):Option<|List XS:=qP (Ku b o 100 z) a
end Vm
end
noncomputable section
namespace Vm
noncomputable def rC:V->V
 |.qu p=>.str p|v=>v
noncomputable def El (c:Nat):Option O->V
 |Y<|.list l=>.lst l|Y<|.dict f j=>.ru f j
 |_=>.ref c
def view (a:List O):V->V
 |.qu p=>.str p|.ref c=>El c a[c]?
 |v=>v
noncomputable def q6 (n:Nat):Bool:=decide<|n<=65536
def Iq (k:V):Option Bool:=match k with
 |.none=>Y false|.bool T=>Y T
 |.int i=>Y<|decide<|i≠0
 |.str s=>if q6 s.cps.size then Y (decide<|s.cps.size≠0) else N
 |.lst l=>if q6 l.length then Y (decide<|l.length≠0) else N
 |_=>N
def rD (a:List O)(k:V):Option Bool:=Iq<|view a k
noncomputable def CD (q a:Int):Bool:=decide<|au q+au a<=100000
def WE (L:eB)(a b:Int):Option V:=match L with
 |.Add=>Y<|.int<|a+b
 |.Sub=>Y<|.int<|a-b
 |.Mult=>if CD a b then Y (.int<|a*b) else N
 |.FloorDiv=>if b=0\/aQ a b=true then N else Y (.int<|bg a b)
 |.Mod=>if b=0\/aQ a b=true then N else Y (.int<|a_ a b)
 |.Pow=>if 0<=b/\(au a:Int)*b<=100000 then Y (.int<|a^b.toNat) else N
 |.LShift=>if 0<=b/\(au a:Int)+b<=100000 then Y (.int<|a*2^b.toNat) else N
 |.RShift=>if 0<=b then Y (.int<|bg a<|2^b.toNat) else N
 |.BitAnd=>Y<|.int<|fU a b
 |.BitOr=>Y<|.int<|i9 a b
 |.BitXor=>Y<|.int<|jH a b
 |_=>N
def WB (L:eB)(a j:ba):Option V:=match L with
 |.Add=>if q6 (a.cps.size+j.cps.size) then Y (.str<|a++j) else N
 |_=>N
def WC (L:eB)(a f:List V):Option V:=match L with
 |.Add=>if q6 (a.length+f.length) then Y (.lst<|a++f) else N
 |_=>N
noncomputable def rep1 (q:Int):List V->Option V
 |[k]=>if 0<=q/\q<65536 then Y (.lst<|aw q.toNat k) else N
 |_=>N
def WD (L:eB)(a:List V)(q:Int):Option V:=match L with
 |.Mult=>rep1 q a|_=>N
def binI (L:eB)(q:Int):V->Option V
 |.int a=>WE L q a|_=>N
def ab' (L:eB)(p:ba):V->Option V
 |.str j=>WB L p j|_=>N
def ain (L:eB)(a:List V):V->Option V
 |.lst f=>WC L a f|.int q=>WD L a q
 |_=>N
def ab_ (L:eB)(k T:V):Option V:=match k with
 |.int k=>binI L k T|.str k=>ab' L k T
 |.lst k=>ain L k T|_=>N
def sL (a:List O)(L:eB)(k T:V):Option V:=ab_ L (view a k)<|view a T
def ae_ (L:eB)(a b:Int):Option V:=match L with
 |.Add=>Y<|.int<|a+b
 |.Sub=>Y<|.int<|a-b
 |.Mult=>if CD a b then Y (.int<|a*b) else N
 |.FloorDiv=>if b=0\/aQ a b=true then N else Y (.int<|bg a b)
 |.LShift=>if 0<=b/\(au a:Int)+b<=100000 then Y (.int<|a*2^b.toNat) else N
 |.RShift=>if 0<=b then Y (.int<|bg a<|2^b.toNat) else N
 |_=>N
def air (L:eB)(q:Int):V->Option V
 |.int a=>ae_ L q a|_=>N
def xO (L:eB)(k T:V):Option V:=match k with
 |.int k=>air L k T|_=>N
noncomputable def unI (t:UnaryOp)(q:Int):Option V:=match t with
 |.USub=>Y<|.int <| -q
 |.Invert=>Y<|.int<|fw q
 |_=>N
def Vu (t:UnaryOp)(k:V):Option V:=match k with
 |.int k=>unI t k|_=>N
noncomputable def Cj (o h:Option Bool):Option Bool:=o.bind λT=>h.map (T&&·)
noncomputable def zR (c:V->V->Option Bool):List V->List V->Option Bool
 |[]=>@λj=>if j.isEmpty then Y true else N
 |a::l=>@λj=>(match j with
  |b::j=>Cj (c a b)<|zR c l j
  |[]=>N)
noncomputable def eqN:V->Option Bool
 |.none=>Y true|.str J=>Y false
 |_=>N
noncomputable def eqB (a:Bool):V->Option Bool
 |.bool G=>Y<|a==G
 |_=>N
noncomputable def eqI (a:Int):V->Option Bool
 |.int b=>Y<|decide<|a=b
 |_=>N
noncomputable def eqS (a:ba):V->Option Bool
 |.str j=>Y<|decide<|a=j
 |.none=>Y false|_=>N
def eqT (b:V->V->Option Bool)(a:List V):V->Option Bool
 |.tup f=>if a.length=f.length then zR b a f else N
 |_=>N
def abx (b:V->V->Option Bool)(a:List V):V->Option Bool
 |.lst f=>if a.length=f.length then zR b a f else Y false
 |_=>N
def Dd (b:V->V->Option Bool)(k L:V):Option Bool:=match k with
 |.none=>eqN L|.bool k=>eqB k L
 |.int k=>eqI k L|.str k=>eqS k L
 |.tup k=>eqT b k L|.lst k=>abx b k L
 |_=>N
noncomputable def rV:Nat->V->V->Option Bool
 |0=>@λJ J=>N
 |n+1=>@λk L=>Dd (rV n) (rC k)<|rC L
noncomputable def findKey:List V->List V->V->Option (Option V)
 |k::a,L::f=>@λy=>match tA k y with
  |Y true=>Y<|Y L
  |Y false=>findKey a f y|N=>N
 |[],[]=>@λJ=>Y N
 |J,W=>@λJ=>N
noncomputable def zS:List V->List V->List V->List V->Option Bool
 |[],[]=>@λJ J=>Y true
 |k::b,A::f=>@λj u=>match findKey j u k with
  |Y<|Y n=>match rV 8 A n,zS b f j u with
   |Y a,Y G=>Y<|a&&G
   |J,W=>N
  |Y N=>Y false|N=>N
 |J,W=>@λJ J=>N
noncomputable def uY:V->Bool
 |.str J=>true|_=>false
def aby (a f j u:List V):Option Bool:=if a.all uY=true/\j.all uY=true then (if a.length=j.length then zS a f j u else Y false) else N
noncomputable def JC:V->Bool
 |.str J=>true|.int J=>true
 |_=>false
noncomputable def hasSub (p j:ba):Bool:=!(kO j p 0 j.length 1).isEmpty
noncomputable def L5 (k:V):List V->Option Bool
 |[]=>Y false|y::l=>(rV 8 y k).bind λT=>(L5 k l).map (T||·)
noncomputable def QS (f:Int->Int->Bool)(k L:V):Option Bool:=match k with
 |.int k=>(match L with
  |.int L=>Y<|f k L
  |_=>N)
 |_=>N
noncomputable def isNone (T:Bool):V->Option Bool
 |.none=>Y T|_=>N
noncomputable def isB (a:Bool):V->Option Bool
 |.bool G=>Y<|a==G
 |_=>N
def isW (k L:V):Option Bool:=match k with
 |.none=>isNone true L|.str J=>isNone false L
 |.int J=>isNone false L|.bool k=>isB k L
 |_=>N
def O_ (a L:V):Option Bool:=match a with
 |.ru b f=>(match L with
  |.ru j u=>aby b f j u|_=>N)
 |a=>rV 8 a L
def inS (p:ba):V->Option Bool
 |.str j=>Y<|hasSub j p
 |_=>N
def inW (k L A:V):Option Bool:=match A with
 |.lst l=>L5 k l|_=>N
def inT (k L b:V):Option Bool:=match b with
 |.str p=>inS p L|b=>inW k L b
def O9 (A:CmpOp)(k a b:V):Option Bool:=match A with
 |.Eq=>O_ a b|.NotEq=>(O_ a b).map not
 |.Lt=>QS (λa b=>decide<|a<b) a b|.LtE=>QS (λa b=>decide<|a<=b) a b
 |.Gt=>QS (λa b=>decide<|b<a) a b|.GtE=>QS (λa b=>decide<|b<=a) a b
 |.Is=>isW a b|.IsNot=>(isW a b).map not
 |.In=>inT k a b|.NotIn=>(inW k a b).map not
def tX (a:List O)(A:CmpOp)(k L:V):Option Bool:=O9 A k (view a k)<|view a L
noncomputable def place (q:Int)(c:Nat):Option Nat:=
 let a:=if q<0 then q+c else q
 if 0<=a/\a<c then Y a.toNat else N
noncomputable def one (c:Nat):ba:=⟨#[c]⟩
def OK (a:List V):V->Option V
 |.int q=>if q6 a.length then (place q a.length).bind λc=>a[c]? else N
 |_=>N
def aaN (p:ba):V->Option V
 |.int q=>if q6 p.cps.size then (place q p.cps.size).bind λc=>(p.cps[c]?).map λh=>.str<|one h else N
 |_=>N
def N2 (o L:V):Option V:=match o with
 |.lst l=>OK l L|.tup l=>OK l L
 |.str p=>aaN p L|_=>N
def si (a:List O)(o L:V):Option V:=N2 (view a o)<|view a L
noncomputable def Ol:V->Option (Option Int)
 |.none=>Y N|.int q=>Y<|Y q
 |_=>N
noncomputable def HK (a:List V)(y h:Option Int):List V:=(sliceRange (sliceBounds y h N a.length).1 (sliceBounds y h N a.length).2.1 (sliceBounds y h N a.length).2.2).filterMap (a[·]?)
def S1 (o:V)(y h:Option Int):V->Option V
 |.lst l=>if q6 l.length then Y (.lst<|HK l y h) else N
 |_=>N
def FF (a:List O)(o L A:V):Option V:=(Ol L).bind λL=>(Ol A).bind λA=>S1 o L A<|view a o
noncomputable def vl (q a d:Int):Nat:=(cB q a d).toNat
def wD (q a d:Int):List V:=(rangeInts q d<|vl q a d).map .int
def wZ (q a d:Int):Bool:=decide (d≠0)&&jo q a d&&q6 (vl q a d)
def w8 (a:List O)(k:V):Option<|List V:=match rC k with
 |.lst l=>Y l|.tup l=>Y l
 |.tS q b d=>if wZ q b d then Y (wD q b d) else N
 |.str s=>Y<|s.cps.toList.map λd=>.str<|one d
 |_=>N
noncomputable def iV {o:Type}(b:Int->Option o):V->Option o
 |.int q=>b q|_=>N
noncomputable def sV {o:Type}(b:ba->Option o):V->Option o
 |.str p=>b p|_=>N
noncomputable def tV {o:Type}(b:ba->Option o):V->Option o
 |.qu p=>b p|_=>N
noncomputable def lV {o:Type}(b:List V->Option o):V->Option o
 |.lst a=>b a|_=>N
noncomputable def a0 {o:Type}(y:Option o):List V->Option o
 |[]=>y|_=>N
noncomputable def a1 {o:Type}(b:V->Option o):List V->Option o
 |[k]=>b k|_=>N
noncomputable def a2 {o:Type}(b:V->V->Option o):List V->Option o
 |[k,L]=>b k L|_=>N
noncomputable def intsOf:List V->Option (List Int)
 |[]=>Y []|x::l=>iV (λq=>(intsOf l).map (q::·)) x
noncomputable def strsOf:List V->Option (List ba)
 |[]=>Y []|x::l=>sV (λp=>(strsOf l).map (p::·))<|rC x
noncomputable def CM (q:Int):Bool:=decide (0<=q/\q<0xD800)  || decide (0xE000<=q/\q<0x110000)
def TP:V->Option V
 |.lst l=>if q6 l.length then Y (.int l.length) else N
 |.tup l=>if q6 l.length then Y (.int l.length) else N
 |.str p=>if q6 p.cps.size then Y (.int p.cps.size) else N
 |_=>N
def ZS:List V->Option V
 |[k]=>iV (λk=>Y<|.tS 0 k 1) k|[L,k]=>iV (λL=>iV (λk=>Y<|.tS L k 1) k) L
 |[L,k,A]=>iV (λL=>iV (λk=>iV (λA=>if A=0\/aQ (k-L) A=true then N else Y (.tS L k A)) A) k) L|_=>N
def TC:V->Option V
 |.tS q a d=>if wZ q a d then Y (.lst<|wD q a d) else N
 |.lst l=>if q6 l.length then Y (.lst l) else N
 |_=>N
noncomputable def Tz:List Int->Option V
 |[]=>N|x::l=>Y<|.int<|l.foldl (λa d=>if a<d then d else a) x
noncomputable def Kl (a:List Int):Int:=(kT (λc=>a.getD c 0) a.length).length
noncomputable def boolsOf:List V->Option (List Bool)
 |[]=>Y []|.bool T::l=>(boolsOf l).map (T::·)
 |_=>N
noncomputable def bV {o:Type}(b:Bool->Option o):V->Option o
 |.bool T=>b T|_=>N
noncomputable def Oq (p:ba):Option V:=match p.cps.toList with
 |[c]=>Y<|.int c
 |_=>N
def ach (a:List O)(n:Bf)(f:List V):Option V:=match n with
 |.len=>a1 (λk=>TP<|view a k) f|.range=>ZS f
 |.sum=>a1 (λk=>lV (λj=>(intsOf j).map λj=>.int j.sum)<|view a k) f|.list=>a1 (λk=>TC<|view a k) f
 |.max=>a1 (λk=>lV (λj=>(intsOf j).bind Tz)<|view a k) f|.set=>a1 (λk=>lV (λj=>if j.length<64 then (intsOf j).map λu=>.int<|Kl u else N)<|view a k) f
 |.chr=>a1 (iV λq=>if CM q then Y (.str<|one q.toNat) else N) f|.ord=>a1 (sV Oq) f
 |.abs=>a1 (iV λk=>Y<|.int<|if k<0 then -k else k) f|.divmod=>a2 (λk n=>iV (λk=>iV (λn=>if n=0\/aQ k n=true then N else Y (.tup [.int<|bg k n,.int<|a_ k n])) n) k) f
def yg (a:List O)(n:Bf)(as:List V):Option V:=ach a n<|as.map rC
noncomputable def Ak:Option V->V->V
 |Y k=>@λJ=>k
 |N=>@λL=>L
set_option genCtorIdx true in
inductive MK where
 |uX|wF|BV|Ao|BK|EA|AU|Ez|Ba|EX
 deriving DecidableEq
noncomputable def kL (e:MK):V->Option MK
 |.lst J=>Y e|_=>N
noncomputable def kS (e:MK):V->Option MK
 |.str J=>Y e|_=>N
noncomputable def kIx:V->Option MK
 |.lst J=>Y .Ao|.str J=>Y .BK
 |_=>N
noncomputable def kD (e:MK):V->Option MK
 |.ru J W=>Y e|_=>N
noncomputable def kI (e:MK):V->Option MK
 |.int J=>Y e|_=>N
def BU (g:Mt)(o:V):Option MK:=match g with
 |.append=>kL .uX o|.reverse=>kL .wF o
 |.pop=>kL .BV o|.index=>kIx o
 |.join=>kS .EA o|.replace=>kS .AU o
 |.lower=>kS .Ez o|.get=>kD .Ba o
 |.yf=>kI .EX o
noncomputable def vF (s j:ba):Bool:=decide<|s.length+(s.length+1)*j.length<=16777216
def abh (a f:List V)(k L:V):Option V:=if JC k then (findKey a f k).map (Ak · L) else N
def abi (a f:List V):List V->Option V
 |[k]=>abh a f k .none|[k,L]=>abh a f k L
 |_=>N
noncomputable def dV {o:Type}(b:List V->List V->Option o):V->Option o
 |.ru a f=>b a f|_=>N
def Tw (a:List O)(e:MK)(o:V)(f:List V):Option V:=match e with
 |.Ao=>lV (λj=>a1 (bV λT=>if q6 j.length then (boolsOf j).bind λbs=>if bs.contains T then Y (.int<|bs.idxOf T) else N else N) f) o|.BK=>sV (λp=>a1 (sV λk=>if 0<=js p k then Y (.int<|js p k) else N) f) o
 |.EA=>sV (λg=>a1 (λj=>lV (λj=>(strsOf j).bind λj=>if nt g j then Y (.str<|lR g j) else N)<|view a j) f) o|.Ez=>sV (λp=>a0 (if q6 (iO p).length then Y (.str<|iO p) else N) f) o
 |.Ba=>dV (λG d=>abi G d f) o|.EX=>iV (λq=>a0 (Y<|.int<|au q) f) o
 |_=>N
def HI (k:V)(a:List V):Option V:=sV (λk=>a2 (λL A=>tV (λL=>tV (λA=>if vF k A then Y (.str<|cY k L A) else N) A) L) a) k
def QE (a:List O)(c:Nat)(e:MK)(f:List V)(l:List V):Option<|V×List O:=match e with
 |.uX=>a1 (λk=>if q6 l.length then Y (.none,a.set c<|.list<|l++[k]) else N) f|.wF=>a0 (if q6 l.length then Y (.none,a.set c<|.list l.reverse) else N) f
 |.BV=>a0 (if q6 l.length then l.getLast?.map λL=>(L,a.set c<|.list l.dropLast) else N) f|_=>N
def Jo (a:List O)(e:MK)(o:V)(f:List V):Option<|V×List O:=match o with
 |.ref c=>(match a[c]? with
  |Y<|.list l=>QE a c e f l|_=>N)
 |_=>N
noncomputable def ad_:MK->Bool
 |.uX=>true|.wF=>true
 |.BV=>true|_=>false
def za (a:List O)(e:MK)(o:V)(as:List V):Option<|V×List O:=if ad_ e then Jo a e o as else if e=.AU then (HI (view a o) as).map (·,a) else (Tw a e (view a o)<|as.map rC).map (·,a)
theorem EM {a:List O}{f:List V}(e)(j)(g:a[i]?=Y (.list f)):Jo a e (.ref i) j=QE a i e j f:=by
 show (match a[i]? with
  |Y<|.list f=>QE a i e j f|_=>N)=_
 refine Q g rfl
structure vC where
 top:bK->List V->List ba->List V->List O->Option (V×List O)
 zU:wQ->List (ba×Nat)->List V->List O->Option (V×List O)
inductive Fl where
 |next|ret (v:V)
noncomputable def tQ:List V->List V->V->V->Option (List V×List V)
 |k::a,L::f=>@λA T=>match tA k A with
  |Y true=>Y (k::a,T::f)|Y false=>match tQ a f A T with
   |Y (j,v)=>Y (k::j,L::v)|N=>N
  |N=>N
 |[],[]=>@λA T=>Y ([A],[T])
 |J,W=>@λJ J=>N
noncomputable def wk:List V->List V->List V->List V->Option (List V×List V)
 |ks,f,k::j,L::v=>match tQ ks f k L with
  |Y (H,d)=>wk H d j v|N=>N
 |ks,f,[],[]=>Y (ks,f)|J,W,P,F=>N
noncomputable def sU (p:ba):Bool:=(["tag","attrib","tail","kids","append","makeelement","itertext"]:List ba).contains p
noncomputable def GB:V->Bool
 |.con<|.ref _=>true|.con J=>false
 |_=>true
def ae' (p:ba):Option O->Option V
 |Y<|.ns l=>(l.lookup p).bind λk=>if GB k then Y k else N
 |_=>N
def WJ (a:List O)(p:ba):Option Nat->Option V
 |Y c=>if sU p then ae' p a[c]? else N
 |N=>N
def zW (a:List O)(c:Nat)(p:ba):Option O->Option V
 |Y<|.fn _ _ y=>WJ a p y|Y<|.list _=>if p="append" then Y (.bm "list.append"<|.ref c) else N
 |_=>N
def tj (a:List O)(o:V)(p:ba):Option V:=match o with
 |.ref c=>zW a c p a[c]?|_=>N
noncomputable def Pb (g:vC)(a:List V)(f:List ba)(j:List V)(v:List O):Option O->Option (V×List O)
 |Y<|.fn t H _=>(match f with
  |[]=>(match j with
   |[]=>g.zU t H a v|_=>N)
  |_=>N)
 |_=>N
noncomputable def callC (g:vC)(a:List V)(f:List ba)(j:List V)(w:List O):aj->Option (V×List O)
 |.ref v=>g.top v a f j w|_=>N
def Wx (f:String)(a:List V)(g:List ba)(j:List V)(v:List O):V->Option (V×List O)
 |.ref c=>if f="list.append"/\g=[]/\j=[] then Jo v .uX (.ref c) a else N
 |_=>N
def v7 (g:vC)(k:V)(a:List V)(f:List ba)(j:List V)(v:List O):Option<|V×List O:=match k with
 |.con s=>callC g a f j v s|.ref c=>Pb g a f j v v[c]?
 |.bm id s=>Wx id a f j v s|_=>N
noncomputable def rA (U:List Nat):Nat->Tg->V->St->Option St
 |0=>@λJ J J=>N
 |n+1=>@λq k x=>match q with
  |.l c=>if c<x.loc.length then Y { x with loc:=x.loc.set c<|Y k } else N
  |.cell h=>match U[h]? with
   |Y c=>match x.hp[c]? with
    |Y<|.cell _=>Y { x with hp:=x.hp.set c<|.cell<|Y k }|_=>N
   |N=>N
  |.tup l=>match k with
   |.tup j=>if l.length=j.length then (l.zip j).foldl (λi y=>i.bind λx=>rA U n y.1 y.2 x) (Y x) else N
   |_=>N
structure Ev where
 E:List Nat->X->St->Option (V×St)
 S:List Nat->XS->St->Option (Fl×St)
noncomputable def sM (y:Ev)(U:List Nat):List X->St->Option (List V×St)
 |[]=>@λz=>Y ([],z)
 |x::l=>@λz=>match y.E U x z with
  |Y (k,z)=>match sM y U l z with
   |Y (f,z)=>Y (k::f,z)|N=>N
  |N=>N
noncomputable def rR (y:Ev)(U:List Nat):List XS->St->Option (Fl×St)
 |[]=>@λz=>Y (.next,z)
 |x::l=>@λz=>match y.S U x z with
  |Y (.next,z)=>rR y U l z|o=>o
noncomputable def OW (y:Ev)(U:List Nat):List X->St->Option (V×St)
 |[]=>@λJ=>N
 |[x]=>@λz=>y.E U x z
 |x::l=>@λz=>match y.E U x z with
  |Y (k,z)=>match rD z.hp k with
   |Y true=>OW y U l z|Y false=>Y (k,z)
   |N=>N
  |N=>N
noncomputable def J_ (y:Ev)(U:List Nat):List X->St->Option (V×St)
 |[]=>@λJ=>N
 |[x]=>@λz=>y.E U x z
 |x::l=>@λz=>match y.E U x z with
  |Y (k,z)=>match rD z.hp k with
   |Y true=>Y (k,z)|Y false=>J_ y U l z
   |N=>N
  |N=>N
noncomputable def CQ (y:Ev)(U:List Nat):V->List CmpOp->List X->St->Option (Bool×St)
 |a,[A],[b]=>@λx=>match y.E U b x with
  |Y (L,x)=>(tX x.hp A a L).map (·,x)|N=>N
 |a,A::f,b::j=>@λx=>match y.E U b x with
  |Y (L,x)=>match tX x.hp A a L with
   |Y true=>CQ y U L f j x|Y false=>Y (false,x)
   |N=>N
  |N=>N
 |J,W,P=>@λJ=>N
noncomputable def B3 (y:Ev)(U:List Nat):List X->St->Option (Bool×St)
 |[]=>@λz=>Y (true,z)
 |x::l=>@λz=>match y.E U x z with
  |Y (k,z)=>match rD z.hp k with
   |Y true=>B3 y U l z|Y false=>Y (false,z)
   |N=>N
  |N=>N
noncomputable def vG:List V->Option (List Nat)
 |[]=>Y []|.ref c::l=>(vG l).map (c::·)
 |_=>N
abbrev Gd:=Option<|Nat×List Nat
def uo (a:List O):Gd->Bool
 |N=>true|Y (c,f)=>match a[c]? with
  |Y<|.list l=>vG l==Y f|_=>false
def O0 (k:V):Option<|List V:=match rC k with
 |.tup l=>Y l|.str s=>Y<|s.cps.toList.map λc=>.str<|one c
 |_=>N
def tK (y:Ev)(U:List Nat):X->St->Option (List V×Gd×St)
 |.enum a=>@λz=>match y.E U a z with
  |Y (v,z)=>(O0 v).map λf=>(f.zipIdx.map λx=>.tup [.int x.2,x.1],N,z)
  |N=>N
 |.rev a=>@λz=>match y.E U a z with
  |Y (.lst f,z)=>Y (f.reverse,N,z)|_=>N
 |x=>@λz=>match y.E U x z with
  |Y (v,z)=>match v with
   |.ref c=>match z.hp[c]? with
    |Y<|.list f=>(vG f).map λw=>(f,Y (c,w),z)
    |_=>N
   |v=>(w8 z.hp v).map (·,N,z)
  |N=>N
noncomputable def s8 (U:List Nat)(q:Tg)(b:Gd)(c:St->Option (List V×St)):List V->St->Option (List V×St)
 |[]=>@λy=>if uo y.hp b then Y ([],y) else N
 |x::l=>@λy=>if uo y.hp b then match rA U 5 q x y with
  |Y y=>match c y with
   |Y (j,y)=>match s8 U q b c l y with
    |Y (v,y)=>Y (j++v,y)|N=>N
   |N=>N
  |N=>N else N
noncomputable def yd (y:Ev)(U:List Nat)(a:X):List Tg->List X->List (List X)->St->Option (List V×St)
 |t::f,I::j,s::v=>@λx=>match tK y U I x with
  |Y (l,b,x)=>s8 U t b (λx=>match B3 y U s x with
    |Y (true,x)=>yd y U a f j v x|Y (false,x)=>Y ([],x)
    |N=>N) l x
  |N=>N
 |[],[],[]=>@λx=>match y.E U a x with
  |Y (k,x)=>Y ([k],x)|N=>N
 |J,W,P=>@λJ=>N
def B4 (y:Ev)(U:List Nat)(a:X)(f:List Tg)(j:List X)(v:List<|List X)(c h:Nat)(x:St):Option<|List V×St:=
 match f,j,v with
 |t::f,I::j,H::v=>match tK y U I x with
  |Y (l,b,x)=>
   let L:=(aq h).map (x.hp.length+·)++U
   match s8 L t b (λx=>match B3 y L H x with
    |Y (true,x)=>yd y L a f j v x|Y (false,x)=>Y ([],x)
    |N=>N) l ⟨aw c N,x.hp++aw h (.cell N)⟩ with
   |Y (s,T)=>if q6 s.length then Y (s,⟨x.loc,T.hp⟩) else N
   |N=>N
  |N=>N
 |J,W,P=>N
noncomputable def ui (y:Ev)(U:List Nat)(q:Tg)(b:Gd)(f:List XS):List V->St->Option (Fl×St)
 |[]=>@λz=>if uo z.hp b then Y (.next,z) else N
 |x::l=>@λz=>if uo z.hp b then match rA U 5 q x z with
  |Y z=>match rR y U f z with
   |Y (.next,z)=>ui y U q b f l z|o=>o
  |N=>N else N
noncomputable def wN (y:Ev)(U:List Nat)(a:X)(f:List XS):Nat->St->Option (Fl×St)
 |0=>@λJ=>N
 |n+1=>@λx=>match y.E U a x with
  |Y (k,x)=>match rD x.hp k with
   |Y true=>match rR y U f x with
    |Y (.next,x)=>wN y U a f n x|o=>o
   |Y false=>Y (.next,x)|N=>N
  |N=>N
noncomputable def v5 (U:List Nat):List (ba×Nat)->Option (List<|ba×Nat)
 |[]=>Y []|p::l=>o2 U[p.2]? (v5 U l) λc v=>Y<|(p.1,c)::v
noncomputable def yz (U:List Nat)(q:Tg)(x:St):Option V:=match q with
 |.l c=>(x.loc[c]?).bind id|.cell h=>match U[h]? with
  |Y c=>match x.hp[c]? with
   |Y<|.cell y=>y|_=>N
  |N=>N
 |_=>N
noncomputable def Ci:List V->Bool
 |[]=>true|k::a=>a.all (λL=>tA k L==Y false)&&Ci a
noncomputable def mergeAll:List V->List V->List V->Option (List V×List V)
 |ks,f,.ru j v::l=>if j.all uY=true/\ks.length+j.length<=65536 then match wk ks f j v with
  |Y (d,H)=>mergeAll d H l|N=>N
  else N
 |ks,f,[]=>Y (ks,f)|J,W,P=>N
noncomputable def EV:Option O->Bool
 |Y<|.fn _ _ _=>true|_=>false
def isFn (a:List O):V->Bool
 |.ref c=>EV a[c]?|_=>false
noncomputable def isMul:eB->Bool
 |.Mult=>true|_=>false
noncomputable def ahq (k:V)(x:St):V->Option (O×St)
 |.int q=>if 0<=q/\q<65536 then Y (.list<|aw q.toNat k,x) else N
 |_=>N
def ZU (y:Ev)(U:List Nat)(a:X)(x:St):List V->Option (O×St)
 |[k]=>match y.E U a x with
  |Y (L,x)=>ahq k x L|N=>N
 |_=>N
def S6 (y:Ev)(U:List Nat)(a:X)(x:St):X->Option (O×St)
 |.list l=>match sM y U l x with
  |Y (l,x)=>ZU y U a x l|N=>N
 |_=>N
def rT (y:Ev)(U:List Nat):X->St->Option (O×St)
 |.list l=>@λx=>(sM y U l x).map λb=>(.list b.1,b.2)
 |.bin L e I=>@λx=>if isMul L=true then S6 y U I x e else N
 |.dict j v=>@λx=>match sM y U j x with
  |Y (j,x)=>match sM y U v x with
   |Y (v,x)=>if (j.map rC).all uY=true/\Ci (j.map rC)=true/\j.length=v.length then Y (.dict (j.map rC) v,x) else N
   |N=>N
  |N=>N
 |.star l=>@λx=>match sM y U l x with
  |Y (l,x)=>(mergeAll [] [] l).map λb=>(.dict b.1 b.2,x)
  |N=>N
 |.comp a H d T c m=>@λx=>(B4 y U a H d T c m x).map λb=>(.list b.1,b.2)
 |_=>@λJ=>N
noncomputable def DQ:O->V
 |.list l=>.lst l|.dict f j=>.ru f j
 |_=>.none
def ac7 (g:vC)(y:Ev)(A:List Nat):X->St->Option (V×St)
 |.k k=>@λx=>Y (k,x)
 |.l c=>@λx=>match x.loc[c]? with
  |Y<|Y k=>Y (k,x)|_=>N
 |.cell h=>@λx=>match yz A (.cell h) x with
  |Y k=>Y (k,x)|N=>N
 |.bin L e I=>@λx=>match y.E A e x with
  |Y (e,x)=>match y.E A I x with
   |Y (I,x)=>(sL x.hp L e I).map (·,x)|N=>N
  |N=>N
 |.un .Not e=>@λx=>match y.E A e x with
  |Y (e,x)=>(rD x.hp e).map λI=>(.bool<|!I,x)
  |N=>N
 |.un L e=>@λx=>match y.E A e x with
  |Y (e,x)=>(Vu L e).map (·,x)|N=>N
 |.and l=>@λx=>OW y A l x
 |.or l=>@λx=>J_ y A l x
 |.cmp e v l=>@λx=>match y.E A e x with
  |Y (e,x)=>(CQ y A e v l x).map λb=>(.bool b.1,b.2)
  |N=>N
 |.rf a e I=>@λx=>match y.E A a x with
  |Y (k,x)=>match rD x.hp k with
   |Y true=>y.E A e x|Y false=>y.E A I x
   |N=>N
  |N=>N
 |.call j f H d=>@λx=>match y.E A j x with
  |Y (j,x)=>match sM y A f x with
   |Y (f,x)=>match sM y A d x with
    |Y (d,x)=>(v7 g j f H d x.hp).map λb=>(b.1,⟨x.loc,b.2⟩)
    |N=>N
   |N=>N
  |N=>N
 |.bf I f=>@λx=>match sM y A f x with
  |Y (f,x)=>(yg x.hp I f).map (·,x)|N=>N
 |.mt m n f=>@λx=>match y.E A n x with
  |Y (n,x)=>if isFn x.hp n then (match tj x.hp n (w3 m) with
   |Y j=>match sM y A f x with
    |Y (f,x)=>(v7 g j f [] [] x.hp).map λb=>(b.1,⟨x.loc,b.2⟩)
    |N=>N
   |N=>N) else match BU m (view x.hp n) with
   |Y h=>match sM y A f x with
    |Y (f,x)=>(za x.hp h n f).map λb=>(b.1,⟨x.loc,b.2⟩)
    |N=>N
   |N=>N
  |N=>N
 |.attr n p=>@λx=>match y.E A n x with
  |Y (n,x)=>(tj x.hp n p).map (·,x)|N=>N
 |.mc n p f=>@λx=>match y.E A n x with
  |Y (n,x)=>match tj x.hp n p with
   |Y j=>match sM y A f x with
    |Y (f,x)=>(v7 g j f [] [] x.hp).map λb=>(b.1,⟨x.loc,b.2⟩)
    |N=>N
   |N=>N
  |N=>N
 |.sub n c=>@λx=>match y.E A n x with
  |Y (n,x)=>match y.E A c x with
   |Y (c,x)=>(si x.hp n c).map (·,x)|N=>N
  |N=>N
 |.C4 n e I=>@λx=>match y.E A n x with
  |Y (n,x)=>match y.E A e x with
   |Y (e,x)=>match y.E A I x with
    |Y (I,x)=>(FF x.hp n e I).map (·,x)|N=>N
   |N=>N
  |N=>N
 |.tup l=>@λx=>(sM y A l x).map λb=>(.tup b.1,b.2)
 |.list l=>@λx=>(rT y A (.list l) x).map λb=>(DQ b.1,b.2)
 |.dict T s=>@λx=>(rT y A (.dict T s) x).map λb=>(DQ b.1,b.2)
 |.star l=>@λx=>(rT y A (.star l) x).map λb=>(DQ b.1,b.2)
 |.comp t i U o p m=>@λx=>(rT y A (.comp t i U o p m) x).map λb=>(DQ b.1,b.2)
 |.new z=>@λx=>(rT y A z x).map λb=>(.ref b.2.hp.length,⟨b.2.loc,b.2.hp++[b.1]⟩)
 |.enum J=>@λJ=>N
 |.rev J=>@λJ=>N
 |.lam j q=>@λx=>match v5 A q with
  |Y q=>Y (.ref x.hp.length,⟨x.loc,x.hp++[.fn j q N]⟩)|N=>N
def putN (a:List O)(c:Nat)(p:ba)(k:V):Option O->Option (List O)
 |Y<|.ns l=>if sU p=true/\l.length<100 then Y (a.set c<|.ns<|(p,k)::l) else N
 |_=>N
def FK (a:List O)(c:Nat)(p:ba)(k:V)(t:wQ)(f:List<|ba×Nat):Option Nat->Option (List O)
 |N=>if sU p then Y (a.set c (.fn t f<|Y a.length)++[.ns [(p,k)]]) else N
 |Y h=>putN a h p k a[h]?
def Og (a:List O)(c:Nat)(p:ba)(k:V):Option O->Option (List O)
 |Y<|.fn t f y=>FK a c p k t f y|_=>N
def yH (a:List O)(o:V)(p:ba)(L:V):Option<|List O:=match o with
 |.ref c=>Og a c p L a[c]?|_=>N
def putL (a:List O)(c:Nat)(l:List V)(k:V):V->Option (List O)
 |.int q=>if q6 l.length then ((place q l.length).map λh=>a.set c<|.list<|l.set h k) else N
 |_=>N
def Of (a:List O)(c:Nat)(k L:V):Option O->Option (List O)
 |Y<|.list l=>putL a c l L k|Y<|.dict j v=>if JC k=true/\j.length<=65536 then (tQ j v k L).map λb=>a.set c<|.dict b.1 b.2 else N
 |_=>N
def uc (a:List O)(o L A:V):Option<|List O:=match o with
 |.ref c=>Of a c (rC L) A a[c]?|_=>N
def ac6 (g:vC)(y:Ev)(U:List Nat):XS->St->Option (Fl×St)
 |.expr c=>@λx=>match y.E U c x with
  |Y (.none,x)=>Y (.next,x)|_=>N
 |.asg q c=>@λx=>match y.E U c x with
  |Y (k,x)=>(rA U 5 q k x).map (.next,·)|N=>N
 |.wj I a c=>@λx=>match y.E U c x with
  |Y (k,x)=>match y.E U I x with
   |Y (I,x)=>match y.E U a x with
    |Y (a,x)=>(uc x.hp I a k).map λf=>(.next,⟨x.loc,f⟩)
    |N=>N
   |N=>N
  |N=>N
 |.setAttr I p c=>@λx=>match y.E U c x with
  |Y (k,x)=>match y.E U I x with
   |Y (I,x)=>(yH x.hp I p k).map λf=>(.next,⟨x.loc,f⟩)
   |N=>N
  |N=>N
 |.aug q L c=>@λx=>match yz U q x with
  |Y T=>match y.E U c x with
   |Y (A,x)=>match xO L T A with
    |Y k=>(rA U 5 q k x).map (.next,·)|N=>N
   |N=>N
  |N=>N
 |.uD I a L c=>@λx=>match y.E U I x with
  |Y (I,x)=>match y.E U a x with
   |Y (a,x)=>match si x.hp I a with
    |Y T=>match y.E U c x with
     |Y (A,x)=>match xO L T A with
      |Y k=>(uc x.hp I a k).map λf=>(.next,⟨x.loc,f⟩)
      |N=>N
     |N=>N
    |N=>N
   |N=>N
  |N=>N
 |.ret c=>@λx=>(y.E U c x).map λb=>(.ret b.1,b.2)
 |.rf d T A=>@λx=>match y.E U d x with
  |Y (k,x)=>match rD x.hp k with
   |Y true=>rR y U T x|Y false=>rR y U A x
   |N=>N
  |N=>N
 |.uZ q c j=>@λx=>match tK y U c x with
  |Y (l,e,x)=>ui y U q e j l x|N=>N
 |.Lu d j=>@λx=>wN y U d j 8 x
 |.DY q t H=>@λx=>match v5 U H with
  |Y H=>(rA U 5 q (.ref x.hp.length) ⟨x.loc,x.hp++[.fn t H N]⟩).map (.next,·)|N=>N
 |.yP j=>@λx=>rR y U j x
 |.stop=>@λJ=>N
noncomputable def ev (g:vC):Nat->Ev
 |0=>⟨λJ J J=>N,λJ J J=>N⟩
 |n+1=>⟨ac7 g<|ev g n,ac6 g<|ev g n⟩
def SW (c:Nat)(x:St):Option O->Option (List V×Gd×St)
 |Y<|.list l=>(vG l).map λf=>(l,Y (c,f),x)
 |_=>N
def N6 (x:St):V->Option (List V×Gd×St)
 |.ref c=>SW c x x.hp[c]?|v=>(w8 x.hp v).map (·,N,x)
theorem C' {y:Ev}{U:List Nat}{z:St}(h1:∀I,x≠.rev I)(h2:∀I,x≠.enum I):tK y U x z=(match y.E U x z with
  |Y (k,z)=>N6 z k|N=>N):=by
 cases x with
 |rev I=>exact absurd rfl<|h1 I
 |enum I=>exact absurd rfl<|h2 I
 |_=>rfl
section
variable {u:Type}{G:Prop}
theorem mE {b:V->St->Option u}(e:(match o with|Y (k,x)=>b k x|N=>N)=Y y)(d:∀k x,o=Y (k,x)->b k x=Y y->G):G:=by
 cases o with
 |none=>exact nS e|some c=>exact d c.1 c.2 rfl e
theorem mL {b:List V->St->Option u}(e:(match o with|Y (a,x)=>b a x|N=>N)=Y y)(d:∀a x,o=Y (a,x)->b a x=Y y->G):G:=by
 cases o with
 |none=>exact nS e|some c=>exact d c.1 c.2 rfl e
theorem mR {b:List V->Gd->St->Option u}(e:(match o with|Y (a,c,x)=>b a c x|N=>N)=Y y)(d:∀a c x,o=Y (a,c,x)->b a c x=Y y->G):G:=by
 cases o with
 |none=>exact nS e|some f=>exact d f.1 f.2.1 f.2.2 rfl e
theorem mB (e:(match o with|Y true=>a|Y false=>b|N=>N)=Y y)(c:o=Y true->a=Y y->G)(d:o=Y false->b=Y y->G):G:=by
 cases o with
 |none=>exact nS e|some T=>cases T with
  |true=>exact c rfl e|false=>exact d rfl e
theorem mV {b:V->Option u}(e:(match o with|Y k=>b k|N=>N)=Y y)(d:∀k,o=Y k->b k=Y y->G):G:=by
 cases o with
 |none=>exact nS e|some L=>exact d L rfl e
theorem mS {b:St->Option u}(e:(match o with|Y x=>b x|N=>N)=Y y)(d:∀x,o=Y x->b x=Y y->G):G:=by
 cases o with
 |none=>exact nS e|some I=>exact d I rfl e
theorem mK {b:MK->Option u}(e:(match o with|Y f=>b f|N=>N)=Y y)(d:∀f,o=Y f->b f=Y y->G):G:=by
 cases o with
 |none=>exact nS e|some w=>exact d w rfl e
theorem mC {b:List (ba×Nat)->Option u}(e:(match o with|Y a=>b a|N=>N)=Y y)(d:∀a,o=Y a->b a=Y y->G):G:=by
 cases o with
 |none=>exact nS e|some f=>exact d f rfl e
theorem qE {b:V->St->Option u}{x:St}{h:Option u}(e:o=Y (k,x))(i:b k x=h):(match (generalizing:=false) o with|Y (k,x)=>b k x|N=>N)=h:=Q e i
theorem qL {b:List V->St->Option u}{x:St}{h:Option u}(e:o=Y (a,x))(i:b a x=h):(match (generalizing:=false) o with|Y (a,x)=>b a x|N=>N)=h:=Q e i
theorem qR {b:List V->Gd->St->Option u}{a:List V}{x:St}{h:Option u}(e:o=Y (a,c,x))(i:b a c x=h):(match (generalizing:=false) o with|Y (f,c,x)=>b f c x|N=>N)=h:=Q e i
theorem qV {b:V->Option u}{h:Option u}(e:o=Y k)(i:b k=h):(match (generalizing:=false) o with|Y k=>b k|N=>N)=h:=Q e i
theorem qS {b:St->Option u}{h:Option u}(e:o=Y x)(i:b x=h):(match (generalizing:=false) o with|Y x=>b x|N=>N)=h:=Q e i
theorem qK {b:MK->Option u}{h:Option u}(f:o=Y e)(i:b e=h):(match (generalizing:=false) o with|Y e=>b e|N=>N)=h:=Q f i
theorem qC {b:List (ba×Nat)->Option u}{h:Option u}(e:o=Y a)(i:b a=h):(match (generalizing:=false) o with|Y a=>b a|N=>N)=h:=Q e i
theorem qT {T:Option u}(e:o=Y true)(i:a=T):(match (generalizing:=false) o with|Y true=>a|Y false=>b|N=>N)=T:=Q e i
theorem qF {T:Option u}(e:o=Y false)(i:b=T):(match (generalizing:=false) o with|Y true=>a|Y false=>b|N=>N)=T:=Q e i
theorem qM {p U:Type}{o:Option p}{f:p->U}{H:p}(e:o=Y H):o.map f=Y (f H):=Q e rfl
theorem WS {y:Ev}{U:List Nat}{A w:St}(e:y.E U x A=Y (v,st1))(i:y.E U z st1=Y (.int n,w))(t:0<=n/\n<65536):rT y U (.bin .Mult (.list [x]) z) A=Y (.list<|aw n.toNat v,w):=
 have o:sM y U [x] A=Y ([v],st1):=qE e rfl;have H:ZU y U z st1 [v]=Y (.list<|aw n.toNat v,w):=qE i<|qm t
 (qm rfl:(if isMul .Mult=true then S6 y U z A (.list [x]) else N)=_).trans (qL o H)
theorem LL {y:Ev}{U:List Nat}{x:St}(e:S6 y U b x a=Y (o,rH))(c:∀f k v q,a=.list f->sM y U f x=Y ([k],v)->y.E U b v=Y (.int q,rH)->0<=q/\q<65536->o=.list (aw q.toNat k)->G):G:=by
 cases a with
 |list f=>
  refine mL e λj v i e=>?_
  cases j with
  |nil=>exact nS e|cons k j=>cases j with
   |cons=>exact nS e|nil=>
    refine mE e λL p n e=>?_
    cases L with
    |int q=>exact qX e λt e=>sz e λz H=>c f k v q rfl i (J H n) t z.symm
    |_=>exact nS e
 |_=>exact nS e
theorem Up {U:List Nat}{x:St}(e:U[k]?=Y h)(i:x.hp[h]?=Y (.cell y)):yz U (.cell k) x=y:=by
 show (match U[k]? with
  |Y h=>(match x.hp[h]? with
   |Y<|.cell y=>y|_=>N)
  |N=>N)=_
 refine Q e ?_;show (match x.hp[h]? with
   |Y<|.cell y=>y|_=>N)=_
 refine Q i rfl
theorem AP {U:List Nat}{x:St}(e:U[k]?=Y h)(i:x.hp[h]?=Y (.cell w)):rA U (n+1) (.cell k) v x=Y { x with hp:=x.hp.set h<|.cell<|Y v }:=by
 show (match U[k]? with
  |Y h=>(match x.hp[h]? with
   |Y<|.cell _=>Y { x with hp:=x.hp.set h<|.cell<|Y v }|_=>N)
  |N=>N)=_
 refine Q e ?_;show (match x.hp[h]? with
   |Y<|.cell _=>Y { x with hp:=x.hp.set h<|.cell<|Y v }|_=>N)=_
 refine Q i rfl
theorem wV {U:List Nat}{c:St->Option (List V×St)}{f:List V}{x v o:St}(e:uo x.hp gd=true)(i:rA U 5 t k x=Y st1)(n:c st1=Y (a,v))(z:s8 U t gd c f v=Y (b,o)):s8 U t gd c (k::f) x=Y (a++b,o):=(qm e).trans<|qS i<|qL n<|qL z rfl
theorem PI {U:List Nat}{b:St->Option (List V×St)}{x:St}(e:uo x.hp gd=true):s8 U t gd b [] x=Y ([],x):=qm e
theorem Q9 {y:Ev}{U:List Nat}{x:St}{d:List V}(e:tK y U I x=Y (d,gd,st1))(i:s8 U q gd (λx=>match B3 y U f x with
    |Y (true,x)=>yd y U elt ts is fs x|Y (false,x)=>Y ([],x)
    |N=>N) d st1=o):yd y U elt (q::ts) (I::is) (f::fs) x=o:=qR e i
theorem zk {y:Ev}{U:List Nat}{x:St}(e:y.E U elt x=Y (v,st1)):yd y U elt [] [] [] x=Y ([v],st1):=qE e rfl
theorem D0 {y:Ev}{U:List Nat}{x v:St}{d:List V}(e:tK y U I x=Y (d,gd,st1))(i:s8 U q gd (λx=>match B3 y U f x with
    |Y (true,x)=>yd y U elt ts is fs x|Y (false,x)=>Y ([],x)
    |N=>N) d ⟨aw n N,st1.hp⟩=Y (vs,v))(w:vs.length<=65536):B4 y U elt (q::ts) (I::is) (f::fs) n 0 x=Y (vs,⟨st1.loc,v.hp⟩):=by
 rw[<- bh st1.hp] at i
 exact qR e<|qL i<|qm<|decide_eq_true w
theorem mN {o:Option<|V×St}{b:St->Option u}(e:(match o with|Y (.none,x)=>b x|_=>N)=Y y) (d:∀x,o=Y (.none,x)->b x=Y y->G):G:=by
 cases o with
 |none=>exact nS e|some c=>
  obtain ⟨k,x⟩:=c
  cases k with
  |none=>exact d x rfl e|_=>exact nS e
theorem mF {o:Option<|Fl×St}{b:St->Option (Fl×St)}{s:Fl}{x:St}(e:(match o with|Y (.next,I)=>b I|o=>o)=Y (s,x)) (d:∀I,o=Y (.next,I)->b I=Y (s,x)->G) (g:∀k,o=Y (.ret k,x)->s=.ret k->G):G:=by
 cases o with
 |none=>exact nS e|some c=>
  obtain ⟨a,I⟩:=c
  cases a with
  |next=>exact d I rfl e|ret k=>exact sz e λi n=>g k (Q n rfl) i.symm
theorem mT {b d:St->Option u}(e:(match o with|Y (true,x)=>b x|Y (false,x)=>d x|N=>N)=Y y)(g:∀x,o=Y (true,x)->b x=Y y->G)(n:∀x,o=Y (false,x)->d x=Y y->G):G:=by
 cases o with
 |none=>exact nS e|some c=>
  obtain ⟨c,x⟩:=c
  cases c with
  |true=>exact g x rfl e|false=>exact n x rfl e
end
def we (g:vC)(U:List Nat)(f:List XS)(x:St):Option<|V×List O:=match rR (ev g 60) U f x with
 |Y (.ret k,x)=>Y (k,x.hp)|Y (.next,x)=>Y (.none,x.hp)
 |N=>N
section
variable {A:Around}{W:Wd}{g:List O}{d:Nat}
theorem Rep.rC {U:cF}(G:Rep U T I σ v c):Rep U T I σ (Vm.rC v) c:=by
 cases v with
 |qu p=>obtain ⟨x,rfl,_⟩:=G.inv;exact .str _ _
 |_=>exact G
theorem qJ.rC {U:cF}{h:List V}(a:qJ U T I σ h c):qJ U T I σ (h.map Vm.rC) c:=by
 induction h generalizing c with
 |nil=>exact a|cons h l ih=>exact a.sk λJ J G a=>.cons G.rC<|ih a
def vU (s:Wd)(w:bK)(a:List aj):Prop:=∃c,s.s.heap.get? w=Y ⟨.type "list",N,.seq a.toArray c,#[]⟩
def TupAt (s:Wd)(w:bK)(a:List aj):Prop:=∃c,s.s.heap.get? w=Y ⟨.type "tuple",N,.seq a.toArray c,#[]⟩
def DictAt (s:Wd)(w:bK)(a:List DictEntry):Prop:=∃c,s.s.heap.get? w=Y ⟨.type "dict",N,.dict a.toArray c,#[]⟩
theorem vU.is (U:vU W a vs):W.s.heap.IsList a vs.toArray:=let ⟨c,e⟩:=U;⟨_,e,rfl,c,rfl⟩
theorem TupAt.is (x:TupAt W a vs):W.s.heap.IsTuple a vs.toArray:=let ⟨c,e⟩:=x;⟨_,e,rfl,c,rfl⟩
def uE (T:Ctx) (t:Wd) (s:aj):V->Prop
 |.none=>s=.none|.bool U=>s=.bool U
 |.int q=>∃x,s=.int q x
 |.str p=>∃x,s=.str p x
 |.tup l=>∃w h,s=.ref w/\TupAt t w h/\qG T t l h
 |.lst l=>∃w h,s=.ref w/\vU t w h/\qG T t l h
 |.ru j h=>∃w u,s=.ref w/\DictAt t w u/\rk j/\rJ T.w.params t.G.T t.G.I t.σ j h u
 |_=>True
theorem DB (T:qY C g W)(k:qw C W v c):uE C W c v:=by
 cases v with
 |none|bool|int|str=>exact k.inv|tup l=>replace k:=k.inv;obtain ⟨w,j,e,i,n,k⟩:=k;exact tb w j i ⟨e,T.I _ _ n⟩ k
 |lst l=>replace k:=k.inv;obtain ⟨w,j,e,i,n,k⟩:=k;exact tb w j i ⟨e,T.I _ _ n⟩ k
 |ru l=>replace k:=k.inv;obtain ⟨w,j,e,i,n,o,k⟩:=k;exact uv w j i ⟨e,T.I _ _ n⟩ o k
 |_=>trivial
theorem sf (U)(c):view U (.ref c)=El c U[c]?:=rfl
theorem tZ (T:qY C g W)(k:qw C W v c):uE C W c<|view g v:=by
 cases v with
 |qu p=>exact DB T k.rC|ref j=>
  refine Q (sf ..) ?_;obtain ⟨w,i,e⟩:=k.inv;refine qN (T.rY _ _ e) λV V U=>qZ U λI L n z a=>Q n ?_
  cases I with
  |list l=>obtain ⟨u,h,H,k⟩:=a.inv;exact tb w u i ⟨h,J H z⟩ k
  |dict G u=>obtain ⟨u,h,H,o,k⟩:=a.inv;exact uv w u i ⟨h,J H z⟩ o k
  |_=>trivial
 |_=>exact DB T k
theorem LK (T:qY C g W)(k:qw C W v c)(e:view g v=.str s):∃x,c=.str s x:=(J e<|tZ T k:uE C W c<|.str s)
theorem wC (T:qY C g W){h:List V}(k:qw C W v c)(e:view g v=.lst h):∃w j,c=.ref w/\vU W w j/\qG C W h j:=(J e<|tZ T k:uE C W c<|.lst h)
theorem LJ (T:qY C g W){h:List V}(k:qw C W (.tup h) c):∃w j,c=.ref w/\TupAt W w j/\qG C W h j:=DB T k
theorem AQ (T:qY C g W)(k:qw C W v c)(e:view g v=.ru ks vs):∃w u,c=.ref w/\DictAt W w u/\rk ks/\rJ C.w.params W.G.T W.G.I W.σ ks vs u:=(J e<|tZ T k:uE C W c<|.ru ks vs)
theorem qJ.length {U:cF}{h:List V}(a:qJ U T I σ h vs):h.length=vs.length:=by
 induction h generalizing vs with
 |nil=>exact a.vt rfl|cons v h ih=>exact a.sk λJ J J a=>qo pX<|ih a
theorem qJ.get {T:cF}{L:Tm}{s:Gm}{a:List bK}{h:List V}{j:List aj}{c:Nat}{k:V}(i:qJ T L s a h j) (e:h[c]?=Y k):∃t,j[c]?=Y t/\Rep T L s a k t:=by
 induction h generalizing j c with
 |nil=>exact nS e|cons U h b=>cases c with
  |zero=>exact i.sk λ_ _ G _=>qr _ rfl<|J (ae e) G
  |succ c=>exact i.sk λ_ _ _ i=>(b i e :)
theorem qJ.append {U:cF}{h:List V}(a:qJ U T I σ h vs)(e:qJ U T I σ l' vs'):qJ U T I σ (h++l')<|vs++vs':=by
 induction h generalizing vs with
 |nil=>exact a.vt e|cons v h ih=>exact a.sk λJ J G a=>.cons G<|ih a
theorem qJ.replicate {U:cF}(G:Rep U T I σ v c):∀n,qJ U T I σ (aw n v)<|aw n c
 |0=>.nil|n+1=>.cons G<|qJ.replicate G n
theorem Pext0.lst {j:List V}(T:qY C g W)(U:qG C W j vs)(x)(q:Nat:=0):∃a,Pext0 C W a/\qw C a (.lst j) (.ref W.s.heap.objs.size)/\
  a.s={ W.s with heap:=W.s.heap.push ⟨.type "list",N,.seq vs.toArray q,#[]⟩,toks:=x }:=by
 have G:=Pext0.DH ⟨.type "list",N,.seq vs.toArray q,#[]⟩ rfl x T.sF;exact ry _ G (.lst (Gm.rP _ _ _)<|qG.mono U G.le) rfl
theorem Pext0.tup {j:List V}(T:qY C g W)(U:qG C W j vs)(x)(q:Nat:=0):∃a,Pext0 C W a/\qw C a (.tup j) (.ref W.s.heap.objs.size)/\
  a.s={ W.s with heap:=W.s.heap.push ⟨.type "tuple",N,.seq vs.toArray q,#[]⟩,toks:=x }:=by
 have G:=Pext0.DH ⟨.type "tuple",N,.seq vs.toArray q,#[]⟩ rfl x T.sF;exact ry _ G (.tup (Gm.rP _ _ _)<|qG.mono U G.le) rfl
theorem q8.tok {U:aj->ay->Prop}(e:∀T s,Pext0 C W T->qw C T v s->U s T.s)(k:qw C W v s):U s { W.s with toks:=t }:=e ⟨W.G,W.σ,_⟩ _ (Pext0.toks t) k
theorem vf (s):∀(n:Nat)(a:Array aj),List.foldl (λG I=>G++I) a (aw n #[s])=(a.toList++aw n s).toArray
 |0=>@λa=>by simp
 |n+1=>@λa=>by
  refine Q eE<|Q dw ?_;rw[vf s n]
  simp[eE]
theorem q8.int {U:aj->ay->Prop}(e:Y (V.int i)=Y v)(h:∀T s,Pext0 C W T->qw C T v s->U s T.s):U (.int i u) { W.s with toks:=t }:=q8.tok h<|J (ae e)<|.int _ _
theorem q8.str {U:aj->ay->Prop}(e:Y (V.str i)=Y v)(h:∀T s,Pext0 C W T->qw C T v s->U s T.s):U (.str i u) { W.s with toks:=t }:=q8.tok h<|J (ae e)<|.str _ _
section
variable {f:eB}{v:V}{E:aj->ay->Prop}
theorem ab9 {q a:Int}{x t:pJ}(L:rl d A) (e:WE f q a=Y v) (h:∀T s,Pext0 C W T->qw C T v s->QQq s T.s):wpAny (model C.prog C.w) A (binaryOp f (.int q x)<|.int a t) QQq E W.s:=by
 cases f with
 |Add=>exact PyProof.Rows.add_int<|q8.int e h
 |Sub=>exact sub_int<|q8.int e h
 |Mult=>exact qX e λi e=>mul_int (q8.int e h)<|oG (ag _) (ag _)<|aa (of_decide_eq_true i)<|by decide
 |FloorDiv=>exact rX e λi e=>floordiv_int_or L.1 (λn=>absurd (.inl n) i) (λJ=>q8.int e h) λJ=>.inl<|eq_false_of_ne_true λz=>i<|.inr z
 |Mod=>exact rX e λi e=>mod_int' (λn=>i<|.inl n)<|q8.int e h
 |Pow=>exact qX e λi e=>pow_int i.1 (aB i.2<|by decide)<|q8.int e h
 |LShift=>exact qX e λi e=>lshift_int_or L.1 (λn=>absurd i.1<|ia.mpr n) (λJ=>aB i.2<|by decide) λJ=>q8.int e h
 |RShift=>exact qX e λi e=>rshift_int i<|q8.int e h
 |BitAnd=>exact and_int<|q8.int e h
 |BitOr=>exact or_int<|q8.int e h
 |BitXor=>exact xor_int<|q8.int e h
 |_=>exact nS e
theorem ab6 {p j:ba}{x t:pJ}(e:WB f p j=Y v) (h:∀T s,Pext0 C W T->qw C T v s->QQq s T.s):wpAny (model C.prog C.w) A (binaryOp f (.str p x)<|.str j t) QQq E W.s:=by
 cases f with
 |Add=>exact qX e λi e=>add_str (λw c=>q8.str e h)<|aa (of_decide_eq_true i)<|by decide
 |_=>exact nS e
theorem ab7 (T:qY C g W) {o j:List V}{w q:bK}{u G:List aj}(U:vU W w u) (a:qG C W o u) (k:vU W q G) (H:qG C W j G) (e:WC f o j=Y v) (p:∀b s,Pext0 C W b->qw C b v s->QQq s b.s):wpAny (model C.prog C.w) A (binaryOp f (.ref w)<|.ref q) QQq E W.s:=by
 cases f with
 |Add=>
  refine qX e λi e=>?_
  obtain ⟨h,U⟩:=U;obtain ⟨t,k⟩:=k;refine rU (Pext0.lst T (a.append H) W.s.toks) λb I x n=>concat_meets (qr _ U rfl) (qr _ k rfl) noFill_list_add seq_list_add PySem.F.slot_list_add PySem.F.entry_list_add (PySem.F.args_list_add_2 _ _) (list_addW w q u.toArray G.toArray h t N N #[] #[] ?_)<|rj U k ?_
  .have:=of_decide_eq_true i;rw[a.length,H.length] at this
   exact aa this (by decide)
  .refine Q (List.append_toArray ..) ?_;have:=p b _ I<|J (ae e) x
   rw[n] at this
   exact this
 |_=>exact nS e
theorem ab8 (T:qY C g W) {n:List V}{w:bK}{j:List aj}{q:Int}{x:pJ}(U:vU W w j) (a:qG C W n j) (e:WD f n q=Y v) (o:∀b s,Pext0 C W b->qw C b v s->QQq s b.s):wpAny (model C.prog C.w) A (binaryOp f (.ref w)<|.int q x) QQq E W.s:=by
 cases f with
 |Mult=>
  cases n with
  |nil=>exact nS e|cons L n=>cases n with
   |cons=>exact nS e|nil=>
   refine qX e λt e=>?_
   obtain ⟨c,_,rfl,G,p⟩:=a.inv
   cases p.inv
   obtain ⟨h,U⟩:=U;refine rU (Pext0.lst T (qJ.replicate G q.toNat) W.s.toks) λb H k i=>nG rfl ⟨_,U,rfl⟩ (λu=>typeIs_int u _ _) noFill_list_mul mj gU repeat_list lT.lookup
    (gV gU (typeIs_int _ _ _) lX (lK _ _) (oS q _ w [c].toArray h)
     ⟨U,rfl,⟨_,U,rfl⟩,gV mi ⟨_,U,rfl⟩ lU (lJ _ _)
      (jS w [c].toArray h q _ (by simp[hV];lia) (by refine Q (gM _) ?_;lia)<|by refine Q (gM _) ?_;simp[kq,j6];lia)
      ⟨U,?_⟩⟩)
   refine Q (vf c q.toNat #[]) ?_;have:=o b _ H<|J (ae e) k
   rw[i] at this
   exact this
 |_=>exact nS e
theorem ae3 (hr:rl d A) (H:qY C g W) {a b:V}(ha:uE C W x a) (hb:uE C W y b) (h:ab_ f a b=Y v) (hQ:∀W' c,Pext0 C W W'->qw C W' v c->QQq c W'.s):wpAny (model C.prog C.w) A (binaryOp f x y) QQq E W.s:=by
 cases a with
 |int i=>cases b with
  |int j=>obtain ⟨_,rfl⟩:=ha;obtain ⟨_,rfl⟩:=hb;exact @ab9 A W _ _ v E QQq _ _ _ _ hr h hQ
  |_=>exact nS h
 |str i=>cases b with
  |str j=>obtain ⟨_,rfl⟩:=ha;obtain ⟨_,rfl⟩:=hb;exact @ab6 A W _ v E QQq _ _ _ _ h hQ
  |_=>exact nS h
 |lst l=>cases b with
  |lst m=>obtain ⟨_,_,rfl,L1,r1⟩:=ha;obtain ⟨_,_,rfl,L2,r2⟩:=hb;exact ab7 H L1 r1 L2 r2 h hQ
  |int j=>obtain ⟨_,_,rfl,L1,r1⟩:=ha;obtain ⟨_,rfl⟩:=hb;exact ab8 H L1 r1 h hQ
  |_=>exact nS h
 |_=>exact nS h
end
theorem Pe (L:rl d A)(T:qY C g W)(k:qw C W a s)(t:qw C W b c)(e:sL g I a b=Y v) :
  q8 C A (binaryOp I s c) (λU h=>qw C U v h) W:=
 q8.mk λJ J i=>ae3 L T (tZ T k) (tZ T t) e i
theorem PE {L:UnaryOp}(k:qw C W a s)(e:Vu L a=Y v):q8 C A (unaryOp L s) (λT b=>qw C T v b) W:=by
 refine q8.mk λU E h=>?_
 cases a with
 |int q=>
  obtain ⟨_,rfl⟩:=k.inv
  cases L with
  |USub=>exact neg_int<|q8.int e h
  |Invert=>exact invert_int<|q8.int e h
  |_=>exact nS e
 |_=>exact nS e
end
section
variable {A:Around}
theorem W5 {E:aj->ay->Prop}{QQq:Bool->ay->Prop}(ha:uE C W x v)(h:Iq v=Y b)(hQ:∀t,QQq b { W.s with toks:=t }):wpAny (model C.prog C.w) A (truthy x) QQq E W.s:=by
 cases v with
 |none=>exact ha.symm▸truthy_none (Q (ae h)<|hQ W.s.toks)|bool c=>exact ha.symm▸fx (Q (ae h)<|hQ W.s.toks)
 |int i=>
  obtain ⟨_,rfl⟩:=ha;exact PyProof.Rows.truthy_int<|((ae h).symm.trans (by by_cases q:i=0<;>simp[q]):b=(i != 0))▸hQ W.s.toks
 |str s=>
  obtain ⟨_,rfl⟩:=ha;refine qX h λAq h=>?_
  have h1:s.cps.size<=65536:=of_decide_eq_true Aq
  refine SBL.truthy (bo.mpr<|av h1<|by decide) ?_;exact ((ae h).symm.trans (by by_cases q:s.cps.size=0<;>simp[q]):b=((s.cps.size:Int) != 0))▸hQ _
 |lst l=>
  obtain ⟨a,vs,rfl,L,r⟩:=ha;refine qX h λhl' h=>?_
  have h1:l.length<=65536:=of_decide_eq_true hl'
  have h2:=r.length;exact wpAny_truthy_list L.is (by simp only[bj];exact bo.mpr<|av (h2▸h1)<|by decide)<|((ae h).symm.trans (by refine Q h2 ?_;cases vs<;>rfl):b=!vs.toArray.isEmpty)▸hQ _
 |_=>exact nS h
theorem wW (L:rl d A)(T:qY C hp W)(k:qw C W v s)(e:rD hp v=Y b) :
  q8 C A (truthy s) (λU G=>G=b) W:=
 q8.mk λJ J c=>W5 (tZ T k) e λh=>c ⟨W.G,W.σ,_⟩ _ (Pext0.toks h) rfl
@[elab_as_elim] theorem Ia {T:Bool}{b:Bool->Prop}(e:Cj o p=Y T)(d:∀x w,o=Y x->p=Y w->b (x&&w)):b T:=so e λx i e=>A1 e λw n=>d x w i n
theorem X' {b:V->V->Option Bool}{T:Bool}(e:zR b a f=Y T):∃d:Nat->Bool,T=(aq a.length).all d/\∀(c:Nat) k L,a[c]?=Y k->f[c]?=Y L->b k L=Y (d c):=by
 induction a generalizing f T with
 |nil=>exact qX e λJ e=>qr (λJ=>true) ((ae e).symm) λJ J J d=>nS d
 |cons x a g=>cases f with
  |nil=>exact nS e|cons U f=>
   refine Ia e λG w i n=>qt (g n) λd z o=>qr (λc=>Nat.casesOn c G d) ?_ λc k L=>?_
   .exact Q (aV ..)<|Q (jC ..)<|Q (fq ..)<|Q (jF ..)<|Q z rfl
   .cases c with
    |zero=>exact λH h=>ae H▸ae h▸i
    |succ c=>exact o c k L
theorem getElem_of_get? {o:Type}{a:List o}{G:j<a.toArray.size}:a[j]?=Y (a.toArray[j]):=by refine ax (aD<|by simpa using G) ?_;rfl
theorem qJ.at {T:cF}{L:Tm}{s:Gm}{a:List bK}{f:List V}{j:List aj}(b:qJ T L s a f j) {c:Nat}{t:aj}(e:j[c]?=Y t):∃k,f[c]?=Y k/\Rep T L s a k t:=by
 have G:c<f.length:=Q b.length<|(aO.mp e).1
 refine qt (b.get<|aD G) λh i H=>?_
 rw[e] at i;(refine Vm.sI i ?_;clear i;rintro rfl)
 exact qr _ (aD G) H
theorem Kc {c:Nat}{a f:List V}{j v:List aj}{T:Bool}(U:qG C W a j) (G:qG C W f v)
  (b:∀(k L:V)(T:Bool)(x d:aj),rV c k L=Y T->qw C W k x->qw C W L d->p9 A.in1 W.s x d T)
  (o:zR (rV c) a f=Y T):∃e:Nat->Bool,T=(aq j.toArray.size).all e/\∀h (H:h<j.toArray.size) (p:h<v.toArray.size),p9 A.in1 W.s j.toArray[h] v.toArray[h]<|e h:=qt (X' o) λe i g=>qr e (Q i<|Q U.length rfl) λh H p=>qt (U.at<|getElem_of_get?) λI n s=>qt (G.at<|getElem_of_get?) λq z t=>b I q _ _ _ (g h I q n z) s t
theorem Il:rC (view a k)=view a k:=by
 cases k with
 |ref c=>
  delta view;dsimp only;rcases a[c]? with _|o
  .rfl
  .cases o<;>rfl
 |_=>rfl
theorem yA {o:Type}[DecidableEq o][BEq o][LawfulBEq o](G p:o):decide (G=p)=(G==p):=by by_cases e:G=p<;>simp[e]
section
variable (u:A.units<cLine)
theorem Xs (I:uE C W y b)(e:eqN b=Y r):RcAt A W.s .none y r/\nf A W.s .none y (!r):=by
 cases b with
 |none=>exact Q I<|J (ae e) ⟨.none_none,.none_none⟩
 |str p=>obtain ⟨z,rfl⟩:=I;exact J (ae e) ⟨.none_str _ _,.none_str _ _⟩
 |_=>exact nS e
theorem Z0 (I:uE C W y b)(e:eqS p b=Y r):RcAt A W.s (.str p z) y r/\nf A W.s (.str p z) y (!r):=by
 cases b with
 |str p=>obtain ⟨z,rfl⟩:=I;exact J (ae e)<|Q (yA ..) ⟨.str_str _ _ _ _,.str_str _ _ _ _⟩
 |none=>exact Q I<|J (ae e) ⟨.str_none _ _,.str_none _ _⟩
 |_=>exact nS e
theorem Xu (I:uE C W y b)(e:eqB G b=Y r):RcAt A W.s (.bool G) y r/\nf A W.s (.bool G) y (!r):=by
 cases b with
 |bool G=>exact Q I<|J (ae e) ⟨.bool_bool _ _,.bool_bool _ _⟩
 |_=>exact nS e
theorem Z2 (I:uE C W y b)(e:eqI q b=Y r):RcAt A W.s (.int q z) y r/\nf A W.s (.int q z) y (!r):=by
 cases b with
 |int q=>obtain ⟨z,rfl⟩:=I;exact J (ae e)<|Q (yA ..) ⟨.int_int _ _ _ _,.int_int _ _ _ _⟩
 |_=>exact nS e
include u
theorem ZZ {a:List V}{v:bK}(y:TupAt W v vs)(U:qG C W a vs)(I:uE C W s k)(b:∀(L k:V)(r:Bool)(x s:aj),rV c L k=Y r->qw C W L x->qw C W k s->p9 A.in1 W.s x s r)(e:eqT (rV c) a k=Y r):RcAt A W.s (.ref v) s r/\nf A W.s (.ref v) s (!r):=by
 cases k with
 |tup m=>
  obtain ⟨q,w,rfl,p,G⟩:=I;refine qX e λi e=>qt (Kc U G b e) λd n g=>?_
  have:=RcAt.tuples y.is p.is u g;have o:=nf.tuples y.is p.is u g;rw[<- (by simp only[bj];refine J U.length<|J G.length<|Q i rfl:vs.toArray.size=w.toArray.size),iM,<-n] at this o
  simpa using lh this o
 |_=>exact nS e
theorem Z1 {a:List V}{v:bK}(U:vU W v vs)(f:qG C W a vs)(I:uE C W s k)(b:∀(L k:V)(r:Bool)(x s:aj),rV c L k=Y r->qw C W L x->qw C W k s->p9 A.in1 W.s x s r)(e:abx (rV c) a k=Y r):RcAt A W.s (.ref v) s r/\nf A W.s (.ref v) s (!r):=by
 cases k with
 |lst m=>
  obtain ⟨q,w,rfl,o,G⟩:=I
  by_cases i:a.length=m.length
  .refine qt (Kc f G b<|(qm i).symm.trans e) λd n g=>?_
   have z:vs.toArray.size=w.toArray.size:=by simp only[bj];refine J f.length<|J G.length<|Q i rfl
   exact Q n ⟨RcAt.lists U.is o.is z u g,nf.lists U.is o.is z u g⟩
  .refine J (ae<|(qn i).symm.trans e) ?_;have z:(vs.toArray.size != w.toArray.size)=true:=by simp only[bj];refine J f.length<|J G.length ?_;simpa using i
   exact ⟨RcAt.lists_lengths U.is o.is z u,nf.lists_lengths U.is o.is z u⟩
 |_=>exact nS e
theorem ZY (I:uE C W x k)(s:uE C W a L)(b:∀(k L:V)(r:Bool)(x a:aj),rV c k L=Y r->qw C W k x->qw C W L a->p9 A.in1 W.s x a r)(e:Dd (rV c) k L=Y r):RcAt A W.s x a r/\nf A W.s x a (!r):=by
 cases k with
 |none=>exact I.symm▸Xs s e|bool G=>exact I.symm▸Xu s e
 |int q=>obtain ⟨_,rfl⟩:=I;exact Z2 s e
 |str q=>obtain ⟨_,rfl⟩:=I;exact Z0 s e
 |tup l=>obtain ⟨_,_,rfl,y,U⟩:=I;exact ZZ u y U s b e
 |lst l=>obtain ⟨_,_,rfl,y,U⟩:=I;exact Z1 u y U s b e
 |_=>exact nS e
end
theorem toArray_inj {o:Type}{a f:List o}(e:a.toArray=f.toArray):a=f:=qo Array.toList e
noncomputable def kV:V->Nat
 |.none=>0|.bool J=>1|.int J=>2|.str J=>3|.tup J=>4|.lst J=>5
 |_=>9
noncomputable def kOb:Option gA->Nat
 |Y G=>if G.cls==.type "tuple" then 4 else 5
 |N=>5
def kX (I:Gm):aj->Nat
 |.none=>0|.bool J=>1|.int J W=>2|.str J W=>3
 |.ref v=>kOb<|I v
 |_=>9
theorem Mk {c:V->V->Option Bool}{T:Bool}(e:Dd c a b=Y T):kV a<9:=by
 cases a with
 |none|bool|int|str|tup|lst=>exact Nat.lt_of_sub_pos<|fJ _
 |_=>exact nS e
section
variable {x:aj}
theorem VS (G:Rep P T I σ a x)(H:kV a<9):kX I x=kV a:=by
 cases a with
 |none|bool=>exact Q G.inv rfl|int|str=>obtain ⟨_,rfl⟩:=G.inv;rfl
 |tup=>obtain ⟨_,_,_,rfl,e,_⟩:=G.inv;exact (qo kOb e).trans rfl
 |lst=>obtain ⟨_,_,_,rfl,e,_⟩:=G.inv;exact (qo kOb e).trans rfl
 |_=>exact absurd H<|b9 9
theorem Qd {c d:V->V->Option Bool}{U:Bool}(e:Dd c a b=Y U)(i:Dd d a' b'=Y r')(G:Rep P T I σ a x)(g:Rep P T I σ a' x):kV a=kV a':=(VS G<|Mk e).symm.trans<|VS g<|Mk i
theorem AS {f j:List V}(U:∃v y c,x=.ref v/\I v=Y ⟨.type s,N,.seq (c9 y) c,#[]⟩/\qJ P T I σ f y)(a:∃v y c,x=.ref v/\I v=Y ⟨.type s,N,.seq (c9 y) c,#[]⟩/\qJ P T I σ j y):∃y,qJ P T I σ f y/\qJ P T I σ j y:=by
 refine Eh U λq y c g e b=>?_;subst g
 refine Eh a λw d t n z h=>?_
 have n:q=w:=by injection n
 subst n;have H:=ae<|e.symm.trans z
 injection H with _ _ H _
 injection H with H _
 exact qr y b<|Q (toArray_inj H) h
end
theorem L4 {c h:Nat}{o:Prop}(e:c=h) (i:nr c h=false):o:=absurd e<|nj i
theorem Kg {b:V->V->Option Bool}{U:cF}(d:∀(k L:V)(a:Bool)(x:aj),b k L=Y a->Rep U T I σ k x->Rep U T I σ L x->a=true){f:List V}{a:Bool}(e:zR b f j=Y a)(c:qJ U T I σ f vs)(o:qJ U T I σ j vs):a=true:=by
 induction f generalizing j vs a with
 |nil=>exact qX e λJ e=>(ae e).symm
 |cons k f g=>cases j with
  |nil=>exact nS e|cons L j=>
   replace c:=c.inv;obtain ⟨p,y,rfl,H,c⟩:=c;replace o:=o.inv;obtain ⟨h,G,i,q,o⟩:=o;injection i with i s
   subst i s
   exact Ia e λt w n z=>Q (d _ _ _ _ n H q)<|ax (g z c o) rfl
theorem UA {b:V->V->Option Bool}{U:cF}(d:∀(k L:V)(a:Bool)(s:aj),b k L=Y a->Rep U T I σ k s->Rep U T I σ L s->a=true){k:V}{a:Bool}(e:Dd b k L=Y a)(ha:Rep U T I σ k s)(hb:Rep U T I σ L s):a=true:=by
 cases k with
 |none=>cases L with
  |none=>exact (ae e).symm|str p=>obtain ⟨_,i⟩:=hb.inv;exact ov<|ha.inv.symm.trans i
  |_=>exact nS e
 |bool p=>cases L with
  |bool G=>
   have i:=ha.inv.symm.trans hb.inv;injection i with i
   subst i;exact (ae e).symm.trans<|beq_self_eq_true p
  |_=>exact nS e
 |int p=>cases L with
  |int G=>
   obtain ⟨_,rfl⟩:=ha.inv;obtain ⟨_,i⟩:=hb.inv;injection i with i
   exact (ae e).symm.trans<|decide_eq_true i
  |_=>exact nS e
 |str p=>cases L with
  |str G=>
   obtain ⟨_,rfl⟩:=ha.inv;obtain ⟨_,i⟩:=hb.inv;injection i with i
   exact (ae e).symm.trans<|decide_eq_true i
  |none=>obtain ⟨_,i⟩:=ha.inv;exact ov<|hb.inv.symm.trans i
  |_=>exact nS e
 |tup l=>cases L with
  |tup j=>
   obtain ⟨v,r1,f⟩:=AS ha.inv hb.inv;exact qX e λJ e=>Kg d e r1 f
  |_=>exact nS e
 |lst l=>cases L with
  |lst j=>
   obtain ⟨v,r1,f⟩:=AS ha.inv hb.inv;exact Kg d ((qm<|r1.length.trans f.length.symm).symm.trans e) r1 f
  |_=>exact nS e
 |_=>exact nS e
theorem UB {U:cF}(c):∀(k L:V)(a:Bool)(x:aj),rV c k L=Y a->Rep U T I σ k x->Rep U T I σ L x->a=true:=by
 induction c with
 |zero=>exact λJ J J J e=>nS e
 |succ c b=>exact λk L a x e G g=>UA b e G.rC g.rC
theorem aia {T:Bool}(I:uE C W x a)(s:uE C W y b)(t:RcAt A W.s x y T)(f:x=y->T=true)(e:Dd (rV c) a b=Y T):p9 A W.s x y T:=by
 have d:∀{v q:bK},x=.ref v->y=.ref q->p9 A W.s x y T:=λ{v q} i n=>by
  subst i n
  by_cases z:v=q
  .subst z;exact Q (f rfl)<|p9.same _
  .exact p9.of_refs z t
 cases a with
 |none=>cases b with
  |none=>exact Q (show x=.none from I)<|Q (show y=.none from s)<|J (ae e)<|p9.same _
  |str=>obtain ⟨_,g⟩:=s;exact Q (show x=.none from I)<|Q g<|J (ae e)<|p9.none_str _ _
  |_=>exact nS e
 |bool G=>cases b with
  |bool G=>exact Q (show x=.bool _ from I)<|Q (show y=.bool _ from s)<|J (ae e)<|pR _ _
  |_=>exact nS e
 |int G=>cases b with
  |int G=>obtain ⟨_,g⟩:=s;obtain ⟨_,k⟩:=I;exact Q g<|Q k<|J (ae e)<|Q (yA ..)<|p9.int_int _ _ _ _
  |_=>exact nS e
 |str G=>cases b with
  |str G=>obtain ⟨_,g⟩:=s;obtain ⟨_,k⟩:=I;exact Q g<|Q k<|J (ae e)<|Q (yA ..)<|p9.str_str _ _ _ _
  |none=>obtain ⟨_,g⟩:=I;exact Q (show y=.none from s)<|Q g<|J (ae e)<|p9.str_none _ _
  |_=>exact nS e
 |tup l=>cases b with
  |tup l=>obtain ⟨_,_,g,_⟩:=I;obtain ⟨_,_,k,_⟩:=s;exact d g k
  |_=>exact nS e
 |lst l=>cases b with
  |lst l=>obtain ⟨_,_,g,_⟩:=I;obtain ⟨_,_,k,_⟩:=s;exact d g k
  |_=>exact nS e
 |_=>exact nS e
theorem Kf (T:qY C hp W)(c):∀(A:Around),A.units+c<cLine->∀(k L:V)(U:Bool)(x a:aj),rV c k L=Y U->qw C W k x->qw C W L a->p9 A W.s x a U:=by
 induction c with
 |zero=>exact λJ J J J J J J e=>nS e
 |succ c b=>
  intro A u k L U x a e n s;exact aia (DB T n.rC) (DB T s.rC) (ZY (Nat.lt_of_add_right_lt u) (DB T n.rC) (DB T s.rC) (b A.in1<|av (aK<|cD ..) u) e).1 (λi=>UB (c+1) k L U x e n<|Q i s) e
end
structure Kd (prog:iF) (w:d7) (K:Type) [DecidableEq K] where
 knd:pL prog w K
 inj:K->V
 ke:∀a b,tA (inj a) (inj b)=some (decide<|a=b)
 fwd:∀{T:Tm}{I:Gm}{σ:List bK}{x:K}{v:V}{ks vs:List V}{e:DictEntry}{es:List DictEntry},knd.is x e.key=true->e.hash=knd.hash x->Rep w.params T I σ v e.val->rJ w.params T I σ ks vs es->rJ w.params T I σ (inj x::ks) (v::vs) (e::es)
 bwd:∀{T:Tm}{I:Gm}{σ:List bK}{x:K}{ks vs:List V}{es:List DictEntry},rJ w.params T I σ (inj x::ks) vs es->∃v vs' e Dc,vs=v::vs'/\es=e::Dc/\knd.is x e.key=true/\e.hash=knd.hash x/\Rep w.params T I σ v e.val/\rJ w.params T I σ ks vs' Dc
noncomputable def vy (prog:iF)(w:d7):Kd prog w ba where
 knd:=fh prog w
 inj:=.str
 ke _ _:=rfl
 fwd {T I σ x v ks vs e es} h1 h2 h3 h4:=by
  obtain ⟨h,k,c⟩:=e;obtain ⟨t,e1⟩:=nH h1;simp only at e1 h2 h3
  refine Q e1 ?_;clear e1;exact .str h2 h3 h4
 bwd {T I σ x ks vs es} h:=by
  cases vs with
  |nil=>exact nomatch h.vt.1|cons v vs=>exact h.sk.elim λe h=>h.elim λDc h=>Hx v vs e Dc rfl h.1 (h.2.1.1.elim λt k=>Q k<|beq_self_eq_true x) h.2.1.2 h.2.2
noncomputable def VT (prog:iF)(w:d7):Kd prog w Int where
 knd:=PySem.intKind prog w
 inj:=.int
 ke _ _:=rfl
 fwd {T I σ x v ks vs e es} h1 h2 h3 h4:=by
  obtain ⟨h,k,c⟩:=e;obtain ⟨t,e1⟩:=ox h1;simp only at e1 h2 h3
  refine Q e1 ?_;clear e1;exact .int h2 h3 h4
 bwd {T I σ x ks vs es} h:=by
  cases vs with
  |nil=>exact nomatch h.vt.1|cons v vs=>exact h.sk.elim λe h=>h.elim λDc h=>Hx v vs e Dc rfl h.1 (h.2.1.1.elim λt k=>Q k<|beq_self_eq_true x) h.2.1.2 h.2.2
section
variable {K:Type} [DecidableEq K] (D:Kd prog w K)
theorem rJ.split:∀{f:List K}{j:List V}{u:List DictEntry},rJ w.params T I σ (f.map D.inj) j u->
  ∃t,qJ w.params T I σ j t/\f.length=t.length/\jM D.knd u (f.zip t)/\∀h∈u,∃k,D.knd.is k h.key=true/\h.hash=D.knd.hash k
 |[],j,u,e=>Q e.aad.1<|Q e.aad.2<|HB ([]) .nil rfl .nil λW e=>nomatch e
 |x::f,j,u,e=>by obtain ⟨v,o,h,G,p,n,z,H,L,y⟩:=(D.bwd e);exact HE (rJ.split y) λt a b A d=>HB (h.val::t) (Q p<|.cons L a) (qo (·+1) b) (Q n<|.cons z rfl A) λU c=>(aE.mp (J n c:U∈h::G)).elim (λq=>Q q<|qr x z H)<|d U
theorem Qr (y:jM D.knd es []):es=[]:=by cases y;rfl
theorem Om (y:jM D.knd es<|kv::kvs):∃h j,es=h::j/\D.knd.is kv.1 h.key=true/\h.val=kv.2/\jM D.knd j kvs:=by cases y with|cons e n o=>exact uv _ _ rfl e n o
theorem DD (a:qJ P T I σ f []):f=[]:=by
 cases f with
 |nil=>rfl|cons v f=>exact a.inv.elim λt a=>a.elim λU a=>nomatch a.1
theorem Gw {U:List aj}(a:qJ P T I σ f<|c::U):∃v u,f=v::u/\Rep P T I σ v c/\qJ P T I σ u U:=by
 cases f with
 |nil=>exact nomatch a.inv|cons v f=>exact a.inv.elim λd a=>a.elim λG a=>tb v f rfl (Q ((fF a.1).1) a.2.1)<|Q ((fF a.1).2) a.2.2
theorem rJ.join:∀{f:List<|K×aj}{j:List V}{u:List DictEntry},jM D.knd u f->(∀h∈u,∃k,D.knd.is k h.key=true/\h.hash=D.knd.hash k)->qJ w.params T I σ j (f.map (·.2))->
  rJ w.params T I σ ((f.map (·.1)).map D.inj) j u
 |[]=>λy W a=>Q (Qr D y)<|Q (DD a) .nil
 |kv::f=>λy o a=>by
  refine yw (Om D y) λh u e q n t=>qZ (Gw a) λv j z G x=>?_
  rw[e] at o ⊢
  exact Q z<|qt (o h<|.head _) λp H b=>D.fwd q (b.trans<|qo D.knd.hash<|D.knd.inj _ _ _ H q) (J n.symm G)<|rJ.join t (λh c=>o h<|.tail _ c) x
end
theorem IT {p:ba}(e:tA (.str p) v=Y b):∃k,V.str k=v:=by
 cases v with
 |str f=>exact ⟨f,rfl⟩|_=>exact nS e
theorem IU {q:Int}(e:tA (.int q) v=Y b):∃k,V.int k=v:=by
 cases v with
 |int d=>exact ⟨d,rfl⟩|_=>exact nS e
theorem IV {p:ba}(e:tA v (.str p)=Y b):∃k,V.str k=v:=by
 cases v with
 |str f=>exact ⟨f,rfl⟩|_=>exact nS e
theorem IW {q:Int}(e:tA v (.int q)=Y b):∃k,V.int k=v:=by
 cases v with
 |int d=>exact ⟨d,rfl⟩|_=>exact nS e
section
variable {K:Type}{inj:K->V}(g:∀{s:K}{v:V}{b:Bool},tA (inj s) v=Y b->∃k,inj k=v) (i:∀{s:K}{v:V}{b:Bool},tA v (inj s)=Y b->∃k,inj k=v)
include g
theorem Fw:∀{a:List V},(∀b∈a,tA (inj G) b=Y false)->∃f:List K,f.map inj=a
 |[]=>@λJ=>⟨[],rfl⟩
 |k::a=>@λh=>(g<|h k<|.head _).elim λc e=>(Fw λb d=>h b<|.tail _ d).elim λf j=>⟨c::f,congr (qo mH e) j⟩
theorem R6 (n:rk<|inj G::a):∃f:List K,inj G::a=f.map inj:=(Fw g (iQ.mp n).1).elim λf e=>⟨G::f,qo _ e.symm⟩
include i
theorem CL {k:V}{y:Type}{a:y}{n:Bool->Option y}(o:rk<|k::ks)(e:(tA k<|inj x).bind n=Y a):∃f:List K,k::ks=f.map inj:=by
 refine qt (gz.mp e) λb e J=>?_
 obtain ⟨p,rfl⟩:=i e;exact R6 g o
end
theorem zm (n)(a)(L)(f)(A):findKey (n::a) (L::f) A=(tA n A).bind λb=>if b=true then Y (Y L) else findKey a f A:=by
 show (match tA n A with|Y true=>Y<|Y L|Y false=>findKey a f A|N=>N)=_
 cases tA n A with
 |none=>rfl|some b=>cases b<;>rfl
theorem z7 (n)(a)(L)(f)(A T):tQ (n::a) (L::f) A T=(tA n A).bind λb=>if b=true then Y (n::a,T::f) else (tQ a f A T).bind λc=>Y (n::c.1,L::c.2):=by
 show (match tA n A with|Y true=>Y (n::a,T::f)|Y false=>(match tQ a f A T with|Y (j,b)=>Y (n::j,L::b)|N=>N)|N=>N)=_
 cases tA n A with
 |none=>rfl|some b=>cases b with
  |true=>rfl|false=>
   cases tQ a f A T<;>rfl
theorem rk.nodup {o:Type}[DecidableEq o]{G:iF}{n:d7}(j:Kd G n o){xs:List o}(p:rk<|xs.map j.inj):xs.Nodup:=by
 refine (fa.mp p).imp λ{H b} p e=>?_
 subst e;rw[j.ke] at p
 simp at p
theorem rk.To {o:Type}[DecidableEq o]{G:iF}{n:d7}(j:Kd G n o){xs:List o}(h:xs.Nodup):rk<|xs.map j.inj:=by refine fa.mpr<|h.imp λ{p b} h=>Q (j.ke ..)<|Q (decide_eq_false h) rfl
structure afj {K:Type} [DecidableEq K] {prog:iF}{w:d7}(D:Kd prog w K) (W:Wd) (a:bK) (ks vs:List V) (xs:List K) (M:List aj):Prop where
 ks:ks=xs.map D.inj
 rep:qJ w.params W.G.T W.G.I W.σ vs M
 dict:W.s.heap.DictOf D.knd a<|xs.zip M
 len:xs.length=M.length
theorem Ay {o:Type}[DecidableEq o](j:Kd C.prog C.w o){xs:List o}(d:DictAt W a es)(h2:rk<|xs.map j.inj)(y:rJ C.w.params W.G.T W.G.I W.σ (xs.map j.inj) vs es) :
  ∃U,afj j W a (xs.map j.inj) vs xs U:=by
 obtain ⟨c,e⟩:=d;exact HE (rJ.split j y) λU f n z p=>⟨U,rfl,f,Ec _ es.toArray c e (rj rfl rfl rfl) rfl (λh q=>p h<|by simpa using q) (by simpa using z)<|Q (d_<|aK n)<|h2.nodup j,n⟩
theorem w9 {G:iF}{n:d7}{o:Type} [DecidableEq o] (p:Kd G n o) {T:cF}{L:Tm}{t:Gm}{a:List bK}{H:o}:∀{f:List o}{j:List V}{U:List aj}{r:Option V},qJ T L t a j U->findKey (f.map p.inj) j (p.inj H)=Y r->
  (r=N/\hJ (f.zip U) H=N)\/∃v c,r=Y v/\hJ (f.zip U) H=Y c/\Rep T L t a v c
 |[],[],J,W,d,e=>.inl ⟨(ae e).symm,rfl⟩|[],_::_,_,_,_,e=>nS e
 |_::_,[],_,_,_,e=>nS e|y::f,v::j,U,r,d,e=>by
  obtain ⟨c,U,rfl,I,h⟩:=d.inv;rw[bC,zm,p.ke] at e
  by_cases q:y=H
  .exact .inr<|tb v c ((ae<|(qm<|decide_eq_true q).symm.trans e).symm) (by simp[hJ,q]) I
  .skip
   exact Q (by simp[hJ,q]:hJ ((y::f).zip<|c::U) H=hJ (f.zip U) H)<|w9 p h<|(qn<|by exact Q (decide_eq_false q) dq).symm.trans e
theorem J6 {y:Option V}(n:rk a)(e:findKey a f (.str x)=Y y):∃j:List ba,a=j.map V.str:=by
 cases a with
 |nil=>exact ⟨[],rfl⟩|cons k a=>cases f with
  |nil=>exact nS e|cons v f=>exact CL IT IV n<|(zm ..).symm.trans e
theorem J7 {y:Option V}(n:rk a)(e:findKey a f (.int x)=Y y):∃j:List Int,a=j.map V.int:=by
 cases a with
 |nil=>exact ⟨[],rfl⟩|cons k a=>cases f with
  |nil=>exact nS e|cons v f=>exact CL IU IW n<|(zm ..).symm.trans e
theorem K8 {o:Type} [DecidableEq o] {G:o}{a:List o}{c0 c:aj}{U:List aj}(H:G∉a):e_ ((G::a).zip<|c0::U) G c=(G,c)::a.zip U:=by delta e_;refine ax (qm<|by simp) ?_;simp only[cC,bC,if_true];congr 1;exact (dC λd e=>ax (qn λn=>H<|by exact J n<|(pz e).1) rfl).trans<|List.map_id _
theorem IJ {o:Type} [DecidableEq o] {G p:o}{a:List o}{c0 c:aj}{U:List aj}(H:¬p=G):e_ ((p::a).zip<|c0::U) G c=(p,c0)::e_ (a.zip U) G c:=by
 delta e_;simp only[cC,h_,H,decide_false,Bool.false_or,bC,if_false]
 split<;>rfl
theorem BJ {I:iF}{n:d7}{o:Type} [DecidableEq o] (D:Kd I n o) {T:cF}{L:Tm}{t:Gm}{a:List bK}{U:o}{v:V}{c:aj}(hv:Rep T L t a v c):∀{f:List o}{j:List V}{M:List aj}{G d:List V},f.Nodup->f.length=M.length->qJ T L t a j M->tQ (f.map D.inj) j (D.inj U) v=Y (G,d)->
  G=((e_ (f.zip M) U c).map (·.1)).map D.inj/\qJ T L t a d ((e_ (f.zip M) U c).map (·.2))
 |[],[],W,P,F,R,e,A,h=>by obtain ⟨rfl,rfl⟩:=b0 (ae h);exact Q A.inv ⟨rfl,.cons hv .nil⟩
 |[],_::_,_,_,_,_,_,_,h=>nS h|_::_,[],_,_,_,_,_,_,h=>nS h
 |y::f,u::j,M,G,d,x,e,A,h=>by
  obtain ⟨c0,M,rfl,h1,h2⟩:=A.inv;rw[bC,z7,D.ke] at h
  by_cases q:y=U
  .refine rG (b0<|ae<|(qm<|decide_eq_true q).symm.trans h) λz H=>J q<|Q (K8 (bI.mp x).1)<|J z<|J H ⟨?_,?_⟩
   .exact Q (bC ..)<|Q (d_<|aK<|cE e) rfl
   .exact Q (bC ..)<|Q (hO<|aK (cE e).symm)<|.cons hv h2
  .refine qt (gz.mp<|(qn<|by exact Q (decide_eq_false q) dq).symm.trans h) λp z H=>rG (BJ D hv (bI.mp x).2 (cE e) h2 (z:_=Y (p.1,p.2))) λr1 r2=>?_
   obtain ⟨H,e3⟩:=b0 (ae H);refine Q (IJ q) ?_;rewrite [<- H,<-e3,bC];exact Q bC<|Q bC<|J r1 ⟨rfl,.cons h1 r2⟩
theorem K9 (n:rk a)(e:tQ a f (.str x) v=Y (u6,vs')):∃G:List ba,a=G.map V.str:=by
 cases a with
 |nil=>exact ⟨[],rfl⟩|cons k a=>cases f with
  |nil=>exact nS e|cons w f=>exact CL IT IV n<|(z7 ..).symm.trans e
theorem K_ (n:rk a)(e:tQ a f (.int x) v=Y (u6,vs')):∃G:List Int,a=G.map V.int:=by
 cases a with
 |nil=>exact ⟨[],rfl⟩|cons k a=>cases f with
  |nil=>exact nS e|cons w f=>exact CL IU IW n<|(z7 ..).symm.trans e
theorem zo {K:Type} [DecidableEq K] (o:Kd C.prog C.w K) {p:fP}{A:bK}{kvs:List<|K×aj}{L:Tm}{t:Gm}{f:List bK}{j:List V}(T:p.DictOf o.knd A kvs) (a:qJ C.w.params L t f j<|kvs.map (·.2)) :
  ∃u c,p.get? A=Y ⟨.type "dict",N,.dict (c9 u) c,#[]⟩/\rk ((kvs.map (·.1)).map o.inj)/\rJ C.w.params L t f ((kvs.map (·.1)).map o.inj) j u:=by
 obtain ⟨⟨G,y,U,d⟩,u,c,ho,⟨q,n,z⟩,H,I,h,x⟩:=T;simp only at q n z H
 subst q n z H;exact tb u.toList c (by simpa using ho) (.To o x)<|rJ.join o h (λe he=>I e<|by simpa using he) a
section
theorem Ml {b:V->V->Option Bool}{U:cF}(d:∀(k L A:V)(a G:Bool)(s:aj),b k A=Y a->b L A=Y G->Rep U T I σ k s->Rep U T I σ L s->a=G){f u:List V}{a:Bool}(h:zR b f u=Y a)(i:zR b j u=Y G)(o:qJ U T I σ f vs)(e:qJ U T I σ j vs):a=G:=by
 induction f generalizing j u vs a G with
 |nil=>
  obtain rfl:=o.inv
  cases j with
  |nil=>exact ae<|h.symm.trans i
  |cons=>obtain ⟨_,_,n,_⟩:=e.inv;exact ahH n
 |cons k f g=>
  replace o:=o.inv;obtain ⟨p,M,rfl,t,o⟩:=o
  cases j with
  |nil=>exact Wr e.inv|cons L j=>cases u with
   |nil=>exact nS h|cons A u=>
    replace e:=e.inv;obtain ⟨x,cs',n,y,e⟩:=e;injection n with n e'
    subst n e'
    exact Ia h λw q z H=>Ia i λp' v c h2'=>by refine Q (d _ _ _ _ _ _ z c t y)<|Q (g H h2' o e) rfl
theorem kV0 (e:0=kV a):a=.none:=by cases a with|none=>rfl|_=>exact L4 e rfl
theorem kV1 (e:1=kV a):∃T,a=.bool T:=by cases a with|bool T=>exact ⟨T,rfl⟩|_=>exact L4 e rfl
theorem kV2 (e:2=kV a):∃q,a=.int q:=by cases a with|int q=>exact ⟨q,rfl⟩|_=>exact L4 e rfl
theorem kV3 (e:3=kV a):∃p,a=.str p:=by cases a with|str p=>exact ⟨p,rfl⟩|_=>exact L4 e rfl
theorem kV4 (e:4=kV a):∃b,a=.tup b:=by cases a with|tup b=>exact ⟨b,rfl⟩|_=>exact L4 e rfl
theorem kV5 (e:5=kV a):∃b,a=.lst b:=by cases a with|lst b=>exact ⟨b,rfl⟩|_=>exact L4 e rfl
theorem X9 {b:V->V->Option Bool}{U:cF}(d:∀(k L A:V)(a G:Bool)(s:aj),b k A=Y a->b L A=Y G->Rep U T I σ k s->Rep U T I σ L s->a=G){k:V}{a:Bool}(h:Dd b k A=Y a)(i:Dd b L A=Y G)(ha:Rep U T I σ k s)(g:Rep U T I σ L s):a=G:=by
 have n:=Qd h i ha g
 cases k with
 |none=>exact ae<|h.symm.trans<|J (kV0 n) i
 |bool w=>
  obtain ⟨o,z⟩:=kV1 n;rw[z] at i g
  exact ae<|h.symm.trans<|Q (j1.inj<|ha.inv.symm.trans g.inv) i
 |int w=>
  obtain ⟨o,z⟩:=kV2 n;rw[z] at i g
  obtain ⟨_,e1⟩:=ha.inv;obtain ⟨_,c⟩:=g.inv;exact ae<|h.symm.trans<|Q ((aj.int.inj<|e1.symm.trans c).1) i
 |str w=>
  obtain ⟨o,z⟩:=kV3 n;rw[z] at i g
  obtain ⟨_,e1⟩:=ha.inv;obtain ⟨_,c⟩:=g.inv;exact ae<|h.symm.trans<|Q ((aj.str.inj<|e1.symm.trans c).1) i
 |tup l=>
  obtain ⟨j,z⟩:=kV4 n;rw[z] at i g
  obtain ⟨u,f,e⟩:=AS ha.inv g.inv
  cases A with
  |tup m=>exact qX h λW h=>qX i λW i=>Ml d h i f e
  |_=>exact nS h
 |lst l=>
  obtain ⟨j,z⟩:=kV5 n;rw[z] at i g
  obtain ⟨u,f,e⟩:=AS ha.inv g.inv
  cases A with
  |lst m=>
   by_cases z:l.length=m.length
   .exact Ml d ((qm z).symm.trans h) ((qm<|(e.length.trans f.length.symm).trans z).symm.trans i) f e
   .exact ae<|((qn z).symm.trans h).symm.trans<|(qn λp=>z<|(f.length.trans e.length.symm).trans p).symm.trans i
  |_=>exact nS h
 |_=>exact nS h
theorem X_ {U:cF}(c):∀(k L A:V)(a G:Bool)(s:aj),rV c k A=Y a->rV c L A=Y G->Rep U T I σ k s->Rep U T I σ L s->a=G:=by
 induction c with
 |zero=>exact λJ J J J J J e=>nS e
 |succ c b=>exact λk L A a G s e i H g=>X9 b e i H.rC g.rC
open Classical in
def E6 (T:Ctx)(t:Wd)(a:List V)(k:V)(s:aj):Bool:=decide<|∃L,L∈a/\qw T t L s/\rV 8 L k=Y true
open Classical in
theorem DN {a:List V}{T:Bool}(b:v∈a)(k:qw C W v y)(e:rV 8 v x=Y T):E6 C W a x y=T:=by
 cases T with
 |true=>exact decide_eq_true<|ry v b k e
 |false=>
  refine decide_eq_false ?_;intro U;exact rU U λc G s i=>gb<|X_ 8 _ _ _ _ _ _ e i k s
theorem aaM {a:List V}{T:Bool}(e:L5 x a=Y T):(∀L∈a,∃G,rV 8 L x=Y G)/\T=a.any (λL=>(rV 8 L x).getD false):=by
 induction a generalizing T with
 |nil=>exact ⟨λJ e=>absurd e kH,(ae e).symm⟩|cons A a b=>
  refine so e λw i e=>A1 e λg n=>rG (b n) λd G=>⟨λL hv=>?_,?_⟩
  .rcases aE.mp hv with rfl|hv
   .exact ⟨w,i⟩
   .exact d L hv
  .exact Q (h_ ..)<|Q i<|Q G rfl
theorem JN {f:List V}(U:qG C W f vs)(b:∀L∈f,L∈a/\∃T,rV 8 L k=Y T) :
  (∀s∈vs,∃L∈f,qw C W L s)/\vs.any (E6 C W a k)=f.any (λL=>(rV 8 L k).getD false)/\vs.countP (E6 C W a k)=f.countP (λL=>(rV 8 L k).getD false):=by
 induction f generalizing vs with
 |nil=>exact U.vt<|rj (λJ c=>absurd c kH) rfl rfl
 |cons L f d=>
  replace U:=U.inv;obtain ⟨_,_,rfl,G,U⟩:=U;replace d:=d U;refine qN (d λL H=>b L<|.tail _ H) λg e i=>?_
  obtain ⟨h,T,n⟩:=b L (.head _);refine rj (λs hy=>?_) ?_ ?_
  .rcases aE.mp hy with rfl|hy
   .exact qr L (.head _) G
   .exact qt (g s hy) λA j o=>⟨A,.tail _ j,o⟩
  .exact ax h_<|Q (h_ ..)<|Q e<|Q (DN h G n)<|Q n rfl
  .exact ax o6<|Q (o6 ..)<|Q i<|Q (DN h G n)<|Q n rfl
theorem XZ (T:qY C hp W){A:Around}(G:A.units+8<cLine){f:List V}(U:qG C W f vs)(n:qw C W k c)(b:∀L∈f,∃a,rV 8 L k=Y a) :
  ∀d,d∈vs.toArray->p9 A W.s d c (E6 C W f k d):=λd g=>by
 refine qt ((JN U λL H=>⟨H,b L H⟩).1 d<|by simpa using g) λL H s=>?_
 obtain ⟨a,e⟩:=b L H;exact Q (DN H s e)<|Kf T 8 A G _ _ _ _ _ e s n
theorem xM (T:qY C hp W)(k:qw C W v<|.ref a)(e:view hp v=.ru ks vs):(a==fS)=false:=by
 refine beq_eq_false_iff_ne.mpr λi=>uQ (T.tab _ C.sys) λn z G P=>?_
 cases v with
 |ru=>
  obtain ⟨_,_,_,H,c,_⟩:=k.inv;injection H with H
  revert c;refine J H<|Q i<|Q n ?_;intro c;exact nS c
 |ref=>
  obtain ⟨_,H,c⟩:=k.inv;injection H with H
  exact G<|J i<|Q H<|bG c
 |_=>exact V.noConfusion e
theorem UD {T:Bool}(e:zS (k::ks) (L::vs) u6 us=Y T) :
  (findKey u6 us k=Y N/\T=false)\/∃A G w,findKey u6 us k=Y (Y A)/\rV 8 L A=Y G/\zS ks vs u6 us=Y w/\T=(G&&w):=by
 have b:∀(y h:Option Bool),(match y,h with|Y a,Y c=>Y<|a&&c|_,_=>N)=Y T->∃G w,y=Y G/\h=Y w/\T=(G&&w):=by
  intro y h e
  cases y with
  |none=>exact nS e|some G=>cases h with
   |none=>exact nS e|some w=>exact tb G w rfl rfl<|(ae e).symm
 have d:∀f:Option<|Option V,(match f with|Y<|Y A=>(match rV 8 L A,zS ks vs u6 us with|Y a,Y c=>Y<|a&&c|_,_=>N)|Y N=>Y false|N=>N)=Y T->
   (f=Y N/\T=false)\/∃A G w,f=Y (Y A)/\rV 8 L A=Y G/\zS ks vs u6 us=Y w/\T=(G&&w):=by
  intro f e
  cases f with
  |none=>exact nS e|some f=>cases f with
   |none=>exact .inl ⟨rfl,(ae e).symm⟩|some A=>
    exact se (b _ _ e) λG w t=>.inr<|wR A G w rfl t
 exact d _ e
theorem UC (T:qY C hp W){a:Around}(G:a.units+8<cLine){f j:List ba}{y:List aj}:∀{d I:List V}{b:Bool},qG C W d y->qG C W I ds->f.length=y.length->zS (f.map V.str) d (j.map V.str) I=Y b->
  KeqHits a W.s (j.zip ds) (f.zip y) b:=by
 induction f generalizing y with
 |nil=>
  intro d I b U A e i
  cases y with
  |nil=>obtain rfl:=DD U;exact J (ae i) .nil
  |cons=>cases e
 |cons p f ih=>
  intro d I b U A e i
  cases d with
  |nil=>exact nS i|cons k d=>
   obtain ⟨s,t,n,L,U⟩:=U.inv;rw[n] at e ⊢
   rcases UD i with ⟨z,H⟩|⟨h,o,n,z,c,q,H⟩
   .refine Q H ?_;rcases w9 (vy C.prog C.w) A z with ⟨_,H⟩|⟨_,_,H,_⟩
    .exact .miss H
    .exact Vm.nS H
   .refine Q H ?_;rcases w9 (vy C.prog C.w) A z with ⟨H,_⟩|⟨u,s,H,v,g⟩
    .exact Vm.sN H
    .exact .hit v (Kf T 8 a G _ _ _ _ _ c L<|Q (ae H) g)<|ih U A (cE e) q
theorem strs_of_all {a:List V}(e:a.all uY=true):∃f:List ba,a=f.map V.str:=by
 induction a with
 |nil=>exact ⟨[],rfl⟩|cons k a b=>
  revert e;refine Q (fq ..)<|Q (aA ..) ?_;intro e
  obtain ⟨f,i⟩:=b e.2
  cases k with
  |str U=>exact ⟨U::f,Q i rfl⟩|_=>cases e.1
def RC (T:Ctx)(U:Around)(t:Wd)(A v:CmpOp)(s a:aj)(b:Bool):Prop:=
 (∀{E:aj->ay->Prop}{L:aj->ay->Prop},L (.bool b) t.s->wpAny (model T.prog T.w) U (compareOp A s a) L E t.s)/\
 (∀{E:aj->ay->Prop}{L:aj->ay->Prop},L (.bool<|!b) t.s->wpAny (model T.prog T.w) U (compareOp v s a) L E t.s)
theorem UN (L:rl d A)(T:qY C hp W){U:Bool}(k:qw C W a x)(s:qw C W b y)(e1:view hp a=.ru ks vs)(i:view hp b=.ru u6 vs')(n:aby ks vs u6 vs'=Y U) :
  RC C A W .Eq .NotEq x y U:=by
 refine qX n λt n=>?_
 obtain ⟨f,ex⟩:=strs_of_all t.1;obtain ⟨G,H⟩:=strs_of_all t.2;rw[ex] at e1 n
 rw[H] at i n
 refine yw (AQ T k e1) λv o c h p I=>?_;subst c
 refine yw (AQ T s i) λa2 Dc wU u k2 j=>?_;subst wU
 obtain ⟨M,d1⟩:=Ay (vy C.prog C.w) h p I;obtain ⟨ds,w⟩:=Ay (vy C.prog C.w) u k2 j;have hu:=L.2.2;have l1:(f.zip M).length=f.length:=by refine ax ir<|Q d1.len<|Q (iM ..) rfl
 have g:(G.zip ds).length=G.length:=by refine ax ir<|Q w.len<|Q (iM ..) rfl
 have huc:A.units<cLine:=by show A.units<9900;lia
 have hits:∀r',(f.length=G.length->zS (f.map V.str) vs (G.map V.str) vs'=Y r')->(f.zip M).length=(G.zip ds).length->KeqHits A.in1 W.s (G.zip ds) (f.zip M) r':=λr' h' e=>
  UC T (by refine (?_:A.units+1+8<9900);lia) d1.rep w.rep d1.len<|h'<|by refine J l1<|J g<|Q e rfl
 have fin:∀r',(f.length=G.length->zS (f.map V.str) vs (G.map V.str) vs'=Y r')->((f.zip M).length==(G.zip ds).length&&r')=U->RC C A W .Eq .NotEq (.ref v) (.ref a2) U:=λr' n e=>
  ⟨λhq=>keq_eq (xM T k e1) (xM T s i) d1.dict w.dict huc (hits r' n)<|Q e hq,λhq=>keq_ne (xM T k e1) (xM T s i) d1.dict w.dict huc (hits r' n)<|Q e hq⟩
 simp only[ao] at n
 by_cases q:f.length=G.length
 .exact fin U (λP=>(qm q).symm.trans n) (by refine Q l1<|Q g<|Q q ?_;simp)
 .exact fin true (λz=>absurd z q) (by refine Q l1<|Q g<|J (ae<|(qn q).symm.trans n) ?_;simpa using q)
theorem aeF (L:rl d A)(T:qY C a W){r:Bool}(n:qw C W k x)(s:qw C W U y)(e:rV 8 (view a k) (view a U)=Y r) :
  RC C A W .Eq .NotEq x y r:=by
 have G:=L.2.2;have:=ZY (by show A.units<9900;lia) (tZ T n) (tZ T s) (Kf T 7 A.in1<|by refine (?_:A.units+1+7<9900);lia)<|(congr (qo (Dd<|rV 7) Il) Il).symm.trans e
 exact ⟨λH=>this.1 _ _ _ _ H,λH=>this.2 _ _ _ _ H⟩
theorem ad' (L:rl d A)(T:qY C hp W){f:List V}{a:Bool}(o:qw C W k x)(s:qw C W b y)(e:view hp b=.lst f)(i:L5 k f=Y a) :
  RC C A W .In .NotIn x y a:=by
 refine qZ (wC T s e) λv j n U c=>?_;subst n
 obtain ⟨g,z⟩:=aaM i;have I:=L.2.2;have h:=XZ (A:=A.in1) T (by refine (?_:A.units+1+8<9900);lia) c o g;have H:j.toArray.any (E6 C W f k)=a:=by refine Q z<|J ((JN c λG p=>⟨p,g G p⟩).2.1) ?_;simp
 exact ⟨λq=>in_listAt _ U.is h<|Q H q,λq=>notIn_listAt _ U.is h<|Q H q⟩
theorem z8 {o:Option Bool}(e:o.map not=Y b):o=Y (!b):=A1 e λG i=>i.trans (by refine Q (kr ..) rfl)
theorem bool_beq (T G):(j1 T==j1 G)=(T==G):=by cases T<;>cases G<;>rfl
theorem RH (L:rl d A)(T:qY C a W)(o:qw C W k x)(s:qw C W U y)(e:O_ (view a k) (view a U)=Y r) :
  RC C A W .Eq .NotEq x y r:=by
 have b:=aeF L T (r:=r) o s
 cases i:view a k with
 |ru f j=>
  revert e;refine Q i ?_;intro e
  cases n:view a U with
  |ru u G=>replace e:=n▸e;exact UN L T o s i n e
  |_=>replace e:=n▸e;exact nS e
 |_=>rw[i] at e b;exact b e
theorem aaE (I:uE C W x a)(s:uE C W y b)(e:isW a b=Y r):plainIs x y=true/\(x==y)=r:=by
 cases a with
 |none=>cases b with
  |none=>exact Q (show x=.none from I)<|Q (show y=.none from s)<|J (ae e) ⟨rfl,rfl⟩
  |_=>exact nS e
 |str=>cases b with
  |none=>obtain ⟨_,n⟩:=I;exact Q n<|Q (show y=.none from s)<|J (ae e) ⟨rfl,rfl⟩
  |_=>exact nS e
 |int=>cases b with
  |none=>obtain ⟨_,n⟩:=I;exact Q n<|Q (show y=.none from s)<|J (ae e) ⟨rfl,rfl⟩
  |_=>exact nS e
 |bool=>cases b with
  |bool=>exact Q (show x=.bool _ from I)<|Q (show y=.bool _ from s)<|J (ae e) ⟨rfl,bool_beq _ _⟩
  |_=>exact nS e
 |_=>exact nS e
theorem OJ {c:Int->Int->Bool}(I:uE C W x a)(s:uE C W y b)(e:QS c a b=Y r):∃q d z t,x=.int q z/\y=.int d t/\c q d=r:=by
 cases a with
 |int q=>cases b with
  |int d=>obtain ⟨_,i⟩:=I;obtain ⟨_,n⟩:=s;exact ⟨q,d,_,_,i,n,ae e⟩
  |_=>exact nS e
 |_=>exact nS e
def RCt (T:Ctx)(U:Around)(t:Wd)(s a:aj)(b:Bool):Prop:=
  (∀{E:aj->ay->Prop}{L:aj->ay->Prop},(∀c,L (.bool b) { t.s with toks:=c })->wpAny (model T.prog T.w) U (compareOp .In s a) L E t.s)/\
  (∀{E:aj->ay->Prop}{L:aj->ay->Prop},(∀c,L (.bool<|!b) { t.s with toks:=c })->wpAny (model T.prog T.w) U (compareOp .NotIn s a) L E t.s)
theorem aaJ (L:rl d A)(T:qY C a W)(n:qw C W k x)(s:qw C W U y)(e:inW k (view a k) (view a U)=Y r) :
  RCt C A W x y r:=by
 cases i:view a U with
 |lst l=>
  rw[i] at e
  have:=ad' L T n s i e;exact ⟨λhq=>this.1<|hq W.s.toks,λhq=>this.2<|hq W.s.toks⟩
 |_=>rw[i] at e;exact nS e
theorem ahQ (L:rl d A)(T:qY C a W)(o:qw C W k x)(s:qw C W U y)(e:inT k (view a k) (view a U)=Y r)(hQ:∀h,QQq (.bool r) { W.s with toks:=h }):wpAny (model C.prog C.w) A (compareOp .In x y) QQq E W.s:=by
 have q:=aaJ L T (r:=r) o s
 cases i:view a U with
 |str p=>
  obtain ⟨_,rfl⟩:=LK T s i;revert e;refine Q i ?_;intro e
  cases n:view a k with
  |str j=>
   replace e:=n▸e;obtain ⟨_,rfl⟩:=LK T o n;obtain rfl:=ae e;exact in_str<|hQ W.s.toks
  |_=>replace e:=n▸e;exact nS e
 |_=>rw[i] at e q;exact (q e).1 hQ
theorem aeP (L:rl d A)(T:qY C a W)(o:qw C W k s)(t:qw C W U b)(f:O9 G k (view a k) (view a U)=Y r)(g:∀h,QQq (.bool r) { W.s with toks:=h }):wpAny (model C.prog C.w) A (compareOp G s b) QQq E W.s:=by
 have I:QQq (.bool r) W.s:=g W.s.toks
 cases G with
 |Eq=>exact (RH L T o t f).1 I|NotEq=>exact (RH L T o t<|z8 f).2<|(kr r).symm▸I
 |Lt=>refine HC (OJ (tZ T o) (tZ T t) f) λq j h v i n e=>?_;subst i;subst n;exact lt_int<|e.symm▸I
 |LtE=>refine HC (OJ (tZ T o) (tZ T t) f) λq j h v H c e=>?_;subst H;subst c;exact le_int<|e.symm▸I
 |Gt=>refine HC (OJ (tZ T o) (tZ T t) f) λq j h v p u e=>?_;subst p;subst u;exact gt_int<|e.symm▸I
 |GtE=>refine HC (OJ (tZ T o) (tZ T t) f) λq j h v w x e=>?_;subst w;subst x;exact ge_int<|e.symm▸I
 |Is=>obtain ⟨y,z⟩:=aaE (tZ T o) (tZ T t) f;exact wpAny_is_plain y<|J z.symm I
 |IsNot=>obtain ⟨y,z⟩:=aaE (tZ T o) (tZ T t) (z8 f);exact wpAny_isNot_plain y<|Q z<|Q (kr ..) I
 |In=>exact ahQ L T o t f g|NotIn=>exact (aaJ L T o t<|z8 f).2 λh=>(kr r).symm▸g h
theorem vZ (L:rl d A)(T:qY C hp W){U:Bool}(k:qw C W a s)(t:qw C W b c)(e:tX hp G a b=Y U) :
  q8 C A (compareOp G s c) (λf h=>h=.bool U) W:=
 q8.mk λJ J g=>aeP L T k t e λi=>g ⟨W.G,W.σ,_⟩ _ (Pext0.toks i) rfl
end
section
variable {W:Wd}
theorem BO (e:place i c=Y j):jK i c=Y j/\j<c/\((0<=i/\j=i.toNat)\/(i<0/\-(c:Int)<=i/\j=(i+c).toNat)):=by
 refine qX e λt e=>J (ae e) ?_
 by_cases G:i<0
 .simp only[G,if_true] at t ⊢
  exact ⟨PySem.seqIndex_neg G<|by omega,Ea t,.inr ⟨trivial,by omega,trivial⟩⟩
 .simp only[G,if_false] at t ⊢
  refine ⟨?_,Eb t,.inl ⟨t.1,trivial⟩⟩;delta jK;simp only[G,if_false];rw[qm<|by simp only[aA,decide_eq_true_eq];omega]
theorem aee {b:List V}(U:vU W a vs)(d:qG C W b vs)(I:uE C W y i)(e:OK b i=Y v)(hQ:∀f,qw C W v f->QQq f W.s):wpAny (model C.prog C.w) A (getItem (.ref a) y) QQq E W.s:=by
 cases i with
 |int q=>
  obtain ⟨_,rfl⟩:=I;refine qX e λj e=>so e λc n z=>?_
  replace j:b.length<=65536:=of_decide_eq_true j;refine qN (BO n) λH G o=>qt (d.get z) λf g L=>?_
  have k:=d.length;rcases o with ⟨w,rfl⟩|⟨w,p,rfl⟩
  .exact wpAny_getItem_list U.is w ((iN w).mp<|ai G<|aa j<|by decide) (by simpa using g)<|hQ _ L
  .exact wpAny_getItem_list_neg U.is w (by simp only[bj];lia) (by lia) (by simp only[bj];refine J k ?_;simpa using g)<|hQ _ L
 |_=>exact nS e
theorem aec {b:List V}(x:TupAt W a vs)(U:qG C W b vs)(I:uE C W y i)(e:OK b i=Y v)(hQ:∀d,qw C W v d->QQq d W.s):wpAny (model C.prog C.w) A (getItem (.ref a) y) QQq E W.s:=by
 cases i with
 |int q=>
  obtain ⟨_,rfl⟩:=I;refine qX e λj e=>so e λc n z=>?_
  replace j:b.length<=65536:=of_decide_eq_true j;exact qN (BO n) λH G o=>qt (U.get z) λd f L=>getItem_tuple x.is (ND j o) (Nl j G o) (by simp only[bj];exact J U.length H) (by simpa using f)<|hQ _ L
 |_=>exact nS e
theorem aed (I:uE C W y i)(e:aaN s i=Y v)(hQ:∀a x,qw C W v a->QQq a { W.s with toks:=x }):wpAny (model C.prog C.w) A (getItem (.str s x) y) QQq E W.s:=by
 cases i with
 |int q=>
  obtain ⟨_,rfl⟩:=I;refine qX e λj e=>so e λc n z=>?_
  replace j:s.cps.size<=65536:=of_decide_eq_true j;refine qt (ck.mp z) λa H d=>?_
  subst d;exact qN (BO n) λk G o=>P.getItem_str (by simp only[nV,decide_eq_false_iff_not];exact MN j G o) (Q k H:(jK q s.cps.size).bind _=_)<|hQ _ _<|.str _ _
 |_=>exact nS e
theorem Ew (L:rl d A)(T:qY C a W)(k:qw C W o s)(t:qw C W U c)(e:si a o U=Y v) :
  q8 C A (getItem s c) (λf h=>qw C f v h) W:=by
 have e:N2 (view a o) (view a U)=Y v:=e;have I:=tZ T k
 cases i:view a o with
 |lst l=>rw[i] at e I;obtain ⟨_,_,rfl,y,n⟩:=I;exact q8.mk λJ J b=>aee y n (tZ T t) e<|(λb h n=>b W h (Pext0.refl W) n) b
 |tup l=>rw[i] at e I;obtain ⟨_,_,rfl,y,n⟩:=I;exact q8.mk λJ J b=>aec y n (tZ T t) e<|(λb h n=>b W h (Pext0.refl W) n) b
 |str p=>rw[i] at e I;obtain ⟨_,rfl⟩:=I;exact q8.mk λJ J b=>aed (tZ T t) e λh x n=>b ⟨W.G,W.σ,_⟩ _ (Pext0.toks _) n
 |_=>replace e:=i▸e;exact nS e
theorem qJ.pick {U:cF}{f:List V}(r:qJ U T I σ f vs):∀(is:List Nat),qJ U T I σ (is.filterMap (f[·]?))<|is.filterMap (vs[·]?)
 |[]=>.nil|i::is=>by
  cases e:f[i]? with
  |none=>
   have j:vs[i]?=N:=by rw[List.getElem?_eq_none_iff] at e ⊢;exact J r.length e
   exact Q (mr e)<|Q (mr j)<|r.pick is
  |some k=>
   exact qt (r.get e) λs j G=>Q (mq e)<|Q (mq j)<|.cons G<|r.pick is
theorem EH (e:Ol v=Y p)(k:qw C W v x):∃h:Option (Int×pJ),x=partValue h/\h.map (·.1)=p/\IsPart x p:=by
 cases v with
 |none=>exact J (ae e)<|Q k.inv<|ry N rfl rfl .none
 |int q=>refine J (ae e) ?_;obtain ⟨_,rfl⟩:=k.inv;exact ry (Y (_,_)) rfl rfl<|.int _ _
 |_=>exact nS e
theorem adb (T:qY C hp W){f:List V}(U:vU W a vs)(b:qG C W f vs)(e:W.s.heap.get? sl=Y { cls:=.type "slice",data:=.fields #[y,z,.none] })(x:IsPart y G)(H:IsPart z h)(i:q6 f.length=true)(g:∀c j,Pext0 C W c->qw C c (.lst<|HK f G h) j->QQq j c.s):wpAny (model C.prog C.w) A (getItem (.ref a)<|.ref sl) QQq E W.s:=by
 replace i:f.length<=65536:=of_decide_eq_true i;refine rU (Pext0.lst T (b.pick<|sliceRange (sliceBounds G h N f.length).1 (sliceBounds G h N f.length).2.1 (sliceBounds G h N f.length).2.2) W.s.toks) λc I k o=>wpAny_getItem_list_slice U.is (ry _ e rfl rfl) x H .none (by decide) ?_ (by simp only[bj];exact J b.length<|aa i<|by decide)
 have:=g c _ I k
 rw[o] at this
 have L:slicePick vs.toArray G h N=(pN (λn=>vs[n]?)<|sliceRange (sliceBounds G h N f.length).1 (sliceBounds G h N f.length).2.1 (sliceBounds G h N f.length).2.2).toArray:=by
  delta slicePick;refine Q (bj ..)<|J b.length ?_
  simp
 exact Q L this
theorem N8 (L:rl d A)(T:qY C hp W){lo:V}(k:qw C W o x)(s:qw C W lo y)(p:qw C W hi z)(h:FF hp o lo hi=Y v){w:bK}(i:W.s.heap.get? w=Y { cls:=.type "slice",data:=.fields #[y,z,.none] }) :
  q8 C A (getItem x<|.ref w) (λb u=>qw C b v u) W:=by
 refine so h λG n h=>so h λq f h=>q8.mk λQQq t g=>rU (EH n s) λq1 H c p1=>rU (EH f p) λq2 e2 m2 p2=>?_
 have hIS:W.s.heap.IsSlice w q1 q2 N:=ry _ i rfl<|Q H<|Q e2 rfl
 have I:=tZ T k
 cases e:view hp o with
 |lst l=>
  rw[e] at h I
  obtain ⟨a,j,rfl,U,r⟩:=I;exact qX h λhz h=>adb T U r i p1 p2 hz<|Q (ae h) g
 |_=>replace h:=e▸h;exact nS h
end
noncomputable def wA:Bf->aj
 |.len=>.builtin "len"|.sum=>.builtin "sum"|.chr=>.builtin "chr"|.ord=>.builtin "ord"
 |.max=>.builtin "max"|.abs=>.builtin "abs"|.divmod=>.builtin "divmod"
 |.range=>.type "range"|.list=>.type "list"|.set=>.type "set"
section
variable {g:Type}
@[elab_as_elim] theorem iR {b:Int->Option g}{d:aj->Prop}(G:Rep P T I σ a x)(e:iV b a=Y v)(h:∀q y,b q=Y v->d (.int q y)):d x:=by
 cases a with
 |int q=>exact G.ahP λy=>h q y e
 |_=>exact nS e
@[elab_as_elim] theorem sR {b:ba->Option g}{d:aj->Prop}(G:Rep P T I σ a x)(e:sV b a=Y v)(h:∀p y,b p=Y v->d (.str p y)):d x:=by
 cases a with
 |str p=>exact G.ahf λy=>h p y e
 |_=>exact nS e
theorem tR {b:ba->Option g}{w:Prop}(G:Rep P T I σ a x) (e:tV b a=Y v) (d:∀p y,x=.str p y->T y=Y p->b p=Y v->w):w:=by
 cases a with
 |qu p=>obtain ⟨y,i,n⟩:=G.inv;exact d p y i n e
 |_=>exact nS e
@[elab_as_elim] theorem WO {b:List aj->Prop}(a:qJ P T I σ as xs)(e:a0 f as=Y v)(k:f=Y v->b []):b xs:=by
 cases as with
 |nil=>exact a.vt<|k e
 |_=>exact nS e
@[elab_as_elim] theorem Bw {b:V->Option g}{d:List aj->Prop}(a:qJ P T I σ f xs)(e:a1 b f=Y v)(k:∀n s,Rep P T I σ n s->b n=Y v->d [s]):d xs:=by
 cases f with
 |nil=>exact nS e|cons n f=>cases f with
  |nil=>exact a.sk λJ J G h=>h.vt<|k n _ G e
  |_=>exact nS e
@[elab_as_elim] theorem a2R {b:V->V->Option g}{d:List aj->Prop}(a:qJ P T I σ f xs)(e:a2 b f=Y v)(k:∀n L s c,Rep P T I σ n s->Rep P T I σ L c->b n L=Y v->d [s,c]):d xs:=by
 cases f with
 |nil=>exact nS e|cons n f=>cases f with
  |nil=>exact nS e|cons L f=>cases f with
   |nil=>exact a.sk λJ J G h=>h.sk λJ J i h=>h.vt<|k n L _ _ G i e
   |_=>exact nS e
theorem lS {b:List V->Option g}{w:Prop}(e:lV b a=Y v) (d:∀c,a=.lst c->b c=Y v->w):w:=by
 cases a with
 |lst c=>exact d c rfl e|_=>exact nS e
theorem A4 {f:List V}(a:qJ P T I σ f vs)(e:intsOf f=Y ns):lE vs ns:=by
 induction f generalizing vs ns with
 |nil=>exact a.vt<|J (ae e) .nil
 |cons k f ih=>exact a.sk λW W H a=>iR H e λq x e=>A1 e λG i=>.cons _ _<|ih a i
end
theorem PU (e:A.handled=N){v:bK}{a:List aj}(G:W.s.heap.IsList v a.toArray)(L:lE a ns) :
  q8 C A (call (.builtin "sum") [.ref v]) (λT s=>∃x,s=.int ns.sum x) W:=by
 refine q8.mk λU d hQ=>?_
 obtain ⟨b,i⟩:=L.allInts.items;refine sum_intListG e (J i G) λj c t o=>?_
 have n:preSum (numAt b) b.size=ns.sum:=by refine Q (preSum_eq ..)<|Q (mX<|by simp)<|Q (J (nums_intItems ..)<|J i<|(show numsOf a.toArray.toList=ns from L.numsOf).symm:ns=b.toList.map (·.1)) rfl
 exact Q n<|hQ ⟨W.G,W.σ,_⟩ _ (Pext0.ext o rfl rfl) ⟨_,rfl⟩
theorem fold_max (a:List Int):∀q:Int,(a.foldl (λc d=>if c<d then d else c) q=q\/a.foldl (λc d=>if c<d then d else c) q∈a)/\q<=a.foldl (λc d=>if c<d then d else c) q/\∀G∈a,G<=a.foldl (λc d=>if c<d then d else c) q:=by
 induction a with
 |nil=>exact λq=>⟨.inl rfl,c7 _,λJ f=>nomatch f⟩
 |cons G a b=>
  intro q;refine Q (dw ..) ?_
  by_cases H:q<G
  .exact Q (qm H)<|qN (b G) λn w h3=>⟨.inr<|aE.mpr n,aB (bX H) w,λo I=>(aE.mp I).elim (λe=>Q e w)<|h3 o⟩
  .exact Q (qn H)<|qN (b q) λn w h3=>⟨n.imp id<|.tail _,w,λo I=>(aE.mp I).elim (λe=>Q e<|aB (bP.mp H) w)<|h3 o⟩
theorem max_list (e:A.handled=N){l:bK}{a:List aj}(G:W.s.heap.IsList l a.toArray)(L:lE a ns)(i:Tz ns=Y v) :
  q8 C A (call (.builtin "max") [.ref l]) (λT s=>qw C T v s) W:=by
 refine q8.mk λQQq d j=>?_
 obtain ⟨b,n⟩:=L.allInts.items;have z:ns=b.toList.map (·.1):=J (nums_intItems ..)<|J n<|(show numsOf a.toArray.toList=ns from L.numsOf).symm
 cases ns with
 |nil=>exact nS i|cons U l=>
  have I:0<b.size:=J (by refine Q z<|Q (ao ..)<|Q (cH ..) rfl:(U::l).length=b.size)<|fJ _
  refine max_intList e (J n G) I λf o p k q=>j ⟨W.G,W.σ,_⟩ _ (Pext0.ext q rfl rfl)<|rN (intItems_at k) λx u=>Q u ?_;clear u
  obtain ⟨w,h2⟩:=argBest_gt (numAt b) (b.size-1);generalize argBest (λh t=>decide<|numAt b h>numAt b t) (b.size-1)=t at w h2
  refine qN (fold_max l U) λm1 m2 m3=>?_
  have ge:∀y∈U::l,y<=numAt b t:=λy hy=>by
   rw[z] at hy
   refine qt (mem_getD hy) λh L rS=>J rS ?_;clear rS
   rw[ao,cH] at L
   exact J (numAt_eq ..)<|h2 h<|nZ L
  exact Q (Int.le_antisymm ((aE.mp<|(λh L=>Q z<|Q (numAt_eq ..)<|getD_mem<|Q (ao ..)<|Q (cH ..) L:∀h,h<b.size->numAt b h∈U::l) t<|Nj I w).elim (λH=>aB (bT H) m2)<|m3 _)<|m1.elim (λH=>aB (bT H)<|ge U<|.head _) λc=>ge _<|.tail _ c)<|J (ae i)<|.int _ _
theorem TY (L:lE vs ns):ns.length=vs.length:=by
 induction L with
 |nil=>rfl|cons J W V e=>exact qo (·+1) e
theorem set_list (e:A.handled=N){v:bK}{a:List aj}(G:W.s.heap.IsList v a.toArray)(L:lE a ns)(I:a.length<64)(QQq:aj->ay->Prop)(d:aj->ay->Prop)(j:∀U s,Pext0 C W U->(∀(o:aj->ay->Prop)(b:aj->ay->Prop),(∀n f,Pext0 C U n->qw C n (.int<|Kl ns) f->o f n.s)->wpAny (model C.prog C.w) A (call (.builtin "len") [s]) o b U.s)->QQq s U.s) :
  wpAny (model C.prog C.w) A (call (.type "set") [.ref v]) QQq d W.s:=by
 refine call_set_list e G L (by delta scanBound;exact Q (bj ..)<|da<|aa I<|b8 _ _) λi c k p=>j ⟨W.G,W.σ,_⟩ _ (Pext0.ext (λt q u=>p t q (bR u) u) rfl rfl) λo b Q5=>?_
 obtain ⟨q,x,T,y,ho,hex,z,_,_,_,H,hz⟩:=k;have w:=PyProof.Rows.firstMet_length_le (λh=>ns.getD h 0) a.toArray.size;refine call_len_set ho hex z H (by refine Q hz ?_;rw[bj] at w ⊢;exact bo.mpr<|av w<|eH I<|by decide)<|Q5 ⟨W.G,W.σ,_⟩ _ (Pext0.toks _) ?_
 exact Q hz<|Q (bj ..)<|J (TY L)<|.int _ _
theorem La {U:cF}{f:List V}{j:List aj}(e:f.length=j.length)(b:∀(c:Nat) s,j[c]?=Y s->∃k,f[c]?=Y k/\Rep U T I σ k s):qJ U T I σ f j:=by
 induction f generalizing j with
 |nil=>cases j with
  |nil=>exact .nil|cons=>exact nomatch e
 |cons k f ih=>cases j with
  |nil=>exact nomatch e|cons s j=>exact .cons (qt (b 0 s rfl) λA i G=>Q (ae i) G)<|ih (cE e) λc a i=>b (c+1) a i
theorem acf (T:qY C a W)(k:qw C W L x)(e:TP (view a L)=Y v):q8 C A (call (.builtin "len") [x]) (λb c=>qw C b v c) W:=by
 have I:=tZ T k;refine q8.mk λH d h=>?_
 cases i:view a L with
 |lst l=>
  rw[i] at e I
  obtain ⟨L,j,rfl,z,U⟩:=I;exact qX e λn e=>call_len_list z.is (by have:l.length<=65536:=of_decide_eq_true n;have:=U.length;simp only[bj];lia)<|(λe=>q8.int e h)<|by rw[bj,<-U.length];exact e
 |tup l=>
  rw[i] at e I
  obtain ⟨L,j,rfl,z,U⟩:=I;exact qX e λn e=>len_tuple z.is (by have:l.length<=65536:=of_decide_eq_true n;have:=U.length;simp only[bj];lia)<|(λe=>q8.int e h)<|by rw[bj,<-U.length];exact e
 |str p=>
  rw[i] at e I
  obtain ⟨y,rfl⟩:=I;exact qX e λn e=>P.len_str (by have:p.cps.size<=65536:=of_decide_eq_true n;refine (?_:¬(p.cps.size:Int)≥_);lia)<|(λe=>q8.int e h) e
 |_=>replace e:=i▸e;exact nS e
theorem FI (T:qY C hp W){w z:pJ}{L:aj->ay->Prop}(e:Y (V.tS a b d)=Y v)(f:∀U d,Pext0 C W U->qw C U v d->L d U.s):L (.ref W.s.heap.objs.size) { W.s with heap:=W.s.heap.push ⟨.type "range",N,.fields #[.int a t,.int b u,.int d w],#[]⟩,toks:=z }:=f ⟨W.G.vr W.s.heap.objs.size _,W.σ,_⟩ _ (Pext0.DH _ rfl _ T.sF)<|J (ae e)<|.tS<|Gm.rP _ _ _
theorem ace (T:qY C hp W)(U:qG C W f xs)(e:ZS f=Y v):q8 C A (call (.type "range") xs) (λa s=>qw C a v s) W:=by
 cases f with
 |nil=>exact nS e|cons L f=>cases f with
  |nil=>exact U.sk λJ J G b=>b.vt<|iR G e λc x e=>q8.mk λz d h=>call_range_1<|FI T e h
  |cons q f=>cases f with
   |nil=>exact U.sk λJ J G b=>b.sk λJ J j b=>b.vt<|iR G e λc x e=>iR j e λk t e=>q8.mk λz d h=>call_range_2<|FI T e h
   |cons s f=>cases f with
    |nil=>exact U.sk λJ J G b=>b.sk λJ J j b=>b.sk λJ J H b=>b.vt (iR G e λc x e=>iR j e λk t e=>iR H e λI w e=>rX e λn e=>
      q8.mk λz d h=>call_range_3 (λi=>n<|.inl i) (FI T e h)<|.inl<|eq_false_of_ne_true λi=>n<|.inr i)
    |_=>exact nS e
theorem So (e:view hp a=.tS x y z):a=.tS x y z:=by
 cases a with
 |ref c=>
  have e:El c hp[c]?=.tS x y z:=e
  cases i:hp[c]? with
  |none=>rw[i] at e;exact V.noConfusion e
  |some I=>revert e;refine Q i ?_;intro e;cases I<;>exact V.noConfusion e
 |qu p=>exact V.noConfusion (e:V.str p=.tS x y z)|_=>exact e
theorem acg (T:qY C hp W){f:List V}(U:vU W a vs)(b:qG C W f vs)(w:f.length<=65536):q8 C A (call (.type "list") [.ref a]) (λj s=>qw C j (.lst f) s) W:=by
 obtain ⟨c,U⟩:=U;have e:=b.length;refine q8.mk λL d k=>call_list_seq a (.inl rfl) U rfl rfl (λi h n o=>?_) (by refine Q (bj ..)<|Q (g9 ..) ?_;lia)
 exact k ⟨W.G.vr W.s.heap.objs.size _,W.σ,_⟩ _ (Pext0.frz n o (jR<|ag _) T.sF rfl rfl)<|Rep.lst (Gm.rP _ _ _)<|qJ.mono (Tm.le.refl _) (Gh.wK T.sF).I (rm.refl _) b
theorem KI (L:rl d A)(T:qY C hp W)(k:qw C W a x)(e:TC (view hp a)=Y v):q8 C A (call (.type "list") [x]) (λf o=>qw C f v o) W:=by
 have I:=tZ T k
 cases i:view hp a with
 |lst l=>
  rw[i] at I e
  obtain ⟨y,vs,rfl,U,p⟩:=I;exact qX e λn e=>J (ae e)<|acg T U p<|of_decide_eq_true n
 |tS a b s=>
  rw[i] at I e
  obtain rfl:=So i;obtain ⟨G,u,r0,ad,rfl,z⟩:=k.inv;refine qX e λH e=>J (ae e) ?_
  unfold wZ at H
  simp only[aA,decide_eq_true_eq] at H
  obtain ⟨⟨k1,k2⟩,c⟩:=H;have w:0<=cB a b s:=by
   delta cB
   split
   .rename_i q
    split
    .have:=jJ (a:=b-a-1) (by lia)<|bX q;exact yv this
    .lia
   .split
    .have:=jJ (a:=a-b-1) (b:=-s) (by lia) (by lia);exact yv this
    .lia
  refine q8.mk λQQq E hQ=>call_list_range L.1 (T.I _ _ z) k2 (by delta vl;exact (cj w).symm) (aa (of_decide_eq_true c)<|b8 _ _) λh' h akP t H hS Un=>hQ ⟨W.G.vr W.s.heap.objs.size _,W.σ,_⟩ _ (Pext0.frz H hS (jR<|ag _) T.sF rfl rfl) ?_
  refine Rep.lst (Gm.rP _ _ _)<|La (by delta wD;exact Q (ao ..)<|Q (rangeInts_length ..)<|(cH▸Un.1).symm) λj o hc=>?_
  obtain ⟨G,rfl⟩:=Un.2 j o (by simpa using hc);have hj:j<vl a b s:=by have:=(aO.mp hc).1;rw[cH,Un.1] at this;exact this
  exact qr (.int<|a+j*s) (by delta wD;refine Q aZ<|Q (rangeInts_get hj) ?_;rfl)<|.int _ _
 |_=>replace e:=i▸e;exact nS e
theorem Th (e:Oq s=Y v):∃c:Nat,s=⟨#[c]⟩/\v=.int c:=by
 obtain ⟨⟨a⟩⟩:=s
 cases a with
 |nil=>exact nS e|cons c a=>cases a with
  |nil=>exact qr c rfl<|(ae e).symm
  |cons=>exact nS e
theorem RV {M:List Nat}{st:St}(L:rl d A)(I:At C B M env st W)(hb:o≠.set)(U:qG C W as xs)(e:yg st.hp o as=Y v) :
  Tr C B M env A (call (wA o) xs) st (λT c=>qw C T v c) W:=by
 have a:=I.H;have e:ach st.hp o (as.map rC)=Y v:=e;replace U:=U.rC;generalize as.map rC=as at U e
 cases o with
 |len=>exact Bw U e λV V f e=>(acf a f e).tr I
 |range=>exact (ace a U e).tr I|sum=>
  exact Bw U e λb x f e=>lS e λl i e=>A1 e λG n=>by obtain ⟨b,vs,rfl,w,f⟩:=wC a f i;exact q8.tr (λQQq y hQ=>PU L.1 w.is (A4 f n) QQq y λT c p rS=>rN rS λt i=>hQ T c p<|Q i<|.int _ _) I
 |list=>exact Bw U e λV V f e=>(KI L a f e).tr I
 |chr=>
  exact Bw U e λV V f e=>iR f e λq t e=>qX e λz e=>by
   delta CM at z
   simp only[iu,decide_eq_true_eq] at z
   exact (q8.mk λQQq y hQ=>chr_of_range (by lia) (by lia)<|q8.str e hQ).tr I
 |ord=>
  exact Bw U e λV V f e=>sR f e λs t e=>by
   refine qt (Th e) λc H By=>Q H ?_;clear H;refine Q By ?_;clear By
   exact (q8.mk λQQq y hQ=>P.ord_of_char<|q8.int rfl hQ).tr I
 |abs=>exact Bw U e λV V f e=>iR f e λq t e=>(q8.mk λQQq y hQ=>call_abs_int λu h=>q8.int e hQ).tr I
 |divmod=>
  exact a2R U e λV V V V f r' e=>iR f e λq t e=>iR r' e λj u e=>rX e λhz e=>q8.tr (q8.mk λQQq y hQ=>divmod_int (λk=>hz<|.inl k) (by
   refine rU (Pext0.tup (vs:=[.int (bg q j) W.s.toks,.int (a_ q j)<|W.s.toks+1]) a (.cons (.int _ _)<|.cons (.int _ _) .nil)<|W.s.toks+1+1) λT p f es=>?_
   have:=hQ T _ p<|J (ae e) f
   rw[es] at this
   exact this)<|.inl<|eq_false_of_ne_true λk=>hz<|.inr k) I
 |max=>
  exact Bw U e λb x f e=>lS e λl i e=>so e λG n e=>by obtain ⟨b,vs,rfl,w,f⟩:=wC a f i;exact (max_list L.1 w.is (A4 f n) e).tr I
 |set=>exact absurd rfl hb
section
structure Kept (C:Ctx) (W W':Wd):Prop where
 le:W.le W'
 off:∀L o,W.s.heap.get? L=some o->W.G.I L=none->L∉W.σ->L∉C.tabs->W'.s.heap.get? L=some o/\W'.G.I L=none/\L∉W'.σ
theorem Pext0.kept {s:Wd}(G:Pext0 C s W'):Kept C s W':=⟨G.le,λv H e i I J=>⟨G.hk v H e,G.new v i<|Q e rfl,Q G.σ I⟩⟩
theorem At.kept {A:List Nat}{x:St}{u:Wd}(G:At C B A env x u)(L:Kept C u W')(T:qY C hp' W'):At C B A env ⟨x.loc,hp'⟩ W':=by
 refine qt G.L.ns λd o g=>?_
 obtain ⟨I,a,h,e,t⟩:=id o;exact qN (L.off _ I e G.L.I G.L.σ G.L.T) λb i U=>⟨G.ok.mono L.le.σ,T,⟨d,wR I a h b t,λc b k n z=>qt (g c b k n z) λs H r=>qr s H<|r.mono L.le⟩,i,Q L.le.G.F G.L.F,U,G.L.T⟩
def TH {o:Type}(T:Ctx)(U:Around)(v:gH o)(b:Wd->o->Prop)(a:List O)(s:Wd):Prop:=∀(L:o->ay->Prop)(E:aj->ay->Prop),(∀c G,Kept T s c->qY T a c->b c G->L G c.s)->wpAny (model T.prog T.w) U v L E s.s
theorem q8.th {o:Type}{v:gH o}{b:Wd->o->Prop}(G:q8 C A v b W)(T:qY C hp W):TH C A v b hp W:=λI g n=>G I g λU H L p=>n U H L.toPext0.kept (L.hp L.tk _ T) p
noncomputable def LV:MK->String
 |.uX|.wF|.BV|.Ao=>"list"|.Ba=>"dict"
 |.EX=>"int"|_=>"str"
noncomputable def mkId:MK->String
 |.uX=>"list.append"|.wF=>"list.reverse"|.BV=>"list.pop"|.Ao=>"list.index"
 |.BK=>"str.index"|.EA=>"str.join"|.AU=>"str.replace"|.Ez=>"str.lower"
 |.Ba=>"dict.get"|.EX=>"int.bit_length"
structure CX (W:Wd) (x:aj) (m:Mt) (k:MK):Prop where
 pa:PlainAttrs<|LV k
 sl:Slot (LV k) (w3 m)<|mkId k
 ty:typeOf (.builtin<|mkId k)=pure (.type "method_descriptor")
 is:W.s.TypeIs x<|LV k
 ob:∀a,x=.ref a->∃ob,W.s.heap.get? a=some ob/\ob.dict=none
theorem noRef {s:aj}{b:bK->Prop}(e:(match s with|.ref J=>false|_=>true)=true):∀v,s=.ref v->b v:=λv i=>by subst i;exact fT e
theorem Qv {s:Wd}(e:s.s.heap.get? b=Y o)(i:o.dict=N):∀q,jm b=.ref q->∃p,s.s.heap.get? q=Y p/\p.dict=N:=λq n=>by injection n with n;subst n;exact qr _ e i
theorem CF {g:Mt}{a:List V}(I:uE C W x<|.lst a)(e:LV k="list")(d:Slot "list" (w3 g)<|mkId k)(i:typeOf (.builtin<|mkId k)=pure (.type "method_descriptor")):CX W x g k:=by obtain ⟨v,f,rfl,⟨c,n⟩,_⟩:=I;exact ⟨e▸F.plainAttrs_list,e▸d,i,e▸(qr _ n rfl),Qv n rfl⟩
theorem EN {g:Mt}{p:ba}(I:uE C W x<|.str p)(e:LV k="str")(d:Slot "str" (w3 g)<|mkId k)(i:typeOf (.builtin<|mkId k)=pure (.type "method_descriptor")):CX W x g k:=by obtain ⟨y,rfl⟩:=I;exact ⟨e▸F.plainAttrs_str,e▸d,i,e▸typeIs_str _ _ _,noRef rfl⟩
theorem kL_ {e w:MK}{o:V}{p:Prop}(f:kL e o=Y w) (b:∀a,o=.lst a->e=w->p):p:=by
 cases o with
 |lst a=>exact b a rfl<|ae f
 |_=>exact nS f
theorem kS_ {e w:MK}{o:V}{q:Prop}(f:kS e o=Y w) (b:∀p,o=.str p->e=w->q):q:=by
 cases o with
 |str p=>exact b p rfl<|ae f
 |_=>exact nS f
theorem ahM {g:Mt}(I:uE C W x o)(e:BU g o=Y k):CX W x g k:=by
 cases g with
 |append=>exact kL_ e λa i n=>by subst i n;exact CF I rfl F.slot_list_append F.type_list_append
 |reverse=>exact kL_ e λa i n=>by subst i n;exact CF I rfl F.slot_list_reverse F.type_list_reverse
 |join=>exact kS_ e λa i n=>by subst i n;exact EN I rfl F.slot_str_join F.type_str_join
 |replace=>exact kS_ e λa i n=>by subst i n;exact EN I rfl F.slot_str_replace F.type_str_replace
 |lower=>exact kS_ e λa i n=>by subst i n;exact EN I rfl F.slot_str_lower F.type_str_lower
 |pop=>exact kL_ e λa i n=>by subst i n;exact CF I rfl F.slot_list_pop F.type_list_pop
 |index=>cases o with
  |lst a=>exact J (ae e)<|CF I rfl F.slot_list_index F.type_list_index
  |str a=>exact J (ae e)<|EN I rfl F.slot_str_index F.type_str_index
  |_=>exact nS e
 |get=>cases o with
  |ru f j=>
   refine J (ae e) ?_;obtain ⟨v,u,rfl,⟨c,z⟩,_⟩:=I;exact ⟨F.plainAttrs_dict,F.slot_dict_get,F.type_dict_get,qr _ z rfl,Qv z rfl⟩
  |_=>exact nS e
 |yf=>cases o with
  |int q=>
   refine J (ae e) ?_;obtain ⟨y,rfl⟩:=I;exact ⟨F.plainAttrs_int,F.slot_int_bit_length,F.type_int_bit_length,typeIs_int _ _ _,noRef rfl⟩
  |_=>exact nS e
theorem Tx (T:qY C a W){g:Mt}(n:qw C W o x)(e:BU g (view a o)=Y k):CX W x g k:=ahM (tZ T n) e
theorem N5 {U:cF}{f:List V}(a:qJ U T I σ f vs)(e:strsOf f=Y ns):∃G:List (ba×pJ),vs=strValues G/\G.map (·.1)=ns:=by
 induction f generalizing vs ns with
 |nil=>exact qr ([]) a.inv<|ae e
 |cons k f b=>
  replace a:=a.inv;obtain ⟨s,L,rfl,H,a⟩:=a;exact sR H.rC e λp x e=>A1 e λu i=>
   (b a i).elim λG t=>qr ((p,x)::G) (qo (aj.str p x::·) t.1)<|qo (p::·) t.2
theorem Kp (T:qY C hp W) {o:Type} [DecidableEq o] (i:Kd C.prog C.w o) {G:o}{s:aj}{k:V}{f j:List V}{a:aj}{y:Option V}(e:i.knd.is G s=true)
  (p:qw C W k a) (q:view hp k=.ru f j) (U:∃u:List o,f=u.map i.inj) (n:findKey f j (i.inj G)=Y y) :
  (q8 C A (call (.builtin "dict.get") [a,s]) (λc a=>qw C c (Ak y .none) a) W)/\
  ∀{L:V}{h:aj},qw C W L h->q8 C A (call (.builtin "dict.get") [a,s,h]) (λc a=>qw C c (Ak y L) a) W:=by
 refine yw (AQ T p q) λv d z g t I=>?_;subst z
 obtain ⟨u,rfl⟩:=U;obtain ⟨M,b⟩:=Ay i g t I;have w:=b.dict.mapOf;refine ⟨q8.mk λQQq x hQ=>?_,λrd=>q8.mk λQQq x hQ=>?_⟩
 .refine call_meetsIn F.slot_dict_get w.typeIs F.entry_dict_get (F.args_dict_get_2 _ _) (meets_dict_get i.knd v e<|xM T p q)<|qr _ w ?_
  rcases w9 i b.rep n with ⟨q,H⟩|⟨k,a,q,H,r3⟩
  .subst q;exact Q H<|hQ ⟨W.G,W.σ,_⟩ _ (Pext0.toks _) .none
  .subst q;exact Q H<|hQ ⟨W.G,W.σ,_⟩ _ (Pext0.toks _) r3
 .refine call_meetsIn F.slot_dict_get w.typeIs F.entry_dict_get (F.args_dict_get_3 _ _ _) (meets_dict_get_default i.knd v e (xM T p q) _)<|qr _ w ?_
  rcases w9 i b.rep n with ⟨q,H⟩|⟨k,a,q,H,r3⟩
  .subst q;exact Q H<|hQ ⟨W.G,W.σ,_⟩ _ (Pext0.toks _) rd
  .subst q;exact Q H<|hQ ⟨W.G,W.σ,_⟩ _ (Pext0.toks _) r3
theorem We (T:qY C hp W){v:V}{z:Option V}(t:qw C W o x)(e:view hp o=.ru ks vs)(i:JC k=true)(s:qw C W k y)(n:findKey ks vs k=Y z) :
  (q8 C A (call (.builtin "dict.get") [x,y]) (λU h=>qw C U (Ak z .none) h) W)/\
  ∀{a:V}{u:aj},qw C W a u->q8 C A (call (.builtin "dict.get") [x,y,u]) (λU h=>qw C U (Ak z a) h) W:=by
 refine yw (AQ T t e) λJ J J J w J=>?_
 cases k with
 |str p=>obtain ⟨_,rfl⟩:=s.inv;exact Kp T (vy C.prog C.w) (beq_self_eq_true p) t e (J6 w n) n
 |int q=>obtain ⟨_,rfl⟩:=s.inv;exact Kp T (VT C.prog C.w) (beq_self_eq_true q) t e (J7 w n) n
 |_=>exact fT i
theorem aal (T:qY C hp W)(k:qw C W o x)(U:qG C W f j)(e:view hp o=.ru ks vs)(i:abi ks vs f=Y v):q8 C A (call (.builtin "dict.get")<|x::j) (λa b=>qw C a v b) W:=by
 cases f with
 |nil=>exact nS i|cons G f=>
  replace U:=U.inv;obtain ⟨_,_,rfl,H,U⟩:=U
  cases f with
  |nil=>exact Q U.inv<|qX i λn i=>A1 i λy z=>(We (v:=.none) T k e n H z).1
  |cons c f=>
   replace U:=U.inv;obtain ⟨_,_,rfl,g,U⟩:=U
   cases f with
   |nil=>exact Q U.inv<|qX i λn i=>A1 i λy z=>(We (v:=.none) T k e n H z).2 g
   |cons=>exact nS i
theorem RN {U:cF}{f:List V}(a:qJ U T I σ f vs)(e:boolsOf f=Y bs):vs=bs.map j1:=by
 induction f generalizing vs bs with
 |nil=>exact a.vt<|J (ae e) rfl
 |cons k f b=>cases k with
  |bool c=>
   exact a.sk λs L G a=>qO e λd i n=>Q (show s=.bool c from G)<|Q (b a i)<|J n rfl
  |_=>exact nS e
theorem qJ.dropLast {U:cF}:∀{l:List V}{j:List aj},qJ U T I σ l j->qJ U T I σ l.dropLast j.dropLast
 |[]=>λa=>a.vt .nil
 |[J]=>λa=>a.sk λJ J J a=>a.vt .nil
 |_::_::_=>λa=>a.sk λJ J G a=>by have e:=a.dropLast;exact a.sk (λs L g a e=>.cons G e) e
theorem Tv (L:rl d T)(b:qY C hp W){f:List V}(k:qw C W o s)(e:view hp o=.lst f)(x:qw C W A j)(i:bV (λp=>if q6 f.length then (boolsOf f).bind λbs=>if bs.contains p then Y (.int<|bs.idxOf p) else N else N) A=Y a):q8 C T (call (.builtin "list.index") [s,j]) (λq h=>qw C q a h) W:=by
 cases A with
 |bool p=>
  refine qX i λn i=>so i λbs hb i=>qX i λH i=>?_
  obtain rfl:j=.bool p:=x;refine qZ (wC b k e) λv u c U y=>Q c ?_;clear c
  obtain ⟨t,U⟩:=U;have hl:=y.length;obtain rfl:=RN y hb;have G:p∈bs:=dF.mp H;have I:bs.idxOf p<bs.length:=List.idxOf_lt_length_of_mem G;have w:f.length<=65536:=of_decide_eq_true n;rw[ao] at hl
  refine q8.mk λQQq E g=>gV F.slot_list_index (qr _ U rfl) F.entry_list_index (F.args_list_index_2 _ _) (list_indexAt v (bs.map j1).toArray t N #[] (.bool p) (λz=>z==.bool p) (bs.idxOf p) (by simpa using I) (bo.mpr<|ai I<|hl▸aa w<|by decide) ?_ ?_)<|rj U ?_<|q8.int i g
  .simp
  .intro m G uO
   simpa using (List.not_of_lt_findIdx uO)
  .intro z n;obtain ⟨h,_,rfl⟩:∃h,h∈bs/\j1 h=z:=by simpa using n
   exact Q (bool_beq h p)<|pR h p
 |_=>exact nS i
theorem PX {x:pJ}{T:aj->ay->Prop}{d:aj->ay->Prop}{U:ay}(w:0<=js p j)(G:T (.int (js p j) U.toks) { U with toks:=U.toks+1 }):wpAny (model C.prog C.w) A (call (.builtin "str.index") [.str p x,.str j s]) T d U:=by
 delta js at w G
 cases e:kO p j 0 p.length 1 with
 |nil=>rw[e] at w;exact absurd w (by decide)
 |cons c rest=>
  rw[e] at G
  exact call_gives F.slot_str_index (typeIs_str _ _ _) F.entry_str_index (F.args_str_index_2 _ _) (gives_str_index p j x s c rest e) G
theorem N' {q:Type}{b:ba->Option q}{G:q}{v:Prop}(T:qY C a W) (k:qw C W o x) (e:sV b (view a o)=Y G) (d:∀p y,x=.str p y->b p=Y G->v):v:=by
 have I:=tZ T k
 cases i:view a o with
 |str p=>rw[i] at e I;obtain ⟨y,rfl⟩:=I;exact d p y rfl e
 |_=>replace e:=i▸e;exact nS e
theorem Ov (hr:rl d A)(T:qY C hp W){e:MK}(ha:qw C W o x)(U:qG C W as j)(f:Tw hp e (view hp o) as=Y v) :
  q8 C A (call (.builtin<|mkId e)<|x::j) (λb s=>qw C b v s) W:=by
 cases e with
 |Ao=>exact lS f λu i f=>Bw U f λG h t f=>Tv hr T ha i t f
 |BK=>exact N' T ha f λp y i f=>i▸Bw U f λG h t f=>sR t f λs' t' f=>qX f λw f=>q8.mk λQQq E g=>PX w<|q8.int f g
 |EA=>
  exact N' T ha f λp y i f=>i▸Bw U f λG h t f=>lS f λu n f=>so f λss z f=>qX f λH f=>by
   refine qZ (wC T t n) λa vs c L r=>Q c ?_;clear c
   refine qt (N5 r z) λj yq e2=>?_;subst yq
   exact q8.mk λQQq E g=>SC.join L.is e2 H λt' k=>q8.str f g
 |Ez=>
  exact N' T ha f λp y i f=>i▸WO U f λf=>qX f λhz f=>by have hz':(iO p).length<=65536:=of_decide_eq_true hz;exact q8.mk λQQq E g=>SC.lower (by delta lO;exact Q (g9 ..)<|decide_eq_false<|by lia)<|q8.str f g
 |Ba=>cases i:view hp o with
  |ru ks vs=>replace f:=i▸f;exact aal T ha U i f
  |_=>replace f:=i▸f;exact nS f
 |EX=>cases i:view hp o with
  |int q=>
   rw[i] at f
   have I:=tZ T ha;rw[i] at I
   obtain ⟨y,rfl⟩:=I;exact WO U f λf=>q8.mk λQQq E g=>call_int_bit_length<|q8.int f g
  |_=>replace f:=i▸f;exact nS f
 |_=>exact nS f
theorem Li (p)(u)(c:u≠0):isSame (.str p u) (.str p u)=pure true:=(Q (by simp[c]:(u==0||u==0)=false)<|Q (by simp:(u==u)=true) rfl:(if (u==0||u==0)=true then _ else if (u==u)=true then pure true else _:gH Bool)=_)
open Builtin Builtin.Str in
theorem BY (x j)(y s)(c:s≠0):Gives («str.replace» ⟨[.str x y,.str j s,.str j s],[]⟩)<|.val<|.str x y:=by
 show Gives (if ((occurrences x j 0 x.length<|x.length+1).isEmpty||(j.length==0&&j.length==0))=true then (do rule "str.replace.nothing";ret (.str x y)) else
     (do
    let same←isSame (.str j s) (.str j s)
    if same=true then (do rule "str.replace.old-is-new";ret (.str x y)) else
    if tooLong (x.length+(occurrences x j 0 x.length<|x.length+1).length*j.length)=true then pb "str.replace:memory" else
    retStr (glued j<|partsBetween x (occurrences x j 0 x.length<|x.length+1) j.length))) _
 cases i:((occurrences x j 0 x.length<|x.length+1).isEmpty||(j.length==0&&j.length==0))
 .exact Q (Li j s c)<|.rule<|.of_eq rfl
 .exact .rule<|.of_eq rfl
theorem Lb (H:qY C a W)(ha:qw C W o x)(U:qG C W as j)(e:HI (view a o) as=Y L) :
  q8 C A (call (.builtin "str.replace")<|x::j) (λT b=>qw C T L b) W:=by
 refine N' H ha e λp y i e=>Q i<|a2R U e λG f h u I g e=>tR I e λG s i e1 e=>tR g e λf L z n e=>qX e λc e=>?_
 subst i z
 have q:s≠0:=bw (H.T _ _ e1).1;refine q8.mk λQQq d hQ=>?_
 by_cases t:G=f
 .subst t
  by_cases w:s=L
  .refine J w ?_;clear w;exact call_gives F.slot_str_replace (typeIs_str _ _ _) F.entry_str_replace (F.args_str_replace_3 _ _ _) (BY p G y s q)<|hQ W _ (Pext0.refl W)<|J (ae e)<|Q (Txt.replace_self ..)<|.str _ _
  .exact SC.replaceA q (bw (H.T _ _ n).1) w (of_decide_eq_true c) (λv k=>q8.str e hQ)<|C.nb _ λG o i=>H.I G o<|H.top G o i
 .skip
  exact SC.replace q (bw (H.T _ _ n).1) (λu=>by subst u;exact t<|ae<|e1.symm.trans n) (by simpa using t) (of_decide_eq_true c) λv k=>q8.str e hQ
theorem qJ.reverse {U:cF}{f:List V}(a:qJ U T I σ f vs):qJ U T I σ f.reverse vs.reverse:=by
 induction f generalizing vs with
 |nil=>exact a.vt .nil|cons k f b=>exact a.sk λJ J G a=>Q (dR ..)<|Q (dR ..)<|qJ.append (b a)<|.cons G .nil
structure R8 (C:Ctx) (W:Wd) (hp:List O) (i:Nat) (a:bK) (o:O) (ob:gA):Prop where
 at_:W.s.heap.get? a=some ob
 rep:rB C.w.params W.G.T W.G.I W.σ ob o
 kept:∀s':ay,(∀b o,b≠a->W.s.heap.get? b=some o->s'.heap.get? b=some o)->Kept C W ⟨W.G,W.σ,s'⟩
 ns:(a==fS)=false
theorem Eo (d:qY C hp W)(e:W.σ[i]?=Y a)(j:hp[i]?=Y o):∃G,R8 C W hp i a o G:=by
 refine qN (d.rY _ _ e) λn z U=>qZ U λT G h1 c I=>?_
 have f:a∈W.σ:=bG e;exact ⟨G,c,J (ae<|h1.symm.trans j) I,λh b=>⟨⟨Gh.le.refl _,rm.refl _⟩,λw o k H L p=>rj (b w o (λg=>L<|Q g f) k) H L⟩,
  beq_eq_false_iff_ne.mpr λg=>(d.tab _ C.sys).2.2.1<|J g f⟩
theorem AM (T:qY C hp W){f:List V}(e:W.σ[i]?=Y a)(j:hp[i]?=Y (.list f)):∃u h,R8 C W hp i a (.list f) ⟨.type "list",N,.seq (c9 u) h,#[]⟩/\qG C W f u/\f.length=u.length:=by
 refine rN (Eo T e j) λH G=>?_
 obtain ⟨u,h,rfl,b⟩:=G.rep.inv;exact tb u h G b b.length
theorem Cv (H:qY C hp W){h:List V}(e:W.σ[i]?=Y a)(G:R8 C W hp i a (.list h) ⟨.type "list",N,.seq (c9 vs) n,#[]⟩){f:Array aj->Array aj}{vs':List aj}(j:f vs.toArray=vs'.toArray)(U:qG C W l' vs'){A:aj->ay->Prop}(o:hp.set i (.list l')=hp')(k:qw C W v w)(g:∀T b,Kept C W T->qY C hp' T->qw C T v b->A b T.s):A w { W.s with heap:=W.s.heap.update a<|iX f }:=by
 have z:=my G.at_ f;have p:=λ(q:bK) (I:gA) (c:q≠a) (L:W.s.heap.get? q=Y I)=>((cT W.s.heap a<|iX f).2 q c).trans L
 rw[j] at z
 exact g ⟨W.G,W.σ,_⟩ _ (G.kept _ p) (J o<|H.upd e p z (.list U) rfl rfl<|ag _) k
theorem QD (T:qY C hp W){e:MK}(k:qw C W o s)(U:qG C W as j)(p:Jo hp e o as=Y (v,hp')) :
  TH C A (call (.builtin (mkId e)) (s::j)) (λa b=>qw C a v b) hp' W:=by
 cases o with
 |ref c=>
  obtain ⟨x,rfl,i⟩:=k.inv;have p:(match hp[c]? with|Y (.list l)=>QE hp c e as l|_=>N)=Y (v,hp'):=p
  cases n:hp[c]? with
  |none=>replace p:=n▸p;exact nS p
  |some o=>cases o with
   |list l=>
    revert p;refine Q n ?_;intro p;refine qZ (AM T i n) λd t G I z=>?_
    cases e with
    |uX=>
     refine Bw U p λh q L p=>qX p λH p=>λQQq u g=>?_
     have w:l.length<=65536:=of_decide_eq_true H;exact gV F.slot_list_append (qr _ G.at_ rfl) F.entry_list_append (F.args_list_append_2 _ _) (gF x d.toArray t q (by simp only[bj,g9];lia)) ⟨G.at_,(sz p λn y=>Cv T i G (f:=(·.push q)) (vs':=d++[q]) (by simp) (qJ.append I (.cons L .nil)) y (n▸.none) g)⟩
    |wF=>
     refine WO U p λp=>qX p λH p=>λQQq u g=>?_
     have w:l.length<=65536:=of_decide_eq_true H;exact gV F.slot_list_reverse (qr _ G.at_ rfl) F.entry_list_reverse (F.args_list_reverse_1 _) (AutoListH.list_reverse_list_0 x d.toArray t (by simp only[bj,g9];lia)) ⟨G.at_,(sz p λn y=>Cv T i G (f:=(·.reverse)) (vs':=d.reverse) (by simp) (qJ.reverse I) y (n▸.none) g)⟩
    |BV=>
     refine WO U p λp=>qX p λH p=>qO p λh L p=>λQQq u g=>?_
     have w:l.length<=65536:=of_decide_eq_true H;rw[gj] at L
     exact qt (I.get L) λb hc rc=>gV F.slot_list_pop (qr _ G.at_ rfl) F.entry_list_pop (F.args_list_pop_1 _) (MeetsSeq.list_pop_last x d.toArray t b (by simpa[<- z] using hc) (by simp only[bj,g9];lia)) ⟨G.at_,(sz (qo Y p) λn y=>Cv T i G (f:=λj=>j.eraseIdxIfInBounds (d.toArray.size-1)) (vs':=d.dropLast) (by simp) (qJ.dropLast I) y (n▸rc) g)⟩
    |_=>exact nS p
   |_=>replace p:=n▸p;exact nS p
 |_=>exact nS p
theorem QC (L:rl d A)(T:qY C hp W){e:MK}(k:qw C W o x)(U:qG C W as j)(f:za hp e o as=Y (v,hp')) :
  TH C A (call (.builtin<|mkId e)<|x::j) (λa b=>qw C a v b) hp' W:=by
 delta za at f
 split at f
 .exact QD T k U f
 .split at f
  .rename_i I;refine Q I ?_;clear I;refine qt (ck.mp f) λc i n=>?_
   cases n
   exact (Lb T k U i).th T
  .refine qt (ck.mp f) λc i n=>?_
   cases n
   exact (Ov L T k U.rC i).th T
end
section
structure acH (C:Ctx) (g:Glob):Prop where
 top:∀x v,g.top.lookup x=some v->C.mg x=some v
 miss:∀x,g.top.lookup x=none->C.mg x=none
 blt:∀x v,g.blt.lookup x=some v->C.mb x=some v
 vals:∀x v,g.vals.lookup x=some v->∃c,C.mg x=some c/\∀W:Wd,Gm.le C.tG W.G.I->qw C W v c
variable {n q f j:St}
def TT (T:Ctx)(c:Nat)(z:K)(I:List Nat)(L:a7)(A:St)(U:Bool)(H:St):Prop:=∀(a:Around)(g:kN)(W:Wd),rl c a->At T z I g A W->Tr T z I g a (j7 L g<|eval L g) H (λJ G=>G=U) W
def TL (T:Ctx)(c:Nat)(G:K)(A:List Nat)(es:List a7)(H:St)(k:List V)(I:St):Prop:=∀(U:Around)(g:kN)(W:Wd),rl c U->At T G A g H W->Tr T G A g U (spliced<|es.map λL=>(false,eval L g)) I (λa A=>qG T a k A) W
theorem wL:∀{l:List ba}{x:ba}{i:Nat},idx l x=Y i->l[i]?=Y x:=by
 intro l x i h;refine qt (List.findIdx?_eq_some_iff_getElem.mp h) λh1 h2 h3=>?_
 refine Q (aD h1)<|Q (eq_of_beq h2) rfl
theorem TE.O4 {e:dB}:TE C d B M (.Constant (.bool b) k e) n (.bool b) n:=λT g s L G U i h=>wpAny_Constant_bool<|h s _ (Wd.le.refl _) G<|.bool b
theorem TE.const_none {e:dB}:TE C d B M (.Constant .none k e) n .none n:=λT g s L G U i h=>wpAny_Constant_none<|h s _ (Wd.le.refl _) G .none
theorem TE.G8 {e:dB}:TE C d B M (.Constant (.str s) k e) n (.qu s) n:=λT g t L G U i h=>wpAny_Constant_str<|h ⟨t.G.Ta t.s.toks s,t.σ,_⟩ _ (Pext0.tok s G.H.DR).le (G.rz<|(Pext0.tok s G.H.DR).strict<|cZ _)<|.qu<|Tm.rP _ _ _
theorem TE.cell {p:ba}{e:dB}{o t:Nat}{k:V}(u:B.cells[o]?=Y p) (hk:B.scope.names.lookup p=Y .cell\/(B.scope.names.lookup p=Y .free/\(p==("__classdict__":ba))=false)) (i:M[o]?=Y t) (v:n.hp[t]?=Y (.cell<|Y k)) (z:(p==("__debug__":ba))=false) :
  TE C d B M (.Name p e) n k n:=λa w x L G QQq y h=>by
 refine qZ (G.ok.cell o p u<|by rcases hk with h|h;exact .inl h;exact .inr h.1) λT s H c A=>?_
 rw[i] at H;(refine Vm.sI H ?_;clear H;rintro rfl)
 refine qN (G.H.rY _ _ c) λJ J U=>qZ U λI b h1 g h3=>?_
 rw[v] at h1;(refine Vm.sI h1 ?_;clear h1;rintro rfl)
 obtain ⟨_,rfl,r⟩:=h3.inv;refine wpAny_Name ?_ z;rcases hk with hk|hk
 .exact pE (by rw[G.ok.scope];exact G.ok.fn) (by delta fu;exact Q G.ok.scope hk) A ⟨_,g,rfl⟩<|h x _ (Wd.le.refl _) G r
 .exact wpAny_loadName_free (by rw[G.ok.scope];exact G.ok.fn) (by delta fu;exact Q G.ok.scope hk.1) A ⟨_,g,rfl⟩ (h x _ (Wd.le.refl _) G r) hk.2
theorem At.glob {s:Wd}(ha:At C B M env n s):s.s.heap.Ns env.globals C.mg/\s.s.heap.Ns env.builtins C.mb:=Q ha.ok.globals<|Q ha.ok.builtins<|C.gl _ λv G e=>ha.H.I v G<|ha.H.top v G e
theorem TE.glob {e:dB}(k:B.scope.names.lookup x=Y .globalImplicit)(o:C.mg x=Y c\/(C.mg x=N/\C.mb x=Y c))(hr:∀s:Wd,Gm.le C.tG s.G.I->qw C s v c)(i:(x==("__debug__":ba))=false) :
  TE C d B M (.Name x e) n v n:=λT p s J G U g h=>by
 refine Name_function_global (Q G.ok.scope G.ok.fn) (by delta fu;exact Q G.ok.scope k) ?_ i;rcases o with o|⟨o,t⟩
 .exact loadGlobal_global G.glob.1 o<|h s _ (Wd.le.refl _) G<|hr s G.H.top
 .exact loadGlobal_builtin G.glob.1 o G.glob.2 t<|h s _ (Wd.le.refl _) G<|hr s G.H.top
theorem TE.bin {L c:a7}{e:dB}(g:TE C d B M L n a f)(x:TE C d B M c f b j)(h:sL j.hp op a b=Y v):TE C d B M (.BinOp L op c e) n v j:=.binop g x λT t s i U o k u=>Pe U o k u h
theorem TE.un {e:dB}(h1:TE C d B M x n a f)(h:Vu op a=Y v):TE C d B M (.UnaryOp op x e) n v f:=λU i t L H I k g=>wpAny_UnaryOp<|h1 U i t L H _ _ λo s T y G=>PE G h _ _ λb s c p=>g b s (T.trans c.le) (y.rz c) p
theorem TT.plain (h:TE C d B M e n k f)(i:rD f.hp k=Y b)(hp:∀o v,j7 e o v=(do let k←v;eu e.pos;gx [k] (truthy k))):TT C d B M e n b f:=
 λU o s L H I g p=>isTrue_plain (h U o s L H _ _ λt w T y G=>wW L y.H G i _ _ λc w u a=>p c w (T.trans u.le) (y.rz u) a)<|hp _ _
theorem TE.not {e:dB}(h1:TE C d B M x n a f)(h:rD f.hp a=Y U):TE C d B M (.UnaryOp .Not x e) n (.bool<|!U) f:=λb i t L H I k g=>wpAny_UnaryOp<|h1 b i t L H _ _ λo s T y G=>not_of<|wW L y.H G h _ _ λc s p u=>by refine Q u ?_;clear u;exact g c _ (T.trans p.le) (y.rz p)<|.bool _
theorem TT.not {e:dB}(h1:TT C d B M x n b f):TT C d B M (.UnaryOp .Not x e) n (!b) f:=λU h s L H I i g=>isTrue_not<|h1 U h s L H _ _ λo w T y G=>g o _ T y<|by refine Q G rfl
theorem TE.rf {h:dB}(h1:TT C d B M c n U f)(i:TE C d B M (if U then b else e) f v j):TE C d B M (.IfExp c b e h) n v j:=
 λk o t L H A p g=>by
  refine wpAny_IfExp<|h1 k o t L H _ _ λu I T y G=>?_
  subst G
  cases I<;>exact i k o u L y A p λw s x z a=>g w s (T.trans x) z a
theorem TT.rf {h:dB}(h1:TT C d B M c n H f)(o:TT C d B M (if H then b else e) f v j):TT C d B M (.IfExp c b e h) n v j:=
 λU i s L I A k g=>by
  refine isTrue_IfExp<|h1 U i s L I _ _ λp w T y G=>?_
  subst G
  cases w<;>exact o U i p L y A k λt u x z a=>g t u (T.trans x) z a
theorem TE.Wz {e:dB}(g:TE C d B M x n v f):TE C d B M (.BoolOp op [x] e) n v f:=g
theorem Ij {b:aj->ay->Prop}{a:List<|gH aj}{e:dB}{L:aj->ay->Prop}(d:wpAny I T x (λt u=>wpAny I T (truthy t) (λg U=>match op,g with|.And,false=>L t U|.Or,true=>L t U|J,W=>wpAny I T (boolOp e op<|y::a) L b U) b u) b s) :
  wpAny I T (boolOp e op<|x::y::a) L b s:=by
 refine af<|wpAny_mono d (λt u c=>af<|wpAny_standAt<|af<|cU<|wpAny_mono c (λg U h=>?_) λJ J x=>x) λJ J x=>x
 cases op<;>cases g<;>first|exact wpAny_pure h|exact h
theorem TE.zq {k:List a7}{e:dB}(h1:TE C d B M L n v f)(o:rD f.hp v=Y t)(i:t=(match op with|.And=>true|.Or=>false))(x:TE C d B M (.BoolOp op (y::k) e) f w j) :
  TE C d B M (.BoolOp op (L::y::k) e) n w j:=λU env s c H QQq u g=>by
 refine Ij<|h1 U env s c H _ _ λA z T ri G=>wW c ri.H G o _ _ λI b p a=>?_
 subst a i
 cases op<;>exact x U env I c (ri.rz p) QQq u λur h uV Bh uG=>g ur h ((T.trans p.le).trans uV) Bh uG
theorem TE.xN {h:List a7}{e:dB}(h1:TE C d B M L n v f)(k:rD f.hp v=Y t)(i:t=(match op with|.And=>false|.Or=>true)) :
  TE C d B M (.BoolOp op (L::y::h) e) n v f:=λU o s b G I p g=>by
 refine Ij<|h1 U o s b G _ _ λu c T z sC=>wW b z.H sC k _ _ λw H x a=>?_
 subst a i
 cases op<;>exact g w c (T.trans x.le) (z.rz x)<|sC.mono x.le
theorem TT.MC {e:dB}:TT C d B M (.BoolOp op [] e) n (op==.And) n:=λT g s L G U i h=>wpAny_pure<|h s _ (Wd.le.refl _) G rfl
theorem TT.zq {h:List a7}{e:dB}(h1:TT C d B M L n t f)(i:t=(match op with|.And=>true|.Or=>false))(o:TT C d B M (.BoolOp op h e) f b j) :
  TT C d B M (.BoolOp op (L::h) e) n b j:=λU k s c H I p g=>by
 refine af<|h1 U k s c H _ _ λv u T y G=>?_
 subst G i
 cases op<;>exact o U k v c y I p λw x z A a=>g w x (T.trans z) A a
theorem TT.xN {g:List a7}{e:dB}(h1:TT C d B M L n t f)(i:t=(match op with|.And=>false|.Or=>true)) :
  TT C d B M (.BoolOp op (L::g) e) n t f:=λU k s a H I o h=>by
 refine af<|h1 U k s a H _ _ λp w T y G=>?_
 subst G i
 cases op<;>exact wpAny_pure<|h p _ T y rfl
theorem TL.nil:TL C d B M [] n [] n:=λT g s L G U e h=>spliced_nil<|h s _ (Wd.le.refl _) G .nil
theorem TL.cons (h1:TE C d B M L n k f)(c:TL C d B M es f vs j):TL C d B M (L::es) n (k::vs) j:=λU h t b H A e g=>spliced_cons<|h1 U h t b H _ _ λo s T y G=>c U h o b y _ _ λi I p u a=>g i _ (T.trans p) u<|.cons (G.mono p) a
inductive tx (C:Ctx) (d:Nat) (B:K) (M:List Nat):List a7->St->List V->St->Prop
 |nil {n:St}:tx C d B M [] n [] n
 |cons {e:a7}{es:List a7}{v:V}{vs:List V}{n f j:St}:TE C d B M e n v f->tx C d B M es f vs j->tx C d B M (e::es) n (v::vs) j
theorem tx.tl (t:tx C d B M es n vs q):TL C d B M es n vs q:=by
 induction t with
 |nil=>exact .nil|cons e J c=>exact .cons e c
theorem tx.length (t:tx C d B M es n vs q):vs.length=es.length:=by induction t<;>simp_all
theorem tx.ac9 (t:tx C d B M [] n vs q):n=q:=by cases t;rfl
theorem tx.BR (t:tx C d B M [] n ls q):ls=[]/\n=q:=by cases t;exact ⟨rfl,rfl⟩
theorem tx.Mu (t:tx C d B M (L::es) n ls q):∃k u v,ls=k::u/\TE C d B M L n k v/\tx C d B M es v u q:=by cases t with|cons e s=>exact Ed _ _ _ rfl e s
theorem Ho (e:noStar L=true):starEach (L::es) env=(false,eval L env)::starEach es env:=by cases L<;>first|rfl|exact Vm.fT e
theorem rO:∀{a:List a7},a.all noStar=true->starEach a env=a.map λe=>(false,eval e env)
 |[]=>@λJ=>rfl
 |e::a=>@λg=>by
  rw[fq,aA] at g
  exact Q (Ho g.1)<|Q (rO g.2) rfl
theorem sv {e:dB}(a:List a7):backTo e (a.map λL=>(false,eval L env))=a.map λL=>(false,eval L env):=by delta backTo;exact ax bk<|dC λL J=>rfl
theorem TE.tup {h:List a7}{e:dB}(o:h.all noStar=true)(h1:TL C d B M h n vs f)(w:h.length<=65536)(i:vs.length=h.length):TE C d B M (.Tuple h k e) n (.tup vs) f:=
 λU p s L H A t g=>by
  refine wpAny_Tuple<|Q (rO o)<|Q (sv ..)<|h1 U p s L H _ _ λu b T y G=>⟨?_,?_⟩
  .exact J G.length<|Q i<|aa w<|by decide
  .refine rU (Pext0.tup y.H G u.s.toks) λa I v x=>?_
   have c:=I.strict<|Q x<|ag _
   have:=g a _ (T.trans c.le) (y.rz c) v;rw[x] at this
   exact this
end
section
variable {j k f g:St}{W:Wd}
structure Off (C:Ctx) (W:Wd) (a:bK) (o:gA):Prop where
 at_:W.s.heap.get? a=some o
 I:W.G.I a=none
 F:W.G.F a=none
 σ:a∉W.σ
 T:a∉C.tabs
theorem Gm.I9 {s:Gm}(e:(s.put a o) b=Y x):(b=a/\x=o)\/(b≠a/\s b=Y x):=by
 delta Gm.put at e
 by_cases i:b=a
 .rw[qm i] at e;(refine Vm.sI e ?_;clear e;rintro rfl);exact .inl ⟨i,rfl⟩
 .rw[qn i] at e;exact .inr ⟨i,e⟩
theorem Off.FK (h:Off C W a o)(H:qY C hp W):q7 C (W.G.FK a o) W.σ hp W.s where
 I:=H.I
 F b x e:=by
  rcases Gm.I9 e with ⟨rfl,rfl⟩|⟨_,e⟩
  .exact h.at_
  .exact H.F b x e
 IF b e:=by show (W.G.F.put a o) b=N;exact Q (Gm.sr λz=>e<|by exact Q z h.I)<|H.IF b e
 top:=H.top
 tab P hP:=by
  refine qN (H.tab P hP) λx y z=>rj x ?_ z
  show (W.G.F.put a o) P=N;exact Q (Gm.sr λq=>h.T<|by exact J q hP) y
 len:=H.len
 nd:=H.nd
 rY i b e:=by
  refine qN (H.rY i b e) λp q z=>rj p ?_ z
  show (W.G.F.put a o) b=N;exact Q (Gm.sr λz=>h.σ<|by exact J z<|bG e) q
 gens:=H.gens
 os:=H.os
 pos:=H.pos
 T:=H.T
theorem q7.HO {F:Gm}(H:q7 C G σ hp s)(h:∀b x,F b=Y x->G.F b=Y x):q7 C ⟨G.I,F,G.T⟩ σ hp s where
 I:=H.I
 F b x e:=H.F b x<|h b x e
 IF b e:=by
  show F b=N
  cases q:F b with
  |none=>rfl|some x=>have:=h b x q;rw[H.IF b e] at this;exact Vm.nS this
 top:=H.top
 tab P hP:=by
  refine qN (H.tab P hP) λx y z=>rj x ?_ z
  cases q:F P with
  |none=>exact q|some x=>have:=h P x q;rw[y] at this;exact Vm.nS this
 len:=H.len
 nd:=H.nd
 rY i b e:=by
  refine qN (H.rY i b e) λp q z=>rj p ?_ z
  cases q':F b with
  |none=>exact q'|some x=>have:=h b x q';rw[q] at this;exact Vm.nS this
 gens:=H.gens
 os:=H.os
 pos:=H.pos
 T:=H.T
def Wd.hold (s:Wd)(v:bK)(o:gA):Wd:=⟨s.G.FK v o,s.σ,s.s⟩
noncomputable def Wd.tL (t:Wd)(s:Gm):Wd:=⟨⟨t.G.I,s,t.G.T⟩,t.σ,t.s⟩
theorem At.hold (G:At C B M env j W)(z:Off C W a o)(c:a≠env.locals):At C B M env j<|W.hold a o:=⟨G.ok,z.FK G.H,⟨G.L.ns,G.L.I,(Q (Gm.sr<|fK c) G.L.F:(W.G.F.put a o) env.locals=N),G.L.σ,G.L.T⟩⟩
open Classical in
noncomputable def Wd.zM (T:Ctx)(a:List bK)(s:Wd):Gm:=λv=>(s.G.F v).or<|if v∉a/\s.G.I v=N/\v∉s.σ/\v∉T.tabs then s.s.heap.get? v else N
def Wd.wm (T:Ctx)(a:List bK)(W:Wd):Wd:=W.tL<|W.zM T a
theorem XE (e:W.G.F b=Y o):W.zM C L b=Y o:=by delta Wd.zM;exact Q e rfl
theorem none_of {p:Type}{o:Option p}(b:∀G,o=Y G->False):o=N:=by
 cases o with
 |none=>rfl|some G=>exact (b G rfl).elim
theorem vW (T:qY C hp W)(e:W.zM C L v=Y o):Off C ⟨⟨W.G.I,λV=>N,W.G.T⟩,W.σ,W.s⟩ v o/\(v∈L->W.G.F v=Y o):=by
 delta Wd.zM at e
 cases i:W.G.F v with
 |some p=>
  rw[i] at e
  refine J (ae e)<|⟨⟨T.F v p i,?_,rfl,λa=>?_,λa=>?_⟩,λV=>rfl⟩
  .exact none_of λw t=>by have:=T.IF v<|Q t λa=>Vm.sN a;rw[i] at this;exact Vm.sN this
  .obtain ⟨c,G,t⟩:=cK a;refine qN (T.rY c v<|J t<|aD G) λV z V=>?_
   rw[i] at z;exact Vm.sN z
  .have:=(T.tab v a).2.1;rw[i] at this;exact Vm.sN this
 |none=>
  rw[i,lj] at e
  exact qX e λt e=>⟨⟨e,t.2.1,rfl,t.2.2.1,t.2.2.2⟩,λa=>absurd a t.1⟩
theorem Ji (G:b∉L)(z:Off C W b o):W.zM C L b=Y o:=by delta Wd.zM;exact Q z.F<|Q (lj ..)<|Q (qm<|td G z.I z.σ z.T) z.at_
theorem q7.ex (L)(H:qY C hp W):qY C hp<|W.wm C L where
 I:=H.I
 F b x e:=(vW H e).1.at_
 IF b e:=none_of λo q=>e (vW H q).1.I
 top:=H.top
 tab P hP:=⟨(H.tab P hP).1,none_of λo q=>(vW H q).1.T hP,(H.tab P hP).2.2⟩
 len:=H.len
 nd:=H.nd
 rY i b e:=⟨(H.rY i b e).1,none_of λo q=>(vW H q).1.σ<|bG e,(H.rY i b e).2.2⟩
 gens:=H.gens
 os:=H.os
 pos:=H.pos
 T:=H.T
structure R_ (C:Ctx) (L:List bK) (W W':Wd):Prop where
 le:W.le W'
 off:∀a o,a∉L->Off C W a o->Off C W' a o
theorem q7.xy (T:(W.wm C L).le W')(U:qY C hp' W'):R_ C L W (W'.tL W.G.F)/\qY C hp' (W'.tL W.G.F)/\∀v o,Off C W' v o->Off C (W'.tL W.G.F) v o:=by
 have b:∀q p,W.G.F q=Y p->W'.G.F q=Y p:=λq p e=>Q T.G.F<|XE e
 refine ⟨⟨⟨⟨T.G.I,rfl,T.G.T⟩,T.σ⟩,λv o G z=>?_⟩,U.HO b,λv o z=>⟨z.at_,z.I,none_of λp n=>by have:=b v p n;rw[z.F] at this;exact Vm.nS this,z.σ,z.T⟩⟩;have i:W'.G.F v=Y o:=Q T.G.F<|Ji G z
 refine ⟨U.F v o i,none_of λp n=>?_,z.F,λH=>?_,z.T⟩
 .skip
  have:=U.IF v<|Q n λH=>Vm.sN H;rw[i] at this;exact Vm.sN this
 .obtain ⟨c,I,e⟩:=cK H;refine qN (U.rY c v<|J e<|aD I) λV d V=>?_
  rw[i] at d;exact Vm.sN d
theorem At.ex (G:At C B M env j W)(a:env.locals∈h):At C B M env j<|W.wm C h:=⟨G.ok,G.H.ex h,⟨G.L.ns,G.L.I,none_of λH e=>by have:=(vW G.H e).2 a;rw[G.L.F] at this;exact Vm.nS this,G.L.σ,G.L.T⟩⟩
theorem At.xy {h:kN}{i:List bK}{U:Wd}{I:St}(G:At C B M h I W) (T:(W.wm C i).le U) (y:At C B M h j U):R_ C i W (U.tL W.G.F)/\At C B M h j (U.tL W.G.F)/\∀v o,Off C U v o->Off C (U.tL W.G.F) v o:=
 have t:=q7.xy T y.H
 (rj t.1 (⟨y.ok,t.2.1,⟨y.L.ns,y.L.I,G.L.F,y.L.σ,y.L.T⟩⟩) t.2.2)
theorem zO {p:Type}{U:Around}{h:kN}{v:gH p}{R:Tm->Gm->List bK->p->Prop}{w:bK}{o:gA}(z:Off C W w o)
  (H:Tr C B M h U v k (λW' I=>R W'.G.T W'.G.I W'.σ I)<|W.hold w o) (x:p->ay->Prop) (s:aj->ay->Prop)
  (t:∀W' I,W.le W'->At C B M h k W'->R W'.G.T W'.G.I W'.σ I->Off C W' w o->x I W'.s):wpAny (model C.prog C.w) U v x s W.s:=by
 refine H x s λW' I T L G=>?_
 have e:W'.G.F=W.G.F.put w o:=T.G.F;have a:∀q I,W.G.F q=Y I->W'.G.F q=Y I:=λq I i=>by
  refine Q e ?_
  by_cases n:q=w
  .subst n;rw[z.F] at i;exact Vm.nS i
  .exact Q (Gm.sr n) i
 have A:W'.G.F w=Y o:=by refine Q e<|Q (Gm.rP ..) rfl
 have y:At C B M h k<|W'.tL W.G.F:=⟨L.ok,L.H.HO a,⟨L.L.ns,L.L.I,(by
   refine (?_:W.G.F h.locals=N)
   cases n:W.G.F h.locals with
   |none=>rfl|some I=>have:=a _ _ n;rw[L.L.F] at this;exact Vm.nS this),L.L.σ,L.L.T⟩⟩
 refine t (W'.tL W.G.F) I (⟨⟨T.G.I,rfl,T.G.T⟩,T.σ⟩) y G ⟨L.H.F _ _ A,?_,z.F,?_,z.T⟩
 .cases n:W'.G.I w with
  |none=>exact n|some I=>have:=L.H.IF w<|Q n λc=>Vm.sN c;rw[A] at this;exact Vm.sN this
 .intro c;obtain ⟨d,b,i⟩:=cK c;refine qN (L.H.rY d w<|J i<|aD b) λV n V=>?_
  rw[A] at n;exact Vm.sN n
def Dk (T:Ctx)(c:Nat)(I:K)(L:List Nat)(n:V)(h:List CmpOp)(o:List a7)(H:St)(U:Bool)(G:St):Prop:=
 ∀(a:Around)(i:kN)(W:Wd)(s:aj)(pos:dB),rl c a->At T I L i H W->qw T W n s->
  Tr T I L i a (compareChain pos s h<|evalEach o i) G (λJ b=>b=.bool U) W/\Tr T I L i a (testChain pos s h<|evalEach o i) G (λJ b=>b=U) W
theorem Dk.last {U:Bool}(h1:TE C d B M e j b f)(i:tX f.hp op a b=Y U):Dk C d B M a [op] [e] j U f:=
 λc o W s p L H q=>⟨λI u h=>by
  rw[evalEach,evalEach];exact chain_last<|h1 c o W L H _ _ λn v T y G=>vZ L y.H (q.mono T) G i _ _ λw t x z=>h w t (T.trans x.le) (y.rz x) z,λI u h=>by
  rw[evalEach,evalEach];exact test_last<|h1 c o W L H _ _ λn v T y G=>vZ L y.H (q.mono T) G i _ _ λw t x z=>Q z<|fx<|h w _ (T.trans x.le) (y.rz x) rfl⟩
theorem Dk.go {U:Bool}(h1:TE C d B M L j b f)(e:tX f.hp A a b=Y true)(o:Dk C d B M b (v::ops) (c::es) f U g):Dk C d B M a (A::v::ops) (L::c::es) j U g:=
 λi env W s q t G w=>⟨λQQq z H=>by
  rw[evalEach,evalEach];refine chain_link<|h1 i env W t G _ _ λn h T y sC=>vZ t y.H (w.mono T) sC e _ _ λI x p wd=>?_
  subst wd;refine fx ?_;have:=(o i env I h q t (y.rz p)<|sC.mono p.le).1 QQq z λur u uV Bh uG=>H ur u ((T.trans p.le).trans uV) Bh uG
  rw[evalEach] at this
  exact this,λQQq z H=>by
  rw[evalEach,evalEach];refine test_link<|h1 i env W t G _ _ λn h T y sC=>vZ t y.H (w.mono T) sC e _ _ λI x p wd=>?_
  subst wd;refine fx ?_;have:=(o i env I h q t (y.rz p)<|sC.mono p.le).2 QQq z λur u uV Bh uG=>H ur u ((T.trans p.le).trans uV) Bh uG
  rw[evalEach] at this
  exact this⟩
theorem Dk.stop (h1:TE C d B M L j b f)(e:tX f.hp A a b=Y false):Dk C d B M a (A::op'::ops) (L::e'::es) j false f:=
 λU i W s o c H p=>⟨λI t h=>by
  rw[evalEach,evalEach];refine chain_link<|h1 U i W c H _ _ λn u T y G=>vZ c y.H (p.mono T) G e _ _ λv q w x=>?_
  subst x;exact fx<|h v _ (T.trans w.le) (y.rz w) rfl,λI t h=>by
  rw[evalEach,evalEach];refine test_link<|h1 U i W c H _ _ λn u T y G=>vZ c y.H (p.mono T) G e _ _ λv q w x=>?_
  subst x;exact fx<|h v _ (T.trans w.le) (y.rz w) rfl⟩
theorem zh:∀{a:List CmpOp}{h:List a7},(a.zip h).any (λb=>kG b.1 b.2)=false->lQ a h=false
 |[],J=>@λJ=>rfl
 |[A],[L]=>@λe=>by simpa[lQ] using e
 |_::_,[]=>@λJ=>by simp[lQ]
 |[_],_::_::_=>@λJ=>rfl
 |_::_::_,[_]=>@λJ=>by simp[lQ]
 |_::v::a,_::L::h=>@λe=>by
  rw[cC,h_,nV] at e
  simpa[lQ] using (zh e.2)
theorem TE.cmp {L:a7}{h:List CmpOp}{e:dB}(i:(h.zip es).any (λc=>kG c.1 c.2)=false)(h1:TE C d B M L j a f)(o:Dk C d B M a h es f b g) :
  TE C d B M (.Compare L h es e) j (.bool b) g:=λU p W q H I t u=>Q (arm_eval_Compare ..)<|Q (pG _ _ _<|zh i)<|af<|h1 U p W q H _ _ λn c T y G=>(o U p n c e q y G).1 I t λv s w x z=>by subst z;exact u v _ (T.trans w) x<|.bool _
theorem TT.cmp {L:a7}{h:List CmpOp}{e:dB}(i:(h.zip es).any (λc=>kG c.1 c.2)=false)(h1:TE C d B M L j a f)(o:Dk C d B M a h es f b g) :
  TT C d B M (.Compare L h es e) j b g:=λU p W q H A s t=>(Q (pG _ _ _<|zh i)<|af<|h1 U p W q H _ _ λn c T y G=>(o U p n c e q y G).2 A s λu I v w x=>t u _ (T.trans v) w x:wpAny _ _ (do testChain e (← eval L p) h (markedEach h es<|evalEach es p)) _ _ _)
theorem FE (L)(s b):∃a,subscripted L false s b=operate a (getItem s b):=by
 cases L with
 |Slice y h e i=>cases e<;>exact ⟨_,rfl⟩
 |_=>exact ⟨_,rfl⟩
theorem IE {b:Wd->aj->Prop}{p:String}(G:W.s.TypeIs s T)(e:eX (.type T) "__getitem__"=pure (Y<|.builtin p))(h:q8 C U (getItem s n) b W):q8 C U (subscriptTail L c s n) b W:=λI o hQ=>by
 refine af<|Q (getitemInPython_of_ne G.not_modules)<|af<|iU G e ?_
 have d:wpAny (model C.prog C.w) U (subscripted c false s n) (λu v=>wpAny (model C.prog C.w) U (m9 L s u>>=λJ=>pure u) I o v) o W.s:=rN (FE c s n) λa i=>Q i<|wpAny_operating<|h (λu v=>wpAny (model C.prog C.w) U (m9 L s u>>=λJ=>pure u) I o v) o λq t w u=>af<|wpAny_letTemporaryGo<|wpAny_pure<|hQ q t w u
 first
  |exact wpAny_pure<|af d
  |exact af<|wpAny_pure<|af d
  |exact af d
noncomputable def N3:V->Bool
 |.lst _|.tup _|.str _|.ru _ _=>true|_=>false
theorem Gi (I:uE C W x v)(e:N3 v=true):∃h p,W.s.TypeIs x h/\eX (.type h) "__getitem__"=pure (Y<|.builtin p):=by
 cases v with
 |lst l=>obtain ⟨w,a,rfl,i,U⟩:=I;exact wy "list" _ i.is.typeIs F.slot_list_getitem.lookup
 |tup l=>obtain ⟨w,a,rfl,⟨c,i⟩,U⟩:=I;exact wy "tuple" _ (qr _ i rfl) F.slot_tuple_getitem.lookup
 |str l=>obtain ⟨y,rfl⟩:=I;exact wy "str" _ (typeIs_str _ _ _) F.slot_str_getitem.lookup
 |ru n a=>obtain ⟨w,o,rfl,⟨c,i⟩,U⟩:=I;exact wy "dict" _ (qr _ i rfl) F.slot_dict_getitem.lookup
 |_=>exact fT e
theorem PW (e:N2 o i=Y v):N3 o=true:=by
 cases o with
 |lst|tup|str|ru=>rfl|_=>exact nS e
theorem TE.sub {e:dB}(h1:TE C d B M o j a f)(x:TE C d B M i f b g)(q:si g.hp a b=Y v):TE C d B M (.Subscript o i e) j v g:=λU t W L G QQq u w=>Subscript_<|h1 U t W L G _ _ λn c uW y sC=>x U t n L y _ _ λz h A H I=>zA (Gi (tZ H.H<|sC.mono A)<|PW q) λT id t1 t2=>IE t1 t2 (Ew L H.H (sC.mono A) I q) _ _ λur s p uG=>w ur s ((uW.trans A).trans p.le) (H.rz p) uG
def Hg (T:Ctx)(c:Nat)(L:K)(G:List Nat)(y:Option a7)(I:St)(n:V)(H:St):Prop:=∀(U:Around)(h:kN)(W:Wd),rl c U->At T L G h I W->Tr T L G h U (evalPart y h) H (λa s=>qw T a n s) W
theorem Hg.none:Hg C d B M N j .none j:=λT i W L G U e h=>
 wpAny_pure<|h W _ (Wd.le.refl _) G .none
theorem Hg.some (e:TE C d B M L j v f):Hg C d B M (Y L) j v f:=λT h W U G I i n=>
 e T h W U G I i n
theorem P9 {y:Option Int}(e:S1 o y hi w=Y v):N3 w=true:=by
 cases w with
 |lst|str=>rfl|_=>exact nS e
theorem TE.C4 {lo:Option a7}{c:dB}(h1:TE C d B M o j a f)(h2:Hg C d B M lo f b g)(h3:Hg C d B M hi g A N4)(q:FF N4.hp a b A=Y v) :
  TE C d B M (.Subscript o (.Slice lo hi N e) c) j v N4:=λU t W L H QQq w h=>by
 refine Subscript_<|h1 U t W L H _ _ λn x uW I G=>wpAny_Slice<|h2 U t n L I _ _ λxm y l₂ sx wd=>h3 U t xm L sx _ _ λur z uV Bh uG=>Hg.none U t ur L Bh _ _ λxl u ze Gb S2=>?_
 subst S2;have pe:xp C xl ⟨xl.G,xl.σ,{ xl.s with heap:=xl.s.heap.push { cls:=.type "slice",data:=.fields #[y,z,.none] },toks:=xl.s.toks }⟩:=(Pext0.push _ _).strict<|ag _
 have YW:=(((G.mono l₂).mono uV).mono ze).mono pe.le;exact zA (Gi (tZ (Gb.rz pe).H YW)<|so q λJ J h=>so h λJ J h=>P9 h) λT p t1 i=>IE t1 i (N8 L (Gb.rz pe).H YW (((wd.mono uV).mono ze).mono pe.le) ((uG.mono ze).mono pe.le) q<|bb _ rfl) _ _ λVa A e s=>h Va A (((((uW.trans l₂).trans uV).trans ze).trans pe.le).trans e.le) ((Gb.rz pe).rz e) s
end
section
variable {j u g G:St}
def TF (T:Ctx)(c:Nat)(I:K)(y:List Nat)(L:a7)(A:St)(o:O)(z:St):Prop:=
 ∀(U:Around)(f:kN)(W:Wd),rl c U->At T I y f A W->
  Tr T I y f U (eval L f) z (λa s=>∃v H,s=.ref v/\v≠f.locals/\Off T a v H/\rB T.w.params a.G.T a.G.I a.σ H o) W
theorem At.freeze (H:At C B M env j W)(z:Off C W a o)(c:a≠env.locals):At C B M env j ⟨W.G.vr a o,W.σ,W.s⟩:=⟨H.ok,H.H.freeze z.at_ z.I z.F z.σ z.T,⟨qt H.L.ns λd b h=>qr d b λf b k e i=>qt (h f b k e i) λs n p=>qr s n<|qw.mono p ⟨Gh.wK z.I,rm.refl _⟩,(ax (Gm.sr<|fK c) H.L.I:(W.G.I.put a o) env.locals=N),H.L.F,H.L.σ,H.L.T⟩⟩
theorem At.AN (ha:At C B M env j W)(h:Off C W a ob)(hL:a≠env.locals)(r:rB C.w.params W.G.T W.G.I W.σ ob o):At C B M env ⟨j.loc,j.hp++[o]⟩ ⟨W.G,W.σ++[a],W.s⟩:=
 ⟨ha.ok.mono<|rm.push _ _,ha.H.AN h.at_ h.I h.F h.σ h.T<|r.mono (Tm.le.refl _) (Gm.le.refl _)<|rm.push _ _,⟨qt ha.L.ns λm x y=>qr m x λi x v e f=>qt (y i x v e f) λc p q=>qr c p<|qw.mono q ⟨Gh.le.refl _,rm.push _ _⟩,ha.L.I,ha.L.F,by
  intro q;rcases bQ.mp q with q|q
  .exact ha.L.σ q
  .exact hL (aN.mp q).symm,ha.L.T⟩⟩
theorem TF.frozen (H:TF C d B M e j o g)(p:(∃f,o=.list f)\/∃ks v,o=.dict ks v):TE C d B M e j (DQ o) g:=λU h t L a QQq i q=>by
 refine H U h t L a _ _ λn b T y w=>yw w λs x A c z I=>Q A ?_;clear A
 have l₂:n.le ⟨n.G.vr s x,n.σ,n.s⟩:=⟨Gh.wK z.I,rm.refl _⟩;refine q ⟨n.G.vr s x,n.σ,n.s⟩ _ (T.trans l₂) (y.freeze z c) ?_;rcases p with ⟨f,rfl⟩|⟨ks,v,rfl⟩
 .replace I:=I.inv;obtain ⟨_,_,rfl,I⟩:=I;exact .lst (Gm.rP _ _ _)<|qG.mono I l₂
 .replace I:=I.inv;obtain ⟨_,_,rfl,k,I⟩:=I;exact .ru (Gm.rP _ _ _) k<|rJ.mono l₂.G.T l₂.G.I l₂.σ I
theorem TF.tracked (H:TF C d B M e j o g):TE C d B M e j (.ref g.hp.length) ⟨g.loc,g.hp++[o]⟩:=λU f t L a A h i=>by
 refine H U f t L a _ _ λn b T y k=>yw k λs p q c z I=>Q q ?_;clear q
 exact i ⟨n.G,n.σ++[s],n.s⟩ _ (T.trans ⟨Gh.le.refl _,rm.push _ _⟩) (y.AN z c I)<|.ref<|by refine J y.H.len<|ax dN rfl
theorem At.lt (H:At C B M env j W):env.locals<W.s.heap.objs.size:=by
 refine qt H.L.ns λd k J=>?_;obtain ⟨I,a,h,e,_⟩:=k
 exact bR e
theorem Al {o:gA}(T:qY C hp W)(e:o.isFreed=false):Off C ⟨W.G,W.σ,{ W.s with heap:=W.s.heap.push o,toks:=t }⟩ W.s.heap.objs.size o:=⟨bb _ e,T.sF,T.wo,T.vq,T.freshT⟩
theorem TF.list {f:List a7}{e:dB}(h:f.all noStar=true)(h1:TL C d B M f j vs g)(w:f.length<=65536)(i:vs.length=f.length):TF C d B M (.List f e) j (.list vs) g:=
 λU k s L H A o p=>by
  refine wpAny_List<|Q (rO h)<|Q (sv ..)<|h1 U k s L H _ _ λn a T y I=>⟨?_,?_⟩
  .exact J I.length<|Q i<|aa w<|by decide
  .skip
   exact p ⟨n.G,n.σ,_⟩ _ (T.trans ((Pext0.push _ _).strict<|ag _).le) (y.rz<|(Pext0.push _ _).strict<|ag _)<|uv _ _ rfl (bw y.lt) (Al y.H rfl)<|.list<|qG.mono I ((Pext0.push _ _).strict<|ag _).le
theorem TF.aeH {e:dB}:TF C d B M (.Dict [] [] e) j (.dict [] []) j:=λT f s L H U i h=>wpAny_Dict_empty<|h ⟨s.G,s.σ,_⟩ _ ((Pext0.push _ _).strict<|ag _).le (H.rz<|(Pext0.push _ _).strict<|ag _)<|uv _ _ rfl (bw H.lt) (Al H.H rfl)<|.dict .nil .nil
theorem He:∀{a:List V},Ci a=true->rk a
 |[]=>@λJ=>.nil
 |k::a=>@λe=>by
  unfold Ci at e
  revert e;refine Q (aA ..) ?_;intro e;exact iQ.mpr ⟨λf b=>eq_of_beq<|dz.mp e.1 f b,He e.2⟩
def MJ (L:Tm)(s:Gm)(a:List bK)(T:cF)(xs:List ba)(k:List V)(v:List<|aj×aj):Prop:=∃U,qJ T L s a k U/\xs.length=U.length/\v.length=xs.length/\∀(H:iF)(n:d7),Carries (fh H n) v<|xs.zip U
noncomputable def zi (f:kN)(e:dB):List (ba×Nat×dB)->List a7->List (gH aj×gH aj)
 |(p,c,d)::k,L::v=>(eval (.Constant (.str p) c d) f,do let p←eval L f;eu e;pure p)::zi f e k v|J,W=>[]
theorem rp {o v:Type}{c:o->Option v}{H:o}{a:List o}{f:List v}(e:qP c (H::a)=Y f):∃b k,c H=Y b/\qP c a=Y k/\f=b::k:=by
 have d:∀(y:Option v)(h:Option<|List v),(match y with|Y b=>(match h with|Y f=>Y<|b::f|N=>N)|N=>N)=Y f->∃b k,y=Y b/\h=Y k/\f=b::k:=by
  intro y h e
  cases y with
  |none=>exact nS e|some b=>cases h with
   |none=>exact nS e|some k=>exact tb b k rfl rfl<|(ae e).symm
 exact d _ _ e
theorem XU (e:TV k=Y x):∃b:ba×Nat×dB,k=Y (.Constant (.str b.1) b.2.1 b.2.2)/\x=.k (.qu b.1):=so e λL i e=>so e λA n e=>qO e λp z H=>(Yg n).elim λc U=>U.elim λf U=>qr (p,c,f) (by refine Q i<|Q U<|Q (Xc z) rfl) H.symm
theorem EU:∀{a:List<|Option a7}{f:List X},qP TV a=Y f->∃o:List (ba×Nat×dB),a=o.map (λb=>Y<|.Constant (.str b.1) b.2.1 b.2.2)/\f=o.map (λb=>.k<|.qu b.1)
 |[],f,e=>by (refine Vm.sI e ?_;clear e;rintro rfl);exact qr ([]) rfl rfl
 |k::a,f,e=>by
  refine qZ (rp e) λh d i n z=>Q z ?_;clear z
  refine qt (EU n) λo H c=>Q H ?_;clear H;refine Q c ?_;clear c
  refine qt (XU i) λb p I=>Q p ?_;clear p;refine Q I ?_;clear I
  exact qr (b::o) rfl rfl
theorem Ap {e:dB}:∀{a:List<|ba×Nat×dB}{h:List a7},a.length=h.length->
  (evalEachOpt (a.map λb=>Y<|.Constant (.str b.1) b.2.1 b.2.2) f).zip ((evalEach h f).map λv=>do let s←v;eu e;pure s)=(zi f e a h).map λd=>(Y d.1,d.2)
 |[],[]=>@λJ=>rfl
 |(s,c,d)::a,L::h=>@λi=>qo (mH _)<|Ap<|cE i
 |[],_::_=>@λi=>by cases i
 |_::_,[]=>@λi=>by cases i
theorem w7 {pos:dB}:∀{a:List<|ba×Nat×dB}{f:List a7},a.length=f.length->(zi env pos a f).length=a.length
 |[],[]=>@λJ=>rfl
 |(p,c,d)::a,L::f=>@λe=>qo (·+1)<|w7<|cE e
 |[],_::_=>@λe=>by cases e
 |_::_,[]=>@λe=>by cases e
theorem It {e:dB}(L:rl d U):∀{o:List<|ba×Nat×dB}{q:List a7}{v:List V}{j u:St}{W:Wd},o.length=q.length->tx C d B M q j v u->At C B M f j W->
  Tr C B M f U (evalPairs<|zi f e o q) u (λa H=>MJ a.G.T a.G.I a.σ C.w.params (o.map (·.1)) v H) W
 |[],[],P,F,R,W,t,h,I=>Q h.BR.1<|J h.BR.2 λQQq A h=>evalPairs_nil<|h W _ (Wd.le.refl _) I<|HB ([]) .nil rfl rfl λP P=>trivial
 |(p,w,c)::o,b::q,_,j,_,W,t,h,I=>by
  refine Eh h.Mu λk v st1 i h1 s=>Q i λQQq A h=>evalPairs_cons<|TE.G8 U f W L I _ _ λq9 c₁ T y sC=>af<|h1 U f q9 L y _ _ λxm c₂ l₂ sx wd=>af<|wpAny_standAt<|wpAny_pure<|It L (cE t) s sx _ _ λur H uV Bh By=>HE By λaeJ q1 q2 z q4=>h ur _ ((T.trans l₂).trans uV) Bh<|HB (c₂::aeJ) (.cons (wd.mono uV) q1) (qo (·+1) q2) (qo (·+1) z) λprog n=>?_
  obtain ⟨x,rfl,_⟩:=sC.inv;exact ⟨beq_self_eq_true p,rfl,q4 prog n⟩
 |[],_::_,_,_,_,_,t,_,_=>by cases t
 |_::_,[],_,_,_,_,t,_,_=>by cases t
theorem TF.dict {ls:List<|ba×Nat×dB}{p:List a7}{e:dB}(v:ls.length=p.length)(c:ls≠[])(w:ls.length<=15)(A:tx C d B M p j vs g)(I:rk<|ls.map λl=>V.str l.1) :
  TF C d B M (.Dict (ls.map λl=>Y<|.Constant (.str l.1) l.2.1 l.2.2) p e) j (.dict (ls.map λl=>.str l.1) vs) g:=λU f W L ha QQq E h=>by
 have zP:zi f e ls p≠[]:=by
  intro i;have:=w7 (env:=f) (pos:=e) v;rw[i] at this
  exact c<|cP.mp this.symm
 have hns:(ls.map (·.1)).Nodup:=by
  have z:(ls.map λl=>V.str l.1)=(ls.map (·.1)).map V.str:=Q (bk ..) rfl;rw[z] at I
  exact rk.nodup (vy C.prog C.w) I
 refine wpAny_Dict_pairs (knd:=fh C.prog C.w) (Ap v) zP (Q (w7 v) w) ?_;have off:=Al (o:=⟨.type "dict",N,.dict #[] 0,#[]⟩) ha.H rfl (t:=W.s.toks);have G2:W.s.heap.objs.size≠f.locals:=bw ha.lt;refine zO (R:=λT s σ ps=>MJ T s σ C.w.params (ls.map (·.1)) vs ps) off (It L v A<|(ha.rz<|(Pext0.push _ _).strict<|ag _).hold off G2) _ _ λq9 ps uW ri YJ w0=>HE YJ λcv q1 H q3 q4=>ry _ (q4 _ _) (Ec _ (#[]) 0 w0.at_ (rj rfl rfl rfl) rfl (λz he=>by simp at he) .nil .nil) λh' hd hs=>?_
 rw[merged_nil_of_nodup _<|Q (d_<|aK H) hns] at hd
 refine qZ (zo (vy C.prog C.w) hd<|Q (hO<|aK H.symm) q1) λDc n k a e3=>?_
 rw[d_<|aK H] at a e3
 rw[(ax bk rfl:(ls.map (·.1)).map (vy C.prog C.w).inj=ls.map λl=>V.str l.1)] at a e3
 have JK:∀b o,b≠W.s.heap.objs.size->q9.s.heap.get? b=Y o->h'.get? b=Y o:=λb o q z=>(hs.2 b q).trans z
 have sx:At C B M f g ⟨q9.G,q9.σ,{ q9.s with heap:=h',toks:=q9.s.toks+ps.length }⟩:=⟨ri.ok,ri.H.keep _ JK w0.I w0.F w0.σ w0.T rfl rfl<|aM _ _,⟨by
  refine qt ri.L.ns λm x y=>?_
  obtain ⟨o,p,ep,q,rest⟩:=x;exact qr m (wR o p ep (JK _ _ G2.symm q) rest) y,ri.L.I,ri.L.F,ri.L.σ,ri.L.T⟩⟩
 exact h ⟨q9.G,q9.σ,_⟩ _ ⟨(((Pext0.push _ _).strict<|ag _).le.trans uW).G,(((Pext0.push _ _).strict<|ag _).le.trans uW).σ⟩ sx<|uv _ _ rfl G2 ⟨k,w0.I,w0.F,w0.σ,w0.T⟩<|.dict a e3
end
section
variable {i n g j:St}
theorem At.th (H:At C B M env i W)(G:TH C A t (λT s=>qw C T v s) hp' W):Tr C B M env A t ⟨i.loc,hp'⟩ (λT s=>qw C T v s) W:=λz d h=>G z d λT s L U I=>h T s L.le (H.kept L U) I
theorem yE (t:tx C d B M es i o n)(L:rl d a)(H:At C B M k i W) :
  Tr C B M k a (evalArgs f true (es.map λb=>(false,eval b k)) []) n (λc e=>e.kw=[]/\qG C c o e.pos) W:=λI p h=>by
 cases t with
 |nil=>exact evalArgs_nil3<|h W _ (Wd.le.refl _) H ⟨rfl,.nil⟩
 |cons e s=>
  exact nE<|(tx.cons e s).tl a k W L H (λo U=>I ⟨o,[]⟩ U) p λc u T y G=>h c _ T y ⟨rfl,G⟩
theorem vQ (a:List a7):((a.map λL=>(false,eval L env)).any (·.1))=false:=by
 induction a with
 |nil=>rfl|cons L a e=>exact Q (bC ..)<|ax h_<|ax e rfl
theorem Lo {b:aj->ay->Prop}{e:dB}(c:o≠.set){a:List<|Bool×gH aj}{I:aj->ay->Prop}(f:a.any (·.1)=false)(d:wpAny L T (evalArgs (wA o) true a []) (λU t=>wpAny L T (call (wA o) U.pos U.kw) I b t) b s):wpAny L T (j_ e (wA o) [] a []) I b s:=by
 cases o with
 |range|list=>exact iq f d|set=>exact absurd rfl c
 |_=>exact jz f d
theorem TE.bf {c:dB}{f:List a7}(h:b≠.set)(hf:TE C d B M (.Name x np) i (.con<|wA b) i)(e:f.all noStar=true)(t:tx C d B M f i vs g)(k:yg g.hp b vs=Y v) :
  TE C d B M (.Call (.Name x np) f [] c) i v g:=λo p u L H QQq q w=>hY<|hf o p u L H _ _ λA z T y G=>Q G<|Q (rO e)<|Q (sv ..)<|Lo h (vQ f)<|yE t L y _ _ λI s l₂ sx a=>rG a λhk U=>Q hk<|RV L sx h U k _ _ λur z l s uG=>w ur z ((T.trans l₂).trans l) s uG
theorem TE.ahO (hf:TE C d B M (.Name x np) i (.con<|.builtin "len") i)(hg:TE C d B M (.Name y nq) i (.con<|.type "set") i)(hn:noStar a=true)(t:TE C d B M a i o g)(I:yg g.hp .set [o]=Y b) :
  TE C d B M (.Call (.Name x np) [.Call (.Name y nq) [a] [] q] [] p) i b g:=λA f W hr ha QQq E h=>by
 refine hY<|hf A f W hr ha _ _ λq9 s T ri G=>?_
 subst G;refine Q (rO rfl)<|Q (sv ..)<|jz (vQ _)<|nE<|spliced_cons<|hY<|hg A f q9 hr ri _ _ λxm s l₂ sx wd=>?_
 subst wd;refine Q (rO<|show [a].all noStar=true from ax fq (Q hn rfl))<|Q (sv ..)<|iq (vQ [a])<|yE (tx.cons t .nil) hr sx _ _ λur ar uV u wU=>rG wU λz U=>Q z ?_
 generalize ar.pos=ps at *
 obtain ⟨_,_,rfl,ahr,rn⟩:=U.inv;refine Q rn.inv<|lS (I:lV (λl=>if l.length<64 then (intsOf l).map λns=>V.int<|Kl ns else N) (view g.hp<|rC o)=Y b) λl e H=>qX H λh64 H=>qO H λns c hv=>qZ (wC u.H ahr.rC e) λv vs rS L r=>Q rS ?_;clear rS
 refine wpAny_toks<|set_list hr.1 L.is (A4 r c) (J r.length h64) _ _ λxl s p4 k w=>spliced_nil<|wpAny_toks<|k _ _ λacC c' p5 rc tk5=>?_
 subst hv;exact h acC c' (((T.trans l₂).trans uV).trans<|(p4.strict w).le.trans (p5.strict tk5).le) ((u.rz<|p4.strict w).rz<|p5.strict tk5) rc
theorem Be (e:vd o=true):attributeBase o name f (eval o f)=eval o f:=by
 cases o with
 |Call b a h k=>cases b with
  |Name p c=>cases a with
   |nil=>cases h with
    |nil=>exact Vm.fT e|cons J W=>rfl
   |cons J W=>rfl
  |_=>rfl
 |_=>rfl
theorem TE.mt {apos c:dB}{f:List a7}{m:Mt}(q:name=w3 m)(w:vd o=true)(x:f.all noStar=true)(I:f.length<25)(z:(apos.endLine==c.line)=true)(ho:TE C d B M o i a g)(H:BU m (view g.hp a)=Y p)(t:tx C d B M f g vs j)(h2:za j.hp p a vs=Y (v,hp')) :
  TE C d B M (.Call (.Attribute o name apos) f [] c) i v ⟨j.loc,hp'⟩:=λA env W L ha QQq E h=>by
 have k:backTo c (starEach f env)=f.map λe=>(false,eval e env):=by refine Q (rO x)<|Q (sv ..) rfl
 refine wpAny_Call_method_late (Be w) ?_ z k<|ho A env W L ha _ _ λq9 b T y G=>?_
 .refine Q k ?_;have ek:keywordEach [] env=[]:=rfl;simp only[jF,ek,gS,jD,qj,qb,oZ,if_true,aA,decide_eq_true_eq,fM];exact ⟨dz.mpr λJ J=>rfl,lD _ I⟩
 .refine Q q ?_;obtain ⟨f1,f2,f3,f4,f5⟩:=Tx y.H G H;exact Hz (LV p) (mkId p) f1 f2 f3 f4 f5<|jz (vQ f)<|yE t L y _ _ λxm ar l₂ sx yr=>rG yr λQW U=>Q QW<|sx.th (QC L sx.H (G.mono l₂) U h2) QQq E λur s uV u uG=>h ur s ((T.trans l₂).trans uV) u uG
end
section
variable {u G H I:St}
def TSt (T:Ctx)(c:Nat)(z:K)(x:List Nat)(L:a7)(k:V)(y A:St):Prop:=∀(U:Around)(f:kN)(W:Wd)(s:aj),rl c U->At T z x f y W->qw T W k s->Tr T z x f U (assign L f s) A (λJ J=>True) W
theorem Gu (L:At C B M f u W)(n:B.slots[i]?=Y p)(o:B.scope.names.lookup p=Y .local)(T:i<u.loc.length)(r:qw C W k s) :
  Tr C B M f A (storeName f p s) { u with loc:=u.loc.set i<|Y k } (λJ J=>True) W:=λQQq d g=>by
 refine qt L.L.ns λt hn U=>wpAny_storeName_local (by delta fu;exact Q L.ok.scope o) hn (λx a y=>g ⟨W.G,W.σ,_⟩ _ ⟨Gh.le.refl _,rm.refl _⟩ ⟨L.ok,L.H.keep f.locals (λv b c e=>(y.2 v c).trans e) L.L.I L.L.F L.L.σ L.L.T rfl rfl<|cZ _,⟨qr _ a λh j w e z=>?_,L.L.I,L.L.F,L.L.σ,L.L.T⟩⟩ trivial)<|Q (Q L.ok.scope L.ok.fn:f.scope.kind=.function) rfl
 by_cases q:h=i
 .subst q;rw[n] at e;(refine Vm.sI e ?_;clear e;rintro rfl)
  replace z:(u.loc.set h<|Y k)[h]?=Y (Y w):=z;revert z;refine Q (bu T) ?_;intro z
  cases z
  exact qr s (qm rfl) r
 .replace z:(u.loc.set i<|Y k)[h]?=Y (Y w):=z;rw[aW<|fK q] at z
  refine qt (U h j w e z) λc' e1 e2=>?_
  have zP:j≠p:=λc=>q (by
   subst c;exact (oM ((aO.mp e).1) L.ok.nd).mp<|e.trans n.symm)
  exact qr c' (ax (qn zP) e1) e2
theorem SR (L:At C B M f u W)(e:B.slots[i]?=Y p)(j:B.scope.names.lookup p=Y .local)(T:i<u.loc.length)(n:qw C W k s) :
  Tr C B M f A (bindName f p s) { u with loc:=u.loc.set i<|Y k } (λJ J=>True) W:=λU d g=>wpAny_bindName<|Gu L e j T n U d g
theorem Ii {b:aj->ay->Prop}{U:ay}{f:kN}{T:Unit->ay->Prop}(e:f.scope.kind=.function)(i:f.kindOf p=Y .cell)(n:f.cells.lookup p=Y c)(z:U.heap.get? c=Y ⟨.type "cell",N,.cell akJ,#[]⟩)(h:∀j,j.get? c=Y ⟨.type "cell",N,.cell<|Y s,#[]⟩->fg c U.heap j->T () { U with heap:=j }):wpAny q_ A (storeName f p s) T b U:=by
 delta storeName;exact Q i<|Q e<|af<|wpAny_cellOf n<|af<|kQ z<|wpAny_update z<|h _ (d9 _ z rfl)<|cT ..
theorem SM {T:Around}{f:kN}{x:ba}{c h:Nat}{k:V}{y:Option V}{s:aj}(ha:At C B M f u W) (e:B.cells[c]?=Y x) (i:B.scope.names.lookup x=Y .cell) (n:M[c]?=Y h) (hv:u.hp[h]?=Y (.cell y)) (o:qw C W k s) :
  Tr C B M f T (storeName f x s) { u with hp:=u.hp.set h<|.cell<|Y k } (λJ J=>True) W:=λQQq d g=>by
 refine qZ (ha.ok.cell c x e<|.inl i) λi' v L j e3=>?_
 rw[n] at L;(refine Vm.sI L ?_;clear L;rintro rfl)
 refine qN (ha.H.rY _ _ j) λA aF U=>qZ U λa ob h1 h2 h3=>?_
 rw[hv] at h1;(refine Vm.sI h1 ?_;clear h1;rintro rfl)
 refine rN h3.Yl λakI ho=>?_
 subst ho;refine Ii (Q ha.ok.scope ha.ok.fn) (by delta fu;exact Q ha.ok.scope i) e3 h2 λh' hc hs=>?_
 have k':=λ(b:bK) (a:gA) (z:b≠v) (p:W.s.heap.get? b=Y a)=>(hs.2 b z).trans p
 exact g ⟨W.G,W.σ,_⟩ _ ⟨Gh.le.refl _,rm.refl _⟩ (ha.kept (⟨⟨Gh.le.refl _,rm.refl _⟩,λw a p q o t=>rj (k' w a (λz=>o<|Q z<|bG j) p) q o⟩)<|ha.H.upd j k' hc (.cell o) rfl rfl<|ag _) trivial
theorem Ae {b:aj->ay->Prop}{e:dB}{U:Unit->ay->Prop}(d:wpAny q_ A (bindName f p t) U b s):wpAny q_ A (assign (.Name p e) f t) U b s:=af<|wpAny_standAt d
inductive yo (B:K):a7->Tg->Prop
 |l {x:ba}{p:dB}{i:Nat}:B.scope.names.lookup x=some .local->B.slots[i]?=some x->yo B (.Name x p) (.l i)
 |cell {x:ba}{p:dB}{i:Nat}:B.scope.names.lookup x=some .cell->B.cells[i]?=some x->yo B (.Name x p) (.cell i)
theorem ye (e:uf B (n+1) (.Name x p)=Y t):yo B (.Name x p) t:=by
 have b:∀y,B.scope.names.lookup x=y->(match y with|Y .local=>(idx B.slots x).map .l|Y .cell=>(idx B.cells x).map .cell|_=>N)=Y t->yo B (.Name x p) t:=by
  intro y i e
  cases y with
  |none=>exact nS e|some y=>cases y with
   |«local»=>
    obtain ⟨v,o,rfl⟩:=ck.mp e;exact .l i<|wL o
   |cell=>
    obtain ⟨v,o,rfl⟩:=ck.mp e;exact .cell i<|wL o
   |_=>exact nS e
 exact b _ rfl e
theorem Xl (e:rA M (n+1) (.cell k) v u=Y G):∃t y,M[k]?=Y t/\u.hp[t]?=Y (.cell y)/\{ u with hp:=u.hp.set t<|.cell<|Y v }=G:=by
 have b:∀(w:St)(h:Option O),(match h with|Y<|.cell _=>Y w|_=>N)=Y G->∃y,h=Y (.cell y)/\w=G:=by
  intro w h e
  cases h with
  |none=>exact nS e|some L=>cases L with
   |cell y=>exact qr y rfl<|ae e
   |_=>exact nS e
 have d:∀f:Option Nat,(match f with|Y t=>(match u.hp[t]? with|Y<|.cell _=>Y { u with hp:=u.hp.set t<|.cell<|Y v }|_=>N)|N=>N)=Y G->∃t y,f=Y t/\u.hp[t]?=Y (.cell y)/\{ u with hp:=u.hp.set t<|.cell<|Y v }=G:=by
  intro f e
  cases f with
  |none=>exact nS e|some t=>
   exact qt (b _ _ e) λy i o=>tb t y rfl i o
 exact d _ e
theorem FG (e:rA M (n+1) (.l i) k u=Y G):i<u.loc.length/\{ u with loc:=u.loc.set i<|Y k }=G:=qX (e:(if i<u.loc.length then Y { u with loc:=u.loc.set i<|Y k } else N)=Y G) λL j=>⟨L,ae j⟩
theorem LI {f:List Tg}(e:rA M (n+1) (.tup f) v u=Y G):∃j,v=.tup j/\f.length=j.length/\(f.zip j).foldl (λy b=>y.bind λu=>rA M n b.1 b.2 u) (Y u)=Y G:=by
 cases v with
 |tup j=>exact qX (e:(if f.length=j.length then (f.zip j).foldl (λy b=>y.bind λu=>rA M n b.1 b.2 u) (Y u) else N)=Y G) λi o=>ry j rfl i o
 |_=>exact nS e
theorem Ca (k:∀{L:a7}{q:Tg},uf U c L=Y q->noStar L=true):∀{l:List a7}{f:List Tg},qP (uf U c) l=Y f->∀L∈l,noStar L=true
 |[],J,W,L,he=>by cases he
 |x::l,f,e,L,he=>by
  refine qZ (rp e) λT v i n J=>?_
  rcases aE.mp he with z|he
  .exact Q z<|k i
  .exact Ca k n L he
theorem Ir (w:yo B (.Name q p) t)(e:rA M (n+1) t v u=Y G)(L:At C B M f u W)(k:qw C W v s) :
  Tr C B M f A (storeName f q s) G (λV V=>True) W:=by
 cases w with
 |l i o=>exact J ((FG e).2)<|Gu L o i (FG e).1 k
 |cell i o=>exact (Xl e).elim λh U=>U.elim λy U=>J U.2.2<|SM L o i U.1 U.2.1 k
theorem Cw (w:yo B (.Name q p) t)(e:rA M (n+1) t v u=Y G)(L:At C B M f u W)(k:qw C W v s) :
  Tr C B M f A (bindName f q s) G (λJ J=>True) W:=λU d g=>wpAny_bindName<|Ir w e L k U d g
theorem xh:∀{l:List a7},(∀e∈l,noStar e=true)->pU l env=l.map λa=>(false,assign a env)
 |[]=>@λW=>rfl
 |e::l=>@λn=>by
  have f:=n e<|.head _
  refine Q (bC ..)<|J (xh λe f=>n e<|.tail _ f) ?_
  cases e<;>first|rfl|exact Vm.fT f
theorem assignInOrder_cons {b:aj->ay->Prop}{d:aj->gH Unit}{a:List<|aj->gH Unit}{L:Unit->ay->Prop}(e:wpAny U T (d x) (λJ t=>wpAny U T (assignInOrder a f) L b t) b s):wpAny U T (assignInOrder (d::a)<|x::f) L b s:=af<|cU<|wpAny_mono e (λJ J x=>x) λJ J x=>x
theorem E9 {o v:Type}{b:v->o->Option v}:∀(l:List o),l.foldl (λy x=>y.bind λp=>b p x) N=N
 |[]=>rfl|x::l=>ax dw<|E9 l
theorem E8 {o v:Type}{b:v->o->Option v}{L:o}{a:List o}{p c:v}(e:(L::a).foldl (λc L=>c.bind λf=>b f L) (Y p)=Y c):∃q,b p L=Y q/\a.foldl (λc L=>c.bind λf=>b f L) (Y q)=Y c:=by
 have d:∀y:Option v,a.foldl (λc L=>c.bind λf=>b f L) y=Y c->∃q,y=Y q/\a.foldl (λc L=>c.bind λf=>b f L) (Y q)=Y c:=by
  intro y e
  cases y with
  |none=>exact nS<|(E9 a).symm.trans e
  |some q=>exact qr q rfl e
 exact d _ e
theorem De (f:uf B c e=Y t):noStar e=true:=by
 cases c with
 |zero=>exact nS f|succ c=>exact oE f (λp i J=>(y0 i).elim λg n=>Q n rfl) λJ f=>oE f (λp i J=>(Cu i).elim λh n=>n.elim λg n=>Q n rfl) λJ f=>nS f
theorem Ep {b:a7->V->St->Option St}(L:rl d a):∀{l:List a7}{j:List V}{v:List aj}{u G:St}{W:Wd},
  (∀e∈l,∀k u G,b e k u=Y G->TSt C d B M e k u G)->(l.zip j).foldl (λy c=>y.bind λu=>b c.1 c.2 u) (Y u)=Y G->l.length=j.length->qG C W j v->At C B M f u W->
  Tr C B M f a (assignInOrder (l.map λg=>assign g f) v) G (λP P=>True) W
 |[],[],P,F,R,W,E,h,D,U,o=>Q U.inv<|J (ae h) λQQq T hq=>wpAny_pure<|hq W _ (Wd.le.refl _) o trivial
 |e::l,k::j,_,u,G,W,hf,h,i,U,o=>by obtain ⟨s,v,n,y,U⟩:=U.inv;exact qt (E8 h) λp z h=>Q n λQQq T hq=>assignInOrder_cons<|hf e (.head _) k u p z a f W _ L o y _ _ λq P t A P=>Ep L (λe w=>hf e<|.tail _ w) h (cE i) (qG.mono U t) A QQq T λx c l₂ sx n=>hq x c (t.trans l₂) sx n
 |[],_::_,_,_,_,_,_,_,i,_,_=>by cases i
 |_::_,[],_,_,_,_,_,_,i,_,_=>by cases i
theorem CZ {b:Tg->V->St->Option St}{d:a7->Option Tg}:∀{l:List a7}{f:List Tg}{j:List V}{y:Option St},qP d l=Y f->(f.zip j).foldl (λy c=>y.bind λu=>b c.1 c.2 u) y=(l.zip j).foldl (λy c=>y.bind λu=>(d c.1).bind λq=>b q c.2 u) y
 |[],f,j,y,g=>by (refine Vm.sI g ?_;clear g;rintro rfl);rfl
 |e::l,f,[],y,g=>qZ (rp g) λL T i n z=>Q z rfl
 |e::l,f,k::j,y,g=>by
  refine qZ (rp g) λL T i n U=>Q U ?_;clear U
  refine Q cC ?_;rewrite [cC,dw,dw];exact ax (CZ n)<|Q i rfl
theorem z_ {o v:Type}{b:o->Option v}:∀{l:List o}{r:List v},qP b l=Y r->r.length=l.length
 |[],r,e=>by (refine Vm.sI e ?_;clear e;rintro rfl);rfl
 |a::l,r,e=>by refine qZ (rp e) λc w J i n=>Q n ?_;clear n;refine ax aV<|Q (aV ..)<|Q (z_ i) rfl
theorem xZ:∀(n m:Nat)(L:a7)(tg:Tg)(k:V)(u G:St),uf B n L=Y tg->rA M m tg k u=Y G->TSt C d B M L k u G
 |0,P=>@λP P P P P z P=>Vm.nS z
 |n+1,0=>@λP P P P P P z=>Vm.nS z
 |n+1,m+1=>@λL tg k u G hc c=>by
  intro A f W s hr ha r QQq E hq;refine oE hc (λh h1 P=>(y0 h1).elim λb q=>?_) λP z=>oE z (λj g h2=>(Cu g).elim λT q=>q.elim λb q=>qO h2 λw h1 e=>?_) λP z=>nS z
  .subst q;exact Ae<|Cw (ye hc) c ha r QQq E hq
  .subst q e;obtain ⟨vs,rfl,hl,c⟩:=LI c;refine qZ (LJ ha.H r) λa p By x U=>Q By ?_;clear By
   have i:=z_ h1;have eA:=xh (env:=f)<|Ca De h1
   have t:=U.length;refine wpAny_assign_Tuple hr.1 x.is (by refine Q eA ?_;simp;lia) (by refine Q eA ?_;simp[List.findIdx?_map,List.findIdx?_eq_none_iff]) λh' he=>?_
   refine Q eA<|Q (bk ..) ?_
   have pe:xp C W ⟨W.G,W.σ,{ W.s with heap:=h' }⟩:=(Pext0.ext (s':={ W.s with heap:=h' }) (λv o e=>he v o (cy<|bR e) e) rfl rfl).strict<|ag _
   rw[CZ h1] at c
   exact Ep hr (λe he k u G z=>qt (gz.mp z) λL q1 q2=>xZ n m e L k u G q1 q2) c (J i hl) (qG.mono U pe.le) (ha.rz pe) QQq E λxm h l₂ y q=>hq xm h (pe.le.trans l₂) y q
end
section
variable {j G g w:St}
def K1 (U:Ctx)(s:Fl)(t:Wd)(T:k_):Prop:=match s with
 |.next=>T=.next|.ret k=>∃u,T=.ret u/\qw U t k u
def TS (T:Ctx)(c:Nat)(I:K)(A:List Nat)(d:gv)(H:St)(s:Fl)(L:St):Prop:=∀(U:Around)(f:kN)(W:Wd),rl c U->At T I A f H W->Tr T I A f U (exec d f) L (K1 T s) W
def yi (T:Ctx)(c:Nat)(I:K)(A:List Nat)(f:List gv)(H:St)(s:Fl)(L:St):Prop:=∀(U:Around)(h:kN)(W:Wd),rl c U->At T I A h H W->Tr T I A h U (execs f h) L (K1 T s) W
theorem yi.nil:yi C d B M [] j .next j:=λT f s L H U e h=>jY<|h s _ (Wd.le.refl _) H rfl
theorem yi.cons {f:List gv}{s:Fl}(h1:TS C d B M c j .next g)(h2:yi C d B M f g s w):yi C d B M (c::f) j s w:=λU h t L H A e i=>wpAny_execs_cons<|h1 U h t L H _ _ λn o T y I=>Q I<|h2 U h n L y A e λa o k p u=>i a o (T.trans k) p u
theorem yi.ret {f:List gv}(h1:TS C d B M c j (.ret v) g):yi C d B M (c::f) j (.ret v) g:=λU h t L H A e i=>by
 refine wpAny_execs_cons<|h1 U h t L H _ _ λn o T y I=>?_
 have s:=I;obtain ⟨u,rfl,k⟩:=I;exact i n _ T y s
theorem TS.ret {e:dB}(h1:TE C d B M L j v g):TS C d B M (.Return (Y L) e) j (.ret v) g:=λU f t a H A h i=>
 wpAny_Return_some<|h1 U f t a H _ _ λn s T y I=>i n _ T y<|qr s rfl I
theorem TS.ahp {e:dB}:TS C d B M (.Return N e) j (.ret .none) j:=λT f s L H U i h=>
 wpAny_Return_none<|h s _ (Wd.le.refl _) H<|qr _ rfl .none
theorem TS.rf {e:dB}{s:Fl}(h1:TT C d B M c j U g)(n:yi C d B M (if U then f else k) g s w):TS C d B M (.If c f k e) j s w:=λa h t L H A i o=>by
 refine wpAny_If<|h1 a h t L H _ _ λp I T y b=>?_
 subst b
 cases I<;>exact n a h p L y A i λq u v x z=>o q u (T.trans v) x z
theorem TS.expr {c:dB}(i:TE C d B M (.Call f as kws p) j .none g):TS C d B M (.Expr (.Call f as kws p) c) j .next g:=λU k s L H A o h=>by
 have e:interactive k=false:=by delta interactive;exact Q H.ok.scope<|Q H.ok.fn rfl
 exact wpAny_Expr (i U k s L H _ _ λn a T y I=>Q I<|h n _ T y rfl) e rfl
theorem TS.yP {e:dB}{s:Fl}(h1:yi C d B M body j s g):TS C d B M (.Try body (H::hs) [] [] e) j s g:=λU f t L I A i h=>by
 refine wpAny_Try_except<|h1 U f t L I _ _ λn o T y a=>?_
 cases s with
 |next=>subst a;exact jY<|h n _ T y rfl
 |ret k=>
  have u:=a;obtain ⟨b,rfl,p⟩:=a;exact h n _ T y u
theorem Bn (f:yJ e=true):ix e t n env=pure false:=by cases e<;>first|rfl|cases f
theorem Es {o v:Prop} [Decidable o] [Decidable v] {y:Option<|Option<|List ba}{x:gH<|Option<|List ba}{h:Option<|List ba}(f:(if o then Y N else y)=Y h) (e:v↔o) (k:y=Y h->x=pure h):(if v then pure N else x)=pure h:=by
 by_cases H:o
 .exact (qm<|e.mpr H).trans<|qo pure<|ae<|(qm H).symm.trans f
 .exact (qn λp=>H<|e.mp p).trans<|k<|(qn H).symm.trans f
theorem SA {o:Prop} [Decidable o] {y h:Option<|List ba}{v:gH<|Option<|List ba}(e:(if o then N else Y y)=Y h):(if o then v else pure y)=pure h:=by
 by_cases H:o
 .exact nS<|(qm H).symm.trans e
 .exact (qn H).trans<|qo pure<|ae<|(qn H).symm.trans e
theorem PS {y:Option<|List ba}(a:vh B M σ env)(e:PT B ts vs=Y y):fD [.Tuple ts k p] (.Tuple vs k' p') env=pure y:=by
 have i:(env.blockKind != .function)=false:=by delta ql;exact Q a.scope<|Q a.fn rfl
 delta fD;exact Q (funext λn=>by delta fu;refine Q a.scope rfl:env.kindOf=λn=>B.scope.names.lookup n)<|Es e (by refine Q i ?_;rw[qa]) λe=>Es e Iff.rfl λe=>Es e Iff.rfl λe=>Es e Iff.rfl λe=>SA e
theorem Qa {a:List<|Nat×V}{b:Nat×V}{f:List<|Option V}(h:∀c∈a,c.1≠b.1):a.foldl (λf c=>f.set c.1<|Y c.2) (f.set b.1<|Y b.2)=(a.foldl (λf c=>f.set c.1<|Y c.2) f).set b.1 (Y b.2):=by
 induction a generalizing f with
 |nil=>rfl|cons c a d=>
  refine Q (dw ..)<|Q (dw ..)<|Q (List.set_comm _ _<|fK<|h c<|.head _)<|Q (d λH e=>h H<|.tail _ e) rfl
theorem IQ:∀{l:List<|Nat×V}{f:List<|Option V},(l.map (·.1)).Nodup->l.reverse.foldl (λf b=>f.set b.1<|Y b.2) f=l.foldl (λf b=>f.set b.1<|Y b.2) f
 |[],W,P=>rfl|x::l,f,y=>by obtain ⟨H,T⟩:=bI.mp y;refine Q (dR ..)<|Q (List.foldl_append ..)<|Q (IQ T)<|Q (dw ..)<|Q (List.foldl_nil ..)<|Q (dw ..)<|Q (Qa λb a e=>H<|by show x.1∈_;exact J e<|bZ.mpr<|qr b a rfl) rfl
theorem Iu (L:rl d A):∀{l:List<|ba×Nat}{o:List V}{u:List aj}{j:St}{W:Wd},(∀x∈l,B.slots[x.2]?=Y x.1/\B.scope.names.lookup x.1=Y .local/\x.2<j.loc.length)->l.length=o.length->qG C W o u->At C B M env j W->
  Tr C B M env A (assignInOrder (l.map λx=>bindName env x.1) u) { j with loc:=((l.map (·.2)).zip o).foldl (λh b=>h.set b.1<|Y b.2) j.loc } (λJ J=>True) W
 |[],[],J,P,W,F,e,U,H=>Q U.inv λQQq p hq=>wpAny_pure<|hq W _ (Wd.le.refl _) H trivial
 |x::l,k::o,_,j,W,q,e,U,H=>by obtain ⟨s,u,i,I,U⟩:=U.inv;exact qN (q x<|.head _) λn z c=>Q i λQQq p hq=>assignInOrder_cons<|SR H n z c I _ _ λt J T y J=>Iu L (λb v=>⟨(q b<|.tail _ v).1,(q b<|.tail _ v).2.1,cO.symm▸(q b<|.tail _ v).2.2⟩) (cE e) (qG.mono U T) y QQq p λxm a f sx i=>hq xm a (T.trans f) sx i
 |[],_::_,_,_,_,_,e,_,_=>by cases e
 |_::_,[],_,_,_,_,e,_,_=>by cases e
theorem Bm:∀{a:List ba}{f:List Tg},yF B a f=true->∃k:List (ba×Nat),a=k.map (·.1)/\f=k.map (λx=>.l x.2)/\∀x∈k,B.slots[x.2]?=Y x.1/\B.scope.names.lookup x.1=Y .local
 |[],[]=>@λJ=>ry ([]) rfl rfl λJ b=>by cases b
 |x::a,.l c::f=>@λb=>by
  have b:(B.slots[c]?==Y x&&B.scope.names.lookup x==Y .local&&yF B a f)=true:=b;rw[aA,aA,beq_iff_eq,beq_iff_eq] at b
  exact rU (Bm b.2) λk e i h3=>ry ((x,c)::k) (qo _ e) (qo _ i) λd H=>(aE.mp H).elim (λn=>n▸b.1)<|h3 d
 |[],_::_=>@λb=>Vm.fT b
 |_::_,[]=>@λb=>Vm.fT b
 |_::_,.cell _::_=>@λb=>Vm.fT b
 |_::_,.tup _::_=>@λb=>Vm.fT b
theorem Ex {c:Nat}:∀{l:List<|ba×Nat}{o:List V}{j G:St},((l.map λx=>Tg.l x.2).zip o).foldl (λy x=>y.bind λj=>rA M (c+1) x.1 x.2 j) (Y j)=Y G->l.length=o.length->
  (∀x∈l,x.2<j.loc.length)/\G={ j with loc:=((l.map (·.2)).zip o).foldl (λu a=>u.set a.1<|Y a.2) j.loc }
 |[],J,j,G,e,W=>by (refine Vm.sI e ?_;clear e;rintro rfl);exact ⟨(λJ e=>by cases e),rfl⟩
 |x::l,[],_,_,_,e=>by cases e
 |x::l,k::o,j,G,e,i=>by
  refine qt (E8 e) λp n e=>?_
  obtain ⟨I,n⟩:=FG n;rw[<- n] at e
  obtain ⟨L,z⟩:=Ex e (cE i);exact ⟨λa b=>(aE.mp b).elim (λH=>Q H I) λb=>eP (L a b) cO,z⟩
theorem Lr {o v:Type}:∀{a:List o}{f:List v},a.length=f.length->a.reverse.zip f.reverse=(a.zip f).reverse
 |[],[]=>@λJ=>rfl
 |x::a,p::f=>@λe=>by
  refine Q (dR ..)<|Q (dR ..)<|ax (List.zip_append<|by simpa using (by simpa using e))<|Q (Lr<|by simpa using e) ?_
  show _=((x,p)::a.zip f).reverse;exact Q (dR ..) rfl
 |[],_::_=>@λe=>by cases e
 |_::_,[]=>@λe=>by cases e
theorem TS.YA {pos:dB}{T:Nat}(h:TE C d B M (.Tuple es k' vp) j (.tup vs) g)(e:PT B ts es=Y (Y u))(i:yF B u tgs=true)(hnd:u.Nodup)(hs:rA M (T+2) (.tup tgs) (.tup vs) g=Y w):TS C d B M (.Assign [.Tuple ts k tp] (.Tuple es k' vp) pos) j .next w:=λa f s hr I QQq t y=>by
 refine rU (LI hs) λW z H hs=>?_
 cases z
 refine rU (Bm i) λl yr yq hl=>?_;subst yr;subst yq
 revert H;refine Q (ao ..) ?_;intro H;obtain ⟨hb,rfl⟩:=Ex hs H;refine Assign_Tuple_swapped (h a f s hr I _ _ λq9 c uW ri sC=>qZ (LJ ri.H sC) λA q rS L U=>Q rS ?_) rfl<|PS I.ok e;clear rS
 refine Q (by simp;exact H.trans U.length:(l.map (·.1)).length=q.toArray.size)<|wpAny_unpackItems_tuple hr.1 L.is λh' he=>?_
 have pe:xp C q9 ⟨q9.G,q9.σ,{ q9.s with heap:=h' }⟩:=(Pext0.ext (s':={ q9.s with heap:=h' }) (λv o z=>he v o (cy<|bR z) z) rfl rfl).strict<|ag _
 refine Q (J (jq ..)<|ax bk rfl:(l.map (·.1)).reverse.map (λn=>bindName f n)=l.reverse.map λx=>bindName f x.1) ?_;have OM:=Iu hr (l:=l.reverse) (λx hx=>by have hx:=dy.mp hx;exact ⟨(hl x hx).1,(hl x hx).2,hb x hx⟩) (by simpa using H) (qG.mono (qJ.reverse U) pe.le)<|ri.rz pe
 have e3:((l.reverse.map (·.2)).zip vs.reverse)=((l.map (·.2)).zip vs).reverse:=by refine Q (jq ..)<|Q (Lr<|by simpa using H) rfl
 have ah1:(((l.map (·.2)).zip vs).map (·.1)).Nodup:=by
  refine Q (d_<|by simp;exact aK H)<|fa.mpr<|List.Pairwise.imp_of_mem (λ{x b} hx hy zP hxy=>zP ?_)<|fa.mp hnd
  have p:=(hl x hx).1;rw[hxy,(hl b hy).1] at p
  exact (ae p).symm
 rw[e3,IQ ah1] at OM
 exact OM _ _ λxm W l₂ sx W=>y xm _ ((uW.trans pe.le).trans l₂) sx rfl
end
section
variable {L rH g f G U:St}
theorem Fv (T:rl d A)(k:qw C W a s)(t:qw C W b j)(e:xO c a b=Y v):q8 C A (inplaceOp c s j) (λo h=>qw C o v h) W:=by
 refine q8.mk λI p u=>?_
 cases a with
 |int q=>cases b with
  |int w=>
   obtain ⟨_,rfl⟩:=k.inv;obtain ⟨_,rfl⟩:=t.inv
   cases c with
   |Add=>exact PyProof.Rows.iadd_int (q8.int e u)|Sub=>exact PyProof.Rows.isub_int (q8.int e u)
   |Mult=>exact qX e λi e=>PyProof.Rows.imul_int (q8.int e u) (oG (ag _) (ag _) (aa (of_decide_eq_true i) (by decide)))
   |FloorDiv=>exact rX e λi e=>ifloordiv_int (λn=>i (.inl n)) (q8.int e u) (.inl (eq_false_of_ne_true λn=>i (.inr n)))
   |LShift=>exact qX e λi e=>ilshift_int i.1 (aB i.2 (by decide)) (q8.int e u)
   |RShift=>exact qX e λi e=>irshift_int i (q8.int e u)
   |_=>exact nS e
  |_=>exact nS e
 |_=>exact nS e
theorem X4 (e:yz M (.cell k) L=Y n):∃h,M[k]?=Y h/\L.hp[h]?=Y (.cell<|Y n):=by
 have aux2:∀y:Option O,(match y with|Y<|.cell n=>n|_=>N)=Y n->y=Y (.cell<|Y n):=by
  intro y e
  cases y with
  |none=>exact nS e|some I=>cases I with
   |cell i=>exact qo (λi=>Y<|O.cell i) (e:i=Y n)|_=>exact nS e
 have d:∀j:Option Nat,(match j with|Y h=>(match L.hp[h]? with|Y<|.cell n=>n|_=>N)|N=>N)=Y n->∃h,j=Y h/\L.hp[h]?=Y (.cell<|Y n):=by
  intro j e
  cases j with
  |none=>exact nS e|some h=>exact qr h rfl<|aux2 _ e
 exact d _ e
theorem W7 (w:yo B (.Name q p) t)(e:yz M t L=Y k)(T:At C B M j L W):Tr C B M j A (loadName j q) L (λa s=>qw C a k s) W:=λQQq d hq=>by
 cases w with
 |@l _ _ c i n=>
  refine qt T.L.ns λo u v=>qt (gz.mp (e:(L.loc[c]?).bind id=Y k)) λy H x=>?_
  replace x:y=Y k:=x;subst x;exact qt (v c q k n H) λs z r=>o_ (Q T.ok.scope T.ok.fn) (by delta fu;exact Q T.ok.scope i) u z<|hq W s (Wd.le.refl _) T r
 |@cell _ _ h i n=>
  refine qt (X4 e) λc hi hv=>qZ (T.ok.cell h q n<|.inl i) λi' b H x e3=>?_
  rw[hi] at H;(refine Vm.sI H ?_;clear H;rintro rfl)
  refine qN (T.H.rY _ _ x) λJ J rS=>qZ rS λI ob q1 q2 q3=>?_
  rw[hv] at q1;(refine Vm.sI q1 ?_;clear q1;rintro rfl)
  obtain ⟨_,rfl,r⟩:=q3.inv;exact pE (Q T.ok.scope T.ok.fn) (by delta fu;exact Q T.ok.scope i) e3 (qr _ q2 rfl)<|hq W _ (Wd.le.refl _) T r
theorem NW {b:aj->ay->Prop}{c:dB}{I:k_->ay->Prop}(d:wpAny q_ A (loadName i p) (λt u=>wpAny q_ A (eval e i) (λj k=>wpAny q_ A (inplaceOp T t j)
   (λh H=>wpAny q_ A (bindName i p h) (λJ=>I .next) b H) b k) b u) b s) :
  wpAny q_ A (exec (.AugAssign (.Name p pos') T e c) i) I b s:=af<|wpAny_standAt<|af<|wpAny_mono d (λt u n=>af<|cU<|wpAny_mono n (λj k o=>af<|wpAny_standAt<|af<|wpAny_operating<|wpAny_mono o (λh H a=>af<|wpAny_standAt<|af<|wpAny_mono a (λJ J p=>wpAny_pure p) λJ J p=>p) λJ J p=>p) λJ J p=>p) λJ J p=>p
theorem TS.aug {c:dB}(w:yo B (.Name x np) t)(j:yz M t L=Y a)(k:TE C d B M e L b g)(i:xO op a b=Y v)(o:rA M (n+1) t v g=Y f) :
  TS C d B M (.AugAssign (.Name x np) op e c) L .next f:=λA q s z H QQq E I=>NW<|W7 w j H _ _ λq9 h T y sC=>k A q q9 z y _ _ λxm c₂ l₂ sx wd=>Fv z (sC.mono l₂) wd i _ _ λur abH p uG=>Cw w o (sx.rz p) uG _ _ λxl J ze u J=>I xl _ (((T.trans l₂).trans p.le).trans ze) u rfl
theorem Qp (e:place k c=Y j):jK k c=Y j/\j<c/\-(c:Int)<=k/\k<c:=by
 delta place at e
 delta jK
 by_cases H:k<0
 .simp only[H,if_true] at e ⊢
  exact qX e λt e=>J (ae e) ⟨by refine Q (qm<|by simp only[aA,decide_eq_true_eq];exact t) rfl,Ea t,by omega,Nx t⟩
 .simp only[H,if_false] at e ⊢
  exact qX e λt e=>J (ae e) ⟨by refine Q (qm<|by simp only[aA,decide_eq_true_eq];exact t) rfl,Eb t,by omega,MW t⟩
theorem NV {b:aj->ay->Prop}{a:ay}{x:bK}{z:Unit->ay->Prop}(e:a.heap.get? x=Y ⟨.type "list",N,.seq items n,#[]⟩)(i:place k items.size=Y j)(w:items.size<=65536)(T:z () { a with heap:=a.heap.update x<|iX (·.setIfInBounds j v) }) :
  wpAny (model I o) A (setItem (.ref x) (.int k t) v) z b a:=by
 have c:a.heap.IsList x items:=⟨_,e,rfl,n,rfl⟩;delta setItem
 try with_reducible refine cU ?_
 first|refine af<|wpAny_pure ?_|skip
 refine af<|wpAny_sequenceKey c.typeIs rfl ?_
 refine af (g8 (name:=az "__setitem__") c.typeIs qe
  <| iw qe c.typeIs entry_list_setitem ?_<|args_list_setitem _ _ _)
 refine (uQ (Qp i) λu d p h=>af<|wpAny_listSubscript_int (by delta hV;simp only[aA,decide_eq_true_eq];exact acO w p h) ?_:wpAny _ _ (fH.List.listSubscript? (.int k t)>>=_) _ _ a);clear i w p h
 cases k with
 |ofNat m=>
  obtain rfl:m=j:=ae ((show jK (m4 m) items.size=Y m from by
   delta jK;exact qX u λH J=>Q (qm H) rfl).symm.trans u)
  refine af<|af<|wpAny_seqItemAt e rfl<|wpAny_pure<|Q (eW d) ?_
  refine af<|pT e rfl ?_
  first
   |exact af<|wpAny_pure<|wpAny_pure<|rj .none rfl<|wpAny_pure T
   |exact wpAny_pure<|qr .none rfl<|wpAny_pure T
 |negSucc m=>
  refine af<|af<|af<|m6 e rfl<|wpAny_pure<|wpAny_pure<|Q u ?_
  simp only[d8,(eW d),oJ];refine af<|pT e rfl ?_
  first
   |exact af<|wpAny_pure<|wpAny_pure<|rj .none rfl<|wpAny_pure T
   |exact wpAny_pure<|qr .none rfl<|wpAny_pure T
theorem qJ.set {a:cF}(H:Rep a T I σ v c){h:List V}(b:qJ a T I σ h vs):qJ a T I σ (h.set d v)<|vs.set d c:=by
 induction h generalizing vs d with
 |nil=>exact b.vt .nil|cons e h ih=>
  refine b.sk λJ J i b=>?_
  cases d with
  |zero=>exact .cons H b|succ d=>exact .cons i<|ih b
theorem adn (H:qY C hp W){l:List V}(e:W.σ[j]?=Y a)(e1:hp[j]?=Y (.list l))(k:qw C W i y)(s:qw C W v z)(n:putL hp j l v i=Y hp'):TH C A (setItem (.ref a) y z) (λP P=>True) hp' W:=by
 cases i with
 |int q=>
  obtain ⟨_,rfl⟩:=k.inv;refine qZ (AM H e e1) λI h x r hl=>qX n λT n=>qO n λt c n=>λQQq d u=>?_
  have w:l.length<=65536:=of_decide_eq_true T;have k':=λ(b:bK) (o:gA) (q':b≠a) (p:W.s.heap.get? b=Y o)=>((cT W.s.heap a<|iX (·.setIfInBounds t z)).2 b q').trans p
  refine NV x.at_ (Q (bj ..)<|J hl c) (Q (bj ..)<|hl▸w) ?_;refine u ⟨W.G,W.σ,_⟩ _ (x.kept _ k') (J n<|H.upd e k' (my x.at_ (·.setIfInBounds t z)) ?_ rfl rfl<|ag _) trivial
  simpa using (rB.list<|qJ.set s r)
 |_=>exact nS n
theorem VE (T:qY C hp W) {K:Type} [DecidableEq K] (i:Kd C.prog C.w K) {I:K}{h p:List V}{b:List V×List V}(e:W.σ[j]?=Y a) (s:hp[j]?=Y (.dict h p)) (k:qw C W v z) (hq:i.knd.is I y=true) (u:rk h->∃x:List K,h=x.map i.inj) (DM:tQ h p (i.inj I) v=Y b) (w:h.length<=65536) :
  TH C A (setItem (.ref a) y z) (λP P=>True) (hp.set j<|.dict b.1 b.2) W:=by
 refine rN (Eo T e s) λob t=>?_
 obtain ⟨d,n,rfl,kk,r⟩:=t.rep.inv;obtain ⟨x,rfl⟩:=u kk;intro QQq E hQ;obtain ⟨cv,d1⟩:=Ay i ⟨n,t.at_⟩ kk r;obtain ⟨s,e2⟩:=BJ i k (rk.nodup i kk) d1.len d1.rep DM;have hlz:(x.zip cv).length<=j6:=by
  refine Q (ir ..)<|J d1.len<|Q (iM ..) ?_
  rw[ao] at w
  exact aa w (by decide)
 refine wpAny_setItem_pairs hq d1.dict (λh' hd hs=>qZ (zo i hd e2) λDc n' H q2 q3=>?_) hlz;have k':=λ(q:bK) (o:gA) (I:q≠a) (c:W.s.heap.get? q=Y o)=>(hs.2 q I).trans c
 rw[<- s] at q2 q3
 exact hQ ⟨W.G,W.σ,_⟩ _ (t.kept _ k') (T.upd e k' H (.dict q2 q3) rfl rfl<|cZ _) trivial
theorem BM (T:qY C hp W)(p:qw C W o h)(w:qw C W k s)(x:qw C W v a)(e:uc hp o k v=Y hp'):TH C A (setItem h s a) (λJ J=>True) hp' W:=by
 cases o with
 |ref c=>
  obtain ⟨y,rfl,i⟩:=p.inv;have e:Of hp c (rC k) v hp[c]?=Y hp':=e
  cases n:hp[c]? with
  |none=>rw[n] at e;exact nS e
  |some o=>cases o with
   |list l=>rw[n] at e;exact adn T i n w.rC x e
   |dict H d=>
    replace e:=n▸e;refine qX e λt e=>A1 e λh z=>?_
    have w:=w.rC;generalize rC k=u at w t z
    cases u with
    |str q=>obtain ⟨_,rfl⟩:=w.inv;exact VE T (vy C.prog C.w) i n x (beq_self_eq_true q) (λI=>K9 I z) z t.2
    |int q=>obtain ⟨_,rfl⟩:=w.inv;exact VE T (VT C.prog C.w) i n x (beq_self_eq_true q) (λI=>K_ I z) z t.2
    |_=>exact fT t.1
   |_=>rw[n] at e;exact nS e
 |_=>exact nS e
theorem TS.wj {c:dB}(j:yJ e=true)(h1:TE C d B M e L v g)(x:TE C d B M o g a f)(s:TE C d B M i f b G)(q:uc G.hp a b v=Y hp') :
  TS C d B M (.Assign [.Subscript o i p] e c) L .next ⟨G.loc,hp'⟩:=λt w z A ha QQq I h=>wpAny_Assign_Subscript (h1 t w z A ha _ _ λn c₁ T y sC=>x t w n A y _ _ λxm c₂ l₂ sx wd=>s t w xm A sx _ _ λur abH uV u uG=>BM u.H (wd.mono uV) uG ((sC.mono l₂).mono uV) q _ _ λxl J k H J=>h xl _ (((T.trans l₂).trans uV).trans k.le) (u.kept k H) rfl)<|Bn j
theorem TS.uD {c:dB}(j:TE C d B M o L a g)(z:TE C d B M i g b f)(h3:si f.hp a b=Y x)(t:TE C d B M e f y G)(q:xO op x y=Y v)(n:uc G.hp a b v=Y hp')(hs:∀lo hi w,i≠.Slice lo hi N w):TS C d B M (.AugAssign (.Subscript o i p) op e c) L .next ⟨G.loc,hp'⟩:=λA I W hr ha QQq E h=>by
 refine wpAny_AugAssign_SubscriptAny (j A I W hr ha _ _ λq9 c₁ T ri sC=>z A I q9 hr ri _ _ λxm c₂ l₂ sx wd=>?_) ?_
 .exact Ew hr sx.H (sC.mono l₂) wd h3 _ _ λur abH Oe uG=>t A I ur hr (sx.rz Oe) _ _ λxl akO ze Gb S2=>Fv hr (uG.mono ze) S2 q _ _ λacC akN I8 ahk=>BM (Gb.rz I8).H ((((sC.mono l₂).mono Oe.le).mono ze).mono I8.le) (((wd.mono Oe.le).mono ze).mono I8.le) ahk n _ _ λVa J k H J=>h Va _ (((((T.trans l₂).trans Oe.le).trans ze).trans I8.le).trans k.le) ((Gb.rz I8).kept k H) rfl
 .intro s iv u
  cases i with
  |Slice lo hi step w=>cases step with
   |none=>exact absurd rfl<|hs _ _ _
   |some=>rfl
  |_=>rfl
end
section
variable {f w j y G L:St}
structure Wd.uN (W W':Wd):Prop where
 I:Gm.le W.G.I W'.G.I
 T:Tm.le W.G.T W'.G.T
 σ:rm W.σ W'.σ
theorem Wd.le.uN {s:Wd}(T:s.le W'):s.uN W':=⟨T.G.I,T.G.T,T.σ⟩
theorem Wd.uN.trans {s:Wd}(o:s.uN b)(T:b.uN c):s.uN c:=⟨o.I.trans T.I,o.T.trans T.T,o.σ.trans T.σ⟩
def z0 (T:Ctx)(v:bK)(a:List V)(b:Gd)(t:Wd)(d:Nat->fP->Prop):Prop:=
 ∃(P:Nat->aj->Prop),
  (∀(e:Around),e.handled=N->∀(c:Nat)(U:ay)(I:Option aj->ay->Prop)(E:aj->ay->Prop),c<a.length->d c U.heap->
   (∀s i h,P c s->d (c+1) i->(∀q H,q≠v->U.heap.get? q=Y H->i.get? q=Y H)->I (Y s) { U with heap:=i,toks:=h })->wpAny (model T.prog T.w) e (pyNext<|.ref v) I E U)/\
  (∀(e:Around),e.handled=N->∀(U:ay)(I:Option aj->ay->Prop)(E:aj->ay->Prop),d a.length U.heap->
   (∀i h,(∀q H,q≠v->U.heap.get? q=Y H->i.get? q=Y H)->I N { U with heap:=i,toks:=h })->wpAny (model T.prog T.w) e (pyNext<|.ref v) I E U)/\
  (∀(e:Around),e.handled=N->∀(c:Nat)(U:ay)(I:aj->ay->Prop)(E:aj->ay->Prop),d c U.heap->I (.ref v) U->wpAny (model T.prog T.w) e (pyIter<|.ref v) I E U)/\
  (∀c s,P c s->∃k,a[c]?=Y k/\qw T t k s)/\
  (∀c o,d c o->∃H,o.get? v=Y H)/\
  ∀c (W n:Wd) hp,t.uN W->W.uN n->qY T hp n->uo hp b=true->(∀H,W.s.heap.get? v=Y H->n.s.heap.get? v=Y H)->d c W.s.heap->d c n.s.heap
theorem Q8 {k:fP}{q:bK}(g:k.IsListIter I q i):∃o,k.get? I=Y o:=let ⟨o,e,_⟩:=g;⟨o,e⟩
theorem GO {d:List V}{n:Nat}(c:a≠I)(U:qG C W d vs)(b)(g:∀(T:Wd) hp,W.uN T->qY C hp T->uo hp b=true->T.s.heap.IsList a vs.toArray):z0 C I d b W λh i=>i.IsListIter I a h/\i.IsList a vs.toArray:=by
 have hl:=U.length;refine Ee (λh s=>vs.toArray[h]?=Y s) (λA hA h u QQq v hi f hQ=>?_) (λA hA u QQq v f hQ=>?_) (λA hA h u QQq v f hQ=>?_) (λh s i=>?_) (λh i f=>Q8 f.1) λh T W2 hp l1 l2 H z hI f=>?_
 .exact (nW hA I a c vs.toArray).item h u QQq v (eP hi hl) f λs h' t p q k=>hQ s h' t p q λx o hb=>k x o (by simp;exact hb)
 .exact (nW hA I a c vs.toArray).done u QQq v (by simpa[hl] using f) λh' t k=>hQ h' t λx o hb=>k x o (by simp;exact hb)
 .exact (nW hA I a c vs.toArray).self h u QQq v f hQ
 .skip
  exact U.at (by simpa using i)
 .exact ⟨f.1.at λo e=>hI o e,g W2 hp (l1.trans l2) H z⟩
theorem OA {d:List V}(c:a≠I)(U:qG C W d vs)(b:∀(T:Wd) p,W.uN T->qY C p T->T.s.heap.IsTuple a vs.toArray):z0 C I d N W λi h=>h.IsTupleIter I a i/\h.IsTuple a vs.toArray:=by
 have e:=U.length;refine Ee (λi s=>vs.toArray[i]?=Y s) (λq hA i u QQq v hi f hQ=>?_) (λq hA u QQq v f hQ=>?_) (λq hA i u QQq v f hQ=>?_) (λi s h=>?_) (λi h f=>let ⟨A,z,_⟩:=f.1;⟨A,z⟩) λi T W2 p o l2 H g hI f=>?_
 .exact (m_ hA I a c vs.toArray).item i u QQq v (eP hi e) f λs h' tk n t k=>hQ s h' tk n t λx A hb=>k x A (by simp;exact hb)
 .exact (m_ hA I a c vs.toArray).done u QQq v (by simpa[e] using f) λh' tk k=>hQ h' tk λx A hb=>k x A (by simp;exact hb)
 .exact (m_ hA I a c vs.toArray).self i u QQq v f hQ
 .skip
  exact U.at (by simpa using h)
 .exact ⟨f.1.at λA z=>hI A z,b W2 p (o.trans l2) H⟩
theorem OB:z0 C I ((rangeInts a c n).map .int) N W λh i=>IsRangeIter i I (a+(h:Nat)*c) ((n:Int)-(h:Nat)) c:=by
 have hl:((rangeInts a c n).map V.int).length=n:=by refine Q (ao ..)<|Q (rangeInts_length ..) rfl
 refine Ee (λh s=>h<n/\∃x,s=.int (a+h*c) x) (λT u h U QQq g d f v=>?_) (λT u U QQq g f v=>?_) (λT u h U QQq g f v=>?_) (λh s ⟨d,x,e⟩=>?_) (λh i f=>⟨_,f⟩) λh W1 W2 p l1 l2 H z hI f=>hI _ f
 .rw[hl] at d
  exact (nc u I a c n).item h U QQq g d f λs h' t A q k=>v s h' t ⟨d,A⟩ q λb o hb=>k b o (by simp;exact hb)
 .replace f:=hl▸f;exact (nc u I a c n).done U QQq g f λh' t k=>v h' t λb o hb=>k b o (by simp;exact hb)
 .exact (nc u I a c n).self h U QQq g f v
 .refine Q e ?_;clear e;exact qr (.int<|a+h*c) (by refine Q aZ<|Q (rangeInts_get d) ?_;rfl)<|.int _ _
def vT (T:Ctx)(s:Wd)(a:List bK):Prop:=∀v∈a,∃H,Off T s v H
def LoopAt (T:Ctx)(d:a7)(v:bK)(a:List bK)(g:List V)(b:Gd)(t:Wd)(e:Nat->fP->Prop):Prop:=
 (∀(h:Around),h.handled=N->∀(c:Nat)(o:List O)(W:Wd)(I:aj->ay->Prop)(E p:aj->ay->Prop),c<g.length->t.uN W->qY T o W->vT T W a->e c W.s.heap->
  (∀s k n,g[c]?=Y k->qw T n k s->W.le n->qY T o n->vT T n a->(∀q H,q∉a->Off T W q H->Off T n q H)->e (c+1) n.s.heap->I s n.s)->
  wpAny (model T.prog T.w) h (pyNext<|.ref v) (λz U=>∃s,z=Y s/\wpAny (model T.prog T.w) h (letOwnedTupleGo d (.ref v) s) (λJ=>I s) p U) E W.s)/\
 (∀(h:Around),h.handled=N->∀(o:List O)(W:Wd)(I:Option aj->ay->Prop)(E:aj->ay->Prop),t.uN W->qY T o W->vT T W a->e g.length W.s.heap->
  (∀n,W.le n->qY T o n->(∀q H,q∉a->Off T W q H->Off T n q H)->I N n.s)->wpAny (model T.prog T.w) h (pyNext<|.ref v) I E W.s)/\
 (∀(h:Around),h.handled=N->∀(c:Nat)(U:ay)(I:aj->ay->Prop)(E:aj->ay->Prop),e c U.heap->I (.ref v) U->wpAny (model T.prog T.w) h (pyIter<|.ref v) I E U)/\
 ∀c (W n:Wd) o,t.uN W->W.uN n->qY T o n->uo o b=true->(∀x∈a,∀H,W.s.heap.get? x=Y H->n.s.heap.get? x=Y H)->e c W.s.heap->e c n.s.heap
theorem LoopAt.up {a:List bK}{h:List V}{s:Wd}{b:Nat->fP->Prop}(T:LoopAt C tE I a h gd s b)(u:s.uN W'):LoopAt C tE I a h gd W' b:=td (λU e c k n A g o H d=>T.1 U e c k n A g o H<|u.trans d) (λU e k n A g d=>T.2.1 U e k n A g<|u.trans d) T.2.2.1 λc n i k d=>T.2.2.2 c n i k<|u.trans d
noncomputable abbrev Wd.stp (s:Wd)(i:fP)(x:pJ):Wd:=⟨s.G,s.σ,{ s.s with heap:=i,toks:=x }⟩
abbrev zv (T:a7):Prop:=∀s a,letOwnedTupleGo T s a=pure ()
theorem z0.loop {l:List V}{t:Wd}{b:Nat->fP->Prop}(U:z0 C I l gd t b)(i:zv tE):LoopAt C tE I [I] l gd t b:=by
 obtain ⟨d,ael,aen,aeh,p,T,x⟩:=U;refine td (λA hA c hp t QQq u E' uO lw H hD hS hq=>?_) (λA hA hp t QQq u lw H hD hS hq=>?_) aeh λc t W' hp l1 l2 H g k=>x c t W' hp l1 l2 H g<|k I<|.head _
 .refine rN (hD I<|.head _) λo0 xE=>wpAny_toks<|ael A hA c t.s _ _ uO hS λs h' h hPv Wa hk Bq=>qr s rfl<|qt (p c s hPv) λxv hx rx=>?_
  obtain ⟨v,n⟩:=T _ _ Wa;refine Q (i ..) ?_;exact wpAny_pure (hq s xv (t.stp h' h) hx (Rep.mono lw.T lw.I lw.σ rx) ⟨Gh.le.refl _,rm.refl _⟩ (H.keep I hk xE.I xE.F xE.σ xE.T rfl rfl Bq)
   (λq hb=>Q (aN.mp hb) ⟨v,n,xE.I,xE.F,xE.σ,xE.T⟩) (λa o ne z=>⟨hk _ _ (λe=>ne<|e▸.head _) z.at_,z.I,z.F,z.σ,z.T⟩) Wa)
 .exact rN (hD I<|.head _) λo0 xE=>wpAny_toks<|aen A hA t.s _ _ hS λh' h hk Bq=>hq (t.stp h' h) ⟨Gh.le.refl _,rm.refl _⟩ (H.keep I hk xE.I xE.F xE.σ xE.T rfl rfl Bq) λa o ne z=>⟨hk _ _ (λe=>ne<|e▸.head _) z.at_,z.I,z.F,z.σ,z.T⟩
def tO (T:Ctx)(c:Nat)(A:K)(x:List Nat)(a d:a7)(z:St)(h:List V)(b:Gd)(H:St):Prop:=
 ∀(e:Around)(i:kN)(W:Wd),rl c e->At T A x i z W->∀(I:aj->ay->Prop)(E:aj->ay->Prop),
  (∀k v n g,W.le k->At T A x i H k->vT T k n->i.locals∉n->LoopAt T d v n h b k g->g 0 k.s.heap->I (.ref v) k.s)->
  wpAny (model T.prog T.w) e (eval a i) (λs U=>wpAny (model T.prog T.w) e (pyIter s) I E U) E W.s
theorem uu {h:List V}{s U:Wd}{b:Nat->fP->Prop}{A:aj->ay->Prop}(i:zv tE)(g:∀U v k b,s.le U->At C B M env w U->vT C U k->env.locals∉k->LoopAt C tE v k h gd U b->b 0 U.s.heap->A (.ref v) U.s)(T:s.le U)(H:At C B M env w U)(z:Off C U v o)(c:v≠env.locals)(a:z0 C v h gd U b)(I:b 0 U.s.heap):A (.ref v) U.s:=
 g U v [v] b T H (λq d=>Q (aN.mp d) ⟨o,z⟩) (λe=>c (aN.mp e).symm) (a.loop i) I
theorem t8 (o):xp C W ⟨W.G,W.σ,{ W.s with heap:=W.s.heap.push o }⟩:=(Pext0.push o W.s.toks).strict<|ag _
theorem uH {o:gA}(T:qY C hp W)(e:o.isFreed=false):Off C ⟨W.G,W.σ,{ W.s with heap:=W.s.heap.push o }⟩ W.s.heap.objs.size o:=⟨bb _ e,T.sF,T.wo,T.vq,T.freshT⟩
theorem Gx {a:List V}:∀{g:List Nat},vG a=Y g->a=g.map V.ref:=by
 induction a with
 |nil=>exact λe=>J (ae e) rfl
 |cons k a ih=>cases k with
  |ref c=>exact λe=>qO e λo i n=>J n<|qo (V.ref c::·)<|ih i
  |_=>exact λe=>nS e
theorem Qg {a:List Nat}:∀{h k:List aj},qG C W (a.map V.ref) h->W.uN W'->qG C W' (a.map V.ref) k->k=h:=by
 induction a with
 |nil=>exact λU J A=>A.inv.trans U.inv.symm
 |cons c a b=>
  intro h k U o A
  obtain ⟨s,T,rfl,H,d⟩:=U.inv;obtain ⟨n,u,rfl,g,e⟩:=A.inv;obtain ⟨_,rfl,p⟩:=H.inv;obtain ⟨_,rfl,i⟩:=g.inv;refine Q (b d o e)<|Q (ae<|(o.σ _ _ p).symm.trans i) rfl
theorem tO.tracked {h:List V}(o:TE C d B M e f (.ref i) j)(p:j.hp[i]?=Y (.list h))(u:vG h=Y ids)(x:zv tE):tO C d B M e tE f h (Y (i,ids)) j:=λa b W hr ha QQq E g=>by
 refine o a b W hr ha _ _ λn s T ri sC=>?_
 obtain ⟨q,rfl,e1⟩:=sC.inv;refine qN (ri.H.rY _ _ e1) λz H U=>qZ U λI ob c k q3=>?_
 rw[p] at c;(refine Vm.sI c ?_;clear c;rintro rfl)
 obtain ⟨vs,t,rfl,r⟩:=q3.inv;have hl:=Gx u;have A:n.s.heap.IsList q vs.toArray:=⟨_,k,rfl,t,rfl⟩;refine qc A ?_;have pe:=t8 (W:=n) { cls:=.type "list_iterator",data:=.fields #[.ref q,.int 0 0] };refine uu x g (T.trans pe.le) (ri.rz pe) (uH ri.H rfl) (bw ri.lt) (GO (n:=t) (cy<|bR k) (qG.mono r pe.le) _ λW2 yt l2 H2 hg=>?_) ⟨ry _ (bb _ rfl) rfl rfl,A.push _⟩
 cases e2:yt[i]? with
 |none=>rw[uo,e2] at hg;exact fT hg
 |some I=>cases I with
  |list l'=>
   rw[uo,e2] at hg
   refine qN (H2.rY i q<|l2.σ _ _ e1) λP P rS=>qZ rS λo2 v p1 p2 p3=>?_
   obtain rfl:=ae (p1.symm.trans e2);obtain ⟨ws,n2,rfl,r2⟩:=p3.inv;have hl':=Gx<|eq_of_beq hg
   subst hl hl'
   have:=Qg (qG.mono r pe.le) l2 r2;refine J this ?_;clear this;exact ⟨_,p2,rfl,n2,rfl⟩
  |_=>rw[uo,e2] at hg;exact fT hg
theorem tO.list {k:List V}(o:TE C d B M e f (.lst k) j)(i:zv tE):tO C d B M e tE f k N j:=λU p t a H QQq v g=>by
 refine o U p t a H _ _ λn s T ri I=>?_
 obtain ⟨q,u,h,rfl,x,b⟩:=I.inv;have A:n.s.heap.IsList q u.toArray:=⟨_,ri.H.I _ _ x,rfl,h,rfl⟩;refine qc A ?_;have c:=t8 (W:=n) { cls:=.type "list_iterator",data:=.fields #[.ref q,.int 0 0] };exact uu i g (T.trans c.le) (ri.rz c) (uH ri.H rfl) (bw ri.lt) (GO (n:=h) (cy<|bR<|ri.H.I _ _ x) (qG.mono b c.le) _ λz yt l2 H2 hg=>⟨_,H2.I _ _<|l2.I _ _ x,rfl,h,rfl⟩) ⟨ry _ (bb _ rfl) rfl rfl,A.push _⟩
theorem tO.tup {k:List V}(o:TE C d B M e f (.tup k) j)(i:zv tE):tO C d B M e tE f k N j:=λU p v a H QQq x g=>by
 refine o U p v a H _ _ λn s T ri I=>?_
 obtain ⟨q,u,h,rfl,z,b⟩:=I.inv;have t:n.s.heap.IsTuple q u.toArray:=⟨_,ri.H.I _ _ z,rfl,h,rfl⟩;refine jj t ?_;have c:=t8 (W:=n) { cls:=.type "tuple_iterator",data:=.fields #[.ref q,.int 0 0] };exact uu i g (T.trans c.le) (ri.rz c) (uH ri.H rfl) (bw ri.lt) (OA (cy<|bR<|ri.H.I _ _ z) (qG.mono b c.le) λA yt l2 H2=>⟨_,H2.I _ _<|l2.I _ _ z,rfl,h,rfl⟩) ⟨ry _ (bb _ rfl) rfl rfl,t.push _⟩
theorem Oa (e:wZ q a d=true):d≠0/\jo q a d=true/\cB q a d=(vl q a d:Int):=by
 delta wZ at e
 simp only[aA,decide_eq_true_eq] at e
 obtain ⟨⟨c,n⟩,i⟩:=e;refine rj c n ?_;have x:0<=cB q a d:=by
  delta cB
  split
  .split
   .exact yv (jJ (by lia) (by lia))
   .lia
  .split
   .exact yv (jJ (by lia) (by lia))
   .lia
 delta vl;exact (cj x).symm
theorem tO.tS (k:TE C d B M e f (.tS q a h) j)(o:wZ q a h=true)(i:zv tE):tO C d B M e tE f (wD q a h) N j:=λU p t b H QQq u g=>by
 refine k U p t b H _ _ λn s T A I=>?_
 obtain ⟨x,v,z,ad,rfl,e1⟩:=I.inv;refine qN (Oa o) λc k2 k3=>wpAny_pyIter_range (A.H.I _ _ e1) k2 ?_
 have pe:=t8 (W:=n) { cls:=.type "range_iterator",data:=.fields #[fI q,fI (cB q a h),fI h] };exact uu i g (T.trans pe.le) (A.rz pe) (uH A.H rfl) (bw A.lt) (OB)<|Q k3<|Q (by simp:q+((0:Nat):Int)*h=q)<|Q (rfl:((vl q a h:Nat):Int)-((0:Nat):Int)=(vl q a h:Int))<|bb _ rfl
end
section
variable {T rH U j N4 akD:St}
theorem Jv {x:ba}(b:∀d:Around,d.handled=N->Walks C.prog C.w d I [I] [I] x.cps.size (SignAt x) (λc i=>i.IsStrIter I ty x t c)):z0 C I (x.cps.toList.map λh=>.str<|one h) N W λc i=>i.IsStrIter I ty x t c:=by
 refine Ee (SignAt x) (λd hA c w QQq E L T hQ=>?_) (λd hA w QQq E T hQ=>?_) (λd hA c w QQq E T hQ=>(b d hA).self c w QQq E T hQ) (λc s A=>?_) (λc i T=>let ⟨o,e,_⟩:=T;⟨o,e⟩) λc n W2 f l1 l2 H g G T=>let ⟨o,e,r⟩:=T;(qr o (G o e) r)
 .exact (b d hA).item c w QQq E (by simpa using L) T λs k v p y a=>hQ s k v p y λq o z=>a q o (by simp;exact z)
 .exact (b d hA).done w QQq E (by simpa using T) λk v a=>hQ k v λq o z=>a q o (by simp;exact z)
 .obtain ⟨h,u,e,rfl⟩:=A;refine qr (.str<|one h) (Q aZ<|Q fQ<|Q e ?_)<|.str _ _;rfl
theorem tO.str (k:TE C d B M e T v U)(o:rC v=.str s)(i:zv tE):tO C d B M e tE T (s.cps.toList.map λh=>.str<|one h) N U:=λa f t L H A p g=>by
 refine k a f t L H _ _ λn u b y G=>?_
 have I:=G.rC;revert I;refine Q o ?_;intro I;obtain ⟨x,rfl⟩:=I.inv
 cases q:s.cps.all (·<128)
 .refine wpAny_pyIter_wide q ?_;have c:=t8 (W:=n) { cls:=.type "str_iterator",data:=.fields #[.str s x,.int 0 0] };exact uu i g (b.trans c.le) (y.rz c) (uH y.H rfl) (bw y.lt) (Jv λa w=>Walks.strWide w _ s x)<|ry _ (bb _ rfl) rfl rfl
 .refine wpAny_pyIter_ascii q ?_;have c:=t8 (W:=n) { cls:=.type "str_ascii_iterator",data:=.fields #[.str s x,.int 0 0] };exact uu i g (b.trans c.le) (y.rz c) (uH y.H rfl) (bw y.lt) (Jv λa w=>Walks.strAscii w _ s x)<|ry _ (bb _ rfl) rfl rfl
def Dp (a:Ctx)(c:Nat)(I:K)(H:List Nat)(q:Tg)(f:List gv)(b:Gd):List V->St->Fl->St->Prop
 |[]=>@λT s rH=>uo T.hp b=true/\s=.next/\rH=T
 |x::l=>@λT s rH=>uo T.hp b=true/\∃u,rA H 5 q x T=Y u/\((∃n,yi a c I H f u .next n/\Dp a c I H q f b l n s rH)\/∃L,s=.ret L/\yi a c I H f u (.ret L) rH)
theorem XD {s:Fl}:∀{l:List V},Dp C d B M tg body gd l T s rH->uo T.hp gd=true
 |[]=>@λo=>o.1
 |_::_=>@λo=>o.1
theorem Loc.off (n:Loc C B L loc W):∃o,Off C W L o:=by
 refine qt n.ns λd k J=>?_;obtain ⟨o,a,h,e,_⟩:=k
 exact ⟨o,e,n.I,n.F,n.σ,n.T⟩
theorem Loc.ahead (p:Loc C B L loc W)(z:Off C W L o)(a:W.le W')(G:Off C W' L o):Loc C B L loc W':=by
 refine qt p.ns λd u g=>?_;obtain ⟨v,f,h,e,t⟩:=u
 rw[z.at_] at e;(refine Vm.sI e ?_;clear e;rintro rfl)
 exact ⟨qr d (wR o f h G.at_ t) λc b k e i=>qt (g c b k e i) λs n q=>qr s n<|q.mono a,G.I,G.F,G.σ,G.T⟩
theorem At.step {f:List bK}(G:At C B M env uM W0)(H:env.locals∉f)(a:W0.le W1)(b:qY C uM.hp W1)(ko:∀v o,v∉f->Off C W0 v o->Off C W1 v o):At C B M env uM W1:=G.L.off.elim λo z=>⟨G.ok.mono a.σ,b,G.L.ahead z a<|ko _ _ H z⟩
abbrev Fy (a:Ctx)(c:Nat)(I:K)(H:List Nat)(L:a7)(q:Tg):Prop:=∀k T rH,rA H 5 q k T=Y rH->TSt a c I H L k T rH
abbrev Re (d:Ctx)(a:List bK)(b:Gd)(e:Nat->fP->Prop)(c:Nat)(s:Wd):Prop:=∀g f,s.le g->qY d f g->uo f b=true->(∀v∈a,∀G,Off d s v G->Off d g v G)->vT d g a/\e c g.s.heap
theorem GP (L:LoopAt C tE I D l gd q9 Sx)(e:A.handled=N)(H:i<l.length)(a:At C B M env uM W0)(c:vT C W0 D)(b:env.locals∉D)(g:q9.le W0)(t:Sx i W0.s.heap){v:aj->ay->Prop}(hQ:∀s x,wpAny (model C.prog C.w) A (letOwnedTupleGo tE (.ref I) s) (λW=>v s) E' x->QQq (Y s) x)(G:∀s k n,l.drop i=k::l.drop (i+1)->qw C n k s->q9.le n->W0.le n->At C B M env uM n->(∀q o,q∉D->Off C W0 q o->Off C n q o)->Re C D gd Sx (i+1) n->v s n.s) :
  wpAny (model C.prog C.w) A (pyNext<|.ref I) QQq E W0.s:=by
 refine wpAny_mono (L.1 A e i uM.hp W0 v E E' H g.uN a.H c t λs k n hx rv f H1 u p Wa=>G s k n (Q (me H)<|qo (·::l.drop (i+1))<|ae<|(aD H).symm.trans hx) rv (g.trans f) f (a.step b f H1 p) p λW3 d l3 H3 g3 k3=>⟨λw hb=>(u w hb).imp λo h=>k3 w hb o h,?_⟩) (λy x h=>h.elim λs h=>Q h.1<|hQ s x h.2) λW W z=>z
 refine L.2.2.2 (i+1) n W3 d (g.trans f).uN l3.uN H3 g3 (λw hb o z=>?_) Wa;obtain ⟨o',h⟩:=u w hb;exact J (ae<|h.at_.symm.trans z)<|(k3 w hb o' h).at_
theorem GQ (L:LoopAt C tE I D l gd q9 Sx)(e:A.handled=N)(G:At C B M env uM W0)(c:vT C W0 D)(H:env.locals∉D)(b:q9.le W0)(d:Sx l.length W0.s.heap)(p:∀n,q9.le n->W0.le n->At C B M env uM n->(∀q o,q∉D->Off C W0 q o->Off C n q o)->QQq N n.s):wpAny (model C.prog C.w) A (pyNext<|.ref I) QQq E W0.s:=
 L.2.1 A e uM.hp W0 QQq E b.uN G.H c d λn f g a=>p n (b.trans f) f (G.step H f g a) a
def Gg (a:Ctx)(c:Nat)(L:K)(G:List Nat)(q:Tg)(f:List gv)(b:Gd)(g:kN)(k:List V)(u:List bK)(d:Nat->fP->Prop)(v:Wd)(s:Fl)(H:St)(h:Nat)(e:ay):Prop:=∃(t:Nat)(I:St)(i:Wd),h=k.length+1-t/\t<=k.length/\e=i.s/\v.le i/\At a L G g I i/\vT a i u/\d t i.s.heap/\Dp a c L G q f b (k.drop t) I s H
@[elab_as_elim] theorem Gg.elim {e:Nat->ay->Prop}(a:Gg C d B M tg body gd env l D Sx q9 fl j n s)(g:∀t I b,t<=l.length->q9.le b->At C B M env I b->vT C b D->Sx t b.s.heap->Dp C d B M tg body gd (l.drop t) I fl j->e (l.length+1-t) b.s):e n s:=by obtain ⟨t,I,b,rfl,w,rfl,f,G,c,H,o⟩:=a;exact g t I b w f G c H o
theorem Gg.intro (h)(w:h<=l.length)(a:q9.le W0)(G:At C B M env uM W0)(t:vT C W0 D/\Sx h W0.s.heap)(o:Dp C d B M tg body gd (l.drop h) uM fl j):Gg C d B M tg body gd env l D Sx q9 fl j (l.length+1-h) W0.s:=⟨h,uM,W0,rfl,w,rfl,a,G,t.1,t.2,o⟩
theorem Ra {b:k_->ay->Prop}{p:aj->ay->Prop}{g:aj->ay->Prop}(a:rl d A)(H:Fy C d B M L tg)(o:Dp C d B M tg body gd (k::l) uM fl j)(I:At C B M env uM W1)(q:qw C W1 k s)(hn:∀u c,R_ C [env.locals] W1 c->At C B M env u c->Dp C d B M tg body gd l u fl j->b .next c.s)(ahW:∀v w c,fl=.ret v->W1.le c->At C B M env j c->qw C c v w->b (.ret w) c.s) :
  wpAny (model C.prog C.w) A (assign L env s) (λW x=>wpAny (model C.prog C.w) A (execs body env) b p x) g W1.s:=by
 obtain ⟨_,z,e,h⟩:=o;refine H k uM z e A env (W1.wm C [env.locals]) s a (I.ex<|.head _) q _ _ λn W l2 y W=>?_
 obtain ⟨u,g3,g4⟩|⟨v,i,g3⟩:=h
 .exact g3 A env n a y _ _ λc f l3 a3 G=>have t:=I.xy (l2.trans l3) a3;(J G.symm<|hn u (c.tL W1.G.F) t.1 t.2.1 g4)
 .exact g3 A env n a y _ _ λc f l3 a3 G=>have t:=I.xy (l2.trans l3) a3;G.elim λw hc=>J hc.1.symm<|ahW v w (c.tL W1.G.F) i t.1.le t.2.1 hc.2
theorem TS.uZ {e:dB}{L:a7}{x:List V}{fl:Fl}(hi:∀u k H,L≠.Set u k H)(hs:tO C d B M L tE T x b U)(ht:Fy C d B M tE tg)(hb:Dp C d B M tg f b x U fl j) :
  TS C d B M (.For tE L f [] e) T fl j:=λA env W hr ha QQq g h=>by
 refine wpAny_For (hs A env W hr ha _ _ λn I G Sx uW y hD BX hL hS=>?_) λv=>?_
 .refine codeAny_forLoop_any (Gg C d B M tg f b env x G Sx n fl j) (λt s hI=>Gg.elim hI λi uM W0 QY lw a0 Q7 p hE=>?_) (x.length+1)<|.intro 0 (dZ _) (Wd.le.refl _) y ⟨hD,hS⟩ hb
  by_cases uO:i<x.length
  .exact GP hL hr.1 uO a0 Q7 BX lw p (λv s h=>h) λv xv W1 hd rv GN GU a1 ko re=>Ra hr ht (J hd hE) a1 rv
    (λst2 W3 k3 a3 g4=>qr (x.length+1-(i+1)) (oz (dT uO)<|bY i)<|.intro (i+1) uO (GN.trans k3.le) a3 (re W3 st2.hp k3.le a3.H (XD g4) λa ha o z=>k3.off a o (λq=>BX<|J (aN.mp q) ha) z) g4)
    λw c W3 hf lw3 a3 rc=>h W3 _ (uW.trans<|GN.trans lw3) a3<|Q hf<|qr c rfl rc
  .skip
   have q:Dp C d B M tg f b [] uM fl j:=J (jE<|cV.mp uO) hE;exact GQ hL hr.1 a0 Q7 BX lw (J (fO QY<|cV.mp uO) p) λW1 GN P a1 P=>jY<|h W1 _ (uW.trans GN) (Q q.2.2 a1)<|(qo (λfl=>K1 C fl W1 k_.next) q.2.1).mpr rfl
 .cases L with
  |Set u k H=>exact absurd rfl<|hi u k H
  |_=>rfl
end
section
variable {i a j o p t:St}
def ML (T:Ctx)(c:Nat)(U:K)(I:List Nat)(L:a7)(f:List gv):Nat->St->Fl->St->Prop
 |0=>@λJ J J=>False
 |n+1=>@λi s a=>(s=.next/\TT T c U I L i false a)\/(∃u q,TT T c U I L i true u/\yi T c U I f u .next q/\ML T c U I L f n q s a)\/∃u k,s=.ret k/\TT T c U I L i true u/\yi T c U I f u (.ret k) a
theorem Sm {s:Fl}{QB:k_->ay->Prop}{NNq:ay->Prop}{E1 w:aj->ay->Prop}(x:rl d c)(z:ML C d B M L f h uM s a)(H:At C B M v uM W0)(h1:∀A,W0.le A->s=.next->At C B M v a A->NNq A.s)(h2:∀I u n,I<h->W0.le n->At C B M v u n->ML C d B M L f I u s a->QB .next n.s)(G:∀T n,W0.le n->At C B M v a n->K1 C s n T->(∃k,s=.ret k)->QB T n.s) :
  wpAny (model C.prog C.w) c (j7 L v<|eval L v) (λb U=>if b=true then wpAny (model C.prog C.w) c (execs f v) QB w U else NNq U) E1 W0.s:=by
 cases h with
 |zero=>exact z.elim|succ h=>
  rcases z with ⟨e,g⟩|⟨st1,u,g1,g2,g3⟩|⟨st1,k,e,g1,g2⟩
  .exact g c v W0 x H _ _ λA b l1 y r1=>(qn λq=>tF<|q.symm.trans r1).mpr<|h1 A l1 e y
  .exact g1 c v W0 x H _ _ λA b l1 y r1=>(qm r1).mpr<|g2 c v A x y _ _ λW2 T l2 a2 r2=>J ((r2:T=.next).symm)<|h2 h u W2 (bY _) (l1.trans l2) a2 g3
  .exact g1 c v W0 x H _ _ λA b l1 y r1=>(qm r1).mpr<|g2 c v A x y _ _ λW2 T l2 a2 r2=>G T W2 (l1.trans l2) a2 (J e.symm r2) ⟨k,e⟩
theorem TS.Lu {e:dB}{s:Fl}(b:ML C d B M c body n i s a):TS C d B M (.While c body [] e) i s a:=λg f v L H QQq k h=>
 wpAny_While (codeAny_whileLoop (λx z=>∃(u:St)(A:Wd),z=A.s/\v.le A/\At C B M f u A/\ML C d B M c body x u s a) (λx z U=>U.elim λu U=>U.elim λA U=>U.1.symm ▸
  Sm L U.2.2.2 U.2.2.1 (λW1 l1 w y=>jY<|h W1 _ (U.2.1.trans l1) y<|J w.symm rfl) (λT st2 W3 hm l3 a3 g3=>⟨T,hm,st2,W3,rfl,U.2.1.trans l3,a3,g3⟩)
   λq W3 l3 a3 G hv=>hv.elim λI w=>(J w G:K1 C (.ret I) W3 q).elim λcc hc=>hc.1.symm▸h W3 _ (U.2.1.trans l3) a3 (J w.symm<|qr cc rfl hc.2)) n<|uv i v rfl (Wd.le.refl _) H b)
end
theorem vj:Slot "list_reverseiterator" "__next__" "list_reverseiterator.__next__":=
 .of (owner:="list_reverseiterator") (n:="__next__") (by refine Q (dM ..)<|Q (cx ..) ?_;kernel_rfl) rfl rfl rfl
  (by first|exact .inl rfl|exact .inr rfl) (by refine Q (d6 ..) ?_;kernel_rfl)
theorem Ax:j8 pd "list_reverseiterator.__next__"=Y fH.«list_reverseiterator.__next__»:=jL (by kernel_rfl)
theorem Bv (t):pV "list_reverseiterator.__next__" ⟨[t],[]⟩:=by kernel_rfl
theorem Bo:Slot "list_reverseiterator" "__iter__" "list_reverseiterator.__iter__":=
 .of (owner:="list_reverseiterator") (n:="__iter__") (by refine Q (dM ..)<|Q (cx ..) ?_;kernel_rfl) rfl rfl rfl
  (by first|exact .inl rfl|exact .inr rfl) (by refine Q (d6 ..) ?_;kernel_rfl)
theorem F5:j8 pd "list_reverseiterator.__iter__"=Y fH.«dict_keyiterator.__iter__»:=entryFor_alias (id':="dict_keyiterator.__iter__") (by kernel_rfl) rfl (by decide +kernel) (by kernel_rfl)
theorem Hv (t):pV "list_reverseiterator.__iter__" ⟨[t],[]⟩:=by kernel_rfl
def IsRevIter (i:fP)(v q:bK)(c:Nat):Prop:=∃G,i.get? v=Y G/\G.cls=.type "list_reverseiterator"/\G.data=.fields #[.ref q,.int ((c:Int)-1) 0]
section
variable {s:ay}
theorem IsRevIter.typeIs {q:bK}(p:IsRevIter s.heap it q k):s.TypeIs (.ref it) "list_reverseiterator":=let ⟨G,e,i,_⟩:=p;(qr G e i)
theorem EC {q:bK}{U:aj->ay->Prop}(p:IsRevIter s.heap it q k)(H:U (.ref it) s):wpAny (model G n) A (pyIter<|.ref it) U E s:=wpAny_pyIter_slot p.typeIs Bo<|iw Bo p.typeIs F5 (wpAny_pure ⟨_,rfl,"list_reverseiterator",_,p.typeIs,vj.lookup,H⟩)<|Hv _
theorem EB {q:bK}{U:Option aj->ay->Prop}(p:IsRevIter s.heap it q<|k+1)(I:s.heap.IsList q items)(e:items[k]?=Y x)(hQ:∀i,IsRevIter i it q k->fg it s.heap i->U (Y x) { s with heap:=i }):wpAny (model G n) A (pyNext<|.ref it) U E s:=by
 obtain ⟨L,j,t,z⟩:=id p;obtain ⟨o,H,_,T,c⟩:=I;rw[(by lia:((k+1:Nat):Int)-1=(k:Int))] at z
 refine af (wpAny_attempt (g8 p.typeIs vj
  <| iw vj p.typeIs Ax ?_<|Bv _))
 refine (?_:wpAny _ _ (field (.ref it) 1>>=_) _ _ s);refine af<|j4 j z rfl (Q (qn<|by lia)<|af<|j4 j z rfl<|af<|m6 H c ?_:wpAny _ _ (if (k:Int)<0 then _ else _) _ _ s)
 simp only[dU,e];exact af<|m5 j z (ag _)<|wpAny_pure<|qr x rfl<|wpAny_pure<|hQ _ ⟨_,d9 _ j<|nJ<|iY z _,(oT ..).trans t,Q (iY z ..) rfl⟩<|cT ..
theorem FJ {q:bK}{U:Option aj->ay->Prop}(e:A.handled=N)(p:IsRevIter s.heap it q 0)(hQ:∀i,nU it s.heap i->U N { s with heap:=i }):wpAny (model G n) A (pyNext<|.ref it) U E s:=by
 obtain ⟨H,j,o,z⟩:=id p;refine af (wpAny_attempt (g8 p.typeIs vj
  <| iw vj p.typeIs Ax ?_<|Bv _))
 refine (?_:wpAny _ _ (field (.ref it) 1>>=_) _ _ s);refine af<|j4 j z rfl (Q (qm<|by decide)<|af<|m7<|af<|af<|af<|fZ (af<|iH (by first|rfl|(rfl;rfl))<|fZ (af<|wpAny_handled ?_)<|by size_fits)<|by size_fits:wpAny _ _ (if (((0:Nat):Int)-1)<0 then _ else _) _ _ s)
 first|refine Q (show A.in1.handled=N from e) ?_|rw[e]
 refine af<|wpAny_pure<|wpAny_throw ?_
 refine af<|lP (qr _ (bb _ rfl) rfl) isSubtype_stop ?_
 exact wpAny_pure<|hQ _<|((nU.refl _ _).push _).push _
end
theorem FT:mroOf (.type "reversed")=pure [.type "reversed",.type "object"]:=by rw[mroOf_type];kernel_rfl
theorem FV:eX (.type "reversed") "__new__"=pure (Y<|.builtin "reversed.__new__"):=by rw[dM,cx];kernel_rfl
theorem Hr:j8 pd "reversed.__new__"=Y fH.«reversed.__new__»:=jL (by kernel_rfl)
theorem TB:Bind.madeBy (.type "reversed")=pure (Y "reversed.__new__"):=madeBy_type FT FV (by decide +kernel)
theorem LC:kg (.type "reversed") (.type "reversed")=pure true:=by rw[d6];kernel_rfl
theorem SE:kg (.type "list_reverseiterator") (.type "reversed")=pure false:=by rw[d6];kernel_rfl
theorem IZ {v:bK}{R:Result->ay->Prop}(e:s.heap.get? v=Y ⟨.type "list",N,.seq items n,#[]⟩)(I:R (.ok (.ret (.ref s.heap.objs.size))) { s with heap:=s.heap.push { cls:=.type "list_reverseiterator",data:=.fields #[.ref v,fI ((items.size:Int)-1)] } }) :
  wpAny (model G o) A.in1 (fH.«reversed.__new__» ⟨[.type "reversed",.ref v],[]⟩) (λx w=>match x with|.done T=>R (.ok T) w|.again t=>t.quiet=true/\jB (model G o) A t R w) (λy w=>R (.error y) w) s:=by
 have L:s.TypeIs (.ref v) "list":=⟨_,e,rfl⟩;have i:=FT;have p:=LC;have z:=F.slot_list_reversed.lookup;have H:=F.slot_list_reversed.bind (.ref v);obtain ⟨j,U,a,h,u⟩:=s
 wp_walk
 refine codeAny_mono (fy (R:=λb w=>b=.ok (.ret (.ref j.objs.size))/\w=⟨j.push { cls:=.type "list_reverseiterator",data:=.fields #[.ref v,fI ((items.size:Int)-1)] },U,a,h,u⟩) F.slot_list_reversed.plain F.entry_list_reversed
  (F.slot_list_reversed.check _ _ _ _ _ _ _ _ L (F.args_list_reversed_1 _) (AutoListH.list___reversed___list_0 v items n G o A.in1 (λb w=>b=.ok (.ret (.ref j.objs.size))/\w=⟨j.push { cls:=.type "list_reverseiterator",data:=.fields #[.ref v,fI ((items.size:Int)-1)] },U,a,h,u⟩) _ ⟨e,rfl,rfl⟩))) λb w c=>?_
 obtain ⟨rfl,rfl⟩:=c;exact wpAny_pure I
theorem Ht {v:bK}{y:aj->ay->Prop}(e:s.heap.get? v=Y ⟨.type "list",N,.seq items n,#[]⟩)(I:y (.ref s.heap.objs.size) { s with heap:=s.heap.push { cls:=.type "list_reverseiterator",data:=.fields #[.ref v,fI ((items.size:Int)-1)] } }) :
  wpAny (model G o) A (call (.type "reversed") [.ref v]) y E s:=by
 have i:=FT;have p:=TB;have z:=LC;have H:checkTypeCall "reversed" ⟨[.ref v],[]⟩=pure ():=by kernel_rfl
 have c:checkBuiltinCall "reversed.__new__" ⟨[.type "reversed",.ref v],[]⟩=pure ():=by kernel_rfl
 refine m8 (mz ?_);show wpAny _ _ (callAny (.type "reversed") _) _ _ _;refine wpAny_pure ⟨Code.quiet_builtin _ (by decide +kernel),codeAny_builtin F.entry_type_call ?_⟩;rw[Around.under_plain (weight_type_call_type "reversed" [.ref v] []) (units_type_call_type "reversed" [.ref v] [])];have k:(dk "reversed"==dk "type")=false:=by decide +kernel
 have L:((oD "reversed").bind (·.mro.findSome? λf=>(oD f).bind λq=>if q.noNew then Y true else if q.attrs.any (·.1=="__new__") then Y false else N)).getD false=false:=by decide +kernel
 repeat (any_goals (first|assumption|wp_step))
 refine codeAny_mono (fy (R:=λa u=>a=.ok (.ret (.ref s.heap.objs.size))/\u={ s with heap:=s.heap.push { cls:=.type "list_reverseiterator",data:=.fields #[.ref v,fI ((items.size:Int)-1)] } }) (by decide +kernel) Hr
  (iH c (IZ (A:=A.in1) (R:=λa u=>a=.ok (.ret (.ref s.heap.objs.size))/\u={ s with heap:=s.heap.push { cls:=.type "list_reverseiterator",data:=.fields #[.ref v,fI ((items.size:Int)-1)] } }) e ⟨rfl,rfl⟩))) λa U t=>?_
 obtain ⟨rfl,rfl⟩:=t;have T:(({ s with heap:=s.heap.push { cls:=.type "list_reverseiterator",data:=.fields #[.ref v,fI ((items.size:Int)-1)] } }:ay)).TypeIs (.ref s.heap.objs.size) "list_reverseiterator":=⟨_,bb _ rfl,rfl⟩;have g:=SE
 repeat (any_goals (first|assumption|wp_step))
section
variable {f y j t u w:St}
theorem TM {g:List V}(c:a≠I)(U:qG C W g vs)(hk:∀(W1:Wd) hp,W.uN W1->qY C hp W1->W1.s.heap.IsList a vs.toArray):z0 C I g.reverse N W λi h=>∃k,i+k=vs.length/\IsRevIter h I a k/\h.IsList a vs.toArray:=by
 have e:=U.length;refine Ee (λi v=>∃k,i+(k+1)=vs.length/\vs[k]?=Y v) (λA hA i s QQq L hi f hQ=>?_) (λA hA s QQq L f hQ=>?_) (λA hA i s QQq L f hQ=>?_) (λi v rS=>qt rS λk n h=>?_) (λi h f=>?_) λi W1 W2 hp l1 l2 H z G f=>?_
 .obtain ⟨k,n,p,h2⟩:=f;revert hi;refine Q (cw ..) ?_;intro hi;obtain ⟨k,rfl⟩:∃T,k=T+1:=⟨k-1,NO e n hi⟩;have QX:k<vs.length:=Nr n;refine EB p h2 (x:=vs[k]) (by simp[QX]) λh' q hs=>?_
  have:=hQ vs[k] h' s.toks (qr k n<|by simp[QX]) (ry k (MP n) q<|h2.extBut hs.extBut c) λb o hb n=>(hs.2 b hb).trans n
  exact this
 .refine rU f λk n p h2=>?_
  revert n;refine Q (cw ..) ?_;intro n;have:k=0:=M3 e n;subst this;exact FJ hA p λh' d=>hQ h' s.toks λb o hb n=>d b o hb n
 .exact rU f λk n p h2=>EC p hQ
 .refine qt (U.at h) λx p h2=>qr x (ax (List.getElem?_reverse<|M9 e n) ?_) h2
  refine J p ?_;congr 1;exact MU e n
 .refine rU f λk n wU P=>?_;obtain ⟨o,p,_⟩:=wU;exact ⟨o,p⟩
 .refine rU f λk n rS P=>?_;obtain ⟨o,p,h2⟩:=rS
  exact ry k n (qr o (G o p) h2)<|hk W2 hp (l1.trans l2) H
theorem tO.rev {k:dB}{o:List V}(s:noStar L=true)(hf:TE C d B M (.Name q e) f (.con<|.type "reversed") f)(x:TE C d B M L f (.lst o) j)(i:zv b):tO C d B M (.Call (.Name q e) [L] [] k) b f o.reverse N j:=λv A H I ha QQq E g=>by
 refine hY<|hf v A H I ha _ _ λn c T U4 G=>?_
 subst G;refine Q (rO<|by simp[s])<|Q (sv ..)<|iq (vQ [L])<|yE (tx.cons x .nil) I U4 _ _ λq9 ar uW ri wU=>rG wU λQW U=>Q QW ?_
 generalize ar.pos=p at *
 obtain ⟨_,_,rfl,S9,rn⟩:=U.inv;refine Q rn.inv ?_;obtain ⟨a,vs,h,rfl,e1,r⟩:=S9.inv;have z:=ri.H.I _ _ e1;refine Ht z ?_;have pe:=t8 (W:=q9) { cls:=.type "list_reverseiterator",data:=.fields #[.ref a,fI ((vs.toArray.size:Int)-1)] };refine EC (ry _ (bb _ rfl) rfl rfl) ?_;exact uu i g ((T.trans uW).trans pe.le) (ri.rz pe) (uH ri.H rfl) (bw ri.lt) (TM (cy<|bR z) (qG.mono r pe.le) λW2 yt l2 H2=>⟨_,H2.I _ _<|l2.I _ _ e1,rfl,h,rfl⟩)<|ry vs.length (bW _) (ry _ (bb _ rfl) rfl rfl) ⟨_,aY _ z,rfl,h,rfl⟩
end
end Vm
end
noncomputable section
set_option tactic.hygienic true
namespace Vm
theorem EK {U:aj->ay->Prop}(c:s.heap.IsTupleIter it t i)(u:s.heap.IsTuple t items)(hQ:∀v j,items[i]?=Y v->j.IsTupleIter it t (i+1)->fg it s.heap j->U v { s with heap:=j })(hE:items[i]?=N->A.handled=N/\∀j w,nU it s.heap j->(∃o,j.get? w=Y o/\o.cls=.type "StopIteration")->E (.ref w) { s with heap:=j }) :
  wpAny (model G n) A (o9<|.ref it) U E s:=by
 obtain ⟨o,e,p,q⟩:=id c;obtain ⟨x,z,_,y,H⟩:=u;refine af (g8 c.typeIs F.slot_tuple_iterator_next
  <| iw F.slot_tuple_iterator_next c.typeIs F.entry_tuple_iterator_next ?_<|F.args_tuple_iterator_next_1 _)
 refine (?_:wpAny _ _ (field (.ref it) 0>>=_) _ _ s);refine af<|j4 e q rfl<|Q (qn<|show ¬((jm t==aj.none)=true) from dq)<|af<|j4 e q rfl<|af<|m6 z H ?_
 cases k:items[i]? with
 |some v=>
  simp only[dU,k];exact af<|m5 e q (ag _)<|wpAny_pure<|qr v rfl<|wpAny_pure<|hQ v _ k ⟨_,d9 _ e<|nJ<|iY q _,(oT ..).trans p,Q (iY q ..) rfl⟩<|cT ..
 |none=>
  obtain ⟨I,hE⟩:=hE k;simp only[dU,k];refine af<|m7<|af<|m5 e q (by simp)<|af<|af<|fZ (af<|iH (by first|rfl|(rfl;rfl))<|fZ (af<|wpAny_handled ?_)<|by size_fits)<|by size_fits
  first|refine Q (show A.in1.handled=N from I) ?_|rw[I]
  exact af<|wpAny_pure<|wpAny_throw<|hE _ _ (((cT ..).extBut.push _).push _)<|qr _ (bb _ rfl) rfl
theorem UL (hh:A.handled=N)(it t)(zP:t≠it)(items:Array aj):Draws prog w A it [it,t] items.size (λi v=>items[i]?=Y v) λi h=>h.IsTupleIter it t i/\h.IsTuple t items where
 live:=λ_ _ st=>let ⟨o,ho,_⟩:=st.1;⟨o,ho⟩
 frame:=λ_ _ _ st hk=>⟨let ⟨o,e,r⟩:=st.1;(qr o (hk it (.head _) o e) r),let ⟨o,e,r⟩:=st.2;(qr o (hk t (.tail _<|.head _) o e) r)⟩
 item:=λi s QQq E hi st hQ=>EK st.1 st.2 (λx h' hx ah4 Aq=>hQ x h' s.toks hx ⟨ah4,st.2.extBut Aq.extBut zP⟩ Aq) λz=>by rw[eW hi] at z;exact Vm.sN z
 done:=λs QQq E st hE=>EK st.1 st.2 (λx h' hx _ _=>by rw[Array.getElem?_eq_none<|ag _] at hx;exact Vm.nS hx) λ_=>⟨hh,hE⟩
set_option maxHeartbeats 1000000 in
theorem FU (v)(a)(c) :
  Meets (fH.«enumerate.__new__» ⟨[.type "enumerate",.ref v],[]⟩) (λ_ b U=>U.heap.get? v=Y ⟨.type "tuple",N,.seq a c,#[]⟩/\
   b (.ok (.ret (.ref (U.heap.push { cls:=.type "tuple_iterator",data:=.fields #[.ref v,.int 0 0] }).objs.size)))
    { U with heap:=(U.heap.push { cls:=.type "tuple_iterator",data:=.fields #[.ref v,.int 0 0] }).push { cls:=.type "enumerate",data:=.fields #[.none,.bool false,.ref U.heap.objs.size,fI 0,.none,.none] } }):=
 .of_wp λG n T b U t=>by
  obtain ⟨i,H,d,h,u⟩:=U;obtain ⟨e,t⟩:=t;have j:=sub_enumerate;have w:fP.IsTuple (ay.heap ⟨i,H,d,h,u⟩) v a:=⟨_,e,rfl,c,rfl⟩
  wp_walk using gf e
  refine wpAny_stack_any λf=>wpAny_pure ?_
  split
  .rename_i L _ _ _ _ _
   cases (L==dk "enumerate")
   .wp_walk using gf e,jj w
    exact ⟨_,rfl,t⟩
   .wp_walk using gf e,jj w
    exact ⟨_,rfl,t⟩
  .wp_walk using gf e,jj w
   exact (qr _ rfl t)
theorem Hu {v:bK}{U:aj->ay->Prop}(e:s.heap.get? v=Y ⟨.type "tuple",N,.seq a c,#[]⟩)(g:∀i,p6 i (s.heap.objs.size+1) s.heap.objs.size 0 .none->i.IsTupleIter s.heap.objs.size v 0->(∀q o,s.heap.get? q=Y o->i.get? q=Y o)->U (.ref<|s.heap.objs.size+1) { s with heap:=i }) :
  wpAny (model G n) A (call (.type "enumerate") [.ref v]) U E s:=by
 refine callType_new F.called_enumerate rfl (F.typeCall_enumerate_1 _) (F.newCall_enumerate_1 _) (λt=>F.args_object_init_2 t _) F.entry_enumerate_new
  (FU v a c) ⟨e,?_⟩
 refine Q (lN ..) ?_;have w:p6 ((s.heap.push { cls:=.type "tuple_iterator",data:=.fields #[.ref v,.int 0 0] }).push
   { cls:=.type "enumerate",data:=.fields #[.none,.bool false,.ref s.heap.objs.size,fI 0,.none,.none] }) (s.heap.objs.size+1) s.heap.objs.size 0 .none:=by
  have:=bb (s.heap.push { cls:=.type "tuple_iterator",data:=.fields #[.ref v,.int 0 0] })
   (o:={ cls:=.type "enumerate",data:=.fields #[.none,.bool false,.ref s.heap.objs.size,fI 0,.none,.none] }) rfl
  rw[lN ..] at this;exact this
 exact ⟨qr _ w rfl,g _ w (ry _ (aY _<|bb _ rfl) rfl rfl) λq o p=>aY _<|aY _ p⟩
end Vm
end
noncomputable section
namespace Vm
section
variable {j U f w G L:St}
theorem q7.VR {D:List bK}{s':ay}(H:qY C hp W)(k:∀b o,b∉D->W.s.heap.get? b=Y o->s'.heap.get? b=Y o)(hD:vT C W D)(hg:s'.gens=W.s.gens)(ho:s'.os=W.s.os)(ht:W.s.toks<=s'.toks):q7 C W.G W.σ hp s' where
 I a o e:=k a o (λq=>(hD a q).elim λJ z=>by rw[z.I] at e;exact Vm.nS e)<|H.I a o e
 F a o e:=k a o (λq=>(hD a q).elim λJ z=>by rw[z.F] at e;exact Vm.nS e)<|H.F a o e
 IF:=H.IF
 top:=H.top
 tab P hP:=(H.tab P hP).elim λa h=>td a h.1 h.2.1<|h.2.2.elim λo h=>qr o (k P o (λq=>(hD P q).elim λJ z=>z.T hP) h.1) h.2
 len:=H.len
 nd:=H.nd
 rY i a e:=(H.rY i a e).elim λp h=>rj p h.1<|h.2.elim λo h=>⟨o,h.elim λob h=>ry ob h.1 (k a ob (λq=>(hD a q).elim λJ z=>z.σ<|bG e) h.2.1) h.2.2⟩
 gens:=hg.trans H.gens
 os:=ho.trans H.os
 pos:=ai H.pos ht
 T t x e:=⟨(H.T t x e).1,ai (H.T t x e).2 ht⟩
theorem Rm {t:List V}{P:Nat->aj->Prop}{d:Nat->fP->Prop}{pos:dB}(D:∀u:Around,u.handled=N->Draws C.prog C.w u it fp t.length P d)(c:e≠it)(hef:e∉fp)(A:it∈fp)(hP:∀h v,P h v->∃x,t[h]?=Y x/\qw C W x v)(hre:∀h (W1 W2:Wd) hp,W.uN W1->W1.uN W2->qY C hp W2->(∀o,W1.s.heap.get? it=Y o->W2.s.heap.get? it=Y o)->d h W1.s.heap->d h W2.s.heap) :
  LoopAt C (.Tuple elts n pos) e [e,it] (t.zipIdx.map λx=>.tup [.int x.2,x.1]) N W λh i=>(∃old,p6 i e it h old)/\d h i:=by
 have hl:(t.zipIdx.map λx=>V.tup [.int x.2,x.1]).length=t.length:=by refine Q (ao ..)<|Q (List.length_zipIdx ..) rfl
 have mem:∀{b:bK},b∉[e,it]->b≠e/\b≠it:=λi=>⟨λz=>i<|z▸.head _,λz=>i<|z▸.tail _ (.head _)⟩
 refine td (λu hA h hp W1 QQq p T uO lw H hD hS hq=>?_) (λu hA hp W1 QQq p lw H hD hS hq=>?_) (λu hA h s QQq p hS hq=>hS.1.elim λR he=>qd he hq) λh W1 W2 hp l1 l2 H g k hS=>?_
 .rw[hl] at uO
  obtain ⟨⟨old,he⟩,hs⟩:=hS;obtain ⟨oe,Z8⟩:=hD e (.head _);obtain ⟨oi,ahG⟩:=hD it (.tail _<|.head _);refine wpAny_toks<|wpAny_pyNext_enum_itemD (D u.in1 hA) he hs uO c hef λx h' tk hPx ho Aq hT hz hk Bq=>qr _ rfl<|wpAny_letOwnedTupleGo_enum ho λq he2 VX=>?_
  have V4:∀b o,b∉[e,it]->W1.s.heap.get? b=Y o->q.get? b=Y o:=λb o hb y=>(VX.2 b (mem hb).1).trans<|hk b o (mem hb).1 (mem hb).2 y
  have lI:W1.le ⟨W1.G.vr W1.s.heap.objs.size ⟨.type "tuple",N,.seq #[.int h tk,x] 0,#[]⟩,W1.σ,{ W1.s with heap:=q,toks:=tk+1 }⟩:=⟨Gh.wK H.sF,rm.refl _⟩;refine qt (hP h x hPx) λxv hx rx=>?_
  have off:∀{a:bK}{o:gA},Off C W1 a o->∀{I:gA},q.get? a=Y I->Off C ⟨W1.G.vr W1.s.heap.objs.size ⟨.type "tuple",N,.seq #[.int h tk,x] 0,#[]⟩,W1.σ,{ W1.s with heap:=q,toks:=tk+1 }⟩ a I:=λ{a o} i {I} e=>⟨e,(Gm.sr<|cy<|bR i.at_).trans i.I,i.F,i.σ,i.T⟩
  obtain ⟨oi',QY⟩:=((D u.in1 hA).live _ _ Aq);refine hq _ (.tup [.int h,xv]) _ (by refine Q aZ<|Q List.getElem?_zipIdx<|Q hx ?_;simp) (.tup (Gm.rP _ _ _)<|.cons (.int _ _)<|.cons (Rep.mono (lw.T.trans lI.G.T) (lw.I.trans lI.G.I) (lw.σ.trans lI.σ) rx) .nil) lI ((q7.VR (s':={ W1.s with heap:=q,toks:=tk+1 }) H V4 hD rfl rfl Bq).freeze ((VX.2 _<|bw<|bR Z8.at_).trans hT) H.sF H.wo H.vq H.freshT) (λb hb=>?_) (λa o hb z=>off z<|V4 a o hb z.at_) ⟨⟨x,by exact_mod_cast he2⟩,(D u.in1 hA).frame _ _ _ Aq λb hb o y=>(VX.2 b λz=>hef<|J z hb).trans y⟩;rcases aE.mp hb with rfl|hb
  .exact NR _<|off Z8 he2
  .exact Q (aN.mp hb)<|NR _<|off ahG<|(VX.2 _<|fK c).trans QY
 .rw[hl] at hS
  obtain ⟨⟨old,he⟩,hs⟩:=hS;refine wpAny_toks<|wpAny_pyNext_enum_endD (D u.in1 hA) he hs λh' hx Bq=>hq ⟨W1.G,W1.σ,{ W1.s with heap:=h' }⟩ ⟨Gh.le.refl _,rm.refl _⟩ (q7.VR (W:=W1) H (λb o hb y=>hx b o (mem hb).2 y) hD rfl rfl Bq) λa o hb z=>⟨hx a o (mem hb).2 z.at_,z.I,z.F,z.σ,z.T⟩
 .obtain ⟨⟨old,he⟩,hs⟩:=hS;exact ⟨⟨old,k e (.head _) _ he⟩,hre h W1 W2 hp l1 l2 H (k it<|.tail _<|.head _) hs⟩
theorem SV {pos:dB}{l:List V}(hn:noStar a=true)(hf:TE C d B M (.Name x np) j (.con<|.type "enumerate") j)(h1:TE C d B M a j k f)(hv:O0 k=Y l) :
  tO C d B M (.Call (.Name x np) [a] [] pos) (.Tuple elts n tp) j (l.zipIdx.map λx=>.tup [.int x.2,x.1]) N f:=λA env W I ha QQq E g=>by
 refine hY<|hf A env W I ha _ _ λakQ c T U4 ahl=>?_
 subst ahl;refine Q (rO<|by simp[hn])<|Q (sv ..)<|iq (vQ [a])<|yE (tx.cons h1 .nil) I U4 _ _ λq9 ar uW ri wU=>rG wU λQW sC=>Q QW ?_
 generalize ar.pos=p at *
 obtain ⟨c,_,rfl,S9,rn⟩:=sC.inv;refine Q rn.inv ?_;have S8:=S9.rC;have fin:∀(h':fP)(D:Around->Prop){P:Nat->aj->Prop}{Sx:Nat->fP->Prop}{fp:List bK},p6 h' (q9.s.heap.objs.size+1) q9.s.heap.objs.size 0 .none->(∀b o,q9.s.heap.get? b=Y o->h'.get? b=Y o)->Sx 0 h'->
   (∀A:Around,A.handled=N->Draws C.prog C.w A q9.s.heap.objs.size fp l.length P Sx)->q9.s.heap.objs.size+1∉fp->q9.s.heap.objs.size∈fp->(∀i k,P i k->∃x,l[i]?=Y x/\qw C q9 x k)->
   (∀i (W1 W2:Wd) hp,q9.uN W1->W1.uN W2->qY C hp W2->(∀o,W1.s.heap.get? q9.s.heap.objs.size=Y o->W2.s.heap.get? q9.s.heap.objs.size=Y o)->Sx i W1.s.heap->Sx i W2.s.heap)->
   wpAny (model C.prog C.w) A (pyIter<|.ref<|q9.s.heap.objs.size+1) QQq E { q9.s with heap:=h' }:=λh' R {P Sx fp} v hk hS hD h1 h2 hP hre=>by
  refine qd v ?_;have pe:xp C q9 ⟨q9.G,q9.σ,{ q9.s with heap:=h' }⟩:=(Pext0.ext (s':={ q9.s with heap:=h' }) hk rfl rfl).strict<|ag _
  have off:∀{b:bK}{o:gA},q9.s.heap.objs.size<=b->h'.get? b=Y o->Off C ⟨q9.G,q9.σ,{ q9.s with heap:=h' }⟩ b o:=λ{b o} hb e=>by
   have hn:q9.s.heap.get? b=N:=jR hb;refine ⟨e,none_of λo q=>?_,none_of λo q=>?_,λz=>?_,λz=>?_⟩
   .have:=ri.H.I b o q;rw[hn] at this;exact Vm.nS this
   .have:=ri.H.F b o q;rw[hn] at this;exact Vm.nS this
   .obtain ⟨i,hi,q⟩:=cK z;refine qN (ri.H.rY i b<|J q<|aD hi) λR R xY=>?_;refine qZ xY λR R R p R=>?_
    rw[hn] at p;exact Vm.nS p
   .refine uQ (ri.H.tab b z) λR R R yq=>qt yq λo p R=>?_
    rw[hn] at p;exact Vm.nS p
  obtain ⟨oi,hi⟩:=(hD A I.1).live _ _ hS;refine g ⟨q9.G,q9.σ,{ q9.s with heap:=h' }⟩ _ _ (λi g=>(∃h,p6 g (q9.s.heap.objs.size+1) q9.s.heap.objs.size i h)/\Sx i g) ((T.trans uW).trans pe.le) (ri.rz pe) (λb hb=>?_) (λz=>?_) ((Rm hD (kU _) h1 h2 hP hre).up pe.le.uN) ⟨⟨_,v⟩,hS⟩
  .rcases aE.mp hb with rfl|hb
   .exact NR _<|off (cZ _) v
   .exact Q (aN.mp hb) ⟨_,off (ag _) hi⟩
  .have hL:=ri.lt;rcases aE.mp z with e|z
   .rw[e] at hL;exact absurd hL<|cV.mpr<|cZ _
   .rw[aN.mp z] at hL;exact b9 _ hL
 have Wy:∀{y:ba}{t:pJ}{ty:String},l=y.cps.toList.map (λc=>.str<|one c)->c=.str y t->strIterType y=ty->(∀A:Around,A.handled=N->Draws C.prog C.w A q9.s.heap.objs.size [q9.s.heap.objs.size] y.cps.size (λi k=>∃c u,y.cps[i]?=Y c/\k=.str ⟨#[c]⟩ u) (λi g=>g.IsStrIter q9.s.heap.objs.size ty y t i))->
   wpAny (model C.prog C.w) A (call (.type "enumerate") [c]) (λx Zq=>wpAny (model C.prog C.w) A (pyIter x) QQq E Zq) E q9.s:=λ{y t ty} hl hc hty hD=>by
  subst hl hc hty;refine call_enumerate_str λh' v hit R hk=>fin h' (λR=>True) (P:=λi k=>∃c u,y.cps[i]?=Y c/\k=.str ⟨#[c]⟩ u) v hk hit (Q (ao ..)<|Q (cH ..) hD) (λz=>kU _<|aN.mp z) (.head _) (λi k rS=>zA rS λc u e hv=>qr (.str<|one c) (by refine Q aZ<|Q fQ<|Q e ?_;rfl)<|Q hv<|.str _ _)
   λi W1 W2 hp R R R hI j=>let ⟨o,e,r⟩:=j;(qr o (hI o e) r)
 have hv:(match rC k with|.tup l=>Y l|.str s=>Y<|s.cps.toList.map λc=>V.str<|one c|_=>N)=Y l:=hv;generalize rC k=u at hv S8
 cases u with
 |tup l'=>
  obtain rfl:=ae hv;obtain ⟨t,vs,n1,rfl,e1,r⟩:=S8.inv;have e2:=ri.H.I _ _ e1;have lt:=bR e2;refine Hu e2 λh' v hit hk=>fin h' (λR=>True) (P:=λi k=>vs.toArray[i]?=Y k) (Sx:=λi g=>g.IsTupleIter q9.s.heap.objs.size t i/\g.IsTuple t vs.toArray) (fp:=[q9.s.heap.objs.size,t]) v hk ⟨hit,⟨_,hk _ _ e2,rfl,_,rfl⟩⟩ (λA hA=>?_) (λz=>?_) (.head _) (λi k hv=>r.at<|by simpa using hv) λi W1 W2 hp l1 l2 H hI j=>⟨let ⟨o,e,r⟩:=j.1;(qr o (hI o e) r),⟨_,H.I _ _<|l2.I _ _<|l1.I _ _ e1,rfl,_,rfl⟩⟩
  .exact Q (show l'.length=vs.toArray.size from r.length)<|UL hA q9.s.heap.objs.size t (cy lt) vs.toArray
  .rcases aE.mp z with z|z
   .exact kU _ z
   .rw[<- aN.mp z] at lt;exact absurd lt<|cV.mpr<|cZ _
 |str y=>
  obtain ⟨t,rfl⟩:=S8.inv;have hl:=(ae hv).symm
  cases hc:y.cps.all (·<128)
  .exact Wy hl rfl (by delta strIterType;exact Q hc rfl) λA hA=>Draws.strWide hA _ y t
  .exact Wy hl rfl (by delta strIterType;exact Q hc rfl) λA hA=>Draws.strAscii hA _ y t
 |_=>exact nS hv
end
end Vm
end
noncomputable section
namespace PySem
section
variable {K:Type} [DecidableEq K] {c:pL prog w K}
theorem Dt {QQq:Unit->ay->Prop}(e:c.is G key=true)(T:s.heap.DictOf c d a)(hQ:∀i,i.DictOf c d (stored a G b)->fg d s.heap i->QQq () { s with heap:=i })(hsz:a.length<=j6) :
  wpAny (model prog w) A (oH d (c.hash G) key b) QQq E s:=by
 obtain ⟨H,j,o,p,q,n,t,hp,x⟩:=T;refine af<|wpAny_dictFind_of e p n t ?_
 have ON:(j.findIdx? λg=>c.is G g.key)=a.findIdx? λkv=>decide<|kv.1=G:=by refine J (hp.findIdx G) ?_;obtain ⟨f⟩:=j;simp
 cases v:j.findIdx? λg=>c.is G g.key with
 |some u=>
  refine wpAny_updateDict p n<|hQ _ (Ec _ _ o (d9 _ p<|oy<|pn n _) (q.mapDict _) (pn n _) (t.modify _ _) ?_ ?_)<|cT ..
  .rw[stored,qm<|pH<|ON▸v];have hl:(j.toList.findIdx? λg=>c.is G g.key)=Y u:=by refine J v ?_;obtain ⟨f⟩:=j;simp
   obtain ⟨f⟩:=j
   simpa using (hp.modify x hl b)
  .rw[stored,qm<|pH<|ON▸v,keys_map_store];exact x
 |none=>
  have I:¬(a.any λkv=>decide<|kv.1=G)=true:=by rw[hU];intro U;exact qt U λkv V3 k=>(ot<|J ON v:G∉a.map (·.1))<|bZ.mpr ⟨kv,V3,of_decide_eq_true k⟩
  refine wpAny_updateDictKeys (hz:=J (cH)<|Q hp.length hsz) p n<|hQ _ (Ec _ _ (o+1) (d9 _ p<|oy<|nX n _) (q.mapDictKeys _) (nX n _) (t.push e _) ?_ ?_)<|cT ..
  .rw[stored,qn I];obtain ⟨f⟩:=j
   simpa using (hp.append e (c.hash G) b)
  .rw[stored,qn I,bN,i_];refine ⟨x,by simp,?_⟩;intro h L y hy;simp only[bC,jD,aN] at hy
   refine Q hy ?_;clear hy;exact λz=>(ot<|J ON v:G∉a.map (·.1))<|J z L
theorem Sn {QQq:Unit->ay->Prop}(f:d≠a)(ha:(a==fS)=false)(T:s.heap.DictOf (fh prog w) d b)(hm:s.heap.DictOf (fh prog w) a more)(G:b.length+more.length<=j6)(hQ:∀h',h'.DictOf (fh prog w) d (merged b more)->h'.DictOf (fh prog w) a more->fg d s.heap h'->QQq () { s with heap:=h' }) :
  wpAny (model prog w) A (mergeMapping d (.ref a) false) QQq E s:=by
 obtain ⟨o,I,L,V1,hca,n,hka,y,x⟩:=id hm;obtain ⟨v,es0,ep0,z,hcd,H,u,g,hnd⟩:=id T;have hlen:more.length=I.size:=J y.length cH;have loop:wpAny (model prog w) A (do
   let size:=(← j9 a).size;let aeG←dictEpoch a
   for i in aq size do
    let Y e:=(← j9 a)[i]?|unsupported "dict.changed-during-merge"
    gx [e.key,e.val] do
     if false=true then
      if (← pf d e.key e.hash).isSome then do rule "dict.merge.duplicate-key";raiseNew (← newExc (.type "KeyError") [e.key])
     oH d e.hash e.key e.val
    if (← dictEpoch a) != aeG then pb "dict.changed-during-merge") QQq E s:=by
  refine af<|jA V1 n<|af<|wpAny_dictEpoch V1 n<|Q (dm ..) ?_
  refine af<|wpAny_forIn_list _
   (λj W s'=>∃h' i,s'={ s with heap:=h' }/\j=dn i (I.size-i)/\i<=I.size/\h'.DictOf (fh prog w) d (merged b<|more.take i)/\h'.get? a=Y o/\fg d s.heap h')
   _ ?_ ?_ _ _ (Hz s.heap 0 rfl rfl (dZ _) (by simpa[merged] using T) V1<|fg.refl _ _)
  .intro U j q s' hI;refine Vm.gk λP kP=>?_
   obtain ⟨h',i,k,hr,hi,Q0,JJ,Aq⟩:=hI;have uO:i<I.size:=(Nat.lt_or_ge i I.size).elim id λh=>by rw[jN h] at hr;exact nomatch hr
   have e:I.size-i=(I.size-(i+1))+1:=NG uO;revert hr;refine Q e<|Q (f9 ..) ?_;intro hr
   have hx:U=i:=(fF hr).1;have V3:=aD<|Q hlen uO
   have yt:=y.get? (by refine Q fQ ?_;exact eW uO) V3;refine qt (hka I[i]<|Array.getElem_mem uO) λp aek aem=>kP<|Q k<|Q hx<|af<|jA JJ n<|Q (eW uO) ?_
   dsimp only;exact Q (qn dq)<|Q aem<|Q ((fh prog w).inj _ _ _ aek yt.1)<|Q yt.2<|af<|cU<|Dt (hsz:=aa (merged_length_le b<|more.take i)<|aa (aP (nP ..) _) G) yt.1 Q0 λh'' ah6 T1=>af<|wpAny_dictEpoch ((T1.2 a<|fK f).trans JJ) n<|Q (qn<|by exact Q (bne_self_eq_false ..) dq)<|wpAny_pure<|Hz h'' (i+1) rfl ((fF hr).2) uO (Q (merged_take_succ b more i _ V3) ah6) ((T1.2 a<|fK f).trans JJ)<|Aq.trans T1
  .intro q s' hI;refine Vm.gk λP kP=>?_
   obtain ⟨h',i,k,hr,hi,Q0,JJ,Aq⟩:=hI;revert Q0;refine Q (fO hi<|Nat.le_of_sub_eq_zero<|List.range'_eq_nil_iff.mp hr.symm)<|J hlen<|Q (oY ..) ?_;intro Q0
   exact kP<|J k.symm<|wpAny_pure<|hQ h' Q0 (Ec o I L JJ hca n hka y x) Aq
 refine af<|af<|wpAny_typeOf hm.typeIs<|iH PySem.F.sub_dict_dict<|Q (qm rfl)<|af<|iU hm.typeIs PySem.F.slot_dict_iter.lookup<|af<|wpAny_pure ?_
 have e1:((Y<|hH "dict.__iter__")==Y (hH "dict.__iter__"))=true:=rfl;refine Q e1 ?_;dsimp only;refine Q (qn<|by exact Q ha dq)<|af<|jA z H ?_
 split
 .refine af<|jA V1 n<|af<|J (Array.forIn_toList ..)<|wpAny_forIn_list _ (λj W s'=>s'=s/\∀e∈j,e∈I.toList) _ ?_ ?_ _ _ ⟨rfl,λW h=>h⟩
  .exact λe j q s' hI=>(hka e<|Array.mem_toList_iff.mp<|hI.2 e<|.head _).elim λp hk=>(nH hk.1).elim λt ht=>Q ht<|wpAny_pure ⟨hI.1,λU hx=>hI.2 U<|.tail _ hx⟩
  .exact λq s' hI=>J hI.1.symm loop
 .exact loop
end
def Ah (L:Model)(T:Around)(v:bK)(I:aj->ay->Prop)(d:aj->ay->Prop):List (gH aj)->ay->Prop
 |[]=>@λU=>I (.ref v) U
 |t::a=>@λU=>wpAny L T t (λs u=>wpAny L T (mergeMapping v s false) (λJ b=>Ah L T v I d a b) (λJ J=>False) u) d U
theorem WZ {y:aj->ay->Prop}(c:ts≠[])(z:Ah (model H n) A U.heap.objs.size y E ts { U with heap:=U.heap.push { cls:=.type "dict",data:=.dict #[] } }) :
  wpAny (model H n) A (mf<|ts.map λv=>(N,v)) y E U:=by
 refine af<|wpAny_forIn_list _ (λj b t=>∃u,j=u.map (λv=>(N,v))/\((b=(N,[])/\u≠[]/\t=U/\u=ts)\/(b=(Y U.heap.objs.size,[])/\Ah (model H n) A U.heap.objs.size y E u t))) _ ?_ ?_ _ _<|qr ts rfl<|.inl<|td rfl c rfl rfl
 .rintro s j b t ⟨u,h,o⟩;have go:∀(v:gH aj)(G:List<|gH aj)(f:ay),Ah (model H n) A U.heap.objs.size y E (v::G) f->∀(p:ForInStep (Option bK×List (gH aj×gH aj))->ay->Prop),(∀I,Ah (model H n) A U.heap.objs.size y E G I->p (.yield (Y U.heap.objs.size,[])) I)->
    wpAny (model H n) A (do
     let e←gx [jm U.heap.objs.size] v
     (((gx [jm U.heap.objs.size,e]<|mergeMapping U.heap.objs.size e false).onRaise λs=>do
           let _←gx [jm U.heap.objs.size,e,s] (runValue<|Code.builtin "proto.let_go" { })
           pure ()).tryCatch
         λh=>do
         let vR←isInstance h (dk "AttributeError")
         have a:Unit->gH Unit:=λg=>throw h
         if vR=true then do
           rule "dict.display.not-a-mapping"
           let vR←typeNameOf e
           let g ←
            raiseErrorMade "TypeError"
              (toString "'"++toString vR++toString "' object is not a mapping")
           a g
          else a ()).onRaise
       λs=>do
       let _←gx [jm U.heap.objs.size,s] (runValue<|Code.builtin "proto.let_go" { })
       pure ()
     pure (ForInStep.yield (Y U.heap.objs.size,[]))) p E f:=by
   intro v G f L p hR;exact af<|cU<|wpAny_mono L (λe I d=>af<|wpAny_onRaise<|wpAny_tryCatch<|wpAny_onRaise<|cU<|wpAny_mono d (λJ T i=>wpAny_pure<|hR T i) λJ J h=>h.elim) λJ J h=>h
  cases u with
  |nil=>cases h|cons v G=>
   rw[bC] at h
   injection h with k q
   subst k q;rcases o with ⟨rfl,_,rfl,rfl⟩|⟨rfl,o⟩
   .exact af<|wpAny_pure<|af<|j5<|go v G _ z _ λI d=>qr G rfl<|.inr ⟨rfl,d⟩
   .exact af<|wpAny_pure<|af<|wpAny_pure<|go v G _ o _ λI d=>qr G rfl<|.inr ⟨rfl,d⟩
 .rintro b t ⟨u,h,o⟩
  cases u with
  |cons v G=>cases h|nil=>
   rcases o with ⟨_,w,_⟩|⟨rfl,o⟩
   .exact absurd rfl w
   .exact af<|wpAny_pure<|wpAny_pure o
end PySem
end
noncomputable section
namespace Vm
section
variable {i g f j:St}
theorem Ie {α v:Type}:∀a:List<|α×v,(a.map (·.1)).zip (a.map (·.2))=a
 |[]=>rfl|(G,p)::a=>by refine Q (bC ..)<|Q (bC ..)<|ax cC<|Q (Ie a) rfl
theorem IK {K:Type} [DecidableEq K] {a:List<|K×aj}{G:K}{s:aj}(x:(a.map (·.1)).Nodup):((e_ a G s).map (·.1)).Nodup:=by
 delta e_
 split
 .have:(a.map λb=>if b.1=G then (b.1,s) else b).map (·.1)=a.map (·.1):=by
   refine ax bk<|dC λb J=>(?_:(if b.1=G then (b.1,s) else b).1=b.1)
   split<;>rfl
  exact Q this x
 .rename_i I;rw[bN,i_];refine ⟨x,by simp,λc e h H=>?_⟩;simp only[bC,jD,aN] at H
  refine Q H ?_;clear H;rintro rfl;exact qt (bZ.mp e) λb p d=>I<|hU.mpr<|qr b p<|decide_eq_true d
theorem Lg {b:List V×List V}(e:wk ks vs (k::u6) (L::vs')=Y b):∃a,tQ ks vs k L=Y a/\wk a.1 a.2 u6 vs'=Y b:=by
 have c:∀a:Option<|List V×List V,(match a with|Y (G,d)=>wk G d u6 vs'|N=>N)=Y b->∃H,a=Y H/\wk H.1 H.2 u6 vs'=Y b:=by
  intro a e
  cases a with
  |none=>exact nS e|some H=>exact qr H rfl e
 exact c _ e
theorem GL {K:Type}[DecidableEq K](o:Kd prog w K){U:cF}:∀{more kvs:List<|K×aj}{u G d L:List V},(kvs.map (·.1)).Nodup->qJ U T I σ u (kvs.map (·.2))->qJ U T I σ G (more.map (·.2))->
  wk ((kvs.map (·.1)).map o.inj) u ((more.map (·.1)).map o.inj) G=Y (d,L)->d=((pW kvs more).map (·.1)).map o.inj/\qJ U T I σ L ((pW kvs more).map (·.2))
 |[],kvs,u,J,d,L,x,r,e,h=>by
  rw[DD e] at h
  obtain ⟨p,n⟩:=b0 (ae h);exact ⟨p.symm,n▸r⟩
 |kc::more,kvs,u,_,d,L,x,r,e,h=>by
  refine qZ (Gw e) λk a z b e=>?_
  rw[z] at h
  refine qt (Lg h) λt H h=>?_;obtain ⟨q,v⟩:=t
  refine rG (BJ o b x (by simp) r H) λc s=>?_
  rw[Ie] at c s
  rw[c] at h
  exact GL o (kvs:=e_ kvs kc.1 kc.2) (IK x) s e h
theorem Hq {n:List V}{b:List V×List V}(e:mergeAll ks vs (k::n)=Y b) :
  ∃u G a,k=.ru u G/\(u.all uY=true/\ks.length+u.length<=65536)/\wk ks vs u G=Y a/\mergeAll a.1 a.2 n=Y b:=by
 cases k with
 |ru u G=>
  have c:∀a:Option<|List V×List V,(match a with|Y (d,I)=>mergeAll d I n|N=>N)=Y b->∃H,a=Y H/\mergeAll H.1 H.2 n=Y b:=by
   intro a e
   cases a with
   |none=>exact nS e|some H=>exact qr H rfl e
  exact qX (e:(if u.all uY=true/\ks.length+u.length<=65536 then (match wk ks vs u G with|Y (d,I)=>mergeAll d I n|N=>N) else N)=Y b) λt e=>(c _ e).elim λa o=>Ed u G a rfl t o
 |_=>exact nS e
theorem SK (a:List ba):(a.map V.str).all uY=true:=ax jF<|dz.mpr λJ J=>rfl
theorem PY {L:kN}(c:v≠L.locals){QQq:ay->Prop}{u:List V}(ri:At C B M L i a)(wz:Off C a v ob)(I:rB C.w.params a.G.T a.G.I a.σ ob<|.dict ks vs)(sC:qw C a (.ru u vv) s)(hk:ks.all uY=true)(t:u.all uY=true/\ks.length+u.length<=65536)(em:wk ks vs u vv=Y p)(d:∀h' Am,a.le ⟨a.G,a.σ,{ a.s with heap:=h' }⟩->At C B M L i ⟨a.G,a.σ,{ a.s with heap:=h' }⟩->Off C ⟨a.G,a.σ,{ a.s with heap:=h' }⟩ v Am->rB C.w.params a.G.T a.G.I a.σ Am (.dict p.1 p.2)->p.1.all uY=true->QQq { a.s with heap:=h' }) :
  wpAny (model C.prog C.w) A (mergeMapping v s false) (λW=>QQq) (λW W=>False) a.s:=by
 refine gk λP k=>?_
 obtain ⟨xs,ex⟩:=strs_of_all hk;obtain ⟨ys,ey⟩:=strs_of_all t.1;rw[ex] at I em
 rw[ey] at sC em
 obtain ⟨q,Dc,n,H,ei,kap,en⟩:=sC.inv;obtain ⟨akF,h,eo,kd,end_⟩:=I.inv;obtain ⟨cv,b⟩:=Ay (vy C.prog C.w) ⟨_,J eo wz.at_⟩ kd end_;obtain ⟨cv2,w⟩:=Ay (vy C.prog C.w) ⟨_,ri.H.I _ _ ei⟩ kap en;have z1:=d_<|aK b.len
 have hsz:(xs.zip cv).length+(ys.zip cv2).length<=j6:=by
  have:=t.2;rw[ex,ey,ao,ao] at this
  exact Q (ir ..)<|Q (ir ..)<|J (b.len ..)<|J (w.len ..)<|Q (iM ..)<|Q (iM ..)<|aa this<|by decide
 obtain ⟨q1,q2⟩:=GL (vy C.prog C.w) (more:=ys.zip cv2) (J z1.symm<|kd.nodup<|vy C.prog C.w) ((hO<|aK b.len.symm).symm▸b.rep) ((hO<|aK w.len.symm).symm▸w.rep) (Q z1<|Q (d_<|aK w.len) em);refine k<|Q H<|PySem.Sn (λz=>nS<|wz.I.symm.trans<|(qo a.G.I z).trans ei) (beq_eq_false_iff_ne.mpr λz=>nS<|(ri.H.tab _ C.sys).1.symm.trans<|(qo a.G.I z).symm.trans ei) b.dict w.dict hsz λh' hd W hs=>qZ (zo (vy C.prog C.w) hd q2) λx T e1 e2 G=>?_
 rw[<- q1] at e2 G
 have JK:∀b' o,b'≠v->a.s.heap.get? b'=Y o->h'.get? b'=Y o:=λb' o z e=>(hs.2 b' z).trans e
 exact d h' _ ⟨Gh.le.refl _,rm.refl _⟩ ⟨ri.ok,ri.H.keep _ JK wz.I wz.F wz.σ wz.T rfl rfl<|ag _,⟨by
  refine qt ri.L.ns λm U y=>?_
  obtain ⟨o,es,ep,z,rest⟩:=U;exact qr m (wR o es ep (JK _ _ c.symm z) rest) y,ri.L.I,ri.L.F,ri.L.σ,ri.L.T⟩⟩ ⟨e1,wz.I,wz.F,wz.σ,wz.T⟩ (.dict e2 G)<|Q q1<|SK _
theorem Lz {p:kN}(L:rl d A)(c:a≠p.locals){QQq:aj->ay->Prop}{w:aj->ay->Prop}:∀{U:List a7}{ls:List V}{i g:St}{W:Wd}{ob:gA}{u G u6 vs':List V}{pos:dB},tx C d B M U i ls g->At C B M p i W->Off C W a ob->
  rB C.w.params W.G.T W.G.I W.σ ob (.dict u G)->u.all uY=true->mergeAll u G ls=Y (u6,vs')->
  (∀W' Am,W.le W'->At C B M p g W'->Off C W' a Am->rB C.w.params W'.G.T W'.G.I W'.σ Am (.dict u6 vs')->QQq (.ref a) W'.s)->
  PySem.Ah (model C.prog C.w) A a QQq w ((evalEach U p).map λv=>do let x←v;eu pos;pure x) W.s
 |[],P,i,g,W,ob,u,G,u6,vs',pos,t,ha,z,r,hk,hm,hQ=>by
  refine rG t.BR λn e2=>?_
  rw[n] at hm
  exact rG (b0<|ae hm) λH e4=>hQ W ob (Wd.le.refl _) (J e2 ha) z<|J H<|J e4 r
 |e::U,_,i,_,W,ob,u,G,u6,vs',pos,t,ha,z,r,hk,hm,hQ=>by
  refine Eh t.Mu λv ls st1 k h1 s=>?_
  rw[k] at hm
  exact Eg (Hq hm) λkk vv b k hh em hm=>af<|zO (R:=λT I q h=>Rep C.w.params T I q v h) z (h1 A p _ L<|ha.hold z c) _ _ λq9 h uW y sC wz=>af<|wpAny_standAt<|wpAny_pure<|PY c y wz (r.mono uW.G.T uW.G.I uW.σ) (J k sC) hk hh em λh' Am l a o r u=>Lz L c s a o r u hm λW' Am l2 a o r=>hQ W' Am ((uW.trans l).trans l2) a o r
theorem C3 {e:dB}:∀{a:List<|Option a7}{n:List a7},a.all (·.isNone)=true->a.length=n.length->
  (evalEachOpt a h).zip ((evalEach n h).map λv=>do let x←v;eu e;pure x)=((evalEach n h).map λv=>do let x←v;eu e;pure x).map λo=>(N,o)
 |[],[]=>@λJ J=>rfl
 |k::a,L::n=>@λp q=>by
  rw[fq,aA] at p
  cases k with
  |some J=>cases p.1|none=>exact qo (mH _)<|C3 p.2<|cE q
 |[],_::_=>@λJ q=>by cases q
 |_::_,[]=>@λJ q=>by cases q
theorem TF.star {h:List<|Option a7}{k:List a7}{e:dB}(p:h.all (·.isNone)=true)(q:h.length=k.length)(c:k≠[])(t:tx C d B M k i ls f)(n:mergeAll [] [] ls=Y (ks,vs)) :
  TF C d B M (.Dict h k e) i (.dict ks vs) f:=λU u v L G H w x=>by
 refine Q (PySem.arm_eval_Dict ..)<|Q (C3 p q)<|af<|wpAny_standAt<|PySem.WZ ?_ ?_
 .intro z
  cases k with
  |nil=>exact c rfl|cons b k=>exact nomatch z
 .skip
  exact Lz L (bw G.lt) t (G.rz<|(Pext0.push _ _).strict<|ag _) (Al G.H rfl) (.dict .nil .nil) rfl n λa o T s A I=>x a _ (((Pext0.push _ _).strict<|ag _).le.trans T) s<|uv _ o rfl (bw G.lt) A I
end
theorem Bc (f:ba×NameKind->List (ba×bK)->gH (ForInStep<|List<|ba×bK))(hf:∀n k c,f (n,k) c=(if (k==.free)=true then do let a←cellOf env n;pure (.yield<|(n,a)::c) else pure (.yield c))) :
  ∀(names:List<|ba×NameKind)(acc:List<|ba×bK),(∀x∈names,x.2=.free->∃a,env.cells.lookup x.1=Y a)->(∀x a,acc.lookup x=Y a->env.cells.lookup x=Y a)->
   ∃cl,forIn names acc f=pure cl/\(∀x a,cl.lookup x=Y a->env.cells.lookup x=Y a)/\(∀x,(∃a,acc.lookup x=Y a)\/(x,.free)∈names->∃a,cl.lookup x=Y a)
 |[]=>@λacc J ha=>ry acc rfl ha λx h=>h.elim id λq=>nomatch q
 |(n,k)::names=>@λacc h ha=>by
  refine Q (gE ..)<|Q (hf ..) ?_
  by_cases hk:(k==NameKind.free)=true
  .refine rN (h (n,k) (.head _)<|by simpa using hk) λa e=>?_
   obtain ⟨cl,c1,c2,c3⟩:=Bc f hf names ((n,a)::acc) (λx hx=>h x<|.tail _ hx) (λx b e'=>by
    rw[bM] at e'
    split at e'
    .rename_i q;(refine Vm.sI e' ?_;clear e';rintro rfl);exact Q (eq_of_beq q) e
    .exact ha x b e')
   refine ry cl ?_ c2 λx hx=>c3 x ?_
   .exact Q (qm hk)<|Q (by delta cellOf;refine Q e rfl:cellOf env n=pure a) c1
   .rcases hx with ⟨b,hb⟩|hx
    .refine .inl<|Q (bM ..) ?_
     split
     .exact ⟨a,rfl⟩
     .exact ⟨b,hb⟩
    .rcases aE.mp hx with q|q
     .cases q
      exact .inl ⟨a,by refine Q (bM ..)<|Q (beq_self_eq_true ..) rfl⟩
     .exact .inr q
  .refine rU (Bc f hf names acc (λx hx=>h x<|.tail _ hx) ha) λcl c1 c2 c3=>ry cl ?_ c2 λx hx=>c3 x ?_
   .exact Q (qn hk) c1
   .rcases hx with hx|hx
    .exact .inl hx
    .rcases aE.mp hx with q|q
     .cases q;exact absurd rfl hk
     .exact .inr q
theorem Bu {f:kN}{v:eV}(b:∀c∈v.names,c.2=.free->∃w,f.cells.lookup c.1=Y w) :
  ∃a,closureFor v f=pure a/\(∀c w,a.lookup c=Y w->f.cells.lookup c=Y w)/\(∀c,(c,.free)∈v.names->∃w,a.lookup c=Y w):=by
 obtain ⟨a,i,d,g⟩:=Bc (λc j=>match c with
  |(p,h)=>do
   if (h==.free)=true then do
    let w←cellOf f p
    pure (.yield<|(p,w)::j)
   else pure (.yield j)) (λJ J J=>rfl) v.names [] b (λJ J e=>nomatch e)
 exact ry a ((qo (·>>=pure) i).trans rfl) d λc k=>g c<|.inr k
noncomputable def ownOf (a:List<|ba×NameKind):List ba:=(a.filter λb=>b.2==.cell).map (·.1)
theorem EI:ownOf ((n,k)::names)=if (k==.cell)=true then n::ownOf names else ownOf names:=by
 delta ownOf;refine Q (dK ..) ?_
 by_cases e:(k==NameKind.cell)=true
 .exact Q (qm e)<|Q (qm e) rfl
 .refine Q (qn e)<|Q (qn e) rfl
structure afd (C:Ctx) (W:Wd) (hp:List O) (names:List<|ba×NameKind) (acc:List<|ba×bK) (as:List bK):Prop where
 len:as.length=(ownOf names).length
 H:qY C (hp++aw (ownOf names).length (.cell none)) ⟨W.G,W.σ++as,{ W.s with heap:=pushCells W.s.heap names }⟩
 own:(ownOf names).Nodup->∀(k:Nat)(x:ba),(ownOf names)[k]?=some x->∃a,as[k]?=some a/\(iy W.s.heap.objs.size names acc).lookup x=some a
 rest:∀x,x∉ownOf names->(iy W.s.heap.objs.size names acc).lookup x=acc.lookup x
 hk:∀b o,W.s.heap.get? b=some o->(pushCells W.s.heap names).get? b=some o
 new:∀a∈as,W.s.heap.get? a=none
theorem HQ:∀(a:List<|ba×NameKind)(f:List<|ba×bK)(s:Wd)(j:List O),qY C j s->∃u,afd C s j a f u
 |[]=>@λf s j T=>⟨[],rfl,by simpa[ownOf,pushCells] using T,λJ c p e=>(nomatch (by simpa[ownOf] using e:False)),λJ J=>rfl,λJ J i=>i,λJ e=>nomatch e⟩
 |(o,c)::a=>@λf s j T=>by
  by_cases n:(c==NameKind.cell)=true
  .skip
   have U:qY C (j++[.cell N]) ⟨s.G,s.σ++[s.s.heap.objs.size],{ s.s with heap:=s.s.heap.push { cls:=.type "cell",data:=.cell N } }⟩:=q7.AN (T.push _<|ag _) (bb _ rfl) T.sF T.wo T.vq T.freshT .aeU
   obtain ⟨u,h⟩:=HQ a ((o,s.s.heap.objs.size)::f) _ _ U;have z:ownOf ((o,c)::a)=o::ownOf a:=by refine Q (EI ..)<|Q (qm n) rfl
   have H:pushCells s.s.heap ((o,c)::a)=pushCells (s.s.heap.push { cls:=.type "cell",data:=.cell N }) a:=by rw[pushCells,qm n]
   have q:iy s.s.heap.objs.size ((o,c)::a) f=iy (s.s.heap.objs.size+1) a ((o,s.s.heap.objs.size)::f):=by rw[iy,qm n]
   have b:=h.own;have d:=h.rest;rw[lN ..] at b d
   refine ⟨s.s.heap.objs.size::u,by refine Q z ?_;simp[h.len],?_,?_,?_,?_,?_⟩
   .skip
    refine Q z<|Q H ?_
    simpa[eE,a9] using h.H
   .refine Q z<|Q q ?_
    intro x t p k;obtain ⟨G,w⟩:=bI.mp x
    cases t with
    |zero=>
     cases (ae k:o=p)
     exact qr _ rfl<|by refine Q (d _ G)<|Q (bM ..)<|Q (beq_self_eq_true ..) rfl
    |succ t=>
     exact qt (b w t p<|by simpa using k) λI L g=>qr I (by simpa using L) g
   .refine Q z<|Q q ?_
    intro p k;rw[aE,not_or] at k
    refine Q (d p k.2)<|Q (bM ..) ?_
    have:(p==o)=false:=beq_eq_false_iff_ne.mpr k.1;refine Q this rfl
   .exact Q H λv y i=>h.hk v y<|aY _ i
   .intro I ha;rcases aE.mp ha with rfl|ha
    .cases A:s.s.heap.get? s.s.heap.objs.size with
     |none=>rfl|some y=>exact absurd (bR A)<|b9 _
    .cases A:s.s.heap.get? I with
     |none=>rfl|some y=>
      have:=h.new I ha;rw[aY { cls:=.type "cell",data:=.cell N } A] at this;exact Vm.sN this
  .obtain ⟨u,h⟩:=HQ a f s j T;have z:ownOf ((o,c)::a)=ownOf a:=by refine Q (EI ..)<|Q (qn n) rfl
   have H:pushCells s.s.heap ((o,c)::a)=pushCells s.s.heap a:=by rw[pushCells,qn n]
   have q:iy s.s.heap.objs.size ((o,c)::a) f=iy s.s.heap.objs.size a f:=by rw[iy,qn n]
   exact ⟨u,Q z h.len,Q z<|Q H h.H,Q z<|Q q h.own,Q z<|Q q h.rest,Q H h.hk,h.new⟩
section
variable {W:Wd}{d:List O}
theorem yV {v:eV}:∀{a:List<|ba×NameKind},(a.map λ(j,h)=>if (h==.free&&v.kind==.function&&v.names.lookup j==Y .cell) then (j,NameKind.cell) else (j,h)).lookup x=Y h->
  ∃y,a.lookup x=Y y/\(x,y)∈a/\(h=y\/(y=.free/\h=.cell))
 |[]=>@λe=>nomatch e
 |(j,k1)::a=>@λe=>by
  rw[bC] at e
  dsimp only at e
  by_cases i:(x==j)=true
  .have n:=eq_of_beq i;subst n;refine ry k1 (by refine ax bM<|Q (beq_self_eq_true ..) rfl) (.head _) ?_
   split at e
   .rename_i U;rw[bM,beq_self_eq_true] at e
    (refine Vm.sI e ?_;clear e;rintro rfl)
    rw[aA,aA] at U
    exact .inr ⟨eq_of_beq U.1.1,rfl⟩
   .rw[bM,beq_self_eq_true] at e
    (refine Vm.sI e ?_;clear e;rintro rfl)
    exact .inl rfl
  .skip
   have z:(a.map λ(j,h)=>if (h==.free&&v.kind==.function&&v.names.lookup j==Y .cell) then (j,NameKind.cell) else (j,h)).lookup x=Y h:=by split at e<;>(rw[bM,(by simpa using i:(x==j)=false)] at e;exact e)
   exact rU (yV z) λy H b o=>ry y (ax bM<|Q (by simpa using i:(x==j)=false) H) (.tail _ b) o
theorem Oc (a:vh B M W.σ env):mM sc env=Od sc B.scope:=by delta mM Od fu;refine Q a.scope rfl
structure yk (B:K) (sc:eV):Prop where
 fn:sc.kind=.function
 free:∀x,(x,.free)∈sc.names->B.scope.names.lookup x=some .cell\/B.scope.names.lookup x=some .free
 has:∀x,(x,.free)∈sc.names->x∈B.cells
 own:∀x∈rb sc,x∉B.cells
 nd:(sc.names.map (·.1)).Nodup
theorem OZ {cl:List<|ba×bK}{as:List bK}(ho:vh B M W.σ env)(hn:W.σ.length=d.length)(hc:yk B sc)(h1:∀x a,cl.lookup x=Y a->env.cells.lookup x=Y a)(h2:∀x,(x,.free)∈sc.names->∃a,cl.lookup x=Y a){cells:List<|ba×bK}(own:∀(k:Nat)(x:ba),(ownOf sc.names)[k]?=Y x->∃a,as[k]?=Y a/\cells.lookup x=Y a)(rest:∀x,x∉ownOf sc.names->cells.lookup x=cl.lookup x) :
  vh (B.comp sc) ((aq (rb sc).length).map (d.length+·)++M) (W.σ++as) { (newEnv sc L env.globals cells env.qual N .none (Y env) eY) with scope:=mM sc env } where
 scope:=Oc ho
 fn:=hc.fn
 nd:=(iG _ iB).nodup hc.nd
 globals:=ho.globals
 builtins:=ho.builtins
 qual:=ho.qual
 code:=ho.code
 cell k x hk hl:=by
  have hk:(rb sc++B.cells)[k]?=Y x:=hk;refine (?_:∃i a,_/\_/\cells.lookup x=Y a)
  by_cases q:k<(rb sc).length
  .rw[bD q] at hk
   refine qt (own k x hk) λa e1 e2=>tb (d.length+k) a ?_ ?_ e2
   .refine Q (bD<|by simpa using q) ?_;simp[q]
   .refine Q (eN<|D' hn)<|Q hn<|Q (bc ..) ?_;exact e1
  .rw[eN<|gi q] at hk
   have E0:x∉ownOf sc.names:=λz=>hc.own x z (bG hk)
   obtain ⟨k0,f1,f2,f3⟩:∃k0,sc.names.lookup x=Y k0/\(x,k0)∈sc.names/\k0=.free:=by
    rcases hl with hl|hl
    .refine rU (yV hl) λk0 a b c=>?_
     rcases c with c|⟨c,_⟩
     .subst c;exact absurd (bZ.mpr ⟨(x,.cell),du.mpr ⟨b,rfl⟩,rfl⟩) E0
     .exact ry k0 a b c
    .refine rU (yV hl) λk0 a b c=>?_
     rcases c with c|⟨c,z⟩
     .exact ry k0 a b c.symm
     .cases z
   subst f3;obtain ⟨a,e⟩:=h2 x f2;refine qZ (ho.cell (k-(rb sc).length) x hk<|hc.free x f2) λi a' g1 g2 g3=>?_
   rw[h1 x a e] at g3;(refine Vm.sI g3 ?_;clear g3;rintro rfl)
   refine tb i a ?_ ?_<|Q (rest x E0) e
   .refine Q (eN<|by simpa using q) ?_
    simpa using g1
   .refine Q (bD (aO.mp g2).1) ?_;exact g2
end
section
variable {d k g j:St}
theorem rm.EF (σ f):rm σ<|σ++f:=λc v e=>by refine ax (bD (aO.mp e).1) ?_;exact e
theorem O6 (H:At C B M env d W)(hc:yk B v){cl:List<|ba×bK}(h1:∀t w,cl.lookup t=Y w->env.cells.lookup t=Y w)(e:∀t,(t,.free)∈v.names->∃w,cl.lookup t=Y w){QQq:kN->ay->Prop}{x:aj->ay->Prop}(hQ:∀z T,W.le T->(∀b o,W.s.heap.get? b=Y o->T.s.heap.get? b=Y o)->T.G=W.G->z.locals=W.s.heap.objs.size->(∀w,w∈T.σ->w∈W.σ\/W.s.heap.get? w=N)->
   At C B M env ⟨d.loc,d.hp++aw (rb v).length (.cell N)⟩ T->
   At C (B.comp v) ((aq (rb v).length).map (d.hp.length+·)++M) { z with scope:=mM v env } ⟨aw (B.comp v).slots.length N,d.hp++aw (rb v).length (.cell N)⟩ T->QQq z T.s) :
  wpAny (model C.prog C.w) A (jl v env.globals cl [] env.qual N .none<|Y env) QQq x W.s:=by
 simp only[jl,Option.isSome_some,if_true];refine af<|j5<|af<|wpAny_layCells _ (λI U y=>by cases hkc:U==NameKind.cell<;>rfl) _ _ _ _ ?_
 have p:=t8 (W:=W) { cls:=.type "dict",data:=.dict #[] };refine rN (HQ v.names cl _ _ (H.rz p).H) λu L=>af<|wpAny_pure<|wpAny_pure<|hQ _ ⟨W.G,W.σ++u,{ W.s with heap:=pushCells (W.s.heap.push { cls:=.type "dict",data:=.dict #[] }) v.names }⟩ ⟨Gh.le.refl _,rm.EF _ _⟩ (λb o n=>L.hk b o<|aY _ n) rfl rfl ?_ ?_ ?_
 .intro w h;rcases bQ.mp h with h|h
  .exact .inl h
  .refine .inr ?_
   cases q:W.s.heap.get? w with
   |none=>rfl|some o=>
    have:=L.new w h;rw[aY { cls:=.type "dict",data:=.dict #[] } q] at this;exact Vm.sN this
 .refine ⟨H.ok.mono<|rm.EF _ _,L.H,⟨?_,H.L.I,H.L.F,?_,H.L.T⟩⟩
  .exact qt H.L.ns λa t G=>qr a (t.keeps λb o n=>L.hk b o<|aY _ n) λi t s n f=>qt (G i t s n f) λc p q=>qr c p<|qw.mono q ⟨Gh.le.refl _,rm.EF _ _⟩
  .intro h;rcases bQ.mp h with h|h
   .exact H.L.σ h
   .have:=L.new _ h;refine qt H.L.ns λa rS J=>?_;obtain ⟨o,es,ep,n,_⟩:=rS
    rw[aY { cls:=.type "dict",data:=.dict #[] } n] at this;exact Vm.sN this
 .skip
  refine ⟨OZ H.ok H.H.len hc h1 e (L.own<|(iG _ iB).nodup hc.nd) L.rest,L.H,⟨qr (λJ=>N) ((pQ W.s.heap<|.type "dict").keeps<|pushCells_keeps _ _) λi t s n f=>?_,H.H.sF,H.H.wo,?_,H.H.freshT⟩⟩
  .skip
   revert f;refine Q jr ?_;intro f
   split at f<;>cases f
  .intro h;have h:W.s.heap.objs.size∈W.σ++u:=h;rcases bQ.mp h with h|h
   .exact H.H.vq h
   .have:=L.new _ h;replace this:=(show W.s.heap.objs.size=W.s.heap.objs.size from rfl)▸this;rw[bb _ rfl] at this;exact Vm.sN this
end
end Vm
end
noncomputable section
namespace PySem
noncomputable def xx (L:a7)(a:List Comprehension)(v:eV)(e:dB)(c:Nat)(s b:aj)(f:kN):gH Fin:=
 match a[c+1]? with
 |Y d=>do
  let h←eval d.iter f
  eu d.iter.pos
  if (d.is_async != 0)=true then do
   let h←foldedIterable d.iter h
   let vR←gx [h] (if (d.is_async != 0)=true then asyncIter h else pyIter h)
   let _←runOwn (Code.compStart (L.ListComp a v e) (c+1) vR b f) f
   qi (Code.compLoop (L.ListComp a v e) c s b f)
  else do
   let h←qg d.iter f h
   let vR←gx [h] (if (d.is_async != 0)=true then asyncIter h else pyIter h)
   let _←runOwn (Code.compStart (L.ListComp a v e) (c+1) vR b f) f
   qi (Code.compLoop (L.ListComp a v e) c s b f)
 |N=>(eval L f>>=λh=>call (hH "list.append") [b,h]>>=λJ=>pure ():gH Unit)>>=λJ=>
  qi<|Code.compLoop (L.ListComp a v e) c s b f
theorem K4 {e:a7}{f:List Comprehension}{g:dB}(j:f[depth]?=Y ⟨target,e,ifs,0⟩) :
  compTurn (.ListComp elt f scope g) depth it acc i=(eu e.pos>>=λJ=>pyNext it>>=λy=>match y with
   |N=>pure<|.done .next
   |Y h=>do
    letOwnedTupleGo target it h
    assign target i h
    let ok←forIn ifs true λL y=>if y=true then do let ok←j7 L i (eval L i);pure (ForInStep.yield ok) else pure (ForInStep.yield y)
    if ok=true then xx elt f scope g depth it acc i
    else qi (.compLoop (.ListComp elt f scope g) depth it acc i)):=by
 delta compTurn xx;dsimp only;refine Q j ?_;dsimp only;refine Q (qn<|by decide)<|Q (qn<|by decide)<|qo (eu e.pos>>=·)<|funext λJ=>qo (pyNext it>>=·)<|funext λy=>?_
 cases y with
 |none=>rfl|some h=>cases f[depth+1]?<;>rfl
theorem K5 {e:a7}{f:List Comprehension}{i:dB}(k:f[c]?=Y ⟨a,e,ifs,0⟩)(d:Nat->ay->Prop)(g:∀t U,d t U->wpAny (model G n) A (pyNext s) (λy w=>match y with
   |N=>R (.ok .next) w|Y v=>wpAny (model G n) A (letOwnedTupleGo a s v) (λJ w=>wpAny (model G n) A (assign a j v) (λJ o=>
     wpAny (model G n) A (forIn ifs true λq y=>if y=true then do let z←j7 q j (eval q j);pure (ForInStep.yield z) else pure (ForInStep.yield y)) (λz H=>
      if z=true then wpAny (model G n) A (xx L f scope i c s b j) (λx I=>x=.again (.compLoop (.ListComp L f scope i) c s b j)/\∃T,T<t/\d T I) (mO (model G n) A j λu s'=>R (.error u) s') H
      else ∃T,T<t/\d T H) (mO (model G n) A j λu s'=>R (.error u) s') o) (mO (model G n) A j λu s'=>R (.error u) s') w) (mO (model G n) A j λu s'=>R (.error u) s') w) (mO (model G n) A j λu s'=>R (.error u) s') U)(t)(h:d t U) :
  jB (model G n) A (.compLoop (.ListComp L f scope i) c s b j) R U:=by
 refine codeAny_loop rfl d (λt U p=>wpAny_noted<|Q (K4 k)<|af<|wpAny_standAt<|af<|wpAny_mono (g t U p) (λy w FY=>?_) λJ J h'=>h') t h
 cases y with
 |none=>exact wpAny_pure FY|some v=>
  refine af<|wpAny_mono FY (λJ w FY=>af<|wpAny_mono FY (λJ o ahT=>af<|wpAny_mono ahT (λz H aaQ=>?_) λJ J h'=>h') λJ J h'=>h') λJ J h'=>h'
  cases z with
  |false=>exact wpAny_pure ⟨rfl,aaQ⟩|true=>exact wpAny_mono aaQ (λx I TZ=>by obtain ⟨rfl,TZ⟩:=TZ;exact ⟨rfl,TZ⟩) λJ J h'=>h'
end PySem
end
noncomputable section
namespace Vm
section
variable {f c g j:St}
theorem SU {i:List V}(T:rl d A)(e:tO C d B M L tE f i gd c)(G:At C B M h f W)(QQq:aj->ay->Prop)(k:aj->ay->Prop)(n:∀a v p t,R_ C [h.locals] W a->At C B M h c a->vT C a p->h.locals∉p->(∀q o,q≠h.locals->Off C W q o->q∉p)->LoopAt C tE v p i gd a t->t 0 a.s.heap->QQq (.ref v) a.s) :
  wpAny (model C.prog C.w) A (eval L h) (λs U=>wpAny (model C.prog C.w) A (pyIter s) QQq k U) k W.s:=by
 refine e A h (W.wm C [h.locals]) T (G.ex<|.head _) QQq k λa v p t i q u H I b=>n (a.tL W.G.F) v p t (G.xy i q).1 (G.xy i q).2.1 (λw x=>(u w x).imp λo z=>(G.xy i q).2.2 w o z) H (λw o x z y=>?_) (I.up ⟨Gm.le.refl _,Tm.le.refl _,rm.refl _⟩) b
 obtain ⟨o',h'⟩:=u w y;have L:a.G.F w=Y o:=Q (show a.G.F=W.zM C [h.locals] from i.G.F)<|Ji (λy=>x<|aN.mp y) z
 rw[h'.F] at L;exact Vm.nS L
theorem Off.ex (z:Off C W a o)(b:a∈L)(T:qY C hp W):Off C (W.wm C L) a o:=⟨z.at_,z.I,none_of λp e=>by have:=(vW T e).2 b;rw[z.F] at this;exact Vm.nS this,z.σ,z.T⟩
theorem Zd (z:Off C W a ob)(T:(W.hold a ob).le W')(G:At C B M env f W'):W.le (W'.tL W.G.F)/\At C B M env f (W'.tL W.G.F)/\Off C (W'.tL W.G.F) a ob:=by
 have e:W'.G.F=W.G.F.put a ob:=T.G.F;have b:∀q o,W.G.F q=Y o->W'.G.F q=Y o:=λq o i=>by
  refine Q e ?_
  by_cases n:q=a
  .subst n;rw[z.F] at i;exact Vm.nS i
  .exact Q (Gm.sr n) i
 have A:W'.G.F a=Y ob:=by refine Q e<|Q (Gm.rP ..) rfl
 refine ⟨⟨⟨T.G.I,rfl,T.G.T⟩,T.σ⟩,⟨G.ok,G.H.HO b,⟨G.L.ns,G.L.I,(by
   show W.G.F env.locals=N
   cases n:W.G.F env.locals with
   |none=>rfl|some o=>have:=b _ _ n;rw[G.L.F] at this;exact Vm.nS this),G.L.σ,G.L.T⟩⟩,⟨G.H.F _ _ A,?_,z.F,?_,z.T⟩⟩
 .cases n:W'.G.I a with
  |none=>exact n|some o=>have:=G.H.IF a<|Q n λk=>Vm.sN k;rw[A] at this;exact Vm.sN this
 .intro k;obtain ⟨d,H,i⟩:=cK k;refine qN (G.H.rY d a<|J i<|aD H) λV n V=>?_
  rw[A] at n;exact Vm.sN n
theorem NY (z:Off C W a ob)(T:(W.hold a ob).le W')(G:Off C W' b Jj):b≠a/\Off C (W'.tL W.G.F) b Jj:=by
 have e:W'.G.F=W.G.F.put a ob:=T.G.F;have d:b≠a:=by rintro rfl;have:=G.F;rw[e,Gm.rP] at this;exact Vm.sN this
 refine ⟨d,G.at_,G.I,?_,G.σ,G.T⟩;have:=G.F;rw[e,Gm.sr d] at this
 exact this
theorem Jh (z:Off C W b Jj)(d:b≠a):Off C (W.hold a ob) b Jj:=⟨z.at_,z.I,(Q (Gm.sr d) z.F:(W.G.F.put a ob) b=N),z.σ,z.T⟩
end
section
variable {e a f g:St}
inductive zY (C:Ctx) (d:Nat) (B:K) (M:List Nat):List a7->St->Bool->St->Prop
 |nil {e:St}:zY C d B M [] e true e
 |go {c:a7}{l:List a7}{e st1 st2:St}{b:Bool}:TT C d B M c e true st1->zY C d B M l st1 b st2->zY C d B M (c::l) e b st2
 |stop {c:a7}{l:List a7}{e st1:St}:TT C d B M c e false st1->zY C d B M (c::l) e false st1
theorem Gn {U:Bool->ay->Prop}{d:aj->ay->Prop}:∀(l:List a7),U false s->
  wpAny (model C.prog C.w) A (forIn l false λc T=>if T=true then do let ok←j7 c h (eval c h);pure (ForInStep.yield ok) else pure (ForInStep.yield T)) U d s
 |[]=>@λG=>wpAny_pure G
 |c::l=>@λG=>Q (gE ..)<|af<|wpAny_pure<|Gn l G
theorem zY.run {j:List a7}(L:rl d U)(h:zY C d B M j e b a):∀{s:Wd},At C B M i e s->
  Tr C B M i U (forIn j true λc G=>if G=true then do let ok←j7 c i (eval c i);pure (ForInStep.yield ok) else pure (ForInStep.yield G)) a (λJ c=>c=b) s:=by
 induction h with
 |nil=>exact λ{s} H I k h=>wpAny_pure<|h s _ (Wd.le.refl _) H rfl
 |go h1 o p=>
  intro s H I k h;exact Q (gE ..)<|af<|af<|h1 U i s L H _ _ λn c T y hc=>wpAny_pure<|hc.symm▸p y _ _ λq c t u hc=>h q c (T.trans t) u hc
 |stop h1=>
  intro s H I k h;exact Q (gE ..)<|af<|af<|h1 U i s L H _ _ λn c T y hc=>wpAny_pure<|hc.symm▸Gn _ (h n _ T y rfl)
def Dm (T:Ctx)(c:Nat)(L:K)(I:List Nat)(b:St->List V->St->Prop)(d:Comprehension×Tg)(h:Gd):List V->St->List V->St->Prop
 |[]=>@λe i a=>uo e.hp h=true/\i=[]/\a=e
 |x::l=>@λe i a=>uo e.hp h=true/\∃u,rA I 5 d.2 x e=Y u/\((∃n,zY T c L I d.1.ifs u false n/\Dm T c L I b d h l n i a)\/
   ∃n U v G,zY T c L I d.1.ifs u true n/\b n v U/\Dm T c L I b d h l U G a/\i=v++G)
def Sb (T:Ctx)(d:Nat)(U:K)(I:List Nat)(L:a7):List (Comprehension×Tg)->St->List V->St->Prop
 |[]=>@λe i a=>∃k,i=[k]/\TE T d U I L e k a
 |c::r=>@λe i a=>(∀u h j,c.1.iter≠.Set u h j)/\∃G b v,tO T d U I c.1.iter c.1.target e G b v/\Dm T d U I (Sb T d U I L r) c b G v i a
abbrev AF (T:Ctx)(c:Nat)(H:K)(G:List Nat)(L:a7)(b:Comprehension×Tg)(h:List<|Comprehension×Tg)(d:Gd)(j:List V)(I:St)(u:List V)(U:St):Prop:=Dm T c H G (Sb T c H G L h) b d j I u U
theorem Dm.gd {b:St->List V->St->Prop}{c:Comprehension×Tg}{i:Gd}{j:List V}:∀{l:List V},Dm C d B M b c i l e j a->uo e.hp i=true
 |[]=>@λh=>h.1
 |_::_=>@λh=>h.1
theorem Dm.sk {b:St->List V->St->Prop}{c:Comprehension×Tg}{i:Gd}{k:V}{n j:List V}{o:Prop}(h:Dm C d B M b c i (k::n) e j a)
  (p:∀u q,rA M 5 c.2 k e=Y u->zY C d B M c.1.ifs u false q->Dm C d B M b c i n q j a->o)
  (s:∀u q T v G,j=v++G->rA M 5 c.2 k e=Y u->zY C d B M c.1.ifs u true q->b q v T->Dm C d B M b c i n T G a->o):o:=
 h.2.elim λu h=>h.2.elim (λU=>U.elim λq t=>p u q h.1 t.1 t.2) λU=>U.elim λq U=>U.elim λT U=>U.elim λv U=>U.elim λG t=>s u q T v G t.2.2.2 h.1 t.1 t.2.1 t.2.2.1
end
def Ge (T:Ctx)(c:Nat)(A:K)(z:List Nat)(L:a7)(f:List Comprehension)(v:eV)(e:dB)(h:Nat)(j:List<|Comprehension×Tg):Prop:=
 ∀(st I:St)(u:List V),Sb T c A z L j st u I->∀(a:Around)(g:kN)(W:Wd)(w:bK)(G:gA)(um:List V)(s:aj),rl c a->At T A z g st W->Off T W w G->w≠g.locals->rB T.w.params W.G.T W.G.I W.σ G (.list um)->
  um.length+u.length<=65536->∀(H:ay->Prop)(E:aj->ay->Prop),(∀b o,W.le b->At T A z g I b->Off T b w o->rB T.w.params b.G.T b.G.I b.σ o (.list<|um++u)->H b.s)->
  wpAny (model T.prog T.w) a (PySem.xx L f v e h s (.ref w) g) (λx U=>x=.again (.compLoop (.ListComp L f v e) h s (.ref w) g)/\H U) E W.s
def acF (T:Ctx)(c:Nat)(z:K)(A:List Nat)(L:a7)(f:List Comprehension)(v:eV)(e:dB)(h:Nat)(b:Comprehension×Tg)(j:List<|Comprehension×Tg):Prop:=
 ∀(l:List V)(d:Gd)(st I:St)(G:List V),AF T c z A L b j d l st G I->∀(U:Around)(g:kN)(W:Wd)(w q:bK)(D:List bK)(H:gA)(um:List V)(i:Nat->fP->Prop),rl c U->At T z A g st W->Off T W w H->w≠g.locals->
  rB T.w.params W.G.T W.G.I W.σ H (.list um)->um.length+G.length<=65536->vT T W D->g.locals∉D->w∉D->LoopAt T b.1.target q D l d W i->i 0 W.s.heap->∀(R:Result->ay->Prop),
  (∀a o,W.le a->At T z A g I a->Off T a w o->rB T.w.params a.G.T a.G.I a.σ o (.list<|um++G)->R (.ok .next) a.s)->
  jB (model T.prog T.w) U (.compLoop (.ListComp L f v e) h (.ref q) (.ref w) g) R W.s
def D_ (T:Ctx)(c:Nat)(A:K)(z:List Nat)(L:a7)(b:Comprehension×Tg)(f:List<|Comprehension×Tg)(g:kN)(j:List V)(e:Gd)(u:List bK)(v:bK)(i:Nat->fP->Prop)(s:Wd)(um d:List V)(x:St)(h:Nat)(U:ay):Prop:=
 ∃(t:Nat)(I:St)(a:Wd)(G:gA)(H w:List V),h=j.length+1-t/\t<=j.length/\U=a.s/\s.le a/\At T A z g I a/\vT T a u/\Off T a v G/\
  rB T.w.params a.G.T a.G.I a.σ G (.list<|um++H)/\H++w=d/\i t a.s.heap/\AF T c A z L b f e (j.drop t) I w x
@[elab_as_elim] theorem D_.elim {b:Nat->fP->Prop}{f:Nat->ay->Prop}(g:D_ C d B M elt c r env l gd D a b W um out rH n s)(h:∀t I U G H u,t<=l.length->W.le U->At C B M env I U->vT C U D->Off C U a G->rB C.w.params U.G.T U.G.I U.σ G (.list<|um++H)->H++u=out->b t U.s.heap->AF C d B M elt c r gd (l.drop t) I u rH->f (l.length+1-t) U.s):f n s:=by
 obtain ⟨t,I,U,G,H,u,rfl,w,rfl,T,L,i,z,j,e,k,o⟩:=g;exact h t I U G H u w T L i z j e k o
theorem D_.intro {b:Nat->fP->Prop}(h)(w:h<=l.length)(T:W.le W0)(G:At C B M env uM W0)(t:vT C W0 D/\b h W0.s.heap)(z:Off C W0 a VH)(I:rB C.w.params W0.G.T W0.G.I W0.σ VH<|.list<|um++Oo)(e:Oo++Jf=out)(U:AF C d B M elt c r gd (l.drop h) uM Jf rH):D_ C d B M elt c r env l gd D a b W um out rH (l.length+1-h) W0.s:=
 ⟨h,uM,W0,VH,Oo,Jf,rfl,w,rfl,T,G,t.1,z,I,e,t.2,U⟩
theorem Rz {b:ay->Prop}{E1 g E3:aj->ay->Prop}(ht:Fy C d B M L tg)(GZ:Ge C d B M elt gens scope pos k j)(hr:rl d A)(C9:v≠f.locals)(hE:AF C d B M elt (⟨L,iter,ifs,0⟩,tg) j gd (xv::l) uM p rH)(a1:At C B M f uM t)(z9:Off C t v H)(I:rB C.w.params t.G.T t.G.I t.σ H<|.list<|um++a)(ho:a++p=out)(w:um.length+out.length<=65536)(rv:qw C t xv s)(hk:∀st2 W3 Z9 Tf Te,R_ C [f.locals,v] t W3->At C B M f st2 W3->Off C W3 v Z9->rB C.w.params W3.G.T W3.G.I W3.σ Z9 (.list<|um++Tf)->Tf++Te=out->AF C d B M elt (⟨L,iter,ifs,0⟩,tg) j gd l st2 Te rH->b W3.s) :
  wpAny (model C.prog C.w) A (assign L f s) (λW U=>wpAny (model C.prog C.w) A (forIn ifs true λc j=>if j=true then do let ok←j7 c f (eval c f);pure (ForInStep.yield ok) else pure (ForInStep.yield j)) (λok Zp=>
   if ok=true then wpAny (model C.prog C.w) A (PySem.xx elt gens scope pos k it (.ref v) f) (λx ahe=>x=.again (.compLoop (.ListComp elt gens scope pos) k it (.ref v) f)/\b ahe) E3 Zp else b Zp) g U) E1 t.s:=by
 refine hE.sk (λst1 st2 i g3 g4=>?_) λst1 st2 st3 q u2 e i g3 g4 g5=>?_
 .refine ht xv uM st1 i A f (t.wm C [f.locals]) s hr (a1.ex<|.head _) rv _ _ λW2 W T y W=>zY.run hr g3 y _ _ λW3 c l3 a3 G=>?_
  have u:=a1.xy (T.trans l3) a3;exact Q G<|Q (qn<|by decide)<|hk st2 (W3.tL t.G.F) H a p ⟨u.1.le,λv o n h=>u.1.off v o (λz=>n<|aN.mp z▸.head _) h⟩ u.2.1 (u.1.off _ _ (λz=>C9<|aN.mp z) z9) (I.mono u.1.le.G.T u.1.le.G.I u.1.le.σ) ho g4
 .have e2:(um++a).length+q.length<=65536:=by
   rw[<- ho,e,aG,aG] at w
   refine Q (aG ..) ?_;exact aa (aa (aK<|b_ ..)<|aP (aP (aM ..) _) _) w
  refine ht xv uM st1 i A f (t.wm C [f.locals]) s hr (a1.ex<|.head _) rv _ _ λW2 W T y W=>zY.run hr g3 y _ _ λW3 c l3 a3 G=>?_
  have u:=a1.xy (T.trans l3) a3;exact Q G<|Q (qm rfl)<|GZ st2 st3 q g4 A f ((W3.tL t.G.F).wm C [f.locals,v]) v H (um++a) it hr (u.2.1.ex<|.head _) ((u.1.off _ _ (λz=>C9<|aN.mp z) z9).ex (.tail _<|.head _) u.2.1.H) C9 (I.mono u.1.le.G.T u.1.le.G.I u.1.le.σ) e2 _ _ λW4 ob4 l4 a4 q4 r4=>hk st3 (W4.tL (W3.tL t.G.F).G.F) ob4 (a++q) u2 ⟨u.1.le.trans (u.2.1.xy l4 a4).1.le,λv o n h=>(u.2.1.xy l4 a4).1.off v o n<|u.1.off v o (λz=>n<|aN.mp z▸.head _) h⟩ (u.2.1.xy l4 a4).2.1 ((u.2.1.xy l4 a4).2.2 v ob4 q4) (J (a9 um a q) r4) (Q (a9 ..)<|J e ho) g5
theorem LX {j:a7}{gens:List Comprehension}{pos:dB}{u:List<|Comprehension×Tg}(G:Fy C d B M tE tg)(hg:gens[k]?=Y ⟨tE,j,ifs,0⟩)(f:Ge C d B M elt gens scope pos k u):acF C d B M elt gens scope pos k (⟨tE,j,ifs,0⟩,tg) u:=by
 intro H gd x rH a hE A env W v I D ob i Sx L ha z9 c JH w hD BX haD hL hS R hR;refine PySem.K5 hg (D_ C d B M elt (⟨tE,j,ifs,0⟩,tg) u env H gd D v Sx W i a rH) (λT U h=>D_.elim h λt uM n VH Oo Jf QY lw y Q7 VG VZ aa1 p hE=>?_) (H.length+1)
  <| D_.intro 0 (dZ _) (Wd.le.refl _) ha ⟨hD,hS⟩ z9 (J ((bh i).symm) JH) rfl hE
 by_cases uO:t<H.length
 .exact GP hL L.1 uO y Q7 BX lw p (λs U h=>h) λs xv W1 hd rv GN GU a1 ko re=>
   Rz G f L c (J hd hE) a1 (ko _ _ haD VG) (VZ.mono GU.G.T GU.G.I GU.σ) aa1 w rv λst2 W3 Z9 Tf Te k3 a3 q3 r3 h3 g=>
    qr (H.length+1-(t+1)) (oz (dT uO)<|bY t)<|.intro (t+1) uO (GN.trans k3.le) a3 (re W3 st2.hp k3.le a3.H g.gd λb hb o z=>k3.off b o (λq=>(aE.mp q).elim (λe=>BX<|e▸hb) λq=>haD<|aN.mp q▸hb) z) q3 r3 h3 g
 .skip
  exact GQ hL L.1 y Q7 BX lw (J (fO QY<|cV.mp uO) p) λW1 GN GU a1 ko=>hR W1 VH GN (Q (J (jE<|cV.mp uO) hE:AF C d B M elt (⟨tE,j,ifs,0⟩,tg) u gd [] uM Jf rH).2.2 a1) (ko _ _ haD VG)<|((bh Oo).symm.trans<|J (J (jE<|cV.mp uO) hE:AF C d B M elt (⟨tE,j,ifs,0⟩,tg) u gd [] uM Jf rH).2.1 aa1)▸VZ.mono GU.G.T GU.G.I GU.σ
end Vm
end
noncomputable section
namespace PySem
theorem BB {b:Result->ay->Prop}{e:a7}{f:List Comprehension}{k:dB}(o:f[depth]?=Y ⟨target,e,ifs,0⟩)(H:jB (model G n) A (.compLoop (.ListComp elt f scope k) depth t acc env) b s)(d:wpAny (model G n) A (pyIter t) (λh v=>jB (model G n) A (.compLoop (.ListComp elt f scope k) depth h acc env) b v)
   (mO (model G n) A env λu v=>b (.error u) v) s) :
  jB (model G n) A (.compStart (.ListComp elt f scope k) depth t acc env) b s:=by
 refine mz<|wpAny_notedAt ?_
 have p:(clausesOf<|.ListComp elt f scope k)[depth]?=Y ⟨target,e,ifs,0⟩:=o;delta compStart;simp only[p,mP];refine af<|wpAny_askSetting<|wpAny_ite ?_
 split
 .first
   |exact af<|wpAny_pure<|wpAny_pure<|lh rfl H
   |exact wpAny_pure<|lh rfl H
 .first
   |exact af<|m7<|af<|wpAny_standAt<|af<|wpAny_mono d (λh v a=>wpAny_pure<|lh rfl a) λJ J u=>u|(exact af<|m7<|af<|wpAny_standAt<|af<|wpAny_mono d (λh v a=>wpAny_pure<|lh rfl a) λJ J u=>u)
end PySem
namespace Vm
variable {i g j q:St}
theorem Pg {l:List V}(H:At C B M env i W)(z:Off C W a ob)(f:a≠env.locals)(I:rB C.w.params W.G.T W.G.I W.σ ob<|.list l)(k:qw C W v c)(w:l.length<=65536)(QQq:aj->ay->Prop)(d:aj->ay->Prop)(n:∀T o,W.le T->At C B M env i T->Off C T a o->rB C.w.params T.G.T T.G.I T.σ o (.list<|l++[v])->QQq .none T.s) :
  wpAny (model C.prog C.w) A (call (.builtin "list.append") [.ref a,c]) QQq d W.s:=by
 obtain ⟨p,s,rfl,b⟩:=I.inv;have e:=b.length;have u:=λ(x:bK) (y:gA) (h:x≠a) (L:W.s.heap.get? x=Y y)=>((cT W.s.heap a<|iX (·.push c)).2 x h).trans L
 refine gV F.slot_list_append (qr _ z.at_ rfl) F.entry_list_append (F.args_list_append_2 _ _) (gF a p.toArray s c<|by simp only[bj,g9];exact e▸aa w (by decide)) ⟨z.at_,?_⟩;refine n ⟨W.G,W.σ,{ W.s with heap:=W.s.heap.update a<|iX (·.push c) }⟩ _ ⟨Gh.le.refl _,rm.refl _⟩ ⟨H.ok,H.H.keep a u z.I z.F z.σ z.T rfl rfl<|ag _,⟨by
   refine qt H.L.ns λU rS G=>?_;obtain ⟨y,es,t,h,rest⟩:=rS
   exact qr U (wR y es t (u _ _ f.symm h) rest) G,H.L.I,H.L.F,H.L.σ,H.L.T⟩⟩ ⟨my z.at_ (·.push c),z.I,z.F,z.σ,z.T⟩ ?_
 simpa using (rB.list<|qJ.append b<|.cons k .nil)
def Fz (T:Ctx)(c:Nat)(U:K)(L:List Nat)(b:Comprehension×Tg):Prop:=b.1.is_async=0/\Fy T c U L b.1.target b.2
theorem C_ (h:∀a c f,e≠.Set a c f)(s):qg e env s=pure s:=by cases e<;>first|rfl|exact absurd rfl<|h _ _ _
theorem JE {gens:List Comprehension}{e:dB}:∀(o:List<|Comprehension×Tg)(h:Nat),gens.drop (h+1)=o.map (·.1)->(∀b∈o,Fz C d B M b)->Ge C d B M L gens v e h o
 |[]=>@λh hd J=>by
  intro i g G hE A env W a ob um it hr ha z9 C9 JH w QQq E hQ;obtain ⟨k,rfl,h1⟩:=hE;have hn:gens[h+1]?=N:=by
   have:=qo (λl=>l[0]?) hd
   simpa using this
  delta PySem.xx;exact Q hn<|af<|af<|zO (R:=λT I σ c=>Rep C.w.params T I σ k c) z9 (h1 A env _ hr<|ha.hold z9 C9) _ _ λn c l1 y r1 DG=>af<|Pg y DG C9 (JH.mono l1.G.T l1.G.I l1.σ) r1 (b6 w) _ _ λW2 Jj l2 a2 Tn r2=>wpAny_pure<|wpAny_pure ⟨rfl,hQ W2 Jj (l1.trans l2) a2 Tn r2⟩
 |(c,t)::o=>@λh hd Bt=>by
  intro i g G hE A env W a ob um it hr ha z9 C9 JH w QQq E hQ;have hg:gens[h+1]?=Y c:=by
   have:=qo (λl=>l[0]?) hd
   simpa using this
  have H:gens.drop (h+1+1)=o.map (·.1):=by simpa[jQ] using (qo (kK 1) hd)
  obtain ⟨h0,ht⟩:=Bt (c,t) (.head _);obtain ⟨target,iter,ifs,as⟩:=c;subst h0;obtain ⟨p,l,gd,st1,Ab,hE'⟩:=hE;delta PySem.xx;refine Q hg ?_;dsimp only;refine af<|wpAny_mono (SU hr Ab ha (λit' U=>wpAny (model C.prog C.w) A (runOwn (Code.compStart (L.ListComp gens v e) (h+1) it' (.ref a) env) env>>=λJ=>qi<|Code.compLoop (L.ListComp gens v e) h it (.ref a) env) (λx U=>x=.again (.compLoop (.ListComp L gens v e) h it (.ref a) env)/\QQq U) E U) _ λn I D Sx k1 y hD BX hap CN hS=>?_) (λu Zq FY=>af<|wpAny_standAt ?_) λJ J s=>s
  rotate_left
  .exact Q (qn<|by decide)<|af<|iH (C_ p u)<|af<|cU<|Q (qn<|by decide) FY
  .skip
   have run:jB (model C.prog C.w) A (.compLoop (.ListComp L gens v e) (h+1) (.ref I) (.ref a) env) (λo U=>match o with|.ok f=>wpAny (model C.prog C.w) A (qi<|Code.compLoop (L.ListComp gens v e) h it (.ref a) env) (λx U=>x=.again (.compLoop (.ListComp L gens v e) h it (.ref a) env)/\QQq U) E U|.error s=>cameBackBy (model C.prog C.w) A env E s U) n.s:=(LX ht hg<|JE o (h+1) H λb hp=>Bt b<|.tail _ hp) l gd st1 g G hE' A env n a I D ob um Sx hr y (k1.off a ob (λz=>C9<|aN.mp z) z9) C9 (JH.mono k1.le.G.T k1.le.G.I k1.le.σ) w hD BX (hap a ob C9 z9) CN hS _ λW2 Jj l2 a2 Tn r2=>wpAny_pure ⟨rfl,hQ W2 Jj (k1.le.trans l2) a2 Tn r2⟩
   exact af<|wpAny_runOwn<|PySem.BB hg run<|CN.2.2.1 A hr.1 0 _ _ _ hS run
end Vm
end
noncomputable section
namespace Vm
section
variable {c j f g:St}{W:Wd}
theorem w5:∀{a:List<|ba×NameKind},(a.map (·.1)).Nodup->(x,k)∈a->a.lookup x=Y k
 |[]=>@λW b=>nomatch b
 |(n,k1)::a=>@λy b=>by
  obtain ⟨G,T⟩:=bI.mp y;rcases aE.mp b with q|q
  .cases q;refine ax bM<|Q (beq_self_eq_true ..) rfl
  .skip
   refine ax bM<|Q (beq_eq_false_iff_ne.mpr λi=>G<|by refine J i ?_;clear i;exact bZ.mpr<|qr _ q rfl) ?_;exact w5 T q
theorem vh.free (a:vh B M W.σ env)(hc:yk B sc):∀b∈sc.names,b.2=.free->∃v,env.cells.lookup b.1=Y v:=λb d e=>by
 obtain ⟨p,h⟩:=b;subst e;obtain ⟨k,T,i⟩:=cK (hc.has p d);refine qZ (a.cell k p (by refine Q (aD T)<|Q i rfl)<|hc.free p d) λJ v J J G=>?_
 exact ⟨v,G⟩
theorem G9 {s:a7}{t:List Comprehension}{pos:dB}{u:List<|Comprehension×Tg}{G:List V}{U:St}(p:yk B v)(DM:∀es k L,s≠.Set es k L)(Ab:tO C d B M s tE c G gd st1)(EY:t=u.map (·.1))(ht:Fy C d (B.comp v) ((aq (rb v).length).map (st1.hp.length+·)++M) tE tg)(Bt:∀L∈u,Fz C d (B.comp v) ((aq (rb v).length).map (st1.hp.length+·)++M) L)(hE:AF C d (B.comp v) ((aq (rb v).length).map (st1.hp.length+·)++M) elt (⟨tE,s,ifs,0⟩,tg) u gd G ⟨aw (B.comp v).slots.length N,st1.hp++aw (rb v).length (.cell N)⟩ out U)(w:out.length<=65536)(hr:rl d A)(ha:At C B M env c W){use:Option<|aj->gH Unit}{QQq:aj->ay->Prop}{E:aj->ay->Prop}(hQ:∀W' D cL ob o,W.le W'->At C B M env ⟨st1.loc,U.hp⟩ W'->Off C W' D ob->D≠env.locals->rB C.w.params W'.G.T W'.G.I W'.σ ob (.list out)->Off C W' cL o->cL≠D->cL≠env.locals->(∃m,W'.s.heap.Ns cL m)->compPost (model C.prog C.w) A E use QQq (.ref D) cL (.ok .next) W'.s) :
  wpAny (model C.prog C.w) A (comprehension (.ListComp elt (⟨tE,s,ifs,0⟩::t) v pos) v env pos' (newList []) false (eval s env) use) QQq E W.s:=by
 refine rU (Bu<|vh.free ha.ok p) λi c1 c2 c3=>wpAny_comprehension_free rfl (C_ DM) c1 p.fn (λy hy n=>w5 p.nd<|J n hy)<|Ab A env W hr ha _ _ λW1 H D T l1 a1 hD BX CN hS=>fZ ?_
 have pe:=t8 (W:=W1) { cls:=.type "list",dict:=N,data:=.seq ([]:List aj).toArray };have a2:=a1.rz pe;refine O6 a2 p c2 c3 λF' W3 l3 x hG3 JP ahU a3 b3=>?_
 have L3:∀{a:bK}{o:gA},Off C ⟨W1.G,W1.σ,{ W1.s with heap:=W1.s.heap.push { cls:=.type "list",dict:=N,data:=.seq ([]:List aj).toArray } }⟩ a o->Off C W3 a o:=λ{a o} h=>
  ⟨x _ _ h.at_,Q hG3 h.I,Q hG3 h.F,(λz=>by
   rcases ahU a z with q|q
   .exact h.σ q
   .rw[h.at_] at q;exact Vm.sN q),h.T⟩
 refine rN a3.L.off λoL HM=>?_
 have below:∀{a:bK}{o:gA},(W1.s.heap.push { cls:=.type "list",dict:=N,data:=.seq ([]:List aj).toArray }).get? a=Y o->a≠F'.locals:=λh=>Q JP<|cy<|bR h
 have hLc:env.locals≠F'.locals:=Q JP<|cy a2.lt
 have hS3:T 0 W3.s.heap:=CN.2.2.2 0 W1 W3 _ (Wd.le.refl _).uN (pe.le.trans l3).uN a3.H hE.gd (λb P o e=>x _ _<|aY _ e) hS;have run:jB (model C.prog C.w) A (.compLoop (.ListComp elt (⟨tE,s,ifs,0⟩::t) v pos) 0 (.ref H) (.ref W1.s.heap.objs.size) { F' with scope:=mM v env }) (compPost (model C.prog C.w) A E use QQq (.ref W1.s.heap.objs.size) F'.locals) W3.s:=by
  refine (LX (gens:=⟨tE,s,ifs,0⟩::t) ht rfl<|JE u 0 EY Bt) G gd _ U out hE A { F' with scope:=mM v env } (W3.hold env.locals oL) W1.s.heap.objs.size H D _ [] T hr (b3.hold HM hLc) (Jh (L3<|uH a1.H rfl)<|bw a1.lt) (below (uH a1.H rfl).at_) (.list .nil) (by simpa using w) (λb hb=>((λb hb=>(hD b hb).imp λo h=>L3 ⟨aY _ h.at_,h.I,h.F,h.σ,h.T⟩) b hb).imp λo h=>Jh h λz=>BX<|J z hb) (λz=>(hD _ z).elim λo h=>below (aY _ h.at_) rfl) (λz=>(hD _ z).elim λo h=>b9 _<|bR h.at_) (CN.up ⟨(pe.le.trans l3).G.I,(pe.le.trans l3).G.T,(pe.le.trans l3).σ⟩) hS3 _ λW4 I l4 a4 adQ r4=>?_
  refine qN (Zd HM l4 a4) λlw5 a5 p5=>?_
  obtain ⟨akM,q5⟩:=NY HM l4 adQ;obtain ⟨oc,vH⟩:=a5.L.off;exact hQ (W4.tL W3.G.F) _ F'.locals I oc (((l1.trans pe.le).trans l3).trans lw5) ⟨ha.ok.mono (((l1.trans pe.le).trans l3).trans lw5).σ,a5.H,Loc.ahead a3.L HM lw5 p5⟩ q5 (bw a1.lt) r4 vH (below (uH a1.H rfl).at_).symm hLc.symm<|let ⟨m,hm,_⟩:=a5.L.ns;⟨m,hm⟩
 exact PySem.BB rfl run<|CN.2.2.1 A hr.1 0 _ _ _ hS3 run
theorem TF.comp {s:a7}{x:List Comprehension}{pos:dB}{u:List<|Comprehension×Tg}{G:List V}{H:St}(hc:yk B v)(DM:∀es k p,s≠.Set es k p)(Ab:tO C n B M s tE c G gd I)(EY:x=u.map (·.1))(ht:Fy C n (B.comp v) ((aq (rb v).length).map (I.hp.length+·)++M) tE q)(Bt:∀p∈u,Fz C n (B.comp v) ((aq (rb v).length).map (I.hp.length+·)++M) p)(hE:AF C n (B.comp v) ((aq (rb v).length).map (I.hp.length+·)++M) L (⟨tE,s,t,0⟩,q) u gd G ⟨aw (B.comp v).slots.length N,I.hp++aw (rb v).length (.cell N)⟩ d H)(w:d.length<=65536):TF C n B M (.ListComp L (⟨tE,s,t,0⟩::x) v pos) c (.list d) ⟨I.loc,H.hp⟩:=λA env W hr ha QQq E h=>by
 refine Q (eval_ListComp ..)<|G9 hc DM Ab EY ht Bt hE w hr ha λW' D cL ob o T a1 AX G2 rep vH V9 JP U=>rN U λa hm=>qr a hm λi hs=>?_
 have k:∀b o,b≠cL->W'.s.heap.get? b=Y o->i.get? b=Y o:=λb o z e=>(hs.2 b z).trans e
 refine h ⟨W'.G,W'.σ,{ W'.s with heap:=i }⟩ _ ⟨T.G,T.σ⟩ ⟨a1.ok,a1.H.keep cL k vH.I vH.F vH.σ vH.T rfl rfl<|ag _,⟨by
   refine qt a1.L.ns λa U y=>?_;obtain ⟨o,es,ep,z,x⟩:=U
   exact qr a (wR o es ep (k _ _ JP.symm z) x) y,a1.L.I,a1.L.F,a1.L.σ,a1.L.T⟩⟩<|uv D ob rfl G2 ⟨k _ _ V9.symm AX.at_,AX.I,AX.F,AX.σ,AX.T⟩ rep
noncomputable def Vx (U:K)(v:eV)(p:ba)(e d:dB):Bool:=U.scope.names.lookup p==Y .local&&e.line==d.line&&!(v.names.any λ(n,k)=>n==p&&(k==.local||k==.cell))
theorem Af (a:vh U M σ env):ix (.ListComp elt gs v e) (Y<|.Name p d) n env=pure (Vx U v p d e):=by delta ix Vx ql fu;dsimp only;exact Q a.scope<|Q a.fn rfl
end
section
variable {i g a f:St}
theorem Ks {x:bK}(L:rl d A)(H:At C B M env i W)(z:Off C W x o)(j:x≠env.locals)(U:∃b,W.s.heap.Ns x b)(rv:qw C W v c)(w:yo B (.Name p py) tg)(hs:rA M (n+1) tg v i=Y g)(QQq:ay->Prop)(s:aj->ay->Prop)(u:∀I,W.le I->At C B M env g I->QQq I.s) :
  wpAny (model C.prog C.w) A (assign (.Name p py) env c) (λJ ZL=>∃b,ZL.heap.Ns x b/\∀h',fg x ZL.heap h'->QQq { ZL with heap:=h' }) s W.s:=by
 refine rN U λb hm=>zO (R:=λJ J J J=>True) z (λQ2 E2 G=>Ae<|Cw w hs (H.hold z j) rv Q2 E2 G) _ _ λW1 J T y J DG=>qr b (hm.at' λo' e=>by rw[z.at_] at e;(refine Vm.sI e ?_;clear e;rintro rfl);exact DG.at_) λh' hsb=>?_
 have k:∀q o,q≠x->W1.s.heap.get? q=Y o->h'.get? q=Y o:=λq o h e=>(hsb.2 q h).trans e
 exact u ⟨W1.G,W1.σ,{ W1.s with heap:=h' }⟩ ⟨T.G,T.σ⟩ ⟨y.ok,y.H.keep x k DG.I DG.F DG.σ DG.T rfl rfl<|ag _,⟨by
   refine qt y.L.ns λb rS p=>?_;obtain ⟨o,es,ep,h,t⟩:=rS
   exact qr b (wR o es ep (k _ _ j.symm h) t) p,y.L.I,y.L.F,y.L.σ,y.L.T⟩⟩
theorem TS.YB {L k:a7}{s:List a7}{j:List Comprehension}{v:eV}{e c x:dB}{y:ba}{tg H:Tg}{u:List<|Comprehension×Tg}{tE:a7}{G:List V}{b:Gd}{out:List V}{st1 x':St}{n:Nat}{tr:Bool}
  (hc:yk B v) (DM:∀es t p,k≠.Set es t p) (Ab:tO C d B M k tE i G b st1) (EY:j=u.map (·.1)) (ht:Fy C d (B.comp v) ((aq (rb v).length).map (st1.hp.length+·)++M) tE tg) (Bt:∀p∈u,Fz C d (B.comp v) ((aq (rb v).length).map (st1.hp.length+·)++M) p)
  (hE:AF C d (B.comp v) ((aq (rb v).length).map (st1.hp.length+·)++M) L (⟨tE,k,s,0⟩,tg) u b G ⟨aw (B.comp v).slots.length N,st1.hp++aw (rb v).length (.cell N)⟩ out x')
  (w:out.length<=65536) (hw:Vx B v y x e=true) (hy:yo B (.Name y x) H)
  (hs:rA M (n+1) H (if tr then .ref x'.hp.length else .lst out) ⟨st1.loc,x'.hp++(if tr then [.list out] else [])⟩=Y g) :
  TS C d B M (.Assign [.Name y x] (.ListComp L (⟨tE,k,s,0⟩::j) v e) c) i .next g:=λA env W hr ha QQq E h=>by
 refine Q (exec_Assign_Name_used _ _ _ _<|by refine Q (Af ha.ok)<|Q hw rfl)<|af<|wpAny_standAt<|af<|af<|G9 hc DM Ab EY ht Bt hE w hr ha λW' D cL ob o T a1 AX G2 I vH V9 JP U=>?_
 cases tr with
 |true=>
  have a2:=a1.AN AX G2 I;refine Ks hr a2 ⟨vH.at_,vH.I,vH.F,λz=>?_,vH.T⟩ JP U (.ref (by
   refine J a1.H.len<|ax dN rfl)) hy hs _ _ λW2 l2 a2=>?_
  .rcases bQ.mp z with q|q
   .exact vH.σ q
   .exact V9<|aN.mp q
  .exact wpAny_pure<|wpAny_pure<|h W2 _ (T.trans ⟨l2.G,(rm.push W'.σ D).trans l2.σ⟩) a2 rfl
 |false=>
  have a2:=a1.freeze AX G2;have l2:W'.le ⟨W'.G.vr D ob,W'.σ,W'.s⟩:=⟨Gh.wK AX.I,rm.refl _⟩;refine Ks hr a2 ⟨vH.at_,?_,vH.F,vH.σ,vH.T⟩ JP U ?_ hy (by simpa using hs) _ _ λW2 l3 a2=>?_
  .exact (ax (Gm.sr V9) vH.I:(W'.G.I.put D ob) cL=N)
  .obtain ⟨_,_,rfl,u⟩:=I.inv;exact .lst (Gm.rP _ _ _)<|qG.mono u l2
  .exact wpAny_pure<|wpAny_pure<|h W2 _ (T.trans<|l2.trans l3) a2 rfl
theorem NX {b:aj->ay->Prop}{e:dB}{U:k_->ay->Prop}(d:wpAny q_ A (eval j h) (λt u=>wpAny q_ A (assign L h t) (λJ=>U .next) b u) b s)(k:ix j (Y L) e.line h=pure false)(o:noStar L=true)(n:fD [L] j h=pure N):wpAny q_ A (exec (.Assign [L] j e) h) U b s:=by
 refine Q (kh ..)<|af<|wpAny_standAt (Q k<|af<|wpAny_pure<|Q (qn<|by decide)<|af<|wpAny_mono d (λt u c=>Q n<|af<|wpAny_pure ?_) λJ J G=>G:wpAny q_ A (do if←ix j (Y L) e.line h then _ else _) U b s)
 exact Q (Q (xh λp q=>Q (aN.mp q) o) rfl:(pU [L] h).map (·.2)=[assign L h])<|af<|wpAny_mono c (λJ J G=>wpAny_pure G) λJ J G=>G
theorem zF {b:List a7}:ix value (Y<|.Tuple b k p) n env=pure false:=by cases value<;>rfl
theorem FD:ix value (Y<|.Attribute o x p) n env=pure false:=by cases value<;>rfl
theorem TS.U7 {j:dB}{t:Nat}(b:∀k o h,vh B M o k->ix e (Y L) h k=pure false)(p:TE C d B M e i v a)(q:uf B h L=Y tg)(u:rA M t tg v a=Y f)(hw:∀k o,vh B M o k->fD [L] e k=pure N):TS C d B M (.Assign [L] e j) i .next f:=λU k w c H QQq x I=>NX (p U k w c H _ _ λn s T y G=>xZ h t L tg v a f q u U k n s c y G _ _ λz J A sx J=>I z _ (T.trans A) sx rfl) (b k w.σ _ H.ok) (De q)<|hw k w.σ H.ok
end
section
variable {y z j u:St}
theorem zK (e:sU n=true):eX (.type "function") n=pure N:=by
 delta sU at e
 simp only[oF,iu,beq_iff_eq,List.contains_nil,gG,or_false] at e
 rcases e with rfl|rfl|rfl|rfl|rfl|rfl|rfl<;>(refine Q (dM ..)<|Q (cx ..) ?_;kernel_rfl)
theorem G0 (n:qw C W k c)(e:GB k=true):handedOut c=pure c:=by
 cases k with
 |con k=>
  obtain rfl:=n.inv
  cases c with
  |type|builtin=>exact fT e|_=>rfl
 |none|bool=>exact Q n.inv rfl|int|str=>obtain ⟨_,rfl⟩:=n.inv;rfl
 |qu=>obtain ⟨_,rfl,_⟩:=n.inv;rfl
 |ref=>obtain ⟨_,rfl,_⟩:=n.inv;rfl
 |tup|lst=>obtain ⟨_,_,_,rfl,_⟩:=n.inv;rfl
 |ru=>obtain ⟨_,_,_,rfl,_⟩:=n.inv;rfl
 |tS=>obtain ⟨_,_,_,_,rfl,_⟩:=n.inv;rfl
 |bm=>obtain ⟨_,_,rfl,_⟩:=n.inv;rfl
theorem Bk.ns {i:fP}{b:ba->Option aj}(e:i.get? a=Y ob)(f:Bk ob b):i.Ns1 a b:=let ⟨g,c,k,G,n,d⟩:=f;⟨ob,g,c,e,k,G,n,d⟩
theorem Bk.of {i:fP}{b:ba->Option aj}(s:i.Ns1 a b):∃G,i.get? a=Y G/\Bk G b:=let ⟨o,f,c,e,k,H,n,d⟩:=s;⟨o,e,f,c,k,H,n,d⟩
structure FnAt (C:Ctx) (W:Wd) (hp:List O) (i:Nat) (a:bK) (f:wQ) (cl:List<|ba×Nat) (d0:Option Nat) (fd:FuncData) (dict:Option bK):Prop where
 t:R8 C W hp i a (.fn f cl d0) ⟨.type "function",dict,.func fd,#[]⟩
 fo:Gf W.G.I f fd
 Ar:∀x i,cl.lookup x=some i->∃a,W.σ[i]?=some a/\fd.closure.lookup x=some a
 hd:AE W.σ d0 dict
theorem HX (T:qY C hp W)(e:W.σ[i]?=Y a)(k:hp[i]?=Y (.fn f cl d0)):∃n h,FnAt C W hp i a f cl d0 n h:=by
 refine rN (Eo T e k) λH G=>?_
 obtain ⟨n,h,rfl,o,b,I⟩:=G.rep.inv;exact ⟨n,h,G,o,b,I⟩
structure aiv (C:Ctx) (W:Wd) (hp:List O) (d:Nat) (D:bK) (l:List<|ba×V) (ob:gA) (m:ba->Option aj):Prop where
 t:R8 C W hp d D (.ns l) ob
 ns:Bk ob m
 hl:∀x v,l.lookup x=some v->∃c,m x=some c/\qw C W v c
 E0:∀x,l.lookup x=none->m x=none
theorem VI (T:qY C hp W){v:bK}{f:List<|ba×V}(e:W.σ[d]?=Y v)(i:hp[d]?=Y (.ns f)):∃H b,aiv C W hp d v f H b:=by
 refine rN (Eo T e i) λH G=>?_
 obtain ⟨b,a,g,s⟩:=G.rep.inv;exact ⟨H,b,G,a,g,s⟩
theorem KO (T:qY C hp W){o:FuncData}(G:FnAt C W hp i a f cl d0 o dict)(e:WJ hp n d0=Y v) :
  sU n=true/\GB v=true/\∃q b s,W.s.heap.get? a=Y ⟨.type "function",Y q,.func o,#[]⟩/\W.s.heap.Ns1 q b/\b n=Y s/\qw C W v s:=by
 cases d0 with
 |none=>exact nS e|some h=>
  refine qX e λp e=>?_
  cases dict with
  |none=>exact G.hd.elim|some q=>
   cases t:hp[h]? with
   |none=>rw[t] at e;exact nS e
   |some I=>cases I with
    |ns l=>
     rw[t] at e
     exact se (VI T G.hd t) λL b x=>so e λU A e=>qX e λH e=>qt (x.hl n U A) λs c k=>⟨p,ae e▸H,q,b,s,G.t.at_,x.ns.ns x.t.at_,c,ae e▸k⟩
    |_=>replace e:=t▸e;exact nS e
theorem Lp (a:qY C hp W)(ho:qw C W o s)(h:tj hp o p=Y v):q8 C A (getAttr s p b) (λW' c=>qw C W' v c) W:=by
 refine q8.mk λQQq d hq=>?_
 cases o with
 |ref i=>
  obtain ⟨w,rfl,e⟩:=ho.inv;have h:zW hp i p hp[i]?=Y v:=h;obtain ⟨L,x,U⟩:=W;obtain ⟨I,g,dd,t,os⟩:=U
  cases n:hp[i]? with
  |none=>rw[n] at h;exact nS h
  |some o=>cases o with
   |fn f cl d0=>
    replace h:=n▸h;exact se (HX a e n) λfd dict F=>qN (KO a F h) λH k2 rS=>Eg rS λq m c k3 k4 k5 k6=>zt.Fb ⟨k3,k4.ns⟩ (zK H) k5 (G0 k6 k2)<|hq ⟨L,x,_⟩ _ (Pext0.toks _) k6
   |list l=>
    replace h:=n▸h;refine qX h λhn h=>zA (AM a e n) λG k T V=>Q hn ?_;clear hn
    exact zt.FW T.at_<|hq _ _ (Pext0.DH (zt.zV "list.append"<|.ref w) rfl (t+1) a.sF)<|J (ae h)<|.bm (Gm.rP _ _ _)<|.ref e
   |_=>replace h:=n▸h;exact nS h
 |_=>exact nS h
theorem Lf (T:qY C hp W)(k:qw C W o s)(e:isFn hp o=true)(i:tj hp o p=Y v):q8 C A (getMethod s p w) (λa b=>∃f,b=(f,[])/\qw C a v f) W:=by
 refine q8.mk λQQq d hq=>?_
 cases o with
 |ref c=>
  obtain ⟨x,rfl,n⟩:=k.inv;have i:zW hp c p hp[c]?=Y v:=i;have e:EV hp[c]?=true:=e;obtain ⟨L,I,U⟩:=W;obtain ⟨hh,g,dd,h,os⟩:=U
  cases e1:hp[c]? with
  |none=>rw[e1] at i;exact nS i
  |some o=>cases o with
   |fn t G d0=>
    revert i;refine Q e1 ?_;intro i;exact se (HX T n e1) λfd dict F=>qN (KO T F i) λH k2 wU=>Eg wU λq m f k3 k4 k5 k6=>zt.J0 ⟨k3,k4.ns⟩ (zK H) k5 (G0 k6 k2)<|hq ⟨L,I,_⟩ _ (Pext0.toks _)<|qr f rfl k6
   |list l=>rw[e1] at e;exact fT e
   |_=>replace i:=e1▸i;exact nS i
 |_=>exact nS i
theorem TE.attr {pos:dB}(k:vd o=true)(q:TE C d B M o y a j)(i:tj j.hp a p=Y v):TE C d B M (.Attribute o p pos) y v j:=λU f t L H QQq w g=>by
 refine Attribute_any_ (q U f t L H _ _ λn b T A G=>?_) ?_
 .exact Lp A.H G i _ _ λc s x I=>g c s (T.trans x.le) (A.rz x) I
 .have e:eval (.Attribute o p pos) f=(do
   let h←attributeBase o p f (eval o f)
   eu pos.atName
   let r←gx [h] (getAttr h p true)
   m9 o h r
   pure r):=by with_unfolding_all rfl
  refine ax e<|Q (Be k) rfl
end
section
variable {st rH U u:St}
theorem K3 {l:List<|ba×V}{m:ba->Option aj}(h:∀x,l.lookup x=N->m x=N):Within m<|l.map (·.1):=λy hy=>by
 cases q:l.lookup y with
 |none=>exact absurd (h y q) hy|some v=>
  clear hy h
  induction l with
  |nil=>exact Vm.nS q|cons x l ih=>
   rw[bM] at q
   split at q
   .rename_i e;exact Q (eq_of_beq e)<|.head _
   .exact .tail _<|ih q
theorem Jk {a:cF}{l:List<|ba×V}{b:ba->Option aj}(G:Rep a T I σ k s)(d:∀j k,l.lookup j=Y k->∃s,b j=Y s/\Rep a T I σ k s)(h2:∀j,l.lookup j=N->b j=N) :
  (∀j L,((n,k)::l).lookup j=Y L->∃c,(λe=>if e=n then Y s else b e) j=Y c/\Rep a T I σ L c)/\(∀j,((n,k)::l).lookup j=N->(λe=>if e=n then Y s else b e) j=N):=by
 refine ⟨λj L f=>?_,λj f=>?_⟩
 .rw[bM] at f
  split at f
  .rename_i H;(refine Vm.sI f ?_;clear f;rintro rfl);exact qr s (qm<|eq_of_beq H) G
  .rename_i H;exact qt (d j L f) λc o g=>qr c ((qn<|by simpa using H).trans o) g
 .revert f;refine Q (bM ..) ?_;intro f
  split at f
  .exact Vm.sN f
  .rename_i H;exact (qn<|by simpa using H).trans<|h2 j f
theorem Xv (H:qY C hp W)(e:W.σ[i]?=Y a)(I:FnAt C W hp i a f cl N fd dict)(hv:qw C W v z)(Bt:sU n=true):TH C A (setAttr (.ref a) n z) (λV V=>True) (hp.set i (.fn f cl<|Y hp.length)++[.ns [(n,v)]]) W:=by
 obtain ⟨T,fo,Ar,V7⟩:=I
 cases dict with
 |some D=>exact V7.elim|none=>
  intro QQq E hQ;obtain ⟨G,σ,s⟩:=W;obtain ⟨hh,g,dd,h,os⟩:=s;refine wpAny_toks<|zt.E_ T.at_ (zK Bt) (λdx x q=>nS q) λV x Q' E' Q5=>?_
  have c:a≠hh.objs.size:=cy<|bR T.at_
  refine zt.JZ (fP.Ns1.of_empty<|AJ _ (#[]) _ ((oj _ _ _ _ c.symm).trans<|fP.get?_push_at rfl rfl) rfl (λe he=>absurd he<|by simp) λV=>rfl) Within.nil (by simp) λh' Zk JM hs=>Q5 _ λw=>?_
  refine qt (Bk.of JM) λobD gD nD=>?_
  have hx':h'.get? a=Y ⟨.type "function",Y hh.objs.size,.func fd,#[]⟩:=(hs.2 a c).trans<|d9 _ (aY _ T.at_) rfl
  have k:∀b o,b≠a->hh.get? b=Y o->h'.get? b=Y o:=λb o z q=>(hs.2 b<|cy<|bR q).trans<|(oj _ _ _ _ z).trans<|aY _ q
  have t:=Jk (l:=[]) (n:=n) (qw.mono hv (W':=⟨G,σ++[hh.objs.size],⟨h',g,dd,Zk,os⟩⟩) ⟨Gh.le.refl _,rm.push _ _⟩) (λd v q=>nS q) λV V=>rfl
  have H3:=((H.upd (s':=⟨h',g,dd,Zk,os⟩) e k hx' (.gone _) rfl rfl w).AN gD H.sF H.wo H.vq H.freshT<|.ns nD t.1 t.2).upd (o:=.fn f cl<|Y hp.length) (rm.push _ _ _ _ e) (λV V V q=>q) hx' (.fn fo (λd j q=>let ⟨y,p,r⟩:=Ar d j q;(qr y (rm.push _ _ _ _ p) r)) (by
   show (σ++[hh.objs.size])[hp.length]?=Y hh.objs.size;refine J H.len<|Q dN rfl)) rfl rfl<|ag _
  have eL:(hp.set i .gone++[O.ns [(n,v)]]).set i (.fn f cl<|Y hp.length)=hp.set i (.fn f cl<|Y hp.length)++[O.ns [(n,v)]]:=by refine Q (nL _ _<|by simpa using (J H.len<|(aO.mp e).1))<|Q (ki ..) rfl
  rw[eL] at H3
  refine hQ ⟨G,σ++[hh.objs.size],⟨h',g,dd,Zk,os⟩⟩ _ ⟨⟨Gh.le.refl _,rm.push _ _⟩,λL o p q r h=>⟨k L o (λz=>r<|Q z<|bG e) p,q,λz=>?_⟩⟩ H3 trivial;rcases bQ.mp z with z|z
  .exact r z
  .rw[aN.mp z] at p;exact absurd (bR p)<|b9 _
theorem S' (n:qY C a W){j:List<|ba×V}(e:a[h]?=Y (.ns j))(I:FnAt C W a c v f cl (Y h) fd y)(hv:qw C W k z)(i:sU p=true)(L:j.length<100):TH C d (setAttr (.ref v) p z) (λP P=>True) (a.set h<|.ns<|(p,k)::j) W:=by
 have A:=I.hd
 cases y with
 |none=>exact A.elim|some D=>
  refine se (VI n A e) λobD m NNq=>?_
  intro QQq E hQ;obtain ⟨G,σ,s⟩:=W;obtain ⟨hh,g,dd,t,os⟩:=s;exact wpAny_toks<|zt.E_ I.t.at_ (zK i) (λw x q Q' E' Q5=>J (ae q)<|zt.JZ (NNq.ns.ns NNq.t.at_) (K3 NNq.E0) (Q (ao ..)<|lD _ L) λh' T JM hs=>Q5 _ λBq=>qt (Bk.of JM) λakL H nD=>hQ ⟨G,σ,⟨h',g,dd,T,os⟩⟩ _ (NNq.t.kept _ λb o z q=>(hs.2 b z).trans q) (n.upd A (λb o z q=>(hs.2 b z).trans q) H (.ns nD (Jk hv NNq.hl NNq.E0).1 (Jk hv NNq.hl NNq.E0).2) rfl rfl Bq) trivial) λq=>sN q
theorem Hp (T:qY C hp W)(k:qw C W o a)(w:qw C W v s)(e:yH hp o p v=Y hp'):TH C A (setAttr a p s) (λV V=>True) hp' W:=by
 cases o with
 |ref c=>
  obtain ⟨x,rfl,i⟩:=k.inv;have e:Og hp c p v hp[c]?=Y hp':=e
  cases n:hp[c]? with
  |none=>rw[n] at e;exact nS e
  |some o=>cases o with
   |fn t y h=>
    revert e;refine Q n ?_;intro e;refine se (HX T i n) λq f G=>?_
    cases h with
    |none=>exact qX e λz e=>J (ae e)<|Xv T i G w z
    |some j=>
     have e:putN hp j p v hp[j]?=Y hp':=e
     cases H:hp[j]? with
     |none=>rw[H] at e;exact nS e
     |some o=>cases o with
      |ns l=>rw[H] at e;exact qX e λz e=>J (ae e)<|S' T H G w z.1 z.2
      |_=>rw[H] at e;exact nS e
   |_=>replace e:=n▸e;exact nS e
 |_=>exact nS e
theorem TS.setAttr {c:dB}(h:TE C d B M e st v U)(x:TE C d B M o U a u)(i:yH u.hp a n v=Y hp'):TS C d B M (.Assign [.Attribute o n p] e c) st .next ⟨u.loc,hp'⟩:=λb f s L ha QQq j g=>plainObj_wpAny_Assign_Attribute (h b f s L ha _ _ λq c₁ T y G=>x b f q L y _ _ λt w z A I=>Hp A.H I (G.mono z) i _ _ λxl J k H J=>g xl _ ((T.trans z).trans k.le) (A.kept k H) rfl) FD
end
theorem Hs {c:Nat}:∀(a:List aj),jd a->codeAmong e (a++[fI c,fI h,v])=(codeAmong e a).or (if ((c:Int)==e.line&&(h:Int)==e.col)=true then Y v else N):=by
 intro a s
 fun_induction jd a with
 |case1=>rfl|case2 q x d t f rest b=>
  simp only[kM,codeAmong]
  split
  .rfl
  .exact b s
 |case3=>exact s.elim
theorem K6 {d:Nat}:∀(a:List aj),jd a->jd (a++[fI d,fI c,v]):=by
 intro a s
 fun_induction jd a with
 |case1=>assumption|case2 q x e t f rest b=>
  exact b s
 |case3=>exact s.elim
theorem ahN {b:aj->ay->Prop}{U:ay}{q:bK}{e:dB}{d:ba->Option aj}{QQq:aj->ay->Prop}(g:closureFor scope env=pure D2)(i:env.globals=dg)(k:U.heap.Ns dg d)(n:env.code=.ref c)(j:p_ U.heap c q)(z:U.heap.get? q=Y (tabObj ps))(t:jd ps.toList)(p:dg≠q)(f:U.heap.BuiltinsAt d q)(u:∀(fd:FuncData)(w:bK)(v:fP)(x:pJ),fd.params=params->fd.body=body->fd.scope=scope->fd.qualname=qual->fd.globals=dg->fd.builtins=eY->fd.defaults=.none->fd.kwdefaults=.none->fd.closure=D2->U.heap.objs.size<=v.objs.size->
   ((codeAmong e ps.toList=Y fd.code/\(∀H o,U.heap.get? H=Y o->v.get? H=Y o))\/
    (codeAmong e ps.toList=N/\nU q U.heap v/\U.heap.objs.size<=w/\w<v.objs.size/\fd.code=.ref w/\v.CodeRec (.ref w) qual/\v.get? q=Y (tabObj<|ps++#[fI e.line,fI e.col,.ref w])))->
   QQq (.ref v.objs.size) { U with heap:=v.push ⟨.type "function",N,.func fd,#[]⟩,toks:=x }) :
  wpAny q_ A (makeFunction name qual params body scope env [] [] [] e firstLine) QQq b U:=by
 cases I:codeAmong e ps.toList with
 |none=>
  cases body with
  |expr L=>
   exact kla_makeFunction g i k n j z t I p f λw s v x y G T x4 x5=>u _ w v x rfl rfl rfl rfl rfl rfl rfl rfl rfl (aa G<|bl T)<|.inr<|Vd I y G T rfl x4 x5
  |stmts H=>
   exact makeFunction_K g i k n j z t I p f λw s a v x y G T x4 x5=>u _ w v x rfl rfl rfl rfl rfl rfl rfl rfl rfl (aa G<|bl T)<|.inr<|Vd I y G T rfl x4 x5
 |some h=>
  cases body with
  |expr L=>
   exact kla_makeFunctionHit g i k n j z t I f λs v x y G=>u _ 0 v x rfl rfl rfl rfl rfl rfl rfl rfl rfl G<|.inl ⟨I,y⟩
  |stmts H=>
   exact makeFunction_hit g i k n j z t I f λs a v x y G=>u _ 0 v x rfl rfl rfl rfl rfl rfl rfl rfl rfl G<|.inl ⟨I,y⟩
theorem q7.Xa {u:ay}(H:q7 C G σ hp s){v:bK}(a:v∈C.tabs)(b:∀w o,w≠v->s.heap.get? w=Y o->u.heap.get? w=Y o)(e:u.heap.get? c'=Y oc)(y:s.heap.objs.size<=c')(hPo:u.heap.get? v=Y ob)(tab:xV C (G.I.put c' oc) v ob)(n:u.gens=s.gens)(z:u.os=s.os)(j:s.toks<=u.toks):q7 C (G.vr c' oc) σ hp u:=by
 have fresh:∀o,s.heap.get? c'≠Y o:=λo L=>absurd (bR L)<|cV.mpr y
 have c:G.I c'=N:=by
  cases d:G.I c' with
  |none=>rfl|some o=>exact absurd (H.I _ _ d)<|fresh o
 have g:G.F c'=N:=by
  cases d:G.F c' with
  |none=>rfl|some o=>exact absurd (H.F _ _ d)<|fresh o
 have f:=(H.tab v a).1;have PF:=(H.tab v a).2.1;exact {
  I:=λw x L=>by
   rcases Gm.I9 L with ⟨rfl,rfl⟩|⟨_,L⟩
   .exact e
   .exact b w x (λd=>by subst d;rw[f] at L;exact Vm.nS L)<|H.I w x L
  F:=λw x L=>b w x (λd=>by subst d;have L:G.F w=Y x:=L;rw[PF] at L;exact Vm.nS L)<|H.F w x L
  IF:=λw L=>by
   by_cases d:w=c'
   .refine Q d ?_;clear d;exact g
   .refine H.IF w ?_;replace L:(G.I.put c' oc) w≠N:=L
    rwa [Gm.sr d] at L
  top:=H.top.trans<|Gm.vM c
  tab:=λh k=>by
   refine uQ (H.tab h k) λx q A U=>qt U λo L t=>td ((Gm.sr λd=>by subst d;exact fresh o L).trans x) q A ?_
   by_cases d:h=v
   .refine Q d ?_;clear d;exact qr ob hPo tab
   .exact qr o (b h o d L)<|t.mono<|Gm.vM c
  len:=H.len
  nd:=H.nd
  rY:=λi w L=>qN (H.rY i w L) λp d rS=>qZ rS λx o h1 h2 h3=>⟨(Gm.sr λA=>by subst A;exact fresh o h2).trans p,d,x,o,h1,b w o (λA=>((H.tab v a).2.2.1)<|J A<|bG L) h2,h3.mono (Tm.le.refl _) (Gm.vM c)<|rm.refl _⟩
  gens:=n.trans H.gens
  os:=z.trans H.os
  pos:=ai H.pos j
  T:=λt x L=>⟨(H.T t x L).1,ai (H.T t x L).2 j⟩ }
section
variable {d u n s:St}
structure sH (C:Ctx) (g:Glob):Prop extends acH C g where
 CA:∀cv l c q,g.yW (some cv) l c=some q->∃a P,cv=.ref a/\P∈C.tabs/\P≠fS/\C.qual P l c=some q/\∀h:fP,(∀x o,C.tG x=some o->h.get? x=some o)->p_ h a P
 bt:∀h:fP,(∀x o,C.tG x=some o->h.get? x=some o)->∀P∈C.tabs,h.BuiltinsAt C.mg P
 gP:∀P∈C.tabs,dg≠P
 dbg:g.blt.lookup ("__debug__":ba)=none
 lim:∀h:fP,(∀x o,C.tG x=some o->h.get? x=some o)->h.NoLimit
theorem Jq {o v:Type}{b:o->Option v}:∀{l:List o}{r:List v},qP b l=Y r->(∀a∈l,∃p∈r,b a=Y p)/\(∀p∈r,∃a∈l,b a=Y p)
 |[],r,e=>by (refine Vm.sI e ?_;clear e;rintro rfl);exact ⟨(λJ e=>nomatch e),λJ e=>nomatch e⟩
 |a::l,r,e=>by
  refine qZ (rp e) λp w i q z=>Q z ?_;clear z
  obtain ⟨g,t⟩:=Jq q;refine ⟨λc hx=>?_,λj hy=>?_⟩
  .rcases aE.mp hx with rfl|hx
   .exact ⟨p,.head _,i⟩
   .exact qt (g c hx) λf G H=>⟨f,.tail _ G,H⟩
  .rcases aE.mp hy with rfl|hy
   .exact qr a (.head _) i
   .exact qt (t j hy) λh G H=>qr h (.tail _ G) H
theorem Df (e:zp B sc=Y cl) :
  (∀p,(p,.free)∈sc.names->∃c,idx B.cells p=Y c/\(B.scope.names.lookup p=Y .cell\/B.scope.names.lookup p=Y .free))/\
  (∀p c,(p,c)∈cl->(p,.free)∈sc.names/\idx B.cells p=Y c/\(B.scope.names.lookup p=Y .cell\/B.scope.names.lookup p=Y .free)):=by
 refine qt (ck.mp e) λj i o=>J o ?_;clear o
 obtain ⟨k,q⟩:=Jq i;have g:∀(p:ba×NameKind)(b:ba×Nat),(match B.scope.names.lookup p.1 with
  |Y .cell=>(idx B.cells p.1).map (p.1,·)|Y .free=>(idx B.cells p.1).map (p.1,·)
  |_=>N)=Y b->b.1=p.1/\idx B.cells p.1=Y b.2/\(B.scope.names.lookup p.1=Y .cell\/B.scope.names.lookup p.1=Y .free):=λp b z=>by
  split at z
  .rename_i U;obtain ⟨c,H,rfl⟩:=ck.mp z;exact ⟨rfl,H,.inl U⟩
  .rename_i U;obtain ⟨c,H,rfl⟩:=ck.mp z;exact ⟨rfl,H,.inr U⟩
  .exact Vm.nS z
 refine ⟨λp a=>?_,λp c a=>?_⟩
 .exact qt (k (p,.free)<|du.mpr ⟨a,rfl⟩) λb W z=>qN (g _ _ z) λW H t=>qr _ H t
 .refine qt (q (p,c)<|dy.mp a) λf G z=>qN (g _ _ z) λH t v=>rG (du.mp G) λT w=>?_
  obtain ⟨x,h⟩:=f;dsimp only at H t v w
  refine Q H ?_;clear H;have:h=.free:=by simpa using w
  subst this;exact rj T t v
theorem Lm {f:List<|ba×Nat}:∀{j:List<|ba×Nat},v5 M f=Y j->∀p c,(p,c)∈j->∃h,(p,h)∈f/\M[h]?=Y c:=by
 induction f with
 |nil=>exact λe p c a=>by rw[<- ae e] at a;exact nomatch a
 |cons b f g=>
  intro j e p c a;refine yZ e λt k i o z=>?_
  rw[<- ae z] at a
  exact (aE.mp a).elim (λH=>qr b.2 (Q ((b0 H).1)<|.head _)<|Q ((b0 H).2) i) λH=>(g o p c H).imp λh e=>⟨.tail _ e.1,e.2⟩
theorem W9 {ps:Array aj}{c:Nat}{e:dB}(f:c≠fS)(t:jd ps.toList)(b:∀g v j,codeAmong g ps.toList=Y v->C.qual c g.line g.col=Y j->xX I v j)(h:C.qual c e.line e.col=Y q)(i:I c'=N)(U:xX (I.put c' oc) (.ref c') q):xV C (I.put c' oc) c<|tabObj<|ps++#[fI e.line,fI e.col,.ref c']:=by
 refine .inr ⟨f,_,rfl,by simpa using K6 ps.toList t,λg v j o z=>?_⟩;rw[eD] at o
 revert o;refine Q (Hs _ t) ?_;intro o
 cases p:codeAmong g ps.toList with
 |some a=>
  rw[p] at o
  exact (b _ _ _ (p.trans o) z).mono<|Gm.vM i
 |none=>
  rw[p,lj] at o
  exact qX o λk o=>by
   rw[aA,beq_iff_eq,beq_iff_eq] at k
   rw[(by lia:g.line=e.line),(by lia:g.col=e.col),h] at z
   exact ae o▸ae z▸U
theorem LW (hG:sH C g){pos:dB}(ha:At C B M env d W)(L:zp B sc=Y Dg)(Q1:v5 M Dg=Y cl)(hq:g.yW B.code pos.line pos.col=Y q)(QQq:aj->ay->Prop)(E:aj->ay->Prop)(hQ:∀W' c,W.le W'->At C B M env ⟨d.loc,d.hp++[.fn ⟨params,body,sc,q⟩ cl N]⟩ W'->qw C W' (.ref d.hp.length) c->QQq c W'.s):wpAny (model C.prog C.w) A (makeFunction name q params body sc env [] [] [] pos line) QQq E W.s:=by
 refine gk λP0 k0=>?_
 obtain ⟨s1,s2⟩:=Df L
 cases H:B.code with
 |none=>rw[H] at hq;exact nS hq
 |some cv=>
 revert hq;refine Q H ?_;intro hq;obtain ⟨w,P,By,hP,hPs,k,G⟩:=(hG.CA _ _ _ _ hq);subst By;obtain ⟨D2,c1,c2,T⟩:=Bu (λx hx hf=>by obtain ⟨xn,xk⟩:=x;subst hf;exact qt (s1 xn hx) λh p r=>qZ ((λx h h1 h2=>ha.ok.cell h x (wL h1) h2) xn h p r) λi a V V e=>⟨a,e⟩)
 refine uQ (ha.H.tab P hP) λpI pF pσ U=>qt U λob hob hT=>?_
 rcases hT with hT|⟨_,ps,rfl,htr,aa9⟩
 .exact absurd hT.1 hPs
 refine k0<|wpAny_toks ?_
 clear k0 s1;refine ahN c1 ha.ok.globals (by have:=ha.glob.1;rwa [ha.ok.globals] at this) (ha.ok.code _ H) (G _ λx o e=>ha.H.I x o<|ha.H.top x o e) hob htr (hG.gP P hP) (hG.bt _ (λx o e=>ha.H.I x o<|ha.H.top x o e) P hP) λfd c' h' tk x1 x2 x3 x4 x5 x6 x7 j x9 hsz aep Bq=>gk λP0 k0=>?_
 have key:∃G',Gh.le W.G G'/\G'.I env.locals=N/\q7 C G' W.σ d.hp { W.s with heap:=h',toks:=tk }/\xX G'.I fd.code q/\(∀b o,b≠P->W.s.heap.get? b=Y o->h'.get? b=Y o):=by
  rcases aep with ⟨y1,y2⟩|⟨y1,y2,y3,y4,y5,y6,y7⟩
  .exact zz W.G (.refl _) ha.L.I (ha.H.ext y2 Bq rfl rfl) (aa9 _ _ _ y1 k) λb o V e=>y2 b o e
  .obtain ⟨c2',oc,vs,t,z1,z2,z3,z4⟩:=y6
   cases z1
   have cI:W.G.I c'=N:=by
    cases qq:W.G.I c' with
    |none=>rfl|some o=>exact absurd (bR<|ha.H.I _ _ qq)<|cV.mpr y3
   refine zz (W.G.vr c' oc) (Gh.wK cI) ((Gm.sr<|cy<|ai ha.lt y3).trans ha.L.I) (ha.H.Xa hP (λb o z e=>y2 b o z e) z2 y3 y7 (W9 hPs htr aa9 k cI<|AI c' oc vs t rfl (Gm.rP _ _ _) z3 z4) rfl rfl Bq) (Q y5<|AI c' oc vs t rfl (Gm.rP _ _ _) z3 z4) λb o z e=>y2 b o z e
 refine HD key λG' lG lI H' hcd hk=>?_
 have I:rB C.w.params G'.T G'.I (W.σ++[h'.objs.size]) ⟨.type "function",N,.func fd,#[]⟩<|.fn ⟨params,body,sc,q⟩ cl N:=by
  refine .fn ⟨x1,x2,x3,x4,x5,x6,x7,j,hcd⟩ (λx i hx=>qt (Lm Q1 x i<|mem_of_lookup hx) λh hk1 V4=>qN (s2 x h hk1) λp1 p2 p3=>qZ ((λx h h1 h2=>ha.ok.cell h x (wL h1) h2) x h p2 p3) λi' a r1 r2 r3=>?_) trivial;rw[V4] at r1;(refine Vm.sI r1 ?_;clear r1;rintro rfl)
  obtain ⟨a',r4⟩:=T x p1;have:=c2 x a' r4;rw[r3] at this;(refine Vm.sI this ?_;clear this;rintro rfl)
  exact qr a (rm.push _ _ _ _ r2)<|Q x9 r4
 have lW:W.le ⟨G',W.σ++[h'.objs.size],{ W.s with heap:=h'.push ⟨.type "function",N,.func fd,#[]⟩,toks:=tk }⟩:=⟨lG,rm.push _ _⟩;refine k0<|hQ ⟨G',W.σ++[h'.objs.size],{ W.s with heap:=h'.push ⟨.type "function",N,.func fd,#[]⟩,toks:=tk }⟩ _ lW ⟨ha.ok.mono lW.σ,H'.ahJ ⟨.type "function",N,.func fd,#[]⟩ _ rfl I<|ag _,⟨?_,lI,Q lG.F ha.L.F,?_,ha.L.T⟩⟩<|.ref<|by refine J ha.H.len<|ax dN rfl
 .refine qt ha.L.ns λm xY y=>?_;obtain ⟨o,es,ep,z,rest⟩:=xY
  exact qr m (wR o es ep (aY _<|hk _ _ (λz=>ha.L.T<|Q z hP) z) rest) λi x v e f=>qt (y i x v e f) λc p q=>qr c p<|q.mono lW
 .intro z;rcases bQ.mp z with z|z
  .exact ha.L.σ z
  .exact absurd (aN.mp z)<|cy<|ai ha.lt hsz
end
section
variable {i j k o:St}
theorem wY (e:wH p=true):∃a,p=⟨[],a,N,[],[],N,[]⟩/\a.all (·.annotation.isNone)=true:=by
 obtain ⟨f,q,y,u,G,h,d⟩:=p;delta wH at e
 simp only[aA,f',lA] at e
 obtain ⟨⟨⟨⟨⟨⟨t,I⟩,c⟩,H⟩,z⟩,n⟩,s⟩:=e;subst t I c H z n;exact qr q rfl s
theorem Hf:∀{as:List Arg},as.all (·.annotation.isNone)=true->annotationsOf as env=[]
 |[]=>@λJ=>rfl
 |⟨p,N,e⟩::as=>@λf=>Hf (as:=as) (by simpa using f)
 |⟨p,Y z,e⟩::as=>@λf=>by simp at f
theorem KU (e:wH p=true):annTrees p N env=[]:=by
 refine qt (wY e) λf q n=>?_;subst q
 delta annTrees;simp only[bh,Option.toList_none,dY];exact Q (Hf n) rfl
theorem TE.lam (f:sH C g){e:dB}(h:wH params=true)(p:zp B sc=Y Dg)(n:v5 M Dg=Y cl)(z:g.yW B.code e.line e.col=Y (B.qual++"<lambda>")) :
  TE C d B M (.Lambda params body sc e) i (.ref i.hp.length) ⟨i.loc,i.hp++[.fn ⟨params,.expr body,sc,B.qual++"<lambda>"⟩ cl N]⟩:=λT q s L I U t u=>by
 refine kla_eval ?_ ?_
 .refine qt (wY h) λG H J=>?_;subst H
  exact Q (defaultsOf_eq ..) (rfl:(evalEach [] q,evalEachOpt [] q)=([],[]))
 .exact Q I.ok.qual<|LW f I p n z U t u
theorem TS.DY (f:sH C g){e:dB}(p:wH params=true)(q:zp B sc=Y Dg)(s:v5 M Dg=Y cl)(z:g.yW B.code e.line e.col=Y (B.qual++name))(w:yo B (.Name name np) tg)(H:rA M (n+1) tg (.ref i.hp.length) ⟨i.loc,i.hp++[.fn ⟨params,.stmts body,sc,B.qual++name⟩ cl N]⟩=Y j) :
  TS C d B M (.FunctionDef name params body [] N [] sc N name e) i .next j:=λU t u L I QQq v h=>by
 have hqn:qualnameIn t name name=B.qual++name:=by
  delta qualnameIn;have:t.kindOf name≠Y .globalExplicit:=by
   delta fu;refine Q I.ok.scope ?_
   cases w with
   |l x J=>exact Q x λA=>nomatch A
   |cell x J=>exact Q x λA=>nomatch A
  refine ax (qn<|by simpa using this)<|Q I.ok.qual rfl
 have a:defaultsOf params t=([],[]):=by
  refine qt (wY p) λG b J=>?_;subst b
  exact Q (defaultsOf_eq ..) (rfl:(evalEach [] t,evalEachOpt [] t)=([],[]))
 refine Q (exec_def ..)<|af<|wpAny_standAt<|af<|cU<|Q a<|Q (KU p)<|Q hqn<|af<|wpAny_pure<|af<|cU<|wpAny_pure<|cU<|af<|wpAny_pure<|LW f I q s z _ _ λW1 c T y r1=>af<|wpAny_standAt<|af<|Cw w H y r1 _ _ λW2 J l2 a2 J=>wpAny_pure<|h W2 _ (T.trans l2) a2 rfl
end
noncomputable def bindAll (U:List Nat):List Tg->List V->St->Option St
 |[],[]=>@λx=>Y x
 |t::u,k::G=>@λx=>match rA U 5 t k x with
  |Y x=>bindAll U u G x|N=>N
 |J,W=>@λJ=>N
def zX (U:K):List ba->List Tg->Prop
 |[],[]=>True|x::a,q::f=>(∃e,yo U (.Name x e) q)/\zX U a f
 |J,W=>False
theorem KG {x:St}(e:bindAll M (q::ts) (k::vs) x=Y rH):∃u,rA M 5 q k x=Y u/\bindAll M ts vs u=Y rH:=by
 have b:∀y:Option St,(match y with|Y x=>bindAll M ts vs x|N=>N)=Y rH->∃u,y=Y u/\bindAll M ts vs u=Y rH:=by
  intro y e
  cases y with
  |none=>exact nS e|some n=>exact qr n rfl e
 exact b _ e
theorem Gk (b:ba×aj->PUnit->gH (ForInStep PUnit))(d:∀p s u,b (p,s) u=(do storeName env p s;pure (.yield ⟨⟩))) :
  ∀{f:List<|ba×aj}{j:List Tg}{vs:List V}{st I:St}{W:Wd},zX B (f.map (·.1)) j->bindAll M j vs st=Y I->qG C W vs (f.map (·.2))->At C B M env st W->
   Tr C B M env A (forIn f PUnit.unit b) I (λJ J=>True) W
 |[],[],[],J,P,W,F,e,R,L=>ae e▸λJ J hq=>wpAny_pure<|hq W _ (Wd.le.refl _) L trivial
 |xc::f,t::j,s::vs,st,I,W,a,e,U,L=>λQQq c hq=>by
  obtain ⟨g,G,i,k,o⟩:=U.inv;obtain ⟨n,z⟩:=fF i;refine qt (KG e) λv H e=>Q (gE ..)<|Q (d ..) ?_
  obtain ⟨⟨x,w⟩,ht2⟩:=a;exact af<|af<|Ir w H L ((show xc.2=g from n).symm▸k) _ _ λW1 J T y J=>wpAny_pure<|Gk b d ht2 e ((show f.map (·.2)=G from z).symm▸qG.mono o T) y _ _ λW2 h l2 a2 q=>hq W2 h (T.trans l2) a2 q
 |[],_::_,_,_,_,_,a,_,_,_=>a.elim|_::_,[],_,_,_,_,a,_,_,_=>a.elim
 |[],[],_::_,_,_,_,_,e,_,_=>nS e|_::_,_::_,[],_,_,_,_,e,_,_=>nS e
section
variable {W:Wd}
open Classical in
noncomputable def Wd.vI (T:Ctx)(s:Wd):Gm:=λv=>if s.G.I v=N/\v∉s.σ/\v∉T.tabs then s.s.heap.get? v else N
def Wd.xG (T:Ctx)(W:Wd):Wd:=W.tL<|W.vI T
theorem xR (e:W.vI C b=Y o):W.G.I b=N/\b∉W.σ/\b∉C.tabs/\W.s.heap.get? b=Y o:=by
 delta Wd.vI at e
 split at e
 .rename_i U;exact td U.1 U.2.1 U.2.2 e
 .exact Vm.nS e
theorem GC (e:W.G.I b=N)(G:b∉W.σ)(a:b∉C.tabs)(i:W.s.heap.get? b=Y o):W.vI C b=Y o:=by delta Wd.vI;exact ax (qm<|rj e G a) i
theorem q7.all (H:qY C hp W):qY C hp<|W.xG C where
 I:=H.I
 F b x e:=(xR e).2.2.2
 IF b e:=by
  show W.vI C b=N
  cases q:W.vI C b with
  |none=>rfl|some o=>exact absurd (xR q).1 e
 top:=H.top
 tab P hP:=by
  refine qN (H.tab P hP) λx y z=>rj x ?_ z
  show W.vI C P=N
  cases q:W.vI C P with
  |none=>rfl|some o=>exact absurd hP (xR q).2.2.1
 len:=H.len
 nd:=H.nd
 rY i b e:=by
  refine qN (H.rY i b e) λp q z=>rj p ?_ z
  show W.vI C b=N
  cases q:W.vI C b with
  |none=>rfl|some o=>exact absurd (bG e) (xR q).2.1
 gens:=H.gens
 os:=H.os
 pos:=H.pos
 T:=H.T
theorem q7.acW (H:qY C hp W)(T:(W.xG C).le W')(U:qY C hp' W'):Kept C W (W'.tL W.G.F)/\qY C hp' (W'.tL W.G.F):=by
 have b:∀v G,W.G.F v=Y G->W'.G.F v=Y G:=λv G e=>by
  refine Q T.G.F ?_;have i:W.G.I v=N:=by
   cases z:W.G.I v with
   |none=>rfl|some o=>have:=H.IF v<|Q z λc=>Vm.sN c;rw[e] at this;exact Vm.sN this
  refine GC i (λc=>?_) (λc=>?_)<|H.F v G e
  .obtain ⟨d,I,z⟩:=cK c;refine qN (H.rY d v<|J z<|aD I) λV k V=>?_
   rw[e] at k;exact Vm.sN k
  .have:=(H.tab v c).2.1;rw[e] at this;exact Vm.sN this
 refine ⟨⟨⟨⟨T.G.I,rfl,T.G.T⟩,T.σ⟩,λq o k z L a=>?_⟩,U.HO b⟩;have f:W'.G.F q=Y o:=Q T.G.F<|GC z L a k
 refine rj (U.F q o f) ?_ λc=>?_
 .cases g:W'.G.I q with
  |none=>exact g|some G=>have:=U.IF q<|Q g λc=>Vm.sN c;rw[f] at this;exact Vm.sN this
 .obtain ⟨d,I,e⟩:=cK c;refine qN (U.rY d q<|J e<|aD I) λV k V=>?_
  rw[f] at k;exact Vm.sN k
noncomputable def wg (a:List<|ba×Nat):List (ba×NameKind)->Nat->Option (List Nat)
 |[]=>@λJ=>Y []
 |(y,.cell)::r=>@λb=>(wg a r<|b+1).map (b::·)
 |(y,.free)::r=>@λb=>match a.lookup y,wg a r b with
  |Y i,Y l=>Y<|i::l
  |J,W=>N
 |_::r=>@λb=>wg a r b
noncomputable def aey (a:List<|ba×NameKind):List ba:=(a.filter λx=>x.2==.cell||x.2==.free).map (·.1)
def zx (a:List<|ba×Nat)(f:List<|ba×NameKind)(c:Nat)(U:List Nat)(h:Nat)(p:ba):Prop:=(∃t,(ownOf f)[t]?=Y p/\U[h]?=Y (c+t))\/((p,NameKind.free)∈f/\∃T,a.lookup p=Y T/\U[h]?=Y T)
theorem zx.own (G:zx cells names (c+1) l k x):zx cells ((n,.cell)::names) c (c::l) (k+1) x:=G.elim (λU=>qt U λt e i=>.inl ⟨t+1,e,i.trans<|qo Y<|cD c 1 t⟩) λu=>rG u λe i=>.inr ⟨.tail _ e,i⟩
theorem zx.free (G:zx cells names b l k x):zx cells ((n,.free)::names) b (t::l) (k+1) x:=G.elim (λU=>qt U λT e i=>.inl<|qr T e i) λu=>rG u λe i=>.inr ⟨.tail _ e,i⟩
theorem zx.other (e:ownOf ((n,kd)::names)=ownOf names)(G:zx cells names b l k x):zx cells ((n,kd)::names) b l k x:=G.elim (λU=>qt U λt i o=>.inl<|qr t (J e.symm i) o) λu=>rG u λi o=>.inr ⟨.tail _ i,o⟩
theorem Rw {U:List Nat}(e:wg cells ((n,.free)::names) b=Y U):∃i u,cells.lookup n=Y i/\wg cells names b=Y u/\i::u=U:=by
 have c:∀(y:Option Nat)(h:Option<|List Nat),(match y,h with|Y i,Y u=>Y<|i::u|_,_=>N)=Y U->∃i u,y=Y i/\h=Y u/\i::u=U:=by
  intro y h e
  cases y with
  |none=>exact nS e|some i=>cases h with
   |none=>exact nS e|some u=>exact tb i u rfl rfl<|ae e
 exact c _ _ e
theorem zT:∀{names:List<|ba×NameKind}{b:Nat}{M:List Nat},wg cells names b=Y M->∀(h:Nat)(p:ba),(aey names)[h]?=Y p->zx cells names b M h p
 |[],b,M,e,h,p,i=>nomatch i|(j,k)::names,b,M,e,h,p,i=>by
  cases k with
  |cell=>
   refine qt (ck.mp (e:(wg cells names<|b+1).map (b::·)=Y M)) λd n z=>J z ?_
   cases h with
   |zero=>exact .inl<|qr 0 i rfl
   |succ h=>exact (zT n h p i).own
  |free=>
   refine qZ (Rw e) λt d H c z=>J z ?_
   cases h with
   |zero=>exact .inr<|J (ae i) ⟨.head _,t,H,rfl⟩
   |succ h=>exact (zT c h p i).free
  |_=>exact zx.other rfl<|zT (names:=names) e h p i
theorem Jd {a:List<|ba×NameKind}(x:(a.map (·.1)).Nodup)(c:(p,NameKind.free)∈a):p∉ownOf a:=λG=>by
 obtain ⟨⟨j,h⟩,T,e⟩:=bZ.mp G;obtain ⟨b,i⟩:=du.mp T;dsimp only at e i
 subst e;have n:=w5 x b;rw[w5 x c] at n;(refine Vm.sI n ?_;clear n;rintro rfl)
 exact Vm.fT i
structure D9 (B:K):Prop where
 fn:B.scope.kind=.function
 co:B.scope.isCoroutine=false
 gen:B.scope.isGenerator=false
 slots:B.slots=slotNames B.scope
 cells:B.cells=Cc B.scope
 nd:(B.scope.names.map (·.1)).Nodup
theorem Uu {D2:List<|ba×bK}{s:aj}{binds:List<|ba×aj}(H:qY C hp W)(g:D9 B)(Q1:wg j B.scope.names hp.length=Y cs')(b:∀x c,j.lookup x=Y c->∃a,W.σ[c]?=Y a/\D2.lookup x=Y a)(d:∀o,B.code=Y o->s=o)(i:bindAll cs' tgs vs ⟨aw B.slots.length N,hp++aw (rb B.scope).length (.cell N)⟩=Y st1)(ht:zX B (binds.map (·.1)) tgs)(U:qG C W vs<|binds.map (·.2)){QQq:kN->ay->Prop}{E:aj->ay->Prop}(hQ:∀G I,W.le I->At C B cs' G st1 I->QQq G I.s) :
  wpAny (model C.prog C.w) A (jl B.scope dg D2 binds B.qual (Y a) s N eY) QQq E W.s:=by
 simp only[jl,Option.isSome_none,gG,if_false];refine af<|j5<|af<|wpAny_layCells _ (λname kind j=>by cases z:kind==NameKind.cell<;>rfl) _ _ _ _ ?_
 have p:=t8 (W:=W) { cls:=.type "frame",data:=.dict #[] };refine rN (HQ B.scope.names D2 _ _<|p.hp p.tk _ H) λu L=>?_
 have T:W.le ⟨W.G,W.σ++u,{ W.s with heap:=pushCells (W.s.heap.push { cls:=.type "frame",data:=.dict #[] }) B.scope.names }⟩:=⟨Gh.le.refl _,rm.EF _ _⟩;have a1:At C B cs' (newEnv B.scope W.s.heap.objs.size dg (iy (W.s.heap.push { cls:=.type "frame",data:=.dict #[] }).objs.size B.scope.names D2) B.qual (Y a) s N eY) ⟨aw B.slots.length N,hp++aw (rb B.scope).length (.cell N)⟩
   ⟨W.G,W.σ++u,{ W.s with heap:=pushCells (W.s.heap.push { cls:=.type "frame",data:=.dict #[] }) B.scope.names }⟩:=by
  refine ⟨⟨rfl,g.fn,?_,rfl,rfl,rfl,λo e=>d o e,λk x hk hl=>?_⟩,L.H,⟨qr (λJ=>N) ((pQ W.s.heap<|.type "frame").keeps<|pushCells_keeps _ _) λc x v e f=>?_,H.sF,H.wo,?_,H.freshT⟩⟩
  .exact Q g.slots<|(iG _ iB).nodup g.nd
  .rw[g.cells] at hk
   rcases zT Q1 k x hk with ⟨t,p,q⟩|⟨p,c,q,r⟩
   .refine qt ((L.own<|(iG _ iB).nodup g.nd) t x p) λw e1 e2=>tb (hp.length+t) w q ?_ e2
    have hlen:=H.len;refine ax (eN<|D' hlen)<|Q hlen<|Q (bc ..) ?_;exact e1
   .exact qt (b x c q) λw e1 e2=>tb c w r (rm.EF _ _ _ _ e1)<|(L.rest x<|Jd g.nd p).trans e2
  .skip
   revert f;refine Q jr ?_;intro f
   split at f<;>cases f
  .intro h;have h:W.s.heap.objs.size∈W.σ++u:=h;rcases bQ.mp h with h|h
   .exact H.vq h
   .have:=L.new _ h;rw[bb _ rfl] at this;exact Vm.sN this
 refine af<|Gk _ (λJ J J=>rfl) ht i (qG.mono U T) a1 _ _ λn J l2 y J=>wpAny_pure<|hQ _ n (T.trans l2) y
end
theorem rl.in1 (L:rl (d+1) A)(f):rl d<|A.deeper f:=rj L.1 (av (aK<|cD ..) L.2.1)<|av (a8 (aa (aK<|cD ..)<|aP (by decide:3<=10) _) 50) L.2.2
def wx (T:Ctx)(n:FuncData)(a:List V)(f:List ba)(j:List V)(u:List ba)(G:List V):Prop:=∀(U:Around)(W:Wd)(d:List O)(H s:List aj),qY T d W->qG T W a H->qG T W j s->q8 T U (iI n ⟨H,f.zip s⟩) (λb i=>i.map (·.1)=u/\qG T b G (i.map (·.2))) W
def BodyOk (T:Ctx)(c:Nat)(H:K)(G:List Nat)(U:lH)(x:St)(k:V)(I:St):Prop:=match U with
 |.expr L=>TE T c H G L x k I|.stmts f=>(yi T c H G f x (.ret k) I)\/(yi T c H G f x .next I/\k=.none)
theorem Cd {t:FuncData}{cells:List<|ba×Nat}{st2:St}(L:rl (d+1) j)(H:qY C a W)(ho:W.s.heap.get? w=Y o)(V8:o.data=.func t)(n:t.scope=B.scope)(g:D9 B)(z:t.globals=dg)(hbl:t.builtins=eY)(c:B.qual=t.qualname++".<locals>.")(hcr:W.s.heap.CodeRec t.code t.qualname)(aeo:∀s,B.code=Y s->t.code=s)(Ar:∀x i,cells.lookup x=Y i->∃w,W.σ[i]?=Y w/\t.closure.lookup x=Y w)(ah2:∀h:fP,(∀x o,C.tG x=Y o->h.get? x=Y o)->h.NoLimit)(V_:wx C t as kn kv names vs)(U:qG C W as u)(A:qG C W kv I)(ht:zX B names tgs)(Q1:wg cells B.scope.names a.length=Y cs')(hb:bindAll cs' tgs vs ⟨aw B.slots.length N,a++aw (rb B.scope).length (.cell N)⟩=Y st1)(zQ:BodyOk C d B cs' t.body st1 v st2) :
  TH C j (call (.ref w) u<|kn.zip I) (λW' s=>qw C W' v s) st2.hp W:=λQQq E hQ=>by
 have G:∀W' s,(W.xG C).le W'->qY C st2.hp W'->qw C W' v s->QQq s W'.s:=λW' s T H' r=>by
  obtain ⟨k,H2⟩:=q7.acW H T H'
  exact hQ (W'.tL W.G.F) s k H2 r
 have VY:j.depth<recursionLimit:=av (aM _ _)<|eH L.2.1<|by decide
 have block:∀(R:Result->ay->Prop)(body:kN->Code)(W1:Wd)(q:List<|ba×aj),xp C (W.xG C) W1->q.map (·.1)=names->qG C W1 vs (q.map (·.2))->
   (∀env W2,(W.xG C).le W2->At C B cs' env st1 W2->jB (model C.prog C.w) j (body env) R W2.s)->
   wpAny (model C.prog C.w) j.in1 (jl t.scope t.globals t.closure q (t.qualname++".<locals>.") (Y w) t.code N t.builtins) (λenv Sy=>Sy.heap.NoLimit/\jB (model C.prog C.w) j (body env) R Sy) (λe s'=>R (.error e) s') W1.s:=λR body W1 q p hn hv hgo=>Q n<|Q z<|Q hbl<|J c<|Uu (p.hp p.tk _ H.all) g Q1 (λx i e=>qt (Ar x i e) λb e1 e2=>qr b (p.le.σ _ _ e1) e2) aeo hb (Q hn ht) hv λenv W2 l2 a2=>⟨ah2 _ λx o e=>a2.H.I x o<|a2.H.top x o e,hgo env W2 (p.le.trans l2) a2⟩
 cases V':t.body with
 |expr e=>
  rw[V'] at zQ
  exact m8<|kla_callFunE VY ho V8 (by rw[n];exact g.co) (by rw[n];exact g.gen) V' hcr<|(V_ j.in1 (W.xG C) a u I H.all U A) _ _ λW1 q p ⟨hn,hv⟩=>block _ (λenv=>.expr e env) W1 q p hn hv λenv W2 l2 a2=>kla_codeExpr<|zQ (j.deeper env) env W2 (L.in1 env) a2 _ _ λW3 s l3 y r3=>G W3 s (l2.trans l3) y.H r3
 |stmts b=>
  rw[V'] at zQ
  refine m8<|codeAny_call_function VY ho V8 (by rw[n];exact g.co) (by rw[n];exact g.gen) V' hcr<|(V_ j.in1 (W.xG C) a u I H.all U A) _ _ λW1 q p ⟨hn,hv⟩=>block _ (λenv=>.func b env) W1 q p hn hv λenv W2 l2 a2=>codeAny_func ?_
  rcases zQ with zQ|⟨zQ,rfl⟩
  .refine zQ (j.deeper env) env W2 (L.in1 env) a2 _ _ λW3 f l3 y r3=>?_
   obtain ⟨s,rfl,rc⟩:=r3;exact G W3 s (l2.trans l3) y.H rc
  .refine zQ (j.deeper env) env W2 (L.in1 env) a2 _ _ λW3 f l3 y r3=>?_
   subst r3;exact G W3 .none (l2.trans l3) y.H .none
section
variable {L T j g:St}
structure v9 (C:Ctx) (d:Nat) (orc:vC):Prop where
 top:∀(a:bK)(as:List V)(kn:List ba)(kv:List V)(hp:List O)(v:V)(hp':List O),orc.top a as kn kv hp=some (v,hp')->
  (∃o fd,C.tG a=some o/\o.data=.func fd)/\∀(A:Around)(W:Wd)(xs ks:List aj),rl d A->qY C hp W->qG C W as xs->qG C W kv ks->TH C A (call (.ref a) xs<|kn.zip ks) (λW' c=>qw C W' v c) hp' W
 zU:∀(f:wQ)(cl:List<|ba×Nat)(as:List V)(hp:List O)(v:V)(hp':List O),orc.zU f cl as hp=some (v,hp')->
  ∀(A:Around)(W:Wd)(xs:List aj)(i:Nat)(a:bK)(ru:Option Nat),rl d A->qY C hp W->hp[i]?=some (.fn f cl ru)->W.σ[i]?=some a->qG C W as xs->TH C A (call (.ref a) xs []) (λW' c=>qw C W' v c) hp' W
theorem UY {b:Around}(H:qY C hp W){f:List V}(e:W.s.heap.get? u=Y (zt.zV "list.append"<|.ref a))(p:W.σ[i]?=Y a)(x:qG C W f xs)(h:Jo hp .uX (.ref i) f=Y (v,hp')) :
  TH C b (call (.ref u) xs) (λW' s=>qw C W' v s) hp' W:=by
 have h:(match hp[i]? with|Y<|.list l=>QE hp i .uX f l|_=>N)=Y (v,hp'):=h
 cases e1:hp[i]? with
 |none=>replace h:=e1▸h;exact nS h
 |some o=>cases o with
  |list l=>
   revert h;refine Q e1 ?_;intro h;refine qZ (AM H p e1) λvs n t r hl=>Bw x h λy yc hy h=>qX h λc h=>λQQq E hQ=>?_
   have hz':l.length<=65536:=of_decide_eq_true c;exact zt.Ym e t.at_ (by simp only[bj,g9];exact hl▸aa hz' (by decide))<|sz h λe1 e2=>Cv H p t (by simp) (qJ.append r<|.cons hy .nil) e2 (e1▸.none) hQ
  |_=>replace h:=e1▸h;exact nS h
theorem PN {b:Around}{f:kN}{e:dB}(q:rl d b){es:List a7}{s:Wd}(h:tx C d B M es L vs T)(w:At C B M f L s) :
  Tr C B M f b (evalAll<|es.map λc=>do let v←eval c f;eu e;pure v) T (λi u=>qG C i vs u) s:=by
 induction h generalizing s with
 |nil=>exact λQQq o h=>wpAny_evalAll_nil<|h s _ (Wd.le.refl _) w .nil
 |cons G z ih=>exact λQQq o h=>wpAny_evalAll_cons<|af<|G _ _ s q w _ _ λn p t y H=>af<|wpAny_standAt<|wpAny_pure<|ih y _ _ λx u l2 a2 a=>h x _ (t.trans l2) a2<|.cons (H.mono l2) a
theorem ET {f:kN}{e:dB}:∀(kws:List Keyword),gS e (keywordEach kws f)=kws.map λk=>(k.arg,do let s←eval k.value f;eu e;pure s)
 |[]=>rfl|⟨y,s,c⟩::kws=>qo (mH _)<|ET kws
theorem Iv {A:Around}{env:kN}{e:dB}{o:List a7}{p:List Keyword}{u H:List V}(I:p.all (λk=>k.arg.isSome)=true)(G:tx C d B M o L u j)(z:tx C d B M (p.map (·.value)) j H g)(q:rl d A)(w:At C B M env L W) :
  Tr C B M env A (evalArgs f true (o.map λc=>(false,eval c env))<|gS e<|keywordEach p env) g (λs t=>∃x,t.kw=(p.filterMap (·.arg)).zip x/\qG C s u t.pos/\qG C s H x) W:=λQQq E h=>by
 have i:(gS e<|keywordEach p env).all (·.1.isSome)=true:=by rw[ET,jF];exact I
 have n:(gS e<|keywordEach p env).map (·.2)=(p.map (·.value)).map (λc=>(do let v←eval c env;eu e;pure v:gH aj)):=by rw[ET,bk,bk];rfl
 have e3:(gS e<|keywordEach p env).filterMap (·.1)=p.filterMap (·.arg):=Q (ET ..)<|Q List.filterMap_map rfl
 cases G with
 |nil=>
  exact evalArgs_kw_nil i<|Q n<|Q e3<|PN q z w _ _ λW2 x l2 y r2=>h W2 _ l2 y<|ry x rfl .nil r2
 |cons t b=>
  exact evalArgs_kw i<|(tx.cons t b).tl A env W q w _ _ λW1 vs l1 a1 a=>Q n<|Q e3<|PN q z a1 _ _ λW2 x l2 y r2=>h W2 _ (l1.trans l2) y<|ry x rfl (qG.mono a l2) r2
theorem KC {f:Around}{b:aj->ay->Prop}{e:dB}{QQq:aj->ay->Prop}(h:wpAny q_ f (evalArgs (.ref a) true args keywords) (λp u=>(∃o x,u.heap.get? a=Y o/\o.data=.func x)/\wpAny q_ f (call (.ref a) (first++p.pos) p.kw) QQq b u) b s) :
  wpAny q_ f (j_ e (.ref a) first args keywords) QQq b s:=by
 refine af<|cU<|wpAny_mono h (λp u t=>af<|wpAny_standAt ?_) λJ J p=>p
 obtain ⟨⟨o,x,H,i⟩,c⟩:=t;have tail:∀{v:gH aj},wpAny q_ f v QQq b u->wpAny q_ f (v>>=λy=>gx [y] point>>=λJ=>pure y) QQq b u:=λht=>af<|wpAny_mono ht (λy Sy q=>af<|cU<|wpAny_point<|wpAny_pure q) λJ J p=>p
 cases n:(args.any (·.1)||keywords.any (·.1.isNone)) <;>
  refine af ?_<;>skip <;>
  refine af<|kQ H ?_<;>refine Q i ?_<;>refine wpAny_pure ?_
 .first
   |refine wpAny_ite ?_
   |skip
  split<;>first
   |exact tail c
   |exact tail<|oR c
 .first
   |exact tail<|oR c
   |exact tail c
section
variable (U:v9 C d orc) {kws:List Keyword}(I:kws.all (λk=>k.arg.isSome)=true) (q:rl d A) (w:At C B M env L W) (G:tx C d B M es L as j) (z:tx C d B M (kws.map (·.value)) j kv g)
include U I q w G z
theorem call_top (i:orc.top a as (kws.filterMap (·.arg)) kv g.hp=Y (v,e)) :
  Tr C B M env A (j_ pos (.ref a) [] (es.map λb=>(false,eval b env))<|gS pos<|keywordEach kws env) ⟨g.loc,e⟩ (λc s=>qw C c v s) W:=λQQq h o=>by
 obtain ⟨⟨p,t,n,y⟩,x⟩:=U.top _ _ _ _ _ _ _ i;exact callWith_function_kw<|Iv I G z q w _ _ λW2 ar l2 a2 rS=>rU rS λu H r1 r2=>⟨⟨a2.H.I _ _<|a2.H.top _ _ n,y⟩,Q H<|Q (dY ..)<|a2.th (x A W2 _ u q a2.H r1 r2) QQq h λW3 s f a3 r3=>o W3 s (l2.trans f) a3 r3⟩
theorem vP {h:Nat}{x:bK}(i:W.σ[h]?=Y x) (n:Pb orc as (kws.filterMap (·.arg)) kv g.hp g.hp[h]?=Y (v,hp')) :
  Tr C B M env A (j_ pos (.ref x) [] (es.map λi=>(false,eval i env))<|gS pos<|keywordEach kws env) ⟨g.loc,hp'⟩ (λb s=>qw C b v s) W:=λQQq p u=>by
 cases y:g.hp[h]? with
 |none=>rw[y] at n;exact nS n
 |some o=>cases o with
  |fn t cl ru=>
   replace n:=y▸n
   cases H:kws.filterMap (·.arg) with
   |cons=>rw[H] at n;exact nS n
   |nil=>
    revert n;refine Q H ?_;intro n
    cases kv with
    |cons=>exact nS n|nil=>
     exact KC<|Iv I G z q w _ _ λW2 ar l2 a2 wU=>rU wU λks c r1 r2=>se (HX a2.H (l2.σ _ _ i) y) λfd e F=>⟨wy _ _ F.t.at_ rfl,Q (Q c<|Q H rfl:ar.kw=[])<|Q (dY ..)<|a2.th ((U.zU _ _ _ _ _ _ n) A W2 _ h x ru q a2.H y (l2.σ _ _ i) r1) QQq p λW3 s f a3 a=>u W3 s (l2.trans f) a3 a⟩
  |_=>rw[y] at n;exact nS n
theorem UU {f:String}(o:W.G.I u=Y (zt.zV f<|.ref a))(n:W.σ[i]?=Y a)(b:Wx f as (kws.filterMap (·.arg)) kv g.hp (.ref i)=Y (v,e)) :
  Tr C B M env A (j_ pos (.ref u) [] (es.map λn=>(false,eval n env))<|gS pos<|keywordEach kws env) ⟨g.loc,e⟩ (λh s=>qw C h v s) W:=λQQq x y=>by
 refine qX b λt b=>?_
 obtain ⟨rfl,H,rfl⟩:=t
 cases kws with
 |cons k kws=>
  rw[fq,aA] at I
  obtain ⟨p,hy⟩:=gq.mp I.1;rw[gu,hy] at H
  exact Wr H
 |nil=>
  obtain rfl:=z.ac9;exact zt.Ln (vQ es)<|yE G q w _ _ λW2 ar l2 a2 yr=>rG yr λc r2=>⟨a2.H.I _ _<|l2.G.I _ _ o,Q c<|Q (dY ..)<|a2.th (UY a2.H (a2.H.I _ _<|l2.G.I _ _ o) (l2.σ _ _ n) r2 b) QQq x λW3 s l3 a3 r3=>y W3 s (l2.trans l3) a3 r3⟩
theorem LA (i:es.all noStar=true)(o:qw C W f x)(n:v7 orc f as (kws.filterMap (·.arg)) kv g.hp=Y (v,e)) :
  Tr C B M env A (j_ pos x [] (backTo pos<|starEach es env)<|gS pos<|keywordEach kws env) ⟨g.loc,e⟩ (λa b=>qw C a v b) W:=by
 refine Q (rO i)<|Q (sv ..) ?_
 cases f with
 |con b=>
  obtain rfl:=o.inv
  cases x with
  |ref y=>exact call_top U I q w G z n|_=>exact nS n
 |ref h=>obtain ⟨y,rfl,c⟩:=o.inv;exact vP U I q w G z c n
 |bm id p=>
  cases p with
  |ref h=>
   obtain ⟨_,s,rfl,H,t⟩:=o.inv;obtain ⟨y,rfl,c⟩:=t.inv;exact UU U I q w G z H c n
  |_=>exact nS n
 |_=>exact nS n
end
end
section
variable {s t b i j:St}
theorem TE.call (U:v9 C d orc){pos:dB}{h:List a7}{k:List Keyword}(e:h.all noStar=true)(o:k.all (λp=>p.arg.isSome)=true)(hf:TE C d B M (.Name x np) s f b)(u:tx C d B M h b as i)(w:tx C d B M (k.map (·.value)) i kv j)(n:v7 orc f as (k.filterMap (·.arg)) kv j.hp=Y (v,hp')) :
  TE C d B M (.Call (.Name x np) h k pos) s v ⟨j.loc,hp'⟩:=λq z A L H QQq I g=>wpAny_Call_Name_kw<|hf q z A L H _ _ λW1 c T y G=>LA U o L y u w e G n QQq I λW2 c l2 a2 a=>g W2 c (T.trans l2) a2 a
theorem TE.mc (U:v9 C d orc){apos pos:dB}{es:List a7}(q:vd o=true)(u:es.all noStar=true)(I:es.length<25)(n:(apos.endLine==pos.line)=true)(h0:TE C d B M o s a b)(z:isFn b.hp a=true)(H:tj b.hp a name=Y f)(w:tx C d B M es b as i)(x:v7 orc f as [] [] i.hp=Y (v,hp')) :
  TE C d B M (.Call (.Attribute o name apos) es [] pos) s v ⟨i.loc,hp'⟩:=λA env W L ha QQq E g=>by
 refine Q (arm_eval_Call ..)<|Q (Be q)<|af<|h0 A env W L ha _ _ λW1 h T y G=>af<|wpAny_standAt ?_
 have k:methodCallForm (es.length+([]:List Keyword).length) (backTo pos<|starEach es env) (gS pos<|keywordEach [] env)=true:=by refine Q (by refine Q (rO u)<|Q (sv ..) rfl:backTo pos (starEach es env)=es.map λe=>(false,eval e env)) ?_;delta methodCallForm;have ek:keywordEach [] env=[]:=rfl;simp only[jF,ek,gS,jD,qj,qb,oZ,if_true,aA,decide_eq_true_eq,fM];exact ⟨dz.mpr λJ J=>rfl,lD _ I⟩
 delta methodCall;refine Q k<|af<|cU<|Lf y.H G z H _ _ λW2 r p rS=>qt rS λc hc rc=>Q hc ?_;clear hc
 exact af<|iH (by delta methodCallPos;simp[n]:methodCallPos true o env apos pos=pure pos)<|LA U (kws:=[]) rfl L (y.rz p) w .nil u rc x QQq E λW3 c l3 a3 r3=>g W3 c ((T.trans p.le).trans l3) a3 r3
theorem J2 {o v:Type}{c d:o->Option v}:∀{l:List o},(∀x∈l,c x=d x)->l.filterMap c=l.filterMap d
 |[]=>@λJ=>rfl
 |x::l=>@λa=>by refine ax gu<|ax gu<|Q (a x<|.head _)<|Q (J2 λe f=>a e<|.tail _ f) rfl
theorem OC {a:List aj}:∀{f:List ba},f.Nodup->f.length=a.length->(f.filterMap λp=>((f.zip a).lookup p).map (p,·))=f.zip a:=by
 intro f
 induction f generalizing a with
 |nil=>intro _ _;rfl
 |cons p f ih=>
  intro x e
  cases a with
  |nil=>cases e|cons u a=>
   obtain ⟨G,T⟩:=bI.mp x;refine Q (cC ..)<|ax gu<|Q (bM ..)<|Q (beq_self_eq_true ..)<|Q (List.cons.injEq ..) ⟨rfl,(J2 λk c=>?_).trans<|ih T<|by simpa using e⟩
   refine Q (bM ..)<|Q (beq_eq_false_iff_ne.mpr λn=>G<|J n c:(k==p)=false) rfl
theorem lookup_some {a:List aj}:∀{f:List ba},f.length=a.length->∀p∈f,((f.zip a).lookup p).isSome=true:=by
 intro f
 induction f generalizing a with
 |nil=>intro _ p h;cases h
 |cons m f c=>
  intro e p h
  cases a with
  |nil=>cases e|cons u a=>
   refine Q (cC ..)<|Q (bM ..) ?_
   split
   .rfl
   .rename_i k;rcases aE.mp h with rfl|h
    .rw[beq_self_eq_true] at k;exact Vm.tF k
    .exact c (by simpa using e) p h
theorem Pd {o:FuncData}{f:List aj}(e:o.params=⟨[],as,N,[],[],N,[]⟩)(k:o.defaults=.none)(x:(as.map (·.arg)).Nodup)(n:as.length=f.length) :
  iI o ⟨f,[]⟩=pure ((as.map (·.arg)).zip f):=by
 obtain ⟨_,_,_,_,_,_,_,_,_,_,_,_,_⟩:=o;subst e k;generalize U:as.map (·.arg)=ns at *
 have n:ns.length=f.length:=by refine J U<|Q (ao ..)<|Q n rfl
 have z:ns.filter (λp=>(kY p<|ns.zip f).isNone)=[]:=mY.mpr λp a H=>by
  have:=lookup_some n p a
  rw[lA.mp H] at this
  exact fT this
 delta iI;dsimp only;refine (qn ?_).trans ?_
 .refine Q U ?_;show ¬(decide (ns.length<f.length)&&_)=true;exact Q (decide_eq_false<|by exact Q n<|b9 _) dq
 refine Q U<|(qn ?_).trans ?_
 .show ¬(!(List.filter (λp=>(kY p<|ns.zip f).isNone)<|List.take (ns.length-(kK (0-ns.length) ([]:List aj)).length) ns).isEmpty)=true;exact Q (p0 ..)<|Q (show ns.length-([]:List aj).length=f.length from n)<|Q (mX<|aK n)<|Q z dq
 refine rwE (show (kK ((nO (λ(q:Arg)=>q.arg) []++ns).length-(kK (((N:Option<|Array aj).getD #[]).toList.length-(nO (λ(q:Arg)=>q.arg) []++ns).length) ((N:Option<|Array aj).getD #[]).toList).length)<|nO (λ(q:Arg)=>q.arg) []++ns).zip
       (kK (((N:Option<|Array aj).getD #[]).toList.length-(nO (λ(q:Arg)=>q.arg) []++ns).length) ((N:Option<|Array aj).getD #[]).toList)=[] from ?_) ?_
 .exact (qo _<|p0 ..).trans<|List.zip_nil_right ..
 .refine qo (pure:_->gH (List<|ba×aj)) ?_;show pN _ (ns++[])=_;exact Q (bh ..)<|OC x n
theorem wx.plain {n:FuncData}{f:List V}(e:n.params=⟨[],as,N,[],[],N,[]⟩)(k:n.defaults=.none)(x:(as.map (·.arg)).Nodup)(hl:as.length=f.length) :
  wx C n f [] [] (as.map (·.arg)) f:=λT v o u G a U A L d hq=>by
 have z:=U.length;subst A;refine (Q (Pd e k x<|hl.trans z)<|wpAny_pure<|hq v _ (xp.refl v) ⟨?_,?_⟩:wpAny _ _ (iI n ⟨u,[]⟩) _ _ _)
 .exact d_ (by simp;lia)
 .exact Q (hO<|by simp;lia) U
end
def uP (T:Ctx)(c:Nat)(g:vC)(b:K->a7->Option X):Prop:=∀(H:K)(L:a7)(a:X),b H L=Y a->∀(h:Nat)(M:List Nat)(st:St)(k:V)(I:St),(ev g h).E M a st=Y (k,I)->TE T c H M L st k I/\∀U,rD I.hp k=Y U->TT T c H M L st U I
def Hj (T:Ctx)(c:Nat)(g:vC)(b:K->a7->Option X):Prop:=∀(H:K)(L:a7)(a:X),zl L=true->b H L=Y a->∀(h:Nat)(M:List Nat)(st:St)(I:O)(U:St),rT (ev g h) M a st=Y (I,U)->TF T c H M L st I U
theorem ua (G:uP C d g b){x:St}(e:qP (b U) f=Y xs)(i:sM (ev g h) M xs x=Y (vs,rH)):tx C d U M f x vs rH:=by
 induction f generalizing xs x vs rH with
 |nil=>
  obtain rfl:=ae e;exact sE i<|.nil
 |cons L f j=>
  refine qZ (rp e) λa o n z H=>?_;subst H
  exact mE i λk u c i=>mL i λI p q i=>sz i λT s=>T▸s▸.cons (G U L a n h M x k u c).1 (j z q)
theorem acz (T:uP C d g b){x:St}{e:dB}(j:qP (b B) f=Y xs)(i:OW (ev g h) M xs x=Y (v,rH)) :
  TE C d B M (.BoolOp .And f e) x v rH/\∀U,rD rH.hp v=Y U->TT C d B M (.BoolOp .And f e) x U rH:=by
 induction f generalizing xs x v rH with
 |nil=>obtain rfl:=ae j;exact nS i
 |cons L f o=>
  refine qZ (rp j) λa G n z H=>?_;subst H
  cases f with
  |nil=>
   obtain rfl:=ae z;obtain ⟨p,q⟩:=T B L a n h M x v rH i;refine ⟨.Wz p,λU hb=>?_⟩
   cases U with
   |true=>exact .zq (q true hb) rfl .MC|false=>exact .xN (q false hb) rfl
  |cons c f=>
   refine qZ (rp z) λI s k t w=>?_
   replace i:=w▸i;refine mE i λy u A i=>rG (T B L a n h M x y u A) λp q=>mB i (λhb i=>?_) λhb i=>sz i λe6 e7=>?_
   .rw[<- w] at i
    exact rG (o z i) λi1 i2=>⟨.zq p hb rfl i1,λU As=>.zq (q true hb) rfl<|i2 U As⟩
   .subst e6 e7;exact ⟨.xN p hb rfl,λU As=>J (ae<|hb.symm.trans As)<|.xN (q false hb) rfl⟩
theorem adO (T:uP C d g b){x:St}{e:dB}(j:qP (b B) f=Y xs)(i:J_ (ev g h) M xs x=Y (v,rH)) :
  TE C d B M (.BoolOp .Or f e) x v rH/\∀U,rD rH.hp v=Y U->TT C d B M (.BoolOp .Or f e) x U rH:=by
 induction f generalizing xs x v rH with
 |nil=>obtain rfl:=ae j;exact nS i
 |cons L f o=>
  refine qZ (rp j) λa G n z H=>?_;subst H
  cases f with
  |nil=>
   obtain rfl:=ae z;obtain ⟨p,q⟩:=T B L a n h M x v rH i;refine ⟨.Wz p,λU hb=>?_⟩
   cases U with
   |false=>exact .zq (q false hb) rfl .MC|true=>exact .xN (q true hb) rfl
  |cons c f=>
   refine qZ (rp z) λI s k t w=>?_
   revert i;refine Q w ?_;intro i;refine mE i λy u A i=>rG (T B L a n h M x y u A) λp q=>mB i (λhb i=>sz i λe6 e7=>?_) λhb i=>?_
   .subst e6 e7;exact ⟨.xN p hb rfl,λU As=>J (ae<|hb.symm.trans As)<|.xN (q true hb) rfl⟩
   .rw[<- w] at i
    exact rG (o z i) λi1 i2=>⟨.zq p hb rfl i1,λU As=>.zq (q false hb) rfl<|i2 U As⟩
theorem RG (G:uP C d g o){f:List CmpOp}{j:List a7}{x:St}(e:f.length=j.length)(i:qP (o B) j=Y xs)(n:CQ (ev g h) M a f xs x=Y (b,rH)):Dk C d B M a f j x b rH:=by
 induction j generalizing f xs a x b rH with
 |nil=>cases f with
  |nil=>exact nS n|cons=>exact nomatch e
 |cons L j ih=>cases f with
  |nil=>exact nomatch e|cons A f=>
   refine qZ (rp i) λp q z H c=>?_;subst c
   cases j with
   |nil=>
    obtain rfl:=cP.mp (cE e);obtain rfl:=ae H;exact mE n λT u k n=>qO n λU s t=>sz (qo Y t) λw y=>w▸y▸.last (G B L p z h M x T _ k).1 s
   |cons e' j=>cases f with
    |nil=>exact nomatch e|cons v f=>
     refine qZ (rp H) λI akH e3 e4 e5=>?_
     rw[e5] at n
     refine mE n λT u k n=>?_
     have t1:=(G B L p z h M x T u k).1;refine mB n (λhb n=>?_) λhb n=>sz n λw y=>w▸y▸.stop t1 hb
     rw[<- e5] at n
     exact .go t1 hb<|ih (cE e) H n
theorem IA (I:uP C d g j){x:St}(e:qP (j A) f=Y xs)(i:B3 (ev g h) M xs x=Y (b,rH)):zY C d A M f x b rH:=by
 induction f generalizing xs x b rH with
 |nil=>obtain rfl:=ae e;exact sE i<|.nil
 |cons L f ih=>
  refine qZ (rp e) λa G n z H=>?_;subst H
  refine mE i λT u c i=>?_
  have o:=(I A L a n h M x T u c).2;exact mB i (λk i=>.go (o true k)<|ih z i) λk i=>sz i λU p=>U▸p▸.stop (o false k)
section
variable {u j w A G:St}
theorem P1 (e:BG o=Y x):o=Y x/\(∀I,x≠.rev I)/\(∀I,x≠.enum I):=so e λa i e=>by
 cases a with
 |rev|enum=>exact nS e|_=>exact J (ae e)<|rj i (λW i=>X.noConfusion i) λW i=>X.noConfusion i
theorem yl (e:y9 L=Y (f,a)):∃g c,L=.Call (.Name f g) [a] [] c:=so e λb i e=>by
 obtain ⟨h,k,o⟩:=b;obtain ⟨g,n⟩:=UW i
 cases k with
 |nil=>exact nS e|cons T k=>cases k with
  |cons=>exact nS e|nil=>cases o with
   |cons=>exact nS e|nil=>exact qO e λd z L=>(y0 z).elim λU H=>tH U g<|by refine Q n<|Q H<|Q ((b0 L).1)<|Q ((b0 L).2) rfl
theorem Gj {o:Option aj}(e:o.bind Im=Y s):o=Y (.type s):=so e λt i e=>by
 cases t with
 |type p=>exact J (ae e) i|_=>exact nS e
theorem LO (e:isName t=true):zv t:=BS e λp f s a=>rfl
theorem Ze (h:isTup t=true):∃l k p,t=.Tuple l k p:=j3 t (eq_of_beq h) λl k p=>⟨l,k,p,rfl⟩
theorem ac_ {f:List V}(i:zv tE)(o:TE C d B M e u v st1)(s:N6 st1 v=Y (f,gd,j)):tO C d B M e tE u f gd j:=by
 have b:∀{x:List V},tO C d B M e tE u x N st1->Y (x,(N:Gd),st1)=Y (f,gd,j)->tO C d B M e tE u f gd j:=λo s=>sz s λy n=>by
  injection n with n L
  exact J y<|J n<|J L o
 cases v with
 |ref t=>
  have s:SW t st1 st1.hp[t]?=Y (f,gd,j):=s
  cases y:st1.hp[t]? with
  |none=>rw[y] at s;exact nS s
  |some I=>cases I with
   |list x=>
    rw[y] at s
    exact qO s λT U g=>sz (qo Y g) λn L=>by
     injection L with L e4
     exact n▸L▸e4▸.tracked o y U i
   |_=>rw[y] at s;exact nS s
 |lst x=>exact b (.list o i) s|tup x=>exact b (.tup o i) s
 |str p=>exact b (.str o rfl i) s|qu p=>exact b (.str o rfl i) s
 |tS q a h=>
  refine qO s λz H c=>qX H λk H=>?_
  obtain rfl:=ae H;exact b (.tS o k i)<|qo Y c
 |_=>exact nS s
theorem N1 (e:Dw x t=true)(hx:∀I,x≠.enum I):zv t:=by
 cases x with
 |enum I=>exact absurd rfl<|hx I
 |_=>exact LO e
theorem PZ (I:uP C d g b){f:List V}(e:Dw a tE=true)(i:BG (b U L)=Y a)(n:tK (ev g h) M a u=Y (f,gd,j)):tO C d U M L tE u f gd j:=qN (P1 i) λz o p=>mE ((C' o p).symm.trans n) λk v H n=>ac_ (N1 e p) (I U L a z h M u k v H).1 n
theorem TE.builtin (f:sH C g){e:dB}(h:B.scope.names.lookup x=Y .globalImplicit)(i:g.top.lookup x=N)(n:g.blt.lookup x=Y v):TE C d B M (.Name x e) u (.con v) u:=by
 refine TE.glob h (.inr ⟨f.miss x i,f.blt x v n⟩) (λs J=>.con _) ?_
 cases H:x==("__debug__":ba) with
 |false=>rfl|true=>rw[eq_of_beq H,f.dbg] at n;exact Vm.nS n
theorem IM (f:sH C g)(T:uP C d o c){q:List V}(e:Dw x tE=true)(i:srcOf g (c B) B L=Y x)(he:tK (ev o h) M x u=Y (q,gd,j)):tO C d B M L tE u q gd j:=by
 have s:=λi:BG (c B L)=Y x=>PZ T e i he
 have i:(match y9 L with
  |Y (p,a)=>if B.scope.names.lookup p=Y .globalImplicit/\g.top.lookup p=N then SX g (c B) L p a else BG (c B L)
  |N=>BG<|c B L)=Y x:=i
 cases z:y9 L with
 |none=>rw[z] at i;exact s i
 |some b=>
  obtain ⟨p,a⟩:=b;rw[z] at i
  dsimp only at i
  by_cases t:B.scope.names.lookup p=Y .globalImplicit/\g.top.lookup p=N
  .revert i;refine Q (qm t) ?_;intro i;delta SX at i
   by_cases H:(g.blt.lookup p).bind Im=Y "reversed"
   .revert i;refine Q (qm H) ?_;intro i;refine qX i λJM i=>qO i λI k U=>?_
    subst U;refine se (yl z) λy b rS=>?_;subst rS
    have he:(match (ev o h).E M I u with
     |Y (.lst q,u)=>Y (q.reverse,(N:Gd),u)|_=>N)=Y (q,gd,j):=he
    cases hv:(ev o h).E M I u with
    |none=>rw[hv] at he;exact nS he
    |some y=>
     obtain ⟨v,st1⟩:=y;revert he;refine Q hv ?_;intro he
     cases v with
     |lst l'=>
      refine sz he λe1 e2=>?_
      injection e2 with e2 e3
      exact e1▸e2▸e3▸.rev JM (TE.builtin f t.1 t.2<|Gj H) (T B a I k h M u _ _ hv).1 (LO e)
     |_=>exact nS he
   .revert i;refine Q (qn H) ?_;intro i
    by_cases H:(g.blt.lookup p).bind Im=Y "enumerate"
    .revert i;refine Q (qm H) ?_;intro i;refine qX i λJM i=>qO i λI k U=>?_
     subst U;refine se (yl z) λy b wU=>Q wU ?_;clear wU
     refine acS (Ze e) λelts n tp rS=>Q rS ?_;clear rS
     have he:(match (ev o h).E M I u with
      |Y (v,u)=>(O0 v).map λq=>(q.zipIdx.map λx=>V.tup [.int x.2,x.1],(N:Gd),u)
      |N=>N)=Y (q,gd,j):=he
     exact mE he λv st1 hv he=>qO he λl' h2 L=>sz (qo Y L) λe1 e2=>by
      injection e2 with e2 e3
      exact e1▸e2▸e3▸SV JM (TE.builtin f t.1 t.2<|Gj H) (T B a I k h M u _ _ hv).1 h2
    .rw[qn H] at i
     exact s i
  .rw[qn t] at i;exact s i
theorem Io {a:Comprehension}{f:List<|Comprehension×Tg}{h:St->Option (Bool×St)}{d:St->Option (List V×St)}(g:∀u T j,h u=Y (T,j)->zY C c B M a.ifs u T j)(p:∀u s j,d u=Y (s,j)->Sb C c B M L f u s j){v:List V}{u:St}(e:s8 M q b (λu=>match h u with
    |Y (true,u)=>d u|Y (false,u)=>Y ([],u)
    |N=>N) v u=Y (s,j)):AF C c B M L (a,q) f b v u s j:=by
 induction v generalizing u s j with
 |nil=>exact qX e λi e=>sz e λn z=>rj i n.symm z.symm
 |cons k v ih=>
  exact qX e λi e=>mS e λt H e=>mL e λI U x e=>mL e λT o y e=>sz e λn z=>⟨i,t,H,mT x
   (λx' h4 x=>.inr<|AI x' U I T (g _ _ _ h4) (p _ _ _ x) (J z<|ih y) n.symm)
   λx' h4 x=>sz x λe3 e4=>.inl ⟨x',g _ _ _ h4,(qo (·++T) e3).trans n▸z▸ih (Q e4 y)⟩⟩
theorem X5 (hG:sH C g)(T:uP C d s c)(e:c B L=Y xe)(i:qP (λ(a:Comprehension)=>uf B 5 a.target) v=Y ts)(n:qP (λ(a:Comprehension)=>srcOf g (c B) B a.iter) v=Y is)(h3:qP (λ(a:Comprehension)=>qP (c B) a.ifs) v=Y fs)(y:∀a∈v,BQ a.iter=true)(H:(is.zip v).all (λU=>Dw U.1 U.2.target)=true)(he:yd (ev s h) M xe ts is fs u=Y (x,j)):Sb C d B M L (v.zip ts) u x j:=by
 induction v generalizing ts is fs u x j with
 |nil=>
  obtain rfl:=ae i;obtain rfl:=ae n;obtain rfl:=ae h3;exact mE he λk st1 hv he=>sz he λe1 e2=>qr k e1.symm<|J e2<|(T B L xe e h M u k _ hv).1
 |cons a v ih=>
  refine qZ (rp i) λt ts' a1 a2 Ic=>?_;subst Ic
  refine qZ (rp n) λI is' b1 b2 xY=>?_;subst xY
  refine qZ (rp h3) λf fs' c1 c2 o=>?_;subst o
  refine mR he λq gd st1 p he=>Q (cC ..) ?_
  revert H;refine Q (cC ..)<|Q (fq ..)<|Q (aA ..) ?_;intro H
  refine ⟨λes h U z=>?_,q,gd,st1,IM hG T H.1 b1 p,Io (λu b j=>IA T c1) (λu x j GZ=>ih a2 b2 c2 (λa hq=>y a<|.tail _ hq) H.2 GZ) he⟩;have:=y a<|.head _
  rw[z] at this;exact fT this
end
section
variable {j i o s u:St}
theorem TF.ahL {L:a7}{pos:dB}(h1:TE C d B M L j (.lst [k]) o)(x:TE C d B M b o (.int q) s)(w:0<=q)(H:q<65536) :
  TF C d B M (.BinOp L .Mult b pos) j (.list<|aw q.toNat k) s:=λc f t g I QQq p h=>by
 refine wpAny_BinOp<|h1 c f t g I _ _ λn z T ri G=>x c f n g ri _ _ λA y l₂ sx a=>?_
 (refine a.inv.elim ?_;clear a;rintro _ rfl)
 refine qZ (wC sx.H (G.mono l₂) rfl) λv vs rS U r1=>Q rS ?_;clear rS;obtain ⟨n1,L1⟩:=U
 obtain ⟨c0,_,rfl,ra,rn⟩:=r1.inv;obtain rfl:=rn.inv;refine nG rfl ⟨_,L1,rfl⟩ (λs'=>typeIs_int s' _ _) noFill_list_mul mj gU repeat_list lT.lookup
  (gV gU (typeIs_int _ _ _) lX (lK _ _) (oS q _ v [c0].toArray n1)
   ⟨L1,rfl,⟨_,L1,rfl⟩,gV mi ⟨_,L1,rfl⟩ lU (lJ _ _)
    (jS v [c0].toArray n1 q _ (by simp[hV];exact ⟨aB (by decide) w,gn H<|by decide⟩) (by simp;lia)<|by simp[kq,j6];lia)
    ⟨L1,?_⟩⟩)
 have e:List.foldl (λx1 x2=>x1++x2) #[] (aw (if [c0].toArray.isEmpty=true then 0 else q.toNat) [c0].toArray)=(aw q.toNat c0).toArray:=by simpa using (vf c0 q.toNat #[])
 exact Q e<|h ⟨A.G,A.σ,_⟩ _ ((T.trans l₂).trans ((Pext0.push _ _).strict<|ag _).le) (sx.rz<|(Pext0.push _ _).strict<|ag _)<|uv _ _ rfl (bw sx.lt) (Al sx.H rfl)<|.list<|qG.mono (qJ.replicate ra q.toNat) ((Pext0.push _ _).strict<|ag _).le
inductive Cp (C:Ctx) (d:Nat) (B:K) (M:List Nat) (elt:a7) (gs:List Comprehension) (sc:eV) (j:St) (out:List V) (st1 x':St):Prop
 |mk (tE:a7) (iter:a7) (ifs:List a7) (rest:List Comprehension) (tg:Tg) (r:List<|Comprehension×Tg) (l:List V) (gd:Gd) (e:gs=⟨tE,iter,ifs,0⟩::rest) (h1:yk B sc) (h2:∀es k p,iter≠.Set es k p)
  (h3:tO C d B M iter tE j l gd st1) (h4:rest=r.map (·.1)) (h5:Fy C d (B.comp sc) ((aq (rb sc).length).map (st1.hp.length+·)++M) tE tg) (h6:∀p∈r,Fz C d (B.comp sc) ((aq (rb sc).length).map (st1.hp.length+·)++M) p)
  (h7:AF C d (B.comp sc) ((aq (rb sc).length).map (st1.hp.length+·)++M) elt (⟨tE,iter,ifs,0⟩,tg) r gd l ⟨aw (B.comp sc).slots.length none,st1.hp++aw (rb sc).length (.cell none)⟩ out x') (h8:out.length<=65536)
theorem Cp.tf {e:dB}{v:St}(T:Cp C d B M elt gs sc j out st1 v):TF C d B M (.ListComp elt gs sc e) j (.list out) ⟨st1.loc,v.hp⟩:=by obtain ⟨a,f,x,G,q,g,H,b,rfl,p,c,h,k,I,n,U,w⟩:=T;exact .comp p c h k I n U w
theorem RA (e:Bb B gs sc=true):yk B sc/\∀a∈gs,a.is_async=0/\BQ a.iter=true:=by
 delta Bb at e
 simp only[aA,decide_eq_true_eq] at e
 obtain ⟨⟨⟨⟨z,H⟩,n⟩,x⟩,q⟩:=e;obtain ⟨t,c⟩:=gq.mp H;obtain ⟨b,d⟩:=Df c;refine ⟨⟨eq_of_beq z,λp g=>let ⟨f,k,a⟩:=b p g;a,λp g=>let ⟨f,k,a⟩:=b p g;bG (wL k),λp g G=>?_,x⟩,λa T=>?_⟩
 .have:=dz.mp q p g;rw[bU,List.contains_eq_mem,decide_eq_false_iff_not] at this
  exact this G
 .have:=dz.mp n a T;rw[aA] at this
  exact ⟨eq_of_beq this.1,this.2⟩
theorem GG (f:BQ e=true):∀a c g,e≠.Set a c g:=λa c g k=>by rw[k] at f;exact Vm.fT f
theorem Fq (hG:sH C g)(G:uP C d orc b)(e:Bb B (gc::w) sc=true)(U:srcOf g (b B) B gc.iter=Y I)(n:qP (λ(a:Comprehension)=>srcOf g (b<|B.comp sc) (B.comp sc) a.iter) w=Y y)(z:qP (λ(a:Comprehension)=>uf (B.comp sc) 5 a.target) (gc::w)=Y A)(H:qP (λ(a:Comprehension)=>qP (b<|B.comp sc) a.ifs) (gc::w)=Y fs)(c:b (B.comp sc) elt=Y xe)(k:((I::y).zip<|gc::w).all (λp=>Dw p.1 p.2.target)=true)(he:B4 (ev orc h) M xe A (I::y) fs (B.comp sc).slots.length (rb sc).length j=Y (T,i)):∃st1 x',Cp C d B M elt (gc::w) sc j T st1 x'/\i=⟨st1.loc,x'.hp⟩:=by
 refine rG (RA e) λBt QZ=>qZ (rp z) λt ts' a1 a2 Ic=>?_;subst Ic
 refine qZ (rp H) λf fs' c1 c2 xY=>?_;subst xY
 refine mR he λx gd st1 hs he=>mL he λvs x' ht he=>qX he λhz he=>sz he λe8 e9=>?_
 subst e8 e9;obtain ⟨q,g2⟩:=QZ gc (.head _);obtain ⟨target,iter,ifs,as⟩:=gc;dsimp only at q g2 U a1 c1
 refine Q q ?_;clear q;rw[cC,fq,aA] at k
 refine wy st1 x' ⟨target,iter,ifs,w,t,w.zip ts',x,gd,rfl,Bt,GG g2,IM hG G k.1 U hs,(d_<|aK (z_ a2).symm).symm,λv j i G=>xZ 5 5 _ _ v j i a1 G,λp hp=>?_,Io (λj L i=>IA G c1) (λj T i GZ=>X5 hG G c a2 n c2 (λa hq=>(QZ a<|.tail _ hq).2) k.2 GZ) ht,of_decide_eq_true hz⟩ rfl;obtain ⟨p1,p2⟩:=p;refine ⟨(QZ p1<|.tail _ (pz hp).1).1,?_⟩;have key:∀{gs:List Comprehension}{A:List Tg},qP (λ(a:Comprehension)=>uf (B.comp sc) 5 a.target) gs=Y A->∀p∈gs.zip A,uf (B.comp sc) 5 p.1.target=Y p.2:=by
  intro gs
  induction gs with
  |nil=>intro A _ p hp;cases hp
  |cons a gs ih=>
   intro A G p hp;refine qZ (rp G) λL r e1 e2 yq=>?_;subst yq
   rw[cC] at hp
   rcases aE.mp hp with rfl|hp
   .exact e1
   .exact ih e2 p hp
 exact λv j i G=>xZ 5 5 _ _ v j i (key a2 _ hp) G
end
section
variable {i f s t u:St}
theorem Uq {y:Ev}(e:rT y M x i=Y (o,f)):(∃h,o=.list h)\/∃n v,o=.dict n v:=by
 cases x with
 |list h=>exact qO e λb J z=>.inl ⟨_,(qo nI z).symm⟩
 |bin L I a=>exact qX e λJ e=>LL e λh k w q J J J J z=>.inl ⟨_,z⟩
 |dict n v=>exact mL e λJ J J e=>mL e λJ J J e=>qX e λJ e=>sz e λz J=>.inr<|tH _ _ z.symm
 |star h=>exact mL e λJ J J e=>qO e λb J z=>.inr<|tH _ _<|(qo nI z).symm
 |comp=>exact qO e λb J z=>.inl ⟨_,(qo nI z).symm⟩
 |_=>exact nS e
theorem XT {o:List<|ba×Nat×dB}(e:sM (ev orc h) M (o.map λb=>.k<|.qu b.1) U=Y (q,a)):q=o.map (λb=>.qu b.1)/\a=U:=by
 induction o generalizing U a q with
 |nil=>exact sz e λv n=>⟨v.symm,n.symm⟩
 |cons b o w=>
  refine mE e λk x z e=>mL e λy A H e=>sz e λv n=>?_
  cases h with
  |zero=>exact nS z|succ h=>
   refine sz z λG I=>?_
   subst G I;obtain ⟨L,T⟩:=w H;exact ⟨v.symm.trans<|qo (V.qu b.1::·) L,n.symm.trans T⟩
section
variable (p:sH C g) (j:uP C d orc c)
include j
theorem Ts {q:List a7}{e:dB}(v:uR g c B (.List q e)=Y x)(w:rT (ev orc h) M x i=Y (o,f)):TF C d B M (.List q e) i o f:=by
 refine rX v λG v=>qO v λy n z=>?_
 subst z;refine qO w λb H A=>sz (qo Y A) λk I=>?_
 subst k I;rw[bU,b5,aA] at G
 exact .list G.1 (ua j n H).tl (of_decide_eq_true G.2) (ua j n H).length
theorem XF {e:dB}(v:uR g c B (.BinOp a op b e)=Y x)(w:rT (ev orc h) M x i=Y (o,f)):TF C d B M (.BinOp a op b e) i o f:=by
 refine yZ v λI y n z H=>?_
 obtain rfl:=ae H;refine qX w λA w=>LL w λG k L q T U h4 hi eo=>?_
 subst T eo
 cases op with
 |Mult=>exact .ahL (j B a (.list G) n (h+1) M i _ _<|qM<|qM U).1 (j B b y z h M L _ _ h4).1 hi.1 hi.2|_=>exact fT A
theorem Tq {ks:List<|Option a7}{vs:List a7}{pos:dB}(hc:(ks.all (·.isNone)&&!ks.isEmpty&&ks.length==vs.length)=true)(h1:qP (c B) vs=Y xs)(he:rT (ev orc k) M (.star xs) i=Y (o,f)):TF C d B M (.Dict ks vs pos) i o f:=
 mL he λl st1 h2 he=>qO he λy h3 e2=>sz (qo Y e2) λe3 e4=>by
  revert hc;refine Q (aA ..)<|Q (aA ..) ?_;intro hc
  refine J e3<|J e4<|.star hc.1.1 (eq_of_beq hc.2) (λq=>?_) (ua j h1 h2) h3
  rw[cP.mp<|(eq_of_beq hc.2).trans<|qo jP q] at hc
  exact fT hc.1.2
theorem Qx {k:List<|ba×Nat×dB}{q:List a7}{e:dB}(w:k.length=q.length/\k.length<=15)(x:qP (c a) q=Y v)(y:rT (ev orc h) M (.dict (k.map λb=>.k<|.qu b.1) v) i=Y (o,f)) :
  TF C d a M (.Dict (k.map λb=>Y<|.Constant (.str b.1) b.2.1 b.2.2) q e) i o f:=
 mL y λA G n y=>mL y λI L z y=>qX y λT y=>sz y λH U=>by
  obtain ⟨rfl,rfl⟩:=XT n;rw[(ax bk rfl:(k.map λb=>V.qu b.1).map rC=k.map λb=>V.str b.1)] at T H
  refine J H<|J U ?_
  cases k with
  |nil=>
   obtain rfl:=cP.mp w.1.symm;exact Q (ua j x z).BR.1<|J (ua j x z).BR.2 .aeH
  |cons b k=>exact .dict w.1 (List.cons_ne_nil _ _) w.2 (ua j x z)<|He T.2.1
theorem Tt {e:dB}(q:uR g c B (.Dict ks vs e)=Y x)(v:rT (ev orc h) M x i=Y (o,f)):TF C d B M (.Dict ks vs e) i o f:=
 aaD q (λn q=>qO q λy z H=>Tq j n z<|Q H v) λJ q=>rX q λn q=>yZ q λG A z I H=>by
  revert n;refine Q (bU ..)<|Q (b5 ..)<|Q (aA ..) ?_;intro n
  have w:=of_decide_eq_true n.2;have k:ks.length=vs.length:=eq_of_beq n.1;rw[<- ae H] at v
  refine qt (EU z) λL T U=>?_;subst T;subst U
  rw[ao] at w k
  exact Qx j ⟨k,w⟩ I v
include p
theorem Tu {e:dB}(n:uR g c B (.ListComp elt gs sc e)=Y x)(q:rT (ev orc h) M x i=Y (o,f)):TF C d B M (.ListComp elt gs sc e) i o f:=by
 refine rX n λL n=>?_
 rw[bU,b5] at L
 cases gs with
 |nil=>exact nS n|cons a v=>
  refine Ou n λI w G fs b z H A k T U=>rX U λhT U=>?_
  rw[bU,b5] at hT
  obtain rfl:=ae U;exact qO q λy h6 e2=>sz (qo Y e2) λe3 e4=>zA (Fq p j L z H A k T hT h6) λst1 x' hf e5=>e3▸e4▸e5▸hf.tf
end
theorem Jm (z:sH C g)(A:uP C d orc c):Hj C d orc<|uR g c:=by
 intro G L a e k h H i I f n
 cases L with
 |List l pos=>exact Ts A k n|BinOp b T o pos=>exact XF A k n
 |Dict q w pos=>exact Tt A k n|ListComp U x v pos=>exact Tu z A k n
 |_=>exact fT e
end
theorem vu {o:Type _}{v:Prop} [Decidable v] {G:o}{y:Option o}{p:o}{A:Prop}(e:(if v then Y G else y)=Y p) (b:v->G=p->A) (d:y=Y p->A):A:=by
 by_cases a:v
 .exact b a<|ae<|(qm a).symm.trans e
 .exact d<|(qn a).symm.trans e
theorem C6 {n:Bf}(c:n.ctorIdx≠Bf.set.ctorIdx):n≠.set:=λe=>c<|qo Bf.ctorIdx e
theorem KJ (e:aci v=Y b):v=wA b/\b≠.set:=by
 have h:∀{f p:String}{g:Bf},f=p->g=b->wA g=.builtin p->g≠.set->hH f=wA b/\b≠.set:=λi n z c=>by subst i n;exact ⟨z.symm,c⟩
 have d:∀{f p:String}{g:Bf},f=p->g=b->wA g=.type p->g≠.set->dk f=wA b/\b≠.set:=λi n z c=>by subst i n;exact ⟨z.symm,c⟩
 cases v with
 |builtin f=>exact vu e (h · · rfl<|C6<|by decide) λe=>vu e (h · · rfl<|C6<|by decide) λe=>vu e (h · · rfl<|C6<|by decide) λe=>vu e (h · · rfl<|C6<|by decide) λe=>vu e (h · · rfl<|C6<|by decide) λe=>vu e (h · · rfl<|C6<|by decide) λe=>vu e (h · · rfl<|C6<|by decide) nS
 |type f=>exact vu e (d · · rfl<|C6<|by decide) λe=>vu e (d · · rfl<|C6<|by decide) nS
 |_=>exact nS e
theorem GK {g:Mt}(e:Ow n=Y g):n=w3 g:=by
 have b:∀{j:ba}{k:Mt},n=j->k=g->w3 k=j->n=w3 g:=λi o z=>by subst i o;exact z.symm
 exact vu e (b · · rfl) λe=>vu e (b · · rfl) λe=>vu e (b · · rfl) λe=>vu e (b · · rfl) λe=>vu e (b · · rfl) λe=>vu e (b · · rfl) λe=>vu e (b · · rfl) λe=>vu e (b · · rfl) λe=>vu e (b · · rfl) nS
theorem Le:Ow "append"=Y .append:=rfl
theorem R1 (e:tj hp o n=Y f)(c:n≠"append"):isFn hp o=true:=by
 cases o with
 |ref d=>
  have e:zW hp d n hp[d]?=Y f:=e;refine (?_:EV hp[d]?=true)
  cases i:hp[d]? with
  |none=>rw[i] at e;exact nS e
  |some o=>cases o with
   |fn=>rfl|list=>rw[i] at e;exact qX e λp J=>absurd p c
   |_=>rw[i] at e;exact nS e
 |_=>exact nS e
theorem TA {o v A:Type}{c:v->Option A}{h:o->v}{a:List o}:qP c (a.map h)=qP (λG=>c<|h G) a:=by
 induction a with
 |nil=>rfl|cons p a e=>
  refine (?_:(match c (h p) with|Y b=>(match qP c (a.map h) with|Y r=>Y<|b::r|N=>N)|N=>N)=_);exact Q e rfl
theorem both {x:St}(g:TE C d B M e x k rH)(b:∀f v,j7 e f v=(do let k←v;eu e.pos;gx [k] (truthy k))):TE C d B M e x k rH/\∀T,rD rH.hp k=Y T->TT C d B M e x T rH:=⟨g,λJ h=>.plain g h b⟩
theorem Ww {x:St}{r:Ev}(e:(match yz M (.cell i) x with
   |Y k=>Y (k,x)|N=>N)=Y (k,rH)):∃h,M[i]?=Y h/\x.hp[h]?=Y (.cell<|Y k)/\x=rH:=by
 have b:∀{y:Option V},(match y with|Y k=>Y (k,x)|N=>N)=Y (k,rH)->y=Y k/\x=rH:=λ{y} j=>by
  cases y with
  |none=>exact nS j|some L=>exact sz j λn z=>⟨qo Y n,z⟩
 obtain ⟨H,c⟩:=b e;delta yz at H
 dsimp only at H
 cases o:M[i]? with
 |none=>rw[o] at H;exact nS H
 |some h=>
  revert H;refine Q o ?_;intro H;dsimp only at H
  cases G:x.hp[h]? with
  |none=>rw[G] at H;exact nS H
  |some y=>cases y with
   |cell L=>rw[G] at H;exact ry h rfl (J (qo (λf=>Y<|O.cell f) H) G) c
   |_=>rw[G] at H;exact nS H
theorem aak (hG:sH C g)(e:VK g B q=Y y){x:St}(he:(ev j c).E M y x=Y (k,rH)):TE C d B M (.Name q p) x k rH:=by
 cases c with
 |zero=>exact nS he|succ c=>
 refine rX e λG e=>?_
 have G:(q==("__debug__":ba))=false:=eq_false_of_ne_true G
 cases z:B.scope.names.lookup q with
 |none=>rw[z] at e;exact nS e
 |some h=>
  rw[z] at e
  cases h with
  |«local»=>
   refine qO e λi H f=>?_
   subst f;have he:(match x.loc[i]? with
    |Y<|Y k=>Y (k,x)|_=>N)=Y (k,rH):=he
   cases n:x.loc[i]? with
   |none=>rw[n] at he;exact nS he
   |some o=>cases o with
    |none=>rw[n] at he;exact nS he
    |some o=>rw[n] at he;exact sE he<|.l (wL H) z n G
  |cell=>
   refine qO e λi H f=>?_
   subst f;refine rU (Ww (r:=ev j c) he) λT I u L=>J L ?_;clear L
   exact .cell (wL H) (.inl z) I u G
  |free=>
   refine rX e λa e=>qO e λi H f=>?_
   subst f;refine rU (Ww (r:=ev j c) he) λT I u v=>J v ?_;clear v
   exact .cell (wL H) (.inr ⟨z,eq_false_of_ne_true a⟩) I u G
  |globalImplicit=>
   have e:VM g q (g.vals.lookup q)=Y y:=e
   cases n:g.vals.lookup q with
   |some o=>
    revert e;refine Q n ?_;intro e;obtain rfl:=ae e;obtain ⟨s,q1,b⟩:=hG.vals q o n;exact sE he<|.glob z (.inl q1) b G
   |none=>
    revert e;refine Q n ?_;intro e;have e:VL g q (g.top.lookup q)=Y y:=e
    cases U:g.top.lookup q with
    |some o=>
     rw[U] at e
     obtain rfl:=ae e;refine sE he<|.glob z (.inl<|hG.top q o U) (λA W=>?_) G
     cases o with
     |int i t=>exact .int _ _|_=>exact .con _
    |none=>
     revert e;refine Q U ?_;intro e;refine qO e λo w f=>?_
     subst f;exact sE he<|.glob z (.inr ⟨hG.miss q U,hG.blt q o w⟩) (λA W=>.con _) G
  |_=>exact nS e
abbrev Pq (T:Ctx)(e:Nat)(z:K)(x:List Nat)(L:a7)(G:St)(k:V)(y:St):Prop:=TE T e z x L G k y/\∀U,rD y.hp k=Y U->TT T e z x L G U y
theorem okB {U:St}(f:rD U.hp (.bool b)=Y b')(h:TT C d B M e s b U):TT C d B M e s b' U:=J (ae f) h
@[elab_as_elim] theorem Pa {b:X->Prop}(e:H5 a f g kv=Y L)(G:b<|.call f g a kv)(k2:∀o,f=.k (.con<|wA o)->o≠.set->a=[]->b (.bf o g)):b L:=oE e (λs i e=>oE e (λo n e=>qX e λz T=>J (ae T)<|k2 o ((F7 i).trans<|qo (λs=>X.k<|.con s) (KJ n).1) (KJ n).2<|f'.mp z) λW e=>J (ae e)<|J (F7 i) G) λW e=>J (ae e) G
theorem aac {a:List Keyword}(e:a.all (λT=>T.arg.isSome)=true)(i:a.filterMap (·.arg)=[]):a=[]:=by
 cases a with
 |nil=>rfl|cons U a=>
  rw[fq,aA] at e
  rw[gu,(gq.mp e.1).choose_spec] at i
  exact nomatch i
theorem F2 (T:Hj C d orc<|uR a c)(e:zl L=true)(i:uR a c y L=Y f)(n:((rT (ev orc k) M f G).map λb=>(DQ b.1,b.2))=Y (v,j)):TE C d y M L G v j:=qO n λb z U=>sE (qo Y U)<|(T y L f e i k M G _ _ z).frozen (Uq z)
section
variable {A j:St}(H:uP C d orc c) (I:v9 C d orc)
include H
theorem Qq {y:Option a7}(e:Oj c U y=Y a)(i:(ev orc h).E M a A=Y (k,j)):Hg C d U M y A k j:=by
 cases y with
 |none=>
  obtain rfl:=ae e
  cases h with
  |zero=>exact nS i|succ h=>exact sE i<|.none
 |some L=>exact .some (H U L a e h M A k j i).1
theorem ac4 {e:dB}(hx:Zt c B o q=Y x)(i:(ev orc<|k+1).E M x A=Y (v,j)):TE C d B M (.Subscript o q e) A v j:=
 oE hx (λb n hx=>(Xg n).elim λt z=>by
  obtain ⟨y,h,w⟩:=b;refine Q z ?_;clear z
  cases w with
  |some s=>exact nS hx|none=>
   refine AY hx λL a G T U h3 g=>?_
   obtain rfl:=ae g;exact mE i λva u h4 i=>mE i λvb st2 h5 i=>mE i λvc st3 h6 i=>qO i λp h7 e8=>sE (qo Y e8)<|.C4 (H B o L T k M A _ _ h4).1 (Qq H U h5) (Qq H h3 h6) h7)
 λJ hx=>yZ hx λL f T U g=>by obtain rfl:=ae g;exact mE i λva u h3 i=>mE i λvb st2 h4 i=>qO i λp h5 e6=>sE (qo Y e6)<|.sub (H B o _ T k M A _ _ h3).1 (H B q _ U k M _ _ _ h4).1 h5
theorem ag' {e:dB}(h:(c B L).map (X.un t)=Y x)(i:(ev orc<|k+1).E M x A=Y (o,j)):Pq C d B M (.UnaryOp t L e) A o j:=by
 refine qO h λT n z=>?_
 subst z;have p:∀{t:UnaryOp},(∀f v,j7 (.UnaryOp t L e) f v=(do let o←v;eu (a7.UnaryOp t L e).pos;gx [o] (truthy o)))->(match (ev orc k).E M T A with
   |Y (L,A)=>(Vu t L).map (·,A)|N=>N)=Y (o,j)->Pq C d B M (.UnaryOp t L e) A o j:=λg i=>
  mE i λU u a i=>qO i λG q s=>sE (qo Y s)<|both (.un (H B L T n k M A _ _ a).1 q) g
 cases t with
 |Not=>
  exact mE i λU u a i=>qO i λb q s=>sE (qo Y s)<|(H B L T n k M A _ _ a).elim λw t2=>⟨.not w q,λy As=>okB As<|.not<|t2 b q⟩
 |Invert|UAdd|USub=>exact p (λJ J=>rfl) i
theorem aeQ {o:List a7}{e:dB}(f:uR g c B (.Compare L ops o e)=Y x)(i:(ev orc<|k+1).E M x A=Y (v,j)):Pq C d B M (.Compare L ops o e) A v j:=by
 refine rX f λG f=>yZ f λT u n z U=>?_
 obtain rfl:=ae U;simp only[iu,not_or,Bool.not_eq_true] at G
 refine mE i λa w h i=>qO i λb p q=>sE (qo Y q)<|?_
 have s:=(H B L T n k M A _ _ h).1;exact ⟨.cmp G.1 s<|RG H (bne_eq_false_iff_eq.mp G.2) z p,λt y=>okB y<|.cmp G.1 s<|RG H (bne_eq_false_iff_eq.mp G.2) z p⟩
theorem aea {f:dB}(h:uR g c B (.IfExp L b e f)=Y x)(i:(ev orc<|k+1).E M x A=Y (v,j)):Pq C d B M (.IfExp L b e f) A v j:=by
 refine AY h λT a o n z U p=>?_
 obtain rfl:=ae p;refine mE i λq u s i=>?_
 have t:=(H B L T n k M A _ _ s).2;exact mB i (λG i=>(H B b a z k M u _ _ i).elim λw t2=>⟨.rf (t true G) w,λy As=>.rf (t true G)<|t2 y As⟩)
  λG i=>(H B e o U k M u _ _ i).elim λw t2=>⟨.rf (t false G) w,λy As=>.rf (t false G)<|t2 y As⟩
theorem acY {f:List a7}{t:Nat}{e:dB}(h:uR g c B (.Tuple f t e)=Y x)(i:(ev orc<|k+1).E M x A=Y (v,j)):TE C d B M (.Tuple f t e) A v j:=by
 refine rX h λG h=>qO h λo n z=>?_
 subst z;rw[bU,b5,aA] at G
 exact qO i λb L p=>sE (qo Y p)<|(.tup G.1 (ua H n L).tl (of_decide_eq_true G.2) (ua H n L).length)
include I
theorem aap {e h:dB}{as:List a7}{s:List Keyword}(t:(if !(vd o&&as.all noStar&&s.isEmpty&&decide (as.length<25)&&e.endLine==h.line) then N else o2 (c B o) (qP (c B) as) λo as=>Y<|mtX name o as)=Y x)(i:(ev orc<|k+1).E M x A=Y (v,j)):TE C d B M (.Call (.Attribute o name e) as s h) A v j:=by
 refine rX t λL t=>yZ t λT u n h2 U=>?_
 obtain rfl:=ae U;rw[bU,b5] at L
 simp only[aA,decide_eq_true_eq] at L
 obtain ⟨⟨⟨⟨c1,g⟩,y⟩,a⟩,w⟩:=L;obtain rfl:s=[]:=f'.mp y;have mc:∀{vo f:V}{st1 st2:St}{G:List V}{b:V×List O},(ev orc k).E M T A=Y (vo,st1)->isFn st1.hp vo=true->tj st1.hp vo name=Y f->sM (ev orc k) M u st1=Y (G,st2)->v7 orc f G [] [] st2.hp=Y b->(b.1,(⟨st2.loc,b.2⟩:St))=(v,j)->
   TE C d B M (.Call (.Attribute o name e) as [] h) A v j:=λa1 a2 a3 a4 a5 a6=>sE (qo Y a6)<|.mc I c1 g a w (H B o T n k M A _ _ a1).1 a2 a3 (ua H h2 a4) a5
 delta mtX at i
 cases hm:Ow name with
 |some m=>
  rw[hm] at i
  refine mE i λvo st1 h3 i=>?_
  cases p:isFn st1.hp vo with
  |true=>exact mV ((qm p).symm.trans i) λf L_ i=>mL i λG st2 q i=>qO i λb h5 h6=>mc h3 p (Q (GK hm) L_) q h5 h6
  |false=>
   refine mK ((qn<|by refine Q p ?_;decide).symm.trans i) λkk hkk i=>mL i λG st2 q i=>qO i λb h5 h6=>sE (qo Y h6)<|?_
   exact .mt (GK hm) c1 g a w (H B o T n k M A _ _ h3).1 hkk (ua H h2 q) h5
 |none=>
  revert i;refine Q hm ?_;intro i;exact mE i λvo st1 h3 i=>mV i λf p i=>mL i λG st2 q i=>qO i λb h5 h6=>mc h3 (R1 p λz=>by rw[z,Le] at hm;exact sN hm) p q h5 h6
theorem abU {h:dB}{f:List a7}{o:List Keyword}(q:(if !(f.all noStar&&decide (f.length+o.length<12)&&o.all (λk=>k.arg.isSome)) then N else o3 (c B<|.Name p e) (qP (c B) f) (qP (λk=>c B k.value) o) λL f u=>H5 (o.filterMap (·.arg)) L f u)=Y x)(i:(ev orc<|k+1).E M x A=Y (v,j)):TE C d B M (.Call (.Name p e) f o h) A v j:=by
 refine rX q λT q=>AY q λa G s n z U q=>?_
 revert T;refine Q (bU ..)<|Q (b5 ..)<|Q (aA ..)<|Q (aA ..) ?_;intro T
 refine Pa q (λi=>?_) (λb hf hb hk i=>?_) i
 .exact mE i λt st1 y i=>mL i λvs st2 h5 i=>mL i λks st3 h6 i=>qO i λw g e8=>sE (qo Y e8)<|.call I T.1.1 T.2 (H B _ a n k M A _ _ y).1 (ua H z h5) (ua H (ax TA U) h6) g
 .exact Q (aac T.2 hk)<|mL i λvs st1 y i=>qO i λw' h5 e8=>sE (qo Y e8)<|.bf hb (H B _ _ (hf▸n) 1 M A _ A rfl).1 T.1.1 (ua H z y) h5
end
theorem JD (e:HT v x=true)(n:(∃f,v=.builtin f)\/∃f,v=.type f):x=.k (.con v):=by
 delta HT at e
 cases i:O5 x with
 |none=>rw[i] at e;exact fT e
 |some a=>
  rw[i] at e
  refine ax (F7 i) ?_;obtain ⟨f,rfl⟩|⟨f,rfl⟩:=n
  .cases a with
   |builtin p=>rw[eq_of_beq (e:(p==f)=true)]|_=>exact fT e
  .cases a with
   |type p=>rw[eq_of_beq (e:(p==f)=true)]|_=>exact fT e
theorem aas (H:uP C d orc c){pos:dB}(s:lsA f h kws=Y y)(i:lsX c B f y=Y x)(n:(ev orc<|k+1).E M x A=Y (v,j)):TE C d B M (.Call f h kws pos) A v j:=by
 cases h with
 |nil=>exact nS s|cons b h=>cases h with
  |cons=>exact nS s|nil=>cases kws with
   |cons=>exact nS s|nil=>
    refine qX s λT s=>so s λw G s=>qX s λt s=>qO s λU hw e=>?_
    obtain ⟨L,g⟩:=y0 T;refine se (yl G) λp2 q2 e2=>?_
    subst g e2 e;revert i;refine Q (show U=(.Name w.1 p2,[w.2],[]) from (ae hw).symm) ?_;intro i;refine AY i λa xg xa h1 h2 h3 e=>qX e λhc e=>?_
    obtain rfl:=ae e;rw[aA] at hc
    rw[JD hc.1<|.inl ⟨_,rfl⟩] at h1
    rw[JD hc.2<|.inr ⟨_,rfl⟩] at h2
    refine mL n λvs st1 z n=>qO n λu h5 o=>sE (qo Y o)<|(mE z λva st2 p z=>sz (show Y ([va],st2)=Y (vs,st1) from z) λq e10=>?_)
    subst q e10;exact .ahO (H B _ _ h1 1 M A _ A rfl).1 (H B _ _ h2 1 M A _ A rfl).1 t.2 (H B _ xa h3 k M A _ _ p).1 h5
theorem ad6 (f:sH C g){e:dB}(h:uR g c B (.Lambda args body sc e)=Y x)(i:(ev orc<|k+1).E M x A=Y (v,j)):TE C d B M (.Lambda args body sc e) A v j:=by
 refine rX h λG h=>qO h λp n z=>?_
 subst z;rw[bU,b5,aA] at G
 exact mC i λo L i=>sE i<|.lam f G.1 n L (eq_of_beq G.2)
theorem UE (hG:sH C g)(I:v9 C d orc)(H:uP C d orc c):uP C d orc<|uR g c:=by
 have T:=Jm hG H;intro B L x e h M A k j he
 cases h with
 |zero=>exact nS he|succ h=>
 cases L with
 |Constant c kk pos=>cases c with
  |int i=>obtain rfl:=ae e;exact both (sE he<|.const_int) λJ J=>rfl
  |str s=>obtain rfl:=ae e;exact both (sE he<|.G8) λJ J=>rfl
  |bool b=>obtain rfl:=ae e;exact both (sE he<|.O4) λJ J=>rfl
  |none=>obtain rfl:=ae e;exact both (sE he<|.const_none) λJ J=>rfl
  |_=>exact nS e
 |Name a p=>exact both (aak hG e he) λJ J=>rfl
 |BinOp a t b pos=>
  refine yZ e λxa xb z h2 L=>?_
  obtain rfl:=ae L;exact mE he λva u h3 he=>mE he λvb st2 h4 he=>qO he λw h5 e6=>sE (qo Y e6)<|both (.bin (H B a xa z h M A _ _ h3).1 (H B b xb h2 h M _ _ _ h4).1 h5) λJ J=>rfl
 |UnaryOp t a pos=>exact ag' H e he|BoolOp t l pos=>cases t with
  |And=>exact qO e λxs z L=>by subst L;exact acz H z he
  |Or=>exact qO e λxs z L=>by subst L;exact adO H z he
 |Compare a ops l pos=>exact aeQ H e he|IfExp q a b pos=>exact aea H e he
 |Attribute o a pos=>
  refine rX e λhc e=>qO e λxo z L=>?_
  subst L;exact mE he λva u h3 he=>qO he λw h5 e6=>sE (qo Y e6)<|both (.attr (by simpa using hc) (H B o xo z h M A _ _ h3).1 h5) λJ J=>rfl
 |List l pos=>
  exact both (F2 T rfl e<|rX e λJ e=>qO e λxs J L=>by subst L;exact he) λJ J=>rfl
 |Dict ks vs pos=>
  refine both (F2 (k:=h) T rfl e ?_) λJ J=>rfl
  have e:O1 c B ks vs=Y x:=e;delta O1 at e
  by_cases q:(ks.all (·.isNone)&&!ks.isEmpty&&ks.length==vs.length)=true
  .revert e;refine Q (qm q) ?_;intro e;exact qO e λxs J L=>by subst L;exact he
  .revert e;refine Q (qn q) ?_;intro e;exact rX e λJ e=>yZ e λJ J J J L=>by obtain rfl:=ae L;exact he
 |ListComp U gs v pos=>
  refine both (F2 (k:=h) T rfl e<|rX e λJ e=>?_) λJ J=>rfl
  cases gs with
  |nil=>exact nS e|cons q gs=>exact Ou e λJ J J J J J J J J J L=>rX L λJ L=>by obtain rfl:=ae L;exact he
 |Tuple l kk pos=>exact both (acY H e he) λJ J=>rfl
 |Lambda args body v pos=>exact both (ad6 hG e he) λJ J=>rfl
 |Subscript o i pos=>exact both (ac4 H e he) λJ J=>rfl
 |Call f as kws pos=>exact both (oE e (λy hy e=>aas H hy e he) λJ e=>oE e (λy n e=>Q (ME n)<|aap H I e he) λJ e=>rX e λhn e=>
   BS (G:=λf=>(if !(as.all noStar&&decide (as.length+kws.length<12)&&kws.all (λh=>h.arg.isSome)) then N else o3 (c B f) (qP (c B) as) (qP (λh=>c B h.value) kws) λf as kv=>H5 (kws.filterMap (·.arg)) f as kv)=Y x->TE C d B M (.Call f as kws pos) A k j)
    (by rwa [bU,b5] at hn) (λy p e=>abU H I e he) e) λJ J=>rfl
 |_=>exact nS e
theorem Rl (f:sH C g)(T:v9 C d orc)(h):uP C d orc<|Cb g h:=by
 induction h with
 |zero=>exact λU L a e=>nS e
 |succ h G=>exact UE f T G
theorem nok (f:sH C g)(T:v9 C d orc)(h):Hj C d orc<|Cb g h:=by
 cases h with
 |zero=>exact λU L a J i=>nS i
 |succ h=>exact Jm f<|Rl f T h
def Hi (T:Ctx)(k:Nat)(n:vC)(b:K->gv->Option XS):Prop:=∀(B:K)(o:gv)(x:XS),b B o=Y x->∀(p:Nat)(M:List Nat)(f:St)(fl:Fl)(a:St),(ev n p).S M x f=Y (fl,a)->TS T k B M o f fl a
section
variable (h:Hi C d orc c)
include h
theorem uJ:∀{o:List gv}{p:List XS}{f:St}{fl:Fl}{a:St},qP (c B) o=Y p->rR (ev orc k) M p f=Y (fl,a)->yi C d B M o f fl a
 |[],p,f,fl,a,q,t=>by obtain rfl:=ae q;exact sE t<|.nil
 |s::o,p,f,fl,a,q,t=>by
  refine qZ (rp q) λx y n z T=>?_;subst T
  exact mF t (λi G t=>.cons (h B s x n k M f _ _ G)<|uJ z t) λv G e=>Q e<|.ret<|h B s x n k M f _ _ G
theorem Rc {q:Tg}(p:qP (c B) b=Y xs):∀{l:List V}{f:St}{fl:Fl}{a:St},ui (ev orc o) M q gd xs l f=Y (fl,a)->Dp C d B M q b gd l f fl a
 |[],f,fl,a,s=>qX s λn s=>sz s λz T=>rj n z.symm T.symm
 |x::l,f,fl,a,s=>qX s λn s=>mS s λi w s=>mF s (λU k s=>⟨n,i,w,.inl<|qr U (uJ h p k)<|Rc p s⟩) λv k e=>⟨n,i,w,.inr<|qr v e<|uJ h p k⟩
theorem Px {o:K->a7->Option X}(u:uP C d orc o)(q:o B T=Y p)(s:qP (c B) b=Y xs):∀{n:Nat}{f:St}{fl:Fl}{a:St},wN (ev orc k) M p xs n f=Y (fl,a)->ML C d B M T b n f fl a
 |0,f,fl,a,y=>nS y|n+1,f,fl,a,y=>mE y λv i z y=>
  have t:=(u B T p q k M f _ _ z).2
  mB y (λU y=>mF y (λG h2 y=>.inr<|.inl<|tb i G (t true U) (uJ h s h2)<|Px u q s y) λv h2 e=>.inr<|.inr<|tb i v e (t true U)<|uJ h s h2)
   λU y=>sz y λe1 e2=>.inl ⟨e1.symm,J e2<|t false U⟩
end
section
variable {f a:St}
theorem Qy (G:Hj C d orc c){T:a7}(o:zl T=true)(z:c B T=Y x)(n:(ev orc k).E M (.new x) f=Y (v,a)):TE C d B M T f v a:=by
 cases k with
 |zero=>exact nS n|succ k=>exact qO n λb U p=>sE (qo Y p)<|(G B T x o z k M f _ _ U).tracked
theorem z5 {b:a7}:(zE mu t b x=.new x/\zl b=true)\/zE mu t b x=x:=(jc _).elim (λc=>.inl ⟨qm c,((aA _ _).mp c).1⟩) λc=>.inr<|qn c
section
variable (u:uP C d orc c) (A:Hj C d orc c)
include u A
theorem Dv {b:a7}(U:c B b=Y x)(n:(ev orc k).E M (zE mu T b x) f=Y (v,a)):TE C d B M b f v a:=by
 rcases z5 with h|h
 .exact Qy A h.2 U<|J h.1 n
 .rw[h] at n;exact (u B b x U k M f v a n).1
theorem Du:∀{p q:List a7}{y:List X}{f:St}{G:List V}{a:St},qP (c B) q=Y y->sM (ev orc o) M (N0 mu p q y) f=Y (G,a)->tx C d B M q f G a
 |[],q,y,f,G,a,s,T=>ua u s T|t::p,[],y,f,G,a,s,T=>ua u s T
 |t::p,e::q,y,f,G,a,s,T=>by
  refine qZ (rp s) λx U n z b=>?_;subst b
  exact mE T λv i h1 T=>mL T λvs' st2 k T=>sz T λe3 e4=>e3▸e4▸.cons (Dv u A n h1) (Du z k)
end
theorem UP {T p:a7}{q:X}{s:List Tg}{is:List X}{U:List<|List X}{n t:Nat}{o:Prop}(he:(ev orc<|k+1).E M (zE mu T p<|.comp q s is U n t) f=Y (v,a))
  (b:∀(tr:Bool)(G:List V)(st2:St),B4 (ev orc k) M q s is U n t f=Y (G,st2)->v=(if tr then .ref st2.hp.length else .lst G)->a=⟨st2.loc,st2.hp++(if tr then [.list G] else [])⟩->o):o:=by
 rcases z5 with h|h
 .rw[h.1] at he;refine qO he λy q1 q2=>qO q1 λz q3 q4=>?_
  subst q4;exact sz (qo Y q2) λe1 e2=>b true z.1 z.2 q3 e1.symm e2.symm
 .rw[h] at he;refine qO he λy q1 q2=>qO q1 λz q3 q4=>?_
  subst q4;exact sz (qo Y q2) λe1 e2=>b false z.1 z.2 q3 e1.symm<|e2.symm.trans<|by refine Q (qn dq)<|Q (bh ..) rfl
end
theorem IB {q:ba}{T:a7}:fD [.Name q p] T env=pure N:=by cases T<;>rfl
theorem Hl {b:List a7}{T:a7}(n:yO T=N):fD [.Tuple b k p] T env=pure N:=by cases T<;>first|rfl|exact sN n
section
variable {f i a:St}
theorem Yz (p:TE C d B M (.Tuple o ke pe) f (.tup vs) i)(q:WL B tg (PT B k o)=true)(w:rA M 5 tg (.tup vs) i=Y a)(n:uf B 5 (.Tuple k kt pt)=Y tg) :
  TS C d B M (.Assign [.Tuple k kt pt] (.Tuple o ke pe) pos) f .next a:=by
 cases U:PT B k o with
 |none=>rw[U] at q;exact fT q
 |some s=>cases s with
  |none=>exact .U7 (λt G T b=>zF) p n w λt G b=>PS b U
  |some y=>
   rw[U] at q
   cases tg with
   |tup z=>
    have q:=(aA _ _).mp<|show (yF B y z&&decide y.Nodup)=true from q
    exact .YA p U q.1 (of_decide_eq_true q.2) w
   |_=>exact fT q
end
section
variable (L:sH C g) (u:uP C d orc c) (I:Hj C d orc c) (H:uP C d orc<|uR g c) (A:Hj C d orc<|uR g c) (j:uR g c B e=Y x) {f i a:St}(w:rA M 5 tg v i=Y a)
include L u H A j w
theorem U6 (n:uf B 5 (.Name p y)=Y tg)(z:(ev orc s).E M (zE mu (.Name p y) e x) f=Y (v,i)):TS C d B M (.Assign [.Name p y] e pos) f .next a:=by
 have T:(∀U σ t,vh B M σ U->ix e (Y<|.Name p y) t U=pure false)->TS C d B M (.Assign [.Name p y] e pos) f .next a:=λh2=>.U7 h2 (Dv H A j z) n w λU σ J=>IB
 by_cases hc:yJ e=true
 .exact T λU σ t J=>Bn hc
 clear A;revert j z T;refine comp_elim hc (λelt gs sc pv j z T=>?_) (λJ J J J j=>nS j) λJ J J J J j=>nS j
 cases k:Vx B sc p y pv with
 |false=>exact T λU σ t ok=>by refine Q (Af ok)<|Q k rfl
 |true=>
  clear T
  cases s with
  |zero=>exact z5.elim (λh=>nS<|h.1▸z) λh=>nS<|h▸z
  |succ s=>
   refine rX j λQ3 j=>?_
   rw[bU,b5] at Q3
   cases gs with
   |nil=>exact nS j|cons gc gr=>
    refine Ou j λi0 G ts fs xe h1 h2 h3 h4 h5 e=>rX e λhT e=>?_
    rw[bU,b5] at hT
    obtain rfl:=ae e;refine UP z λtr out st2 q1 e1 e2=>zA (Fq L u Q3 h1 h2 h3 h4 h5 hT q1) λsa o hf yr=>?_;subst yr
    obtain ⟨tE,iter,ifs,rest,tg',r,q,b,QZ,f1,f2,f3,f4,f5,f6,f7,f8⟩:=hf;refine Q QZ ?_;subst e1 e2;exact .YB f1 f2 f3 f4 f5 f6 f7 f8 k (ye n) w
include I
theorem acy (n:uf B 5 b=Y tg)(z:WM B b e tg=true)(U:(ev orc o).E M (HH mu b e x) f=Y (v,i)):TS C d B M (.Assign [b] e pos) f .next a:=by
 refine oE n (λp q W=>(y0 q).elim λs k=>?_) λW h=>oE h (λy h0 W=>(Cu h0).elim λt k=>k.elim λpt k=>?_) λW h=>nS h
 .subst k;exact U6 L u H A j w n<|J (Gl<|.inl rfl) U
 .subst k
  cases hte:yO e with
  |none=>
   rw[Gl<|.inr hte] at U
   exact .U7 (λenv σ T W=>zF) (Dv H A j U) n w λenv σ W=>Hl hte
  |some G=>
   refine se (Cu hte) λke pe rS=>?_;subst rS
   refine rX j λhc j=>qO j λxs q ex=>?_
   subst ex;rw[bU,b5,aA] at hc
   cases o with
   |zero=>exact nS U|succ o=>
   refine qO U λp q1 q2=>sz (qo Y q2) λe1 e2=>?_
   subst e1 e2;exact Yz (.tup hc.1 (Du u I q q1).tl (of_decide_eq_true hc.2) (Du u I q q1).length) z w n
end
section
variable {A j:St}
theorem abu (G:uP C d orc c)(e:stepT g mu c rs U (.Expr L pos)=Y x)(i:(ev orc<|k+1).S M x A=Y (fl,j)):TS C d U M (.Expr L pos) A fl j:=by
 refine qX e λn e=>qO e λa z L=>?_
 subst L;refine mN i λu H i=>sz i λh o=>?_
 subst h o;have p:=(G U _ a z k M A _ _ H).1;exact RM n (λb f q s p=>.expr p) p
theorem adm (G:uP C d orc c)(e:stepT g mu c rs U (.Return y pos)=Y x)(i:(ev orc<|k+1).S M x A=Y (fl,j)):TS C d U M (.Return y pos) A fl j:=by
 cases y with
 |none=>
  obtain rfl:=ae e;refine qO i λb z y=>sz (qo Y y) λH f=>?_
  cases k with
  |zero=>exact nS z|succ k=>
   obtain rfl:=ae z;subst H f;exact .ahp
 |some y=>
  refine qO e λa z y=>?_
  subst y;exact qO i λb n y=>sE (qo Y y)<|.ret (G U _ a z k M A _ _ n).1
theorem ahR (I:uP C d orc c)(T:Hi C d orc rs)(e:stepT g mu c rs y (.If L a b pos)=Y x)(i:(ev orc<|k+1).S M x A=Y (fl,j)):TS C d y M (.If L a b pos) A fl j:=by
 refine AY e λf u G n z H h=>?_
 obtain rfl:=ae h;refine mE i λo v p i=>?_
 have q:=(I y L f n k M A _ _ p).2;exact mB i (λU i=>.rf (q true U)<|uJ T z i) λU i=>.rf (q false U)<|uJ T H i
theorem isEmpty_nil {o:Type}{a:List o}(G:¬(!a.isEmpty)=true):a=[]:=by
 cases a with
 |nil=>rfl|cons J W=>exact absurd rfl G
theorem acV (I:uP C d orc c)(T:Hi C d orc rs)(e:stepT g mu c rs B (.While q b o pos)=Y x)(i:(ev orc<|k+1).S M x A=Y (fl,j)):TS C d B M (.While q b o pos) A fl j:=by
 refine rX e λL e=>yZ e λa G n z H=>Q (isEmpty_nil L) ?_
 obtain rfl:=ae H;exact .Lu<|Px T I n z i
theorem aeA (f:sH C g)(I:uP C d orc c)(T:Hi C d orc rs)(hx:stepT g mu c rs B (.For t e b o pos)=Y x)(i:(ev orc<|k+1).S M x A=Y (fl,j)):TS C d B M (.For t e b o pos) A fl j:=by
 refine rX hx λL hx=>rX hx λa hx=>AY hx λU p G n z H q=>qX q λs q=>Q (isEmpty_nil L) ?_
 obtain rfl:=ae q;rw[bU,b5] at a
 exact mR i λy w u h4 i=>.uZ (GG a) (IM f I s z h4) (λv A j h=>xZ 5 5 _ _ v A j n h)<|Rc T H i
theorem acZ (T:Hi C d orc rs)(e:stepT g mu c rs B (.Try b G o f pos)=Y x)(i:(ev orc<|k+1).S M x A=Y (fl,j)):TS C d B M (.Try b G o f pos) A fl j:=by
 refine rX e λI e=>qO e λh n z=>?_
 subst z;rw[iu,iu,not_or,not_or] at I
 obtain rfl:=isEmpty_nil I.1.2;refine Q (isEmpty_nil I.2) ?_
 cases G with
 |nil=>exact absurd rfl I.1.1|cons H G=>exact .yP<|uJ T n i
theorem isNone_none {p:Type}{o:Option p}(e:o.isNone=true):o=N:=by
 cases o with
 |none=>rfl|some J=>exact fT e
theorem aeI (f:sH C g) {p:ba}{H:iD}{o:List gv}{q:List a7}{ret:Option a7}{u:List TypeParam}{v:eV}{h:Option eV}{s:ba}
  (e:stepT g mu c rs B (.FunctionDef p H o q ret u v h s pos)=Y x) (i:(ev orc<|k+1).S M x A=Y (fl,j)):TS C d B M (.FunctionDef p H o q ret u v h s pos) A fl j:=by
 refine qX e λn e=>rX e λI e=>yZ e λL t z T w=>?_
 obtain rfl:=ae w;rw[aA,aA,aA] at n
 refine Q (f'.mp n.1.1.1)<|Q (isNone_none n.1.1.2)<|Q (f'.mp n.1.2)<|Q (isNone_none n.2) ?_
 rw[bU,b5,aA,aA] at I
 obtain rfl:=eq_of_beq I.1.2;exact mC i λG y i=>qO i λU a w=>sE (qo Y w)<|.DY f I.1.1 T y (eq_of_beq I.2) (ye z) a
theorem ac3 (G:uP C d orc c)(f:R5 c B e o b=Y x)(i:(ev orc<|k+1).S M x A=Y (fl,j)):TS C d B M (.Assign [.Subscript o b p] e pos) A fl j:=by
 refine rX f λL f=>rX f λh f=>AY f λq I a n z H e=>?_
 obtain rfl:=ae e;exact mE i λs u t i=>mE i λT v w i=>mE i λU y h6 i=>qO i λhp' g e=>sE (qo Y e)<|.wj (by rw[bU,b5] at h;exact h) (G B _ a H k M _ _ _ t).1 (G B o q n k M _ _ _ w).1 (G B b I z k M _ _ _ h6).1 g
theorem Qz:(newX mu n e x=.new x/\zl e=true)\/newX mu n e x=x:=(jc _).elim (λf=>.inl ⟨qm f,((aA _ _).mp f).2⟩) λf=>.inr<|qn f
theorem acx (G:uP C d orc b)(T:Hj C d orc b)(e:(if !vd o then N else (o2 (b y o) (b y f) λo g=>Y<|.setAttr o n<|newX mu n f g))=Y x)(i:(ev orc<|k+1).S M x A=Y (fl,j)):TS C d y M (.Assign [.Attribute o n p] f pos) A fl j:=by
 refine rX e λL e=>yZ e λI a q z f=>?_
 obtain rfl:=ae f;refine mE i λs u H i=>mE i λU t c i=>qO i λv w f=>sE (qo Y f)<|.setAttr ?_ (G y o I q k M _ _ _ c).1 w
 rcases Qz with h|h
 .exact Qy T h.2 z<|J h.1 H
 .rw[h] at H;exact (G y _ a z k M _ _ _ H).1
theorem ae9 (G:uP C d orc c)(e:acv c B op o t=Y x)(i:(ev orc<|k+1).S M x A=Y (fl,j)):TS C d B M (.AugAssign t op o pos) A fl j:=by
 refine oE e (λb n e=>rX e λI e=>AY e λa p f h1 H s o=>(LF n).elim λv q=>?_) λJ e=>rX e λhn e=>yZ e λtg f h1 H o=>?_
 .refine Q q ?_;clear q;obtain rfl:=ae o;exact mE i λT st1 h4 i=>mE i λU st2 g i=>mV i λq h6 i=>mE i λw st3 h7 i=>mV i λu h8 i=>qO i λhp' h9 o=>sE (qo Y o)<|(.uD (G B _ a h1 k M _ _ _ h4).1 (G B _ p H k M _ _ _ g).1 h6 (G B _ f s k M _ _ _ h7).1 h8 h9 λy h q z=>I<|Q z rfl)
 .obtain rfl:=ae o;rw[bU,b5] at hn
  exact mV i λT s i=>mE i λU st1 h4 i=>mV i λL g i=>qO i λst2 h6 o=>sE (qo Y o)<|BS hn (λb v h1=>.aug (ye h1) s (G B _ f H k M _ _ _ h4).1 g h6) h1
end
theorem afa (f:sH C a)(T:v9 C d orc)(n){s:Fl}{e:dB}(g:KP mu (Cb a n) B t b=Y x)(i:(ev orc<|k+1).S M x A=Y (s,j)):TS C d B M (.Assign [t] b e) A s j:=by
 refine yZ g λG I o z b=>qX b λH b=>?_
 obtain rfl:=ae b;refine mE i λp u c i=>qO i λq v b=>sE (qo Y b)<|?_
 cases n with
 |zero=>exact nS z|succ n=>exact acy f (Rl f T n) (nok f T n) (Rl f T<|n+1) (nok f T<|n+1) z v o H c
theorem SY {n:Nat}(f:sH C g) (T:v9 C d orc) (U:Hi C d orc<|Ku g mu n):Hi C d orc<|Ku g mu<|n+1:=by
 have I:=Rl f T n;intro B s x hx t M A fl j i
 cases t with
 |zero=>exact nS i|succ t=>
 cases s with
 |Expr e pos=>exact abu I hx i|Return e pos=>exact adm I hx i
 |If z a b pos=>exact ahR I U hx i|While z k G pos=>exact acV I U hx i
 |For L e k G pos=>exact aeA f I U hx i|Try k hs G fin pos=>exact acZ U hx i
 |Raise a b c=>obtain rfl:=ae hx;exact nS i
 |FunctionDef name H k q ret u v h w pos=>exact aeI f hx i|Assign h e pos=>
  have hx:WK mu (Cb g n) B e h=Y x:=hx
  cases h with
  |nil=>exact nS hx|cons L h=>cases h with
   |cons J W=>exact nS hx|nil=>
    exact oE hx (λy o hx=>(LF o).elim λp z=>z▸ac3 I hx i) λJ hx=>oE hx (λy o hx=>ME o▸acx I (nok f T n) hx i) λJ hx=>afa f T n hx i
 |AugAssign L op e pos=>exact ae9 I hx i|_=>exact nS hx
theorem ZC (f:sH C g)(T:v9 C d orc):∀n,Hi C d orc<|Ku g mu n
 |0=>λU c h e=>nS e
 |n+1=>SY f T<|ZC f T n
noncomputable def JV (b:List V->Option (List V)):Option O->Option V
 |Y<|.list l=>(b l).map .lst|Y<|.dict f j=>(b j).map<|.ru f
 |_=>N
noncomputable def sX (a:List O):Nat->V->Option V
 |0=>@λJ=>N
 |n+1=>@λk=>match k with
  |.none=>Y .none|.bool T=>Y<|.bool T
  |.int q=>Y<|.int q
  |.str p=>Y<|.str p
  |.qu p=>Y<|.qu p
  |.con s=>Y<|.con s
  |.tS b T s=>Y<|.tS b T s
  |.tup l=>(qP (sX a n) l).map .tup|.lst l=>(qP (sX a n) l).map .lst
  |.ru j u=>(qP (sX a n) u).map<|.ru j
  |.ref q=>JV (qP<|sX a n) a[q]?|.bm _ _=>N
theorem A6 {b:V->Option V}(d:∀k s L,Rep P T I σ k s->b k=Y L->Rep P T I' wa L s){j:List V}:∀{A:List aj}{G:List V},qJ P T I σ j A->qP b j=Y G->qJ P T I' wa G A:=by
 induction j with
 |nil=>exact λa e=>J (ae e) a
 |cons k j ih=>
  intro A G a e;refine qZ (rp e) λU H i n z=>Q z ?_;clear z
  exact dh (λs=>dh λA a=>rj a.1 (d _ _ _ a.2.1 i)<|ih a.2.2 n) a
theorem JU {b:V->Option V}(d:∀k s L,Rep P T I σ k s->b k=Y L->Rep P T I' wa L s){j:List V}:∀{u:List V}{G:List DictEntry}{f:List V},rJ P T I σ u j G->qP b j=Y f->rJ P T I' wa u f G:=by
 induction j with
 |nil=>exact λy e=>J (ae e) y
 |cons k j ih=>
  intro u G f y e;refine qZ (rp e) λU t i n z=>Q z ?_;clear z
  exact dh (λW=>dh λW=>dh λW=>dh λW y=>Ef y.1 y.2.1 y.2.2.1 (d _ _ _ y.2.2.2.1 i)<|ih y.2.2.2.2 n) y
theorem Mc {hp:List O}(hI:Gm.le I I')(ho:∀(i:Nat)(a:bK)(o:O),σ[i]?=Y a->hp[i]?=Y o->∃ob,rB P T I σ ob o/\((∃l,o=.list l)\/(∃ks vs,o=.dict ks vs)->I' a=Y ob))(n:Nat):∀(v:V)(c:aj)(v':V),Rep P T I σ v c->sX hp n v=Y v'->Rep P T I' wa v' c:=by
 induction n with
 |zero=>exact λW W W W h=>nS h
 |succ n ih=>
  intro v c v' r h
  cases v with
  |none|bool|int|str|con|qu=>exact J (ae h) r|bm=>exact nS h
  |tS=>exact J (ae h)<|dh (λW=>dh λW=>dh λW=>dh λW r=>⟨r.1,hI _ _ r.2⟩) r
  |tup l=>exact qO h λl' h1 e=>e▸dh (λW=>dh λW=>dh λW r=>⟨r.1,hI _ _ r.2.1,A6 ih r.2.2 h1⟩) r
  |lst l=>exact qO h λl' h1 e=>e▸dh (λW=>dh λW=>dh λW r=>⟨r.1,hI _ _ r.2.1,A6 ih r.2.2 h1⟩) r
  |ru ks vs=>exact qO h λl' h1 e=>J e<|dh (λW=>dh λW=>dh λW r=>td r.1 (hI _ _ r.2.1) r.2.2.1<|JU ih r.2.2.2 h1) r
  |ref i=>
   obtain ⟨a,e0,ea⟩:=r.inv;refine Q e0 ?_
   cases e1:hp[i]? with
   |none=>exact nS<|(qo (JV _) e1).symm.trans h
   |some o=>
    have h:=(qo (JV<|qP<|sX hp n) e1).symm.trans h;refine qt (ho _ _ _ ea e1) λob q1 q2=>?_
    cases o with
    |list l=>exact qO h λl' h1 e=>e▸q1.inv.elim λW q=>q.elim λW q=>.lst ((q2<|.inl ⟨_,rfl⟩).trans<|qo Y q.1)<|A6 ih q.2 h1
    |dict ks vs=>exact qO h λl' h1 e=>J e<|q1.inv.elim λW q=>q.elim λW q=>.ru ((q2<|.inr ⟨_,_,rfl⟩).trans<|qo Y q.1) q.2.1<|JU ih q.2.2 h1
    |_=>exact nS h
theorem q7.drop (H:qY C hp W):qY C [] ⟨W.G,[],W.s⟩ where
 I:=H.I
 F:=H.F
 IF:=H.IF
 top:=H.top
 tab P hP:=uQ (H.tab P hP) λx y z w=>td x y (λh=>nomatch h) w
 len:=rfl
 nd:=.nil
 rY i a e:=Vm.nS e
 gens:=H.gens
 os:=H.os
 pos:=H.pos
 T:=H.T
theorem Ql {α:Type}(a:qY C hp W)(e:sX hp' n v=Y v')(G:TH C A x (λb s=>qw C b v s) hp' ⟨W.G,[],W.s⟩):TH C A x (λb s=>qw C b v' s) hp W:=λQQq d g=>by
 refine G QQq d λb s kept f j=>?_
 classical
 let u:Gm:=λy=>if y∈b.σ then b.s.heap.get? y else b.G.I y
 have GZ:∀y,y∈b.σ->b.G.I y=N/\b.G.F y=N/\y∉C.tabs:=λy hb=>by
  obtain ⟨h,hi,i⟩:=cK hb;refine qN (f.rY h y<|J i<|aD hi) λp q V=>?_
  exact rj p q λz=>(f.tab y z).2.2.1 hb
 have Q6:Gm.le b.G.I u:=λy o i=>(qn λhb=>nS<|(GZ y hb).1.symm.trans i:(if y∈b.σ then _ else _)=_).trans i
 have aeg:∀y o,u y=Y o->b.s.heap.get? y=Y o:=λy o i=>by
  have i:(if y∈b.σ then b.s.heap.get? y else b.G.I y)=Y o:=i
  split at i
  .exact i
  .exact f.I y o i
 have HU:∀y,b.G.I y=N->y∉b.σ->u y=N:=λy H h2=>by show (if y∈b.σ then _ else _)=_;exact Q (qn h2) H
 have H2:qY C hp ⟨⟨u,b.G.F,b.G.T⟩,W.σ,b.s⟩:={
  I:=aeg
  F:=f.F
  IF:=λy i=>by
   by_cases hb:y∈b.σ
   .exact (GZ y hb).2.1
   .refine f.IF y λz=>i<|HU y z hb
  top:=f.top.trans Q6
  tab:=λP hP=>uQ (f.tab P hP) λU c z yq=>qt yq λo i x=>⟨HU P U z,c,(a.tab P hP).2.2.1,o,i,x.mono Q6⟩
  len:=a.len
  nd:=a.nd
  rY:=λh w i=>by obtain ⟨o,ob,H,h2,h3,h4,h5,h6⟩:=((λh w i=>qN (a.rY h w i) λp q xY=>qZ xY λo ob H h2 h3=>qN (kept.off w ob h2 p (λz=>nomatch z) λz=>(a.tab w z).2.2.1<|bG i) λk k2 k3=>Hz o ob H k h3 k2 k3 q) h w i);exact ⟨HU w h4 h5,Q kept.le.G.F h6,o,ob,H,h2,h3.mono kept.le.G.T (kept.le.G.I.trans Q6)<|rm.refl _⟩
  gens:=f.gens
  os:=f.os
  pos:=f.pos
  T:=f.T }
 refine g ⟨⟨u,b.G.F,b.G.T⟩,W.σ,b.s⟩ s (⟨⟨⟨kept.le.G.I.trans Q6,kept.le.G.F,kept.le.G.T⟩,rm.refl _⟩,λL o p q j x=>qN (kept.off L o p q (λz=>nomatch z) x) λk k2 k3=>rj k (HU L k2 k3) j⟩) H2<|Mc Q6 (λh w o e1 e2=>qN (f.rY h w e1) λV V yr=>qZ yr λt ob H h2 h3=>?_) n v s v' j e
 rw[e2] at H;(refine Vm.sI H ?_;clear H;rintro rfl)
 exact ⟨ob,h3,λV=>by show (if w∈b.σ then _ else _)=_;exact Q (qm<|bG e1) h2⟩
structure Fn where
 B:K
 names:List ba
 tgs:List Tg
 body:List XS ⊕ X
def tW (h:vC)(z:Fn)(a:List<|ba×Nat)(f:List V)(k:List O):Option<|V×List O:=
 match wg a z.B.scope.names k.length with
 |Y u=>match bindAll u z.tgs f ⟨aw z.B.slots.length N,k++aw (rb z.B.scope).length (.cell N)⟩ with
  |Y st=>match z.body with
   |.inl G=>we h u G st|.inr c=>((ev h 60).E u c st).map λb=>(b.1,b.2.hp)
  |N=>N
 |N=>N
def AG (b:Glob)(o:yj)(z:Fn)(T:lH)(h:List XS ⊕ X):Prop:=match T,h with
 |.stmts a,.inl f=>F_ b o z.B a=Y f|.expr L,.inr c=>Cb b 100 z.B L=Y c
 |J,W=>False
def zy (a:Glob)(o:yj)(z:Fn)(T:lH):Prop:=AG a o z T z.body
theorem S3 {z:Fn}{f:List<|ba×Nat}{k:List V}{b:V×List O}{o:Prop}(e:tW orc z f k hp=Y b) (c:∀u x,wg f z.B.scope.names hp.length=Y u->
  bindAll u z.tgs k ⟨aw z.B.slots.length N,hp++aw (rb z.B.scope).length (.cell N)⟩=Y x->(match z.body with|.inl G=>we orc u G x|.inr a=>((ev orc 60).E u a x).map λd=>(d.1,d.2.hp))=Y b->o):o:=by
 delta tW at e
 cases i:wg f z.B.scope.names hp.length with
 |none=>rw[i] at e;exact nS e
 |some u=>
  revert e;refine Q i ?_;intro e;dsimp only at e
  cases p:bindAll u z.tgs k ⟨aw z.B.slots.length N,hp++aw (rb z.B.scope).length (.cell N)⟩ with
  |none=>rw[p] at e;exact nS e
  |some x=>rw[p] at e;exact c u x i p e
theorem Xm {a:List XS}{f:List Nat}{x:St}{k:V}{p:List O}{o:Prop}(e:we orc f a x=Y (k,p)) (b:∀I,rR (ev orc 60) f a x=Y (.ret k,I)->I.hp=p->o)
  (d:∀I,rR (ev orc 60) f a x=Y (.next,I)->k=.none->I.hp=p->o):o:=by
 delta we at e
 cases i:rR (ev orc 60) f a x with
 |none=>rw[i] at e;exact nS e
 |some c=>
  rw[i] at e
  obtain ⟨t,I⟩:=c
  cases t with
  |ret L=>exact sz e λq z=>b I (i.trans<|by refine Q q rfl) z
  |next=>exact sz e λq z=>d I i q.symm z
theorem IY (A:sH C g)(T:v9 C d orc)(U:zy g mu f body)(e:tW orc f cells vs hp=Y (v,hp')) :
  ∃G x I,wg cells f.B.scope.names hp.length=Y G/\bindAll G f.tgs vs ⟨aw f.B.slots.length N,hp++aw (rb f.B.scope).length (.cell N)⟩=Y x/\BodyOk C d f.B G body x v I/\I.hp=hp':=by
 refine S3 e λG x i o e=>?_
 cases z:f.body with
 |inl h=>
  rw[z] at e
  cases body with
  |expr a=>exact (show False from (qo (AG g mu f<|.expr a) z).mp U).elim|stmts b=>
   have U:F_ g mu f.B b=Y h:=(qo (AG g mu f<|.stmts b) z).mp U;exact Xm e (λI H a=>AJ G x I i o (.inl<|uJ (ZC A T 100) U H) a) λI H c a=>AJ G x I i o (.inr ⟨uJ (ZC A T 100) U H,c⟩) a
 |inr a=>
  rw[z] at e
  cases body with
  |stmts h=>exact (show False from (qo (AG g mu f<|.stmts h) z).mp U).elim|expr L=>
   exact qO e λp H k=>AJ G x p.2 i o (J ((b0 k).1)<|(Rl A T 100 f.B L a ((qo (AG g mu f<|.expr L) z).mp U) 60 G x p.1 p.2 H).1)<|(b0 k).2
noncomputable def OT (v:eV):Bool:=v.kind==.function&&!v.isCoroutine&&!v.isGenerator&&decide (v.names.map (·.1)).Nodup
theorem Uv (e:OT sc=true):D9<|K.of sc q c:=by
 delta OT at e
 simp only[aA,bU,decide_eq_true_eq] at e
 obtain ⟨⟨⟨o,z⟩,i⟩,x⟩:=e;exact ⟨eq_of_beq o,z,i,rfl,rfl,x⟩
def Mw (a:Glob)(o:yj)(U:K)(T:lH):Option<|List XS ⊕ X:=match T with
 |.stmts T=>(F_ a o U T).map .inl|.expr L=>(Cb a 100 U L).map .inr
def AA (b:Glob)(o:yj)(t:wQ):Option Fn:=
 if OT t.scope&&wH t.params&&decide ((t.params.args.map (·.arg)).Nodup) then
  (qP (λ(x:Arg)=>uf (K.of t.scope (t.qual++".<locals>.") N) 5<|.Name x.arg x.pos) t.params.args).bind λa=>
   (Mw b o (K.of t.scope (t.qual++".<locals>.") N) t.body).map λh=>⟨K.of t.scope (t.qual++".<locals>.") N,t.params.args.map (·.arg),a,h⟩
 else N
theorem O' {b:Glob}{o:yj}{z:Fn}(e:Mw b o z.B T=Y z.body):zy b o z T:=by
 delta zy
 cases T with
 |stmts T=>exact qO e λa e i=>J i e
 |expr T=>exact qO e λa e i=>J i e
theorem Iz:∀{b:List Arg}{f:List Tg},qP (λ(a:Arg)=>uf B 5<|.Name a.arg a.pos) b=Y f->zX B (b.map (·.arg)) f
 |[],f,e=>by (refine Vm.sI e ?_;clear e;rintro rfl);trivial
 |a::b,f,e=>by
  refine qZ (rp e) λG u i o z=>Q z ?_;clear z
  exact ⟨⟨a.pos,ye i⟩,Iz o⟩
theorem Ll (e:AA g mu f=Y fn):fn.B=K.of f.scope (f.qual++".<locals>.") N/\D9 fn.B/\(∃a,f.params=⟨[],a,N,[],[],N,[]⟩/\(a.map (·.arg)).Nodup/\fn.names=a.map (·.arg))/\zX fn.B fn.names fn.tgs/\zy g mu fn f.body:=by
 refine qX e λi e=>so e λk o e=>qO e λh z H=>?_
 revert i;refine Q (aA ..)<|Q (aA ..)<|Q (decide_eq_true_eq ..) ?_;intro i
 refine qt (wY i.1.2) λa c W=>J H ?_;clear H
 exact Ef rfl (Uv i.1.1) (ry a c (by have:=i.2;rwa [c] at this)<|by refine Q c rfl) (Iz o)<|O' z
structure rL where
 addr:bK
 fn:Fn
 bind:List V->List ba->List V->Option (List V)
 pure:Bool
 mu:yj
structure CU (C:Ctx) (g:Glob) (t:rL) (o:gA) (fd:FuncData):Prop where
 at_:C.tG t.addr=some o
 data:o.data=.func fd
 scope:fd.scope=t.fn.B.scope
 ok:D9 t.fn.B
 globals:fd.globals=dg
 builtins:fd.builtins=eY
 qual:t.fn.B.qual=fd.qualname++".<locals>."
 code:xX C.tG fd.code fd.qualname
 aeM:∀c,t.fn.B.code=some c->fd.code=c
 tgs:zX t.fn.B t.fn.names t.fn.tgs
 body:zy g t.mu t.fn fd.body
 bind:∀as kn kv vs,t.bind as kn kv=some vs->wx C fd as kn kv t.fn.names vs
def pureO (h:vC)(T:rL)(a:List V)(f:List ba)(k:List V):Option V:=(qP (sX [] 9) a).bind λu=>(qP (sX [] 9) k).bind λG=>(T.bind u f G).bind λd=>(tW h T.fn [] d []).bind λb=>sX b.2 9 b.1
def yY (a:List rL)(b:bK->List V->Option V)(h:vC)(v:bK)(f:List V)(k:List ba)(u:List V)(G:List O):Option<|V×List O:=(a.find? (·.addr==v)).elim (if k=[]/\u=[] then (b v f).map (·,G) else N) λT=>(T.bind f k u).bind λd=>if T.pure=true then (pureO h T f k u).map (·,G) else tW h T.fn [] d G
def EJ (b:Glob)(o:yj)(h:vC)(t:wQ)(a:List<|ba×Nat)(f:List V)(k:List O):Option<|V×List O:=(AA b o t).bind λz=>if f.length=z.names.length then tW h z a f k else N
noncomputable def Ot (c:Glob)(o:yj)(a:List rL)(b:bK->List V->Option V):Nat->vC
 |0=>⟨λJ J J J J=>N,λJ J J J=>N⟩
 |n+1=>⟨yY a b<|Ot c o a b n,EJ c o<|Ot c o a b n⟩
def KY (T:Ctx)(b:bK->List V->Option V):Prop:=∀v a k,b v a=Y k->(∃G o,T.tG v=Y G/\G.data=.func o)/\∀(c:Nat)(U:Around)(W:Wd)(f:List O)(p:List aj),rl (c+1) U->qY T f W->qG T W a p->TH T U (call (.ref v) p []) (λd t=>qw T d k t) f W
theorem Gv (e:qP (sX [] 9) as=Y KS)(U:qG C W as xs):qG C ⟨W.G,[],W.s⟩ KS xs:=A6 (λk t L U e=>Mc (Gm.le.refl _) (λc v I J i=>Vm.nS i) 9 k t L U e) U e
theorem UO:∀{p:ba}{c:Nat},([]:List<|ba×Nat).lookup p=Y c->False:=λe=>nomatch e
section
variable (j:sH C g) (s:v9 C n orc)
include j s
theorem PO {p:FuncData}(q:CU C g t o p){G:List O}(L:rl (n+1) A)(H:qY C G W)(U:qG C W as xs)(I:qG C W kv f)(hb:t.bind as kn kv=Y vs)(i:tW orc t.fn [] vs G=Y (v,hp')):TH C A (call (.ref t.addr) xs<|kn.zip f) (λT w=>qw C T v w) hp' W:=by
 refine Eg (IY j s q.body i) λa u b d z r3 yr=>J yr ?_;clear yr
 obtain ⟨w,oc,vs',x,c,k,e3,e4⟩:=q.code;exact Cd L H ((λy o e=>H.I y o<|H.top y o e) _ _ q.at_) q.data q.scope q.ok q.globals q.builtins q.qual (AI w oc vs' x c ((λy o e=>H.I y o<|H.top y o e) _ _ k) e3 e4) q.aeM (λy h e=>(UO e).elim) j.lim (q.bind _ _ _ _ hb) U I q.tgs d z r3
theorem ac0 {p:FuncData}(q:CU C g T o p){d:List O}(L:rl (n+1) A)(a:qY C d W)(U:qG C W t xs)(G:qG C W u f)(e:(T.bind t kn u).bind (λw=>if T.pure=true then (pureO orc T t kn u).map (·,d) else tW orc T.fn [] w d)=Y (v,hp')):TH C A (call (.ref T.addr) xs<|kn.zip f) (λh x=>qw C h v x) hp' W:=
 so e λw i e=>aaD e (λV e=>qO e λy e I=>so e λKS z e=>so e λkv' H e=>so e λvs' c e=>so e λb k h3=>J ((b0 I).1)<|J ((b0 I).2)<|Ql (α:=Unit) a h3<|PO j s q L a.drop (Gv z U) (Gv H G) c k) λV e=>PO j s q L a U G i e
theorem abO {d:Around}{t:wQ}{a:List<|ba×Nat}{f:List V}{v:List aj}{h w:Nat}{y:Option Nat}{k:V}{u G:List O}(e:EJ g mu orc t a f u=Y (k,G)) (L:rl (n+1) d) (A:qY C u W)
  (i:u[h]?=Y (.fn t a y)) (h2:W.σ[h]?=Y w) (U:qG C W f v):TH C d (call (.ref w) v []) (λW' c=>qw C W' k c) G W:=so e λz hfn e=>qX e λH e=>by
 refine Ve (Ll hfn) λs1 s2 Ic s6 s7=>rU Ic λKS s3 x s5=>Eg (IY j s s7 e) λcs' st1 st2 r1 r2 r3 xY=>J xY ?_;clear xY
 refine qN (A.rY _ _ h2) λaI aF T=>qZ T λI ob g1 g2 g3=>?_
 obtain rfl:=ae (g1.symm.trans i);obtain ⟨fd,dict,rfl,fo,b,V7⟩:=g3.inv;obtain ⟨c,o,vs',tk,e1,e2,e3,p⟩:=fo.code;exact Cd L A g2 rfl (Q fo.scope<|Q s1 rfl) s2 fo.globals fo.builtins (Q s1<|Q fo.qual rfl) (AI c o vs' tk e1 (A.I _ _ e2) e3<|Q fo.qual p) (λc q=>by rw[s1] at q;exact Vm.nS q) b j.lim (Q s5<|wx.plain (Q fo.params s3) fo.defaults x<|by refine Q H<|Q s5<|Q (ao ..) rfl:wx C fd f [] [] z.names f) U .nil s6 r1 r2<|Q fo.body r3
end
theorem XA (j:sH C g){b:bK->List V->Option V}(d:∀t∈ahb,∃o q,CU C g t o q)(U:KY C b)(c):v9 C c<|Ot g mu ahb b c:=by
 induction c with
 |zero=>exact ⟨λP P P P P P P h=>nS h,λP P P P P P h=>nS h⟩|succ c s=>
  refine ⟨λv u G I L7 k hp' h0=>oE h0 (λt hft h=>?_) λP h=>qX h λhkn h=>qO h λw z e=>?_,λf cl u L7 k hp' h a W xs i v y L H h1 h2 hx=>abO j s h L H h1 h2 hx⟩
  .obtain rfl:t.addr=v:=eq_of_beq (pA (p:=λt:rL=>t.addr==v) hft);refine se (d t<|l_ hft) λo q T=>?_
   exact ⟨wy o q T.at_ T.data,λa W xs x L H hx A=>ac0 j s T L H hx A h⟩
  .exact J ((b0 e).1)<|J ((b0 e).2)<|Q hkn.1<|Q hkn.2 ⟨(U v u w z).1,λa W xs x L H hx A=>(U v u w z).2 c a W L7 xs L H hx⟩
end Vm
end
noncomputable section
namespace L1
open uK
open Vm (V O X XS Tg wQ Fn K Glob rL vC yj)
noncomputable def ah_ (p:ba):wQ:=⟨⟨[],[],N,[],[],N,[]⟩,.stmts [],{ kind:=.module,names:=[],isGenerator:=false,isCoroutine:=false,more:=[] },p⟩
def HY (p:ba)(c:gv):wQ:=if c.ctorIdx=0 then ⟨(Fc c).2.1,.stmts (Fc c).2.2.1,(Fc c).2.2.2,p++(Fc c).1⟩ else
 let L:=(Cg c).2.1;if e:L.ctorIdx=4 then pk (motive_1:=λJ=>wQ) L e λH a v J=>⟨H,.expr a,v,p++"<lambda>"⟩ else ah_ p
def sub (c h:Nat):gv:=(Fc (s_ c)).2.2.1.getD h (.Pass ⟨0,0,0,0⟩)
def kk (c:Nat)(v:bK):K:=K.of (BZ (s_ c)) ((Fc (s_ c)).1++".<locals>.") (Y (.ref v))
def fN (c:Nat):List ba:=(t9 (s_ c)).args.map (·.arg)
noncomputable abbrev _root_.Vm.X.i (U:Int):X:=.k (.int U)
noncomputable abbrev _root_.Vm.X.g (T:bK)(U:List X):X:=.call (.k (.con (.ref T))) U [] []
noncomputable abbrev ez (p j:ba):XS:=.rf (.cmp (.k (.qu p)) [.In] [.l 0]) [.asg (.l 0) (.mt .replace (.l 0) [.k (.qu p),.k (.qu j)])] []
def Au:wQ:=HY "_int2digits.<locals>." (sub 4 1)
def w_:wQ:=HY "_digits2int.<locals>." (sub 5 0)
def Mh:wQ:=HY "_law_element.<locals>." (sub 24 0)
def xK:wQ:=HY "_law_element.<locals>." (sub 24 7)
def AD:List (Int×ba):=(H8.zip H7).filterMap λb=>b.1.bind λL=>(aaH (DZ L)).bind λL=>(II (DZ b.2)).map λp=>(L,p)
def b3V:V:=.ru (AD.map λb=>.int b.1) (AD.map λb=>.str b.2)
noncomputable def NZ:List (ba×Nat×aj):=(("__name__",165,(.str "law_wc0030_02" 2361))::("__doc__",166,.none)::("__package__",167,.none)::("__loader__",168,(.builtin "__main__.__loader__#opaque"))::("__spec__",169,.none)::("__annotations__",170,(.ref 6))::("__builtins__",171,(.ref 4))::("__file__",173,(.str "/claim/cut.py" 172))::("__cached__",174,.none)::("_DIV_LIMIT",190,(.int 4000 189))::("_div2n1n",207,(.ref 21))::("_div3n2n",221,(.ref 28))::("_int2digits",232,(.ref 35))::("_digits2int",243,(.ref 42))::("_divmod_pos",258,(.ref 49))::("int_divmod",268,(.ref 56))::("b1_set",330,(.ref 64))::("in_table_b1",337,(.ref 74))::("b3_exceptions",2288,(.ref 75))::("map_table_b3",2296,(.ref 120))::("SubElement",2309,(.ref 129))::("_serialize_text",2318,(.ref 136))::("_raise_serialization_error",2325,(.ref 143))::("_escape_cdata",2332,(.ref 150))::("_escape_attrib",2339,(.ref 157))::("_escape_attrib_html",2346,(.ref 164))::("_escape_cdata_c14n",2353,(.ref 171))::("_escape_attrib_c14n",2360,(.ref 178))::("_law_read",2368,(.ref 183))::("_law_element",2378,(.ref 190))::("_law_page",2397,(.ref 197))::("_law_taken_apart",2411,(.ref 204))::("_law_above",2422,(.ref 211))::("_law_whole",2428,(.ref 216))::("_law_figures",2440,(.ref 223))::("_law_changes",2446,(.ref 228))::("_law_leaves",2452,(.ref 233))::("law",2458,(.ref 238))::[])
noncomputable def Qj:List (aj×Nat×Nat×ba):=[((.ref 34),32,4,"_int2digits.<locals>.inner"),((.ref 41),47,4,"_digits2int.<locals>.inner"),((.ref 189),185,10,"_law_element.<locals>.<lambda>"),((.ref 189),192,19,"_law_element.<locals>.<lambda>")]
def k2:K:=kk 2 20
def Y4:XS:=.rf (.l 3) [.aug (.l 0) .LShift (.i 1),.aug (.l 1) .LShift (.i 1),.aug (.l 2) .Add (.i 1)] []
def Y3:XS:=.rf (.l 3) [.aug (.l 9) .RShift (.i 1)] []
def x2:List XS:=[.rf (.cmp (.bin .Sub (.mt .yf (.l 0) []) (.l 2)) [.LtE] [.i 4000]) [.ret (.bf .divmod [.l 0,.l 1])] [],.asg (.l 3) (.bin .BitAnd (.l 2) (.i 1)),Y4,.asg (.l 4) (.bin .RShift (.l 2) (.i 1)),.asg (.l 5) (.bin .Sub (.bin .LShift (.i 1) (.l 4)) (.i 1)),.asg (.tup [.l 6,.l 7]) (.tup [.bin .RShift (.l 1) (.l 4),.bin .BitAnd (.l 1) (.l 5)]),.asg (.tup [.l 8,.l 9]) (.g 28 [.bin .RShift (.l 0) (.l 2),.bin .BitAnd (.bin .RShift (.l 0) (.l 4)) (.l 5),.l 1,.l 6,.l 7,.l 4]),.asg (.tup [.l 10,.l 9]) (.g 28 [.l 9,.bin .BitAnd (.l 0) (.l 5),.l 1,.l 6,.l 7,.l 4]),Y3,.ret (.tup [.bin .BitOr (.bin .LShift (.l 8) (.l 4)) (.l 10),.l 9])]
def f2:Fn:=⟨k2,fN 2,[.l 0,.l 1,.l 2],.inl x2⟩
def k3:K:=kk 3 27
def YZ:XS:=.rf (.cmp (.bin .RShift (.l 0) (.l 5)) [.Eq] [.l 3]) [.asg (.tup [.l 6,.l 7]) (.tup [.bin .Sub (.bin .LShift (.i 1) (.l 5)) (.i 1),.bin .Add (.bin .Sub (.l 0) (.bin .LShift (.l 3) (.l 5))) (.l 3)])] [.asg (.tup [.l 6,.l 7]) (.g 21 [.l 0,.l 3,.l 5])]
def YY:XS:=.Lu (.cmp (.l 7) [.Lt] [.i 0]) [.aug (.l 6) .Sub (.i 1),.aug (.l 7) .Add (.l 2)]
def x3:List XS:=[YZ,.asg (.l 7) (.bin .Sub (.bin .BitOr (.bin .LShift (.l 7) (.l 5)) (.l 1)) (.bin .Mult (.l 6) (.l 4))),YY,.ret (.tup [.l 6,.l 7])]
def f3:Fn:=⟨k3,fN 3,[.l 0,.l 1,.l 2,.l 3,.l 4,.l 5],.inl x3⟩
def k4:K:=kk 4 34
def x4:List XS:=[.asg (.cell 1) (.new (.bin .Mult (.list [.i 0]) (.bin .FloorDiv (.bin .Sub (.bin .Add (.mt .yf (.l 0) []) (.cell 0)) (.i 1)) (.cell 0)))),.DY (.cell 2) Au [("n",0),("inner",2),("a_digits",1)],.rf (.l 0) [.expr (.call (.cell 2) [.l 0,.i 0,.bf .len [.cell 1]] [] [])] [],.ret (.cell 1)]
def f4:Fn:=⟨k4,fN 4,[.l 0,.cell 0],.inl x4⟩
def k5:K:=kk 5 41
def x5:List XS:=[.DY (.cell 2) w_ [("n",1),("inner",2),("digits",0)],.ret (.rf (.cell 0) (.call (.cell 2) [.i 0,.bf .len [.cell 0]] [] []) (.i 0))]
def f5:Fn:=⟨k5,fN 5,[.cell 0,.cell 1],.inl x5⟩
def k6:K:=kk 6 48
def x6:List XS:=[.asg (.l 2) (.mt .yf (.l 1) []),.asg (.l 3) (.g 35 [.l 0,.l 2]),.asg (.l 4) (.i 0),.asg (.l 5) (.new (.list [])),.uZ (.l 6) (.rev (.l 3)) [.asg (.tup [.l 7,.l 4]) (.g 21 [.bin .Add (.bin .LShift (.l 4) (.l 2)) (.l 6),.l 1,.l 2]),.expr (.mt .append (.l 5) [.l 7])],.expr (.mt .reverse (.l 5) []),.asg (.l 8) (.g 42 [.l 5,.l 2]),.ret (.tup [.l 8,.l 4])]
def f6:Fn:=⟨k6,fN 6,[.l 0,.l 1],.inl x6⟩
def k7:K:=kk 7 55
def ag7:XS:=.rf (.cmp (.l 1) [.Eq] [.i 0]) [.stop] [.rf (.cmp (.l 1) [.Lt] [.i 0]) [.asg (.tup [.l 2,.l 3]) (.g 56 [.un .USub (.l 0),.un .USub (.l 1)]),.ret (.tup [.l 2,.un .USub (.l 3)])] [.rf (.cmp (.l 0) [.Lt] [.i 0]) [.asg (.tup [.l 2,.l 3]) (.g 56 [.un .Invert (.l 0),.l 1]),.ret (.tup [.un .Invert (.l 2),.bin .Add (.l 1) (.un .Invert (.l 3))])] [.ret (.g 49 [.l 0,.l 1])]]]
def x7:List XS:=[ag7]
def f7:Fn:=⟨k7,fN 7,[.l 0,.l 1],.inl x7⟩
def ahj:eV:=BZ (s_ 10)
def QP:K:=kk 10 73
def k12:K:=kk 12 119
def x12:List XS:=[.asg (.l 1) (.mt .get (.k b3V) [.bf .ord [.l 0]]),.rf (.cmp (.l 1) [.IsNot] [.k .none]) [.ret (.l 1)] [],.ret (.mt .lower (.l 0) [])]
def f12:Fn:=⟨k12,fN 12,[.l 0],.inl x12⟩
def k14:K:=kk 14 128
noncomputable def Za:List XS:=[.asg (.l 2) (.star [.l 2,.l 3]),.asg (.l 4) (.mc (.l 0) "makeelement" [.l 1,.l 2]),.expr (.mt .append (.l 0) [.l 4]),.ret (.l 4)]
def f14:Fn:=⟨k14,["parent","tag","attrib","extra"],[.l 0,.l 1,.l 2,.l 3],.inl Za⟩
def k15:K:=kk 15 135
noncomputable def Y':List XS:=[.uZ (.l 2) (.mc (.l 1) "itertext" []) [.expr (.call (.l 0) [.l 2] [] [])],.rf (.attr (.l 1) "tail") [.expr (.call (.l 0) [.attr (.l 1) "tail"] [] [])] []]
def f15:Fn:=⟨k15,fN 15,[.l 0,.l 1],.inl Y'⟩
def k17:K:=kk 17 149
def x17:List XS:=[.yP [ez "&" "&amp;",ez "<" "&lt;",ez ">" "&gt;",.ret (.l 0)]]
def f17:Fn:=⟨k17,fN 17,[.l 0],.inl x17⟩
def k18:K:=kk 18 156
def x18:List XS:=[.yP [ez "&" "&amp;",ez "<" "&lt;",ez ">" "&gt;",ez "\"" "&quot;",ez "\x0d" "&#13;",ez "\n" "&#10;",ez "\t" "&#09;",.ret (.l 0)]]
def f18:Fn:=⟨k18,fN 18,[.l 0],.inl x18⟩
def k19:K:=kk 19 163
def x19:List XS:=[.yP [ez "&" "&amp;",ez ">" "&gt;",ez "\"" "&quot;",.ret (.l 0)]]
def f19:Fn:=⟨k19,fN 19,[.l 0],.inl x19⟩
def k20:K:=kk 20 170
def x20:List XS:=[.yP [ez "&" "&amp;",ez "<" "&lt;",ez ">" "&gt;",ez "\x0d" "&#xD;",.ret (.l 0)]]
def f20:Fn:=⟨k20,fN 20,[.l 0],.inl x20⟩
def k21:K:=kk 21 177
def x21:List XS:=[.yP [ez "&" "&amp;",ez "<" "&lt;",ez "\"" "&quot;",ez "\t" "&#x9;",ez "\n" "&#xA;",ez "\x0d" "&#xD;",.ret (.l 0)]]
def f21:Fn:=⟨k21,fN 21,[.l 0],.inl x21⟩
def k23:K:=kk 23 182
def Vq:XS:=.asg (.l 3) (.bin .Add (.list [.i 97,.i 65]) (.comp (.bin .Add (.i 119808) (.bin .Mult (.i 52) (.l 0))) [.l 0] [.tup [.i 0,.i 1,.i 2,.i 4,.i 7,.i 8,.i 9,.i 10,.i 11,.i 12]] [[]] 1 0))
def Y_:List XS:=[.asg (.cell 0) (.bin .Add (.list [.i 173,.i 847,.i 6150,.i 6155,.i 6156,.i 6157,.i 8203,.i 8204,.i 8205,.i 8288,.i 65279]) (.bf .list [.bf .range [.i 65024,.i 65040]])),Vq,.asg (.cell 1) (.new (.dict [] [])),.uZ (.tup [.l 4,.l 5]) (.enum (.l 1)) [.asg (.tup [.l 6,.l 7]) (.tup [.bin .Mod (.bin .FloorDiv (.l 2) (.bin .Pow (.i 13) (.l 4))) (.i 36),.bf .chr [.sub (.cell 0) (.bin .Mod (.bin .FloorDiv (.l 2) (.bin .Add (.l 4) (.i 2))) (.i 27))]]),.asg (.l 8) (.bf .chr [.bin .Sub (.bin .Add (.sub (.l 3) (.bin .Mod (.l 6) (.i 12))) (.bf .ord [.l 5])) (.i 97)]),.wj (.cell 1) (.l 5) (.sub (.list [.l 8,.bin .Add (.l 7) (.l 8),.bin .Add (.l 8) (.l 7)]) (.bin .FloorDiv (.l 6) (.i 12)))],.asg (.l 9) (.rf (.cmp (.bin .Mod (.l 2) (.i 2)) [.Eq] [.i 1]) (.mt .replace (.mt .replace (.mt .replace (.l 0) [.k (.qu "fl"),.k (.qu "ﬂ")]) [.k (.qu "rs"),.k (.qu "₨")]) [.k (.qu "st"),.k (.qu "ﬆ")]) (.l 0)),.asg (.cell 2) (.mt .join (.k (.qu "")) [.comp (.mt .get (.cell 1) [.l 0,.l 0]) [.l 0] [.l 9] [[]] 1 0]),.asg (.cell 3) (.comp (.g 74 [.l 0]) [.l 0] [.cell 2] [[]] 1 0),.asg (.l 10) (.comp (.g 120 [.sub (.cell 2) (.l 0)]) [.l 0] [.bf .range [.bf .len [.cell 2]]] [[.cmp (.sub (.cell 3) (.l 0)) [.Is] [.k (.bool false)]]] 1 0),.ret (.rf (.cmp (.comp (.cmp (.l 0) [.Is] [.k (.bool true)]) [.l 0] [.cell 3] [[]] 1 0) [.Eq] [.comp (.cmp (.bf .ord [.l 0]) [.In] [.cell 0]) [.l 0] [.cell 2] [[]] 1 0]) (.mt .join (.k (.qu "")) [.l 10]) (.k (.qu "")))]
def f23:Fn:=⟨k23,fN 23,[.l 0,.l 1,.l 2],.inl Y_⟩
def k24:K:=kk 24 189
def x24:List XS:=[.asg (.cell 1) (.lam Mh []),.setAttr (.cell 1) "tag" (.cell 0),.setAttr (.cell 1) "attrib" (.l 0),.setAttr (.cell 1) "tail" (.mt .get (.l 0) [.k (.qu "tail")]),.setAttr (.cell 1) "kids" (.new (.list [])),.setAttr (.cell 1) "append" (.attr (.attr (.cell 1) "kids") "append"),.setAttr (.cell 1) "makeelement" (.k (.con (.ref 190))),.setAttr (.cell 1) "itertext" (.lam xK [("tag",0),("one",1)]),.ret (.cell 1)]
def f24:Fn:=⟨k24,fN 24,[.cell 0,.l 0],.inl x24⟩
def k25:K:=kk 25 196
def Y9:List XS:=[.asg (.tup [.l 6,.l 7,.l 8]) (.tup [.new (.list []),.new (.list [.g 190 [.k (.qu ""),.dict [] []]]),.new (.list [])]),.uZ (.l 9) (.bf .range [.bf .len [.l 1]]) [.asg (.tup [.l 10,.l 11]) (.tup [.rf (.cmp (.l 9) [.Gt] [.i 0]) (.k (.qu "&")) (.l 5),.dict [.k (.qu "tail"),.k (.qu "own")] [.k (.qu "?"),.sub (.l 1) (.l 9)]]),.uZ (.l 12) (.bf .range [.sub (.l 3) (.l 9)]) [.asg (.l 10) (.call (.l 4) [.l 10] [] [])],.expr (.mt .append (.l 7) [.call (.k (.con (.ref 129))) [.sub (.l 7) (.bin .Add (.sub (.l 2) (.l 9)) (.i 1)),.sub (.l 0) (.bin .Add (.sub (.l 1) (.l 9)) (.i 3)),.l 11] ["tail"] [.l 10]]),.expr (.mt .append (.l 8) [.and [.cmp (.attr (.sub (.l 7) (.un .USub (.i 1))) "attrib") [.Eq] [.dict [.k (.qu "tail"),.k (.qu "own")] [.l 10,.sub (.l 1) (.l 9)]],.cmp (.l 11) [.Eq] [.dict [.k (.qu "tail"),.k (.qu "own")] [.k (.qu "?"),.sub (.l 1) (.l 9)]]]])],.ret (.rf (.and [.cmp (.g 136 [.attr (.l 6) "append",.sub (.l 7) (.i 1)]) [.Is] [.k .none],.cmp (.l 8) [.Eq] [.bin .Mult (.list [.k (.bool true)]) (.bf .len [.l 1])]]) (.mt .join (.k (.qu "")) [.l 6]) (.k (.qu "")))]
def f25:Fn:=⟨k25,fN 25,[.l 0,.l 1,.l 2,.l 3,.l 4,.l 5],.inl Y9⟩
def k26:K:=kk 26 203
def Y8:List XS:=[.asg (.tup [.l 2,.l 3,.l 4,.l 5,.l 6]) (.tup [.new (.list []),.new (.list []),.new (.list []),.new (.list []),.i 0]),.uZ (.l 7) (.l 0) [.rf (.cmp (.l 7) [.In] [.l 1]) [.expr (.mt .append (.l 3) [.rf (.l 5) (.sub (.l 5) (.un .USub (.i 1))) (.un .USub (.i 1))]),.expr (.mt .append (.l 5) [.bf .len [.l 2]]),.expr (.mt .append (.l 2) [.bin .Sub (.mt .index (.l 1) [.l 7]) (.i 3)]),.expr (.mt .append (.l 4) [.i 0])] [.rf (.cmp (.l 7) [.Eq] [.k (.qu "&")]) [.asg (.l 6) (.mt .pop (.l 5) [])] [.rf (.cmp (.l 7) [.Eq] [.k (.qu ";")]) [.uD (.l 4) (.l 6) .Add (.i 1)] []]]],.ret (.tup [.l 2,.l 3,.l 4,.l 5])]
def f26:Fn:=⟨k26,fN 26,[.l 0,.l 1],.inl Y8⟩
def k27:K:=kk 27 210
def Y7:List XS:=[.asg (.tup [.l 2,.l 3]) (.tup [.new (.list []),.list []]),.uZ (.l 4) (.bf .range [.l 0]) [.asg (.l 3) (.rf (.l 3) (.C4 (.l 3) (.k .none) (.bin .Add (.i 1) (.bin .Mod (.bin .FloorDiv (.l 1) (.bin .Pow (.i 12) (.l 4))) (.bf .len [.l 3])))) (.list [])),.expr (.mt .append (.l 2) [.rf (.l 3) (.sub (.l 3) (.un .USub (.i 1))) (.un .USub (.i 1))]),.asg (.l 3) (.bin .Add (.l 3) (.list [.l 4]))],.ret (.l 2)]
def f27:Fn:=⟨k27,fN 27,[.l 0,.l 1],.inl Y7⟩
def k28:K:=kk 28 215
def Y6:List XS:=[.asg (.tup [.l 0,.cell 5]) (.tup [.i 0,.comp (.l 0) [.l 0] [.bf .range [.cell 3,.bf .len [.cell 0]]] [[.cmp (.sub (.cell 1) (.l 0)) [.GtE] [.cell 3]]] 1 0]),.uZ (.cell 6) (.bf .range [.bin .Pow (.i 2) (.bf .len [.cell 5])]) [.asg (.l 1) (.comp (.sub (.cell 5) (.l 0)) [.l 0] [.bf .range [.bf .len [.cell 5]]] [[.cmp (.bin .Mod (.bin .FloorDiv (.cell 6) (.bin .Pow (.i 2) (.l 0))) (.i 2)) [.Eq] [.i 1]]] 1 0),.asg (.cell 7) (.bin .Add (.l 1) (.comp (.sub (.cell 1) (.l 0)) [.l 0] [.l 1] [[]] 1 0)),.rf (.cmp (.bf .set [.cell 7]) [.Eq] [.bf .len [.cell 7]]) [.asg (.l 2) (.i 1),.uZ (.l 3) (.bin .Add (.comp (.un .USub (.bin .Pow (.sub (.cell 2) (.l 0)) (.i 2))) [.l 0] [.l 1] [[]] 1 0) (.comp (.bin .Sub (.cell 4) (.sub (.cell 0) (.l 0))) [.l 0] [.bf .range [.cell 3,.bf .len [.cell 0]]] [[.cmp (.l 0) [.NotIn] [.cell 7]]] 1 0)) [.aug (.l 2) .Mult (.l 3)],.aug (.l 0) .Add (.l 2)] []],.ret (.l 0)]
def f28:Fn:=⟨k28,fN 28,[.cell 0,.cell 1,.cell 2,.cell 3,.cell 4],.inl Y6⟩
def k29:K:=kk 29 222
def Y5:List XS:=[.asg (.l 3) (.new (.list [])),.uZ (.l 4) (.bf .range [.l 2]) [.asg (.tup [.l 0,.l 5]) (.g 56 [.l 0,.l 1]),.rf (.un .Not (.or [.cmp (.i 0) [.LtE,.Lt] [.l 5,.l 1],.cmp (.l 1) [.Lt,.LtE] [.l 5,.i 0]])) [.ret (.list [.i 0])] [],.rf (.cmp (.bin .Mult (.i 2) (.bf .abs [.l 5])) [.Gt] [.bf .abs [.l 1]]) [.asg (.tup [.l 0,.l 5]) (.tup [.bin .Add (.l 0) (.i 1),.bin .Sub (.l 5) (.l 1)])] [],.expr (.mt .append (.l 3) [.l 5])],.ret (.rf (.cmp (.l 0) [.Eq] [.i 0]) (.l 3) (.list [.i 0]))]
def f29:Fn:=⟨k29,fN 29,[.l 0,.l 1,.l 2],.inl Y5⟩
def k30:K:=kk 30 227
def Y2:List XS:=[.asg (.cell 0) (.comp (.cmp (.l 0) [.Gt] [.i 0]) [.l 0] [.l 0] [[.cmp (.l 0) [.NotEq] [.i 0]]] 1 0),.ret (.bf .len [.comp (.i 1) [.l 0] [.bf .range [.i 1,.bf .len [.cell 0]]] [[.cmp (.sub (.cell 0) (.l 0)) [.NotEq] [.sub (.cell 0) (.bin .Sub (.l 0) (.i 1))]]] 1 0])]
def f30:Fn:=⟨k30,fN 30,[.l 0],.inl Y2⟩
def k31:K:=kk 31 232
def Vp:XS:=.asg (.tup [.l 3,.l 4,.l 5,.l 6]) (.tup [.new (.comp (.tup [.bin .Sub (.l 0) (.cell 0),.i 1]) [.l 0] [.l 0] [[]] 1 0),.new (.bin .Mult (.list [.i 0]) (.bf .len [.l 0])),.new (.list [.i 0,.i 0,.i 0]),.list []])
def Y1:List XS:=[Vp,.uZ (.l 7) (.bf .range [.bin .Sub (.bf .len [.l 0]) (.i 1),.un .USub (.i 1),.un .USub (.i 1)]) [.asg (.tup [.l 6,.tup [.l 8,.l 9]]) (.tup [.bf .list [.l 5],.sub (.l 3) (.l 7)]),.rf (.cmp (.sub (.l 4) (.l 7)) [.Gt] [.i 0]) [.asg (.l 5) (.new (.list [.bin .Add (.sub (.l 5) (.i 0)) (.i 1),.bin .Add (.sub (.l 5) (.i 1)) (.i 1),.bin .Sub (.sub (.l 5) (.i 2)) (.i 1)]))] [.rf (.cmp (.l 8) [.Eq] [.i 0]) [.uD (.l 5) (.i 2) .Add (.i 1),.uD (.l 4) (.sub (.l 1) (.l 7)) .Add (.rf (.cmp (.sub (.l 2) (.l 7)) [.NotEq] [.i 0]) (.i 1) (.i 0))] [.uD (.l 5) (.rf (.cmp (.bin .Mult (.l 8) (.l 9)) [.Gt] [.i 0]) (.i 0) (.i 1)) .Add (.i 1),.asg (.tup [.l 10,.l 11]) (.sub (.l 3) (.sub (.l 1) (.l 7))),.rf (.cmp (.sub (.l 2) (.l 7)) [.NotEq] [.i 0]) [.wj (.l 3) (.sub (.l 1) (.l 7)) (.tup [.bin .Sub (.bin .Mult (.l 10) (.l 8)) (.bin .Mult (.bin .Mult (.bin .Pow (.sub (.l 2) (.l 7)) (.i 2)) (.l 9)) (.l 11)),.bin .Mult (.l 11) (.l 8)])] []]]],.ret (.tup [.l 5,.l 6])]
def f31:Fn:=⟨k31,fN 31,[.l 0,.l 1,.l 2,.cell 0],.inl Y1⟩
def k32:K:=kk 32 237
def Vo:XS:=.asg (.cell 0) (.comp (.rf (.cmp (.l 0) [.Gt] [.i 0]) (.bin .Mod (.l 0) (.bin .Pow (.i 10) (.i 12))) (.un .USub (.bin .Mod (.un .USub (.l 0)) (.bin .Pow (.i 10) (.i 12))))) [.l 0] [.C4 (.l 0) (.k .none) (.i 60)] [[]] 1 0)
def Vn:XS:=.asg (.tup [.cell 2,.l 1,.l 2,.l 3]) (.tup [.bin .Add (.i 2) (.bin .Mod (.sub (.cell 1) (.i 0)) (.i 4)),.k (.qu "fhklrst"),.sub (.cell 1) (.i 3),.sub (.list [.k (.qu "&"),.k .none,.k (.qu "")]) (.bin .Mod (.bin .FloorDiv (.sub (.cell 1) (.i 5)) (.i 60)) (.i 3))])
def Vl:XS:=.asg (.l 4) (.sub (.list [.k (.con (.ref 150)),.k (.con (.ref 157)),.k (.con (.ref 164)),.k (.con (.ref 171)),.k (.con (.ref 178))]) (.bin .Mod (.bin .FloorDiv (.sub (.cell 1) (.i 0)) (.i 4)) (.i 5)))
def Vk:XS:=.asg (.tup [.cell 3,.cell 4]) (.tup [.comp (.bin .Sub (.bin .Mod (.bin .FloorDiv (.sub (.cell 1) (.i 1)) (.bin .Pow (.i 7) (.l 0))) (.i 7)) (.i 3)) [.l 0] [.bf .range [.cell 2]] [[]] 1 0,.g 211 [.cell 2,.bin .FloorDiv (.sub (.cell 1) (.i 2)) (.i 256)]])
def Vj:XS:=.asg (.cell 5) (.bin .Add (.list [.i 0]) (.comp (.bin .Mod (.bin .FloorDiv (.sub (.cell 1) (.i 2)) (.bin .Pow (.i 4) (.l 0))) (.i 4)) [.l 0] [.bf .range [.bin .Sub (.cell 2) (.i 1)]] [[]] 1 0))
def Vi:XS:=.asg (.l 5) (.g 197 [.l 1,.cell 3,.cell 4,.cell 5,.l 4,.l 3])
def Vh:XS:=.rf (.or [.cmp (.call (.l 4) [.l 5] [] []) [.NotEq] [.mt .replace (.l 5) [.k (.qu "&"),.k (.qu "&amp;")]],.cmp (.g 183 [.l 5,.l 1,.sub (.cell 1) (.i 4)]) [.NotEq] [.l 5],.cmp (.g 204 [.l 5,.l 1]) [.NotEq] [.tup [.cell 3,.cell 4,.cell 5,.rf (.cmp (.l 3) [.Eq] [.k (.qu "&")]) (.list []) (.list [.i 0])]]]) [.ret (.k (.bool false))] []
def Vg:XS:=.asg (.l 6) (.bin .Add (.bin .Add (.bin .Add (.i 32) (.bin .Mult (.i 6) (.mt .yf (.bf .abs [.l 2]) []))) (.bin .Mod (.sub (.cell 1) (.i 5)) (.i 60))) (.rf (.cmp (.bin .Mod (.bin .FloorDiv (.sub (.cell 1) (.i 5)) (.i 180)) (.i 16)) [.Eq] [.i 5]) (.i 4000) (.i 0)))
def Vf:XS:=.asg (.tup [.l 7,.l 8]) (.tup [.bin .Pow (.i 2) (.l 6),.g 233 [.cell 3,.cell 4,.cell 5,.l 2]])
noncomputable def Pu:XS:=.asg (.l 13) (.bf .max [.comp (.bin .Add (.bin .Add (.sub (.cell 4) (.cell 0)) (.sub (.cell 6) (.cell 0))) (.bf .sum [.comp (.sub (.cell 6) (.l 0)) [.l 0] [.bf .range [.cell 3]] [[.cmp (.sub (.cell 5) (.l 0)) [.Eq] [.cell 0]]] 1 0])) [.cell 0] [.bf .range [.cell 2]] [[]] 0 1])
def Pt:XS:=.ret (.cmp (.g 35 [.g 216 [.cell 3,.cell 4,.cell 5,.i 0,.bin .Add (.l 7) (.l 13)],.l 6]) [.Eq] [.g 223 [.g 216 [.cell 3,.cell 4,.cell 5,.i 0,.l 7],.bin .Sub (.l 7) (.l 13),.bin .Add (.cell 2) (.i 1)]])
def Y0:List XS:=[Vo,.asg (.cell 1) (.comp (.bin .Add (.l 1) (.bf .sum [.comp (.sub (.cell 0) (.l 0)) [.l 0] [.bf .range [.l 0,.bf .len [.cell 0],.i 6]] [[]] 1 0])) [.tup [.l 0,.l 1]] [.enum (.tup [.i 14,.i 2293,.i 36905,.i 1,.i 31415,.i 7])] [[]] 2 0),Vn,Vl,Vk,Vj,Vi,Vh,Vg,Vf,.uZ (.l 9) (.tup [.i 0,.i 1]) [.asg (.l 10) (.g 216 [.cell 3,.cell 4,.cell 5,.l 9,.l 7]),.asg (.tup [.l 11,.l 12]) (.tup [.g 223 [.l 10,.bin .Sub (.l 7) (.l 2),.bin .Sub (.bin .Add (.cell 2) (.i 1)) (.l 9)],.g 223 [.l 10,.bin .Sub (.l 2) (.l 7),.bin .Sub (.bin .Add (.cell 2) (.i 1)) (.l 9)]]),.rf (.or [.cmp (.sub (.l 11) (.un .USub (.i 1))) [.NotEq] [.i 1],.cmp (.bin .Pow (.sub (.l 12) (.un .USub (.i 1))) (.i 2)) [.NotEq] [.i 1],.cmp (.list [.g 228 [.l 11],.g 228 [.l 12],.mt .index (.comp (.cmp (.l 0) [.Eq] [.i 0]) [.l 0] [.l 11] [[]] 1 0) [.k (.bool false)]]) [.NotEq] [.sub (.l 8) (.l 9)]]) [.ret (.k (.bool false))] [],.rf (.cmp (.g 42 [.l 11,.l 6]) [.NotEq] [.g 216 [.cell 3,.cell 4,.cell 5,.l 9,.bin .Add (.l 7) (.l 2)]]) [.ret (.k (.bool false))] []],Pu,Pt]
def f32:Fn:=⟨k32,fN 32,[.l 0],.inl Y0⟩
noncomputable def ab3:List (ba×aj):=["len","sum","chr","ord","max","abs","divmod","range","list","set","reversed","enumerate"].filterMap λ(f:String)=>let p:ba:=az f;(bootBuiltins p).map λs=>(p,s)
def g0:Glob:={ top:=NZ.map λb=>(b.1,b.2.2),blt:=ab3,CA:=Qj,vals:=[("b3_exceptions",b3V)] }
noncomputable def rQ (c:Nat)(a:List V)(f:List ba)(j:List V):Option (List V):=if f=[]/\j.length=0/\a.length=c then Y a else N
noncomputable def subB (a:List V)(f:List ba)(j:List V):Option (List V):=if f.length=j.length/\(f=[]\/f=[az "tail"]) then match a with
 |[k,L]=>Y [k,L,.ru [] [],.ru (f.map .str) j]|[k,L,A]=>if f=[] then N else Y [k,L,A,.ru (f.map .str) j]
 |_=>N else N
def t32:rL:=⟨238,f32,rQ 1,true,[]⟩
def t31:rL:=⟨233,f31,rQ 4,true,["parts","nought","counts"]⟩
def t30:rL:=⟨228,f30,rQ 1,true,[]⟩
def t29:rL:=⟨223,f29,rQ 3,true,["figures"]⟩
def t28:rL:=⟨216,f28,rQ 5,true,[]⟩
def t27:rL:=⟨211,f27,rQ 2,true,["above"]⟩
def t26:rL:=⟨204,f26,rQ 2,true,["own","above","ties","path"]⟩
def t25:rL:=⟨197,f25,rQ 6,true,["page","made","kept"]⟩
def t24:rL:=⟨190,f24,rQ 2,false,["kids"]⟩
def t23:rL:=⟨183,f23,rQ 3,true,["forms"]⟩
def t21:rL:=⟨178,f21,rQ 1,true,[]⟩
def t20:rL:=⟨171,f20,rQ 1,true,[]⟩
def t19:rL:=⟨164,f19,rQ 1,true,[]⟩
def t18:rL:=⟨157,f18,rQ 1,true,[]⟩
def t17:rL:=⟨150,f17,rQ 1,true,[]⟩
def t15:rL:=⟨136,f15,rQ 2,false,[]⟩
def Zn:rL:=⟨129,f14,subB,false,[]⟩
def Zo:rL:=⟨120,f12,rQ 1,true,[]⟩
def t7:rL:=⟨56,f7,rQ 2,true,[]⟩
def t6:rL:=⟨49,f6,rQ 2,true,["q_digits"]⟩
def t5:rL:=⟨42,f5,rQ 2,false,[]⟩
def t4:rL:=⟨35,f4,rQ 2,true,["a_digits"]⟩
def t3:rL:=⟨28,f3,rQ 6,true,[]⟩
def t2:rL:=⟨21,f2,rQ 3,true,[]⟩
def zD:List rL:=[t32,t31,t30,t29,t28,t27,t26,t25,t24,t23,t21,t20,t19,t18,t17,t15,Zn,Zo,t7,t6,t5,t4,t3,t2]
noncomputable def Fu:List Int:=[65024,65025,65026,65027,65028,65029,6150,65030,65031,65032,65033,6155,6156,6157,8203,8204,8205,65034,65035,65036,65037,65038,65039,173,847,8288,65279]
def HJ (p:ba):Option V:=match p.cps.toList with
 |[c]=>Y (.bool (Fu.contains (c:Int)))|_=>N
def VF (a:List V):Option V:=match a with
 |[.str p]=>HJ p|_=>N
def zI (v:bK)(a:List V):Option V:=if v=74 then VF a else N
def qz (c:Nat):vC:=Vm.Ot g0 [] zD zI c
end L1
end
noncomputable section
namespace PySem.Sem
theorem NU (T:Model)(t){b:aj->dB->ay->Prop}{U:ay}(e:U.heap.get? v=Y ⟨.type "dict",N,.dict #[] n,#[]⟩)(L:Unit->dB->ay->Prop)(h:∀k,k.get? v=Y ⟨.type "dict",N,.dict #[⟨fV T.w.params q,.str q U.toks,I⟩]<|n+1,#[]⟩->fg v U.heap k->L () p { U with heap:=k,toks:=U.toks+1 }):wp T t (nsSet v q I) L b p U:=by
 simp only[nsSet,strHash,wp_bind',wp_cmd_ask,wp_pure',wp_cmd_mkText];refine Q (wp_loadPart_of T t b p { U with toks:=U.toks+1 } _ e ..) ⟨Q e rfl,h _ (d9 _ e rfl |>.trans ?_)<|cT ..⟩;rfl
end PySem.Sem
namespace L1
open uK
open Vm
theorem Xj {L:Model}{q:Unit->ay->Prop}{d:aj->ay->Prop}{U:ay}(e:U.heap.get? v=Y ⟨.type "dict",N,.dict #[] n,#[]⟩)(h:∀k,k.get? v=Y ⟨.type "dict",N,.dict #[⟨fV L.w.params p,.str p U.toks,I⟩]<|n+1,#[]⟩->fg v U.heap k->q () { U with heap:=k,toks:=U.toks+1 }):wpAny L T (nsSet v p I) q d U:=λt f J=>gH.NU L t e _ h
section
variable {i:Model}{A:Around}{w x2 x3:aj}{g:List (ba×aj)->ay->Prop}{E:aj->ay->Prop}{s:ay}
def KX (n:FuncData):Prop:=∃I e h c f L T v a,n.params=⟨[],[⟨"parent",I,e⟩,⟨"tag",h,c⟩,⟨"attrib",f,L⟩],N,[],[],Y ⟨"extra",T,v⟩,a⟩/\n.defaults=.ref 122
theorem Ga {h:Option (Array aj)->gH (List<|ba×aj)}(U:s.heap.get? 122=Y ⟨.type "tuple",N,.seq #[.ref 121] 0,#[]⟩)(d:wpAny i A (h<|Y #[.ref 121]) g E s):wpAny i A (seqItems? (.ref 122)>>=h) g E s:=af<|af<|kQ U<|wpAny_pure d
theorem ab5 {o:FuncData}(p:KX o) (q:s.heap.get? 122=Y ⟨.type "tuple",N,.seq #[.ref 121] 0,#[]⟩) (d:wpAny i A (ph ⟨.type "dict",N,.dict #[] 0,#[]⟩) (λv t=>g [(az "parent",w),(az "tag",x2),(az "attrib",.ref 121),(az "extra",.ref v)] t) E s):wpAny i A (iI o ⟨[w,x2],[]⟩) g E s:=by obtain ⟨_,_,_,_,_,_,_,_,_,_,_,_,_⟩:=o;obtain ⟨I,e,h,c,f,L,T,U,a,k,n⟩:=p;subst k n;exact Ga q (af<|wpAny_mono d (λv t d=>wpAny_pure d) λJ J d=>d:wpAny i A (ph _>>=_) g E s)
theorem Yq {o:FuncData}(p:KX o) {h:aj}(j:s.heap.get? 122=Y ⟨.type "tuple",N,.seq #[.ref 121] 0,#[]⟩) (d:wpAny i A (ph ⟨.type "dict",N,.dict #[] 0,#[]⟩) (λv t=>wpAny i A (nsSet v (az "tail") h) (λJ=>g [(az "parent",w),(az "tag",x2),(az "attrib",.ref 121),(az "extra",.ref v)]) E t) E s):wpAny i A (iI o ⟨[w,x2],[(az "tail",h)]⟩) g E s:=by
 obtain ⟨_,_,_,_,_,_,_,_,_,_,_,_,_⟩:=o;obtain ⟨I,e,k,c,f,L,T,U,a,q,n⟩:=p;subst q n;refine Ga j (?_:wpAny i A (ph _>>=_) g E s);refine af<|wpAny_mono d (λv t d=>(?_:wpAny i A (((nsSet v (az "tail") h>>=λJ=>pure _)>>=_)>>=_) g E t)) λJ J d=>d
 exact af<|af<|af<|wpAny_mono d (λJ b d=>wpAny_pure<|wpAny_pure<|wpAny_pure d) λJ J d=>d
theorem Yp {o:FuncData}(p:KX o) {I:aj}(j:s.heap.get? 122=Y ⟨.type "tuple",N,.seq #[.ref 121] 0,#[]⟩) (d:wpAny i A (ph ⟨.type "dict",N,.dict #[] 0,#[]⟩) (λv t=>wpAny i A (nsSet v (az "tail") I) (λJ=>g [(az "parent",w),(az "tag",x2),(az "attrib",x3),(az "extra",.ref v)]) E t) E s):wpAny i A (iI o ⟨[w,x2,x3],[(az "tail",I)]⟩) g E s:=by
 obtain ⟨_,_,_,_,_,_,_,_,_,_,_,_,_⟩:=o;obtain ⟨T,e,h,c,f,L,U,b,a,k,n⟩:=p;subst k n;refine Ga j (?_:wpAny i A (ph _>>=_) g E s);refine af<|wpAny_mono d (λv t d=>(?_:wpAny i A (((nsSet v (az "tail") I>>=λJ=>pure _)>>=_)>>=_) g E t)) λJ J d=>d
 exact af<|af<|af<|wpAny_mono d (λJ q d=>wpAny_pure<|wpAny_pure<|wpAny_pure d) λJ J d=>d
end
theorem P' (k:fP):k.get? k.objs.size=N:=by
 cases e:k.get? k.objs.size with
 |none=>rfl|some I=>exact absurd (bR e)<|b9 _
theorem SJ (e:subB a kn kv=Y y):(kn.length=kv.length/\(kn=[]\/kn=[az "tail"]))/\((∃k L,a=[k,L]/\y=[k,L,.ru [] [],.ru (kn.map .str) kv])\/∃k L I,a=[k,L,I]/\kn≠[]/\y=[k,L,I,.ru (kn.map .str) kv]):=by
 refine qX e λt e=>⟨t,?_⟩
 cases a with
 |nil=>exact nS e|cons k a=>cases a with
  |nil=>exact nS e|cons L a=>cases a with
   |nil=>exact .inl<|wy k L rfl<|(ae e).symm
   |cons I a=>cases a with
    |nil=>exact rX e λT e=>.inr<|Ed k L I rfl T<|(ae e).symm
    |cons J W=>exact nS e
section
variable {fd:FuncData}(x:KX fd) (j:C.tG 122=Y ⟨.type "tuple",N,.seq #[.ref 121] 0,#[]⟩) {A:Around}{W:Wd}{G:List O}{z:List aj}{w x2 x3:aj}(H:qY C G W) {y:List V}
 {g:List (ba×aj)->ay->Prop}{E:aj->ay->Prop}(hq:∀(u:Wd)(r:List<|ba×aj),Pext0 C W u->(r.map (·.1)=[az "parent",az "tag",az "attrib",az "extra"]/\qG C u y (r.map (·.2)))->g r u.s)
include x j H hq
theorem SG (t:z=[w,x2]/\x3=.ref 121)(n:∀u,W.le u->∀v,qw C u (.ru [] []) (.ref v)->qG C u y [w,x2,x3,.ref v]):wpAny (model C.prog C.w) A (iI fd ⟨z,[]⟩) g E W.s:=by
 obtain ⟨rfl,rfl⟩:=t;refine ab5 x (H.I _ _<|H.top _ _ j)<|j5 ?_
 have I:=Pext0.DH ⟨.type "dict",N,.dict #[] 0,#[]⟩ rfl W.s.toks H.sF;exact hq ⟨W.G.vr W.s.heap.objs.size ⟨.type "dict",N,.dict #[] 0,#[]⟩,W.σ,_⟩ _ I ⟨rfl,n _ I.le _<|.ru (Gm.rP _ _ _) .nil .nil⟩
theorem SF (o:z=[w,x2,x3]\/(z=[w,x2]/\x3=.ref 121)) {k:V}{I:aj}(p:qw C W k I) (t:∀u,W.le u->∀v,qw C u (.ru [.str<|az "tail"] [k]) (.ref v)->qG C u y [w,x2,x3,.ref v]):wpAny (model C.prog C.w) A (iI fd ⟨z,[(az "tail",I)]⟩) g E W.s:=by
 have d:wpAny (model C.prog C.w) A (ph ⟨.type "dict",N,.dict #[] 0,#[]⟩) (λv U=>wpAny (model C.prog C.w) A (nsSet v (az "tail") I) (λJ=>g [(az "parent",w),(az "tag",x2),(az "attrib",x3),(az "extra",.ref v)]) E U) E W.s:=by
  refine j5<|Xj (bb _ rfl) λL T a=>?_
  have b:=Pext0.frz (s':={ W.s with heap:=L,toks:=W.s.toks+1 }) (λq c n=>(a.2 q<|cy<|bR n).trans<|aY _ n) T (P' _) H.sF rfl rfl;exact hq ⟨_,W.σ,{ W.s with heap:=L,toks:=W.s.toks+1 }⟩ _ b ⟨rfl,t _ b.le _<|.ru (Gm.rP _ _ _) (mG _ _)<|.str rfl (qw.mono p b.le) .nil⟩
 exact o.elim (λn=>Q n<|Yp x (H.I _ _<|H.top _ _ j) d) λn=>by obtain ⟨rfl,rfl⟩:=n;exact Yq x (H.I _ _<|H.top _ _ j) d
theorem LD {d:List V}(p:(z=[w,x2,x3]/\kn≠[])\/(z=[w,x2]/\x3=.ref 121))(Q4:kn.length=d.length)(n:kn=[]\/kn=[az "tail"])(U:qG C W d ks)(q:∀u,W.le u->∀v,qw C u (.ru (kn.map .str) d) (.ref v)->qG C u y [w,x2,x3,.ref v]):wpAny (model C.prog C.w) A (iI fd ⟨z,kn.zip ks⟩) g E W.s:=by
 refine gk λo I=>?_
 rcases n with e|e
 .have L:d=[]:=cP.mp<|Q4.symm.trans<|qo jP e
  rw[L] at U
  revert q;refine Q e<|Q L ?_;intro q
  exact I<|Q e<|Q U.inv<|SG x j H hq (p.resolve_left λt=>t.2 e) q
 .obtain ⟨T,L⟩:=List.length_eq_one_iff.mp (Q4.symm.trans<|qo jP e);rw[L] at U
  obtain ⟨a,b,U.inv,c,f⟩:=U.inv;revert q;refine Q e<|Q L ?_;intro q
  exact I<|Q e<|Q U.inv<|Q f.inv<|SF x j H hq (p.imp_left λt=>t.1) c q
end
theorem SH {p:FuncData}(x:KX p)
  (j:C.tG 122=Y ⟨.type "tuple",N,.seq #[.ref 121] 0,#[]⟩) (I:C.tG 121=Y ⟨.type "dict",N,.dict #[] 0,#[]⟩) (as:List V) (f:List ba) (L y:List V) (n:subB as f L=Y y) :
  wx C p as f L [az "parent",az "tag",az "attrib",az "extra"] y:=λA W G z b H U d=>q8.mk λg E hq=>by
 refine gk λo e=>?_
 obtain ⟨⟨Q4,hc2⟩,n⟩:=SJ n;rcases n with ⟨k,t,ea,c⟩|⟨k,t,a,ea,en,c⟩
 .revert U;refine Q ea ?_;intro U;obtain ⟨c1,l1,q1,r1,U⟩:=U.inv;obtain ⟨c2,q,q2,r2,U⟩:=U.inv;have q3:q=[]:=U.inv;exact e<|LD x j H hq (.inr ⟨by refine Q q1<|Q q2<|Q q3 rfl,rfl⟩) Q4 hc2 d λu T v r=>Q c<|.cons (qw.mono r1 T)<|.cons (qw.mono r2 T)<|.cons (.ru (T.G.I _ _<|H.top _ _ I) .nil .nil)<|.cons r .nil
 .rw[ea] at U
  obtain ⟨c1,l1,q1,r1,U⟩:=U.inv;obtain ⟨c2,q,q2,r2,U⟩:=U.inv;obtain ⟨h,l3,q3,r3,U⟩:=U.inv;exact e<|LD x j H hq (.inl ⟨by refine Q q1<|Q q2<|Q q3<|Q U.inv rfl,en⟩) Q4 hc2 d λu T v r=>Q c<|.cons (qw.mono r1 T)<|.cons (qw.mono r2 T)<|.cons (qw.mono r3 T)<|.cons r .nil
end L1
end
noncomputable section
namespace L1
open uK
open Vm
section
variable {d:Nat}
theorem ae7:∃e c L v G u,CP (s_ 10)=.stmts [.Return (Y<|.Compare (.Call (.Name (az "ord") e) [.Name (az "code") c] [] L) [.In] [.Name (az "b1_set") v] G) u]:=⟨⟨79,11,79,14⟩,⟨79,15,79,19⟩,⟨79,11,79,20⟩,⟨79,24,79,30⟩,⟨79,11,79,30⟩,⟨79,4,79,30⟩,by kernel_rfl⟩
def b1P:List<|Int×Nat:=Fu.zip [287,288,289,290,291,292,273,293,294,295,296,274,275,276,277,278,279,297,298,299,300,301,302,271,272,280,281]
def acq:List<|Int×aj:=b1P.map λb=>(b.1,.int b.1 b.2)
theorem adR (T):∃c a,oB T=⟨.type "set",N,.set acq.toArray c a,#[]⟩/\a.fits 27=true:=wy _ _ rfl rfl
theorem U3:(b1P.all λb=>qf b.1==b.1)=true:=rfl
theorem setOf {i:fP}{T:cF}(e:i.get? 64=Y (oB T)):i.SetOf (intKind G n) 64 (λq=>Fu.contains q) 27:=by
 refine zA (adR T) λh a j o=>?_
 have z:Fu=b1P.map (·.1):=rfl;refine ⟨_,acq.toArray,h,a,e,Q j<|rj rfl rfl rfl,by refine Q j rfl,λc f=>?_,λq=>⟨λg=>?_,λf=>?_⟩,by decide,o,rfl⟩
 .refine qt (bZ.mp f) λb I H=>?_;subst H
  exact ⟨qr b.1 (intKind_is _ _ _ _)<|(eq_of_beq<|dz.mp U3 b I).symm,rfl⟩
 .have g:=dF.mp g;rw[z] at g
  refine qt (bZ.mp g) λb I k=>J k ?_;clear k
  exact qr _ (bZ.mpr<|qr b I rfl)<|intKind_is _ _ _ _
 .refine qt f λc f j=>qt (bZ.mp f) λb I L=>?_;subst L
  obtain ⟨x,U⟩:=ox (show aj.isInt q (aj.int b.1 b.2)=true from j);exact dF.mpr<|Q z<|bZ.mpr<|qr b I<|qo (λs:aj=>match s with|.int p W=>p|_=>0) U
theorem Tb (e:HJ s=Y v):∃c,s.cps.toList=[c]/\v=.bool (Fu.contains (c:Int)):=by
 delta HJ at e
 cases i:s.cps.toList with
 |nil=>rw[i] at e;exact nS e
 |cons c l=>
  revert e;refine Q i ?_;intro e
  cases l with
  |nil=>exact qr c rfl<|(ae e).symm
  |cons J W=>exact nS e
theorem Tc (e:VF as=Y v):∃p,as=[.str p]/\HJ p=Y v:=by
 cases as with
 |nil=>exact nS e|cons L l=>cases L with
  |str p=>cases l with
   |nil=>exact qr p rfl e|cons J W=>exact nS e
  |_=>exact nS e
theorem ah8:D9 QP:=⟨rfl,rfl,rfl,by kernel_rfl,by kernel_rfl,by decide +kernel⟩
theorem ae6 {t:FuncData}{P:cF}(abe:C.tG 74=Y o)(hd:o.data=.func t)(n:t.scope=ahj)(z:t.body=CP (s_ 10))(I:t.params=⟨[],(t9<|s_ 10).args,N,[],[],N,[]⟩)(c:t.defaults=.none)(k:t.globals=dg)(hbl:t.builtins=eY)(g:t.qualname="in_table_b1")(U:xX C.tG t.code t.qualname)(hck:t.code=.ref 73)(abf:C.tG 64=Y (oB P))(m1:C.mg "b1_set"=Y (.ref 64))(m2:C.mg "ord"=N)(m3:C.mb "ord"=Y (.builtin "ord"))(b:∀h:fP,(∀x o,C.tG x=Y o->h.get? x=Y o)->h.NoLimit):KY C zI:=by
 intro q a v h;refine qX h λha h=>Q ha ?_;clear ha
 refine qt (Tc h) λp xY h=>Q xY ?_;clear xY
 refine qt (Tb h) λs hc yq=>Q yq ?_;clear yq
 refine ⟨wy o t abe hd,λd A W j f L H hx=>?_⟩;obtain ⟨w,oc,vs',tk,e1,e2,e3,e4⟩:=U;obtain ⟨p1,p2,p3,p4,p5,u,eb⟩:=ae7;replace eb:=z.trans eb;have OO:(t9<|s_ 10).args.map (·.arg)=[az "code"]:=by kernel_rfl
 have te3:TE C d QP [] (.Call (.Name (az "ord") p1) [.Name (az "code") p2] [] p3) ⟨[Y<|.str p],j⟩ (.int s) ⟨[Y<|.str p],j⟩:=TE.bf (C6<|by decide) (TE.glob rfl (.inr ⟨m2,m3⟩) (λW V=>.con _) rfl:TE C d QP [] (.Name (az "ord") p1) ⟨[Y<|.str p],j⟩ (.con<|wA .ord) ⟨[Y<|.str p],j⟩) rfl (.cons (TE.l (i:=0) rfl rfl rfl rfl) .nil) (by
  refine (?_:Oq p=_);delta Oq;refine Q hc rfl)
 have te5:TE C d QP [] (.Compare (.Call (.Name (az "ord") p1) [.Name (az "code") p2] [] p3) [.In] [.Name (az "b1_set") p4] p5) ⟨[Y<|.str p],j⟩ (.bool<|Fu.contains (s:Int)) ⟨[Y<|.str p],j⟩:=
  TE.cmp rfl te3 (λA env W x pos L ha ra=>by
   (refine ra.inv.elim ?_;clear ra;rintro _ rfl)
   refine ⟨λQQq E h=>?_,λQQq E h=>?_⟩
   .rw[evalEach,evalEach];refine chain_last<|(TE.glob rfl (.inl m1) (λW V=>.con _) rfl) A env W L ha _ _ λq9 y T ri G=>?_
    subst G;exact wpAny_inSet_of (intKind_is _ _ _ _) rfl ((λW' l H'=>setOf<|H'.I _ _<|H'.top _ _ abf) q9 T ri.H)<|h ⟨q9.G,q9.σ,_⟩ _ (T.trans (Pext0.toks _).le) (ri.rz<|(Pext0.toks _).strict<|cZ _) rfl
   .rw[evalEach,evalEach];refine test_last<|(TE.glob rfl (.inl m1) (λW V=>.con _) rfl) A env W L ha _ _ λq9 y T ri G=>?_
    subst G;exact wpAny_inSet_of (intKind_is _ _ _ _) rfl ((λW' l H'=>setOf<|H'.I _ _<|H'.top _ _ abf) q9 T ri.H)<|fx<|h ⟨q9.G,q9.σ,_⟩ _ (T.trans (Pext0.toks _).le) (ri.rz<|(Pext0.toks _).strict<|cZ _) rfl)
 refine Cd (cells:=[]) (cs':=[]) (st1:=⟨[Y<|.str p],j⟩) (st2:=⟨[Y<|.str p],j⟩) (tgs:=[.l 0]) L H ((λx o e=>H.I x o<|H.top x o e) _ _ abe) hd (Q n rfl) ah8 k hbl (Q g rfl) (AI w oc vs' tk e1 ((λx o e=>H.I x o<|H.top x o e) _ _ e2) e3 e4) (λx e=>by (refine Vm.sI e ?_;clear e;rintro rfl);exact hck) (λx i e=>Vm.nS e) b (J OO<|wx.plain I c (by refine Q OO ?_;decide +kernel)<|by have:=qo jP OO;simpa using this) hx .nil ?_ ?_ ?_ ?_
 .exact ⟨⟨p1,.l rfl rfl⟩,trivial⟩
 .skip
  rfl
 .have:(j++aw (rb QP.scope).length (O.cell N))=j:=by
   show j++[]=j;simp
  exact Q this rfl
 .exact Q eb<|.inl<|yi.ret<|TS.ret te5
end
theorem Ld (b:ba->Int)(p):∀a:List (ba×Nat×aj),nsFind (a.map λc=>(⟨b c.1,.str c.1 c.2.1,c.2.2⟩:DictEntry)).toArray p=(a.map λc=>(c.1,c.2.2)).lookup p:=by
 intro a;unfold nsFind findBy
 induction a with
 |nil=>rfl|cons c a e=>
  rw[bC,bC,bM];rw[List.find?_toArray,List.find?_cons] at *
  have g:(aj.str c.1 c.2.1).isStr p=(p==c.1):=by show (c.1==p)=(p==c.1);exact Bool.beq_comm ..
  simp only[g]
  cases n:p==c.1 with
  |true=>rfl|false=>exact e
theorem Su (T):(ents (A5 T).2.1).toList=NZ.map λb=>(⟨fV T b.1,.str b.1 b.2.1,b.2.2⟩:DictEntry):=by kernel_rfl
section
variable {w:d7}{s:ay}{d j:ba->Option aj}
theorem A0 (y:Bx w s d j)(p):d p=(NZ.map λb=>(b.1,b.2.2)).lookup p:=by
 obtain ⟨G,a,c,e,i,I,g⟩:=y.g;have n:=y.K 2 3 _ rfl;rw[show dg=3 from rfl,n] at e
 (refine Vm.sI e ?_;clear e;rintro rfl)
 have H:a=ents (A5 w.params).2.1:=by unfold ents;rw[i]
 rw[<- g,H,<-Ld (fV w.params),<-Su]
theorem Sa (y:Bx w s d j)(c:Nat)(e:(KF w.params)[c]?=Y (a,o))(G:a∉sQ):(vO w s d j y).tG a=Y o:=by show I0 s.heap a=_;unfold I0;rw[qn G];exact y.K c a o e
theorem yB (e:C=vO w s d j y)(c:Nat)(i:(KF w.params)[c]?=Y (a,o))(G:a∉sQ):C.tG a=Y o:=(qo (λT:Vm.Ctx=>T.tG a) e).trans (Sa y c i G)
theorem Hb {o:yj}{z:Fn}(e:z.body=.inl xs)(i:(match body with|.stmts f=>F_ g o z.B f|_=>N)=Y xs):zy g o z body:=by
 cases body with
 |stmts f=>unfold zy;rw[e];exact i
 |expr L=>exact Vm.nS i
theorem RS {o:FuncData}(e:o.params=⟨[],as,N,[],[],N,[]⟩)(i:o.defaults=.none)(p:as.map (·.arg)=names)(x:names.Nodup)(z:names.length=n)(q)(u)(G f)(H:rQ n q u G=Y f):wx C o q u G names f:=by
 unfold rQ at H
 split at H
 case isFalse=>exact Vm.nS H
 rename_i U;obtain ⟨rfl,c,k⟩:=U
 (refine Vm.sI H ?_;clear H;rintro rfl)
 rw[cP] at c
 subst c;subst p;exact wx.plain e i x (by rw[k,<-z,ao])
theorem PQ {as:List Arg}(e:as.map (·.arg)=names)(i:qP (λ(x:Arg)=>uf B 5 (.Name x.arg x.pos)) as=Y tgs):zX B names tgs:=e▸Iz i
abbrev ahd (c:Nat)(T:rL):eV×List ba×List ba×Bool×ba×Option aj×Option (List Tg)×Option (List XS)×iD×List ba×Bool×(List XS ⊕ X):=(BZ (s_ c),T.fn.B.slots,T.fn.B.cells,decide ((T.fn.B.scope.names.map (·.1)).Nodup),T.fn.B.qual,T.fn.B.code,qP (λ(x:Arg)=>uf T.fn.B 5 (.Name x.arg x.pos)) (t9 (s_ c)).args,(match CP (s_ c) with|.stmts a=>F_ g0 T.mu T.fn.B a|_=>N),t9 (s_ c),(t9 (s_ c)).args.map (·.arg),decide T.fn.names.Nodup,T.fn.body)
abbrev ahc (c h:Nat)(f:String)(T:rL)(a:List XS):eV×List ba×List ba×Bool×ba×Option aj×Option (List Tg)×Option (List XS)×iD×List ba×Bool×(List XS ⊕ X):=(T.fn.B.scope,slotNames T.fn.B.scope,Cc T.fn.B.scope,true,az f++".<locals>.",Y (.ref h),Y T.fn.tgs,Y a,⟨[],(t9 (s_ c)).args,N,[],[],N,[]⟩,T.fn.names,true,.inl a)
theorem t_ (hC:C=vO w s d j H)(k i)(a){A G t I:Nat}{p:String}{q y:Int}{T:rL}(U:T.fn.B.scope.kind=.function/\T.fn.B.scope.isCoroutine=false/\T.fn.B.scope.isGenerator=false)(e1:(KF w.params)[i+1]?=Y (T.addr,Wh k x .none p t0 c))(ha:T.addr∉sQ)(n:(KF w.params)[i]?=Y (c,Ws x A q b1 b2 b3 y G t u v ww z I))(hc:c∉sQ)(h:ahd k T=ahc k c x T a)(hb:T.bind=rQ T.fn.names.length):∃o fd,CU C g0 T o fd:=
 have h0:=b0 h;have L:=b0 h0.2;have h2:=b0 L.2;have h3:=b0 h2.2;have b:=b0 h3.2;have h5:=b0 b.2;have h6:=b0 h5.2;have h7:=b0 h6.2;have f:=b0 h7.2;have g:=b0 f.2;have Wc:=b0 g.2
 ⟨_,fnD k x 3 .none (.str (az p) t0) (.ref c),⟨yB hC (i+1) e1 ha,rfl,h0.1,⟨U.1,U.2.1,U.2.2,L.1,h2.1,of_decide_eq_true h3.1⟩,rfl,rfl,b.1,⟨c,_,_,_,rfl,yB hC i n hc,rfl,rfl⟩,λc' e=>ae (h5.1.symm.trans e),PQ g.1 h6.1,Hb Wc.2 h7.1,hb▸RS f.1 rfl g.1 (of_decide_eq_true Wc.1) rfl⟩⟩
theorem aeB:D9 k14:=⟨rfl,rfl,rfl,by kernel_rfl,by kernel_rfl,by decide +kernel⟩
theorem aeR:(match CP (s_ 14) with|.stmts a=>F_ g0 [] k14 a|_=>N)=Y Za:=by kernel_rfl
theorem afb:((t9 (s_ 14)).args++(t9 (s_ 14)).kwarg.toList).map (·.arg)=f14.names:=by kernel_rfl
theorem ac1 (e:C=vO w s d j H):∃o p,CU C g0 Zn o p:=by have i:=yB e (a:=129) (o:=Z_) 6 rfl (by decide);have n:=yB e (a:=128) (o:=Z') 5 rfl (by decide);refine ⟨_,_,⟨i,rfl,by kernel_rfl,aeB,rfl,rfl,by kernel_rfl,⟨_,_,_,_,rfl,n,rfl,rfl⟩,λv z=>by (refine Vm.sI z ?_;clear z;rintro rfl);rfl,PQ (as:=((t9 (s_ 14)).args++(t9 (s_ 14)).kwarg.toList)) afb (by kernel_rfl),Hb rfl aeR,SH ⟨_,_,_,_,_,_,_,_,_,rfl,rfl⟩ (yB e 4 rfl (by decide)) (yB e 3 rfl (by decide))⟩⟩
theorem all_cons {o:Type}{b:o->Prop}{G:o}{a:List o}(p:b G)(e:∀c∈a,b c):∀c∈G::a,b c:=cp.mpr ⟨p,e⟩
theorem W8 (e:C=vO w s d j H):∀T∈zD,∃o n,CU C g0 T o n:=all_cons (t_ e 32 60 Y0 ⟨rfl,rfl,rfl⟩ rfl (by decide) rfl (by decide) (by kernel_rfl) rfl) (all_cons (t_ e 31 58 Y1 ⟨rfl,rfl,rfl⟩ rfl (by decide) rfl (by decide) (by kernel_rfl) rfl) (all_cons (t_ e 30 56 Y2 ⟨rfl,rfl,rfl⟩ rfl (by decide) rfl (by decide) (by kernel_rfl) rfl) (all_cons (t_ e 29 54 Y5 ⟨rfl,rfl,rfl⟩ rfl (by decide) rfl (by decide) (by kernel_rfl) rfl) (all_cons (t_ e 28 52 Y6 ⟨rfl,rfl,rfl⟩ rfl (by decide) rfl (by decide) (by kernel_rfl) rfl) (all_cons (t_ e 27 50 Y7 ⟨rfl,rfl,rfl⟩ rfl (by decide) rfl (by decide) (by kernel_rfl) rfl) (all_cons (t_ e 26 48 Y8 ⟨rfl,rfl,rfl⟩ rfl (by decide) rfl (by decide) (by kernel_rfl) rfl) (all_cons (t_ e 25 46 Y9 ⟨rfl,rfl,rfl⟩ rfl (by decide) rfl (by decide) (by kernel_rfl) rfl) (all_cons (t_ e 24 44 x24 ⟨rfl,rfl,rfl⟩ rfl (by decide) rfl (by decide) (by kernel_rfl) rfl) (all_cons (t_ e 23 42 Y_ ⟨rfl,rfl,rfl⟩ rfl (by decide) rfl (by decide) (by kernel_rfl) rfl) (all_cons (t_ e 21 40 x21 ⟨rfl,rfl,rfl⟩ rfl (by decide) rfl (by decide) (by kernel_rfl) rfl) (all_cons (t_ e 20 38 x20 ⟨rfl,rfl,rfl⟩ rfl (by decide) rfl (by decide) (by kernel_rfl) rfl) (all_cons (t_ e 19 36 x19 ⟨rfl,rfl,rfl⟩ rfl (by decide) rfl (by decide) (by kernel_rfl) rfl) (all_cons (t_ e 18 34 x18 ⟨rfl,rfl,rfl⟩ rfl (by decide) rfl (by decide) (by kernel_rfl) rfl) (all_cons (t_ e 17 32 x17 ⟨rfl,rfl,rfl⟩ rfl (by decide) rfl (by decide) (by kernel_rfl) rfl) (all_cons (t_ e 15 28 Y' ⟨rfl,rfl,rfl⟩ rfl (by decide) rfl (by decide) (by kernel_rfl) rfl) (all_cons (ac1 e) (all_cons (t_ e 12 26 x12 ⟨rfl,rfl,rfl⟩ rfl (by decide) rfl (by decide) (by kernel_rfl) rfl) (all_cons (t_ e 7 22 x7 ⟨rfl,rfl,rfl⟩ rfl (by decide) rfl (by decide) (by kernel_rfl) rfl) (all_cons (t_ e 6 20 x6 ⟨rfl,rfl,rfl⟩ rfl (by decide) rfl (by decide) (by kernel_rfl) rfl) (all_cons (t_ e 5 18 x5 ⟨rfl,rfl,rfl⟩ rfl (by decide) rfl (by decide) (by kernel_rfl) rfl) (all_cons (t_ e 4 16 x4 ⟨rfl,rfl,rfl⟩ rfl (by decide) rfl (by decide) (by kernel_rfl) rfl) (all_cons (t_ e 3 14 x3 ⟨rfl,rfl,rfl⟩ rfl (by decide) rfl (by decide) (by kernel_rfl) rfl) (all_cons (t_ e 2 12 x2 ⟨rfl,rfl,rfl⟩ rfl (by decide) rfl (by decide) (by kernel_rfl) rfl) (λJ a=>nomatch a))))))))))))))))))))))))
end
end L1
end
noncomputable section
set_option tactic.hygienic true
open PySem.W.X
namespace L1
open uK
open Vm
theorem R7 {b:Frag}:AllIn h b->∀i:Nat,b[i]?=Y (a,o)->h.get? a=Y o:=by
 induction b with
 |nil=>exact λ_ i e=>nomatch e
 |cons c l f=>exact λx i=>Nat.casesOn i (λe=>by rw[(ae e:c=(a,o))] at x;exact x.1) λi e=>f x.2 i e
section
variable {w:d7}{s:ay}{d j:ba->Option aj}
theorem ad9:∀T,KQ=(KF T).map (·.1):=λT=>rfl
theorem QR {U:cF}:∀{f:List aj}{k:List Int},lE f k->qJ U T I σ (k.map .int) f:=by
 intro f k L
 induction L with
 |nil=>exact .nil|cons q x _ a=>exact .cons (.int _ _) a
theorem lookup_mem {o:Type}{G:o}{a:List<|ba×o}:a.lookup x=Y G->(x,G)∈a:=by
 induction a with
 |nil=>exact λe=>nomatch e
 |cons b a ih=>
  intro e;rw[bM] at e
  cases i:x==b.1 with
  |true=>rw[i] at e;exact Q (beq_iff_eq.mp i)<|J (ae e)<|.head _
  |false=>rw[i] at e;exact .tail _<|ih e
theorem ab2 (e:ab3.lookup x=Y v):bootBuiltins x=Y v/\x≠"__name__":=by
 refine qt (List.mem_filterMap.mp<|lookup_mem e) λf a i=>qt (ck.mp i) λb n z=>?_
 cases z
 exact ⟨n,(by decide +kernel:∀f∈["len","sum","chr","ord","max","abs","divmod","range","list","set","reversed","enumerate"],az f≠az "__name__") f a⟩
noncomputable def tokOf:aj->Nat
 |.int _ x=>x|.str _ x=>x
 |_=>0
def Wl (a:List<|Int×ba)(f:List DictEntry):List DictEntry:=List.zipWith (λb g=>⟨qf b.1,.int b.1<|tokOf g.key,.str b.2<|tokOf g.val⟩) a f
theorem UG {T:cF}(f:List<|Int×ba):∀k:List DictEntry,f.length=k.length->rJ T L t a (f.map λb=>.int b.1) (f.map λb=>.str b.2) (Wl f k):=by
 induction f with
 |nil=>exact λk e=>.nil
 |cons b f ih=>exact λk=>List.casesOn k (λe=>nomatch e) λg k e=>.int rfl (.str _ _)<|ih k<|cE e
noncomputable def U8:Int->List Int->Bool
 |_,[]=>true|a,b::l=>decide (a<b)&&U8 b l
theorem YC (a):∀q:Int,U8 q a=true->(q::a).Pairwise (·<·):=by
 induction a with
 |nil=>exact λq _=>mG _ _
 |cons c a b=>
  intro q e;have e:=(aA _ _).mp e;have G:q<c:=of_decide_eq_true e.1;have t:=b c e.2;exact .cons (cp.mpr ⟨G,λf g=>gn G<|(iQ.mp t).1 f g⟩) t
theorem Yt:Wl AD (ents oL).toList=(ents oL).toList:=by kernel_rfl
theorem acn:AD.length=(ents oL).toList.length:=by kernel_rfl
theorem aco:U8 (-1) (AD.map λb=>b.1)=true:=by kernel_rfl
theorem acm:oL=⟨.type "dict",N,.dict (ents oL).toList.toArray 650,#[]⟩:=rfl
theorem Ys:rk<|AD.map λb=>V.int b.1:=fa.mpr<|(fa.mp (iQ.mp<|YC _ _ aco).2).imp λG=>qo Y<|decide_eq_false<|nz G
theorem I7 {i:fP}(e:i.get? c=Y o)(p:o.cls=.type "code")(n:o.data=.fields vs)(z:vs[11]?=Y (.ref a))(H:vs.getD 11 .none=.ref a)(f:vs.getD 18 .none=.str file tf)(k:vs.getD 7 .none=.int flags tg)(G:vs.getD 9 .none=.bool inF)(g:vs.getD 10 .none=.int text tt)(h:c≠a):p_ i c a:=
 ⟨o,vs,file,tf,flags,tg,inF,text,tt,e,p,n,z,H,f,k,G,g,h⟩
def QOk (T:Vm.Ctx)(t:aj)(c h:Nat)(p:ba):Prop:=∃v q,t=.ref v/\q∈T.tabs/\q≠fS/\T.qual q c h=Y p/\∀i:fP,(∀x G,T.tG x=Y G->i.get? x=Y G)->p_ i v q
theorem Qk {a:Glob}{f:Nat}{G:aj->Nat->Nat->ba->Prop}(g:∀b∈a.CA,G b.1 b.2.1 b.2.2.1 b.2.2.2)(e:a.yW (Y t) f c=Y p):G t f c p:=by
 cases t with
 |ref v=>
  refine qt (ck.mp e) λb i n=>?_
  have I:=g b<|l_ i
  have z:=pA i;rw[aA,aA] at z
  rw[n,eq_of_beq z.1.2,eq_of_beq z.2] at I
  have H:b.1=.ref v:=by
   have h:=z.1.1
   cases p:b.1 with
   |ref q=>rw[p] at h;exact qo jm<|eq_of_beq h
   |_=>rw[p] at h;exact gb h
  exact J H I
 |_=>exact nS e
theorem S_ (y:Bx w s d j):∀b∈Qj,QOk (vO w s d j y) b.1 b.2.1 b.2.2.1 b.2.2.2:=
 have g:∀{i:fP}{c:Nat}{G:gA}(h:Nat),(∀b G,I0 s.heap b=Y G->i.get? b=Y G)->(KF w.params)[h]?=Y (c,G)->c∉sQ->i.get? c=Y G:=λh n e H=>HR n (y.K h _ _ e) H
 have I:∀i:fP,(∀b G,I0 s.heap b=Y G->i.get? b=Y G)->p_ i 189 185:=λi n=>I7 (g 44 n rfl<|by decide) rfl rfl rfl rfl rfl rfl rfl rfl (by decide)
 cp.mpr ⟨HA 34 30 rfl (by show _∈sQ;decide) (by decide) rfl λi n=>I7 (g 16 n rfl<|by decide) rfl rfl rfl rfl rfl rfl rfl rfl<|by decide,
 cp.mpr ⟨HA 41 37 rfl (by show _∈sQ;decide) (by decide) rfl λi n=>I7 (g 18 n rfl<|by decide) rfl rfl rfl rfl rfl rfl rfl rfl<|by decide,
 cp.mpr ⟨HA 189 185 rfl (by show _∈sQ;decide) (by decide) rfl I,
 cp.mpr ⟨HA 189 185 rfl (by show _∈sQ;decide) (by decide) rfl I,λ_ i=>nomatch i⟩⟩⟩⟩
theorem Ma (H:Bx w s d j):sH (vO w s d j H) g0 where
 top x v h:=(A0 H x).trans h
 miss x h:=(A0 H x).trans h
 blt x v h:=by obtain ⟨h1,h2⟩:=ab2 h;exact (H.bt x h2).trans h1
 vals x v h:=by
  have hm:=lookup_mem h;simp only[g0,aN,jO] at hm
  obtain ⟨rfl,rfl⟩:=hm;refine qr (.ref 75) ((A0 H _).trans rfl) λW hW=>?_
  have e2:=hW _ _<|Sa H (a:=75) (o:=oL) 10 rfl<|by decide
  rw[acm] at e2
  exact .ru e2 Ys<|Q Yt<|UG _ _ acn
 CA cv l c q:=Qk (G:=QOk<|vO w s d j H)<|S_ H
 bt h k P hP:=by
  obtain ⟨bm,ob,h1,h2,h3,h4,h5,h6⟩:=H.bm;have e:=(A0 H "__builtins__").symm.trans h1
  cases ((by rfl:(NZ.map λy=>(y.1,y.2.2)).lookup (az "__builtins__")=Y (.ref 4)).symm.trans e)
  refine ⟨4,ob,h1,by assumption,by decide,?_,HR k h3<|by decide,h4,h5,h6⟩;rintro rfl;have hP:4∈sQ:=hP;revert hP;decide
 gP:=by refine (?_:∀P∈sQ,dg≠P);decide
 dbg:=rfl
 lim h k:=let ⟨mc,a,b⟩:=H.lim;(qr mc (ns0 k a<|by decide) b)
theorem Xx (e:C=vO w s d j y):KY C zI:=by
 have g:∀p,C.mg p=d p:=λp=>qo (λT:Vm.Ctx=>T.mg p) e
 exact ae6 (yB e 25 rfl<|by decide) rfl (by kernel_rfl) rfl (by kernel_rfl) rfl rfl rfl rfl (AI _ _ _ _ rfl (yB e 24 rfl<|by decide) rfl rfl) rfl (yB e 9 rfl<|by decide) ((g _).trans<|(A0 y _).trans rfl) ((g _).trans<|(A0 y _).trans rfl) (((λp=>qo (λT:Vm.Ctx=>T.mb p) e) _).trans<|(y.bt _<|by decide +kernel).trans rfl) (e▸Ma y).lim
theorem ahX (H:Bx w s d j)(hg:s.gens=#[])(ht:0<s.toks):qY (vO w s d j H) [] ⟨⟨I0 s.heap,λ_=>N,λ_=>N⟩,[],s⟩ where
 I a o e:=by
  have e:I0 s.heap a=Y o:=e;delta I0 at e
  split at e
  .exact Vm.nS e
  .exact e
 F a o e:=Vm.nS e
 IF a e:=rfl
 top:=Gm.le.refl _
 tab P hP:=by
  refine td (qm hP) rfl (λh=>nomatch h) ?_;have hP:P∈sQ:=hP;simp only[sQ,aE,kH,or_false] at hP
  have hn:∀P,P≠fS->xV (vO w s d j H) (I0 s.heap) P (tabObj #[]):=λP zP=>.inr ⟨zP,#[],rfl,trivial,λpos cv q e=>Vm.nS e⟩
  rcases hP with rfl|rfl|rfl|rfl
  .exact qr _ (H.K 0 _ _ rfl)<|.inl ⟨rfl,rfl⟩
  .exact qr _ (H.K 7 _ _ rfl)<|hn _<|by decide
  .exact qr _ (H.K 8 _ _ rfl)<|hn _<|by decide
  .exact qr _ (H.K 11 _ _ rfl)<|hn _<|by decide
 len:=rfl
 nd:=.nil
 rY i a e:=Vm.nS e
 gens:=hg
 os:=rfl
 pos:=ht
 T t x e:=Vm.nS e
theorem PR {G:Nat->Prop}(b:c∈sQ)(H:G 1)(p:G 30)(a:G 37)(e:G 185):G c:=(cp.mpr ⟨H,cp.mpr ⟨p,cp.mpr ⟨a,cp.mpr ⟨e,λ_ b=>nomatch b⟩⟩⟩⟩:∀c∈sQ,G c) c b
theorem Tj {T:Vm.Ctx}{i k:fP}(e:i.get? b=Y o)(q:k.get? b=Y o')(t:xV T I b o')(n:i.get? b=Y ⟨.none,N,.fields #[],#[]⟩)(f:b≠fS)(z:i.get? c=Y oc)(H:oc.cls=.type "code")(g:oc.data=.fields vs)(u:vs[11]?=Y (.ref b)):qh i k b o:=
 t.elim (λp=>absurd p.1 f) λp=>p.2.elim λL p=>.inr<|.inl ⟨AJ c oc vs z H g u,Q (ae<|e.symm.trans n) ⟨rfl,#[],L,rfl,q.trans<|by refine Q p.1 ?_;simp[tabObj]⟩⟩
theorem XB (y:Bx w s d j){i:fP}(a:c∈sQ):s.heap.get? c=Y o->i.get? c=Y o'->xV (vO w s d j y) I c o'->qh s.heap i c o:=
 PR (G:=λc=>s.heap.get? c=Y o->i.get? c=Y o'->xV (vO w s d j y) I c o'->qh s.heap i c o) a
  (λe e1 t=>t.elim (λq=>.inl<|e1.trans<|qo Y<|q.2.trans<|ae<|(y.K 0 _ _ rfl).symm.trans e) λq=>absurd rfl q.1)
  (λe e1 t=>Tj e e1 t (y.K 7 _ _ rfl) (by decide) (y.K 16 _ _ rfl) rfl rfl rfl)
  (λe e1 t=>Tj e e1 t (y.K 8 _ _ rfl) (by decide) (y.K 18 _ _ rfl) rfl rfl rfl)
  λe e1 t=>Tj e e1 t (y.K 11 _ _ rfl) (by decide) (y.K 44 _ _ rfl) rfl rfl rfl
theorem XC (y:Bx w s d j){u:Wd}(h:qY (vO w s d j y) hp u):OldK s.heap u.s.heap:=by
 have g:∀v G,s.heap.get? v=Y G->qh s.heap u.s.heap v G:=λv G e=>by
  by_cases a:v∈sQ
  .exact (h.tab v a).2.2.2.elim λo t=>XB y a e t.1 t.2
  .exact .inl<|h.I _ _<|h.top _ _<|(qn a:I0 s.heap v=_).trans e
 refine ⟨g,λv G e=>?_⟩;rcases g v G e with i|⟨_,_,b,H,_,i⟩|⟨_,_,⟨o,_,_,i,_⟩,_⟩
 .exact ⟨_,i⟩
 .exact ⟨_,i⟩
 .exact ⟨_,i⟩
end
section
variable {w:d7}{s:ay}{d j:ba->Option aj}
theorem Ux (Oh:∀ns:List Int,ns.length<=63->∃n,n<=100/\(qz n).top 238 [.lst<|ns.map .int] [] [] []=Y (.bool true,[]))(hC:C=vO w s d j H):Fin w s:=λns a its hl hI ah0 L_ hg ht QQq E hQ=>by
 refine qt (Oh ns hl) λn hn hp=>?_
 have Ar:claimMargin<=700:=by decide
 have:=((XA (hC▸Ma H) (W8 hC) (Xx hC) n).top 238 _ _ _ _ _ _ hp).2 callerA _ _ [] ⟨rfl,av (bq (aP Ar 1) hn) (by decide),av (a8 (aP (aU 10 hn) 4) 50) (by decide)⟩ (hC▸ahX H hg ht) (.cons (.lst ((qn L_:I0 s.heap a=_).trans ah0)<|QR hI) .nil) .nil QQq E λW' c kept H' r=>hQ W'.s c r.inv (XC H<|hC▸H') (H'.os.trans<|qo (λX:Vm.Ctx=>X.os) hC) H'.gens
 rw[qo (λX:Vm.Ctx=>X.w) hC,qo (λX:Vm.Ctx=>X.prog) hC] at this
 exact this
end
theorem aeW (b:∀ns:List Int,ns.length<=63->∃n,n<=100/\(qz n).top 238 [.lst<|ns.map .int] [] [] []=Y (.bool true,[])):WalkX qv yb (XL qv []) (X.obsZ KQ) (X.valZ KF 239 2459) yT.toRowW dL [] λt f=>PySem.call t f:=by
 intro w U x d j G y v I a h u A T p hd L hD z hg args vals as k ahY ah3 hrd hwl hlo;refine gk λo kz=>uQ (X.z_facts ad9 y) λZA ZI ZN g=>?_
 wrow_args ahY ah3 hrd hwl hlo
 rename_i ns _ _ _ _ _ _ _ q its _ hL ra w1 r0 hI _ hlen _;have L_:=(script_at k).1;rw[ZN] at L_
 have H:Bx w x d j:=⟨λi q I e=>k.keeps _ _<|R7 ZA i e,G.T.g,G.T.b,G.T.nolimit,G.T.builtins,G.T.bmain⟩;revert z;refine Q ((A0 H _).trans (by kernel_rfl):d dL.name=Y (.ref 238)) ?_;intro z
 cases z
 refine kz<|X8 (λw s d j H hC=>Ux b hC) w x d j H ns q its (bB.mp<|bP.mp hlen) hI (script_obj k hL) (by refine Q L_ ?_;decide) hg (gh<|script_toks k g) _ _ λs' c e1 e2 e3 e4=>?_
 subst e1;exact td (.inl ⟨_,_,[],rfl,λ_=>rfl,ReadsW.bool true,by first|rfl|wrow_post,λ_=>⟨lM,λ_ hm=>nomatch hm⟩⟩) e2 e3<|AllBare.of_eq e4
theorem XN (Oh:∀ns:List Int,ns.length<=63->∃n,n<=100/\(qz n).top 238 [.lst<|ns.map .int] [] [] []=Y (.bool true,[])):PySem.Challenge.rw_wc0030_02.Holds:=aa2 (by w_witness2)<|aeW Oh
end L1
end
end
open PySem
noncomputable section
namespace L1
open Vm
theorem len_app (a:List O)(f:List O):(a++f).length=a.length+f.length:=aG
theorem sD (a f:List O)(c:Nat):(a++f)[a.length+c]?=f[c]?:=by refine Q (eN<|aM _ _)<|Q (bc ..) rfl
theorem ve (a f:List O):(a++f)[a.length]?=f[0]?:=sD a f 0
theorem yG (a f:List O)(c:Nat)(I:O):(a++f).set (a.length+c) I=a++f.set c I:=by refine Q (List.set_append_right _ _<|aM _ _)<|Q (bc ..) rfl
theorem IS (a f:List O)(I:O):(a++f).set a.length I=a++f.set 0 I:=yG a f 0 I
theorem u7 {y:Ev}{U:List Nat}{f:List XS}{x:St}(e:y.S U d x=Y (.next,st1))(i:rR y U f st1=o):rR y U (d::f) x=o:=by show (match y.S U d x with|Y (.next,x)=>rR y U f x|o=>o)=o;exact Q e i
theorem tN {y:Ev}{U:List Nat}{f:List XS}{x:St}(e:y.S U d x=Y (.ret v,st1)):rR y U (d::f) x=Y (.ret v,st1):=by show (match y.S U d x with|Y (.next,x)=>rR y U f x|o=>o)=_;refine Q e rfl
noncomputable def yX (o:Option<|Fl×St):Option<|V×List O:=match o with
 |Y (.ret k,st)=>Y (k,st.hp)|Y (.next,st)=>Y (.none,st.hp)
 |N=>N
theorem ub {U:List Nat}{x:St}:we orc U b x=yX (rR (ev orc 60) U b x):=rfl
theorem qI {y:Ev}{U:List Nat}{f:List XS}{x:St}(e:y.S U d x=Y (.next,st1))(i:yX (rR y U f st1)=o):yX (rR y U (d::f) x)=o:=(qo yX<|u7 e rfl).trans i
theorem tu {y:Ev}{U:List Nat}{f:List XS}{x:St}(e:y.S U d x=Y (.ret v,⟨loc,hp⟩)):yX (rR y U (d::f) x)=Y (v,hp):=qo yX<|tN e
theorem aib {y:Ev}{U:List Nat}{x:St}:yX (rR y U [] x)=Y (.none,x.hp):=rfl
theorem Jr {o v:Type}{b:o->Option v}:∀{l:List o}{f:List v},qP b l=Y f->f.length=l.length
 |[],f,e=>by (refine Vm.sI e ?_;clear e;rintro rfl);rfl
 |x::l,f,e=>by
  unfold qP at e
  split at e
  .split at e
   ·(refine Vm.sI e ?_;clear e;rintro rfl)
    rename_i f U;exact qo (·+1)<|Jr U
   .exact Vm.nS e
  .exact Vm.nS e
theorem CG {o v:Type}{c:o->Option v}{G:o}{b:v}(e:c G=Y b):qP c [G]=Y [b]:=by show (match c G with|Y b=>(match qP c [] with|Y r=>Y<|b::r|N=>N)|N=>N)=_;exact Q e rfl
theorem uS {o v:Type}{c:o->Option v}{G:o}{b:v}{a:List o}{f:List v}(e:c G=Y b)(i:qP c a=Y f):qP c (G::a)=Y (b::f):=by show (match c G with|Y b=>(match qP c a with|Y f=>Y<|b::f|N=>N)|N=>N)=_;refine Q e<|Q i rfl
theorem rE (n)(e:zD.find? (·.addr==a)=Y t)(i:t.pure=true)(o:t.bind=rQ k){b:List V}{u:List O}(z:b.length=k)(H:qP (sX [] 9) b=Y KS)(c:tW (qz n) t.fn [] KS []=Y (v,hp'))(p:sX hp' 9 v=Y v'):(qz<|n+1).top a b [] [] u=Y (v',u):=by
 have G:qP (sX [] 9) ([]:List V)=Y []:=rfl;refine (?_:yY zD zI (qz n) a b [] [] u=_);delta yY pureO;refine Q e ?_;simp only[mP,(Q o<|qm ⟨rfl,rfl,z⟩:t.bind b [] []=Y b),i,if_true,H,G,(Q o<|qm ⟨rfl,rfl,(Jr H).trans z⟩:t.bind KS [] []=Y KS),c,p,oJ,d8]
theorem Cx (n)(e:zD.find? (·.addr==a)=Y t)(i:t.pure=false){G:List O}(o:t.bind as kn kv=Y vs):(qz<|n+1).top a as kn kv G=tW (qz n) t.fn [] vs G:=by show yY zD zI (qz n) a as kn kv G=_;delta yY;refine Q e ?_;simp only[mP,o,i,if_false,gG,d8]
theorem Ss (n)(e:zD.find? (·.addr==c)=N){f:List O}:(qz<|n+1).top c a [] [] f=(zI c a).map (·,f):=by show yY zD zI (qz n) c a [] [] f=_;delta yY;exact Q e (qm ⟨rfl,rfl⟩:(if ([]:List ba)=[]/\([]:List V)=[] then (zI c a).map (·,f) else N)=_)
theorem AB (n)(e:AA g0 [] f=Y fn){g:List V}{j:List O}(i:g.length=fn.names.length):(qz<|n+1).zU f cl g j=tW (qz n) fn cl g j:=by show EJ g0 [] (qz n) f cl g j=_;delta EJ;exact Q e<|qm i
theorem qy (e:(ev g j).E M x st=Y (v,st1))(i:(ev g j).E M y st1=Y (w,st2))(n:sL st2.hp op v w=Y r):(ev g<|j+1).E M (.bin op x y) st=Y (r,st2):=qE e<|qE i<|qM n
theorem xW (e:(ev g j).E M x st=Y (.int i,st1)):(ev g<|j+1).E M (.un .USub x) st=Y (.int <| -i,st1):=qE e rfl
theorem Pn (e:(ev g j).E M x st=Y (.int i,st1)):(ev g<|j+1).E M (.un .Invert x) st=Y (.int<|fw i,st1):=qE e rfl
theorem afg (e:(ev g j).E M x st=Y (v,st1))(i:rD st1.hp v=Y b):(ev g<|j+1).E M (.un .Not x) st=Y (.bool !b,st1):=qE e<|qM i
theorem qW (e:(ev g j).E M x st=Y (v,st1))(i:(ev g j).E M y st1=Y (u,st2))(n:tX st2.hp op v u=Y b):(ev g<|j+1).E M (.cmp x [op] [y]) st=Y (.bool b,st2):=qE e<|qM (qE i<|qM n:CQ (ev g j) M v [op] [y] st1=Y (b,st2))
theorem vD (e:(ev g j).E M z st=Y (v,st1))(i:rD st1.hp v=Y true)(n:(ev g j).E M x st1=Y (r,st2)):(ev g<|j+1).E M (.rf z x y) st=Y (r,st2):=qE e<|qT i n
theorem wB (e:(ev g j).E M z st=Y (v,st1))(i:rD st1.hp v=Y false)(n:(ev g j).E M y st1=Y (r,st2)):(ev g<|j+1).E M (.rf z x y) st=Y (r,st2):=qE e<|qF i n
theorem qB (e:M[k]?=Y i)(n:st.hp[i]?=Y (.cell<|Y v)):(ev orc<|j+1).E M (.cell k) st=Y (v,st):=qV (Up e n) rfl
theorem Ce (e:rA M 5 q k st=Y st1)(i:bindAll M ts vs st1=o):bindAll M (q::ts) (k::vs) st=o:=(qS e i:_)
theorem qp {y:Ev}{j:List X}(e:y.E M a st=Y (k,st1))(i:sM y M j st1=Y (vs,st2)):sM y M (a::j) st=Y (k::vs,st2):=qE e<|qL i rfl
theorem qH {y:Ev}(e:y.E M x st=Y (v,st1)):sM y M [x] st=Y ([v],st1):=qp e rfl
theorem ug (e:sM (ev g j) M as st=Y (vs,st1))(i:yg st1.hp b vs=Y v):(ev g<|j+1).E M (.bf b as) st=Y (v,st1):=qL e<|qM i
theorem ro (e:(ev g j).E M x st=Y (v,st1))(i:(ev g j).E M y st1=Y (w,st2))(n:si st2.hp v w=Y r):(ev g<|j+1).E M (.sub x y) st=Y (r,st2):=qE e<|qE i<|qM n
theorem WU (e:(ev g j).E M x st=Y (v,st1))(i:(ev g j).E M y st1=Y (w,st2))(n:(ev g j).E M z st2=Y (u,st3))(A:FF st3.hp v w u=Y r):(ev g<|j+1).E M (.C4 x y z) st=Y (r,st3):=qE e<|qE i<|qE n<|qM A
theorem sY (e:sM (ev g j) M as st=Y (vs,st1)):(ev g<|j+1).E M (.tup as) st=Y (.tup vs,st1):=qM e
theorem yC (e:sM (ev g j) M as st=Y (vs,st1)):(ev g<|j+1).E M (.list as) st=Y (.lst vs,st1):=qM<|qM e
theorem xr (e:(ev g j).E M x st=Y (v,st1))(i:tj st1.hp v n=Y r):(ev g<|j+1).E M (.attr x n) st=Y (r,st1):=qE e<|qM i
theorem Co (e:(ev g j).E M x st=Y (v,st1))(i:sM (ev g j) M as st1=Y (vs,st2))(n:sM (ev g j) M kx st2=Y (ks,st3))(z:v7 g v vs kn ks st3.hp=Y (r,hp')):(ev g<|j+1).E M (.call x as kn kx) st=Y (r,⟨st3.loc,hp'⟩):=qE e<|qL i<|qL n<|qM z
theorem Ha {d:List O}(e:sM (ev orc<|j+1) M as st=Y (vs,⟨loc,d⟩))(i:sM (ev orc<|j+1) M kx ⟨loc,d⟩=Y (kv,⟨loc,d⟩))(n:orc.top a vs kn kv d=Y (v,hp')):(ev orc<|j+2).E M (.call (.k<|.con<|.ref a) as kn kx) st=Y (v,⟨loc,hp'⟩):=Co (v:=.con<|.ref a) rfl e i n
theorem call_top {d:List O}(e:sM (ev orc<|j+1) M as st=Y (vs,⟨loc,d⟩))(i:orc.top a vs [] [] d=Y (v,hp')):(ev orc<|j+2).E M (.call (.k<|.con<|.ref a) as [] []) st=Y (v,⟨loc,hp'⟩):=Ha e rfl i
theorem Kq {j:List O}(e:j[i]?=Y (.fn f cl dc))(k:orc.zU f cl vs j=Y (r,hp')):v7 orc (.ref i) vs [] [] j=Y (r,hp'):=(show v7 orc (.ref i) vs [] [] j=Pb orc vs [] [] j j[i]? from rfl).trans<|Q e k
theorem vP {d:List O}(e:(ev g j).E M x st=Y (.ref i,st1))(k:sM (ev g j) M as st1=Y (vs,⟨loc,d⟩))(n:d[i]?=Y (.fn f cl dc))(z:g.zU f cl vs d=Y (r,hp')):(ev g<|j+1).E M (.call x as [] []) st=Y (r,⟨loc,hp'⟩):=Co (st3:=⟨loc,d⟩) e k rfl<|Kq n z
theorem uL {d:List O}{h:Mt}(e:(ev g j).E M x st=Y (v,st1))(i:isFn st1.hp v=false)(n:BU h (view st1.hp v)=Y k)(z:sM (ev g j) M as st1=Y (vs,⟨loc,d⟩))(H:za d k v vs=Y (w,hp')):(ev g<|j+1).E M (.mt h x as) st=Y (w,⟨loc,hp'⟩):=
 qE e<|(qn<|by refine Q i ?_;decide).trans<|qK n<|qL z<|qM H
theorem afh {d:List O}{h:Mt}(e:(ev g j).E M x st=Y (v,st1))(i:isFn st1.hp v=true)(n:tj st1.hp v (w3 h)=Y fv)(z:sM (ev g j) M as st1=Y (vs,⟨loc,d⟩))(H:v7 g fv vs [] [] d=Y (w,hp')):(ev g<|j+1).E M (.mt h x as) st=Y (w,⟨loc,hp'⟩):=
 qE e<|(qm i).trans<|qV n<|qL z<|qM H
theorem Vc {d:List O}(e:(ev g j).E M x st=Y (v,st1))(i:tj st1.hp v n=Y fv)(o:sM (ev g j) M as st1=Y (vs,⟨loc,d⟩))(z:v7 g fv vs [] [] d=Y (w,hp')):(ev g<|j+1).E M (.mc x n as) st=Y (w,⟨loc,hp'⟩):=qE e<|qV i<|qL o<|qM z
theorem acI {k:List X}(e:sM (ev g j) M k st=Y (vs,st1))(i:mergeAll [] [] vs=Y (ks,ws)):(ev g<|j+1).E M (.star k) st=Y (.ru ks ws,st1):=qM (qL e<|qM i:rT (ev g j) M (.star k) st=Y (.dict ks ws,st1))
theorem xq (e:rT (ev g j) M x st=Y (o,st1)):(ev g<|j+1).E M (.new x) st=Y (.ref st1.hp.length,⟨st1.loc,st1.hp++[o]⟩):=qM e
theorem aff {f:List X}(e:(ev g j).E M x st=Y (v,st1))(i:rD st1.hp v=Y true):(ev g<|j+1).E M (.or<|x::y::f) st=Y (v,st1):=qE e<|qT i rfl
theorem Pm {f:List X}(e:(ev g c).E M a st=Y (v,st1))(i:rD st1.hp v=Y false)(n:J_ (ev g c) M (I::f) st1=Y (r,st2)):J_ (ev g c) M (a::I::f) st=Y (r,st2):=qE e<|qF i n
theorem WV (e:(ev g j).E M x st=Y (.bool false,st))(i:(ev g j).E M y st=Y (.bool false,st))(n:(ev g j).E M z st=Y (r,st2)):(ev g<|j+1).E M (.or [x,y,z]) st=Y (r,st2):=Pm e rfl<|Pm i rfl n
theorem acJ (e:(ev g j).E M x st=Y (v,st1))(i:rD st1.hp v=Y false)(n:(ev g j).E M y st1=Y (r,st2)):(ev g<|j+1).E M (.or [x,y]) st=Y (r,st2):=Pm e i n
theorem afe (e:(ev g j).E M x st=Y (.bool false,st))(i:(ev g j).E M y st=Y (r,st2)):(ev g<|j+1).E M (.or [x,y]) st=Y (r,st2):=acJ e rfl i
theorem Sh (e:(ev g j).E M x st=Y (v,st1))(i:rD st1.hp v=Y true)(n:(ev g j).E M y st1=Y (r,st2)):(ev g<|j+1).E M (.and [x,y]) st=Y (r,st2):=qE e<|qT i n
theorem qU (e:(ev g j).E M x st=Y (v,st1))(i:rA M 5 t v st1=Y st2):(ev g<|j+1).S M (.asg t x) st=Y (.next,st2):=qE e<|qM i
theorem tU (e:(ev g j).E M x st=Y (.none,st1)):(ev g<|j+1).S M (.expr x) st=Y (.next,st1):=(qo (λy:Option<|V×St=>match y with|Y (.none,st)=>Y (Fl.next,st)|_=>N) e:_)
theorem sy (e:(ev g j).E M x st=Y (v,st1)):(ev g<|j+1).S M (.ret x) st=Y (.ret v,st1):=qM e
theorem tY (e:(ev g j).E M x st=Y (v,st1))(i:rD st1.hp v=Y true)(n:rR (ev g j) M a st1=Y (fl,st2)):(ev g<|j+1).S M (.rf x a b) st=Y (fl,st2):=qE e<|qT i n
theorem sG (e:(ev g j).E M x st=Y (v,st1))(i:rD st1.hp v=Y false)(n:rR (ev g j) M b st1=Y (fl,st2)):(ev g<|j+1).S M (.rf x a b) st=Y (fl,st2):=qE e<|qF i n
theorem zZ (e:(ev g j).E M x st=Y (.bool false,st1)):(ev g<|j+1).S M (.rf x a []) st=Y (.next,st1):=sG e rfl rfl
theorem CV (e:yz M t st=Y w)(i:(ev g j).E M x st=Y (v,st1))(n:xO op w v=Y r)(z:rA M 5 t r st1=Y st2):(ev g<|j+1).S M (.aug t op x) st=Y (.next,st2):=qV e<|qE i<|qV n<|qM z
theorem D7 (f:(ev g j).E M e st=Y (v,st1))(i:(ev g j).E M x st1=Y (w,st2))(n:(ev g j).E M y st2=Y (u,st3))(z:uc st3.hp w u v=Y hp'):(ev g<|j+1).S M (.wj x y e) st=Y (.next,⟨st3.loc,hp'⟩):=qE f<|qE i<|qE n<|qM z
theorem vS (f:(ev g j).E M e st=Y (v,st1))(i:(ev g j).E M x st1=Y (w,st2))(o:yH st2.hp w n v=Y hp'):(ev g<|j+1).S M (.setAttr x n e) st=Y (.next,⟨st2.loc,hp'⟩):=qE f<|qE i<|qM o
theorem v8 {k:List V}(e:tK (ev g j) M x st=Y (k,gd,st1))(i:ui (ev g j) M t gd b k st1=Y (fl,st2)):(ev g<|j+1).S M (.uZ t x b) st=Y (fl,st2):=qR e i
theorem rg (e:(ev g c).S M d st=Y (.next,st1))(i:rR (ev g c) M b st1=Y (fl,st2)):rR (ev g c) M (d::b) st=Y (fl,st2):=u7 e i
theorem rM (e:(ev g c).S M s st=Y (.next,st1)):rR (ev g c) M [s] st=Y (.next,st1):=u7 e rfl
theorem r_ {j:List V}(e:uo st.hp gd=true)(i:rA M 5 t k st=Y st1)(n:rR (ev g c) M b st1=Y (.next,st2))(z:ui (ev g c) M t gd b j st2=Y (fl,st3)):ui (ev g c) M t gd b (k::j) st=Y (fl,st3):=(qm e).trans<|qS i<|(qo (λo:Option<|Fl×St=>match o with|Y (.next,st)=>ui (ev g c) M t gd b j st|o=>o) n:_).trans z
theorem Dq {h:Nat}(e:(ev g c).E M x st=Y (v,st1))(i:rD st1.hp v=Y true)(n:rR (ev g c) M b st1=Y (.next,st2))(z:wN (ev g c) M x b h st2=o):wN (ev g c) M x b (h+1) st=o:=(qE e<|qT i (qo (λo:Option<|Fl×St=>match o with|Y (.next,st)=>wN (ev g c) M x b h st|o=>o) n:_)).trans z
theorem Dr {h:Nat}(e:(ev g c).E M x st=Y (v,st1))(i:rD st1.hp v=Y false):wN (ev g c) M x b (h+1) st=Y (.next,st1):=qE e<|qF i rfl
theorem WR (e:v5 M cl=Y Dg)(i:rA M 5 t (.ref st.hp.length) ⟨st.loc,st.hp++[.fn f Dg N]⟩=Y st1):(ev orc<|j+1).S M (.DY t f cl) st=Y (.next,st1):=qC e<|qM i
theorem Pk (e:wN (ev g j) M x b 8 st=Y (fl,st1)):(ev g<|j+1).S M (.Lu x b) st=Y (fl,st1):=e
theorem vi (e:a=b):Y (V.int a)=Y (V.int b):=Q e rfl
theorem dt [Decidable o](G:o):Y (decide o)=Y true:=qo Y<|decide_eq_true G
theorem df [Decidable o](G:¬o):Y (decide o)=Y false:=qo Y<|decide_eq_false G
noncomputable def plX:X->Bool
 |.enum J=>false|.rev J=>false
 |_=>true
theorem tP (e:plX x=true)(i:(ev g j).E M x st=Y (v,st1)):tK (ev g j) M x st=N6 st1 v:=(C' (λI n=>by rw[n] at e;exact fT e) λI n=>by rw[n] at e;exact fT e).trans<|qE i rfl
noncomputable def nats (a:List Nat):List V:=a.map λ(c:Nat)=>V.int (c:Int)
theorem A8 (c h:Nat):bg (c:Int) (h:Int)=((c/h:Nat):Int):=ax (eT _<|aC _) rfl
theorem DU (c h:Nat):a_ (c:Int) (h:Int)=((c%h:Nat):Int):=ax (i7 _<|aC _) rfl
theorem fdiv_pow (c h:Nat):bg (c:Int) (2^h)=((c/2^h:Nat):Int):=by refine J (A8 c<|2^h) ?_;congr 1
theorem mul_pow (c h:Nat):(c:Int)*2^h=((c*2^h:Nat):Int):=by push_cast;rfl
theorem MG (c h:Nat):fU (c:Int) (h:Int)=((c &&& h:Nat):Int):=by delta fU;exact Q (decide_eq_true<|aC c)<|Q (decide_eq_true<|aC h) rfl
theorem Qt (c b:Nat):i9 (c:Int) (b:Int)=((c ||| b:Nat):Int):=by
 delta i9 fU fw;refine Q (decide_eq_false<|by lia)<|Q (decide_eq_false<|by lia) ?_
 dsimp only;refine Q (by lia:(- (-(c:Int)-1)-1).toNat=c)<|Q (by lia:(- (-(b:Int)-1)-1).toNat=b) ?_;lia
theorem Pr (c h:Nat):jH (c:Int) ((c/2^h*2^h:Nat):Int)=((c%2^h:Nat):Int):=by
 delta jH;refine Q (Qt ..)<|Q (MG ..) ?_
 have e:c ||| (c/2^h*2^h)=c:=by
  apply n3;intro t;refine Q (Nat.testBit_or ..)<|Q (mQ ..)<|Q (mU ..) ?_
  by_cases w:h<=t
  .simp[w]
  .simp[w]
 have i:c &&& (c/2^h*2^h)=c/2^h*2^h:=by
  apply n3;intro t;refine Q (Nat.testBit_and ..)<|Q (mQ ..)<|Q (mU ..) ?_
  by_cases w:h<=t
  .simp[w]
  .simp[w]
 refine Q e<|Q i ?_
 have:=d5 c<|2^h
 rw[bS] at this
 exact ny.mpr<|qo m4 this.symm
theorem KV (c h:Nat):fU (c:Int) ((2^h-1:Nat):Int)=((c%2^h:Nat):Int):=by refine Q (MG ..)<|Q (Nat.and_two_pow_sub_one_eq_mod ..) rfl
theorem Qu (c h t:Nat)(G:h<2^t):i9 ((c*2^t:Nat):Int) (h:Int)=((c*2^t+h:Nat):Int):=by rw[Qt,bS,Nat.two_pow_add_eq_or_of_lt G]
theorem D3 (c:Nat):au (c:Int)=if c=0 then 0 else c.log2+1:=by
 delta au
 by_cases e:c=0
 .exact Q e rfl
 .skip
  simp[(by simpa using e),e]
theorem bits_le {c h:Nat}:au (c:Int)<=h↔c<2^h:=by
 rw[D3]
 by_cases e:c=0
 .refine Q e ?_;simp[bx]
 .refine Q (qn e) ?_;rw[Nat.succ_le_iff,Nat.log2_lt e]
theorem sP {q:Int}{c:Nat}(G:q.natAbs<2^c):au q<=c:=by
 have e:au q=au (q.natAbs:Int):=by
  delta au
  by_cases G:q=0
  .refine Q G ?_;clear G;rfl
  .skip
   exact Q (by simpa using G:(q==0)=false)<|Q (by simp;assumption:((q.natAbs:Int)==0)=false) rfl
 exact Q e<|bits_le.mpr G
theorem Yo {c h:Nat}(w:2^(h-1)<=c) (G:c<2^h) (T:0<h):au (c:Int)=h:=by
 apply fO<|bits_le.mpr G
 apply gi;intro k;exact b9 _<|ai (bits_le.mp<|nZ k) w
theorem BN {d h:Nat}(n:au (d:Int)<=au (h:Int)+4100\/au (h:Int)<=9000):aQ (d:Int) (h:Int)=false:=by
 have b:∀t:Nat,(if ((t:Int)==0)=true then 0 else (t:Int).natAbs.log2/30+1)=(au (t:Int)+29)/30:=λt=>by
  rw[D3]
  by_cases n:t=0
  .exact Q n rfl
  .skip
   refine Q (qn n)<|Q (qn<|by refine Q (by simpa using n:((t:Int)==0)=false) ?_;simp)<|Q (oP ..) (Nat.add_div_right _ (by decide:0<30)).symm
 delta aQ;rw[nF];simp only[decide_eq_false_iff_not,b];exact n.elim (λn=>.inr<|cV.mpr<|aa (ig (aa (a8 n 29) (aP (by decide:4129<=29+150*30) _):_<=au (h:Int)+29+150*30))<|aK<|Nat.add_mul_div_right _ _<|by decide) λn=>.inl<|cV.mpr<|ig (c:=30) (a8 n 29)
theorem rW (a b):sL hp .Add (.int a) (.int b)=Y (.int<|a+b):=rfl
theorem uj (a b):sL hp .Sub (.int a) (.int b)=Y (.int<|a-b):=rfl
theorem Bg (c h:Nat):sL hp .RShift (.int c) (.int h)=Y (.int ((c/2^h:Nat):Int)):=by show (if (0:Int)<=h then Y (V.int<|bg c<|2^(h:Int).toNat) else N)=_;refine Q (qm<|aC _)<|Q (dU ..)<|Q (fdiv_pow ..) rfl
theorem CR (c h t:Nat) (G:c<2^t) (w:t<=50000) (i:h<=50000):sL hp .LShift (.int c) (.int h)=Y (.int ((c*2^h:Nat):Int)):=by show (if (0:Int)<=h/\(au (c:Int):Int)+h<=100000 then _ else _)=_;have:=bits_le.mpr G;refine ax (qm ⟨aC _,bB.mpr<|aa (bq (aa this w) i)<|by decide⟩)<|Q (dU ..)<|Q (mul_pow ..) rfl
theorem aew (c h t:Nat) (G:c<2^t) (w:t<=50000) (i:h<=50000):xO .LShift (.int c) (.int h)=Y (.int ((c*2^h:Nat):Int)):=by show (if (0:Int)<=h/\(au (c:Int):Int)+h<=100000 then _ else _)=_;have:=bits_le.mpr G;refine ax (qm ⟨aC _,bB.mpr<|aa (bq (aa this w) i)<|by decide⟩)<|Q (dU ..)<|Q (mul_pow ..) rfl
theorem aev (c h:Nat):xO .RShift (.int c) (.int h)=Y (.int ((c/2^h:Nat):Int)):=by show (if (0:Int)<=h then Y (V.int<|bg c<|2^(h:Int).toNat) else N)=_;refine Q (qm<|aC _)<|Q (dU ..)<|Q (fdiv_pow ..) rfl
theorem xU (a b:Int)(c h)(G:a.natAbs<2^c)(T:b.natAbs<2^h)(w:c<=50000)(i:h<=50000):sL hp .Mult (.int a) (.int b)=Y (.int<|a*b):=by
 have e:CD a b=true:=by exact decide_eq_true<|aa (bq (aa (sP G) w)<|aa (sP T) i)<|by decide
 refine (ax (qm e) rfl:(if CD a b=true then _ else _)=_)
theorem WI (q a):sL hp .BitAnd (.int q) (.int a)=Y (.int<|fU q a):=rfl
theorem ack (q a):sL hp .BitOr (.int q) (.int a)=Y (.int<|i9 q a):=rfl
theorem ae4 (q a):sL hp .BitXor (.int q) (.int a)=Y (.int<|jH q a):=rfl
theorem CO (a b):xO .Add (.int a) (.int b)=Y (.int<|a+b):=rfl
theorem Ad (a b):tX hp .Eq (.int a) (.int b)=Y (decide<|a=b):=rfl
theorem RY (c:Nat)(w:c<=50000):sL hp .LShift (.int 1) (.int c)=Y (.int ((2^c:Nat):Int)):=by
 have:=CR (hp:=hp) 1 c 1 (ag _) (by decide) w;rw[gM] at this
 exact this
theorem FN {c j:Nat}(G:0<j) (h:aQ (c:Int) (j:Int)=false):¬((j:Int)=0\/aQ (c:Int) (j:Int)=true):=λn=>n.elim (λi=>bw G<|cW i) λi=>fT<|h.symm.trans i
theorem U0 {a:List O}(c h:Nat) (G:0<h) (e:aQ (c:Int) (h:Int)=false):yg a .divmod [.int c,.int h]=Y (.tup [.int (c/h:Nat),.int (c%h:Nat)]):=by show (if (h:Int)=0\/aQ (c:Int) (h:Int)=true then N else Y (V.tup [.int<|bg c h,.int<|a_ c h]))=_;refine Q (qn<|FN G e)<|Q (A8 ..)<|Q (DU ..) rfl
theorem YF (c:Nat):fU (c:Int) 1=((c%2:Nat):Int):=KV c 1
theorem KL (c:Nat):sL hp .RShift (.int c) (.int 1)=Y (.int ((c/2:Nat):Int)):=Bg c 1
theorem Q_ (c h:Nat)(G:c<2^h)(w:h<=50000):xO .LShift (.int c) (.int 1)=Y (.int ((c*2^1:Nat):Int)):=aew c 1 h G w (by decide)
theorem abj (c:Nat):xO .RShift (.int c) (.int 1)=Y (.int ((c/2:Nat):Int)):=aev c 1
theorem KN {hp:List O}(c h:Nat) (G:0<h) (e:aQ (c:Int) (h:Int)=false):sL hp .FloorDiv (.int c) (.int h)=Y (.int (c/h:Nat)):=by show (if (h:Int)=0\/aQ (c:Int) (h:Int)=true then N else Y (V.int<|bg c h))=_;refine Q (qn<|FN G e)<|Q (A8 ..) rfl
theorem RZ {a:List O}(c h:Nat) (G:0<h) (e:aQ (c:Int) (h:Int)=false):sL a .Mod (.int c) (.int h)=Y (.int (c%h:Nat)):=by show (if (h:Int)=0\/aQ (c:Int) (h:Int)=true then N else Y (V.int<|a_ c h))=_;refine Q (qn<|FN G e)<|Q (DU ..) rfl
theorem H9 (a:Int)(c:Nat)(w:(au a:Int)*(c:Int)<=100000):sL hp .Pow (.int a) (.int c)=Y (.int<|a^c):=by show (if (0:Int)<=c/\(au a:Int)*(c:Int)<=100000 then Y (V.int<|a^(c:Int).toNat) else N)=_;refine Q (qm ⟨aC _,w⟩)<|Q (dU ..) rfl
theorem AZ (a f):nats (a++f)=nats a++nats f:=bN
theorem rF (a):(nats a).length=a.length:=ao ..
theorem DI (a:List Nat)(c:Nat):(nats a)[c]?=(a[c]?).map λ(h:Nat)=>V.int (h:Int):=aZ ..
theorem DP (a)(n):∀f:List Nat,qP (sX a<|n+1) (nats f)=Y (nats f)
 |[]=>rfl|d::f=>by
  have e:=DP a n f;unfold nats at e ⊢
  refine Q bC ?_;rw[qP,e];rfl
theorem H_ {a:List O}{l:List V}(e:a[i]?=Y (.list l))(w:l.length<=65536):za a .uX (.ref i) [v]=Y (.none,a.set i<|.list<|l++[v]):=(EM _ _ e).trans<|qm<|decide_eq_true w
theorem CY {M:List Nat}{st:St}{A:List O}{l:List V}(e:(ev orc j).E M x st=Y (.ref i,st1))(k:st1.hp[i]?=Y (.list l0))(n:sM (ev orc j) M as st1=Y ([v],⟨loc,A⟩))(z:A[i]?=Y (.list l))(w:l.length<=65536) :
  (ev orc<|j+1).E M (.mt .append x as) st=Y (.none,⟨loc,A.set i<|.list<|l++[v]⟩):=
 uL e ((qo EV k:isFn st1.hp (.ref i)=_)) ((qo (λy=>BU .append<|El i y) k:BU .append (view st1.hp<|.ref i)=_)) n<|H_ z w
theorem zJ {c h:Nat}(G:c<h):place (c:Int) h=Y c:=by delta place;rewrite [qn<|bP.mpr<|aC c];exact ax (qm ⟨aC c,bo.mpr G⟩) rfl
theorem vV {a:List O}{f:List V}{c:Nat}{k:V}(e:f[c]?=Y k) (w:f.length<=65536):si a (.lst f) (.int c)=Y k:=by
 show (if q6 f.length=true then (place (c:Int) f.length).bind λt=>f[t]? else N)=_;refine Q (qm<|show q6 f.length=true from decide_eq_true w)<|Q (zJ (aO.mp e).1) ?_
 exact e
theorem ac2 {a:List O}{o:V}{f:List V}{c:Nat}{L:V}(e:view a o=.lst f) (i:f[c]?=Y L) (w:f.length<=65536):si a o (.int c)=Y L:=by delta si;exact Q e<|vV i w
theorem Xw {a:List O}{c h:Nat}{l:List V}{k:V}(e:a[c]?=Y (.list l)) (G:h<l.length) (w:l.length<=65536):uc a (.ref c) (.int h) k=Y (a.set c<|.list<|l.set h k):=by have i:uc a (.ref c) (.int h) k=Of a c (.int h) k a[c]?:=rfl;exact ax i<|Q e<|(qm<|decide_eq_true w).trans<|qM<|zJ G
theorem HP {f:List V}(e:view hp (rC k)=.lst f)(w:f.length<=65536):yg hp .len [k]=Y (.int f.length):=(qo TP e:_).trans<|qm<|decide_eq_true w
theorem xA {l:List V}(e:view hp a=.lst l)(w:l.length<=65536):rD hp a=Y (decide<|l.length≠0):=(qo Iq e:_).trans<|qm<|decide_eq_true w
theorem adl {a:List O}{f:List V}(e:a[i]?=Y (.list f))(w:f.length<=65536):za a .wF (.ref i) []=Y (.none,a.set i<|.list f.reverse):=(EM _ _ e).trans<|qm<|decide_eq_true w
theorem Wn {a:List O}{l:List V}(e:a[i]?=Y (.list l))(w:l.length<=65536):v7 orc (.bm "list.append"<|.ref i) [v] [] [] a=Y (.none,a.set i<|.list<|l++[v]):=(qm ⟨rfl,rfl,rfl⟩:(if "list.append"="list.append"/\([]:List ba)=[]/\([]:List V)=[] then Jo a .uX (.ref i) [v] else N)=_).trans<|(EM _ _ e).trans<|qm<|decide_eq_true w
theorem Kz {U:List Nat}{y:St}{z:List O}{l:List V}(e:(ev g j).E U x y=Y (.bm "list.append"<|.ref i,st1))(k:sM (ev g j) U as st1=Y ([v],⟨loc,z⟩))(n:z[i]?=Y (.list l))(w:l.length<=65536) :
  (ev g<|j+1).E U (.call x as [] []) y=Y (.none,⟨loc,z.set i<|.list<|l++[v]⟩):=Co (st3:=⟨loc,z⟩) e k rfl<|Wn n w
theorem Cz {x:St}{a:List V}(e:w8 x.hp (.tS q b d)=Y a):N6 x (.tS q b d)=Y (a,N,x):=(qM e:(w8 x.hp<|.tS q b d).map (λa=>(a,N,x))=_)
theorem zG {c h:Nat}(G:h<2^9000):aQ (c:Int) (h:Int)=false:=BN<|.inr<|bits_le.mpr G
theorem wM {a j:List V}(w:a.length+j.length<=65536):sL hp .Add (.lst a) (.lst j)=Y (.lst<|a++j):=by show (if q6 (a.length+j.length)=true then _ else _)=_;refine ax (qm<|show q6 (a.length+j.length)=true from decide_eq_true w) rfl
def gT (y:Ev)(U:List Nat)(a:X)(f:List X)(j:List Tg)(v:List X)(G:List<|List X)(x:St):Option<|List V×St:=match B3 y U f x with
 |Y (true,x)=>yd y U a j v G x|Y (false,x)=>Y ([],x)
 |N=>N
theorem wq {U v:Type}(b:U->v):∀a:List U,(a.flatMap λx=>[b x])=a.map b
 |[]=>rfl|x::a=>ax c_<|Q (wq b a) rfl
theorem A7 {U v:Type}(b:U->Bool)(d:U->v):∀a:List U,(a.flatMap λx=>if b x=true then [d x] else [])=(a.filter b).map d
 |[]=>rfl|x::a=>by
  refine ax c_<|Q (A7 b d a)<|Q (dK ..) ?_
  cases b x<;>rfl
theorem Zg {y:Ev}{U:List Nat}{x:St}(e:y.E U t x=Y (.bool b,st1)):B3 y U [t] x=Y (b,st1):=by
 refine qE e ?_
 cases b<;>rfl
section
variable {u:Type}
theorem PM {d:u->List V}:∀(l:List u),(∀a∈l,gT r M elt f [] [] [] ⟨[Y<|ρ a],hp⟩=Y (d a,⟨[Y<|ρ a],hp⟩))->∀y,∃h,s8 M (.l 0) N (gT r M elt f [] [] []) (l.map ρ) ⟨[y],hp⟩=Y (l.flatMap d,⟨[h],hp⟩)
 |[]=>@λJ y=>⟨y,rfl⟩
 |a::l=>@λb y=>(PM l (λp c=>b p<|.tail _ c)<|Y<|ρ a).elim λh e=>⟨h,wV rfl rfl (b a<|.head _) e⟩
theorem O7 {d:u->List V}{l:List u}(e:tK r M i st=Y (l.map ρ,N,st))(g:∀G∈l,gT r M elt f [] [] [] ⟨[Y<|ρ G],st.hp⟩=Y (d G,⟨[Y<|ρ G],st.hp⟩))(w:(l.flatMap d).length<=65536) :
  rT r M (.comp elt [.l 0] [i] [f] 1 0) st=Y (.list<|l.flatMap d,st):=
 (PM l g N).elim λy j=>qM<|D0 (n:=1) e j w
theorem u5 {l:List u}(e:tK (ev orc j) M i st=Y (l.map ρ,N,st))(JO:∀G∈l,(ev orc j).E M elt ⟨[Y<|ρ G],st.hp⟩=Y (g G,⟨[Y<|ρ G],st.hp⟩))(w:l.length<=65536) :
  (ev orc<|j+1).E M (.comp elt [.l 0] [i] [[]] 1 0) st=Y (.lst<|l.map g,st):=J (wq g l)<|qM<|O7 (f:=[]) e (λG a=>zk<|JO G a)<|Q (wq ..)<|Q (ao ..) w
theorem xP {l:List u}(p:u->Bool)(e:tK (ev h j) M i st=Y (l.map ρ,N,st))(aef:∀G∈l,(ev h j).E M q ⟨[Y<|ρ G],st.hp⟩=Y (.bool<|p G,⟨[Y<|ρ G],st.hp⟩))(JO:∀G∈l,p G=true->(ev h j).E M elt ⟨[Y<|ρ G],st.hp⟩=Y (g G,⟨[Y<|ρ G],st.hp⟩))(w:l.length<=65536) :
  (ev h<|j+1).E M (.comp elt [.l 0] [i] [[q]] 1 0) st=Y (.lst<|(l.filter p).map g,st):=by
 refine J (A7 p g l)<|qM<|O7 e (λG a=>?_)<|Q (A7 ..)<|Q (ao ..)<|aa (cG ..) w
 delta gT;refine Q (Zg<|aef G a) ?_
 cases n:p G with
 |false=>rfl|true=>exact zk<|JO G a n
end
def K2 (h:Nat) (U:Nat):Prop:=∀(t T n:Nat)(a:List O),0<n->n<=U->2^(n-1)<=T->T<2^n->t<T*2^n->(qz h).top 21 [.int t,.int T,.int n] [] [] a=Y (.tup [.int (t/T:Nat),.int (t%T:Nat)],a)
def acL (h:Nat) (U:Nat):Prop:=∀(c f d e n:Nat)(a:List O),0<n->n<=U->2^(n-1)<=d->d<2^n->e<2^n->f<2^n->c<d*2^n+e->
 (qz h).top 28 [.int c,.int f,.int (d*2^n+e:Nat),.int d,.int e,.int n] [] [] a=Y (.tup [.int ((c*2^n+f)/(d*2^n+e):Nat),.int ((c*2^n+f)%(d*2^n+e):Nat)],a)
theorem aax (i:vC) (y h j T q:Option V) (s a:Int) (o:Nat) (G:a<o) (w:-2*(o:Int)<=a):∃p H:Int,p*o+H=s*o+a/\0<=H/\H<o/\
  (ev i 60).S [] YY ⟨[y,h,Y<|.int o,j,T,q,Y<|.int s,Y<|.int a],[]⟩=Y (.next,⟨[y,h,Y<|.int o,j,T,q,Y<|.int p,Y<|.int H],[]⟩):=by
 by_cases U:a<0
 .by_cases k:a+o<0
  .exact uv (s-1-1) (a+o+o) (by refine Q (eK ..)<|Q (eK ..) ?_;lia) (by lia) (by lia)<|Pk<|Dq rfl (dt U) rfl (Dq rfl (dt k) rfl<|Dr rfl<|df<|by lia)
  .exact uv (s-1) (a+o) (by refine Q (eK ..) ?_;lia) (by lia) (by lia)<|Pk<|Dq rfl (dt U) rfl (Dr rfl<|df k)
 .exact uv s a rfl (bP.mp U) G<|Pk<|Dr rfl (df U)
theorem X7 (h L v x I A t:Nat) (w:L<=16000) (h2:K2 h L) (H:0<t) (i:t<=L) (b:2^(t-1)<=I) (U:I<2^t) (k:A<2^t) (s:v<I*2^t+A) (z:Option V) :
  ∃q0 g:Nat,v=q0*I+g/\q0<2^t/\(g<I\/q0=2^t-1)/\(ev (qz h) 60).S [] YZ ⟨[Y<|.int v,Y<|.int x,z,Y<|.int I,Y<|.int A,Y<|.int t,N,N],[]⟩ =
   Y (.next,⟨[Y<|.int v,Y<|.int x,z,Y<|.int I,Y<|.int A,Y<|.int t,Y<|.int q0,Y<|.int g],[]⟩):=by
 by_cases j:v/2^t=I
 .have a:I*2^t<=v:=J j<|Nat.div_mul_le_self _ _
  have G:1<=2^t:=j';refine uv (2^t-1) (v-I*2^t+I) ?_ (hZ (bx _)<|ag _) (.inr rfl) ?_
  .refine Q (Nat.sub_mul ..)<|Q (gM ..)<|Q (bS (2^t) I) ?_
   have:I<=I*2^t:=gN _ G;generalize I*2^t=y at *
   clear j b U k s;exact M0 a this
  .refine tY (qW (qy rfl rfl<|Bg v t) rfl<|dt<|qo _ j) rfl<|rM<|qU (sY<|qp (qy (qy rfl rfl<|RY t<|by lia) rfl<|vi ?_)<|qH<|qy (qy rfl (qy rfl rfl<|CR I t t U (by lia)<|by lia) rfl) rfl<|vi ?_) rfl
   .exact (ft G).symm
   .exact J (ft a) rfl
 .have a:v/2^t<I:=ct (bO (by rw[cg<|bx _,jf,gM];exact eH s<|cN k _:v/2^t<I+1)) j;have T:v<I*2^t:=by rwa [cg<|bx _] at a
  exact uv (v/I) (v%I) (Q (bS ..)<|(d5 _ _).symm) (by rwa [cg<|av (dZ _) a,bS]) (.inl<|dr _<|av (dZ _) a)<|sG (qW (qy rfl rfl<|Bg v t) rfl<|df λo=>j<|cW o) rfl<|rM<|qU (call_top rfl<|h2 v I t [] H i b U T) rfl
section
variable {n q0 g f d e c:Nat}
theorem ag_ (h:c=q0*d+g) (d3:g<d\/q0=2^n-1) (G:f<2^n) (T:c<d*2^n+e) (i:((c*2^n+f:Nat):Int)=(q0:Int)*((d*2^n+e:Nat):Int)+(((g*2^n+f:Nat):Int)-(q0*e:Nat))):(((g*2^n+f:Nat):Int)-(q0*e:Nat))<((d*2^n+e:Nat):Int):=by
 rcases d3 with d3|d3
 .have w:(g+1)*2^n<=d*2^n:=cz _ d3;rw[jf,gM] at w
  generalize q0*e=x,d*2^n=y,g*2^n=z at *
  exact b7 (Int.sub_le_self _<|aC x)<|bo.mpr<|ai (cN G z)<|aa w<|aM y e
 .have w:(c+1)*2^n<=(d*2^n+e)*2^n:=cz _ T;rw[jf,gM] at w
  have o:(q0:Int)*((d*2^n+e:Nat):Int)=((d*2^n+e)*2^n:Nat)-((d*2^n+e:Nat):Int):=by rw[d3,ft j',eK,fe<|d*2^n+e,cu];exact qo _<|dO _
  rw[o] at i
  generalize (d*2^n+e)*2^n=x,d*2^n+e=y,c*2^n=u,(((g*2^n+f:Nat):Int)-(q0*e:Nat))=z at *
  clear h d3 T o;exact Ng G i w
theorem adY (w:2^(n-1)<=d) (G:0<n) (T:q0<2^n) (k:e<2^n):-2*((d*2^n+e:Nat):Int)<=(((g*2^n+f:Nat):Int)-(q0*e:Nat)):=by
 have h:2^n=2*2^(n-1):=J (mA ..)<|qo _ (aH G).symm
 have i:q0*e<=2^n*2^n:=dG (bl T)<|bl k
 have b:2^n*2^n<=2*(d*2^n):=J (fR ..)<|cz _<|Q h<|aU 2 w
 generalize q0*e=x,2^n*2^n=y,d*2^n=u,g*2^n=z at *
 exact aB (bT<|ji 2 _)<|aB (jX<|bB.mpr<|aa i<|aa b<|aU 2<|aM u e)<|aB (bT (Int.zero_sub _).symm)<|ij (aC _) _
theorem VB (G:d<2^n) (T:e<2^n) (k:c<d*2^n+e) (h:c=q0*d+g):g<2^(n+n+1):=by
 have w:d*2^n+e<=2^n*2^n+2^n:=bq (cz _<|bl G)<|bl T
 have i:2^n<=2^n*2^n:=gN _<|bx _
 refine Q (iJ ..)<|Q (cJ ..) ?_
 generalize q0*d=x,2^n*2^n=y,d*2^n=u at *
 exact av (h▸b8 g x)<|ai k<|aa w<|aa (aP i y)<|aK (jU y).symm
end
theorem aid (m NNq:Nat) (hN:NNq<=16000) (h2:K2 m NNq):acL (m+1) NNq:=λc f d e n hp hn JL c1 c2 c3 c4 c5=>by
 refine rE m rfl rfl rfl rfl rfl (hp':=[]) (v:=.tup [.int ((c*2^n+f)/(d*2^n+e):Nat),.int ((c*2^n+f)%(d*2^n+e):Nat)]) (yw (X7 m NNq c f d e n hN h2 hn JL c1 c2 c3 c5<|Y<|.int (d*2^n+e:Nat)) λq0 g d1 d2 d3 d4=>?_) rfl;have hA:((c*2^n+f:Nat):Int)=(q0:Int)*((d*2^n+e:Nat):Int)+(((g*2^n+f:Nat):Int)-(q0*e:Nat)):=by refine Q d1 ?_;push_cast;clear d4 d3 h2;grind
 refine yw (aax (qz m) (Y<|.int c) (Y<|.int f) (Y<|.int d) (Y<|.int e) (Y<|.int n) q0 (((g*2^n+f:Nat):Int)-(q0*e:Nat)) (d*2^n+e) (ag_ d1 d3 c4 c5 hA)<|adY c1 hn d2 c3) λq' r' f1 f2 f3 f4=>?_
 have g2:=(oh (a:=((c*2^n+f:Nat):Int))<|bo.mpr<|av (dZ _) c5).mpr<|rj (by refine Q hA<|J f1<|Q (cu ..)<|Q (gp ..) rfl) f2 f3
 obtain rfl:=g2.1;obtain rfl:=g2.2;refine qI d4<|qI (qU (qy (qy (qy rfl rfl<|CR g n _ (VB c2 c3 c5 d1) (aa (cb<|bq (aa JL hN)<|aa JL hN)<|by decide)<|by lia) rfl<|(ack _ _).trans<|vi<|Qu g f n c4) (qy rfl rfl<|(xU q0 e n n d2 c3 (by lia)<|by lia).trans<|vi (fe ..).symm) rfl) rfl)<|qI f4<|tu<|sy<|sY<|qp rfl<|qH rfl
theorem PH {t:Nat}(G:0<b):(a/t/b)*t+(a/t%b*t+a%t)/b=a/b/\(a/t%b*t+a%t)%b=a%b:=by
 have e:a=b*(a/t/b*t)+(a/t%b*t+a%t):=(d5 a t).symm.trans<|(qo (·+a%t)<|(qo (t*·) (d5 (a/t) b).symm).trans<|by refine Q (ie ..)<|Q (oV ..)<|Q (bS t<|a/t/b)<|Q (bS t<|a/t%b) rfl).trans<|b_ ..
 constructor
 .conv=>rhs;rw[e]
  rw[pM G]
 .conv=>rhs;rw[e]
  rw[Nat.mul_add_mod]
section
variable {a b n p h A c:Nat}
theorem aes (w:2^(n-1)<=b)(G:0<n)(e:b*2^p=c)(hh:n+p=2*h)(T:0<h):2^(h-1)*2^h<=c:=by
 have:2^(n-1)*2^p<=c:=e▸cz _ w;rw[<- cJ] at this ⊢
 cases n with
 |zero=>exact absurd G<|b9 0
 |succ n=>cases h with
  |zero=>exact absurd T<|b9 0
  |succ h=>
   exact Q (cE<|(cm h<|h+1).symm.trans<|(ic<|h+1).symm.trans<|hh.symm.trans<|cm n p) this
theorem aer (e:a*2^p=A)(i:b*2^p=c)(o:2^(n+p)=2^h*2^h)(G:a<b*2^n):A<c*2^h*2^h:=by
 have:a*2^p<b*2^n*2^p:=iK G<|bx _
 rw[e,oK,i] at this
 exact ai this<|Q (fR ..)<|J o<|aU _<|aX (by decide)<|aM _ _
theorem aeq (G:0<c):(A/2^h%c*2^h+A%2^h)/c<2^h:=by
 rw[cg G];have w:=cz (2^h)<|oU<|dr (A/2^h) G
 rw[ku,bS c] at w
 exact ai (cN (dr _<|bx _) _) w
theorem ahE (d):d%2=0\/d%2=1:=Nat.mod_two_eq_zero_or_one d
theorem adN (e:n%2=p):∃h,n+p=2*h:=⟨n/2+p,(qo (·+p) (J e<|(d5 n 2).symm:n=2*(n/2)+p)).trans<|by refine Q (ie ..)<|Q (ic p)<|Q (b_ ..) rfl⟩
theorem acU (o:p=0\/p=1)(G:a<2^(n+n))(T:b<2^n)(w:n<=16000):(ev orc 60).S [] Y4 ⟨[Y<|.int a,Y<|.int b,Y<|.int n,Y<|.int p,N,N,N,N,N,N,N],[]⟩ =
   Y (.next,⟨[Y<|.int (a*2^p:Nat),Y<|.int (b*2^p:Nat),Y<|.int (n+p:Nat),Y<|.int p,N,N,N,N,N,N,N],[]⟩):=by
 rcases o with rfl|rfl
 .exact Q (ni ..)<|Q (eJ ..)<|Q (eJ ..)<|sG rfl rfl rfl
 .exact tY rfl rfl<|rg (CV rfl rfl (Q_ a _ G<|aa (bq w w)<|by decide) rfl)<|rg (CV rfl rfl (Q_ b n T<|bJ w) rfl)<|rM<|CV rfl rfl rfl rfl
theorem acT (o:p=0\/p=1)(i):(ev orc 60).S [] Y3 ⟨[l0,l1,l2,Y<|.int p,l4,l5,l6,l7,l8,Y<|.int (i*2^p:Nat),l10],[]⟩=Y (.next,⟨[l0,l1,l2,Y<|.int p,l4,l5,l6,l7,l8,Y<|.int i,l10],[]⟩):=by
 rcases o with rfl|rfl
 .exact Q (ni ..)<|Q (eJ ..)<|sG rfl rfl rfl
 .exact tY rfl rfl<|rM<|CV rfl rfl (abj _)<|Q (Nat.mul_div_cancel _<|show 0<2^1 by decide) rfl
theorem aip {U i:Nat}(G:¬(U:Int)-i<=4000) (w:U<=i+i):4000<i:=gI.mp λh=>G<|Int.sub_right_le_of_le_add<|bB.mpr<|aa w<|a8 h i
theorem aio (NNq:Nat) (hN:NNq<=16000) (JL:n<=NNq) (hn:0<n) (hs:¬(au (a:Int):Int)-n<=4000) (ha:au (a:Int)<=n+n) (hh:n+p=2*h) (hp:p=0\/p=1):4000<NNq/\h<=(NNq+1)/2/\0<h/\n+p<=50000/\h<=50000:=
 have p1:p<=1:=hp.elim (λe=>Q e<|dZ 1) λe=>aK e
 have n1:n+p<=50000:=aa (bq (aa JL hN) p1) (by decide)
 (Ef (ai (aip hs ha) JL) ((nK<|by decide).mpr<|Q (bS ..)<|J hh<|bq JL p1) (eO λe=>by rw[e] at hh;exact absurd (Nat.eq_zero_of_add_eq_zero_right hh)<|bw hn) n1<|aa (hh▸gY h (by decide)) n1)
end
theorem G7 (d NNq)(w:NNq<=16000)(f:4000<NNq->acL d ((NNq+1)/2)):K2 (d+1) NNq:=λa b n j I i o u k=>by
 refine rE d rfl rfl rfl rfl rfl (hp':=[]) (v:=.tup [.int (a/b:Nat),.int (a%b:Nat)]) ?_ rfl;have s:0<b:=ai (bx _) o;have e:=Yo o u I;have T:a<2^(n+n):=Q (cJ ..)<|eH k<|iK u<|bx _
 by_cases x:(au (a:Int):Int)-n<=4000
 .skip
  exact tu<|tY (qW rfl rfl<|dt x) rfl<|tN<|sy<|ug rfl<|U0 a b s<|BN<|Q e<|.inl<|aa (bB.mp<|Int.le_add_of_sub_right_le x)<|bz 4000 n▸aP (by decide) n
 have L:=ahE n;generalize hpp:n%2=p at L
 refine rN (adN hpp) λh hh=>Ve (aio NNq w i I x (bits_le.mpr T) hh L) λU G hh0 hnp hh5=>qI (zZ<|qW rfl rfl<|df x)<|qI (qU (qy rfl rfl<|(WI _ _).trans<|vi<|(YF n).trans<|qo _ hpp) rfl)<|qI (acU L T u<|aa i w) ?_
 generalize hA:a*2^p=A;generalize hB:b*2^p=c;have HV:0<c:=J hB<|Nat.mul_pos s<|bx _
 have hX:2^(n+p)=2^h*2^h:=by refine Q hh<|J (cJ ..)<|Q (ic ..) rfl
 have q:=aer hA hB hX k;have Wb:c/2^h*2^h+c%2^h=c:=J (bS (2^h) _)<|d5 _ _
 have xS:0<2^h:=bx _;have y:2^(h-1)<=c/2^h:=(nK xS).mpr<|aes o I hB hh hh0
 have k2:c/2^h<2^h:=(cg xS).mpr<|J hB<|J hX<|Q (cJ ..)<|iK u<|bx _
 have H:=(f U) (A/2^(n+p)) (A/2^h%2^h) (c/2^h) (c%2^h) h [] hh0 G y k2 (dr _ xS) (dr _ xS)<|Q Wb<|by rwa [hX,cg<|Nat.mul_pos xS xS,<-fR]
 rw[Wb,(Q hX<|J (nk ..)<|Q (bS ..)<|d5 _ _:A/2^(n+p)*2^h+A/2^h%2^h=A/2^h)] at H
 have d2:=(f U) (A/2^h%c) (A%2^h) (c/2^h) (c%2^h) h [] hh0 G y k2 (dr _ xS) (dr _ xS)<|Q Wb<|dr _ HV
 rw[Wb] at d2
 obtain ⟨e1,e2⟩:=PH HV;have t:A/2^h/c<2^h:=by rw[cg HV,cg xS,bS (2^h) c];exact q
 have g:=Qu (A/2^h/c) ((A/2^h%c*2^h+A%2^h)/c) h<|aeq HV
 rw[e1,(by refine J hA<|J hB<|Q (Nat.mul_div_mul_right _ _<|bx _) rfl:A/c=a/b)] at g
 have m1:∀z:Nat,sL [] .BitAnd (.int z) (.int ((2^h-1:Nat):Int))=Y (.int ((z%2^h:Nat):Int)):=λz=>(WI _ _).trans<|vi<|KV z h
 refine qI (qU (qy rfl rfl<|(KL _).trans<|vi<|qo _<|Q hh<|Nat.mul_div_cancel_left _<|by decide) rfl) (qI (qU (qy (qy rfl rfl<|RY h hh5) rfl<|(uj _ _).trans<|vi (ft xS).symm) rfl)
  (qI (qU (sY<|qp (qy rfl rfl<|Bg c h)<|qH<|qy rfl rfl<|m1 c) rfl)
  <| qI (qU (call_top (qp (qy rfl rfl<|Bg A<|n+p)<|qp (qy (qy rfl rfl<|Bg A h) rfl<|m1 _) rfl) H) rfl)<|qI (qU (call_top (qp rfl<|qp (qy rfl rfl<|m1 A) rfl) d2) rfl) ?_))
 exact Q e2<|Q (by refine J hA<|J hB<|Q (Nat.mul_mod_mul_right ..) rfl:A%c=a%b*2^p)<|qI (acT L _)<|tu<|sy<|sY<|qp (qy (qy rfl rfl<|CR (A/2^h/c) h h t hh5 hh5) rfl<|(ack _ _).trans<|vi g)<|qH rfl
theorem Kk:∀(j U m:Nat),U<=4000*2^j->U<=16000->2*j+1<=m->K2 m U
 |0,U,m+1,w,d,J=>G7 m U d λh=>absurd h<|cV.mpr w
 |j+1,U,m+2,w,d,T=>G7 (m+1) U d λh=>aid m _ (aa (ig<|a8 d 1)<|by decide)<|Kk j _ m (bO<|jW<|pq<|da<|aa w<|aK<|(qo _<|bS ..).trans<|oV ..) (aa (ig<|a8 d 1)<|by decide)<|lY T
theorem Yc (d)(w:5<=d):K2 d 16000:=Kk 2 16000 d (ag _) (ag _) (by omega)
noncomputable def sb (c:Nat):Nat->Nat->List Nat
 |J,0=>[]
 |x,t+1=>x%2^c::sb c (x/2^c) t
noncomputable def valN (c:Nat):List Nat->Nat
 |[]=>0|d::l=>d+2^c*valN c l
theorem A_ (c):∀(w t:Nat),(sb c t w).length=w
 |0=>@λJ=>rfl
 |w+1=>@λt=>qo (·+1)<|A_ c w _
theorem Mr (c):∀(w t:Nat),∀T∈sb c t w,T<2^c
 |0=>@λJ J h=>nomatch h
 |w+1=>@λt T h=>by
  rcases aE.mp h with rfl|h
  .exact dr _<|bx _
  .exact Mr c w _ T h
theorem Kn (c):∀(u t T:Nat),sb c T (u+t)=sb c T u++sb c (T/2^(c*u)) t
 |0=>@λt T=>by show sb c T (0+t)=sb c (T/1) t;exact Q (bW t)<|Q (Nat.div_one T) rfl
 |u+1=>@λt T=>by
  refine Q (show u+1+t=(u+t)+1 by exact cm _ _) ?_;show _::sb c (T/2^c) (u+t)=(_::sb c (T/2^c) u)++_;refine Q (Kn c u t ..)<|ax kM ?_
  congr 2;refine Q (nk ..)<|J (cJ ..)<|Q (dS ..)<|Q (bz ..) rfl
theorem Km (c):∀(u t:Nat),sb c (t%2^(c*u)) u=sb c t u
 |0=>@λt=>rfl
 |u+1=>@λt=>by show t%2^(c*(u+1))%2^c::sb c (t%2^(c*(u+1))/2^c) u=t%2^c::sb c (t/2^c) u;rw[(by refine J (cJ ..)<|Q (dS ..)<|Q (bz ..) rfl:2^(c*(u+1))=2^c*2^(c*u)),Nat.mod_mul_right_mod,Nat.mod_mul_right_div_self,Km c u]
theorem Ly (c):∀(w t:Nat),t<2^(c*w)->valN c (sb c t w)=t
 |0=>@λt G=>by simp at G;subst G;rfl
 |w+1=>@λt G=>by
  show t%2^c+2^c*valN c (sb c (t/2^c) w)=t;rw[Ly c w]
  .exact Nat.mod_add_div _ _
  .rw[cg<|bx _,<-cJ];exact G
theorem Cs (c):∀(l f:List Nat),valN c (l++f)=valN c l+2^(c*l.length)*valN c f
 |[]=>@λf=>by show valN c f=0+1*valN c f;exact ((bW _).trans<|gM _).symm
 |d::l=>@λf=>by show d+2^c*valN c (l++f)=d+2^c*valN c l+2^(c*(l.length+1))*valN c f;rw[Cs c l f,dS,cJ,ie];exact J (fR ..)<|Q (bS (2^c)<|2^(c*l.length))<|(b_ _ _ _).symm
theorem PA (c):∀(l:List Nat),(∀d∈l,d<2^c)->valN c l<2^(c*l.length)
 |[]=>@λJ=>bx _
 |d::l=>@λb=>by
  show d+2^c*valN c l<2^(c*(l.length+1));rw[dS,cJ,bS _<|2^c];have w:2^c*(valN c l+1)<=2^c*2^(c*l.length):=aU _<|PA c l λT a=>b T<|.tail _ a
  rw[ie,eJ] at w
  exact Nu (b d<|.head _) w
def ada:eV:=⟨.function,[("x",.local),("L",.local),("R",.local),("mid",.local),("shift",.local),("upper",.local),("lower",.local),("a_digits",.free),("inner",.free),("n",.free)],false,false,Au.scope.more⟩
def ad8:K:=⟨ada,["x","L","R","mid","shift","upper","lower"],["a_digits","inner","n"],"_int2digits.<locals>.inner.<locals>.",N⟩
def YV:XS:=.rf (.cmp (.bin .Add (.l 1)<|.i 1) [.Eq] [.l 2]) [.wj (.cell 0) (.l 1)<|.l 0,.ret<|.k .none] []
def YU:XS:=.asg (.l 3)<|.bin .RShift (.bin .Add (.l 1)<|.l 2)<|.i 1
noncomputable def YT:XS:=.asg (.l 4)<|.bin .Mult (.bin .Sub (.l 3)<|.l 1)<|.cell 2
noncomputable def YS:XS:=.asg (.l 5)<|.bin .RShift (.l 0)<|.l 4
noncomputable def YR:XS:=.asg (.l 6)<|.bin .BitXor (.l 0)<|.bin .LShift (.l 5)<|.l 4
noncomputable def YQ:XS:=.expr<|.call (.cell 1) [.l 6,.l 1,.l 3] [] []
noncomputable def YP:XS:=.expr<|.call (.cell 1) [.l 5,.l 3,.l 2] [] []
def OV:Fn:=⟨ad8,["x","L","R"],[.l 0,.l 1,.l 2],.inl [YV,YU,YT,YS,YR,YQ,YP]⟩
theorem Wv:AA g0 [] Au=Y OV:=by kernel_rfl
noncomputable def RI:List<|ba×Nat:=[("n",0),("inner",2),("a_digits",1)]
def QV (c:Nat)(a:List V):List O:=[.cell<|Y<|.int c,.cell<|Y<|.ref 3,.cell<|Y<|.ref 4,.list a,.fn Au RI N]
theorem ZM (g)(a)(f):tW g OV RI a f=match Vm.bindAll [1,2,0] [.l 0,.l 1,.l 2] a ⟨[N,N,N,N,N,N,N],f++[]⟩ with
 |Y st=>we g [1,2,0] [YV,YU,YT,YS,YR,YQ,YP] st|N=>N:=by
 delta tW;exact Q (by kernel_rfl:wg RI OV.B.scope.names f.length=Y [1,2,0]) rfl
theorem RW (c m t T:Nat)(l:List V)(w:T+1<=l.length)(i:l.length<=65536)(G:t<2^c) :
  (qz<|m+1).zU Au RI [.int t,.int T,.int (T+1:Nat)] (QV c l)=Y (.none,QV c<|l.take T++(nats (sb c t 1)++l.drop (T+1))):=by
 have e:l.set T (V.int t)=l.take T++(nats (sb c t 1)++l.drop (T+1)):=by rewrite [List.set_eq_take_append_cons_drop,qm<|show T<l.length from w,sb];exact Q (px G) rfl
 exact Q (AB m Wv rfl)<|Q (ZM ..)<|J e<|tu<|tY (qW (qy rfl rfl<|rW _ _) rfl<|dt rfl) rfl<|u7 (D7 rfl rfl rfl<|Xw rfl w i)<|tN<|sy rfl
theorem Gr {t:Nat}(w:L<=q_)(i:q_<=t):t-L=(q_-L)+(t-q_):=by obtain ⟨z,rfl⟩:=gQ w;obtain ⟨A,rfl⟩:=gQ i;refine Q (b_ ..)<|Q (bc ..)<|Q (bc ..)<|J (b_ ..)<|Q (bc ..) rfl
theorem JQ (c h):(c+(c+h))/2=c+h/2:=by refine J (b_ ..)<|J (ic ..) ?_;rw[pM<|by decide]
theorem VO {h:Nat}(G:L<h)(H:¬h=L+1)(e:(L+h)/2=q_):L<q_/\q_<h/\h-L=(q_-L)+(h-q_):=by
 refine rN (gQ<|bl G) λz i=>?_;subst i
 have w:2<=z:=ct (Nat.lt_of_add_lt_add_left G) λn=>H<|Q n rfl
 rw[JQ] at e
 subst e;exact Q (bc ..)<|Q (bc ..)<|Q (n4 ..) ⟨jv<|Nat.div_pos w<|by decide,cN (Nat.div_lt_self (ai (by decide) w)<|ag _) _,(cM<|Nat.div_le_self ..).symm⟩
theorem X2 {c t:Nat}(G:c<2*(h+1))(w:c<=2*t):c<=t+h:=(Nat.lt_or_ge h t).elim (λT=>aa (bO (G:c<(2*h+1)+1))<|by show 2*h+1<=t+h;exact Q (ic ..)<|Q (cD ..)<|a8 T h) λT=>aa w<|Q (ic ..)<|aP T t
theorem QG {h:Nat}(G:L<h)(w:h-L<=2*2^k)(e:(L+h)/2=q_):q_-L<=2^k/\h-q_<=2^k:=by
 obtain ⟨z,rfl⟩:=gQ (bl G);rw[JQ] at e
 subst e;rw[bc] at w
 exact Q (bc ..)<|Q (n4 ..) ⟨Nat.div_le_of_le_mul w,Nat.sub_le_of_le_add<|X2 (Nat.lt_mul_div_succ z<|by decide) w⟩
theorem HN (w:c<=65536):((c:Nat):Int).natAbs<2^17:=av w (by decide)
theorem aeD (c h t q_ R)(a:List V)(G:t<q_)(T:q_<R)(w:R<=a.length)(e:R-t=(q_-t)+(R-q_)):(a.take t++(nats (sb c h<|q_-t)++a.drop q_)).take q_++(nats (sb c (h/2^(c*(q_-t)))<|R-q_)++(a.take t++(nats (sb c h<|q_-t)++a.drop q_)).drop R)=a.take t++(nats (sb c h<|R-t)++a.drop R):=by
 have i:(a.take t++nats (sb c h<|q_-t)).length=q_:=by refine Q (aG ..)<|Q (fA ..)<|Q (rF ..)<|Q (A_ ..)<|Q (iz<|aa (bl<|eH G T) w)<|Q (cM<|bl G) rfl
 refine Q ((a9 ..).symm:a.take t++(nats (sb c h<|q_-t)++a.drop q_)=(a.take t++nats (sb c h<|q_-t))++a.drop q_)<|Q (List.take_left' i) ?_;rw[List.drop_append,i,mZ<|J i.symm<|bl T,dY,jQ,e,Kn,AZ,a9,a9,cM<|bl T]
theorem XW (n:Nat)(I:0<n):∀(h t:Nat)(T L R:Nat)(l:List V),h+1<=t->L<R->R-L<=2^h->R<=l.length->l.length<=65536->n*(R-L)<=50000->T<2^(n*(R-L))->
  (qz t).zU Au RI [.int T,.int L,.int R] (QV n l)=Y (.none,QV n<|l.take L++(nats (sb n T<|R-L)++l.drop R)):=by
 intro h
 induction h with
 |zero=>
  intro t T L R l w a i b d G k;refine rN (gB<|aa (b8 1 _) w) λt e=>?_;subst e
  obtain rfl:R=L+1:=fO (nh.mp i) a;rw[bc] at k ⊢
  exact RW n t T L l b d (by rwa [eJ] at k)
 |succ h j=>
  intro t T L R l w a i b d G k;refine rN (gB<|aa (b8 1 _) w) λt o=>?_;subst o
  by_cases p:R=L+1
  .subst p;rw[bc] at k ⊢
   exact RW n t T L l b d (by rwa [eJ] at k)
  generalize hM:(L+R)/2=q_;refine qN (VO a p hM) λs q z=>?_
  rw[mA] at i
  refine rG (QG a i hM) λU u=>?_
  have v:T/2^(n*(q_-L))<2^(n*(R-q_)):=by rewrite [cg<|bx _];exact Q (bS ..)<|J (by refine J (cJ ..)<|J (ie ..)<|Q z rfl:2^(n*(R-L))=2^(n*(q_-L))*2^(n*(R-q_))) k
  have H:n*(R-L)=n*(q_-L)+n*(R-q_):=by refine J (ie ..)<|Q z rfl
  have y:n*(q_-L)<=50000:=aa (H▸aM _ _) G;have x:n*(R-q_)<=50000:=aa (H▸b8 _ _) G;have c:=j t (T%2^(n*(q_-L))) L q_ l (aJ w) s U (aa (bl q) b) d y<|dr _<|bx _
  have A:(l.take L++(nats (sb n T<|q_-L)++l.drop q_)).length=l.length:=by refine Q (aG ..)<|Q (aG ..)<|Q (fA ..)<|Q (rF ..)<|Q (A_ ..)<|Q (kJ ..)<|Q (iz<|aa (bl a) b)<|J (Gr (bl s)<|aa (bl q) b)<|Q (cM<|aa (bl a) b) rfl
  rw[Km] at c
  have i2:=j t (T/2^(n*(q_-L))) q_ R (l.take L++(nats (sb n T<|q_-L)++l.drop q_)) (aJ w) q u (J A.symm b) (J A.symm d) x v;rw[aeD n T L q_ R l s q b z] at i2
  have hmul:∀f,sL f .Mult (.int ((q_-L:Nat):Int)) (.int n)=Y (.int ((n*(q_-L):Nat):Int)):=λf=>
   (xU ((q_-L:Nat):Int) (n:Int) 17 17 (HN<|aa (c8 ..)<|aa (bl q)<|aa b d) (HN<|aa (aa (gN n<|je a) G)<|by decide) (by decide)<|by decide).trans<|vi<|by refine J (fe ..)<|Q (bS ..) rfl
  refine Q (AB t Wv rfl)<|Q (ZM ..) ?_
  exact qI (zZ<|qW (qy rfl rfl<|rW _ _) rfl<|df λg=>p (cW g).symm) (qI (qU (qy (qy rfl rfl<|rW _ _) rfl<|(KL<|L+R).trans<|vi<|qo _ hM) rfl)
   (qI (qU (qy (qy rfl rfl<|(uj _ _).trans<|vi (ft<|bl s).symm) rfl<|hmul _) rfl) (qI (qU (qy rfl rfl<|Bg T<|n*(q_-L)) rfl)
   <| qI (qU (qy rfl (qy rfl rfl<|CR _ (n*(q_-L)) _ v x y)<|(ae4 _ _).trans<|vi<|Pr T<|n*(q_-L)) rfl)<|qI (tU<|vP rfl rfl rfl c)<|qI (tU<|vP rfl rfl rfl i2) aib)))
noncomputable abbrev nd (c h:Nat):Nat:=(au (c:Int)+h-1)/h
theorem VJ (G:0<h):c<2^(h*nd c h)/\h*nd c h<=au (c:Int)+h-1:=by
 have e:=d5 (au (c:Int)+h-1) h;have T:=dr (au (c:Int)+h-1) G;refine ⟨bits_le.mp ?_,J e<|aM _ _⟩
 cases h with
 |zero=>exact absurd G<|b9 0
 |succ h=>exact Nat.le_of_add_le_add_right<|aa (aK e.symm)<|aP (bO T) _
theorem adU (G:0<n)(w:n<=16000)(i:x<=30000):(x+n-1)/n<=30000:=by apply bO;rw[cg G];exact ai (hZ (ai G<|b8 n x)<|ag _)<|Q (ku 30000 n)<|a8 (aa i (aU _ G:30000*1<=30000*n)) n
theorem aaj {c h:Nat}(G:0<h):(c:Int)+(h:Int)-1=((c+h-1:Nat):Int):=((jI<|aa G<|b8 h c).trans<|qo (·-1)<|iC c h).symm
theorem i2d (c j t:Nat) (a:List O) (w:18<=c) (H:0<t) (i:t<=16000) (b:au (j:Int)<=30000) :
  (qz c).top 35 [.int j,.int t] [] [] a=Y (.lst<|nats<|sb t j<|nd j t,a):=by
 obtain ⟨c,rfl⟩:∃T,c=T+1:=⟨c-1,(aH<|aa (by decide) w).symm⟩;obtain ⟨U,d⟩:=VJ H;have G:nd j t<=30000:=adU H i b;have e:sX (QV t<|nats<|sb t j<|nd j t) 9 (.ref 3)=Y (.lst<|nats<|sb t j<|nd j t):=by show (qP (sX _ 8) _).map V.lst=_;exact Q (DP ..) rfl
 refine rE c rfl rfl rfl rfl rfl ?_ e;refine qI (st1:=⟨[Y<|.int j],[.cell<|Y<|.int t,.cell<|Y<|.ref 3,.cell N,.list<|aw (nd j t)<|V.int 0]⟩) (qU (xq<|WS rfl (qy (qy (qy rfl rfl<|rW _ _) rfl<|(uj _ _).trans<|vi<|aaj H) rfl<|(λa:List O=>KN (hp:=a) (au (j:Int)+t-1) t H<|BN<|.inr<|aa (bits_le.mpr<|show t<2^17 from av i (by decide))<|by decide) _) ⟨aC _,bo.mpr<|av G<|by decide⟩) rfl)
  <| qI (WR rfl rfl) ?_
 have hlen:(aw (nd j t)<|V.int 0).length=nd j t:=g_ ..
 by_cases n:j=0
 .refine Q n ?_;clear n;have z:nd 0 t=0:=jw (by show 0+t-1<t;exact Q (bW ..)<|hZ H<|ag _);exact Q z<|qI (sG rfl rfl rfl)<|tu<|sy rfl
 .skip
  have s:0<nd j t:=by
   rcases eQ (nd j t) with h|h
   .rw[h] at U;exact absurd (Nat.lt_one_iff.mp U) n
   .exact h
  have f:=XW t H 15 c j 0 (nd j t) (aw (nd j t)<|V.int 0) (aJ<|aa (by decide) w) s (aa G<|by decide) (aK hlen.symm) (hlen.symm▸aa G (by decide)) (Q (gW ..)<|aa d<|Nh i b)<|Q (gW ..) U
  rw[gW,List.take_zero,dY,mZ<|aK hlen,bh] at f
  exact qI (tY rfl (dt λk=>n<|cW k)<|rM<|tU<|vP rfl (qp rfl<|qp rfl<|qH<|ug rfl<|(HP rfl<|hlen.symm▸aa G (by decide)).trans<|vi<|qo _ hlen) rfl f)<|tu<|sy rfl
def ac':eV:=⟨.function,[("L",.local),("R",.local),("mid",.local),("shift",.local),("digits",.free),("inner",.free),("n",.free)],false,false,w_.scope.more⟩
def ad7:K:=⟨ac',["L","R","mid","shift"],["digits","inner","n"],"_digits2int.<locals>.inner.<locals>.",N⟩
def YO:XS:=.rf (.cmp (.bin .Add (.l 0)<|.i 1) [.Eq] [.l 1]) [.ret<|.sub (.cell 0)<|.l 0] []
def YN:XS:=.asg (.l 2)<|.bin .RShift (.bin .Add (.l 0)<|.l 1)<|.i 1
noncomputable def YM:XS:=.asg (.l 3)<|.bin .Mult (.bin .Sub (.l 2)<|.l 0)<|.cell 2
noncomputable def YL:XS:=.ret<|.bin .Add (.bin .LShift (.call (.cell 1) [.l 2,.l 1] [] [])<|.l 3)<|.call (.cell 1) [.l 0,.l 2] [] []
def OU:Fn:=⟨ad7,["L","R"],[.l 0,.l 1],.inl [YO,YN,YM,YL]⟩
theorem Wu:AA g0 [] w_=Y OU:=by kernel_rfl
noncomputable def G_ (c:Nat):List<|ba×Nat:=[("n",c+1),("inner",c+2),("digits",c)]
theorem ZO (g)(c)(a)(f):tW g OU (G_ c) a f=match Vm.bindAll [c,c+2,c+1] [.l 0,.l 1] a ⟨[N,N,N,N],f++[]⟩ with
 |Y st=>we g [c,c+2,c+1] [YO,YN,YM,YL] st|N=>N:=by
 delta tW;exact Q (by kernel_rfl:wg (G_ c) OU.B.scope.names f.length=Y [c,c+2,c+1]) rfl
noncomputable def iL (a:List Int):List V:=a.map V.int
theorem r9 (a):(iL a).length=a.length:=ao ..
theorem aaO (a:List Int)(c:Nat):(iL a)[c]?=(a[c]?).map V.int:=aZ ..
theorem JF (a f):iL (a++f)=iL a++iL f:=bN
theorem L9 (q):∀(l f:List Int),Mp.tJ q (l++f)=Mp.tJ q l+q^l.length*Mp.tJ q f
 |[]=>@λf=>by refine (Q (gm ..)<|Q (dO ..)<|Q (dA ..) rfl:Mp.tJ q f=0+q^0*Mp.tJ q f)
 |c::l=>@λf=>by refine (Q (L9 q l f) ?_:c+q*Mp.tJ q (l++f)=c+q*Mp.tJ q l+q^(l.length+1)*Mp.tJ q f);rw[fG,ej,cu (q^l.length) q,dH q,jn]
theorem BW (n):∀a:List Int,(∀q∈a,q.natAbs<2^n)->(Mp.tJ (2^n) a).natAbs<2^(n*a.length)
 |[]=>@λJ=>lq
 |c::a=>@λo=>by
  refine (av (dX ..) ?_:(c+2^n*Mp.tJ (2^n) a).natAbs<2^(n*(a.length+1)));refine Q (Q (iZ ..)<|Q (p8 ..) rfl:((2:Int)^n*Mp.tJ (2^n) a).natAbs=2^n*(Mp.tJ (2^n) a).natAbs)<|Q (dS ..) ?_;rw[bz<|n*a.length,cJ]
  have w:=aU (2^n)<|BW n a λq b=>o q<|.tail _ b
  rw[dS] at w
  exact ai (n8 (o c<|.head _) _)<|Q (bz ..) w
theorem acj (a:Int)(c h:Nat)(G:a.natAbs<2^h)(w:h<=50000)(i:c<=50000):sL hp .LShift (.int a) (.int c)=Y (.int<|a*2^c):=by have b:=sP G;exact qm ⟨aC c,bB.mpr<|aa (bq (aa b w) i)<|by decide⟩
theorem Py (q)(a:List Int){R:Nat}(w:L<=q_)(i:q_<=R)(b:R<=a.length):Mp.tJ q ((a.drop L).take<|R-L)=Mp.tJ q ((a.drop L).take<|q_-L)+q^(q_-L)*Mp.tJ q ((a.drop q_).take<|R-q_):=by
 have e:(a.drop L).take (R-L)=(a.drop L).take (q_-L)++(a.drop q_).take (R-q_):=by refine Q (Gr w i)<|ax List.take_add<|Q (jQ ..)<|Q (cM w) rfl
 refine Q e<|Q (L9 ..)<|Q (fA ..)<|Q (kJ ..)<|Q (iz<|fi (aa i b) _) rfl
theorem sub_int (e:view hp dv=.lst (iL ds))(G:L<ds.length)(w:ds.length<=65536):si hp dv (.int L)=Y (.int<|ds[L]'hL):=ac2 e (by refine Q (aaO ..)<|Q (aD G) ?_;rfl)<|J ((r9 ds).symm) w
theorem WG (n m L:Nat)(hp:List O)(b:Nat)(dv:V)(ds:List Int)(hb0:hp[b]?=Y (.cell<|Y dv))(hv:view hp dv=.lst (iL ds))(hL:L+1<=ds.length)(hl:ds.length<=65536) :
  (qz<|m+1).zU w_ (G_ b) [.int L,.int (L+1:Nat)] hp=Y (.int<|Mp.tJ (2^n)<|(ds.drop L).take 1,hp):=by
 have e3:Mp.tJ (2^n) ((ds.drop L).take 1)=ds[L]'hL:=by refine Q (me hL) ?_;show ds[L]+2^n*0=_;refine Q (bE ..)<|Q (dJ ..) rfl
 exact Q (AB m Wu rfl)<|Q (ZO ..)<|Q e3<|Q (bh ..)<|tu<|tY (qW (qy rfl rfl<|rW _ _) rfl<|dt rfl) rfl<|tN<|sy<|ro (qB rfl hb0) rfl<|sub_int hv hL hl
theorem aaI (c)(I:0<c)(a:List O)(b)(k)(f)(e:a[b]?=Y (.cell<|Y k))(i:a[b+1]?=Y (.cell<|Y<|.int c))(n:a[b+2]?=Y (.cell<|Y<|.ref<|b+3))(z:a[b+3]?=Y (.fn w_ (G_ b) N))(H:view a k=.lst (iL f))(w:f.length<=65536)(hd:∀d∈f,d.natAbs<2^c)(j:c*f.length<=50000):∀(T A:Nat)(L R:Nat),T+1<=A->L<R->R-L<=2^T->R<=f.length->
  (qz A).zU w_ (G_ b) [.int L,.int R] a=Y (.int<|Mp.tJ (2^c)<|(f.drop L).take<|R-L,a):=by
 intro T
 induction T with
 |zero=>
  intro A L R g h o G;obtain ⟨A,rfl⟩:=gB (aa (b8 1 _) g);obtain rfl:R=L+1:=fO (nh.mp o) h;exact Q (bc ..)<|WG c A L a b k f e H G w
 |succ T ih=>
  intro A L R g h o G;obtain ⟨A,rfl⟩:=gB (aa (b8 1 _) g)
  by_cases p:R=L+1
  .subst p;exact Q (bc ..)<|WG c A L a b k f e H G w
  generalize hM:(L+R)/2=q_;refine qN (VO h p hM) λt s u=>?_
  rw[mA] at o
  obtain ⟨U,v⟩:=QG h o hM;have x:(Mp.tJ (2^c)<|(f.drop q_).take<|R-q_).natAbs<2^(c*(R-q_)):=by
   have:=BW c ((f.drop q_).take<|R-q_) λd y=>hd d<|List.mem_of_mem_drop<|List.mem_of_mem_take y
   rwa [fA,kJ,iz<|fi G _] at this
  have hmul:∀a,sL a .Mult (.int ((q_-L:Nat):Int)) (.int c)=Y (.int ((c*(q_-L):Nat):Int)):=λa=>
   (xU ((q_-L:Nat):Int) (c:Int) 17 17 (HN<|aa (c8 ..)<|aa (bl s)<|aa G w) (HN<|aa (aa (gN c<|ai (av (dZ _) h) G) j)<|by decide) (by decide)<|by decide).trans<|vi<|by refine J (fe ..)<|Q (bS ..) rfl
  refine Q (AB A Wu rfl)<|Q (ZO ..)<|Q (bh ..) ?_
  refine qI (zZ<|qW (qy rfl rfl<|rW _ _) rfl<|df λq=>p (cW q).symm) (qI (qU (qy (qy rfl rfl<|rW _ _) rfl<|(KL<|L+R).trans<|vi<|qo _ hM) rfl)
   (qI (qU (qy (qy rfl rfl<|(uj _ _).trans<|vi (ft<|bl t).symm) (qB rfl i)<|hmul _) rfl)
   <| tu<|sy<|qy (qy (vP (qB rfl n) rfl z<|ih A q_ R (aJ g) s v G) rfl<|acj _ (c*(q_-L)) _ x (aa (aU c<|aa (c8 _ _) G) j)<|aa (aU c<|aa (c8 _ _)<|aa (bl s) G) j) (vP (qB rfl n) rfl z<|ih A L q_ (aJ g) t U<|aa (bl s) G)<|(rW _ _).trans<|vi ?_))
  refine Q (Py (2^c) f (bl t) (bl s) G)<|Q (cu ..)<|Q (gp ..)<|J (Int.pow_mul ..) rfl
theorem Sp {f:List V}(j)(e:view hp v=.lst f):view (hp++j) v=.lst f:=by
 cases v with
 |ref c=>
  delta view at e ⊢
  dsimp only at e ⊢
  cases i:hp[c]? with
  |none=>rw[i] at e;exact V.noConfusion (e:V.ref c=V.lst f)
  |some I=>
   refine Q (bD<|(aO.mp i).1)<|Q i ?_
   rw[i] at e
   exact e
 |_=>exact e
theorem d2i (c h)(hp)(k)(f)(w:18<=c)(G:0<h)(e:view hp k=.lst (iL f))(i:rC k=k)(b:∀q∈f,q.natAbs<2^h)(o:h*f.length<=50000) :
  ∃j,(qz c).top 42 [k,.int h] [] [] hp=Y (.int<|Mp.tJ (2^h) f,hp++j):=by
 obtain ⟨c,rfl⟩:∃t,c=t+1:=⟨c-1,(aH<|aa (by decide) w).symm⟩;have d:f.length<=50000:=aa (gY _ G) o;refine ⟨[.cell<|Y k,.cell<|Y<|.int h,.cell<|Y<|.ref<|hp.length+3,.fn w_ (G_ hp.length) N],ax (Cx c rfl rfl rfl) ?_⟩;have VW:=λu=>Sp u e
 have T:(iL f).length<=65536:=J (r9 f).symm<|aa d<|by decide
 refine (qS (Ce ((AP rfl<|ve ..).trans<|qo (λH=>Y (⟨[],H⟩:St))<|IS ..)<|Ce ((AP rfl<|sD ..).trans<|qo (λH=>Y (⟨[],H⟩:St))<|yG ..) rfl) (qI (st1:=⟨[],hp++[.cell<|Y k,.cell<|Y<|.int h,.cell<|Y<|.ref<|hp.length+3,.fn w_ (G_ hp.length) N]⟩) (WR rfl ?_)<|tu (loc:=[])<|sy ?_:yX (rR (ev (qz c) 60) [hp.length,hp.length+1,hp.length+2] x5 ⟨[],hp++[.cell<|Y k,.cell<|Y<|.int h,.cell N]⟩)=_):tW (qz c) f5 [] [k,.int h] hp=_)
 .skip
  exact Q (len_app ..)<|Q (a9 ..)<|(AP rfl<|sD ..).trans<|qo (λH=>Y (⟨[],H⟩:St))<|yG ..
 by_cases n:f.length=0
 .obtain rfl:=cP.mp n;exact wB (qB rfl<|ve ..) (xA (VW _) T) rfl
 .have z:=aaI h G (hp++[.cell<|Y k,.cell<|Y<|.int h,.cell<|Y<|.ref<|hp.length+3,.fn w_ (G_ hp.length) N]) hp.length k f (ve ..) (sD ..) (sD ..) (sD ..) (VW _) (aa d<|by decide) b o 16 c 0 f.length (aJ w) (eO n) (aa d<|by decide)<|ag _
  rw[gW,pO,oY] at z
  exact vD (qB rfl<|ve ..) ((xA (VW _) T).trans<|dt<|J (r9 f).symm n)<|vP (qB rfl<|sD ..) (qp rfl<|qH<|ug (qH<|qB rfl<|ve ..)<|(λu=>(HP (J i.symm<|VW u) T).trans<|vi<|qo _<|r9 f:∀u,yg (hp++u) .len [k]=Y (.int (f.length:Nat))) _) (sD ..) z
theorem FQ (a):nats a=iL (a.map λ(c:Nat)=>(c:Int)):=by delta nats iL;exact Q (bk ..) rfl
theorem FZ (c):∀a:List Nat,Mp.tJ (2^c) (a.map λ(d:Nat)=>(d:Int))=(valN c a:Nat)
 |[]=>rfl|d::l=>by refine (Q (FZ c l) ?_:(d:Int)+2^c*Mp.tJ (2^c) (l.map λ(d:Nat)=>(d:Int))=((d+2^c*valN c l:Nat):Int));push_cast;rfl
theorem aif (c h)(a)(k)(f)(w:18<=c)(G:0<h)(e:view a k=.lst (nats f))(i:rC k=k)(hd:∀t∈f,t<2^h)(o:h*f.length<=50000) :
  ∃j,(qz c).top 42 [k,.int h] [] [] a=Y (.int (valN h f:Nat),a++j):=by
 have U:=d2i c h a k (f.map λ(t:Nat)=>(t:Int)) w G (J (FQ f) e) i (λt U=>qt (bZ.mp U) λT b n=>J n<|hd T b)<|Q (ao ..) o
 rwa [FZ] at U
noncomputable def xt (c h:Nat):List Nat->Nat->List Nat×Nat
 |[]=>@λt=>([],t)
 |d::l=>@λt=>((t*2^c+d)/h::(xt c h l<|(t*2^c+d)%h).1,(xt c h l<|(t*2^c+d)%h).2)
theorem Ik (c h):valN c [h]=h:=rfl
theorem F1 (c h):∀(l:List Nat)(t:Nat),(xt c h l t).1.length=l.length
 |[]=>@λJ=>rfl
 |d::l=>@λt=>qo (·+1)<|F1 c h l _
theorem X3 {c t:Nat}(e:b*q+s=c*Dj+d)(i:s*t+A=sZ*b+u):c*(Dj*t)+(A+t*d)=(sZ+t*q)*b+u:=by
 have n:(c*Dj+d)*t+A=(sZ+t*q)*b+u:=by refine J e<|Q (jf ..) ?_;rw[b_,i,<-b_,jf sZ,bz<|sZ*b,bS t q,oK q t b,bS b q]
 refine J n<|Q (jf ..)<|Q (fR ..)<|Q (bS d t)<|Q (b_ ..)<|Q (bz (t*d) A) rfl
theorem V2 {c:Nat}(G:c<b)(T:d<Dj):c*Dj+d<b*Dj:=ai (cN T _)<|J (ku c Dj)<|cz Dj G
theorem abg (n h)(G:0<h)(a):∀t:Nat,t<h->(∀T∈a,T<2^n)->
  (xt n h a t).2<h/\(∀z∈(xt n h a t).1,z<2^n)/\t*2^(n*a.length)+valN n a.reverse=valN n (xt n h a t).1.reverse*h+(xt n h a t).2:=by
 induction a with
 |nil=>exact λt U W=>rj U (λW c=>nomatch c)<|Q (fM ..)<|Q (Nat.mul_zero ..)<|Q (ni ..)<|Q (eJ ..)<|(gZ t).trans<|(bW t).symm.trans<|qo (·+t) (Nat.zero_mul h).symm
 |cons T a b=>
  intro t U hd;refine qN (b ((t*2^n+T)%h) (dr _ G) λA H=>hd A<|.tail _ H) λk g e=>rj k (cp.mpr ⟨(cg G).mpr<|J (bS h _)<|V2 U<|hd T<|.head _,g⟩) ?_
  show t*2^(n*(a.length+1))+valN n (T::a).reverse=valN n ((t*2^n+T)/h::(xt n h a<|(t*2^n+T)%h).1).reverse*h+(xt n h a<|(t*2^n+T)%h).2;refine Q dR ?_;rw[Cs,cw,dR,Cs,cw,F1,Ik,Ik,dS,bz<|n*a.length,cJ];exact X3 (d5 (t*2^n+T) h) e
noncomputable def ab1:List XS:=[.asg (.tup [.l 7,.l 4])<|.call (.k<|.con<|.ref 21) [.bin .Add (.bin .LShift (.l 4)<|.l 2)<|.l 6,.l 1,.l 2] [] [],.expr<|.mt .append (.l 5) [.l 7]]
theorem aaw (c h t:Nat)(w:5<=c)(H:0<h)(i:h<=16000)(b:2^(h-1)<=t)(U:t<2^h)(y j e:Option V):∀(a:List Nat)(T:Nat)(qs:List Nat)(d q:Option V),T<t->(∀z∈a,z<2^h)->qs.length+a.length<=65536->
  ∃A f,ui (ev (qz c) 59) [] (.l 6) N ab1 (nats a) ⟨[y,Y<|.int t,Y<|.int h,j,Y<|.int T,Y<|.ref 0,d,q,e],[.list<|nats qs]⟩ =
   Y (.next,⟨[y,Y<|.int t,Y<|.int h,j,Y<|.int (xt h t a T).2,Y<|.ref 0,A,f,e],[.list<|nats<|qs++(xt h t a T).1]⟩):=by
 intro a
 induction a with
 |nil=>
  intro T qs d q _ _ _;exact tH d q (Q (bh ..) rfl:_=Y (Fl.next,(⟨[y,Y<|.int t,Y<|.int h,j,Y<|.int T,Y<|.ref 0,d,q,e],[.list<|nats<|qs++[]]⟩:St)))
 |cons z l g=>
  intro T qs d q k hd n;refine se (g ((T*2^h+z)%t) (qs++[(T*2^h+z)/t]) (Y<|.int z) (Y<|.int ((T*2^h+z)/t:Nat)) (dr _<|av (dZ _) k) (λI o=>hd I<|.tail _ o)<|by refine Q aG ?_;rw[b_,bz [_].length];exact n) λA f p=>?_
  refine tH A f ?_;have G:h<=50000:=aa i (by decide);rw[AZ ..,a9] at p
  exact r_ rfl rfl (rg (qU (call_top (qp (qy (qy rfl rfl<|CR T h h (eH k U) G G) rfl<|rW _ _) rfl)<|Yc c w (T*2^h+z) t h _ H i b U<|V2 k<|hd z<|.head _) rfl)<|rM<|tU<|uL rfl rfl rfl (qH rfl)<|H_ rfl<|J ((rF qs).symm)<|aa (aM _ _) n) p
theorem aic (c a t:Nat)(hp:List O)(w:19<=c)(I:0<t)(i:au (t:Int)<=16000)(b:au (a:Int)<=30000):(qz c).top 49 [.int a,.int t] [] [] hp=Y (.tup [.int (a/t:Nat),.int (a%t:Nat)],hp):=by
 obtain ⟨c,rfl⟩:∃T,c=T+1:=⟨c-1,(aH<|aa (by decide) w).symm⟩;obtain ⟨z,e⟩:∃z,au (t:Int)=z:=⟨_,rfl⟩;have g:0<z:=J e<|Q (D3 ..)<|Q (qn<|bw I)<|fJ _
 have j:2^(z-1)<=t:=by apply gi;intro h;exact Nk e g (bits_le.mpr h)
 obtain ⟨s,w2⟩:=VJ g;have U:z<=16000:=J e i;generalize V5:sb z a (nd a z)=ds at *
 have o:ds.length=nd a z:=by refine J V5<|Q (A_ ..) rfl
 have p:∀A∈ds,A<2^z:=J V5<|Mr z _ _
 have q:ds.length<=46000:=Q o<|aa (gY _ g)<|aa w2<|aa (c8 _ _)<|bq b U
 refine qN (abg z t I ds.reverse 0 I λA x=>p A<|dy.mp x) λy d n=>?_
 have L:=F1 z t ds.reverse 0;rw[Nat.zero_mul,bW,nM,(J V5<|Ly z _ _ s:valN z ds=a)] at n
 refine se (aaw c z t (aJ<|aa (by decide) w) g U j (bits_le.mp<|aK e) (Y<|.int a) (Y<|.lst<|nats ds) N ds.reverse 0 [] N N I (λA x=>p A<|dy.mp x)<|Q (cw ..)<|Q (fM ..)<|Q (bW ..)<|aa q<|by decide) λl6 l7 H=>?_
 rw[dY] at H
 generalize hG:xt z t ds.reverse 0=G at *
 have OM:nats ds.reverse=(nats ds).reverse:=jq ..
 have aei:nats G.1.reverse=(nats G.1).reverse:=jq ..
 obtain ⟨f,hj⟩:=aif c z [.list<|nats G.1.reverse] (.ref 0) G.1.reverse (aJ w) g rfl rfl (λu hq=>d u<|dy.mp hq) (Q (cw ..)<|Q L<|Q (cw ..)<|Q o<|aa w2<|aa (c8 _ _)<|aa (bq b U)<|by decide);have hq:valN z G.1.reverse=a/t/\G.2=a%t:=by have h2:=(Nat.div_mod_unique I).mpr ⟨(bz ..).trans (Q (bS ..) n:a=t*valN z G.1.reverse+G.2).symm,y⟩;exact ⟨h2.1.symm,h2.2.symm⟩
 have hi:=λhp=>i2d c a z hp (aJ<|aa (ag _) w) g U b
 rw[V5] at hi
 refine rE c rfl rfl rfl rfl rfl (hp':=[.list<|nats G.1.reverse]++f) (v:=.tup [.int (a/t:Nat),.int (a%t:Nat)]) ?_ rfl;rw[hq.1] at hj
 rw[hq.2,OM] at H
 rw[aei] at hj ⊢
 exact qI (qU (uL rfl rfl rfl rfl<|qo (λk:Nat=>Y (V.int k,([]:List O))) e) rfl)
  (qI (qU (call_top rfl<|hi _) rfl)
  (qI (qU rfl rfl)
  (qI (qU (xq rfl) rfl)
  <| qI (v8 rfl H)<|qI (tU<|uL rfl rfl rfl rfl<|adl rfl<|J ((rF G.1).symm)<|aa (Q L<|Q (cw ..) q)<|by decide)<|qI (qU (call_top rfl hj) rfl)<|tu<|sy<|sY rfl)))
theorem G6 (q a):bg (-q) (-a)=bg q a:=k8 ..
theorem VV (c:Nat)(h u:Nat)(a:List O)(w:20<=c)(G:0<u)(i:au (u:Int)<=16000)(b:au (h:Int)<=30000) :
  (qz c).top 56 [.int h,.int u] [] [] a=Y (.tup [.int (h/u:Nat),.int (h%u:Nat)],a):=by
 obtain ⟨c,rfl⟩:∃T,c=T+1:=⟨c-1,(aH<|aa (by decide) w).symm⟩;exact rE c (t:=t7) rfl rfl rfl rfl rfl (tu<|sG (qW rfl rfl<|df λe=>bw G<|cW e) rfl<|tN<|sG (qW rfl rfl<|df<|bP.mpr<|aC u) rfl<|tN<|sG (qW rfl rfl<|df<|bP.mpr<|aC h) rfl<|tN<|sy<|call_top rfl<|aic c h u [] (aJ w) G i b) rfl
theorem VU (c:Nat)(q b:Int)(a:List O)(w:21<=c)(G:0<b)(i:au b<=16000)(U:q.natAbs<2^30000) :
  (qz c).top 56 [.int q,.int b] [] [] a=Y (.tup [.int<|bg q b,.int<|a_ q b],a):=by
 obtain ⟨b,rfl⟩:∃j:Nat,b=j:=⟨b.toNat,(cj<|bX G).symm⟩;rcases nA q 0 with h|h
 .obtain ⟨c,rfl⟩:∃t,c=t+1:=⟨c-1,(aH<|aa (by decide) w).symm⟩;obtain ⟨T,e⟩:∃T:Nat,fw q=T:=⟨(-q-1).toNat,by delta fw;exact NQ h⟩;have k:q=-(T:Int)-1:=(jh q).symm.trans<|(qo ng<|nT.mp e).trans<|og ..
  have u:bg q b=fw ((T/b:Nat):Int)/\a_ q b=(b:Int)+fw ((T%b:Nat):Int):=by
   delta fw;refine Q (eT _<|aC b)<|Q (i7 _<|aC b) ?_
   have n:(b:Int)*(-((T/b:Nat):Int)-1)=-((b*(T/b):Nat):Int)-b:=by
    push_cast
    refine Q (fk ..)<|Q (Int.mul_neg ..)<|Q (gR ..) rfl
   exact (oh<|by assumption).mpr ⟨Q n<|Q k<|Nc (d5 T b),M1 (dr T<|show 0<b by lia),Nv ⟩
  refine rE c rfl rfl rfl rfl rfl (hp':=[]) (v:=.tup [.int<|bg q b,.int<|a_ q b]) (Q u.1<|Q u.2 ?_) rfl;have z:=VV c T b [] (aJ w) (bo.mp G) i<|bits_le.mpr<|av (MZ k) U
  rw[<- e] at z
  exact tu<|sG (qW rfl rfl<|df λH=>Int.ne_of_gt G H) rfl<|tN<|sG (qW rfl rfl<|df<|bP.mpr<|aC b) rfl<|tN<|tY (qW rfl rfl<|dt h) rfl<|u7 (qU (call_top (qp (Pn rfl) rfl) z) rfl)<|tN<|sy<|sY<|qp (Pn rfl)<|qH<|qy rfl (Pn rfl)<|rW _ _
 .obtain ⟨q,rfl⟩:∃A:Nat,q=A:=⟨q.toNat,(cj h).symm⟩;exact Q (A8 ..)<|Q (DU ..)<|VV c q b a (b6 w) (by lia) i<|bits_le.mpr U
theorem ahS (c)(q b:Int)(a)(w:22<=c)(d:b≠0)(G:b.natAbs<2^16000)(T:q.natAbs<2^30000) :
  (qz c).top 56 [.int q,.int b] [] [] a=Y (.tup [.int<|bg q b,.int<|a_ q b],a):=by
 rcases nA b 0 with h|h
 .obtain ⟨c,rfl⟩:∃i,c=i+1:=⟨c-1,(aH<|aa (by decide) w).symm⟩;have e:=VU c (-q) (-b) [] (gX w) (ee h) (sP<|Q (cX ..) G)<|Q (cX ..) T
  rw[G6] at e
  exact rE c rfl rfl rfl rfl rfl (v:=.tup [.int<|bg q b,.int<|a_ q b]) (J (Q (Int.fmod_def ..)<|Q (Int.fmod_def ..)<|Q (G6 ..)<|Q (ji ..) Nd  : -(a_ (-q) <| -b)=a_ q b)<|tu<|sG (qW rfl rfl<|df d) rfl<|tN<|tY (qW rfl rfl<|dt h) rfl<|u7 (qU (call_top (qp (xW rfl)<|qH<|xW rfl) e) rfl)<|tN<|sy<|sY<|qp rfl<|qH<|xW rfl) rfl
 .exact VU c q b a (b6 w) (fm.mpr ⟨h,d.symm⟩) (sP G) T
theorem rs1 (c h:Nat):cB c h 1=((h-c:Nat):Int):=by
 delta cB;refine Q (qm<|by decide)<|Q (Int.ediv_one ..) ?_
 by_cases G:(c:Int)<h
 .refine Q (qm G)<|(gJ ..).trans (ft<|bl<|bo.mp G).symm
 .rw[qn G];exact (qo m4<|jN<|bB.mp<|bP.mp G).symm
theorem Fd (t:-65537<=i/\i<=65537):j0 i=true:=by delta j0;refine Q (aA ..)<|Q (decide_eq_true_eq ..)<|Q (decide_eq_true_eq ..) ⟨aB (by decide) t.1,b7 t.2<|by decide⟩
theorem Qe {hp:List O}{a b:Nat}(w:a<=65536) (i:b<=65536):w8 hp (.tS a b 1)=Y (nats<|dn a<|b-a):=by
 have e:vl a b 1=b-a:=by delta vl;exact Q (rs1 a b) rfl
 have j:wZ a b 1=true:=by delta wZ jo q6;refine Q (rs1 a b)<|Q e ?_;rw[Fd<|NS w,Fd<|NS i,Fd<|by decide,Fd<|NS<|aa (c8 b a) i,decide_eq_true<|show b-a<=65536 by exact aa (c8 _ _) i,qm<|by decide,Fd<|by lia,Bool.or_true];rfl
 refine (ax (qm j) ?_:(if wZ a b 1=true then Y (wD a b 1) else N)=_);delta wD nats;refine Q e<|Q (jg ..) ?_
 delta iP;exact Q (bk ..)<|Q (bk ..)<|qo Y<|dC λT J=>qo V.int<|show (a:Int)+(T:Nat)*1=((a+T:Nat):Int) from by refine Q (gR ..)<|Q (iC ..) rfl
theorem Xn {d:List O}{c:Nat}(w:c<=65536):w8 d (.tS 0 c 1)=Y (nats<|aq c):=by
 have:=Qe (hp:=d) (a:=0) (by decide) w;rw[gW,<-dm] at this
 exact this
section
variable {a b:Nat}
theorem IL (e:(ev g j).E M x st=Y (.int a,st1))(i:(ev g j).E M y st1=Y (.int b,st2))(w:a<=65536)(k:b<=65536):tK (ev g<|j+1) M (.bf .range [x,y]) st=Y (nats<|dn a<|b-a,N,st2):=(tP rfl<|ug (qp e<|qH i) rfl).trans<|Cz<|Qe w k
theorem vE (e:(ev orc j).E M x st=Y (.int b,st1))(w:b<=65536):tK (ev orc<|j+1) M (.bf .range [x]) st=Y (nats<|aq b,N,st1):=(tP rfl<|ug (qH e) rfl).trans<|Cz<|Xn w
theorem v_ {f:List V}(e:(ev g j).E M x st=Y (k,st1))(i:view st1.hp (rC k)=.lst f)(w:f.length<=65536):(ev g<|j+1).E M (.bf .len [x]) st=Y (.int f.length,st1):=ug (qH e)<|HP i w
end
theorem Jc {q:Int}{c h:Nat}(n:q=h\/q=(h:Int)-c) (G:h<c):place q c=Y h:=by
 have e:(if q<0 then q+c else q)=h:=by
  rcases n with rfl|rfl
  .refine Q (qn<|bP.mpr<|aC h) rfl
  .exact Q (qm<|Int.sub_neg_of_lt<|bo.mpr G)<|gJ _ _
 delta place;exact Q e<|Q (qm ⟨aC h,bo.mpr G⟩) rfl
theorem uT {c:List O}{o:V}{f:List V}{q:Int}{k:Nat}{L:V}(e:view c o=.lst f) (n:q=k\/q=(k:Int)-f.length) (i:f[k]?=Y L) (w:f.length<=65536):si c o (.int q)=Y L:=by refine ax (qo (λA=>N2 A<|.int q) e)<|(qm<|decide_eq_true w).trans<|Q (Jc n (aO.mp i).1) ?_;exact i
theorem EE {d:List O}{c h:Nat}{l:List V}{q:Int}{k:V}(e:d[c]?=Y (.list l)) (n:q=h\/q=(h:Int)-l.length) (G:h<l.length) (w:l.length<=65536):uc d (.ref c) (.int q) k=Y (d.set c<|.list<|l.set h k):=by have i:uc d (.ref c) (.int q) k=Of d c (.int q) k d[c]?:=rfl;exact ax i<|Q e<|(qm<|decide_eq_true w).trans<|qM<|Jc n G
theorem Qo {q:Int}{c:Nat}(G:c<2^9000):aQ q c=false:=by
 delta aQ;dsimp only;rw[nF];refine .inl<|decide_eq_false ?_
 by_cases e:c=0
 .subst e;exact λG=>absurd G (by decide)
 .have T:c.log2<9000:=(Nat.log2_lt e).mpr G;refine Q (qn<|by simpa using e)<|Q (oP ..)<|cV.mpr<|jW T
theorem u3 {d:List O}(q:Int) (c:Nat) (G:0<c) (T:c<2^9000):sL d .Mod (.int q) (.int c)=Y (.int<|a_ q c):=qn<|not_or.mpr ⟨λe=>bw G<|cW e,by refine Q (Qo T) ?_;decide⟩
theorem xf {d:List O}(q:Int) (c:Nat) (G:0<c) (T:c<2^9000):sL d .FloorDiv (.int q) (.int c)=Y (.int<|bg q c):=qn<|not_or.mpr ⟨λe=>bw G<|cW e,by refine Q (Qo T) ?_;decide⟩
theorem P8 {hp:List O}{o:V}{l:List V}{h:Nat}(e:view hp o=.lst l) (w:l.length<=65536):FF hp o .none (.int h)=Y (.lst<|l.take h):=by
 have i:sliceBounds N (Y (h:Int)) N l.length=(((0:Nat):Int),((min h l.length:Nat):Int),1):=by simp only[sliceBounds,Option.getD_none,qn (bP.mpr<|aC h),show (1:Int)>0 from by decide,if_true];congr 2;exact (Int.max_eq_right<|Int.le_min.mpr ⟨aC _,aC _⟩).trans<|(Nat.le_total h l.length).elim (λU=>(Int.min_eq_left<|bB.mpr U).trans (qo _ (iz U)).symm) λU=>(Int.min_eq_right<|bB.mpr U).trans (qo _ (Nat.min_eq_right U)).symm
 have H:HK l N (Y (h:Int))=l.take h:=by
  delta HK;refine Q i<|Q (sliceRange_one ..)<|Q (gW ..) ?_
  have:=pick_run l.toArray 0<|min h l.length
  simp only[List.getElem?_toArray] at this
  refine ax this<|ax pO<|J (List.take_eq_take_min ..) rfl
 exact ax (J e rfl:FF hp o .none (.int h)=S1 o N (Y (h:Int)) (.lst l))<|J H<|qm<|decide_eq_true w
theorem yh (c h:Nat)(w:au (c:Int)*h<=100000):sL hp .Pow (.int c) (.int h)=Y (.int ((c^h:Nat):Int)):=(H9 c h<|J (fe ..)<|bB.mpr w).trans<|vi (fc ..).symm
noncomputable def vw (q:Int)(c:Nat)(a:List Nat):List Nat:=a.take<|1+(a_ (bg q ((12^c:Nat):Int)) a.length).toNat
noncomputable def tI (a:List Nat):Int:=match a.getLast? with
 |Y c=>c|N=>-1
noncomputable def zr (q:Int):List Nat->List Int->List Nat->List Int
 |[]=>@λa J=>a
 |k::f=>@λa j=>zr q f (a++[tI<|vw q k j])<|vw q k j++[k]
theorem TR {f:List Nat}(e:f.getLast?=Y x)(w:f.length<=65536):si hp (.lst<|nats f) (.int <| -1)=Y (.int x):=by
 have G:0<f.length:=iA.mpr (by rintro rfl;exact Vm.nS e);refine uT (k:=f.length-1) rfl (.inr<|Q (rF ..)<|YI G) ?_<|(rF f).symm▸w
 refine Q (DI ..)<|J gj<|Q e ?_;rfl
def abY:List XS:=[.asg (.l 3)<|.rf (.l 3) (.C4 (.l 3) (.k .none)<|.bin .Add (.i 1)<|.bin .Mod (.bin .FloorDiv (.l 1)<|.bin .Pow (.i 12)<|.l 4)<|.bf .len [.l 3])<|.list [],.expr<|.mt .append (.l 2) [.rf (.l 3) (.sub (.l 3)<|.un .USub<|.i 1)<|.un .USub<|.i 1],.asg (.l 3)<|.bin .Add (.l 3)<|.list [.l 4]]
section
variable {orc:vC}{number:Int}
theorem abI {x2:Option V}(h:Nat)(w:h<=60)(f:List Nat)(i:f.length<=60) :
  (ev orc<|j+8).E [] (.rf (.l 3) (.C4 (.l 3) (.k .none)<|.bin .Add (.i 1)<|.bin .Mod (.bin .FloorDiv (.l 1)<|.bin .Pow (.i 12)<|.l 4)<|.bf .len [.l 3])<|.list []) ⟨[x0,Y<|.int number,x2,Y<|.lst<|nats f,Y<|.int h],hp⟩ =
   Y (.lst<|nats<|vw number h f,⟨[x0,Y<|.int number,x2,Y<|.lst<|nats f,Y<|.int h],hp⟩):=by
 have b:(nats f).length<=65536:=(rF f).symm▸aa i (by decide)
 by_cases e:f.length=0
 .obtain rfl:=cP.mp e;exact Q (show vw number h []=[] from pY)<|wB rfl (xA rfl b) rfl
 .skip
  have t:0<12^h/\12^h<2^9000:=⟨ll<|by decide,av (aX (by decide) w)<|by decide +kernel⟩;obtain ⟨T,n⟩:=dQ (eI (bg number ((12^h:Nat):Int))<|bo.mpr<|eO e);refine Q (by delta vw;exact Q n rfl:vw number h f=f.take (1+T))<|Q (show nats (f.take<|1+T)=(nats f).take (1+T) from mn ..)<|vD rfl ((xA rfl b).trans<|dt<|J ((rF f).symm) e)<|WU rfl rfl (qy rfl (qy (qy rfl (qy rfl rfl<|yh 12 h ?_)<|xf number _ t.1 t.2) (v_ rfl rfl b) ?_)<|(rW 1 (T:Int)).trans<|vi (iC 1 T).symm)<|P8 rfl b
  .refine (Q (by rfl:au 12=4) ?_:au 12*h<=100000);exact aa (aU 4 w)<|by decide
  .exact Q (rF ..)<|(u3 _ _ (eO e)<|av i<|by decide +kernel).trans<|vi n
theorem QL:∀(ks:List Nat)(ab:List Int)(p:List Nat)(x4:Option V),(∀k∈ks,k<=60)->ab.length+ks.length<=60->p.length+ks.length<=60->
  ∃x3 YX,ui (ev orc 59) [] (.l 4) N abY (nats ks) ⟨[x0,Y<|.int number,Y<|.ref 0,Y<|.lst<|nats p,x4],[.list<|iL ab]⟩=Y (.next,⟨[x0,Y<|.int number,Y<|.ref 0,x3,YX],[.list<|iL<|zr number ks ab p]⟩)
 |[]=>@λab p x4 J J J=>tH _ _ rfl
 |k::ks=>@λab p x4 hk h1 h2=>by
  rw[aV] at h1 h2
  have hc:(vw number k p).length<=p.length:=nP ..
  refine se (QL (x0:=x0) ks (ab++[tI<|vw number k p]) (vw number k p++[k]) (Y<|.int k) (λx hx=>hk x<|.tail _ hx) (Q (aG ..)<|aa (aK<|cD ..) h1)<|Q (aG ..)<|aa (aK<|cD (vw number k p).length 1 _)<|aa (a8 hc (ks.length+1)) h2) λx3 YX ih=>?_
  refine tH x3 YX ?_;have ec:=abI (orc:=orc) (number:=number) (j:=50) (x0:=x0) (x2:=Y<|.ref 0) (hp:=[.list<|iL ab]) k (hk k<|.head _) p<|jG h2
  have eg:zr number (k::ks) ab p=zr number ks (ab++[tI<|vw number k p]) (vw number k p++[k]):=rfl;refine Q eg ?_;generalize vw number k p=c at ec ih hc ⊢
  have hz:(nats c).length<=65536:=(rF c).symm▸by lia
  have el:(ev orc 57).E [] (.rf (.l 3) (.sub (.l 3)<|.un .USub<|.i 1)<|.un .USub<|.i 1) ⟨[x0,Y<|.int number,Y<|.ref 0,Y<|.lst<|nats c,Y<|.int k],[.list<|iL ab]⟩=Y (.int<|tI c,⟨[x0,Y<|.int number,Y<|.ref 0,Y<|.lst<|nats c,Y<|.int k],[.list<|iL ab]⟩):=by
   delta tI
   cases E5:c.getLast? with
   |none=>
    obtain rfl:=ma.mp E5;exact wB rfl (xA rfl hz) rfl
   |some x=>
    exact vD rfl ((xA rfl hz).trans<|dt<|by refine Q (rF ..) ?_;intro h;obtain rfl:=cP.mp h;exact Vm.nS E5)<|ro rfl rfl<|TR E5<|by lia
  rw[JF] at ih
  rw[AZ] at ih
  exact r_ rfl rfl (rg (qU ec rfl)<|rg (tU<|uL rfl rfl rfl (qH el)<|H_ rfl<|(r9 ab).symm▸by lia)<|rM<|qU (qy rfl (yC<|qH rfl)<|wM<|Q (rF ..)<|cb<|aa hc<|aa (jG h2)<|by decide) rfl) ih
end
theorem JT (a)(n):∀f:List Int,qP (sX a<|n+1) (iL f)=Y (iL f)
 |[]=>rfl|d::f=>uS rfl<|JT a n f
theorem xH {a:List O}{l:List Int}(e:a[i]?=Y (.list<|iL l)):sX a (n+2) (.ref i)=Y (.lst<|iL l):=(qo (JV<|qP<|sX a<|n+1) e).trans<|qM<|JT a n l
theorem U' (m n:Nat)(number:Int)(hp:List O)(hm:1<=m)(hn:n<=50):(qz m).top 211 [.int n,.int number] [] [] hp=Y (.lst<|iL<|zr number (aq n) [] [],hp):=by
 obtain ⟨m,rfl⟩:∃m',m=m'+1:=⟨m-1,(aH<|aa (ag _) hm).symm⟩;refine se (QL (orc:=qz m) (number:=number) (x0:=Y<|.int n) (aq n) [] [] N (λk hk=>by have:=bF.mp hk;lia) (by refine Q (aS ..) ?_;show 0+n<=60;lia)<|by refine Q (aS ..) ?_;show 0+n<=60;lia) λx3 x4 hl=>?_
 refine rE m (t:=t27) rfl rfl rfl rfl rfl (hp':=[.list<|iL<|zr number (aq n) [] []]) (v:=.ref 0) (?_:we (qz m) [] Y7 ⟨[Y<|.int n,Y<|.int number,N,N,N],[]⟩=_)<|xH rfl
 exact ax ub<|qI (qU (sY rfl) rfl)
  (qI (v8 (vE rfl<|bJ hn) hl)<|tu<|sy rfl)
section
variable {i o2:CmpOp}
theorem Pp (e:(ev h j).E M x st=Y (v,st1))(k:(ev h j).E M y st1=Y (u,st2))(n:tX st2.hp i v u=Y true)(A:(ev h j).E M z st2=Y (w,st3))(H:tX st3.hp o2 u w=Y b):(ev h<|j+1).E M (.cmp x [i,o2] [y,z]) st=Y (.bool b,st3):=qE e<|qM (qE k<|qT n<|qE A<|qM H:CQ (ev h j) M v [i,o2] [y,z] st1=Y (b,st3))
theorem afi (e:(ev h j).E M x st=Y (v,st1))(k:(ev h j).E M y st1=Y (u,st2))(n:tX st2.hp i v u=Y false):(ev h<|j+1).E M (.cmp x [i,o2] [y,z]) st=Y (.bool false,st2):=qE e<|qM (qE k<|qF n rfl:CQ (ev h j) M v [i,o2] [y,z] st1=Y (false,st2))
end
theorem Ac (q b):tX hp .Gt (.int q) (.int b)=Y (decide<|b<q):=rfl
theorem Pf (a:Int):yg hp .abs [.int a]=Y (.int (a.natAbs:Int)):=vi<|if h:a<0 then (qm h).trans (fY<|bX h).symm else (qn h).trans (dP<|bP.mp h).symm
def VA:X:=.or [.cmp (.i 0) [.LtE,.Lt] [.l 5,.l 1],.cmp (.l 1) [.Lt,.LtE] [.l 5,.i 0]]
def Ox:X:=.cmp (.bin .Mult (.i 2)<|.bf .abs [.l 5]) [.Gt] [.bf .abs [.l 1]]
def abX:List XS:=[.asg (.tup [.l 0,.l 5])<|.call (.k<|.con<|.ref 56) [.l 0,.l 1] [] [],.rf (.un .Not VA) [.ret<|.list [.i 0]] [],.rf Ox [.asg (.tup [.l 0,.l 5])<|.tup [.bin .Add (.l 0)<|.i 1,.bin .Sub (.l 5)<|.l 1]] [],.expr<|.mt .append (.l 3) [.l 5]]
theorem Qh {q:Int}(U:b≠0):(0<b/\0<=a_ q b/\a_ q b<b)\/(b<0/\b<a_ q b/\a_ q b<=0):=by
 rcases o7 b 0 with h|h|h
 .refine .inr ⟨h,?_⟩;have w:=eI (-q)<|ee h
  have T:=i6 (-q)<|ee h
  rw[pB] at w T
  exact ⟨Int.lt_of_neg_lt_neg T,Int.nonpos_of_neg_nonneg w⟩
 .exact absurd h U
 .exact .inl ⟨h,eI q h,i6 q h⟩
theorem Qi {q:Int}(U:b≠0):(bg q b).natAbs<=q.natAbs:=by
 rcases i4 U with h|h
 .exact J (k8 ..)<|Q (eT _<|mJ<|bX h)<|J (cX q)<|mv _ _
 .exact Q (eT _<|bX h)<|mv _ _
theorem ZW {q:Int}(U:b≠0):(a_ q b).natAbs<b.natAbs:=by
 rcases Qh U with ⟨_,w,G⟩|⟨_,w,G⟩
 .exact j2 w G
 .exact J (cX ..)<|J (cX b)<|j2 (mJ G)<|Int.neg_lt_neg w
section
variable {b:Int}(g:22<=m) (f:b≠0) (d:b.natAbs<2^16000)
include f
theorem Xe {a:Int}{h e T:Option V}:(ev orc 57).E [] VA ⟨[x0,Y<|.int b,h,e,T,Y<|.int<|a_ a b],hp⟩=Y (.bool true,⟨[x0,Y<|.int b,h,e,T,Y<|.int<|a_ a b],hp⟩):=by
 rcases Qh f with ⟨G,w,U⟩|⟨G,w,U⟩
 .exact aff (Pp rfl rfl (dt w) rfl<|dt U) rfl
 .refine afe ?_<|Pp rfl rfl (dt w) rfl<|dt U
  by_cases j:0<=a_ a b
  .exact Pp rfl rfl (dt j) rfl<|df<|Nq w
  .exact afi rfl rfl<|df j
include d
theorem LU {a:Int}{h e T:Option V}:(ev orc 58).E [] Ox ⟨[x0,Y<|.int b,h,e,T,Y<|.int<|a_ a b],hp⟩=Y (.bool<|decide<|(b.natAbs:Int)<2*((a_ a b).natAbs:Int),⟨[x0,Y<|.int b,h,e,T,Y<|.int<|a_ a b],hp⟩):=qW (qy rfl (ug (qH rfl)<|Pf _)<|xU 2 _ 2 16000 (by decide) (eH (ZW f) d) (by decide)<|by decide) (ug (qH rfl)<|Pf _)<|Ac _ _
include g
theorem aav {x2:Option V}{h:Nat}(n:h<=2^30000)(a:List Nat):∀(c:Int)(acc:List Int)(o e:Option V),c.natAbs+a.length<h->acc.length+a.length<=60->
  ∃U q,ui (ev (qz m) 59) [] (.l 4) N abX (nats a) ⟨[Y<|.int c,Y<|.int b,x2,Y<|.ref 0,o,e],[.list<|iL acc]⟩ =
   Y (.next,⟨[Y<|.int (Mp.xJ b a.length c).2,Y<|.int b,x2,Y<|.ref 0,U,q],[.list<|iL<|acc++(Mp.xJ b a.length c).1]⟩):=by
 induction a with
 |nil=>exact λc acc o e W W=>tH o e<|(Q (bh ..) rfl:_=Y (Fl.next,(⟨[Y<|.int c,Y<|.int b,x2,Y<|.ref 0,o,e],[.list<|iL<|acc++[]]⟩:St)))
 |cons t a p=>
  intro c acc o e u v;rw[aV] at u v
  have k:c.natAbs<2^30000:=ai (av (aM _ _) u) n;have hi:=λj=>ahS m c b j g f d k
  have s:(Mp.dig b c).1.natAbs+a.length<h:=by
   clear hi k n d;delta Mp.dig
   split
   .exact av (a8 (aa (dX _ 1)<|a8 (Qi f) 1) _)<|Q (b_ ..)<|Q (bz 1 ..) u
   .exact av (a8 (Qi f) _)<|fW u
  refine se (p (Mp.dig b c).1 (acc++[(Mp.dig b c).2]) (Y<|.int t) (Y<|.int (Mp.dig b c).2) s<|by refine Q aG ?_;rw[b_,bz [_].length];exact v) λU q p=>?_
  refine tH U q<|Q (rfl:Mp.xJ b (t::a).length c=((Mp.dig b c).2::(Mp.xJ b a.length (Mp.dig b c).1).1,(Mp.xJ b a.length (Mp.dig b c).1).2)) ?_
  rw[a9] at p
  have w:(ev (qz m) 59).S [] (.rf Ox [.asg (.tup [.l 0,.l 5])<|.tup [.bin .Add (.l 0)<|.i 1,.bin .Sub (.l 5)<|.l 1]] []) ⟨[Y<|.int<|bg c b,Y<|.int b,x2,Y<|.ref 0,Y<|.int t,Y<|.int<|a_ c b],[.list<|iL acc]⟩ =
    Y (.next,⟨[Y<|.int (Mp.dig b c).1,Y<|.int b,x2,Y<|.ref 0,Y<|.int t,Y<|.int (Mp.dig b c).2],[.list<|iL acc]⟩):=by
   delta Mp.dig
   by_cases T:(b.natAbs:Int)<2*((a_ c b).natAbs:Int)
   .exact Q (qm T)<|tY (LU f d) (dt T)<|rM<|qU (sY<|qp (qy rfl rfl<|rW _ _)<|qH<|qy rfl rfl<|uj _ _) rfl
   .exact Q (qn T)<|sG (LU f d) (df T) rfl
  exact r_ rfl rfl (rg (qU (call_top rfl<|hi _) rfl)<|rg (zZ<|afg (Xe f) rfl)<|rg w<|rM<|tU<|uL rfl rfl rfl (qH rfl)<|H_ rfl<|J ((r9 acc).symm)<|aa (aa (aM _ _) v)<|by decide)<|J (JF acc [(Mp.dig b c).2]) p
end
theorem Fg {c:Nat}(w:c<=2^30000)(h)(q j:Int)(L)(a)(H:23<=h)(G:j≠0)(I:j.natAbs<2^16000)(U:q.natAbs+L<c)(k:L<=60) :
  (qz h).top 223 [.int q,.int j,.int L] [] [] a=Y (.lst<|iL<|if (Mp.xJ j L q).2=0 then (Mp.xJ j L q).1 else [0],a):=by
 obtain ⟨h,rfl⟩:∃T,h=T+1:=⟨h-1,(aH<|aa (by decide) H).symm⟩;refine se (aav (aJ H) G I (x2:=Y<|.int L) w (aq L) q [] N N (Q (aS ..) U)<|Q (aS ..)<|J ((bW L).symm) k) λo e p=>?_
 rw[aS,dY] at p
 clear w I U G H;generalize Mp.xJ j L q=F at p ⊢
 have s:(ev (qz h) 59).E [] (.rf (.cmp (.l 0) [.Eq] [.i 0]) (.l 3)<|.list [.i 0]) ⟨[Y<|.int F.2,Y<|.int j,Y<|.int L,Y<|.ref 0,o,e],[.list<|iL F.1]⟩=Y (if F.2=0 then .ref 0 else .lst [.int 0],⟨[Y<|.int F.2,Y<|.int j,Y<|.int L,Y<|.ref 0,o,e],[.list<|iL F.1]⟩):=by
  by_cases n:F.2=0
  .exact Q (qm n)<|vD (qW rfl rfl<|Ad _ _) (dt n) rfl
  .exact Q (qn n)<|wB (qW rfl rfl<|Ad _ _) (df n) rfl
 refine rE h rfl rfl rfl rfl rfl (hp':=[.list<|iL F.1]) (v:=if F.2=0 then .ref 0 else .lst [.int 0]) ?_ ?_
 .exact (ax ub<|qI (qU (xq rfl) rfl)<|qI (v8 (vE rfl<|aa k<|by decide) p)<|tu<|sy s:we (qz h) [] Y5 ⟨[Y<|.int q,Y<|.int j,Y<|.int L,N,N,N],[]⟩=_)
 .by_cases n:F.2=0
  .exact Q (qm n)<|Q (qm n)<|xH rfl
  .exact Q (qn n)<|Q (qn n) rfl
noncomputable def bL (a:List Bool):List V:=a.map V.bool
theorem Ft (a):(bL a).length=a.length:=ao ..
theorem UX (a b):tX hp .NotEq (.int a) (.int b)=Y (decide<|a≠b):=by show Y (!decide (a=b))=_;refine Q (decide_not ..) rfl
theorem ae0 (T G):tX hp .NotEq (.bool T) (.bool G)=Y (T != G):=by cases T<;>cases G<;>rfl
theorem MA:∀s:List Bool,((dn 1<|s.length-1).filter λc=>s.getD c false != s.getD (c-1) false).length=Mp.chg s
 |[]=>rfl|[a]=>rfl
 |a::b::l=>by
  refine (?_:((dn 1<|l.length+1).filter _).length=Mp.ne2 a b+Mp.chg (b::l));refine J (MA<|b::l)<|Q (f9 ..)<|Q (dK ..)<|Q (show 1+1=2 from rfl)<|Q (ax jg<|Q (jg ..)<|Q (bk ..)<|dC λh W=>by show 2+h=1+h+1;rw[bz 1,bz 2]:dn 2 l.length=(dn 1 l.length).map (·+1))<|Q (lu ..) ?_
  have i:(dn 1 l.length).filter ((λc=>(a::b::l).getD c false != (a::b::l).getD (c-1) false)∘(·+1))=(dn 1 l.length).filter λc=>(b::l).getD c false != (b::l).getD (c-1) false:=
   km λc d=>by obtain ⟨c,rfl⟩:∃T,c=T+1:=⟨c-1,(aH (kj.mp d).1).symm⟩;rfl
  refine Q i ?_;show (if (b != a)=true then 1::_ else _).length=_;delta Mp.ne2
  cases a<;>cases b
  .exact (ao ..).trans (bW _).symm
  .exact (qo pX<|ao ..).trans<|bz _ 1
  .exact (qo pX<|ao ..).trans<|bz _ 1
  .exact (ao ..).trans (bW _).symm
theorem B1 (a)(c)(f):sX a (c+2) (.lst<|iL f)=Y (.lst<|iL f):=qM<|JT a c f
theorem Fs (c)(a:List Int)(f)(w:1<=c)(i:a.length<=60):(qz c).top 228 [.lst<|iL a] [] [] f=Y (.int (Mp.chg<|Mp.uy a:Nat),f):=by
 obtain ⟨c,rfl⟩:∃h,c=h+1:=⟨c-1,(aH w).symm⟩;have b:(Mp.uy a).length<=60:=by delta Mp.uy;exact Q (ao ..)<|aa (cG ..) i
 have e:(ev (qz c) 59).E [0] (.comp (.cmp (.l 0) [.Gt] [.i 0]) [.l 0] [.l 0] [[.cmp (.l 0) [.NotEq] [.i 0]]] 1 0) ⟨[Y<|.lst<|iL a],[.cell N]⟩=Y (.lst<|bL<|Mp.uy a,⟨[Y<|.lst<|iL a],[.cell N]⟩):=by delta bL Mp.uy;exact Q (bk ..)<|xP (λx=>decide<|x≠0) rfl (λq W=>qW rfl rfl<|UX _ _) (λq W W=>qW rfl rfl<|Ac _ _)<|aa i<|by decide
 generalize Mp.uy a=s at *
 have T:(bL s).length<=65536:=J ((Ft s).symm)<|aa b<|by decide
 have d:∀u,u<s.length->(bL s)[u]?=Y (.bool<|s.getD u false):=λu H=>by delta bL;refine ax aZ<|Q (aD H)<|Q cq<|Q (aD H) ?_;rfl
 have j:(ev (qz c) 58).E [0] (.comp (.i 1) [.l 0] [.bf .range [.i 1,.bf .len [.cell 0]]] [[.cmp (.sub (.cell 0)<|.l 0) [.NotEq] [.sub (.cell 0)<|.bin .Sub (.l 0)<|.i 1]]] 1 0) ⟨[Y<|.lst<|iL a],[.cell<|Y<|.lst<|bL s]⟩ =
   Y (.lst<|((dn 1<|s.length-1).filter λu=>s.getD u false != s.getD (u-1) false).map λW=>V.int 1,⟨[Y<|.lst<|iL a],[.cell<|Y<|.lst<|bL s]⟩):=by
  refine xP (λu=>s.getD u false != s.getD (u-1) false) (IL rfl ((v_ (qB rfl rfl) rfl T).trans<|qo (λz:Nat=>Y (V.int z,(_:St)))<|Ft s) (by decide)<|aa b<|by decide) (λu H=>?_) (λW W W=>rfl)<|Q (ed ..)<|aa (c8 _ 1)<|aa b<|by decide
  obtain ⟨G,g⟩:=kj.mp H;have k:u<s.length:=kW λU=>absurd g<|cV.mpr<|aa (aP (fi U 1) 1)<|aK<|cM G
  exact qW (ro (qB rfl rfl) rfl<|vV (d u k) T) (ro (qB rfl rfl) (qy rfl rfl<|(uj (u:Int) 1).trans<|vi (jI G).symm)<|vV (d (u-1)<|av (c8 u 1) k) T)<|ae0 _ _
 refine rE c (t:=t30) rfl rfl rfl rfl (CG<|B1 [] 7 a) (ax ub<|qI (qU e rfl)<|tu<|sy<|(v_ j rfl<|Q (ao ..)<|aa (cG ..)<|Q (ed ..)<|aa (c8 _ 1)<|aa b<|by decide).trans<|Q (ao ..)<|Q (MA ..) rfl:we (qz c) [0] Y2 ⟨[Y<|.lst<|iL a],[.cell N]⟩=_) rfl
section
theorem zu {M:List Nat}{d:X}{f u st3:St}{h:V}(q:(ev g j).E M d f=Y (o,st1))(t:(ev g j).E M y st1=Y (h,u))(h3:si u.hp o h=Y a)(z:(ev g j).E M e u=Y (b,st3))(h5:xO op a b=Y v)(h6:uc st3.hp o h v=Y hp') :
  (ev g<|j+1).S M (.uD d y op e) f=Y (.next,⟨st3.loc,hp'⟩):=qE q<|qE t<|qV h3<|qE z<|qV h5<|qM h6
theorem sf {a:List O}{d:Nat}{f:List V}(e:a[d]?=Y (.list f)):view a (.ref d)=.lst f:=qo (El d) e
theorem adk {a:List O}:(aq 7).map (λn:Nat=>w8 a<|.tS ((n:Int)-1) (-1) <| -1)=(aq 7).map λn=>Y<|nats (aq n).reverse:=rfl
theorem ZR {a:List O}{d:Nat}(b:d<7):w8 a (.tS ((d:Int)-1) (-1) <| -1)=Y (nats (aq d).reverse):=List.map_inj_left.mp adk d<|bF.mpr b
open Mp (LS lst up)
noncomputable def uU (d:Nat)(s:LS):List V:=(aq d).map λi=>V.tup [.int<|s.U i,.int<|s.L i]
noncomputable def An (d:Nat)(s:LS):List V:=(aq d).map λi=>V.int<|s.no i
noncomputable def ue (a:LS):List V:=[.int a.a,.int a.b,.int a.c]
theorem tC {o:Type}(b:Nat->o){d h:Nat}(a:h<d):((aq d).map b)[h]?=Y (b h):=by refine Q aZ<|Q (fz a) ?_;rfl
theorem sT {o:Type}(b:Nat->o)(d):((aq d).map b).length=d:=by refine Q (ao ..)<|Q (aS ..) rfl
theorem Qf {o:Type}{b g:Nat->o}{d h:Nat}(j:∀i,i<d->i≠h->g i=b i):((aq d).map b).set h (g h)=(aq d).map g:=by
 refine ew λi=>?_
 by_cases a:i<d
 .refine Q (tC g a) ?_
  by_cases e:h=i
  .refine Q e ?_;clear e;refine ax (bu<|Q (sT ..) a) rfl
  .refine Q (aW e)<|Q (tC b a)<|Q (j i a<|fK e) rfl
 .refine ax (cf<|by refine Q (cO ..)<|Q (sT ..) ?_;lia)<|Q (cf<|by refine Q (sT ..) ?_;lia) rfl
structure zw (n:Nat) (s:LS) (x:V) (hp:List O) (c:Nat):Prop where
 x0:hp[0]?=some (.cell<|some x)
 p1:hp[1]?=some (.list<|uU n s)
 p2:hp[2]?=some (.list<|An n s)
 p3:hp[c]?=some (.list<|ue s)
 c3:3<=c
def Bd (d:Nat)(a:LS):Prop:=∀i,(a.U i).natAbs<2^d/\(a.L i).natAbs<2^d
theorem KI {a:List O}{f:List V}(e:view a (rC o)=.lst f)(y:f.length<=65536):yg a .list [o]=Y (.lst f):=(qo TC e:_).trans<|qm<|decide_eq_true y
noncomputable abbrev ud (o:V)(a f:List V)(d:Nat)(y h e b q g:Option V):List<|Option V:=[Y o,Y<|.lst a,Y<|.lst f,Y<|.ref 1,Y<|.ref 2,Y<|.ref d,y,h,e,b,q,g]
def abM:XS:=.asg (.l 5)<|.new<|.list [.bin .Add (.sub (.l 5)<|.i 0)<|.i 1,.bin .Add (.sub (.l 5)<|.i 1)<|.i 1,.bin .Sub (.sub (.l 5)<|.i 2)<|.i 1]
def YK:List XS:=[.uD (.l 5) (.i 2) .Add<|.i 1,.uD (.l 4) (.sub (.l 1)<|.l 7) .Add<|.rf (.cmp (.sub (.l 2)<|.l 7) [.NotEq] [.i 0]) (.i 1)<|.i 0]
def ahK:XS:=.wj (.l 3) (.sub (.l 1)<|.l 7)<|.tup [.bin .Sub (.bin .Mult (.l 10)<|.l 8)<|.bin .Mult (.bin .Mult (.bin .Pow (.sub (.l 2)<|.l 7)<|.i 2)<|.l 9)<|.l 11,.bin .Mult (.l 11)<|.l 8]
def ZX:List XS:=[.uD (.l 5) (.rf (.cmp (.bin .Mult (.l 8)<|.l 9) [.Gt] [.i 0]) (.i 0)<|.i 1) .Add<|.i 1,.asg (.tup [.l 10,.l 11])<|.sub (.l 3)<|.sub (.l 1)<|.l 7,.rf (.cmp (.sub (.l 2)<|.l 7) [.NotEq] [.i 0]) [ahK] []]
def RO:List XS:=[.asg (.tup [.l 6,.tup [.l 8,.l 9]])<|.tup [.bf .list [.l 5],.sub (.l 3)<|.l 7],.rf (.cmp (.sub (.l 4)<|.l 7) [.Gt] [.i 0]) [abM] [.rf (.cmp (.l 8) [.Eq] [.i 0]) YK ZX]]
section
variable {A T:List V}{G w:Nat->Int}(hA:∀i,i<n->A[i]?=Y (V.int<|G i)) (hT:∀i,i<n->T[i]?=Y (V.int<|w i)) (JR:A.length<=60) (H:T.length<=60)
theorem n6 (z:n<=50):n<=65536:=aa z (by decide)
section
variable (U:n<=50) (I:zw n s x hp c)
include I
include U in
theorem aeu {t:Nat}(a:t<n):si hp (.ref 1) (.int t)=Y (.tup [.int<|s.U t,.int<|s.L t]):=uT (sf I.p1) (.inl rfl) (tC _ a) (by delta uU;exact Q (sT ..)<|n6 U)
include U in
theorem OP {t:Nat}(a:t<n):si hp (.ref 2) (.int t)=Y (.int<|s.no t):=uT (sf I.p2) (.inl rfl) (tC _ a) (by delta An;exact Q (sT ..)<|n6 U)
theorem HW {q:Int}{t:Nat}{a:V}(e:q=t) (j:(ue s)[t]?=Y a):si hp (.ref c) (.int q)=Y a:=uT (sf I.p3) (.inl e) j<|show 3<=65536 by decide
omit I in
theorem DK (e:hp[j]?=Y o):j<hp.length:=(aO.mp e).1
theorem Td (f:0<s.no k):(ev orc 58).S [0] abM ⟨ud own A T c (Y<|.lst<|ue s) (Y<|.int k) (Y<|.int<|s.U k) (Y<|.int<|s.L k) a d,hp⟩ =
  Y (.next,⟨ud own A T hp.length (Y<|.lst<|ue s) (Y<|.int k) (Y<|.int<|s.U k) (Y<|.int<|s.L k) a d,hp++[.list<|ue<|lst G w k s]⟩)/\zw n (lst G w k s) x (hp++[.list<|ue<|lst G w k s]) hp.length:=by
 have e:lst G w k s={ s with a:=s.a+1,b:=s.b+1,c:=s.c-1 }:=qm f;have g:∀{h:Nat}{j t:O},hp[h]?=Y j->(hp++[t])[h]?=Y j:=λ{h j t} o=>(bD<|DK o).trans o
 refine ⟨?_,?_⟩
 .exact Q e<|qU (xq<|qM<|qp (qy (ro rfl rfl<|HW I rfl rfl) rfl<|rW _ _)<|qp (qy (ro rfl rfl<|HW I rfl rfl) rfl<|rW _ _)<|qH<|qy (ro rfl rfl<|HW I rfl rfl) rfl<|uj _ _) rfl
 .exact Q e ⟨g I.x0,g I.p1,g I.p2,Q (ve ..) rfl,ai (bY 2)<|oU<|DK I.p2⟩
end
include hT H in
theorem Vw (a:k<n){u:List O}:(ev orc<|j+2).E [0] (.sub (.l 2)<|.l 7) ⟨ud own A T c' t' (Y<|.int k) u' l' a' d',u⟩=Y (.int<|w k,⟨ud own A T c' t' (Y<|.int k) u' l' a' d',u⟩):=ro rfl rfl<|vV (hT k a)<|aa H<|by decide
include hA JR in
theorem Ph (a:k<n){u:List O}:(ev orc<|j+2).E [0] (.sub (.l 1)<|.l 7) ⟨ud own A T c' t' (Y<|.int k) u' l' a' d',u⟩=Y (.int<|G k,⟨ud own A T c' t' (Y<|.int k) u' l' a' d',u⟩):=ro rfl rfl<|vV (hA k a)<|aa JR<|by decide
include hT H in
theorem Er (a:k<n){u:List O}:(ev orc<|j+3).E [0] (.cmp (.sub (.l 2)<|.l 7) [.NotEq] [.i 0]) ⟨ud own A T c' t' (Y<|.int k) u' l' a' d',u⟩=Y (.bool<|decide<|w k≠0,⟨ud own A T c' t' (Y<|.int k) u' l' a' d',u⟩):=qW (Vw hT H a) rfl<|UX _ _
section
variable (U:n<=50) (I:zw n s x hp c) (hk:k<n) (Br:p<n) (L:G k=(p:Int)\/G k=(p:Int)-(n:Int)) (GW:w k≠0->G k=(p:Int))
include U I
theorem Kt {i:Int}{t:Nat}{v:Int}{s':LS}(e:i=t) (j:(ue s)[t]?=Y (.int v)) (o:(ue s).set t (.int<|v+1)=ue s') (z:s'.U=s.U) (a:s'.L=s.L) (d:s'.no=s.no) :
  si hp (.ref c) (.int i)=Y (.int v)/\uc hp (.ref c) (.int i) (.int<|v+1)=Y (hp.set c<|.list<|ue s')/\zw n s' x (hp.set c<|.list<|ue s') c:=by
 have q:=I.c3;refine rj (HW I e j) ?_ ?_
 .exact J o<|EE I.p3 (.inl e) (aO.mp j).1<|show 3<=65536 by decide
 .exact ⟨(aW<|by lia).trans I.x0,(aW<|by lia).trans<|by delta uU;exact Q z<|Q a I.p1,(aW<|bw q).trans<|by delta An;exact Q d I.p2,bu<|DK I.p3,q⟩
include Br L
theorem adS {s':LS}(f:s'.no p=s.no p+e)(d:∀i,i<n->i≠p->s'.no i=s.no i)(j:s'.U=s.U)(o:s'.L=s.L)(z:ue s'=ue s) :
  si hp (.ref 2) (.int<|G k)=Y (.int<|s.no p)/\uc hp (.ref 2) (.int<|G k) (.int<|s.no p+e)=Y (hp.set 2<|.list<|An n s')/\zw n s' x (hp.set 2<|.list<|An n s') c:=by
 have hl:(An n s).length=n:=sT _ n;refine rj (uT (sf I.p2) (hl.symm▸L) (tC _ Br)<|hl.symm▸n6 U) ?_ ?_
 .exact J (J f (Qf (g:=λi=>V.int<|s'.no i) λi a h=>by refine Q (d i a h) rfl):(An n s).set p (.int<|s.no p+e)=An n s')<|EE I.p2 (hl.symm▸L) (hl.symm▸Br)<|hl.symm▸n6 U
 .exact ⟨(aW<|by decide).trans I.x0,(aW<|by decide).trans<|by delta uU;exact Q j<|Q o I.p1,bu<|DK I.p2,(aW<|cy I.c3).trans<|Q z I.p3,I.c3⟩
theorem ado {s':LS}(d:∀i,i<n->i≠p->s'.U i=s.U i/\s'.L i=s.L i)(e:s'.no=s.no)(j:ue s'=ue s) :
  si hp (.ref 1) (.int<|G k)=Y (.tup [.int<|s.U p,.int<|s.L p])/\uc hp (.ref 1) (.int<|G k) (.tup [.int<|s'.U p,.int<|s'.L p])=Y (hp.set 1<|.list<|uU n s')/\zw n s' x (hp.set 1<|.list<|uU n s') c:=by
 have o:=I.c3;have hl:(uU n s).length=n:=sT _ n;have z:(uU n s).set p (.tup [.int<|s'.U p,.int<|s'.L p])=uU n s':=Qf (g:=λi=>V.tup [.int<|s'.U i,.int<|s'.L i]) λi a f=>by refine Q ((d i a f).1)<|Q ((d i a f).2) rfl
 refine rj (uT (sf I.p1) (hl.symm▸L) (tC _ Br)<|hl.symm▸n6 U) ?_ ?_
 .exact J z<|EE I.p1 (hl.symm▸L) (hl.symm▸Br)<|hl.symm▸n6 U
 .exact ⟨(aW<|by decide).trans I.x0,bu<|DK I.p1,(aW<|by decide).trans<|by delta An;exact Q e I.p2,(aW<|by lia).trans<|Q j I.p3,o⟩
include hk GW hA hT JR H
theorem Sl (b:¬0<s.no k)(e:s.U k=0):∃g,rR (ev orc 57) [0] YK ⟨ud own A T c told (Y<|.int k) (Y<|.int<|s.U k) (Y<|.int<|s.L k) h f,hp⟩ =
  Y (.next,⟨ud own A T c told (Y<|.int k) (Y<|.int<|s.U k) (Y<|.int<|s.L k) h f,g⟩)/\zw n (lst G w k s) x g c:=by
 refine qN (Kt U I (i:=2) (s':={ s with c:=s.c+1 }) rfl rfl rfl rfl rfl rfl) λj o q=>?_
 have z:lst G w k s={ s with c:=s.c+1,no:=if w k=0 then s.no else up s.no (G k).toNat (s.no (G k).toNat+1) }:=(qn b).trans<|qm e
 have t:(lst G w k s).no p=s.no p+(if w k≠0 then 1 else 0):=by
  refine Q z ?_
  by_cases u:w k=0
  .exact Q (qm u)<|Q (qn λv=>v u)<|(dJ _).symm
  .exact Q (qn u)<|Q (qm u)<|Q (GW u)<|qm rfl
 obtain ⟨f1,f2,I2⟩:=adS U q Br L t (λi y h2=>by
  refine Q z ?_
  by_cases u:w k=0
  .refine Q (qm u) rfl
  .exact Q (qn u)<|Q (GW u)<|qn h2) (by refine Q z rfl) (by refine Q z rfl) (Q z rfl)
 have a:∀d,(ev orc 56).E [0] (.rf (.cmp (.sub (.l 2)<|.l 7) [.NotEq] [.i 0]) (.i 1)<|.i 0) ⟨ud own A T c told (Y<|.int k) (Y<|.int<|s.U k) (Y<|.int<|s.L k) h f,d⟩=Y (.int<|if w k≠0 then 1 else 0,⟨ud own A T c told (Y<|.int k) (Y<|.int<|s.U k) (Y<|.int<|s.L k) h f,d⟩):=λd=>by
  by_cases u:w k=0
  .exact Q (qn λv=>v u)<|wB (Er hT H hk) (df λv=>v u) rfl
  .exact Q (qm u)<|vD (Er hT H hk) (dt u) rfl
 exact qr _ (rg (zu rfl rfl j rfl (CO _ _) o)<|rM<|zu rfl (Ph hA JR hk) f1 (a _) (CO _ _) f2) I2
end
theorem pw2 {b:List O}{a:Int}(d:a.natAbs<2^2):sL b .Pow (.int a) (.int 2)=Y (.int<|a*a):=(H9 a 2 (by
 have y:au a<=2:=sP d;lia)).trans<|vi<|by refine Q (ej ..)<|Q (ej ..)<|Q (gm ..)<|Q (dO ..) rfl
theorem y_ {q a:Int}{d:Nat}(b:q.natAbs<2^d)(e:a.natAbs<2^j):(q*a).natAbs<2^(d+j):=Q (iZ ..)<|Q (cJ ..)<|Nat.mul_lt_mul_of_lt_of_lt b e
theorem HG {q:Int}(a:q.natAbs<2^2):(q*q).natAbs<2^4:=y_ a a
theorem sub_lt {q a:Int}{d:Nat}(b:q.natAbs<2^d)(e:a.natAbs<2^d):(q-a).natAbs<2^(d+1):=Q (iJ ..)<|Q (jU ..)<|av (dW q a)<|Nat.add_lt_add b e
theorem Bd.mono {a:LS}(y:b<=b')(z:Bd b a):Bd b' a:=λi=>⟨ai (z i).1<|aX (by decide) y,ai (z i).2<|aX (by decide) y⟩
theorem acM (v:Bd b s)(a:(w k).natAbs<2^2):Bd (2*b+5)<|lst G w k s:=by
 have B':=v.mono (b':=2*b+5) (by lia);intro i;delta lst
 split
 .exact B' i
 .split
  .exact B' i
  .show ((if w k=0 then s.U else _) i).natAbs<_/\((if w k=0 then s.L else _) i).natAbs<_
   by_cases e:w k=0
   .exact Q (qm e)<|Q (qm e)<|B' i
   .refine Q (qn e)<|Q (qn e) ?_
    delta up
    by_cases j:i=(G k).toNat
    .refine Q (qm j)<|Q (qm j) ?_
     have m:=λ{q:Int}{d z:Nat}(f:q.natAbs<2^d) (y:d<=z)=>ai f<|aX (show 0<2 by decide) y
     exact ⟨sub_lt (m (y_ (v (G k).toNat).1 (v k).1)<|by lia)<|m (y_ (y_ (HG a) (v k).2) (v (G k).toNat).2)<|by lia,m (y_ (v (G k).toNat).2 (v k).1)<|by lia⟩
    .exact Q (qn j)<|Q (qn j)<|B' i
section
variable (U:n<=50) (I:zw n s x hp c) (hk:k<n) (Br:p<n) (L:G k=(p:Int)\/G k=(p:Int)-(n:Int)) (GW:w k≠0->G k=(p:Int))
include U I Br L hk GW hA hT JR H
theorem S7 (f:¬0<s.no k)(j:s.U k≠0)(sZ:Bd b s)(o:b<=20000)(t:(w k).natAbs<2^2):∃u v d',rR (ev orc 57) [0] ZX ⟨ud own A T c told (Y<|.int k) (Y<|.int<|s.U k) (Y<|.int<|s.L k) a d,hp⟩ =
  Y (.next,⟨ud own A T c told (Y<|.int k) (Y<|.int<|s.U k) (Y<|.int<|s.L k) v d',u⟩)/\zw n (lst G w k s) x u c:=by
 have e:lst G w k s=_:=(qn f).trans<|qn j
 have y:∃zN,(ev orc 57).S [0] (.uD (.l 5) (.rf (.cmp (.bin .Mult (.l 8)<|.l 9) [.Gt] [.i 0]) (.i 0)<|.i 1) .Add<|.i 1) ⟨ud own A T c told (Y<|.int k) (Y<|.int<|s.U k) (Y<|.int<|s.L k) a d,hp⟩ =
   Y (.next,⟨ud own A T c told (Y<|.int k) (Y<|.int<|s.U k) (Y<|.int<|s.L k) a d,zN⟩)/\zw n { s with a:=if 0<s.U k*s.L k then s.a+1 else s.a,b:=if 0<s.U k*s.L k then s.b else s.b+1 } x zN c:=by
  have ec:(ev orc 55).E [0] (.cmp (.bin .Mult (.l 8)<|.l 9) [.Gt] [.i 0]) ⟨ud own A T c told (Y<|.int k) (Y<|.int<|s.U k) (Y<|.int<|s.L k) a d,hp⟩=Y (.bool<|decide<|0<s.U k*s.L k,⟨ud own A T c told (Y<|.int k) (Y<|.int<|s.U k) (Y<|.int<|s.L k) a d,hp⟩):=qW (qy rfl rfl<|xU _ _ b b (sZ k).1 (sZ k).2 (by lia)<|by lia) rfl<|Ac _ _
  by_cases q:0<s.U k*s.L k
  .refine Q (qm q)<|Q (qm q) ?_
   obtain ⟨e1,e2,I1⟩:=Kt U I (i:=0) (s':={ s with a:=s.a+1 }) rfl rfl rfl rfl rfl rfl;exact qr _ (zu (st3:=⟨ud own A T c told (Y<|.int k) (Y<|.int<|s.U k) (Y<|.int<|s.L k) a d,hp⟩) rfl (vD ec (dt q) rfl) e1 rfl (CO _ _) e2) I1
  .refine Q (qn q)<|Q (qn q) ?_
   obtain ⟨e1,e2,I1⟩:=Kt U I (i:=1) (s':={ s with b:=s.b+1 }) rfl rfl rfl rfl rfl rfl;exact qr _ (zu (st3:=⟨ud own A T c told (Y<|.int k) (Y<|.int<|s.U k) (Y<|.int<|s.L k) a d,hp⟩) rfl (wB ec (df q) rfl) e1 rfl (CO _ _) e2) I1
 refine qt y λzN y I1=>?_
 obtain ⟨f1,f2,I2⟩:=ado U I1 Br L (s':=lst G w k s) (λi g1 h=>by
  refine Q e ?_;show (if w k=0 then s.U else _) i=_/\(if w k=0 then s.L else _) i=_
  by_cases q:w k=0
  .exact Q (qm q)<|Q (qm q) ⟨rfl,rfl⟩
  .exact Q (qn q)<|Q (qn q)<|Q (GW q) ⟨qn h,qn h⟩) (by refine Q e rfl) (Q e rfl)
 have h2:(ev orc 57).S [0] (.asg (.tup [.l 10,.l 11])<|.sub (.l 3)<|.sub (.l 1)<|.l 7) ⟨ud own A T c told (Y<|.int k) (Y<|.int<|s.U k) (Y<|.int<|s.L k) a d,zN⟩ =
   Y (.next,⟨ud own A T c told (Y<|.int k) (Y<|.int<|s.U k) (Y<|.int<|s.L k) (Y<|.int<|s.U p)<|Y<|.int<|s.L p,zN⟩):=
  qU (ro rfl (Ph hA JR hk) f1) rfl
 by_cases q:w k=0
 .refine wR zN _ _ (rg y<|rg h2<|rM<|sG (Er hT H hk) (df λz=>z q) rfl) ?_;have:lst G w k s={ s with a:=if 0<s.U k*s.L k then s.a+1 else s.a,b:=if 0<s.U k*s.L k then s.b else s.b+1 }:=by
   refine Q e<|Q (qm q)<|Q (qm q) rfl
  exact Q this I1
 .have g:(lst G w k s).U p=s.U p*s.U k-w k*w k*s.L k*s.L p:=by
   refine Q e ?_;show (if w k=0 then s.U else _) p=_;exact Q (qn q)<|Q (GW q)<|qm rfl
  have gL:(lst G w k s).L p=s.L p*s.U k:=by refine Q e ?_;show (if w k=0 then s.L else _) p=_;exact Q (qn q)<|Q (GW q)<|qm rfl
  rw[g,gL] at f2
  have et:(ev orc 55).E [0] (.tup [.bin .Sub (.bin .Mult (.l 10)<|.l 8)<|.bin .Mult (.bin .Mult (.bin .Pow (.sub (.l 2)<|.l 7)<|.i 2)<|.l 9)<|.l 11,.bin .Mult (.l 11)<|.l 8]) ⟨ud own A T c told (Y<|.int k) (Y<|.int<|s.U k) (Y<|.int<|s.L k) (Y<|.int<|s.U p)<|Y<|.int<|s.L p,zN⟩ =
    Y (.tup [.int<|s.U p*s.U k-w k*w k*s.L k*s.L p,.int<|s.L p*s.U k],⟨ud own A T c told (Y<|.int k) (Y<|.int<|s.U k) (Y<|.int<|s.L k) (Y<|.int<|s.U p)<|Y<|.int<|s.L p,zN⟩):=
   sY<|qp (qy (qy rfl rfl<|xU _ _ b b (sZ p).1 (sZ k).1 (by lia)<|by lia) (qy (qy (qy (Vw hT H hk) rfl<|pw2 t) rfl<|xU _ _ 4 b (HG t) (sZ k).2 (by decide)<|by lia) rfl<|xU _ _ (4+b) b (y_ (HG t) (sZ k).2) (sZ p).2 (by lia)<|by lia)<|uj _ _)<|qH<|qy rfl rfl<|xU _ _ b b (sZ p).2 (sZ k).1 (by lia)<|by lia
  exact wR _ (Y<|.int<|s.U p) (Y<|.int<|s.L p) (rg y<|rg h2<|rM<|tY (Er hT H hk) (dt q)<|rM<|D7 et rfl (Ph hA JR hk) f2) I2
end
end
end
end L1
end
noncomputable section
namespace L1
open Vm
open Mp (LS lst up)
theorem aeL {o:Type}{z:Ev}{v:List Nat}{I:X}{x:St}{ρ d:o->V}{l:List o}(e:tK z v I x=Y (l.map ρ,N,x))(JO:∀a∈l,z.E v elt ⟨[Y<|ρ a],x.hp⟩=Y (d a,⟨[Y<|ρ a],x.hp⟩))(b:l.length<=65536) :
  rT z v (.comp elt [.l 0] [I] [[]] 1 0) x=Y (.list<|l.map d,x):=J (wq d l)<|O7 e (λa c=>zk<|JO a c)<|Q (wq ..)<|Q (ao ..) b
noncomputable def lr (z I:Nat->Int):Nat->LS->LS
 |0=>@λa=>a
 |m+1=>@λa=>lr z I m<|lst z I m a
noncomputable def lt (z I:Nat->Int):Nat->LS->LS
 |0=>@λa=>a
 |m+1=>@λa=>lt z I m<|lst z I (m+1) a
section
variable {A T:List V}{h j:Nat->Int}(L:∀i,i<n->A[i]?=Y (V.int<|h i)) (U:∀i,i<n->T[i]?=Y (V.int<|j i)) (y:A.length<=60) (G:T.length<=60) (t:n<=50) (w:∀k,k<n->∃p,p<n/\(h k=(p:Int)\/h k=(p:Int)-(n:Int))/\(j k≠0->h k=(p:Int))) (H:∀k,k<n->(j k).natAbs<2^2)
include L U y G t w H
theorem GS {v:Nat}(I:zw n s x hp c)(hk:v<n)(sZ:Bd b s)(f:b<=20000){e:Option V}:∃g o a' d',rR (ev orc 59) [0] RO ⟨ud own A T c told (Y<|.int v) u e a d,hp⟩ =
  Y (.next,⟨ud own A T o (Y<|.lst<|ue s) (Y<|.int v) (Y<|.int<|s.U v) (Y<|.int<|s.L v) a' d',g⟩)/\zw n (lst h j v s) x g o:=by
 refine rU (w v hk) λp Br h1 h2=>?_
 have e1:(ev orc 59).S [0] (.asg (.tup [.l 6,.tup [.l 8,.l 9]])<|.tup [.bf .list [.l 5],.sub (.l 3)<|.l 7]) ⟨ud own A T c told (Y<|.int v) u e a d,hp⟩ =
   Y (.next,⟨ud own A T c (Y<|.lst<|ue s) (Y<|.int v) (Y<|.int<|s.U v) (Y<|.int<|s.L v) a d,hp⟩):=
  qU (sY<|qp (ug (qH rfl)<|KI (sf I.p3)<|show 3<=65536 by decide)<|qH<|ro rfl rfl<|aeu t I hk) rfl
 by_cases q:0<s.no v
 .obtain ⟨g1,g2⟩:=Td I q;exact Hy _ _ _ _ (rg e1<|rM<|tY (qW (ro rfl rfl<|OP t I hk) rfl<|Ac _ _) (dt q)<|rM g1) g2
 .by_cases z:s.U v=0
  .exact qt (Sl L U y G t I hk Br h1 h2 q z) λg g1 g2=>Hy _ _ _ _ (rg e1<|rM<|sG (qW (ro rfl rfl<|OP t I hk) rfl<|Ac _ _) (df q)<|rM<|tY (qW rfl rfl<|Ad _ _) (dt z) g1) g2
  .exact acR (S7 L U y G t I hk Br h1 h2 q z sZ f (H v hk)) λg a' d' g1 g2=>Hy _ _ _ _ (rg e1<|rM<|sG (qW (ro rfl rfl<|OP t I hk) rfl<|Ac _ _) (df q)<|rM<|sG (qW rfl rfl<|Ad _ _) (df z) g1) g2
theorem QJ (b):∀(m:Nat)(c:LS)(u:List O)(z v:Nat)(f k o e g q:Option V),m<n->zw n c b u z->Bd v c->(v+5)*2^m<=20000->
  ∃s x k' a l' a' d',ui (ev orc 59) [0] (.l 7) N RO (nats (aq<|m+1).reverse) ⟨ud own A T z f k o e g q,u⟩ =
   Y (.next,⟨ud own A T x (Y<|.lst<|ue<|lt h j m c) k' a l' a' d',s⟩)/\zw n (lr h j (m+1) c) b s x
 |0=>@λc u z v f k o e g q hm I sZ hb=>by obtain ⟨s,x,a',d',g1,g2⟩:=(GS L U y G t w H I hm sZ (aa (aM v 5)<|aa (aK (eJ _).symm) hb));exact ⟨s,x,_,_,_,_,_,r_ rfl rfl g1 rfl,g2⟩
 |m+1=>@λc u z v f k o e g q hm I sZ hb=>by
  revert hb;refine Q (iJ ..) ?_;intro hb;have hb0:v<=20000:=by exact MT hb (aU (v+5)<|show 1<=2^m*2 by exact oW _ j')
  obtain ⟨s,x,a',d',g1,g2⟩:=(GS L U y G t w H I hm sZ hb0);obtain ⟨d,c2,k2,u2,l2,a2,d2,i1,i2⟩:=QJ b m _ s x (2*v+5) _ _ _ _ a' d' (fW hm) g2 (acM sZ<|H _ hm) (by
   refine Q (show 2*v+5+5=(v+5)*2 by lia) ?_;rw[fR,bS 2];exact hb)
  exact ⟨d,c2,k2,u2,l2,a2,d2,Q (fL ..)<|Q (List.reverse_append ..)<|r_ rfl rfl g1 i1,i2⟩
end
noncomputable def s0 (b:Nat->Int)(q:Int):LS:=⟨λi=>b i-q,λJ=>1,λJ=>0,0,0,0⟩
noncomputable def D1 (a:LS):List Int:=[a.a,a.b,a.c]
noncomputable def rh (ow:Nat->Int)(c:Nat):List V:=(aq c).map λi=>V.int<|ow i
theorem QO (c){b h j:Nat->Int}{s:Nat}(a)(hm:1<=c)(I:0<s)(t:s<=6)(w:∀k,k<s->∃p,p<s/\(h k=(p:Int)\/h k=(p:Int)-(s:Int))/\(j k≠0->h k=(p:Int)))(H:∀k,k<s->(j k).natAbs<2^2)(d:∀k,(b k-x).natAbs<2^100) :
  (qz c).top 233 [.lst<|rh b s,.lst<|rh h s,.lst<|rh j s,.int x] [] [] a=Y (.tup [.lst<|ue<|lr h j s<|s0 b x,.lst<|ue<|lt h j (s-1)<|s0 b x],a):=by
 obtain ⟨c,rfl⟩:∃z,c=z+1:=⟨c-1,(aH hm).symm⟩;have hl:∀u:Nat->Int,(rh u s).length=s:=λu=>sT _ s
 have f:∀(u:Nat->Int),sX [] 9 (.lst<|rh u s)=Y (.lst<|rh u s):=λu=>by
  have:=B1 [] 7<|(aq s).map u
  unfold iL at this
  rw[bk] at this
  exact this
 obtain ⟨g,c',k',u',l',a',d',g1,g2⟩:=QJ (A:=rh h s) (T:=rh j s) (λi hi=>tC (λi=>V.int<|h i) hi) (λi hi=>tC (λi=>V.int<|j i) hi) (aa (aK<|hl h)<|by lia) (aa (aK<|hl j)<|by lia) (bJ t) w H (.int x) (s-1) (s0 b x) _ 3 100 (Y<|.lst []) N N N N N (Nat.sub_one_lt_of_lt I) (⟨rfl,rfl,rfl,rfl,ag 3⟩:zw s (s0 b x) (.int x) [.cell<|Y<|.int x,.list<|uU s<|s0 b x,.list<|An s<|s0 b x,.list<|ue<|s0 b x] 3) (λi=>⟨d i,show 1<2^100 by decide +kernel⟩) (by
  have:2^(s-1)<=2^5:=aX (by decide)<|fi t _
  exact aa (aU 105 this)<|by decide)
 rw[aH I] at g1 g2
 have e0:(ev (qz c) 60).S [0] Vp ⟨[Y<|.lst<|rh b s,Y<|.lst<|rh h s,Y<|.lst<|rh j s,N,N,N,N,N,N,N,N,N],[.cell<|Y<|.int x]⟩ =
   Y (.next,⟨ud (.lst<|rh b s) (rh h s) (rh j s) 3 (Y<|.lst []) N N N N N,[.cell<|Y<|.int x,.list<|uU s<|s0 b x,.list<|An s<|s0 b x,.list<|ue<|s0 b x]⟩):=by
  refine qU (sY<|qp (xq (o:=.list<|uU s<|s0 b x) (st1:=⟨[Y<|.lst<|rh b s,Y<|.lst<|rh h s,Y<|.lst<|rh j s,N,N,N,N,N,N,N,N,N],[.cell<|Y<|.int x]⟩) ?_)<|qp (xq (st1:=⟨[Y<|.lst<|rh b s,Y<|.lst<|rh h s,Y<|.lst<|rh j s,N,N,N,N,N,N,N,N,N],[.cell<|Y<|.int x,.list<|uU s<|s0 b x]⟩) ?_)<|qp (xq rfl)<|qH rfl) rfl
  .exact aeL ((tP rfl rfl).trans rfl) (λi J=>sY<|qp (qy rfl (qB rfl rfl)<|uj _ _)<|qH rfl) (by refine Q (aS ..) ?_;lia)
  .have e:An s (s0 b x)=aw s (V.int 0):=by
    delta An;exact ew λi=>by
     by_cases q:i<s
     .refine Q (tC _ q)<|Q jr<|Q (qm q) ?_;rfl
     .refine Q (cf<|by refine Q (sT ..) ?_;lia)<|Q (cf<|by refine Q (g_ ..) ?_;lia) rfl
   exact Q e<|WS rfl (ug (qH rfl)<|(HP rfl<|by rw[hl];lia).trans<|vi<|qo _<|hl b) ⟨aC s,bo.mpr<|av t<|by decide⟩
 refine rE c rfl rfl rfl rfl (uS (f _)<|uS (f _)<|uS (f _) rfl) (hp':=g) (v:=.tup [.ref c',.lst<|ue<|lt h j (s-1)<|s0 b x]) ?_ ?_
 .exact (ax ub<|qI e0<|qI (v8 ((tP rfl<|ug (qp (qy (v_ rfl rfl<|by rw[hl];lia) rfl<|Q (hl ..) rfl)<|qp rfl<|qH rfl) rfl).trans<|Cz<|ZR<|da t) g1)<|tu<|sy<|sY<|qp rfl<|qH rfl:we (qz c) [0] Y1 ⟨[Y<|.lst<|rh b s,Y<|.lst<|rh h s,Y<|.lst<|rh j s,N,N,N,N,N,N,N,N,N],[.cell<|Y<|.int x]⟩=_)
 .exact qM<|uS (xH (l:=D1<|lr h j s<|s0 b x) g2.p3)<|CG<|B1 g 6<|D1<|lt h j (s-1)<|s0 b x
end L1
end
noncomputable section
namespace L1
open Vm
theorem DT:∀(l acc:List Int),(l.foldl iE acc).length<=acc.length+l.length/\((l.foldl iE acc).length=acc.length+l.length↔l.Nodup/\∀v∈l,v∉acc)
 |[]=>@λacc=>⟨ag _,⟨λW=>⟨lM,λv h=>nomatch h⟩,λW=>rfl⟩⟩
 |x::l=>@λacc=>by
  refine Q (dw ..)<|Q (aV ..) ?_
  have hs:iE acc x=if x∈acc then acc else acc++[x]:=by
   by_cases h:x∈acc
   .rw[qm h];exact qm<|hU (p:=λy=>y==x).mpr<|qr x h<|beq_self_eq_true x
   .rw[qn h];exact qn λz=>by exact qt (hU.mp z) λy a b=>h<|J (eq_of_beq b) a
  refine Q hs ?_;rw[bI]
  by_cases h:x∈acc
  .refine Q (qm h) ?_;obtain ⟨i1,i2⟩:=DT l acc;exact ⟨fj i1,⟨λz=>by lia,λz=>absurd h<|z.2 x<|.head _⟩⟩
  .refine Q (qn h) ?_;obtain ⟨i1,i2⟩:=DT l (acc++[x]);rw[aG] at i1 i2
   have h1:[x].length=1:=rfl;rw[h1] at i1 i2
   refine ⟨aa i1<|aK<|cD acc.length 1 _,?_⟩;rw[show acc.length+(l.length+1)=acc.length+1+l.length by exact (cm _ _).symm,i2];refine ⟨λz=>⟨⟨λhx=>z.2 x hx<|by simp,z.1⟩,λv hv=>?_⟩,λz=>⟨z.1.2,λv hv hm=>?_⟩⟩
   .rcases aE.mp hv with rfl|hv
    .exact h
    .exact λhm=>z.2 v hv<|fb _ hm
   .rcases bQ.mp hm with hm|hm
    .exact z.2 v (.tail _ hv) hm
    .exact z.1.1<|J (aN.mp hm) hv
theorem UM (a:List Nat):decide (Kl (a.map λc:Nat=>(c:Int))=(a.length:Int))=decide a.Nodup:=by
 refine decide_eq_decide.mpr ?_;delta Kl kT;have e:(aq (a.map λc:Nat=>(c:Int)).length).map (λj=>(a.map λc:Nat=>(c:Int)).getD j 0)=a.map λc:Nat=>(c:Int):=by
  refine ew λj=>?_
  by_cases G:j<(a.map λc:Nat=>(c:Int)).length
  .refine Q (tC _ G)<|Q cq<|Q (aD G) ?_;rfl
  .refine Q (cf<|by refine Q (sT ..) ?_;lia)<|Q (cf<|by lia) rfl
 refine Q e ?_;have h:=(DT (a.map λc:Nat=>(c:Int)) []).2;rw[ao,fM,bW] at h
 have H:(a.map λc:Nat=>(c:Int)).Nodup↔a.Nodup:=by delta List.Nodup;rw[fa];exact ⟨λh=>h.imp λh e=>h<|qo _ e,λh=>h.imp λh e=>h<|cW e⟩
 rw[<- H];refine ⟨λi=>(h.mp<|cW i).1,λi=>qo _<|h.mpr ⟨i,λq J b=>nomatch b⟩⟩
theorem GF:∀a:List Nat,intsOf (nats a)=Y (a.map λx:Nat=>(x:Int))
 |[]=>rfl|x::a=>(Q (GF a) rfl:(intsOf<|nats a).map ((x:Int)::·)=_)
theorem adi {l:List Nat}(G:l.length<64):yg hp .set [.lst<|nats l]=Y (.int<|Kl<|l.map λc:Nat=>(c:Int)):=by show (if (nats l).length<64 then (intsOf<|nats l).map λj=>V.int<|Kl j else N)=_;exact Q (rF ..)<|Q (qm G)<|Q (GF ..) rfl
theorem DJ (c:Nat):∀l:List Nat,L5 (.int c) (nats l)=Y (l.contains c)
 |[]=>rfl|a::l=>by refine (Q (DJ c l) ?_:(rV 8 (.int a)<|.int c).bind (λz=>(L5 (.int c)<|nats l).map (z||·))=_);show Y (decide ((a:Int)=(c:Int))||l.contains c)=_;refine Q (oF ..) ?_;congr 2;exact decide_eq_decide.mpr ⟨λh=>(cW h).symm,λh=>qo _ h.symm⟩
theorem Hc (b):∀(a:List Nat)(k:Nat),((aq a.length).filter λt=>decide<|b/2^(k+t)%2=1).map (λt=>a.getD t 0)=Mp.bits b k a
 |[]=>@λk=>rfl
 |e::a=>@λk=>by
  refine (?_:_=if b/2^k%2=1 then e::Mp.bits b (k+1) a else Mp.bits b (k+1) a);refine Q (aV ..)<|Q (jC ..)<|Q (dK ..)<|Q (lu ..)<|J (Hc b a<|k+1)<|Q (km λt W=>by refine (Q (show k+(t+1)=k+1+t by exact (cm _ _).symm) rfl:decide (b/2^(k+(t+1))%2=1)=_)) ?_
  by_cases i:b/2^k%2=1
  .exact Q (qm i)<|Q (qm<|by rw[gZ];exact decide_eq_true i)<|ax bC<|Q (bk ..) rfl
  .exact Q (qn i)<|Q (qn<|by rw[gZ];exact λn=>i<|of_decide_eq_true n)<|ax bk rfl
theorem bits_sub (c):∀(a:List Nat)(i:Nat),∀t∈Mp.bits c i a,t∈a
 |[]=>@λi t h=>nomatch h
 |x::a=>@λi t h=>by
  change t∈(if c/2^i%2=1 then x::Mp.bits c (i+1) a else Mp.bits c (i+1) a) at h
  split at h
  .rcases aE.mp h with rfl|h
   .exact .head _
   .exact .tail _<|bits_sub c a (i+1) t h
  .exact .tail _<|bits_sub c a (i+1) t h
theorem D4 (c):∀(a:List Nat)(k:Nat),(Mp.bits c k a).length<=a.length
 |[]=>@λk=>ag _
 |x::a=>@λk=>by
  refine (?_:(if c/2^k%2=1 then x::Mp.bits c (k+1) a else Mp.bits c (k+1) a).length<=_)
  split
  .exact Q (aV ..)<|Q (aV ..)<|fX<|D4 c a<|k+1
  .exact Q aV<|fj<|D4 c a<|k+1
noncomputable def EG:List Int->Int->Int
 |[]=>@λa=>a
 |x::l=>@λa=>EG l<|a*x
theorem LM:∀(l f:List Int)(a:Int),EG (l++f) a=EG f (EG l a)
 |[]=>@λf a=>rfl
 |x::l=>@λf a=>LM l f<|a*x
theorem FL (b:Nat->Int):∀(l:List Nat)(q:Int),EG (l.map b) q=q*Mp.u_ b l
 |[]=>@λq=>(gR q).symm
 |x::l=>@λq=>by refine (?_:EG (l.map b) (q*b x)=q*(b x*Mp.u_ b l));rw[FL b l,dH]
theorem aex {a b:Int}(G:a.natAbs<2^i)(T:b.natAbs<2^j)(w:i<=50000)(k:j<=50000):xO .Mult (.int a) (.int b)=Y (.int<|a*b):=by
 have e:CD a b=true:=by exact decide_eq_true<|aa (bq (aa (sP G) w)<|aa (sP T) k)<|by decide
 refine (ax (qm e) rfl:(if CD a b=true then _ else _)=_)
theorem bd3 {q:Int}(u:0<=q/\q<=3):q.natAbs<=3:=bB.mp<|Q (dP u.1) u.2
theorem aik (q b):tX hp .GtE (.int q) (.int b)=Y (decide<|b<=q):=rfl
abbrev zj (b i g:Nat->Int)(c h:Nat)(q:Int)(y o e:Option V):List O:=[.cell<|Y<|.lst<|rh b c,.cell<|Y<|.lst<|rh i c,.cell<|Y<|.lst<|rh g c,.cell<|Y<|.int h,.cell<|Y<|.int q,.cell y,.cell o,.cell e]
noncomputable def Fj:List Nat:=[0,1,2,3,4,5,6,7]
def abt:X:=.bin .Add (.comp (.un .USub<|.bin .Pow (.sub (.cell 2)<|.l 0)<|.i 2) [.l 0] [.l 1] [[]] 1 0)<|.comp (.bin .Sub (.cell 4)<|.sub (.cell 0)<|.l 0) [.l 0] [.bf .range [.cell 3,.bf .len [.cell 0]]] [[.cmp (.l 0) [.NotIn] [.cell 7]]] 1 0
def ait:List XS:=[.asg (.l 2)<|.i 1,.uZ (.l 3) abt [.aug (.l 2) .Mult<|.l 3],.aug (.l 0) .Add<|.l 2]
def RP:List XS:=[.asg (.l 1)<|.comp (.sub (.cell 5)<|.l 0) [.l 0] [.bf .range [.bf .len [.cell 5]]] [[.cmp (.bin .Mod (.bin .FloorDiv (.cell 6)<|.bin .Pow (.i 2)<|.l 0)<|.i 2) [.Eq] [.i 1]]] 1 0,.asg (.cell 7)<|.bin .Add (.l 1)<|.comp (.sub (.cell 1)<|.l 0) [.l 0] [.l 1] [[]] 1 0,.rf (.cmp (.bf .set [.cell 7]) [.Eq] [.bf .len [.cell 7]]) ait []]
section
theorem uA (g:Nat->Int){h:Nat}(w:n<=60)(G:h<n):si hp (.lst<|rh g n) (.int h)=Y (.int<|g h):=vV (tC (λu=>V.int<|g u) G)<|Q (show (rh g n).length=n from sT _ n)<|aa w<|by decide
theorem LY {c:Nat}(w:c<=4500):∀(l:List Int)(q:Int)(h:Nat)(e:Option V),(∀z∈l,z.natAbs<2^c)->q.natAbs<2^(c*h)->h+l.length<=11->
  ∃U,ui (ev orc 57) Fj (.l 3) N [.aug (.l 2) .Mult<|.l 3] (iL l) ⟨[x0,x1,Y<|.int q,e],hp⟩=Y (.next,⟨[x0,x1,Y<|.int<|EG l q,U],hp⟩)
 |[]=>@λq h e J J J=>⟨e,rfl⟩
 |z::l=>@λq h e hz G i=>by revert i;refine Q aV ?_;intro i;obtain ⟨U,o⟩:=LY w l (q*z) (h+1) (Y<|.int z) (λg a=>hz g<|.tail _ a) (Q (ie ..)<|Q (eJ ..)<|y_ G<|hz z<|.head _) (by lia);exact ⟨U,r_ rfl rfl (rM<|CV rfl rfl (aex G (hz z<|.head _) (aa (dG w<|show h<=10 by lia)<|by decide)<|aa w<|by decide) rfl) o⟩
variable (T:Mp.xw n ow ab ti) (d:f<=1) (j:∀k,k<n->(t-ow k).natAbs<2^4500)
include T
theorem LB (h:Nat):(ti h).natAbs<2^2:=da<|bd3<|T.C1 h
theorem Ro:(Mp.uC ab n f).length<=5:=by refine aa (cG ..) ?_;delta Mp.sl;exact Q (ed ..)<|aa (c8 n f) T.n5
include d j
theorem Tp (b:Nat)(i:b<=65536)(C0:Int){h e g:Option V}:∃q A a I,rR (ev orc 59) Fj RP ⟨[Y<|.int C0,x1,h,e],zj ow ab ti n f t (Y<|.lst<|nats<|Mp.uC ab n f) (Y<|.int b) g⟩ =
  Y (.next,⟨[Y<|.int<|C0+Mp.yQ (λv=>t-ow v) ti (Mp.pa ab) (Mp.sl f n) (Mp.bits b 0<|Mp.uC ab n f) [],q,A,a],zj ow ab ti n f t (Y<|.lst<|nats<|Mp.uC ab n f) (Y<|.int b) I⟩):=by
 have o:=Ro (f:=f) T;have p:n<=60:=aa T.n5 (by decide);have L:∀s∈Mp.bits b 0 (Mp.uC ab n f),f<=s/\s<n/\(Mp.pa ab s:Int)=ab s:=λs u=>by
  have:=Mp.yL T<|bits_sub b _ 0 s u
  exact rj this.1 this.2.1 this.2.2.2.1
 have G:=D4 b (Mp.uC ab n f) 0;have e1:(ev orc 58).E Fj (.comp (.sub (.cell 5)<|.l 0) [.l 0] [.bf .range [.bf .len [.cell 5]]] [[.cmp (.bin .Mod (.bin .FloorDiv (.cell 6)<|.bin .Pow (.i 2)<|.l 0)<|.i 2) [.Eq] [.i 1]]] 1 0) ⟨[Y<|.int C0,x1,h,e],zj ow ab ti n f t (Y<|.lst<|nats<|Mp.uC ab n f) (Y<|.int b) g⟩ =
   Y (.lst<|nats<|Mp.bits b 0<|Mp.uC ab n f,⟨[Y<|.int C0,x1,h,e],zj ow ab ti n f t (Y<|.lst<|nats<|Mp.uC ab n f) (Y<|.int b) g⟩):=by
  generalize Mp.uC ab n f=es at o ⊢
  refine J (Hc b es 0) ?_;delta nats;refine Q (bk ..)<|xP (g:=λw=>V.int ((es.getD w 0:Nat):Int)) (λw=>decide<|b/2^(0+w)%2=1) (vE ((v_ (qB rfl rfl) rfl<|by refine Q (ao ..) ?_;lia).trans<|qo (λk:Nat=>Y (V.int k,(_:St)))<|ao ..)<|by lia) (λw hi=>?_) (λw hi W=>?_)<|by refine Q (aS ..) ?_;lia
  .have hi:=bF.mp hi;refine Q (bW ..)<|(qW (qy (qy (qB rfl rfl) (qy rfl rfl<|yh 2 w ?_)<|KN b (2^w) (bx w)<|zG<|Nat.pow_lt_pow_right (ag _)<|by lia) rfl<|RZ _ 2 (by decide)<|zG<|by decide +kernel) rfl<|Ad _ _).trans ?_
   .skip
    exact aa (dG (bits_le.mpr (by decide):au ((2:Nat):Int)<=2)<|show w<=5 by lia)<|b8 _ _
   .exact qo (λz=>Y (V.bool z,(_:St)))<|decide_eq_decide.mpr ⟨λu=>cW u,λu=>qo _ u⟩
  .have hi:=bF.mp hi;refine ro (qB rfl rfl) rfl<|vV ?_<|by refine Q (rF ..) ?_;lia
   refine Q (DI ..)<|Q (aD hi)<|Q cq<|Q (aD hi) ?_;rfl
 generalize hbs:Mp.bits b 0 (Mp.uC ab n f)=bs at *
 generalize Mp.uC ab n f=es at *
 have U:bs.length<=5:=aa G o;have hz:∀{l:List Nat},l.length<=20->(nats l).length<=65536:=λu=>Q (rF ..)<|aa u<|by decide
 have QT:(Mp.tk (Mp.pa ab) bs).length<=10:=by delta Mp.tk;exact Q (aG ..)<|Q (ao ..)<|bq U U
 have e2:(ev orc 58).E Fj (.bin .Add (.l 1)<|.comp (.sub (.cell 1)<|.l 0) [.l 0] [.l 1] [[]] 1 0) ⟨[Y<|.int C0,Y<|.lst<|nats bs,h,e],zj ow ab ti n f t (Y<|.lst<|nats es) (Y<|.int b) g⟩ =
   Y (.lst<|nats<|Mp.tk (Mp.pa ab) bs,⟨[Y<|.int C0,Y<|.lst<|nats bs,h,e],zj ow ab ti n f t (Y<|.lst<|nats es) (Y<|.int b) g⟩):=by
  delta Mp.tk;exact Q (AZ ..)<|Q (show nats (bs.map<|Mp.pa ab)=bs.map λk=>V.int ((Mp.pa ab k:Nat):Int) from bk)<|qy rfl (u5 ((tP rfl rfl).trans rfl) (λk hk=>(ro (qB rfl rfl) rfl<|uA ab p (L k hk).2.1).trans<|by refine Q ((L k hk).2.2) rfl)<|aa U<|by decide)<|wM<|Q (rF ..)<|Q (ao ..)<|aa (bq U U)<|by decide
 have e3:(ev orc 58).E Fj (.cmp (.bf .set [.cell 7]) [.Eq] [.bf .len [.cell 7]]) ⟨[Y<|.int C0,Y<|.lst<|nats bs,h,e],zj ow ab ti n f t (Y<|.lst<|nats es) (Y<|.int b)<|Y<|.lst<|nats<|Mp.tk (Mp.pa ab) bs⟩ =
   Y (.bool<|decide (Mp.tk (Mp.pa ab) bs).Nodup,⟨[Y<|.int C0,Y<|.lst<|nats bs,h,e],zj ow ab ti n f t (Y<|.lst<|nats es) (Y<|.int b)<|Y<|.lst<|nats<|Mp.tk (Mp.pa ab) bs⟩):=J (UM ..)<|qW (ug (qH<|qB rfl rfl)<|adi<|av QT<|by decide) (v_ (qB rfl rfl) rfl<|hz<|aa QT<|by decide)<|(Ad _ _).trans<|by refine Q (rF ..) rfl
 by_cases x:(Mp.tk (Mp.pa ab) bs).Nodup
 .have ef:∀h e,(ev orc 57).E Fj abt ⟨[Y<|.int C0,Y<|.lst<|nats bs,h,e],zj ow ab ti n f t (Y<|.lst<|nats es) (Y<|.int b)<|Y<|.lst<|nats<|Mp.tk (Mp.pa ab) bs⟩ =
    Y (.lst<|iL<|bs.map (λk=>- (ti k*ti k))++(Mp.rest (Mp.sl f n)<|Mp.tk (Mp.pa ab) bs++[]).map λv=>t-ow v,⟨[Y<|.int C0,Y<|.lst<|nats bs,h,e],zj ow ab ti n f t (Y<|.lst<|nats es) (Y<|.int b)<|Y<|.lst<|nats<|Mp.tk (Mp.pa ab) bs⟩):=λh e=>by
   refine Q (JF ..)<|Q (bh ..) ?_
   have y:(Mp.sl f n).length<=5:=by delta Mp.sl;exact Q (ed ..)<|aa (c8 n f) T.n5
   refine qy (u5 ((tP rfl rfl).trans rfl) (λk hk=>xW<|qy (ro (qB rfl rfl) rfl<|uA ti p (L k hk).2.1) rfl<|pw2<|LB T k)<|aa U<|by decide)
    (xP (l:=Mp.sl f n) (λv=>!(Mp.tk (Mp.pa ab) bs).contains v) (IL (qB rfl rfl) ((v_ (qB rfl rfl) rfl<|Q (sT _ n)<|aa T.n5<|by decide).trans<|qo (λk:Nat=>Y (V.int k,(_:St)))<|sT _ n) (bJ d)<|bJ p) (λk hk=>qW rfl (qB rfl rfl) ?_) (λk hk W=>qy (qB rfl rfl) (ro (qB rfl rfl) rfl<|uA ow p (Mp.rI.mp hk).2)<|uj _ _)<|by lia) ?_
   .exact qo (Option.map not)<|DJ k<|Mp.tk (Mp.pa ab) bs
   .skip
    exact Q (show iL (bs.map λk=>- (ti k*ti k))=bs.map λk=>V.int <| - (ti k*ti k) from bk)<|Q (show iL ((Mp.rest (Mp.sl f n)<|Mp.tk (Mp.pa ab) bs).map λv=>t-ow v)=(Mp.rest (Mp.sl f n)<|Mp.tk (Mp.pa ab) bs).map λv=>V.int<|t-ow v from bk)<|wM<|Q (ao ..)<|Q (ao ..)<|aa (bq U<|aa (cG (λv=>!(Mp.tk (Mp.pa ab) bs).contains v)<|Mp.sl f n) y)<|by decide
  obtain ⟨a,c⟩:=LY (ag _) (bs.map (λk=>- (ti k*ti k))++(Mp.rest (Mp.sl f n)<|Mp.tk (Mp.pa ab) bs++[]).map λv=>t-ow v) 1 1 e (λz hz=>by
   rcases bQ.mp hz with hz|hz
   .refine qt (bZ.mp hz) λk W wU=>J wU ?_;clear wU
    exact Q (cX ..)<|ai (HG<|LB T k)<|aX (by decide)<|by decide
   .refine qt (bZ.mp hz) λk hk H=>J H ?_;clear H
    exact j k (Mp.rI.mp (Mp.u9.mp hk).1).2) (show 1<2^(4500*1) from Nat.one_lt_two_pow (by decide)) (Q (aG ..)<|Q (ao ..)<|Q (ao ..)<|aa (aP (bq U<|aa (cG (λv=>!(Mp.tk (Mp.pa ab) bs++[]).contains v)<|Mp.sl f n)<|by delta Mp.sl;exact Q (ed ..)<|aa (c8 n f) T.n5) 1)<|ag _)
  have et:Mp.yQ (λv=>t-ow v) ti (Mp.pa ab) (Mp.sl f n) bs []=EG (bs.map (λk=>- (ti k*ti k))++(Mp.rest (Mp.sl f n)<|Mp.tk (Mp.pa ab) bs++[]).map λv=>t-ow v) 1:=by rw[LM,FL λk=>- (ti k*ti k),FL λv=>t-ow v,dO];exact qm ⟨x,λv W u=>nomatch u⟩
  refine Q et ?_;generalize EG _ 1=P at *
  exact ⟨_,_,_,_,rg (qU e1 rfl)<|rg (qU e2 rfl)<|rM<|tY e3 (dt x)<|rg (qU rfl rfl)<|rg (v8 ((tP rfl<|ef _ _).trans rfl) c)<|rM<|CV rfl rfl (CO _ _) rfl⟩
 .have e0:Mp.yQ (λv=>t-ow v) ti (Mp.pa ab) (Mp.sl f n) bs []=0:=qn λu=>x u.1
  exact Q e0<|Q (dJ ..) ⟨_,_,_,_,rg (qU e1 rfl)<|rg (qU e2 rfl)<|rM<|sG e3 (df x) rfl⟩
theorem QK:∀(c a:Nat)(y h e U q:Option V),a+c<=65536->∃A b I i g,ui (ev orc 59) Fj (.cell 6) N RP (nats<|dn a c) ⟨[Y<|.int<|Mp.sm (λz=>Mp.yQ (λu=>t-ow u) ti (Mp.pa ab) (Mp.sl f n) (Mp.bits z 0<|Mp.uC ab n f) []) a,y,h,e],zj ow ab ti n f t (Y<|.lst<|nats<|Mp.uC ab n f) U q⟩ =
  Y (.next,⟨[Y<|.int<|Mp.sm (λz=>Mp.yQ (λu=>t-ow u) ti (Mp.pa ab) (Mp.sl f n) (Mp.bits z 0<|Mp.uC ab n f) [])<|a+c,A,b,I],zj ow ab ti n f t (Y<|.lst<|nats<|Mp.uC ab n f) i g⟩)
 |0=>@λa y h e U q J=>Hw y h e U q rfl
 |c+1=>@λa y h e U q o=>acQ (Tp T d j a (aa (aM _ _) o) (Mp.sm (λz=>Mp.yQ (λu=>t-ow u) ti (Mp.pa ab) (Mp.sl f n) (Mp.bits z 0<|Mp.uC ab n f) []) a)) λs p w x v=>NT (QK c (a+1) s p w (Y<|.int a) x<|Q (cm ..) o) λG H L nb2 tk2 ih=>Q (show a+(c+1)=a+1+c from (cm a c).symm)<|Hw G H L nb2 tk2<|r_ rfl rfl v ih
end
theorem yK (a)(c)(b:Nat->Int)(h):sX a (c+2) (.lst<|rh b h)=Y (.lst<|rh b h):=by
 have:=B1 a c<|(aq h).map b
 unfold iL at this
 rw[bk] at this
 exact this
theorem AK (c){b o g:Nat->Int}{h v:Nat}{q:Int}(a)(w:1<=c)(H:Mp.xw h b o g)(u:v<=1)(j:∀k,k<h->(q-b k).natAbs<2^4500) :
  (qz c).top 216 [.lst<|rh b h,.lst<|rh o h,.lst<|rh g h,.int v,.int q] [] [] a=Y (.int<|Mp.u4 b o g h v q,a):=by
 obtain ⟨c,rfl⟩:∃z,c=z+1:=⟨c-1,(aH w).symm⟩;have p:=Ro (f:=v) H;have U:h<=60:=aa H.n5 (by decide);have G:2^(Mp.uC o h v).length<=2^5:=aX (by decide) p;refine NT (QK (orc:=qz c) H u j (2^(Mp.uC o h v).length) 0 N N N N N<|Q (bW ..)<|aa G<|by decide) λs A x I i e=>?_
 rw[bW,<-dm] at e
 have hw:∀y:Nat->Int,(rh y h).length=h:=λy=>sT _ h
 have L:(ev (qz c) 58).E Fj (.comp (.l 0) [.l 0] [.bf .range [.cell 3,.bf .len [.cell 0]]] [[.cmp (.sub (.cell 1)<|.l 0) [.GtE] [.cell 3]]] 1 0) ⟨[N,N,N,N],zj b o g h v q N N N⟩ =
   Y (.lst<|nats<|Mp.uC o h v,⟨[N,N,N,N],zj b o g h v q N N N⟩):=
  xP (λk=>decide<|(v:Int)<=o k) (IL (qB rfl rfl) ((v_ (qB rfl rfl) rfl<|Q (hw ..)<|aa H.n5<|by decide).trans<|qo (λk:Nat=>Y (V.int k,(_:St)))<|hw b) (bJ u)<|bJ U) (λk hk=>qW (ro (qB rfl rfl) rfl<|uA o U (Mp.rI.mp hk).2) (qB rfl rfl)<|aik _ _) (λk J J=>rfl) (by delta Mp.sl;exact Q (ed ..)<|M5 U)
 refine rE c (t:=t28) rfl rfl rfl rfl (uS (yK _ _ _ _)<|uS (yK _ _ _ _)<|uS (yK _ _ _ _) rfl) (ax ub<|qI (qU (sY<|qp rfl<|qH L) rfl)<|qI (v8 (vE (qy rfl (v_ (qB rfl rfl) rfl<|Q (rF ..)<|aa p<|by decide)<|(qo (λk:Nat=>sL _ .Pow (.int 2)<|.int k)<|rF _).trans<|yh 2 (Mp.uC o h v).length ?_)<|aa G<|by decide) e)<|tu<|sy rfl:we (qz c) Fj Y6 ⟨[N,N,N,N],zj b o g h v q N N N⟩=_) rfl;exact MQ (dG (bits_le.mpr (by decide):au ((2:Nat):Int)<=2) p)
def yu (b:Nat)(k:V)(L A:V)(a:List V):List O:=
 [.cell<|Y k,.cell<|Y<|.ref<|b+2,.fn Mh []<|Y<|b+3,
  .ns [("itertext",.ref<|b+5),("makeelement",.con<|.ref 190),("append",.bm "list.append"<|.ref<|b+4),("kids",.ref<|b+4),("tail",A),("attrib",L),("tag",k)],
  .list a,.fn xK [("tag",b),("one",b+1)] N]
theorem zL:sU (az "tag")=true/\sU (az "attrib")=true/\sU (az "tail")=true/\sU (az "kids")=true/\sU (az "append")=true/\sU (az "makeelement")=true/\sU (az "itertext")=true:=by decide +kernel
theorem Z5 (e:l[k]?=Y (.fn f c N))(i:sU n=true)(o:hp.length+l.length=hp.length+d):yH (hp++l) (.ref<|hp.length+k) n v=Y (hp++(l.set k (.fn f c<|Y<|hp.length+d)++[.ns [(n,v)]])):=by show Og (hp++l) (hp.length+k) n v (hp++l)[hp.length+k]?=_;refine Q (sD ..)<|Q e<|(qm i).trans<|Q (yG ..)<|Q (len_app ..)<|Q o<|Q (a9 ..) rfl
theorem yI (e:l[k]?=Y (.fn f c<|Y<|hp.length+d))(i:l[d]?=Y (.ns q))(o:sU n=true)(G:q.length<100):yH (hp++l) (.ref<|hp.length+k) n v=Y (hp++l.set d (.ns<|(n,v)::q)):=by
 show Og (hp++l) (hp.length+k) n v (hp++l)[hp.length+k]?=_;refine Q (sD ..)<|Q e ?_
 show putN (hp++l) (hp.length+d) n v (hp++l)[hp.length+d]?=_;refine Q (sD ..)<|Q i<|(qm ⟨o,G⟩).trans<|Q (yG ..) rfl
theorem ae8 (e:l[k]?=Y (.fn f c<|Y<|hp.length+d))(i:l[d]?=Y (.ns q))(o:sU n=true)(z:q.lookup n=Y v)(H:GB v=true):tj (hp++l) (.ref<|hp.length+k) n=Y v:=by
 show zW (hp++l) (hp.length+k) n (hp++l)[hp.length+k]?=_;refine Q (sD ..)<|Q e<|(qm o).trans<|Q (sD ..)<|Q i ?_
 show (kY n q).bind _=_;exact Q z<|qm H
theorem acu (e:l[k]?=Y (.list x)):tj (hp++l) (.ref<|hp.length+k) "append"=Y (.bm "list.append"<|.ref<|hp.length+k):=by show zW (hp++l) (hp.length+k) "append" (hp++l)[hp.length+k]?=_;exact Q (sD ..)<|Q e (qm rfl:(if ("append":ba)="append" then Y (V.bm "list.append"<|.ref<|hp.length+k) else N)=_)
theorem XH {U:List Nat}(h)(e:rT (ev g j) U x ⟨loc,hp++l⟩=Y (o,⟨loc,hp++l⟩))(i:hp.length+l.length=hp.length+h):(ev g<|j+1).E U (.new x) ⟨loc,hp++l⟩=Y (.ref<|hp.length+h,⟨loc,hp++(l++[o])⟩):=by refine (xq e).trans<|Q (len_app ..)<|Q i<|Q (a9 ..) rfl
theorem L0 {U:List Nat}(h)(e:v5 U cl=Y Dg)(i:hp.length+l.length=hp.length+h):(ev orc<|j+1).E U (.lam f cl) ⟨loc,hp++l⟩=Y (.ref<|hp.length+h,⟨loc,hp++(l++[.fn f Dg N])⟩):=by refine (qC e rfl:(ev orc<|j+1).E U (.lam f cl) ⟨loc,hp++l⟩=Y (V.ref (hp++l).length,(⟨loc,(hp++l)++[.fn f Dg N]⟩:St))).trans<|Q (len_app ..)<|Q i<|Q (a9 ..) rfl
theorem Ky {U:List Nat}(e:U[i]?=Y (hp.length+k))(j:l[k]?=Y (.cell w)):rA U 5 (.cell i) v ⟨loc,hp++l⟩=Y ⟨loc,hp++l.set k (.cell<|Y v)⟩:=(AP e<|(sD ..).trans j).trans<|qo (λd=>Y (⟨loc,d⟩:St))<|yG ..
theorem Uo {y:Option V}(e:findKey ks vs (.str "tail")=Y y)(j):za j .Ba (.ru ks vs) [.qu "tail"]=Y (Ak y .none,j):=by show ((findKey ks vs<|.str "tail").map (Ak · .none)).map (·,j)=_;exact Q e rfl
theorem Wm (m)(n)(a f)(y)(e:findKey a f (.str "tail")=Y y)(hp) :
  (qz<|m+1).top 190 [n,.ru a f] [] [] hp=Y (.ref<|hp.length+2,hp++yu hp.length n (.ru a f) (Ak y .none) []):=by
 refine Q (Cx m rfl rfl rfl) (qS (Ce (Ky (k:=0) rfl rfl) rfl) ?_:tW (qz m) f24 [] [n,.ru a f] hp=_);have c1:∀{l:List O}{j:Nat},l[1]?=Y (.cell<|Y<|.ref<|hp.length+2)->(ev (qz m)<|j+1).E [hp.length,hp.length+1] (.cell 1) ⟨[Y<|.ru a f],hp++l⟩=Y (.ref<|hp.length+2,⟨[Y<|.ru a f],hp++l⟩):=λi=>qB rfl<|(sD ..).trans i
 exact qI (qU (L0 2 rfl rfl)<|Ky (k:=1) rfl rfl)
  (qI (vS (qB rfl<|ve ..) (c1 rfl)<|Z5 rfl zL.1 rfl)
  (qI (vS rfl (c1 rfl)<|yI rfl rfl zL.2.1 (by decide:1<100))
  (qI (vS (uL rfl rfl rfl (qH rfl)<|Uo e _) (c1 rfl)<|yI rfl rfl zL.2.2.1 (by decide:2<100))
  (qI (vS (XH 4 rfl rfl) (c1 rfl)<|yI rfl rfl zL.2.2.2.1 (by decide:3<100))
  (qI (vS (xr (xr (c1 rfl)<|ae8 rfl rfl zL.2.2.2.1 rfl rfl)<|acu rfl) (c1 rfl)<|yI rfl rfl zL.2.2.2.2.1 (by decide:4<100))
  (qI (vS rfl (c1 rfl)<|yI rfl rfl zL.2.2.2.2.2.1 (by decide:5<100))
  (qI (vS (L0 5 rfl rfl) (c1 rfl)<|yI rfl rfl zL.2.2.2.2.2.2 (by decide:6<100))
  <| tu<|sy<|c1 rfl)))))))
def sj (a:List O)(c:Nat)(k L A:V)(f:List V):Prop:=∀h,h<6->a[c+h]?=(yu c k L A f)[h]?
theorem yN (G:sj hp b tag attr tail kids)(e:sU n=true)(i:([("itertext",.ref<|b+5),("makeelement",.con<|.ref 190),("append",.bm "list.append"<|.ref<|b+4),("kids",.ref<|b+4),("tail",tail),("attrib",acw),("tag",tag)]:List<|ba×V).lookup n=Y v)(o:GB v=true)(z:acw=attr):tj hp (.ref<|b+2) n=Y v:=by subst z;refine (Q (G 2<|by decide)<|(qm e).trans<|Q (G 3<|by decide) ?_:zW hp (b+2) n hp[b+2]?=_);show (kY n _).bind _=_;exact Q i<|qm o
theorem Dh (G:sj hp b tag attr tail kids):tj hp (.ref<|b+2) "itertext"=Y (.ref<|b+5):=yN G zL.2.2.2.2.2.2 rfl rfl rfl
theorem Yx (G:sj hp b tag attr tail kids):tj hp (.ref<|b+2) "kids"=Y (.ref<|b+4):=yN G zL.2.2.2.1 rfl rfl rfl
theorem Yw (G:sj hp b tag attr tail kids):tj hp (.ref<|b+2) "makeelement"=Y (.con<|.ref 190):=yN G zL.2.2.2.2.2.1 rfl rfl rfl
theorem R3 (G:sj hp b tag attr tail kids):tj hp (.ref<|b+2) "append"=Y (.bm "list.append"<|.ref<|b+4):=yN G zL.2.2.2.2.1 rfl rfl rfl
theorem MF (G:sj hp b tag attr tail kids)(e:GB tail=true):tj hp (.ref<|b+2) "tail"=Y tail:=yN G zL.2.2.1 rfl e rfl
theorem R2 (G:sj hp b tag attr tail kids)(e:GB attr=true):tj hp (.ref<|b+2) "attrib"=Y attr:=yN G zL.2.1 rfl e rfl
theorem Yy (G:sj hp b tag attr tail kids):isFn hp (.ref<|b+2)=true:=by show EV hp[b+2]?=true;exact Q (G 2<|by decide) rfl
inductive Fo where
 |nil
 |cons (tag tail attr:V) (kids rest:Fo)
noncomputable def Zh:V->Bool
 |.str s=>decide<|s.cps.size≠0
 |.qu s=>decide<|s.cps.size≠0
 |_=>false
def Z7:V->Bool
 |.str p=>q6 p.cps.size|.qu p=>q6 p.cps.size
 |_=>false
def wI (k:V):Bool:=Z7 k||(match k with|.none=>true|_=>false)
theorem LN (e:wI k=true):rD hp k=Y (Zh k)/\GB k=true:=by
 delta wI at e
 cases k with
 |none=>exact ⟨rfl,rfl⟩|str p=>
  have e:q6 p.cps.size=true:=by simpa[Z7] using e
  exact ⟨qm e,rfl⟩
 |qu p=>
  have e:q6 p.cps.size=true:=by simpa[Z7] using e
  exact ⟨qm e,rfl⟩
 |_=>cases e
noncomputable def sJ:Fo->List V
 |.nil=>[]
 |.cons k L J T rest=>([k]++sJ T)++([L]++sJ rest)
noncomputable def A':Fo->Nat
 |.nil=>0|.cons J W V L rest=>max (A' L+1)<|A' rest
noncomputable def BP:Fo->Bool
 |.nil=>true|.cons k L J T rest=>wI k&&wI L&&BP T&&BP rest
noncomputable def refsOf (a:List Nat):List V:=a.map λb=>V.ref<|b+2
def D8 (a:List O):List Nat->Fo->Prop
 |bs,.nil=>bs=[]|bs,.cons k L A T rest=>∃c j u,bs=c::j/\sj a c k A L (refsOf u)/\D8 a u T/\D8 a j rest
theorem C5 (a):vG (refsOf a)=Y (a.map (·+2)):=by
 induction a with
 |nil=>rfl|cons c a e=>
  exact (Q e rfl:(vG<|refsOf a).map (_::·)=_)
noncomputable def Kv (c:Nat):List<|ba×Nat:=[("tag",c),("one",c+1)]
def ZD:eV:=⟨.function,[("one",.free),("tag",.free)],false,false,xK.scope.more⟩
def aay:K:=⟨ZD,[],["one","tag"],"_law_element.<locals>.<lambda>.<locals>.",N⟩
noncomputable def RB:X:=.comp (.l 1) [.l 0,.l 1] [.attr (.cell 0) "kids",.bin .Add (.mc (.l 0) "itertext" [])<|.list [.attr (.l 0) "tail"]] [[],[]] 2 0
def RR:X:=.bin .Add (.list [.cell 1]) RB
def J1:Fn:=⟨aay,[],[],.inr RR⟩
theorem abR:AA g0 [] xK=Y J1:=by kernel_rfl
theorem ahn (g)(c)(a):tW g J1 (Kv c) [] a=((ev g 60).E [c+1,c] RR ⟨[],a++[]⟩).map λb=>(b.1,b.2.hp):=by delta tW;exact Q (by kernel_rfl:wg (Kv c) J1.B.scope.names a.length=Y [c+1,c]) rfl
theorem PL (U)(y)(f)(b:St->Option (List V×St))(d:∀v,b ⟨[y,Y v],f⟩=Y ([v],⟨[y,Y v],f⟩)):∀(l:List V)(h:Option V),∃e,s8 U (.l 1) N b l ⟨[y,h],f⟩=Y (l,⟨[y,e],f⟩)
 |[]=>@λh=>⟨h,rfl⟩
 |v::l=>@λh=>rN (PL U y f b d l<|Y v) λe g=>⟨e,wV rfl rfl (d v) g⟩
def gO (g:vC)(U:List Nat)(x:St):Option<|List V×St:=gT (ev g 58) U (.l 1) [] [.l 1] [.bin .Add (.mc (.l 0) "itertext" [])<|.list [.attr (.l 0) "tail"]] [[]] x
theorem acX {g:vC}{U:List Nat}{u:List V}(G:sj j c tag attr tail ks)(e:wI tail=true)(i:g.zU xK (Kv c) [] j=Y (.lst u,j))(w:u.length+([tail]).length<=65536)(y) :
  ∃h,gO g U ⟨[Y<|.ref<|c+2,y],j⟩=Y (u++[tail],⟨[Y<|.ref<|c+2,h],j⟩):=rN (PL U (Y<|.ref<|c+2) j (gT (ev g 58) U (.l 1) [] [] [] []) (λT=>rfl) (u++[tail]) y) λh n=>⟨h,Q9 (f:=[]) (tP rfl<|qy ((λk=>Vc rfl (Dh G) rfl<|Kq (G 5<|by decide) i) 54) (yC<|qH<|(λk=>xr rfl<|MF G (LN (hp:=j) e).2) 53)<|wM w) n⟩
theorem PK (g)(M)(f)(h)(j)(e:uo f (Y (h,j))=true)(b:∀(L:Fo)(t:Nat)(k T A:V)(u:List Nat),A' L<g->wI k=true->BP L=true->sj f t k T A (refsOf u)->D8 f u L->([k]++sJ L).length<=65536->
   (qz g).zU xK (Kv t) [] f=Y (.lst<|[k]++sJ L,f)) :
  ∀(s:Fo)(G:List Nat)(y o:Option V),A' s<=g->BP s=true->D8 f G s->(sJ s).length<=65536->
   ∃p U,s8 M (.l 0) (Y (h,j)) (gO (qz g) M) (refsOf G) ⟨[y,o],f⟩=Y (sJ s,⟨[p,U],f⟩)
 |.nil=>@λG y o W W i W=>by obtain rfl:G=[]:=i;exact tH y o<|PI e
 |.cons k A T L rest=>@λG y o v x i w=>by
  obtain ⟨c,d,u,rfl,I,a,h3⟩:=i
  change max (A' L+1) (A' rest)<=_ at v
  change (wI k&&wI A&&BP L&&BP rest)=true at x
  simp only[aA] at x
  refine rG x λrS n=>?_;obtain ⟨⟨H,o2⟩,z⟩:=rS
  change (([k]++sJ L)++([A]++sJ rest)).length<=65536 at w
  rw[aG,aG (as:=[A])] at w
  exact rN (acX I o2 (b L c k T A u (aa (Nat.le_max_left ..) v) H z I a<|aa (aM ([k]++sJ L).length _) w) (aa (aP (aM [A].length _) ([k]++sJ L).length) w) o) λq i2=>se (PK g M f h j e b rest d (Y<|.ref<|c+2) q (aa (Nat.le_max_right ..) v) n h3<|aa (aa (b8 (sJ rest).length [A].length)<|b8 _ ([k]++sJ L).length) w) λp U i3=>tH p U (J (a9 ([k]++sJ L) ..)<|wV e rfl i2 i3:_=Y (([k]++sJ L)++([A]++sJ rest),_))
theorem C8 (a):∀(m:Nat)(L:Fo)(h:Nat)(k U A:V)(g:List Nat),A' L<m->wI k=true->BP L=true->sj a h k U A (refsOf g)->D8 a g L->([k]++sJ L).length<=65536->
   (qz m).zU xK (Kv h) [] a=Y (.lst<|[k]++sJ L,a)
 |0=>@λJ J J J J J j J J J J J=>by lia
 |m+1=>@λL h k U A g G e i h1 b w=>by
  refine Q (AB m abR rfl)<|Q (ahn ..) ?_;rw[bh]
  have o:uo a (Y (h+4,g.map (·+2)))=true:=by
   show (match a[h+4]? with
    |Y<|.list l=>vG l==Y (g.map (·+2))|_=>false)=true
   refine Q (h1 4<|by decide) ?_;show (vG (refsOf g)==_)=true;exact Q (C5 ..)<|beq_self_eq_true _
  replace w:=aG▸w;refine se (PK m [h+1,h] a (h+4) (g.map (·+2)) o (C8 a m) L g N N (bO G) i b<|by lia) λp c T=>?_
  have z:tK (ev (qz m) 58) [h+1,h] (.attr (.cell 0) "kids") ⟨[],a⟩=Y (refsOf g,Y (h+4,g.map (·+2)),⟨[],a⟩):=by refine (tP rfl<|xr (qB rfl<|h1 1<|by decide)<|Yx h1).trans ?_;show SW (h+4) ⟨[],a⟩ a[h+4]?=_;refine Q (h1 4<|by decide) ?_;show (vG<|refsOf g).map _=_;exact Q (C5 ..) rfl
  have H:(ev (qz m) 59).E [h+1,h] RB ⟨[],a⟩=Y (.lst<|sJ L,⟨[],a⟩):=qM<|qM<|D0 (n:=2) (f:=[]) z T<|by lia
  exact qM<|qy (yC<|qH<|qB rfl<|h1 0<|by decide) H<|wM w
def FO (k:V):List V:=if Zh k=true then [k] else []
theorem sj.lt (G:sj hp c n L A f)(H:k<6):c+k<hp.length:=by
 have e:=G k H;rw[(aD _:(yu c n L A f)[k]?=Y ((yu c n L A f)[k]'(by simpa[yu] using H)))] at e
 exact (aO.mp e).1
theorem sj.app (h:sj hp b tag attr tail kids)(j):sj (hp++j) b tag attr tail kids:=λi G=>by refine ax (bD<|h.lt G) ?_;exact h i G
theorem sj.set (G:sj hp b tag attr tail kids)(o)(n:j<b\/b+6<=j):sj (hp.set j o) b tag attr tail kids:=λt H=>by refine ax (aW λU:j=b+t=>n.elim (λG=>cV.mpr (aM b t) (U▸G)) λG=>cV.mpr G (U▸cN H b)) ?_;exact G t H
theorem sj.Xk (h:sj hp c k L A f)(j):sj (hp.set (c+4)<|.list j) c k L A j:=λi G=>by
 by_cases e:i=4
 .subst e;refine Q (bu<|h.lt G) ?_;rfl
 .refine Q (aW λd=>e (oC d).symm)<|Q (h i G) ?_
  have e:∀i,i<6->i≠4->(yu c k L A f)[i]?=(yu c k L A j)[i]?:=λi G d=>by show (yu c k L A f)[i]?=((yu c k L A f).set 4<|.list j)[i]?;refine Q (aW<|fK d) rfl
  exact e i G ‹_›
theorem DX (f j):sj (f++(yu f.length tag attr tail kids++j)) f.length tag attr tail kids:=λc G=>by refine Q (sD ..)<|Q (bD<|by simpa[yu] using G) rfl
theorem Zr (m){y:Option V}(f:subB as kn kv=Y [.ref<|p+2,t,a,e])(i:mergeAll [] [] [a,e]=Y (ks,vs))(n:findKey ks vs (.str "tail")=Y y)(h:sj hp p akK akG akC lk)(w:lk.length<=65536) :
  (qz<|m+2).top 129 as kn kv hp=Y (.ref<|hp.length+2,hp.set (p+4) (.list<|lk++[.ref<|hp.length+2])++yu hp.length t (.ru ks vs) (Ak y .none) []):=by
 refine ax (Cx (m+1) (t:=Zn) rfl rfl f) (Q (bh ..)<|J (nL _ _<|h.lt<|by decide) ?_:yX (rR (ev (qz<|m+1) 60) [] Za ⟨[Y<|.ref<|p+2,Y t,Y a,Y e,N],hp++[]⟩)=_);have G:=h.app<|yu hp.length t (.ru ks vs) (Ak y .none) []
 exact qI (qU (acI rfl i) rfl) (qI (qU (Vc rfl (Yw h) rfl<|Wm m t ks vs y n hp) rfl)
  <| qI (tU<|afh rfl (Yy G) (R3 G) (qH rfl)<|Wn (G 4<|by decide) w)<|tu<|sy rfl)
theorem writes (g)(y):∀(l acc:List V)(k:List O)(h:Option V),k[j]?=Y (.list acc)->acc.length+l.length<=65536->
  ∃e,ui (ev g 59) [] (.l 2) N [.expr<|.call (.l 0) [.l 2] [] []] l ⟨[Y<|.bm "list.append"<|.ref j,y,h],k⟩=Y (.next,⟨[Y<|.bm "list.append"<|.ref j,y,e],k.set j<|.list<|acc++l⟩)
 |[]=>@λacc k h f J=>by
  refine ⟨h,?_⟩;have i:k.set j (.list<|acc++[])=k:=by
   refine Q (bh ..)<|ew λo=>?_
   by_cases n:o=j
   .refine Q n ?_;clear n;refine Q (bu<|(aO.mp f).1)<|Q f rfl
   .refine Q (aW<|fK n) rfl
  exact Q i rfl
 |x::l=>@λacc k h f w=>by
  obtain ⟨e,o⟩:=writes g y l (acc++[x]) (k.set j<|.list<|acc++[x]) (Y x) (by refine Q (bu<|(aO.mp f).1) rfl) (by simp at w ⊢;lia);rw[ki,a9] at o
  exact ⟨e,r_ rfl rfl (rM<|tU<|Kz rfl (qH rfl) f<|aa (aM _ _) w) o⟩
theorem Qb (m)(G:A' kd<m)(e:wI tag=true)(i:wI tail=true)(n:BP kd=true)(I:sj hp b tag attr tail<|refsOf ks)(a:D8 hp ks kd)(z:hp[j]?=Y (.list acc))(o:j<b\/b+6<=j)(w:acc.length+([tag]++sJ kd).length+1<=65536) :
  (qz<|m+1).top 136 [.bm "list.append"<|.ref j,.ref<|b+2] [] [] hp=Y (.none,hp.set j<|.list<|acc++(([tag]++sJ kd)++FO tail)):=by
 refine ax (Cx m (t:=t15) rfl rfl rfl) (Q (bh ..) ?_:yX (rR (ev (qz m) 60) [] Y' ⟨[Y<|.bm "list.append"<|.ref j,Y<|.ref<|b+2,N],hp++[]⟩)=_);obtain ⟨y,H⟩:=writes (qz m) (Y<|.ref<|b+2) ([tag]++sJ kd) acc hp N z (fW w);refine qI (v8 ((tP rfl<|Vc rfl (Dh I) rfl<|Kq (I 5<|ag _)<|C8 hp m kd b tag attr tail ks G e n I a<|by lia).trans rfl) H) ?_;have u:=LN (hp:=hp.set j<|.list<|acc++([tag]++sJ kd)) i;have c:=MF (I.set (.list<|acc++([tag]++sJ kd)) o) u.2;have k:(hp.set j<|.list<|acc++([tag]++sJ kd))[j]?=Y (.list<|acc++([tag]++sJ kd)):=bu<|(aO.mp z).1
 have p:(acc++([tag]++sJ kd)).length<=65536:=Q (aG ..)<|Q (bz ..)<|by lia
 refine qI (st1:=⟨[Y<|.bm "list.append"<|.ref j,Y<|.ref<|b+2,y],hp.set j<|.list<|acc++(([tag]++sJ kd)++FO tail)⟩) ?_ rfl;unfold FO at k p c u ⊢
 cases L:Zh tail with
 |true=>
  refine tY (xr rfl c) (L▸u.1)<|rM<|(tU<|Kz rfl (qH<|xr rfl c) k p).trans<|Q (ki ..)<|Q (a9 ..)<|Q (qm rfl) rfl
 |false=>
  exact Q (qn dq)<|Q (bh ..)<|sG (xr rfl c) (L▸u.1) rfl
theorem Ag {p j:ba}(e:p.cps.toList=j.cps.toList):p=j:=qo ba.mk<|Array.toList_inj.mp e
theorem aL (e:(a&&b)=true):a=true:=(ib.mp e).1
theorem aR (e:(a&&b)=true):b=true:=(ib.mp e).2
noncomputable def zH (c:Nat)(a:List Nat)(f:List Nat):List Nat:=f.flatMap λh=>if h=c then a else [h]
theorem AR:∀{l:List Nat},c∉l->zH c z l=l
 |[]=>@λJ=>rfl
 |k::l=>@λG=>by show (if k=c then z else [k])++zH c z l=k::l;exact Q (qn<|by rintro rfl;exact G<|.head _)<|Q (AR λa=>G<|.tail _ a) rfl
theorem join_cons (s p q)(a):(iW s<|p::q::a).cps.toList=p.cps.toList++(s.cps.toList++(iW s<|q::a).cps.toList):=by show (p++s++iW s (q::a)).cps.toList=_;refine Q (jT ..)<|Q (jT ..)<|Q (eD ..)<|Q (eD ..)<|Q (a9 ..) rfl
theorem IX (c)(q:ba):∀a:List ba,(∀p∈a,c∉p.cps.toList)->zH c q.cps.toList (iW ⟨#[c]⟩ a).cps.toList=(iW q a).cps.toList
 |[]=>@λW=>rfl
 |[p]=>@λh=>AR<|h p<|.head _
 |p::e::r=>@λh=>by
  have f:=IX c q (e::r) λG b=>h G<|.tail _ b
  refine Q (join_cons ..)<|Q (join_cons ..)<|J f ?_
  have i:=AR (z:=q.cps.toList)<|h p<|.head _
  unfold zH at i f ⊢
  refine ax eF<|Q (eF ..)<|Q i<|qo _<|qo (·++_) ?_
  show (if c=c then q.cps.toList else [c])++[]=_;refine Q (qm rfl)<|Q (bh ..) rfl
theorem I3 (p j)(c):(cY p ⟨#[c]⟩ j).cps.toList=zH c j.cps.toList p.cps.toList:=by refine Q (StrLaws.replace_one ..)<|J (IX c j _<|StrLaws.split_free p c)<|Q (StrLaws.join_split ..) rfl
theorem JA {b:Nat->List Nat}{s j:ba}(e:j.cps.toList.flatMap b=s.cps.toList.flatMap b):∀a:List ba,(iW j a).cps.toList.flatMap b=(iW s a).cps.toList.flatMap b
 |[]=>rfl|[p]=>rfl
 |p::q::r=>by refine Q (join_cons ..)<|Q (join_cons ..)<|ax eF<|Q (eF ..)<|Q (eF ..)<|Q (eF ..)<|Q (JA e<|q::r)<|Q e rfl
theorem JB:∀a:List ba,c∈(iW z a).cps.toList->c∈z.cps.toList\/c∈(iW y a).cps.toList
 |[]=>@λh=>.inr h
 |[p]=>@λh=>.inr h
 |p::G::r=>@λh=>by
  rw[join_cons] at h ⊢
  rcases bQ.mp h with h|h
  .exact .inr<|fb _ h
  .rcases bQ.mp h with h|h
   .exact .inl h
   .exact (JB (G::r) h).imp id λh=>dE _<|dE _ h
theorem yU {b:Nat->List Nat}(x){j e:ba}(f:e.cps.toList.flatMap b=j.cps.toList.flatMap b):(cY x j e).cps.toList.flatMap b=x.cps.toList.flatMap b:=by
 delta cY
 split
 .rfl
 .have i:=kR x j<|x.length+1
  rw[mh] at i ⊢
  rw[JA f,i]
theorem DE (a:c∈(cY x y z).cps.toList):c∈z.cps.toList\/c∈x.cps.toList:=by
 delta cY at a
 split at a
 .exact .inr a
 .have e:=kR x y<|x.length+1
  rw[mh] at e a
  exact J e<|JB _ a
theorem B2 {b:Nat->List Nat}:∀a:List Nat,(∀c∈a,1<=(b c).length)->a.length<=(a.flatMap b).length
 |[]=>@λJ=>ag _
 |c::a=>@λG=>by
  have w:=B2 a λc d=>G c<|.tail _ d
  have:=G c<|.head _
  exact Q (c_ ..)<|Q (aG ..)<|Q (aV ..)<|aa (aK<|bz ..)<|bq this w
theorem sub_one (p)(c):hasSub ⟨#[c]⟩ p=decide (c∈p.cps.toList):=StrLaws.found_one p c
noncomputable def B7:List (ba×ba)->V->Option V
 |[]=>@λk=>Y k
 |(p,j)::l=>@λk=>sV (λe=>if hasSub p e=true then (if vF e j=true then B7 l (.str<|cY e p j) else N) else B7 l k)<|rC k
noncomputable def Uz (a:List<|ba×ba):List XS:=a.map (λb=>.rf (.cmp (.k<|.qu b.1) [.In] [.l 0]) [.asg (.l 0)<|.mt .replace (.l 0) [.k<|.qu b.1,.k<|.qu b.2]] [])++[.ret<|.l 0]
noncomputable def BE:Nat->List (ba×ba)
 |0=>[("&","&amp;"),("<","&lt;"),(">","&gt;")]
 |1=>[("&","&amp;"),("<","&lt;"),(">","&gt;"),("\"","&quot;"),("\x0d","&#13;"),("\n","&#10;"),("\t","&#09;")]
 |2=>[("&","&amp;"),(">","&gt;"),("\"","&quot;")]
 |3=>[("&","&amp;"),("<","&lt;"),(">","&gt;"),("\x0d","&#xD;")]
 |_=>[("&","&amp;"),("<","&lt;"),("\"","&quot;"),("\t","&#x9;"),("\n","&#xA;"),("\x0d","&#xD;")]
theorem OH (e:rC v=.str s):view hp v=.str s/\isFn hp v=false/\∀c,sX hp (c+1) v=Y v:=by
 cases v with
 |str j=>exact rj e rfl λJ=>rfl
 |qu j=>exact rj e rfl λJ=>rfl
 |_=>exact V.noConfusion e
theorem aaK (e:view hp v=.str p):tX hp .In (.qu j) v=Y (hasSub j p):=(qo (O9 .In (.qu j)<|.str j) e:_)
theorem BL (e:view c k=.str s)(i:vF s b=true):za c .AU k [.qu a,.qu b]=Y (.str<|cY s a b,c):=qM<|(qo (λk=>HI k [.qu a,.qu b]) e:HI (view c k) [.qu a,.qu b]=_).trans<|qm i
theorem B6:∀(l:List<|ba×ba)(k r:V),B7 l k=Y r->(∃p,rC k=.str p)->rR (ev orc<|j+9) [] (Uz l) ⟨[Y k],[]⟩=Y (.ret r,⟨[Y r],[]⟩)
 |[],k,r,i,J=>Q (ae i) rfl|(o,e)::l,k,r,i,⟨p,n⟩=>by
  refine qN (OH (hp:=[]) n) λz H J=>?_
  have i:(if hasSub o p=true then (if vF p e=true then B7 l (.str<|cY p o e) else N) else B7 l k)=Y r:=(qo (sV _) n).symm.trans i
  by_cases c:hasSub o p=true
  .have i:=(qm c).symm.trans i
   by_cases q:vF p e=true
   .exact u7 (tY (qW rfl rfl<|aaK z) (qo Y c)<|rM<|qU (uL rfl H (qo (BU .replace) z:_) (qp rfl<|qH rfl)<|BL z q) rfl)<|B6 l _ r ((qm q).symm.trans i) ⟨_,rfl⟩
   .exact absurd ((qn q).symm.trans i) nofun
  .exact u7 (sG (qW rfl rfl<|aaK z) (qo Y<|eq_false_of_ne_true c) rfl)<|B6 l k r ((qn c).symm.trans i) ⟨p,n⟩
noncomputable def yn:Nat->bK
 |0=>150|1=>157
 |2=>164|3=>171
 |_=>178
theorem lt5:∀c,c<5->c=0\/c=1\/c=2\/c=3\/c=4:=by decide
theorem abw (m h)(G:h<5){L:V}(e:B7 (BE h) v=Y L)(U:∃p,rC v=.str p)(T:∃p,rC L=.str p)(a):(qz<|m+1).top (yn h) [v] [] [] a=Y (L,a):=by
 refine rN U λp i=>?_
 obtain ⟨f,n⟩:=T;have z:sX [] 9 L=Y L:=(OH n).2.2 8;have H:qP (sX [] 9) [v]=Y [v]:=CG<|(OH i).2.2 8
 have c:=B6 (orc:=qz m) (j:=50) (BE h) v L e ⟨p,i⟩;have k:yX (rR (ev (qz m) 60) [] [.yP<|Uz<|BE h] ⟨[Y v],[]⟩)=Y (L,[]):=tu (c:(ev (qz m) 60).S [] (.yP<|Uz<|BE h) ⟨[Y v],[]⟩=_);clear c e;rcases lt5 h G with rfl|rfl|rfl|rfl|rfl
 .exact rE m (t:=t17) rfl rfl rfl rfl H k z
 .exact rE m (t:=t18) rfl rfl rfl rfl H k z
 .exact rE m (t:=t19) rfl rfl rfl rfl H k z
 .exact rE m (t:=t20) rfl rfl rfl rfl H k z
 .exact rE m (t:=t21) rfl rfl rfl rfl H k z
noncomputable def Dz:List Nat:=[60,62,34,13,10,9]
noncomputable def vg:List Nat:=[38,97,109,112,59]
noncomputable def qA (a:List Nat):ba:=⟨a.toArray⟩
theorem Ka {p:ba}(b:∀c∈Dz,c∉p.cps.toList):∀a:List<|ba×ba,(∀f∈a,∃c∈Dz,f.1=⟨#[c]⟩)->B7 a (.str p)=Y (.str p)
 |[]=>@λJ=>rfl
 |(j,e)::a=>@λd=>by
  refine qt (d _<|.head _) λc g h=>?_
  exact (qn (Q (show j=_ from h)<|Q (sub_one ..) λn=>b c g<|of_decide_eq_true n:¬hasSub j p=true)).trans<|Ka b a λf G=>d f<|.tail _ G
theorem Sw:∀c,c<5->∀b∈(BE c).drop 1,∃h∈Dz,b.1=⟨#[h]⟩:=by decide +kernel
theorem W_:∀c,c<5->BE c=(qA [38],qA vg)::(BE c).drop 1:=by decide +kernel
theorem Mj (m h)(G:h<5)(e:rC v=.str p)(c:38∈p.cps.toList)(b:∀t∈Dz,t∉p.cps.toList)(w:p.cps.toList.length<=1000)(a) :
  (qz<|m+1).top (yn h) [v] [] [] a=Y (.str<|qA<|zH 38 vg p.cps.toList,a):=by
 refine abw m h G (Q (W_ h G)<|(qo (sV _) e).trans ?_) ⟨p,e⟩ ⟨_,rfl⟩ a;show (if hasSub (qA [38]) p=true then (if vF p (qA vg)=true then B7 ((BE h).drop 1) (.str<|cY p (qA [38])<|qA vg) else N) else _)=_;refine ax (qm<|(sub_one p 38).trans<|decide_eq_true c) ?_;rewrite [qm];refine Q (Ag<|I3 p (qA vg) 38:cY p (qA [38]) (qA vg)=qA (zH 38 vg p.cps.toList)) ?_
 .refine Ka (λt H T=>qt (f_.mp<|show t∈zH 38 vg p.cps.toList from T) λz d T=>?_) _<|Sw h G
  by_cases A:z=38
  .rw[qm A] at T
   exact absurd T<|(by decide:∀t∈Dz,t∉vg) t H
  .rw[qn A] at T
   exact b t H<|Q (aN.mp T) d
 .delta vF;have i:p.length=p.cps.toList.length:=cH.symm;have n:(qA vg).length=5:=rfl;exact Q i<|Q n<|decide_eq_true<|aa (bq w<|cz 5<|cb w)<|by decide
theorem Xb {a:List O}{p:ba}{U:List Nat}(e:p.cps.toList=U) {c j:Nat}(i:U[c]?=Y j) (w:U.length<=65536):si a (.qu p) (.int c)=Y (.str<|Vm.one j):=by refine (Q (J e cH.symm:p.cps.size=U.length)<|Q (qm<|show q6 U.length=true from decide_eq_true w)<|Q (zJ<|(aO.mp i).1)<|Q (d8 ..)<|J fQ<|Q e<|Q i ?_:(if q6 p.cps.size=true then (place (c:Int) p.cps.size).bind λT=>(p.cps[T]?).map λj=>V.str<|Vm.one j else N)=_);rfl
theorem Zu (k L A T):subB [k,L,A] ["tail"] [T]=Y [k,L,A,.ru [.str "tail"] [T]]:=qm ⟨rfl,.inr rfl⟩
noncomputable def qD:List Nat:=[102,104,107,108,114,115,116]
noncomputable def rr:ba:="fhklrst"
theorem A3:rr.cps.toList=qD:=by kernel_rfl
noncomputable def xi (c:Nat):List Nat:=38::(aw c [97,109,112,59]).flatten
def Iw:Nat->V
 |0=>.qu "&"|d+1=>.str<|qA<|xi<|d+1
theorem Fx:("&":ba)=qA [38]:=by kernel_rfl
theorem FC:∀d,rC (Iw d)=.str (qA<|xi d)
 |0=>qo V.str Fx|d+1=>rfl
theorem CS:∀d,∀i∈(aw d [97,109,112,59]).flatten,i=97\/i=109\/i=112\/i=59
 |0=>@λi h=>nomatch h
 |d+1=>@λi h=>by
  rw[eE,kl] at h
  rcases bQ.mp h with h|h
  .simpa using h
  .exact CS d i h
theorem YG (c):zH 38 vg (xi c)=xi (c+1):=by
 have e:zH 38 vg (aw c [97,109,112,59]).flatten=(aw c [97,109,112,59]).flatten:=AR λh=>by have:=CS c 38 h;lia
 exact (Q e rfl:vg++zH 38 vg (aw c [97,109,112,59]).flatten=_)
theorem KW:∀d,(aw d [97,109,112,59]).flatten.length=4*d
 |0=>rfl|d+1=>by
  refine Q (eE ..)<|Q (kl ..)<|ax aG<|Q (KW d) ?_
  show 4+4*d=_;exact bz _ _
theorem Bj (c):(xi c).length=1+4*c:=by delta xi;exact ax aV<|Q (KW ..)<|bz _ _
theorem U_ (c):∀i∈Dz,i∉xi c:=λi a h=>by
 rcases aE.mp h with h|h
 .subst h;exact absurd a (by decide)
 .rcases CS c i h with rfl|rfl|rfl|rfl<;>exact absurd a (by decide)
abbrev uB (f d g:Nat->Int)(c i:Nat)(k:V)(y j e T:Option V):List<|Option V:=[Y<|.qu rr,Y<|.lst<|rh f c,Y<|.lst<|rh d c,Y<|.lst<|rh g c,Y<|.con<|.ref<|yn i,Y k,Y<|.ref 0,Y<|.ref 7,Y<|.ref 8,y,j,e,T]
section
variable {m h n:Nat}(b:h<5) {ow ab ti:Nat->Int}{last:V}
include b
theorem G1 (y j):∀(ks:List Nat)(T:Nat)(e:Option V),ks.length+T<=100->
  ∃U,ui (ev (qz<|m+1) 58) [] (.l 12) N [.asg (.l 10)<|.call (.l 4) [.l 10] [] []] (nats ks) ⟨uB ow ab ti n h last y (Y<|Iw T) j e,hp⟩=Y (.next,⟨uB ow ab ti n h last y (Y<|Iw<|ks.length+T) j U,hp⟩)
 |[]=>@λT e J=>⟨e,Q (fM ..)<|Q (bW ..) rfl⟩
 |x::ks=>@λT e w=>by
  replace w:=aV▸w;refine rN (G1 y j (hp:=hp) ks (T+1) (Y<|.int x)<|aa (aK<|cD _ T 1) w) λU f=>?_
  have i:=Mj m h b (FC T) (iS ..) (U_ T) (aa (aK<|Bj T)<|aa (aP (aU 4<|aa (b8 T _) w) 1)<|by decide) hp;rw[show (qA<|xi T).cps.toList=xi T from rfl,YG] at i
  exact Q (aV ..)<|Q (b_ ..)<|Q (bz 1 T)<|⟨U,r_ rfl rfl (rM<|qU (Co rfl (qH rfl) rfl i) rfl) f⟩
end
noncomputable def eb:Nat->Nat
 |0=>1|k+1=>9+6*k
def wG (c:Nat->Int):Nat->V
 |0=>.qu ""|k+1=>.str<|Vm.one<|qD.getD (c k+3).toNat 0
def wi (c:Nat->Int)(o:V):Nat->V
 |0=>o|k+1=>Iw (c<|k+1).toNat
noncomputable def vm (k:V)(o:Int):V:=.ru [.str "tail",.str "own"] [k,.int o]
def ux (c:Nat->Int)(o:V):Nat->V
 |0=>.none|k+1=>wi c o k
def Bi (ow d:Nat->Int)(o:V):Nat->V
 |0=>.ru [] []|k+1=>vm (wi d o k)<|ow k
noncomputable def rt (pr:Nat->Nat)(c i:Nat):List Nat:=((aq c).filter λt=>decide<|pr t=i).map (·+1)
theorem Jz {c:Nat->Nat}(d:∀t,t<k->c t<=t)(w:k<=i):rt c k i=[]:=by
 delta rt;rw[mY.mpr]
 .rfl
 .intro t a e;exact b9 _<|ai (bF.mp a)<|aa w<|of_decide_eq_true e▸d t (bF.mp a)
theorem XR {c:Nat->Nat}:rt c (k+1) i=rt c k i++if c k=i then [k+1] else []:=by
 delta rt;refine Q (fL ..)<|Q (iT ..)<|ax bN<|Q (dK ..) ?_
 by_cases e:c k=i
 .exact Q (qm e)<|Q (qm<|decide_eq_true e) rfl
 .exact Q (qn e)<|Q (qn λj=>e<|of_decide_eq_true j) rfl
structure KZ (ow ti:Nat->Int) (last:V) (pr:Nat->Nat) (k:Nat) (hp:List O):Prop where
 len:hp.length=9+6*k
 h0:hp[0]?=some (.list [])
 h7:hp[7]?=some (.list<|refsOf<|(aq<|k+1).map eb)
 h8:hp[8]?=some (.list<|aw k<|.bool true)
 Rn:∀i,i<=k->sj hp (eb i) (wG ow i) (Bi ow ti last i) (ux ti last i) (refsOf<|(rt pr k i).map eb)
theorem abz (d:c≠i):eb c+6<=eb i\/eb i+6<=eb c:=by
 cases c with
 |zero=>cases i with
  |zero=>exact absurd rfl d|succ i=>exact .inl<|aa (by decide)<|aM 9 _
 |succ c=>cases i with
  |zero=>exact .inr<|aa (by decide)<|aM 9 _
  |succ i=>exact (Nat.lt_or_gt_of_ne λU=>d<|qo _ U).imp (λT=>aP (aU 6 T) 9) λT=>aP (aU 6 T) 9
theorem Fi (c):(∀i,i=7\/i=8->i<eb c\/eb c+6<=i)/\eb c+4≠7/\eb c+4≠8/\0<eb c:=by
 cases c with
 |zero=>exact td (λi h=>.inr<|h.elim (·▸by decide) (·▸by decide)) (by decide) (by decide)<|ag _
 |succ c=>exact td (λi h=>.inl<|ai (h.elim (·▸by decide) (·▸by decide):i<9)<|aM ..) (bw<|ai (by decide)<|aa (aM 9 _)<|aM ..) (bw<|ai (by decide)<|aa (aM 9 _)<|aM ..)<|ai (by decide)<|aM 9 _
def GX (a:List O)(c k:Nat)(lk:List V)(o L A:V):List O:=((a.set (eb c+4) (.list<|lk++[.ref<|eb (k+1)+2])++yu (eb<|k+1) o L A []).set 7<|.list<|refsOf<|(aq<|k+2).map eb).set 8<|.list<|aw (k+1)<|.bool true
theorem KZ.step {c d:Nat->Int}{pr:Nat->Nat}(j:KZ c d last pr k hp)(o:∀p,p<=k->pr p<=p) :
  KZ c d last pr (k+1)<|GX hp (pr k) k (refsOf<|(rt pr k<|pr k).map eb) (wG c<|k+1) (Bi c d last<|k+1)<|ux d last<|k+1:=by
 have e:=j.len;have i:(GX hp (pr k) k (refsOf<|(rt pr k<|pr k).map eb) (wG c<|k+1) (Bi c d last<|k+1)<|ux d last<|k+1).length=9+6*(k+1):=by
  delta GX;refine Q (cO ..)<|Q (cO ..)<|Q (aG ..)<|Q (cO ..)<|Q e ?_
  show 9+6*k+6=_;rfl
 refine ⟨i,?_,?_,?_,λt w=>?_⟩
 .delta GX;refine Q (aW<|by decide)<|Q (aW<|by decide)<|Q (bD<|by refine Q (cO ..) ?_;lia)<|Q (aW<|gg _) ?_
  exact j.h0
 .delta GX;refine Q (aW<|by decide)<|Q (bu<|by refine Q (aG ..)<|Q (cO ..) ?_;lia) rfl
 .delta GX;refine ax (bu<|by refine Q (cO ..)<|Q (aG ..)<|Q (cO ..) ?_;lia) rfl
 .skip
  refine sj.set (sj.set ?_ _<|(Fi t).1 7<|.inl rfl) _<|(Fi t).1 8<|.inr rfl
  by_cases q:t=k+1
  .subst q;refine Q (Jz (λp G=>o p<|bO G)<|ag _) ?_;have:=DX (tag:=wG c<|k+1) (attr:=Bi c d last<|k+1) (tail:=ux d last<|k+1) (kids:=[]) (hp.set (eb (pr k)+4)<|.list<|refsOf ((rt pr k<|pr k).map eb)++[.ref<|eb (k+1)+2]) [];rw[cO,e,bh] at this
   exact this
  .have w:t<=k:=by lia
   refine sj.app ?_ _;refine Q (XR ..) ?_
   by_cases z:pr k=t
   .subst z;exact Q (qm rfl)<|Q (bN ..)<|Q (show refsOf ((rt pr k<|pr k).map eb++[k+1].map eb)=refsOf ((rt pr k<|pr k).map eb)++[.ref<|eb (k+1)+2] from bN)<|(j.Rn _ w).Xk _
   .exact Q (qn z)<|Q (bh ..)<|(j.Rn t w).set _<|(abz z).imp (ai<|cN (by decide) _) (aa ·<|aM ..)
theorem Wk {o:V}(e:findKey u6 vs' o=Y (Y I))(j:rV 8 b I=Y true)(q:zS ks vs u6 vs'=Y true):zS (o::ks) (b::vs) u6 vs'=Y true:=by
 show (match findKey u6 vs' o with
  |Y<|Y I=>(match rV 8 b I,zS ks vs u6 vs' with
   |Y a,Y d=>Y<|a&&d
   |J,W=>N)
  |Y N=>Y false|N=>N)=_
 refine Q e ?_;show (match rV 8 b I,zS ks vs u6 vs' with
   |Y a,Y d=>Y<|a&&d
   |J,W=>N)=_
 exact Q j<|Q q rfl
theorem Wj (e:wI q=true):tX hp .Eq (vm q o) (vm q o)=Y true:=by
 have j:rV 8 q q=Y true:=by
  cases q with
  |none=>rfl|str s=>exact qo Y<|decide_eq_true rfl
  |qu s=>exact qo Y<|decide_eq_true rfl
  |_=>exact fT e
 exact (Wk rfl j<|Wk rfl (qo Y<|decide_eq_true rfl) rfl:zS [.str "tail",.str "own"] [q,.int o] [.str "tail",.str "own"] [q,.int o]=Y true)
theorem Ko {z:St}(e:sM (ev orc<|j+1) [] [x,y] z=Y ([t,.int o],z)):(ev orc<|j+2).E [] (.dict [.k<|.qu "tail",.k<|.qu "own"] [x,y]) z=Y (vm t o,z):=by
 have q:rT (ev orc<|j+1) [] (.dict [.k<|.qu "tail",.k<|.qu "own"] [x,y]) z=Y (.dict [.str "tail",.str "own"] [t,.int o],z):=by
  show (match sM (ev orc<|j+1) [] [.k<|.qu "tail",.k<|.qu "own"] z with
   |Y (a,z)=>(match sM (ev orc<|j+1) [] [x,y] z with
    |Y (g,z)=>if (a.map rC).all uY=true/\Ci (a.map rC)=true/\a.length=g.length then Y (O.dict (a.map rC) g,z) else N
    |N=>N)
   |N=>N)=_
  refine Q (qp rfl<|qH rfl) ?_;dsimp only;exact Q e rfl
 exact qM q
def RQ:List XS:=[.asg (.tup [.l 10,.l 11])<|.tup [.rf (.cmp (.l 9) [.Gt] [.i 0]) (.k<|.qu "&")<|.l 5,.dict [.k<|.qu "tail",.k<|.qu "own"] [.k<|.qu "?",.sub (.l 1)<|.l 9]],.uZ (.l 12) (.bf .range [.sub (.l 3)<|.l 9]) [.asg (.l 10)<|.call (.l 4) [.l 10] [] []],.expr<|.mt .append (.l 7) [.call (.k<|.con<|.ref 129) [.sub (.l 7)<|.bin .Add (.sub (.l 2)<|.l 9)<|.i 1,.sub (.l 0)<|.bin .Add (.sub (.l 1)<|.l 9)<|.i 3,.l 11] ["tail"] [.l 10]],.expr<|.mt .append (.l 8) [.and [.cmp (.attr (.sub (.l 7)<|.un .USub<|.i 1) "attrib") [.Eq] [.dict [.k<|.qu "tail",.k<|.qu "own"] [.l 10,.sub (.l 1)<|.l 9]],.cmp (.l 11) [.Eq] [.dict [.k<|.qu "tail",.k<|.qu "own"] [.k<|.qu "?",.sub (.l 1)<|.l 9]]]]]
def Jg (o:V):Prop:=o=.qu "&"\/o=.none\/o=.qu ""
theorem Zj:∀d,d<=100->wI (Iw d)=true
 |0=>@λJ=>rfl
 |d+1=>@λh=>by refine (Q (qa ..)<|Q (decide_eq_true_eq ..) ?_:(decide ((qA<|xi<|d+1).cps.size<=65536)||false)=true);have:(qA<|xi<|d+1).cps.size=(xi<|d+1).length:=rfl;exact Q this<|Q (Bj ..)<|aa (aP (aU 4 h) 1)<|by decide
theorem PG {z:Nat->Int}{o:V}(I:∀k,0<=z k/\z k<=3)(a:Jg o):∀k,wI (wi z o k)=true
 |0=>by rcases a with rfl|rfl|rfl<;>rfl
 |k+1=>Zj _ (aa (nu.mpr (I _).2:_<=3)<|by decide)
section
variable (T:h<5) {c i f:Nat->Int}{p:Nat->Nat}(U:n<=5) (H:∀k,k<n->-3<=c k/\c k<=3) (w:∀k,0<=f k/\f k<=3) (A:f 0=0) (L:Jg last) (G:∀k,k<n->p k<=k/\i k+1=(p k:Int))
include T U H w A L G
theorem Qs {t:Nat}(a:t<n)(I:KZ c f last p t hp)(y g e):∃s' v,rR (ev (qz (m+2)) 59) [] RQ ⟨uB c i f n h last (Y (.int t)) y g e,hp⟩ =
  Y (.next,⟨uB c i f n h last (Y (.int t)) (Y (wi f last t)) (Y (vm (.qu "?") (c t))) s',v⟩)/\KZ c f last p (t+1) v:=by
 have F0:n<=60:=aa U (by decide);obtain ⟨b,yt⟩:=G t a;have e1:(ev (qz (m+2)) 59).S [] (.asg (.tup [(.l 10),(.l 11)]) (.tup [(.rf (.cmp (.l 9) [.Gt] [(.i 0)]) (.k (.qu "&")) (.l 5)),(.dict [(.k (.qu "tail")),(.k (.qu "own"))] [(.k (.qu "?")),(.sub (.l 1) (.l 9))])])) ⟨uB c i f n h last (Y (.int t)) y g e,hp⟩ =
   Y (.next,⟨uB c i f n h last (Y (.int t)) (Y (if 0<t then .qu "&" else last)) (Y (vm (.qu "?") (c t))) e,hp⟩):=by
  have z:(ev (qz (m+2)) 57).E [] (.rf (.cmp (.l 9) [.Gt] [(.i 0)]) (.k (.qu "&")) (.l 5)) ⟨uB c i f n h last (Y (.int t)) y g e,hp⟩=Y (if 0<t then .qu "&" else last,⟨uB c i f n h last (Y (.int t)) y g e,hp⟩):=by
   by_cases q:0<t
   .exact Q (qm q) (vD (qW rfl rfl (Ac _ _)) (dt (bo.mpr q)) rfl)
   .exact Q (qn q) (wB (qW rfl rfl (Ac _ _)) (df λs=>q (bo.mp s)) rfl)
  have hd:(ev (qz (m+2)) 57).E [] (.dict [(.k (.qu "tail")),(.k (.qu "own"))] [(.k (.qu "?")),(.sub (.l 1) (.l 9))]) ⟨uB c i f n h last (Y (.int t)) y g e,hp⟩=Y (vm (.qu "?") (c t),⟨uB c i f n h last (Y (.int t)) y g e,hp⟩):=Ko (qp rfl (qH (ro rfl rfl (uA c F0 a))));exact qU (sY (qp z (qH hd))) rfl
 have e2:∃s',(ev (qz (m+2)) 59).S [] (.uZ (.l 12) (.bf .range [(.sub (.l 3) (.l 9))]) [(.asg (.l 10) (.call (.l 4) [(.l 10)] [] []))]) ⟨uB c i f n h last (Y (.int t)) (Y (if 0<t then .qu "&" else last)) (Y (vm (.qu "?") (c t))) e,hp⟩ =
   Y (.next,⟨uB c i f n h last (Y (.int t)) (Y (wi f last t)) (Y (vm (.qu "?") (c t))) s',hp⟩):=by
  obtain ⟨d,hd⟩:=dQ (w t).1;have hd3:d<=3:=bB.mp<|hd▸(w t).2
  have Ab:=vE (orc:=qz (m+2)) (j:=57) (M:=[]) (x:=.sub (.l 3) (.l 9)) (st:=⟨uB c i f n h last (Y (.int t)) (Y (if 0<t then .qu "&" else last)) (Y (vm (.qu "?") (c t))) e,hp⟩) (ro rfl rfl ((uA f F0 a).trans (by refine Q hd rfl))) (aa hd3 (by decide))
  cases t with
  |zero=>
   have:d=0:=by rw[A] at hd;lia
   subst this;exact ⟨e,v8 Ab rfl⟩
  |succ t=>
   refine rN (G1 (m:=m+1) (n:=n) T (ow:=c) (ab:=i) (ti:=f) (last:=last) (Y (.int (t+1:Nat))) (Y (vm (.qu "?") (c (t+1)))) (hp:=hp) (aq d) 0 e (Q (aS ..) (bJ hd3))) λs' g1=>?_
   rw[aS,gZ] at g1
   exact Q (by show Iw (f (t+1)).toNat=_;exact Q hd rfl:wi f last (t+1)=Iw d) ⟨s',v8 Ab g1⟩
 refine rN e2 λs' e2=>?_
 have hrl:(refsOf ((aq (t+1)).map eb)).length=t+1:=by delta refsOf;refine Q (ao ..) (Q (by refine Q (ao ..) (Q (aS ..) rfl):((aq (t+1)).map eb).length=t+1) rfl)
 have hlk:(refsOf ((rt p t (p t)).map eb)).length<=60000:=by delta refsOf rt;exact Q (ao ..) (Q (ao ..) (Q (ao ..) (aa (cG ..) (by refine Q (aS ..) ?_;lia))))
 have ahZ:si hp (.ref 7) (.int (i t+1))=Y (.ref (eb (p t)+2)):=by refine Q yt (uT (sf I.h7) (.inl rfl) ?_ (by refine Q hrl ?_;lia));delta refsOf;refine Q aZ (Q aZ (Q (fz (da b)) ?_));rfl
 obtain ⟨u,hu⟩:=dQ (Sj<|H t a);have ahV:si hp (.qu rr) (.int (c t+3))=Y (wG c (t+1)):=by refine Q hu (Q (by show V.str (Vm.one (qD.getD (c t+3).toNat 0))=_;exact Q hu rfl:wG c (t+1)=.str (Vm.one (qD.getD u 0))) (Xb A3 (Q cq (Q (aD (show u<qD.length from (Si (H t a) hu:u<7))) ?_)) (by decide)));rfl
 have OL:=Zr (m) (Zu (.ref (eb (p t)+2)) (wG c (t+1)) (vm (.qu "?") (c t)) (wi f last t)) rfl rfl (I.Rn (p t) b) (aa hlk (by decide));rw[I.len] at OL
 have hI:=I.step (λj hj=>(G j (av hj a)).1);generalize hA:hp.set (eb (p t)+4) (.list (refsOf ((rt p t (p t)).map eb)++[.ref (eb (t+1)+2)]))++yu (eb (t+1)) (wG c (t+1)) (Bi c f last (t+1)) (ux f last (t+1)) []=vN;rw[(by delta GX;refine Q hA rfl:GX hp (p t) t (refsOf ((rt p t (p t)).map eb)) (wG c (t+1)) (Bi c f last (t+1)) (ux f last (t+1))=(vN.set 7 (.list (refsOf ((aq (t+2)).map eb)))).set 8 (.list (aw (t+1) (.bool true))))] at hI
 have hpl:(hp.set (eb (p t)+4) (.list (refsOf ((rt p t (p t)).map eb)++[.ref (eb (t+1)+2)]))).length=eb (t+1):=(cO ..).trans I.len;have hA7:vN[7]?=Y (.list (refsOf ((aq (t+1)).map eb))):=by refine J hA (Q (bD (by refine Q hpl ?_;show 7<9+6*t;lia)) (Q (aW (Fi (p t)).2.1) ?_));exact I.h7
 have hA8:vN[8]?=Y (.list (aw t (.bool true))):=by refine J hA (Q (bD (by refine Q hpl ?_;show 8<9+6*t;exact aM _ _)) (Q (aW (Fi (p t)).2.2.1) ?_));exact I.h8
 have hEl:sj (vN.set 7 (.list (refsOf ((aq (t+2)).map eb)))) (eb (t+1)) (wG c (t+1)) (Bi c f last (t+1)) (ux f last (t+1)) []:=by
  refine sj.set ?_ _ ((Fi (t+1)).1 7 (.inl rfl));have:=DX (tag:=wG c (t+1)) (attr:=Bi c f last (t+1)) (tail:=ux f last (t+1)) (kids:=[]) (hp.set (eb (p t)+4) (.list (refsOf ((rt p t (p t)).map eb)++[.ref (eb (t+1)+2)]))) [];rw[hpl,bh,hA] at this
  exact this
 have hr2:refsOf ((aq (t+1)).map eb)++[.ref (eb (t+1)+2)]=refsOf ((aq (t+2)).map eb):=by refine Q (fL (n:=t+1)) (Q (bN ..) ?_);delta refsOf;exact Q (bN ..) rfl
 have hB7:(vN.set 7 (.list (refsOf ((aq (t+2)).map eb))))[7]?=Y (.list (refsOf ((aq (t+2)).map eb))):=bu (DK hA7);have o:(vN.set 7 (.list (refsOf ((aq (t+2)).map eb))))[8]?=Y (.list (aw t (.bool true))):=(aW (by decide)).trans hA8;generalize hB:vN.set 7 (.list (refsOf ((aq (t+2)).map eb)))=EZ at hI hEl hB7 o
 have e3:(ev (qz (m+2)) 59).S [] (.expr (.mt .append (.l 7) [(.call (.k (.con (.ref 129))) [(.sub (.l 7) (.bin .Add (.sub (.l 2) (.l 9)) (.i 1))),(.sub (.l 0) (.bin .Add (.sub (.l 1) (.l 9)) (.i 3))),(.l 11)] ["tail"] [(.l 10)])])) ⟨uB c i f n h last (Y (.int t)) (Y (wi f last t)) (Y (vm (.qu "?") (c t))) s',hp⟩=Y (.next,⟨uB c i f n h last (Y (.int t)) (Y (wi f last t)) (Y (vm (.qu "?") (c t))) s',EZ⟩):=by
  have:=tU (CY (x:=.l 7) (st:=⟨uB c i f n h last (Y (.int t)) (Y (wi f last t)) (Y (vm (.qu "?") (c t))) s',hp⟩) rfl I.h7 (qH (Ha (qp (ro rfl (qy (ro rfl rfl (uA i F0 a)) rfl (rW _ _)) ahZ) (qp (ro rfl (qy (ro rfl rfl (uA c F0 a)) rfl (rW _ _)) ahV) (qH rfl))) (qH rfl) (J hA OL):(ev (qz (m+2)) 57).E [] (.call (.k (.con (.ref 129))) [(.sub (.l 7) (.bin .Add (.sub (.l 2) (.l 9)) (.i 1))),(.sub (.l 0) (.bin .Add (.sub (.l 1) (.l 9)) (.i 3))),(.l 11)] ["tail"] [(.l 10)]) ⟨uB c i f n h last (Y (.int t)) (Y (wi f last t)) (Y (vm (.qu "?") (c t))) s',hp⟩=Y (.ref (eb (t+1)+2),⟨uB c i f n h last (Y (.int t)) (Y (wi f last t)) (Y (vm (.qu "?") (c t))) s',vN⟩))) hA7 (by refine Q hrl ?_;lia));rw[hr2,hB] at this
  exact this
 have E5:si EZ (.ref 7) (.int (-1))=Y (.ref (eb (t+1)+2)):=by
  have hl2:(refsOf ((aq (t+2)).map eb)).length=t+2:=by delta refsOf;refine Q (ao ..) (Q (ao ..) (Q (aS ..) rfl))
  refine uT (k:=t+1) (sf hB7) (.inr (by refine Q hl2 ?_;lia)) ?_ (by refine Q hl2 ?_;lia);delta refsOf;refine Q aZ (Q aZ (Q (fz (ag _)) ?_));rfl
 have e4:(ev (qz (m+2)) 59).S [] (.expr (.mt .append (.l 8) [(.and [(.cmp (.attr (.sub (.l 7) (.un .USub (.i 1))) "attrib") [.Eq] [(.dict [(.k (.qu "tail")),(.k (.qu "own"))] [(.l 10),(.sub (.l 1) (.l 9))])]),(.cmp (.l 11) [.Eq] [(.dict [(.k (.qu "tail")),(.k (.qu "own"))] [(.k (.qu "?")),(.sub (.l 1) (.l 9))])])])])) ⟨uB c i f n h last (Y (.int t)) (Y (wi f last t)) (Y (vm (.qu "?") (c t))) s',EZ⟩=Y (.next,⟨uB c i f n h last (Y (.int t)) (Y (wi f last t)) (Y (vm (.qu "?") (c t))) s',EZ.set 8 (.list (aw (t+1) (.bool true)))⟩):=by
  have:=tU (CY (x:=.l 8) (st:=⟨uB c i f n h last (Y (.int t)) (Y (wi f last t)) (Y (vm (.qu "?") (c t))) s',EZ⟩) rfl o (qH (Sh (qW (xr (ro rfl (xW rfl) E5) (R2 hEl rfl)) (Ko (qp rfl (qH (ro rfl rfl (uA c F0 a))))) (Wj (PG w L t)):(ev (qz (m+2)) 56).E [] (.cmp (.attr (.sub (.l 7) (.un .USub (.i 1))) "attrib") [.Eq] [(.dict [(.k (.qu "tail")),(.k (.qu "own"))] [(.l 10),(.sub (.l 1) (.l 9))])]) ⟨uB c i f n h last (Y (.int t)) (Y (wi f last t)) (Y (vm (.qu "?") (c t))) s',EZ⟩=Y (.bool true,⟨uB c i f n h last (Y (.int t)) (Y (wi f last t)) (Y (vm (.qu "?") (c t))) s',EZ⟩)) rfl (qW rfl (Ko (qp rfl (qH (ro rfl rfl (uA c F0 a))))) (Wj rfl):(ev (qz (m+2)) 56).E [] (.cmp (.l 11) [.Eq] [(.dict [(.k (.qu "tail")),(.k (.qu "own"))] [(.k (.qu "?")),(.sub (.l 1) (.l 9))])]) ⟨uB c i f n h last (Y (.int t)) (Y (wi f last t)) (Y (vm (.qu "?") (c t))) s',EZ⟩=Y (.bool true,⟨uB c i f n h last (Y (.int t)) (Y (wi f last t)) (Y (vm (.qu "?") (c t))) s',EZ⟩)))) o (by refine Q (g_ ..) ?_;lia));rw[List.replicate_succ'.symm] at this
  exact this
 exact (wy s' _ (rg e1 (rg e2 (rg e3 (rM e4)))) hI)
end
section
variable (tg tl at_:Nat->V) (kid:Nat->List Nat)
noncomputable def G4:Nat->List Nat->Fo
 |0,J=>.nil|J+1,[]=>.nil
 |m+1,h::r=>.cons (tg h) (tl h) (at_ h) (G4 m (kid h)) (G4 m r)
noncomputable def full:Nat->List Nat->Bool
 |0,l=>l.isEmpty|J+1,[]=>true
 |m+1,h::r=>full m (kid h)&&full m r
noncomputable def Aw:Nat->List Nat->List (Bool×Nat)
 |0,J=>[]
 |J+1,[]=>[]
 |m+1,h::r=>((true,h)::Aw m (kid h))++((false,h)::Aw m r)
variable {tg tl at_ kid}
theorem JY (G:∀h,h<=n->sj hp (eb h) (tg h) (at_ h) (tl h) (refsOf ((kid h).map eb)))(a:∀h,∀t∈kid h,t<=n):∀(m:Nat)(l:List Nat),full kid m l=true->(∀t∈l,t<=n)->D8 hp (l.map eb) (G4 tg tl at_ kid m l)
 |0,l=>@λe J=>by refine Q (f'.mp e) ?_;rfl
 |J+1,[]=>@λJ J=>rfl
 |m+1,h::r=>@λe b=>(AJ (eb h) (r.map eb) ((kid h).map eb) rfl (G h (b h (.head _))) (JY G a m _ (aL e) (a h)) (JY G a m r (aR e) λt c=>b t (.tail _ c)))
theorem F3:∀(m:Nat)(l:List Nat),sJ (G4 tg tl at_ kid m l)=(Aw kid m l).map λb=>if b.1=true then tg b.2 else tl b.2
 |0,l=>rfl|J+1,[]=>rfl
 |m+1,h::r=>by refine (?_:([tg h]++sJ (G4 tg tl at_ kid m (kid h)))++([tl h]++sJ (G4 tg tl at_ kid m r))=_);refine Q (F3 m ..) ?_;refine Q (F3 m ..) ?_;refine Q (show Aw kid (m+1) (h::r)=((true,h)::Aw kid m (kid h))++((false,h)::Aw kid m r) from rfl) (Q (bN ..) ?_);rfl
theorem JX (G:∀c,wI (tg c)=true)(a:∀c,wI (tl c)=true):∀(m:Nat)(l:List Nat),BP (G4 tg tl at_ kid m l)=true
 |0,l=>rfl|J+1,[]=>rfl
 |m+1,c::r=>by refine (?_:(wI (tg c)&&wI (tl c)&&BP _&&BP _)=true);refine Q (G ..) ?_;refine Q (a ..) ?_;rw[JX G a m,JX G a m];rfl
theorem F4:∀(m:Nat)(l:List Nat),A' (G4 tg tl at_ kid m l)<=m
 |0,l=>ag _|J+1,[]=>dZ _
 |m+1,h::r=>by exact Nat.max_le.mpr ⟨cb (F4 m (kid h)),fj (F4 m r)⟩
end
def AW (a:List V):Option ba:=(strsOf a).bind λa=>if nt ("":ba) a then Y (lR ("":ba) a) else N
theorem QQ {f:List V}(e:view hp (rC k)=.lst f)(i:AW f=Y s):za hp .EA (.qu "") [k]=Y (.str s,hp):=by
 show ((lV (λf=>(strsOf f).bind λf=>if nt ("":ba) f then Y (V.str (lR ("":ba) f)) else N) (view hp (rC k))).map λL=>(L,hp))=_;refine Q e ?_;delta AW at i
 show ((strsOf f).bind λf=>if nt ("":ba) f then Y (V.str (lR ("":ba) f)) else N).map _=_
 cases z:strsOf f with
 |none=>rw[z] at i;exact nS i
 |some j=>
  rw[z,d8] at i
  by_cases H:nt ("":ba) j
  .rw[qm H] at i
   refine Q (d8 ..) (Q (qm H) (J (ae i) ?_));rfl
  .rw[qn H] at i;exact nS i
theorem Wg:∀(l:List ba)(a:Array Nat),(l.foldl (λa p=>a++("":ba).cps++p.cps) a).toList=a.toList++l.flatMap (·.cps.toList)
 |[]=>@λa=>(bh _).symm
 |x::l=>@λa=>by have e:("":ba).cps.toList=[]:=rfl;refine Q dw ?_;rw[Wg l,eD,eD,e,bh,c_,a9]
theorem join_list:∀a:List ba,(lR "" a).cps.toList=a.flatMap (·.cps.toList)
 |[]=>rfl|x::a=>Wg a x.cps
theorem JW:∀(l:List ba)(c h:Nat),(∀x∈l,x.length<=c)->l.foldl (λt x=>t+x.length+("":ba).length) h<=h+c*l.length
 |[]=>@λc h J=>aM _ _
 |x::l=>@λc h n=>by
  have w:=JW l c (h+x.length+0) λj a=>n j (.tail _ a)
  have:=n x (.head _);refine Q (aV ..) (Q (dS ..) ?_);show l.foldl _ (h+x.length+0)<=_;exact Nt w this
theorem joinOk_of {a:List ba}(b:∀p∈a,p.length<=k)(w:k*a.length<=60000):nt "" a=true:=by have e:lO (a.foldl (λh p=>h+p.length+("":ba).length) 0)=false:=decide_eq_false (cV.mpr (aa (JW a k 0 b) (by refine Q (bW ..) ?_;exact aa w (by decide))));delta nt;refine Q (List.foldl_toArray ..) (Q e ?_);rfl
theorem Gs {o:Type}{b:o->V}{g:o->ba}:∀a:List o,(∀G∈a,rC (b G)=.str (g G))->strsOf (a.map b)=Y (a.map g)
 |[]=>@λJ=>rfl
 |x::a=>@λc=>by refine (?_:sV (λp=>(strsOf (a.map b)).map (p::·)) (rC (b x))=_);refine Q (c x (.head _)) (Q (Gs a λG d=>c G (.tail _ d)) ?_);rfl
theorem DF {o:Type}{f:o->V}{d:o->List Nat}(a:List o)(g:∀G∈a,rC (f G)=.str (qA (d G)))(n:∀G∈a,(d G).length<=k)(w:k*a.length<=60000):AW (a.map f)=Y (qA (a.flatMap d)):=by
 delta AW;rw[Gs (g:=λG=>qA (d G)) a g,d8,qm (joinOk_of (k:=k) (λp b=>by
  refine qt (bZ.mp b) λG H e=>?_;refine J e ?_;clear e
  exact n G H) (by refine Q (ao ..) ?_;exact w))]
 refine qo Y (Ag ?_);refine Q (join_list ..) (Q (o1 ..) ?_);rfl
theorem Ke {hp:List O}(f:List Bool)(w:f.length<=65536):rV 8 (.lst (bL f)) (.lst (bL f))=Y true:=by
 have b:∀f:List Bool,zR (rV 7) (bL f) (bL f)=Y true:=λf=>by
  induction f with
  |nil=>rfl|cons T f e=>
   exact (congr (qo Cj (by cases T<;>rfl)) e:Cj (rV 7 (.bool T) (.bool T)) (zR (rV 7) (bL f) (bL f))=_)
 exact (qm rfl).trans (b f)
theorem aiq {a:List O}{g:List V}(j:a[i]?=Y (.list g)):tj a (.ref i) "append"=Y (.bm "list.append"<|.ref i):=by show zW a i "append" a[i]?=_;exact Q j (qm rfl:(if ("append":ba)="append" then Y (V.bm "list.append"<|.ref i) else N)=_)
noncomputable def rK:Nat->V
 |0=>.qu "&"|1=>.none
 |_=>.qu ""
theorem Jx:∀c,Jg<|rK c
 |0=>.inl rfl|1=>.inr<|.inl rfl
 |J+2=>.inr<|.inr rfl
def wc (L:Nat->Nat)(d i:Nat):List<|Bool×Nat:=((true,1)::Aw (rt L d) 9 (rt L d 1))++if i=0 then [(false,1)] else []
def B5 (L o:Nat->Int)(e:Bool×Nat):List Nat:=if e.1=true then [qD.getD (L (e.2-1)+3).toNat 0] else xi (o<|e.2-1).toNat
def te (L o:Nat->Int)(I:Nat->Nat)(d i:Nat):List Nat:=(wc I d i).flatMap<|B5 L o
theorem Qw:∀c,FO (rK c)=if c=0 then [.qu "&"] else []
 |0=>rfl|1=>rfl
 |J+2=>rfl
section
variable (hm:12<=m) (hh:h<5) {p G o:Nat->Int}(z:0<n) (A:n<=5) (H:∀k,k<n->-3<=p k/\p k<=3) (y:∀k,0<=o k/\o k<=3) (w:o 0=0) (T:∀k,k<n->f k<=k/\G k+1=(f k:Int)) (x:full (rt f n) 9 (rt f n 1)=true) (U:∀e∈Aw (rt f n) 9 (rt f n 1),2<=e.2) (u:(wc f n c).length<=30)
include hm hh z A H y w T
theorem GA:∀(j k:Nat)(hp:List O)(L s g t:Option V),k+j<=n->KZ p o (rK c) f k hp->
  ∃q v g' s' hp',ui (ev (qz m) 59) [] (.l 9) N RQ (nats<|dn k j) ⟨uB p G o n h (rK c) L s g t,hp⟩=Y (.next,⟨uB p G o n h (rK c) q v g' s',hp'⟩)/\KZ p o (rK c) f (k+j) hp'
 |0=>@λk hp L s g t J I=>⟨L,s,g,t,hp,rfl,I⟩
 |j+1=>@λk hp L s g t hk I=>by
  have ps:=Qs (m:=m-2) hh A H y w (Jx c) T (ai (jv<|fJ j) hk) I s g t;rw[aH<|aa (by decide) hm] at ps
  exact zA ps λi zN g1 I1=>acP (GA j (k+1) zN (Y<|.int k) (Y<|wi o (rK c) k) (Y<|vm (.qu "?")<|p k) i (Q (cm ..) hk) I1) λa b d e yt g2 I2=>⟨a,b,d,e,yt,r_ rfl rfl g1 g2,Q (show k+(j+1)=k+1+j from (cm k j).symm) I2⟩
include x U u
theorem Xy (hp):(qz<|m+1).top 197 [.qu rr,.lst<|rh p n,.lst<|rh G n,.lst<|rh o n,.con<|.ref<|yn h,rK c] [] [] hp=Y (.str<|qA<|te p o f n c,hp):=by
 have hw:∀g:Nat->Int,(rh g n).length=n:=λg=>sT _ n
 have hlf:sX [] 9 (rK c)=Y (rK c):=match c with
  |0=>rfl|1=>rfl
  |W+2=>rfl
 let i:List O:=[.list []]++yu 1 (.qu "") (.ru [] []) .none []++[.list [.ref 3],.list []];obtain ⟨x9,t,g,s,QU,gl,I⟩:=(GA (c:=c) hm hh z A H y w T n 0 i N N N N (aK<|bW n) ⟨rfl,rfl,rfl,rfl,λL hi=>Q (Nat.le_zero.mp hi)<|Q (Jz (λj hj=>absurd hj<|Nat.not_lt_zero j)<|ag 0)<|DX [.list []] [.list [.ref 3],.list []]⟩);rw[<- dm] at gl
 revert I;refine Q (bW ..) ?_;intro I;have htg:∀L,wI (wG p L)=true:=λL=>match L with
  |0=>rfl|W+1=>rfl
 have QT:∀L,wI (ux o (rK c) L)=true:=λL=>match L with
  |0=>rfl|k+1=>PG y (Jx c) k
 have aa5:∀L,∀j∈rt f n L,j<=n:=λL j hj=>qt (bZ.mp hj) λa ha rS=>J rS<|bF.mp (du.mp ha).1
 have htx:=F3 (tg:=wG p) (tl:=ux o<|rK c) (at_:=Bi p o<|rK c) (kid:=rt f n) 9<|rt f n 1
 have hlen:(Aw (rt f n) 9<|rt f n 1).length<=30:=by
  delta wc at u
  rw[aG,aV] at u
  exact aa (aa (cZ _)<|aM _ _) u
 have JG:=Qb (m-1) (av (F4 9<|rt f n 1)<|aa (by decide:9<11)<|fi hm 1) (htg 1) (QT 1) (JX htg QT 9<|rt f n 1) (I.Rn 1 z) (JY I.Rn aa5 9 (rt f n 1) x<|aa5 1) I.h0 (.inl<|show 0<9 by decide) (by
  refine Q htx<|Q (aG ..)<|Q (ao ..) ?_
  exact aa (a8 (aP (aP hlen 1) 0) 1)<|by decide)
 rw[aH<|aa (by decide) hm,dY,htx] at JG
 have hT:([wG p 1]++(Aw (rt f n) 9<|rt f n 1).map λe=>if e.1=true then wG p e.2 else ux o (rK c) e.2)++FO (ux o (rK c) 1)=(wc f n c).map λe=>if e.1=true then wG p e.2 else ux o (rK 0) e.2:=by
  have e1:∀e∈Aw (rt f n) 9 (rt f n 1),(if e.1=true then wG p e.2 else ux o (rK c) e.2)=if e.1=true then wG p e.2 else ux o (rK 0) e.2:=λe he=>by obtain ⟨q,hq⟩:∃q,e.2=q+2:=⟨e.2-2,(aH<|U e he).symm⟩;exact Q hq rfl
  refine Q (dC e1) ?_;show _++FO (rK c)=_;refine Q (Qw ..) ?_;delta wc;refine Q (bN ..) ?_
  by_cases q:c=0
  .exact Q (qm q)<|Q (qm q) rfl
  .exact Q (qn q)<|Q (qn q) rfl
 rw[hT] at JG
 have hj:AW ((wc f n c).map λe=>if e.1=true then wG p e.2 else ux o (rK 0) e.2)=Y (qA<|te p o f n c):=by
  refine DF (wc f n c) (λe he=>?_) (λe he=>?_)<|aa (aU 100 u)<|by decide
  .have h1:1<=e.2:=by
    rcases bQ.mp he with he|he
    .rcases aE.mp he with rfl|he
     .exact ag _
     .exact aa (by decide)<|U e he
    .by_cases q:c=0
     .rw[qm q] at he;exact Q (aN.mp he)<|ag _
     .rw[qn q] at he;exact absurd he nofun
   obtain ⟨b,k⟩:=e;obtain ⟨k,rfl⟩:∃q,k=q+1:=⟨k-1,(aH<|show 1<=k from h1).symm⟩
   cases b with
   |true=>rfl|false=>
    refine (?_:rC (wi o (rK 0) k)=.str (qA<|xi (o k).toNat))
    cases k with
    |zero=>exact Q w<|FC 0
    |succ k=>exact FC _
  .delta B5
   split
   .exact (by decide:1<=100)
   .refine Q (Bj ..) ?_;exact YH (y _) (by decide)
 generalize (wc f n c).map (λe=>if e.1=true then wG p e.2 else ux o (rK 0) e.2)=TX at JG hj
 have hmd:si QU (.ref 7) (.int 1)=Y (.ref<|eb 1+2):=by
  refine uT (sf I.h7) (.inl rfl) ?_<|Q (by delta refsOf;refine Q (ao ..)<|Q (ao ..)<|Q (aS ..) rfl:(refsOf<|(aq<|n+1).map eb).length=n+1)<|aa (cb A)<|by decide
  delta refsOf;refine Q aZ<|Q aZ<|Q (fz<|pq z) ?_;rfl
 refine rE m (t:=t25) rfl rfl rfl rfl (uS rfl<|uS ((λg=>yK [] 7 g n) _)<|uS ((λg=>yK [] 7 g n) _)<|uS ((λg=>yK [] 7 g n) _)<|uS rfl<|CG hlf) (hp':=QU.set 0<|.list TX) (v:=.str<|qA<|te p o f n c) (ax ub ?_:we (qz m) [] Y9 ⟨[Y<|.qu rr,Y<|.lst<|rh p n,Y<|.lst<|rh G n,Y<|.lst<|rh o n,Y<|.con<|.ref<|yn h,Y<|rK c,N,N,N,N,N,N,N],[]⟩=_) rfl;have hel:=Wm (m-1) (.qu "") [] [] N rfl [.list []];rw[aH<|aa (by decide) hm] at hel
 have hF:=(λd=>bu<|DK I.h0:∀d:List V,(QU.set 0<|.list d)[0]?=Y (.list d)) TX;have hG:=(λd=>(aW<|by decide).trans I.h8:∀d:List V,(QU.set 0<|.list d)[8]?=Y (.list<|aw n<|.bool true)) TX;generalize QU.set 0 (.list TX)=vz at JG hF hG ⊢
 have g2:(ev (qz m) 57).E [] (.cmp (.l 8) [.Eq] [.bin .Mult (.list [.k<|.bool true])<|.bf .len [.l 1]]) ⟨uB p G o n h (rK c) x9 t g s,vz⟩=Y (.bool true,⟨uB p G o n h (rK c) x9 t g s,vz⟩):=by
  have hb:sL vz .Mult (.lst [.bool true]) (.int n)=Y (.lst<|aw n<|.bool true):=by show (if 0<=(n:Int)/\(n:Int)<65536 then Y (V.lst<|aw (n:Int).toNat<|.bool true) else N)=_;exact Q (qm ⟨aC n,bo.mpr<|av A<|by decide⟩) rfl
  exact qW rfl (qy (yC<|qH rfl) ((v_ rfl rfl<|by rw[hw];exact aa A<|by decide).trans<|qo (λk:Nat=>Y (V.int k,(_:St)))<|hw p) hb) (Q (sf hG)<|Q (show aw n (V.bool true)=bL (aw n true) from List.map_replicate.symm)<|Ke (hp:=[]) _<|Q (g_ ..)<|aa A<|by decide:O9 .Eq (.ref 8) (view vz<|.ref 8) (.lst<|aw n<|.bool true)=_)
 exact qI (qU (sY<|qp (xq rfl)<|qp (xq<|qM<|qH<|call_top (qp rfl<|qH rfl) hel)<|qH<|xq rfl) rfl) (qI (v8 (vE ((v_ rfl rfl<|by rw[hw];exact aa A<|by decide).trans<|qo (λk:Nat=>Y (V.int k,(_:St)))<|hw p)<|aa A<|by decide) gl)
  <| tu<|sy<|vD (Sh (qW (call_top (qp (xr rfl<|aiq I.h0)<|qH<|ro rfl rfl hmd) JG) rfl rfl) rfl g2) rfl<|uL rfl rfl rfl (qH rfl)<|QQ (sf hF) hj)
end
def ones (a:List Nat):List V:=a.map λc=>V.str<|Vm.one c
def ahF:List XS:=[.expr<|.mt .append (.l 3) [.rf (.l 5) (.sub (.l 5)<|.un .USub<|.i 1)<|.un .USub<|.i 1],.expr<|.mt .append (.l 5) [.bf .len [.l 2]],.expr<|.mt .append (.l 2) [.bin .Sub (.mt .index (.l 1) [.l 7])<|.i 3],.expr<|.mt .append (.l 4) [.i 0]]
def ahi:XS:=.rf (.cmp (.l 7) [.Eq] [.k<|.qu ";"]) [.uD (.l 4) (.l 6) .Add<|.i 1] []
def abZ:List XS:=[.rf (.cmp (.l 7) [.In] [.l 1]) ahF [.rf (.cmp (.l 7) [.Eq] [.k<|.qu "&"]) [.asg (.l 6)<|.mt .pop (.l 5) []] [ahi]]]
abbrev Aa (k:V)(y:Option V)(h:Option V):List<|Option V:=[Y k,Y<|.qu rr,Y<|.ref 0,Y<|.ref 1,Y<|.ref 2,Y<|.ref 3,y,h]
abbrev tM (o f j:List Int)(u:List Nat):List O:=[.list<|iL o,.list<|iL f,.list<|iL j,.list<|nats u]
def Goes (g:vC)(k:V)(y:Option V)(U:List Nat)(o j u:List Int)(G:List Nat)(d:List O):Prop:=∀h,∃e T,ui (ev g 59) [] (.l 7) N abZ (ones U) ⟨Aa k y h,tM o j u G⟩=Y (.next,⟨Aa k e T,d⟩)
theorem EW (c)(a):tX a .In (.str<|Vm.one c) (.qu rr)=Y (decide<|c∈qD):=by have e:tX a .In (.str<|Vm.one c) (.qu rr)=Y (hasSub ⟨#[c]⟩ rr):=rfl;refine ax e<|Q (sub_one ..)<|Q (A3 ..) rfl
theorem B8 (c h)(p)(e:p=qA [h])(a):tX a .Eq (.str<|Vm.one c) (.qu p)=Y (decide<|c=h):=Q e<|ax rfl<|qo Y<|decide_eq_decide.mpr ⟨λi=>fF (qo (λp:ba=>p.cps.toList) i) |>.1,λi=>Q i rfl⟩
theorem Uw:∀c,c<7->js rr (Vm.one<|qD.getD c 0)=(c:Int):=by decide +kernel
theorem LZ:∀c,c<7->qD.getD c 0∈qD:=by decide
theorem Goes.nil:Goes orc pg l [] o f j u<|tM o f j u:=λh=>tH l h rfl
theorem XX (a)(q):iL a++[V.int q]=iL (a++[q]):=by delta iL;exact Q (bN ..) rfl
theorem GJ (a:List Nat)(c:Nat):nats a++[V.int c]=nats (a++[c]):=by delta nats;exact Q (bN ..) rfl
theorem Goes.opn {c:Nat}(I:c<7) (w:o.length<=60) (i:a.length<=60) (b:t.length<=60) (U:p.length<=60) (d:Goes orc pg l M (o++[(c:Int)-3]) (a++[tI p]) (t++[0]) (p++[o.length]) vz):Goes orc pg l (qD.getD c 0::M) o a t p vz:=λh=>by
 refine se (d<|Y<|.str<|Vm.one<|qD.getD c 0) λf q g=>tH f q ?_
 have G:(nats p).length<=65536:=Q (rF ..)<|bJ U
 have s:(ev orc 56).E [] (.rf (.l 5) (.sub (.l 5)<|.un .USub<|.i 1)<|.un .USub<|.i 1) ⟨Aa pg l<|Y<|.str<|Vm.one<|qD.getD c 0,tM o a t p⟩=Y (.int<|tI p,⟨Aa pg l<|Y<|.str<|Vm.one<|qD.getD c 0,tM o a t p⟩):=by
  delta tI
  cases n:p.getLast? with
  |none=>
   refine Q (ma.mp n) ?_;exact wB rfl rfl rfl
  |some e=>
   have u:0<p.length:=iA.mpr (by rintro rfl;exact Vm.nS n);refine vD rfl ((xA rfl G).trans<|dt<|Q (rF ..)<|bw u)<|ro rfl (xW rfl)<|uT (k:=p.length-1) (sf rfl) (.inr<|Q (rF ..)<|YI u) ?_ G
   refine Q (DI ..)<|J gj<|Q n ?_;rfl
 have z:za (tM o (a++[tI p]) t<|p++[o.length]) .BK (.qu rr) [.str<|Vm.one<|qD.getD c 0]=Y (.int c,tM o (a++[tI p]) t<|p++[o.length]):=by show ((if 0<=js rr (Vm.one<|qD.getD c 0) then Y (V.int<|js rr<|Vm.one<|qD.getD c 0) else N).map λe=>(e,tM o (a++[tI p]) t<|p++[o.length]))=_;exact Q (Uw c I)<|Q (qm<|aC c) rfl
 have H:=tU<|CY (x:=.l 3) (st:=⟨Aa pg l<|Y<|.str<|Vm.one<|qD.getD c 0,tM o a t p⟩) rfl rfl (qH s) rfl<|by refine Q (r9 ..) ?_;lia
 have v:=tU<|CY (orc:=orc) (j:=56) (M:=[]) (x:=.l 5) (st:=⟨Aa pg l<|Y<|.str<|Vm.one<|qD.getD c 0,tM o (a++[tI p]) t p⟩) rfl rfl (qH<|(v_ (x:=.l 2) rfl (sf rfl)<|by rw[r9];lia).trans<|qo (λT:Nat=>Y (V.int T,(_:St)))<|r9 o) rfl G
 have k:=tU<|CY (x:=.l 2) (st:=⟨Aa pg l<|Y<|.str<|Vm.one<|qD.getD c 0,tM o (a++[tI p]) t<|p++[o.length]⟩) rfl rfl (qH (qy (uL rfl rfl rfl (qH rfl) z) rfl<|uj _ 3:(ev orc 56).E [] (.bin .Sub (.mt .index (.l 1) [.l 7])<|.i 3) ⟨Aa pg l<|Y<|.str<|Vm.one<|qD.getD c 0,tM o (a++[tI p]) t<|p++[o.length]⟩=Y (.int<|(c:Int)-3,⟨Aa pg l<|Y<|.str<|Vm.one<|qD.getD c 0,tM o (a++[tI p]) t<|p++[o.length]⟩))) rfl<|by refine Q (r9 ..) ?_;lia
 have L:=tU<|CY (orc:=orc) (j:=56) (M:=[]) (x:=.l 4) (st:=⟨Aa pg l<|Y<|.str<|Vm.one<|qD.getD c 0,tM (o++[(c:Int)-3]) (a++[tI p]) t<|p++[o.length]⟩) rfl rfl (qH rfl) (as:=[.i 0]) rfl<|by rw[r9];lia
 rw[XX] at H k L
 rw[GJ] at v
 exact r_ rfl rfl (rM<|tY (qW rfl rfl<|EW _ _) (dt<|LZ c I)<|rg H<|rg v<|rg k<|rM L) g
theorem Jl (n:c=38\/c=59\/c=97\/c=109\/c=112):c∉qD:=by rcases n with rfl|rfl|rfl|rfl|rfl<;>decide
theorem Qc:(";":ba)=qA [59]:=by kernel_rfl
theorem Goes.skip (n:c=97\/c=109\/c=112)(b:Goes orc pg l M o a t p vz):Goes orc pg l (c::M) o a t p vz:=λh=>se (b<|Y<|.str<|Vm.one c) λT q e=>tH T q<|r_ rfl rfl (rM<|sG (qW rfl rfl<|EW _ _) (df<|Jl<|.inr<|.inr n)<|rM<|sG (qW rfl rfl<|B8 c 38 _ Fx _) (df<|by lia)<|rM<|zZ<|(qW rfl rfl<|B8 c 59 _ Qc _).trans<|qo (λU=>Y (V.bool U,(_:St)))<|decide_eq_false<|by lia) e
theorem Goes.amp {c:Nat}(w:p.length<=60) (a:Goes g k (Y<|.int c) M o j u p vz):Goes g k l (38::M) o j u (p++[c]) vz:=λh=>by
 refine se (a<|Y<|.str<|Vm.one 38) λT q e=>?_
 have i:za (tM o j u<|p++[c]) .BV (.ref 3) []=Y (.int c,tM o j u p):=by show Jo (tM o j u<|p++[c]) .BV (.ref 3) []=_;refine (EM _ _ rfl).trans ?_;show (if q6 (nats<|p++[c]).length=true then (nats<|p++[c]).getLast?.map λL=>(L,(tM o j u<|p++[c]).set 3<|.list (nats<|p++[c]).dropLast) else N)=_;refine ax (qm<|decide_eq_true<|by refine Q (rF ..)<|Q (aG ..) ?_;show p.length+1<=_;exact da<|aa w<|b8 _ _)<|J (GJ ..)<|Q List.getLast?_concat<|Q (List.dropLast_concat ..) ?_;rfl
 exact tH T q<|r_ rfl rfl (rM<|sG (qW rfl rfl<|EW _ _) (df<|Jl<|.inl rfl)<|rM<|tY (qW rfl rfl<|B8 38 38 _ Fx _) (dt rfl)<|rM<|qU (uL rfl rfl rfl rfl i) rfl) e
theorem Goes.semi {c:Nat}{x:Int}(e:a[c]?=Y x) (w:a.length<=60) (b:Goes orc pg (Y<|.int c) M o u (a.set c<|x+1) G vz):Goes orc pg (Y<|.int c) (59::M) o u a G vz:=λy=>by
 refine se (b<|Y<|.str<|Vm.one 59) λh f i=>?_
 have n:si (tM o u a G) (.ref 2) (.int c)=Y (.int x):=by refine uT (sf rfl) (.inl rfl) ?_ (by refine Q (r9 ..) ?_;lia);delta iL;refine Q aZ<|Q e ?_;rfl
 have z:uc (tM o u a G) (.ref 2) (.int c) (.int<|x+1)=Y (tM o u (a.set c<|x+1) G):=by refine (EE rfl (.inl rfl) (Q (r9 ..)<|(aO.mp e).1)<|by refine Q (r9 ..) ?_;lia).trans ?_;exact Q List.map_set.symm rfl
 exact tH h f<|r_ rfl rfl (rM<|sG (qW rfl rfl<|EW _ _) (df<|Jl<|.inr<|.inl rfl)<|rM<|sG (qW rfl rfl<|B8 59 38 _ Fx _) (df<|by decide)<|rM<|tY (qW rfl rfl<|B8 59 59 _ Qc _) (dt rfl)<|rM<|zu rfl rfl n rfl (CO _ _) z) i
noncomputable def xj:List (Bool×Nat)->Nat->List Int->List Nat->List Nat->Option (Nat×List Int×List Nat×List Nat)
 |[]=>@λc a f j=>Y (c,a,f,j)
 |(true,h)::u=>@λc a f j=>if h=c+1 then xj u (c+1) (a++[tI j]) f (j++[c]) else N
 |(false,h)::u=>@λc a f j=>if j.getLast?=Y (h-1)/\h-1<c/\h-1∉f then xj u c a ((h-1)::f) j.dropLast else N
noncomputable def yR (b:Nat->Int)(c:Nat)(a:List Nat):List Int:=(aq c).map λh=>if h∈a then b h else 0
theorem MH {U:List Nat}{o j:List Int}{u:List Nat}{G:List O}{c:Nat}:∀(d:Nat)(f:List Int)(x:Int),f[c]?=Y x->f.length<=60->Goes orc pg (Y<|.int c) U o j (f.set c<|x+d) u G->Goes orc pg (Y<|.int c) ((aw d [97,109,112,59]).flatten++U) o j f u G
 |0=>@λf x e w a=>by
  have i:f.set c (x+(0:Nat))=f:=by
   refine Q (Int.natCast_zero ..)<|Q (dJ ..) ?_
   exact ew λt=>by
    by_cases n:c=t
    .subst n;refine Q (bu (aO.mp e).1)<|Q e rfl
    .refine Q (aW n) rfl
  rw[i] at a
  exact a
 |d+1=>@λf x e w a=>by
  refine Q (eE ..)<|Q (kl ..)<|Q (a9 ..)<|Goes.skip (.inl rfl)<|Goes.skip (.inr<|.inl rfl)<|Goes.skip (.inr<|.inr rfl)<|Goes.semi e w<|MH d (f.set c<|x+1) (x+1) (bu (aO.mp e).1) (J ((cO ..).symm) w) ?_
  exact Q (ki ..)<|Q (show x+1+(d:Int)=x+((d+1:Nat):Int) from (jn ..).trans<|qo _<|gp ..) a
theorem DC (how:∀c,-3<=ow c/\ow c<=3)(o:∀c,0<=d c/\d c<=3):∀(u:List<|Bool×Nat)(cnt:Nat)(G:List Int)(e I:List Nat)(y:Option V),xj u cnt G e I=Y (h,Pj,f,HL)->(∀T∈e,T<cnt)->cnt+u.length<=50->G.length+u.length<=50->I.length+u.length<=50->
  Goes orc pg y (u.flatMap<|B5 ow d) ((aq cnt).map ow) G (yR d cnt e) I (tM ((aq h).map ow) Pj (yR d h f) HL)
 |[]=>@λcnt G e I y p J J J J=>by
  have p:=ae p;rw[jO,jO,jO] at p
  obtain ⟨rfl,rfl,rfl,rfl⟩:=p;exact Goes.nil
 |(true,i)::u=>@λcnt G e I y p Ar j b U=>by
  rw[aV] at j b U
  by_cases n:i=cnt+1
  .have z:xj u (cnt+1) (G++[tI I]) e (I++[cnt])=Y (h,Pj,f,HL):=(qm n).symm.trans p;refine Q n ?_;clear n;obtain ⟨t,H⟩:=dQ (Sj<|how cnt);have q:B5 ow d (true,cnt+1)=[qD.getD t 0]:=by show [qD.getD (ow cnt+3).toNat 0]=_;exact Q H rfl
   refine Q (c_ ..)<|Q q ?_
   have k:((aq cnt).map ow).length=cnt:=by refine Q (ao ..)<|Q (aS ..) rfl
   refine Goes.opn (Si (how _) H) (by refine Q k ?_;lia) (by lia) (by delta yR;refine Q (ao ..)<|Q (aS ..) ?_;lia) (by lia) ?_;refine Q k<|Q (show (t:Int)-3=ow cnt from nT.mpr H.symm) ?_
   have L:yR d cnt e++[0]=yR d (cnt+1) e:=by
    delta yR;refine Q (fL ..)<|Q (bN ..) ?_
    show _=_++[if cnt∈e then d cnt else 0];refine Q (qn λa=>b9 _<|Ar _ a) rfl
   exact Q (Q (fL ..)<|Q (bN ..) rfl:(aq cnt).map ow++[ow cnt]=(aq<|cnt+1).map ow)<|Q L<|DC how o u (cnt+1) _ e _ y z (λT s=>dT<|Ar T s) (AH j) (by refine Q (aG ..) ?_;show G.length+1+_<=50;exact AH b)<|by refine Q (aG ..) ?_;show I.length+1+_<=50;exact AH U
  .exact absurd ((qn n).symm.trans p) nofun
 |(false,i)::u=>@λcnt G e I y p Ar j b U=>by
  rw[aV] at j b U
  by_cases n:I.getLast?=Y (i-1)/\i-1<cnt/\i-1∉e
  .skip
   refine qN n λg q2 q3=>?_
   have x:I=I.dropLast++[i-1]:=by
    have A:I≠[]:=by rintro rfl;exact Vm.nS g
    have:=ly A;rw[kZ A] at g
    rw[ae g] at this
    exact this.symm
   have V6:I.dropLast.length<=I.length:=Q (nQ ..)<|Nat.pred_le _
   refine Q (c_ ..)<|Q x ?_
   have hx:(yR d cnt e)[i-1]?=Y 0:=by delta yR;refine Q (tC _ q2)<|Q (qn q3) rfl
   refine Goes.amp (NI U V6)<|MH _ _ 0 hx (Ni j (by delta yR;refine Q (ao ..)<|Q (aS ..) rfl)) ?_
   have q:(yR d cnt e).set (i-1) (0+((d<|i-1).toNat:Int))=yR d cnt ((i-1)::e):=by
    have:=o<|i-1
    refine Q (show (0+((d<|i-1).toNat:Int))=d (i-1) from (dA _).trans<|cj (o _).1) ?_;delta yR;refine ew λT=>?_
    by_cases a:i-1=T
    .subst a;refine Q (bu<|Q (ao ..)<|Q (aS ..) q2)<|Q (tC _ q2)<|Q (qm<|.head _) rfl
    .refine Q (aW a) ?_
     by_cases w:T<cnt
     .refine Q (tC _ w)<|Q (tC _ w) ?_
      congr 1
      by_cases v:T∈e
      .refine Q (qm v)<|Q (qm<|.tail _ v) rfl
      .refine Q (qn v)<|Q (qn λc=>(aE.mp c).elim (λq=>a q.symm) v) rfl
     .refine Q (cf<|by refine Q (sT ..) ?_;lia)<|Q (cf<|by refine Q (sT ..) ?_;lia) rfl
   exact Q q<|DC how o u cnt G ((i-1)::e) I.dropLast (Y<|.int (i-1:Nat)) ((qm n).symm.trans p) (λT s=>(aE.mp s).elim (λq=>Q q q2)<|Ar T) (b6 j) (b6 b)<|aa (a8 V6 _)<|b6 U
  .exact absurd ((qn n).symm.trans p) nofun
theorem uu {U f:List Nat}{y:St}(e:plX x=true)(i:(ev g c).E U x y=Y (.str s,y))(n:s.cps.toList=f):tK (ev g c) U x y=Y (ones f,N,y):=(tP e i).trans<|qo (λf=>Y (ones f,N,y)) n
theorem JS {a:List O}{f:List Nat}(e:a[i]?=Y (.list<|nats f)):sX a (n+2) (.ref i)=Y (.lst<|nats f):=(qo (JV<|qP<|sX a<|n+1) e).trans<|qM<|DP a n f
theorem Sv {b d:Nat->Int}(g:∀c,-3<=b c/\b c<=3)(n:∀c,0<=d c/\d c<=3)(h)(w:1<=h)(e:xj es 0 [] [] []=Y (n',Pj,abN,HL))(i:es.length<=30)(G) :
  (qz h).top 204 [.str<|qA<|es.flatMap<|B5 b d,.qu rr] [] [] G=Y (.tup [.lst<|iL<|(aq n').map b,.lst<|iL Pj,.lst<|iL<|yR d n' abN,.lst<|nats HL],G):=by
 obtain ⟨h,rfl⟩:∃T,h=T+1:=⟨h-1,(aH w).symm⟩;have a:=DC (orc:=qz h) (pg:=.str<|qA<|es.flatMap<|B5 b d) g n es 0 [] [] [] (Y<|.int 0) e (λz f=>nomatch f) (by lia) (by refine (?_:0+_<=50);lia) (by refine (?_:0+_<=50);lia);refine se (a N) λj k a=>?_
 generalize U:es.flatMap (B5 b d)=M at a ⊢
 generalize L:(aq n').map b=o at a ⊢
 generalize yR d n' abN=t at a ⊢
 exact rE h (t:=t26) rfl rfl rfl rfl rfl (ax ub<|qI rfl<|qI (v8 (uu rfl rfl rfl) a)<|tu<|sy rfl:we (qz h) [] Y8 ⟨[Y<|.str<|qA M,Y<|.qu rr,N,N,N,N,N,N],[]⟩=_)<|qM<|uS (xH rfl)<|uS (xH rfl)<|uS (xH rfl)<|CG<|JS rfl
noncomputable def rq:List Nat:=[173,847,6150,6155,6156,6157,8203,8204,8205,8288,65279,65024,65025,65026,65027,65028,65029,65030,65031,65032,65033,65034,65035,65036,65037,65038,65039]
noncomputable def tD:List Nat:=[97,65,119808,119860,119912,120016,120172,120224,120276,120328,120380,120432]
theorem ae5 (c:Nat):Fu.contains (c:Int)=rq.contains c:=by rw[pD,dF,dF];exact ⟨λa=>((by decide +kernel:∀q∈Fu,0<=q/\q.toNat∈rq) _ a).2,(by decide +kernel:∀q∈rq,(q:Int)∈Fu) c⟩
theorem Yv (U:Nat)(w:1<=U)(h:Nat)(a:List O):(qz U).top 74 [.str<|Vm.one h] [] [] a=Y (.bool<|rq.contains h,a):=by obtain ⟨t,rfl⟩:∃t,U=t+1:=⟨U-1,(aH w).symm⟩;exact Q (Ss t rfl)<|J (ae5 ..) rfl
def EL:List<|Nat×List Nat:=[(8360,[114,115]),(64258,[102,108]),(64262,[115,116])] ++
 (tD.drop 2).flatMap λc=>qD.map λh=>(c+h-97,[h])
noncomputable def IH:List (Nat×List Nat)->List (Int×ba)->Bool
 |[],J=>true|_::_,[]=>false
 |p::a,b::f=>if (p.1:Int)=b.1 then decide (p.2=b.2.cps.toList)&&IH a f else IH (p::a) f
noncomputable def PB:Int->List (Int×ba)->Bool
 |J,[]=>true|k,b::a=>decide (k<b.1)&&PB b.1 a
theorem Zs:IH EL AD=true:=rfl
theorem Vt:PB 180 AD=true:=rfl
theorem Dy:∀(a:List<|Int×ba)(l:List<|Nat×List Nat),IH l a=true->∀b∈l,∃p,((b.1:Int),p)∈a/\p.cps.toList=b.2
 |J,[]=>@λJ b e=>nomatch e
 |[],c::l=>@λe b hp=>fT e
 |x::a,c::l=>@λe b hp=>by
  by_cases i:(c.1:Int)=x.1
  .have e:(decide (c.2=x.2.cps.toList)&&IH l a)=true:=(qm i).symm.trans e;rcases aE.mp hp with hp|hp
   .exact ⟨x.2,hp▸(Q i<|.head _),hp▸(of_decide_eq_true<|aL e).symm⟩
   .exact (Dy a l (aR e) b hp).elim λp t=>⟨p,.tail _ t.1,t.2⟩
  .exact (Dy a (c::l) ((qn i).symm.trans e) b hp).elim λp t=>⟨p,.tail _ t.1,t.2⟩
theorem Vs:∀(a:List<|Int×ba)(q:Int),PB q a=true->∀b∈a,q<b.1
 |[]=>@λJ J b e=>nomatch e
 |y::a=>@λq e b c=>(aE.mp c).elim (λi=>Q i<|of_decide_eq_true<|aL e) λc=>gn (of_decide_eq_true<|aL e)<|Vs a _ (aR e) b c
noncomputable abbrev kB (a:List<|Int×ba):List V:=a.map λb=>.int b.1
noncomputable abbrev vB (a:List<|Int×ba):List V:=a.map λb=>.str b.2
theorem find_eq (e:y.1=c):findKey (kB<|y::a) (vB<|y::a) (.int c)=Y (Y<|.str y.2):=(qT (dt e) rfl:(match Y (decide<|y.1=c) with|Y true=>Y<|Y<|V.str y.2|Y false=>findKey (kB a) (vB a)<|.int c|N=>N)=_)
theorem Mg (G:¬y.1=c):findKey (kB<|y::a) (vB<|y::a) (.int c)=findKey (kB a) (vB a) (.int c):=(qF (df G) rfl:(match Y (decide<|y.1=c) with|Y true=>Y<|Y<|V.str y.2|Y false=>findKey (kB a) (vB a)<|.int c|N=>N)=_)
theorem Mf:∀(a:List<|Int×ba)(q b:Int)(p:ba),PB q a=true->(b,p)∈a->findKey (kB a) (vB a) (.int b)=Y (Y<|.str p)
 |[]=>@λJ J J J c=>nomatch c
 |y::a=>@λq b p c G=>(aE.mp G).elim (λe=>(find_eq<|e▸rfl).trans<|e▸rfl) λG=>(Mg λi:y.1=b=>eM b<|(qo (·<b) i).mp<|Vs a _ (aR c) _ G).trans<|Mf a y.1 b p (aR c) G
theorem J5:∀(a:List<|Int×ba)(q b:Int),PB q a=true->b<=q->findKey (kB a) (vB a) (.int b)=Y N
 |[]=>@λJ J J J=>rfl
 |y::a=>@λq b e w=>have G:b<y.1:=b7 w<|of_decide_eq_true<|aL e
  (Mg λi:y.1=b=>eM b<|(qo (b<·) i).mp G).trans (J5 a y.1 b (aR e)<|bX G)
abbrev fB (c:Nat):Option<|Option V:=findKey (kB AD) (vB AD)<|.int c
theorem R0 (c h){y:Option V}(e:fB h=Y y):(ev (qz c) 59).E [] (.mt .get (.k b3V) [.bf .ord [.l 0]]) ⟨[Y<|.str<|Vm.one h,N],[]⟩=Y (Ak y .none,⟨[Y<|.str<|Vm.one h,N],[]⟩):=uL rfl rfl rfl (qH<|ug (qH rfl) rfl)<|qM<|qM e
theorem U1 (U)(w:1<=U)(h)(e:fB h=Y (Y<|.str s))(a):(qz U).top 120 [.str<|Vm.one h] [] [] a=Y (.str s,a):=by obtain ⟨u,rfl⟩:∃u,U=u+1:=⟨U-1,(aH w).symm⟩;exact rE u (t:=Zo) rfl rfl rfl rfl rfl (ax ub<|qI (qU (R0 u h e) rfl)<|tu rfl) rfl
theorem U2 (U)(w:1<=U)(h)(e:fB h=Y N)(i:iO (Vm.one h)=s)(n:q6 s.length=true)(a):(qz U).top 120 [.str<|Vm.one h] [] [] a=Y (.str s,a):=by obtain ⟨u,rfl⟩:∃u,U=u+1:=⟨U-1,(aH w).symm⟩;subst i;exact rE u (t:=Zo) rfl rfl rfl rfl rfl (ax ub<|qI (qU (R0 u h e) rfl)<|qI rfl<|tu<|sy<|uL rfl rfl rfl rfl<|qM<|qm n) rfl
theorem wJ:∀c∈qD,c<=122/\(iO<|Vm.one c).cps.toList=[c]/\(iO<|Vm.one<|65+c-97).cps.toList=[c]:=by decide +kernel
theorem GI (U)(w:1<=U)(c:b∈EL)(a):(qz U).top 120 [.str<|Vm.one b.1] [] [] a=Y (.str ⟨b.2.toArray⟩,a):=(Dy AD EL Zs b c).elim λp t=>U1 U w b.1 ((Mf AD 180 _ _ Vt t.1).trans<|qo (λp=>Y<|Y<|V.str p) (Ag t.2:p=⟨b.2.toArray⟩)) a
theorem DL (U)(w:1<=U){t:Nat}(i:c<=180)(e:(iO<|Vm.one c).cps.toList=[t])(a):(qz U).top 120 [.str<|Vm.one c] [] [] a=Y (.str<|Vm.one t,a):=U2 U w c (J5 AD 180 _ Vt<|bB.mpr i) (Ag e:_=Vm.one t) rfl a
theorem TJ:∀c∈([38,97,109,112,59]:List Nat),(iO<|Vm.one c).cps.toList=[c]:=by decide +kernel
theorem Rg (U)(w:1<=U)(b:h∈([38,97,109,112,59]:List Nat))(a):(qz U).top 120 [.str<|Vm.one h] [] [] a=Y (.str<|Vm.one h,a):=DL U w ((by decide:∀h∈([38,97,109,112,59]:List Nat),h<=180) h b) (TJ h b) a
theorem O8:∀c,c<10->tD.getD (c+2) 0∈tD.drop 2:=by decide
theorem Rp (U)(w:1<=U){h:Nat}(b:h∈qD)(k)(G:k<12)(a):(qz U).top 120 [.str<|Vm.one<|tD.getD k 0+h-97] [] [] a=Y (.str<|Vm.one h,a):=by
 match k,G with
 |0,J=>
  exact Q (bc 97 h)<|DL U w (aa (wJ h b).1<|by decide) (wJ h b).2.1 a
 |1,J=>exact DL U w (aa (fi (aP (wJ h b).1 65) 97)<|by decide) (wJ h b).2.2 a|k+2,G=>exact GI U w (dE _<|f_.mpr ⟨tD.getD (k+2) 0,O8 k<|gX<|gX G,bZ.mpr<|qr h b rfl⟩) a
theorem Yb:∀c∈qD,∀h,h<12->rq.contains (tD.getD h 0+c-97)=false:=by decide +kernel
def tB (c h:Nat):ba:=Vm.one<|tD.getD (h%12) 0+c-97
def uh (c:Nat):ba:=Vm.one<|rq.getD c 0
def vY (c h t:Nat):ba:=match h/12 with
 |0=>tB c h|1=>uh t++tB c h
 |_=>tB c h++uh t
noncomputable def ym (U:Int)(c:Nat):Nat:=(a_ (bg U ((13^c:Nat):Int)) ((36:Nat):Int)).toNat
noncomputable def zb (U:Int)(c:Nat):Nat:=(a_ (bg U ((c+2:Nat):Int)) ((27:Nat):Int)).toNat
theorem u0 (q:Int) {b:Nat}(G:0<b):a_ q (b:Int)=((a_ q (b:Int)).toNat:Int)/\(a_ q (b:Int)).toNat<b:=⟨(cj<|eI q<|bo.mpr G).symm,(iN<|eI q<|bo.mpr G).mpr<|i6 q<|bo.mpr G⟩
noncomputable def Em (U:Int):Nat->List Nat->List V
 |J,[]=>[]
 |i,h::M=>.str (vY h (ym U i)<|zb U i)::Em U (i+1) M
noncomputable def Z3:Nat->List Nat->List V
 |J,[]=>[]
 |i,h::M=>.tup [.int i,.str<|Vm.one h]::Z3 (i+1) M
def Wf:List XS:=[.asg (.tup [.l 6,.l 7])<|.tup [.bin .Mod (.bin .FloorDiv (.l 2)<|.bin .Pow (.i 13)<|.l 4)<|.i 36,.bf .chr [.sub (.cell 0)<|.bin .Mod (.bin .FloorDiv (.l 2)<|.bin .Add (.l 4)<|.i 2)<|.i 27]],.asg (.l 8)<|.bf .chr [.bin .Sub (.bin .Add (.sub (.l 3)<|.bin .Mod (.l 6)<|.i 12)<|.bf .ord [.l 5])<|.i 97],.wj (.cell 1) (.l 5)<|.sub (.list [.l 8,.bin .Add (.l 7)<|.l 8,.bin .Add (.l 8)<|.l 7])<|.bin .FloorDiv (.l 6)<|.i 12]
abbrev lF (k:V)(U:Int)(y h e T L A a:Option V):List<|Option V:=[Y k,Y<|.qu rr,Y<|.int U,Y<|.lst<|nats tD,y,h,e,T,L,A,a]
abbrev vz (I:O):List O:=[.cell<|Y<|.lst<|nats rq,.cell<|Y<|.ref 4,.cell N,.cell N,I]
noncomputable abbrev Az:List Nat:=[0,1,2,3]
theorem UQ:∀c,c<12->∃h,tD[c]?=Y h/\tD.getD c 0=h:=by decide
theorem RD:∀c,c<12->∀h,h<123->97<=h->CM ((tD.getD c 0+h-97:Nat):Int)=true:=by decide +kernel
theorem PD:∀c,c<27->∃h,rq[c]?=Y h/\rq.getD c 0=h/\CM (h:Int)=true:=by decide +kernel
theorem Yj (q):yg hp .chr [.int q]=if CM q=true then Y (.str<|Vm.one q.toNat) else N:=rfl
theorem RK {a:List O}{c:Nat}(e:CM (c:Int)=true):yg a .chr [.int c]=Y (.str<|Vm.one c):=(Yj _).trans<|qm e
theorem IG {a:List O}{f:List Nat}{c h:Nat}(e:f[c]?=Y h) (w:f.length<=65536):si a (.lst<|nats f) (.int c)=Y (.int h):=vV (by delta nats;refine ax aZ<|Q e ?_;rfl)<|J ((ao ..).symm) w
theorem acA {x:ba}(e:view hp v=.str y)(w:x.cps.size+y.cps.size<=65536):sL hp .Add (.str x) v=Y (.str<|x++y):=(qo (ab' .Add x) e:sL hp .Add (.str x) v=_).trans<|qm<|decide_eq_true w
theorem Ur (G:f<36):si hp (.lst [.str<|tB c f,.str<|uh u++tB c f,.str<|tB c f++uh u]) (.int (f/12:Nat))=Y (.str<|vY c f u):=by
 have U:f/12<3:=jW G;delta vY;generalize f/12=T at U
 rcases (by decide:∀T,T<3->T=0\/T=1\/T=2) T U with rfl|rfl|rfl<;>rfl
theorem one_inj (e:Vm.one a=Vm.one b):a=b:=qo (λp:ba=>p.cps.toList.headD 0) e
theorem GV (a h):tA (.str<|Vm.one a) (.str<|Vm.one h)=Y (decide<|a=h):=qo Y<|decide_eq_decide.mpr ⟨one_inj,qo Vm.one⟩
theorem VQ (G:¬c=h):tA (.str<|Vm.one c) (.str<|Vm.one h)=Y false:=(GV c h).trans<|qo Y<|decide_eq_false G
theorem Ey (c)(k):∀(l:List Nat)(f:List V),l.length=f.length->c∉l->tQ (ones l) f (.str<|Vm.one c) k=Y (ones<|l++[c],f++[k])
 |[],[]=>@λJ J=>rfl
 |[],_::_=>@λe J=>lB e
 |_::_,[]=>@λe J=>lB e
 |a::l,L::f=>@λe G=>by have i:tQ (ones<|a::l) (L::f) (.str<|Vm.one c) k=(match tQ (ones l) f (.str<|Vm.one c) k with|Y (j,u)=>Y (.str (Vm.one a)::j,L::u)|N=>N):=qF (VQ λn=>G<|Q n<|.head _) rfl;exact Q i<|Q (Ey c k l f (cE e) λn=>G<|.tail _ n) rfl
theorem Ti (a):(ones a).length=a.length:=ao ..
section
variable {x4 x5 x6 x7 g x9 x10:Option V}
theorem aez (w:97<=c) (i:c<=122) (b:h<=60) (e:tQ ks vs (.str<|Vm.one c) (.str<|vY c (ym y h)<|zb y h)=Y (u6,vs')) (T:ks.length<=1000) :
  rR (ev orc 59) Az Wf ⟨lF pg y (Y<|.int h) (Y<|.str<|Vm.one c) x6 x7 g x9 x10,vz<|.dict ks vs⟩ =
   Y (.next,⟨lF pg y (Y<|.int h) (Y<|.str<|Vm.one c) (Y<|.int (ym y h:Nat)) (Y<|.str<|uh<|zb y h) (Y<|.str<|tB c<|ym y h) x9 x10,vz<|.dict u6 vs'⟩):=by
 refine rG (u0 (bg y ((13^h:Nat):Int)) (b:=36)<|by decide) λj I=>rG (u0 (bg y ((h+2:Nat):Int)) (b:=27)<|by decide) λn a=>?_
 have t:0<13^h/\13^h<2^9000:=⟨ll<|by decide,av (aX (by decide) b)<|by decide +kernel⟩;have sm:∀u:Nat,u<=100->u<2^9000:=λu G=>av G (by decide +kernel)
 change _=((ym y h:Nat):Int) at j
 change ym y h<36 at I
 change _=((zb y h:Nat):Int) at n
 change zb y h<27 at a
 generalize ym y h=f at *
 generalize zb y h=x at *
 refine rU (PD x a) λz A H d=>?_
 have U:au ((13:Nat):Int)*h<=100000:=by have:=dG (bits_le.mpr (by decide):au ((13:Nat):Int)<=4) b;exact aa this<|by decide
 refine qt (UQ (f%12)<|dr _<|by decide) λu k L=>?_
 have o:=RD (f%12) (dr _<|by decide) c (fX i) w;rw[L] at o
 have p:(ev orc 59).S Az (.asg (.l 8)<|.bf .chr [.bin .Sub (.bin .Add (.sub (.l 3)<|.bin .Mod (.l 6)<|.i 12)<|.bf .ord [.l 5])<|.i 97]) ⟨lF pg y (Y<|.int h) (Y<|.str<|Vm.one c) (Y<|.int f) (Y<|.str<|uh x) g x9 x10,vz<|.dict ks vs⟩ =
   Y (.next,⟨lF pg y (Y<|.int h) (Y<|.str<|Vm.one c) (Y<|.int f) (Y<|.str<|uh x) (Y<|.str<|tB c f) x9 x10,vz<|.dict ks vs⟩):=by
  refine Q (by delta tB;refine Q L rfl:tB c f=Vm.one (u+c-97))<|qU (ug (qH<|qy (qy (ro rfl (qy rfl rfl<|RZ f 12 (by decide)<|zG<|sm 12<|by decide)<|IG k<|by decide) (ug (qH rfl) rfl)<|rW u c) rfl<|(uj _ 97).trans<|vi ((ft<|aa w<|b8 c u).symm:(u:Int)+c-97=((u+c-97:Nat):Int)))<|RK o) rfl
 exact rg (qU (sY<|qp (qy (qy rfl (qy rfl rfl<|yh 13 h U)<|xf y _ t.1 t.2) rfl<|(u3 _ 36 (by decide)<|sm 36<|by decide).trans<|vi j)<|qH (Q (by delta uh;refine Q H rfl:uh x=Vm.one z)<|ug (qH<|ro (qB rfl rfl) (qy (qy rfl (qy rfl rfl<|(rW h 2).trans<|vi (rfl:(h:Int)+2=((h+2:Nat):Int)))<|xf y _ (fJ _)<|sm _<|by lia) rfl<|(u3 _ 27 (by decide)<|sm 27<|by decide).trans<|vi n)<|IG A<|by decide)<|RK d:(ev orc 57).E Az (.bf .chr [.sub (.cell 0)<|.bin .Mod (.bin .FloorDiv (.l 2)<|.bin .Add (.l 4)<|.i 2)<|.i 27]) ⟨lF pg y (Y<|.int h) (Y<|.str<|Vm.one c) x6 x7 g x9 x10,vz<|.dict ks vs⟩=Y (.str<|uh x,⟨lF pg y (Y<|.int h) (Y<|.str<|Vm.one c) x6 x7 g x9 x10,vz<|.dict ks vs⟩))) rfl)<|rg p<|rM<|D7 (st3:=⟨lF pg y (Y<|.int h) (Y<|.str<|Vm.one c) (Y<|.int f) (Y<|.str<|uh x) (Y<|.str<|tB c f) x9 x10,vz<|.dict ks vs⟩) (ro (yC<|qp rfl<|qp (qy rfl rfl<|acA rfl<|show 1+1<=65536 by decide)<|qH<|qy rfl rfl<|acA rfl<|show 1+1<=65536 by decide) (qy rfl rfl<|KN f 12 (by decide)<|zG<|sm 12<|by decide)<|Ur I) (qB rfl rfl) rfl<|(qm ⟨rfl,aa T<|by decide⟩).trans<|qM e
theorem E7:∀(l done:List Nat)(vs:List V)(d:Nat)(x4 x5 x6 x7 g:Option V),(∀c∈l,97<=c/\c<=122)->(done++l).Nodup->done.length=vs.length->done.length+l.length<=100->d+l.length<=60->
  ∃I i T U n,ui (ev orc 59) Az (.tup [.l 4,.l 5]) N Wf (Z3 d l) ⟨lF pg NNq x4 x5 x6 x7 g x9 x10,vz<|.dict (ones done) vs⟩ =
   Y (.next,⟨lF pg NNq I i T U n x9 x10,vz<|.dict (ones<|done++l)<|vs++Em NNq d l⟩)
 |[]=>@λdone vs d x4 x5 x6 x7 g W W W W W=>Hw x4 x5 x6 x7 g<|by refine Q (bh ..) ?_;show _=Y (Fl.next,(⟨_,vz<|.dict (ones done)<|vs++[]⟩:St));exact Q (bh ..) rfl
 |c::l=>@λdone vs d x4 x5 x6 x7 g o x e b w=>by
  rw[aV] at b w
  obtain ⟨I,i,T,U,n,k⟩:=E7 l (done++[c]) (vs++[.str<|vY c (ym NNq d)<|zb NNq d]) (d+1) _ _ _ _ _ (λc j=>o c<|.tail _ j) (J ((a9 done [c] l).symm) x) (ax aG<|Q (aG ..)<|Q e rfl) (by refine Q (aG ..) ?_;show done.length+1+_<=100;lia) (by lia);rw[a9,a9] at k
  exact Hw I i T U n<|r_ rfl rfl (aez (o c<|.head _).1 (o c<|.head _).2 (jG w:d<=60) (Ey c (.str<|vY c (ym NNq d)<|zb NNq d) done vs e λa=>(i_.mp x).2.2 c a c (.head _) rfl)<|by refine Q (Ti ..) ?_;lia) k
end
noncomputable def DO (U:Int):Nat->List Nat->Nat->Option ba
 |J,[]=>@λJ=>N
 |i,h::M=>@λt=>if h=t then Y (vY h (ym U i)<|zb U i) else DO U (i+1) M t
theorem Rh (U)(c):∀(M:List Nat)(h:Nat),findKey (ones M) (Em U h M) (.str<|Vm.one c)=Y ((DO U h M c).map V.str)
 |[]=>@λJ=>rfl
 |a::M=>@λh=>by
  refine (?_:_=Y ((if a=c then Y (vY a (ym U h)<|zb U h) else DO U (h+1) M c).map V.str))
  by_cases e:a=c
  .rw[qm e];exact qT ((GV a c).trans<|dt e) rfl
  .rw[qn e];exact qF (VQ e)<|Rh U c M _
theorem G3 (U)(c):∀(M:List Nat)(h:Nat),c∈M->∃t,DO U h M c=Y (vY c (ym U t)<|zb U t)
 |[]=>@λJ b=>nomatch b
 |a::M=>@λh b=>by
  by_cases e:a=c
  .exact ⟨h,(qm e).trans<|e▸rfl⟩
  .exact (G3 U c M (h+1)<|(aE.mp b).resolve_left λi=>e i.symm).elim λz n=>⟨z,(qn e).trans n⟩
theorem Mb (U)(c):∀(M:List Nat)(h:Nat),c∉M->DO U h M c=N
 |[]=>@λJ G=>rfl
 |a::M=>@λh G=>(qn<|by rintro rfl;exact G<|.head _).trans<|Mb U c M _ λb=>G<|.tail _ b
def gC (U:Int)(c:Nat):List Nat:=match DO U 0 qD c with
 |Y p=>p.cps.toList|N=>[c]
theorem aet (e:(findKey ks vs<|.str<|Vm.one c).map (Ak ·<|.str<|Vm.one c)=Y w)(i:view a L=.ru ks vs):za a .Ba L [.str<|Vm.one c,.str<|Vm.one c]=Y (w,a):=by have n:za a .Ba L [.str<|Vm.one c,.str<|Vm.one c]=(Tw a .Ba (view a L) [.str<|Vm.one c,.str<|Vm.one c]).map (·,a):=rfl;exact Q n<|Q i<|qM e
theorem abl (U)(c):(findKey (ones qD) (Em U 0 qD)<|.str<|Vm.one c).map (Ak ·<|.str<|Vm.one c)=Y (.str<|qA<|gC U c):=by
 refine Q (Rh ..) ?_;delta gC
 cases DO U 0 qD c with
 |none=>rfl|some p=>rfl
def Zm:List<|Nat×List Nat:=EL++qD.flatMap λc=>[(c,[c]),(c-32,[c])]
def xu (c:Nat):List Nat:=(Zm.lookup c).getD [c]
def sS (c:Nat):Bool:=!rq.contains c
noncomputable def vA:List Nat:=[38,97,109,112,59]
noncomputable def zf:List Nat:=[64258,8360,64262]
noncomputable def uI (c:Nat):List Nat:=if c=64258 then [102,108] else if c=8360 then [114,115] else if c=64262 then [115,116] else [c]
theorem Mm:∀c∈qD,∀h,h<12->xu (tD.getD h 0+c-97)=[c]:=by decide +kernel
theorem X6:∀c∈vA++zf,xu c=uI c/\sS c=true/\c∉qD:=by decide +kernel
theorem FX:∀c∈qD++vA,uI c=[c]:=by decide +kernel
theorem XI:∀c,c<27->sS (rq.getD c 0)=false:=by decide +kernel
theorem Rb (a:c∈qD)(G:t<27):((vY c h t).cps.toList.filter sS).flatMap xu=uI c/\(vY c h t).cps.toList.length<=2/\∀T∈(vY c h t).cps.toList,sS T=true->∃z,z<12/\T=tD.getD z 0+c-97:=by
 have e:sS (tD.getD (h%12) 0+c-97)=true:=by delta sS;exact Q (Yb c a (h%12)<|dr _<|by decide) rfl
 have i:=Mm c a (h%12)<|dr _<|by decide
 have o:=XI t G;have A:(tB c h).cps.toList=[tD.getD (h%12) 0+c-97]:=rfl;have H:(uh t).cps.toList=[rq.getD t 0]:=rfl;generalize I:tD.getD (h%12) 0+c-97=d at *
 generalize rq.getD t 0=w at *
 have b:∀T:Nat,T=d->sS T=true->∃z,z<12/\T=tD.getD z 0+c-97:=λT hx J=>⟨h%12,dr _<|by decide,hx.trans I.symm⟩
 delta vY;refine Q (FX c<|fb _ a) ?_
 match h/12 with
 |0=>
  refine (?_:((tB c h).cps.toList.filter sS).flatMap xu=_/\(tB c h).cps.toList.length<=2/\∀T∈(tB c h).cps.toList,_);refine Q A ⟨by simp[e,i],(by decide:1<=2),λT hx=>b T<|aN.mp hx⟩
 |1=>
  refine (?_:((uh t++tB c h).cps.toList.filter sS).flatMap xu=_/\(uh t++tB c h).cps.toList.length<=2/\∀T∈(uh t++tB c h).cps.toList,_);refine Q (jT ..)<|Q (eD ..)<|Q A<|Q H ⟨by simp[e,i,o],(by decide:2<=2),λT hx k=>?_⟩
  rcases aE.mp hx with rfl|hx
  .rw[o] at k;exact fT k
  .exact b T (aN.mp hx) k
 |n+2=>
  refine (?_:((tB c h++uh t).cps.toList.filter sS).flatMap xu=_/\(tB c h++uh t).cps.toList.length<=2/\∀T∈(tB c h++uh t).cps.toList,_);refine Q (jT ..)<|Q (eD ..)<|Q A<|Q H ⟨by simp[e,i,o],(by decide:2<=2),λT hx k=>?_⟩
  rcases aE.mp hx with rfl|hx
  .exact b _ rfl k
  .rw[aN.mp hx,o] at k;exact fT k
theorem OR (I)(d:c∈qD++(vA++zf)):((gC I c).filter sS).flatMap xu=uI c/\(gC I c).length<=2/\∀j∈gC I c,sS j=true->∀(L:Nat)(w:1<=L)(a:List O),(qz L).top 120 [.str<|Vm.one j] [] [] a=Y (.str<|qA<|xu j,a):=by
 delta gC;rcases bQ.mp d with h|h
 .refine rN (G3 I c qD 0 h) λT e=>Q e ?_
  obtain ⟨_,G⟩:=u0 (bg I ((T+2:Nat):Int)) (b:=27) (by decide);refine qN (Rb h G) λi k f=>rj i k λj U n L w a=>qt (f j U n) λz g A=>Q A ?_;clear A
  exact Q (Mm c h z g)<|Rp L w h z g a
 .refine qN (X6 c h) λi k f=>Q (Mb I c qD 0 f)<|rj ?_ (by decide:1<=2) λj U n L w a=>?_
  .skip
   refine Q (dK ..)<|Q (qm k)<|J i ?_
   show xu c++[]=_;refine Q (bh ..) rfl
  .obtain rfl:=aN.mp U;refine Q i ?_;rcases bQ.mp h with h|h
   .exact Q (FX j<|dE _ h)<|Rg L w h a
   .skip
    exact GI L w ((by decide +kernel:∀j∈zf,(j,uI j)∈EL) j h) a
theorem Se {U:List Nat}{y:St}{f:List V}(e:(ev orc<|j+1).E U x y=Y (.lst f,y))(i:AW f=Y s):(ev orc<|j+2).E U (.mt .join (.k<|.qu "") [x]) y=Y (.str s,y):=uL rfl rfl rfl (qH e)<|QQ rfl i
theorem SD {b:List O}{L:List Nat}{f h:Nat}(e:L[f]?=Y h) (U:L.length<=65536):si b (.str<|qA L) (.int f)=Y (.str<|Vm.one h):=by refine (Q (rfl:(qA L).cps.size=L.length)<|Q (qm<|show q6 L.length=true from decide_eq_true U)<|Q (zJ<|(aO.mp e).1)<|Q (d8 ..)<|J fQ ?_:(if q6 (qA L).cps.size=true then (place (f:Int) (qA L).cps.size).bind λT=>((qA L).cps[T]?).map λh=>V.str<|Vm.one h else N)=_);show (L[f]?).map _=_;exact Q e rfl
theorem TO {U:List Nat}(w:U.length<=65536):yg hp .len [.str<|qA U]=Y (.int (U.length:Nat)):=by refine (Q (rfl:(qA U).cps.size=U.length)<|Q (qm<|show q6 U.length=true from decide_eq_true w) rfl:(if q6 (qA U).cps.size=true then Y (V.int ((qA U).cps.size:Nat)) else N)=_)
theorem I5 {b:Nat->Bool}(l:List Nat):((aq l.length).filter λj=>b<|l.getD j 0).map (λj=>l.getD j 0)=l.filter b:=by
 have e:(aq l.length).map (λj=>l.getD j 0)=l:=by
  refine ew λh=>?_
  by_cases G:h<l.length
  .refine Q (tC _ G)<|Q cq<|Q (aD G) ?_;rfl
  .refine Q (cf<|by refine Q (sT ..) ?_;lia)<|Q (cf<|by lia) rfl
 have i:=lu (p:=b) (f:=λj=>l.getD j 0) (l:=aq l.length);rw[e] at i
 exact i.symm
def AO (U:Int)(T:List Nat):List Nat:=if a_ U 2=1 then (cY (cY (cY (qA T) "fl" "ﬂ") "rs" "₨") "st" "ﬆ").cps.toList else T
theorem CJ:("ﬂ":ba).cps.toList.flatMap uI=("fl":ba).cps.toList.flatMap uI/\("₨":ba).cps.toList.flatMap uI=("rs":ba).cps.toList.flatMap uI/\("ﬆ":ba).cps.toList.flatMap uI=("st":ba).cps.toList.flatMap uI:=by decide +kernel
theorem CI:(∀c∈("ﬂ":ba).cps.toList,c∈zf)/\(∀c∈("₨":ba).cps.toList,c∈zf)/\(∀c∈("ﬆ":ba).cps.toList,c∈zf)/\("ﬂ":ba).length=1/\("₨":ba).length=1/\("ﬆ":ba).length=1:=by decide +kernel
theorem DW {U:List Nat}(h:∀c∈U,c∈qD++vA):U.flatMap uI=U:=by
 induction U with
 |nil=>rfl|cons c l e=>exact ax c_<|Q (FX c<|h c<|.head _)<|Q (e λi b=>h i<|.tail _ b) rfl
theorem Mi:∀c,1<=(uI c).length:=λc=>by
 delta uI
 split
 .decide
 split
 .decide
 split
 .decide
 exact ag 1
theorem IP (U)(h:∀c∈i,c∈qD++vA):(AO U i).flatMap uI=i/\∀c∈AO U i,c∈qD++(vA++zf):=by
 have e:∀c∈i,c∈qD++(vA++zf):=λc b=>(bQ.mp<|h c b).elim (λq=>fb _ q) λq=>dE _<|fb _ q
 have d:∀c∈zf,c∈qD++(vA++zf):=λc q=>dE _<|dE _ q
 delta AO
 split
 .refine ⟨?_,λc b=>?_⟩
  .exact Q (yU _ CJ.2.2)<|Q (yU _ CJ.2.1)<|Q (yU _ CJ.1)<|DW h
  .rcases DE b with q|q
   .exact d c<|CI.2.2.1 c q
   .rcases DE q with q|q
    .exact d c<|CI.2.1 c q
    .rcases DE q with q|q
     .exact d c<|CI.1 c q
     .exact e c q
 .exact ⟨DW h,e⟩
theorem I4 {p j e:ba}(f:e.cps.toList.flatMap uI=j.cps.toList.flatMap uI)(w:(p.cps.toList.flatMap uI).length<=b):(cY p j e).length<=b:=Q (cH.symm:(cY p j e).length=(cY p j e).cps.toList.length)<|aa (B2 _ λc J=>Mi c)<|Q (yU p f) w
section
variable {a:List Nat}(g:∀c∈a,c∈qD++vA) (d:a.length<=1000)
include g d
theorem P2:(AO NNq a).length<=1000:=aa (B2 _ λc J=>Mi c)<|Q ((IP NNq g).1) d
theorem Xf {x4 x5 x6 x7:Option V}:(ev orc 59).E Az (.rf (.cmp (.bin .Mod (.l 2)<|.i 2) [.Eq] [.i 1]) (.mt .replace (.mt .replace (.mt .replace (.l 0) [.k<|.qu "fl",.k<|.qu "ﬂ"]) [.k<|.qu "rs",.k<|.qu "₨"]) [.k<|.qu "st",.k<|.qu "ﬆ"])<|.l 0) ⟨lF (.str<|qA a) NNq x4 x5 x6 x7 x8 x9 x10,hp⟩ =
  Y (.str<|qA<|AO NNq a,⟨lF (.str<|qA a) NNq x4 x5 x6 x7 x8 x9 x10,hp⟩):=by
 have e:(ev orc 58).E Az (.cmp (.bin .Mod (.l 2)<|.i 2) [.Eq] [.i 1]) ⟨lF (.str<|qA a) NNq x4 x5 x6 x7 x8 x9 x10,hp⟩=Y (.bool<|decide<|a_ NNq 2=1,⟨lF (.str<|qA a) NNq x4 x5 x6 x7 x8 x9 x10,hp⟩):=qW (qy rfl rfl<|u3 NNq 2 (by decide)<|by decide +kernel) rfl<|Ad _ _
 have r:∀{p j:ba},p.length<=1000->j.length=1->vF p j=true:=λi k=>by delta vF;exact Q k<|decide_eq_true<|aa (bq i<|cz 1<|cb i)<|by decide
 have b:((qA a).cps.toList.flatMap uI).length<=1000:=by show (a.flatMap uI).length<=1000;exact Q (DW g) d
 delta AO
 by_cases n:a_ NNq 2=1
 .exact Q (qm n)<|vD e (dt n)<|uL (uL (uL rfl rfl rfl (qp rfl<|qH rfl)<|BL rfl<|r d CI.2.2.2.1) rfl rfl (qp rfl<|qH rfl)<|BL rfl<|r (I4 CJ.1 b) CI.2.2.2.2.1) rfl rfl (qp rfl<|qH rfl)<|BL rfl<|r (I4 CJ.2.1<|Q (yU _ CJ.1) b) CI.2.2.2.2.2
 .exact Q (qn n)<|wB e (df n) rfl
end
abbrev Bs (U:Int)(y h:Option V):List O:=[.cell<|Y<|.lst<|nats rq,.cell<|Y<|.ref 4,.cell y,.cell h,.dict (ones qD)<|Em U 0 qD]
theorem TN:∀c∈qD,97<=c/\c<=122:=by decide
theorem OE:qD.Nodup:=by decide
theorem Jw (c):∀a:List<|Nat×List Nat,(∀b∈a,b.2.length<=2)->((a.lookup c).getD [c]).length<=2
 |[]=>@λJ=>(by decide:1<=2)
 |(h,f)::a=>@λd=>by
  refine Q (bM ..) ?_
  cases c==h with
  |true=>exact d _<|.head _
  |false=>exact Jw c a λb e=>d b<|.tail _ e
theorem Yu (c):(xu c).length<=2:=Jw c Zm (by decide +kernel)
theorem Xr (q_)(w:5<=q_)(NNq)(hpg:∀o∈a,o∈qD++vA)(hl:a.length<=1000)(p):(qz q_).top 183 [.str<|qA a,.qu rr,.int NNq] [] [] p=Y (.str<|qA a,p):=by
 obtain ⟨u,rfl⟩:∃u,q_=u+1:=⟨q_-1,(aH<|aa (by decide) w).symm⟩;have d:1<=u:=aa (by decide)<|aJ w
 refine rG (IP NNq hpg) λsp1 Zy=>?_
 have T:=P2 (NNq:=NNq) hpg hl;have g:=λy s v x q A I p=>Xf (orc:=qz u) (NNq:=NNq) hpg hl (x4:=y) (x5:=s) (x6:=v) (x7:=x) (x8:=q) (x9:=A) (x10:=I) (hp:=p)
 generalize AO NNq a=sp at *
 refine NT (E7 (orc:=qz u) (pg:=.str<|qA a) (NNq:=NNq) (x9:=N) (x10:=N) qD [] [] 0 N N N N N TN OE rfl (by decide)<|by decide) λL y5 z y7 y8 hlp=>?_
 have hgl:∀o∈sp,(gC NNq o).length<=2:=λo hc=>(OR NNq<|Zy o hc).2.1
 have G:(sp.flatMap<|gC NNq).length<=2000:=by
  have key:∀j:List Nat,(∀o∈j,(gC NNq o).length<=2)->(j.flatMap<|gC NNq).length<=2*j.length:=λj=>by
   induction j with
   |nil=>exact λW=>ag _
   |cons o j ih=>
    intro h;have i:=ih λU hx=>h U<|.tail _ hx
    have:=h o<|.head _
    exact Q (c_ ..)<|Q (aG ..)<|Q (aV ..)<|aa (bq this i)<|aK<|bz ..
  exact aa (key sp hgl)<|aU 2 T
 have hb3:∀U∈sp.flatMap (gC NNq),sS U=true->∀p,(qz u).top 120 [.str<|Vm.one U] [] [] p=Y (.str<|qA<|xu U,p):=λU hx n p=>qt (f_.mp hx) λo hc hx=>(OR NNq<|Zy o hc).2.2 U hx n u d p
 have ah5:((sp.flatMap<|gC NNq).filter sS).flatMap xu=a:=by
  refine J sp1 ?_;have key:∀j:List Nat,(∀o∈j,o∈qD++(vA++zf))->((j.flatMap<|gC NNq).filter sS).flatMap xu=j.flatMap uI:=λj=>by
   induction j with
   |nil=>exact λW=>rfl
   |cons o j ih=>
    intro h;refine Q (c_ ..)<|Q (iT ..)<|ax eF<|Q ((OR NNq<|h o<|.head _).1)<|Q (ih λU hx=>h U<|.tail _ hx)<|ax c_ rfl
  exact key sp Zy
 have H:(ev (qz u) 59).E Az (.mt .join (.k<|.qu "") [.comp (.mt .get (.cell 1) [.l 0,.l 0]) [.l 0] [.l 9] [[]] 1 0]) ⟨lF (.str<|qA a) NNq L y5 z y7 y8 (Y<|.str<|qA sp) N,Bs NNq N N⟩ =
   Y (.str<|qA<|sp.flatMap<|gC NNq,⟨lF (.str<|qA a) NNq L y5 z y7 y8 (Y<|.str<|qA sp) N,Bs NNq N N⟩):=
  Se (u5 (uu rfl rfl rfl) (λo W=>uL (qB rfl rfl) rfl rfl (qp rfl<|qH rfl)<|aet (abl NNq o) rfl)<|bJ T)<|DF sp (λW W=>rfl) hgl<|by lia
 generalize hT:sp.flatMap (gC NNq)=tl at *
 have c:(ev (qz u) 59).E Az (.comp (.call (.k<|.con<|.ref 74) [.l 0] [] []) [.l 0] [.cell 2] [[]] 1 0) ⟨lF (.str<|qA a) NNq L y5 z y7 y8 (Y<|.str<|qA sp) N,Bs NNq (Y<|.str<|qA tl) N⟩ =
   Y (.lst<|bL<|tl.map rq.contains,⟨lF (.str<|qA a) NNq L y5 z y7 y8 (Y<|.str<|qA sp) N,Bs NNq (Y<|.str<|qA tl) N⟩):=by
  have e:bL (tl.map rq.contains)=tl.map λo=>V.bool<|rq.contains o:=by delta bL;exact ax bk rfl
  exact Q e<|u5 (uu rfl (qB rfl rfl) rfl) (λo W=>call_top (qH rfl)<|Yv u d o _)<|by lia
 have e7:(ev (qz u) 59).E Az (.comp (.call (.k<|.con<|.ref 120) [.sub (.cell 2)<|.l 0] [] []) [.l 0] [.bf .range [.bf .len [.cell 2]]] [[.cmp (.sub (.cell 3)<|.l 0) [.Is] [.k<|.bool false]]] 1 0) ⟨lF (.str<|qA a) NNq L y5 z y7 y8 (Y<|.str<|qA sp) N,Bs NNq (Y<|.str<|qA tl)<|Y<|.lst<|bL<|tl.map rq.contains⟩ =
   Y (.lst<|((aq tl.length).filter λk=>sS<|tl.getD k 0).map λk=>.str<|qA<|xu<|tl.getD k 0,⟨lF (.str<|qA a) NNq L y5 z y7 y8 (Y<|.str<|qA sp) N,Bs NNq (Y<|.str<|qA tl)<|Y<|.lst<|bL<|tl.map rq.contains⟩):=by
  have gd:∀k,k<tl.length->tl[k]?=Y (tl.getD k 0):=λk hk=>by refine Q cq<|Q (aD hk) ?_;rfl
  refine xP (λk=>sS<|tl.getD k 0) (vE (ug (qH<|qB rfl rfl)<|TO<|by lia)<|by lia) (λk hk=>?_) (λk hk n=>?_) (by refine Q (aS ..) ?_;lia)
  .have hk:=bF.mp hk;refine qW (ro (qB rfl rfl) rfl<|vV (by delta bL;refine Q aZ<|Q aZ<|Q (gd k hk) ?_;rfl)<|by refine Q (by refine Q (Ft ..)<|Q (ao ..) rfl:(bL<|tl.map rq.contains).length=tl.length) ?_;lia) rfl ?_;delta sS
   cases rq.contains (tl.getD k 0)<;>rfl
  .skip
   exact call_top (qH<|ro (qB rfl rfl) rfl<|SD (gd k<|bF.mp hk)<|by lia)<|hb3 _ (bG<|gd k<|bF.mp hk) n _
 have hj:AW (((aq tl.length).filter λk=>sS<|tl.getD k 0).map λk=>.str<|qA<|xu<|tl.getD k 0)=Y (qA a):=by
  have:=DF (f:=λk=>V.str<|qA<|xu<|tl.getD k 0) ((aq tl.length).filter λk=>sS<|tl.getD k 0) (λW W=>rfl) (λk W=>Yu _) (by
   have:=cG (λk=>sS<|tl.getD k 0)<|aq tl.length
   rw[aS] at this
   exact aa (aU 2<|aa this G)<|by decide)
  refine Q this ?_;have e:(((aq tl.length).filter λk=>sS<|tl.getD k 0).flatMap λk=>xu<|tl.getD k 0)=a:=by refine J ah5<|J (I5 tl)<|Q (o1 ..) rfl
  refine Q e rfl
 generalize hK:((aq tl.length).filter λk=>sS<|tl.getD k 0).map (λk=>V.str<|qA<|xu<|tl.getD k 0)=kp at e7 hj
 have e8:(ev (qz u) 59).E Az (.rf (.cmp (.comp (.cmp (.l 0) [.Is] [.k<|.bool true]) [.l 0] [.cell 3] [[]] 1 0) [.Eq] [.comp (.cmp (.bf .ord [.l 0]) [.In] [.cell 0]) [.l 0] [.cell 2] [[]] 1 0]) (.mt .join (.k<|.qu "") [.l 10])<|.k<|.qu "") ⟨lF (.str<|qA a) NNq L y5 z y7 y8 (Y<|.str<|qA sp)<|Y<|.lst kp,Bs NNq (Y<|.str<|qA tl)<|Y<|.lst<|bL<|tl.map rq.contains⟩ =
   Y (.str<|qA a,⟨lF (.str<|qA a) NNq L y5 z y7 y8 (Y<|.str<|qA sp)<|Y<|.lst kp,Bs NNq (Y<|.str<|qA tl)<|Y<|.lst<|bL<|tl.map rq.contains⟩):=by
  exact vD (qW (u5 ((tP rfl<|qB rfl rfl).trans rfl) (λb W=>by cases b<;>rfl)<|by refine Q (ao ..) ?_;lia) (Q (by delta bL;exact ax bk rfl:bL (tl.map rq.contains)=tl.map λo=>V.bool<|rq.contains o)<|u5 (uu rfl (qB rfl rfl) rfl) (λo W=>qW (ug (qH rfl) rfl) (qB rfl rfl)<|DJ o rq)<|by lia:(ev (qz u) 57).E Az (.comp (.cmp (.bf .ord [.l 0]) [.In] [.cell 0]) [.l 0] [.cell 2] [[]] 1 0) ⟨lF (.str<|qA a) NNq L y5 z y7 y8 (Y<|.str<|qA sp)<|Y<|.lst kp,Bs NNq (Y<|.str<|qA tl)<|Y<|.lst<|bL<|tl.map rq.contains⟩=Y (.lst<|bL<|tl.map rq.contains,⟨lF (.str<|qA a) NNq L y5 z y7 y8 (Y<|.str<|qA sp)<|Y<|.lst kp,Bs NNq (Y<|.str<|qA tl)<|Y<|.lst<|bL<|tl.map rq.contains⟩))<|Ke (hp:=[]) _<|by refine Q (ao ..) ?_;lia) rfl<|Se rfl hj
 exact rE u (t:=t23) rfl rfl rfl rfl rfl (ax ub<|qI (by kernel_rfl)<|qI (by kernel_rfl:(ev (qz u) 60).S Az Vq ⟨[Y<|.str<|qA a,Y<|.qu rr,Y<|.int NNq,N,N,N,N,N,N,N,N],[.cell<|Y<|.lst<|nats rq,.cell N,.cell N,.cell N]⟩=Y (.next,⟨lF (.str<|qA a) NNq N N N N N N N,[.cell<|Y<|.lst<|nats rq,.cell N,.cell N,.cell N]⟩))<|qI rfl<|qI (v8 (qo (λj:List Nat=>Y ((j.map λo=>V.str<|Vm.one o).zipIdx.map λU:V×Nat=>V.tup [.int (U.2:Nat),U.1],N,(⟨lF (.str<|qA a) NNq N N N N N N N,vz<|.dict (ones []) []⟩:St))) A3) hlp)<|qI (qU (g L y5 z y7 y8 N N<|Bs NNq N N) rfl)<|qI (qU H rfl)<|qI (qU c rfl)<|qI (qU e7 rfl)<|tu<|sy e8:we (qz u) Az Y_ ⟨[Y<|.str<|qA a,Y<|.qu rr,Y<|.int NNq,N,N,N,N,N,N,N,N],[.cell N,.cell N,.cell N,.cell N]⟩=Y (.str<|qA a,Bs NNq (Y<|.str<|qA tl)<|Y<|.lst<|bL<|tl.map rq.contains)) rfl
noncomputable def OQ:List Nat->List Int->List Nat->List (List Int)
 |[]=>@λa J=>[a]
 |k::f=>@λa p=>if p=[] then OQ f (a++[-1]) [k] else (aq p.length).flatMap λr=>OQ f (a++[tI<|p.take<|r+1])<|p.take (r+1)++[k]
theorem D6 (q):∀(a:List Nat)(f:List Int)(j:List Nat),zr q a f j∈OQ a f j
 |[]=>@λf j=>.head _
 |k::a=>@λf j=>by
  show zr q a (f++[tI<|vw q k j]) (vw q k j++[k])∈if j=[] then _ else _
  by_cases e:j=[]
  .exact Q e<|Q (qm rfl)<|Q (show vw q k []=[] from pY)<|D6 q a _ _
  .refine Q (qn e) ?_;exact rN (dQ<|eI (bg q ((12^k:Nat):Int))<|bo.mpr<|iA.mpr e) λh n=>Q (by delta vw;exact Q n<|Q (bz ..) rfl:vw q k j=j.take (h+1))<|f_.mpr<|qr h (bF.mpr<|Nz (i6 (bg q ((12^k:Nat):Int))<|bo.mpr<|iA.mpr e) n)<|D6 q a _ _
noncomputable def vn (a:List Int)(c:Nat):Int:=a.getD c 0
noncomputable def sA (a:List Int)(c:Nat):Nat:=(a.getD c 0+1).toNat
def UR (c:Nat)(a:List Int)(h:Nat):Bool:=decide ((wc (sA a) c h).length<=30)&&(((wc (sA a) c h).any λb=>!b.1)&&(match xj (wc (sA a) c h) 0 [] [] [] with
 |Y (t,f,j,u)=>decide (t=c)&&(decide (f=a)&&(decide (u=if h=0 then [] else [0])&&(aq c).all λT=>decide (T=0)||decide (T∈j)))|N=>false))
def aij (c:Nat)(a:List Int):Bool:=decide (a.length=c)&&(decide (a.getD 0 0=-1)&&(((aq c).all λh=>decide (h=0)||(decide (0<=a.getD h 0)&&decide (a.getD h 0<h))) &&
 (full (rt (sA a) c) 9 (rt (sA a) c 1)&&(((Aw (rt (sA a) c) 9<|rt (sA a) c 1).all λb=>decide<|2<=b.2)&&(UR c a 0&&UR c a 1)))))
theorem shapes:∀c,c<6->2<=c->(OQ (aq c) [] []).all (aij c)=true:=by decide +kernel
structure Hh (n:Nat) (a:List Int):Prop where
 len:a.length=n
 a0:vn a 0=-1
 ak:∀k,0<k->k<n->0<=vn a k/\vn a k<k
 ful:full (rt (sA a) n) 9 (rt (sA a) n 1)=true
 ev2:∀e∈Aw (rt (sA a) n) 9 (rt (sA a) n 1),2<=e.2
 evs:∀c,(wc (sA a) n c).length<=30/\(∃e∈wc (sA a) n c,e.1=false)/\∃cls,xj (wc (sA a) n c) 0 [] [] []=some (n,a,cls,if c=0 then [] else [0])/\∀i,0<i->i<n->i∈cls
theorem Mx (e:UR n a c=true):(wc (sA a) n c).length<=30/\(∃b∈wc (sA a) n c,b.1=false)/\∃f,xj (wc (sA a) n c) 0 [] [] []=Y (n,a,f,if c=0 then [] else [0])/\∀t,0<t->t<n->t∈f:=by
 have i:=aR<|aR e
 refine rj (of_decide_eq_true<|aL e) ?_ ?_
 .exact qt (hU.mp<|aL<|aR e) λb d q=>qr b d<|by cases z:b.1 with|true=>rw[z] at q;exact fT q|false=>rfl
 .cases H:xj (wc (sA a) n c) 0 [] [] [] with
  |none=>rw[H] at i;exact fT i
  |some r=>
   obtain ⟨T,j,f,u⟩:=r;revert i;refine Q H ?_;intro i;refine qr f (by refine Q (of_decide_eq_true<|aL i)<|Q (of_decide_eq_true<|aL<|aR i)<|Q (of_decide_eq_true<|aL<|aR<|aR i) rfl) λt G U=>?_
   rcases om.mp (dz.mp (aR<|aR<|aR i) t<|bF.mpr U) with q|q
   .exact absurd (of_decide_eq_true q)<|bw G
   .exact of_decide_eq_true q
theorem BI (w:2<=n)(i:n<=5)(s):Hh n<|zr s (aq n) [] []:=by
 have e:=dz.mp (shapes n (fX i) w) _<|D6 s (aq n) [] []
 generalize zr s (aq n) [] []=U at e ⊢
 refine ⟨of_decide_eq_true<|aL e,of_decide_eq_true<|aL<|aR e,λh G T=>?_,aL<|aR<|aR<|aR e,λb a=>of_decide_eq_true<|dz.mp (aL<|aR<|aR<|aR<|aR e) b a,λt=>?_⟩
 .skip
  rcases om.mp (dz.mp (aL<|aR<|aR e) h<|bF.mpr T) with q|q
  .exact absurd (of_decide_eq_true q)<|bw G
  .exact ⟨of_decide_eq_true<|aL q,of_decide_eq_true<|aR q⟩
 .by_cases q:t=0
  .exact Q q<|Mx<|aL<|aR<|aR<|aR<|aR<|aR e
  .skip
   exact Q (by delta wc;refine Q (qn q)<|Q (qn<|by decide) rfl:wc (sA U) n t=wc (sA U) n 1)<|Q (qn q)<|Mx<|aR<|aR<|aR<|aR<|aR<|aR e
end L1
end
noncomputable section
namespace L1
open Vm
open Mp (LS lst yp co cn u4 xw)
section
variable {d b i:Nat->Int}(o:Mp.Hk b n) (j:∀k,k<n->i k≠0->∃p:Nat,b k=(p:Int))
include o j
theorem QI:∀(m:Nat)(a:LS),m<=n->yp d b i n m a->yp d b i n 0 (lr b i m a)
 |0=>@λa J h=>h
 |m+1=>@λa w h=>QI m _ (b6 w)<|Mp.GR o j w h
theorem QH:∀(m:Nat)(a:LS),m+1<=n->yp d b i n (m+1) a->yp d b i n 1 (lt b i m a)
 |0=>@λa J h=>h
 |m+1=>@λa w h=>QH m _ (b6 w)<|Mp.GR o j w h
end
def F9 (e T U:Nat->Int)(c:Nat)(q:Int):Nat->LS
 |0=>lr T U c<|s0 e q
 |_=>lt T U (c-1)<|s0 e q
theorem abL {f I L:Nat->Int}{g:Nat}(H:xw g f I L)(G:0<g)(o:h<=1):∃t:Nat,D1 (F9 f I L g x h)=[((Mp.chg<|Mp.uy<|co f I L g h x:Nat):Int),((Mp.chg<|Mp.uy<|cn f I L g h x:Nat):Int),((t:Nat):Int)]/\t<=g-h/\((co f I L g h x).map λc=>decide<|c=0).idxOf false=t:=by
 have q:yp (λT=>f T-x) I L g h<|F9 f I L g x h:=by
  rcases kC.mp o with rfl|rfl
  .exact QI H.fth H.hti g _ (ag _)<|Mp.ES rfl rfl rfl rfl rfl rfl
  .exact QH H.fth H.hti (g-1) _ (aK<|aH G)<|Q (aH G)<|Mp.ES rfl rfl rfl rfl rfl rfl
 refine qN q.cnt λe s U=>qt U λt y u=>?_
 obtain ⟨v,z⟩:=Mp.XJ y;refine ry t (Q (Mp.abP ..)<|Q (Mp.abQ ..) ?_) v z;show [_,_,_]=_;refine Q e<|Q s<|Q u rfl
theorem Mo (c):∀a:List Nat,(∀d∈a,d<2^c)->sb c (valN c a) a.length=a
 |[]=>@λJ=>rfl
 |d::a=>@λe=>by
  have G:=e d<|iS ..
  refine (Q (show valN c (d::a)=d+2^c*valN c a from rfl)<|Q (mm ..)<|Q (px G)<|Q (n7 _ _<|bx c)<|Q (jw G)<|Q (bW ..)<|Q (Mo c a λt f=>e t<|List.mem_cons_of_mem _ f) rfl:(valN c (d::a)%2^c)::sb c (valN c (d::a)/2^c) a.length=_)
theorem adT {h:Nat}(G:0<h)(w:2^(h*L)<=c)(T:c<2^(h*(L+1))):nd c h=L+1:=by
 have q:au (c:Int)<=h*(L+1):=bits_le.mpr T;have H:¬au (c:Int)<=h*L:=λe=>b9 _<|ai (bits_le.mp e) w
 apply Nat.div_eq_of_lt_le
 .refine Q (bS ..)<|n0<|(cD ..)▸a8 (gI.mp H) h
 .skip
  refine Q (by refine Q (bS ..)<|Q (dS ..)<|Q (dS ..) rfl:(L+1+1)*h=h*L+h+h)<|ai (hZ (oW _ G) lq)<|a8 q h
theorem val_last (c):∀(a:List Nat)(d:Nat),0<d->2^(c*a.length)<=valN c (a++[d]):=λa d G=>by rw[Cs];show _<=_+2^(c*a.length)*(d+2^c*0);refine Q (Nat.mul_zero ..) ?_;rw[gZ];exact MX (aU _ G)
theorem XY (c h)(l)(t)(f)(w:18<=c)(G:0<h)(q:h<=16000)(g:∀T∈l++[t],T<2^h)(U:0<t)(s:h*(l.length+1)<=30000) :
  (qz c).top 35 [.int (valN h<|l++[t]:Nat),.int h] [] [] f=Y (.lst<|nats<|l++[t],f):=by
 have u:=PA h (l++[t]) g;have e:(l++[t]).length=l.length+1:=ax aG rfl;replace u:=e▸u;have:=i2d c (valN h<|l++[t]) h f w G q<|aa (bits_le.mpr u) s
 rw[adT G (val_last h l t U) u,<-e,Mo h _ g] at this
 exact this
theorem aaP {f b z:Nat->Int}{n h:Nat}{q:Int}(H:xw n f b z) (t:Nat) (w:18<=t) (I:0<h) (s:h<=4500) (u:∀k,k<n->Mp.AV f b z n k<=q) (T:(49+(q.natAbs:Int))^5<2^h) (a:List O) :
  (qz t).top 35 [.int<|u4 f b z n 0<|2^h+q,.int h] [] [] a=Y (.lst<|iL<|co f b z n 0 q,a):=by
 have L:=Mp.aeN H u;have v:=Mp.H4 H 0 q;have hlen:=Mp.B9 (own:=f) (ab:=b) (ti:=z) (n:=n) 0 q;have x:=Mp.Mv (own:=f) (ab:=b) (ti:=z) (n:=n) 0 q;refine Q (Mp.Cq H 0 _ q)<|Q (show (2:Int)^h+q-q=2^h by exact i8 _ _) ?_
 generalize co f b z n 0 q=cl at *
 obtain ⟨y,rfl⟩:∃y:List Nat,cl=y.map λ(d:Nat)=>(d:Int):=by
  clear hlen x v
  induction cl with
  |nil=>exact ⟨[],rfl⟩|cons c l G=>
   obtain ⟨y,rfl⟩:=G λU A=>L U<|.tail _ A
   obtain ⟨k,hk⟩:=dQ (L c<|.head _);exact ⟨k::y,Q hk rfl⟩
 refine Q (FZ ..)<|J (FQ ..) ?_
 rw[ao] at hlen
 replace x:=aZ▸x;have zP:y≠[]:=by rintro rfl;exact lB hlen
 have hd:y=y.dropLast++[1]:=by
  have e:=ly zP;have g:y.getLast zP=1:=by
   have:y[y.length-1]?=Y (y.getLast zP):=by refine J gj<|Q (kZ zP) rfl
   rw[show y.length-1=n-0 by exact Q hlen rfl] at this
   rw[this] at x
   have:=ae x;exact cW this
  rw[g] at e
  exact e.symm
 have uO:∀U∈y.dropLast++[1],U<2^h:=λU A=>by
  rw[<- hd] at A
  have e1:((2:Int)^h)=((2^h:Nat):Int):=(fc 2 h).symm;rw[e1] at T
  exact bo.mp<|b7 (v (U:Int)<|bZ.mpr<|qr U A rfl) T
 have:=XY t h y.dropLast 1 a w I (bJ s) uO (ag _) (by
  refine Q (Q (nQ ..)<|Q hlen rfl:y.dropLast.length+1=n+1) ?_;have:=dG s<|show n+1<=6 by exact fX H.n5
  exact bJ this)
 replace this:=hd.symm▸this;exact this
end L1
end
noncomputable section
namespace L1
open Vm
open Mp (co cn u4 xw)
theorem OY (a:List Int)(y:a.length<=65536):∀n,rV (n+2) (.lst<|iL a) (.lst<|iL a)=Y true:=λn=>by
 have e:∀a:List Int,zR (rV<|n+1) (iL a) (iL a)=Y true:=λa=>by
  induction a with
  |nil=>rfl|cons q a f=>
   exact (congr (qo Cj<|qo Y<|decide_eq_true rfl) f:Cj (rV (n+1) (.int q)<|.int q) (zR (rV<|n+1) (iL a)<|iL a)=_)
 exact (qm rfl).trans<|e a
theorem aah (f:List Int)(y:f.length<=65536):tX hp .NotEq (.lst<|iL f) (.lst<|iL f)=Y false:=by show (rV 8 (.lst<|iL f)<|.lst<|iL f).map not=_;exact Q (OY f y 6) rfl
theorem ne_str (p):tX hp .NotEq (.str p) (.str p)=Y false:=qo (λU=>Y<|!U)<|decide_eq_true (rfl:p=p)
abbrev tw (y h:Option V)(b e i:Nat->Int)(c:Nat)(U:List O):List O:=.cell y::.cell h::.cell (Y<|.int c)::.cell (Y<|.lst<|rh b c)::.cell (Y<|.lst<|rh e c)::.cell (Y<|.lst<|rh i c)::U
noncomputable abbrev ta:List Nat:=[0,1,2,3,4,5]
def B_ (b e h:Nat->Int)(c:Nat)(q:Int):V:=.tup [.lst<|iL<|D1<|F9 b e h c q 0,.lst<|iL<|D1<|F9 b e h c q 1]
noncomputable abbrev w6 (y h:Option V)(q:Int)(e U s:Option V)(c:Nat)(A:Option V)(a I i b f:Option V):List<|Option V:=[y,h,Y<|.int q,e,U,s,Y<|.int c,Y<|.int<|2^c,A,a,I,i,b,f]
def aii:X:=.or [.cmp (.sub (.l 11)<|.un .USub<|.i 1) [.NotEq] [.i 1],.cmp (.bin .Pow (.sub (.l 12)<|.un .USub<|.i 1)<|.i 2) [.NotEq] [.i 1],.cmp (.list [.call (.k<|.con<|.ref 228) [.l 11] [] [],.call (.k<|.con<|.ref 228) [.l 12] [] [],.mt .index (.comp (.cmp (.l 0) [.Eq] [.i 0]) [.l 0] [.l 11] [[]] 1 0) [.k<|.bool false]]) [.NotEq] [.sub (.l 8)<|.l 9]]
def abW:List XS:=[.asg (.l 10)<|.call (.k<|.con<|.ref 216) [.cell 3,.cell 4,.cell 5,.l 9,.l 7] [] [],.asg (.tup [.l 11,.l 12])<|.tup [.call (.k<|.con<|.ref 223) [.l 10,.bin .Sub (.l 7)<|.l 2,.bin .Sub (.bin .Add (.cell 2)<|.i 1)<|.l 9] [] [],.call (.k<|.con<|.ref 223) [.l 10,.bin .Sub (.l 2)<|.l 7,.bin .Sub (.bin .Add (.cell 2)<|.i 1)<|.l 9] [] []],.rf aii [.ret<|.k<|.bool false] [],.rf (.cmp (.call (.k<|.con<|.ref 42) [.l 11,.l 6] [] []) [.NotEq] [.call (.k<|.con<|.ref 216) [.cell 3,.cell 4,.cell 5,.l 9,.bin .Add (.l 7)<|.l 2] [] []]) [.ret<|.k<|.bool false] []]
structure R9 (x:Int) (w:Nat):Prop where
 xs:x.natAbs<2^50
 ws:w<=4400
 wp:32<=w
 Wi:2*(49+(x.natAbs:Int))^5<(((2:Int)^w-x).natAbs:Int)
 fr2:2*(49+(x.natAbs:Int))^5<(2:Int)^w
section
variable (S:R9 x w)
include S
theorem ED:((2:Int)^w).natAbs=2^w:=Q (p8 ..) rfl
theorem VD {h:Nat}(y:w+1<=h):2^w+2^51<=2^(h+51):=by
 refine Q (cJ ..) ?_;have i:2^w<=2^h:=aX (by decide)<|b6 y
 have b:2<=2^h:=by have:=aX (show 0<2 by decide) (show 1<=h by exact gh y);rwa [nY] at this
 exact aa (a8 i _)<|Nat.add_le_mul b<|by decide
end
section
variable (g:25<=m) (T:xw n ow ab ti) (d:2<=n) (S:R9 x w)
include g T d S
theorem near {t:Int}(b:t.natAbs<=2^w+2^51):∀U,U<n->(t-ow U).natAbs<2^4500:=λU G=>by
 have a:2^(4440+51)*2<=2^4500:=J (iJ ..)<|aX (by decide)<|by decide
 rw[jU] at a
 exact ai (av (aa (dW t<|ow U)<|bq (aa b<|VD S<|aa (cb S.ws)<|by decide)<|bB.mp<|T.o3 U G)<|cN (aX (by decide) (by decide):2^2<=2^(4440+51)) _) a
theorem Ri:((2:Int)^w-x).natAbs<2^4491/\((x:Int)-2^w).natAbs<2^4491/\((2:Int)^w-x)≠0:=by
 have t:=Mp.abr (2^w) x;rw[fc] at t
 refine uQ t λJ J b U=>?_
 have G:2^w+x.natAbs<2^4491:=ai (cN (ai S.xs<|aX (by decide)<|by decide) _)<|VD S<|aa (cb S.ws)<|by decide
 refine ⟨av b G,av U G,λe=>?_⟩;have a:=S.Wi;rw[e] at a
 exact absurd a<|bP.mpr<|g6 (by decide)<|p7<|g7 (by decide)<|aC _
theorem Zc:(u4 ow ab ti n U<|2^w).natAbs<2^27000:=by
 refine qN (Ri g T d S) λG J J=>Q (Mp.Cq T U _ x) ?_
 have a:=Mp.BW G (co ow ab ti n U x) λc e=>by
  have b:=Mp.H4 T U x c e;have k:=S.Wi;generalize (49+(x.natAbs:Int))^5=C at *
  generalize 2^4491=A at *
  exact eH (bo.mp<|b7 (aB b<|aB (i5<|aB (aC _) b)<|bT (n9 C).symm) k) G
 exact ai a<|aX (by decide)<|Q (Mp.B9 ..)<|aa (dG (ag<|4491+1)<|cb<|aa (c8 n U) T.n5)<|by decide
theorem G5 (a):(qz m).top 223 [.int<|u4 ow ab ti n f<|2^w,.int<|2^w-x,.int (n-f+1:Nat)] [] [] a=Y (.lst<|iL<|co ow ab ti n f x,a)/\(qz m).top 223 [.int<|u4 ow ab ti n f<|2^w,.int<|x-2^w,.int (n-f+1:Nat)] [] [] a=Y (.lst<|iL<|cn ow ab ti n f x,a):=by
 refine qN (Ri g T d S) λG U c=>?_
 have o:∀{b:Int},b.natAbs<2^4491->b.natAbs<2^16000:=λk=>ai k<|aX (by decide)<|by decide
 have s:(u4 ow ab ti n f<|2^w).natAbs+(n-f+1)<2^30000:=ai (lZ (Zc g T d S)<|aa (cb<|aa (c8 n f) T.n5) (aa (by decide:6<=2^3)<|aX (by decide)<|by decide:6<=2^27000))<|aa (J (jU ..)<|aU _<|by decide) (Q (show (8:Nat)=2^3 from rfl)<|J (cJ ..)<|aX (by decide)<|by decide:2^27000*8<=2^30000)
 have i:=Fg (ag<|2^30000) m (u4 ow ab ti n f<|2^w) (2^w-x) (n-f+1) a (by lia) c (o G) s (by have:=T.n5;lia);have p:=Fg (ag<|2^30000) m (u4 ow ab ti n f<|2^w) (x-2^w) (n-f+1) a (by lia) (by lia) (o U) s (by have:=T.n5;lia);rw[Mp.abp T f S.Wi,qm rfl] at i
 rw[Mp.abq T f S.Wi,qm rfl] at p
 exact ⟨i,p⟩
end
theorem Yh {b d i:Nat->Int}{c:Nat}{q:Int}{h:Nat}(y:h<=1) (a:List O):si a (B_ b d i c q) (.int h)=Y (.lst<|iL<|D1<|F9 b d i c q h):=by rcases kC.mp y with rfl|rfl<;>rfl
theorem aaf (c:Nat):(-1:Int)=(c:Int)-((c+1:Nat):Int):=Q (k9 ..)<|J (n_ ..)<|Q (nx ..) rfl
theorem KD:∀a:List Bool,boolsOf (bL a)=Y a
 |[]=>rfl|b::a=>(Q (KD a) rfl:(boolsOf<|bL a).map (b::·)=_)
theorem aeb {f:List Bool}(h:f.idxOf false=z)(G:z<f.length)(y:f.length<=65536):za hp .Ao (.lst<|bL f) [.bool false]=Y (.int z,hp):=(Q (qm<|decide_eq_true<|Q (Ft ..) y)<|Q (KD ..)<|Q (d8 ..)<|Q (qm<|dF.mpr<|List.idxOf_lt_length_iff.mp<|Q h G)<|Q h rfl:((if q6 (bL f).length=true then (boolsOf<|bL f).bind λj=>if j.contains false=true then Y (V.int (j.idxOf false:Nat)) else N else N).map λx=>(x,hp))=_)
section
variable (e:25<=m) (T:xw n ow ab ti) (g:2<=n) (S:R9 x w)
include e T g S
theorem Fe {f:Nat}(hf:f<=1) (y a1 s u q A ah I i v G:Option V) (sO:List O):∃J',rR (ev (qz m) 59) ta abW ⟨w6 y a1 x s u q w (Y<|B_ ow ab ti n x) (Y<|.int f) A ah I i,tw v G ow ab ti n sO⟩ =
  Y (.next,⟨w6 y a1 x s u q w (Y<|B_ ow ab ti n x) (Y<|.int f) (Y<|.int<|u4 ow ab ti n f<|2^w) (Y<|.lst<|iL<|co ow ab ti n f x) (Y<|.lst<|iL<|cn ow ab ti n f x) i,tw v G ow ab ti n<|sO++J'⟩):=by
 have L:n-f+1<=6:=cb<|aa (c8 n f) T.n5
 have w1:=AK m (tw v G ow ab ti n sO) (aa (by decide) e) T hf<|near e T g S<|Q (ED S)<|aM _ _
 have w2:∀j,(qz m).top 216 [.lst<|rh ow n,.lst<|rh ab n,.lst<|rh ti n,.int f,.int<|2^w+x] [] [] j=Y (.int<|u4 ow ab ti n f<|2^w+x,j):=λj=>AK m j (aa (by decide) e) T hf (near e T g S (by
  have:=dX (2^w) x;rw[ED S] at this
  generalize 2^w=W at *
  exact MY S.xs this))
 refine rG (G5 e T g S (f:=f)<|tw v G ow ab ti n sO) λg1 g2=>?_
 have z:=Mp.B9 (own:=ow) (ab:=ab) (ti:=ti) (n:=n) f x;have H:=Mp.RE (own:=ow) (ab:=ab) (ti:=ti) (n:=n) f x;have hla:=Mp.Mv (own:=ow) (ab:=ab) (ti:=ti) (n:=n) f x;refine qt (Mp.Yi (own:=ow) (ab:=ab) (ti:=ti) (n:=n) f x) λcc k Q3=>rU (abL (x:=x) T (ai (by decide) g) hf) λt hz1 U hz3=>?_
 have c6:=aa (aK z) L;have c1:=Fs m (co ow ab ti n f x) (tw v G ow ab ti n sO) (aa (by decide) e)<|aa c6<|by decide
 have c2:=Fs m (cn ow ab ti n f x) (tw v G ow ab ti n sO) (aa (by decide) e)<|aa (aa (aK H) L)<|by decide
 have V6:∀d∈co ow ab ti n f x,d.natAbs<2^w:=λd hd=>by
  have a:=(Mp.H4 T f x) d hd;have b:=S.fr2;have e1:((2:Int)^w)=((2^w:Nat):Int):=(fc 2 w).symm;rw[e1] at b
  generalize 2^w=W at *
  generalize (49+(x.natAbs:Int))^5=C at *
  exact M8 a b
 obtain ⟨J',d1⟩:=d2i m w (tw v G ow ab ti n sO) (.lst<|iL<|co ow ab ti n f x) (co ow ab ti n f x) (aa (by decide) e) (ai (by decide) S.wp) rfl rfl V6 (aa (dG S.ws c6)<|by decide);rw[<- (by refine Q (Mp.Cq T f _ x)<|Q (i8 ..) rfl:u4 ow ab ti n f (2^w+x)=Mp.tJ (2^w) (co ow ab ti n f x))] at d1
 have OL:∀j,si j (B_ ow ab ti n x) (.int f)=Y (.lst<|iL<|D1<|F9 ow ab ti n x f):=λj=>Yh hf j
 generalize hWh:u4 ow ab ti n f (2^w)=WH at *
 generalize u4 ow ab ti n f (2^w+x)=WX at *
 generalize co ow ab ti n f x=Di at *
 generalize cn ow ab ti n f x=KH at *
 generalize B_ ow ab ti n x=CT at *
 refine ⟨J',?_⟩;have s1:(ev (qz m) 59).S ta (.asg (.l 10)<|.call (.k<|.con<|.ref 216) [.cell 3,.cell 4,.cell 5,.l 9,.l 7] [] []) ⟨w6 y a1 x s u q w (Y CT) (Y<|.int f) A ah I i,tw v G ow ab ti n sO⟩ =
   Y (.next,⟨w6 y a1 x s u q w (Y CT) (Y<|.int f) (Y<|.int WH) ah I i,tw v G ow ab ti n sO⟩):=
  qU (call_top (qp (qB rfl rfl)<|qp (qB rfl rfl)<|qp (qB rfl rfl)<|qp rfl<|qH rfl) w1) rfl
 have hN:(ev (qz m) 56).E ta (.bin .Sub (.bin .Add (.cell 2)<|.i 1)<|.l 9) ⟨w6 y a1 x s u q w (Y CT) (Y<|.int f) (Y<|.int WH) ah I i,tw v G ow ab ti n sO⟩=Y (.int (n-f+1:Nat),⟨w6 y a1 x s u q w (Y CT) (Y<|.int f) (Y<|.int WH) ah I i,tw v G ow ab ti n sO⟩):=qy (qy (qB rfl rfl) rfl<|rW n 1) rfl<|(uj _ f).trans<|vi ((ft<|aa hf<|fJ n).symm.trans<|qo m4<|Nat.succ_sub<|aa hf<|b6 g:(n:Int)+1-f=((n-f+1:Nat):Int))
 have s2:(ev (qz m) 59).S ta (.asg (.tup [.l 11,.l 12])<|.tup [.call (.k<|.con<|.ref 223) [.l 10,.bin .Sub (.l 7)<|.l 2,.bin .Sub (.bin .Add (.cell 2)<|.i 1)<|.l 9] [] [],.call (.k<|.con<|.ref 223) [.l 10,.bin .Sub (.l 2)<|.l 7,.bin .Sub (.bin .Add (.cell 2)<|.i 1)<|.l 9] [] []]) ⟨w6 y a1 x s u q w (Y CT) (Y<|.int f) (Y<|.int WH) ah I i,tw v G ow ab ti n sO⟩ =
   Y (.next,⟨w6 y a1 x s u q w (Y CT) (Y<|.int f) (Y<|.int WH) (Y<|.lst<|iL Di) (Y<|.lst<|iL KH) i,tw v G ow ab ti n sO⟩):=
  qU (sY<|qp (call_top (qp rfl<|qp (qy rfl rfl<|uj _ _)<|qH hN) g1)<|qH<|call_top (qp rfl<|qp (qy rfl rfl<|uj _ _)<|qH hN) g2) rfl
 have hcb:cc.natAbs<2^2:=by
  have o:=iZ cc cc;rw[(by refine J Q3<|Q (ej ..)<|Q (ej ..)<|Q (gm ..)<|Q (dO ..) rfl:cc*cc=1)] at o
  have:=Nat.eq_one_of_mul_eq_one_left o.symm;exact av (aK this)<|by decide
 have p:(ev (qz m) 57).E ta (.cmp (.bin .Pow (.sub (.l 12)<|.un .USub<|.i 1)<|.i 2) [.NotEq] [.i 1]) ⟨w6 y a1 x s u q w (Y CT) (Y<|.int f) (Y<|.int WH) (Y<|.lst<|iL Di) (Y<|.lst<|iL KH) i,tw v G ow ab ti n sO⟩=Y (.bool false,⟨w6 y a1 x s u q w (Y CT) (Y<|.int f) (Y<|.int WH) (Y<|.lst<|iL Di) (Y<|.lst<|iL KH) i,tw v G ow ab ti n sO⟩):=by have hb:au cc<=2:=sP hcb;refine qW (qy (ro rfl (xW rfl)<|(λj=>uT rfl (.inr<|Q (r9 ..)<|Q H<|aaf _) (by delta iL;refine Q aZ<|Q k ?_;rfl)<|by refine Q (r9 ..) ?_;lia) _) rfl<|(H9 cc 2<|by lia).trans<|vi Q3) rfl rfl
 have k3:(ev (qz m) 57).E ta (.cmp (.list [.call (.k<|.con<|.ref 228) [.l 11] [] [],.call (.k<|.con<|.ref 228) [.l 12] [] [],.mt .index (.comp (.cmp (.l 0) [.Eq] [.i 0]) [.l 0] [.l 11] [[]] 1 0) [.k<|.bool false]]) [.NotEq] [.sub (.l 8)<|.l 9]) ⟨w6 y a1 x s u q w (Y CT) (Y<|.int f) (Y<|.int WH) (Y<|.lst<|iL Di) (Y<|.lst<|iL KH) i,tw v G ow ab ti n sO⟩=Y (.bool false,⟨w6 y a1 x s u q w (Y CT) (Y<|.int f) (Y<|.int WH) (Y<|.lst<|iL Di) (Y<|.lst<|iL KH) i,tw v G ow ab ti n sO⟩):=by exact qW (yC<|qp (call_top (qH rfl) c1)<|qp (call_top (qH rfl) c2)<|qH<|uL (Q (by delta bL;exact ax bk rfl:bL (Di.map λc=>decide<|c=0)=Di.map λc=>V.bool<|decide<|c=0)<|u5 ((tP rfl rfl).trans rfl) (λc P=>qW rfl rfl<|Ad _ _)<|aa c6<|by decide:(ev (qz m) 54).E ta (.comp (.cmp (.l 0) [.Eq] [.i 0]) [.l 0] [.l 11] [[]] 1 0) ⟨w6 y a1 x s u q w (Y CT) (Y<|.int f) (Y<|.int WH) (Y<|.lst<|iL Di) (Y<|.lst<|iL KH) i,tw v G ow ab ti n sO⟩=Y (.lst<|bL<|Di.map λc=>decide<|c=0,⟨w6 y a1 x s u q w (Y CT) (Y<|.int f) (Y<|.int WH) (Y<|.lst<|iL Di) (Y<|.lst<|iL KH) i,tw v G ow ab ti n sO⟩)) rfl rfl (qH rfl)<|aeb hz3 (Q (ao ..)<|Q z<|da U)<|Q (ao ..)<|aa c6<|by decide) (ro rfl rfl<|OL _)<|Q hz1<|aah [_,_,_]<|by show 3<=65536;decide
 exact rg s1<|rg s2<|rg (zZ<|WV (qW (ro rfl (xW rfl)<|(λj=>uT rfl (.inr<|Q (r9 ..)<|Q z<|aaf _) (by delta iL;refine Q aZ<|Q hla ?_;rfl)<|by refine Q (r9 ..) ?_;lia) _) rfl rfl) p k3)<|rM (zZ<|qW (call_top (qp rfl<|qH rfl) d1) (call_top (qp (qB rfl rfl)<|qp (qB rfl rfl)<|qp (qB rfl rfl)<|qp rfl<|qH<|qy rfl rfl<|rW _ _)<|w2 _)<|(UX WX WX).trans<|qo Y<|decide_eq_false λh=>h rfl)
end
end L1
end
noncomputable section
namespace L1
open Vm
open Mp (co cn u4 xw AV)
theorem FP:∀a:List Int,intsOf (iL a)=Y a
 |[]=>rfl|x::a=>(Q (FP a) rfl:(intsOf<|iL a).map (x::·)=_)
theorem Vy (f):yg hp .sum [.lst<|iL f]=Y (.int f.sum):=by show (intsOf<|iL f).map (λf=>V.int f.sum)=_;exact Q (FP ..) rfl
theorem Jp:∀(l:List Int)(q:Int),q<=l.foldl (λa d=>if a<d then d else a) q/\(∀G∈l,G<=l.foldl (λa d=>if a<d then d else a) q)/\(l.foldl (λa d=>if a<d then d else a) q=q\/l.foldl (λa d=>if a<d then d else a) q∈l)
 |[]=>@λq=>⟨c7 _,(λG b=>nomatch b),.inl rfl⟩
 |z::l=>@λq=>by
  refine qN (Jp l<|if q<z then z else q) λw n o=>Q (dw ..) ?_
  generalize e:l.foldl (λa d=>if a<d then d else a) (if q<z then z else q)=q_ at *
  by_cases H:q<z
  .rw[qm H] at w o
   refine ⟨M4 w H,λG hy=>?_,o.elim (λi=>.inr<|Q i<|.head _) λi=>.inr<|.tail _ i⟩;rcases aE.mp hy with rfl|hy
   .exact w
   .exact n G hy
  .rw[qn H] at w o
   refine ⟨w,λG hy=>?_,o.elim .inl λi=>.inr<|.tail _ i⟩;rcases aE.mp hy with rfl|hy
   .exact NP w H
   .exact n G hy
theorem adX (f)(c:f≠[]):∃U,yg hp .max [.lst<|iL f]=Y (.int U)/\U∈f/\∀a∈f,a<=U:=by
 cases f with
 |nil=>exact absurd rfl c|cons x f=>
  refine qN (Jp f x) λw b o=>ry (f.foldl (λG n=>if G<n then n else G) x) ?_ (o.elim (λi=>J i.symm<|.head _) λi=>.tail _ i) λa hy=>?_
  .show (intsOf<|iL<|x::f).bind Tz=_;exact Q (FP ..) rfl
  .rcases aE.mp hy with rfl|hy
   .exact w
   .exact b a hy
theorem J8 (p:Nat->Prop)[DecidablePred p](g:Nat->Int):∀l:List Nat,((l.filter λj=>decide<|p j).map g).sum=Mp.qx (λj=>if p j then g j else 0) l
 |[]=>rfl|x::l=>by
  refine Q (dK ..) ?_;show _=(if p x then g x else 0)+Mp.qx _ l;refine J (J8 p g l) ?_
  by_cases q:p x
  .refine Q (qm<|decide_eq_true q)<|Q (qm q)<|Q (bC ..)<|ax pZ rfl
  .refine Q (qn λz=>q<|of_decide_eq_true z)<|Q (qn q)<|Q (dA ..) rfl
theorem set_own (y)(k):rA (hp.length::M) 5 (.cell 0) k ⟨[],hp++[.cell y]⟩=Y ⟨[],hp++[.cell<|Y k]⟩:=by show (match (hp++[O.cell y])[hp.length]? with|Y<|.cell _=>Y (⟨[],(hp++[O.cell y]).set hp.length<|.cell<|Y k⟩:St)|_=>N)=_;exact Q (ve ..)<|Q (IS ..) rfl
theorem Ry {l:List Nat}(e:tK (ev k j) M i ⟨loc,hp⟩=Y (nats l,N,⟨loc,hp⟩))(d:∀o∈l,(ev k j).E (hp.length::M) elt ⟨[],hp++[.cell<|Y<|.int o]⟩=Y (.int<|g o,⟨[],hp++[.cell<|Y<|.int o]⟩))(w:l.length<=65536) :
  ∃y,(ev k<|j+1).E M (.comp elt [.cell 0] [i] [[]] 0 1) ⟨loc,hp⟩=Y (.lst<|iL<|l.map g,⟨loc,hp++[.cell y]⟩):=by
 have p:∀(l:List Nat),(∀o∈l,(ev k j).E (hp.length::M) elt ⟨[],hp++[.cell<|Y<|.int o]⟩=Y (.int<|g o,⟨[],hp++[.cell<|Y<|.int o]⟩))->∀y,∃q,s8 (hp.length::M) (.cell 0) N (gT (ev k j) (hp.length::M) elt [] [] [] []) (nats l) ⟨[],hp++[.cell y]⟩=Y (iL<|l.map g,⟨[],hp++[.cell q]⟩):=λl=>by
  induction l with
  |nil=>exact λJ y=>⟨y,rfl⟩
  |cons o l s=>
   intro h y;exact rN (s (λo a=>h o<|.tail _ a)<|Y<|.int o) λq t=>⟨q,wV rfl (set_own y<|.int o) (zk<|h o<|.head _) t⟩
 obtain ⟨q,t⟩:=p l d N;refine ⟨q,?_⟩;have n:B4 (ev k j) M elt [.cell 0] [i] [[]] 0 1 ⟨loc,hp⟩=Y (iL<|l.map g,⟨loc,hp++[.cell q]⟩):=by
  show (match tK (ev k j) M i ⟨loc,hp⟩ with
   |Y (l,b,st)=>(match s8 ((aq 1).map (st.hp.length+·)++M) (.cell 0) b (gT (ev k j) ((aq 1).map (st.hp.length+·)++M) elt [] [] [] []) l ⟨aw 0 N,st.hp++aw 1 (O.cell N)⟩ with
    |Y (G,I)=>if q6 G.length then Y (G,(⟨st.loc,I.hp⟩:St)) else N
    |N=>N)
   |N=>N)=_
  refine Q e ?_;show (match s8 (hp.length::M) (.cell 0) N (gT (ev k j) (hp.length::M) elt [] [] [] []) (nats l) (⟨[],hp++[O.cell N]⟩:St) with
    |Y (G,I)=>if q6 G.length then Y (G,(⟨loc,I.hp⟩:St)) else N
    |N=>N)=_
  exact Q t<|qm<|decide_eq_true<|Q (r9 ..)<|Q (ao ..) w
 exact qM (f:=λf:O×St=>(DQ f.1,f.2))<|qM (f:=λf:List V×St=>(O.list f.1,f.2)) n
noncomputable def akE:X:=.bin .Add (.bin .Add (.sub (.cell 4)<|.cell 0)<|.sub (.cell 6)<|.cell 0)<|.bf .sum [.comp (.sub (.cell 6)<|.l 0) [.l 0] [.bf .range [.cell 3]] [[.cmp (.sub (.cell 5)<|.l 0) [.Eq] [.cell 0]]] 1 0]
section
variable (a:25<=m) (T:xw n ow ab ti) (b:2<=n)
include T
theorem ZQ (G:h<n):-3<=AV ow ab ti n h/\AV ow ab ti n h<=21:=by
 have w:=T.o3 h G;have o:∀c:List Nat,0<=Mp.qx (λt=>if ab t=(h:Int) then ti t else 0) c/\Mp.qx (λt=>if ab t=(h:Int) then ti t else 0) c<=3*(c.length:Int):=λc=>by
  induction c with
  |nil=>exact ⟨c7 _,c7 _⟩|cons U c u=>
   refine (?_:0<=(if ab U=(h:Int) then ti U else 0)+_/\(if ab U=(h:Int) then ti U else 0)+_<=_);refine Q (aV ..) ?_
   split
   .exact ⟨g7 (T.C1 U).1 u.1,by rw[k9,fG,gp<|3*_];exact er (T.C1 U).2 u.2⟩
   .exact Q (dA ..) ⟨u.1,aB u.2<|br (bB.mpr<|cZ _)<|by decide⟩
 obtain ⟨i,d⟩:=o (aq n);replace d:=aS▸d;exact ⟨er (er (od<|aB qk<|Q (cX ..) w) (T.C1 h).1) i,er (er (aB qk w) (T.C1 h).2)<|aB d<|br (bB.mpr T.n5)<|by decide⟩
include b a
theorem X0 (y a1 e U q A d I k g o p G)(sO):∃s f,(∀t,t<n->AV ow ab ti n t<=s)/\s.natAbs<=21/\(ev (qz m) 60).S ta Pu ⟨w6 y a1 x e U q w A d I k g o,tw p G ow ab ti n sO⟩ =
  Y (.next,⟨w6 y a1 x e U q w A d I k g<|Y<|.int s,tw p G ow ab ti n<|sO++f⟩):=by
 have v:n<=60:=aa T.n5 (by decide);obtain ⟨z,hc⟩:=Ry (M:=ta) (i:=.bf .range [.cell 2]) (hp:=tw p G ow ab ti n sO) (vE (qB rfl rfl)<|by lia) (λt L=>by
  have L:=bF.mp L;have c0:∀j u,(ev (qz m)<|j+1).E ((tw p G ow ab ti n sO).length::ta) (.cell 0) ⟨u,tw p G ow ab ti n sO++[.cell<|Y<|.int t]⟩=Y (.int t,⟨u,tw p G ow ab ti n sO++[.cell<|Y<|.int t]⟩):=λj u=>qB rfl<|ve ..
  have ein:(ev (qz m) 55).E ((tw p G ow ab ti n sO).length::ta) (.comp (.sub (.cell 6)<|.l 0) [.l 0] [.bf .range [.cell 3]] [[.cmp (.sub (.cell 5)<|.l 0) [.Eq] [.cell 0]]] 1 0) ⟨[],tw p G ow ab ti n sO++[.cell<|Y<|.int t]⟩ =
    Y (.lst<|((aq n).filter λj=>decide<|ab j=(t:Int)).map λj=>V.int<|ti j,⟨[],tw p G ow ab ti n sO++[.cell<|Y<|.int t]⟩):=
   xP (λj=>decide<|ab j=(t:Int)) (vE (qB rfl rfl)<|by lia) (λj hj=>qW (ro (qB rfl rfl) rfl<|uA ab v<|bF.mp hj) (c0 _ _)<|Ad _ _) (λj hj J=>ro (qB rfl rfl) rfl<|uA ti v<|bF.mp hj) (by refine Q (aS ..) ?_;lia)
  rw[(by delta iL;exact Q (bk ..) rfl:((aq n).filter λj=>decide<|ab j=(t:Int)).map (λj=>V.int<|ti j)=iL (((aq n).filter λj=>decide<|ab j=(t:Int)).map ti))] at ein
  have:=qy (qy (ro (x:=.cell 4) (qB rfl rfl) (c0 53 [])<|uA ow v L) (ro (x:=.cell 6) (qB rfl rfl) (c0 53 [])<|uA ti v L)<|rW _ _) (ug (qH ein)<|Vy _)<|rW _ _
  rw[J8] at this
  exact this) (by refine Q (aS ..) ?_;lia)
 obtain ⟨s,H,h2,h3⟩:=adX ((aq n).map<|AV ow ab ti n) (by
  intro h;have:=qo jP h;rw[ao,aS] at this
  exact absurd this<|bw<|ai (by decide) b)
 refine tb s ([.cell z]) (λt L=>h3 _<|bZ.mpr ⟨t,bF.mpr L,rfl⟩) (qt (bZ.mp h2) λt L c=>Q c ?_)<|qU (ug (qH hc) H) rfl
 exact MV c (ZQ T<|bF.mp L)
omit a b in
theorem N9 {q:Int}(x:q.natAbs<=21)(i:w<=4400)(c:32<=w):R9 q w:=qN (Mp.N9 x c) λG J U=>⟨av x<|by decide,i,c,G,U⟩
theorem XO (c:w<=4400)(U:32<=w)(o:∀d,d<n->AV ow ab ti n d<=H)(G:H.natAbs<=21)(y h e f q L g I i j k p)(sO):(ev (qz m) 60).S ta Pt ⟨w6 y h x e f q w L g I i j<|Y<|.int H,tw k p ow ab ti n sO⟩ =
  Y (.ret<|.bool true,⟨w6 y h x e f q w L g I i j<|Y<|.int H,tw k p ow ab ti n sO⟩):=by
 have s:=N9 T G c U;have u:=AK m (tw k p ow ab ti n sO) (aa (by decide) a) T (dZ 1)<|near a T b s<|Q (ED s)<|aM _ _
 have v:=AK m (tw k p ow ab ti n sO) (aa (by decide) a) T (dZ 1) (near a T b s (t:=2^w+H) (by
  have:=dX (2^w) H;rw[ED s] at this
  generalize 2^w=W at *
  exact aa this<|aP (aa G<|by decide) _))
 have g1:=(G5 a T b s (f:=0)<|tw k p ow ab ti n sO).1;have hs:=s.fr2;have h5:(0:Int)<=(49+(H.natAbs:Int))^5:=p7<|g7 (by decide)<|aC _
 have Aq:(49+(H.natAbs:Int))^5<2^w:=by
  clear u v g1;generalize (49+(H.natAbs:Int))^5=A at *
  generalize (2:Int)^w=W at *
  exact b7 (aB (i5 h5)<|bT (n9 A).symm) hs
 have z:=aaP T m (aa (by decide) a) (ai (by decide) U) (aa c<|by decide) o Aq<|tw k p ow ab ti n sO
 have Ar:=Mp.B9 (own:=ow) (ab:=ab) (ti:=ti) (n:=n) 0 H;generalize u4 ow ab ti n 0 (2^w)=W0 at *
 generalize u4 ow ab ti n 0 (2^w+H)=W1 at *
 generalize co ow ab ti n 0 H=C at *
 exact sy<|qW (call_top (qp (call_top (qp (qB rfl rfl)<|qp (qB rfl rfl)<|qp (qB rfl rfl)<|qp rfl<|qH<|qy rfl rfl<|rW _ _) v)<|qH rfl) z) (call_top (qp (call_top (qp (qB rfl rfl)<|qp (qB rfl rfl)<|qp (qB rfl rfl)<|qp rfl<|qH rfl) u)<|qp (qy rfl rfl<|uj _ _)<|qH<|qy (qB rfl rfl) rfl<|(rW n 1).trans<|vi (rfl:(n:Int)+1=((n-0+1:Nat):Int))) g1)<|OY C (Q Ar<|aa (cb T.n5)<|by decide) 6
end
end L1
end
noncomputable section
namespace L1
open Vm
noncomputable def sgn (q:Int):Int:=if 0<q then a_ q ((10^12:Nat):Int) else-a_ (-q) ((10^12:Nat):Int)
theorem ZH (q):(sgn q).natAbs<=10^12:=by
 have key:∀a:Int,(a_ a ((10^12:Nat):Int)).natAbs<=10^12:=λa=>rG (u0 a<|show 0<10^12 by decide) λe T=>Q e<|bl T
 delta sgn
 split
 .exact key q
 .exact Q (cX ..)<|key <| -q
def ZJ:X:=.rf (.cmp (.l 0) [.Gt] [.i 0]) (.bin .Mod (.l 0)<|.bin .Pow (.i 10)<|.i 12)<|.un .USub<|.bin .Mod (.un .USub<|.l 0)<|.bin .Pow (.i 10)<|.i 12
theorem adg (q)(a):(ev orc<|j+5).E ta ZJ ⟨[Y<|.int q],a⟩=Y (.int<|sgn q,⟨[Y<|.int q],a⟩):=by
 have w:au ((10:Nat):Int)*12<=100000:=by decide
 have t:0<10^12/\10^12<2^9000:=⟨by decide,by decide +kernel⟩;delta sgn
 by_cases G:0<q
 .exact Q (qm G)<|vD (qW rfl rfl<|Ac _ _) (dt G)<|qy rfl (qy rfl rfl<|yh 10 12 w)<|u3 q _ t.1 t.2
 .exact Q (qn G)<|wB (qW rfl rfl<|Ac _ _) (df G)<|xW<|qy (xW rfl) (qy rfl rfl<|yh 10 12 w)<|u3 (-q) _ t.1 t.2
def uz (a:List Int):List Int:=(a.take 60).map sgn
theorem adh (a:List Int)(w:a.length<=63)(f:List<|Option V)(j):(ev orc 59).E ta (.comp ZJ [.l 0] [.C4 (.l 0) (.k .none)<|.i 60] [[]] 1 0) ⟨Y (.lst<|iL a)::f,j⟩=Y (.lst<|iL<|uz a,⟨Y (.lst<|iL a)::f,j⟩):=by
 have e:(iL a).take 60=(a.take 60).map V.int:=mn.symm;refine Q (by delta iL uz;exact ax bk rfl:iL (uz a)=(a.take 60).map λq=>V.int<|sgn q)<|u5 ?_ (λq J=>adg q j)<|Q (fA ..)<|aa (lC ..)<|by decide
 have i:=P8 (hp:=j) (o:=.lst<|iL a) (h:=60) rfl<|Q (r9 ..)<|bJ w
 rw[e] at i
 exact (tP rfl<|WU rfl rfl rfl i).trans rfl
noncomputable def Jy (c h:Nat):List Nat:=(aq h).filter λt=>decide (c<=t)&&decide ((t-c)%6=0)
theorem OG:∀c:Nat,c<6->∀h:Nat,h<61->wZ c h 6=true/\iP (c:Int) 6 (vl c h 6)=(Jy c h).map (λt:Nat=>(t:Int))/\¬((6:Int)=0\/aQ ((h:Int)-c) 6=true):=by decide +kernel
theorem Xo {a:List O}{c h:Nat}(G:c<6) (T:h<61):w8 a (.tS c h 6)=Y (nats<|Jy c h):=by show (if wZ c (h:Nat) 6=true then Y ((iP (c:Int) 6<|vl c (h:Nat) 6).map V.int) else N)=_;exact Q (qm (OG c G h T).1)<|Q ((OG c G h T).2.1)<|Q (bk ..) rfl
theorem Xp {a:List O}{c h:Nat}(G:c<6) (T:h<61):yg a .range [.int c,.int h,.int 6]=Y (.tS c h 6):=by show (if (6:Int)=0\/aQ ((h:Int)-c) 6=true then N else Y (V.tS c h 6))=_;exact qn (OG c G h T).2.2
noncomputable def Cf:List<|Nat×Int:=[(0,14),(1,2293),(2,36905),(3,1),(4,31415),(5,7)]
def vx (a:List Int)(b:Nat×Int):Int:=b.2+((Jy b.1 a.length).map λc=>a.getD c 0).sum
def abT:X:=.bin .Add (.l 1)<|.bf .sum [.comp (.sub (.cell 0)<|.l 0) [.l 0] [.bf .range [.l 0,.bf .len [.cell 0],.i 6]] [[]] 1 0]
theorem aeV {g:vC}{j:Nat}{sg:List Int}(G:sg.length<61) {b:Nat×Int}(T:b.1<6) (f:List O):(ev g<|j+7).E ta abT ⟨[Y<|.int b.1,Y<|.int b.2],.cell (Y<|.lst<|iL sg)::f⟩=Y (.int<|vx sg b,⟨[Y<|.int b.1,Y<|.int b.2],.cell (Y<|.lst<|iL sg)::f⟩):=by
 have e:=u5 (orc:=g) (M:=ta) (elt:=.sub (.cell 0)<|.l 0) (g:=λh=>V.int<|sg.getD h 0) ((tP (x:=.bf .range [.l 0,.bf .len [.cell 0],.i 6]) (j:=j+4) (st:=⟨[Y<|.int b.1,Y<|.int b.2],.cell (Y<|.lst<|iL sg)::f⟩) rfl<|ug (qp rfl<|qp ((v_ (qB rfl rfl) rfl<|by refine Q (r9 ..) ?_;lia).trans<|qo (λh:Nat=>Y (V.int h,(_:St)))<|r9 sg)<|qH rfl)<|Xp T G).trans<|Cz<|Xo T G) (λh a=>ro (qB rfl rfl) rfl<|vV (by delta iL;refine ax aZ<|Q cq<|Q (aD<|bF.mp (du.mp a).1) ?_;rfl)<|by refine Q (r9 ..) ?_;lia) (by
  have:=cG (λh=>decide (b.1<=h)&&decide ((h-b.1)%6=0))<|aq sg.length
  rw[aS] at this
  exact aa this<|aa (bl G)<|by decide)
 rw[(by delta iL;exact Q (bk ..) rfl:(Jy b.1 sg.length).map (λh=>V.int<|sg.getD h 0)=iL ((Jy b.1 sg.length).map λh=>sg.getD h 0))] at e
 exact qy rfl (ug (qH e)<|Vy _)<|rW _ _
end L1
end
noncomputable section
namespace L1
open Vm
open Mp (xw)
theorem PJ {y:Ev}{U:List Nat}{b:Nat×Int->V}:∀(l:List<|Nat×Int),(∀p∈l,y.E U a ⟨[Y<|.int p.1,Y<|.int p.2],f⟩=Y (b p,⟨[Y<|.int p.1,Y<|.int p.2],f⟩))->∀z i,∃e T,s8 U (.tup [.l 0,.l 1]) N (gT y U a [] [] [] []) (l.map λp=>V.tup [.int p.1,.int p.2]) ⟨[z,i],f⟩=Y (l.map b,⟨[e,T],f⟩)
 |[]=>@λJ z i=>tH z i rfl
 |p::l=>@λh z i=>se (PJ l (λc d=>h c<|.tail _ d) (Y<|.int p.1)<|Y<|.int p.2) λe T g=>tH e T<|wV rfl rfl (zk<|h p<|.head _) g
def aeT:X:=.comp abT [.tup [.l 0,.l 1]] [.enum<|.tup [.i 14,.i 2293,.i 36905,.i 1,.i 31415,.i 7]] [[]] 2 0
theorem Yk {a:List Int}(G:a.length<61)(g:List<|Option V)(j):(ev orc 59).E ta aeT ⟨g,.cell (Y<|.lst<|iL a)::j⟩=Y (.lst<|iL<|Cf.map<|vx a,⟨g,.cell (Y<|.lst<|iL a)::j⟩):=Q (by delta iL;exact ax bk rfl:iL (Cf.map<|vx a)=Cf.map λb=>V.int<|vx a b)<|se (PJ Cf (λb c=>aeV G ((by decide:∀b∈Cf,b.1<6) b c) j) N N) λe T h=>qM<|qM<|D0 (f:=[]) (n:=2) (st1:=⟨g,.cell (Y<|.lst<|iL a)::j⟩) rfl h<|show 6<=65536 by decide
theorem PV {f:Nat->Int}:∀a:List Nat,(∀x∈a,(f x).natAbs<=k)->((a.map f).sum).natAbs<=k*a.length
 |[]=>@λJ=>ag _
 |x::a=>@λd=>Q (bC ..)<|Q (pZ ..)<|Q (aV ..)<|Q (dS ..)<|Q (bz ..)<|aa (dX _ _)<|bq (d x<|.head _)<|PV a λt b=>d t<|.tail _ b
theorem abS (a:p∈Cf):(vx (uz ns) p).natAbs<2^46:=by
 have w:(uz ns).length<=60:=by delta uz;exact Q (ao ..)<|Q (fA ..)<|lC _ _
 have i:(Jy p.1 (uz ns).length).length<=60:=by
  have:=cG (λc=>decide (p.1<=c)&&decide ((c-p.1)%6=0))<|aq (uz ns).length
  replace this:=aS▸this;exact aa this w
 have T:=PV (f:=λc=>(uz ns).getD c 0) (Jy p.1 (uz ns).length) λc G=>by
  have:(uz ns).getD c 0∈uz ns:=by refine Q cq<|Q (aD<|bF.mp (du.mp G).1) ?_;exact List.getElem_mem ..
  exact qt (bZ.mp this) λd W e=>J e<|ZH d
 exact av (aa (dX _ _)<|bq ((by decide:∀p∈Cf,p.2.natAbs<=100000) p a)<|aa T<|aU (10^12) i) (by decide)
noncomputable def LR (q:Int):Nat:=2+(a_ q ((4:Nat):Int)).toNat
noncomputable def hOf (q:Int):Nat:=(a_ (bg q ((4:Nat):Int)) ((5:Nat):Int)).toNat
noncomputable def C7 (q:Int):Nat:=(a_ (bg q ((60:Nat):Int)) ((3:Nat):Int)).toNat
noncomputable def su (q:Int)(c:Nat):Int:=a_ (bg q ((7^c:Nat):Int)) ((7:Nat):Int)-3
noncomputable def rZ (q:Int):Nat->Int
 |0=>0|k+1=>a_ (bg q ((4^k:Nat):Int)) ((4:Nat):Int)
def tq (q:Int)(c:Nat):List Int:=zr (bg q ((256:Nat):Int)) (aq c) [] []
theorem VN (t:-3<=z/\z<=3):(z.natAbs:Int)<=3:=by
 rcases nB 0 z with q|q
 .exact Q (dP q) t.2
 .exact Q (fY q)<|od t.1
theorem aht (w:1<=c):(-1:Int)=((c-1:Nat):Int)-(c:Int):=Q (jI w)<|Q (n_ ..)<|Q (gp ..)<|J (n_ ..)<|Q (nx ..) rfl
theorem adW (q):2<=LR q/\LR q<=5:=rG (u0 q<|by decide) λJ G=>⟨aM 2 _,aP (bO G) 2⟩
theorem Aj (q)(c):-3<=su q c/\su q c<=3:=rG (u0 (bg q ((7^c:Nat):Int))<|by decide) λe G=>⟨ij (e▸aC _) 3,ij (e▸bB.mpr (bO G):a_ (bg q ((7^c:Nat):Int)) ((7:Nat):Int)<=6) 3⟩
theorem BD (q):∀k,0<=rZ q k/\rZ q k<=3
 |0=>⟨c7 _,(by decide:(0:Int)<=3)⟩
 |k+1=>by obtain ⟨e,G⟩:=u0 (bg q ((4^k:Nat):Int)) (b:=4) (by decide);exact ⟨(Q e<|aC _:0<=a_ (bg q ((4^k:Nat):Int)) ((4:Nat):Int)),(Q e<|bB.mpr<|bO G:a_ (bg q ((4^k:Nat):Int)) ((4:Nat):Int)<=3)⟩
theorem Je (a:List Int)(h:a.length=n):iL a=rh (vn a) n:=by
 delta rh iL;refine ew λi=>?_
 by_cases G:i<n
 .refine Q (tC _ G)<|ax aZ ?_
  delta vn;refine Q cq<|Q (aD<|Q h G) ?_;rfl
 .refine ax (cf<|Q (ao ..)<|h▸gi G)<|Q (cf<|Q (sT ..)<|gi G) rfl
theorem Zi (S:Hh n a)(h5:n<=5):xw n (su c1) (vn a)<|rZ c2 where
 n5:=h5
 o3:=λk J=>VN<|Aj c1 k
 C1:=BD c2
 ti0:=rfl
 ab0:=S.a0
 WN:=S.ak
abbrev cL (q b f G o z:Int):Option V:=Y<|.lst<|iL [q,b,f,G,o,z]
abbrev vN (y:Option V)(q b f G o z:Int)(h g T s:Option V):List O:=[.cell y,.cell<|cL q b f G o z,.cell h,.cell g,.cell T,.cell s]
noncomputable abbrev wb (y h f T q A b:Option V):List<|Option V:=[y,h,f,T,q,A,b,N,N,N,N,N,N,N]
section
variable {sg a0 a1 a2 a3 a4 a5 a6 o2 o3 o4 o5:Option V}
theorem BH (c)(w:c<=1000):c<2^9000:=av w (by decide +kernel)
theorem wu {j h:Nat}{t:Int}{b:List<|Option V}{f:List O}(g:f[1]?=Y (.cell<|cL c0 c1 c2 c3 c4 c5)) (i:[c0,c1,c2,c3,c4,c5][h]?=Y t):(ev orc<|j+2).E ta (.sub (.cell 1)<|.k<|.int h) ⟨b,f⟩=Y (.int t,⟨b,f⟩):=ro (qB rfl g) rfl<|vV (by delta iL;refine Q aZ<|Q i ?_;rfl)<|show 6<=65536 by decide
theorem XQ {b:List O}{c:Nat}(G:c<3):si b (.lst [.qu "&",.none,.qu ""]) (.int c)=Y (rK c):=by
 refine vV ?_<|show 3<=65536 by decide
 rcases (by decide:∀c,c<3->c=0\/c=1\/c=2) c G with rfl|rfl|rfl<;>rfl
theorem X1 {b:List O}{c:Nat}(G:c<5):si b (.lst [.con<|.ref 150,.con<|.ref 157,.con<|.ref 164,.con<|.ref 171,.con<|.ref 178]) (.int c)=Y (.con<|.ref<|yn c):=by
 refine vV ?_<|show 5<=65536 by decide
 rcases (by decide:∀c,c<5->c=0\/c=1\/c=2\/c=3\/c=4) c G with rfl|rfl|rfl|rfl|rfl<;>rfl
theorem st2:(ev orc 60).S ta Vn ⟨wb a0 a1 a2 a3 a4 a5 a6,vN sg c0 c1 c2 c3 c4 c5 o2 o3 o4 o5⟩=Y (.next,⟨wb a0 (Y<|.qu rr) (Y<|.int c3) (Y<|rK<|C7 c5) a4 a5 a6,vN sg c0 c1 c2 c3 c4 c5 (Y<|.int (LR c0:Nat)) o3 o4 o5⟩):=by
 refine rG (u0 c0 (b:=4)<|by decide) λf G=>?_
 obtain ⟨i,T⟩:=u0 (bg c5 ((60:Nat):Int)) (b:=3) (by decide);exact qU (sY<|qp (qy rfl (qy (wu rfl rfl) rfl<|u3 c0 4 (by decide)<|BH 4<|by decide)<|(rW _ _).trans<|vi<|by delta LR;exact qo _ f)<|qp rfl<|qp (wu rfl rfl)<|qH<|ro (yC<|qp rfl<|qp rfl<|qH rfl) (qy (qy (wu rfl rfl) rfl<|xf c5 60 (by decide)<|BH 60<|by decide) rfl<|(u3 _ 3 (by decide)<|BH 3<|by decide).trans<|vi i)<|XQ T) rfl
theorem st3:(ev orc 60).S ta Vl ⟨wb a0 a1 a2 a3 a4 a5 a6,vN sg c0 c1 c2 c3 c4 c5 o2 o3 o4 o5⟩=Y (.next,⟨wb a0 a1 a2 a3 (Y<|.con<|.ref<|yn<|hOf c0) a5 a6,vN sg c0 c1 c2 c3 c4 c5 o2 o3 o4 o5⟩):=rG (u0 (bg c0 ((4:Nat):Int))<|by decide) λf G=>qU (ro (yC<|qp rfl<|qp rfl<|qp rfl<|qp rfl<|qH rfl) (qy (qy (wu rfl rfl) rfl<|xf c0 4 (by decide)<|BH 4<|by decide) rfl<|(u3 _ 5 (by decide)<|BH 5<|by decide).trans<|vi f)<|X1 G) rfl
end
section
variable (e:1<=m) {sg a0 a1 a2 a3 a4 a5 a6 o3 o4 o5:Option V}(d:2<=n) (a:n<=5)
include e d a
theorem x':(ev (qz m) 60).S ta Vk ⟨wb a0 a1 a2 a3 a4 a5 a6,vN sg c0 b c2 c3 c4 c5 (Y<|.int n) o3 o4 o5⟩=Y (.next,⟨wb a0 a1 a2 a3 a4 a5 a6,vN sg c0 b c2 c3 c4 c5 (Y<|.int n) (Y<|.lst<|rh (su b) n) (Y<|.lst<|rh (vn<|tq c2 n) n) o5⟩):=by
 have f:(ev (qz m) 58).E ta (.comp (.bin .Sub (.bin .Mod (.bin .FloorDiv (.sub (.cell 1)<|.i 1)<|.bin .Pow (.i 7)<|.l 0)<|.i 7)<|.i 3) [.l 0] [.bf .range [.cell 2]] [[]] 1 0) ⟨wb a0 a1 a2 a3 a4 a5 a6,vN sg c0 b c2 c3 c4 c5 (Y<|.int n) o3 o4 o5⟩=Y (.lst<|rh (su b) n,⟨wb a0 a1 a2 a3 a4 a5 a6,vN sg c0 b c2 c3 c4 c5 (Y<|.int n) o3 o4 o5⟩):=
  u5 (vE (qB rfl rfl)<|by lia) (λz c=>by have c:=bF.mp c;exact qy (qy (qy (wu rfl rfl) (qy rfl rfl<|yh 7 z (bJ<|dG (bits_le.mpr (by decide):au ((7:Nat):Int)<=3)<|show z<=5 by lia))<|xf b _ (ll<|by decide)<|av (aX (by decide) (by lia):7^z<=7^5)<|by decide +kernel) rfl<|u3 _ 7 (by decide)<|BH 7<|by decide) rfl<|uj _ 3) (by refine Q (aS ..) ?_;lia)
 have i:=U' m n (bg c2 ((256:Nat):Int)) (vN sg c0 b c2 c3 c4 c5 (Y<|.int n) o3 o4 o5) e<|bJ a
 rw[Je _ (BI d a<|bg c2 ((256:Nat):Int)).len] at i
 exact qU (sY<|qp f<|qH<|call_top (qp (qB rfl rfl)<|qH<|qy (wu rfl rfl) rfl<|xf c2 256 (by decide)<|BH 256<|by decide) i) rfl
theorem st5:(ev (qz m) 60).S ta Vj ⟨wb a0 a1 a2 a3 a4 a5 a6,vN sg c0 c1 f c3 c4 c5 (Y<|.int n) o3 o4 o5⟩=Y (.next,⟨wb a0 a1 a2 a3 a4 a5 a6,vN sg c0 c1 f c3 c4 c5 (Y<|.int n) o3 o4<|Y<|.lst<|rh (rZ f) n⟩):=by
 have g:(ev (qz m) 58).E ta (.comp (.bin .Mod (.bin .FloorDiv (.sub (.cell 1)<|.i 2)<|.bin .Pow (.i 4)<|.l 0)<|.i 4) [.l 0] [.bf .range [.bin .Sub (.cell 2)<|.i 1]] [[]] 1 0) ⟨wb a0 a1 a2 a3 a4 a5 a6,vN sg c0 c1 f c3 c4 c5 (Y<|.int n) o3 o4 o5⟩=Y (.lst<|(aq<|n-1).map λk=>V.int<|rZ f<|k+1,⟨wb a0 a1 a2 a3 a4 a5 a6,vN sg c0 c1 f c3 c4 c5 (Y<|.int n) o3 o4 o5⟩):=
  u5 (vE (qy (qB rfl rfl) rfl<|(uj n 1).trans<|vi (jI<|aa (by decide) d).symm)<|by lia) (λk b=>by have b:=bF.mp b;exact qy (qy (wu rfl rfl) (qy rfl rfl<|yh 4 k (bJ<|dG (bits_le.mpr (by decide):au ((4:Nat):Int)<=3)<|show k<=5 by lia))<|xf f _ (ll<|by decide)<|av (aX (by decide) (by lia):4^k<=4^5)<|by decide +kernel) rfl<|u3 _ 4 (by decide)<|BH 4<|by decide) (by refine Q (aS ..) ?_;lia)
 have i:[V.int 0]++(aq<|n-1).map (λk=>V.int<|rZ f<|k+1)=rh (rZ f) n:=by delta rh;obtain ⟨k,rfl⟩:∃k,n=k+1:=⟨n-1,(aH<|b6 d).symm⟩;exact Q (jC ..)<|Q (bC ..)<|Q (bk ..) rfl
 exact qU ((qy (yC<|qH rfl) g<|wM<|by refine Q (ao ..)<|Q (aS ..) ?_;show 1+_<=65536;lia).trans<|by refine Q i rfl) rfl
end
theorem adp {c:Nat}(k:Hh c a):∀i,i<c->sA a i<=i/\vn a i+1=(sA a i:Int):=λi G=>by
 have e:sA a i=(vn a i+1).toNat:=rfl;rcases eQ i with rfl|h
 .exact Q e<|Q (k.a0 ..) ⟨ag 0,rfl⟩
 .exact rG (k.ak i h G) λw T=>⟨nu.mpr<|Int.add_one_le_of_lt T,(cj<|g7 w<|by decide).symm⟩
theorem Rj (q a)(e:Bool×Nat):(∀c∈B5 (su q) (rZ a) e,c∈qD++vA)/\(B5 (su q) (rZ a) e).length<=13:=by
 delta B5
 split
 .exact rN (dQ<|Sj<|Aj q<|e.2-1) λt g=>Q g ⟨λc hx=>fb _<|Q (aN.mp hx)<|LZ t<|Si (Aj q _) g,(by decide:1<=13)⟩
 .refine ⟨λc hx=>dE _ ?_,?_⟩
  .rcases aE.mp hx with rfl|hx
   .decide
   .skip
    rcases (CS _ c hx) with rfl|rfl|rfl|rfl<;>decide
  .refine Q (Bj ..) ?_;exact YH (BD a _) (ag _)
theorem Md {c:Bool×Nat->List Nat}:∀a:List<|Bool×Nat,(∀e∈a,(c e).length<=k)->(a.flatMap c).length<=k*a.length
 |[]=>@λJ=>ag _
 |e::a=>@λh=>by exact Q (c_ ..)<|Q (aG ..)<|Q (aV ..)<|Q (dS ..)<|Np (Md a λg d=>h g<|.tail _ d) (h e<|.head _)
theorem Xz {d:Nat}(k:Hh d a)(q g):(∀t∈te (su q) (rZ g) (sA a) d c,t∈qD++vA)/\(te (su q) (rZ g) (sA a) d c).length<=1000/\38∈te (su q) (rZ g) (sA a) d c:=by
 refine qN (k.evs c) λw U J=>qt U λi u e=>rj (λt G=>?_) ?_ ?_
 .exact qt (f_.mp G) λi J G=>(Rj q g i).1 t G
 .have:=Md (wc (sA a) d c) λi J=>(Rj q g i).2
  delta te;exact aa this<|aa (aU 13 w)<|by decide
 .refine f_.mpr<|qr i u ?_
  delta B5;exact Q e<|iS ..
theorem aag (l:List<|List Int)(c:∀g∈l,g.length<=65536):tX hp .NotEq (.tup<|l.map λg=>.lst<|iL g) (.tup<|l.map λg=>.lst<|iL g)=Y false:=by
 have e:∀l:List<|List Int,(∀g∈l,g.length<=65536)->zR (rV 7) (l.map λg=>.lst<|iL g) (l.map λg=>.lst<|iL g)=Y true:=λl=>by
  induction l with
  |nil=>exact λJ=>rfl
  |cons u l ih=>
   intro c;exact (congr (qo Cj<|OY u (c u<|.head _) 5)<|ih λg a=>c g<|.tail _ a:Cj (rV 7 (.lst<|iL u)<|.lst<|iL u) (zR (rV 7) _ _)=_)
 refine (?_:(rV 8 (.tup<|l.map λg=>.lst<|iL g)<|.tup<|l.map λg=>.lst<|iL g).map not=_);have i:rV 8 (.tup<|l.map λg=>.lst<|iL g) (.tup<|l.map λg=>.lst<|iL g)=Y true:=(qm rfl).trans<|e l c
 exact Q i rfl
theorem last_eq:∀c,tX hp .Eq (rK c) (.qu "&")=Y (decide<|c=0)
 |0=>qo Y<|decide_eq_true rfl
 |1=>rfl|J+2=>qo Y<|(decide_eq_false<|by decide +kernel).trans (decide_eq_false<|gg _).symm
noncomputable def Oi (c:Nat):List Nat:=if c=0 then [] else [0]
section
variable (j:25<=m) {sg a0 a2 p b:Option V}(o:2<=n) (f:n<=5) (s:h<5)
include j o f s
abbrev zg (y i:Option V)(c k:Nat)(T U:Option V):List<|Option V:=wb y (Y<|.qu rr) i (Y<|rK c) (Y<|.con<|.ref<|yn k) T U
abbrev tT (y:Option V)(q a d G t z:Int)(c:Nat):List O:=vN y q a d G t z (Y<|.int c) (Y<|.lst<|rh (su a) c) (Y<|.lst<|rh (vn<|tq d c) c)<|Y<|.lst<|rh (rZ d) c
theorem st6:(ev (qz m) 60).S ta Vi ⟨zg a0 a2 c h p b,tT sg c0 a d c3 c4 c5 n⟩=Y (.next,⟨zg a0 a2 c h (Y<|.str<|qA<|te (su a) (rZ d) (sA<|tq d n) n c) b,tT sg c0 a d c3 c4 c5 n⟩):=by
 have k:=BI o f<|bg d ((256:Nat):Int)
 change Hh n (tq d n) at k
 have e:=Xy (m:=m-1) (n0<|aa (by decide) j) s (gh o) f (λz J=>Aj a z) (BD d) rfl (adp k) k.ful k.ev2 (k.evs c).1<|tT sg c0 a d c3 c4 c5 n
 rw[aH<|aa (by decide) j] at e
 exact qU (call_top (qp rfl<|qp (qB rfl rfl)<|qp (qB rfl rfl)<|qp (qB rfl rfl)<|qp rfl<|qH rfl) e) rfl
theorem st7:(ev (qz m) 60).S ta Vh ⟨zg a0 a2 T h (Y<|.str<|qA<|te (su t) (rZ c2) (sA<|tq c2 n) n T) b,tT sg c0 t c2 c3 c4 c5 n⟩=Y (.next,⟨zg a0 a2 T h (Y<|.str<|qA<|te (su t) (rZ c2) (sA<|tq c2 n) n T) b,tT sg c0 t c2 c3 c4 c5 n⟩):=by
 have u:=BI o f<|bg c2 ((256:Nat):Int)
 change Hh n (tq c2 n) at u
 refine qN (Xz (c:=T) u t c2) λp1 w x=>qN (u.evs T) λG W U=>qt U λa e v3=>?_
 have i:=Sv (Aj t) (BD c2) m (gh j) e G<|tT sg c0 t c2 c3 c4 c5 n
 change (qz m).top 204 [.str<|qA<|te (su t) (rZ c2) (sA<|tq c2 n) n T,.qu rr] [] [] _=_ at i
 have y:yR (rZ c2) n a=(aq n).map (rZ c2):=dC λA I=>by
  rcases eQ A with rfl|q
  .skip
   split<;>rfl
  .refine ax (qm<|v3 A q<|bF.mp I) rfl
 have L:=Mj (m-1) h s (v:=.str<|qA<|te (su t) (rZ c2) (sA<|tq c2 n) n T) rfl x (λz hx j=>(by decide:∀z∈Dz,z∉qD++vA) z hx<|p1 z j) w<|tT sg c0 t c2 c3 c4 c5 n
 rw[aH<|aa (by decide) j] at L
 have H:cY (qA<|te (su t) (rZ c2) (sA<|tq c2 n) n T) "&" "&amp;"=qA (zH 38 vg<|te (su t) (rZ c2) (sA<|tq c2 n) n T):=Q (Fx ..)<|Q (by kernel_rfl:("&amp;":ba)=qA vg)<|Ag<|I3 _ (qA vg) 38
 have c:vF (qA<|te (su t) (rZ c2) (sA<|tq c2 n) n T) "&amp;"=true:=by delta vF;have k:(qA<|te (su t) (rZ c2) (sA<|tq c2 n) n T).length=(te (su t) (rZ c2) (sA<|tq c2 n) n T).length:=rfl;exact Q k<|Q (by rfl:("&amp;":ba).length=5)<|decide_eq_true<|aa (bq w<|cz 5<|cb w)<|by decide
 rw[y,FQ _] at i
 generalize te (su t) (rZ c2) (sA<|tq c2 n) n T=pg at *
 have k1:(ev (qz m) 58).E ta (.cmp (.call (.l 4) [.l 5] [] []) [.NotEq] [.mt .replace (.l 5) [.k<|.qu "&",.k<|.qu "&amp;"]]) ⟨zg a0 a2 T h (Y<|.str<|qA pg) b,tT sg c0 t c2 c3 c4 c5 n⟩=Y (.bool false,⟨zg a0 a2 T h (Y<|.str<|qA pg) b,tT sg c0 t c2 c3 c4 c5 n⟩):=by
  have g:(ev (qz m) 57).E ta (.call (.l 4) [.l 5] [] []) ⟨zg a0 a2 T h (Y<|.str<|qA pg) b,tT sg c0 t c2 c3 c4 c5 n⟩=Y (.str<|qA<|zH 38 vg pg,⟨zg a0 a2 T h (Y<|.str<|qA pg) b,tT sg c0 t c2 c3 c4 c5 n⟩):=Co (st3:=⟨zg a0 a2 T h (Y<|.str<|qA pg) b,tT sg c0 t c2 c3 c4 c5 n⟩) rfl (qH rfl) rfl L
  exact qW g (J H<|uL rfl rfl rfl (qp rfl<|qH rfl)<|BL rfl c:(ev (qz m) 57).E ta (.mt .replace (.l 5) [.k<|.qu "&",.k<|.qu "&amp;"]) ⟨zg a0 a2 T h (Y<|.str<|qA pg) b,tT sg c0 t c2 c3 c4 c5 n⟩=Y (.str<|qA<|zH 38 vg pg,⟨zg a0 a2 T h (Y<|.str<|qA pg) b,tT sg c0 t c2 c3 c4 c5 n⟩))<|ne_str _
 have k3:(ev (qz m) 58).E ta (.cmp (.call (.k<|.con<|.ref 204) [.l 5,.l 1] [] []) [.NotEq] [.tup [.cell 3,.cell 4,.cell 5,.rf (.cmp (.l 3) [.Eq] [.k<|.qu "&"]) (.list [])<|.list [.i 0]]]) ⟨zg a0 a2 T h (Y<|.str<|qA pg) b,tT sg c0 t c2 c3 c4 c5 n⟩=Y (.bool false,⟨zg a0 a2 T h (Y<|.str<|qA pg) b,tT sg c0 t c2 c3 c4 c5 n⟩):=by
  have g:(ev (qz m) 56).E ta (.rf (.cmp (.l 3) [.Eq] [.k<|.qu "&"]) (.list [])<|.list [.i 0]) ⟨zg a0 a2 T h (Y<|.str<|qA pg) b,tT sg c0 t c2 c3 c4 c5 n⟩=Y (.lst<|iL<|(Oi T).map λd:Nat=>(d:Int),⟨zg a0 a2 T h (Y<|.str<|qA pg) b,tT sg c0 t c2 c3 c4 c5 n⟩):=by
   delta Oi
   by_cases q:T=0
   .exact Q (qm q)<|vD (qW rfl rfl<|last_eq T) (dt q) rfl
   .exact Q (qn q)<|wB (qW rfl rfl<|last_eq T) (df q) rfl
  refine qW (call_top (qp rfl<|qH rfl) i) (sY<|qp (qB rfl rfl)<|qp (qB rfl rfl)<|qp (qB rfl rfl)<|qH g)<|J (by delta iL rh;exact ax bk rfl:iL ((aq n).map<|su t)=rh (su t) n)<|J (by delta iL rh;exact ax bk rfl:iL ((aq n).map<|rZ c2)=rh (rZ c2) n)<|J (Je _ u.len)<|aag [(aq n).map<|su t,tq c2 n,(aq n).map<|rZ c2,(Oi T).map λd:Nat=>(d:Int)] λz hx=>?_
  rcases (by simpa using hx) with rfl|rfl|rfl|rfl
  .refine Q (ao ..)<|Q (aS ..) ?_;lia
  .refine Q u.len ?_;lia
  .refine Q (ao ..)<|Q (aS ..) ?_;lia
  .refine Q (ao ..) ?_;delta Oi
   split<;>decide
 exact zZ<|WV k1 (qW (call_top (qp rfl<|qp rfl<|qH<|wu rfl rfl)<|Xr m (Nat.le_of_add_left_le j) c4 p1 w<|tT sg c0 t c2 c3 c4 c5 n) rfl<|ne_str _) k3
end
noncomputable def Ek (q b:Int):Nat:=32+6*au (q.natAbs:Int)+(a_ b ((60:Nat):Int)).toNat+if a_ (bg b ((180:Nat):Int)) ((16:Nat):Int)=5 then 4000 else 0
theorem adf {q:Int}(U:q.natAbs<2^46)(c):R9 q<|Ek q c:=by
 have w:au (q.natAbs:Int)<=46:=bits_le.mpr U;obtain ⟨_,T⟩:=u0 c (b:=60) (by decide);have i:32+6*au (q.natAbs:Int)<=Ek q c:=by delta Ek;exact MS
 exact qN (Mp.Xh (bits_le.mp<|ag _) i) λk J t=>⟨ai U<|aX (by decide)<|by decide,(by have:=bq (aP (aU 6 w) 32) (bl T);delta Ek;split<;>exact aa (a8 this _) (by decide)),aa (aM ..) i,k,t⟩
section
variable (s:25<=m) {sg a0 a1 a d f o:Option V}(p:2<=n) (g:n<=5) {x:Int}(j:x.natAbs<2^46)
include s p g j
theorem st8:(ev (qz m) 60).S ta Vg ⟨wb a0 a1 (Y<|.int x) a d f o,tT sg c0 c1 c2 c3 c4 t n⟩=Y (.next,⟨wb a0 a1 (Y<|.int x) a d f<|Y<|.int (Ek x t:Nat),tT sg c0 c1 c2 c3 c4 t n⟩):=by
 have T:au (x.natAbs:Int)<=46:=bits_le.mpr j;obtain ⟨e,U⟩:=u0 t (b:=60) (by decide);have i:(ev (qz m) 58).E ta (.rf (.cmp (.bin .Mod (.bin .FloorDiv (.sub (.cell 1)<|.i 5)<|.i 180)<|.i 16) [.Eq] [.i 5]) (.i 4000)<|.i 0) ⟨wb a0 a1 (Y<|.int x) a d f o,tT sg c0 c1 c2 c3 c4 t n⟩=Y (.int ((if a_ (bg t ((180:Nat):Int)) ((16:Nat):Int)=5 then 4000 else 0:Nat):Int),⟨wb a0 a1 (Y<|.int x) a d f o,tT sg c0 c1 c2 c3 c4 t n⟩):=by
  have q:(ev (qz m) 57).E ta (.cmp (.bin .Mod (.bin .FloorDiv (.sub (.cell 1)<|.i 5)<|.i 180)<|.i 16) [.Eq] [.i 5]) ⟨wb a0 a1 (Y<|.int x) a d f o,tT sg c0 c1 c2 c3 c4 t n⟩=Y (.bool<|decide<|a_ (bg t ((180:Nat):Int)) ((16:Nat):Int)=5,⟨wb a0 a1 (Y<|.int x) a d f o,tT sg c0 c1 c2 c3 c4 t n⟩):=qW (qy (qy (wu rfl rfl) rfl<|xf t 180 (by decide)<|BH 180<|by decide) rfl<|u3 _ 16 (by decide)<|BH 16<|by decide) rfl<|Ad _ _
  by_cases z:a_ (bg t ((180:Nat):Int)) ((16:Nat):Int)=5
  .exact Q (qm z)<|vD q (dt z) rfl
  .exact Q (qn z)<|wB q (df z) rfl
 exact qU ((qy (qy (qy rfl (qy rfl (uL (ug (qH rfl)<|Pf x) rfl rfl rfl rfl)<|(xU 6 _ 3 6 (by decide) (av T<|by decide) (by decide)<|by decide).trans<|vi (fe ..).symm)<|rW _ _) (qy (wu rfl rfl) rfl<|(u3 t 60 (by decide)<|BH 60<|by decide).trans<|vi e)<|rW _ _) i<|rW _ _).trans<|qo (λu:Int=>Y (V.int u,(_:St)))<|by delta Ek;split<;>rfl) rfl
theorem st9 {v:Nat}(U:v<=4400):(ev (qz m) 60).S ta Vf ⟨wb a0 a1 (Y<|.int x) a d f<|Y<|.int v,tT sg b q H u z t n⟩ =
  Y (.next,⟨w6 a0 a1 x a d f v (Y<|B_ (su q) (vn<|tq H n) (rZ H) n x) N N N N N,tw sg (cL b q H u z t) (su q) (vn<|tq H n) (rZ H) n []⟩):=by
 have S:=BI p g<|bg H ((256:Nat):Int)
 change Hh n (tq H n) at S
 have e:=QO m (tT sg b q H u z t n) (gh s) (gh p) (fj g) (λT c=>by
  rcases eQ T with rfl|h
  .exact ry (n-1) (hZ (ai (by decide) p)<|by decide) (.inr<|S.a0.trans<|aht<|aa (by decide) p) λh=>absurd rfl h
  .refine rG (S.ak T h c) λG k=>?_
   have i:=(cj G).symm;exact ry ((vn (tq H n) T).toNat) (eH ((iN G).mpr k) c) (.inl i) λW=>i) (λT W=>da<|bd3<|BD H T) λT=>av (dW _ _)<|ai (l9 (bB.mp<|VN<|Aj q T) j)<|by decide
 have w:(ev (qz m) 58).E ta (.bin .Pow (.i 2)<|.l 6) ⟨wb a0 a1 (Y<|.int x) a d f<|Y<|.int v,tT sg b q H u z t n⟩=Y (.int<|2^v,⟨wb a0 a1 (Y<|.int x) a d f<|Y<|.int v,tT sg b q H u z t n⟩):=by have:=dG (sP (by decide):au (2:Int)<=2) U;refine qy rfl rfl<|H9 2 v<|J (fe ..)<|bB.mpr<|aa this<|by decide
 exact qU (sY<|qp w<|qH<|call_top (qp (qB rfl rfl)<|qp (qB rfl rfl)<|qp (qB rfl rfl)<|qH rfl) e) rfl
end
end L1
end
noncomputable section
namespace L1
open Vm
open Mp (xw co cn u4)
theorem XM {c:Nat}(w:25<=c)(a:List Int)(i:a.length<=63):∃f,we (qz c) ta Y0 ⟨[Y<|.lst<|iL a,N,N,N,N,N,N,N,N,N,N,N,N,N],[.cell N,.cell N,.cell N,.cell N,.cell N,.cell N]⟩=Y (.bool true,f):=by
 have e:=Yk (orc:=qz c) (by delta uz;refine Q (ao ..)<|Q (fA ..)<|da<|lC ..:(uz a).length<61) [Y<|.lst<|iL a,N,N,N,N,N,N,N,N,N,N,N,N,N] [.cell N,.cell N,.cell N,.cell N,.cell N];have I:=abS (ns:=a) (p:=(3,1)) (by decide);have o:Cf.map (vx<|uz a)=[vx (uz a) (0,14),vx (uz a) (1,2293),vx (uz a) (2,36905),vx (uz a) (3,1),vx (uz a) (4,31415),vx (uz a) (5,7)]:=rfl;rw[o] at e
 generalize vx (uz a) (0,14)=c0 at *
 generalize vx (uz a) (1,2293)=c1 at *
 generalize vx (uz a) (2,36905)=A at *
 generalize vx (uz a) (3,1)=c3 at *
 generalize vx (uz a) (4,31415)=c4 at *
 generalize vx (uz a) (5,7)=c5 at *
 have s0:(ev (qz c) 60).S ta Vo ⟨[Y<|.lst<|iL a,N,N,N,N,N,N,N,N,N,N,N,N,N],[.cell N,.cell N,.cell N,.cell N,.cell N,.cell N]⟩=Y (.next,⟨[Y<|.lst<|iL a,N,N,N,N,N,N,N,N,N,N,N,N,N],[.cell<|Y<|.lst<|iL<|uz a,.cell N,.cell N,.cell N,.cell N,.cell N]⟩):=qU (adh a i [N,N,N,N,N,N,N,N,N,N,N,N,N] [.cell N,.cell N,.cell N,.cell N,.cell N,.cell N]) rfl;generalize Y (V.lst<|iL<|uz a)=sg at *
 obtain ⟨d,T⟩:=adW c0;obtain ⟨_,U⟩:=u0 (bg c0 ((4:Nat):Int)) (b:=5) (by decide)
 change hOf c0<5 at U
 have z:=st2 (orc:=qz c) (c0:=c0) (c1:=c1) (c2:=A) (c3:=c3) (c4:=c4) (c5:=c5) (sg:=sg) (a0:=Y<|.lst<|iL a) (a1:=N) (a2:=N) (a3:=N) (a4:=N) (a5:=N) (a6:=N) (o2:=N) (o3:=N) (o4:=N) (o5:=N);have H:=st3 (orc:=qz c) (c0:=c0) (c1:=c1) (c2:=A) (c3:=c3) (c4:=c4) (c5:=c5) (sg:=sg) (a0:=Y<|.lst<|iL a) (a1:=Y<|.qu rr) (a2:=Y<|.int c3) (a3:=Y<|rK<|C7 c5) (a4:=N) (a5:=N) (a6:=N) (o2:=Y<|.int (LR c0:Nat)) (o3:=N) (o4:=N) (o5:=N);generalize LR c0=n at *
 generalize hOf c0=h at *
 have g:=adf I c5;have j:=BI d T<|bg A ((256:Nat):Int)
 change Hh n (tq A n) at j
 have L:=Zi (c1:=c1) (c2:=A) j T;obtain ⟨u,s⟩:=Fe w L d g (dZ 1) (Y<|.lst<|iL a) (Y<|.qu rr) (Y<|rK<|C7 c5) (Y<|.con<|.ref<|yn h) (Y<|.str<|qA<|te (su c1) (rZ A) (sA<|tq A n) n<|C7 c5) N N N N sg (cL c0 c1 A c3 c4 c5) [];obtain ⟨G,k⟩:=Fe w L d g (ag 1) (Y<|.lst<|iL a) (Y<|.qu rr) (Y<|rK<|C7 c5) (Y<|.con<|.ref<|yn h) (Y<|.str<|qA<|te (su c1) (rZ A) (sA<|tq A n) n<|C7 c5) (Y<|.int<|u4 (su c1) (vn<|tq A n) (rZ A) n 0<|2^Ek c3 c5) (Y<|.lst<|iL<|co (su c1) (vn<|tq A n) (rZ A) n 0 c3) (Y<|.lst<|iL<|cn (su c1) (vn<|tq A n) (rZ A) n 0 c3) N sg (cL c0 c1 A c3 c4 c5) ([]++u)
 exact qZ (X0 w L d (Y<|.lst<|iL a) (Y<|.qu rr) (Y<|rK<|C7 c5) (Y<|.con<|.ref<|yn h) (Y<|.str<|qA<|te (su c1) (rZ A) (sA<|tq A n) n<|C7 c5) (Y<|B_ (su c1) (vn<|tq A n) (rZ A) n c3) (Y<|.int (1:Nat)) (Y<|.int<|u4 (su c1) (vn<|tq A n) (rZ A) n 1<|2^Ek c3 c5) (Y<|.lst<|iL<|co (su c1) (vn<|tq A n) (rZ A) n 1 c3) (Y<|.lst<|iL<|cn (su c1) (vn<|tq A n) (rZ A) n 1 c3) N sg (cL c0 c1 A c3 c4 c5)<|[]++u++G) λq t v x y=>⟨tw sg (cL c0 c1 A c3 c4 c5) (su c1) (vn<|tq A n) (rZ A) n<|[]++u++G++t,ax ub<|qI s0<|qI (qU e rfl)<|qI z<|qI H<|qI (x' (by lia) d T)<|qI (st5 (by lia) d T)<|qI (st6 w d T U)<|qI (st7 w d T U)<|qI (st8 w d T I)<|qI (st9 w d T I g.ws)<|qI (v8 ((tP rfl rfl).trans rfl)<|r_ rfl rfl s<|r_ rfl rfl k rfl)<|qI y<|tu<|XO w L d g.ws g.wp v x (Y<|.lst<|iL a) (Y<|.qu rr) (Y<|rK<|C7 c5) (Y<|.con<|.ref<|yn h) (Y<|.str<|qA<|te (su c1) (rZ A) (sA<|tq A n) n<|C7 c5) (Y<|B_ (su c1) (vn<|tq A n) (rZ A) n c3) (Y<|.int (1:Nat)) (Y<|.int<|u4 (su c1) (vn<|tq A n) (rZ A) n 1<|2^Ek c3 c5) (Y<|.lst<|iL<|co (su c1) (vn<|tq A n) (rZ A) n 1 c3) (Y<|.lst<|iL<|cn (su c1) (vn<|tq A n) (rZ A) n 1 c3) sg (cL c0 c1 A c3 c4 c5)<|[]++u++G++t⟩
theorem XK (ns:List Int)(hns:ns.length<=63):(qz 41).top 238 [.lst<|ns.map .int] [] [] []=Y (.bool true,[]):=rN (XM (by decide) ns hns) λhp hr=>rE 40 (t:=t32) rfl rfl rfl rfl (CG<|B1 [] 7 ns) hr rfl
end L1
end
noncomputable section
namespace L1
theorem ad4:PySem.Challenge.rw_wc0030_02.Holds:=XN λa w=>qr 41 (by decide)<|XK a w
end L1
end
theorem PySem.Challenge.cw_wc0030_02_holds : PySem.Challenge.rw_wc0030_02.Holds :=
 L1.ad4
