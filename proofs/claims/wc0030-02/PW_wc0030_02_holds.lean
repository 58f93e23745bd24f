import PyProof.Rows.All
import Wide.All
import OpenK.AllK
import Wide.FinOn
import Lean
import PySem.Challenge.RW_wc0030_02
set_option Elab.async false
set_option genSizeOf false
set_option genSizeOfSpec false
set_option genInjectivity false
set_option genCtorIdx false
set_option compiler.extract_closed false
set_option maxRecDepth 100000
set_option linter.all false
set_option tactic.hygienic false
open And renaming intro->lb,symm->om
open Array renaming length_toList->cF,toList_append->eB,getElem?_eq_getElem->eV,getElem?_toList->fO,mk->gp
open Bool renaming and_eq_true->aA,not_eq_true'->bS,not_eq_false->b5,false_ne_true->dn,noConfusion->f_,false_eq_true->gB,and_eq_true_iff->h_,or_eq_true->ir,not_not->kq,and_eq_false_iff->nC,or_eq_false_iff->nT,or_eq_true_iff->oj,eq_iff_iff->pC,or_false->p_,and_true->qa
open Classical renaming em->jb
open Eq renaming trans->ax
open Exists renaming imp->dg
open Int renaming le_trans->aB,natCast_nonneg->aC,fmod->a_,fdiv->bg,ofNat_lt->bq,mul_le_mul_of_nonneg_left->br,zero_mul->bz,ofNat_le->bA,mul_zero->bD,le_of_eq->bR,le_of_lt->bU,not_lt->bX,lt_of_le_of_lt->b7,toNat_of_nonneg->cf,mul_comm->cu,mul_left_comm->cP,natAbs_neg->cW,le_refl->cZ,zero_add->dz,mul_assoc->dH,add_zero->dJ,one_mul->dO,natAbs_of_nonneg->dP,eq_ofNat_of_zero_le->dQ,toNat_natCast->dU,natAbs_sub_le->dW,natAbs_add_le->dX,pow_succ->eh,add_le_add->ej,fmod_nonneg_of_pos->eH,sub_mul->eI,lt_irrefl->eJ,neg_pos_of_neg->eQ,lt_of_lt_of_le->eR,fdiv_eq_ediv_of_nonneg->eS,natCast_pow->fb,natCast_mul->fc,mul_ne_zero->fe,mul_sub->fk,ofNat_sub->fq,add_le_add_left->fA,mul_le_mul_of_nonneg_right->fD,mul_add->fF,ofNat_natAbs_of_nonpos->fW,pow_zero->gh,lt_trans->gi,sub_add_cancel->gG,mul_nonneg_of_nonpos_of_nonpos->gH,mul_one->gK,mul_nonneg->gW,add_nonneg->gX,add_comm->gY,not_le->hZ,sub_le_sub_right->ig,mul_pos->ij,add_mul->ik,add_le_add_right->il,natCast_add->iB,toNat_lt->iM,natAbs_mul->iY,lt_or_gt_of_ne->iZ,le_add_of_nonneg_right->i4,fmod_lt_of_pos->i5,fmod_eq_emod_of_nonneg->i6,add_sub_cancel->i7,mul_pos_of_neg_of_neg->i_,le_add_of_nonneg_left->ja,neg_neg->jg,neg_mul->jh,natCast_sub->jG,ediv_nonneg->jH,neg_le_neg->jV,natAbs_lt_natAbs_of_nonneg_of_lt->j0,add_assoc->j1,mul_nonpos_of_nonpos_of_nonneg->j',neg_fdiv_neg->kY,natCast_succ->kZ,neg_sub->lx,natAbs_ediv_le_natAbs->mq,mul_neg_of_neg_of_pos->mr,le_of_add_le_add_left->mv,ofNat_inj->mG,neg_nonneg_of_nonpos->mH,ofNat->mY,toNat_le->nt,sub_zero->nu,sub_self->nv,sub_eq_iff_eq_add'->nx,lt_or_le->ny,le_total->nz,sub_eq_iff_eq_add->nQ,two_mul->n7,sub_sub->n8,pow_pos->n9,neg_le_of_neg_le->n_,neg_add->oa,lt_iff_le_and_ne->od,ediv_emod_unique->og,sub_eq_add_neg->oM,neg_neg_of_pos->oN,natAbs_natCast->oO,mul_right_comm->oP,lt_trichotomy->o6,add_left_comm->o7,neg_fmod_neg->pA,noConfusion->pO,pow_nonneg->p6,natAbs_pow->p7,le_natAbs->qj
open Int.ofNat renaming inj->da
open List renaming length_map->ao,range->aq,replicate->aw,getElem?_eq_getElem->aD,mem_cons->aE,length_append->aG,mem_singleton->aM,getElem?_eq_some_iff->aO,length_cons->aQ,length_range->aU,getElem?_set_ne->aV,getElem?_map->aZ,append_assoc->a8,append_nil->bh,size_toArray->bj,map_map->bk,getElem?_set_self->bu,map_cons->bB,getElem?_append_left->bC,mem_range->bF,mem_of_getElem?->bG,length_erase_le->bH,nodup_cons->bI,lookup_cons->bM,map_append->bN,mem_append->bO,mem_map->bY,getElem?_eq_none->b_,forall_mem_cons->ck,getD_eq_getElem?_getD->cq,length_reverse->cw,zip_cons_cons->cB,length_filter_le->cE,getElem_of_mem->cH,length_set->cN,length_eq_zero_iff->cO,erase_cons_head->cQ,toArray->c8,flatMap_cons->c9,range_eq_range'->dk,range'->dm,mem_filter->dr,foldl_cons->du,mem_reverse->dw,all_eq_true->dy,map_congr_left->dB,mem_append_right->dE,contains_iff_mem->dF,filter_cons->dK,getElem?_concat_length->dN,reverse_cons->dR,nil_append->dY,map_fst_zip->d_,length_range'->ed,length_erase_of_mem->ee,ext_getElem?->eu,replicate_succ->eD,flatMap_append->eE,length_pos_of_mem->eF,getElem?_append_right->eK,mem_of_mem_erase->eP,pairwise_map->e_,mem_append_left->fa,all_cons->fm,getElem?_range->fy,length_take->fz,range_succ->fK,length_nil->fL,range'_succ->fY,mem_flatMap->fZ,isEmpty_iff->f9,getLast?_eq_getElem?->gg,filterMap_cons->gm,forIn_cons->gy,length_replicate->g7,map_snd_zip->g_,any_eq_true->hH,any_cons->hY,length_zip->iq,length_pos_iff->iz,filter_sublist->iA,pairwise_cons->iP,mem_cons_self->iQ,filter_append->iS,nodup_append->i9,range'_eq_map_range->jf,map_reverse->jn,getElem?_replicate->jo,cons_append->jq,range_succ_eq_map->jB,map_nil->jC,drop_eq_nil_of_le->jD,all_map->jE,length->jN,drop_drop->jO,set_set->kh,mem_range'_1->ki,flatten_cons->kj,filter_congr->kl,not_mem_nil->kG,length_drop->kH,drop->kJ,lookup->kU,getLast?_eq_some_getLast->kW,filter_map->ll,erase_comm->lq,dropLast_concat_getLast->lu,perm_ext_iff_of_nodup->lJ,nodup_nil->lK,mem_of_find?_eq_some->lZ,getLast?_eq_none_iff->l9,drop_eq_getElem_cons->l_,map_take->ml,filterMap_cons_some->mm,filterMap_cons_none->mn,pairwise_singleton->mA,cons->mD,take_of_length_le->mU,filter_eq_nil_iff->mW,drop_of_length_le->mX,set_append_left->nJ,reverse_reverse->nK,perm_cons_erase->nL,map->nM,length_take_le'->nN,length_dropLast->nO,erase_cons_tail->nP,contains_cons->oD,getElem?_inj->oK,take_length->oX,isEmpty_nil->oY,flatMap_map->oZ,countP_cons->o1,of_mem_zip->px,find?_some->pz,filterMap->pM,drop_zero->pN,take_nil->pX,sum_cons->pY,drop_nil->pZ,all_nil->qi
open List.Sublist renaming map->iF
open List.cons renaming inj->fE
open Nat renaming le_trans->aa,le_refl->ag,lt_of_lt_of_le->ai,lt_of_le_of_lt->av,sub_add_cancel->aH,le_of_succ_le_succ->aJ,le_add_right->aK,le_of_eq->aN,add_le_add_left->aP,mul_le_mul_left->aW,pow_le_pow_right->aX,add_le_add_right->a9,add_sub_cancel_left->bc,le_of_lt->bl,add_le_add->bo,ne_of_gt->bw,add_comm->bx,two_pow_pos->bE,le_add_left_of_le->bJ,mul_comm->bQ,le_of_lt_succ->bT,lt_succ_self->bW,zero_add->bZ,le_of_succ_le->b6,lt_irrefl->b8,add_assoc->b9,div_lt_iff_lt_mul->cb,succ_add->cj,succ_le_succ->cm,le_add_left->cp,lt_of_le_of_ne->ct,mul_le_mul_right->cy,pow_add->cG,ne_of_lt->cJ,add_sub_cancel'->cK,add_lt_add_left->cM,not_lt->cU,add_right_comm->cV,le_succ->cY,sub_le->c7,mod_lt->dq,lt_succ_of_le->dD,mul_le_mul->dG,mul_succ->dS,lt_succ_of_lt->dT,zero_le->dZ,div_add_mod->d5,lt_trans->eG,pos_of_ne_zero->eM,lt_of_lt_of_eq->eN,eq_zero_or_pos->eO,sub_le_sub_right->fh,mul_one->fi,le_succ_of_le->fj,succ_pos->fI,mul_assoc->fP,lt_of_succ_lt->fU,lt_add_one_of_le->fV,succ_ne_zero->gb,one_le_of_lt->gf,exists_eq_add_of_le'->gx,le_antisymm->gA,not_le->gF,le_mul_of_pos_right->gI,exists_eq_add_of_le->gJ,sub_zero->gR,lt_of_succ_lt_succ->gS,le_mul_of_pos_left->gU,add_zero->gV,sub_lt->hU,le_of_not_lt->hV,two_mul->ia,one_mul->ib,mul_add->ic,div_le_div_right->ie,min_eq_left->iy,pow_succ->iI,mul_lt_mul_of_pos_right->iJ,min_self->iK,sub_pos_of_lt->jd,add_mul->je,lt_add_of_pos_right->ju,div_eq_of_lt->jv,sub_eq_zero_of_le->jL,mul_two->jS,lt_add_one_of_lt->jT,div_lt_of_lt_mul->jU,one_le_two_pow->j_,succ_mul->kr,lt_trichotomy->ku,lt_asymm->ky,le_one_iff_eq_zero_or_eq_one->kA,succ_ne_self->kR,lt_of_not_le->kT,pow_pos->lh,one_pos->lj,noConfusion->lz,min_le_left->lA,lt_add_left->lB,lt_of_add_lt_add_right->lU,add_lt_add_of_lt_of_le->lX,add_lt_add_of_le_of_lt->lY,sub_lt_left_of_lt_add->mi,add_mul_mod_self_left->mj,pow_succ'->my,testBit_mul_two_pow->mO,testBit_div_two_pow->mP,sub_le_iff_le_add'->nf,pow_zero->ng,ne_of_beq_eq_false->nh,le_of_add_right_le->ni,div_div_eq_div_mul->nj,beq->nk,le_div_iff_mul_le->nI,pow_one->nW,le_sub_one_of_lt->nX,le_sub_of_add_le->nY,eq_of_testBit_eq->nZ,add_sub_add_left->n0,add_mul_div_left->n3,add_lt_add_right->n4,sub_lt_sub_left->oy,pow_le_pow_left->oz,add_left_cancel->oA,mul_right_comm->oJ,succ_le_of_lt->oT,mul_left_comm->oU,add_pos_right->oV,add_left_comm->oW,succ_lt_succ->pn,mod_eq_of_lt->pq,mul_add_div->pL,succ->pW
open Nat.succ renaming inj->cC
open Ne renaming symm->fJ
open Neg renaming neg->nc
open Option renaming map_eq_some_iff->cg,bind_some->d8,isSome_iff_exists->gj,bind_eq_some_iff->gv,none_or->lg,isNone_iff_eq_none->ly,elim->mM,map_some->oI
open Option.some renaming inj->ae
open Prod renaming fst->nG
open Prod.mk renaming inj->b0,injEq->jM
open PyProof.Rows renaming step_dedup->iD,rangeInts->iO,exec_Assign->kg,firstMet->kQ,IntsAre->lC,get?_update_seq->mw,markedEach_of_false->pE
open PySem renaming wpAny_bind->af,Value->aj,Shared->ay,Expr->a7,Str->ba,Addr->bK,builtinLookup_eq_fast->cx,Params->cD,wpAny_holding->cT,mainGlobals->c_,Pos->dA,treeTable->dC,Expr->dI,typeLookup_type->dM,isSubtype_type->d6,World->d7,standAt->er,Operator->ew,Scope->eT,typeLookup->eW,builtinsNs->eX,stored->eZ,strKind->fg,wpAny_truthy_bool->fw,codeAny_call_builtin->fx,swappedStores->fC,Builtin->fG,rawInt->fH,Heap->fM,sysModules->fQ,wpAny_newObj_type->fX,Stmt->gn,holding->gq,Obj->gw,Sem->gE,backToKw->gM,call_meets->gQ,wpAny_callSpecial?_slot->gZ,sizeLine_eq->g6,valueAt->g9,wpAny_Call_ofName->hO,callWith_type->ip,wpAny_call_entry->iu,swapsWith->iw,cellsFrom->ix,Arguments->iC,Program->iE,wpAny_of_eq->iG,bindArgs->iH,wpAny_specialOf->iT,TriplesOk->jc,wpAny_pyIter_tuple->ji,newFunctionEnv->jk,wpAny_dictEntries->jz,codeAny->jA,seqIndex?->jI,entryFor_of_tree->jJ,Pairs->jK,wpAny_execs_nil->jW,importedModules->jX,wpAny_field->j3,wpAny_alloc->j4,sizeLine->j5,isTrue->j6,entryFor->j7,dictEntries->j8,callWith->j9,specialOf->ka,isSubtype->kb,behindInMarks->kF,Env->kK,wpAny_load->kN,Flow->k8,FuncBody->lD,wpAny_isInstance->lN,lastMarks->lO,dictDisplay->ma,codeAny_of_tree->mx,relabel->mI,notedBy->mJ,wpAny_setField->mZ,wpAny_seqItems->m4,wpAny_rule->m5,wpAny_call->m6,letTemporaryGo->m7,JoinOk->nr,wpAny_binaryOp_repeat_ref->nE,not_mem_of_findIdx_none->oq,dictPut->oG,int___rmul___int_list->oR,wpAny_loadName_local->o9,unsupported->o_,table->pb,dictFind->pd,alloc->pf,Const->pB,wpAny_loadName_cell->pD,any_of_findIdx_some->pG,Tok->pH,KeyKind->pK,wpAny_setSeqItemAt->pS,assignEach->pT,argsOk->pU,merged->pV,IsEnum->p0,wpAny_pyIter_list->qb,wpAny_pyIter_enum->qc,slot_list_setitem->qd,hashInt->qe,foldedSetIterable->qf,asItWas->qg,again->qh
open PySem.AutoListH renaming list_append_list_val_0->gz,list___mul___list_int_3->jQ
open PySem.AutoSeq1 renaming wpAny_loadPart'->f'
open PySem.Bind renaming lastOf->la,checkArgs->pR
open PySem.Builtin renaming divisionGoesByPylong->aS,bitNot->fu,bitAnd->fR,bitOr->i8,bitXor->jF
open PySem.Builtin.Int renaming intBits->au
open PySem.Builtin.List renaming listFitsIndex->hJ,listTooLong->km
open PySem.Builtin.Range renaming rangeSize->cz,small->jm,rangeFitsLong->jY
open PySem.Builtin.SmallTypes renaming nextOf->o8
open PySem.Builtin.Str renaming occurrences->kM,tooLong->lM
open PySem.Calls renaming callWith_builtin->jy,evalArgs_plain->nB,wpAny_keep->oQ
open PySem.Const.str renaming elim->kE
open PySem.Env renaming kindOf->ft,blockKind->qk
open PySem.Expr.Attribute renaming elim->k_
open PySem.Expr.Call renaming elim->kC
open PySem.Expr.Constant renaming elim->jx
open PySem.Expr.Lambda renaming elim->pj
open PySem.Expr.Name renaming elim->jw
open PySem.Expr.Slice renaming elim->nA
open PySem.Expr.Subscript renaming elim->k9
open PySem.Expr.Tuple renaming elim->j2
open PySem.F renaming slot_int_rmul->gN,args_list_mul_2->lE,args_int_rmul_2->lH,slot_int_index->lQ,entry_list_mul->lR,entry_int_rmul->lT,slot_list_mul->mf,fills_int_mul->mh
open PySem.Heap renaming get?_push_of_some->aY,get?_push_size->bb,lt_size->bP,get?_update_self->d9,SameBut->ff,get?_none_of_le->jP,size_push->lL,ExtBut->nR,get?_update_ne->oh
open PySem.Heap.Ns renaming new->pP
open PySem.Heap.SameBut renaming update->cS
open PySem.IntMulOk renaming of_le->oF
open PySem.Manifest renaming signature?->mz,canonical->mQ,find?->oC
open PySem.Obj renaming mapSeq->iW,data_mapFields->iX,isFreed_of_fields->nH,data_mapDictKeys->nV,isFreed_of_dict->ox,cls_mapFields->oS,data_mapDict->pk
open PySem.PyData renaming keyHash->fS
open PySem.SeqAt renaming RcNeAt->m_,EqAt->p8
open PySem.SeqAt.EqAt renaming bool_bool->pQ
open PySem.Stmt.FunctionDef renaming elim->pJ
open PySem.Str renaming ofString->az,join->iU,cps_append->jR,empty->ph
open PySem.StrLaws renaming glued_between_self->kO,glued_eq_join->me
open PySem.Txt renaming replace->cX,lower->iN,find->jr,join->lP
open PySem.Value renaming type->dh,builtin->g8,ref->jl,bool->jZ,isStrOf_shape->nF,noConfusion->ou,isInt_shape->ov
open PySem.W renaming boot_drawn->eY,boot_heap->gu,topRun->jj,segRun_of->oo,boot_toks->ot,SharedT->oH,CodeHd->p9
open PySem.W.Fast renaming te14364793385576792824->js,te10110043849684766642->jt
open PySem.Walks renaming tuple->m8,range->m9,list->nU
open Option renaming some->Y,none->N
noncomputable section
namespace Zz
@[elab_as_elim] theorem Q {o:Sort _}{G p:o}{b:o->Prop}(e:G=p)(a:b p):b G:=e▸a
@[elab_as_elim] theorem J {o:Sort _}{G p:o}{b:o->Prop}(e:p=G)(a:b p):b G:=e▸a
theorem rF {G:Prop}(t:A/\sX)(o:A->sX->G):G:=o t.1 t.2
theorem qJ {G:Prop}{k:Prop}(t:A/\sX/\G)(o:A->sX->G->k):k:=o t.1 t.2.1 t.2.2
theorem ri {G:Prop}(H:A)(p:sX)(a:G):A/\sX/\G:=⟨H,p,a⟩
theorem uP {G k:Prop}{u:Prop}(t:A/\sX/\G/\k)(o:A->sX->G->k->u):u:=o t.1 t.2.1 t.2.2.1 t.2.2.2
theorem tb {G k:Prop}(H:A)(p:sX)(a:G)(b:k):A/\sX/\G/\k:=⟨H,p,a,b⟩
theorem Vd {G k u:Prop}{n:Prop}(t:A/\sX/\G/\k/\u)(o:A->sX->G->k->u->n):n:=o t.1 t.2.1 t.2.2.1 t.2.2.2.1 t.2.2.2.2
theorem Ee {G k u:Prop}(H:A)(p:sX)(a:G)(b:k)(q:u):A/\sX/\G/\k/\u:=⟨H,p,a,b,q⟩
theorem Vc {H k u n:Prop}(I:A)(p:sX)(a:H)(b:k)(q:u)(T:n)(o:G):A/\sX/\H/\k/\u/\n/\G:=⟨I,p,a,b,q,T,o⟩
theorem rM {p:Sort _}{b:p->Prop}{v:Prop}(U:∃G,b G)(o:∀G,b G->v):v:=U.elim λG U=>o G U
theorem NQ {o:Sort _}{b:o->Prop}(G:o)(p:b G):∃G,b G:=⟨G,p⟩
theorem qt {p:Sort _}{b T:p->Prop}{v:Prop}(U:∃G,b G/\T G)(o:∀G,b G->T G->v):v:=U.elim λG U=>o G U.1 U.2
theorem qp {o:Sort _}{b U:o->Prop}(G:o)(p:b G)(a:U G):∃G,b G/\U G:=⟨G,p,a⟩
theorem rT {p:Sort _}{b T g:p->Prop}{v:Prop}(U:∃G,b G/\T G/\g G)(o:∀G,b G->T G->g G->v):v:=U.elim λG U=>o G U.1 U.2.1 U.2.2
theorem ru {o:Sort _}{b U g:o->Prop}(G:o)(p:b G)(a:U G)(c:g G):∃G,b G/\U G/\g G:=⟨G,p,a,c⟩
theorem HD {p:Sort _}{b T g n:p->Prop}{v:Prop}(U:∃G,b G/\T G/\g G/\n G)(o:∀G,b G->T G->g G->n G->v):v:=U.elim λG U=>o G U.1 U.2.1 U.2.2.1 U.2.2.2
theorem HA {o:Sort _}{b U g n:o->Prop}(G:o)(p:b G)(a:U G)(c:g G)(q:n G):∃G,b G/\U G/\g G/\n G:=⟨G,p,a,c,q⟩
theorem HC {p:Sort _}{b T g n G:p->Prop}{v:Prop}(U:∃H,b H/\T H/\g H/\n H/\G H)(o:∀H,b H->T H->g H->n H->G H->v):v:=U.elim λH U=>o H U.1 U.2.1 U.2.2.1 U.2.2.2.1 U.2.2.2.2
theorem zA {o:Sort _}{b U g n G:o->Prop}(H:o)(p:b H)(a:U H)(c:g H)(q:n H)(T:G H):∃H,b H/\U H/\g H/\n H/\G H:=⟨H,p,a,c,q,T⟩
theorem Ed {o:Sort _}{b U g n G a:o->Prop}(H:o)(p:b H)(c:U H)(d:g H)(q:n H)(T:G H)(s:a H):∃H,b H/\U H/\g H/\n H/\G H/\a H:=⟨H,p,c,d,q,T,s⟩
theorem sd {q:Sort _}{v:Sort _}{b:q->v->Prop}{A:Prop}(U:∃G p,b G p)(o:∀G p,b G p->A):A:=U.elim λG U=>U.elim λp U=>o G p U
theorem tG {o:Sort _}{v:Sort _}{b:o->v->Prop}(G:o)(p:v)(a:b G p):∃G p,b G p:=⟨G,p,a⟩
theorem zB {q:Sort _}{v:Sort _}{b T:q->v->Prop}{A:Prop}(U:∃G p,b G p/\T G p)(o:∀G p,b G p->T G p->A):A:=U.elim λG U=>U.elim λp U=>o G p U.1 U.2
theorem wy {o:Sort _}{v:Sort _}{b U:o->v->Prop}(G:o)(p:v)(a:b G p)(c:U G p):∃G p,b G p/\U G p:=⟨G,p,a,c⟩
theorem qY {q:Sort _}{v:Sort _}{b T g:q->v->Prop}{A:Prop}(U:∃G p,b G p/\T G p/\g G p)(o:∀G p,b G p->T G p->g G p->A):A:=U.elim λG U=>U.elim λp U=>o G p U.1 U.2.1 U.2.2
theorem ta {o:Sort _}{v:Sort _}{b U g:o->v->Prop}(G:o)(p:v)(a:b G p)(c:U G p)(q:g G p):∃G p,b G p/\U G p/\g G p:=⟨G,p,a,c,q⟩
theorem xP {q:Sort _}{v:Sort _}{b T g n:q->v->Prop}{A:Prop}(U:∃G p,b G p/\T G p/\g G p/\n G p)(o:∀G p,b G p->T G p->g G p->n G p->A):A:=U.elim λG U=>U.elim λp U=>o G p U.1 U.2.1 U.2.2.1 U.2.2.2
theorem uu {o:Sort _}{v:Sort _}{b U g n:o->v->Prop}(G:o)(p:v)(a:b G p)(c:U G p)(q:g G p)(T:n G p):∃G p,b G p/\U G p/\g G p/\n G p:=⟨G,p,a,c,q,T⟩
theorem Hz {o:Sort _}{v:Sort _}{b U g n G:o->v->Prop}(H:o)(p:v)(a:b H p)(c:U H p)(q:g H p)(T:n H p)(s:G H p):∃H p,b H p/\U H p/\g H p/\n H p/\G H p:=⟨H,p,a,c,q,T,s⟩
theorem Hy {o:Sort _}{v:Sort _}{b U g n G a:o->v->Prop}(H:o)(p:v)(c:b H p)(d:U H p)(q:g H p)(T:n H p)(s:G H p)(e:a H p):∃H p,b H p/\U H p/\g H p/\n H p/\G H p/\a H p:=⟨H,p,c,d,q,T,s,e⟩
theorem acS {q:Sort _}{v:Sort _}{A:Sort _}{b:q->v->A->Prop}{k:Prop}(U:∃G p a,b G p a)(o:∀G p a,b G p a->k):k:=U.elim λG U=>U.elim λp U=>U.elim λa U=>o G p a U
theorem acR {q:Sort _}{v:Sort _}{A:Sort _}{b T:q->v->A->Prop}{k:Prop}(U:∃G p a,b G p a/\T G p a)(o:∀G p a,b G p a->T G p a->k):k:=U.elim λG U=>U.elim λp U=>U.elim λa U=>o G p a U.1 U.2
theorem wR {o:Sort _}{v:Sort _}{A:Sort _}{b U:o->v->A->Prop}(G:o)(p:v)(a:A)(c:b G p a)(q:U G p a):∃G p a,b G p a/\U G p a:=⟨G,p,a,c,q⟩
theorem Eg {q:Sort _}{v:Sort _}{A:Sort _}{b T g:q->v->A->Prop}{k:Prop}(U:∃G p a,b G p a/\T G p a/\g G p a)(o:∀G p a,b G p a->T G p a->g G p a->k):k:=U.elim λG U=>U.elim λp U=>U.elim λa U=>o G p a U.1 U.2.1 U.2.2
theorem Ec {o:Sort _}{v:Sort _}{A:Sort _}{b U g:o->v->A->Prop}(G:o)(p:v)(a:A)(c:b G p a)(q:U G p a)(T:g G p a):∃G p a,b G p a/\U G p a/\g G p a:=⟨G,p,a,c,q,T⟩
theorem Ef {q:Sort _}{v:Sort _}{A:Sort _}{b T g n:q->v->A->Prop}{k:Prop}(U:∃G p a,b G p a/\T G p a/\g G p a/\n G p a)(o:∀G p a,b G p a->T G p a->g G p a->n G p a->k):k:=U.elim λG U=>U.elim λp U=>U.elim λa U=>o G p a U.1 U.2.1 U.2.2.1 U.2.2.2
theorem AJ {o:Sort _}{v:Sort _}{A:Sort _}{b U g n:o->v->A->Prop}(G:o)(p:v)(a:A)(c:b G p a)(q:U G p a)(T:g G p a)(s:n G p a):∃G p a,b G p a/\U G p a/\g G p a/\n G p a:=⟨G,p,a,c,q,T,s⟩
theorem Eb {o:Sort _}{v:Sort _}{A:Sort _}{b U g n G a:o->v->A->Prop}(H:o)(p:v)(c:A)(d:b H p c)(q:U H p c)(T:g H p c)(s:n H p c)(e:G H p c)(L:a H p c):∃H p c,b H p c/\U H p c/\g H p c/\n H p c/\G H p c/\a H p c:=⟨H,p,c,d,q,T,s,e,L⟩
theorem acQ {q:Sort _}{v:Sort _}{A:Sort _}{k:Sort _}{b:q->v->A->k->Prop}{u:Prop}(U:∃G p a c,b G p a c)(o:∀G p a c,b G p a c->u):u:=U.elim λG U=>U.elim λp U=>U.elim λa U=>U.elim λc U=>o G p a c U
theorem Hx {o:Sort _}{v:Sort _}{A:Sort _}{k:Sort _}{b U:o->v->A->k->Prop}(G:o)(p:v)(a:A)(c:k)(q:b G p a c)(T:U G p a c):∃G p a c,b G p a c/\U G p a c:=⟨G,p,a,c,q,T⟩
theorem HB {q:Sort _}{v:Sort _}{A:Sort _}{k:Sort _}{b T g:q->v->A->k->Prop}{u:Prop}(U:∃G p a c,b G p a c/\T G p a c/\g G p a c)(o:∀G p a c,b G p a c->T G p a c->g G p a c->u):u:=U.elim λG U=>U.elim λp U=>U.elim λa U=>U.elim λc U=>o G p a c U.1 U.2.1 U.2.2
theorem AI {o:Sort _}{v:Sort _}{A:Sort _}{k:Sort _}{b U g n:o->v->A->k->Prop}(G:o)(p:v)(a:A)(c:k)(q:b G p a c)(T:U G p a c)(s:g G p a c)(d:n G p a c):∃G p a c,b G p a c/\U G p a c/\g G p a c/\n G p a c:=⟨G,p,a,c,q,T,s,d⟩
theorem Hw {o:Sort _}{v:Sort _}{A:Sort _}{k:Sort _}{b U g n G:o->v->A->k->Prop}(H:o)(p:v)(a:A)(c:k)(q:b H p a c)(T:U H p a c)(s:g H p a c)(d:n H p a c)(L:G H p a c):∃H p a c,b H p a c/\U H p a c/\g H p a c/\n H p a c/\G H p a c:=⟨H,p,a,c,q,T,s,d,L⟩
theorem NS {q:Sort _}{v:Sort _}{A:Sort _}{k:Sort _}{u:Sort _}{b:q->v->A->k->u->Prop}{n:Prop}(U:∃G p a c s,b G p a c s)(o:∀G p a c s,b G p a c s->n):n:=U.elim λG U=>U.elim λp U=>U.elim λa U=>U.elim λc U=>U.elim λs U=>o G p a c s U
theorem Hv {o:Sort _}{v:Sort _}{A:Sort _}{k:Sort _}{u:Sort _}{b:o->v->A->k->u->Prop}(G:o)(p:v)(a:A)(c:k)(q:u)(T:b G p a c q):∃G p a c q,b G p a c q:=⟨G,p,a,c,q,T⟩
theorem acP {q:Sort _}{v:Sort _}{A:Sort _}{k:Sort _}{u:Sort _}{b L:q->v->A->k->u->Prop}{n:Prop}(U:∃G p a c s,b G p a c s/\L G p a c s)(o:∀G p a c s,b G p a c s->L G p a c s->n):n:=by obtain ⟨G,p,a,c,s,T,t⟩:=U;exact o G p a c s T t
theorem ql {o:Prop}{b:Decidable o}(G:o) {v:Sort _}{p a:v}:@ite v o b p a=p:=if_pos G
theorem qm {o:Prop}{b:Decidable o}(G:¬o) {v:Sort _}{H p:v}:@ite v o b H p=p:=if_neg G
theorem qn {o:Sort _}{v:Sort _}{G p:o}(b:o->v) (e:G=p):b G=b p:=congrArg b e
theorem Ea:∀{q:Int}{c:Nat},0<=q/\q<↑c->q.toNat<c:=λt=>(iM t.1).mpr t.2
theorem NP:∀{q:Int},q<0->-q-1=↑(-q-1).toNat:=λG=>(cf (Int.sub_nonneg_of_le (eQ G))).symm
theorem NO:∀{q a x2:Int},x2<=a->¬x2<q->q<=a:=λw G=>aB (bX.mp G) w
theorem NN:∀{c h x2 x3:Nat},h=x2->x3+c=x2->x3<h->c=c-1+1:=λe i G=>(aH (Nat.pos_of_lt_add_right (eN G (e.trans i.symm)))).symm
theorem NM:∀{q:Int},(-1)*q=-q:=by intros;lia
theorem NL:∀{q a x2:Int},q<=x2->x2*1<=a->q<=a:=λw i=>aB w (aB (bR (gK _).symm) i)
theorem D':∀{q:Int}{c:Nat},0<=q+↑c/\q+↑c<↑c->(q+↑c).toNat<c:=λt=>(iM t.1).mpr t.2
theorem NK:∀{q a x2 x3:Int},a=x2-(x3+q)->q+a=x2-x3:=by intros;lia
theorem NJ:∀{q:Int}{c:Nat},q.natAbs<c->49+q.natAbs<=49*c:=λG=>aa (aa (aP (gU _ (by decide)) _) (aN (bx ..))) (aW 49 G)
theorem NI:∀{c h x2 x3 x4 x5:Nat},c<=282475249*x3->x3<=x4->x5<=x4->4294967296*x4<=x2->h<x5->2*c+h<x2:=λw i b T G=>ai (lY (aW 2 (aa w (aW _ i))) (ai G b)) (aa (by rw[<- fP,<-kr];exact cy _ (by decide)) T)
theorem NH:∀{c h x2:Nat},x2+(h+1)<=50->c<=x2->c<=60:=λw i=>aa i (aa (aK ..) (aa w (by decide)))
theorem NG:∀{q a:Int},0<=a/\a<=3->q<=a*3->q<=9:=λt w=>aB w (fD t.2 (by decide))
theorem NF:∀{c h:Nat},h<c->c-h=c-(h+1)+1:=λG=>(Nat.succ_pred_eq_of_pos (jd G)).symm
theorem ND:∀{q a x2 x3 x4:Int},q<=x3->x3<=x4+x2->x4<=a->q<=a+x2:=λw i b=>aB w (aB i (il b _))
theorem NC:∀{q:Int}{c x2:Nat},c<=65536->0<=q/\x2=q.toNat\/q<0/\-↑c<=q/\x2=(q+↑c).toNat->-2^63<=q:=λw n=>n.elim (λn=>aB (by decide) n.1) λn=>aB (aB (by decide:(-2^63:Int)<=-(65536:Nat)) (jV (bA.mpr w))) n.2.1
theorem NB:∀{q a x2 x3 x4:Int},q<=x3+x4->a+x3+x4<=x2->q<=-(a-x2):=λw i=>aB w (aB (Int.le_sub_left_of_add_le (aB (bR (j1 ..).symm) i)) (bR (lx ..).symm))
theorem AH:∀{c h:Nat},c+(h+1)<=50->c+1+h<=50:=@λc h w=>aa (aN (cj c h)) w
theorem NA:∀{c h x2:Nat},c<x2->h+1=x2->¬c+1=x2->c<h:=λG e H=>ct (bT (eN G e.symm)) λi=>H ((congrArg (·+1) i).trans e)
theorem Nz:∀{q a:Int}{c:Nat},a<=9*↑c->q<=9->q+a<=9*↑(c+1):=@λq a c w i=>aB (ej i w) (bR ((gY ..).trans (fF 9 c 1).symm))
theorem Ny:∀{c h:Nat}{x2:Int},x2<↑h->x2=↑c->c<h:=λG e=>bq.mp (e▸G)
theorem Nx:∀{q a x2:Int},q+a=q+x2+(a-x2):=by intros;lia
theorem Nv:∀{q:Int}{c:Nat},0<=q+↑c/\q+↑c<↑c->q<↑c:=@λq c t=>eR (Int.lt_of_add_lt_add_right (eR t.2 (bR (dz _).symm))) (aC c)
theorem Nu:∀{c h:Nat},↑c+(-↑h-(1:Int))<↑c:=by intros;lia
theorem Nt:∀{c h x2 x3:Nat},c<x3->h+x3<=x2->c+h<x2:=λG w=>ai (av (aN (bx ..)) (cM G _)) w
theorem Nr:∀{c h t T z:Nat},c<=h+z+0+t->z<=T->c<=h+(t+T):=@λc h t T z w i=>aa w (aa (aN ((b9 h z t).trans (congrArg (h+·) (bx ..)))) (aP (aP i _) _))
theorem Nq:∀{c h x2:Nat},x2+(c+1)=h->c<h:=λe=>e▸cp ..
theorem Np:∀{q a:Int},a<q->¬q<a:=λG T=>eJ _ (gi G T)
theorem Nn:∀{c h x2 x3:Nat},h<=x2->c<=x3->c+h<=x2+x3:=λw i=>aa (bo i w) (aN (bx ..))
theorem Nm:∀{q a:Int},0<=q->0<a->0<q+a:=λw G=>Int.add_pos_of_nonneg_of_pos w G
theorem Nl:∀{q a d G n:Int},0<a->d<=G->G<=n->d=n+q->q<a:=@λq a d G n H w i e=>b7 (mv (aB (bR e.symm) (aB (aB w i) (bR (dJ n).symm)))) H
theorem Nk:∀{q:Int}{c x2:Nat},c<=65536->x2<c->0<=q/\x2=q.toNat\/q<0/\-↑c<=q/\x2=(q+↑c).toNat->q<2^63:=λw G n=>n.elim (λn=>b7 (bR (cf n.1).symm) (eR (bq.mpr (n.2▸ai G w)) (by decide:((65536:Nat):Int)<=2^63))) λn=>gi n.1 (by decide)
theorem Nj:∀{c h:Nat},c=h->0<h->c<=h-1->False:=@λc h e G w=>b8 c (av w (eN (hU G lj) e.symm))
theorem Ni:∀{c h:Nat},0<h->c<=h-1->c<h:=λG w=>av w (hU G lj)
theorem Nh:∀{c h x2:Nat},h+(x2+1)<=50->c=h->c<=60:=λw e=>e▸aa (aK ..) (aa w (by decide))
theorem Ng:∀{c h:Nat},h<=16000->c<=30000->c+h-1<=50000:=λw i=>aa (c7 ..) (aa (bo i w) (by decide))
theorem Nf:∀{q:Int}{c h t T z:Nat},h<t->↑(T+h)=↑z-↑c+q->T+t<=z->q<↑c:=@λq c h t T z G e w=>hZ.mp λi=>eJ _ (eR (bq.mpr (ai (cM G T) w)) (aB (aB (bR (gG (z:Int) c).symm) (fA i _)) (bR e.symm)))
theorem Nd:∀{q a:Int},q<0->q+a<a:=@λq a G=>eR (Int.add_lt_add_right G a) (bR (dz _))
theorem Nc:∀{q a:Int},-(-q - -a)=q-a:=by intros;lia
theorem Nb:∀{c h x2 x3:Nat},x2+h=x3->↑c+(-↑h-(1:Int))+(-↑x2-↑c)=-↑x3-(1:Int):=by intros;lia
theorem Na:∀{q:Int},0<q->-q<0:=λG=>oN G
theorem yv:∀{q:Int},0<=q->0<=q+1:=λw=>gX w (by decide)
theorem M':∀{c h:Nat},c<h+1->¬c=h->c<h:=λG H=>ct (bT G) H
theorem M_:∀{q a d G n:Int},G<=n->0<=a->q+n<=-d->q<=a-d-G:=@λq a d G n w i b=>aB (Int.le_sub_right_of_add_le b) (Int.sub_le_sub (aB (bR (Int.zero_sub d).symm) (ig i _)) w)
theorem M9:∀{q a:Int},a<=0->0<a->q<=0:=λw G=>absurd w (hZ.mpr G)
theorem M8:∀{c h t T:Nat},h=t->c+(T+1)=t->c<h:=@λc h t T e i=>eN (ju (fI T)) (i.trans e.symm)
theorem M7:∀{q:Int}{c:Nat}{a:Int},↑q.natAbs<=a->2*a<↑c->q.natAbs<c:=@λq c a w G=>bq.mp (b7 (aB w (aB (bR (dO a).symm) (fD (by decide) (aB (aC _) w)))) G)
theorem M6:∀{q a:Int},0<=a->0<q->0<q+a:=λw G=>Int.add_pos_of_pos_of_nonneg G w
theorem M5:∀{c h:Nat},c<=h+1->¬c=h+1->c<=h:=λw G=>bT (ct w G)
theorem M4:∀{c h:Nat},c<=60->c-h<=65536:=λw=>aa (c7 ..) (aa w (by decide))
theorem M3:∀{q a x2:Int},x2<=a->q<x2->q<=a:=λw G=>aB (bU G) w
theorem D_:∀{c h x2:Nat},c=h->c<=h+x2:=λe=>e▸aK ..
theorem M1:∀{c h x2:Nat},h=x2->h+c=x2->c=0:=λe i=>oA (i.trans e.symm)
theorem M0:∀{c h:Nat},h<c->(0:Int)<=↑c+(-↑h-(1:Int)):=by intros;lia
theorem MZ:∀{c h t:Nat},h<=c->t<=h->c=h-t+(c-h+t):=@λc h t w i=>by rw[bx (c-h),<-b9,aH i,cK w]
theorem MY:∀{c:Nat}{q:Int},q=-↑c-1->c<=q.natAbs:=@λc q e=>aa (cY c) (aN (by rw[e,oM,<-oa,cW];rfl))
theorem MX:∀{q a:Int}{x2:Nat},a.natAbs<2^50->(q+a).natAbs<=x2+a.natAbs->(q+a).natAbs<=x2+2^51:=λG w=>aa w (aP (aa (bl G) (by decide)) _)
theorem MW:∀{c h x2:Nat},c*1<=x2->c<=h+x2:=λw=>aa (aN (fi _).symm) (aa w (cp ..))
theorem MV:∀{q:Int}{c:Nat},0<=q/\q<↑c->q<↑c:=λt=>t.2
theorem MU:∀{q a:Int},a=q->(-3)<=a/\a<=21->q.natAbs<=21:=λe t=>e▸(Int.natAbs_eq _).elim (λi=>bA.mp (aB (bR i.symm) t.2)) λi=>bA.mp (aB (Int.le_of_neg_le_neg (aB t.1 (bR i))) (by decide))
theorem MT:∀{c h t T:Nat},c=T->h+(t+1)=T->c-1-h=t:=@λc h t T e i=>(congrArg (λz=>z-1-h) (e.trans i.symm)).trans (bc h t)
theorem MS:∀{c h:Nat},h<=20000->(c+5)*1<=h->c<=20000:=@λc h w i=>aa (aK c 5) (aa (aN (fi _).symm) (aa i w))
theorem MR:∀{c:Nat}{q:Int}{x2:Nat},32+6*c<=32+6*c+q.toNat+x2:=by intros;lia
theorem MQ:∀{q a d G n:Int},0<=a->d<=G->G<=n->d=n+q->q<=a:=@λq a d G n w i b e=>aB (mv (aB (bR e.symm) (aB (aB i b) (bR (dJ n).symm)))) w
theorem MP:∀{c:Nat},c<=2*5->c<=100000:=λw=>aa w (by decide)
theorem MO:∀{c h t:Nat},c+(h+1)=t->c+1+h=t:=@λc h t e=>(cj c h).trans e
theorem MN:∀{q a:Int},q<=a->0+q<=a:=λw=>aB (bR (dz _)) w
theorem MM:∀{q:Int}{c x2:Nat},c<=65536->x2<c->0<=q/\x2=q.toNat\/q<0/\-↑c<=q/\x2=(q+↑c).toNat->¬q < -2^63/\¬q≥2^63:=λw G n=>⟨bX.mpr (n.elim (λG=>aB (by decide) G.1) λG=>aB (aB (by decide:(-2^63:Int)<=-(65536:Nat)) (jV (bA.mpr w))) G.2.1),hZ.mpr (n.elim (λn=>b7 (bR (cf n.1).symm) (eR (bq.mpr (n.2▸ai G w)) (by decide:((65536:Nat):Int)<=2^63))) λn=>gi n.1 (by decide))⟩
theorem ML:∀{c h:Nat}{x2:Int},x2=↑c->x2=↑h->c=h:=λe i=>da (e.symm.trans i)
theorem YI:∀{n:Nat},0<n->(-1:Int)=((n-1:Nat):Int)-n
 |n+1,J=>(nx.mpr (Int.add_neg_cancel_right n 1).symm).symm
theorem Sh {L:Int}{U:Nat}(T:-3<=L/\L<=3) (e:L+3=U):U<7:=bq.mp<|e▸b7 (il T.2 3) (by decide)
theorem YH {I:Int}{T:Nat}(L:0<=I/\I<=3) (U:13<=T):1+4*I.toNat<=T:=aa (aP (aW 4<|nt.mpr L.2) 1) U
theorem ag4 {U:Nat}(L:f+s=g+U)(T:A+U=sX+Di):A+f+s=sX+g+Di:=(b9 ..).trans<|(congrArg (A+·) L).trans<|(oW ..).trans<|(congrArg (g+·) T).trans<|(oW ..).trans (b9 ..).symm
theorem ag5:∀{n U:Nat},0<n->n+1+U=n-1+U+2
 |n+1,U,J=>cV n 2 U
theorem NR {U:Nat}(T:U<=65536):-65537<=(U:Int)/\(U:Int)<=65537:=⟨aB (by decide) (aC U),bA.mpr<|fj T⟩
theorem acO {U:Nat}{T:Int}(I:U<=65536) (L:-(U:Int)<=T) (H:T<U):-2^63<=T/\T<2^63:=⟨aB (jV<|bA.mpr<|aa I<|by decide) L,gi H<|bq.mpr<|av I<|by decide⟩
theorem Si (U:-3<=x/\x<=3):0<=x+3:=il U.1 3
end Zz
end
open Zz
noncomputable section
namespace Mp
abbrev Po:=Nat->Int
noncomputable def qw (b:Nat->Int):List Nat->Int
 |[]=>0|u::l=>b u+qw b l
theorem Rj {a:List Nat}(b:v∈a):(a.erase v).length+1=a.length:=Q (ee b)<|aH<|eF b
theorem OW {a:List Nat}(b:v∈a)(x:a.length<=n+1):(a.erase v).length<=n:=aJ<|aa (aN<|Rj b) x
theorem qQ {b e:Nat->Int}:∀{l:List Nat},(∀u∈l,b u=e u)->qw b l=qw e l
 |[]=>@λJ=>rfl
 |u::l=>@λg=>by refine (Q (g u<|.head _)<|Q (qQ λh a=>g h<|.tail _ a) rfl:b u+qw b l=e u+qw e l)
theorem xB (b e:Nat->Int):∀a,qw (λu=>b u+e u) a=qw b a+qw e a
 |[]=>rfl|u::a=>by refine (Q (xB b e a) ?_:(b u+e u)+qw (λu=>b u+e u) a=(b u+qw b a)+(e u+qw e a));lia
theorem xA (b f:Nat->Int)(a):qw (λc=>b c-f c) a=qw b a-qw f a:=by
 induction a with
 |nil=>rfl|cons c a e=>
  refine (Q e ?_:(b c-f c)+qw (λc=>b c-f c) a=(b c+qw b a)-(f c+qw f a));lia
theorem r8 (q)(b:Nat->Int):∀a,qw (λu=>q*b u) a=q*qw b a
 |[]=>(bD q).symm|u::a=>by refine (Q (r8 q b a)<|Q (fF ..) rfl:q*b u+qw (λu=>q*b u) a=q*(b u+qw b a))
theorem xQ {b:Nat->Int}:∀{l:List Nat},(∀u∈l,0<=b u)->0<=qw b l
 |[]=>@λJ=>cZ _
 |u::l=>@λe=>gX (e u<|.head _)<|xQ λh a=>e h<|.tail _ a
theorem sZ:∀a:List Nat,qw (λJ=>0) a=0
 |[]=>rfl|_::a=>by show 0+qw (λJ=>0) a=0;exact Q (sZ a) rfl
theorem BE {b:Nat->Int}{a:List Nat}(T:a.Perm k):qw b a=qw b k:=by
 induction T with
 |nil=>rfl|cons c J e=>refine (?_:b c+_=b c+_);refine Q e rfl
 |swap c h a=>exact (o7 _ _ _:b h+(b c+_)=b c+(b h+_))|trans J W i n=>exact i.trans n
theorem UJ (b:Nat->Nat->Int):∀{l:List Nat},l.Nodup->qw (λc=>qw (λh=>b c h)<|l.erase c) l=qw (λh=>qw (λc=>b c h)<|l.erase h) l
 |[]=>@λW=>rfl
 |a::l=>@λx=>by
  have t:=bI.mp x;have G:∀c∈l,(a::l).erase c=a::l.erase c:=λc e=>by rw[nP];simp;rintro rfl;exact t.1 e
  refine (Q (cQ ..) ?_:qw (λh=>b a h) ((a::l).erase a)+qw (λc=>qw (λh=>b c h)<|(a::l).erase c) l=qw (λc=>b c a) ((a::l).erase a)+qw (λh=>qw (λc=>b c h)<|(a::l).erase h) l);exact Q (J (xB ..)<|qQ λc e=>Q (G c e) rfl:qw (λc=>qw (λh=>b c h)<|(a::l).erase c) l=qw (λc=>b c a) l+qw (λc=>qw (λh=>b c h)<|l.erase c) l)<|Q (J (xB ..)<|qQ λc e=>Q (G c e) rfl:qw (λh=>qw (λc=>b c h)<|(a::l).erase h) l=qw (λh=>b a h) l+qw (λh=>qw (λc=>b c h)<|l.erase h) l)<|Q (UJ b t.2)<|o7 _ _ _
noncomputable def sh (A:Po):Po
 |0=>0|j+1=>A j
section
variable (d:Nat->Int) (w:Nat->Nat->Int)
noncomputable def mu:Nat->List Nat->Po
 |J,[]=>λc=>if c=0 then 1 else 0
 |0,_::_=>λJ=>0
 |n+1,t::S=>λc=>sh (mu n S) c-d t*mu n S c-qw (λT=>w t T*mu n (S.erase T) c) S
theorem Qz:∀c,mu d w c []=λh=>if h=0 then 1 else 0
 |0=>rfl|J+1=>rfl
theorem FQ:∀(n m:Nat)(S:List Nat),S.length<=n->S.length<=m->mu d w n S=mu d w m S
 |0,0,S,J,W=>rfl|n,m,[],J,W=>(Qz d w n).trans (Qz d w m).symm
 |n+1,m+1,t::S,x,i=>by
  have x:=aJ x;have i:=aJ i
  funext j
  refine (Q (FQ n m S x i) ?_:sh (mu d w n S) j-d t*mu d w n S j-qw (λz=>w t z*mu d w n (S.erase z) j) S=sh (mu d w m S) j-d t*mu d w m S j-qw (λz=>w t z*mu d w m (S.erase z) j) S);congr 1;exact qQ λz a=>by refine Q (FQ n m (S.erase z) (aa (bH ..) x)<|aa (bH ..) i) rfl
def m (a:List Nat):Po:=mu d w a.length a
theorem CG (c):m d w [] c=if c=0 then 1 else 0:=rfl
theorem tj (c)(a)(h):m d w (c::a) h=sh (m d w a) h-d c*m d w a h-qw (λt=>w c t*m d w (a.erase t) h) a:=by show sh (mu d w a.length a) h-d c*mu d w a.length a h-qw (λt=>w c t*mu d w a.length (a.erase t) h) a=_;congr 1;exact qQ λt b=>Q (FQ d w a.length (a.erase t).length (a.erase t) (bH ..)<|ag _) rfl
end
theorem Dz {A T:Po}(b:∀j,A j=T j):∀j,sh A j=sh T j
 |0=>rfl|j+1=>b j
theorem ZF (b:Nat->Po)(a):∀j,sh (λh=>qw (λt=>b t h) a) j=qw (λt=>sh (b t) j) a
 |0=>(sZ a).symm|j+1=>rfl
theorem ZG (A T i:Po)(q):∀j,sh (λh=>A h-q*T h-i h) j=sh A j-q*sh T j-sh i j
 |0=>by refine (?_:(0:Int)=0-q*0-0);lia
 |j+1=>rfl
theorem Ka {a:List Nat}(G:c∉a)(b:u∈a):(c::a).erase u=c::a.erase u:=by rw[nP];simp;rintro rfl;exact G b
theorem VO {S:List Nat}(G:b∉S)(g:c≠b)(t):m d f (c::b::S) t =
  (sh (sh<|m d f S) t-d b*sh (m d f S) t-qw (λT=>f b T*sh (m d f<|S.erase T) t) S)-d c*(sh (m d f S) t-d b*m d f S t-qw (λT=>f b T*m d f (S.erase T) t) S)
  - (f c b*m d f S t+(qw (λT=>f c T*sh (m d f<|S.erase T) t) S-d b*qw (λT=>f c T*m d f (S.erase T) t) S-qw (λT=>qw (λz=>f c T*(f b z*m d f ((S.erase T).erase z) t))<|S.erase T) S)):=by
 refine Q (tj ..) ?_;have e:sh (m d f<|b::S) t=sh (sh<|m d f S) t-d b*sh (m d f S) t-qw (λT=>f b T*sh (m d f<|S.erase T) t) S:=by
  refine Q (Dz (tj d f b S) t)<|Q (ZG ..)<|Q (ZF ..) ?_
  congr 1;exact qQ λT W=>by cases t<;>simp[sh]
 have n:qw (λT=>f c T*m d f ((b::S).erase T) t) (b::S)=f c b*m d f S t+(qw (λT=>f c T*sh (m d f<|S.erase T) t) S-d b*qw (λT=>f c T*m d f (S.erase T) t) S-qw (λT=>qw (λz=>f c T*(f b z*m d f ((S.erase T).erase z) t))<|S.erase T) S):=by
  show f c b*m d f ((b::S).erase b) t+qw (λT=>f c T*m d f ((b::S).erase T) t) S=_;refine Q (cQ ..) ?_;congr 1;refine J (r8 ..)<|J (xA ..)<|J (xA ..) ?_
  exact qQ λT a=>by refine Q (Ka G a) ?_;rw[tj,r8,fk,fk,cP (f c T)<|d b]
 refine Q e<|Q n<|Q (tj ..) rfl
theorem aar (g:∀c h,b c h=b h c){c:Nat}{S:List Nat}(G:c∉S)(a:h∉S)(e:c≠h)(x:S.Nodup)(t):m d b (c::h::S) t=m d b (h::c::S) t:=by
 rw[VO a e,VO G<|fJ e,g h c];refine Q (Q (UJ _ x) (qQ λT J=>qQ λz J=>by refine Q (lq ..)<|Q (cP ..) rfl):qw (λT=>qw (λz=>b c T*(b h z*m d b ((S.erase T).erase z) t))<|S.erase T) S=qw (λT=>qw (λz=>b h T*(b c z*m d b ((S.erase T).erase z) t))<|S.erase T) S) ?_;generalize qw (λT=>qw (λz=>b h T*(b c z*m d b ((S.erase T).erase z) t))<|S.erase T) S=X;refine Q (by refine Q (fk ..)<|Q (fk ..) rfl:d c*(sh (m d b S) t-d h*m d b S t-qw (λT=>b h T*m d b (S.erase T) t) S)=d c*sh (m d b S) t-d c*(d h*m d b S t)-d c*qw (λT=>b h T*m d b (S.erase T) t) S)<|Q (by refine Q (fk ..)<|Q (fk ..) rfl:d h*(sh (m d b S) t-d c*m d b S t-qw (λT=>b c T*m d b (S.erase T) t) S)=d h*sh (m d b S) t-d h*(d c*m d b S t)-d h*qw (λT=>b c T*m d b (S.erase T) t) S)<|Q (cP ..) ?_
 lia
theorem zc (g:∀c h,w c h=w h c):∀(n:Nat){S f:List Nat},S.length<=n->S.Perm f->S.Nodup->∀T,m d w S T=m d w f T
 |0,[],f,W,U,V,T=>by refine Q (List.nil_perm.mp U) rfl
 |n+1,S,f,A,U,x,T=>by
  induction U generalizing T with
  |nil=>rfl|@cons z S f H G=>
   have A:=aJ A;have a:=(bI.mp x).2;refine Q (tj ..)<|Q (tj ..)<|Q (Dz (λT=>zc g n A H a T) T)<|Q (zc g n A H a T)<|Q (BE H) ?_
   congr 1;exact qQ λI b=>by refine Q (zc g n (aa (bH ..) A) (H.erase I) (a.erase I) T) rfl
  |swap c h S=>
   have t:=bI.mp x;have a:=bI.mp t.2;exact aar g (λU=>t.1<|.tail _ U) a.1 (λe=>t.1<|Q e<|.head _) a.2 T
  |@trans S f j H y p i=>refine Q (p A x T)<|Q (i (J H.length_eq A) (H.nodup x) T) rfl
theorem Oy (g:∀c h,b c h=b h c){S:List Nat}(x:S.Nodup)(a:t∈S)(T):m d b S T=sh (m d b<|S.erase t) T-d t*m d b (S.erase t) T-qw (λz=>b t z*m d b ((S.erase t).erase z) T) (S.erase t):=by refine Q (zc g S.length (ag _) (nL a) x T)<|Q (tj ..) rfl
section
variable {d:Nat->Int}
theorem EN:∀(n:Nat)(S:List Nat),S.length<=n->S.Nodup->∀h:Nat,((h:Int)+1)*m d f S (h+1)=qw (λt=>m d f (S.erase t) h) S
 |W,[],V,P,h=>by refine (Q (qm<|gb h)<|Q (bD ..) rfl:((h:Int)+1)*(if h+1=0 then 1 else 0)=0)
 |n+1,t::T,w,x,h=>by
  have w:=aJ w;have u:=bI.mp x;have e:((h:Int)+1)*m d f T h=m d f T h+qw (λU=>sh (m d f<|T.erase U) h) T:=by
   cases h with
   |zero=>
    refine Q (sZ T) ?_;simp
   |succ z=>
    refine Q (((EN n T w u.2) z).symm)<|Q (kZ ..) ?_;rw[ik _ 1,dO,gY]
  have i:qw (λA=>m d f ((t::T).erase A) h) (t::T)=m d f T h+(qw (λU=>sh (m d f<|T.erase U) h) T-d t*qw (λU=>m d f (T.erase U) h) T-qw (λU=>qw (λA=>f t A*m d f ((T.erase U).erase A) h)<|T.erase U) T):=by show m d f ((t::T).erase t) h+qw (λA=>m d f ((t::T).erase A) h) T=_;refine Q (cQ ..) ?_;congr 1;exact J (r8 ..)<|J (xA ..)<|J (xA ..)<|qQ λA a=>by refine Q (Ka u.1 a)<|Q (tj ..) rfl
  refine Q i<|Q (tj ..) ?_
  show ((h:Int)+1)*(m d f T h-d t*m d f T (h+1)-qw (λA=>f t A*m d f (T.erase A) (h+1)) T)=_;refine Q (fk ..)<|Q (fk ..)<|Q e<|Q (cP ..)<|Q ((EN n T w u.2) h)<|Q (J (UJ _ u.2)<|J (r8 ..)<|qQ λA a=>Q (cP ..)<|Q (EN n (T.erase A) (aa (bH ..) w) (u.2.erase A) h)<|J (r8 ..)<|qQ λU W=>by refine Q (lq ..) rfl:((h:Int)+1)*qw (λA=>f t A*m d f (T.erase A) (h+1)) T=qw (λU=>qw (λA=>f t A*m d f ((T.erase U).erase A) h)<|T.erase U) T) ?_
  lia
theorem ahJ {c:Nat}{q a:Int}(w:0<=q) (i:((c:Int)+2)*a<=((c:Int)+1)*q):a<=q:=by
 by_cases b:a<=q
 .exact b
 .skip
  exact MQ w i (br (bU<|hZ.mp b)<|aC _) (by rw[show (c:Int)+2=(c:Int)+1+1 by rfl,ik _ 1,dO])
theorem XG {c:Nat}{q a:Int}(G:0<q) (w:((c:Int)+2)*a<=((c:Int)+1)*q):a<q:=by
 by_cases T:a<q
 .exact T
 .skip
  exact Nl G w (br (bX.mp T)<|aC _) (by rw[show (c:Int)+2=(c:Int)+1+1 by rfl,ik _ 1,dO])
noncomputable def D (A T:Po)(c:Nat):Int:=A (c+1)*T c-A c*T (c+1)
theorem GG {S:List Nat}(x:S.Nodup)(g:∀c∈S,∀j,0<=D (m d e S) (m d e<|S.erase c) j)(j:Nat):((j:Int)+2)*(m d e S j*m d e S (j+2))<=((j:Int)+1)*(m d e S (j+1)*m d e S (j+1)):=by
 have w:=xQ λc a=>g c a j
 rw[(J (r8 ..)<|J (r8 ..)<|J (xA ..) rfl:qw (λc=>D (m d e S) (m d e<|S.erase c) j) S=m d e S (j+1)*qw (λc=>m d e (S.erase c) j) S-m d e S j*qw (λc=>m d e (S.erase c)<|j+1) S),<-EN S.length S (ag _) x j,<-EN S.length S (ag _) x<|j+1] at w
 rw[(rfl:((j+1:Nat):Int)+1=(j:Int)+2),cP,cP<|m d e S j] at w
 exact Int.sub_nonneg.mp w
theorem aix (g:∀e h,w e h=w h e){S:List Nat}(x:S.Nodup)(a:t∈S)(j):D (m d w S) (m d w<|S.erase t) j =
  (m d w (S.erase t) j*m d w (S.erase t) j-sh (m d w<|S.erase t) j*m d w (S.erase t) (j+1))+qw (λA=>w t A*D (m d w<|S.erase t) (m d w<|(S.erase t).erase A) j) (S.erase t):=by
 refine Q (J (r8 ..)<|J (r8 ..)<|J (xA ..)<|qQ λA W=>by rw[D,fk,cP,cP<|w t A]:qw (λA=>w t A*D (m d w<|S.erase t) (m d w<|(S.erase t).erase A) j) (S.erase t)=m d w (S.erase t) (j+1)*qw (λA=>w t A*m d w ((S.erase t).erase A) j) (S.erase t)-m d w (S.erase t) j*qw (λA=>w t A*m d w ((S.erase t).erase A) (j+1)) (S.erase t)) ?_;rw[D,Oy g x a<|j+1,Oy g x a j];show (m d w (S.erase t) j-d t*m d w (S.erase t) (j+1)-qw (λA=>w t A*m d w ((S.erase t).erase A) (j+1)) (S.erase t))*_-_=_;generalize qw (λA=>w t A*m d w ((S.erase t).erase A) (j+1)) (S.erase t)=X;generalize qw (λA=>w t A*m d w ((S.erase t).erase A) j) (S.erase t)=Di;generalize m d w (S.erase t) (j+1)=h;generalize m d w (S.erase t) j=e;generalize sh (m d w<|S.erase t) j=c;generalize d t=z
 grind
theorem Ia (g:∀c h,e c h=e h c)(o:∀c h,0<=e c h):∀(n:Nat)(S:List Nat),S.length<=n->S.Nodup->∀T∈S,∀z,0<=D (m d e S) (m d e<|S.erase T) z/\(m d e (S.erase T) z≠0->0<D (m d e S) (m d e<|S.erase T) z)
 |n+1,S,w,x,T,b,z=>by
  have U:=x.erase T;refine Q (aix g x b z) ?_;have i:0<=qw (λA=>e T A*D (m d e<|S.erase T) (m d e<|(S.erase T).erase A) z) (S.erase T):=xQ λA H=>gW (o T A) ((Ia g o n (S.erase T) (OW b w) U) A H z).1
  have t:sh (m d e<|S.erase T) z*m d e (S.erase T) (z+1)<=m d e (S.erase T) z*m d e (S.erase T) z/\(m d e (S.erase T) z≠0->sh (m d e<|S.erase T) z*m d e (S.erase T) (z+1)<m d e (S.erase T) z*m d e (S.erase T) z):=by
   have a:∀c:Int,0<=c*c:=λc=>by rcases nz 0 c with q|q;exact gW q q;exact gH q q
   have G:∀c:Int,c≠0->0<c*c:=λc q=>(iZ q).elim (λq=>i_ q q) λq=>ij q q
   cases z with
   |zero=>
    show 0*_<=_/\(_->0*_<_);exact Q (bz ..) ⟨a _,G _⟩
   |succ u=>
    have f:=GG U (λA H z=>((Ia g o n (S.erase T) (OW b w) U) A H z).1) u;exact ⟨ahJ (a _) f,λq=>XG (G _ q) f⟩
  exact ⟨by omega,λq=>by have:=t.2 q;omega⟩
 |0,[],J,W,V,b,P=>nomatch b
end
theorem zd:∀(n:Nat)(S:List Nat),S.length<=n->∀h,S.length<h->m d w S h=0
 |W,[],V,h=>@λe=>by refine Q (CG ..)<|Q (qm<|show ¬h=0 from bw e) rfl
 |n+1,t::S,x,0=>@λe=>nomatch e
 |n+1,t::S,x,h+1=>@λe=>by
  have x:=aJ x;have e:=gS e;refine Q (tj ..) ?_;show m d w S h-_-_=0;refine Q (zd n S x h e)<|Q (zd n S x (h+1)<|dT e) ?_
  refine Q (J (sZ S) (qQ λT W=>by refine Q (zd n _ (aa (bH ..) x) (h+1)<|av (bH ..)<|dT e)<|Q (bD ..) rfl):qw (λT=>w t T*m d w (S.erase T) (h+1)) S=0) ?_;simp
theorem vW:∀a:List Nat,m d w a a.length=1
 |[]=>rfl|v::a=>by
  refine Q (aQ ..)<|Q (tj ..) ?_
  show m d w a a.length-_-_=1;refine Q (vW a)<|Q (zd _ a (ag _) _<|bW _) ?_
  refine Q (J (sZ a) (qQ λh W=>by refine Q (zd _ _ (ag _) (a.length+1)<|dD<|bH ..)<|Q (bD ..) rfl):qw (λh=>w v h*m d w (a.erase h) (a.length+1)) a=0) ?_;simp
structure Ok (d:Nat->Int) (w:Nat->Nat->Int):Prop where
 sym:∀a b,w a b=w b a
 pos:∀a b,0<=w a b
section
variable (H:Ok d w)
include H
theorem Dn {S:List Nat}(x:S.Nodup)(a:v∈S)(h):0<=D (m d w S) (m d w<|S.erase v) h:=(Ia H.sym H.pos S.length S (ag _) x v a h).1
theorem Ds {S:List Nat}(x:S.Nodup)(a:v∈S)(c:m d w (S.erase v) j≠0):0<D (m d w S) (m d w<|S.erase v) j:=(Ia H.sym H.pos S.length S (ag _) x v a j).2 c
theorem Nw {a:List Nat}(x:a.Nodup)(c:Nat):((c:Int)+2)*(m d w a c*m d w a (c+2))<=((c:Int)+1)*(m d w a (c+1)*m d w a (c+1)):=GG x (λh b c=>Dn H x b c) c
theorem TJ {a:List Nat}(x:a.Nodup)(b:v∈a)(e:m d w a j=0)(i:m d w a (j+1)=0):m d w (a.erase v) j=0:=by
 by_cases n:m d w (a.erase v) j=0
 .exact n
 .have:=Ds H x b n;rw[D,e,i,bz,bz] at this
  lia
theorem Jt {S:List Nat}(x:S.Nodup)(a:c∈S)(h:∀t,t<=i+1->m d w (S.erase c) t=0):m d w S i=0:=by
 refine Q (Oy H.sym x a ..)<|Q (h i<|cY i) ?_
 have e:sh (m d w<|S.erase c) i=0:=by
  cases i with
  |zero=>rfl|succ i=>exact h i (by lia)
 refine Q e<|Q (J (sZ<|S.erase c) (qQ λT G=>by refine Q (TJ H (x.erase c) G (h i<|cY i)<|h (i+1)<|ag _)<|Q (bD ..) rfl):qw (λT=>w c T*m d w ((S.erase c).erase T) i) (S.erase c)=0) ?_;simp
theorem zD:∀(n:Nat)(S:List Nat),S.length<=n->S.Nodup->∀h,h+1<=S.length->m d w S h=0->m d w S (h+1)=0->∀t,t<=h->m d w S t=0
 |n+1,[],J,W,h,y,V,P,F,R=>nomatch y|n+1,T::f,i,x,h,y,j,o,t,b=>by
  have z:=TJ H x (.head _) j o
  cases h with
  |zero=>exact Q (Nat.le_zero.mp b) j|succ h=>
   have I:m d w ((T::f).erase T) h=0:=by
    by_cases c:m d w ((T::f).erase T) h=0
    .exact c
    .have:=Ds H x (.head _) c;rw[D,j,z,bz,bD] at this
     lia
   rw[cQ ..] at z I
   by_cases c:t=h+1
   .exact Q c j
   .exact Jt H x (.head _) λA U=>by
     refine Q (cQ ..) ?_
     by_cases k:A=h+1
     .exact Q k z
     .exact (zD n f (aJ i) (bI.mp x).2 h (aJ y) I z) A (bT<|ct (aa U<|cm<|bT<|ct b c) k)
 |0,[],J,W,h,y,V,P,F,R=>nomatch y
theorem Sj {a:List Nat}(x:a.Nodup)(y:c+2<=a.length)(e:m d w a (c+1)=0):m d w a c*m d w a (c+2)<0\/∀h,h<=c+1->m d w a h=0:=by
 by_cases i:m d w a c=0
 .right
  intro h j
  by_cases n:h=c+1
  .exact Q n e
  .exact zD H a.length a (ag _) x c (fU y) i e h<|M5 j n
 .by_cases z:m d w a (c+2)=0
  .exact .inr<|zD H a.length a (ag _) x (c+1) y e z
  .left
   have b:=Nw H x c;rw[e,bD,bD] at b
   have T:m d w a c*m d w a (c+2)<=0:=by
    by_cases n:m d w a c*m d w a (c+2)<=0
    .exact n
    .skip
     exact M9 b (ij (show (0:Int)<(c:Int)+2 from bq.mpr<|fI (c+1))<|hZ.mp n)
   have:=fe i z;lia
end
noncomputable def uv (A:Po):Nat->Bool->Nat×Bool
 |0=>@λT=>(0,T)
 |j+1=>@λT=>if A j=0 then uv A j T else if decide (0<A j)=T then uv A j T else ((uv A j !T).1+1,(uv A j !T).2)
def Last (A:Po)(c:Nat)(T:Bool):Prop:=(A c≠0->decide (0<A c)=T)/\(A c=0->(A (c+1)≠0/\decide (0<A (c+1))=T)\/∀h,h<=c->A h=0)
noncomputable def ne2 (T G:Bool):Nat:=if T=G then 0 else 1
noncomputable def fl (q:Int)(T:Bool):Bool:=decide (q≠0)&&decide (decide (0<q)≠T)
theorem Cq (A)(c)(s):uv A (c+1) s=((uv A c<|s ^^ fl (A c) s).1+(fl (A c) s).toNat,(uv A c<|s ^^ fl (A c) s).2):=by
 show (if A c=0 then uv A c s else if decide (0<A c)=s then uv A c s else ((uv A c !s).1+1,(uv A c !s).2))=_;have e0:∀G,G=false->uv A c s=((uv A c<|s ^^ G).1+G.toNat,(uv A c<|s ^^ G).2):=λG e=>Q e<|Q (Bool.xor_false ..) rfl
 by_cases e:A c=0
 .exact Q (ql e)<|e0 _<|by delta fl;exact Q (decide_eq_false λf=>f e) rfl
 .refine Q (qm e) ?_
  by_cases i:decide (0<A c)=s
  .exact Q (ql i)<|e0 _<|by delta fl;refine Q (decide_eq_false (p:=decide (0<A c)≠s) λf=>f i)<|Q (Bool.and_false ..) rfl
  .exact Q (qm i)<|Q (show fl (A c) s=true by delta fl;exact Q (decide_eq_true e)<|Q (decide_eq_true i) rfl)<|Q (Bool.xor_true ..) rfl
theorem Last.next (o:Last A (c+1) s)(hz:A c=0->A (c+1)=0->∀h,h<=c->A h=0):Last A c<|s ^^ fl (A c) s:=by
 delta fl;refine ⟨λe=>?_,λe=>?_⟩
 .cases s<;>by_cases G:0<A c<;>simp[e,G]
 .by_cases G:A (c+1)=0
  .exact .inr<|hz e G
  .refine .inl ⟨G,Q (o.1 G) ?_⟩;simp[e]
def Sg (q:Int)(T:Bool):Prop:=(T=true/\0<q)\/(T=false/\q<0)
theorem Sg.ne (h:Sg x s):x≠0:=by rcases h with h|h<;>lia
theorem Sg.same (I:Sg x s)(z:Sg y s):0<x*y:=by
 rcases I with ⟨e,I⟩|⟨e,I⟩<;>rcases z with ⟨i,z⟩|⟨i,z⟩
 .exact ij I z
 .exact f_<|e.symm.trans i
 .exact f_<|e.symm.trans i
 .exact i_ I z
theorem Sg.Z7 (I:Sg x s)(z:Sg y<|!s):x*y<0:=by
 rcases I with ⟨e,I⟩|⟨e,I⟩<;>subst e<;>rcases z with ⟨i,z⟩|⟨i,z⟩
 .exact f_ i
 .exact Int.mul_neg_of_pos_of_neg I z
 .exact mr I z
 .exact f_ i
theorem vj (e:decide (0<x)=s)(c:x≠0):Sg x s:=by
 cases s
 .exact .inr ⟨rfl,by lia⟩
 .exact .inl ⟨rfl,of_decide_eq_true e⟩
theorem Md (e:fl x s=true):Sg x<|!s:=by
 have c:decide (0<x)≠s:=of_decide_eq_true ((aA _ _).mp e).2;refine vj ?_<|of_decide_eq_true ((aA _ _).mp e).1
 cases s<;>cases i:decide (0<x)<;>simp_all
theorem J2 (e:fl x s=false):x=0\/Sg x s:=by
 by_cases i:x=0
 .exact .inl i
 .by_cases n:decide (0<x)=s
  .exact .inr<|vj n i
  .delta fl at e;simp[i,n] at e
theorem aim (c:s≠t):t=!s:=by cases s<;>cases t<;>first|rfl|exact absurd rfl c
theorem b4:∀T G x g:Bool,(T=true->G=false->x≠g->False)->(T=false->G=true->x=g->False)->T.toNat+ne2 x g=G.toNat+ne2 (x ^^ T) (g ^^ G):=by decide
theorem SN {e:Int}(y:0<=a*I-q*b)(i:0<=e*b-a*b2)(f:I≠0->0<a*I-q*b)(h:b≠0->0<e*b-a*b2)(g:a≠0->decide (0<a)=U)(o:a=0->(e≠0/\decide (0<e)=U)\/q=0)(j:b≠0->decide (0<b)=L)(p:b=0->(b2≠0/\decide (0<b2)=L)\/(I=0/\q=0))(G:b=0->I*b2<0\/(I=0/\q=0))(tz:I=0->b=0->q=0) :
  (fl q U).toNat+ne2 U L=(fl I L).toNat+ne2 (U ^^ fl q U) (L ^^ fl I L):=by
 have T:fl q U=true->fl I L=false->U≠L->False:=λq1 q2 c=>by
  have q1:=Md q1;have q2:=J2 q2;have n:L=!U:=aim c;subst n
  by_cases A:a=0
  .have t:=(o A).resolve_right q1.ne;have t:=vj t.2 t.1
   by_cases u:b=0
   .by_cases v:I=0
    .exact q1.ne<|tz v u
    .have:=f v;rw[A,u,bz,bD] at this;exact eJ _ this
   .have:=h u;have:=t.Z7<|vj (j u) u
    rw[A,bz] at *;lia
  .skip
   by_cases u:b=0
   .rcases p u with k2|k2
    .rcases G u with z|z
     .rcases q2 with q2|q2
      .rw[q2,bz] at z;exact eJ _ z
      .have:=q2.same<|vj k2.2 k2.1;lia
     .exact q1.ne z.2
    .exact q1.ne k2.2
   .have k:=q1.same<|vj (j u) u
    rcases q2 with q2|q2
    .rw[q2,bD] at y;lia
    .have:=(vj (g A) A).Z7 q2;lia
 have x:fl q U=false->fl I L=true->U=L->False:=λq1 q2 c=>by
  have q1:=J2 q1;have q2:=Md q2;have s:=f q2.ne;subst c
  by_cases A:a=0
  .by_cases u:b=0
   .rw[A,u,bz,bD] at s;lia
   .revert s;refine Q A<|Q (bz ..) ?_;intro s
    rcases q1 with q1|q1
    .rw[q1,bz] at s;lia
    .have:=q1.same<|vj (j u) u;lia
  .skip
   by_cases u:b=0
   .rcases p u with k2|k2
    .have:=(vj (g A) A).same<|vj k2.2 k2.1
     rw[u,bD] at i;lia
    .exact q2.ne k2.1
   .have k:=(vj (g A) A).Z7 q2;rcases q1 with q1|q1
    .rw[q1,bz] at s;lia
    .have:=q1.same<|vj (j u) u;lia
 exact b4 _ _ U L T x
section
variable (H:Ok d w)
include H
theorem wJ {a:List Nat}(x:a.Nodup)(y:j+1<=a.length)(e:m d w a j=0)(i:m d w a (j+1)=0):∀h,h<=j+1->m d w a h=0:=λh k=>by
 by_cases n:h=j+1
 .exact Q n i
 .exact zD H a.length a (ag _) x j y e i h (by lia)
theorem Xd {S:List Nat}(x:S.Nodup)(a:v∈S)(y:j+1<=(S.erase v).length)(o:Last (m d w S) (j+1) s)(L:Last (m d w<|S.erase v) (j+1) t) :
  (fl (m d w S j) s).toNat+ne2 s t=(fl (m d w (S.erase v) j) t).toNat+ne2 (s ^^ fl (m d w S j) s) (t ^^ fl (m d w (S.erase v) j) t):=by
 have g:m d w (S.erase v) (j+1)=0->m d w (S.erase v) j*m d w (S.erase v) (j+2)<0\/∀u,u<=j+1->m d w (S.erase v) u=0:=λe=>by
  by_cases i:j+1=(S.erase v).length
  .rw[i,vW] at e;lia
  .exact Sj H (x.erase v) (ct y i) e
 exact SN (Dn H x a j) (Dn H x a<|j+1) (Ds H x a) (Ds H x a) o.1 (λe=>(o.2 e).imp id λp=>p j<|cY j) L.1 (λe=>(L.2 e).imp id λp=>⟨p j<|cY j,(Jt H x a) p⟩) (λe=>(g e).imp id λp=>⟨p j<|cY j,(Jt H x a) p⟩) λn z=>(Jt H x a)<|(wJ H (x.erase v) y) n z
end
theorem aaj (q):ne2 (true ^^ fl q true) true=(fl q true).toNat:=by cases fl q true<;>rfl
theorem Bz {A:Po}(c:A z≠0)(h0:∀h,h<z->A h=0):∀(j:Nat)(s:Bool),(j<=z->uv A j s=(0,s))/\(z<j->(uv A j s).2=decide (0<A z))
 |0=>@λs=>⟨λJ=>rfl,λc=>nomatch c⟩
 |j+1=>@λs=>by
  refine ⟨λx=>?_,λx=>?_⟩
  .show (if A j=0 then uv A j s else _)=_;exact Q (ql<|h0 j x)<|(Bz c h0 j s).1<|b6 x
  .refine Q (Cq ..) ?_;show (uv A j<|s ^^ fl (A j) s).2=_
   by_cases e:j=z
   .subst e;refine Q ((Bz c h0 j _).1<|ag _) ?_;delta fl
    cases s<;>by_cases G:0<A j<;>simp[c,G]
   .exact (Bz c h0 j _).2<|ct (bT x)<|fJ e
section
def pos (b:Nat->Int)(e:Nat->Nat->Int)(a:List Nat):Nat:=(uv (m b e a) a.length true).1
def fin (b:Nat->Int)(e:Nat->Nat->Int)(a:List Nat):Bool:=(uv (m b e a) a.length true).2
def sb (A:Po)(c:Nat):Prop:=A c≠0/\∀h,h<c->A h=0
theorem w4 (a:List Nat):∃c,c<=a.length/\sb (m d w a) c:=by
 have g:∀h:Nat,(∀t,t<h->m d w a t=0)\/∃c,c<h/\sb (m d w a) c:=λh=>by
  induction h with
  |zero=>exact .inl λt G=>nomatch G
  |succ h n=>
   rcases n with n|⟨c,k,x⟩
   .by_cases e:m d w a h=0
    .exact .inl λt T=>by
      by_cases i:t=h
      .exact Q i e
      .exact n t<|M' T i
    .exact .inr ⟨h,bW h,e,n⟩
   .exact .inr ⟨c,dT k,x⟩
 rcases g (a.length+1) with G|⟨c,k,x⟩
 .have:=G a.length<|bW _
  rw[vW] at this;lia
 .exact qp c (bT k) x
theorem Fe {a:List Nat}(y:z<=a.length)(x:sb (m d w a) z):fin d w a=decide (0<m d w a z):=by
 by_cases e:z=a.length
 .subst e;rw[fin,(Bz x.1 x.2 _ _).1<|ag _,vW];rfl
 .exact (Bz x.1 x.2 _ _).2<|ct y e
variable (H:Ok d w)
include H
theorem Lu {S:List Nat}(x:S.Nodup)(a:v∈S):∀(j:Nat)(U G:Bool),j<=(S.erase v).length->Last (m d w S) j U->Last (m d w<|S.erase v) j G->
  (uv (m d w S) j U).1+ne2 U G=(uv (m d w<|S.erase v) j G).1+ne2 (uv (m d w S) j U).2 (uv (m d w<|S.erase v) j G).2
 |0=>@λU G J J J=>rfl
 |j+1=>@λU G A o ht=>by
  have n:(S.erase v).length+1=S.length:=Rj a;have e:=Xd H x a A o ht;have i:=Lu x a j (U ^^ fl (m d w S j) U) (G ^^ fl (m d w (S.erase v) j) G) (b6 A) (o.next λz y T k=>wJ H x (n▸fj A) z y T<|by lia)<|ht.next λz y T k=>wJ H (x.erase v) A z y T<|by lia
  refine Q (Cq ..)<|Q (Cq ..) ?_
  exact ag4 e i
theorem I_ {S:List Nat}(x:S.Nodup)(a:c∈S):pos d w S=pos d w (S.erase c)+ne2 (fin d w S) (fin d w<|S.erase c):=by
 have o:Last (m d w S) ((S.erase c).length+1) true:=by refine J ((Rj a).symm) ⟨λW=>by rw[vW];rfl,λe=>?_⟩;rw[vW] at e;lia
 have L:Last (m d w<|S.erase c) (S.erase c).length true:=by refine ⟨λW=>by rw[vW];rfl,λe=>?_⟩;rw[vW] at e;lia
 have i:=Lu H x a _ _ _ (ag _) (o.next λW e=>by rw[<- (Rj a).symm,vW] at e;lia) L;rewrite [pos,fin];refine Q ((Rj a).symm)<|Q (Cq ..) ?_
 rw[aaj] at i
 exact i
theorem aau {S:List Nat}(x:S.Nodup)(a:v∈S)(hf:sb (m d w S) z)(q:sb (m d w<|S.erase v) y):z<=y+1/\y<=z+1:=by
 refine ⟨?_,?_⟩
 .by_cases A:z<=y+1
  .exact A
  .exact absurd (TJ H x a (hf.2 y<|bl<|gF.mp A)<|hf.2 (y+1)<|kT A) q.1
 .by_cases A:y<=z+1
  .exact A
  .exact absurd (Jt H x a λG i=>q.2 G<|av i<|gF.mp A) hf.1
theorem Jr {S:List Nat}(x:S.Nodup)(a:v∈S)(z:sb (m d w S)<|y+1)(q:sb (m d w<|S.erase v) y):0<m d w S (y+1)*m d w (S.erase v) y:=by
 have:=Ds H x a q.1;rw[D,z.2 y<|bW y,bz] at this
 exact Int.lt_of_sub_pos this
theorem TC {S:List Nat}(x:S.Nodup)(a:v∈S)(y:sb (m d w S) z)(q:sb (m d w<|S.erase v)<|z+1):m d w S z*m d w (S.erase v) (z+1)<0:=by
 have:=Dn H x a z;rw[D,q.2 z<|bW z,bD] at this
 have:=fe y.1 q.1;lia
end
noncomputable def ev:Nat->Int
 |0=>1|k+1=>- ev k
theorem Aw (c):ev (c+1)=- ev c:=rfl
theorem J8 (c):ev (c+2)=ev c:=by show - - ev c=ev c;exact jg _
theorem Fg:∀k,ev k*ev k=1
 |0=>rfl|k+1=>(Q (Int.neg_mul_neg ..)<|Fg k:- ev k*- ev k=1)
theorem aeE (c):ev c≠0:=λe=>by have:=Fg c;rw[e] at this;exact absurd this (by decide)
theorem A1 (i:Nat->Int)(j:Nat->Nat->Int):∀(n:Nat)(S:List Nat),S.length<=n->S.Nodup->∀h,m (λv=>- i v) j S h=ev (S.length+h)*m i j S h
 |W,[],V,P,0=>rfl|W,[],V,P,h+1=>by rw[CG,CG,qm<|gb h,bD]
 |n+1,v::S,y,x,h=>by
  have x:=(bI.mp x).2;have k:=A1 i j n S (aJ y) x;refine Q (tj ..)<|Q (tj ..)<|Q (k h) ?_
  have o:sh (m (λv=>- i v) j S) h=ev ((v::S).length+h)*sh (m i j S) h:=by
   cases h with
   |zero=>exact (bD _).symm|succ A=>
    refine (?_:m (λv=>- i v) j S A=_*m i j S A);refine Q (k A)<|Q (aQ ..)<|Q (show S.length+1+(A+1)=S.length+A+2 by exact cj _ _)<|Q (J8 ..) rfl
  have G:qw (λT=>j v T*m (λv=>- i v) j (S.erase T) h) S=ev ((v::S).length+h)*qw (λT=>j v T*m i j (S.erase T) h) S:=by
   refine J (r8 ..) ?_;exact qQ λT p=>by refine Q (A1 i j n (S.erase T) (aa (bH ..)<|aJ y) (x.erase T) h)<|Q (by refine Q (ee p)<|Q (aQ ..) ?_;exact ag5<|eF p:(v::S).length+h=(S.erase T).length+h+2)<|Q (J8 ..)<|Q (cP ..) rfl
  refine Q o<|Q G<|Q (aQ ..)<|Q (show S.length+1+h=S.length+h+1 by exact cj _ _)<|Q (Aw ..) ?_
  clear o G k;generalize ev (S.length+h)=e;generalize m i j S h=a;generalize sh (m i j S) h=b;generalize qw (λT=>j v T*m i j (S.erase T) h) S=c;generalize i v=z
  grind
theorem Ok.neg {b:Nat->Int}{e:Nat->Nat->Int}(L:Ok b e):Ok (λv=>- b v) e:=⟨L.sym,L.pos⟩
theorem sb.neg {b:Nat->Int}{e:Nat->Nat->Int}{a:List Nat}(U:a.Nodup)(x:sb (m b e a) z):sb (m (λv=>- b v) e a) z:=⟨Q (A1 b e _ a (ag _) U ..)<|fe (aeE _) x.1,λt G=>by rw[A1 b e _ a (ag _) U,x.2 t G,bD]⟩
theorem CA {q a:Int}(G:0<q*a):ne2 (decide<|0<q) (decide<|0<a)=0:=by
 by_cases T:0<q
 .have k:0<a:=by
   by_cases k:0<a
   .exact k
   .have:=Int.mul_nonpos_of_nonneg_of_nonpos (bU T)<|bX.mp k;lia
  exact Q (decide_eq_true T)<|Q (decide_eq_true k) rfl
 .skip
  exact Q (decide_eq_false T)<|Q (decide_eq_false λk=>eJ _<|eR G<|j' (bX.mp T)<|bU k) rfl
theorem CB {q a:Int}(G:q*a<0):ne2 (decide<|0<q) (decide<|0<a)=1:=by
 by_cases T:0<q
 .have I:¬0<a:=λI=>eJ _<|gi G<|ij T I
  exact Q (decide_eq_true T)<|Q (decide_eq_false I) rfl
 .have k:q<0:=by
   by_cases e:q=0
   .rw[e,bz] at G;exact Q e G
   .lia
  have I:0<a:=by
   by_cases I:0<a
   .exact I
   .have:=gH (bU k)<|bX.mp I;lia
  exact Q (decide_eq_false T)<|Q (decide_eq_true I) rfl
section
variable (H:Ok d w) {S:List Nat}(f:S.Nodup) (g:v∈S)
include H f g
theorem Ja (x:sb (m d w S) z)(q:sb (m d w<|S.erase v) y)(A:z<=S.length)(i:y<=(S.erase v).length):pos d w S=pos d w (S.erase v)+ne2 (decide<|0<m d w S z) (decide<|0<m d w (S.erase v) y):=by refine Q (I_ H f g)<|Q (Fe A x)<|Q (Fe i q) rfl
theorem Jm (hf:sb (m d w S) h)(hg:sb (m d w<|S.erase v) t)(x:h<=S.length)(i:t<=(S.erase v).length):pos (λv=>- d v) w S=pos (λv=>- d v) w (S.erase v)+ne2 (decide<|0<ev (S.length+h)*m d w S h) (decide<|0<ev ((S.erase v).length+t)*m d w (S.erase v) t):=by refine Q (I_ H.neg f g)<|Q (Fe x<|hf.neg f) ?_;rw[Fe i<|hg.neg<|f.erase v,A1 d w _ S (ag _) f,A1 d w _ _ (ag _)<|f.erase v]
theorem Rw {h:Nat}(y:sb (m d w S) h) (q:sb (m d w<|S.erase v) h) (z:h<=(S.erase v).length) (s:Int) (n:(0<s/\m d w S h*m d w (S.erase v) h<0)\/(s<0/\0<m d w S h*m d w (S.erase v) h)) :
  pos d w S=pos d w (S.erase v)+(if 0<s then 1 else 0)/\pos (λv=>- d v) w S=pos (λv=>- d v) w (S.erase v)+(if 0<s then 0 else 1):=by
 have e:S.length=(S.erase v).length+1:=Q (ee g)<|(aH<|eF g).symm
 have i:ev (S.length+h)*m d w S h*(ev ((S.erase v).length+h)*m d w (S.erase v) h)=- (m d w S h*m d w (S.erase v) h):=by
  refine Q e<|Q (show (S.erase v).length+1+h=(S.erase v).length+h+1 by exact cj _ _) ?_
  show-ev _*_*_=_;have:=Fg<|(S.erase v).length+h
  generalize ev ((S.erase v).length+h)=x at *
  generalize m d w S h=a;generalize m d w (S.erase v) h=b
  grind
 refine Q (Ja H f g y q (by lia) z)<|Q (Jm H f g y q (by lia) z) ?_
 rcases n with ⟨G,T⟩|⟨G,T⟩
 .exact Q (ql G)<|Q (ql G)<|Q (CB T)<|Q (CA<|Q i<|eQ T) ⟨rfl,rfl⟩
 .exact Q (qm<|by lia)<|Q (qm<|by lia)<|Q (CA T)<|Q (CB<|Q i<|Na T) ⟨rfl,rfl⟩
theorem O1 {z:Nat}(y:sb (m d w S)<|z+1) (q:sb (m d w<|S.erase v) z) (A:z<=(S.erase v).length) :
  pos d w S=pos d w (S.erase v)/\pos (λv=>- d v) w S=pos (λv=>- d v) w (S.erase v):=by
 have e:S.length=(S.erase v).length+1:=Q (ee g)<|(aH<|eF g).symm
 have G:=Jr H f g y q;have i:ev (S.length+(z+1))*m d w S (z+1)*(ev ((S.erase v).length+z)*m d w (S.erase v) z)=m d w S (z+1)*m d w (S.erase v) z:=by
  refine Q e<|Q (show (S.erase v).length+1+(z+1)=(S.erase v).length+z+2 by exact cj _ _)<|Q (J8 ..) ?_
  have:=Fg<|(S.erase v).length+z
  generalize ev ((S.erase v).length+z)=x at *
  generalize m d w S (z+1)=a;generalize m d w (S.erase v) z=b
  grind
 exact Q (Ja H f g y q (by lia) A)<|Q (Jm H f g y q (by lia) A)<|Q (CA G)<|Q (CA<|Q i G) ⟨rfl,rfl⟩
theorem O2 {z:Nat}(y:sb (m d w S) z) (q:sb (m d w<|S.erase v)<|z+1) (A:z+1<=(S.erase v).length) :
  pos d w S=pos d w (S.erase v)+1/\pos (λv=>- d v) w S=pos (λv=>- d v) w (S.erase v)+1:=by
 have e:S.length=(S.erase v).length+1:=Q (ee g)<|(aH<|eF g).symm
 have G:=TC H f g y q;have i:ev (S.length+z)*m d w S z*(ev ((S.erase v).length+(z+1))*m d w (S.erase v) (z+1))=m d w S z*m d w (S.erase v) (z+1):=by
  refine Q e<|Q (show (S.erase v).length+1+z=(S.erase v).length+z+1 by exact cj _ _)<|Q (show (S.erase v).length+(z+1)=(S.erase v).length+z+1 by rfl) ?_
  have:=Fg<|(S.erase v).length+z+1
  generalize ev ((S.erase v).length+z+1)=x at *
  generalize m d w S z=a;generalize m d w (S.erase v) (z+1)=b
  grind
 exact Q (Ja H f g y q (by lia) A)<|Q (Jm H f g y q (by lia) A)<|Q (CB G)<|Q (CB<|Q i G) ⟨rfl,rfl⟩
end
noncomputable def M (T U:Po)(L:Nat):Nat->Int
 |0=>T 0*U L|k+1=>M T U L k+T (k+1)*U (L-(k+1))
def conv (A T:Po):Po:=λc=>M A T c c
theorem Ru (A T i v:Po)(q)(c):∀k,M (λt=>A t-q*T t-i t) v c k=M A v c k-q*M T v c k-M i v c k
 |0=>by refine (Q (eI ..)<|Q (eI ..)<|Q (dH ..) rfl:(A 0-q*T 0-i 0)*v c=A 0*v c-q*(T 0*v c)-i 0*v c)
 |k+1=>by refine (Q (Ru A T i v q c k)<|Q (eI ..)<|Q (eI ..)<|Q (dH ..)<|Q (fF ..) ?_:M _ v c k+(A (k+1)-q*T (k+1)-i (k+1))*v (c-(k+1))=(M A v c k+A (k+1)*v (c-(k+1)))-q*(M T v c k+T (k+1)*v (c-(k+1)))-(M i v c k+i (k+1)*v (c-(k+1))));lia
theorem Rq (b:Nat->Int)(d:Nat->Po)(g)(a)(c):∀k,M (λt=>qw (λT=>b T*d T t) a) g c k=qw (λT=>b T*M (d T) g c k) a
 |0=>(Q (cu ..)<|J (r8 ..)<|qQ λT W=>by refine Q (cu ..)<|Q (dH ..) rfl:qw (λT=>b T*d T 0) a*g c=qw (λT=>b T*(d T 0*g c)) a)
 |k+1=>(Q (Rq b d g a c k)<|Q (cu ..)<|J (r8 ..)<|J (xB ..)<|qQ λT W=>by rw[fF,cu<|g _,dH]:M _ g c k+qw (λT=>b T*d T (k+1)) a*g (c-(k+1))=qw (λT=>b T*(M (d T) g c k+d T (k+1)*g (c-(k+1)))) a)
theorem Wn (A T)(c):∀k,M (sh A) T (c+1) (k+1)=M A T c k
 |0=>by refine (Q (bz ..)<|Q (dz ..)<|Q (Nat.add_sub_cancel ..) rfl:0*T (c+1)+A 0*T (c+1-(0+1))=A 0*T c)
 |k+1=>by refine (Q (Wn A T c k)<|Q (Nat.add_sub_add_right ..) rfl:M (sh A) T (c+1) (k+1)+A (k+1)*T (c+1-(k+1+1))=M A T c k+A (k+1)*T (c-(k+1)))
theorem Ye (A T):∀j,conv (sh A) T j=sh (conv A T) j
 |0=>by refine (Q (bz ..) rfl:0*T 0=0)
 |j+1=>Wn A T j j
theorem Rr (A)(c):∀k,M (λt=>if t=0 then 1 else 0) A c k=A c
 |0=>dO _|k+1=>by show M _ A c k+(if k+1=0 then 1 else 0)*A (c-(k+1))=A c;refine Q (Rr A c k)<|Q (qm<|gb k)<|Q (bz ..)<|Q (dJ ..) rfl
theorem Kq {A T:Po}(b:∀c,A c=T c)(h):∀k,M A g h k=M T g h k
 |0=>by refine (Q (b ..) rfl:A 0*_=T 0*_)
 |k+1=>by refine (?_:_+A _*_=_+T _*_);refine Q (Kq b h k)<|Q (b ..) rfl
theorem Rt {A T:Po}(c:∀U,U<a->A U=0)(d:∀U,U<b->T U=0)(G:j<a+b):∀k,k<=j->M A T j k=0
 |0=>@λJ=>by
  refine (?_:A 0*T j=0)
  by_cases q:a=0
  .refine Q (d j<|ai G<|aN<|q▸bZ b)<|Q (bD ..) rfl
  .refine Q (c 0<|eM q)<|Q (bz ..) rfl
 |k+1=>@λw=>by
  show M A T j k+A (k+1)*T (j-(k+1))=0;refine Q (Rt c d G k<|b6 w)<|Q (dz ..) ?_
  by_cases q:k+1<a
  .refine Q (c _ q)<|Q (bz ..) rfl
  .refine Q (d _<|mi w<|ai G<|a9 (cU.mp q) b)<|Q (bD ..) rfl
theorem Wo {A T:Po}(c:∀t,t<a->A t=0)(d:∀t,t<b->T t=0):∀k,k<=a+b->M A T (a+b) k=if a<=k then A a*T b else 0
 |0=>@λJ=>by
  refine (?_:A 0*T (a+b)=_)
  by_cases f:a=0
  .refine Q f ?_;clear f;refine Q (ql<|ag _)<|Q (bZ ..) rfl
  .refine Q (qm<|gF.mpr<|eM f)<|Q (c 0<|eM f)<|Q (bz ..) rfl
 |k+1=>@λw=>by
  show M A T (a+b) k+A (k+1)*T (a+b-(k+1))=_;refine Q (Wo c d k<|b6 w) ?_
  by_cases f:k+1<a
  .exact Q (qm<|gF.mpr<|fU f)<|Q (qm<|gF.mpr f)<|Q (c _ f)<|Q (bz ..) rfl
  .by_cases e:k+1=a
   .refine Q (qm<|e▸Nat.not_succ_le_self k)<|Q (ql<|aN e.symm)<|Q e<|Q (bc ..)<|Q (dz ..) rfl
   .have i:a<=k:=bT<|ct (cU.mp f)<|fJ e
    refine Q (ql i)<|Q (ql<|fj i)<|Q (d (a+b-(k+1))<|mi w<|n4 (dD i) b)<|Q (bD ..)<|Q (dJ ..) rfl
theorem vK (x:sb A a)(q:sb T b):sb (conv A T) (a+b)/\conv A T (a+b)=A a*T b:=by
 have e:conv A T (a+b)=A a*T b:=by show M A T (a+b) (a+b)=_;refine Q (Wo x.2 q.2 _<|ag _)<|Q (ql<|aK a b) rfl
 exact ⟨⟨Q e<|fe x.1 q.1,λt G=>Rt x.2 q.2 G t<|ag _⟩,e⟩
theorem Dw (b:Nat->Int)(a):∀f,qw b (f++a)=qw b f+qw b a
 |[]=>(dz _).symm|u::f=>(Q (Dw b a f)<|(j1 _ _ _).symm:b u+qw b (f++a)=b u+qw b f+qw b a)
theorem EO (b:Nat->Int)(d:Nat->Nat->Int)(a):∀(n:Nat)(S:List Nat),S.length<=n->(∀h∈S,∀v∈a,d h v=0)->∀T,m b d (S++a) T=conv (m b d S) (m b d a) T
 |W,[],V,P,T=>(Rr (m b d a) T T).symm|n+1,v::S,w,c,T=>by
  have w:=aJ w;have G:∀h∈S,∀v∈a,d h v=0:=λh f=>c h<|.tail _ f
  refine (Q (tj ..)<|Q (Dz (EO b d a n S w G) T)<|Q ((EO b d a n S w G) T)<|Q (Dw ..) ?_:m b d (v::(S++a)) T=_);have e:qw (λh=>d v h*m b d ((S++a).erase h) T) S=qw (λh=>d v h*conv (m b d<|S.erase h) (m b d a) T) S:=qQ λh f=>by refine Q (List.erase_append_left _ f)<|Q (EO b d a n (S.erase h) (aa (bH ..) w) (λz H=>G z<|eP H) T) rfl
  refine Q (J (sZ a) (qQ λh f=>by refine Q (c v (.head _) h f)<|Q (bz ..) rfl):qw (λh=>d v h*m b d ((S++a).erase h) T) a=0)<|Q e<|Q (dJ ..) ?_
  show _=M (m b d<|v::S) (m b d a) T T;refine Q (Kq (tj b d v S) T T)<|Q (Ru ..)<|Q (Rq ..) ?_
  show sh (conv (m b d S)<|m b d a) T-_-_=conv (sh<|m b d S) (m b d a) T-_-_
  exact Q (Ye ..) rfl
section
def Dk (A T:Po)(q a:Int):Prop:=∃c,sb A c/\sb T c/\A c*a=- q*T c/\q≠0/\a≠0
def wO (A T:Po):Prop:=∃c,sb A (c+1)/\sb T c
def Cj (A T:Po):Prop:=∃c,sb A c/\sb T (c+1)
theorem sb.same (x:sb f a)(s:sb f b):a=b:=by
 rcases ku a b with q|q|q
 .exact absurd (s.2 a q) x.1
 .exact q
 .exact absurd (x.2 b q) s.1
theorem Dk.conv {i:Po}(p:Dk A T U L)(x:sb i b):Dk (conv A i) (conv T i) U L:=by obtain ⟨h,q,k,e,c,j⟩:=p;refine zA (h+b) (vK q x).1 (vK k x).1 (Q (vK q x).2<|Q (vK k x).2<|Q (oP ..)<|Q e<|Q (dH ..) rfl) c j
theorem wO.conv {i:Po}(k:wO A g)(x:sb i b):wO (conv A i)<|conv g i:=by
 obtain ⟨h,q,n⟩:=k;refine qp (h+b) ?_<|(vK n x).1
 have:=(vK q x).1;rw[show h+1+b=h+b+1 by exact cj _ _] at this;exact this
theorem Cj.conv {i:Po}(G:Cj A g)(x:sb i b):Cj (conv A i)<|conv g i:=by obtain ⟨h,q,k⟩:=G;refine qp (h+b) ((vK q x).1) ?_;have:=(vK k x).1;rw[show h+1+b=h+b+1 by exact cj _ _] at this;exact this
inductive wh (ab:Nat->Int) (c:Nat):Nat->Prop
 |self:wh ab c c
 |step {v p:Nat}:c<v->ab v=(p:Int)->p<v->wh ab c p->wh ab c v
theorem wh.le {b:Nat->Int}(G:wh b c v):c<=v:=by
 induction G with
 |self=>exact ag _|step G J W V P=>exact bl G
noncomputable def wt (b d:Nat->Int)(c h:Nat):Int:=if c<h/\b h=(c:Int) then d h*d h else if h<c/\b c=(h:Int) then d c*d c else 0
theorem Eh (b d:Nat->Int)(c h):wt b d c h=wt b d h c:=by
 delta wt
 by_cases t:c<h/\b h=(c:Int)
 .refine Q (ql t)<|Q (qm λj=>ky t.1 j.1)<|Q (ql t) rfl
 .refine Q (qm t) ?_
  by_cases j:h<c/\b c=(h:Int)
  .refine Q (ql j)<|Q (ql j) rfl
  .refine Q (qm j)<|Q (qm j)<|Q (qm t) rfl
theorem N6 (s:Int):0<=s*s:=by rcases nz 0 s with q|q;exact gW q q;exact gH q q
theorem Vq (b d:Nat->Int)(c h:Nat):0<=wt b d c h:=by
 delta wt
 split
 .exact N6 _
 .split
  .exact N6 _
  .exact cZ _
theorem Ei (b:Nat->Int)(d g:Nat->Int):Ok b<|wt d g:=⟨Eh d g,Vq d g⟩
noncomputable def sl (c n:Nat):List Nat:=dm c<|n-c
theorem rH:v∈sl k n↔k<=v/\v<n:=by
 delta sl;rw[ki];refine and_congr_right λw=>?_
 rcases Nat.le_total k n with q|q
 .rw[cK q]
 .exact Q (jL q)<|Q (gV ..) ⟨λG=>absurd G<|cU.mpr w,λG=>absurd (ai G q)<|cU.mpr w⟩
theorem uE (c h):(sl c h).Nodup:=List.nodup_range'
theorem Aj (G:k<n):sl k n=k::sl (k+1) n:=by delta sl;refine Q (show n-k=(n-(k+1))+1 from (aH<|jd G:n-k-1+1=n-k).symm)<|ax fY rfl
open Classical in
noncomputable def dl (b:Nat->Int)(c:Nat)(a:List Nat):List Nat:=a.filter λh=>decide<|wh b c h
open Classical in
noncomputable def vI (b:Nat->Int)(c:Nat)(a:List Nat):List Nat:=a.filter λh=>!decide (wh b c h)
theorem dl_mem {b:Nat->Int}{a:List Nat}:v∈dl b c a↔v∈a/\wh b c v:=by delta dl;rw[dr];simp
theorem LP {b:Nat->Int}{a:List Nat}:v∈vI b c a↔v∈a/\¬wh b c v:=by delta vI;rw[dr];simp
theorem Mm (b:Nat->Int)(c)(a):(dl b c a++vI b c a).Perm a:=List.filter_append_perm ..
theorem A8 {b:Nat->Int}{a:List Nat}(x:a.Nodup):(dl b c a).Nodup:=x.filter _
theorem cut {b d:Nat->Int}{a:List Nat}(g:∀h∈a,b c≠(h:Int))(o:∀t∈a,∀T∈a,b t=(T:Int)->T<t):∀T∈dl b c a,∀t∈vI b c a,wt b d T t=0:=λT e t H=>by
 have e:=dl_mem.mp e;have H:=LP.mp H;delta wt;rw[qm,qm]
 .rintro ⟨I,h2⟩
  cases e.2 with
  |self=>exact g t H.1 h2|step U n k G=>
   exact H.2<|Q (mG.mp<|h2.symm.trans n) G
 .rintro ⟨I,h2⟩;exact H.2<|.step (av e.2.le I) h2 I e.2
end
section
variable (d:Nat->Int) (f ti:Nat->Int) (n:Nat)
def Gp (h:Nat):Po:=m d (wt f ti)<|dl f h<|sl (h+1) n
def Fp (c:Nat):Po:=m d (wt f ti)<|c::dl f c (sl (c+1) n)
end
theorem Fj (h):(h::dl f h (sl (h+1) n)).Nodup:=bI.mpr ⟨λa=>by have:=rH.mp (dl_mem.mp a).1;lia,A8<|uE _ _⟩
theorem split {a:List Nat}(x:a.Nodup)(H:c<n)(o:∀t,wh f c t->t<n->t∈a)(I:∀t∈a,t<n)(b:∀T∈a,f c≠(T:Int))(G:∀t∈a,∀z∈a,f t=(z:Int)->z<t) :
  m d (wt f ti) a=conv (Fp d f ti n c) (m d (wt f ti)<|vI f c a)/\m d (wt f ti) (a.erase c)=conv (Gp d f ti n c) (m d (wt f ti)<|vI f c a):=by
 have VZ:(dl f c a).Perm<|c::dl f c (sl (c+1) n):=by
  refine (lJ (A8 x)<|Fj c).mpr λt=>?_
  rw[dl_mem,aE,dl_mem,rH];constructor
  .rintro ⟨g,L⟩;have:=L.le;have:=I t g
   by_cases e:t=c
   .exact .inl e
   .exact .inr ⟨⟨ct L.le<|fJ e,I t g⟩,L⟩
  .rintro (rfl|⟨g,L⟩)
   .exact ⟨o _ .self H,.self⟩
   .exact ⟨o _ L g.2,L⟩
 have A:a.Perm<|c::(dl f c (sl (c+1) n)++vI f c a):=(Mm f c a).symm.trans<|VZ.append_right _
 have p:∀z∈c::dl f c (sl (c+1) n),∀t∈vI f c a,wt f ti z t=0:=λz U=>(cut b G) z<|VZ.mem_iff.mpr U
 refine ⟨funext λu=>?_,funext λu=>?_⟩
 .exact ax (zc (Eh f ti) a.length (ag _) A x u)<|EO d (wt f ti) (vI f c a) _ (c::dl f c (sl (c+1) n)) (ag _) p u
 .have y:(a.erase c).Perm<|dl f c (sl (c+1) n)++vI f c a:=by
   have:=A.erase c;rw[cQ] at this;exact this
  exact ax (zc (Eh f ti) _ (ag _) y (x.erase c) u)<|EO d (wt f ti) (vI f c a) _ _ (ag _) (λz U=>p z<|.tail _ U) u
theorem wh.trans (G:wh f a b)(x:wh f b c):wh f a c:=by
 induction x with
 |self=>exact G|step H r T y z=>exact .step (av G.le H) r T z
def Hj (U:Nat->Int)(c:Nat):Prop:=∀h,h<c->∀t:Nat,U h=(t:Int)->t<h
theorem kid (a:Hj f n)(H:h<t)(U:t<n)(e:f t=(h:Int)):t∈dl f h (sl (h+1) n)/\
  m d (wt f ti) (dl f h<|sl (h+1) n)=conv (Fp d f ti n t) (m d (wt f ti)<|vI f t<|dl f h<|sl (h+1) n)/\m d (wt f ti) ((dl f h<|sl (h+1) n).erase t)=conv (Gp d f ti n t) (m d (wt f ti)<|vI f t<|dl f h<|sl (h+1) n):=by
 refine ⟨dl_mem.mpr ⟨rH.mpr ⟨H,U⟩,(.step H e H .self:wh f h t)⟩,split (A8<|uE _ _) U (λT G k=>dl_mem.mpr ⟨rH.mpr ⟨aa H G.le,k⟩,(.step H e H .self:wh f h t).trans G⟩) (λT G=>(rH.mp (dl_mem.mp G).1).2) (λz G i=>?_) λT G A J i=>a T (rH.mp (dl_mem.mp G).1).2 A i⟩;have:=(rH.mp (dl_mem.mp G).1).1;lia
theorem whole (a:Hj f n)(G:h<n):m d (wt f ti) (sl h n)=conv (Fp d f ti n h) (m d (wt f ti)<|vI f h<|sl h n)/\m d (wt f ti) (sl (h+1) n)=conv (Gp d f ti n h) (m d (wt f ti)<|vI f h<|sl h n):=by
 have t:=split (d:=d) (ti:=ti) (uE _ _) G (λu t U=>rH.mpr ⟨t.le,U⟩) (λu t=>(rH.mp t).2) (λT t e=>by have:=a h G T e;have:=(rH.mp t).1;lia) λu t z J e=>a u (rH.mp t).2 z e
 replace t:=(show (sl h n).erase h=sl (h+1) n by refine Q (Aj G)<|Q (cQ ..) rfl)▸t;exact t
theorem Ig (G:c<u):wt f ti c u=if f u=(c:Int) then ti u*ti u else 0:=by
 delta wt
 by_cases e:f u=(c:Int)
 .refine Q (ql ⟨G,e⟩)<|Q (ql e) rfl
 .refine Q (qm λt=>e t.2)<|Q (qm λt=>by lia)<|Q (qm e) rfl
def Kind (b:Nat->Int)(U g:Nat->Int)(c:Nat)(o G:Nat->Int)(h:Nat):Prop:=g h=0\/Dk (Fp b U g c h) (Gp b U g c h) (o h) (G h)\/wO (Fp b U g c h) (Gp b U g c h)\/Cj (Fp b U g c h) (Gp b U g c h)
theorem Pk (h t):Fp d f ti n h t=sh (Gp d f ti n h) t-d h*Gp d f ti n h t-qw (λT=>wt f ti h T*m d (wt f ti) ((dl f h<|sl (h+1) n).erase T) t) (dl f h<|sl (h+1) n):=tj d (wt f ti) h _ t
theorem IB {b:Nat->Int}:∀{l:List Nat},(∀u∈l,0<=b u)->(∃u∈l,0<b u)->0<qw b l
 |[]=>@λJ a=>qt a λJ a J=>nomatch a
 |u::l=>@λe a=>by
  show 0<b u+qw b l;obtain ⟨h,hx,G⟩:=a;rcases aE.mp hx with rfl|hx
  .exact M6 (xQ λh hx=>e h<|.tail _ hx) G
  .exact Nm (e u<|.head _) (IB (λh hx=>e h<|.tail _ hx)<|qp h hx G)
section
variable (o:Hj ab n) (v:k<n) (j:∀c,k<c->c<n->ab c=(k:Int)->Kind d ab ti n U L c)
include o v j
theorem TR {t:Nat}(T:k<t)(p:t<n)(e:ab t=(k:Int)):ti t=0\/Dk (Gp d ab ti n k) (m d (wt ab ti)<|(dl ab k<|sl (k+1) n).erase t) (U t) (L t)\/wO (Gp d ab ti n k) (m d (wt ab ti)<|(dl ab k<|sl (k+1) n).erase t)\/Cj (Gp d ab ti n k) (m d (wt ab ti)<|(dl ab k<|sl (k+1) n).erase t):=by
 refine qJ (kid (d:=d) (ti:=ti) o T p e) λa i q=>qt (w4 (d:=d) (w:=wt ab ti)<|vI ab t<|dl ab k<|sl (k+1) n) λz J x=>?_
 have i:Gp d ab ti n k=_:=i;exact Q i<|Q q<|(j t T p e).imp id<|Or.imp (·.conv x)<|Or.imp (·.conv x) (·.conv x)
theorem Gn {T:Nat}(x:sb (Gp d ab ti n k) T)(b:u∈dl ab k (sl (k+1) n))(f:i<T)(hz:i+1=T->¬(ab u=(k:Int)/\ti u≠0/\wO (Gp d ab ti n k) (m d (wt ab ti)<|(dl ab k<|sl (k+1) n).erase u))):wt ab ti k u*m d (wt ab ti) ((dl ab k<|sl (k+1) n).erase u) i=0:=by
 have t:=rH.mp (dl_mem.mp b).1;refine Q (Ig<|show k<u by lia) ?_
 by_cases e:ab u=(k:Int)
 .refine Q (ql e) ?_;rcases TR o v j (by lia) t.2 e with h|h|h|h
  .refine Q h ?_;simp
  .obtain ⟨w,a,p,_⟩:=h;refine Q (p.2 i<|Q (a.same x) f)<|Q (bD ..) rfl
  .by_cases q:ti u=0
   .refine Q q ?_;simp
   .obtain ⟨w,a,p⟩:=id h
    by_cases z:i+1=T
    .exact absurd ⟨e,q,h⟩<|hz z
    .refine Q (p.2 i<|NA f (a.same x) z)<|Q (bD ..) rfl
  .obtain ⟨w,a,p⟩:=h;refine Q (p.2 i<|a.same x▸dT f)<|Q (bD ..) rfl
 .refine Q (qm e)<|Q (bz ..) rfl
theorem below {T:Nat}(x:sb (Gp d ab ti n k) T)(a:z<T)(G:z+1=T->∀A∈dl ab k (sl (k+1) n),¬(ab A=(k:Int)/\ti A≠0/\wO (Gp d ab ti n k) (m d (wt ab ti)<|(dl ab k<|sl (k+1) n).erase A))):Fp d ab ti n k z=0:=by
 refine Q (Pk ..)<|Q (x.2 z a) ?_
 have e:sh (Gp d ab ti n k) z=0:=by
  cases z with
  |zero=>rfl|succ z=>exact x.2 z<|fU a
 refine Q e<|Q (J (sZ<|dl ab k<|sl (k+1) n)<|qQ λA b=>Gn o v j x b a λp=>G p A b:qw (λA=>wt ab ti k A*m d (wt ab ti) ((dl ab k<|sl (k+1) n).erase A) z) (dl ab k<|sl (k+1) n)=0) ?_;simp
theorem Sq {t:Nat}(T:k<t)(p:t<n)(h3:ab t=(k:Int))(f:ti t≠0)(hc:wO (Fp d ab ti n t)<|Gp d ab ti n t):Cj (Fp d ab ti n k)<|Gp d ab ti n k:=by
 refine qJ (kid (d:=d) (ti:=ti) o T p h3) λhm i y=>qt (w4 (d:=d) (w:=wt ab ti)<|vI ab t<|dl ab k<|sl (k+1) n) λz W x=>?_
 have b:wO (Gp d ab ti n k)<|m d (wt ab ti)<|(dl ab k<|sl (k+1) n).erase t:=by have i:Gp d ab ti n k=_:=i;exact Q i<|Q y<|hc.conv x
 obtain ⟨A,a,G⟩:=b;refine qp A ⟨?_,λI hi=>below o v j a (jT hi) λe=>by lia⟩ a;have s:0<qw (λu=>Gp d ab ti n k (A+1)*(wt ab ti k u*m d (wt ab ti) ((dl ab k<|sl (k+1) n).erase u) A)) (dl ab k<|sl (k+1) n):=by
  have tm:∀u∈dl ab k (sl (k+1) n),ab u=(k:Int)->ti u≠0->wO (Gp d ab ti n k) (m d (wt ab ti)<|(dl ab k<|sl (k+1) n).erase u)->0<Gp d ab ti n k (A+1)*(wt ab ti k u*m d (wt ab ti) ((dl ab k<|sl (k+1) n).erase u) A):=λu g q h b=>by
   obtain ⟨H,a',y'⟩:=b;have e:H=A:=cC<|a'.same a
   refine J e ?_;clear e;have hm:=rH.mp (dl_mem.mp g).1;refine Q (Ig<|show k<u by lia)<|Q (ql q)<|Q (cP ..)<|ij ?_<|Jr (Ei d ab ti) (A8<|uE _ _) g a' y'
   exact od.mpr ⟨N6 _,(fe h h).symm⟩
  refine IB (λu g=>?_)<|qp t hm<|tm t hm h3 f<|qp A a G
  by_cases q:ab u=(k:Int)/\ti u≠0/\wO (Gp d ab ti n k) (m d (wt ab ti)<|(dl ab k<|sl (k+1) n).erase u)
  .exact bU<|tm u g q.1 q.2.1 q.2.2
  .exact Q (Gn o v j a g (bW A) λW=>q)<|Q (bD ..)<|cZ _
 intro h0;revert h0;refine Q (Pk ..)<|Q (a.2 A<|bW A) ?_;intro h0
 have e3:sh (Gp d ab ti n k) A=0:=by
  cases A with
  |zero=>rfl|succ A=>exact a.2 A<|cY _
 rw[e3] at h0
 rw[r8] at s
 rw[(by simp at h0;exact h0:qw (λu=>wt ab ti k u*m d (wt ab ti) ((dl ab k<|sl (k+1) n).erase u) A) (dl ab k<|sl (k+1) n)=0),bD] at s
 exact eJ _ s
theorem Sp {l:Int}(G:∀c,k<c->c<n->ab c=(k:Int)->ti c≠0->¬wO (Fp d ab ti n c) (Gp d ab ti n c))(f:l≠0)(hp:∀(g:Int)(T:Nat->Int),(∀c,k<c->c<n->ab c=(k:Int)->ti c≠0->Dk (Fp d ab ti n c) (Gp d ab ti n c) (U c) (L c)->g*L c=- U c*T c)->
   (∀c,k<c->c<n->ab c=(k:Int)->ti c≠0->Cj (Fp d ab ti n c) (Gp d ab ti n c)->T c=0)->
   l*(d k*g+qw (λc=>wt ab ti k c*T c) (dl ab k<|sl (k+1) n))=u*g) :
  (u≠0->Dk (Fp d ab ti n k) (Gp d ab ti n k) u l)/\(u=0->wO (Fp d ab ti n k) (Gp d ab ti n k)):=by
 refine qt (w4 (d:=d) (w:=wt ab ti)<|dl ab k<|sl (k+1) n) λz hZl I=>?_
 have I:sb (Gp d ab ti n k) z:=I;have QW:∀c,k<c->c<n->ab c=(k:Int)->ti c≠0->∀{A:Po}{b:Nat},sb A b->wO (Gp d ab ti n k) (m d (wt ab ti)<|(dl ab k<|sl (k+1) n).erase c)->False:=λc h1 h2 h3 ht A b W hz=>by
  refine qJ (kid (d:=d) (ti:=ti) o h1 h2 h3) λhm i e2=>qt (w4 (d:=d) (w:=wt ab ti)<|vI ab c<|dl ab k<|sl (k+1) n) λb W hb=>?_
  have i:Gp d ab ti n k=_:=i;obtain ⟨t,a,y⟩:=hz;rcases j c h1 h2 h3 with h|h|h|h
  .exact ht h
  .obtain ⟨z',p,q,_⟩:=h.conv hb
   rw[<- i] at p;rw[<- e2] at q
   have:=p.same a;have:=q.same y;lia
  .exact G c h1 h2 h3 ht h
  .obtain ⟨z',p,q⟩:=h.conv hb
   rw[<- i] at p;revert q;refine J e2 ?_;intro q
   have:=p.same a;have:=q.same y;lia
 have Ul:∀H,H<z->Fp d ab ti n k H=0:=λH hi=>below o v j I hi λW w hw h=>QW w (by have:=rH.mp (dl_mem.mp hw).1;lia) (rH.mp (dl_mem.mp hw).1).2 h.1 h.2.1 I h.2.2
 have E0:Fp d ab ti n k z*l=- u*Gp d ab ti n k z:=by
  have hq:=hp (Gp d ab ti n k z) (λc=>m d (wt ab ti) ((dl ab k<|sl (k+1) n).erase c) z) (λc h1 h2 h3 ht h=>by
    obtain ⟨hm,i,e2⟩:=kid o h1 h2 h3;obtain ⟨b,_,hb⟩:=w4 (vI ab c<|dl ab k<|sl (k+1) n);obtain ⟨z',p,q,A,_⟩:=h.conv hb
    rw[<- i] at p A;replace A:=e2.symm▸A
    have:=p.same I;refine J this ?_;clear this;exact A) (λc h1 h2 h3 ht h=>by
    obtain ⟨hm,i,e2⟩:=kid o h1 h2 h3;obtain ⟨b,_,hb⟩:=w4 (vI ab c<|dl ab k<|sl (k+1) n);obtain ⟨z',p,q⟩:=h.conv hb
    rw[<- i] at p;rw[<- e2] at q
    have:=p.same I;refine J this ?_;clear this;exact q.2 z'<|bW z')
  refine Q (Pk ..) ?_;have e3:sh (Gp d ab ti n k) z=0:=by
   cases z with
   |zero=>rfl|succ t=>exact I.2 t<|bW t
  refine Q e3 ?_;generalize qw (λc=>wt ab ti k c*m d (wt ab ti) ((dl ab k<|sl (k+1) n).erase c) z) (dl ab k<|sl (k+1) n)=s at *
  generalize Gp d ab ti n k z=g at *
  clear hp Ul QW I;generalize d k=x at *
  grind
 refine ⟨λhu=>zA z ⟨λh0=>?_,Ul⟩ I E0 hu f,λhu=>?_⟩
 .rw[h0,bz] at E0
  exact fe (Int.neg_ne_zero.mpr hu) I.1 E0.symm
 .have h0:Fp d ab ti n k z=0:=by
   rw[hu,Int.neg_zero,bz] at E0
   exact (Int.mul_eq_zero.mp E0).resolve_right f
  refine qt (w4 (d:=d) (w:=wt ab ti)<|k::dl ab k (sl (k+1) n)) λt hz1 hz=>?_
  have hup:=(aau (Ei d ab ti) (Fj k) (iQ ..) hz<|Q (cQ ..) I).1;have:¬t<=z:=λq=>by
   by_cases e:t=z
   .exact hz.1<|Q e h0
   .exact hz.1<|Ul t<|by lia
  exact qp z (J (by lia:t=z+1) hz) I
end
structure LS where
 U:Nat->Int
 L:Nat->Int
 no:Nat->Int
 a:Int
 b:Int
 c:Int
noncomputable def up (b:Nat->Int)(c:Nat)(q:Int):Nat->Int:=λh=>if h=c then q else b h
def lst (T o:Nat->Int)(e:Nat)(f:LS):LS:=
 if 0<f.no e then { f with a:=f.a+1,b:=f.b+1,c:=f.c-1 }
 else if f.U e=0 then { f with c:=f.c+1,no:=if o e=0 then f.no else up f.no (T e).toNat (f.no (T e).toNat+1) }
 else { f with a:=if 0<f.U e*f.L e then f.a+1 else f.a,b:=if 0<f.U e*f.L e then f.b else f.b+1,U:=if o e=0 then f.U else up f.U (T e).toNat (f.U (T e).toNat*f.U e-o e*o e*f.L e*f.L (T e).toNat),L:=if o e=0 then f.L else up f.L (T e).toNat (f.L (T e).toNat*f.U e) }
section
variable (d j o:Nat->Int) (n:Nat)
def Done (a:LS)(h:Nat):Prop:=(0<a.no h->Cj (Fp d j o n h) (Gp d j o n h))/\(a.no h<=0->a.U h≠0->Dk (Fp d j o n h) (Gp d j o n h) (a.U h) (a.L h))/\(a.no h<=0->a.U h=0->wO (Fp d j o n h) (Gp d j o n h))
def Todo (h:Nat)(a:LS)(t:Nat):Prop:=a.L t≠0/\0<=a.no t/\(0<a.no t↔∃T,h<=T/\T<n/\j T=(t:Int)/\o T≠0/\wO (Fp d j o n T) (Gp d j o n T))/\
 ∀(q:Int)(p:Nat->Int),(∀T,h<=T->T<n->j T=(t:Int)->o T≠0->Dk (Fp d j o n T) (Gp d j o n T) (a.U T) (a.L T)->q*a.L T=- a.U T*p T)->
  (∀T,h<=T->T<n->j T=(t:Int)->o T≠0->(wO (Fp d j o n T) (Gp d j o n T)\/Cj (Fp d j o n T) (Gp d j o n T))->p T=0)->
  a.L t*(d t*q+qw (λT=>if j T=(t:Int) then o T*o T*p T else 0) (sl h n))=a.U t*q
structure yp (k:Nat) (s:LS):Prop where
 don:∀c,k<=c->c<n->Done d j o n s c
 Vu:∀p,p<k->p<n->Todo d j o n k s p
 cnt:s.a=(pos d (wt j o)<|sl k n:Nat)/\s.b=(pos (λv=>- d v) (wt j o)<|sl k n:Nat)/\∃z:Nat,sb (m d (wt j o)<|sl k n) z/\s.c=(z:Int)
end
theorem P9 (c):sl c c=[]:=by delta sl;exact Q (Nat.sub_self ..) rfl
theorem ER {s:LS}(h1:s.U=d)(h2:s.L=λJ=>1)(h3:s.no=λJ=>0)(h4:s.a=0)(h5:s.b=0)(h6:s.c=0):yp d j o n n s where
 don:=λc h k=>absurd h<|gF.mpr k
 Vu:=λp J hp=>by
  refine tb (Q h2 (by decide:(1:Int)≠0)) (Q h3<|cZ 0) ?_ λg η J J=>?_
  .exact Q h3 ⟨λh=>absurd h<|eJ 0,λrR=>rT rR λc a b J=>absurd a<|gF.mpr b⟩
  .refine Q h1<|Q h2<|Q (P9 ..) ?_
   show 1*(d p*g+0)=d p*g;refine Q (dO ..)<|Q (dJ ..) rfl
 cnt:=Q (P9 ..)<|Q h4<|Q h5<|Q h6<|⟨rfl,rfl,0,⟨(by decide:(1:Int)≠0),λi h=>nomatch h⟩,rfl⟩
theorem kinds_of (i:yp d j o n (h+1) s):∀t,h<t->t<n->j t=(h:Int)->Kind d j o n s.U s.L t:=λt G T J=>by
 obtain ⟨a,b,e⟩:=i.don t G T
 by_cases k:0<s.no t
 .exact .inr<|.inr<|.inr<|a k
 .by_cases f:s.U t=0
  .exact .inr<|.inr<|.inl<|e (bX.mp k) f
  .exact .inr<|.inl<|b (bX.mp k) f
theorem Xq (p:Dk f g U L)(k:wO f g):False:=by obtain ⟨c,x,q,_⟩:=p;obtain ⟨h,s,t⟩:=k;have:=x.same s;have:=q.same t;lia
theorem WV (k:wO f g)(G:Cj f g):False:=by obtain ⟨c,x,q⟩:=k;obtain ⟨h,p,s⟩:=G;have:=x.same p;have:=q.same s;lia
theorem Ki (a:Hj j n)(H:h<n)(u:yp d j o n (h+1) s):Done d j o n s h:=by
 obtain ⟨c,w,f,I⟩:=u.Vu h (bW h) H;have EZ:s.no h<=0->∀t,h<t->t<n->j t=(h:Int)->o t≠0->¬wO (Fp d j o n t) (Gp d j o n t):=λi t T k e x y=>by have:=f.mpr<|zA t T k e x y;lia
 have G:s.no h<=0->_:=λi=>Sp a H (kinds_of u) (EZ i) c λq v p b=>by
  have z:=I q v (λt T k e x=>p t T k e x) λt T k e x y=>y.elim (λy=>absurd y<|EZ i t T k e x)<|b t T k e x
  refine J z ?_;congr 2;have A:qw (λt=>if j t=(h:Int) then o t*o t*v t else 0) (vI j h<|sl (h+1) n)=0:=by
   refine (qQ λt g=>qm λz=>?_).trans<|sZ _
   have g:=LP.mp g;have:=rH.mp g.1;exact g.2<|.step (show h<t by lia) z (by lia) .self
  refine Q (J (Dw ..)<|BE (Mm j h _).symm:qw (λt=>if j t=(h:Int) then o t*o t*v t else 0) (sl (h+1) n)=qw (λt=>if j t=(h:Int) then o t*o t*v t else 0) (dl j h<|sl (h+1) n)+qw (λt=>if j t=(h:Int) then o t*o t*v t else 0) (vI j h<|sl (h+1) n))<|Q A<|Q (dJ ..)<|qQ λt g=>?_
  have:=rH.mp (dl_mem.mp g).1;refine Q (Ig<|show h<t by lia) ?_
  by_cases i:j t=(h:Int)
  .refine Q (ql i)<|Q (ql i) rfl
  .refine Q (qm i)<|Q (qm i)<|Q (bz ..) rfl
 exact ⟨λi=>HC (f.mp i) λt T k e x y=>Sq a H (kinds_of u) T k e x y,λi=>(G i).1,λi=>(G i).2⟩
theorem Cs {b:Nat->Int}{c:Nat}(e:i≠c):up b c x i=b i:=qm e
theorem up_eq {b:Nat->Int}{c:Nat}:up b c x c=x:=ql rfl
theorem Js {b:Nat->Int}{e:Nat->Nat->Int}{a:List Nat}(x:sb (m b e a) z):z<=a.length:=by
 by_cases w:z<=a.length
 .exact w
 .have:=x.2 a.length<|kT w
  rw[vW] at this;exact absurd this (by decide)
theorem gk {q:Prop}(b:∀v:Prop,(q->v)->v):q:=b q id
theorem ZK {t:Int}(e:f*t=- u*g)(c:u≠0)(v:t≠0)(x:g≠0):(0<u*t/\f*g<0)\/(u*t<0/\0<f*g):=by
 have sq:∀y:Int,y≠0->0<y*y:=λy q=>(iZ q).elim (λq=>i_ q q) λq=>ij q q
 have i:f*g*(t*t)=- (u*t*(g*g)):=by clear c v x sq;grind
 rcases iZ (fe c v) with q|q
 .refine .inr ⟨q,hZ.mp λw=>?_⟩;have z:=j' w<|bU<|sq t v
  rw[i] at z
  exact absurd (eQ (mr q<|sq g x))<|bX.mpr z
 .refine .inl ⟨q,hZ.mp λw=>?_⟩;have z:=gW w<|bU<|sq t v
  rw[i] at z
  exact absurd (oN (ij q<|sq g x))<|bX.mpr z
section
variable (A:Hj ab n) (j:∀k,k<n->ti k≠0->∃p:Nat,ab k=(p:Int)) (o:k<n) (h:yp d ab ti n (k+1) s)
include A j o
theorem par {p:Nat}(c:ti k≠0):(ab k).toNat<k/\(ab k=(p:Int)↔p=(ab k).toNat):=rM (j k o c) λz e=>Q e<|Q (dU ..) ⟨A k o z e,λh=>(mG.mp h).symm,λh=>by refine Q h rfl⟩
theorem keep (w:k<=c):(lst ab ti k s).U c=s.U c/\(lst ab ti k s).L c=s.L c/\(lst ab ti k s).no c=s.no c:=by
 delta lst
 by_cases T:0<s.no k
 .rw[ql T];exact ⟨rfl,rfl,rfl⟩
 .rw[qm T]
  by_cases e:s.U k=0
  .rw[ql e];refine ⟨rfl,rfl,?_⟩
   by_cases i:ti k=0
   .refine Q (ql i) rfl
   .exact Q (qm i)<|Cs<|by have:=(par A j o (p:=0) i).1;lia
  .rw[qm e];refine ⟨?_,?_,rfl⟩
   .show (if ti k=0 then s.U else up s.U _ _) c=s.U c
    by_cases i:ti k=0
    .refine Q (ql i) rfl
    .exact Q (qm i)<|Cs<|by have:=(par A j o (p:=0) i).1;lia
   .show (if ti k=0 then s.L else up s.L _ _) c=s.L c
    by_cases i:ti k=0
    .refine Q (ql i) rfl
    .exact Q (qm i)<|Cs<|by have:=(par A j o (p:=0) i).1;lia
include h
theorem SO:∀T,k<=T->T<n->Done d ab ti n (lst ab ti k s) T:=λT w U=>by
 refine qJ (keep A j o (s:=s) w) λe i q=>?_
 have:Done d ab ti n s T:=by
  by_cases z:T=k
  .exact Q z<|Ki A o h
  .exact h.don T (ct w<|fJ z) U
 delta Done at *
 exact Q e<|Q i<|Q q this
theorem SP:(lst ab ti k s).a=(pos d (wt ab ti)<|sl k n:Nat)/\(lst ab ti k s).b=(pos (λT=>- d T) (wt ab ti)<|sl k n:Nat)/\∃z:Nat,sb (m d (wt ab ti)<|sl k n) z/\(lst ab ti k s).c=(z:Int):=by
 refine gk λv I=>qJ h.cnt λc1 i U=>qt U λt x y=>?_
 obtain ⟨a,G,b⟩:=Ki A o h;obtain ⟨f,H⟩:=whole A o;refine qt (w4 (d:=d) (w:=wt ab ti)<|vI ab k<|sl k n) λu W q=>?_
 have hS:=uE k n;have hv:k∈sl k n:=rH.mpr ⟨ag _,o⟩;have c:(sl k n).erase k=sl (k+1) n:=by refine Q (Aj o)<|Q (cQ ..) rfl
 by_cases q1:0<s.no k
 .replace I:=λL=>I<|Q (show lst ab ti k s=_ from ql q1) L
  obtain ⟨z,a1,a2⟩:=(a q1).conv q
  revert a1;refine J f ?_;intro a1;rw[<- H] at a2
  have e:=a2.same x;subst e;obtain ⟨g,p2⟩:=O2 (Ei d ab ti) hS hv a1 (Q c a2) (Q c<|Js x);rw[c] at g p2
  refine I ⟨?_,?_,z,a1,?_⟩
  .show s.a+1=_;exact Q g<|Q c1 rfl
  .show s.b+1=_;exact Q p2<|Q i rfl
  .show s.c-1=_;refine Q y ?_;lia
 .skip
  by_cases q2:s.U k=0
  .replace I:=λL=>I<|Q (show lst ab ti k s=_ from (qm q1).trans (ql q2)) L
   obtain ⟨z,a1,a2⟩:=(b (bX.mp q1) q2).conv q
   rw[<- f] at a1;rw[<- H] at a2
   have e:=a2.same x;subst e;obtain ⟨g,p2⟩:=O1 (Ei d ab ti) hS hv a1 (Q c a2) (Q c<|Js x);rw[c] at g p2
   refine I ⟨?_,?_,z+1,a1,?_⟩
   .refine Q g<|ax c1 rfl
   .refine Q p2<|ax i rfl
   .show s.c+1=_;exact Q y rfl
  .replace I:=λL=>I<|Q (show lst ab ti k s=_ from (qm q1).trans (qm q2)) L
   obtain ⟨z,a1,a2,a3,a4,a5⟩:=(G (bX.mp q1) q2).conv q
   rw[<- f] at a1 a3;rw[<- H] at a2 a3
   have e:=a2.same x;subst e;obtain ⟨g,p2⟩:=Rw (Ei d ab ti) hS hv a1 (Q c a2) (Q c<|Js x) (s.U k*s.L k) (Q c<|ZK a3 a4 a5 a2.1);rw[c] at g p2
   refine I ⟨?_,?_,z,a1,y⟩
   .show (if 0<s.U k*s.L k then s.a+1 else s.a)=_;refine Q g<|Q c1 ?_;split<;>rfl
   .show (if 0<s.U k*s.L k then s.b else s.b+1)=_;refine Q p2<|Q i ?_;split<;>rfl
end
theorem Zl {u:Int}(e:g*lk=- uk*y)(o:lp*(dp*g+u)=up0*g):lp*uk*(dp*g+(t*t*y+u))=(up0*uk-t*t*lk*lp)*g:=by grind
section
variable (j:Hj ab n) (f:∀k,k<n->ti k≠0->∃p:Nat,ab k=(p:Int)) (i:k<n) (h:yp d ab ti n (k+1) s)
include j f i h
theorem x_ {o:LS}{p:Nat}(a:p<k)(e:o.U p=s.U p)(u:o.L p=s.L p)(v:o.no p=s.no p)(I:∀T,k<=T->o.U T=s.U T/\o.L T=s.L T)(hz:ab k=(p:Int)->ti k≠0->Cj (Fp d ab ti n k) (Gp d ab ti n k)):Todo d ab ti n k o p:=by
 obtain ⟨c,w,x,t4⟩:=h.Vu p (jT a) (eG a i);delta Todo;refine Q e<|Q u<|Q v<|tb c w (x.trans ⟨λU=>qt U λT y A=>qp T (by lia) A,λb=>HC b λT y A z q L=>zA T ?_ A z q L⟩) λq G y A=>?_
 .by_cases H:T=k
  .subst H;exact (WV L<|hz z q).elim
  .lia
 .refine Q (Aj i) ?_;show s.L p*(d p*q+((if ab k=(p:Int) then ti k*ti k*G k else 0)+qw _ (sl (k+1) n)))=_;have e0:(if ab k=(p:Int) then ti k*ti k*G k else 0)=0:=by
   by_cases H:ab k=(p:Int)
   .rw[ql H]
    by_cases t:ti k=0
    .refine Q t ?_;simp
    .refine Q (A k (ag _) i H t<|.inr<|hz H t)<|Q (bD ..) rfl
   .rw[qm H]
  refine Q e0<|Q (dz ..)<|t4 q G (λT e u v h4 r=>?_) λT e u v h4 r=>A T (by lia) u v h4 r
  obtain ⟨e1,g⟩:=I T (by lia);have:=y T (by lia) u v h4<|Q e1<|Q g r
  rw[e1,g] at this;exact this
theorem SM:∀p,p<k->p<n->Todo d ab ti n k (lst ab ti k s) p:=λp o u=>by
 have G:∀T,k<=T->(lst ab ti k s).U T=s.U T/\(lst ab ti k s).L T=s.L T:=λT w=>qJ (keep j f i w) λa v W=>⟨a,v⟩
 obtain ⟨d1,d2,d3⟩:=Ki j i h;obtain ⟨c,y,A,t4⟩:=h.Vu p (jT o) u
 by_cases I:0<s.no k
 .have e:(lst ab ti k s).U=s.U/\(lst ab ti k s).L=s.L/\(lst ab ti k s).no=s.no:=by delta lst;exact Q (ql I)<|ri rfl rfl rfl
  exact x_ j f i h o (by refine Q e.1 rfl) (by refine Q e.2.1 rfl) (by refine Q e.2.2 rfl) G λW W=>d1 I
 .skip
  by_cases L:s.U k=0
  .have eU:(lst ab ti k s).U=s.U/\(lst ab ti k s).L=s.L/\(lst ab ti k s).no=if ti k=0 then s.no else up s.no (ab k).toNat (s.no (ab k).toNat+1):=by delta lst;exact Q (qm I)<|Q (ql L)<|ri rfl rfl rfl
   by_cases t:ti k=0
   .revert eU;refine Q (ql t) ?_;intro eU;exact x_ j f i h o (by refine Q eU.1 rfl) (by refine Q eU.2.1 rfl) (by refine Q eU.2.2 rfl) G λW z=>absurd t z
   .revert eU;refine Q (qm t) ?_;intro eU;refine rF (par j f i (p:=p) t) λb1 b2=>?_
    by_cases e:p=(ab k).toNat
    .skip
     delta Todo;refine Q eU.1<|Q eU.2.1<|Q eU.2.2<|J e<|Q (up_eq ..)<|tb c (by lia) ⟨λW=>zA k (ag _) i (b2.mpr e) t<|d3 (bX.mp I) L,λW=>by lia⟩ λg x a v=>Q (Aj i) ?_
     show s.L p*(d p*g+((if ab k=(p:Int) then ti k*ti k*x k else 0)+qw _ (sl (k+1) n)))=_;exact Q (ql<|b2.mpr e)<|Q (v k (ag _) i (b2.mpr e) t<|.inl<|d3 (bX.mp I) L)<|Q (bD ..)<|Q (dz ..)<|t4 g x (λT b U H h4 r=>a T (by lia) U H h4 r) λT b U H h4 r=>v T (by lia) U H h4 r
    .exact x_ j f i h o (by refine Q eU.1 rfl) (by refine Q eU.2.1 rfl) (Q eU.2.2<|Cs e) G λz W=>absurd (b2.mp z) e
  .skip
   have eU:(lst ab ti k s).U=(if ti k=0 then s.U else up s.U (ab k).toNat (s.U (ab k).toNat*s.U k-ti k*ti k*s.L k*s.L (ab k).toNat))/\(lst ab ti k s).L=(if ti k=0 then s.L else up s.L (ab k).toNat (s.L (ab k).toNat*s.U k))/\(lst ab ti k s).no=s.no:=by delta lst;exact Q (qm I)<|Q (qm L)<|ri rfl rfl rfl
   by_cases t:ti k=0
   .revert eU;refine Q (ql t)<|Q (ql t) ?_;intro eU
    exact x_ j f i h o (by refine Q eU.1 rfl) (by refine Q eU.2.1 rfl) (by refine Q eU.2.2 rfl) G λW z=>absurd t z
   .revert eU;refine Q (qm t)<|Q (qm t) ?_;intro eU
    refine rF (par j f i (p:=p) t) λb1 b2=>?_
    by_cases e:p=(ab k).toNat
    .skip
     delta Todo;refine Q (show (lst ab ti k s).U p=s.U p*s.U k-ti k*ti k*s.L k*s.L p by refine Q eU.1<|J e<|ax up_eq rfl)<|Q (show (lst ab ti k s).L p=s.L p*s.U k by refine Q eU.2.1<|J e<|ax up_eq rfl)<|Q eU.2.2<|tb (fe c L) y (A.trans ⟨λyq=>qt yq λT a v=>qp T (by lia) v,λyr=>HC yr λT a v e g z=>zA T ?_ v e g z⟩) λg x a v=>?_
     .by_cases q:T=k
      .subst q;exact (Xq (d2 (bX.mp I) L) z).elim
      .lia
     .refine Q (Aj i) ?_;show s.L p*s.U k*(d p*g+((if ab k=(p:Int) then ti k*ti k*x k else 0)+qw _ (sl (k+1) n)))=_;refine Q (ql<|b2.mpr e) ?_;have hη:=a k (ag _) i (b2.mpr e) t<|Q ((G k<|ag _).1)<|Q ((G k<|ag _).2)<|d2 (bX.mp I) L
      rw[(G k<|ag _).1,(G k<|ag _).2] at hη
      have hm:=t4 g x (λT b U H h4 r=>by
       obtain ⟨e1,e2⟩:=G T (by lia);have:=a T (by lia) U H h4<|Q e1<|Q e2 r
       rw[e1,e2] at this;exact this) λT b U H h4 r=>v T (by lia) U H h4 r
      exact Zl hη hm
    .exact x_ j f i h o (Q eU.1<|Cs e) (Q eU.2.1<|Cs e) (by refine Q eU.2.2 rfl) G λz W=>absurd (b2.mp z) e
theorem GQ:yp d ab ti n k<|lst ab ti k s:=⟨SO j f i h,SM j f i h,SP j f i h⟩
end
noncomputable def val (A:Po)(q:Int):Nat->Int
 |0=>0|NNq+1=>val A q NNq+A NNq*q^NNq
theorem Lw (A T i:Po)(q a):∀NNq,val (λh=>A h-q*T h-i h) a NNq=val A a NNq-q*val T a NNq-val i a NNq
 |0=>by refine (?_:(0:Int)=0-q*0-0);lia
 |NNq+1=>by refine (Q (Lw A T i q a NNq)<|Q (eI ..)<|Q (eI ..)<|Q (fF ..)<|Q (dH ..) ?_:val _ a NNq+(A NNq-q*T NNq-i NNq)*a^NNq=(val A a NNq+A NNq*a^NNq)-q*(val T a NNq+T NNq*a^NNq)-(val i a NNq+i NNq*a^NNq));lia
theorem Lv (b:Nat->Int)(d:Nat->Po)(y)(a):∀NNq,val (λh=>qw (λt=>b t*d t h) a) y NNq=qw (λt=>b t*val (d t) y NNq) a
 |0=>by refine (sZ a).symm.trans<|qQ λt W=>(bD _).symm
 |NNq+1=>(Q (Lv b d y a NNq)<|Q (cu ..)<|J (r8 ..)<|J (xB ..)<|qQ λt W=>by rw[fF,cu<|y^NNq,dH]:val _ y NNq+qw (λt=>b t*d t NNq) a*y^NNq=qw (λt=>b t*(val (d t) y NNq+d t NNq*y^NNq)) a)
theorem Py (A)(q):∀NNq,val (sh A) q (NNq+1)=q*val A q NNq
 |0=>(Q (bz ..)<|Q (bD ..) rfl:(0:Int)+0*q^0=q*0)
 |NNq+1=>by refine (Q (Py A q NNq)<|Q (fF ..)<|Q (eh ..) ?_:val (sh A) q (NNq+1)+A NNq*q^(NNq+1)=q*(val A q NNq+A NNq*q^NNq));congr 1;rw[cP q,cu q]
theorem val_congr {A T:Po}(b:∀c,A c=T c)(q)(U):val A q U=val T q U:=by refine Q (show A=T from funext b) rfl
noncomputable def en (b:Nat->Int)(d:Nat->Nat->Int):Nat->List Nat->Int
 |J,[]=>1|0,_::_=>0
 |n+1,h::S=>b h*en b d n S-qw (λt=>d h t*en b d n (S.erase t)) S
theorem Kh (b:Nat->Int)(d:Nat->Nat->Int):∀c,en b d c []=1
 |0=>rfl|J+1=>rfl
theorem F5 (b:Nat->Int)(d:Nat->Nat->Int):∀(n h:Nat)(S:List Nat),S.length<=n->S.length<=h->en b d n S=en b d h S
 |n,h,[],J,W=>(Kh b d n).trans (Kh b d h).symm|n+1,h+1,t::S,w,i=>by
  have w:=aJ w;have i:=aJ i
  refine (Q (F5 b d n h S w i) ?_:b t*en b d n S-_=b t*en b d h S-_);congr 1;exact qQ λT J=>by refine Q (F5 b d n h (S.erase T) (aa (bH ..) w)<|aa (bH ..) i) rfl
theorem Em (b:Nat->Int)(d:Nat->Nat->Int)(q):∀(n:Nat)(S:List Nat),S.length<=n->val (m b d S) q (n+1)=en (λh=>q-b h) d n S
 |n,[],J=>by
  have:∀U,val (m b d []) q (U+1)=1:=λU=>by
   induction U with
   |zero=>exact (Q (gh ..) rfl:(0:Int)+1*q^0=1)|succ U e=>
    exact (Q e<|Q (CG ..)<|Q (qm<|gb U)<|Q (bz ..) rfl:val (m b d []) q (U+1)+m b d [] (U+1)*q^(U+1)=1)
  rw[this,Kh]
 |n+1,h::S,w=>by
  have w:=aJ w;rw[val_congr<|tj b d h S,Lw,Lv,Py,Em b d q n S w];show q*en _ d n S-b h*val (m b d S) q (n+1+1)-_=(q-b h)*en _ d n S-qw (λz=>d h z*en _ d n (S.erase z)) S;have i:val (m b d S) q (n+1+1)=en (λh=>q-b h) d n S:=by show val (m b d S) q (n+1)+m b d S (n+1)*q^(n+1)=_;refine Q (zd S.length S (ag _) (n+1)<|by assumption)<|Q (bz ..)<|Q (dJ ..)<|Q (Em b d q n S w) rfl
  have o:∀z,val (m b d<|S.erase z) q (n+1+1)=en (λh=>q-b h) d n (S.erase z):=λz=>by refine (Q (zd (S.erase z).length (S.erase z) (ag _) (n+1)<|fV<|aa (bH ..) w)<|Q (bz ..)<|Q (dJ ..)<|Q (Em b d q n _<|aa (bH ..) w) rfl:val (m b d<|S.erase z) q (n+1)+m b d (S.erase z) (n+1)*q^(n+1)=_)
  refine Q i<|Q (eI ..) ?_
  congr 1;exact qQ λz J=>by refine Q (o z) rfl
noncomputable def dig (q a:Int):Int×Int:=if (q.natAbs:Int)<2*((a_ a q).natAbs:Int) then (bg a q+1,a_ a q-q) else (bg a q,a_ a q)
theorem Rp (q)(G:0<b):bg q b=q/b/\a_ q b=q%b:=⟨eS q<|bU G,i6 q<|bU G⟩
theorem HY {d:Int}(w:0<=c)(G:c<b):bg (c+b*d) b=d/\a_ (c+b*d) b=c:=by have T:=b7 w G;exact Q ((Rp _ T).1)<|Q ((Rp _ T).2)<|Q (Int.add_mul_ediv_left c d<|Int.ne_of_gt T)<|Q (Int.add_mul_emod_self_left ..)<|Q (Int.ediv_eq_zero_of_lt w G)<|Q (Int.emod_eq_of_lt w G) ⟨dz d,rfl⟩
theorem Mo {a d:Int}(G:0<b)(T:2*(a.natAbs:Int)<b):dig b (a+b*d)=(d,a):=by
 have e:=dP<|bU G
 delta dig;refine Q e ?_;rcases ny a 0 with h|h
 .have i:=fW<|bU h
  rw[i] at T
  clear i e;have s:a+b<b:=Nd h;refine Q (Q (fk ..)<|Q (gK ..) Nx  : a+b*d=(a+b)+b*(d-1))<|Q ((HY (by omega) s).1)<|Q ((HY (by omega) s).2)<|Q (dP<|by omega)<|ax (ql<|by omega)<|Q (gG ..)<|Q (i7 ..) rfl
 .have i:=dP h;have s:a<b:=by rw[i] at T;exact b7 (aB (i4 h)<|bR (n7 a).symm) T
  refine Q ((HY h s).1)<|Q ((HY h s).2)<|Q (qm<|bX.mpr<|bU T) rfl
theorem Yd (q a):dig (-q) a=((dig q <| -a).1,-(dig q <| -a).2):=by
 delta dig;refine Q (by refine J (pA ..)<|Q (jg ..) rfl:a_ a (-q)=- a_ (-a) q)<|Q (by refine J (kY ..)<|Q (jg ..) rfl:bg a (-q)=bg (-a) q)<|Q (cW ..)<|Q (cW ..) ?_
 split
 .exact Prod.ext rfl (by refine (Q (lx ..)<|Q (Int.sub_neg ..)<|Q (gY ..)<|ax oM rfl:- a_ (-a) q - -q=-(a_ (-a) q-q)))
 .rfl
theorem abC {q c d:Int}(G:2*(c.natAbs:Int)<(q.natAbs:Int)):dig q (c+q*d)=(d,c):=by
 rcases o6 q 0 with h|h|h
 .have e:=Yd (-q)<|c+q*d
  rw[jg,show -(c+q*d)=-c+-q*d by refine ax oa<|Q (jh ..) rfl,Mo (eQ h)<|Q (cW ..)<|J (fW<|bU h) G,jg] at e
  exact e
 .subst h;exact absurd G<|bX.mpr<|gW (by decide)<|aC _
 .exact Mo h (by rw[dP<|bU h] at G;exact G)
noncomputable def xH (q:Int):Nat->Int->List Int×Int
 |0=>@λa=>([],a)
 |NNq+1=>@λa=>let b:=xH q NNq (dig q a).1;((dig q a).2::b.1,b.2)
noncomputable def tJ (q:Int):List Int->Int
 |[]=>0|c::l=>c+q*tJ q l
theorem DU {q:Int}:∀a:List Int,(∀c∈a,2*(c.natAbs:Int)<(q.natAbs:Int))->xH q a.length (tJ q a)=(a,0)
 |[]=>@λJ=>rfl
 |c::a=>@λh=>by refine (Q (abC<|h c<|.head _)<|Q (DU a λd e=>h d<|.tail _ e) rfl:(let b:=xH q a.length (dig q<|c+q*tJ q a).1;((dig q<|c+q*tJ q a).2::b.1,b.2))=_)
theorem L7 (A)(q):∀(NNq k:Nat),tJ q ((dm k NNq).map A)*q^k=val A q (k+NNq)-val A q k
 |0=>@λk=>by refine (Q (bz ..)<|Q (nv ..) rfl:0*q^k=val A q k-val A q k)
 |NNq+1=>@λk=>by
  refine Q (fY ..)<|Q (bB ..) ?_
  show (A k+q*tJ q ((dm (k+1) NNq).map A))*q^k=_;have e:=L7 A q NNq<|k+1
  rw[show k+1+NNq=k+(NNq+1) by exact cj _ _,eh] at e
  rw[(rfl:val A q (k+1)=val A q k+A k*q^k)] at e
  rw[ik,cu q,dH,cu q];exact NK e
theorem GX (A)(q)(U):tJ q ((aq U).map A)=val A q U:=by
 have:=L7 A q U 0;rw[bZ,gh,gK] at this
 refine Q (dk ..)<|ax this ?_
 show _-0=_;exact nu _
theorem val_neg (A)(q):∀NNq,val (λh=>ev h*A h) (-q) NNq=val A q NNq
 |0=>rfl|NNq+1=>by
  refine (Q (val_neg A q NNq) ?_:val _ (-q) NNq+ev NNq*A NNq*(-q)^NNq=val A q NNq+A NNq*q^NNq);have:∀NNq,ev NNq*(-q)^NNq=q^NNq:=λNNq=>by
   induction NNq with
   |zero=>exact Q (gh ..)<|Q (gh ..) rfl
   |succ NNq e=>
    refine Q (eh ..)<|Q (eh ..)<|J e ?_
    show-ev NNq*((-q)^NNq*-q)=ev NNq*(-q)^NNq*q;generalize ev NNq=a;generalize (-q)^NNq=b
    grind
  refine Q (oP ..) ?_;rw[this,cu]
noncomputable def chg:List Bool->Nat
 |a::G::l=>ne2 a G+chg (G::l)|_=>0
theorem MA:∀(l:List Bool)(T G:Bool),chg (l++[T,G])=chg (l++[T])+ne2 T G
 |[]=>@λT G=>(bx _ _:ne2 T G+0=0+ne2 T G)
 |[x]=>@λT G=>(rfl:ne2 x T+(ne2 T G+0)=ne2 x T+0+ne2 T G)
 |x::g::l=>@λT G=>(Q (MA (g::l) T G)<|(b9 _ _ _).symm:ne2 x g+chg (g::l++[T,G])=ne2 x g+chg (g::l++[T])+ne2 T G)
noncomputable def ux (a:List Int):List Bool:=(a.filter λx=>decide<|x≠0).map λx=>decide<|0<x
theorem Kv (A):∀(j:Nat)(T:Bool),chg (ux ((aq j).map A)++[T])=(uv A j T).1
 |0=>@λT=>rfl
 |j+1=>@λT=>by
  refine Q (fK ..)<|Q (bN ..) ?_
  show chg (ux ((aq j).map A++[A j])++[T])=_;refine Q (by delta ux;refine Q (iS ..)<|ax bN rfl:ux ((aq j).map A++[A j])=ux ((aq j).map A)++ux [A j]) ?_;show _=(if A j=0 then uv A j T else if decide (0<A j)=T then uv A j T else ((uv A j !T).1+1,(uv A j !T).2)).1
  by_cases e:A j=0
  .exact Q (ql e)<|Q (by delta ux;simp[e]:ux [A j]=[])<|Q (bh ..)<|Kv A j T
  .refine Q (qm e)<|Q (by delta ux;simp[e]:ux [A j]=[decide<|0<A j])<|Q (a8 ..) ?_
   show chg (_++[decide<|0<A j,T])=_;rw[MA,Kv A j]
   by_cases i:decide (0<A j)=T
   .refine Q (ql i)<|Q i ?_
    delta ne2;refine Q (ql rfl)<|Q (gV ..) rfl
   .refine Q (qm i)<|Q (by cases T<;>cases n:decide (0<A j)<;>simp_all:decide (0<A j)=!T)<|Q (by cases T<;>rfl:ne2 (!T) T=1) rfl
theorem Mx {b:Nat->Int}{d:Nat->Nat->Int}(S:List Nat):chg (ux<|(aq<|S.length+1).map<|m b d S)=pos b d S:=by
 refine Q (fK ..)<|Q (bN ..) ?_
 show chg (ux<|(aq S.length).map (m b d S)++[m b d S S.length])=_;have e:ux ((aq S.length).map (m b d S)++[m b d S S.length])=ux ((aq S.length).map<|m b d S)++[true]:=by delta ux;exact Q (iS ..)<|ax bN<|Q (vW ..) rfl
 exact Q e<|Kv _ _ _
theorem My:∀c:List Bool,chg (c.map not)=chg c
 |[]=>rfl|[J]=>rfl
 |a::b::c=>by
  refine (Q (My<|b::c) ?_:ne2 (!a) (!b)+chg ((b::c).map not)=ne2 a b+chg (b::c))
  cases a<;>cases b<;>rfl
theorem Xi (a:List Int):ux (a.map λq=>- q)=(ux a).map not:=by
 induction a with
 |nil=>rfl|cons q a e=>
  unfold ux at *
  refine Q (bB ..)<|Q (dK ..)<|Q (dK ..) ?_
  by_cases i:q=0
  .simp[i];simpa using e
  .skip
   simp only[i,(by lia:- q≠0),ne_eq,not_false_eq_true,decide_true,if_true,bB];refine Q e ?_;congr 1
   by_cases G:0<q
   .skip
    exact Q (decide_eq_true G)<|Q (decide_eq_false<|by lia) rfl
   .skip
    exact Q (decide_eq_false G)<|Q (decide_eq_true<|by lia) rfl
theorem UR {b:Nat->Int}{d:Nat->Nat->Int}{S:List Nat}(x:S.Nodup):chg (ux<|(aq<|S.length+1).map λc=>ev c*m b d S c)=pos (λi=>- b i) d S:=by
 refine J (Mx ..) ?_;have g:∀c,m (λi=>- b i) d S c=ev S.length*(ev c*m b d S c):=λc=>by
  rw[A1 b d _ S (ag _) x,<-dH];congr 1;generalize S.length=t
  induction t with
  |zero=>exact Q (bZ ..)<|(dO _).symm
  |succ t ih=>refine Q (show t+1+c=t+c+1 by exact cj _ _)<|Q (Aw ..)<|Q (Aw ..)<|Q ih<|Q (jh ..) rfl
 refine Q (Q (bk ..)<|dB λc W=>g c:(aq<|S.length+1).map (m (λi=>- b i) d S)=((aq<|S.length+1).map λc=>ev c*m b d S c).map λa=>ev S.length*a) ?_;have n:ev S.length=1\/ev S.length=-1:=by
  generalize S.length=t
  induction t with
  |zero=>exact .inl rfl|succ t ih=>exact Q (Aw ..)<|ih.symm.imp (qn nc)<|qn nc
 rcases n with h|h
 .refine Q h ?_;congr 2;exact (List.map_id'' (λa=>dO a) _).symm
 .skip
  refine Q (funext λa=>by refine Q h ?_;lia:(λa:Int=>ev S.length*a)=λa=>- a)<|Q (Xi ..)<|Q (My ..) rfl
theorem Cx {e f:Nat->Int}:∀{l:List Nat},(∀u∈l,e u<=f u)->qw e l<=qw f l
 |[]=>@λJ=>cZ _
 |u::l=>@λg=>ej (g u<|.head _)<|Cx λh i=>g h<|.tail _ i
theorem Es {e:Nat->Int}{f:List Nat}{g:Nat}(h:g∈f):qw e f=e g+qw e (f.erase g):=BE<|nL h
section
variable {d:Nat->Int}{b:Nat->Nat->Int}(c:∀u v,b u v=b v u) (a:∀u v,0<=b u v)
include c a
theorem dom:∀(n:Nat)(S:List Nat),S.length<=n->S.Nodup->(∀u∈S,qw (b u) (S.erase u)<=- d u)->
  (∀T,0<=m d (λu v=>b u v*b u v) S T)/\∀v∈S,∀q:Int,0<=q->q+qw (b v) (S.erase v)<=- d v->∀T,q*m d (λu v=>b u v*b u v) (S.erase v) T<=m d (λu v=>b u v*b u v) S T
 |n,[],W,V,P=>⟨λT=>by refine Q (CG ..) ?_;split<;>decide,λv g=>nomatch g⟩
 |n+1,f::S,w,x,hd=>by
  have G:∀v∈f::S,∀q:Int,0<=q->q+qw (b v) ((f::S).erase v)<=- d v->∀T,q*m d (λu v=>b u v*b u v) ((f::S).erase v) T<=m d (λu v=>b u v*b u v) (f::S) T:=λv g q i h T=>by
   have p:∀u∈(f::S).erase v,b v u+qw (b u) (((f::S).erase v).erase u)<=- d u:=λu H=>by
    have:=hd u<|eP H
    rw[Es<|(List.mem_erase_of_ne<|fJ λe=>(List.Nodup.not_mem_erase x)<|e▸H).mpr g,lq,c u v] at this
    exact this
   have ih:=dom n ((f::S).erase v) (OW g w) (x.erase v) λu H=>by have:=p u H;have:=a v u;lia
   refine Q (Oy (λu v=>by refine Q (c u v) rfl) x g T) ?_;have I:qw (λu=>b v u*b v u*m d (λu v=>b u v*b u v) (((f::S).erase v).erase u) T) ((f::S).erase v)<=qw (b v) ((f::S).erase v)*m d (λu v=>b u v*b u v) ((f::S).erase v) T:=by
    refine Q (cu ..)<|J (r8 ..)<|Cx λu H=>?_
    rw[dH,cu<|m d _ _ T];exact br (ih.2 u H (b v u) (a v u) (p u H) T)<|a v u
   have U:0<=sh (m d (λu v=>b u v*b u v)<|(f::S).erase v) T:=by
    cases T with
    |zero=>exact cZ _|succ T=>exact ih.1 T
   have j:(q+qw (b v) ((f::S).erase v))*m d (λu v=>b u v*b u v) ((f::S).erase v) T<=- d v*m d (λu v=>b u v*b u v) ((f::S).erase v) T:=fD h<|ih.1 T
   rw[ik,jh] at j
   exact M_ I U j
  refine ⟨λT=>?_,G⟩;have:=G f (.head _) 0 (cZ _) (Q (dz ..)<|hd f<|.head _) T;rw[bz] at this;exact this
end
theorem na3 (q a d:Int):((q-a-d).natAbs:Int)<=(q.natAbs:Int)+a.natAbs+d.natAbs:=bA.mpr<|aa (dW (q-a) d)<|a9 (dW q a) _
theorem IC (b:Nat->Int):∀a:List Nat,((qw b a).natAbs:Int)<=qw (λu=>((b u).natAbs:Int)) a
 |[]=>cZ _|u::a=>aB (bA.mpr<|dX _ _)<|fA (IC b a) _
theorem MH (q a:Int):((q*a).natAbs:Int)=(q.natAbs:Int)*(a.natAbs:Int):=Q (iY ..)<|fc ..
theorem C1 {b:Nat->Int}(e:∀c,0<=b c)(c)(a:List Nat):qw b (a.erase c)<=qw b a:=by
 by_cases d:c∈a
 .exact Q (Es d)<|ja<|e c
 .exact Q (List.erase_of_not_mem d)<|cZ _
section
variable {w:Nat->Nat->Int}(e:∀u v,0<=w u v) {QQq:Int}(g:1<=QQq)
include e g
theorem Wz:∀(n:Nat)(S:List Nat),S.length<=n->(∀v,v∈S->1+((d v).natAbs:Int)+qw (w v) S<=QQq)->∀T,((m d w S T).natAbs:Int)<=QQq^S.length
 |n,[],W,V,T=>by refine Q (CG ..)<|Q (gh QQq) ?_;split<;>decide
 |n+1,v::S,i,hd,T=>by
  have i:=aJ i;have hd1:∀u,u∈S->1+((d u).natAbs:Int)+qw (w u) S<=QQq:=λu c=>aB (fA (ja<|e u v) _)<|hd u<|.tail _ c
  have f:0<=QQq^S.length:=bU<|n9<|by assumption
  have a:∀u∈S,((m d w (S.erase u) T).natAbs:Int)<=QQq^S.length:=λu c=>by
   have h:=Wz n (S.erase u) (aa (bH ..) i) (λb H=>aB (fA (C1 (e b) u S) _)<|hd1 b<|eP H) T;rw[ee c] at h
   have G:QQq^(S.length-1)*1<=QQq^(S.length-1)*QQq:=br g<|bU<|n9<|by assumption
   rw[gK] at G
   exact Q (J (eh ..)<|qn _ (aH<|eF c).symm:QQq^S.length=QQq^(S.length-1)*QQq)<|aB h G
  have U:((sh (m d w S) T).natAbs:Int)<=QQq^S.length:=by
   cases T with
   |zero=>exact f|succ T=>exact (Wz n S i hd1) T
  have j:((qw (λu=>w v u*m d w (S.erase u) T) S).natAbs:Int)<=qw (w v) S*QQq^S.length:=by
   refine aB (IC _ S)<|Q (cu ..)<|J (r8 ..)<|Cx λu c=>?_
   rw[MH,cu<|QQq^S.length];exact Q (dP<|e v u)<|br (a u c)<|e v u
  have y:(1+((d v).natAbs:Int)+qw (w v) S)*QQq^S.length<=QQq*QQq^S.length:=fD (aB (fA (ja<|e v v) _)<|hd v<|.head _) f;rw[ik,ik,dO] at y
  exact Q (tj ..)<|Q (aQ ..)<|Q (eh ..)<|Q (cu _ QQq)<|aB (na3 _ _ _)<|aB (ej (ej U (Q (MH ..)<|br ((Wz n S i hd1) T)<|aC _)) j) y
end
def E (b:Nat->Int)(d:Nat->Nat->Int)(a:List Nat):Int:=en b d a.length a
theorem WS (b:Nat->Int)(d:Nat->Nat->Int)(a):E b d a=val (m (λc=>- b c) d a) 0 (a.length+1):=Q (Em _ _ _ a.length a<|ag _)<|Q (funext λc=>by lia:(λc=>0 - - b c)=b) rfl
theorem Cm (b:Nat->Int)(d:Nat->Nat->Int)(c)(a):E b d (c::a)=b c*E b d a-qw (λh=>d c h*E b d (a.erase h)) a:=by show b c*en b d a.length a-qw (λh=>d c h*en b d a.length (a.erase h)) a=_;congr 1;exact qQ λh J=>Q (F5 b d a.length (a.erase h).length (a.erase h) (bH ..)<|ag _) rfl
theorem Sb {b:Nat->Int}{d:Nat->Nat->Int}(g:∀c h,d c h=d h c){a:List Nat}(x:a.Nodup)(U:a.Perm T):E b d a=E b d T:=Q (WS ..)<|Q (WS ..)<|Q U.length_eq<|val_congr (zc g a.length (ag _) U x) 0 _
theorem Ck (b:Nat->Int){d g:Nat->Nat->Int}:∀(n:Nat)(S:List Nat),S.length<=n->(∀h∈S,∀t∈S,d h t=g h t)->E b d S=E b g S
 |J,[],W,V=>rfl|n+1,t::S,w,o=>by
  have w:=aJ w;refine Q (Cm ..)<|Q (Cm ..)<|Q (Ck b n S w λT a z G=>o T (.tail _ a) z<|.tail _ G) ?_
  congr 1;exact qQ λh U=>by refine Q (o t (.head _) h<|.tail _ U)<|Q (Ck b n (S.erase h) (aa (bH ..) w) λT a z G=>o T (.tail _<|eP a) z<|.tail _<|eP G) rfl
theorem acK {b:Nat->Int}{d g:Nat->Nat->Int}(n:∀c h,d c h=d h c)(H:∀c h,g c h=g h c)(x:(t::U::T).Nodup)(a:∀z A,¬(z=t/\A=U)->¬(z=U/\A=t)->g z A=d z A):E b g (t::U::T)=E b d (t::U::T)-(g t U-d t U)*E b d T:=by
 have u:=bI.mp x;have G:∀{f:List Nat},t∉f->E b g f=E b d f:=λ{f} I=>Ck b f.length f (ag _) λz i A L=>a z A (λj=>I<|J j.1 i) λj=>I<|J j.2 L
 rw[Cm b g t,Cm b d t,G u.1];show _-(g t U*E b g ((U::T).erase U)+qw (λz=>g t z*E b g ((U::T).erase z)) T)=_-(d t U*E b d ((U::T).erase U)+qw (λz=>d t z*E b d ((U::T).erase z)) T)-_;have e:qw (λz=>g t z*E b g ((U::T).erase z)) T=qw (λz=>d t z*E b d ((U::T).erase z)) T:=qQ λz i=>by refine Q (a t z (λj=>(λj=>(bI.mp u.2).1<|J j i:z≠U) j.2) λj=>u.1<|Q j.1<|.head _)<|Q (G λk=>u.1<|eP k) rfl
 refine Q e<|Q (cQ ..)<|Q (G λk=>u.1<|.tail _ k)<|Q (eI ..) ?_
 lia
noncomputable def rest (a f:List Nat):List Nat:=a.filter λc=>!f.contains c
theorem u7 {a f:List Nat}:v∈rest a f↔v∈a/\v∉f:=by delta rest;rw[dr];simp
theorem yx {a f:List Nat}(x:a.Nodup):(rest a f).Nodup:=x.filter _
noncomputable def u9 (b:Nat->Int):List Nat->Int
 |[]=>1|v::l=>b v*u9 b l
theorem Se (b:Nat->Int):∀a:List Nat,E b (λJ J=>0) a=u9 b a
 |[]=>rfl|v::a=>Q (Cm ..)<|Q (Se b a)<|Q ((qQ λh J=>bz _).trans<|sZ a)<|Q (nu ..) rfl
noncomputable def Bk (b:Nat->Int)(d:Nat->Nat):List Nat->Nat->Nat->Int
 |[]=>@λJ J=>0
 |k::a=>@λh t=>if (h=k/\t=d k)\/(h=d k/\t=k) then b k*b k else Bk b d a h t
theorem yC (b:Nat->Int)(d:Nat->Nat):∀(a:List Nat)(c i:Nat),Bk b d a c i=Bk b d a i c
 |[]=>@λJ J=>rfl
 |k::a=>@λc i=>by
  show (if _ then _ else _)=if _ then _ else _
  refine Q (yC b d a c i) ?_
  by_cases h:(c=k/\i=d k)\/(c=d k/\i=k)
  .refine Q (ql h)<|Q (ql<|h.symm.imp om om) rfl
  .refine Q (qm h)<|Q (qm λz=>h<|z.symm.imp om om) rfl
theorem Ie (e:Nat->Int)(d:Nat->Nat):∀(f:List Nat),c∉f->(∀x∈f,d x<x)->d c<c->Bk e d f c (d c)=0
 |[]=>@λJ J J=>rfl
 |x::f=>@λG g H=>by
  show (if _ then _ else _)=_;rw[qm,Ie e d f (λh=>G<|.tail _ h) (λt I=>g t<|.tail _ I) H];rintro (⟨a,_⟩|⟨a,b⟩)
  .exact G<|Q a<|.head _
  .exact ky H<|av (aN a)<|ai (g x<|.head _)<|aN b.symm
noncomputable def Gx (b d:Nat->Int)(g:Nat->Nat)(a:List Nat):List Nat->List Nat->Int
 |[]=>@λf=>u9 b<|rest a f
 |k::j=>@λf=>Gx b d g a j f+if k∈f\/g k∈f then 0 else-(d k*d k)*Gx b d g a j (k::g k::f)
theorem I9 {q ti:Nat->Int}{g:Nat->Nat}{a:List Nat}(x:a.Nodup):∀(f j:List Nat),f.Nodup->(∀c∈f,g c<c/\c∈a/\g c∈a)->Gx q ti g a f j=E q (Bk ti g f) (rest a j)
 |[]=>@λj J J=>(Se q _).symm
 |k::f=>@λj U G=>by
  have U:=bI.mp U;have t:=G k<|.head _
  have p:∀c∈f,g c<c/\c∈a/\g c∈a:=λc b=>G c<|.tail _ b
  refine (Q (I9 x f j U.2 p) ?_:Gx q ti g a f j+(if k∈j\/g k∈j then 0 else-(ti k*ti k)*Gx q ti g a f (k::g k::j))=_)
  by_cases s:k∈j\/g k∈j
  .refine Q (ql s)<|Q (dJ ..)<|Ck q (rest a j).length _ (ag _) λu H T d=>((λu T h o=>qm λz=>z.elim h o) u T (λe=>?_) λe=>?_).symm
   .have H:=(u7.mp H).2;have d:=(u7.mp d).2;exact s.elim (λz=>H<|e.1▸z) λz=>d<|e.2▸z
   .have H:=(u7.mp H).2;have d:=(u7.mp d).2;exact s.elim (λz=>d<|e.2▸z) λz=>H<|e.1▸z
  .refine Q (qm s)<|Q (I9 x f (k::g k::j) U.2 p) ?_
   have L:(k::g k::rest a (k::g k::j)).Nodup:=bI.mpr ⟨λz=>by
    rcases aE.mp z with z|z
    .lia
    .exact (u7.mp z).2<|.head _,bI.mpr ⟨λz=>(u7.mp z).2<|.tail _<|.head _,yx x⟩⟩
   have v:(rest a j).Perm<|k::g k::rest a (k::g k::j):=(lJ (yx x) L).mpr λT=>by
    rw[u7,aE,aE,u7,aE,aE];constructor
    .rintro ⟨h,o⟩
     by_cases i:T=k
     .exact .inl i
     .by_cases n:T=g k
      .exact .inr<|.inl n
      .exact .inr<|.inr ⟨h,λz=>z.elim i λz=>z.elim n o⟩
    .rintro (rfl|rfl|⟨h,o⟩)
     .exact ⟨t.2.1,λz=>s<|.inl z⟩
     .exact ⟨t.2.2,λz=>s<|.inr z⟩
     .exact ⟨h,λz=>o<|.inr<|.inr z⟩
   refine Q (Sb (yC ti g f) (yx x) v)<|Q (Sb (yC ti g<|k::f) (yx x) v)<|Q (acK (yC ti g f) (yC ti g<|k::f) L λu T h o=>qm λz=>z.elim h o)<|Q (Ie ti g f U.1 (λc b=>(p c b).1) t.1) ?_
   have:Bk ti g (k::f) k (g k)=ti k*ti k:=ql<|.inl ⟨rfl,rfl⟩
   exact Q this<|Q (nu ..)<|Q (jh ..) rfl
noncomputable def sm (b:Nat->Int):Nat->Int
 |0=>0|n+1=>sm b n+b n
theorem xC {b e:Nat->Int}:∀{n:Nat},(∀h,h<n->b h=e h)->sm b n=sm e n
 |0=>@λJ=>rfl
 |n+1=>@λg=>by refine (Q (xC λh G=>g h<|dT G)<|Q (g n<|bW n) rfl:sm b n+b n=sm e n+e n)
theorem P4 (c:Nat->Int)(a):∀b,sm c (a+b)=sm c a+sm (λt=>c<|a+t) b
 |0=>by refine (?_:sm c a=sm c a+0);lia
 |b+1=>(Q (P4 c a b)<|j1 _ _ _:sm c (a+b)+c (a+b)=sm c a+(sm (λt=>c<|a+t) b+c (a+b)))
theorem P2 (s)(b:Nat->Int):∀n,sm (λh=>s*b h) n=s*sm b n
 |0=>(bD s).symm|n+1=>by refine (Q (P2 s b n)<|Q (fF ..) rfl:sm (λh=>s*b h) n+s*b n=s*(sm b n+b n))
theorem LF:∀n,sm (λJ=>0) n=0
 |0=>rfl|n+1=>by show sm (λJ=>0) n+0=0;exact Q (LF n) rfl
noncomputable def bits (c:Nat):Nat->List Nat->List Nat
 |J,[]=>[]
 |k,t::l=>if c/2^k%2=1 then t::bits c (k+1) l else bits c (k+1) l
theorem D4 (c)(h):∀(l:List Nat)(k:Nat),bits c k (l++[h])=bits c k l++if c/2^(k+l.length)%2=1 then [h] else []
 |[]=>@λk=>rfl
 |x::l=>@λk=>by
  refine (Q (D4 c h l<|k+1)<|Q (show k+1+l.length=k+(x::l).length from Q (aQ ..) (cj _ _)) ?_:(if c/2^k%2=1 then x::bits c (k+1) (l++[h]) else bits c (k+1) (l++[h]))=(if c/2^k%2=1 then x::bits c (k+1) l else bits c (k+1) l)++_)
  by_cases i:c/2^k%2=1
  .exact Q (ql i)<|Q (ql i) rfl
  .refine Q (qm i)<|Q (qm i) rfl
theorem Hc (c h):∀(l:List Nat)(t:Nat),t+l.length<=h->bits (2^h+c) t l=bits c t l
 |[]=>@λW W=>rfl
 |e::l=>@λt w=>by
  replace w:=aQ▸w;show (if _ then _ else _)=if _ then _ else _
  have f:(2^h+c)/2^t%2=c/2^t%2:=by
   have i:2^h=2^t*(2*2^(h-t-1)):=by refine J (fP ..)<|J (iI ..)<|J (cG ..)<|Q (Nat.sub_sub ..)<|Q (cK<|aa (aP (cm<|dZ _) t) w) rfl
   refine Q i<|Q (bx ..)<|Q (n3 _ _<|bE t)<|Q (mj ..) rfl
  refine Q f<|Q (Hc c h l (t+1)<|aa (aN<|cV ..) w) rfl
theorem Gy (b:Nat->Int)(c):∀a,u9 b (a++[c])=u9 b a*b c
 |[]=>(cu _ _:b c*1=1*b c)
 |x::a=>by refine (Q (Gy b c a)<|Q (dH ..) rfl:b x*u9 b (a++[c])=b x*u9 b a*b c)
section
variable (q d:Nat->Int) (pa:Nat->Nat) (S:List Nat)
noncomputable def tk (U:List Nat):List Nat:=U++U.map pa
def yP (U j:List Nat):Int:=if (tk pa U).Nodup/\∀c∈tk pa U,c∉j then u9 (λt=>- (d t*d t)) U*u9 q (rest S<|tk pa U++j) else 0
theorem Oa {f:List Nat}(h:∀c,c∈f↔c∈R'):rest S f=rest S R':=by
 refine kl λc J=>?_
 congr 1;exact pC.mpr<|(dF.trans<|h c).trans dF.symm
variable {pa}
theorem BB {U:List Nat}:v∈tk pa (U++[e])↔v∈tk pa U\/v=e\/v=pa e:=by delta tk;simp only[bN,bO,bB,jC,aM];constructor<;>intro n<;>grind
theorem Iw {M:List Nat}(c:pa e≠e):(tk pa<|M++[e]).Nodup↔(tk pa M).Nodup/\e∉tk pa M/\pa e∉tk pa M:=by
 have T:(tk pa<|M++[e]).Perm<|e::pa e::tk pa M:=by delta tk;exact Q (bN ..)<|Q (a8 ..)<|(List.perm_middle (l₂:=M.map pa++[e].map pa)).trans<|List.Perm.cons e<|J (a8 ..)<|List.perm_append_comm
 rw[T.nodup_iff,bI,bI,aE];constructor
 .intro t;exact qJ t λG a x=>ri x (λb=>G<|.inr b) a
 .intro j;exact qJ j λG a x=>ri (λb=>b.elim (λb=>c b.symm) a) x G
theorem W6 {U j:List Nat}(e:pa c≠c):yP q d pa S (U++[c]) j=if c∈j\/pa c∈j then 0 else-(d c*d c)*yP q d pa S U (c::pa c::j):=by
 delta yP
 by_cases n:c∈j\/pa c∈j
 .rw[ql n,qm];rintro ⟨_,b⟩;exact n.elim (b c<|BB.mpr<|.inr<|.inl rfl)<|b (pa c)<|BB.mpr<|.inr<|.inr rfl
 .rw[qm n]
  by_cases k:(tk pa U).Nodup/\∀h∈tk pa U,h∉c::pa c::j
  .rw[ql k,ql,Gy,Oa S]
   .generalize u9 q _=t;generalize u9 _ U=b;generalize d c*d c=x
    grind
   .intro h;rw[bO,bO,BB,aE,aE]
    grind
   .refine ⟨(Iw e).mpr ⟨k.1,λa=>k.2 c a<|.head _,λa=>k.2 _ a<|.tail _<|.head _⟩,λh G=>?_⟩;rcases BB.mp G with a|rfl|rfl
    .exact λw=>k.2 h a<|.tail _<|.tail _ w
    .exact λw=>n<|.inl w
    .exact λw=>n<|.inr w
  .rw[qm k,qm,bD];rintro ⟨t,b⟩;refine qJ ((Iw e).mp t) λx u H=>k ⟨x,λh G w=>?_⟩
   rcases aE.mp w with rfl|w
   .exact u G
   .rcases aE.mp w with rfl|w
    .exact H G
    .exact b h (BB.mpr<|.inl G) w
theorem By:∀(es:List Nat),(∀e∈es,pa e≠e)->∀j,sm (λh=>yP q d pa S (bits h 0 es.reverse) j) (2^es.length)=Gx q d pa S es j
 |[]=>@λW j=>by refine (?_:(0:Int)+yP q d pa S [] j=u9 q (rest S j));delta yP;refine Q (ql ⟨lK,λt a=>nomatch a⟩) ?_;show 0+1*u9 q (rest S j)=_;lia
 |e::es=>@λhe j=>by
  refine (?_:_=Gx q d pa S es j+if e∈j\/pa e∈j then 0 else-(d e*d e)*Gx q d pa S es (e::pa e::j));refine Q (aQ ..)<|Q (iI ..)<|Q (jS ..)<|Q (P4 ..)<|J (By es (λu G=>he u<|.tail _ G) j)<|J (By es (λu G=>he u<|.tail _ G)<|e::pa e::j)<|Q (dR ..) ?_
  congr 1
  .refine xC λh H=>Q (D4 ..)<|Q (bZ ..)<|Q (cw ..)<|Q (jv H)<|Q (qm<|by decide)<|Q (bh ..) rfl
  .have I:∀z,z<2^es.length->yP q d pa S (bits (2^es.length+z) 0<|es.reverse++[e]) j=yP q d pa S (bits z 0 es.reverse++[e]) j:=λz T=>by
    refine Q (D4 ..)<|Q (Hc z es.length es.reverse 0<|by refine Q (cw ..) ?_;lia)<|Q (bZ ..)<|Q (cw ..)<|Q (Nat.add_div_left _<|bE _)<|Q (jv T)<|Q (ql rfl) rfl
   refine Q (xC I)<|ax (xC λz W=>W6 q d S<|he e<|.head _) ?_
   by_cases a:e∈j\/pa e∈j
   .exact Q (ql a)<|Q (xC λz W=>ql a)<|LF _
   .refine Q (qm a)<|Q (xC λz W=>qm a)<|Q (P2 ..) rfl
end
structure xu (n:Nat) (i c g:Nat->Int):Prop where
 n5:n<=5
 o3:∀k,k<n->((i k).natAbs:Int)<=3
 C0:∀k,0<=g k/\g k<=3
 ti0:g 0=0
 ab0:c 0=-1
 WM:∀k,0<k->k<n->0<=c k/\c k<k
noncomputable def pa (U:Nat->Int)(d:Nat):Nat:=(U d).toNat
def uB (U:Nat->Int)(d h:Nat):List Nat:=(sl h d).filter λt=>decide<|(h:Int)<=U t
def u3 (L I H:Nat->Int)(d h:Nat)(q:Int):Int:=sm (λt=>yP (λU=>q-L U) H (pa I) (sl h d) (bits t 0<|uB I d h) [])<|2^(uB I d h).length
section
variable {i c g:Nat->Int}(T:xu n i c g)
include T
theorem xu.fth:Hj c n:=λj G t e=>by
 rcases eO j with rfl|h
 .rw[T.ab0] at e;exact absurd (aC t) (e▸by decide)
 .exact bq.mp<|e▸(T.WM j h G).2
theorem xu.hti:∀h,h<n->g h≠0->∃t:Nat,c h=(t:Int):=λh G d=>by
 rcases eO h with rfl|h0
 .exact absurd T.ti0 d
 .exact ⟨(c h).toNat,(cf (T.WM h h0 G).1).symm⟩
theorem yK (a:t∈uB c n h):h<=t/\t<n/\(h:Int)<=c t/\(pa c t:Int)=c t/\pa c t<t:=by
 have a:=dr.mp a;have w:(h:Int)<=c t:=of_decide_eq_true a.2;have G:0<t:=by
  rcases eO t with rfl|h0
  .rw[T.ab0] at w;exact absurd (aB (aC h) w) (by decide)
  .exact h0
 have u:=T.WM t G (rH.mp a.1).2;exact Ee (rH.mp a.1).1 (rH.mp a.1).2 w (cf u.1)<|(iM u.1).mpr u.2
theorem Pu {f:Nat}(G:u<v):∀b:List Nat,(∀k∈b,pa c k<k)->Bk g (pa c) b u v=if v∈b/\pa c v=u then g v*g v else 0
 |[]=>@λJ=>Q (qm λe=>nomatch e.1) rfl
 |k::b=>@λe=>by
  have U:=e k<|.head _
  refine (Q (Pu (f:=f) G b λd h=>e d<|.tail _ h) ?_:(if (u=k/\v=pa c k)\/(u=pa c k/\v=k) then g k*g k else Bk g (pa c) b u v)=_)
  by_cases t:u=pa c k/\v=k
  .refine Q (ql<|.inr t)<|Q (ql ⟨Q t.2<|.head _,Q t.2 t.1.symm⟩)<|Q t.2 rfl
  .rw[qm λo=>o.elim (λa=>ky U<|av (aN a.1.symm)<|ai G<|aN a.2) λo=>t o]
   by_cases L:v∈b/\pa c v=u
   .refine Q (ql L)<|Q (ql ⟨.tail _ L.1,L.2⟩) rfl
   .refine Q (qm L) ?_;rw[qm];rintro ⟨a,j⟩;rcases aE.mp a with rfl|a
    .exact t ⟨j.symm,rfl⟩
    .exact L ⟨a,j⟩
theorem Zb (d:t∈sl j n)(G:U∈sl j n):Bk g (pa c) (uB c n j).reverse t U=wt c g t U:=by
 have key:∀{t U:Nat},t∈sl j n->U∈sl j n->t<U->Bk g (pa c) (uB c n j).reverse t U=wt c g t U:=λ{t U} d G h=>by
  refine ax (Pu T (f:=j) h _ λA f=>(yK T<|dw.mp f).2.2.2.2) ?_;delta wt;have e:(U∈(uB c n j).reverse/\pa c U=t)↔(t<U/\c U=(t:Int)):=by
   constructor
   .rintro ⟨b,k⟩;have:=yK T<|dw.mp b
    exact ⟨h,by lia⟩
   .rintro ⟨b,k⟩;have L:=rH.mp d;refine ⟨dw.mpr<|dr.mpr ⟨G,decide_eq_true<|by lia⟩,?_⟩;delta pa;exact qn _ k
  by_cases s:t<U/\c U=(t:Int)
  .refine Q (ql<|e.mpr s)<|Q (ql s) rfl
  .refine Q (qm λz=>s<|e.mp z)<|Q (qm s)<|Q (qm λz=>by lia) rfl
 rcases ku t U with h|rfl|h
 .exact key d G h
 .skip
  refine Q (by delta wt;refine Q (qm λz=>by lia)<|Q (qm λz=>by lia) rfl:wt c g t t=0) ?_;have:∀a:List Nat,(∀A∈a,pa c A<A)->Bk g (pa c) a t t=0:=λa=>by
   induction a with
   |nil=>exact λJ=>rfl
   |cons A a ih=>
    intro h;have f:=h A<|.head _
    exact (Q (qm<|by rintro (z|z)<;>lia)<|ih λu o=>h u<|.tail _ o:(if (t=A/\t=pa c A)\/(t=pa c A/\t=A) then g A*g A else Bk g (pa c) a t t)=0)
  exact this _ λA f=>(yK T<|dw.mp f).2.2.2.2
 .exact Q (yC ..)<|Q (Eh ..)<|key G d h
theorem Lr (h)(s a):u3 i c g n h s=val (m (λt=>i t-a) (wt c g)<|sl h n) (s-a) ((sl h n).length+1):=by
 have e:=By (λt=>s-i t) g (sl h n) (uB c n h).reverse (λz d=>cJ (yK T<|dw.mp d).2.2.2.2) [];rw[nK,cw] at e
 have j:=I9 (q:=λt=>s-i t) (ti:=g) (uE h n) (uB c n h).reverse [] ((List.reverse_perm _).nodup_iff.mpr<|(uE h n).filter _) λa G=>by
  have:=yK T<|dw.mp G
  exact ⟨this.2.2.2.2,rH.mpr ⟨this.1,this.2.1⟩,rH.mpr ⟨bA.mp<|Q this.2.2.2.1 this.2.2.1,eG this.2.2.2.2 this.2.1⟩⟩
 rw[(by exact List.filter_eq_self.mpr λJ J=>rfl:rest (sl h n) []=sl h n)] at j
 refine (?_:sm _ _=_);refine Q e<|Q j<|ax (Ck (λt=>s-i t) (sl h n).length (sl h n) (ag _) λH U t b=>Zb T U b)<|Q (Em _ _ _ _ _<|ag _) ?_
 delta E;refine Q (funext λt=>by lia:(λt=>s-i t)=λt=>s-a-(i t-a)) rfl
theorem F7 (h)(q)(t):((m (λe=>i e-q) (wt c g) (sl h n) t).natAbs:Int)<=(49+(q.natAbs:Int))^5:=by
 have w:(sl h n).length<=5:=by delta sl;refine Q (ed ..) ?_;have:=T.n5;exact aa (c7 _ _) this
 have o:∀z e,wt c g z e<=9:=λz e=>by
  have H:∀A,g A*g A<=9:=λA=>by have u:=T.C0 A;have:=br u.2 u.1;exact NG u this
  delta wt
  split
  .exact H e
  .split
   .exact H z
   .decide
 have a:∀(z:Nat)(f:List Nat),qw (wt c g z) f<=9*(f.length:Int):=λz f=>by
  induction f with
  |nil=>exact cZ 0|cons e f b=>
   refine (?_:wt c g z e+qw (wt c g z) f<=9*((f.length+1:Nat):Int));have:=o z e;exact Nz b this
 have u:=Wz (d:=λe=>i e-q) (λz e=>Vq c g z e) (QQq:=49+(q.natAbs:Int)) (by lia) (sl h n).length (sl h n) (ag _) (λe j=>by
  have k:=T.o3 e (rH.mp j).2;have G:=a e<|sl h n
  have U:((i e-q).natAbs:Int)<=((i e).natAbs:Int)+(q.natAbs:Int):=bA.mpr<|dW _ _
  exact aB (ej (fA (aB U<|il k _) 1)<|aB G<|br (bA.mpr w)<|by decide)<|bR<|by clear a o k G U w;generalize (q.natAbs:Int)=X;lia) t
 refine aB u ?_;have:∀A:Nat,(49+(q.natAbs:Int))^(sl h n).length<=(49+(q.natAbs:Int))^((sl h n).length+A):=λA=>by
  induction A with
  |zero=>exact cZ _|succ A b=>
   refine J (b9 ..)<|Q (eh ..) ?_
   have:=br (show (1:Int)<=49+(q.natAbs:Int) by lia) (bU<|n9<|by lia:0<=(49+(q.natAbs:Int))^((sl h n).length+A));exact NL b this
 have p:=this<|5-(sl h n).length
 rwa [show (sl h n).length+(5-(sl h n).length)=5 by exact cK w] at p
end
def co (b d g:Nat->Int)(c h:Nat)(q:Int):List Int:=(aq<|(sl h c).length+1).map<|m (λt=>b t-q) (wt d g)<|sl h c
def cn (b d g:Nat->Int)(c h:Nat)(q:Int):List Int:=(aq<|(sl h c).length+1).map λt=>ev t*m (λU=>b U-q) (wt d g) (sl h c) t
theorem Ux:∀j,ev j=1\/ev j=-1
 |0=>.inl rfl|j+1=>Q (Aw ..)<|(Ux j).symm.imp (qn nc)<|qn nc
theorem L5:∀(y:Nat)(a:List Bool),(aw y true++false::a).idxOf false=y
 |0=>@λa=>List.idxOf_cons_self
 |y+1=>@λa=>Q (eD ..)<|Q (jq ..)<|ax List.idxOf_cons<|Q (L5 y a) rfl
theorem yR (c h):(sl c h).length=h-c:=by delta sl;refine ax ed rfl
section
theorem B8 (h)(q):(co own ab ti n h q).length=n-h+1:=by delta co;refine Q (ao ..)<|Q (aU ..)<|Q (yR ..) rfl
theorem RD (h)(q):(cn own ab ti n h q).length=n-h+1:=by delta cn;refine Q (ao ..)<|Q (aU ..)<|Q (yR ..) rfl
theorem Mu (h)(q):(co own ab ti n h q)[n-h]?=Y 1:=by
 delta co;refine J (yR h n)<|Q aZ<|Q (fy<|bW _) ?_
 show Y (m _ _ _ _)=_;refine Q (vW ..) rfl
theorem Yi (i)(q):∃a,(cn own ab ti n i q)[n-i]?=Y a/\a^2=1:=by
 delta cn;refine J (yR i n)<|Q aZ<|Q (fy<|bW _) ?_
 refine qp _ rfl ?_;show (ev _*m _ _ _ _)^2=1;refine Q (vW ..)<|Q (gK ..) ?_
 rcases Ux (sl i n).length with h|h<;>refine Q h ?_<;>rfl
variable (T:xu n own ab ti)
include T
theorem Cp (h)(q a):u3 own ab ti n h q=tJ (q-a) (co own ab ti n h a):=ax (Lr T h q a)<|(GX _ _ _).symm
theorem WW (h)(q a):u3 own ab ti n h q=tJ (a-q) (cn own ab ti n h a):=Q (Lr T h q a)<|J (val_neg ..)<|Q (show -(q-a)=a-q by exact lx _ _)<|(GX _ _ _).symm
theorem H0 (h)(q):∀a∈co own ab ti n h q,(a.natAbs:Int)<=(49+(q.natAbs:Int))^5:=λa b=>by
 refine qt (bY.mp b) λz W e=>J e ?_;clear e
 exact F7 T h q z
theorem aeO (i)(q):∀a∈cn own ab ti n i q,(a.natAbs:Int)<=(49+(q.natAbs:Int))^5:=λa b=>by
 refine qt (bY.mp b) λU W e=>J e ?_;clear e
 rcases Ux U with h|h<;>refine Q h ?_
 .exact Q (dO ..)<|F7 T i q U
 .exact Q (show -1*m (λt=>own t-q) (wt ab ti) (sl i n) U=- m (λt=>own t-q) (wt ab ti) (sl i n) U by exact NM )<|Q (cW ..)<|F7 T i q U
theorem abp (h){a:Int}(G:2*(49+(a.natAbs:Int))^5<((U-a).natAbs:Int)):xH (U-a) (n-h+1) (u3 own ab ti n h U)=(co own ab ti n h a,0):=Q (Cp T h U a)<|J (B8 h a)<|DU _ λd b=>b7 (br (H0 T h a d b)<|by decide) G
theorem abq (h){x:Int}(G:2*(49+(x.natAbs:Int))^5<((U-x).natAbs:Int)):xH (x-U) (n-h+1) (u3 own ab ti n h U)=(cn own ab ti n h x,0):=Q (WW T h U x)<|J (RD h x)<|DU _ λd a=>b7 (br (aeO T h x d a)<|by decide)<|J (cW<|x-U)<|Q (lx ..) G
omit T in
theorem abP (h)(q):chg (ux<|co own ab ti n h q)=pos (λt=>own t-q) (wt ab ti) (sl h n):=Mx _
omit T in
theorem abQ (h)(q):chg (ux<|cn own ab ti n h q)=pos (λt=>- (own t-q)) (wt ab ti) (sl h n):=UR<|uE h n
omit T in
theorem aav (x:sb f y)(s:sb f z):y=z:=by
 rcases ku y z with q|q|q
 .exact absurd (s.2 y q) x.1
 .exact q
 .exact absurd (x.2 z q) s.1
omit T in
theorem XJ (x:sb (m (λU=>own U-q) (wt ab ti)<|sl h n) t):t<=n-h/\((co own ab ti n h q).map λc=>decide<|c=0).idxOf false=t:=by
 refine qt (w4<|sl h n) λz w h2=>J (aav h2 x) ?_
 rw[yR] at w
 refine ⟨w,?_⟩;obtain ⟨v,e⟩:∃v,n-h=z+v:=⟨_,(cK w).symm⟩;have i:(co own ab ti n h q).map (λc=>decide<|c=0)=(aq z).map (λW=>true)++false::((dm (z+1) v).map λu=>decide<|m (λU=>own U-q) (wt ab ti) (sl h n) u=0):=by
  delta co;refine Q (yR ..)<|Q e<|Q (bk ..)<|Q (b9 ..)<|Q (dk ..)<|J (List.range'_append_1 ..)<|Q (bN ..)<|Q (bZ ..) ?_
  congr 1
  .exact J (dk ..)<|dB λH a=>decide_eq_true<|h2.2 H<|bF.mp a
  .refine Q (fY ..)<|ax bB ?_
   congr 1;exact decide_eq_false h2.1
 refine Q i<|Q (by refine ax List.map_const'<|Q (aU ..) rfl:(aq z).map (λW=>true)=aw z true)<|Q (L5 ..) rfl
end
theorem BV {d:Nat}{y:Int}(G:y.natAbs<2^d):∀a:List Int,(∀c∈a,c.natAbs<2^d)->(tJ y a).natAbs<2^((d+1)*a.length)
 |[]=>@λJ=>bE _
 |c::a=>@λo=>by
  have w:=dX c<|y*tJ y a
  rw[iY] at w
  refine Q aQ<|Q (show (d+1)*(a.length+1)=1+(d+(d+1)*a.length) by refine Q (dS ..) ?_;lia) ?_;rw[cG,cG 2 d]
  have i:2^d*1<=2^d*2^((d+1)*a.length):=aW _<|bE _
  rw[fi] at i
  exact av w<|ai (lX (o c<|.head _)<|dG (bl G)<|bl<|BV G a λf b=>o f<|.tail _ b)<|Q (nW ..)<|Q (ia ..)<|a9 i _
section
variable (T:xu n own ab ti)
noncomputable def bt (b d:Nat->Int)(c h:Nat):Int:=if c<h/\b h=(c:Int) then d h else if h<c/\b c=(h:Int) then d c else 0
theorem abV (c h):bt ab ti c h=bt ab ti h c:=by
 delta bt
 by_cases t:c<h/\ab h=(c:Int)
 .refine Q (ql t)<|Q (qm λU=>ky t.1 U.1)<|Q (ql t) rfl
 .refine Q (qm t) ?_
  by_cases j:h<c/\ab c=(h:Int)
  .refine Q (ql j)<|Q (ql j) rfl
  .refine Q (qm j)<|Q (qm j)<|Q (qm t) rfl
theorem ae1:(λc h=>bt ab ti c h*bt ab ti c h)=wt ab ti:=by
 funext c h
 delta bt wt
 by_cases t:c<h/\ab h=(c:Int)
 .refine Q (ql t)<|Q (ql t) rfl
 .refine Q (qm t)<|Q (qm t) ?_
  by_cases j:h<c/\ab c=(h:Int)
  .refine Q (ql j)<|Q (ql j) rfl
  .exact Q (qm j)<|Q (qm j) rfl
theorem one_le {f:Nat->Int}(w:0<=c){p:Nat->Prop}[DecidablePred p](g:∀d h,p d->p h->d=h):∀a:List Nat,a.Nodup->qw (λu=>if p u then c else 0) a<=c
 |[]=>@λJ=>w
 |u::a=>@λx=>by
  refine rF (bI.mp x) λG U=>(?_:(if p u then c else 0)+qw _ a<=c)
  by_cases H:p u
  .skip
   refine Q (ql H)<|Q (qQ λb e=>qm λq=>G<|Q (g u b H q) e)<|Q (sZ ..) ?_;lia
  .refine Q (qm H) ?_;exact MN (one_le (f:=f) w g a U)
def AU (b d g:Nat->Int)(c h:Nat):Int:=b h+g h+qw (λt=>if d t=(h:Int) then g t else 0) (aq c)
include T
theorem ZQ:qw (bt ab ti h) ((sl 0 n).erase h)<=ti h+qw (λt=>if ab t=(h:Int) then ti t else 0) (aq n):=by
 have o:=T.C0;have w:qw (bt ab ti h) ((sl 0 n).erase h)<=qw (bt ab ti h) (sl 0 n):=C1 (λU=>by
  delta bt
  split
  .exact (o U).1
  .split
   .exact (o h).1
   .exact cZ 0) h _
 have i:qw (bt ab ti h) (sl 0 n)<=qw (λU=>(if ab h=(U:Int) then ti h else 0)+(if ab U=(h:Int) then ti U else 0)) (sl 0 n):=Cx λU J=>by
  have c:=(o U).1;have a:=(o h).1;delta bt
  by_cases u:h<U/\ab U=(h:Int)
  .refine Q (ql u)<|Q (ql u.2) ?_;split<;>lia
  .refine Q (qm u) ?_
   by_cases j:U<h/\ab h=(U:Int)
   .refine Q (ql j)<|Q (ql j.2) ?_;split<;>lia
   .refine Q (qm j) ?_;split<;>split<;>lia
 rw[xB] at i
 have G:=one_le (f:=λJ=>0) (o h).1 (p:=λU:Nat=>ab h=(U:Int)) (λc a b e=>ML b e) (sl 0 n)<|uE 0 n
 rw[(by delta sl;refine Q (gR ..)<|Q (dk ..) rfl:sl 0 n=aq n)] at *
 exact ND w i G
theorem aeN (o:∀h,h<n->AU own ab ti n h<=H):∀a∈co own ab ti n 0 H,0<=a:=λa b=>by
 refine qt (bY.mp b) λz W e=>J e ?_;clear e
 refine J (ae1 ..)<|(dom (abV) (λt U=>?_) n (sl 0 n) (Q (yR ..)<|ag _) (uE 0 n) λt G=>?_).1 z
 .delta bt
  split
  .exact (T.C0 U).1
  .split
   .exact (T.C0 t).1
   .exact cZ 0
 .skip
  have w:=o t (rH.mp G).2;unfold AU at w
  exact NB (ZQ T) w
end
theorem abr (c:Nat)(q:Int):c<=((c:Int)-q).natAbs+q.natAbs/\c<=((c:Int)+q).natAbs+q.natAbs/\((c:Int)-q).natAbs<=c+q.natAbs/\(q-(c:Int)).natAbs<=c+q.natAbs:=by
 have w:=dX ((c:Int)-q) q;have i:=dW ((c:Int)+q) q;have b:=dW q (c:Int);rw[gG] at w
 rw[i7] at i
 rw[bx] at b
 exact tb w i (dW (c:Int) q) b
theorem LG {h:Nat}{q:Int}(G:2*c+q.natAbs<h):2*(c:Int)<(((h:Int)-q).natAbs:Int)/\2*(c:Int)<(((h:Int)+q).natAbs:Int)/\2*(c:Int)<(h:Int):=by
 refine uP (abr h q) λw i J J=>?_
 have b:∀t:Nat,h<=t+q.natAbs->2*(c:Int)<(t:Int):=λt d=>bq.mpr<|lU<|ai G d
 exact ⟨b _ w,b _ i,bq.mpr<|av (aK _ _) G⟩
theorem Xh {q:Int}(H:q.natAbs<2^b)(x:32+6*b<=w):2*(49+(q.natAbs:Int))^5<(((2:Int)^w-q).natAbs:Int)/\2*(49+(q.natAbs:Int))^5<(((2:Int)^w+q).natAbs:Int)/\2*(49+(q.natAbs:Int))^5<(2:Int)^w:=by
 have i:2^(32+6*b)<=2^w:=aX (by decide) x;have e:2^(32+6*b)=4294967296*(2^b)^6:=by refine Q (cG ..)<|Q (bQ 6 b)<|Q (Nat.pow_mul ..) rfl
 have c:49+q.natAbs<=49*2^b:=NJ H;have a:=oz c 5;rw[Nat.mul_pow] at a
 have G:1<=2^b:=bE b;have U:(2^b)^5<=(2^b)^6:=aX G (by decide);have d:2^b<=(2^b)^6:=by
  have:=aX G<|show 1<=6 by decide
  rwa [nW] at this
 have j:((2:Int)^w)=((2^w:Nat):Int):=(fb 2 w).symm;have o:(49+(q.natAbs:Int))^5=(((49+q.natAbs)^5:Nat):Int):=Q (fb ..)<|Q (iB ..) rfl
 refine Q j<|Q o ?_
 rw[e] at i
 generalize (49+q.natAbs)^5=A at *
 generalize (2^b)^6=P6 at *
 generalize (2^b)^5=P5 at *
 generalize 2^b=P at *
 generalize 2^w=W at *
 have z:49^5=282475249:=rfl;rw[z] at a
 refine LG ?_;generalize q.natAbs=X at *
 clear e c G j o z;exact NI a U d i H
theorem N8 {q:Int}(x:q.natAbs<=21)(i:32<=w):2*(49+(q.natAbs:Int))^5<(((2:Int)^w-q).natAbs:Int)/\2*(49+(q.natAbs:Int))^5<(((2:Int)^w+q).natAbs:Int)/\2*(49+(q.natAbs:Int))^5<(2:Int)^w:=Q ((fb 2 w).symm)<|Q (Q (fb ..)<|Q (iB ..) rfl:(49+(q.natAbs:Int))^5=(((49+q.natAbs)^5:Nat):Int))<|LG<|av (bo (aW 2<|oz (aP x 49) 5) x)<|ai (by decide)<|aX (by decide) i
end Mp
end
section
open PySem PySem.W PyProof.Rows PySem.Calls PySem.Spec PySem.SeqAt
noncomputable section
namespace uJ
abbrev DS:=Option bK×List (gE aj×gE aj)
noncomputable def hq (q a:Int):Bool:=Int.rec (λc=>Int.rec (λh=>nk c h) (λJ=>false) a) (λc=>Int.rec (λJ=>false) (λh=>nk c h) a) q
theorem MC (c h):nk c h=decide (c=h):=by
 cases i:nk c h with
 |true=>exact (decide_eq_true (Nat.eq_of_beq_eq_true i)).symm|false=>exact (decide_eq_false (nh i)).symm
theorem aej (q a):(q==a)=hq q a:=by
 cases q with
 |ofNat c=>cases a with
  |ofNat h=>exact (decide_eq_decide.mpr mG).trans (MC c h).symm|negSucc h=>exact decide_eq_false λe=>pO e
 |negSucc c=>cases a with
  |ofNat h=>exact decide_eq_false λe=>pO e
  |negSucc h=>exact (decide_eq_decide.mpr Int.negSucc_inj).trans (MC c h).symm
def Qm (q:Int)(a:List DictEntry):Nat->List Nat:=List.rec (motive:=λJ=>Nat->List Nat) (λJ=>[]) (λg J b c=>Bool.rec (b (c+1)) (c::b (c+1)) (hq g.hash q)) a
theorem Ql (q):∀(l f:List DictEntry),Qm q l f.length=(dm f.length l.length).filter λc=>((f++l)[c]?.map (·.hash))==Y q
 |[],f=>rfl|e::l,f=>by
  have g:=Ql q l (f++[e]);rw[aG,a8] at g
  have i:Qm q (e::l) f.length=Bool.rec (Qm q l (f.length+1)) (f.length::Qm q l (f.length+1)) (hq e.hash q):=rfl;rw[i];rw[aQ,fY,dK];have n:(f++e::l)[f.length]?=Y e:=by simp
  rw[n];have z:((Y e).map (·.hash)==Y q)=hq e.hash q:=aej e.hash q;rw[z]
  cases H:hq e.hash q with
  |true=>simp only[if_true];congr 1
  |false=>simp only[gB,if_false];exact g
theorem Lb (a:Array DictEntry)(q):placesWithHash a.size (λc=>a[c]?.map (·.hash)) q=Qm q a.toList 0:=by
 have:=Ql q a.toList [];simp only[fL,dY] at this
 rw[this];unfold placesWithHash;rw[dk];simp
noncomputable def dfb:{ U:bK->aj->Int->Array DictEntry->gE (Option Nat) // ∀v s q,pd v s q=gq [s] (j8 v (keyPart s)>>=U v s q) }:=⟨_,λv s q=>rfl⟩
def dfc:{ U:bK->aj->Int->Array DictEntry->gE (Option Nat) // ∀v s q a,dfb.1 v s q a=U v s q a }:=⟨_,λv s q a=>by
 conv=>
  lhs
  delta dfb;dsimp (config:={zeta:=false}) only;rw[Lb]⟩
def dfq:{ F:bK->aj->Int->gE (Option Nat) // ∀v s q,pd v s q=F v s q }:=⟨λv s q=>gq [s] (j8 v (keyPart s)>>=dfc.1 v s q),λv s q=>(dfb.2 v s q).trans (qn (λg=>gq [s] (j8 v (keyPart s)>>=g)) (funext λa=>dfc.2 v s q a))⟩
theorem abD:pd=dfq.1:=funext λv=>funext λa=>funext λq=>dfq.2 v a q
def dpq:{ F:bK->Int->aj->aj->gE Unit // ∀v q s a,oG v q s a=F v q s a }:=⟨_,λv q s a=>by delta oG;exact Q abD rfl⟩
theorem abA:oG=dpq.1:=funext λv=>funext λb=>funext λq=>funext λa=>dpq.2 v b q a
def mmq:{ F:bK->aj->Bool->gE Unit // ∀v s T,mergeMapping v s T=F v s T }:=⟨_,λv s T=>by delta mergeMapping;exact Q abA rfl⟩
theorem aap:mergeMapping=mmq.1:=funext λv=>funext λa=>funext λw=>mmq.2 v a w
def w_:{ b:((Option (gE aj)×gE aj)->DS->gE (ForInStep DS))×(DS->gE aj) // ∀a,ma a=(forIn a ((N,[]):DS) b.1>>=b.2) }:=⟨(_,_),λa=>by delta ma;refine Q aap ?_;rw[PySem.W.Fast.te11913375310210876947]⟩
noncomputable abbrev pw:iE:=PySem.Challenge.pw_wc0030_02
def s8 (c:Nat):gn:=pw.main.body.getD c (.Pass ⟨0,0,0,0⟩)
noncomputable def Fb (c:gn):ba×iC×List gn×eT:=if e:c.ctorIdx=0 then pJ (motive_2:=λJ=>ba×iC×List gn×eT) c e λp H a J J J v J J J=>(p,H,a,v) else (ph,⟨[],[],N,[],[],N,[]⟩,[],{ kind:=.module,names:=[],isGenerator:=false,isCoroutine:=false,more:=[] })
def t8 (c:gn):iC:=(Fb c).2.1
def CO (c:gn):lD:=.stmts (Fb c).2.2.1
def BY (c:gn):eT:=(Fb c).2.2.2
noncomputable def de (T:cD)(f:String)(c:Nat)(s:aj):DictEntry:=⟨fS T (az f),.str (az f) c,s⟩
noncomputable def di (q:Int)(c:Nat)(s:aj):DictEntry:=⟨q,.int q c,s⟩
noncomputable def ents (o:gw):Array DictEntry:=match o.data with|.dict a J=>a|_=>#[]
noncomputable def ah_ (o:gw):Array aj:=match o.data with|.fields a=>a|_=>#[]
def dj (c:Nat)(b:Int×ba):DictEntry:=di b.1 c (.str b.2 (c+1))
noncomputable def QE (c:Nat):Nat->List (Int×ba)->List DictEntry
 |J,[]=>[]
 |t,b::l=>dj t b::QE c (t+c) l
noncomputable def tuL:Nat->List String->List aj
 |J,[]=>[]
 |t,f::l=>.str (az f) t::tuL (t+1) l
noncomputable def Io:gw:=⟨.type "tuple",N,.seq #[] 0,#[]⟩
noncomputable def J3:gw:=⟨.none,N,.fields #[],#[]⟩
def Zf (c:Nat)(a:List String):gw:=⟨.type "tuple",N,.seq (gp (tuL c a)) 0,#[]⟩
def fnD (c:Nat)(f:String)(v:bK)(s a h:aj):FuncData:={ name:=az f,qualname:=az f,params:=t8 (s8 c),body:=CO (s8 c),scope:=BY (s8 c),globals:=v,closure:=[],defaults:=s,kwdefaults:=.none,doc:=.none,pyModule:=a,annotations:=N,code:=h,closureTuple:=.none,builtins:=0 }
def fn0 (c:Nat)(f:String):gw:=⟨.none,N,.func (fnD c f 0 .none .none .none),#[]⟩
def Wg (c:Nat)(f:String)(s:aj)(p:String)(h t:Nat):gw:=⟨.type "function",N,.func (fnD c f 3 s (.str (az p) h) (.ref t)),#[]⟩
noncomputable def Wr (f:String)(c:Nat)(q:Int)(a d G n:Int)(h t:Nat)(s b i:aj)(T:Nat)(z:Nat):gw:=⟨.type "code",N,.fields #[.str (az f) c,.str (az f) (c+1),.str (az "/claim/cut.py") (c+2),.int q 0,.int a 0,.int d 0,.int G 0,.int n 0,.ref h,.bool true,.int 181 0,.ref t,s,b,i,.ref T,.int z 0,.int q 0,.str (az "/claim/cut.py") (z+1)],#[]⟩
def fap (o:gw)(q:Int)(c:Nat):gw:=⟨.none,N,.fields (ah_ o++#[.int q 0,.int 0 0,.ref c]),#[]⟩
def Mr (o:gw)(a:List DictEntry)(c:Nat):gw:=⟨.type "dict",N,.dict (gp ((ents o).toList++a)) c,#[]⟩
noncomputable def dcO (a:List DictEntry)(c:Nat):gw:=⟨.type "dict",N,.dict (gp a) c,#[]⟩
def dnm (o:gw)(g:DictEntry)(c:Nat):gw:=⟨.type "dict",N,.dict (gp (g::(ents o).toList.tail)) c,#[]⟩
def uo:kK:={ scope:=pw.main.scope,locals:=mainNs,globals:=mainNs,cells:=[],code:=.ref 13,frame:=Y 14 }
def Pb:List gn:=behindTheImports pw
def u0:Code:=.body Pb uo
noncomputable def q0:dA:=⟨0,0,0,0⟩
def B0:List Frame:=[topFrame q0]
noncomputable def tu:Option aj:=Y (.ref 6)
abbrev FG:=PySem.W.Fast.tw10110043849684766642 PySem.W.Fast.tw14364793385576792824 pw
abbrev Z5 (a:List gn)(e:dA):Thread:=⟨(PySem.W.Fast.tw12563942051412417395 a uo).wrap doneF deadEnd id id,u0,e,B0⟩
theorem adj {b:oH}{a:List gn}{y:Option (k8×oH×Code×dA)}(f:FG w 11 tu 1 n b (Z5 a e)=y):segRunT dC pw w 11 tu 1 n b (piecesOf a uo u0 e B0)=y:=by rw[jt,js];unfold piecesOf;rw[PySem.W.Fast.te12563942051412417395];exact f
theorem N9 {a:oH}{y:Option (k8×oH×Code×dA)}(e:FG w 11 tu 1 n a t=y):segRunT dC pw w 11 tu 1 n a t=y:=by rw[jt,js];exact e
noncomputable def xr {o v:Type}(b:o->v->gE (ForInStep v)):List o->v->gE (ForInStep v)
 |[],G=>pure (.yield G)|x::l,G=>b x G>>=λU=>match U with|.done a=>pure (.done a)|.yield a=>xr b l a
theorem Rc {o v:Type}(b:o->v->gE (ForInStep v))(a f:List o):∀G:v,forIn (f++a) G b=xr b f G>>=λU=>match U with|.done p=>pure p|.yield p=>forIn a p b:=by
 induction f with
 |nil=>exact λG=>(pure_bind ..).symm
 |cons p l d=>exact λG=>(gy ..).trans ((qn (b p G>>=·) (funext λU=>ForInStep.casesOn U (λc=>(pure_bind ..).symm) d)).trans (bind_assoc ..).symm)
noncomputable def S4:ForInStep DS->k8:=λU=>match U with
 |.done J=>.cont|.yield U=>if U.2.isEmpty then (match U.1 with|Y v=>.ret (.ref v)|N=>.brk) else .cont
theorem S3 (e:S4 a=.ret (.ref v)):a=.yield (Y v,[]):=by
 cases a with
 |done p=>exact (nomatch (e:k8.cont=.ret (.ref v)))|yield p=>cases p with
  |mk m l=>cases l with
   |cons J W=>exact (nomatch (e:k8.cont=.ret (.ref v)))|nil=>cases m with
    |none=>exact (nomatch (e:k8.brk=.ret (.ref v)))|some q=>exact qn (λv=>ForInStep.yield (Y v,[])) (jl.inj (k8.ret.inj e))
noncomputable def Cf (c:gn):List dI×dI×dA:=if e:c.ctorIdx=5 then gn.Assign.elim (motive_2:=λJ=>List dI×dI×dA) c e λa L f=>(a,L,f) else ([],.Name ph ⟨0,0,0,0⟩,⟨0,0,0,0⟩)
noncomputable def HZ (L:dI):List (Option dI)×List dI×dA:=if e:L.ctorIdx=6 then a7.Dict.elim (motive_1:=λJ=>List (Option dI)×List dI×dA) L e λa f g=>(a,f,g) else ([],[],⟨0,0,0,0⟩)
noncomputable def nmP (L:dI):ba×dA:=if e:L.ctorIdx=23 then jw (motive_1:=λJ=>ba×dA) L e λp f=>(p,f) else (ph,⟨0,0,0,0⟩)
noncomputable def DY (L:dI):pB:=if e:L.ctorIdx=19 then jx (motive_1:=λJ=>pB) L e λA J J=>A else .none
noncomputable def aaI (A:pB):Option Int:=if e:A.ctorIdx=2 then pB.int.elim (motive:=λJ=>Option Int) A e Y else N
noncomputable def IH (A:pB):Option ba:=if e:A.ctorIdx=5 then kE (motive:=λJ=>Option ba) A e Y else N
abbrev H7:List (Option dI):=(HZ (Cf (s8 11)).2.1).1
abbrev H6:List dI:=(HZ (Cf (s8 11)).2.1).2.1
abbrev acb:dA:=(HZ (Cf (s8 11)).2.1).2.2
def yL (c:Nat):List (Option (gE aj)×gE aj):=(evalEachOpt ((H7.drop (17*c)).take 17) uo).zip ((evalEach ((H6.drop (17*c)).take 17) uo).map λv=>do let x←v;er acb;pure x)
def sT:List (Option (gE aj)×gE aj):=(evalEachOpt H7 uo).zip ((evalEach H6 uo).map λv=>do let x←v;er acb;pure x)
theorem UI (f)(a):evalEach a f=a.map λL=>eval L f:=by
 induction a with
 |nil=>rfl|cons L a e=>exact qn (eval L f::·) e
theorem Lj (f)(a):evalEachOpt a f=a.map λy=>evalOpt y f:=by
 induction a with
 |nil=>rfl|cons y a e=>exact qn (evalOpt y f::·) e
theorem aeS (c):(sT.drop (17*c)).take 17=yL c:=by unfold sT yL;simp only[UI,Lj,ml,List.map_drop,List.zip,List.drop_zipWith,List.take_zipWith]
abbrev Ws (c:Nat)(p:DS)(e:dA):Thread:=⟨(xr w_.1.1 (yL c) p).wrap (λU=>.pure (.done (S4 U))) deadEnd id id,u0,e,B0⟩
def eC (c:Nat):List (Int×ba):=(((H7.drop (17*c)).zip (H6.drop (17*c))).take 17).filterMap λb=>b.1.bind λL=>(aaI (DY L)).bind λL=>(IH (DY b.2)).map λp=>(L,p)
def eL:List (List (Int×ba)):=(aq 39).map eC
noncomputable def flt:Nat->List (List (Int×ba))->List DictEntry
 |J,[]=>[]
 |t,a::l=>QE 3 t a++flt (t+51) l
abbrev HS:=BT×gw×gw×Nat×Nat
abbrev HF:=cD->HS
noncomputable def SS (a:HF)(n:d7)(u:OsState):oH:=⟨(a n.params).1,(a n.params).2.2.2.1,{},#[],eY,(a n.params).2.2.2.2,u⟩
noncomputable def OH:Nat->List gw->BT->BT
 |J,[],s=>s|i,G::l,s=>OH (i+1) l (s.ins i G)
abbrev RF (o:Type):=Nat->Nat->Nat->Int->Int->String->String->Nat->Nat->List String->List String->o
noncomputable def cA (a:List String):Nat:=if a.isEmpty then 3 else 5
def coR (c h:Nat)(q b:Int)(f:String)(a U:List String):gw:=if a.isEmpty then Wr f h q b 0 0 3 c (c+1) .none .none .none (c+2) (h+3) else Wr f h q b 0 0 3 c (c+1) .none (.ref (c+2)) (.ref (c+3)) (c+4) (h+(3+a.length+U.length))
noncomputable def md (b:cD->gw->gw)(d:gw->gw)(g:BT->BT)(c h:Nat)(a:HF):HF:=λT=>(g (((a T).1.set 3 λJ=>b T (a T).2.1).set 12 λJ=>d (a T).2.2.1),b T (a T).2.1,d (a T).2.2.1,c,h)
def fd:RF (HF->HF):=λc h t q b f p T z a L=>md (λU G=>Mr G [de U f (t+(5+a.length+L.length)) (.ref (h+cA a+1))] z) (λo=>fap o q (h+cA a)) (OH h (Io::J3::((if a.isEmpty then [] else [Zf (t+3) a,Zf (t+(3+a.length)) L])++[fn0 c f,coR h t q b f a L,Wg c f .none p T (h+cA a)]))) (h+cA a+2) (t+(6+a.length+L.length))
def kf:RF (Frag->Frag):=λc h t q d f p T J a U b=>(h+cA a,coR h t q d f a U)::(h+cA a+1,Wg c f .none p T (h+cA a))::b
def nm (f:String)(c h t:Nat):HF->HF:=md (λT G=>dnm G (de T "__name__" 165 (.str (az f) c)) h) id id t (c+2)
noncomputable def CD:="cpy313._pylong"
noncomputable def Ox:="cpy313.stringprep"
noncomputable def ya:="cpy313.xml.etree.ElementTree"
noncomputable def vJ:="law_wc0030_02"
def r2 {o:Type}(G:RF o):o:=G 2 15 191 3 3 "_div2n1n" CD 187 11 ["a","b","n","pad","half_n","mask","b1","b2","q1","r","q2"] []
def r3 {o:Type}(G:RF o):o:=G 3 22 208 19 6 "_div3n2n" CD 187 12 ["a12","a3","b","b1","b2","n","q","r"] []
def r4 {o:Type}(G:RF o):o:=G 4 29 222 29 2 "_int2digits" CD 187 13 ["a","n"] ["n","a_digits","inner"]
def r5 {o:Type}(G:RF o):o:=G 5 36 233 45 2 "_digits2int" CD 187 14 ["digits","n"] ["digits","n","inner"]
def r6 {o:Type}(G:RF o):o:=G 6 43 244 54 2 "_divmod_pos" CD 187 15 ["a","b","n","a_digits","r","q_digits","a_digit","q_digit","q"] []
def r7 {o:Type}(G:RF o):o:=G 7 50 259 65 2 "int_divmod" CD 187 16 ["a","b","q","r"] []
def r10 {o:Type}(G:RF o):o:=G 10 68 331 78 1 "in_table_b1" Ox 269 18 ["code"] []
def VA {o:Type}(G:RF o):o:=G 12 114 2289 81 1 "map_table_b3" Ox 269 20 ["code","r"] []
def r15 {o:Type}(G:RF o):o:=G 15 130 2310 92 2 "_serialize_text" ya 2297 22 ["write","elem","part"] []
def r16 {o:Type}(G:RF o):o:=G 16 137 2319 97 1 "_raise_serialization_error" ya 2297 23 ["text"] []
def r17 {o:Type}(G:RF o):o:=G 17 144 2326 99 1 "_escape_cdata" ya 2297 24 ["text"] []
def r18 {o:Type}(G:RF o):o:=G 18 151 2333 110 1 "_escape_attrib" ya 2297 25 ["text"] []
def r19 {o:Type}(G:RF o):o:=G 19 158 2340 129 1 "_escape_attrib_html" ya 2297 26 ["text"] []
def r20 {o:Type}(G:RF o):o:=G 20 165 2347 140 1 "_escape_cdata_c14n" ya 2297 27 ["text"] []
def r21 {o:Type}(G:RF o):o:=G 21 172 2354 153 1 "_escape_attrib_c14n" ya 2297 28 ["text"] []
def r23 {o:Type}(G:RF o):o:=G 23 179 2363 171 3 "_law_read" vJ 2361 29 [] []
def r24 {o:Type}(G:RF o):o:=G 24 184 2369 184 2 "_law_element" vJ 2361 30 ["tag","attrib"] ["tag","one"]
def r25 {o:Type}(G:RF o):o:=G 25 191 2379 194 6 "_law_page" vJ 2361 31 ["letters","own","above","ties","hand","last","page","made","kept","k","text","given","step"] []
def r26 {o:Type}(G:RF o):o:=G 26 198 2398 203 2 "_law_taken_apart" vJ 2361 32 ["page","letters","own","above","ties","path","last","sign"] []
def r27 {o:Type}(G:RF o):o:=G 27 205 2412 216 2 "_law_above" vJ 2361 33 ["n","number","above","path","k"] []
def r28 {o:Type}(G:RF o):o:=G 28 212 2423 223 5 "_law_whole" vJ 2361 34 [] []
def r29 {o:Type}(G:RF o):o:=G 29 217 2429 234 3 "_law_figures" vJ 2361 35 ["whole","base","count","figures","step","left"] []
def r30 {o:Type}(G:RF o):o:=G 30 224 2441 244 1 "_law_changes" vJ 2361 36 [] []
def r31 {o:Type}(G:RF o):o:=G 31 229 2447 247 4 "_law_leaves" vJ 2361 37 [] []
def r32 {o:Type}(G:RF o):o:=G 32 234 2453 262 1 "law" vJ 2361 38 [] []
noncomputable def o13:gw:=⟨.type "code",N,.fields #[.str (az "<module>") 182,.str (az "<module>") 183,.str (az "/claim/cut.py") 184,.int 1 0,.int 0 0,.int 0 0,.int 0 0,.int 0 0,.ref 11,.bool false,.int 181 0,.ref 12,.none,.none,.none,.none,.int 185 0,.int 1 0,.str (az "/claim/cut.py") 186],#[]⟩
noncomputable def o14:gw:=⟨.type "frame",N,.plain,#[Y (.ref 13),Y (.ref 3),Y (.ref 3),N,Y (.str (az "__main__") 164),N,Y (.ref 0)]⟩
def L_:HF:=λT=>((.node (boot_o_0 T) (.node (boot_o_1 T) (.node (boot_o_3 T) (.node (boot_o_7 T) .nil .nil) (.node Io .nil .nil)) (.node (boot_o_5 T) (.node (boot_o_9 T) .nil .nil) (.node o13 .nil .nil))) (.node (boot_o_2 T) (.node (boot_o_4 T) (.node (boot_o_8 T) .nil .nil) (.node J3 .nil .nil)) (.node (boot_o_6 T) (.node (boot_o_10 T) .nil .nil) (.node o14 .nil .nil)))),Io,J3,15,187)
def L6:HF:=md (λT J=>⟨.type "dict",N,.dict #[de T "__name__" 165 (.str (az "cpy313._pylong") 187),de T "__doc__" 166 (.none),de T "__package__" 167 (.none),de T "__loader__" 168 (.builtin "__main__.__loader__#opaque"),de T "__spec__" 169 (.none),de T "__annotations__" 170 (.ref 6),de T "__builtins__" 171 (.ref 4),de T "__file__" 173 (.str (az "/claim/cut.py") 172),de T "__cached__" 174 (.none)] 9,#[]⟩) id id 15 189 L_
def zO:=md (λT G=>Mr G [de T "_DIV_LIMIT" 190 (.int 4000 189)] 10) id id 15 191 L6
def yt:=r2 fd zO
def hp3:=r3 fd yt
def hp4:=r4 fd hp3
def hp5:=r5 fd hp4
def tS:=r6 fd hp5
def hp7:=r7 fd tS
def hp8:=nm Ox 269 16 57 hp7
noncomputable def b1a:List aj:=[.int 173 271,.int 847 272,.int 6150 273,.int 6155 274,.int 6156 275,.int 6157 276,.int 8203 277,.int 8204 278,.int 8205 279,.int 8288 280,.int 65279 281]
noncomputable def b1b:List aj:=[.int 65024 287,.int 65025 288,.int 65026 289,.int 65027 290,.int 65028 291,.int 65029 292,.int 65030 293,.int 65031 294,.int 65032 295,.int 65033 296,.int 65034 297,.int 65035 298,.int 65036 299,.int 65037 300,.int 65038 301,.int 65039 302]
noncomputable def oB (T:cD):gw:=⟨.type "set",N,.set #[(65024,.int 65024 287),(65025,.int 65025 288),(65026,.int 65026 289),(65027,.int 65027 290),(65028,.int 65028 291),(65029,.int 65029 292),(6150,.int 6150 273),(65030,.int 65030 293),(65031,.int 65031 294),(65032,.int 65032 295),(65033,.int 65033 296),(6155,.int 6155 274),(6156,.int 6156 275),(6157,.int 6157 276),(8203,.int 8203 277),(8204,.int 8204 278),(8205,.int 8205 279),(65034,.int 65034 297),(65035,.int 65035 298),(65036,.int 65036 299),(65037,.int 65037 300),(65038,.int 65038 301),(65039,.int 65039 302),(173,.int 173 271),(847,.int 847 272),(8288,.int 8288 280),(65279,.int 65279 281)] 29 { mask:=127,place:=#[0,1,2,3,4,5,6,7,8,9,10,11,12,13,14,15,16,17,18,19,20,21,22,45,79,96,127],dummies:=#[],finger:=0,led:=!T.followText "set-order",moves:=2,plain:=true },#[]⟩
def hp9:HF:=λT=>md (λT G=>Mr G [de T "b1_set" 330 (.ref 64)] 17) id (OH 57 [⟨.type "list",N,.seq (gp b1a) 0,#[]⟩,⟨.type "range",N,.fields #[.int 65024 282,.int 65040 283,.int 1 284],#[]⟩,⟨.type "list",N,.seq (gp b1b) 18,#[]⟩,⟨.type "range_iterator",N,.fields #[.int 65040 0,.int 0 0,.int 1 0],#[]⟩,Io,⟨.type "StopIteration",N,.fields #[.ref 61,.none,.none,.none,.bool false,.none],#[]⟩,⟨.type "list",N,.seq (gp (b1a++b1b)) 0,#[]⟩,oB T,⟨.type "list_iterator",N,.fields #[.none,.int 27 0],#[]⟩,Io,⟨.type "StopIteration",N,.fields #[.ref 66,.none,.none,.none,.bool false,.none],#[]⟩]) 68 331 hp8 T
def JH:=r10 fd hp9
def bgO (c:Nat):gw:=dcO (flt 338 (eL.take (c+1))) (17*(c+1))
def tc (T:cD)(c:Nat):BT:=Nat.rec ((JH T).1.ins 75 (bgO 0)) (λc s=>(s.set 75 λJ=>bgO (c+1)).ins (76+c) (dcO (QE 3 (389+51*c) (eL.getD (c+1) [])) 17)) c
def hc (c:Nat):HF:=λT=>(tc T c,(JH T).2.1,(JH T).2.2.1,76+c,389+51*c)
def oL:gw:=Mr (bgO 37) (QE 2 2276 (eC 38)) 650
def Uk:=md (λT G=>Mr G [de T "b3_exceptions" 2288 (.ref 75)] 19) id (λs=>(s.set 75 λJ=>oL).ins 113 (dcO (QE 2 2276 (eC 38)) 4)) 114 2289 (hc 37)
def Uj:=VA fd Uk
def Ui:=nm ya 2297 20 121 Uj
noncomputable def oS0:gw:=⟨.type "dict",N,.dict #[] 0,#[]⟩
noncomputable def oS1:gw:=⟨.type "tuple",N,.seq #[.ref 121] 0,#[]⟩
def oS7:gw:=Wr "SubElement" 2299 87 3 0 0 11 123 124 (.none) (.ref 125) (.ref 126) 127 2307
def Z':gw:=Wg 14 "SubElement" (.ref 122) "cpy313.xml.etree.ElementTree" 2297 128
def Uh:HF:=md (λT G=>Mr G [de T "SubElement" 2309 (.ref 129)] 21) (λo=>fap o 87 128) (OH 121 [oS0,oS1,Io,J3,Zf 2302 ["parent","tag","attrib","extra","element"],Io,fn0 14 "SubElement",oS7,Z']) 130 2310 Ui
def Ug:=r15 fd Uh
def Ue:=r16 fd Ug
def Ud:=r17 fd Ue
def Uc:=r18 fd Ud
def Ub:=r19 fd Uc
def Ua:=r20 fd Ub
def T_:=r21 fd Ua
def T9:=nm vJ 2361 28 179 T_
def T8:=r23 fd T9
def T7:=r24 fd T8
def T6:=r25 fd T7
def tM:=r26 fd T6
def T5:=r27 fd tM
def T4:=r28 fd T5
def T3:=r29 fd T4
def T2:=r30 fd T3
def T1:=r31 fd T2
def A4:=r32 fd T1
abbrev PC (c U:Nat)(b a:HF)(e d:dA)(u:OsState)(n:d7):Prop:=FG n 11 tu 1 U (SS b n u) (Z5 [s8 c] e)=Y (.next,SS a n u,u0,d)
abbrev CK (c:Nat)(u:OsState)(n:d7):Prop:=FG n 11 tu 1 400 (SS (hc c) n u) (Ws (c+1) (Y 75,[]) ⟨80,16,80,8704⟩)=Y (.ret (.ref 75),SS (hc (c+1)) n u,u0,⟨80,16,80,8704⟩)
noncomputable abbrev AL (U:List Nat):Prop:=∀T∈U,∀(os:OsState)(L:d7),CK T os L
theorem ac {a:List Nat}(G:∀(os:OsState)(U:d7),CK c os U)(d:AL a):AL (c::a):=ck.mpr ⟨G,d⟩
theorem sg {b:d7->Prop}:(∀n:d7,b (n.withFollow "special-get-raises" false))->(∀n:d7,b (n.withFollow "special-get-raises" true))->∀n:d7,b n:=byRow2 "special-get-raises"
end uJ
end
noncomputable section
set_option maxHeartbeats 0
namespace uJ
theorem ahE (u)(n):PC 0 10 L_ L6 ⟨0,0,0,0⟩ ⟨1,0,1,8⟩ u n:=by kernel_rfl
theorem ahD (u)(n):PC 1 10 L6 zO ⟨1,0,1,8⟩ ⟨2,0,2,10⟩ u n:=by kernel_rfl
theorem ahC (u)(n):PC 2 40 zO yt ⟨2,0,2,10⟩ ⟨3,0,18,33⟩ u n:=by kernel_rfl
theorem ahB (u)(n):PC 3 37 yt hp3 ⟨3,0,18,33⟩ ⟨19,0,28,17⟩ u n:=by kernel_rfl
theorem ahA (u)(n):PC 4 34 hp3 hp4 ⟨19,0,28,17⟩ ⟨29,0,44,19⟩ u n:=by kernel_rfl
theorem ahz (u)(n):PC 5 34 hp4 hp5 ⟨29,0,44,19⟩ ⟨45,0,53,49⟩ u n:=by kernel_rfl
theorem ahy (u)(n):PC 6 38 hp5 tS ⟨45,0,53,49⟩ ⟨54,0,64,17⟩ u n:=by kernel_rfl
theorem ahx (u)(n):PC 7 33 tS hp7 ⟨54,0,64,17⟩ ⟨65,0,75,32⟩ u n:=by kernel_rfl
theorem ahw (u)(n):PC 8 10 hp7 hp8 ⟨65,0,75,32⟩ ⟨76,0,76,8⟩ u n:=by kernel_rfl
theorem ahv (u):∀n:d7,PC 9 1996 hp8 hp9 ⟨76,0,76,8⟩ ⟨77,0,77,6⟩ u n:=by refine byRow2 "set-order" ?_ ?_<;>refine sg ?_ ?_<;>(intro n;kernel_rfl)
theorem adM (u)(n):PC 10 30 hp9 JH ⟨77,0,77,6⟩ ⟨78,0,79,30⟩ u n:=by kernel_rfl
theorem adL (u)(n):PC 12 31 Uk Uj ⟨80,0,80,13⟩ ⟨81,0,85,23⟩ u n:=by kernel_rfl
theorem adK (u)(n):PC 13 10 Uj Ui ⟨81,0,85,23⟩ ⟨86,0,86,8⟩ u n:=by kernel_rfl
theorem adJ (u)(n):PC 14 37 Ui Uh ⟨86,0,86,8⟩ ⟨87,0,91,18⟩ u n:=by kernel_rfl
theorem adI (u)(n):PC 15 32 Uh Ug ⟨87,0,91,18⟩ ⟨92,0,96,24⟩ u n:=by kernel_rfl
theorem adH (u)(n):PC 16 30 Ug Ue ⟨92,0,96,24⟩ ⟨97,0,98,82⟩ u n:=by kernel_rfl
theorem adG (u)(n):PC 17 30 Ue Ud ⟨97,0,98,82⟩ ⟨99,0,109,40⟩ u n:=by kernel_rfl
theorem adF (u)(n):PC 18 30 Ud Uc ⟨99,0,109,40⟩ ⟨110,0,128,40⟩ u n:=by kernel_rfl
theorem adE (u)(n):PC 19 30 Uc Ub ⟨110,0,128,40⟩ ⟨129,0,139,40⟩ u n:=by kernel_rfl
theorem adD (u)(n):PC 20 30 Ub Ua ⟨129,0,139,40⟩ ⟨140,0,152,40⟩ u n:=by kernel_rfl
theorem adC (u)(n):PC 21 30 Ua T_ ⟨140,0,152,40⟩ ⟨153,0,169,40⟩ u n:=by kernel_rfl
theorem adB (u)(n):PC 22 10 T_ T9 ⟨153,0,169,40⟩ ⟨170,0,170,8⟩ u n:=by kernel_rfl
theorem adA (u)(n):PC 23 27 T9 T8 ⟨170,0,170,8⟩ ⟨171,0,183,109⟩ u n:=by kernel_rfl
theorem adz (u)(n):PC 24 33 T8 T7 ⟨171,0,183,109⟩ ⟨184,0,193,14⟩ u n:=by kernel_rfl
theorem ady (u)(n):PC 25 42 T7 T6 ⟨184,0,193,14⟩ ⟨194,0,202,111⟩ u n:=by kernel_rfl
theorem adx (u)(n):PC 26 37 T6 tM ⟨194,0,202,111⟩ ⟨203,0,215,35⟩ u n:=by kernel_rfl
theorem adw (u)(n):PC 27 34 tM T5 ⟨203,0,215,35⟩ ⟨216,0,222,16⟩ u n:=by kernel_rfl
theorem adv (u)(n):PC 28 27 T5 T4 ⟨216,0,222,16⟩ ⟨223,0,233,16⟩ u n:=by kernel_rfl
theorem adu (u)(n):PC 29 35 T4 T3 ⟨223,0,233,16⟩ ⟨234,0,243,41⟩ u n:=by kernel_rfl
theorem adt (u)(n):PC 30 27 T3 T2 ⟨234,0,243,41⟩ ⟨244,0,246,77⟩ u n:=by kernel_rfl
theorem ads (u)(n):PC 31 27 T2 T1 ⟨244,0,246,77⟩ ⟨247,0,261,25⟩ u n:=by kernel_rfl
theorem adq (u)(n):PC 32 27 T1 A4 ⟨247,0,261,25⟩ ⟨262,0,282,150⟩ u n:=by kernel_rfl
theorem aii (u):∀n:d7,FG n 11 tu 1 400 (SS JH n u) (Ws 0 (N,[]) ⟨80,16,80,8704⟩)=Y (.ret (.ref 75),SS (hc 0) n u,u0,⟨80,16,80,8704⟩):=sg (λn=>by kernel_rfl) (λn=>by kernel_rfl)
theorem ckA (U)(a:AL U):AL (0::1::2::3::4::5::U):=by
 repeat refine ac (λu=>sg (λn=>by kernel_rfl) (λn=>by kernel_rfl)) ?_
 exact a
theorem ckB (T)(L:AL T):AL (6::7::8::9::10::T):=by
 repeat refine ac (λU=>sg (λI=>by kernel_rfl) (λI=>by kernel_rfl)) ?_
 exact L
theorem ckC (T)(L:AL T):AL (11::12::13::14::15::T):=by
 repeat refine ac (λU=>sg (λI=>by kernel_rfl) (λI=>by kernel_rfl)) ?_
 exact L
theorem ckD (T)(L:AL T):AL (16::17::18::19::T):=by
 repeat refine ac (λU=>sg (λI=>by kernel_rfl) (λI=>by kernel_rfl)) ?_
 exact L
theorem ckE (T)(L:AL T):AL (20::21::22::23::T):=by
 repeat refine ac (λU=>sg (λI=>by kernel_rfl) (λI=>by kernel_rfl)) ?_
 exact L
theorem ckF (T)(L:AL T):AL (24::25::26::27::T):=by
 repeat refine ac (λU=>sg (λI=>by kernel_rfl) (λI=>by kernel_rfl)) ?_
 exact L
theorem ckG (T)(L:AL T):AL (28::29::30::T):=by
 repeat refine ac (λU=>sg (λI=>by kernel_rfl) (λI=>by kernel_rfl)) ?_
 exact L
theorem ckH (T)(L:AL T):AL (31::32::33::T):=by
 repeat refine ac (λU=>sg (λI=>by kernel_rfl) (λI=>by kernel_rfl)) ?_
 exact L
theorem ckI (T)(L:AL T):AL (34::35::36::T):=by
 repeat refine ac (λU=>sg (λI=>by kernel_rfl) (λI=>by kernel_rfl)) ?_
 exact L
section
noncomputable def KA (p:ba)(e:dA)(a:List (Option dI))(g:List dI)(c:dA)(h:kK):aj->gE k8:=λs=>(do
 match←(do assignStores h s (← fC [.Name p e] (.Dict a g c) h) ((pT [.Name p e] h).map (·.2))) with
 |.next=>execs [] h|f=>pure f)
theorem R3 (p)(e)(a)(f)(c L)(g):execs [.Assign [.Name p e] (.Dict a f c) L] g=(er L>>=λJ=>(er c>>=λJ=>ma ((evalEachOpt a g).zip ((evalEach f g).map λv=>do let p←v;er c;pure p)))>>=KA p e a f c g):=by have h:swapsWithSole [.Name p e] (.Dict a f c) L.line g=pure false:=rfl;rw[execs_cons,kg,arm_eval_Dict,h];simp only[bind_assoc,pure_bind,gB,if_false];rfl
def UY (c:gn):ba×dA×List (Option dI)×List dI×dA×dA:=let b:=nmP ((Cf c).1.getD 0 (Cf c).2.1);let a:=HZ (Cf c).2.1;(b.1,b.2,a.1,a.2.1,a.2.2,(Cf c).2.2)
abbrev bp:=UY (s8 11)
theorem aca:s8 11=.Assign [.Name bp.1 bp.2.1] (.Dict bp.2.2.1 bp.2.2.2.1 bp.2.2.2.2.1) bp.2.2.2.2.2:=by kernel_rfl
theorem RS:sT=(evalEachOpt bp.2.2.1 uo).zip ((evalEach bp.2.2.2.1 uo).map λv=>do let x←v;er bp.2.2.2.2.1;pure x):=by kernel_rfl
abbrev GD:DS->gE k8:=λp=>w_.1.2 p>>=KA bp.1 bp.2.1 bp.2.2.1 bp.2.2.2.1 bp.2.2.2.2.1 uo
theorem RT:execs [s8 11] uo=(er bp.2.2.2.2.2>>=λJ=>er bp.2.2.2.2.1>>=λJ=>(forIn sT ((N,[]):DS) w_.1.1>>=GD)):=by refine (qn (λc=>execs [c] uo) aca).trans ((R3 _ _ _ _ _ _ _).trans ?_);rw[<- RS,w_.2];simp only[bind_assoc]
abbrev KR (a:List gn):k8->gE Fin:=λf=>match f with|.next=>(execs a uo).wrap doneF (leaveH uo) id id|f=>doneF f
variable {w:d7}
theorem Yr {t:ay}{a:List gn}{e:dA}(f:jj dC pw w 11 tu NNq s ⟨(forIn sT ((N,[]):DS) w_.1.1>>=GD).wrap (KR a) (leaveH uo) id id,u0,bp.2.2.2.2.1,B0⟩=Y t) :
  jj dC pw w 11 tu (2+NNq) s (restOf ([s8 11]++a) uo u0 e B0)=Y t:=by
 unfold restOf;rw[execs_app_wrap,RT];exact go_top (n:=2) rfl f
theorem RI {U:ay}{b:k8->gE Fin}{f:aj->gE Fin}(h:segRun dC pw w 11 tu 1 n s (Ws i p e)=Y (.ret (.ref d),s',u0,p'))(j:jj dC pw w 11 tu NNq s' ⟨(forIn (sT.drop (17*(i+1))) ((Y d,[]):DS) w_.1.1>>=GD).wrap b f id id,u0,p',B0⟩=Y U) :
  jj dC pw w 11 tu (n+NNq) s ⟨(forIn (sT.drop (17*i)) p w_.1.1>>=GD).wrap b f id id,u0,e,B0⟩=Y U:=by
 have o:sT.drop (17*i)=yL i++sT.drop (17*(i+1)):=by rw[<- aeS,show 17*(i+1)=17*i+17 from rfl,<-jO,List.take_append_drop]
 have H:((forIn (sT.drop (17*i)) p w_.1.1>>=GD:gE k8)).wrap b f id id=(xr w_.1.1 (yL i) p).wrap (λU=>((match U with|.done a=>pure a|.yield a=>forIn (sT.drop (17*(i+1))) a w_.1.1:gE DS)>>=GD).wrap b f id id) f id id:=by
  conv=>lhs;rw[o]
  rw[Rc,bind_assoc,gE.bind_eq_wrap',gE.wrap_wrap];exact gE.wrap_congr _ _ _ (λU=>by cases U<;>rfl) λJ=>rfl
 rw[H];obtain ⟨k,c,g⟩:=seg_top (res:=S4) (K':=λU=>((match U with|.done a=>pure a|.yield a=>forIn (sT.drop (17*(i+1))) a w_.1.1:gE DS)>>=GD).wrap b f id id) (H':=f) (B:=B0) (gd:=id) (lv:=id) rfl n s (Ws i p e)
  ⟨(xr w_.1.1 (yL i) p).wrap (λU=>((match U with|.done a=>pure a|.yield a=>forIn (sT.drop (17*(i+1))) a w_.1.1:gE DS)>>=GD).wrap b f id id) f id id,u0,e,B0⟩ _ _ _ _ ⟨rfl,rfl,.inl ⟨rfl,rfl,_,rfl,rfl⟩⟩ h
 cases S3 c
 exact g NNq U j
abbrev OE (c:Nat)(p:DS)(e:dA):Thread:=⟨(forIn (sT.drop (17*c)) p w_.1.1>>=GD).wrap doneF deadEnd id id,u0,e,B0⟩
theorem TP {U:ay}{a:List gn}(f:segRun dC pw w 11 tu 1 n s (OE t p e)=Y (.next,s',u0,c))(i:jj dC pw w 11 tu NNq s' (restOf a uo u0 c B0)=Y U) :
  jj dC pw w 11 tu (n+NNq) s ⟨(forIn (sT.drop (17*t)) p w_.1.1>>=GD).wrap (KR a) (leaveH uo) id id,u0,e,B0⟩=Y U:=by
 obtain ⟨T,o,b⟩:=seg_top (res:=id) (K':=KR a) (H':=leaveH uo) (B:=B0) (gd:=id) (lv:=id) rfl n s (OE t p e)
  ⟨(forIn (sT.drop (17*t)) p w_.1.1>>=GD).wrap (KR a) (leaveH uo) id id,u0,e,B0⟩ _ _ _ _ ⟨rfl,rfl,.inl ⟨rfl,rfl,_,rfl,rfl⟩⟩ f
 obtain rfl:T=.next:=o;exact b NNq U i
end
noncomputable abbrev S0 (n:d7)(u:OsState):ay:=⟨gu n.params,gp [],eY,ot,u⟩
theorem aht (n)(u):topGo dC pw n 11 tu 12 (S0 n u) (topStub pw)=Y ((SS L_ n u).abs,⟨denote dC u0,u0,⟨0,0,0,0⟩,B0⟩):=by kernel_rfl
theorem ab4 (n)(u):segRun dC pw n 11 tu 1 1 (SS L_ n u).abs (blockOf Pb uo u0 ⟨0,0,0,0⟩ B0)=Y (.next,(SS L_ n u).abs,u0,⟨0,0,0,0⟩):=by kernel_rfl
theorem adP:∀n:d7,(fencedOpening dC pw n 1000000).map (λU=>(U.heap,U.gens,U.drawn,U.toks))=Y (gu n.params,gp [],eY,ot):=boot_open (by kernel_rfl) (by decide) (by intro U;kernel_rfl)
noncomputable def KF (T:cD):Frag:=(1,boot_o_1 T)::(2,boot_o_2 T)::(3,(A4 T).2.1)::(121,oS0)::(122,oS1)::(128,oS7)::(129,Z')::(30,J3)::(37,J3)::(64,oB T)::(75,oL)::(185,J3)::r2 kf (r3 kf (r4 kf (r5 kf (r6 kf (r7 kf (r10 kf (VA kf (r15 kf (r16 kf (r17 kf (r18 kf (r19 kf (r20 kf (r21 kf (r23 kf (r24 kf (r25 kf (r26 kf (r27 kf (r28 kf (r29 kf (r30 kf (r31 kf (r32 kf []))))))))))))))))))))))))
noncomputable abbrev KP:List bK:=[1,2,3,121,122,128,129,30,37,64,75,185,20,21,27,28,34,35,41,42,48,49,55,56,73,74,119,120,135,136,142,143,149,150,156,157,163,164,170,171,177,178,182,183,189,190,196,197,203,204,210,211,215,216,222,223,227,228,232,233,237,238]
noncomputable abbrev qv:iE:={ pw with main:={ pw.main with body:=[s8 32] } }
noncomputable abbrev yb:List ba:=["SubElement","_div2n1n","_div3n2n","_int2digits","_digits2int","_divmod_pos","int_divmod","in_table_b1","map_table_b3","_serialize_text","_raise_serialization_error","_escape_cdata","_escape_attrib","_escape_attrib_html","_escape_cdata_c14n","_escape_attrib_c14n","_law_read","_law_element","_law_page","_law_taken_apart","_law_above","_law_whole","_law_figures","_law_changes","_law_leaves","b1_set","b3_exceptions","_DIV_LIMIT"].map az
noncomputable abbrev H1 (T:cD):fM:=absHeap (A4 T).1 239 {}
theorem ade:∀n:d7,((gu n.params).isNs c_&&(gp []:Array GenState).size==0,(gu n.params).objs.size,(gu n.params).nsMap c_ "__annotations__")=(true,11,tu):=λn=>by kernel_rfl
noncomputable abbrev WO:ay->Bool:=λU=>xlAt qv [] U&&recOk [] U
theorem ad2 (n:d7)(u):(staticsOk (jX pw.main.body) (gu n.params) (H1 n.params)&&namesBound pw (H1 n.params)&&gensDone ⟨H1 n.params,#[],eY,2459,u⟩&&laidKept (gu n.params) (H1 n.params))=true:=by kernel_rfl
theorem ad1 (n:d7)(u):openSeen qv yb (jX pw.main.body) WO true ⟨H1 n.params,#[],eY,2459,u⟩=openGood qv yb:=by kernel_rfl
theorem ad0 (n:d7)(u):X.obsZ KP ⟨H1 n.params,#[],eY,2459,u⟩=X.valZ KF 239 2459 n:=by kernel_rfl
section
theorem ad5 (U):∀w:d7,FG w 11 tu 1 500 (SS (hc 37) w U) (OE 38 (Y 75,[]) ⟨80,16,80,8704⟩)=Y (.next,SS Uk w U,u0,⟨80,0,80,13⟩):=sg (λw=>by kernel_rfl) (λw=>by kernel_rfl)
variable {w:d7}{b:OsState}
theorem Uw:jj dC pw w 11 tu 2 (SS A4 w b).abs ⟨doneF .next,u0,⟨262,0,282,150⟩,B0⟩=Y (SS A4 w b).abs:=by kernel_rfl
abbrev RX (n:d7)(U:OsState)(c:Nat)(d:HF)(a:List gn)(e:dA):Prop:=jj dC pw n 11 tu c (SS d n U).abs (restOf a uo u0 e B0)=Y (SS A4 n U).abs
theorem sR {a:List gn}(c:∀b w,PC i NNq h h' p p' b w)(d:RX w b n h' a p'):RX w b (NNq+n) h ([s8 i]++a) p:=piece_app (oo (adj (c b w))) d
theorem cR {U:ay}{f:k8->gE Fin}{d:aj->gE Fin}(g:∀b w,CK c b w)(e:jj dC pw w 11 tu NNq (SS (hc (c+1)) w b).abs ⟨(forIn (sT.drop (17*(c+1+1))) ((Y 75,[]):DS) w_.1.1>>=GD).wrap f d id id,u0,⟨80,16,80,8704⟩,B0⟩=Y U) :
  jj dC pw w 11 tu (400+NNq) (SS (hc c) w b).abs ⟨(forIn (sT.drop (17*(c+1))) ((Y 75,[]):DS) w_.1.1>>=GD).wrap f d id id,u0,⟨80,16,80,8704⟩,B0⟩=Y U:=RI (oo (N9 (g b w))) e
abbrev TT (n:d7)(L:OsState)(U:ay)(e:k8->gE Fin)(d:aj->gE Fin)(c T:Nat):Prop:=jj dC pw n 11 tu T (SS (hc c) n L).abs ⟨(forIn (sT.drop (17*(c+1))) ((Y 75,[]):DS) w_.1.1>>=GD).wrap e d id id,u0,⟨80,16,80,8704⟩,B0⟩=Y U
theorem cka (c)(G:c<37)(U)(n):CK c U n:=(ckA _ (ckB _ (ckC _ (ckD _ (ckE _ (ckF _ (ckG _ (ckH _ (ckI [] nofun)))))))):AL (aq 37)) c (bF.mpr G) U n
theorem cRn {U:ay}{c:k8->gE Fin}{d:aj->gE Fin}(e:TT w b U c d 37 NNq):∀n,n<=37->TT w b U c d (37-n) (Nat.rec NNq (λJ t=>400+t) n)
 |0,J=>e|n+1,x=>cR (cka _ (hU (by decide) n.succ_pos)) ((aH (jd x):37-(n+1)+1=37-n).symm▸cRn e n (b6 x))
theorem cRs {U:ay}{c:k8->gE Fin}{d:aj->gE Fin}(e:TT w b U c d 37 NNq):TT w b U c d 0 (Nat.rec NNq (λJ h=>400+h) 37):=cRn e 37 (ag _)
theorem Yn:Pb=(aq 33).map s8:=by kernel_rfl
theorem r_0:RX w b 18592 L_ ((aq 33).map s8) ⟨0,0,0,0⟩:=Eq.mp (by kernel_rfl) (sR ahE (sR ahD (sR ahC (sR ahB (sR ahA (sR ahz (sR ahy (sR ahx (sR ahw (sR ahv (sR adM (Yr (RI (i:=0) (oo (N9 (aii b w))) (cRs (TP (oo (N9 (ad5 b w))) (sR adL (sR adK (sR adJ (sR adI (sR adH (sR adG (sR adF (sR adE (sR adD (sR adC (sR adB (sR adA (sR adz (sR ady (sR adx (sR adw (sR adv (sR adu (sR adt (sR ads (sR adq (piece_nil Uw)))))))))))))))))))))))))))))))))))))
theorem ahn (n)(U):jj dC pw n 11 tu (12+(1+18592)) (S0 n U) (topStub pw)=Y (SS A4 n U).abs:=go_top (aht n U) (piece_block (ab4 n U) (by rw[Yn];exact r_0))
end
theorem ahp (n)(u):jj dC pw n 11 tu 18605 ⟨gu n.params,gp [],eY,ot,u⟩ (topStub pw)=Y ⟨H1 n.params,#[],eY,2459,u⟩:=Eq.mp (by kernel_rfl) (ahn n u)
theorem adZ (n:d7):(λu=>((staticsOk (jX pw.main.body) (gu n.params) (H1 n.params)&&namesBound pw (H1 n.params)&&gensDone ⟨H1 n.params,#[],eY,2459,u⟩&&laidKept (gu n.params) (H1 n.params)),openSeen qv yb (jX pw.main.body) WO true ⟨H1 n.params,#[],eY,2459,u⟩,X.obsZ KP ⟨H1 n.params,#[],eY,2459,u⟩))=λJ=>(true,openGood qv yb,X.valZ KF 239 2459 n):=funext λu=>by rw[ad2 n u,ad1 n u,ad0 n u]
theorem ad3:LeftO pw qv yb WO (X.obsZ KP) (X.valZ KF 239 2459) 1000000:=by
 refine LeftO.of_pieces (H₀:=gu) (H₁:=H1) (gs₀:=gp []) (gs₁:=#[]) (d₀:=eY) (d₁:=eY) (k₀:=ot) (k₁:=2459) (m₀:=11) (ann:=tu) (M:=18605) ?a ?b ?c ?d ?e
 case a=>exact adP
 case b=>exact ade
 case c=>exact ahp
 case d=>decide
 case e=>exact adZ
end uJ
end
section
set_option maxHeartbeats 200000
namespace uJ
abbrev yT:=PySem.Challenge.rw_wc0030_02.row
noncomputable def dL:DefRec:=⟨"law",t8 (s8 32),(match CO (s8 32) with|.stmts a=>a|_=>[]),BY (s8 32),⟨262,0,282,150⟩⟩
theorem k1:defOf qv yT.name=Y (dL,[]):=by kernel_rfl
theorem k2:yT.prog.theDef yT.name=Y (dL.params,dL.body,dL.scope):=by kernel_rfl
theorem k3:kwWritten? dL.params.kwonlyargs dL.params.kw_defaults=Y []:=by kernel_rfl
theorem k4q:PySem.W.Fast.tw9446332074065402090 PySem.Challenge.rw_wc0030_02=true:=by kernel_rfl
theorem k4:PySem.Challenge.rw_wc0030_02.wellSaid=true:=(congrFun PySem.W.Fast.te9446332074065402090 _).trans k4q
theorem k5:(chainsOk qv&&opensWell yT.prog&&(frees yT.toRowW&&yT.within.isEmpty))=true:=by decide +kernel
theorem k6:yT.prog.bare:=⟨rfl,rfl,rfl,rfl,rfl,by decide +kernel⟩
theorem aa3 (b:yT.toRowW.promised)(a:WalkX qv yb (XL qv []) (X.obsZ KP) (X.valZ KF 239 2459) yT.toRowW dL [] λs c=>PySem.call s c):PySem.Challenge.rw_wc0030_02.Holds:=by
 refine holds_law k4 λe=>?_
 refine holds_openX (r:=yT) (q:=qv) (loose:=yb) (Xt:=WO) (XP:=XL qv []) (Yf:=X.obsZ KP) (Ya:=X.valZ KF 239 2459) (d:=dL) (kwd:=[]) (N:=1000000) ?h1 ?h2 ?h3 ?h4 ?h5 ?h6 ?h7 ?h8 ?h9 ?Wb ?h11 ?h12 ?h13
 case h1=>exact ad3
 case h2=>exact λU i=>xl_of U (h_.mp i).1
 case h3=>exact XL.keeps
 case h4=>exact k1
 case h5=>exact k2
 case h6=>exact k3
 case h7=>exact λU i=>recFacts_of (h_.mp i).2
 case h8=>rfl
 case h9=>exact e
 case Wb=>exact k5
 case h11=>exact k6
 case h12=>exact b
 case h13=>exact a
end uJ
end
noncomputable section
set_option maxHeartbeats 1000000
namespace Vm
theorem nS {o:Type _}{G:o}{v:Prop}(e:(N:Option o)=Y G):v:=nomatch e
theorem sN {o:Type _}{G:o}{v:Prop}(e:Y G=(N:Option o)):v:=nomatch e
theorem fT {o:Prop}(e:false=true):o:=nomatch e
theorem tF {o:Prop}(e:true=false):o:=nomatch e
theorem sI {o:Type _}{G p:o}{v:Prop}(e:Y G=Y p) (b:G=p->v):v:=b<|ae e
theorem sy {o v:Type _}{G p:o}{a c:v}{A:Prop}(e:Y (G,a)=Y (p,c)) (b:G=p->a=c->A):A:=b (qn nG<|ae e)<|qn Prod.snd<|ae e
theorem ahI {o:Type _}{G:o}{a:List o}{v:Prop}(e:[]=G::a):v:=nomatch e
theorem Wq {o:Type _}{G:o}{a:List o}{v:Prop}(e:G::a=[]):v:=nomatch e
theorem qX {o:Type _}{v:Prop} [Decidable v] {y:Option o}{G:o}{A:Prop}(e:(if v then y else N)=Y G) (b:v->y=Y G->A):A:=by
 by_cases p:v
 .exact b p (by rw[ql p] at e;exact e)
 .rw[qm p] at e;exact nS e
theorem aaE {o:Type _}{v:Prop} [Decidable v] {y h:Option o}{G:o}{A:Prop}(e:(if v then y else h)=Y G) (b:v->y=Y G->A) (d:¬v->h=Y G->A):A:=if p:v then b p ((ql p).symm.trans e) else d p ((qm p).symm.trans e)
theorem rW {o:Type _}{v:Prop} [Decidable v] {y:Option o}{G:o}{A:Prop}(e:(if v then N else y)=Y G) (b:¬v->y=Y G->A):A:=by
 by_cases p:v
 .rw[ql p] at e;exact nS e
 .exact b p (by rw[qm p] at e;exact e)
@[elab_as_elim] theorem sE {o v:Type _}{G p:o}{a c:v}{b:o->v->Prop}(e:Y (G,a)=Y (p,c))(q:b G a):b p c:=sy e λi n=>J i<|J n q
@[elab_as_elim] theorem A0 {q v:Type _}{b:q->v}{o:Option q}{G:v}{d:v->Prop}(e:o.map b=Y G)(k:∀p,o=Y p->d (b p)):d G:=by
 cases o with
 |none=>exact nS e|some p=>exact J (ae e)<|k p rfl
theorem qN {q v:Type _}{b:q->v}{o:Option q}{G:v}{A:Prop}(e:o.map b=Y G) (d:∀p,o=Y p->b p=G->A):A:=by
 cases o with
 |none=>exact nS e|some p=>exact d p rfl<|ae e
theorem sk {q v:Type _}{b:q->Option v}{o:Option q}{G:v}{A:Prop}(e:o.bind b=Y G) (d:∀p,o=Y p->b p=Y G->A):A:=by
 cases o with
 |none=>exact nS e|some p=>exact d p rfl e
@[elab_as_elim] theorem rwE {o:Sort _}{G p:o}{b:o->Prop}(e:G=p)(a:b p):b G:=Q e a
theorem gk {o:Prop}(b:∀v:Prop,(o->v)->v):o:=b o id
theorem wpAny_toks {o:Type}{v:gE o}{T:o->ay->Prop}{d:aj->ay->Prop}{U:ay}(e:wpAny q9 A v (λG s=>U.toks<=s.toks->T G s) (λG s=>U.toks<=s.toks->d G s) U):wpAny q9 A v T d U:=wpAny_with_toks (ag _) e
end Vm
end
noncomputable section
namespace zu
open PySem.Flt
theorem Bo:eW (.type "function") "__getattr__"=pure N:=by refine Q (dM ..)<|Q (cx ..) ?_;kernel_rfl
theorem wX:Slot "function" "__getattribute__" "object.__getattribute__":=
 .of (owner:="object") (n:="__getattribute__") (by refine Q (dM ..)<|Q (cx ..) ?_;kernel_rfl) rfl rfl rfl
  (by first|exact .inl rfl|exact .inr rfl) (by refine Q (d6 ..) ?_;kernel_rfl)
theorem yw:Slot "function" "__setattr__" "object.__setattr__":=
 .of (owner:="object") (n:="__setattr__") (by refine Q (dM ..)<|Q (cx ..) ?_;kernel_rfl) rfl rfl rfl
  (by first|exact .inl rfl|exact .inr rfl) (by refine Q (d6 ..) ?_;kernel_rfl)
theorem Hl:kb (.type "function") (.type "staticmethod")=pure false:=by refine Q (d6 ..) ?_;kernel_rfl
theorem Hm:kb (.type "function") (.type "classmethod")=pure false:=by refine Q (d6 ..) ?_;kernel_rfl
theorem US:(mQ "object.__getattribute__" != "object.__getattribute__")=false:=rfl
theorem UH:j7 pb "object.__getattribute__"=Y fG.«object.__getattribute__»:=F.entry_object_getattribute
theorem YE (s a):pU "object.__getattribute__" ⟨[s,a],[]⟩:=by kernel_rfl
theorem YD (s a h):pU "object.__setattr__" ⟨[s,a,h],[]⟩:=by kernel_rfl
theorem UG:j7 pb "object.__setattr__"=Y fG.«object.__setattr__»:=jJ (by kernel_rfl)
theorem aao:mroOf (.type "function")=pure [.type "function",.type "object"]:=by refine Q (mroOf_type ..) ?_;kernel_rfl
def Va (i:fM)(v q:bK)(n:FuncData)(b:ba->Option aj):Prop:=i.get? v=Y ⟨.type "function",Y q,.func n,#[]⟩/\i.Ns q b
section
variable {a:OsState}
theorem Us {y:pH}{U:Fin->ay->Prop}(u:Va h x D fd md)(e:eW (.type "function") name=pure N)(i:md name=Y v)(I:U (.done (.ret v)) ⟨h,g,d,t,a⟩):wpAny (model G n) A (fG.«object.__getattribute__» ⟨[.ref x,.str name y],[]⟩) U E ⟨h,g,d,t,a⟩:=by
 obtain ⟨o,k⟩:=u;have L:(⟨h,g,d,t,a⟩:ay).TypeIs (.ref x) "function":=⟨_,o,rfl⟩;have z:=Hl;have H:=Hm
 repeat (any_goals (first|assumption|with_reducible apply wpAny_nsGet_known|with_reducible apply wpAny_loadPart_known|wp_step))
theorem E_ {U:aj->ay->Prop}(w:Va h x D fd md)(e:eW (.type "function") name=pure N)(i:md name=Y v)(o:handedOut v=pure v)(I:U v ⟨h,g,d,t+1,a⟩):wpAny (model G n) A (getAttr (.ref x) name ex) U E ⟨h,g,d,t,a⟩:=by
 have z:=w.1;have L:(⟨h,g,d,t,a⟩:ay).TypeIs (.ref x) "function":=⟨_,z,rfl⟩;have u:(⟨h,g,d,t+1,a⟩:ay).TypeIs (.ref x) "function":=⟨_,z,rfl⟩;have H:=wX.lookup;have c:=Bo;have k:=wX.bind (.ref x)
 cases ex
 all_goals (
  repeat (any_goals (first|assumption|(rw[qm (show ¬(true&&onTheHeap (g8 "object.__getattribute__"))=true by decide)])|wp_step))
  refine fx wX.plain UH (wX.check _ _ _ _ _ _ _ _ u (YE _ _) (Us w e i ?_))
  repeat (any_goals (first|assumption|wp_step)))
theorem JZ {U:aj×List aj->ay->Prop}(u:Va h x D fd md)(e:eW (.type "function") name=pure N)(i:md name=Y v)(o:handedOut v=pure v)(H:U (v,[]) ⟨h,g,d,t+1,a⟩):wpAny (model G n) A (getMethod (.ref x) name pl) U E ⟨h,g,d,t,a⟩:=by
 have z:=u.1;have I:(⟨h,g,d,t,a⟩:ay).TypeIs (.ref x) "function":=⟨_,z,rfl⟩;refine af (iT I wX.lookup ?_);refine (?_:wpAny _ A (if (mQ "object.__getattribute__" != "object.__getattribute__")=true then _ else _) U E _);refine Q (US ..) (Q (qm (by decide)) ?_);refine af (iT I Bo ?_);refine af (iT I e ?_);exact af (E_ u e i o (wpAny_pure H))
end
end zu
end
noncomputable section
namespace zu
open PySem.Flt Builtin Builtin.ObjectAttr
theorem Rd:∀s:aj,refuseLoop s "__setattr__" [.type "function",.type "object"]=pure ():=λs=>by kernel_rfl
theorem OR:typeHasDict (.type "function")=true:=by rfl
theorem Ur:finalisedInACycleAlone "function"=false:=by rfl
section
variable {a:OsState}
theorem JY {p:ba}{x:pH}{U:Fin->ay->Prop}(s:h.Ns1 D md)(b:Within md ns)(G:ns.length<65536)(n:∀k q,k.Ns1 D (λj=>if j=p then Y v else md j)->ff D h k->U (.done (.ret .none)) ⟨k,g,d,q,a⟩) :
  wpAny q9 A (storeInDict D (.str p x) p v) U E ⟨h,g,d,t,a⟩:=by
 refine af (wpAny_pure (af (wpAny_nsSet1 s λk c u=>?_)));refine Eg (c.count (Within.cons p v b)) λo H T e i w=>?_
 refine af (wpAny_lookBehind e (by refine Q i ?_;exact pastItsLine_dict (aa w (by refine Q (aQ ..) (Q (g6 ..) ?_);exact cm<|aa (bl G)<|by decide))) ?_)
 wp_walk
 exact n k _ c u
theorem Li {y:pH}{U:Fin->ay->Prop}(e:h.get? x=Y ⟨.type "function",dict,.func fd,#[]⟩)(i:eW (.type "function") name=pure N)(j:∀q,dict=Y q->wpAny (model G n) A (storeInDict q (.str name y) name v) U E ⟨h,g,d,t,a⟩)(p:dict=N->wpAny (model G n) A (storeInDict h.objs.size (.str name y) name v) U E ⟨(h.push { cls:=.type "dict",data:=.dict #[] }).update x λo=>{ cls:=o.cls,dict:=Y h.objs.size,data:=o.data,slots:=o.slots },g,d,t,a⟩) :
  wpAny (model G n) A (fG.«object.__setattr__» ⟨[.ref x,.str name y,v],[]⟩) U E ⟨h,g,d,t,a⟩:=by
 have H:(⟨h,g,d,t,a⟩:ay).TypeIs (.ref x) "function":=(qp _ e rfl);have s:=Rd (.ref x);have z:=aao
 repeat (first|refine Q (refuse_eq ..) ?_|refine ax z ?_|refine ax s ?_|wp_step)
 cases dict with
 |some q=>exact wpAny_pure (j q rfl)|none=>
  refine Q (OR ..) (Q (qm (by decide)) ?_);refine af (wpAny_alloc' ?_);refine af (wpAny_update' (aY _ e) ?_);delta dictMade;dsimp only;refine Q (Ur ..) ?_
  first
   |exact wpAny_pure (p rfl)
   |exact af (wpAny_pure (wpAny_pure (p rfl)))
theorem E9 {T:Unit->ay->Prop}(e:h.get? x=Y ⟨.type "function",dict,.func fd,#[]⟩)(i:eW (.type "function") name=pure N)(j:∀q y,dict=Y q->∀(p:Fin->ay->Prop)(H:aj->ay->Prop),(∀U,T () U->p (.done (.ret .none)) U)->wpAny (model G n) A.in1 (storeInDict q (.str name y) name v) p H ⟨h,g,d,t+1,a⟩)(b:dict=N->∀y,∀(p:Fin->ay->Prop)(H:aj->ay->Prop),(∀U,T () U->p (.done (.ret .none)) U)->wpAny (model G n) A.in1 (storeInDict h.objs.size (.str name y) name v) p H ⟨(h.push { cls:=.type "dict",data:=.dict #[] }).update x λo=>{ cls:=o.cls,dict:=Y h.objs.size,data:=o.data,slots:=o.slots },g,d,t+1,a⟩) :
  wpAny (model G n) A (setAttr (.ref x) name v) T E ⟨h,g,d,t,a⟩:=by
 have I:(⟨h,g,d,t+1,a⟩:ay).TypeIs (.ref x) "function":=(qp _ e rfl);have s:=yw.lookup;have z:=yw.bind (.ref x)
 repeat (any_goals (first|assumption|wp_step))
 refine fx yw.plain UG (yw.check _ _ _ _ _ _ _ _ I (YD _ _ _) (Li e i (λq u=>j q _ u _ _ λU L=>?_) λu=>b u _ _ _ λU L=>?_))
 all_goals (repeat (any_goals (first|assumption|wp_step)))
end
theorem zC:typeOf (.builtin "list.append")=pure (.type "method_descriptor"):=by kernel_rfl
theorem z7:Slot "method_descriptor" "__get__" "method_descriptor.__get__":=
 .of (owner:="method_descriptor") (n:="__get__") (by refine Q (dM ..)<|Q (cx ..) ?_;kernel_rfl) rfl rfl rfl
  (by first|exact .inl rfl|exact .inr rfl) (by refine Q (d6 ..) ?_;kernel_rfl)
theorem Kg:j7 pb "method_descriptor.__get__"=Y fG.«method_descriptor.__get__»:=jJ (by kernel_rfl)
theorem Lp (s a h):pU "method_descriptor.__get__" ⟨[s,a,h],[]⟩:=by kernel_rfl
theorem QL:eW (.type "method_descriptor") "__set__"=pure N:=by refine Q (dM ..)<|Q (cx ..) ?_;kernel_rfl
theorem QM:eW (.type "method_descriptor") "__delete__"=pure N:=by refine Q (dM ..)<|Q (cx ..) ?_;kernel_rfl
theorem Zw:ka (.builtin "list.append") "__get__"=pure (Y<|.builtin "method_descriptor.__get__"):=by delta ka;exact Q (zC ..) z7.lookup
theorem Zv:ka (.builtin "list.append") "__set__"=pure N:=by delta ka;exact Q (zC ..) QL
theorem Zx:ka (.builtin "list.append") "__delete__"=pure N:=by delta ka;exact Q (zC ..) QM
theorem K6:Manifest.toldItsClass.contains "list.append"=false:=rfl
theorem sub_list_list:kb (.type "list") (.type "list")=pure true:=by refine Q (d6 ..) ?_;kernel_rfl
theorem Et:kb (.type "list") (.type "module")=pure false:=by refine Q (d6 ..) ?_;kernel_rfl
theorem Lg:builtinKind "list.append"=Y .method:=rfl
theorem Fz:Manifest.varargsMethods.contains "list.append"=false:=rfl
theorem I5:(Code.builtin "list.append" as).quiet=true:=Code.quiet_builtin _ (by decide +kernel)
theorem EP:eW (.type "list") "__getattr__"=pure N:=by refine Q (dM ..)<|Q (cx ..) ?_;kernel_rfl
theorem entry_list_ga:j7 pb "list.__getattribute__"=Y fG.«object.__getattribute__»:=entryFor_alias (id':="object.__getattribute__") (by kernel_rfl) rfl (by decide +kernel) (by kernel_rfl)
noncomputable def zW (g:String)(s:aj):gw:=⟨.type "builtin_function_or_method",N,.fields #[.builtin g,s],#[]⟩
section
variable {f:OsState}
theorem get_append {P:Fin->ay->Prop}(hx:h.get? a=Y ⟨.type "list",N,.seq xs k,#[]⟩)(hq:P (.done<|.ret<|.ref h.objs.size) ⟨h.push<|zW "list.append"<|.ref a,g,d,t,f⟩) :
  wpAny q9 A (fG.«method_descriptor.__get__» ⟨[.builtin "list.append",.ref a,.type "list"],[]⟩) P E ⟨h,g,d,t,f⟩:=by
 refine af<|iG (a:=(.builtin "list.append",Y<|.ref a,Y<|.type "list")) (by first|rfl|kernel_rfl) ?_
 dsimp only;refine Q (K6 ..)<|Q (qm<|by decide) ?_
 show wpAny q9 A (((kfb_private% "checkInstance") (.builtin "list.append")<|.ref a)>>=λJ=>newFields "builtin_function_or_method" [.builtin "list.append",.ref a]>>=λv=>ret v) P E _;have e:(kfb_private% "checkInstance") (.builtin "list.append") (.ref a)=(isInstance (.ref a) (.type "list")>>=λb=>if (!b)=true then (do rule "descr.get.wrong-instance";raiseError "TypeError" s!"descriptor '{("append" : Str).toString}' for '{← typeName (.type "list")}' objects doesn't apply to a '{← typeNameOf (.ref a)}' object") else pure ()):=by first|rfl|kernel_rfl
 exact Q e<|af<|af<|lN (qp _ hx rfl) sub_list_list<|wpAny_pure<|af<|fX<|wpAny_pure hq
end
def KZ (f:String)(T:Args):Prop:=(match mz "list.append" with
 |N=>pure ()|Y p=>pR "list.append" { p with full:=f } T)=pure ()
theorem U8 (s a):KZ (toString (la "list")++toString "."++toString (la "list.append")) ⟨[s,a],[]⟩:=by delta KZ;refine Q (signature?_of (id:="list.append") (n:=['d','n','e','p','p','a']) (o:=['t','s','i','l']) (by kernel_rfl) F.owner_list) ?_;kernel_rfl
section
variable {b:OsState}
theorem OC {x:pH}{U:Fin->ay->Prop}(e:h.get? a=Y ⟨.type "list",N,.seq xs k,#[]⟩)(I:U (.done (.ret (.ref h.objs.size))) ⟨h.push (zW "list.append" (.ref a)),g,d,t,b⟩):wpAny (model G n) A (fG.«object.__getattribute__» ⟨[.ref a,.str "append" x],[]⟩) U E ⟨h,g,d,t,b⟩:=by
 have L:(⟨h,g,d,t,b⟩:ay).TypeIs (.ref a) "list":=⟨_,e,rfl⟩;have i:=F.slot_list_append.lookup;have o:=Zw;have z:=Zv;have H:=Zx;have u:(⟨h,g,d,t,b⟩:ay).TypeIs (.builtin "list.append") "method_descriptor":=zC;unfold fG.«object.__getattribute__»
 repeat (any_goals (first|assumption|with_reducible apply wpAny_loadPart_known|rw[o]|rw[z]|rw[H]|wp_step))
 exact fx z7.plain Kg (z7.check _ _ _ _ _ _ _ _ u (Lp _ _ _) (get_append e (wpAny_pure I)))
theorem FV {U:aj->ay->Prop}(e:h.get? a=Y ⟨.type "list",N,.seq xs k,#[]⟩)(H:U (.ref h.objs.size) ⟨h.push (zW "list.append" (.ref a)),g,d,t+1,b⟩):wpAny (model G n) A (getAttr (.ref a) "append" ex) U E ⟨h,g,d,t,b⟩:=by
 have I:(⟨h,g,d,t,b⟩:ay).TypeIs (.ref a) "list":=⟨_,e,rfl⟩;have u:(⟨h,g,d,t+1,b⟩:ay).TypeIs (.ref a) "list":=⟨_,e,rfl⟩;have i:=F.slot_list_getattribute.lookup;have o:=EP;have z:=F.slot_list_getattribute.bind (.ref a)
 cases ex
 all_goals (
  repeat (any_goals (first|assumption|(rw[qm (show ¬(true&&onTheHeap (g8 "list.__getattribute__"))=true by decide)])|wp_step))
  refine fx F.slot_list_getattribute.plain entry_list_ga (F.slot_list_getattribute.check _ _ _ _ _ _ _ _ u (F.args_list_getattribute_2 _ _) (OC e ?_))
  repeat (any_goals (first|assumption|wp_step)))
theorem Lm {f:String}{e:dA}{g:List<|Bool×gE aj}{I:aj->ay->Prop}(h:g.any (·.1)=false)(d:wpAny L T (evalArgs (.ref v) true g []) (λU w=>w.heap.get? v=Y (zW f u)/\wpAny L T (call (.ref v) (first++U.pos) U.kw) I E w) E s):wpAny L T (j9 e (.ref v) first g []) I E s:=by
 refine af<|cT<|wpAny_mono d (λU w t=>af<|wpAny_standAt ?_) λJ J U=>U
 obtain ⟨i,c⟩:=t;exact Q h<|af (m:=keeperOf<|.ref v)<|af<|kN i (Q (ql rfl)<|Q (ql rfl)<|wpAny_pure<|af<|wpAny_mono c (λa G H=>af<|cT<|wpAny_point<|wpAny_pure H) λJ J U=>U:wpAny L T (if (dh "builtin_function_or_method" != dh "method")=true then pure (if (dh "builtin_function_or_method"==dh "builtin_function_or_method"||dh "builtin_function_or_method"==dh "method-wrapper")=true then Keeper.machine else Keeper.caller) else _) _ E w)
theorem Kw {U:Unit->ay->Prop}(e:h.get? a=Y ⟨.type "list",N,.seq xs k,#[]⟩)(G:U () ⟨h,g,d,t,b⟩):wpAny q9 A (checkBoundCall "list.append" ⟨[.ref a,v],[]⟩) U E ⟨h,g,d,t,b⟩:=by
 have H:(⟨h,g,d,t,b⟩:ay).TypeIs (.ref a) "list":=qp _ e rfl;delta checkBoundCall
 cases i:mz "list.append" with
 |none=>exact wpAny_pure G|some p=>
  refine Q (Lg ..) ?_;dsimp only;refine Q (qm<|by decide)<|af<|lN H Et<|Q (Fz ..)<|Q (qm<|by decide)<|af<|af<|wpAny_loadPart_known e<|wpAny_pure<|Q (qm<|show ¬(false=true) by decide)<|af<|wpAny_typeOf H ?_
  have:=U8 (.ref a) v;unfold KZ at this
  rw[i] at this
  have this:pR "list.append" { p with full:=toString (la "list")++toString "."++toString (la "list.append") } ⟨[.ref a,v],[]⟩=pure ():=this;dsimp only;exact Q this<|wpAny_pure G
theorem Ym {U:ay}{L:aj->ay->Prop}(e:U.heap.get? u=Y (zW "list.append"<|.ref a))(i:U.heap.get? a=Y ⟨.type "list",N,.seq xs n,#[]⟩)(w:xs.size<=j5)(H:L .none { U with heap:=U.heap.update a<|iW (·.push v) }):wpAny (model G o) A (call (.ref u) [v]) L E U:=by
 refine m6<|mx<|af<|kN e (Q (ql rfl) ?_:wpAny _ A.in1 (if (dh "builtin_function_or_method"==dh "method"||dh "builtin_function_or_method"==dh "builtin_function_or_method"||dh "builtin_function_or_method"==dh "method-wrapper")=true then _ else _) _ _ U)
 show wpAny _ A.in1 (if (dh "builtin_function_or_method" != dh "method")=true then _ else _) _ _ U;refine Q (ql rfl) ?_;obtain ⟨j,I,T,t,b⟩:=U;exact af<|Kw i<|af<|wpAny_pure<|wpAny_pure<|⟨I5,codeAny_builtin F.entry_list_append<|gz a xs n v w G o A (wants L E) _ ⟨i,H⟩⟩
end
end zu
end
noncomputable section
namespace Vm
inductive V where
 |none|bool (b:Bool)|int (i:Int)|str (s:ba)
 |tup (l:List V)|lst (l:List V)|rt (ks vs:List V)
 |tH (a b c:Int)
 |qr (s:ba)|ref (i:Nat)|con (v:aj)|bm (id:String) (self:V)
 deriving Inhabited
theorem V.str.inj (e:V.str a=V.str b):a=b:=qn (λk:V=>match k with|.str f=>f|_=>a) e
structure wQ where
 params:iC
 body:lD
 scope:eT
 qual:ba
inductive O where
 |gone
 |list (l:List V)
 |dict (ks vs:List V)
 |cell (v:Option V)
 |fn (f:wQ) (cells:List<|ba×Nat) (d:Option Nat)
 |ns (l:List<|ba×V)
noncomputable def tx:V->V->Option Bool
 |.int a,.int b=>Y<|decide<|a=b
 |.str a,.str b=>Y<|decide<|a=b
 |J,W=>N
def rj (a:List V):Prop:=a.Pairwise λk L=>tx k L=Y false
abbrev Tm:=pH->Option ba
def Tm.le (L G:Tm):Prop:=∀x q,L x=Y q->G x=Y q
noncomputable def Tm.put (L:Tm)(x:pH)(q:ba):Tm:=λs=>if s=x then Y q else L s
theorem Tm.rO (L:Tm)(x)(q):L.put x q x=Y q:=ql rfl
theorem Tm.le.refl (L):Tm.le L L:=λJ J e=>e
theorem Tm.le.trans {L f:Tm}(h:Tm.le L sL)(g:Tm.le sL f):Tm.le L f:=λx q e=>g x q<|h x q e
theorem Tm.vL {T:Tm}(e:T x=N):Tm.le T<|T.put x q:=λs j i=>by
 delta Tm.put
 by_cases n:s=x
 .subst n;revert i;refine Q e ?_;intro i;cases i
 .exact Q (qm n) i
abbrev Gm:=bK->Option gw
structure Gh where
 I:Gm
 F:Gm
 T:Tm
def Gm.le (s a:Gm):Prop:=∀v G,s v=Y G->a v=Y G
noncomputable def Gm.put (s:Gm)(v:bK)(o:gw):Gm:=λq=>if q=v then Y o else s q
theorem Gm.le.refl (s):Gm.le s s:=λJ J e=>e
theorem Gm.le.trans {s f:Gm}(h:Gm.le s sL)(e:Gm.le sL f):Gm.le s f:=λv G g=>e v G<|h v G g
theorem Gm.vL {I:Gm}(e:I v=N):Gm.le I<|I.put v o:=λq s i=>by
 delta Gm.put
 by_cases n:q=v
 .subst n;revert i;refine Q e ?_;intro i;cases i
 .exact Q (qm n) i
theorem Gm.rO (s:Gm)(v)(o):s.put v o v=Y o:=ql rfl
theorem Gm.so {s:Gm}(c:b≠a):s.put a o b=s b:=qm c
def acG (U:cD)(g:DictEntry):V->Prop
 |.str q=>(∃x,g.key=.str q x)/\g.hash=fS U q|.int q=>(∃x,g.key=.int q x)/\g.hash=qe q
 |_=>False
abbrev RL:=(List aj->Prop)×(List V->List DictEntry->Prop)
noncomputable abbrev ZU:RL:=⟨λU=>U=[],λf j=>f=[]/\j=[]⟩
noncomputable abbrev ZW (U:cD)(b:aj->Prop)(u:RL):RL:=⟨λL=>∃s f,L=s::f/\b s/\u.1 f,λj v=>∃k G g d,j=k::G/\v=g::d/\acG U g k/\b g.val/\u.2 G d⟩
section
variable (P:cD) (T:Tm) (I:Gm) (p:List bK)
def Rep (k:V):aj->Prop:=V.rec
 (λs=>s=.none) (λU s=>s=.bool U) (λq s=>∃x,s=.int q x) (λt s=>∃x,s=.str t x)
 (λJ u s=>∃v f c,s=.ref v/\I v=Y ⟨.type "tuple",N,.seq (c8 f) c,#[]⟩/\u.1 f)
 (λJ u s=>∃v f c,s=.ref v/\I v=Y ⟨.type "list",N,.seq (c8 f) c,#[]⟩/\u.1 f)
 (λj J J u s=>∃v w c,s=.ref v/\I v=Y ⟨.type "dict",N,.dict (c8 w) c,#[]⟩/\rj j/\u.2 j w)
 (λv U a s=>∃x y z A,s=.ref A/\I A=Y ⟨.type "range",N,.fields #[.int v x,.int U y,.int a z],#[]⟩)
 (λt s=>∃x,s=.str t x/\T x=Y t) (λq s=>∃v,s=.ref v/\p[q]?=Y v) (λk s=>s=k)
 (λg J z s=>∃b v,s=.ref v/\I v=Y ⟨.type "builtin_function_or_method",N,.fields #[.builtin g,b],#[]⟩/\z b)
 ZU (λJ J z u=>ZW P z u) k
def acE (f:List V):RL:=V.rec_1
 (λs=>s=.none) (λU s=>s=.bool U) (λq s=>∃x,s=.int q x) (λt s=>∃x,s=.str t x)
 (λJ u s=>∃v j c,s=.ref v/\I v=Y ⟨.type "tuple",N,.seq (c8 j) c,#[]⟩/\u.1 j)
 (λJ u s=>∃v j c,s=.ref v/\I v=Y ⟨.type "list",N,.seq (c8 j) c,#[]⟩/\u.1 j)
 (λw J J u s=>∃v G c,s=.ref v/\I v=Y ⟨.type "dict",N,.dict (c8 G) c,#[]⟩/\rj w/\u.2 w G)
 (λv U a s=>∃x y z A,s=.ref A/\I A=Y ⟨.type "range",N,.fields #[.int v x,.int U y,.int a z],#[]⟩)
 (λt s=>∃x,s=.str t x/\T x=Y t) (λq s=>∃v,s=.ref v/\p[q]?=Y v) (λb s=>s=b)
 (λg J z s=>∃h v,s=.ref v/\I v=Y ⟨.type "builtin_function_or_method",N,.fields #[.builtin g,h],#[]⟩/\z h)
 ZU (λJ J z u=>ZW P z u) f
def qI (f:List V)(U:List aj):Prop:=(acE P T I p f).1 U
def rI (f j:List V)(u:List DictEntry):Prop:=(acE P T I p j).2 f u
end
theorem Rep.bool (U):Rep P T I p (.bool U)<|.bool U:=rfl
theorem Rep.int (q)(x):Rep P T I p (.int q)<|.int q x:=⟨x,rfl⟩
theorem Rep.str (q)(x):Rep P T I p (.str q)<|.str q x:=⟨x,rfl⟩
theorem Rep.qr (e:T t=Y s):Rep P T I p (.qr s)<|.str s t:=qp t rfl e
theorem Rep.con (s):Rep P T I p (.con s) s:=rfl
theorem Rep.ref (e:p[i]?=Y a):Rep P T I p (.ref i)<|.ref a:=qp a rfl e
theorem Rep.tup {f:List V}{vs:List aj}(e:I a=Y ⟨.type "tuple",N,.seq vs.toArray n,#[]⟩)(b:qI P T I p f vs):Rep P T I p (.tup f)<|.ref a:=Ec a vs n rfl e b
theorem Rep.lst {f:List V}{j:List aj}(e:I a=Y ⟨.type "list",N,.seq j.toArray n,#[]⟩)(b:qI P T I p f j):Rep P T I p (.lst f)<|.ref a:=Ec a j n rfl e b
theorem Rep.rt {u:List DictEntry}(e:I a=Y ⟨.type "dict",N,.dict u.toArray n,#[]⟩)(o:rj ks)(y:rI P T I p ks vs u):Rep P T I p (.rt ks vs)<|.ref a:=AJ a u n rfl e o y
theorem Rep.tH {v:pH}{w:bK}(e:I w=Y ⟨.type "range",N,.fields #[.int a t,.int b u,.int c v],#[]⟩):Rep P T I p (.tH a b c)<|.ref w:=Hx t u v w rfl e
theorem Rep.bm {f:String}(e:I a=Y ⟨.type "builtin_function_or_method",N,.fields #[.builtin f,self],#[]⟩)(G:Rep P T I p v self):Rep P T I p (.bm f v)<|.ref a:=ta self a rfl e G
theorem Rep.none:Rep P T I p .none .none:=rfl
theorem qI.nil:qI P T I p [] []:=rfl
theorem qI.cons {f:List V}{U:List aj}(G:Rep P T I p k c)(a:qI P T I p f U):qI P T I p (k::f)<|c::U:=ta c U rfl G a
theorem rI.nil:rI P T I p [] [] []:=⟨rfl,rfl⟩
theorem rI.str (e:h=fS P x)(G:Rep P T I p k c)(y:rI P T I p ks vs es):rI P T I p (.str x::ks) (k::vs)<|⟨h,.str x t,c⟩::es:=Hw _ _ _ _ rfl rfl (⟨⟨t,rfl⟩,e⟩) G y
theorem rI.int (e:h=qe x)(G:Rep P T I p k c)(y:rI P T I p ks vs es):rI P T I p (.int x::ks) (k::vs)<|⟨h,.int x t,c⟩::es:=Hw _ _ _ _ rfl rfl (⟨⟨t,rfl⟩,e⟩) G y
theorem rI.vr (y:rI P T I p ks [] es):ks=[]/\es=[]:=y
theorem rI.aae (y:rI P T I p [] f j):f=[]/\j=[]:=by
 cases f with
 |nil=>exact ⟨rfl,y.2⟩|cons k f=>exact y.elim λL y=>y.elim λd y=>y.elim λg y=>y.elim λj y=>nomatch y.1
theorem rI.sj (y:rI P T I p (k::ks) (L::vs) es):∃g G,es=g::G/\acG P g k/\Rep P T I p L g.val/\rI P T I p ks vs G:=y.elim λA y=>y.elim λd y=>y.elim λg y=>y.elim λG y=>uu g G y.2.1 (Q ((fE y.1).1) y.2.2.1) y.2.2.2.1<|Q ((fE y.1).2) y.2.2.2.2
def rl (U f:List bK):Prop:=∀(c:Nat)(v:bK),U[c]?=Y v->f[c]?=Y v
theorem rl.refl (U):rl U U:=λJ J e=>e
theorem rl.trans (h:rl a b)(i:rl b c):rl a c:=λd v e=>i d v<|h d v e
theorem rl.push (p)(v):rl p<|p++[v]:=λc q e=>by refine Q (bC<|(aO.mp e).1) ?_;exact e
abbrev CV (U:cD)(L H:Tm)(s a:Gm)(A f:List bK)(j:List V):Prop:=(∀z,qI U L s A j z->qI U H a f j z)/\∀G d,rI U L s A G j d->rI U H a f G j d
theorem qI.up {j:List V}(b:∀s,Rep P T I p v s->Rep P T' I' wa v s)(k:CV P T T' I I' p wa j):CV P T T' I I' p wa<|v::j:=⟨λJ a=>a.imp λJ a=>a.imp λJ a=>⟨a.1,b _ a.2.1,k.1 _ a.2.2⟩,λJ J a=>a.imp λJ a=>a.imp λJ a=>a.imp λJ a=>a.imp λJ a=>Ee a.1 a.2.1 a.2.2.1 (b _ a.2.2.2.1)<|k.2 _ _ a.2.2.2.2⟩
theorem Rep.mono (w:Tm.le T T')(U:Gm.le I I')(d:rl p wa):∀{s:aj},Rep P T I p n s->Rep P T' I' wa n s:=
 V.rec (motive_1:=λn=>∀{s:aj},Rep P T I p n s->Rep P T' I' wa n s)
  id (λJ J=>id) (λJ J=>id) (λJ J=>id)
  (λJ k J G=>G.imp λJ G=>G.imp λJ G=>G.imp λJ G=>⟨G.1,U _ _ G.2.1,k.1 _ G.2.2⟩) (λJ k J G=>G.imp λJ G=>G.imp λJ G=>G.imp λJ G=>⟨G.1,U _ _ G.2.1,k.1 _ G.2.2⟩)
  (λJ J J k J G=>G.imp λJ G=>G.imp λJ G=>G.imp λJ G=>tb G.1 (U _ _ G.2.1) G.2.2.1<|k.2 _ _ G.2.2.2)
  (λJ J J J G=>G.imp λJ G=>G.imp λJ G=>G.imp λJ G=>G.imp λJ G=>⟨G.1,U _ _ G.2⟩)
  (λJ J G=>G.imp λJ G=>⟨G.1,w _ _ G.2⟩) (λJ J G=>G.imp λJ G=>⟨G.1,d _ _ G.2⟩) (λJ J=>id)
  (λJ J k J G=>G.imp λJ G=>G.imp λJ G=>⟨G.1,U _ _ G.2.1,k G.2.2⟩)
  ⟨λJ=>id,λJ J=>id⟩ (λJ J b k=>qI.up (λJ=>b) k) n
theorem CV.all (w:Tm.le T T')(U:Gm.le I I')(d:rl p wa)(j):CV P T T' I I' p wa j:=by
 induction j with
 |nil=>exact ⟨λJ=>id,λJ J=>id⟩|cons k j z=>exact qI.up (λJ=>Rep.mono w U d) z
theorem qI.mono (w:Tm.le T T')(U:Gm.le I I')(d:rl p wa)(a:qI P T I p v c):qI P T' I' wa v c:=(CV.all w U d v).1 _ a
theorem rI.mono (w:Tm.le T T')(U:Gm.le I I')(d:rl p wa)(y:rI P T I p ks vs es):rI P T' I' wa ks vs es:=(CV.all w U d vs).2 _ _ y
def xX (s:Gm)(t:aj)(q:ba):Prop:=∃v G a x,t=.ref v/\s v=Y G/\G.data=.fields a/\a[1]?=Y (.str q x)
theorem xX.mono {s:Gm}(a:Gm.le s I')(U:xX s cv q):xX I' cv q:=U.imp λJ U=>U.imp λJ U=>U.imp λJ U=>U.imp λJ U=>ri U.1 (a _ _ U.2.1) U.2.2
structure Ge (I:Gm) (f:wQ) (fd:FuncData):Prop where
 params:fd.params=f.params
 body:fd.body=f.body
 scope:fd.scope=f.scope
 qual:fd.qualname=f.qual
 globals:fd.globals=c_
 builtins:fd.builtins=eX
 defaults:fd.defaults=.none
 kwdefaults:fd.kwdefaults=.none
 code:xX I fd.code f.qual
theorem Ge.mono {s:Gm}{n:FuncData}(U:Gm.le s I')(o:Ge s f n):Ge I' f n:=⟨o.params,o.body,o.scope,o.qual,o.globals,o.builtins,o.defaults,o.kwdefaults,o.code.mono U⟩
def AE (U:List bK):Option Nat->Option bK->Prop
 |N,N=>True|Y c,Y D=>U[c]?=Y D
 |J,W=>False
theorem AE.mono {U:List bK}(d:rl U wa):∀{y:Option Nat}{h:Option bK},AE U y h->AE wa y h
 |N,N=>@λJ=>trivial
 |Y c,Y D=>@λG=>d _ _ G
 |N,Y J=>@λG=>G
 |Y J,N=>@λG=>G
def Bj (G:gw)(b:ba->Option aj):Prop:=∃a c,G.data=.dict a c/\StrKeys a/\UniqKeys a/\∀q,nsFind a q=b q
def rA (U:cD)(L:Tm)(s:Gm)(A:List bK)(H:gw):O->Prop
 |.gone=>True|.list l=>∃j c,H=⟨.type "list",N,.seq (c8 j) c,#[]⟩/\qI U L s A l j
 |.dict u j=>∃G c,H=⟨.type "dict",N,.dict (c8 G) c,#[]⟩/\rj u/\rI U L s A u j G
 |.cell N=>H=⟨.type "cell",N,.cell N,#[]⟩|.cell<|Y k=>∃w,H=⟨.type "cell",N,.cell<|Y w,#[]⟩/\Rep U L s A k w
 |.fn t d y=>∃n h,H=⟨.type "function",h,.func n,#[]⟩/\Ge s t n/\(∀q i,d.lookup q=Y i->∃v,A[i]?=Y v/\n.closure.lookup q=Y v)/\AE A y h
 |.ns l=>∃b,Bj H b/\(∀q k,l.lookup q=Y k->∃w,b q=Y w/\Rep U L s A k w)/\(∀q,l.lookup q=N->b q=N)
theorem rA.gone (G):rA P T I p G .gone:=trivial
theorem rA.list {f:List V}(a:qI P T I p f vs):rA P T I p ⟨.type "list",N,.seq vs.toArray n,#[]⟩<|.list f:=wy vs n rfl a
theorem rA.dict (o:rj ks)(y:rI P T I p ks vs es):rA P T I p ⟨.type "dict",N,.dict es.toArray n,#[]⟩<|.dict ks vs:=ta es n rfl o y
theorem rA.aeU:rA P T I p ⟨.type "cell",N,.cell N,#[]⟩<|.cell N:=rfl
theorem rA.cell (G:Rep P T I p v c):rA P T I p ⟨.type "cell",N,.cell<|Y c,#[]⟩<|.cell<|Y v:=qp c rfl G
theorem rA.fn {t:wQ}{n:FuncData}{f:List<|ba×Nat}{y:Option Nat}{h:Option bK}(o:Ge I t n) (b:∀q c,f.lookup q=Y c->∃o,p[c]?=Y o/\n.closure.lookup q=Y o) (G:AE p y h):rA P T I p ⟨.type "function",h,.func n,#[]⟩<|.fn t f y:=uu n h rfl o b G
theorem rA.ns {f:List<|ba×V}{b:ba->Option aj}(a:Bj ob b)(d:∀q k,f.lookup q=Y k->∃s,b q=Y s/\Rep P T I p k s)(s:∀q,f.lookup q=N->b q=N):rA P T I p ob<|.ns f:=ru b a d s
theorem rA.Yl {U:cD}{L:Tm}{s:Gm}{H:List bK}(a:rA U L s H ob<|.cell y):∃h,ob=⟨.type "cell",N,.cell h,#[]⟩:=by
 cases y with
 |none=>exact ⟨_,a⟩|some y=>exact Exists.elim a λb a=>⟨_,a.1⟩
theorem rA.mono {U:cD}{L:Tm}{s:Gm}{H:List bK}(w:Tm.le L T')(a:Gm.le s I')(d:rl H wa):rA U L s H ob o->rA U T' I' wa ob o:=
 O.casesOn o id (λJ r=>r.imp λJ r=>r.imp λJ r=>⟨r.1,r.2.mono w a d⟩) (λJ J r=>r.imp λJ r=>r.imp λJ r=>ri r.1 r.2.1<|r.2.2.mono w a d)
  (λy=>Option.casesOn y id λJ r=>r.imp λJ r=>⟨r.1,r.2.mono w a d⟩)
  (λJ J J r=>r.imp λJ r=>r.imp λJ r=>tb r.1 (r.2.1.mono a) (λq h e=>(r.2.2.1 q h e).imp λJ t=>⟨d _ _ t.1,t.2⟩)<|r.2.2.2.mono d)
  λJ r=>r.imp λJ r=>ri r.1 (λq y e=>(r.2.1 q y e).imp λJ t=>⟨t.1,t.2.mono w a d⟩) r.2.2
def aiv (U:cD)(L:Tm)(s:Gm)(H:List bK)(t:aj):V->Prop
 |.none=>t=.none|.bool a=>t=.bool a
 |.int q=>∃x,t=.int q x
 |.str w=>∃x,t=.str w x
 |.qr w=>∃x,t=.str w x/\L x=Y w
 |.con b=>t=b|.ref q=>∃v,t=.ref v/\H[q]?=Y v
 |.tup l=>∃v u c,t=.ref v/\s v=Y ⟨.type "tuple",N,.seq (c8 u) c,#[]⟩/\qI U L s H l u
 |.lst l=>∃v u c,t=.ref v/\s v=Y ⟨.type "list",N,.seq (c8 u) c,#[]⟩/\qI U L s H l u
 |.rt G u=>∃v d c,t=.ref v/\s v=Y ⟨.type "dict",N,.dict (c8 d) c,#[]⟩/\rj G/\rI U L s H G u d
 |.tH v a e=>∃x y z A,t=.ref A/\s A=Y ⟨.type "range",N,.fields #[.int v x,.int a y,.int e z],#[]⟩
 |.bm id b=>∃h v,t=.ref v/\s v=Y ⟨.type "builtin_function_or_method",N,.fields #[.builtin id,h],#[]⟩/\Rep U L s H b h
def afc (U:cD)(L:Tm)(s:Gm)(H:List bK)(G:List aj):List V->Prop
 |[]=>G=[]|v::l=>∃t u,G=t::u/\Rep U L s H v t/\qI U L s H l u
theorem Rep.inv (G:Rep P T I p v c):aiv P T I p c v:=by cases v<;>exact G
theorem qI.inv (a:qI P T I p v c):afc P T I p c v:=by cases v<;>exact a
theorem rA.inv (L:rA P T I p c v):rA P T I p c v:=L
@[elab_as_elim] theorem Rep.ahQ {b:aj->Prop}(G:Rep P T I p (.int q) s)(k:∀x,b<|.int q x):b s:=G.inv.elim λx e=>J e.symm<|k x
@[elab_as_elim] theorem Rep.ahg {b:aj->Prop}(G:Rep P T I p (.str q) s)(k:∀x,b<|.str q x):b s:=G.inv.elim λx e=>J e.symm<|k x
@[elab_as_elim] theorem qI.vr {b:List aj->Prop}(a:qI P T I p [] c)(G:b []):b c:=J a.inv.symm G
@[elab_as_elim] theorem qI.sj {f:List V}{b:List aj->Prop}(a:qI P T I p (n::f) j)(k:∀j U,Rep P T I p n j->qI P T I p f U->b (j::U)):b j:=a.inv.elim λj a=>a.elim λU a=>J a.1.symm<|k j U a.2.1 a.2.2
structure Ctx where
 prog:iE
 w:d7
 tD:Gm
 tabs:List bK
 sys:fQ∈tabs
 nb:∀h:fM,(∀a o,tD a=some o->h.get? a=some o)->NoneBooked h
 qual:bK->Nat->Nat->Option ba
 Sy:gw
 os:OsState
 mg:ba->Option aj
 mb:ba->Option aj
 gl:∀h:fM,(∀a o,tD a=some o->h.get? a=some o)->h.Ns c_ mg/\h.Ns eX mb
end Vm
end
noncomputable section
namespace L1
open uJ
open Vm
noncomputable def sO:List bK:=[1,30,37,185]
def I0 (i:fM):Gm:=λv=>if v∈sO then N else i.get? v
noncomputable def VB (c h t:Nat):Option ba:=
 if c=30/\h=32/\t=4 then Y "_int2digits.<locals>.inner" else if c=37/\h=47/\t=4 then Y "_digits2int.<locals>.inner"
 else if c=185/\h=185/\t=10 then Y "_law_element.<locals>.<lambda>" else if c=185/\h=192/\t=19 then Y "_law_element.<locals>.<lambda>" else N
theorem HQ {k:fM}(b:∀v o,I0 h v=Y o->k.get? v=Y o){v:bK}(e:h.get? v=Y o)(G:v∉sO):k.get? v=Y o:=b v o (by unfold I0;rw[qm G];exact e)
theorem ns0 {k:fM}(b:∀v o,I0 h v=Y o->k.get? v=Y o){v:bK}{d:ba->Option aj}(n:h.Ns v d)(G:v∉sO):k.Ns v d:=let ⟨o,a,c,e,t⟩:=n;⟨o,a,c,HQ b e G,t⟩
structure Bw (w:d7) (s:ay) (mg mb:ba->Option aj):Prop where
 K:∀(i a:Nat)(o:gw),(KF w.params)[i]?=some (a,o)->s.heap.get? a=some o
 g:s.heap.Ns c_ mg
 b:s.heap.Ns eX mb
 lim:s.heap.NoLimit
 bt:∀x:ba,x≠"__name__"->mb x=bootBuiltins x
 bm:∃bm ob,mg "__builtins__"=some (.ref bm)/\bm≠eX/\s.heap.get? bm=some ob/\ob.cls=.type "module"/\ob.dict=some eX/\ob.data=.plain
theorem ac8 (T):∃a c,(boot_o_2 T).data=.dict a c/\StrKeys a/\nsFind a sharingNotToldKey=N:=by
 refine ⟨_,_,rfl,?_,by kernel_rfl⟩;intro g b;simp at b
 try (rcases b with rfl|rfl|rfl|rfl|rfl|rfl|rfl|rfl<;>exact ⟨_,_,rfl⟩)
def vN (w:d7)(s:ay)(mg mb:ba->Option aj)(H:Bw w s mg mb):Vm.Ctx where
 prog:=pw
 w:=w
 tD:=I0 s.heap
 tabs:=sO
 sys:=by decide
 nb:=λh k=>by obtain ⟨es,ep,e1,e2,e3⟩:=ac8 w.params;exact ⟨_,⟨_,es,ep,HQ k (H.K 1 2 _ rfl) (by decide),e1,e2,λJ=>rfl⟩,e3⟩
 qual:=VB
 Sy:=boot_o_1 w.params
 os:=s.os
 mg:=mg
 mb:=mb
 gl:=λh k=>⟨ns0 k H.g (by decide),ns0 k H.b (by decide)⟩
def Fin (n:d7)(U:ay):Prop:=∀(a:List Int)(c:Nat)(f:List aj),a.length<=63->lC f a->U.heap.get? c=Y ⟨.type "list",N,.seq f.toArray 0,#[]⟩->c∉sO->U.gens=#[]->0<U.toks->
 ∀(T:aj->ay->Prop)(E:aj->ay->Prop),(∀s t,t=.bool true->OldK U.heap s.heap->s.os=U.os->s.gens=#[]->T t s)->wpAny (model pw n) callerA (call (.ref 238) [.ref c]) T E U
def Bad (T:Vm.Ctx):Prop:=∃(n:d7)(U:ay)(b d:ba->Option aj)(y:Bw n U b d),T=vN n U b d y/\¬Fin n U
theorem LO (i:fM)(b:∀(v:bK)(o:gw),Y (default:gw)=Y o->i.get? v=Y o):False:=absurd (bP (b i.objs.size default rfl)) (b8 _)
theorem abJ:Nonempty Vm.Ctx:=⟨{ prog:=pw,w:=⟨λJ J=>0,{ strHash:=λJ=>0,shareClass:=λJ=>0,mergeTok:=id,idOf:=λJ=>0,idOfShared:=λJ J=>0,followText:=λJ=>false,idOfImm:=λJ=>0 }⟩,tD:=λJ=>Y default,tabs:=sO,sys:=by decide,nb:=λi b=>(LO i b).elim,qual:=VB,Sy:=default,os:=default,mg:=λJ=>N,mb:=λJ=>N,gl:=λi b=>(LO i b).elim }⟩
end L1
namespace Vm
noncomputable def C:Ctx:=@Classical.epsilon Ctx L1.abJ L1.Bad
end Vm
namespace L1
theorem X8 (b:∀(n:d7)(U:ay)(d g:ba->Option aj)(y:Bw n U d g),Vm.C=vN n U d g y->Fin n U)(n)(U)(d g:ba->Option aj)(y:Bw n U d g):Fin n U:=
 Classical.byContradiction λG=>by obtain ⟨n,U,d,g,y,e,a⟩:Bad Vm.C:=@Classical.epsilon_spec Vm.Ctx Bad ⟨_,n,U,d,g,y,rfl,G⟩;exact a (b n U d g y e)
end L1
end
noncomputable section
namespace Vm
def xV (T:Ctx)(s:Gm)(v:bK)(o:gw):Prop:=(v=fQ/\o=T.Sy)\/v≠fQ/\∃a,o=tabObj a/\jc a.toList/\∀e t p,codeAmong e a.toList=Y t->T.qual v e.line e.col=Y p->xX s t p
theorem xV.mono {v:bK}(T:Gm.le I I')(s:xV C I v o):xV C I' v o:=s.imp_right λs=>⟨s.1,s.2.imp λJ s=>⟨s.1,s.2.1,λe t p f i=>(s.2.2 e t p f i).mono T⟩⟩
structure q7 (C:Ctx) (G:Gh) (σ:List bK) (hp:List O) (s:ay):Prop where
 I:∀a o,G.I a=some o->s.heap.get? a=some o
 F:∀a o,G.F a=some o->s.heap.get? a=some o
 IF:∀a,G.I a≠none->G.F a=none
 top:Gm.le C.tD G.I
 tab:∀P∈C.tabs,G.I P=none/\G.F P=none/\P∉σ/\∃o,s.heap.get? P=some o/\xV C G.I P o
 len:σ.length=hp.length
 nd:σ.Nodup
 rX:∀(i:Nat)(a:bK),σ[i]?=some a->G.I a=none/\G.F a=none/\∃o ob,hp[i]?=some o/\s.heap.get? a=some ob/\rA C.w.params G.T G.I σ ob o
 gens:s.gens=#[]
 os:s.os=C.os
 pos:0<s.toks
 T:∀t x,G.T t=some x->0<t/\t<s.toks
theorem q7.sD (H:q7 C G σ hp s):G.I s.heap.objs.size=N:=by
 cases i:G.I s.heap.objs.size with
 |none=>rfl|some I=>exact absurd (bP<|H.I _ _ i)<|b8 _
theorem q7.wo (H:q7 C G σ hp s):G.F s.heap.objs.size=N:=by
 cases i:G.F s.heap.objs.size with
 |none=>rfl|some I=>exact absurd (bP<|H.F _ _ i)<|b8 _
theorem q7.freshT (c:q7 C G σ hp s):s.heap.objs.size∉C.tabs:=λa=>uP (c.tab _ a) λJ J J U=>qt U λH e J=>absurd (bP e)<|b8 _
theorem q7.vn (c:q7 C G σ hp s):s.heap.objs.size∉σ:=λa=>by obtain ⟨d,H,e⟩:=cH a;refine qJ (c.rX d _<|by refine ax (aD H)<|Q e rfl) λJ J T=>?_;exact qY T λI L J i J=>absurd (bP i)<|b8 _
theorem q7.keep (H:q7 C G σ hp s)(x)(k:∀b o,b≠x->s.heap.get? b=Y o->s'.heap.get? b=Y o)(xI:G.I x=N)(xF:G.F x=N)(xσ:x∉σ)(xT:x∉C.tabs)(hg:s'.gens=s.gens)(ho:s'.os=s.os)(ht:s.toks<=s'.toks):q7 C G σ hp s' where
 I a o e:=k a o (λq=>by subst q;rw[xI] at e;cases e)<|H.I a o e
 F a o e:=k a o (λq=>by subst q;rw[xF] at e;cases e)<|H.F a o e
 IF:=H.IF
 top:=H.top
 tab P hP:=uP (H.tab P hP) λa b c yq=>qt yq λo e t=>⟨a,b,c,o,k P o (λq=>xT<|J q hP) e,t⟩
 len:=H.len
 nd:=H.nd
 rX i a e:=qJ (H.rX i a e) λp q yr=>qY yr λo ob h1 h2 h3=>⟨p,q,o,ob,h1,k a ob (λz=>xσ<|J z<|bG e) h2,h3⟩
 gens:=hg.trans H.gens
 os:=ho.trans H.os
 pos:=ai H.pos ht
 T t x e:=⟨(H.T t x e).1,ai (H.T t x e).2 ht⟩
theorem q7.ext (c:q7 C G σ hp s)(b:∀v o,s.heap.get? v=Y o->s'.heap.get? v=Y o)(w:s.toks<=s'.toks)(e:s'.gens=s.gens)(i:s'.os=s.os):q7 C G σ hp s':=c.keep s.heap.objs.size (λv o J n=>b v o n) c.sD c.wo c.vn c.freshT e i w
theorem q7.push (c:q7 C G σ hp s)(o)(w:s.toks<=t):q7 C G σ hp { s with heap:=s.heap.push o,toks:=t }:=c.ext (λv p e=>aY _ e) w rfl rfl
theorem q7.toks (c:q7 C G σ hp s)(x)(w:s.toks<=x):q7 C G σ hp { s with toks:=x }:=c.ext (λJ J e=>e) w rfl rfl
def Gh.vq (L:Gh)(v:bK)(o:gw):Gh:=⟨L.I.put v o,L.F,L.T⟩
def Gh.FJ (L:Gh)(v:bK)(o:gw):Gh:=⟨L.I,L.F.put v o,L.T⟩
structure Gh.le (G G':Gh):Prop where
 I:Gm.le G.I G'.I
 F:G'.F=G.F
 T:Tm.le G.T G'.T
theorem Gh.le.refl (L):Gh.le L L:=⟨λJ J e=>e,rfl,λJ J e=>e⟩
theorem Gh.le.trans (T:Gh.le G G')(n:Gh.le G' G''):Gh.le G G'':=⟨T.I.trans n.I,n.F.trans T.F,T.T.trans n.T⟩
theorem q7.freeze (H:q7 C G σ hp s)(e:s.heap.get? a=Y o)(aI:G.I a=N)(aF:G.F a=N)(aσ:a∉σ)(aT:a∉C.tabs):q7 C (G.vq a o) σ hp s where
 I b x h:=by
  replace h:(G.I.put a o) b=Y x:=h
  by_cases q:b=a
  .subst q;revert h;refine Q (Gm.rO ..) ?_;intro h;cases h;exact e
  .rw[Gm.so q] at h;exact H.I b x h
 F:=H.F
 IF b h:=by
  by_cases q:b=a
  .refine Q q ?_;clear q;exact aF
  .replace h:(G.I.put a o) b≠N:=h;rw[Gm.so q] at h
   exact H.IF b h
 top:=H.top.trans<|Gm.vL aI
 tab P hP:=by
  refine uP (H.tab P hP) λx y z Ib=>qt Ib λw w1 w2=>⟨?_,y,z,w,w1,w2.mono<|Gm.vL aI⟩
  show (G.I.put a o) P=N;exact Q (Gm.so λq=>aT<|by exact J q hP) x
 len:=H.len
 nd:=H.nd
 rX i b h:=by
  refine qJ (H.rX i b h) λp q xY=>qY xY λx ob h1 h2 h3=>⟨?_,q,x,ob,h1,h2,h3.mono (Tm.le.refl _) (Gm.vL aI)<|rl.refl _⟩
  show (G.I.put a o) b=N;exact Q (Gm.so λz=>aσ<|by exact J z<|bG h) p
 gens:=H.gens
 os:=H.os
 pos:=H.pos
 T:=H.T
theorem Gh.wK (e:G.I a=N):Gh.le G<|G.vq a o:=⟨Gm.vL e,rfl,Tm.le.refl _⟩
theorem q7.DG (c:q7 C G σ hp s)(o:gw)(e:o.isFreed=false)(w:s.toks<=t):q7 C (G.vq s.heap.objs.size o) σ hp { s with heap:=s.heap.push o,toks:=t }:=(c.push o w).freeze (bb _ e) c.sD c.wo c.vn c.freshT
theorem q7.AN (H:q7 C G σ hp s)(e:s.heap.get? a=Y ob)(aI:G.I a=N)(aF:G.F a=N)(aσ:a∉σ)(aT:a∉C.tabs)(r:rA C.w.params G.T G.I (σ++[a]) ob o) :
  q7 C G (σ++[a]) (hp++[o]) s where
 I:=H.I
 F:=H.F
 IF:=H.IF
 top:=H.top
 tab P hP:=by
  refine uP (H.tab P hP) λx y z w=>tb x y (λq=>?_) w
  rcases bO.mp q with q|q
  .exact z q
  .exact aT (by rw[aM] at q;exact J q hP)
 len:=ax aG<|Q (aG ..)<|Q (H.len ..) rfl
 nd:=i9.mpr ⟨H.nd,by simp,λx hx y hy=>by rw[aM] at hy;refine Q hy ?_;clear hy;exact λq=>aσ<|J q hx⟩
 rX i b h:=by
  by_cases q:i<σ.length
  .rw[bC q] at h
   exact qJ (H.rX i b h) λp q' Bx=>qY Bx λx An h1 h2 h3=>⟨p,q',x,An,by refine Q (bC<|J H.len q) ?_;exact h1,h2,h3.mono (Tm.le.refl _) (Gm.le.refl _)<|rl.push _ _⟩
  .skip
   have hi:i=σ.length:=by
    have:=(aO.mp h).1;rw[aG,List.length_singleton] at this
    lia
   subst hi;revert h;refine Q dN ?_;intro h
   cases h
   exact ⟨aI,aF,o,ob,by refine Q H.len<|Q dN rfl,e,r⟩
 gens:=H.gens
 os:=H.os
 pos:=H.pos
 T:=H.T
theorem q7.ahK (c:q7 C G σ hp s)(H:gw)(o)(e:H.isFreed=false)(I:rA C.w.params G.T G.I (σ++[s.heap.objs.size]) H o)(w:s.toks<=t) :
  q7 C G (σ++[s.heap.objs.size]) (hp++[o]) { s with heap:=s.heap.push H,toks:=t }:=
 (c.push H w).AN (bb _ e) c.sD c.wo c.vn c.freshT I
theorem q7.upd (H:q7 C G σ hp s)(ha:σ[i]?=Y a)(b:∀q o,q≠a->s.heap.get? q=Y o->s'.heap.get? q=Y o)(j:s'.heap.get? a=Y ob)(L:rA C.w.params G.T G.I σ ob o)(n:s'.gens=s.gens)(z:s'.os=s.os)(w:s.toks<=s'.toks):q7 C G σ (hp.set i o) s':=by
 have d:=(H.rX i a ha).1;have c:=(H.rX i a ha).2.1;exact {
  I:=λq p h=>b q p (λe=>by subst e;rw[d] at h;cases h)<|H.I q p h
  F:=λq p h=>b q p (λe=>by subst e;rw[c] at h;cases h)<|H.F q p h
  IF:=H.IF
  top:=H.top
  tab:=λy f=>uP (H.tab y f) λp g k U=>qt U λv t u=>⟨p,g,k,v,b y v (λe=>k<|Q e<|bG ha) t,u⟩
  len:=Q (cN ..) H.len
  nd:=H.nd
  rX:=λA q h=>by
   refine qJ (H.rX A q h) λv e YJ=>qY YJ λp An t u h3=>?_
   by_cases k:A=i
   .subst k;replace h:=ha▸h;cases h;exact ⟨v,e,o,ob,by refine Q (bu<|J H.len<|(aO.mp ha).1) rfl,j,L⟩
   .refine ⟨v,e,p,An,by refine Q (aV<|fJ k) ?_;exact t,b q An (λg=>k ?_) u,h3⟩;subst g;exact ((oK ((aO.mp ha).1) H.nd).mp<|ha.trans h.symm).symm
  gens:=n.trans H.gens
  os:=z.trans H.os
  pos:=ai H.pos w
  T:=λx p j=>⟨(H.T x p j).1,ai (H.T x p j).2 w⟩ }
def Gh.S' (L:Gh)(x:pH)(p:ba):Gh:=⟨L.I,L.F,L.T.put x p⟩
theorem q7.DQ (c:q7 C G σ hp s):G.T s.toks=N:=by
 cases i:G.T s.toks with
 |none=>rfl|some p=>exact absurd (c.T _ _ i).2<|b8 _
theorem q7.aaf (H:q7 C G σ hp s)(x):q7 C (G.S' s.toks x) σ hp { s with toks:=s.toks+1 } where
 I:=H.I
 F:=H.F
 IF:=H.IF
 top:=H.top
 tab:=H.tab
 len:=H.len
 nd:=H.nd
 rX i b h:=qJ (H.rX i b h) λp q ag6=>qY ag6 λy ob h1 h2 h3=>⟨p,q,y,ob,h1,h2,h3.mono (Tm.vL H.DQ) (Gm.le.refl _)<|rl.refl _⟩
 gens:=H.gens
 os:=H.os
 pos:=fI _
 T t y e:=by
  replace e:(if t=s.toks then Y x else G.T t)=Y y:=e
  by_cases q:t=s.toks
  .refine Q q ?_;clear q;exact ⟨H.pos,bW _⟩
  .rw[qm q] at e
   exact ⟨(H.T t y e).1,dT (H.T t y e).2⟩
structure K where
 scope:eT
 slots:List ba
 cells:List ba
 qual:ba
 code:Option aj:=none
structure St where
 loc:List<|Option V
 hp:List O
structure Wd where
 G:Gh
 σ:List bK
 s:ay
structure Wd.le (W W':Wd):Prop where
 G:Gh.le W.G W'.G
 σ:rl W.σ W'.σ
theorem Wd.le.refl (s:Wd):s.le s:=⟨Gh.le.refl _,rl.refl _⟩
theorem Wd.le.trans {s:Wd}(T:s.le W')(f:W'.le W''):s.le W'':=⟨T.G.trans f.G,T.σ.trans f.σ⟩
abbrev qP (T:Ctx)(a:List O)(s:Wd):Prop:=q7 T s.G s.σ a s.s
abbrev qu (T:Ctx)(t:Wd)(k:V)(s:aj):Prop:=Rep T.w.params t.G.T t.G.I t.σ k s
abbrev qD (T:Ctx)(s:Wd)(a:List V)(f:List aj):Prop:=qI T.w.params s.G.T s.G.I s.σ a f
theorem qu.mono {s:Wd}(k:qu C s v c)(T:s.le W'):qu C W' v c:=Rep.mono T.G.T T.G.I T.σ k
theorem qD.mono {s:Wd}(U:qD C s v c)(T:s.le W'):qD C W' v c:=qI.mono T.G.T T.G.I T.σ U
structure vg (B:K) (M:List Nat) (σ:List bK) (env:kK):Prop where
 scope:env.scope=B.scope
 fn:B.scope.kind=.function
 nd:B.slots.Nodup
 globals:env.globals=c_
 builtins:env.builtins=eX
 qual:env.qual=B.qual
 code:∀c,B.code=some c->env.code=c
 cell:∀(k:Nat)(x:ba),B.cells[k]?=some x->(B.scope.names.lookup x=some .cell\/B.scope.names.lookup x=some .free)->∃i a,M[k]?=some i/\σ[i]?=some a/\env.cells.lookup x=some a
theorem vg.mono {U:List Nat}(a:vg B U σ env)(d:rl σ wa):vg B U wa env:=⟨a.scope,a.fn,a.nd,a.globals,a.builtins,a.qual,a.code,λc p e o=>let ⟨h,v,i,n,z⟩:=a.cell c p e o;(ta h v i (d _ _ n) z)⟩
structure Loc (C:Ctx) (B:K) (L:bK) (loc:List<|Option V) (W:Wd):Prop where
 ns:∃m,W.s.heap.Ns L m/\∀(i:Nat)(x:ba)(v:V),B.slots[i]?=some x->loc[i]?=some (some v)->∃c,m x=some c/\qu C W v c
 I:W.G.I L=none
 F:W.G.F L=none
 σ:L∉W.σ
 T:L∉C.tabs
structure At (C:Ctx) (B:K) (M:List Nat) (env:kK) (st:St) (W:Wd):Prop where
 ok:vg B M W.σ env
 H:qP C st.hp W
 L:Loc C B env.locals st.loc W
def rk (c:Nat)(T:Around):Prop:=T.handled=N/\T.depth+c<900/\T.units+10*c+50<9000
def Tr {o:Type}(T:Ctx)(I:K)(H:List Nat)(f:kK)(U:Around)(v:gE o)(x:St)(b:Wd->o->Prop)(s:Wd):Prop:=∀(L:o->ay->Prop)(E:aj->ay->Prop),(∀a G,s.le a->At T I H f x a->b a G->L G a.s)->wpAny (model T.prog T.w) U v L E s.s
def TE (T:Ctx)(c:Nat)(G:K)(H:List Nat)(L:a7)(x:St)(k:V)(I:St):Prop:=∀(U:Around)(f:kK)(W:Wd),rk c U->At T G H f x W->Tr T G H f U (eval L f) I (λa s=>qu T a k s) W
structure Pext0 (C:Ctx) (W W':Wd):Prop where
 σ:W'.σ=W.σ
 G:Gh.le W.G W'.G
 hk:∀b o,W.s.heap.get? b=some o->W'.s.heap.get? b=some o
 new:∀a,W.G.I a=none->(W.s.heap.get? a).isSome=true->W'.G.I a=none
 hp:W.s.toks<=W'.s.toks->∀hp,qP C hp W->qP C hp W'
structure xm (C:Ctx) (W W':Wd):Prop extends Pext0 C W W' where
 tk:W.s.toks<=W'.s.toks
theorem Pext0.le {s:Wd}(G:Pext0 C s W'):s.le W':=⟨G.G,Q G.σ<|rl.refl _⟩
theorem xm.le {s:Wd}(L:xm C s W'):s.le W':=L.toPext0.le
theorem Pext0.strict {s:Wd}(G:Pext0 C s W')(w:s.s.toks<=W'.s.toks):xm C s W':=⟨G,w⟩
theorem Pext0.refl (s):Pext0 C s s:=⟨rfl,Gh.le.refl _,λJ J e=>e,λJ e J=>e,λJ J e=>e⟩
theorem xm.refl (s):xm C s s:=⟨.refl s,ag _⟩
theorem Loc.ry {W:Wd}(h:Loc C B L loc W)(p:Pext0 C W W'):Loc C B L loc W' where
 ns:=qt h.ns λm a b=>qp m (a.keeps p.hk) λi x v e f=>qt (b i x v e f) λc q r=>qp c q<|r.mono p.le
 I:=by
  refine qt h.ns λm rR b=>?_;obtain ⟨o,es,ep,ho,_⟩:=rR
  exact p.new _ h.I<|Q ho rfl
 F:=Q p.G.F h.F
 σ:=Q p.σ h.σ
 T:=h.T
theorem At.ry {U:List Nat}{x:St}{s:Wd}(G:At C B U env x s)(L:xm C s W'):At C B U env x W':=⟨G.ok.mono L.le.σ,L.hp L.tk _ G.H,G.L.ry L.toPext0⟩
theorem Pext0.toks {s:Wd}(x):Pext0 C s ⟨s.G,s.σ,{ s.s with toks:=x }⟩:=⟨rfl,Gh.le.refl _,λJ J e=>e,λJ e J=>e,λw a e=>e.toks x w⟩
theorem Pext0.push {s:Wd}(o)(x):Pext0 C s ⟨s.G,s.σ,{ s.s with heap:=s.s.heap.push o,toks:=x }⟩:=⟨rfl,Gh.le.refl _,λJ J e=>aY _ e,λJ e J=>e,λw a e=>e.push o w⟩
theorem Pext0.DG {s:Wd}(o:gw)(e:o.isFreed=false)(x)(i:s.G.I s.s.heap.objs.size=N):Pext0 C s ⟨s.G.vq s.s.heap.objs.size o,s.σ,{ s.s with heap:=s.s.heap.push o,toks:=x }⟩:=
 ⟨rfl,Gh.wK i,λJ J n=>aY _ n,λv n z=>by obtain ⟨U,H⟩:=gj.mp z;exact (Q (Gm.so<|cJ<|bP H) n:(s.G.I.put s.s.heap.objs.size o) v=N),λw a n=>n.DG o e w⟩
theorem Pext0.ext {s:Wd}{s':ay}(b:∀v o,s.s.heap.get? v=Y o->s'.heap.get? v=Y o)(e:s'.gens=s.s.gens)(i:s'.os=s.s.os):Pext0 C s ⟨s.G,s.σ,s'⟩:=⟨rfl,Gh.le.refl _,b,λJ n J=>n,λw a n=>n.ext b w e i⟩
theorem abm {s:Wd}(b:qP C hp s)(c:q7 C s.G s.σ hp s')(e:s'.heap.get? a=Y o)(i:s.s.heap.get? a=N)(n:s.G.I a=N):q7 C (s.G.vq a o) s.σ hp s':=by
 refine c.freeze e n ?_ ?_ ?_
 .cases H:s.G.F a with
  |none=>rfl|some p=>rw[b.F a p H] at i;exact Vm.sN i
 .intro H;obtain ⟨d,G,f⟩:=cH H;refine qJ (b.rX d _<|by refine Q (aD G)<|Q f rfl) λJ J T=>?_;refine qY T λU v J k J=>?_
  rw[i] at k;exact Vm.nS k
 .intro H;refine uP (b.tab _ H) λJ J J I=>qt I λU f J=>?_
  rw[i] at f;exact Vm.nS f
theorem Pext0.frz {s:Wd}{s':ay}(b:∀q o,s.s.heap.get? q=Y o->s'.heap.get? q=Y o)(e:s'.heap.get? a=Y o)(i:s.s.heap.get? a=N)(n:s.G.I a=N)(z:s'.gens=s.s.gens)(H:s'.os=s.s.os) :
  Pext0 C s ⟨s.G.vq a o,s.σ,s'⟩:=
 ⟨rfl,Gh.wK n,b,λq c k=>(Q (Gm.so λG=>by rw[G,i] at k;exact Vm.fT k) c:(s.G.I.put a o) q=N),λw d c=>abm c (c.ext b w z H) e i n⟩
theorem Pext0.tok {s:Wd}(p)(e:s.G.T s.s.toks=N):Pext0 C s ⟨s.G.S' s.s.toks p,s.σ,{ s.s with toks:=s.s.toks+1 }⟩:=⟨rfl,⟨Gm.le.refl _,rfl,Tm.vL e⟩,λJ J i=>i,λJ i J=>i,λJ a i=>i.aaf p⟩
def q6 {o:Type}(T:Ctx)(U:Around)(v:gE o)(b:Wd->o->Prop)(s:Wd):Prop:=∀(L:o->ay->Prop)(E:aj->ay->Prop),(∀a G,xm T s a->b a G->L G a.s)->wpAny (model T.prog T.w) U v L E s.s
theorem q6.mk {o:Type}{T:Around}{v:gE o}{b:Wd->o->Prop}{s:Wd}
  (h:∀(L:o->ay->Prop)(n:aj->ay->Prop),(∀U G,Pext0 C s U->b U G->L G U.s)->wpAny (model C.prog C.w) T v L n s.s):q6 C T v b s:=
 λL n H=>wpAny_toks<|h _ _ λU G I a w=>H U G (I.strict w) a
theorem q6.tr {o:Type}{z:List Nat}{x:St}{v:gE o}{b:Wd->o->Prop}{s:Wd}(G:q6 C A v b s)(H:At C B z env x s):Tr C B z env A v x b s:=λU g n=>G U g λT I L p=>n T I L.le (H.ry L) p
theorem TE.const_int {I:List Nat}{e:dA}{x:St}:TE C d B I (.Constant (.int i) k e) x (.int i) x:=λT f s L G U g h=>wpAny_Constant_int<|h ⟨s.G,s.σ,_⟩ _ (Pext0.toks _).le (G.ry<|(Pext0.toks _).strict<|cY _)<|.int i _
theorem TE.binop {M:List Nat}{L c:a7}{e:dA}{x:St}(h1:TE C d B M L x a ac5)(z:TE C d B M c ac5 b Vy)(i:∀j t s k,rk d j->qP C Vy.hp t->qu C t a s->qu C t b k->q6 C j (binaryOp U s k) (λo h=>qu C o v h) t):TE C d B M (.BinOp L U c e) x v Vy:=
 λj f t hr H QQq g q=>wpAny_BinOp<|h1 j f t hr H _ _ λn s T y G=>z j f n hr y _ _ λu k w A I=>i j u s k hr A.H (G.mono w) I _ _ λuq h p uF=>q uq h ((T.trans w).trans p.le) (A.ry p) uF
theorem TE.l {c:Nat}{y:K}{A:List Nat}{p:ba}{e:dA}{x:St}{i:Nat}{k:V}(g:y.slots[i]?=Y p) (j:y.scope.names.lookup p=Y .local) (n:x.loc[i]?=Y (Y k)) (z:(p==("__debug__":ba))=false) :
  TE C c y A (.Name p e) x k x:=λT f s L G U d h=>qt G.L.ns λo q I=>qt (I i p k g n) λa H t=>wpAny_Name (o9 (Q G.ok.scope G.ok.fn) (by delta ft;exact Q G.ok.scope j) q H<|h s a (Wd.le.refl _) G t) z
end Vm
end
noncomputable section
namespace Vm
set_option genCtorIdx true in
inductive Bf where
 |len|range|sum|list|chr|ord|max|abs|set|divmod
set_option genCtorIdx true in
inductive Mt where
 |append|reverse|index|pop|join|replace|lower|get|yf
inductive Tg where
 |l (i:Nat)|cell (i:Nat)|tup (l:List Tg)
inductive X where
 |k (v:V)|l (i:Nat)|cell (i:Nat)
 |bin (op:ew) (a b:X)|un (op:UnaryOp) (a:X)
 |and (l:List X)|or (l:List X)
 |cmp (a:X) (ops:List CmpOp) (l:List X)
 |rb (c a b:X)
 |call (f:X) (as:List X) (kn:List ba) (kv:List X)
 |bf (b:Bf) (as:List X)
 |mt (m:Mt) (o:X) (as:List X)
 |attr (o:X) (n:ba)
 |mc (o:X) (n:ba) (as:List X)
 |sub (o i:X)|C3 (o lo hi:X)
 |list (l:List X)|tup (l:List X)|dict (ks vs:List X)|star (l:List X)
 |enum (a:X)|rev (a:X)
 |new (a:X)
 |comp (elt:X) (ts:List Tg) (is:List X) (fs:List<|List X) (n:Nat) (m:Nat)
 |lam (f:wQ) (cl:List<|ba×Nat)
inductive XS where
 |expr (e:X)|asg (t:Tg) (e:X)
 |wj (o i e:X)|setAttr (o:X) (n:ba) (e:X)
 |aug (t:Tg) (op:ew) (e:X)|uC (o i:X) (op:ew) (e:X)
 |ret (e:X)|rb (c:X) (a b:List XS)|uY (t:Tg) (e:X) (body:List XS)
 |Ls (c:X) (body:List XS)
 |DX (t:Tg) (f:wQ) (cl:List<|ba×Nat)|yO (body:List XS)|stop
structure Glob where
 top:List<|ba×aj
 blt:List<|ba×aj
 Cz:List<|aj×Nat×Nat×ba:=[]
 vals:List<|ba×V:=[]
noncomputable def Glob.yW (a:Glob)(y:Option aj)(c h:Nat):Option ba:=match y with
 |Y<|.ref v=>(a.Cz.find? λb=>(match b.1 with|.ref q=>q==v|_=>false)&&b.2.1==c&&b.2.2.1==h).map (·.2.2.2)|_=>N
noncomputable def bfB (f:String):Option Bf:=
 if f="len" then Y .len else if f="sum" then Y .sum else if f="chr" then Y .chr else if f="ord" then Y .ord
 else if f="max" then Y .max else if f="abs" then Y .abs else if f="divmod" then Y .divmod else N
noncomputable def bfT (f:String):Option Bf:=if f="range" then Y .range else if f="list" then Y .list else N
def aci:aj->Option Bf
 |.builtin f=>bfB f|.type f=>bfT f
 |_=>N
noncomputable def w3:Mt->ba
 |.append=>"append"|.reverse=>"reverse"|.index=>"index"|.pop=>"pop"|.join=>"join"|.replace=>"replace"|.lower=>"lower"|.get=>"get"|.yf=>"bit_length"
noncomputable def Ov (p:ba):Option Mt:=
 if p="append" then Y .append else if p="reverse" then Y .reverse else if p="index" then Y .index else if p="pop" then Y .pop
 else if p="join" then Y .join else if p="replace" then Y .replace else if p="lower" then Y .lower else if p="get" then Y .get
 else if p="bit_length" then Y .yf else N
noncomputable def idx (a:List ba)(p:ba):Option Nat:=a.findIdx? (·==p)
noncomputable def H5 (b:a7):Option<|a7×List a7×List Keyword:=if e:b.ctorIdx=16 then Y (kC b e λc a f J=>(c,a,f)) else N
noncomputable def nameP (a:a7):Option ba:=if e:a.ctorIdx=23 then Y (jw a e λp J=>p) else N
noncomputable def yN (b:a7):Option<|List a7:=if e:b.ctorIdx=25 then Y (j2 b e λa J J=>a) else N
noncomputable def U4 (a:a7):Option<|a7×ba×dA:=if e:a.ctorIdx=20 then Y (k_ a e λb p f=>(b,p,f)) else N
noncomputable def SH (a:a7):Option<|a7×a7:=if e:a.ctorIdx=21 then Y (k9 a e λb f J=>(b,f)) else N
noncomputable def ZE (a:a7):Option<|Option a7×Option a7×Option a7:=if e:a.ctorIdx=26 then Y (nA a e λy h f J=>(y,h,f)) else N
noncomputable def ain (a:a7):Option<|a7×ew:=if e:a.ctorIdx=2 then Y (a7.BinOp.elim a e λb c J J=>(b,c)) else N
noncomputable def DY (a:a7):Option pB:=if e:a.ctorIdx=19 then Y (jx a e λb J J=>b) else N
noncomputable def IH (a:pB):Option ba:=if e:a.ctorIdx=5 then Y (kE a e id) else N
theorem UU (h:H5 e=Y x):∃k,e=.Call x.1 x.2.1 x.2.2 k:=by
 by_cases i:e.ctorIdx=16
 .exact kC e i (λb a f k h=>⟨k,J (ae h) rfl⟩) h
 .exact nS<|(dif_neg i).symm.trans h
theorem y0 (f:nameP e=Y x):∃h,e=.Name x h:=by
 by_cases i:e.ctorIdx=23
 .exact jw e i (λk h f=>⟨h,J (ae f) rfl⟩) f
 .exact nS<|(dif_neg i).symm.trans f
theorem LD (f:SH e=Y x):∃h,e=.Subscript x.1 x.2 h:=by
 by_cases i:e.ctorIdx=21
 .exact k9 e i (λa k h f=>⟨h,J (ae f) rfl⟩) f
 .exact nS<|(dif_neg i).symm.trans f
theorem MD (f:U4 e=Y x):e=.Attribute x.1 x.2.1 x.2.2:=by
 by_cases i:e.ctorIdx=20
 .exact k_ e i (λa p h f=>J (ae f) rfl) f
 .exact nS<|(dif_neg i).symm.trans f
theorem Xg (f:ZE e=Y x):∃k,e=.Slice x.1 x.2.1 x.2.2 k:=by
 by_cases i:e.ctorIdx=26
 .exact nA e i (λy h n k f=>⟨k,J (ae f) rfl⟩) f
 .exact nS<|(dif_neg i).symm.trans f
theorem Ct (h:yN e=Y x):∃c k,e=.Tuple x c k:=by
 by_cases i:e.ctorIdx=25
 .exact j2 e i (λf c k h=>tG c k<|J (ae h) rfl) h
 .exact nS<|(dif_neg i).symm.trans h
theorem Yg (f:DY e=Y x):∃c h,e=.Constant x c h:=by
 by_cases i:e.ctorIdx=19
 .exact jx e i (λk c h f=>tG c h<|J (ae f) rfl) f
 .exact nS<|(dif_neg i).symm.trans f
theorem Xc (f:IH e=Y x):e=.str x:=by
 by_cases i:e.ctorIdx=5
 .exact kE e i (λk f=>qn pB.str<|ae f) f
 .exact nS<|(dif_neg i).symm.trans f
def u_ (a:a7):Bool:=match H5 a with
 |Y b=>!(b.1.ctorIdx==23&&b.2.1.isEmpty&&b.2.2.isEmpty)|N=>true
noncomputable def noStar (a:a7):Bool:=a.ctorIdx != 22
noncomputable def Oc (v a:eT):eT:={ v with names:=v.names.map λ(p,h)=>if (h==.free&&a.kind==.function&&a.names.lookup p==Y .cell) then (p,.cell) else (p,h) }
noncomputable def q_ (v:eT):List ba:=(v.names.filter λb=>b.2==.cell).map (·.1)
def K.comp (z:K)(v:eT):K:=⟨Oc v z.scope,(v.names.filter λb=>b.2==.local&&b.1 != (".0":ba)).map (·.1),q_ v++z.cells,z.qual,z.code⟩
noncomputable def Cb (v:eT):List ba:=(v.names.filter λx=>x.2==.cell||x.2==.free).map (·.1)
noncomputable def slotNames (v:eT):List ba:=(v.names.filter λb=>b.2==.local).map (·.1)
def K.of (v:eT)(p:ba)(y:Option aj):K:=⟨v,slotNames v,Cb v,p,y⟩
noncomputable def o2 {z x w:Type}(y:Option z)(h:Option x)(f:z->x->Option w):Option w:=y.bind λa=>h.bind<|f a
def o3 {z x v w:Type}(y:Option z)(h:Option x)(e:Option v)(f:z->x->v->Option w):Option w:=y.bind λa=>o2 h e<|f a
def o5 {x w t v u z:Type}(y:Option x)(h:Option w)(e:Option t)(a:Option v)(q:Option u)(f:x->w->t->v->u->Option z):Option z:=o3 y h e λb p r=>o2 a q<|f b p r
noncomputable def qO {z y:Type}(c:z->Option y):List z->Option (List y)
 |[]=>Y []|a::l=>match c a with
  |Y b=>match qO c l with
   |Y r=>Y<|b::r
   |N=>N
  |N=>N
def tgN (z:K)(p:ba):Option NameKind->Option Tg
 |Y .local=>(idx z.slots p).map .l|Y .cell=>(idx z.cells p).map .cell
 |_=>N
noncomputable def ue (B:K):Nat->a7->Option Tg
 |0=>@λJ=>N
 |n+1=>@λb=>(nameP b).elim ((yN b).elim N λa=>(qO (ue B n) a).map .tup) λp=>tgN B p<|B.scope.names.lookup p
def zq (z:K)(sc:eT):Option<|List<|ba×Nat:=
 (qO (λ(b:ba×NameKind)=>match z.scope.names.lookup b.1 with
  |Y .cell=>(idx z.cells b.1).map (b.1,·)|Y .free=>(idx z.cells b.1).map (b.1,·)
  |_=>N)<|sc.names.filter λb=>b.2==.free).map List.reverse
noncomputable def wH (a:iC):Bool:=a.posonlyargs.isEmpty&&a.vararg.isNone&&a.kwonlyargs.isEmpty&&a.kw_defaults.isEmpty&&a.kwarg.isNone&&a.defaults.isEmpty&&a.args.all (·.annotation.isNone)
noncomputable def isName (a:a7):Bool:=a.ctorIdx==23
noncomputable def BP (a:a7):Bool:=a.ctorIdx != 7
noncomputable def isCall (a:a7):Bool:=a.ctorIdx==16
noncomputable def isSlice (a:a7):Bool:=a.ctorIdx==26
noncomputable def yI (e:a7):Bool:=!(e.ctorIdx==8||e.ctorIdx==9||e.ctorIdx==10)
theorem oE {z y:Type}{o:Option z}{h:Option y}{b:z->Option y}{a:y}{c:Prop}(e:o.elim h b=Y a) (d:∀p,o=Y p->b p=Y a->c) (i:o=N->h=Y a->c):c:=by
 cases o with
 |none=>exact i rfl e|some p=>exact d p rfl e
@[elab_as_elim] theorem BR {G:a7->Prop}(h:isName e=true)(k:∀x p,G<|.Name x p):G e:=jw e (eq_of_beq h) k
@[elab_as_elim] theorem RK {G:a7->Prop}(h:isCall e=true)(k:∀f a q p,G<|.Call f a q p):G e:=kC e (eq_of_beq h) k
@[elab_as_elim] theorem comp_elim {b:a7->Prop}(h:¬yI e=true)(d:∀i a v k,b<|.ListComp i a v k)(n:∀i a v k,b<|.SetComp i a v k)(o:∀i a v k c,b<|.DictComp i a v k c):b e:=
 (jb<|e.ctorIdx=8).elim (λp=>a7.ListComp.elim e p d) λq=>(jb<|e.ctorIdx=9).elim (λp=>a7.SetComp.elim e p n) λs=>(jb<|e.ctorIdx=10).elim (λp=>a7.DictComp.elim e p o)
  λf=>absurd (by rw[yI,beq_false_of_ne q,beq_false_of_ne s,beq_false_of_ne f];rfl) h
noncomputable def ahh:X->Option X
 |.rev J=>N|.enum J=>N
 |x=>Y x
def BF (o:Option X):Option X:=o.bind ahh
def aeZ:a7×List a7×List Keyword->Option (ba×a7)
 |(a,[b],[])=>(nameP a).map λp=>(p,b)
 |_=>N
def y9 (a:a7):Option<|ba×a7:=(H5 a).bind aeZ
noncomputable def Il:aj->Option String
 |.type f=>Y f|_=>N
def SW (a:Glob)(b:a7->Option X)(c:a7)(p:ba)(d:a7):Option X:=if (a.blt.lookup p).bind Il=Y "reversed" then (if noStar d then (b d).map .rev else N) else if (a.blt.lookup p).bind Il=Y "enumerate" then (if noStar d then (b d).map .enum else N) else BF (b c)
def srcOf (a:Glob)(c:a7->Option X)(z:K)(b:a7):Option X:=match y9 b with
 |Y (p,d)=>if z.scope.names.lookup p=Y .globalImplicit/\a.top.lookup p=N then SW a c b p d else BF (c b)
 |N=>BF<|c b
noncomputable def isTup (a:a7):Bool:=a.ctorIdx==25
noncomputable def aaH:X->Bool
 |.enum J=>true|_=>false
def Dv (a:X)(b:a7):Bool:=if aaH a then isTup b else isName b
def lsA (c:a7)(a:List a7)(f:List Keyword):Option<|a7×a7:=match a,f with
 |[d],[]=>if nameP c=Y "len" then (y9 d).bind λb=>if b.1="set"/\noStar b.2=true then (H5 d).map λe=>(e.1,b.2) else N else N
 |J,W=>N
def TU (o:Option a7):Option X:=o.bind λa=>(DY a).bind λb=>(IH b).map λp=>.k<|.qr p
noncomputable def abK:pB->Option X
 |.int q=>Y<|.k<|.int q|.str p=>Y<|.k<|.qr p|.bool a=>Y<|.k<|.bool a|.none=>Y<|.k .none|_=>N
noncomputable def ag_:aj->V
 |.int q J=>.int q|v=>.con v
def VK (a:Glob)(p:ba):Option aj->Option X
 |Y s=>Y<|.k<|ag_ s
 |N=>(a.blt.lookup p).map λs=>.k<|.con s
def VL (g:Glob)(p:ba):Option V->Option X
 |Y k=>Y<|.k k
 |N=>VK g p<|g.top.lookup p
def adV (g:Glob)(z:K)(p:ba):Option NameKind->Option X
 |Y .local=>(idx z.slots p).map .l|Y .cell=>(idx z.cells p).map .cell
 |Y .free=>if p==("__classdict__":ba) then N else (idx z.cells p).map .cell
 |Y .globalImplicit=>VL g p<|g.vals.lookup p
 |_=>N
def VJ (a:Glob)(z:K)(p:ba):Option X:=if p==("__debug__":ba) then N else adV a z p (z.scope.names.lookup p)
section
variable (g:Glob) (r:K->a7->Option X) (B:K)
noncomputable def ae2 (b:BoolOp)(a:List X):X:=match b with
 |.And=>.and a|.Or=>.or a
def mtX (p:ba)(o:X)(a:List X):X:=match Ov p with
 |Y m=>.mt m o a|N=>.mc o p a
noncomputable def O4:X->Option aj
 |.k<|.con s=>Y s|_=>N
theorem F6 (e:O4 x=Y v):x=.k (.con v):=by
 cases x with
 |k n=>cases n with
  |con a=>exact Q (ae e) rfl|_=>exact nS e
 |_=>exact nS e
def bfX (a:List ba)(f k:List X)(s:aj):Option X:=(aci s).elim (Y<|.call (.k<|.con s) f a k) λn=>if a.isEmpty then Y (.bf n f) else N
def H4 (a:List ba)(b:X)(f k:List X):Option X:=(O4 b).elim (Y<|.call b f a k) λs=>bfX a f k s
def aeY (c:a7)(a:List a7)(f:List Keyword)(e:dA):Option X:=(U4 c).elim
 (if !(isName c) then N else if !(a.all noStar&&decide (a.length+f.length<12)&&f.all (λd=>d.arg.isSome)) then N else
   o3 (r B c) (qO (r B) a) (qO (λd=>r B d.value) f) λc a k=>H4 (f.filterMap (·.arg)) c a k)
 λb=>if !(u_ b.1&&a.all noStar&&f.isEmpty&&decide (a.length<25)&&b.2.2.endLine==e.line) then N else
   o2 (r B b.1) (qO (r B) a) λh a=>Y<|mtX b.2.1 h a
def HR (s:aj)(a:X):Bool:=match O4 a,s with
 |Y<|.builtin f,.builtin p=>f==p|Y<|.type f,.type p=>f==p
 |J,W=>false
def lsX (c:a7)(b:a7×a7):Option X:=o3 (r B c) (r B b.1) (r B b.2) λd e a=>if HR (.builtin "len") d&&HR (.type "set") e then Y (.bf .set [a]) else N
def aeX (b:a7)(a:List a7)(f:List Keyword)(e:dA):Option X:=(lsA b a f).elim (aeY r B b a f e)<|lsX r B b
noncomputable def Oi:Option a7->Option X
 |Y a=>r B a|N=>Y<|.k .none
def ahi (o:a7)(y h:Option a7):Option a7->Option X
 |N=>o3 (r B o) (Oi r B y) (Oi r B h) λo y h=>Y<|.C3 o y h
 |Y J=>N
def Zt (o a:a7):Option X:=(ZE a).elim (o2 (r B o) (r B a) λo a=>Y<|.sub o a) λb=>ahi r B o b.1 b.2.1 b.2.2
def O0 (a:List<|Option a7)(f:List a7):Option X:=if a.all (·.isNone)&&!a.isEmpty&&a.length==f.length then (qO (r B) f).map .star else if !(a.length==f.length&&decide (a.length<=15)) then N else o2 (qO TU a) (qO (r B) f) λa f=>Y<|.dict a f
def Ba (a:List Comprehension)(v:eT):Bool:=v.kind==.function&&(zq B v).isSome&&a.all (λb=>b.is_async==0&&BP b.iter)&&decide (v.names.map (·.1)).Nodup&&(q_ v).all (λp=>!B.cells.contains p)
def aeK (d:a7)(v:eT):List Comprehension->Option X
 |[]=>N|c::a=>o5 (srcOf g (r B) B c.iter) (qO (λ(c:Comprehension)=>srcOf g (r<|B.comp v) (B.comp v) c.iter) a) (qO (λ(c:Comprehension)=>ue (B.comp v) 5 c.target)<|c::a) (qO (λ(c:Comprehension)=>qO (r<|B.comp v) c.ifs)<|c::a) (r (B.comp v) d) λe f k u d=>if !((e::f).zip<|c::a).all (λb=>Dv b.1 b.2.target) then N else Y (.comp d k (e::f) u (B.comp v).slots.length (q_ v).length)
def uQ (e:a7):Option X:=a7.casesOn e
 (λd a J=>(qO (r B) a).map<|ae2 d)
 (λJ J J=>N)
 (λh d b J=>o2 (r B h) (r B b) λh b=>Y<|.bin d h b)
 (λd h J=>(r B h).map<|.un d)
 (λi k v n=>
  if !(wH i&&g.yW B.code n.line n.col==Y (B.qual++"<lambda>")) then N else
  (zq B v).map λcl=>.lam ⟨i,.expr k,v,B.qual++"<lambda>"⟩ cl)
 (λc h b J=>o3 (r B c) (r B h) (r B b) λc h b=>Y<|.rb c h b)
 (λq u J=>O0 r B q u)
 (λJ J J=>N)
 (λs t v J=>if !(Ba B t v) then N else aeK g r B s v t)
 (λJ J J J=>N)
 (λJ J J J J=>N)
 (λJ J J J=>N)
 (λJ J=>N)
 (λJ J=>N)
 (λJ J=>N)
 (λh ops a J=>if (ops.zip a).any (λx=>kF x.1 x.2)||ops.length != a.length then N else (o2 (r B h) (qO (r B) a) λh a=>Y<|.cmp h ops a))
 (λf y z n=>aeX r B f y z n)
 (λJ J J J=>N)
 (λJ J=>N)
 (λc J J=>abK c)
 (λo p J=>if !u_ o then N else (r B o).map (.attr · p))
 (λo w J=>Zt r B o w)
 (λJ J=>N)
 (λx J=>VJ g B x)
 (λa J=>if !(a.all noStar&&decide (a.length<=65536)) then N else (qO (r B) a).map .list)
 (λa J J=>if !(a.all noStar&&decide (a.length<=65536)) then N else (qO (r B) a).map .tup)
 λJ J J J=>N
end
noncomputable def Ca (a:Glob):Nat->K->a7->Option X
 |0=>λJ J=>N
 |n+1=>uQ a<|Ca a n
abbrev yj:=List ba
def zl (e:a7):Bool:=e.ctorIdx==24||e.ctorIdx==8||e.ctorIdx==6||(match ain e with
 |Y b=>b.1.ctorIdx==24&&b.2.ctorIdx==2|N=>false)
def zF (o:yj)(a b:a7)(c:X):X:=if zl b&&(match nameP a with|Y c=>o.contains c|N=>false) then .new c else c
noncomputable def NZ (o:yj):List a7->List a7->List X->List X
 |t::a,b::f,c::k=>zF o t b c::NZ o a f k|J,W,k=>k
noncomputable def ahb:X->Option (List X)
 |.tup l=>Y l|_=>N
def HG (o:yj)(b c:a7)(d:X):X:=match yN b,yN c,ahb d with
 |Y a,Y f,Y k=>.tup<|NZ o a f k
 |J,W,V=>zF o b c d
theorem Gk {o:yj}(h:yN t=N\/yN e=N):HG o t e x=zF o t e x:=by
 delta HG;rcases h with h|h<;>rw[h]
 cases yN t<;>rfl
noncomputable def PS (z:K)(ts vs:List a7):Option<|Option<|List ba:=
 if !(ts.length==2||ts.length==3)||vs.length != ts.length then Y N else
 if (vs.any λa=>fC.match_5 (λJ=>Bool) a (λJ J=>true) λJ=>false) then Y N else
 let c:=(ts.head?.map (·.pos.line)).getD 0;let names:=ts.filterMap λa=>fC.match_8 (λJ=>Option ba) a (λp e=>if z.scope.names.lookup p==Y .local&&e.line==c then Y p else N) λJ=>N
 if names.length != ts.length||names.eraseDups.length != names.length then Y N else
 if vs.all (foldedForSure 8) then Y N else
 if vs.all (constantsAlone 8) then N else Y (Y names)
noncomputable def yE (z:K):List ba->List Tg->Bool
 |[],[]=>true|x::a,.l c::f=>z.slots[c]?==Y x&&z.scope.names.lookup x==Y .local&&yE z a f
 |J,W=>false
def aeC (z:K)(a:List ba):Tg->Bool
 |.tup f=>yE z a f&&decide a.Nodup|_=>false
def WK (z:K)(q:Tg):Option (Option<|List ba)->Bool
 |Y N=>true|Y<|Y a=>aeC z a q
 |N=>false
def WL (z:K)(b c:a7)(q:Tg):Bool:=match yN b,yN c with
 |Y a,Y f=>WK z q<|PS z a f
 |J,W=>true
section
variable (g:Glob) (mu:yj) (r:K->a7->Option X) (L:K->gn->Option XS) (B:K)
def KO (a b:a7):Option XS:=o2 (ue B 5 a) (r B b) λq c=>if WL B a b q then Y (XS.asg q<|HG mu a b c) else N
def R4 (a o e:a7):Option XS:=if isSlice e then N else if !yI a then N else o3 (r B o) (r B e) (r B a) λo e a=>Y<|.wj o e a
def newX (p:ba)(a:a7)(b:X):X:=if mu.contains p&&zl a then .new b else b
def ait (a:a7)(c:a7):Option XS:=(SH c).elim ((U4 c).elim (KO mu r B c a) λb=>if !u_ b.1 then N else (o2 (r B b.1) (r B a) λd e=>Y<|.setAttr d b.2.1<|newX mu b.2.1 a e)) λb=>R4 r B a b.1 b.2
def WJ (a:a7):List a7->Option XS
 |[b]=>ait mu r B a b|_=>N
def acv (a:ew)(c:a7)(d:a7):Option XS:=(SH d).elim (if !(isName d) then N else (o2 (ue B 5 d) (r B c) λd c=>Y<|.aug d a c))
 λb=>if isSlice b.2 then N else (o3 (r B b.1) (r B b.2) (r B c) λe f c=>Y<|.uC e f a c)
def ah8 (b c:a7)(a f:List gn):Option XS:=if !f.isEmpty then N else if !(BP c) then N else o3 (ue B 5 b) (srcOf g (r B) B c) (qO (L B) a) λq c a=>if Dv c b then Y (.uY q c a) else N
def ag8 (b:a7)(a f:List gn):Option XS:=if !f.isEmpty then N else o2 (r B b) (qO (L B) a) λb a=>Y<|.Ls b a
def aif (p:ba)(b:iC)(a:List gn)(v:eT)(k:ba)(e:dA):Option XS:=if !(wH b&&p==k&&g.yW B.code e.line e.col==Y (B.qual++p)) then N else o2 (ue B 5<|.Name k e) (zq B v) λq f=>Y<|.DX q ⟨b,.stmts a,v,B.qual++p⟩ f
def stepT (c:gn):Option XS:=gn.casesOn c
 (λp b a f ret k v h n e=>if f.isEmpty&&ret.isNone&&k.isEmpty&&h.isNone then aif g B p b a v n e else N)
 (λJ J J J J J J J J J=>N)
 (λJ J J J J J J J J J J=>N)
 (λi J=>(match i with
  |Y i=>(r B i).map .ret|N=>Y<|.ret<|.k .none))
 (λJ J=>N)
 (λh i J=>WJ mu r B i h)
 (λJ J J J J J J=>N)
 (λo q i J=>acv r B q i o)
 (λJ J J J J=>N)
 (λo i a u J=>ah8 g r L B o i a u)
 (λJ J J J J=>N)
 (λs a u J=>ag8 r L B s a u)
 (λs t d J=>o3 (r B s) (qO (L B) t) (qO (L B) d) λs t d=>Y<|.rb s t d)
 (λJ J J=>N)
 (λJ J J=>N)
 (λJ J J=>N)
 (λJ J J=>Y .stop)
 (λa w u x J=>if w.isEmpty||!u.isEmpty||!x.isEmpty then N else (qO (L B) a).map .yO)
 (λJ J J J J=>N)
 (λJ J J=>N)
 (λJ J=>N)
 (λJ J J J=>N)
 (λJ J=>N)
 (λJ J=>N)
 (λi J=>if isCall i then (r B i).map .expr else N)
 (λJ=>N)
 (λJ=>N)
 λJ=>N
end
noncomputable def Kt (a:Glob)(o:yj):Nat->K->gn->Option XS
 |0=>λJ J=>N
 |n+1=>stepT a o (Ca a n)<|Kt a o n
section
variable {A j H T U I:Type}{G:Prop}
theorem yZ {c:A->j->Option I}(e:o2 a b c=Y y)(d:∀p f,a=Y p->b=Y f->c p f=Y y->G):G:=by
 cases a with
 |none=>exact nS e|some p=>cases b with
  |none=>exact nS e|some f=>exact d p f rfl rfl e
theorem AX {f:A->j->H->Option I}(e:o3 a b c f=Y y)(d:∀p h r,a=Y p->b=Y h->c=Y r->f p h r=Y y->G):G:=by
 cases a with
 |none=>exact nS e|some p=>exact yZ (a:=b) e λh r=>d p h r rfl
theorem Ot {f:A->j->H->T->U->Option I}(h:o5 a b c d e f=Y y)(k:∀p o r q s,a=Y p->b=Y o->c=Y r->d=Y q->e=Y s->f p o r q s=Y y->G):G:=AX h λp o r i n z h=>yZ h λq s=>k p o r q s i n z
end
def F9 (b:Glob)(o:yj)(z:K)(a:List gn):Option<|List XS:=qO (Kt b o 100 z) a
end Vm
end
noncomputable section
namespace Vm
noncomputable def rB:V->V
 |.qr p=>.str p|v=>v
noncomputable def Ek (c:Nat):Option O->V
 |Y<|.list l=>.lst l|Y<|.dict f j=>.rt f j
 |_=>.ref c
def view (a:List O):V->V
 |.qr p=>.str p|.ref c=>Ek c a[c]?
 |v=>v
noncomputable def qZ (n:Nat):Bool:=decide<|n<=65536
def Ip (k:V):Option Bool:=match k with
 |.none=>Y false|.bool T=>Y T
 |.int i=>Y<|decide<|i≠0
 |.str s=>if qZ s.cps.size then Y (decide<|s.cps.size≠0) else N
 |.lst l=>if qZ l.length then Y (decide<|l.length≠0) else N
 |_=>N
def rC (a:List O)(k:V):Option Bool:=Ip<|view a k
noncomputable def CC (q a:Int):Bool:=decide<|au q+au a<=100000
def WD (L:ew)(a b:Int):Option V:=match L with
 |.Add=>Y<|.int<|a+b
 |.Sub=>Y<|.int<|a-b
 |.Mult=>if CC a b then Y (.int<|a*b) else N
 |.FloorDiv=>if b=0\/aS a b=true then N else Y (.int<|bg a b)
 |.Mod=>if b=0\/aS a b=true then N else Y (.int<|a_ a b)
 |.Pow=>if 0<=b/\(au a:Int)*b<=100000 then Y (.int<|a^b.toNat) else N
 |.LShift=>if 0<=b/\(au a:Int)+b<=100000 then Y (.int<|a*2^b.toNat) else N
 |.RShift=>if 0<=b then Y (.int<|bg a<|2^b.toNat) else N
 |.BitAnd=>Y<|.int<|fR a b
 |.BitOr=>Y<|.int<|i8 a b
 |.BitXor=>Y<|.int<|jF a b
 |_=>N
def WA (L:ew)(a j:ba):Option V:=match L with
 |.Add=>if qZ (a.cps.size+j.cps.size) then Y (.str<|a++j) else N
 |_=>N
def WB (L:ew)(a f:List V):Option V:=match L with
 |.Add=>if qZ (a.length+f.length) then Y (.lst<|a++f) else N
 |_=>N
noncomputable def rep1 (q:Int):List V->Option V
 |[k]=>if 0<=q/\q<65536 then Y (.lst<|aw q.toNat k) else N
 |_=>N
def WC (L:ew)(a:List V)(q:Int):Option V:=match L with
 |.Mult=>rep1 q a|_=>N
def binI (L:ew)(q:Int):V->Option V
 |.int a=>WD L q a|_=>N
def ab' (L:ew)(p:ba):V->Option V
 |.str j=>WA L p j|_=>N
def aio (L:ew)(a:List V):V->Option V
 |.lst f=>WB L a f|.int q=>WC L a q
 |_=>N
def ab_ (L:ew)(k T:V):Option V:=match k with
 |.int k=>binI L k T|.str k=>ab' L k T
 |.lst k=>aio L k T|_=>N
def sH (a:List O)(L:ew)(k T:V):Option V:=ab_ L (view a k)<|view a T
def ae_ (L:ew)(a b:Int):Option V:=match L with
 |.Add=>Y<|.int<|a+b
 |.Sub=>Y<|.int<|a-b
 |.Mult=>if CC a b then Y (.int<|a*b) else N
 |.FloorDiv=>if b=0\/aS a b=true then N else Y (.int<|bg a b)
 |.LShift=>if 0<=b/\(au a:Int)+b<=100000 then Y (.int<|a*2^b.toNat) else N
 |.RShift=>if 0<=b then Y (.int<|bg a<|2^b.toNat) else N
 |_=>N
def ais (L:ew)(q:Int):V->Option V
 |.int a=>ae_ L q a|_=>N
def xN (L:ew)(k T:V):Option V:=match k with
 |.int k=>ais L k T|_=>N
noncomputable def unI (t:UnaryOp)(q:Int):Option V:=match t with
 |.USub=>Y<|.int <| -q
 |.Invert=>Y<|.int<|fu q
 |_=>N
def Vt (t:UnaryOp)(k:V):Option V:=match k with
 |.int k=>unI t k|_=>N
noncomputable def Ci (o h:Option Bool):Option Bool:=o.bind λT=>h.map (T&&·)
noncomputable def zS (c:V->V->Option Bool):List V->List V->Option Bool
 |[]=>@λj=>if j.isEmpty then Y true else N
 |a::l=>@λj=>(match j with
  |b::j=>Ci (c a b)<|zS c l j
  |[]=>N)
noncomputable def eqN:V->Option Bool
 |.none=>Y true|.str J=>Y false
 |_=>N
noncomputable def eqB (a:Bool):V->Option Bool
 |.bool G=>Y<|a==G
 |_=>N
noncomputable def eqI (a:Int):V->Option Bool
 |.int b=>Y<|decide<|a=b
 |_=>N
noncomputable def eqS (a:ba):V->Option Bool
 |.str j=>Y<|decide<|a=j
 |.none=>Y false|_=>N
def eqT (b:V->V->Option Bool)(a:List V):V->Option Bool
 |.tup f=>if a.length=f.length then zS b a f else N
 |_=>N
def abx (b:V->V->Option Bool)(a:List V):V->Option Bool
 |.lst f=>if a.length=f.length then zS b a f else Y false
 |_=>N
def Dc (b:V->V->Option Bool)(k L:V):Option Bool:=match k with
 |.none=>eqN L|.bool k=>eqB k L
 |.int k=>eqI k L|.str k=>eqS k L
 |.tup k=>eqT b k L|.lst k=>abx b k L
 |_=>N
noncomputable def rU:Nat->V->V->Option Bool
 |0=>@λJ J=>N
 |n+1=>@λk L=>Dc (rU n) (rB k)<|rB L
noncomputable def findKey:List V->List V->V->Option (Option V)
 |k::a,L::f=>@λy=>match tx k y with
  |Y true=>Y<|Y L
  |Y false=>findKey a f y|N=>N
 |[],[]=>@λJ=>Y N
 |J,W=>@λJ=>N
noncomputable def zT:List V->List V->List V->List V->Option Bool
 |[],[]=>@λJ J=>Y true
 |k::b,A::f=>@λj u=>match findKey j u k with
  |Y<|Y n=>match rU 8 A n,zT b f j u with
   |Y a,Y G=>Y<|a&&G
   |J,W=>N
  |Y N=>Y false|N=>N
 |J,W=>@λJ J=>N
noncomputable def uX:V->Bool
 |.str J=>true|_=>false
def aby (a f j u:List V):Option Bool:=if a.all uX=true/\j.all uX=true then (if a.length=j.length then zT a f j u else Y false) else N
noncomputable def JB:V->Bool
 |.str J=>true|.int J=>true
 |_=>false
noncomputable def hasSub (p j:ba):Bool:=!(kM j p 0 j.length 1).isEmpty
noncomputable def L4 (k:V):List V->Option Bool
 |[]=>Y false|y::l=>(rU 8 y k).bind λT=>(L4 k l).map (T||·)
noncomputable def QR (f:Int->Int->Bool)(k L:V):Option Bool:=match k with
 |.int k=>(match L with
  |.int L=>Y<|f k L
  |_=>N)
 |_=>N
noncomputable def isNone (T:Bool):V->Option Bool
 |.none=>Y T|_=>N
noncomputable def isB (a:Bool):V->Option Bool
 |.bool G=>Y<|a==G
 |_=>N
def isW (k L:V):Option Bool:=match k with
 |.none=>isNone true L|.str J=>isNone false L
 |.int J=>isNone false L|.bool k=>isB k L
 |_=>N
def O9 (a L:V):Option Bool:=match a with
 |.rt b f=>(match L with
  |.rt j u=>aby b f j u|_=>N)
 |a=>rU 8 a L
def inS (p:ba):V->Option Bool
 |.str j=>Y<|hasSub j p
 |_=>N
def inW (k L A:V):Option Bool:=match A with
 |.lst l=>L4 k l|_=>N
def inT (k L b:V):Option Bool:=match b with
 |.str p=>inS p L|b=>inW k L b
def O8 (A:CmpOp)(k a b:V):Option Bool:=match A with
 |.Eq=>O9 a b|.NotEq=>(O9 a b).map not
 |.Lt=>QR (λa b=>decide<|a<b) a b|.LtE=>QR (λa b=>decide<|a<=b) a b
 |.Gt=>QR (λa b=>decide<|b<a) a b|.GtE=>QR (λa b=>decide<|b<=a) a b
 |.Is=>isW a b|.IsNot=>(isW a b).map not
 |.In=>inT k a b|.NotIn=>(inW k a b).map not
def tW (a:List O)(A:CmpOp)(k L:V):Option Bool:=O8 A k (view a k)<|view a L
noncomputable def place (q:Int)(c:Nat):Option Nat:=
 let a:=if q<0 then q+c else q
 if 0<=a/\a<c then Y a.toNat else N
noncomputable def one (c:Nat):ba:=⟨#[c]⟩
def OJ (a:List V):V->Option V
 |.int q=>if qZ a.length then (place q a.length).bind λc=>a[c]? else N
 |_=>N
def aaO (p:ba):V->Option V
 |.int q=>if qZ p.cps.size then (place q p.cps.size).bind λc=>(p.cps[c]?).map λh=>.str<|one h else N
 |_=>N
def N1 (o L:V):Option V:=match o with
 |.lst l=>OJ l L|.tup l=>OJ l L
 |.str p=>aaO p L|_=>N
def sf (a:List O)(o L:V):Option V:=N1 (view a o)<|view a L
noncomputable def Oj:V->Option (Option Int)
 |.none=>Y N|.int q=>Y<|Y q
 |_=>N
noncomputable def HJ (a:List V)(y h:Option Int):List V:=(sliceRange (sliceBounds y h N a.length).1 (sliceBounds y h N a.length).2.1 (sliceBounds y h N a.length).2.2).filterMap (a[·]?)
def SY (o:V)(y h:Option Int):V->Option V
 |.lst l=>if qZ l.length then Y (.lst<|HJ l y h) else N
 |_=>N
def FE (a:List O)(o L A:V):Option V:=(Oj L).bind λL=>(Oj A).bind λA=>SY o L A<|view a o
noncomputable def vk (q a d:Int):Nat:=(cz q a d).toNat
def wD (q a d:Int):List V:=(rangeInts q d<|vk q a d).map .int
def wZ (q a d:Int):Bool:=decide (d≠0)&&jm q a d&&qZ (vk q a d)
def w8 (a:List O)(k:V):Option<|List V:=match rB k with
 |.lst l=>Y l|.tup l=>Y l
 |.tH q b d=>if wZ q b d then Y (wD q b d) else N
 |.str s=>Y<|s.cps.toList.map λd=>.str<|one d
 |_=>N
noncomputable def iV {o:Type}(b:Int->Option o):V->Option o
 |.int q=>b q|_=>N
noncomputable def sV {o:Type}(b:ba->Option o):V->Option o
 |.str p=>b p|_=>N
noncomputable def tV {o:Type}(b:ba->Option o):V->Option o
 |.qr p=>b p|_=>N
noncomputable def lV {o:Type}(b:List V->Option o):V->Option o
 |.lst a=>b a|_=>N
noncomputable def a0 {o:Type}(y:Option o):List V->Option o
 |[]=>y|_=>N
noncomputable def a1 {o:Type}(b:V->Option o):List V->Option o
 |[k]=>b k|_=>N
noncomputable def a2 {o:Type}(b:V->V->Option o):List V->Option o
 |[k,L]=>b k L|_=>N
noncomputable def intsOf:List V->Option (List Int)
 |[]=>Y []|x::l=>iV (λq=>(intsOf l).map (q::·)) x
noncomputable def strsOf:List V->Option (List ba)
 |[]=>Y []|x::l=>sV (λp=>(strsOf l).map (p::·))<|rB x
noncomputable def CL (q:Int):Bool:=decide (0<=q/\q<0xD800)  || decide (0xE000<=q/\q<0x110000)
def TO:V->Option V
 |.lst l=>if qZ l.length then Y (.int l.length) else N
 |.tup l=>if qZ l.length then Y (.int l.length) else N
 |.str p=>if qZ p.cps.size then Y (.int p.cps.size) else N
 |_=>N
def ZT:List V->Option V
 |[k]=>iV (λk=>Y<|.tH 0 k 1) k|[L,k]=>iV (λL=>iV (λk=>Y<|.tH L k 1) k) L
 |[L,k,A]=>iV (λL=>iV (λk=>iV (λA=>if A=0\/aS (k-L) A=true then N else Y (.tH L k A)) A) k) L|_=>N
def TB:V->Option V
 |.tH q a d=>if wZ q a d then Y (.lst<|wD q a d) else N
 |.lst l=>if qZ l.length then Y (.lst l) else N
 |_=>N
noncomputable def Tx:List Int->Option V
 |[]=>N|x::l=>Y<|.int<|l.foldl (λa d=>if a<d then d else a) x
noncomputable def Kk (a:List Int):Int:=(kQ (λc=>a.getD c 0) a.length).length
noncomputable def boolsOf:List V->Option (List Bool)
 |[]=>Y []|.bool T::l=>(boolsOf l).map (T::·)
 |_=>N
noncomputable def bV {o:Type}(b:Bool->Option o):V->Option o
 |.bool T=>b T|_=>N
noncomputable def Oo (p:ba):Option V:=match p.cps.toList with
 |[c]=>Y<|.int c
 |_=>N
def ach (a:List O)(n:Bf)(f:List V):Option V:=match n with
 |.len=>a1 (λk=>TO<|view a k) f|.range=>ZT f
 |.sum=>a1 (λk=>lV (λj=>(intsOf j).map λj=>.int j.sum)<|view a k) f|.list=>a1 (λk=>TB<|view a k) f
 |.max=>a1 (λk=>lV (λj=>(intsOf j).bind Tx)<|view a k) f|.set=>a1 (λk=>lV (λj=>if j.length<64 then (intsOf j).map λu=>.int<|Kk u else N)<|view a k) f
 |.chr=>a1 (iV λq=>if CL q then Y (.str<|one q.toNat) else N) f|.ord=>a1 (sV Oo) f
 |.abs=>a1 (iV λk=>Y<|.int<|if k<0 then -k else k) f|.divmod=>a2 (λk n=>iV (λk=>iV (λn=>if n=0\/aS k n=true then N else Y (.tup [.int<|bg k n,.int<|a_ k n])) n) k) f
def yg (a:List O)(n:Bf)(as:List V):Option V:=ach a n<|as.map rB
noncomputable def Al:Option V->V->V
 |Y k=>@λJ=>k
 |N=>@λL=>L
set_option genCtorIdx true in
inductive MK where
 |uW|wF|BU|Ap|BJ|Ez|AS|Ey|A'|EW
 deriving DecidableEq
noncomputable def kL (e:MK):V->Option MK
 |.lst J=>Y e|_=>N
noncomputable def kS (e:MK):V->Option MK
 |.str J=>Y e|_=>N
noncomputable def kIx:V->Option MK
 |.lst J=>Y .Ap|.str J=>Y .BJ
 |_=>N
noncomputable def kD (e:MK):V->Option MK
 |.rt J W=>Y e|_=>N
noncomputable def kI (e:MK):V->Option MK
 |.int J=>Y e|_=>N
def BS (g:Mt)(o:V):Option MK:=match g with
 |.append=>kL .uW o|.reverse=>kL .wF o
 |.pop=>kL .BU o|.index=>kIx o
 |.join=>kS .Ez o|.replace=>kS .AS o
 |.lower=>kS .Ey o|.get=>kD .A' o
 |.yf=>kI .EW o
noncomputable def vE (s j:ba):Bool:=decide<|s.length+(s.length+1)*j.length<=16777216
def abh (a f:List V)(k L:V):Option V:=if JB k then (findKey a f k).map (Al · L) else N
def abi (a f:List V):List V->Option V
 |[k]=>abh a f k .none|[k,L]=>abh a f k L
 |_=>N
noncomputable def dV {o:Type}(b:List V->List V->Option o):V->Option o
 |.rt a f=>b a f|_=>N
def Tv (a:List O)(e:MK)(o:V)(f:List V):Option V:=match e with
 |.Ap=>lV (λj=>a1 (bV λT=>if qZ j.length then (boolsOf j).bind λbs=>if bs.contains T then Y (.int<|bs.idxOf T) else N else N) f) o|.BJ=>sV (λp=>a1 (sV λk=>if 0<=jr p k then Y (.int<|jr p k) else N) f) o
 |.Ez=>sV (λg=>a1 (λj=>lV (λj=>(strsOf j).bind λj=>if nr g j then Y (.str<|lP g j) else N)<|view a j) f) o|.Ey=>sV (λp=>a0 (if qZ (iN p).length then Y (.str<|iN p) else N) f) o
 |.A'=>dV (λG d=>abi G d f) o|.EW=>iV (λq=>a0 (Y<|.int<|au q) f) o
 |_=>N
def HH (k:V)(a:List V):Option V:=sV (λk=>a2 (λL A=>tV (λL=>tV (λA=>if vE k A then Y (.str<|cX k L A) else N) A) L) a) k
def QD (a:List O)(c:Nat)(e:MK)(f:List V)(l:List V):Option<|V×List O:=match e with
 |.uW=>a1 (λk=>if qZ l.length then Y (.none,a.set c<|.list<|l++[k]) else N) f|.wF=>a0 (if qZ l.length then Y (.none,a.set c<|.list l.reverse) else N) f
 |.BU=>a0 (if qZ l.length then l.getLast?.map λL=>(L,a.set c<|.list l.dropLast) else N) f|_=>N
def Jn (a:List O)(e:MK)(o:V)(f:List V):Option<|V×List O:=match o with
 |.ref c=>(match a[c]? with
  |Y<|.list l=>QD a c e f l|_=>N)
 |_=>N
noncomputable def ad_:MK->Bool
 |.uW=>true|.wF=>true
 |.BU=>true|_=>false
def za (a:List O)(e:MK)(o:V)(as:List V):Option<|V×List O:=if ad_ e then Jn a e o as else if e=.AS then (HH (view a o) as).map (·,a) else (Tv a e (view a o)<|as.map rB).map (·,a)
theorem EL {a:List O}{f:List V}(e)(j)(g:a[i]?=Y (.list f)):Jn a e (.ref i) j=QD a i e j f:=by
 show (match a[i]? with
  |Y<|.list f=>QD a i e j f|_=>N)=_
 refine Q g rfl
structure vA where
 top:bK->List V->List ba->List V->List O->Option (V×List O)
 zV:wQ->List (ba×Nat)->List V->List O->Option (V×List O)
inductive Fl where
 |next|ret (v:V)
noncomputable def tQ:List V->List V->V->V->Option (List V×List V)
 |k::a,L::f=>@λA T=>match tx k A with
  |Y true=>Y (k::a,T::f)|Y false=>match tQ a f A T with
   |Y (j,v)=>Y (k::j,L::v)|N=>N
  |N=>N
 |[],[]=>@λA T=>Y ([A],[T])
 |J,W=>@λJ J=>N
noncomputable def wk:List V->List V->List V->List V->Option (List V×List V)
 |ks,f,k::j,L::v=>match tQ ks f k L with
  |Y (H,d)=>wk H d j v|N=>N
 |ks,f,[],[]=>Y (ks,f)|J,W,P,F=>N
noncomputable def sS (p:ba):Bool:=(["tag","attrib","tail","kids","append","makeelement","itertext"]:List ba).contains p
noncomputable def GA:V->Bool
 |.con<|.ref _=>true|.con J=>false
 |_=>true
def ae' (p:ba):Option O->Option V
 |Y<|.ns l=>(l.lookup p).bind λk=>if GA k then Y k else N
 |_=>N
def WI (a:List O)(p:ba):Option Nat->Option V
 |Y c=>if sS p then ae' p a[c]? else N
 |N=>N
def zX (a:List O)(c:Nat)(p:ba):Option O->Option V
 |Y<|.fn _ _ y=>WI a p y|Y<|.list _=>if p="append" then Y (.bm "list.append"<|.ref c) else N
 |_=>N
def te (a:List O)(o:V)(p:ba):Option V:=match o with
 |.ref c=>zX a c p a[c]?|_=>N
noncomputable def Pa (g:vA)(a:List V)(f:List ba)(j:List V)(v:List O):Option O->Option (V×List O)
 |Y<|.fn t H _=>(match f with
  |[]=>(match j with
   |[]=>g.zV t H a v|_=>N)
  |_=>N)
 |_=>N
noncomputable def callC (g:vA)(a:List V)(f:List ba)(j:List V)(w:List O):aj->Option (V×List O)
 |.ref v=>g.top v a f j w|_=>N
def Ww (f:String)(a:List V)(g:List ba)(j:List V)(v:List O):V->Option (V×List O)
 |.ref c=>if f="list.append"/\g=[]/\j=[] then Jn v .uW (.ref c) a else N
 |_=>N
def v7 (g:vA)(k:V)(a:List V)(f:List ba)(j:List V)(v:List O):Option<|V×List O:=match k with
 |.con s=>callC g a f j v s|.ref c=>Pa g a f j v v[c]?
 |.bm id s=>Ww id a f j v s|_=>N
noncomputable def rz (U:List Nat):Nat->Tg->V->St->Option St
 |0=>@λJ J J=>N
 |n+1=>@λq k x=>match q with
  |.l c=>if c<x.loc.length then Y { x with loc:=x.loc.set c<|Y k } else N
  |.cell h=>match U[h]? with
   |Y c=>match x.hp[c]? with
    |Y<|.cell _=>Y { x with hp:=x.hp.set c<|.cell<|Y k }|_=>N
   |N=>N
  |.tup l=>match k with
   |.tup j=>if l.length=j.length then (l.zip j).foldl (λi y=>i.bind λx=>rz U n y.1 y.2 x) (Y x) else N
   |_=>N
structure Ev where
 E:List Nat->X->St->Option (V×St)
 S:List Nat->XS->St->Option (Fl×St)
noncomputable def sJ (y:Ev)(U:List Nat):List X->St->Option (List V×St)
 |[]=>@λz=>Y ([],z)
 |x::l=>@λz=>match y.E U x z with
  |Y (k,z)=>match sJ y U l z with
   |Y (f,z)=>Y (k::f,z)|N=>N
  |N=>N
noncomputable def rQ (y:Ev)(U:List Nat):List XS->St->Option (Fl×St)
 |[]=>@λz=>Y (.next,z)
 |x::l=>@λz=>match y.S U x z with
  |Y (.next,z)=>rQ y U l z|o=>o
noncomputable def OV (y:Ev)(U:List Nat):List X->St->Option (V×St)
 |[]=>@λJ=>N
 |[x]=>@λz=>y.E U x z
 |x::l=>@λz=>match y.E U x z with
  |Y (k,z)=>match rC z.hp k with
   |Y true=>OV y U l z|Y false=>Y (k,z)
   |N=>N
  |N=>N
noncomputable def J9 (y:Ev)(U:List Nat):List X->St->Option (V×St)
 |[]=>@λJ=>N
 |[x]=>@λz=>y.E U x z
 |x::l=>@λz=>match y.E U x z with
  |Y (k,z)=>match rC z.hp k with
   |Y true=>Y (k,z)|Y false=>J9 y U l z
   |N=>N
  |N=>N
noncomputable def CP (y:Ev)(U:List Nat):V->List CmpOp->List X->St->Option (Bool×St)
 |a,[A],[b]=>@λx=>match y.E U b x with
  |Y (L,x)=>(tW x.hp A a L).map (·,x)|N=>N
 |a,A::f,b::j=>@λx=>match y.E U b x with
  |Y (L,x)=>match tW x.hp A a L with
   |Y true=>CP y U L f j x|Y false=>Y (false,x)
   |N=>N
  |N=>N
 |J,W,P=>@λJ=>N
noncomputable def B2 (y:Ev)(U:List Nat):List X->St->Option (Bool×St)
 |[]=>@λz=>Y (true,z)
 |x::l=>@λz=>match y.E U x z with
  |Y (k,z)=>match rC z.hp k with
   |Y true=>B2 y U l z|Y false=>Y (false,z)
   |N=>N
  |N=>N
noncomputable def vF:List V->Option (List Nat)
 |[]=>Y []|.ref c::l=>(vF l).map (c::·)
 |_=>N
abbrev Gd:=Option<|Nat×List Nat
def um (a:List O):Gd->Bool
 |N=>true|Y (c,f)=>match a[c]? with
  |Y<|.list l=>vF l==Y f|_=>false
def OZ (k:V):Option<|List V:=match rB k with
 |.tup l=>Y l|.str s=>Y<|s.cps.toList.map λc=>.str<|one c
 |_=>N
def tK (y:Ev)(U:List Nat):X->St->Option (List V×Gd×St)
 |.enum a=>@λz=>match y.E U a z with
  |Y (v,z)=>(OZ v).map λf=>(f.zipIdx.map λx=>.tup [.int x.2,x.1],N,z)
  |N=>N
 |.rev a=>@λz=>match y.E U a z with
  |Y (.lst f,z)=>Y (f.reverse,N,z)|_=>N
 |x=>@λz=>match y.E U x z with
  |Y (v,z)=>match v with
   |.ref c=>match z.hp[c]? with
    |Y<|.list f=>(vF f).map λw=>(f,Y (c,w),z)
    |_=>N
   |v=>(w8 z.hp v).map (·,N,z)
  |N=>N
noncomputable def sY (U:List Nat)(q:Tg)(b:Gd)(c:St->Option (List V×St)):List V->St->Option (List V×St)
 |[]=>@λy=>if um y.hp b then Y ([],y) else N
 |x::l=>@λy=>if um y.hp b then match rz U 5 q x y with
  |Y y=>match c y with
   |Y (j,y)=>match sY U q b c l y with
    |Y (v,y)=>Y (j++v,y)|N=>N
   |N=>N
  |N=>N else N
noncomputable def yd (y:Ev)(U:List Nat)(a:X):List Tg->List X->List (List X)->St->Option (List V×St)
 |t::f,I::j,s::v=>@λx=>match tK y U I x with
  |Y (l,b,x)=>sY U t b (λx=>match B2 y U s x with
    |Y (true,x)=>yd y U a f j v x|Y (false,x)=>Y ([],x)
    |N=>N) l x
  |N=>N
 |[],[],[]=>@λx=>match y.E U a x with
  |Y (k,x)=>Y ([k],x)|N=>N
 |J,W,P=>@λJ=>N
def B3 (y:Ev)(U:List Nat)(a:X)(f:List Tg)(j:List X)(v:List<|List X)(c h:Nat)(x:St):Option<|List V×St:=
 match f,j,v with
 |t::f,I::j,H::v=>match tK y U I x with
  |Y (l,b,x)=>
   let L:=(aq h).map (x.hp.length+·)++U
   match sY L t b (λx=>match B2 y L H x with
    |Y (true,x)=>yd y L a f j v x|Y (false,x)=>Y ([],x)
    |N=>N) l ⟨aw c N,x.hp++aw h (.cell N)⟩ with
   |Y (s,T)=>if qZ s.length then Y (s,⟨x.loc,T.hp⟩) else N
   |N=>N
  |N=>N
 |J,W,P=>N
noncomputable def uh (y:Ev)(U:List Nat)(q:Tg)(b:Gd)(f:List XS):List V->St->Option (Fl×St)
 |[]=>@λz=>if um z.hp b then Y (.next,z) else N
 |x::l=>@λz=>if um z.hp b then match rz U 5 q x z with
  |Y z=>match rQ y U f z with
   |Y (.next,z)=>uh y U q b f l z|o=>o
  |N=>N else N
noncomputable def wN (y:Ev)(U:List Nat)(a:X)(f:List XS):Nat->St->Option (Fl×St)
 |0=>@λJ=>N
 |n+1=>@λx=>match y.E U a x with
  |Y (k,x)=>match rC x.hp k with
   |Y true=>match rQ y U f x with
    |Y (.next,x)=>wN y U a f n x|o=>o
   |Y false=>Y (.next,x)|N=>N
  |N=>N
noncomputable def v5 (U:List Nat):List (ba×Nat)->Option (List<|ba×Nat)
 |[]=>Y []|p::l=>o2 U[p.2]? (v5 U l) λc v=>Y<|(p.1,c)::v
noncomputable def yy (U:List Nat)(q:Tg)(x:St):Option V:=match q with
 |.l c=>(x.loc[c]?).bind id|.cell h=>match U[h]? with
  |Y c=>match x.hp[c]? with
   |Y<|.cell y=>y|_=>N
  |N=>N
 |_=>N
noncomputable def Cg:List V->Bool
 |[]=>true|k::a=>a.all (λL=>tx k L==Y false)&&Cg a
noncomputable def mergeAll:List V->List V->List V->Option (List V×List V)
 |ks,f,.rt j v::l=>if j.all uX=true/\ks.length+j.length<=65536 then match wk ks f j v with
  |Y (d,H)=>mergeAll d H l|N=>N
  else N
 |ks,f,[]=>Y (ks,f)|J,W,P=>N
noncomputable def EU:Option O->Bool
 |Y<|.fn _ _ _=>true|_=>false
def isFn (a:List O):V->Bool
 |.ref c=>EU a[c]?|_=>false
noncomputable def isMul:ew->Bool
 |.Mult=>true|_=>false
noncomputable def ahr (k:V)(x:St):V->Option (O×St)
 |.int q=>if 0<=q/\q<65536 then Y (.list<|aw q.toNat k,x) else N
 |_=>N
def ZV (y:Ev)(U:List Nat)(a:X)(x:St):List V->Option (O×St)
 |[k]=>match y.E U a x with
  |Y (L,x)=>ahr k x L|N=>N
 |_=>N
def S5 (y:Ev)(U:List Nat)(a:X)(x:St):X->Option (O×St)
 |.list l=>match sJ y U l x with
  |Y (l,x)=>ZV y U a x l|N=>N
 |_=>N
def rS (y:Ev)(U:List Nat):X->St->Option (O×St)
 |.list l=>@λx=>(sJ y U l x).map λb=>(.list b.1,b.2)
 |.bin L e I=>@λx=>if isMul L=true then S5 y U I x e else N
 |.dict j v=>@λx=>match sJ y U j x with
  |Y (j,x)=>match sJ y U v x with
   |Y (v,x)=>if (j.map rB).all uX=true/\Cg (j.map rB)=true/\j.length=v.length then Y (.dict (j.map rB) v,x) else N
   |N=>N
  |N=>N
 |.star l=>@λx=>match sJ y U l x with
  |Y (l,x)=>(mergeAll [] [] l).map λb=>(.dict b.1 b.2,x)
  |N=>N
 |.comp a H d T c m=>@λx=>(B3 y U a H d T c m x).map λb=>(.list b.1,b.2)
 |_=>@λJ=>N
noncomputable def DP:O->V
 |.list l=>.lst l|.dict f j=>.rt f j
 |_=>.none
def ac7 (g:vA)(y:Ev)(A:List Nat):X->St->Option (V×St)
 |.k k=>@λx=>Y (k,x)
 |.l c=>@λx=>match x.loc[c]? with
  |Y<|Y k=>Y (k,x)|_=>N
 |.cell h=>@λx=>match yy A (.cell h) x with
  |Y k=>Y (k,x)|N=>N
 |.bin L e I=>@λx=>match y.E A e x with
  |Y (e,x)=>match y.E A I x with
   |Y (I,x)=>(sH x.hp L e I).map (·,x)|N=>N
  |N=>N
 |.un .Not e=>@λx=>match y.E A e x with
  |Y (e,x)=>(rC x.hp e).map λI=>(.bool<|!I,x)
  |N=>N
 |.un L e=>@λx=>match y.E A e x with
  |Y (e,x)=>(Vt L e).map (·,x)|N=>N
 |.and l=>@λx=>OV y A l x
 |.or l=>@λx=>J9 y A l x
 |.cmp e v l=>@λx=>match y.E A e x with
  |Y (e,x)=>(CP y A e v l x).map λb=>(.bool b.1,b.2)
  |N=>N
 |.rb a e I=>@λx=>match y.E A a x with
  |Y (k,x)=>match rC x.hp k with
   |Y true=>y.E A e x|Y false=>y.E A I x
   |N=>N
  |N=>N
 |.call j f H d=>@λx=>match y.E A j x with
  |Y (j,x)=>match sJ y A f x with
   |Y (f,x)=>match sJ y A d x with
    |Y (d,x)=>(v7 g j f H d x.hp).map λb=>(b.1,⟨x.loc,b.2⟩)
    |N=>N
   |N=>N
  |N=>N
 |.bf I f=>@λx=>match sJ y A f x with
  |Y (f,x)=>(yg x.hp I f).map (·,x)|N=>N
 |.mt m n f=>@λx=>match y.E A n x with
  |Y (n,x)=>if isFn x.hp n then (match te x.hp n (w3 m) with
   |Y j=>match sJ y A f x with
    |Y (f,x)=>(v7 g j f [] [] x.hp).map λb=>(b.1,⟨x.loc,b.2⟩)
    |N=>N
   |N=>N) else match BS m (view x.hp n) with
   |Y h=>match sJ y A f x with
    |Y (f,x)=>(za x.hp h n f).map λb=>(b.1,⟨x.loc,b.2⟩)
    |N=>N
   |N=>N
  |N=>N
 |.attr n p=>@λx=>match y.E A n x with
  |Y (n,x)=>(te x.hp n p).map (·,x)|N=>N
 |.mc n p f=>@λx=>match y.E A n x with
  |Y (n,x)=>match te x.hp n p with
   |Y j=>match sJ y A f x with
    |Y (f,x)=>(v7 g j f [] [] x.hp).map λb=>(b.1,⟨x.loc,b.2⟩)
    |N=>N
   |N=>N
  |N=>N
 |.sub n c=>@λx=>match y.E A n x with
  |Y (n,x)=>match y.E A c x with
   |Y (c,x)=>(sf x.hp n c).map (·,x)|N=>N
  |N=>N
 |.C3 n e I=>@λx=>match y.E A n x with
  |Y (n,x)=>match y.E A e x with
   |Y (e,x)=>match y.E A I x with
    |Y (I,x)=>(FE x.hp n e I).map (·,x)|N=>N
   |N=>N
  |N=>N
 |.tup l=>@λx=>(sJ y A l x).map λb=>(.tup b.1,b.2)
 |.list l=>@λx=>(rS y A (.list l) x).map λb=>(DP b.1,b.2)
 |.dict T s=>@λx=>(rS y A (.dict T s) x).map λb=>(DP b.1,b.2)
 |.star l=>@λx=>(rS y A (.star l) x).map λb=>(DP b.1,b.2)
 |.comp t i U o p m=>@λx=>(rS y A (.comp t i U o p m) x).map λb=>(DP b.1,b.2)
 |.new z=>@λx=>(rS y A z x).map λb=>(.ref b.2.hp.length,⟨b.2.loc,b.2.hp++[b.1]⟩)
 |.enum J=>@λJ=>N
 |.rev J=>@λJ=>N
 |.lam j q=>@λx=>match v5 A q with
  |Y q=>Y (.ref x.hp.length,⟨x.loc,x.hp++[.fn j q N]⟩)|N=>N
def putN (a:List O)(c:Nat)(p:ba)(k:V):Option O->Option (List O)
 |Y<|.ns l=>if sS p=true/\l.length<100 then Y (a.set c<|.ns<|(p,k)::l) else N
 |_=>N
def FJ (a:List O)(c:Nat)(p:ba)(k:V)(t:wQ)(f:List<|ba×Nat):Option Nat->Option (List O)
 |N=>if sS p then Y (a.set c (.fn t f<|Y a.length)++[.ns [(p,k)]]) else N
 |Y h=>putN a h p k a[h]?
def Of (a:List O)(c:Nat)(p:ba)(k:V):Option O->Option (List O)
 |Y<|.fn t f y=>FJ a c p k t f y|_=>N
def yG (a:List O)(o:V)(p:ba)(L:V):Option<|List O:=match o with
 |.ref c=>Of a c p L a[c]?|_=>N
def putL (a:List O)(c:Nat)(l:List V)(k:V):V->Option (List O)
 |.int q=>if qZ l.length then ((place q l.length).map λh=>a.set c<|.list<|l.set h k) else N
 |_=>N
def Oe (a:List O)(c:Nat)(k L:V):Option O->Option (List O)
 |Y<|.list l=>putL a c l L k|Y<|.dict j v=>if JB k=true/\j.length<=65536 then (tQ j v k L).map λb=>a.set c<|.dict b.1 b.2 else N
 |_=>N
def ub (a:List O)(o L A:V):Option<|List O:=match o with
 |.ref c=>Oe a c (rB L) A a[c]?|_=>N
def ac6 (g:vA)(y:Ev)(U:List Nat):XS->St->Option (Fl×St)
 |.expr c=>@λx=>match y.E U c x with
  |Y (.none,x)=>Y (.next,x)|_=>N
 |.asg q c=>@λx=>match y.E U c x with
  |Y (k,x)=>(rz U 5 q k x).map (.next,·)|N=>N
 |.wj I a c=>@λx=>match y.E U c x with
  |Y (k,x)=>match y.E U I x with
   |Y (I,x)=>match y.E U a x with
    |Y (a,x)=>(ub x.hp I a k).map λf=>(.next,⟨x.loc,f⟩)
    |N=>N
   |N=>N
  |N=>N
 |.setAttr I p c=>@λx=>match y.E U c x with
  |Y (k,x)=>match y.E U I x with
   |Y (I,x)=>(yG x.hp I p k).map λf=>(.next,⟨x.loc,f⟩)
   |N=>N
  |N=>N
 |.aug q L c=>@λx=>match yy U q x with
  |Y T=>match y.E U c x with
   |Y (A,x)=>match xN L T A with
    |Y k=>(rz U 5 q k x).map (.next,·)|N=>N
   |N=>N
  |N=>N
 |.uC I a L c=>@λx=>match y.E U I x with
  |Y (I,x)=>match y.E U a x with
   |Y (a,x)=>match sf x.hp I a with
    |Y T=>match y.E U c x with
     |Y (A,x)=>match xN L T A with
      |Y k=>(ub x.hp I a k).map λf=>(.next,⟨x.loc,f⟩)
      |N=>N
     |N=>N
    |N=>N
   |N=>N
  |N=>N
 |.ret c=>@λx=>(y.E U c x).map λb=>(.ret b.1,b.2)
 |.rb d T A=>@λx=>match y.E U d x with
  |Y (k,x)=>match rC x.hp k with
   |Y true=>rQ y U T x|Y false=>rQ y U A x
   |N=>N
  |N=>N
 |.uY q c j=>@λx=>match tK y U c x with
  |Y (l,e,x)=>uh y U q e j l x|N=>N
 |.Ls d j=>@λx=>wN y U d j 8 x
 |.DX q t H=>@λx=>match v5 U H with
  |Y H=>(rz U 5 q (.ref x.hp.length) ⟨x.loc,x.hp++[.fn t H N]⟩).map (.next,·)|N=>N
 |.yO j=>@λx=>rQ y U j x
 |.stop=>@λJ=>N
noncomputable def ev (g:vA):Nat->Ev
 |0=>⟨λJ J J=>N,λJ J J=>N⟩
 |n+1=>⟨ac7 g<|ev g n,ac6 g<|ev g n⟩
def SV (c:Nat)(x:St):Option O->Option (List V×Gd×St)
 |Y<|.list l=>(vF l).map λf=>(l,Y (c,f),x)
 |_=>N
def N5 (x:St):V->Option (List V×Gd×St)
 |.ref c=>SV c x x.hp[c]?|v=>(w8 x.hp v).map (·,N,x)
theorem C_ {y:Ev}{U:List Nat}{z:St}(h1:∀I,x≠.rev I)(h2:∀I,x≠.enum I):tK y U x z=(match y.E U x z with
  |Y (k,z)=>N5 z k|N=>N):=by
 cases x with
 |rev I=>exact absurd rfl<|h1 I
 |enum I=>exact absurd rfl<|h2 I
 |_=>rfl
section
variable {u:Type}{G:Prop}
theorem mE {b:V->St->Option u}(e:(match o with|Y (k,x)=>b k x|N=>N)=Y y)(d:∀k x,o=Y (k,x)->b k x=Y y->G):G:=by
 cases o with
 |none=>exact nS e|some c=>exact d c.1 c.2 rfl e
theorem mL {b:List V->St->Option u}(e:(match o with|Y (a,x)=>b a x|N=>N)=Y y)(d:∀a x,o=Y (a,x)->b a x=Y y->G):G:=by
 cases o with
 |none=>exact nS e|some c=>exact d c.1 c.2 rfl e
theorem mR {b:List V->Gd->St->Option u}(e:(match o with|Y (a,c,x)=>b a c x|N=>N)=Y y)(d:∀a c x,o=Y (a,c,x)->b a c x=Y y->G):G:=by
 cases o with
 |none=>exact nS e|some f=>exact d f.1 f.2.1 f.2.2 rfl e
theorem mB (e:(match o with|Y true=>a|Y false=>b|N=>N)=Y y)(c:o=Y true->a=Y y->G)(d:o=Y false->b=Y y->G):G:=by
 cases o with
 |none=>exact nS e|some T=>cases T with
  |true=>exact c rfl e|false=>exact d rfl e
theorem mV {b:V->Option u}(e:(match o with|Y k=>b k|N=>N)=Y y)(d:∀k,o=Y k->b k=Y y->G):G:=by
 cases o with
 |none=>exact nS e|some L=>exact d L rfl e
theorem mS {b:St->Option u}(e:(match o with|Y x=>b x|N=>N)=Y y)(d:∀x,o=Y x->b x=Y y->G):G:=by
 cases o with
 |none=>exact nS e|some I=>exact d I rfl e
theorem mK {b:MK->Option u}(e:(match o with|Y f=>b f|N=>N)=Y y)(d:∀f,o=Y f->b f=Y y->G):G:=by
 cases o with
 |none=>exact nS e|some w=>exact d w rfl e
theorem mC {b:List (ba×Nat)->Option u}(e:(match o with|Y a=>b a|N=>N)=Y y)(d:∀a,o=Y a->b a=Y y->G):G:=by
 cases o with
 |none=>exact nS e|some f=>exact d f rfl e
theorem qE {b:V->St->Option u}{x:St}{h:Option u}(e:o=Y (k,x))(i:b k x=h):(match (generalizing:=false) o with|Y (k,x)=>b k x|N=>N)=h:=Q e i
theorem qL {b:List V->St->Option u}{x:St}{h:Option u}(e:o=Y (a,x))(i:b a x=h):(match (generalizing:=false) o with|Y (a,x)=>b a x|N=>N)=h:=Q e i
theorem qR {b:List V->Gd->St->Option u}{a:List V}{x:St}{h:Option u}(e:o=Y (a,c,x))(i:b a c x=h):(match (generalizing:=false) o with|Y (f,c,x)=>b f c x|N=>N)=h:=Q e i
theorem qV {b:V->Option u}{h:Option u}(e:o=Y k)(i:b k=h):(match (generalizing:=false) o with|Y k=>b k|N=>N)=h:=Q e i
theorem qS {b:St->Option u}{h:Option u}(e:o=Y x)(i:b x=h):(match (generalizing:=false) o with|Y x=>b x|N=>N)=h:=Q e i
theorem qK {b:MK->Option u}{h:Option u}(f:o=Y e)(i:b e=h):(match (generalizing:=false) o with|Y e=>b e|N=>N)=h:=Q f i
theorem qC {b:List (ba×Nat)->Option u}{h:Option u}(e:o=Y a)(i:b a=h):(match (generalizing:=false) o with|Y a=>b a|N=>N)=h:=Q e i
theorem qT {T:Option u}(e:o=Y true)(i:a=T):(match (generalizing:=false) o with|Y true=>a|Y false=>b|N=>N)=T:=Q e i
theorem qF {T:Option u}(e:o=Y false)(i:b=T):(match (generalizing:=false) o with|Y true=>a|Y false=>b|N=>N)=T:=Q e i
theorem qM {p U:Type}{o:Option p}{f:p->U}{H:p}(e:o=Y H):o.map f=Y (f H):=Q e rfl
theorem WR {y:Ev}{U:List Nat}{A w:St}(e:y.E U x A=Y (v,st1))(i:y.E U z st1=Y (.int n,w))(t:0<=n/\n<65536):rS y U (.bin .Mult (.list [x]) z) A=Y (.list<|aw n.toNat v,w):=
 have o:sJ y U [x] A=Y ([v],st1):=qE e rfl;have H:ZV y U z st1 [v]=Y (.list<|aw n.toNat v,w):=qE i<|ql t
 (ql rfl:(if isMul .Mult=true then S5 y U z A (.list [x]) else N)=_).trans (qL o H)
theorem LK {y:Ev}{U:List Nat}{x:St}(e:S5 y U b x a=Y (o,rG))(c:∀f k v q,a=.list f->sJ y U f x=Y ([k],v)->y.E U b v=Y (.int q,rG)->0<=q/\q<65536->o=.list (aw q.toNat k)->G):G:=by
 cases a with
 |list f=>
  refine mL e λj v i e=>?_
  cases j with
  |nil=>exact nS e|cons k j=>cases j with
   |cons=>exact nS e|nil=>
    refine mE e λL p n e=>?_
    cases L with
    |int q=>exact qX e λt e=>sy e λz H=>c f k v q rfl i (J H n) t z.symm
    |_=>exact nS e
 |_=>exact nS e
theorem Uo {U:List Nat}{x:St}(e:U[k]?=Y h)(i:x.hp[h]?=Y (.cell y)):yy U (.cell k) x=y:=by
 show (match U[k]? with
  |Y h=>(match x.hp[h]? with
   |Y<|.cell y=>y|_=>N)
  |N=>N)=_
 refine Q e ?_;show (match x.hp[h]? with
   |Y<|.cell y=>y|_=>N)=_
 refine Q i rfl
theorem AP {U:List Nat}{x:St}(e:U[k]?=Y h)(i:x.hp[h]?=Y (.cell w)):rz U (n+1) (.cell k) v x=Y { x with hp:=x.hp.set h<|.cell<|Y v }:=by
 show (match U[k]? with
  |Y h=>(match x.hp[h]? with
   |Y<|.cell _=>Y { x with hp:=x.hp.set h<|.cell<|Y v }|_=>N)
  |N=>N)=_
 refine Q e ?_;show (match x.hp[h]? with
   |Y<|.cell _=>Y { x with hp:=x.hp.set h<|.cell<|Y v }|_=>N)=_
 refine Q i rfl
theorem wV {U:List Nat}{c:St->Option (List V×St)}{f:List V}{x v o:St}(e:um x.hp gd=true)(i:rz U 5 t k x=Y st1)(n:c st1=Y (a,v))(z:sY U t gd c f v=Y (b,o)):sY U t gd c (k::f) x=Y (a++b,o):=(ql e).trans<|qS i<|qL n<|qL z rfl
theorem PH {U:List Nat}{b:St->Option (List V×St)}{x:St}(e:um x.hp gd=true):sY U t gd b [] x=Y ([],x):=ql e
theorem Q8 {y:Ev}{U:List Nat}{x:St}{d:List V}(e:tK y U I x=Y (d,gd,st1))(i:sY U q gd (λx=>match B2 y U f x with
    |Y (true,x)=>yd y U elt ts is fs x|Y (false,x)=>Y ([],x)
    |N=>N) d st1=o):yd y U elt (q::ts) (I::is) (f::fs) x=o:=qR e i
theorem zk {y:Ev}{U:List Nat}{x:St}(e:y.E U elt x=Y (v,st1)):yd y U elt [] [] [] x=Y ([v],st1):=qE e rfl
theorem DZ {y:Ev}{U:List Nat}{x v:St}{d:List V}(e:tK y U I x=Y (d,gd,st1))(i:sY U q gd (λx=>match B2 y U f x with
    |Y (true,x)=>yd y U elt ts is fs x|Y (false,x)=>Y ([],x)
    |N=>N) d ⟨aw n N,st1.hp⟩=Y (vs,v))(w:vs.length<=65536):B3 y U elt (q::ts) (I::is) (f::fs) n 0 x=Y (vs,⟨st1.loc,v.hp⟩):=by
 rw[<- bh st1.hp] at i
 exact qR e<|qL i<|ql<|decide_eq_true w
theorem mN {o:Option<|V×St}{b:St->Option u}(e:(match o with|Y (.none,x)=>b x|_=>N)=Y y) (d:∀x,o=Y (.none,x)->b x=Y y->G):G:=by
 cases o with
 |none=>exact nS e|some c=>
  obtain ⟨k,x⟩:=c
  cases k with
  |none=>exact d x rfl e|_=>exact nS e
theorem mF {o:Option<|Fl×St}{b:St->Option (Fl×St)}{s:Fl}{x:St}(e:(match o with|Y (.next,I)=>b I|o=>o)=Y (s,x)) (d:∀I,o=Y (.next,I)->b I=Y (s,x)->G) (g:∀k,o=Y (.ret k,x)->s=.ret k->G):G:=by
 cases o with
 |none=>exact nS e|some c=>
  obtain ⟨a,I⟩:=c
  cases a with
  |next=>exact d I rfl e|ret k=>exact sy e λi n=>g k (Q n rfl) i.symm
theorem mT {b d:St->Option u}(e:(match o with|Y (true,x)=>b x|Y (false,x)=>d x|N=>N)=Y y)(g:∀x,o=Y (true,x)->b x=Y y->G)(n:∀x,o=Y (false,x)->d x=Y y->G):G:=by
 cases o with
 |none=>exact nS e|some c=>
  obtain ⟨c,x⟩:=c
  cases c with
  |true=>exact g x rfl e|false=>exact n x rfl e
end
def we (g:vA)(U:List Nat)(f:List XS)(x:St):Option<|V×List O:=match rQ (ev g 60) U f x with
 |Y (.ret k,x)=>Y (k,x.hp)|Y (.next,x)=>Y (.none,x.hp)
 |N=>N
section
variable {A:Around}{W:Wd}{f:List O}{d:Nat}
theorem Rep.rB {U:cD}(G:Rep U T I σ v c):Rep U T I σ (Vm.rB v) c:=by
 cases v with
 |qr p=>obtain ⟨x,rfl,_⟩:=G.inv;exact .str _ _
 |_=>exact G
theorem qI.rB {U:cD}{h:List V}(a:qI U T I σ h c):qI U T I σ (h.map Vm.rB) c:=by
 induction h generalizing c with
 |nil=>exact a|cons h l ih=>exact a.sj λJ J G a=>.cons G.rB<|ih a
def vT (s:Wd)(w:bK)(a:List aj):Prop:=∃c,s.s.heap.get? w=Y ⟨.type "list",N,.seq a.toArray c,#[]⟩
def TupAt (s:Wd)(w:bK)(a:List aj):Prop:=∃c,s.s.heap.get? w=Y ⟨.type "tuple",N,.seq a.toArray c,#[]⟩
def DictAt (s:Wd)(w:bK)(a:List DictEntry):Prop:=∃c,s.s.heap.get? w=Y ⟨.type "dict",N,.dict a.toArray c,#[]⟩
theorem vT.is (U:vT W a vs):W.s.heap.IsList a vs.toArray:=let ⟨c,e⟩:=U;⟨_,e,rfl,c,rfl⟩
theorem TupAt.is (x:TupAt W a vs):W.s.heap.IsTuple a vs.toArray:=let ⟨c,e⟩:=x;⟨_,e,rfl,c,rfl⟩
def uD (T:Ctx) (t:Wd) (s:aj):V->Prop
 |.none=>s=.none|.bool U=>s=.bool U
 |.int q=>∃x,s=.int q x
 |.str p=>∃x,s=.str p x
 |.tup l=>∃w h,s=.ref w/\TupAt t w h/\qD T t l h
 |.lst l=>∃w h,s=.ref w/\vT t w h/\qD T t l h
 |.rt j h=>∃w u,s=.ref w/\DictAt t w u/\rj j/\rI T.w.params t.G.T t.G.I t.σ j h u
 |_=>True
theorem DA (T:qP C f W)(k:qu C W v c):uD C W c v:=by
 cases v with
 |none|bool|int|str=>exact k.inv|tup l=>replace k:=k.inv;obtain ⟨w,j,e,i,n,k⟩:=k;exact ta w j i ⟨e,T.I _ _ n⟩ k
 |lst l=>replace k:=k.inv;obtain ⟨w,j,e,i,n,k⟩:=k;exact ta w j i ⟨e,T.I _ _ n⟩ k
 |rt l=>replace k:=k.inv;obtain ⟨w,j,e,i,n,o,k⟩:=k;exact uu w j i ⟨e,T.I _ _ n⟩ o k
 |_=>trivial
theorem rY (U)(c):view U (.ref c)=Ek c U[c]?:=rfl
theorem tY (T:qP C f W)(k:qu C W v c):uD C W c<|view f v:=by
 cases v with
 |qr p=>exact DA T k.rB|ref j=>
  refine Q (rY ..) ?_;obtain ⟨w,i,e⟩:=k.inv;refine qJ (T.rX _ _ e) λV V U=>qY U λI L n z a=>Q n ?_
  cases I with
  |list l=>obtain ⟨u,h,H,k⟩:=a.inv;exact ta w u i ⟨h,J H z⟩ k
  |dict G u=>obtain ⟨u,h,H,o,k⟩:=a.inv;exact uu w u i ⟨h,J H z⟩ o k
  |_=>trivial
 |_=>exact DA T k
theorem LJ (T:qP C f W)(k:qu C W v c)(e:view f v=.str s):∃x,c=.str s x:=(J e<|tY T k:uD C W c<|.str s)
theorem wC (T:qP C f W){h:List V}(k:qu C W v c)(e:view f v=.lst h):∃w j,c=.ref w/\vT W w j/\qD C W h j:=(J e<|tY T k:uD C W c<|.lst h)
theorem LI (T:qP C f W){h:List V}(k:qu C W (.tup h) c):∃w j,c=.ref w/\TupAt W w j/\qD C W h j:=DA T k
theorem yS (T:qP C f W)(k:qu C W v c)(e:view f v=.rt ks vs):∃w u,c=.ref w/\DictAt W w u/\rj ks/\rI C.w.params W.G.T W.G.I W.σ ks vs u:=(J e<|tY T k:uD C W c<|.rt ks vs)
noncomputable def ZL:V->Bool
 |.none|.bool _|.int _|.tup _|.tH ..=>true|_=>false
theorem WZ (e:ZL (view f k)=true):view f k=k:=by
 cases k with
 |ref c=>
  rw[rY] at e ⊢
  generalize f[c]?=o at e ⊢
  rcases o with _|o
  .rfl
  .cases o<;>first|rfl|exact fT e
 |qr=>exact fT e|_=>rfl
theorem ag9 (e:view f v=.int i):v=.int i:=(WZ<|Q e rfl).symm.trans e
theorem qI.length {U:cD}{h:List V}(a:qI U T I σ h vs):h.length=vs.length:=by
 induction h generalizing vs with
 |nil=>exact a.vr rfl|cons v h ih=>exact a.sj λJ J J a=>qn pW<|ih a
theorem qI.get {T:cD}{L:Tm}{s:Gm}{a:List bK}{h:List V}{j:List aj}{c:Nat}{k:V}(i:qI T L s a h j) (e:h[c]?=Y k):∃t,j[c]?=Y t/\Rep T L s a k t:=by
 induction h generalizing j c with
 |nil=>exact nS e|cons U h b=>cases c with
  |zero=>exact i.sj λW W G W=>qp _ rfl<|J (ae e) G
  |succ c=>exact i.sj λW W W i=>(b i e :)
theorem qI.append {U:cD}{h:List V}(a:qI U T I σ h vs)(e:qI U T I σ l' vs'):qI U T I σ (h++l')<|vs++vs':=by
 induction h generalizing vs with
 |nil=>exact a.vr e|cons v h ih=>exact a.sj λJ J G a=>.cons G<|ih a
theorem qI.replicate {U:cD}(G:Rep U T I σ v c):∀n,qI U T I σ (aw n v)<|aw n c
 |0=>.nil|n+1=>.cons G<|qI.replicate G n
theorem Pext0.lst {j:List V}(T:qP C f W)(U:qD C W j vs)(x)(q:Nat:=0):∃a,Pext0 C W a/\qu C a (.lst j) (.ref W.s.heap.objs.size)/\
  a.s={ W.s with heap:=W.s.heap.push ⟨.type "list",N,.seq vs.toArray q,#[]⟩,toks:=x }:=by
 have G:=Pext0.DG ⟨.type "list",N,.seq vs.toArray q,#[]⟩ rfl x T.sD;exact ru _ G (.lst (Gm.rO _ _ _)<|qD.mono U G.le) rfl
theorem Pext0.tup {j:List V}(T:qP C f W)(U:qD C W j vs)(x)(q:Nat:=0):∃a,Pext0 C W a/\qu C a (.tup j) (.ref W.s.heap.objs.size)/\
  a.s={ W.s with heap:=W.s.heap.push ⟨.type "tuple",N,.seq vs.toArray q,#[]⟩,toks:=x }:=by
 have G:=Pext0.DG ⟨.type "tuple",N,.seq vs.toArray q,#[]⟩ rfl x T.sD;exact ru _ G (.tup (Gm.rO _ _ _)<|qD.mono U G.le) rfl
theorem q6.tok {U:aj->ay->Prop}(e:∀T s,Pext0 C W T->qu C T v s->U s T.s)(k:qu C W v s):U s { W.s with toks:=t }:=e ⟨W.G,W.σ,_⟩ _ (Pext0.toks t) k
theorem ve (s):∀(n:Nat)(a:Array aj),List.foldl (λG I=>G++I) a (aw n #[s])=(a.toList++aw n s).toArray
 |0=>@λa=>by simp
 |n+1=>@λa=>by
  refine Q eD<|Q du ?_;rw[ve s n]
  simp[eD]
theorem q6.int {U:aj->ay->Prop}(e:Y (V.int i)=Y v)(h:∀T s,Pext0 C W T->qu C T v s->U s T.s):U (.int i u) { W.s with toks:=t }:=q6.tok h<|J (ae e)<|.int _ _
theorem q6.str {U:aj->ay->Prop}(e:Y (V.str i)=Y v)(h:∀T s,Pext0 C W T->qu C T v s->U s T.s):U (.str i u) { W.s with toks:=t }:=q6.tok h<|J (ae e)<|.str _ _
section
variable {g:ew}{v:V}{E:aj->ay->Prop}
theorem ab9 {q a:Int}{x t:pH}(L:rk d A) (e:WD g q a=Y v) (h:∀T s,Pext0 C W T->qu C T v s->QQq s T.s):wpAny (model C.prog C.w) A (binaryOp g (.int q x)<|.int a t) QQq E W.s:=by
 cases g with
 |Add=>exact PyProof.Rows.add_int<|q6.int e h
 |Sub=>exact sub_int<|q6.int e h
 |Mult=>exact qX e λi e=>mul_int (q6.int e h)<|oF (ag _) (ag _)<|aa (of_decide_eq_true i)<|by decide
 |FloorDiv=>exact rW e λi e=>floordiv_int_or L.1 (λn=>absurd (.inl n) i) (λJ=>q6.int e h) λJ=>.inl<|eq_false_of_ne_true λz=>i<|.inr z
 |Mod=>exact rW e λi e=>mod_int' (λn=>i<|.inl n)<|q6.int e h
 |Pow=>exact qX e λi e=>pow_int i.1 (aB i.2<|by decide)<|q6.int e h
 |LShift=>exact qX e λi e=>lshift_int_or L.1 (λn=>absurd i.1<|hZ.mpr n) (λJ=>aB i.2<|by decide) λJ=>q6.int e h
 |RShift=>exact qX e λi e=>rshift_int i<|q6.int e h
 |BitAnd=>exact and_int<|q6.int e h
 |BitOr=>exact or_int<|q6.int e h
 |BitXor=>exact xor_int<|q6.int e h
 |_=>exact nS e
theorem ab6 {p j:ba}{x t:pH}(e:WA g p j=Y v) (h:∀T s,Pext0 C W T->qu C T v s->QQq s T.s):wpAny (model C.prog C.w) A (binaryOp g (.str p x)<|.str j t) QQq E W.s:=by
 cases g with
 |Add=>exact qX e λi e=>add_str (λw c=>q6.str e h)<|aa (of_decide_eq_true i)<|by decide
 |_=>exact nS e
theorem ab7 (T:qP C f W) {o j:List V}{w q:bK}{u G:List aj}(U:vT W w u) (a:qD C W o u) (k:vT W q G) (H:qD C W j G) (e:WB g o j=Y v) (p:∀b s,Pext0 C W b->qu C b v s->QQq s b.s):wpAny (model C.prog C.w) A (binaryOp g (.ref w)<|.ref q) QQq E W.s:=by
 cases g with
 |Add=>
  refine qX e λi e=>?_
  obtain ⟨h,U⟩:=U;obtain ⟨t,k⟩:=k;refine rT (Pext0.lst T (a.append H) W.s.toks) λb I x n=>concat_meets (qp _ U rfl) (qp _ k rfl) noFill_list_add seq_list_add PySem.F.slot_list_add PySem.F.entry_list_add (PySem.F.args_list_add_2 _ _) (list_addW w q u.toArray G.toArray h t N N #[] #[] ?_)<|ri U k ?_
  .have:=of_decide_eq_true i;rw[a.length,H.length] at this
   exact aa this (by decide)
  .refine Q (List.append_toArray ..) ?_;have:=p b _ I<|J (ae e) x
   rw[n] at this
   exact this
 |_=>exact nS e
theorem ab8 (T:qP C f W) {n:List V}{w:bK}{j:List aj}{q:Int}{x:pH}(U:vT W w j) (a:qD C W n j) (e:WC g n q=Y v) (o:∀b s,Pext0 C W b->qu C b v s->QQq s b.s):wpAny (model C.prog C.w) A (binaryOp g (.ref w)<|.int q x) QQq E W.s:=by
 cases g with
 |Mult=>
  cases n with
  |nil=>exact nS e|cons L n=>cases n with
   |cons=>exact nS e|nil=>
   refine qX e λt e=>?_
   obtain ⟨c,_,rfl,G,p⟩:=a.inv
   cases p.inv
   obtain ⟨h,U⟩:=U;refine rT (Pext0.lst T (qI.replicate G q.toNat) W.s.toks) λb H k i=>nE rfl ⟨_,U,rfl⟩ (λu=>typeIs_int u _ _) noFill_list_mul mh gN repeat_list lQ.lookup
    (gQ gN (typeIs_int _ _ _) lT (lH _ _) (oR q _ w [c].toArray h)
     ⟨U,rfl,⟨_,U,rfl⟩,gQ mf ⟨_,U,rfl⟩ lR (lE _ _)
      (jQ w [c].toArray h q _ (by simp[hJ];lia) (by refine Q (ib _) ?_;lia)<|by refine Q (ib _) ?_;simp[km,j5];lia)
      ⟨U,?_⟩⟩)
   refine Q (ve c q.toNat #[]) ?_;have:=o b _ H<|J (ae e) k
   rw[i] at this
   exact this
 |_=>exact nS e
theorem ae3 (hr:rk d A) (H:qP C f W) {a b:V}(ha:uD C W x a) (hb:uD C W y b) (h:ab_ g a b=Y v) (hQ:∀W' c,Pext0 C W W'->qu C W' v c->QQq c W'.s):wpAny (model C.prog C.w) A (binaryOp g x y) QQq E W.s:=by
 cases a with
 |int i=>cases b with
  |int j=>obtain ⟨_,rfl⟩:=ha;obtain ⟨_,rfl⟩:=hb;exact @ab9 A W _ _ v E QQq _ _ _ _ hr h hQ
  |_=>exact nS h
 |str i=>cases b with
  |str j=>obtain ⟨_,rfl⟩:=ha;obtain ⟨_,rfl⟩:=hb;exact @ab6 A W _ v E QQq _ _ _ _ h hQ
  |_=>exact nS h
 |lst l=>cases b with
  |lst m=>obtain ⟨_,_,rfl,L1,r1⟩:=ha;obtain ⟨_,_,rfl,L2,r2⟩:=hb;exact ab7 H L1 r1 L2 r2 h hQ
  |int j=>obtain ⟨_,_,rfl,L1,r1⟩:=ha;obtain ⟨_,rfl⟩:=hb;exact ab8 H L1 r1 h hQ
  |_=>exact nS h
 |_=>exact nS h
end
theorem Pd (L:rk d A)(T:qP C f W)(k:qu C W a s)(t:qu C W b c)(e:sH f I a b=Y v) :
  q6 C A (binaryOp I s c) (λU h=>qu C U v h) W:=
 q6.mk λJ J i=>ae3 L T (tY T k) (tY T t) e i
theorem PD {L:UnaryOp}(k:qu C W a s)(e:Vt L a=Y v):q6 C A (unaryOp L s) (λT b=>qu C T v b) W:=by
 refine q6.mk λU E h=>?_
 cases a with
 |int q=>
  obtain ⟨_,rfl⟩:=k.inv
  cases L with
  |USub=>exact neg_int<|q6.int e h
  |Invert=>exact invert_int<|q6.int e h
  |_=>exact nS e
 |_=>exact nS e
end
section
variable {A:Around}
theorem W5 {E:aj->ay->Prop}{QQq:Bool->ay->Prop}(ha:uD C W x v)(h:Ip v=Y b)(hQ:∀t,QQq b { W.s with toks:=t }):wpAny (model C.prog C.w) A (truthy x) QQq E W.s:=by
 cases v with
 |none=>exact ha.symm▸truthy_none (Q (ae h)<|hQ W.s.toks)|bool c=>exact ha.symm▸fw (Q (ae h)<|hQ W.s.toks)
 |int i=>
  obtain ⟨_,rfl⟩:=ha;exact PyProof.Rows.truthy_int<|((ae h).symm.trans (by by_cases q:i=0<;>simp[q]):b=(i != 0))▸hQ W.s.toks
 |str s=>
  obtain ⟨_,rfl⟩:=ha;refine qX h λAr h=>?_
  have h1:s.cps.size<=65536:=of_decide_eq_true Ar
  refine SBL.truthy (by refine (?_:(s.cps.size:Int)<_);lia) ?_;exact ((ae h).symm.trans (by by_cases q:s.cps.size=0<;>simp[q]):b=((s.cps.size:Int) != 0))▸hQ _
 |lst l=>
  obtain ⟨a,vs,rfl,L,r⟩:=ha;refine qX h λhl' h=>?_
  have h1:l.length<=65536:=of_decide_eq_true hl'
  have h2:=r.length;exact wpAny_truthy_list L.is (by simp only[bj];exact bq.mpr<|av (h2▸h1)<|by decide)<|((ae h).symm.trans (by refine Q h2 ?_;cases vs<;>rfl):b=!vs.toArray.isEmpty)▸hQ _
 |_=>exact nS h
theorem wW (L:rk d A)(T:qP C hp W)(k:qu C W v s)(e:rC hp v=Y b) :
  q6 C A (truthy s) (λU G=>G=b) W:=
 q6.mk λJ J c=>W5 (tY T k) e λh=>c ⟨W.G,W.σ,_⟩ _ (Pext0.toks h) rfl
@[elab_as_elim] theorem H_ {T:Bool}{b:Bool->Prop}(e:Ci o p=Y T)(d:∀x w,o=Y x->p=Y w->b (x&&w)):b T:=sk e λx i e=>A0 e λw n=>d x w i n
theorem X' {b:V->V->Option Bool}{T:Bool}(e:zS b a f=Y T):∃d:Nat->Bool,T=(aq a.length).all d/\∀(c:Nat) k L,a[c]?=Y k->f[c]?=Y L->b k L=Y (d c):=by
 induction a generalizing f T with
 |nil=>exact qX e λJ e=>qp (λJ=>true) ((ae e).symm) λJ J J d=>nS d
 |cons x a g=>cases f with
  |nil=>exact nS e|cons U f=>
   refine H_ e λG w i n=>qt (g n) λd z o=>qp (λc=>Nat.casesOn c G d) ?_ λc k L=>?_
   .exact Q (aQ ..)<|Q (jB ..)<|Q (fm ..)<|Q (jE ..)<|Q z rfl
   .cases c with
    |zero=>exact λH h=>ae H▸ae h▸i
    |succ c=>exact o c k L
theorem getElem_of_get? {o:Type}{a:List o}{G:j<a.toArray.size}:a[j]?=Y (a.toArray[j]):=by refine ax (aD<|by simpa using G) ?_;rfl
theorem qI.at {T:cD}{L:Tm}{s:Gm}{a:List bK}{f:List V}{j:List aj}(b:qI T L s a f j) {c:Nat}{t:aj}(e:j[c]?=Y t):∃k,f[c]?=Y k/\Rep T L s a k t:=by
 have G:c<f.length:=Q b.length<|(aO.mp e).1
 refine qt (b.get<|aD G) λh i H=>?_
 rw[e] at i;(refine Vm.sI i ?_;clear i;rintro rfl)
 exact qp _ (aD G) H
theorem Kb {c:Nat}{a f:List V}{j v:List aj}{T:Bool}(U:qD C W a j) (G:qD C W f v)
  (b:∀(k L:V)(T:Bool)(x d:aj),rU c k L=Y T->qu C W k x->qu C W L d->p8 A.in1 W.s x d T)
  (o:zS (rU c) a f=Y T):∃e:Nat->Bool,T=(aq j.toArray.size).all e/\∀h (H:h<j.toArray.size) (p:h<v.toArray.size),p8 A.in1 W.s j.toArray[h] v.toArray[h]<|e h:=qt (X' o) λe i g=>qp e (Q i<|Q U.length rfl) λh H p=>qt (U.at<|getElem_of_get?) λI n s=>qt (G.at<|getElem_of_get?) λq z t=>b I q _ _ _ (g h I q n z) s t
theorem Ik:rB (view a k)=view a k:=by
 cases k with
 |ref c=>
  delta view;dsimp only;rcases a[c]? with _|o
  .rfl
  .cases o<;>rfl
 |_=>rfl
theorem yz {o:Type}[DecidableEq o][BEq o][LawfulBEq o](G p:o):decide (G=p)=(G==p):=by by_cases e:G=p<;>simp[e]
section
variable (u:A.units<cLine)
theorem Xs (I:uD C W y b)(e:eqN b=Y r):RcAt A W.s .none y r/\m_ A W.s .none y (!r):=by
 cases b with
 |none=>exact Q I<|J (ae e) ⟨.none_none,.none_none⟩
 |str p=>obtain ⟨z,rfl⟩:=I;exact J (ae e) ⟨.none_str _ _,.none_str _ _⟩
 |_=>exact nS e
theorem Z1 (I:uD C W y b)(e:eqS p b=Y r):RcAt A W.s (.str p z) y r/\m_ A W.s (.str p z) y (!r):=by
 cases b with
 |str p=>obtain ⟨z,rfl⟩:=I;exact J (ae e)<|Q (yz ..) ⟨.str_str _ _ _ _,.str_str _ _ _ _⟩
 |none=>exact Q I<|J (ae e) ⟨.str_none _ _,.str_none _ _⟩
 |_=>exact nS e
theorem Xu (I:uD C W y b)(e:eqB G b=Y r):RcAt A W.s (.bool G) y r/\m_ A W.s (.bool G) y (!r):=by
 cases b with
 |bool G=>exact Q I<|J (ae e) ⟨.bool_bool _ _,.bool_bool _ _⟩
 |_=>exact nS e
theorem Z3 (I:uD C W y b)(e:eqI q b=Y r):RcAt A W.s (.int q z) y r/\m_ A W.s (.int q z) y (!r):=by
 cases b with
 |int q=>obtain ⟨z,rfl⟩:=I;exact J (ae e)<|Q (yz ..) ⟨.int_int _ _ _ _,.int_int _ _ _ _⟩
 |_=>exact nS e
include u
theorem Z0 {a:List V}{v:bK}(y:TupAt W v vs)(U:qD C W a vs)(I:uD C W s k)(b:∀(L k:V)(r:Bool)(x s:aj),rU c L k=Y r->qu C W L x->qu C W k s->p8 A.in1 W.s x s r)(e:eqT (rU c) a k=Y r):RcAt A W.s (.ref v) s r/\m_ A W.s (.ref v) s (!r):=by
 cases k with
 |tup m=>
  obtain ⟨q,w,rfl,p,G⟩:=I;refine qX e λi e=>qt (Kb U G b e) λd n g=>?_
  have:=RcAt.tuples y.is p.is u g;have o:=m_.tuples y.is p.is u g;rw[<- (by simp only[bj];refine J U.length<|J G.length<|Q i rfl:vs.toArray.size=w.toArray.size),iK,<-n] at this o
  simpa using lb this o
 |_=>exact nS e
theorem Z2 {a:List V}{v:bK}(U:vT W v vs)(f:qD C W a vs)(I:uD C W s k)(b:∀(L k:V)(r:Bool)(x s:aj),rU c L k=Y r->qu C W L x->qu C W k s->p8 A.in1 W.s x s r)(e:abx (rU c) a k=Y r):RcAt A W.s (.ref v) s r/\m_ A W.s (.ref v) s (!r):=by
 cases k with
 |lst m=>
  obtain ⟨q,w,rfl,o,G⟩:=I
  by_cases i:a.length=m.length
  .refine qt (Kb f G b<|(ql i).symm.trans e) λd n g=>?_
   have z:vs.toArray.size=w.toArray.size:=by simp only[bj];refine J f.length<|J G.length<|Q i rfl
   exact Q n ⟨RcAt.lists U.is o.is z u g,m_.lists U.is o.is z u g⟩
  .refine J (ae<|(qm i).symm.trans e) ?_;have z:(vs.toArray.size != w.toArray.size)=true:=by simp only[bj];refine J f.length<|J G.length ?_;simpa using i
   exact ⟨RcAt.lists_lengths U.is o.is z u,m_.lists_lengths U.is o.is z u⟩
 |_=>exact nS e
theorem ZZ (I:uD C W x k)(s:uD C W a L)(b:∀(k L:V)(r:Bool)(x a:aj),rU c k L=Y r->qu C W k x->qu C W L a->p8 A.in1 W.s x a r)(e:Dc (rU c) k L=Y r):RcAt A W.s x a r/\m_ A W.s x a (!r):=by
 cases k with
 |none=>exact I.symm▸Xs s e|bool G=>exact I.symm▸Xu s e
 |int q=>obtain ⟨_,rfl⟩:=I;exact Z3 s e
 |str q=>obtain ⟨_,rfl⟩:=I;exact Z1 s e
 |tup l=>obtain ⟨_,_,rfl,y,U⟩:=I;exact Z0 u y U s b e
 |lst l=>obtain ⟨_,_,rfl,y,U⟩:=I;exact Z2 u y U s b e
 |_=>exact nS e
end
theorem toArray_inj {o:Type}{a f:List o}(e:a.toArray=f.toArray):a=f:=qn Array.toList e
noncomputable def kV:V->Nat
 |.none=>0|.bool J=>1|.int J=>2|.str J=>3|.tup J=>4|.lst J=>5
 |_=>9
noncomputable def kOb:Option gw->Nat
 |Y G=>if G.cls==.type "tuple" then 4 else 5
 |N=>5
def kX (I:Gm):aj->Nat
 |.none=>0|.bool J=>1|.int J W=>2|.str J W=>3
 |.ref v=>kOb<|I v
 |_=>9
theorem Mj {c:V->V->Option Bool}{T:Bool}(e:Dc c a b=Y T):kV a<9:=by
 cases a with
 |none|bool|int|str|tup|lst=>exact Nat.lt_of_sub_pos<|fI _
 |_=>exact nS e
section
variable {x:aj}
theorem VR (G:Rep P T I σ a x)(H:kV a<9):kX I x=kV a:=by
 cases a with
 |none|bool=>exact Q G.inv rfl|int|str=>obtain ⟨_,rfl⟩:=G.inv;rfl
 |tup=>obtain ⟨_,_,_,rfl,e,_⟩:=G.inv;exact (qn kOb e).trans rfl
 |lst=>obtain ⟨_,_,_,rfl,e,_⟩:=G.inv;exact (qn kOb e).trans rfl
 |_=>exact absurd H<|b8 9
theorem Qc {c d:V->V->Option Bool}{U:Bool}(e:Dc c a b=Y U)(i:Dc d a' b'=Y r')(G:Rep P T I σ a x)(g:Rep P T I σ a' x):kV a=kV a':=(VR G<|Mj e).symm.trans<|VR g<|Mj i
theorem AR {f j:List V}(U:∃v y c,x=.ref v/\I v=Y ⟨.type s,N,.seq (c8 y) c,#[]⟩/\qI P T I σ f y)(a:∃v y c,x=.ref v/\I v=Y ⟨.type s,N,.seq (c8 y) c,#[]⟩/\qI P T I σ j y):∃y,qI P T I σ f y/\qI P T I σ j y:=by
 refine Eg U λq y c g e b=>?_;subst g
 refine Eg a λw d t n z h=>?_
 have n:q=w:=by injection n
 subst n;have H:=ae<|e.symm.trans z
 injection H with _ _ H _
 injection H with H _
 exact qp y b<|Q (toArray_inj H) h
end
theorem L3 {c h:Nat}{o:Prop}(e:c=h) (i:nk c h=false):o:=absurd e<|nh i
theorem Kf {b:V->V->Option Bool}{U:cD}(d:∀(k L:V)(a:Bool)(x:aj),b k L=Y a->Rep U T I σ k x->Rep U T I σ L x->a=true){f:List V}{a:Bool}(e:zS b f j=Y a)(c:qI U T I σ f vs)(o:qI U T I σ j vs):a=true:=by
 induction f generalizing j vs a with
 |nil=>exact qX e λJ e=>(ae e).symm
 |cons k f g=>cases j with
  |nil=>exact nS e|cons L j=>
   replace c:=c.inv;obtain ⟨p,y,rfl,H,c⟩:=c;replace o:=o.inv;obtain ⟨h,G,i,q,o⟩:=o;injection i with i s
   subst i s
   exact H_ e λt w n z=>Q (d _ _ _ _ n H q)<|ax (g z c o) rfl
theorem Uz {b:V->V->Option Bool}{U:cD}(d:∀(k L:V)(a:Bool)(s:aj),b k L=Y a->Rep U T I σ k s->Rep U T I σ L s->a=true){k:V}{a:Bool}(e:Dc b k L=Y a)(ha:Rep U T I σ k s)(hb:Rep U T I σ L s):a=true:=by
 cases k with
 |none=>cases L with
  |none=>exact (ae e).symm|str p=>obtain ⟨_,i⟩:=hb.inv;exact ou<|ha.inv.symm.trans i
  |_=>exact nS e
 |bool p=>cases L with
  |bool G=>
   have i:=ha.inv.symm.trans hb.inv;injection i with i
   subst i;exact (ae e).symm.trans<|beq_self_eq_true p
  |_=>exact nS e
 |int p=>cases L with
  |int G=>
   obtain ⟨_,rfl⟩:=ha.inv;obtain ⟨_,i⟩:=hb.inv;injection i with i
   exact (ae e).symm.trans<|decide_eq_true i
  |_=>exact nS e
 |str p=>cases L with
  |str G=>
   obtain ⟨_,rfl⟩:=ha.inv;obtain ⟨_,i⟩:=hb.inv;injection i with i
   exact (ae e).symm.trans<|decide_eq_true i
  |none=>obtain ⟨_,i⟩:=ha.inv;exact ou<|hb.inv.symm.trans i
  |_=>exact nS e
 |tup l=>cases L with
  |tup j=>
   obtain ⟨v,r1,f⟩:=AR ha.inv hb.inv;exact qX e λJ e=>Kf d e r1 f
  |_=>exact nS e
 |lst l=>cases L with
  |lst j=>
   obtain ⟨v,r1,f⟩:=AR ha.inv hb.inv;exact Kf d ((ql<|r1.length.trans f.length.symm).symm.trans e) r1 f
  |_=>exact nS e
 |_=>exact nS e
theorem UA {U:cD}(c):∀(k L:V)(a:Bool)(x:aj),rU c k L=Y a->Rep U T I σ k x->Rep U T I σ L x->a=true:=by
 induction c with
 |zero=>exact λJ J J J e=>nS e
 |succ c b=>exact λk L a x e G g=>Uz b e G.rB g.rB
theorem aib {T:Bool}(I:uD C W x a)(s:uD C W y b)(t:RcAt A W.s x y T)(f:x=y->T=true)(e:Dc (rU c) a b=Y T):p8 A W.s x y T:=by
 have d:∀{v q:bK},x=.ref v->y=.ref q->p8 A W.s x y T:=λ{v q} i n=>by
  subst i n
  by_cases z:v=q
  .subst z;exact Q (f rfl)<|p8.same _
  .exact p8.of_refs z t
 cases a with
 |none=>cases b with
  |none=>exact Q (show x=.none from I)<|Q (show y=.none from s)<|J (ae e)<|p8.same _
  |str=>obtain ⟨_,g⟩:=s;exact Q (show x=.none from I)<|Q g<|J (ae e)<|p8.none_str _ _
  |_=>exact nS e
 |bool G=>cases b with
  |bool G=>exact Q (show x=.bool _ from I)<|Q (show y=.bool _ from s)<|J (ae e)<|pQ _ _
  |_=>exact nS e
 |int G=>cases b with
  |int G=>obtain ⟨_,g⟩:=s;obtain ⟨_,k⟩:=I;exact Q g<|Q k<|J (ae e)<|Q (yz ..)<|p8.int_int _ _ _ _
  |_=>exact nS e
 |str G=>cases b with
  |str G=>obtain ⟨_,g⟩:=s;obtain ⟨_,k⟩:=I;exact Q g<|Q k<|J (ae e)<|Q (yz ..)<|p8.str_str _ _ _ _
  |none=>obtain ⟨_,g⟩:=I;exact Q (show y=.none from s)<|Q g<|J (ae e)<|p8.str_none _ _
  |_=>exact nS e
 |tup l=>cases b with
  |tup l=>obtain ⟨_,_,g,_⟩:=I;obtain ⟨_,_,k,_⟩:=s;exact d g k
  |_=>exact nS e
 |lst l=>cases b with
  |lst l=>obtain ⟨_,_,g,_⟩:=I;obtain ⟨_,_,k,_⟩:=s;exact d g k
  |_=>exact nS e
 |_=>exact nS e
theorem Ke (T:qP C hp W)(c):∀(A:Around),A.units+c<cLine->∀(k L:V)(U:Bool)(x a:aj),rU c k L=Y U->qu C W k x->qu C W L a->p8 A W.s x a U:=by
 induction c with
 |zero=>exact λJ J J J J J J e=>nS e
 |succ c b=>
  intro A u k L U x a e n s;exact aib (DA T n.rB) (DA T s.rB) (ZZ (Nat.lt_of_add_right_lt u) (DA T n.rB) (DA T s.rB) (b A.in1<|av (aN<|cV ..) u) e).1 (λi=>UA (c+1) k L U x e n<|Q i s) e
end
structure Kd (prog:iE) (w:d7) (K:Type) [DecidableEq K] where
 knd:pK prog w K
 inj:K->V
 ke:∀a b,tx (inj a) (inj b)=some (decide<|a=b)
 fwd:∀{T:Tm}{I:Gm}{σ:List bK}{x:K}{v:V}{ks vs:List V}{e:DictEntry}{es:List DictEntry},knd.is x e.key=true->e.hash=knd.hash x->Rep w.params T I σ v e.val->rI w.params T I σ ks vs es->rI w.params T I σ (inj x::ks) (v::vs) (e::es)
 bwd:∀{T:Tm}{I:Gm}{σ:List bK}{x:K}{ks vs:List V}{es:List DictEntry},rI w.params T I σ (inj x::ks) vs es->∃v vs' e C',vs=v::vs'/\es=e::C'/\knd.is x e.key=true/\e.hash=knd.hash x/\Rep w.params T I σ v e.val/\rI w.params T I σ ks vs' C'
noncomputable def vx (prog:iE)(w:d7):Kd prog w ba where
 knd:=fg prog w
 inj:=.str
 ke _ _:=rfl
 fwd {T I σ x v ks vs e es} h1 h2 h3 h4:=by
  obtain ⟨h,k,c⟩:=e;obtain ⟨t,e1⟩:=nF h1;simp only at e1 h2 h3
  refine Q e1 ?_;clear e1;exact .str h2 h3 h4
 bwd {T I σ x ks vs es} h:=by
  cases vs with
  |nil=>exact nomatch h.vr.1|cons v vs=>exact h.sj.elim λe h=>h.elim λC' h=>Hw v vs e C' rfl h.1 (h.2.1.1.elim λt k=>Q k<|beq_self_eq_true x) h.2.1.2 h.2.2
noncomputable def VS (prog:iE)(w:d7):Kd prog w Int where
 knd:=PySem.intKind prog w
 inj:=.int
 ke _ _:=rfl
 fwd {T I σ x v ks vs e es} h1 h2 h3 h4:=by
  obtain ⟨h,k,c⟩:=e;obtain ⟨t,e1⟩:=ov h1;simp only at e1 h2 h3
  refine Q e1 ?_;clear e1;exact .int h2 h3 h4
 bwd {T I σ x ks vs es} h:=by
  cases vs with
  |nil=>exact nomatch h.vr.1|cons v vs=>exact h.sj.elim λe h=>h.elim λC' h=>Hw v vs e C' rfl h.1 (h.2.1.1.elim λt k=>Q k<|beq_self_eq_true x) h.2.1.2 h.2.2
section
variable {K:Type} [DecidableEq K] (D:Kd prog w K)
theorem rI.split:∀{f:List K}{j:List V}{u:List DictEntry},rI w.params T I σ (f.map D.inj) j u->
  ∃t,qI w.params T I σ j t/\f.length=t.length/\jK D.knd u (f.zip t)/\∀h∈u,∃k,D.knd.is k h.key=true/\h.hash=D.knd.hash k
 |[],j,u,e=>Q e.aae.1<|Q e.aae.2<|HA ([]) .nil rfl .nil λW e=>nomatch e
 |x::f,j,u,e=>by obtain ⟨v,o,h,G,p,n,z,H,L,y⟩:=(D.bwd e);exact HD (rI.split y) λt a b A d=>HA (h.val::t) (Q p<|.cons L a) (qn (·+1) b) (Q n<|.cons z rfl A) λU c=>(aE.mp (J n c:U∈h::G)).elim (λq=>Q q<|qp x z H)<|d U
theorem Qq (y:jK D.knd es []):es=[]:=by cases y;rfl
theorem Ol (y:jK D.knd es<|kv::kvs):∃h j,es=h::j/\D.knd.is kv.1 h.key=true/\h.val=kv.2/\jK D.knd j kvs:=by cases y with|cons e n o=>exact uu _ _ rfl e n o
theorem DC (a:qI P T I σ f []):f=[]:=by
 cases f with
 |nil=>rfl|cons v f=>exact a.inv.elim λt a=>a.elim λU a=>nomatch a.1
theorem Gv {U:List aj}(a:qI P T I σ f<|c::U):∃v u,f=v::u/\Rep P T I σ v c/\qI P T I σ u U:=by
 cases f with
 |nil=>exact nomatch a.inv|cons v f=>exact a.inv.elim λd a=>a.elim λG a=>ta v f rfl (Q ((fE a.1).1) a.2.1)<|Q ((fE a.1).2) a.2.2
theorem rI.join:∀{f:List<|K×aj}{j:List V}{u:List DictEntry},jK D.knd u f->(∀h∈u,∃k,D.knd.is k h.key=true/\h.hash=D.knd.hash k)->qI w.params T I σ j (f.map (·.2))->
  rI w.params T I σ ((f.map (·.1)).map D.inj) j u
 |[]=>λy W a=>Q (Qq D y)<|Q (DC a) .nil
 |kv::f=>λy o a=>by
  refine xP (Ol D y) λh u e q n t=>qY (Gv a) λv j z G x=>?_
  rw[e] at o ⊢
  exact Q z<|qt (o h<|.head _) λp H b=>D.fwd q (b.trans<|qn D.knd.hash<|D.knd.inj _ _ _ H q) (J n.symm G)<|rI.join t (λh c=>o h<|.tail _ c) x
end
theorem IS {p:ba}(e:tx (.str p) v=Y b):∃k,V.str k=v:=by
 cases v with
 |str f=>exact ⟨f,rfl⟩|_=>exact nS e
theorem IT {q:Int}(e:tx (.int q) v=Y b):∃k,V.int k=v:=by
 cases v with
 |int d=>exact ⟨d,rfl⟩|_=>exact nS e
theorem IU {p:ba}(e:tx v (.str p)=Y b):∃k,V.str k=v:=by
 cases v with
 |str f=>exact ⟨f,rfl⟩|_=>exact nS e
theorem IV {q:Int}(e:tx v (.int q)=Y b):∃k,V.int k=v:=by
 cases v with
 |int d=>exact ⟨d,rfl⟩|_=>exact nS e
section
variable {K:Type}{inj:K->V}(g:∀{s:K}{v:V}{b:Bool},tx (inj s) v=Y b->∃k,inj k=v) (i:∀{s:K}{v:V}{b:Bool},tx v (inj s)=Y b->∃k,inj k=v)
include g
theorem Fv:∀{a:List V},(∀b∈a,tx (inj G) b=Y false)->∃f:List K,f.map inj=a
 |[]=>@λJ=>⟨[],rfl⟩
 |k::a=>@λh=>(g<|h k<|.head _).elim λc e=>(Fv λb d=>h b<|.tail _ d).elim λf j=>⟨c::f,congr (qn mD e) j⟩
theorem R5 (n:rj<|inj G::a):∃f:List K,inj G::a=f.map inj:=(Fv g (iP.mp n).1).elim λf e=>⟨G::f,qn _ e.symm⟩
include i
theorem CJ {k:V}{y:Type}{a:y}{n:Bool->Option y}(o:rj<|k::ks)(e:(tx k<|inj x).bind n=Y a):∃f:List K,k::ks=f.map inj:=by
 refine qt (gv.mp e) λb e J=>?_
 obtain ⟨p,rfl⟩:=i e;exact R5 g o
end
theorem zm (n)(a)(L)(f)(A):findKey (n::a) (L::f) A=(tx n A).bind λb=>if b=true then Y (Y L) else findKey a f A:=by
 show (match tx n A with|Y true=>Y<|Y L|Y false=>findKey a f A|N=>N)=_
 cases tx n A with
 |none=>rfl|some b=>cases b<;>rfl
theorem z8 (n)(a)(L)(f)(A T):tQ (n::a) (L::f) A T=(tx n A).bind λb=>if b=true then Y (n::a,T::f) else (tQ a f A T).bind λc=>Y (n::c.1,L::c.2):=by
 show (match tx n A with|Y true=>Y (n::a,T::f)|Y false=>(match tQ a f A T with|Y (j,b)=>Y (n::j,L::b)|N=>N)|N=>N)=_
 cases tx n A with
 |none=>rfl|some b=>cases b with
  |true=>rfl|false=>
   cases tQ a f A T<;>rfl
theorem rj.nodup {o:Type}[DecidableEq o]{G:iE}{n:d7}(j:Kd G n o){xs:List o}(p:rj<|xs.map j.inj):xs.Nodup:=by
 refine (e_.mp p).imp λ{H b} p e=>?_
 subst e;rw[j.ke] at p
 simp at p
theorem rj.Tn {o:Type}[DecidableEq o]{G:iE}{n:d7}(j:Kd G n o){xs:List o}(h:xs.Nodup):rj<|xs.map j.inj:=by refine e_.mpr<|h.imp λ{p b} h=>Q (j.ke ..)<|Q (decide_eq_false h) rfl
structure afj {K:Type} [DecidableEq K] {prog:iE}{w:d7}(D:Kd prog w K) (W:Wd) (a:bK) (ks vs:List V) (xs:List K) (M:List aj):Prop where
 ks:ks=xs.map D.inj
 rep:qI w.params W.G.T W.G.I W.σ vs M
 dict:W.s.heap.DictOf D.knd a<|xs.zip M
 len:xs.length=M.length
theorem zp {o:Type}[DecidableEq o](j:Kd C.prog C.w o){xs:List o}(d:DictAt W a es)(h2:rj<|xs.map j.inj)(y:rI C.w.params W.G.T W.G.I W.σ (xs.map j.inj) vs es) :
  ∃U,afj j W a (xs.map j.inj) vs xs U:=by
 obtain ⟨c,e⟩:=d;exact HD (rI.split j y) λU f n z p=>⟨U,rfl,f,Eb _ es.toArray c e (ri rfl rfl rfl) rfl (λh q=>p h<|by simpa using q) (by simpa using z)<|Q (d_<|aN n)<|h2.nodup j,n⟩
theorem vY {G:iE}{n:d7}{o:Type} [DecidableEq o] (p:Kd G n o) {T:cD}{L:Tm}{t:Gm}{a:List bK}{H:o}:∀{f:List o}{j:List V}{U:List aj}{r:Option V},qI T L t a j U->findKey (f.map p.inj) j (p.inj H)=Y r->
  (r=N/\g9 (f.zip U) H=N)\/∃v c,r=Y v/\g9 (f.zip U) H=Y c/\Rep T L t a v c
 |[],[],J,W,d,e=>.inl ⟨(ae e).symm,rfl⟩|[],_::_,_,_,_,e=>nS e
 |_::_,[],_,_,_,e=>nS e|y::f,v::j,U,r,d,e=>by
  obtain ⟨c,U,rfl,I,h⟩:=d.inv;rw[bB,zm,p.ke] at e
  by_cases q:y=H
  .exact .inr<|ta v c ((ae<|(ql<|decide_eq_true q).symm.trans e).symm) (by simp[g9,q]) I
  .skip
   exact Q (by simp[g9,q]:g9 ((y::f).zip<|c::U) H=g9 (f.zip U) H)<|vY p h<|(qm<|by exact Q (decide_eq_false q) dn).symm.trans e
theorem J5 {y:Option V}(n:rj a)(e:findKey a f (.str x)=Y y):∃j:List ba,a=j.map V.str:=by
 cases a with
 |nil=>exact ⟨[],rfl⟩|cons k a=>cases f with
  |nil=>exact nS e|cons v f=>exact CJ IS IU n<|(zm ..).symm.trans e
theorem J6 {y:Option V}(n:rj a)(e:findKey a f (.int x)=Y y):∃j:List Int,a=j.map V.int:=by
 cases a with
 |nil=>exact ⟨[],rfl⟩|cons k a=>cases f with
  |nil=>exact nS e|cons v f=>exact CJ IT IV n<|(zm ..).symm.trans e
theorem K7 {o:Type} [DecidableEq o] {G:o}{a:List o}{c0 c:aj}{U:List aj}(H:G∉a):eZ ((G::a).zip<|c0::U) G c=(G,c)::a.zip U:=by delta eZ;refine ax (ql<|by simp) ?_;simp only[cB,bB,if_true];congr 1;exact (dB λd e=>ax (qm λn=>H<|by exact J n<|(px e).1) rfl).trans<|List.map_id _
theorem II {o:Type} [DecidableEq o] {G p:o}{a:List o}{c0 c:aj}{U:List aj}(H:¬p=G):eZ ((p::a).zip<|c0::U) G c=(p,c0)::eZ (a.zip U) G c:=by
 delta eZ;simp only[cB,hY,H,decide_false,Bool.false_or,bB,if_false]
 split<;>rfl
theorem BI {I:iE}{n:d7}{o:Type} [DecidableEq o] (D:Kd I n o) {T:cD}{L:Tm}{t:Gm}{a:List bK}{U:o}{v:V}{c:aj}(hv:Rep T L t a v c):∀{f:List o}{j:List V}{M:List aj}{G d:List V},f.Nodup->f.length=M.length->qI T L t a j M->tQ (f.map D.inj) j (D.inj U) v=Y (G,d)->
  G=((eZ (f.zip M) U c).map (·.1)).map D.inj/\qI T L t a d ((eZ (f.zip M) U c).map (·.2))
 |[],[],W,P,F,R,e,A,h=>by obtain ⟨rfl,rfl⟩:=b0 (ae h);exact Q A.inv ⟨rfl,.cons hv .nil⟩
 |[],_::_,_,_,_,_,_,_,h=>nS h|_::_,[],_,_,_,_,_,_,h=>nS h
 |y::f,u::j,M,G,d,x,e,A,h=>by
  obtain ⟨c0,M,rfl,h1,h2⟩:=A.inv;rw[bB,z8,D.ke] at h
  by_cases q:y=U
  .refine rF (b0<|ae<|(ql<|decide_eq_true q).symm.trans h) λz H=>J q<|Q (K7 (bI.mp x).1)<|J z<|J H ⟨?_,?_⟩
   .exact Q (bB ..)<|Q (d_<|aN<|cC e) rfl
   .exact Q (bB ..)<|Q (g_<|aN (cC e).symm)<|.cons hv h2
  .refine qt (gv.mp<|(qm<|by exact Q (decide_eq_false q) dn).symm.trans h) λp z H=>rF (BI D hv (bI.mp x).2 (cC e) h2 (z:_=Y (p.1,p.2))) λr1 r2=>?_
   obtain ⟨H,e3⟩:=b0 (ae H);refine Q (II q) ?_;rewrite [<- H,<-e3,bB];exact Q bB<|Q bB<|J r1 ⟨rfl,.cons h1 r2⟩
theorem K8 (n:rj a)(e:tQ a f (.str x) v=Y (u5,vs')):∃G:List ba,a=G.map V.str:=by
 cases a with
 |nil=>exact ⟨[],rfl⟩|cons k a=>cases f with
  |nil=>exact nS e|cons w f=>exact CJ IS IU n<|(z8 ..).symm.trans e
theorem K9 (n:rj a)(e:tQ a f (.int x) v=Y (u5,vs')):∃G:List Int,a=G.map V.int:=by
 cases a with
 |nil=>exact ⟨[],rfl⟩|cons k a=>cases f with
  |nil=>exact nS e|cons w f=>exact CJ IT IV n<|(z8 ..).symm.trans e
theorem zo {K:Type} [DecidableEq K] (o:Kd C.prog C.w K) {p:fM}{A:bK}{kvs:List<|K×aj}{L:Tm}{t:Gm}{f:List bK}{j:List V}(T:p.DictOf o.knd A kvs) (a:qI C.w.params L t f j<|kvs.map (·.2)) :
  ∃u c,p.get? A=Y ⟨.type "dict",N,.dict (c8 u) c,#[]⟩/\rj ((kvs.map (·.1)).map o.inj)/\rI C.w.params L t f ((kvs.map (·.1)).map o.inj) j u:=by
 obtain ⟨⟨G,y,U,d⟩,u,c,ho,⟨q,n,z⟩,H,I,h,x⟩:=T;simp only at q n z H
 subst q n z H;exact ta u.toList c (by simpa using ho) (.Tn o x)<|rI.join o h (λe he=>I e<|by simpa using he) a
section
theorem Mk {b:V->V->Option Bool}{U:cD}(d:∀(k L A:V)(a G:Bool)(s:aj),b k A=Y a->b L A=Y G->Rep U T I σ k s->Rep U T I σ L s->a=G){f u:List V}{a:Bool}(h:zS b f u=Y a)(i:zS b j u=Y G)(o:qI U T I σ f vs)(e:qI U T I σ j vs):a=G:=by
 induction f generalizing j u vs a G with
 |nil=>
  obtain rfl:=o.inv
  cases j with
  |nil=>exact ae<|h.symm.trans i
  |cons=>obtain ⟨_,_,n,_⟩:=e.inv;exact ahI n
 |cons k f g=>
  replace o:=o.inv;obtain ⟨p,M,rfl,t,o⟩:=o
  cases j with
  |nil=>exact Wq e.inv|cons L j=>cases u with
   |nil=>exact nS h|cons A u=>
    replace e:=e.inv;obtain ⟨x,cs',n,y,e⟩:=e;injection n with n e'
    subst n e'
    exact H_ h λw q z H=>H_ i λp' v c h2'=>by refine Q (d _ _ _ _ _ _ z c t y)<|Q (g H h2' o e) rfl
theorem kV0 (e:0=kV a):a=.none:=by cases a with|none=>rfl|_=>exact L3 e rfl
theorem kV1 (e:1=kV a):∃T,a=.bool T:=by cases a with|bool T=>exact ⟨T,rfl⟩|_=>exact L3 e rfl
theorem kV2 (e:2=kV a):∃q,a=.int q:=by cases a with|int q=>exact ⟨q,rfl⟩|_=>exact L3 e rfl
theorem kV3 (e:3=kV a):∃p,a=.str p:=by cases a with|str p=>exact ⟨p,rfl⟩|_=>exact L3 e rfl
theorem kV4 (e:4=kV a):∃b,a=.tup b:=by cases a with|tup b=>exact ⟨b,rfl⟩|_=>exact L3 e rfl
theorem kV5 (e:5=kV a):∃b,a=.lst b:=by cases a with|lst b=>exact ⟨b,rfl⟩|_=>exact L3 e rfl
theorem X9 {b:V->V->Option Bool}{U:cD}(d:∀(k L A:V)(a G:Bool)(s:aj),b k A=Y a->b L A=Y G->Rep U T I σ k s->Rep U T I σ L s->a=G){k:V}{a:Bool}(h:Dc b k A=Y a)(i:Dc b L A=Y G)(ha:Rep U T I σ k s)(g:Rep U T I σ L s):a=G:=by
 have n:=Qc h i ha g
 cases k with
 |none=>exact ae<|h.symm.trans<|J (kV0 n) i
 |bool w=>
  obtain ⟨o,z⟩:=kV1 n;rw[z] at i g
  exact ae<|h.symm.trans<|Q (jZ.inj<|ha.inv.symm.trans g.inv) i
 |int w=>
  obtain ⟨o,z⟩:=kV2 n;rw[z] at i g
  obtain ⟨_,e1⟩:=ha.inv;obtain ⟨_,c⟩:=g.inv;exact ae<|h.symm.trans<|Q ((aj.int.inj<|e1.symm.trans c).1) i
 |str w=>
  obtain ⟨o,z⟩:=kV3 n;rw[z] at i g
  obtain ⟨_,e1⟩:=ha.inv;obtain ⟨_,c⟩:=g.inv;exact ae<|h.symm.trans<|Q ((aj.str.inj<|e1.symm.trans c).1) i
 |tup l=>
  obtain ⟨j,z⟩:=kV4 n;rw[z] at i g
  obtain ⟨u,f,e⟩:=AR ha.inv g.inv
  cases A with
  |tup m=>exact qX h λW h=>qX i λW i=>Mk d h i f e
  |_=>exact nS h
 |lst l=>
  obtain ⟨j,z⟩:=kV5 n;rw[z] at i g
  obtain ⟨u,f,e⟩:=AR ha.inv g.inv
  cases A with
  |lst m=>
   by_cases z:l.length=m.length
   .exact Mk d ((ql z).symm.trans h) ((ql<|(e.length.trans f.length.symm).trans z).symm.trans i) f e
   .exact ae<|((qm z).symm.trans h).symm.trans<|(qm λp=>z<|(f.length.trans e.length.symm).trans p).symm.trans i
  |_=>exact nS h
 |_=>exact nS h
theorem X_ {U:cD}(c):∀(k L A:V)(a G:Bool)(s:aj),rU c k A=Y a->rU c L A=Y G->Rep U T I σ k s->Rep U T I σ L s->a=G:=by
 induction c with
 |zero=>exact λJ J J J J J e=>nS e
 |succ c b=>exact λk L A a G s e i H g=>X9 b e i H.rB g.rB
open Classical in
def E5 (T:Ctx)(t:Wd)(a:List V)(k:V)(s:aj):Bool:=decide<|∃L,L∈a/\qu T t L s/\rU 8 L k=Y true
open Classical in
theorem DM {a:List V}{T:Bool}(b:v∈a)(k:qu C W v y)(e:rU 8 v x=Y T):E5 C W a x y=T:=by
 cases T with
 |true=>exact decide_eq_true<|ru v b k e
 |false=>
  refine decide_eq_false ?_;intro U;exact rT U λc G s i=>f_<|X_ 8 _ _ _ _ _ _ e i k s
theorem aaN {a:List V}{T:Bool}(e:L4 x a=Y T):(∀L∈a,∃G,rU 8 L x=Y G)/\T=a.any (λL=>(rU 8 L x).getD false):=by
 induction a generalizing T with
 |nil=>exact ⟨λJ e=>absurd e kG,(ae e).symm⟩|cons A a b=>
  refine sk e λw i e=>A0 e λg n=>rF (b n) λd G=>⟨λL hv=>?_,?_⟩
  .rcases aE.mp hv with rfl|hv
   .exact ⟨w,i⟩
   .exact d L hv
  .exact Q (hY ..)<|Q i<|Q G rfl
theorem JM {f:List V}(U:qD C W f vs)(b:∀L∈f,L∈a/\∃T,rU 8 L k=Y T) :
  (∀s∈vs,∃L∈f,qu C W L s)/\vs.any (E5 C W a k)=f.any (λL=>(rU 8 L k).getD false)/\vs.countP (E5 C W a k)=f.countP (λL=>(rU 8 L k).getD false):=by
 induction f generalizing vs with
 |nil=>exact U.vr<|ri (λJ c=>absurd c kG) rfl rfl
 |cons L f d=>
  replace U:=U.inv;obtain ⟨_,_,rfl,G,U⟩:=U;replace d:=d U;refine qJ (d λL H=>b L<|.tail _ H) λg e i=>?_
  obtain ⟨h,T,n⟩:=b L (.head _);refine ri (λs hy=>?_) ?_ ?_
  .rcases aE.mp hy with rfl|hy
   .exact qp L (.head _) G
   .exact qt (g s hy) λA j o=>⟨A,.tail _ j,o⟩
  .exact ax hY<|Q (hY ..)<|Q e<|Q (DM h G n)<|Q n rfl
  .exact ax o1<|Q (o1 ..)<|Q i<|Q (DM h G n)<|Q n rfl
theorem XZ (T:qP C hp W){A:Around}(G:A.units+8<cLine){f:List V}(U:qD C W f vs)(n:qu C W k c)(b:∀L∈f,∃a,rU 8 L k=Y a) :
  ∀d,d∈vs.toArray->p8 A W.s d c (E5 C W f k d):=λd g=>by
 refine qt ((JM U λL H=>⟨H,b L H⟩).1 d<|by simpa using g) λL H s=>?_
 obtain ⟨a,e⟩:=b L H;exact Q (DM H s e)<|Ke T 8 A G _ _ _ _ _ e s n
theorem xK (T:qP C hp W)(k:qu C W v<|.ref a)(e:view hp v=.rt ks vs):(a==fQ)=false:=by
 refine beq_eq_false_iff_ne.mpr λi=>uP (T.tab _ C.sys) λn z G P=>?_
 cases v with
 |rt=>
  obtain ⟨_,_,_,H,c,_⟩:=k.inv;injection H with H
  revert c;refine J H<|Q i<|Q n ?_;intro c;exact nS c
 |ref=>
  obtain ⟨_,H,c⟩:=k.inv;injection H with H
  exact G<|J i<|Q H<|bG c
 |_=>exact V.noConfusion e
theorem UC {T:Bool}(e:zT (k::ks) (L::vs) u5 us=Y T) :
  (findKey u5 us k=Y N/\T=false)\/∃A G w,findKey u5 us k=Y (Y A)/\rU 8 L A=Y G/\zT ks vs u5 us=Y w/\T=(G&&w):=by
 have b:∀(y h:Option Bool),(match y,h with|Y a,Y c=>Y<|a&&c|_,_=>N)=Y T->∃G w,y=Y G/\h=Y w/\T=(G&&w):=by
  intro y h e
  cases y with
  |none=>exact nS e|some G=>cases h with
   |none=>exact nS e|some w=>exact ta G w rfl rfl<|(ae e).symm
 have d:∀f:Option<|Option V,(match f with|Y<|Y A=>(match rU 8 L A,zT ks vs u5 us with|Y a,Y c=>Y<|a&&c|_,_=>N)|Y N=>Y false|N=>N)=Y T->
   (f=Y N/\T=false)\/∃A G w,f=Y (Y A)/\rU 8 L A=Y G/\zT ks vs u5 us=Y w/\T=(G&&w):=by
  intro f e
  cases f with
  |none=>exact nS e|some f=>cases f with
   |none=>exact .inl ⟨rfl,(ae e).symm⟩|some A=>
    exact sd (b _ _ e) λG w t=>.inr<|wR A G w rfl t
 exact d _ e
theorem UB (T:qP C hp W){a:Around}(G:a.units+8<cLine){f j:List ba}{y:List aj}:∀{d I:List V}{b:Bool},qD C W d y->qD C W I ds->f.length=y.length->zT (f.map V.str) d (j.map V.str) I=Y b->
  KeqHits a W.s (j.zip ds) (f.zip y) b:=by
 induction f generalizing y with
 |nil=>
  intro d I b U A e i
  cases y with
  |nil=>obtain rfl:=DC U;exact J (ae i) .nil
  |cons=>cases e
 |cons p f ih=>
  intro d I b U A e i
  cases d with
  |nil=>exact nS i|cons k d=>
   obtain ⟨s,t,n,L,U⟩:=U.inv;rw[n] at e ⊢
   rcases UC i with ⟨z,H⟩|⟨h,o,n,z,c,q,H⟩
   .refine Q H ?_;rcases vY (vx C.prog C.w) A z with ⟨_,H⟩|⟨_,_,H,_⟩
    .exact .miss H
    .exact Vm.nS H
   .refine Q H ?_;rcases vY (vx C.prog C.w) A z with ⟨H,_⟩|⟨u,s,H,v,g⟩
    .exact Vm.sN H
    .exact .hit v (Ke T 8 a G _ _ _ _ _ c L<|Q (ae H) g)<|ih U A (cC e) q
theorem strs_of_all {a:List V}(e:a.all uX=true):∃f:List ba,a=f.map V.str:=by
 induction a with
 |nil=>exact ⟨[],rfl⟩|cons k a b=>
  revert e;refine Q (fm ..)<|Q (aA ..) ?_;intro e
  obtain ⟨f,i⟩:=b e.2
  cases k with
  |str U=>exact ⟨U::f,Q i rfl⟩|_=>cases e.1
def RC (T:Ctx)(U:Around)(t:Wd)(A v:CmpOp)(s a:aj)(b:Bool):Prop:=
 (∀{E:aj->ay->Prop}{L:aj->ay->Prop},L (.bool b) t.s->wpAny (model T.prog T.w) U (compareOp A s a) L E t.s)/\
 (∀{E:aj->ay->Prop}{L:aj->ay->Prop},L (.bool<|!b) t.s->wpAny (model T.prog T.w) U (compareOp v s a) L E t.s)
theorem UM (L:rk d A)(T:qP C hp W){U:Bool}(k:qu C W a x)(s:qu C W b y)(e1:view hp a=.rt ks vs)(i:view hp b=.rt u5 vs')(n:aby ks vs u5 vs'=Y U) :
  RC C A W .Eq .NotEq x y U:=by
 refine qX n λt n=>?_
 obtain ⟨f,ex⟩:=strs_of_all t.1;obtain ⟨G,H⟩:=strs_of_all t.2;rw[ex] at e1 n
 rw[H] at i n
 refine xP (yS T k e1) λv o c h p I=>?_;subst c
 refine xP (yS T s i) λa2 C' wU u k2 j=>?_;subst wU
 obtain ⟨M,d1⟩:=zp (vx C.prog C.w) h p I;obtain ⟨ds,w⟩:=zp (vx C.prog C.w) u k2 j;have hu:=L.2.2;have l1:(f.zip M).length=f.length:=by refine ax iq<|Q d1.len<|Q (iK ..) rfl
 have g:(G.zip ds).length=G.length:=by refine ax iq<|Q w.len<|Q (iK ..) rfl
 have huc:A.units<cLine:=by show A.units<9900;lia
 have hits:∀r',(f.length=G.length->zT (f.map V.str) vs (G.map V.str) vs'=Y r')->(f.zip M).length=(G.zip ds).length->KeqHits A.in1 W.s (G.zip ds) (f.zip M) r':=λr' h' e=>
  UB T (by refine (?_:A.units+1+8<9900);lia) d1.rep w.rep d1.len<|h'<|by refine J l1<|J g<|Q e rfl
 have fin:∀r',(f.length=G.length->zT (f.map V.str) vs (G.map V.str) vs'=Y r')->((f.zip M).length==(G.zip ds).length&&r')=U->RC C A W .Eq .NotEq (.ref v) (.ref a2) U:=λr' n e=>
  ⟨λhq=>keq_eq (xK T k e1) (xK T s i) d1.dict w.dict huc (hits r' n)<|Q e hq,λhq=>keq_ne (xK T k e1) (xK T s i) d1.dict w.dict huc (hits r' n)<|Q e hq⟩
 simp only[ao] at n
 by_cases q:f.length=G.length
 .exact fin U (λP=>(ql q).symm.trans n) (by refine Q l1<|Q g<|Q q ?_;simp)
 .exact fin true (λz=>absurd z q) (by refine Q l1<|Q g<|J (ae<|(qm q).symm.trans n) ?_;simpa using q)
theorem aeF (L:rk d A)(T:qP C a W){r:Bool}(n:qu C W k x)(s:qu C W U y)(e:rU 8 (view a k) (view a U)=Y r) :
  RC C A W .Eq .NotEq x y r:=by
 have G:=L.2.2;have:=ZZ (by show A.units<9900;lia) (tY T n) (tY T s) (Ke T 7 A.in1<|by refine (?_:A.units+1+7<9900);lia)<|(congr (qn (Dc<|rU 7) Ik) Ik).symm.trans e
 exact ⟨λH=>this.1 _ _ _ _ H,λH=>this.2 _ _ _ _ H⟩
theorem ad' (L:rk d A)(T:qP C hp W){f:List V}{a:Bool}(o:qu C W k x)(s:qu C W b y)(e:view hp b=.lst f)(i:L4 k f=Y a) :
  RC C A W .In .NotIn x y a:=by
 refine qY (wC T s e) λv j n U c=>?_;subst n
 obtain ⟨g,z⟩:=aaN i;have I:=L.2.2;have h:=XZ (A:=A.in1) T (by refine (?_:A.units+1+8<9900);lia) c o g;have H:j.toArray.any (E5 C W f k)=a:=by refine Q z<|J ((JM c λG p=>⟨p,g G p⟩).2.1) ?_;simp
 exact ⟨λq=>in_listAt _ U.is h<|Q H q,λq=>notIn_listAt _ U.is h<|Q H q⟩
theorem z9 {o:Option Bool}(e:o.map not=Y b):o=Y (!b):=A0 e λG i=>i.trans (by refine Q (kq ..) rfl)
theorem bool_beq (T G):(jZ T==jZ G)=(T==G):=by cases T<;>cases G<;>rfl
theorem RG (L:rk d A)(T:qP C a W)(o:qu C W k x)(s:qu C W U y)(e:O9 (view a k) (view a U)=Y r) :
  RC C A W .Eq .NotEq x y r:=by
 have b:=aeF L T (r:=r) o s
 cases i:view a k with
 |rt f j=>
  revert e;refine Q i ?_;intro e
  cases n:view a U with
  |rt u G=>replace e:=n▸e;exact UM L T o s i n e
  |_=>replace e:=n▸e;exact nS e
 |_=>rw[i] at e b;exact b e
theorem aaF (I:uD C W x a)(s:uD C W y b)(e:isW a b=Y r):plainIs x y=true/\(x==y)=r:=by
 cases a with
 |none=>cases b with
  |none=>exact Q (show x=.none from I)<|Q (show y=.none from s)<|J (ae e) ⟨rfl,rfl⟩
  |_=>exact nS e
 |str=>cases b with
  |none=>obtain ⟨_,n⟩:=I;exact Q n<|Q (show y=.none from s)<|J (ae e) ⟨rfl,rfl⟩
  |_=>exact nS e
 |int=>cases b with
  |none=>obtain ⟨_,n⟩:=I;exact Q n<|Q (show y=.none from s)<|J (ae e) ⟨rfl,rfl⟩
  |_=>exact nS e
 |bool=>cases b with
  |bool=>exact Q (show x=.bool _ from I)<|Q (show y=.bool _ from s)<|J (ae e) ⟨rfl,bool_beq _ _⟩
  |_=>exact nS e
 |_=>exact nS e
theorem OI {c:Int->Int->Bool}(I:uD C W x a)(s:uD C W y b)(e:QR c a b=Y r):∃q d z t,x=.int q z/\y=.int d t/\c q d=r:=by
 cases a with
 |int q=>cases b with
  |int d=>obtain ⟨_,i⟩:=I;obtain ⟨_,n⟩:=s;exact ⟨q,d,_,_,i,n,ae e⟩
  |_=>exact nS e
 |_=>exact nS e
def RCt (T:Ctx)(U:Around)(t:Wd)(s a:aj)(b:Bool):Prop:=
  (∀{E:aj->ay->Prop}{L:aj->ay->Prop},(∀c,L (.bool b) { t.s with toks:=c })->wpAny (model T.prog T.w) U (compareOp .In s a) L E t.s)/\
  (∀{E:aj->ay->Prop}{L:aj->ay->Prop},(∀c,L (.bool<|!b) { t.s with toks:=c })->wpAny (model T.prog T.w) U (compareOp .NotIn s a) L E t.s)
theorem aaK (L:rk d A)(T:qP C a W)(n:qu C W k x)(s:qu C W U y)(e:inW k (view a k) (view a U)=Y r) :
  RCt C A W x y r:=by
 cases i:view a U with
 |lst l=>
  rw[i] at e
  have:=ad' L T n s i e;exact ⟨λhq=>this.1<|hq W.s.toks,λhq=>this.2<|hq W.s.toks⟩
 |_=>rw[i] at e;exact nS e
theorem ahR (L:rk d A)(T:qP C a W)(o:qu C W k x)(s:qu C W U y)(e:inT k (view a k) (view a U)=Y r)(hQ:∀h,QQq (.bool r) { W.s with toks:=h }):wpAny (model C.prog C.w) A (compareOp .In x y) QQq E W.s:=by
 have q:=aaK L T (r:=r) o s
 cases i:view a U with
 |str p=>
  obtain ⟨_,rfl⟩:=LJ T s i;revert e;refine Q i ?_;intro e
  cases n:view a k with
  |str j=>
   replace e:=n▸e;obtain ⟨_,rfl⟩:=LJ T o n;obtain rfl:=ae e;exact in_str<|hQ W.s.toks
  |_=>replace e:=n▸e;exact nS e
 |_=>rw[i] at e q;exact (q e).1 hQ
theorem aeP (L:rk d A)(T:qP C a W)(o:qu C W k s)(t:qu C W U b)(f:O8 G k (view a k) (view a U)=Y r)(g:∀h,QQq (.bool r) { W.s with toks:=h }):wpAny (model C.prog C.w) A (compareOp G s b) QQq E W.s:=by
 have I:QQq (.bool r) W.s:=g W.s.toks
 cases G with
 |Eq=>exact (RG L T o t f).1 I|NotEq=>exact (RG L T o t<|z9 f).2<|(kq r).symm▸I
 |Lt=>refine HB (OI (tY T o) (tY T t) f) λq j h v i n e=>?_;subst i;subst n;exact lt_int<|e.symm▸I
 |LtE=>refine HB (OI (tY T o) (tY T t) f) λq j h v H c e=>?_;subst H;subst c;exact le_int<|e.symm▸I
 |Gt=>refine HB (OI (tY T o) (tY T t) f) λq j h v p u e=>?_;subst p;subst u;exact gt_int<|e.symm▸I
 |GtE=>refine HB (OI (tY T o) (tY T t) f) λq j h v w x e=>?_;subst w;subst x;exact ge_int<|e.symm▸I
 |Is=>obtain ⟨y,z⟩:=aaF (tY T o) (tY T t) f;exact wpAny_is_plain y<|J z.symm I
 |IsNot=>obtain ⟨y,z⟩:=aaF (tY T o) (tY T t) (z9 f);exact wpAny_isNot_plain y<|Q z<|Q (kq ..) I
 |In=>exact ahR L T o t f g|NotIn=>exact (aaK L T o t<|z9 f).2 λh=>(kq r).symm▸g h
theorem vZ (L:rk d A)(T:qP C hp W){U:Bool}(k:qu C W a s)(t:qu C W b c)(e:tW hp G a b=Y U) :
  q6 C A (compareOp G s c) (λf h=>h=.bool U) W:=
 q6.mk λJ J g=>aeP L T k t e λi=>g ⟨W.G,W.σ,_⟩ _ (Pext0.toks i) rfl
end
section
variable {W:Wd}
theorem BN (e:place i c=Y j):jI i c=Y j/\j<c/\((0<=i/\j=i.toNat)\/(i<0/\-(c:Int)<=i/\j=(i+c).toNat)):=by
 refine qX e λt e=>J (ae e) ?_
 by_cases G:i<0
 .simp only[G,if_true] at t ⊢
  exact ⟨PySem.seqIndex_neg G<|by omega,D' t,.inr ⟨trivial,by omega,trivial⟩⟩
 .simp only[G,if_false] at t ⊢
  refine ⟨?_,Ea t,.inl ⟨t.1,trivial⟩⟩;delta jI;simp only[G,if_false];rw[ql<|by simp only[aA,decide_eq_true_eq];omega]
theorem dictGet (T:qP C hp W) {o:Type} [DecidableEq o] (i:Kd C.prog C.w o) {G:o}{s:aj}{k L:V}{f j:List V}{a:aj}(e:i.knd.is G s=true)
  (p:qu C W k a) (q:view hp k=.rt f j) (U:∃u:List o,f=u.map i.inj) (n:findKey f j (i.inj G)=Y (Y L)) :
  q6 C A (getItem a s) (λc a=>qu C c L a) W:=by
 refine q6.mk λx d hQ=>xP (yS T p q) λv g z h t y=>Q z ?_;clear z
 obtain ⟨u,rfl⟩:=U;obtain ⟨w,b⟩:=zp i h t y;rcases vY i b.rep n with ⟨q,H⟩|⟨k,a,q,H,I⟩
 .exact Vm.sN q
 ·(refine Vm.sI q ?_;clear q;rintro rfl)
  exact wpAny_getItem_of e b.dict.mapOf H<|hQ ⟨W.G,W.σ,_⟩ _ (Pext0.toks _) I
theorem aee {b:List V}(U:vT W a vs)(d:qD C W b vs)(I:uD C W y i)(e:OJ b i=Y v)(hQ:∀f,qu C W v f->QQq f W.s):wpAny (model C.prog C.w) A (getItem (.ref a) y) QQq E W.s:=by
 cases i with
 |int q=>
  obtain ⟨_,rfl⟩:=I;refine qX e λj e=>sk e λc n z=>?_
  replace j:b.length<=65536:=of_decide_eq_true j;refine qJ (BN n) λH G o=>qt (d.get z) λf g L=>?_
  have k:=d.length;rcases o with ⟨w,rfl⟩|⟨w,p,rfl⟩
  .exact wpAny_getItem_list U.is w ((iM w).mp<|ai G<|aa j<|by decide) (by simpa using g)<|hQ _ L
  .exact wpAny_getItem_list_neg U.is w (by simp only[bj];lia) (by lia) (by simp only[bj];refine J k ?_;simpa using g)<|hQ _ L
 |_=>exact nS e
theorem aec {b:List V}(x:TupAt W a vs)(U:qD C W b vs)(I:uD C W y i)(e:OJ b i=Y v)(hQ:∀d,qu C W v d->QQq d W.s):wpAny (model C.prog C.w) A (getItem (.ref a) y) QQq E W.s:=by
 cases i with
 |int q=>
  obtain ⟨_,rfl⟩:=I;refine qX e λj e=>sk e λc n z=>?_
  replace j:b.length<=65536:=of_decide_eq_true j;exact qJ (BN n) λH G o=>qt (U.get z) λd f L=>getItem_tuple x.is (NC j o) (Nk j G o) (by simp only[bj];exact J U.length H) (by simpa using f)<|hQ _ L
 |_=>exact nS e
theorem aed (I:uD C W y i)(e:aaO s i=Y v)(hQ:∀a x,qu C W v a->QQq a { W.s with toks:=x }):wpAny (model C.prog C.w) A (getItem (.str s x) y) QQq E W.s:=by
 cases i with
 |int q=>
  obtain ⟨_,rfl⟩:=I;refine qX e λj e=>sk e λc n z=>?_
  replace j:s.cps.size<=65536:=of_decide_eq_true j;refine qt (cg.mp z) λa H d=>?_
  subst d;exact qJ (BN n) λk G o=>P.getItem_str (by simp only[nT,decide_eq_false_iff_not];exact MM j G o) (Q k H:(jI q s.cps.size).bind _=_)<|hQ _ _<|.str _ _
 |_=>exact nS e
theorem Eu (L:rk d A)(T:qP C a W)(k:qu C W o s)(t:qu C W U c)(e:sf a o U=Y v) :
  q6 C A (getItem s c) (λf h=>qu C f v h) W:=by
 have e:N1 (view a o) (view a U)=Y v:=e;have I:=tY T k
 cases i:view a o with
 |lst l=>rw[i] at e I;obtain ⟨_,_,rfl,y,n⟩:=I;exact q6.mk λJ J b=>aee y n (tY T t) e<|(λb h n=>b W h (Pext0.refl W) n) b
 |tup l=>rw[i] at e I;obtain ⟨_,_,rfl,y,n⟩:=I;exact q6.mk λJ J b=>aec y n (tY T t) e<|(λb h n=>b W h (Pext0.refl W) n) b
 |str p=>rw[i] at e I;obtain ⟨_,rfl⟩:=I;exact q6.mk λJ J b=>aed (tY T t) e λh x n=>b ⟨W.G,W.σ,_⟩ _ (Pext0.toks _) n
 |_=>replace e:=i▸e;exact nS e
theorem qI.pick {U:cD}{f:List V}(r:qI U T I σ f vs):∀(is:List Nat),qI U T I σ (is.filterMap (f[·]?))<|is.filterMap (vs[·]?)
 |[]=>.nil|i::is=>by
  cases e:f[i]? with
  |none=>
   have j:vs[i]?=N:=by rw[List.getElem?_eq_none_iff] at e ⊢;exact J r.length e
   exact Q (mn e)<|Q (mn j)<|r.pick is
  |some k=>
   exact qt (r.get e) λs j G=>Q (mm e)<|Q (mm j)<|.cons G<|r.pick is
theorem EG (e:Oj v=Y p)(k:qu C W v x):∃h:Option (Int×pH),x=partValue h/\h.map (·.1)=p/\IsPart x p:=by
 cases v with
 |none=>exact J (ae e)<|Q k.inv<|ru N rfl rfl .none
 |int q=>refine J (ae e) ?_;obtain ⟨_,rfl⟩:=k.inv;exact ru (Y (_,_)) rfl rfl<|.int _ _
 |_=>exact nS e
theorem adb (T:qP C hp W){f:List V}(U:vT W a vs)(b:qD C W f vs)(e:W.s.heap.get? sl=Y { cls:=.type "slice",data:=.fields #[y,z,.none] })(x:IsPart y G)(H:IsPart z h)(i:qZ f.length=true)(g:∀c j,Pext0 C W c->qu C c (.lst<|HJ f G h) j->QQq j c.s):wpAny (model C.prog C.w) A (getItem (.ref a)<|.ref sl) QQq E W.s:=by
 replace i:f.length<=65536:=of_decide_eq_true i;refine rT (Pext0.lst T (b.pick<|sliceRange (sliceBounds G h N f.length).1 (sliceBounds G h N f.length).2.1 (sliceBounds G h N f.length).2.2) W.s.toks) λc I k o=>wpAny_getItem_list_slice U.is (ru _ e rfl rfl) x H .none (by decide) ?_ (by simp only[bj];exact J b.length<|aa i<|by decide)
 have:=g c _ I k
 rw[o] at this
 have L:slicePick vs.toArray G h N=(pM (λn=>vs[n]?)<|sliceRange (sliceBounds G h N f.length).1 (sliceBounds G h N f.length).2.1 (sliceBounds G h N f.length).2.2).toArray:=by
  delta slicePick;refine Q (bj ..)<|J b.length ?_
  simp
 exact Q L this
theorem N7 (L:rk d A)(T:qP C hp W){lo:V}(k:qu C W o x)(s:qu C W lo y)(p:qu C W hi z)(h:FE hp o lo hi=Y v){w:bK}(i:W.s.heap.get? w=Y { cls:=.type "slice",data:=.fields #[y,z,.none] }) :
  q6 C A (getItem x<|.ref w) (λb u=>qu C b v u) W:=by
 refine sk h λG n h=>sk h λq f h=>q6.mk λQQq t g=>rT (EG n s) λq1 H c p1=>rT (EG f p) λq2 e2 m2 p2=>?_
 have hIS:W.s.heap.IsSlice w q1 q2 N:=ru _ i rfl<|Q H<|Q e2 rfl
 have I:=tY T k
 cases e:view hp o with
 |lst l=>
  rw[e] at h I
  obtain ⟨a,j,rfl,U,r⟩:=I;exact qX h λhz h=>adb T U r i p1 p2 hz<|Q (ae h) g
 |_=>replace h:=e▸h;exact nS h
end
noncomputable def wA:Bf->aj
 |.len=>.builtin "len"|.sum=>.builtin "sum"|.chr=>.builtin "chr"|.ord=>.builtin "ord"
 |.max=>.builtin "max"|.abs=>.builtin "abs"|.divmod=>.builtin "divmod"
 |.range=>.type "range"|.list=>.type "list"|.set=>.type "set"
section
variable {g:Type}
@[elab_as_elim] theorem iR {b:Int->Option g}{d:aj->Prop}(G:Rep P T I σ a x)(e:iV b a=Y v)(h:∀q y,b q=Y v->d (.int q y)):d x:=by
 cases a with
 |int q=>exact G.ahQ λy=>h q y e
 |_=>exact nS e
@[elab_as_elim] theorem sR {b:ba->Option g}{d:aj->Prop}(G:Rep P T I σ a x)(e:sV b a=Y v)(h:∀p y,b p=Y v->d (.str p y)):d x:=by
 cases a with
 |str p=>exact G.ahg λy=>h p y e
 |_=>exact nS e
theorem tR {b:ba->Option g}{w:Prop}(G:Rep P T I σ a x) (e:tV b a=Y v) (d:∀p y,x=.str p y->T y=Y p->b p=Y v->w):w:=by
 cases a with
 |qr p=>obtain ⟨y,i,n⟩:=G.inv;exact d p y i n e
 |_=>exact nS e
@[elab_as_elim] theorem WN {b:List aj->Prop}(a:qI P T I σ as xs)(e:a0 f as=Y v)(k:f=Y v->b []):b xs:=by
 cases as with
 |nil=>exact a.vr<|k e
 |_=>exact nS e
@[elab_as_elim] theorem Bv {b:V->Option g}{d:List aj->Prop}(a:qI P T I σ f xs)(e:a1 b f=Y v)(k:∀n s,Rep P T I σ n s->b n=Y v->d [s]):d xs:=by
 cases f with
 |nil=>exact nS e|cons n f=>cases f with
  |nil=>exact a.sj λJ J G h=>h.vr<|k n _ G e
  |_=>exact nS e
@[elab_as_elim] theorem a2R {b:V->V->Option g}{d:List aj->Prop}(a:qI P T I σ f xs)(e:a2 b f=Y v)(k:∀n L s c,Rep P T I σ n s->Rep P T I σ L c->b n L=Y v->d [s,c]):d xs:=by
 cases f with
 |nil=>exact nS e|cons n f=>cases f with
  |nil=>exact nS e|cons L f=>cases f with
   |nil=>exact a.sj λJ J G h=>h.sj λJ J i h=>h.vr<|k n L _ _ G i e
   |_=>exact nS e
theorem lS {b:List V->Option g}{w:Prop}(e:lV b a=Y v) (d:∀c,a=.lst c->b c=Y v->w):w:=by
 cases a with
 |lst c=>exact d c rfl e|_=>exact nS e
theorem A3 {f:List V}(a:qI P T I σ f vs)(e:intsOf f=Y ns):lC vs ns:=by
 induction f generalizing vs ns with
 |nil=>exact a.vr<|J (ae e) .nil
 |cons k f ih=>exact a.sj λW W H a=>iR H e λq x e=>A0 e λG i=>.cons _ _<|ih a i
end
theorem PT (e:A.handled=N){v:bK}{a:List aj}(G:W.s.heap.IsList v a.toArray)(L:lC a ns) :
  q6 C A (call (.builtin "sum") [.ref v]) (λT s=>∃x,s=.int ns.sum x) W:=by
 refine q6.mk λU d hQ=>?_
 obtain ⟨b,i⟩:=L.allInts.items;refine sum_intListG e (J i G) λj c t o=>?_
 have n:preSum (numAt b) b.size=ns.sum:=by refine Q (preSum_eq ..)<|Q (mU<|by simp)<|Q (J (nums_intItems ..)<|J i<|(show numsOf a.toArray.toList=ns from L.numsOf).symm:ns=b.toList.map (·.1)) rfl
 exact Q n<|hQ ⟨W.G,W.σ,_⟩ _ (Pext0.ext o rfl rfl) ⟨_,rfl⟩
theorem fold_max (a:List Int):∀q:Int,(a.foldl (λc d=>if c<d then d else c) q=q\/a.foldl (λc d=>if c<d then d else c) q∈a)/\q<=a.foldl (λc d=>if c<d then d else c) q/\∀G∈a,G<=a.foldl (λc d=>if c<d then d else c) q:=by
 induction a with
 |nil=>exact λq=>⟨.inl rfl,cZ _,λJ f=>nomatch f⟩
 |cons G a b=>
  intro q;refine Q (du ..) ?_
  by_cases H:q<G
  .exact Q (ql H)<|qJ (b G) λn w h3=>⟨.inr<|aE.mpr n,aB (bU H) w,λo I=>(aE.mp I).elim (λe=>Q e w)<|h3 o⟩
  .exact Q (qm H)<|qJ (b q) λn w h3=>⟨n.imp id<|.tail _,w,λo I=>(aE.mp I).elim (λe=>Q e<|aB (bX.mp H) w)<|h3 o⟩
theorem max_list (e:A.handled=N){l:bK}{a:List aj}(G:W.s.heap.IsList l a.toArray)(L:lC a ns)(i:Tx ns=Y v) :
  q6 C A (call (.builtin "max") [.ref l]) (λT s=>qu C T v s) W:=by
 refine q6.mk λQQq d j=>?_
 obtain ⟨b,n⟩:=L.allInts.items;have z:ns=b.toList.map (·.1):=J (nums_intItems ..)<|J n<|(show numsOf a.toArray.toList=ns from L.numsOf).symm
 cases ns with
 |nil=>exact nS i|cons U l=>
  have I:0<b.size:=J (by refine Q z<|Q (ao ..)<|Q (cF ..) rfl:(U::l).length=b.size)<|fI _
  refine max_intList e (J n G) I λf o p k q=>j ⟨W.G,W.σ,_⟩ _ (Pext0.ext q rfl rfl)<|rM (intItems_at k) λx u=>Q u ?_;clear u
  obtain ⟨w,h2⟩:=argBest_gt (numAt b) (b.size-1);generalize argBest (λh t=>decide<|numAt b h>numAt b t) (b.size-1)=t at w h2
  refine qJ (fold_max l U) λm1 m2 m3=>?_
  have ge:∀y∈U::l,y<=numAt b t:=λy hy=>by
   rw[z] at hy
   refine qt (mem_getD hy) λh L rR=>J rR ?_;clear rR
   rw[ao,cF] at L
   exact J (numAt_eq ..)<|h2 h<|nX L
  exact Q (Int.le_antisymm ((aE.mp<|(λh L=>Q z<|Q (numAt_eq ..)<|getD_mem<|Q (ao ..)<|Q (cF ..) L:∀h,h<b.size->numAt b h∈U::l) t<|Ni I w).elim (λH=>aB (bR H) m2)<|m3 _)<|m1.elim (λH=>aB (bR H)<|ge U<|.head _) λc=>ge _<|.tail _ c)<|J (ae i)<|.int _ _
theorem TV (L:lC vs ns):ns.length=vs.length:=by
 induction L with
 |nil=>rfl|cons J W V e=>exact qn (·+1) e
theorem set_list (e:A.handled=N){v:bK}{a:List aj}(G:W.s.heap.IsList v a.toArray)(L:lC a ns)(I:a.length<64)(QQq:aj->ay->Prop)(d:aj->ay->Prop)(j:∀U s,Pext0 C W U->(∀(o:aj->ay->Prop)(b:aj->ay->Prop),(∀n f,Pext0 C U n->qu C n (.int<|Kk ns) f->o f n.s)->wpAny (model C.prog C.w) A (call (.builtin "len") [s]) o b U.s)->QQq s U.s) :
  wpAny (model C.prog C.w) A (call (.type "set") [.ref v]) QQq d W.s:=by
 refine call_set_list e G L (by delta scanBound;exact Q (bj ..)<|dD<|aa I<|cp _ _) λi c k p=>j ⟨W.G,W.σ,_⟩ _ (Pext0.ext (λt q u=>p t q (bP u) u) rfl rfl) λo b Q4=>?_
 obtain ⟨q,x,T,y,ho,hex,z,_,_,_,H,hz⟩:=k;have w:=PyProof.Rows.firstMet_length_le (λh=>ns.getD h 0) a.toArray.size;refine call_len_set ho hex z H (by refine Q hz ?_;rw[bj] at w ⊢;exact bq.mpr<|av w<|eG I<|by decide)<|Q4 ⟨W.G,W.σ,_⟩ _ (Pext0.toks _) ?_
 exact Q hz<|Q (bj ..)<|J (TV L)<|.int _ _
theorem K_ {U:cD}{f:List V}{j:List aj}(e:f.length=j.length)(b:∀(c:Nat) s,j[c]?=Y s->∃k,f[c]?=Y k/\Rep U T I σ k s):qI U T I σ f j:=by
 induction f generalizing j with
 |nil=>cases j with
  |nil=>exact .nil|cons=>exact nomatch e
 |cons k f ih=>cases j with
  |nil=>exact nomatch e|cons s j=>exact .cons (qt (b 0 s rfl) λA i G=>Q (ae i) G)<|ih (cC e) λc a i=>b (c+1) a i
theorem acf (T:qP C a W)(k:qu C W L x)(e:TO (view a L)=Y v):q6 C A (call (.builtin "len") [x]) (λb c=>qu C b v c) W:=by
 have I:=tY T k;refine q6.mk λH d h=>?_
 cases i:view a L with
 |lst l=>
  rw[i] at e I
  obtain ⟨L,j,rfl,z,U⟩:=I;exact qX e λn e=>call_len_list z.is (by have:l.length<=65536:=of_decide_eq_true n;have:=U.length;simp only[bj];lia)<|(λe=>q6.int e h)<|by rw[bj,<-U.length];exact e
 |tup l=>
  rw[i] at e I
  obtain ⟨L,j,rfl,z,U⟩:=I;exact qX e λn e=>len_tuple z.is (by have:l.length<=65536:=of_decide_eq_true n;have:=U.length;simp only[bj];lia)<|(λe=>q6.int e h)<|by rw[bj,<-U.length];exact e
 |str p=>
  rw[i] at e I
  obtain ⟨y,rfl⟩:=I;exact qX e λn e=>P.len_str (by have:p.cps.size<=65536:=of_decide_eq_true n;refine (?_:¬(p.cps.size:Int)≥_);lia)<|(λe=>q6.int e h) e
 |_=>replace e:=i▸e;exact nS e
theorem FH (T:qP C hp W){w z:pH}{L:aj->ay->Prop}(e:Y (V.tH a b d)=Y v)(f:∀U d,Pext0 C W U->qu C U v d->L d U.s):L (.ref W.s.heap.objs.size) { W.s with heap:=W.s.heap.push ⟨.type "range",N,.fields #[.int a t,.int b u,.int d w],#[]⟩,toks:=z }:=f ⟨W.G.vq W.s.heap.objs.size _,W.σ,_⟩ _ (Pext0.DG _ rfl _ T.sD)<|J (ae e)<|.tH<|Gm.rO _ _ _
theorem ace (T:qP C hp W)(U:qD C W f xs)(e:ZT f=Y v):q6 C A (call (.type "range") xs) (λa s=>qu C a v s) W:=by
 cases f with
 |nil=>exact nS e|cons L f=>cases f with
  |nil=>exact U.sj λJ J G b=>b.vr<|iR G e λc x e=>q6.mk λz d h=>call_range_1<|FH T e h
  |cons q f=>cases f with
   |nil=>exact U.sj λJ J G b=>b.sj λJ J j b=>b.vr<|iR G e λc x e=>iR j e λk t e=>q6.mk λz d h=>call_range_2<|FH T e h
   |cons s f=>cases f with
    |nil=>exact U.sj λJ J G b=>b.sj λJ J j b=>b.sj λJ J H b=>b.vr (iR G e λc x e=>iR j e λk t e=>iR H e λI w e=>rW e λn e=>
      q6.mk λz d h=>call_range_3 (λi=>n<|.inl i) (FH T e h)<|.inl<|eq_false_of_ne_true λi=>n<|.inr i)
    |_=>exact nS e
theorem Sn (e:view hp a=.tH x y z):a=.tH x y z:=by
 cases a with
 |ref c=>
  have e:Ek c hp[c]?=.tH x y z:=e
  cases i:hp[c]? with
  |none=>rw[i] at e;exact V.noConfusion e
  |some I=>revert e;refine Q i ?_;intro e;cases I<;>exact V.noConfusion e
 |qr p=>exact V.noConfusion (e:V.str p=.tH x y z)|_=>exact e
theorem acg (T:qP C hp W){f:List V}(U:vT W a vs)(b:qD C W f vs)(w:f.length<=65536):q6 C A (call (.type "list") [.ref a]) (λj s=>qu C j (.lst f) s) W:=by
 obtain ⟨c,U⟩:=U;have e:=b.length;refine q6.mk λL d k=>call_list_seq a (.inl rfl) U rfl rfl (λi h n o=>?_) (by refine Q (bj ..)<|Q (g6 ..) ?_;lia)
 exact k ⟨W.G.vq W.s.heap.objs.size _,W.σ,_⟩ _ (Pext0.frz n o (jP<|ag _) T.sD rfl rfl)<|Rep.lst (Gm.rO _ _ _)<|qI.mono (Tm.le.refl _) (Gh.wK T.sD).I (rl.refl _) b
theorem KH (L:rk d A)(T:qP C hp W)(k:qu C W a x)(e:TB (view hp a)=Y v):q6 C A (call (.type "list") [x]) (λf o=>qu C f v o) W:=by
 have I:=tY T k
 cases i:view hp a with
 |lst l=>
  rw[i] at I e
  obtain ⟨y,vs,rfl,U,p⟩:=I;exact qX e λn e=>J (ae e)<|acg T U p<|of_decide_eq_true n
 |tH a b s=>
  rw[i] at I e
  obtain rfl:=Sn i;obtain ⟨G,u,r0,ad,rfl,z⟩:=k.inv;refine qX e λH e=>J (ae e) ?_
  unfold wZ at H
  simp only[aA,decide_eq_true_eq] at H
  obtain ⟨⟨k1,k2⟩,c⟩:=H;have w:0<=cz a b s:=by
   delta cz
   split
   .rename_i q
    split
    .have:=jH (a:=b-a-1) (by lia)<|bU q;exact yv this
    .lia
   .split
    .have:=jH (a:=a-b-1) (b:=-s) (by lia) (by lia);exact yv this
    .lia
  refine q6.mk λQQq E hQ=>call_list_range L.1 (T.I _ _ z) k2 (by delta vk;exact (cf w).symm) (aa (of_decide_eq_true c)<|cp _ _) λh' h akQ t H hS Um=>hQ ⟨W.G.vq W.s.heap.objs.size _,W.σ,_⟩ _ (Pext0.frz H hS (jP<|ag _) T.sD rfl rfl) ?_
  refine Rep.lst (Gm.rO _ _ _)<|K_ (by delta wD;exact Q (ao ..)<|Q (rangeInts_length ..)<|(cF▸Um.1).symm) λj o hc=>?_
  obtain ⟨G,rfl⟩:=Um.2 j o (by simpa using hc);have hj:j<vk a b s:=by have:=(aO.mp hc).1;rw[cF,Um.1] at this;exact this
  exact qp (.int<|a+j*s) (by delta wD;refine Q aZ<|Q (rangeInts_get hj) ?_;rfl)<|.int _ _
 |_=>replace e:=i▸e;exact nS e
theorem Tf (e:Oo s=Y v):∃c:Nat,s=⟨#[c]⟩/\v=.int c:=by
 obtain ⟨⟨a⟩⟩:=s
 cases a with
 |nil=>exact nS e|cons c a=>cases a with
  |nil=>exact qp c rfl<|(ae e).symm
  |cons=>exact nS e
theorem RU {M:List Nat}{st:St}(L:rk d A)(I:At C B M env st W)(hb:o≠.set)(U:qD C W as xs)(e:yg st.hp o as=Y v) :
  Tr C B M env A (call (wA o) xs) st (λT c=>qu C T v c) W:=by
 have a:=I.H;have e:ach st.hp o (as.map rB)=Y v:=e;replace U:=U.rB;generalize as.map rB=as at U e
 cases o with
 |len=>exact Bv U e λV V f e=>(acf a f e).tr I
 |range=>exact (ace a U e).tr I|sum=>
  exact Bv U e λb x f e=>lS e λl i e=>A0 e λG n=>by obtain ⟨b,vs,rfl,w,f⟩:=wC a f i;exact q6.tr (λQQq y hQ=>PT L.1 w.is (A3 f n) QQq y λT c p rR=>rM rR λt i=>hQ T c p<|Q i<|.int _ _) I
 |list=>exact Bv U e λV V f e=>(KH L a f e).tr I
 |chr=>
  exact Bv U e λV V f e=>iR f e λq t e=>qX e λz e=>by
   delta CL at z
   simp only[ir,decide_eq_true_eq] at z
   exact (q6.mk λQQq y hQ=>chr_of_range (by lia) (by lia)<|q6.str e hQ).tr I
 |ord=>
  exact Bv U e λV V f e=>sR f e λs t e=>by
   refine qt (Tf e) λc H Bx=>Q H ?_;clear H;refine Q Bx ?_;clear Bx
   exact (q6.mk λQQq y hQ=>P.ord_of_char<|q6.int rfl hQ).tr I
 |abs=>exact Bv U e λV V f e=>iR f e λq t e=>(q6.mk λQQq y hQ=>call_abs_int λu h=>q6.int e hQ).tr I
 |divmod=>
  exact a2R U e λV V V V f r' e=>iR f e λq t e=>iR r' e λj u e=>rW e λhz e=>q6.tr (q6.mk λQQq y hQ=>divmod_int (λk=>hz<|.inl k) (by
   refine rT (Pext0.tup (vs:=[.int (bg q j) W.s.toks,.int (a_ q j)<|W.s.toks+1]) a (.cons (.int _ _)<|.cons (.int _ _) .nil)<|W.s.toks+1+1) λT p f es=>?_
   have:=hQ T _ p<|J (ae e) f
   rw[es] at this
   exact this)<|.inl<|eq_false_of_ne_true λk=>hz<|.inr k) I
 |max=>
  exact Bv U e λb x f e=>lS e λl i e=>sk e λG n e=>by obtain ⟨b,vs,rfl,w,f⟩:=wC a f i;exact (max_list L.1 w.is (A3 f n) e).tr I
 |set=>exact absurd rfl hb
section
structure Kept (C:Ctx) (W W':Wd):Prop where
 le:W.le W'
 off:∀L o,W.s.heap.get? L=some o->W.G.I L=none->L∉W.σ->L∉C.tabs->W'.s.heap.get? L=some o/\W'.G.I L=none/\L∉W'.σ
theorem Pext0.kept {s:Wd}(G:Pext0 C s W'):Kept C s W':=⟨G.le,λv H e i I J=>⟨G.hk v H e,G.new v i<|Q e rfl,Q G.σ I⟩⟩
theorem At.kept {A:List Nat}{x:St}{u:Wd}(G:At C B A env x u)(L:Kept C u W')(T:qP C hp' W'):At C B A env ⟨x.loc,hp'⟩ W':=by
 refine qt G.L.ns λd o g=>?_
 obtain ⟨I,a,h,e,t⟩:=id o;exact qJ (L.off _ I e G.L.I G.L.σ G.L.T) λb i U=>⟨G.ok.mono L.le.σ,T,⟨d,wR I a h b t,λc b k n z=>qt (g c b k n z) λs H r=>qp s H<|r.mono L.le⟩,i,Q L.le.G.F G.L.F,U,G.L.T⟩
def TH {o:Type}(T:Ctx)(U:Around)(v:gE o)(b:Wd->o->Prop)(a:List O)(s:Wd):Prop:=∀(L:o->ay->Prop)(E:aj->ay->Prop),(∀c G,Kept T s c->qP T a c->b c G->L G c.s)->wpAny (model T.prog T.w) U v L E s.s
theorem q6.th {o:Type}{v:gE o}{b:Wd->o->Prop}(G:q6 C A v b W)(T:qP C hp W):TH C A v b hp W:=λI g n=>G I g λU H L p=>n U H L.toPext0.kept (L.hp L.tk _ T) p
noncomputable def LU:MK->String
 |.uW|.wF|.BU|.Ap=>"list"|.A'=>"dict"
 |.EW=>"int"|_=>"str"
noncomputable def mkId:MK->String
 |.uW=>"list.append"|.wF=>"list.reverse"|.BU=>"list.pop"|.Ap=>"list.index"
 |.BJ=>"str.index"|.Ez=>"str.join"|.AS=>"str.replace"|.Ey=>"str.lower"
 |.A'=>"dict.get"|.EW=>"int.bit_length"
structure CW (W:Wd) (x:aj) (m:Mt) (k:MK):Prop where
 pa:PlainAttrs<|LU k
 sl:Slot (LU k) (w3 m)<|mkId k
 ty:typeOf (.builtin<|mkId k)=pure (.type "method_descriptor")
 is:W.s.TypeIs x<|LU k
 ob:∀a,x=.ref a->∃ob,W.s.heap.get? a=some ob/\ob.dict=none
theorem noRef {s:aj}{b:bK->Prop}(e:(match s with|.ref J=>false|_=>true)=true):∀v,s=.ref v->b v:=λv i=>by subst i;exact fT e
theorem Qu {s:Wd}(e:s.s.heap.get? b=Y o)(i:o.dict=N):∀q,jl b=.ref q->∃p,s.s.heap.get? q=Y p/\p.dict=N:=λq n=>by injection n with n;subst n;exact qp _ e i
theorem CE {g:Mt}{a:List V}(I:uD C W x<|.lst a)(e:LU k="list")(d:Slot "list" (w3 g)<|mkId k)(i:typeOf (.builtin<|mkId k)=pure (.type "method_descriptor")):CW W x g k:=by obtain ⟨v,f,rfl,⟨c,n⟩,_⟩:=I;exact ⟨e▸F.plainAttrs_list,e▸d,i,e▸(qp _ n rfl),Qu n rfl⟩
theorem EM {g:Mt}{p:ba}(I:uD C W x<|.str p)(e:LU k="str")(d:Slot "str" (w3 g)<|mkId k)(i:typeOf (.builtin<|mkId k)=pure (.type "method_descriptor")):CW W x g k:=by obtain ⟨y,rfl⟩:=I;exact ⟨e▸F.plainAttrs_str,e▸d,i,e▸typeIs_str _ _ _,noRef rfl⟩
theorem kL_ {e w:MK}{o:V}{p:Prop}(f:kL e o=Y w) (b:∀a,o=.lst a->e=w->p):p:=by
 cases o with
 |lst a=>exact b a rfl<|ae f
 |_=>exact nS f
theorem kS_ {e w:MK}{o:V}{q:Prop}(f:kS e o=Y w) (b:∀p,o=.str p->e=w->q):q:=by
 cases o with
 |str p=>exact b p rfl<|ae f
 |_=>exact nS f
theorem ahN {g:Mt}(I:uD C W x o)(e:BS g o=Y k):CW W x g k:=by
 cases g with
 |append=>exact kL_ e λa i n=>by subst i n;exact CE I rfl F.slot_list_append F.type_list_append
 |reverse=>exact kL_ e λa i n=>by subst i n;exact CE I rfl F.slot_list_reverse F.type_list_reverse
 |join=>exact kS_ e λa i n=>by subst i n;exact EM I rfl F.slot_str_join F.type_str_join
 |replace=>exact kS_ e λa i n=>by subst i n;exact EM I rfl F.slot_str_replace F.type_str_replace
 |lower=>exact kS_ e λa i n=>by subst i n;exact EM I rfl F.slot_str_lower F.type_str_lower
 |pop=>exact kL_ e λa i n=>by subst i n;exact CE I rfl F.slot_list_pop F.type_list_pop
 |index=>cases o with
  |lst a=>exact J (ae e)<|CE I rfl F.slot_list_index F.type_list_index
  |str a=>exact J (ae e)<|EM I rfl F.slot_str_index F.type_str_index
  |_=>exact nS e
 |get=>cases o with
  |rt f j=>
   refine J (ae e) ?_;obtain ⟨v,u,rfl,⟨c,z⟩,_⟩:=I;exact ⟨F.plainAttrs_dict,F.slot_dict_get,F.type_dict_get,qp _ z rfl,Qu z rfl⟩
  |_=>exact nS e
 |yf=>cases o with
  |int q=>
   refine J (ae e) ?_;obtain ⟨y,rfl⟩:=I;exact ⟨F.plainAttrs_int,F.slot_int_bit_length,F.type_int_bit_length,typeIs_int _ _ _,noRef rfl⟩
  |_=>exact nS e
theorem Tw (T:qP C a W){g:Mt}(n:qu C W o x)(e:BS g (view a o)=Y k):CW W x g k:=ahN (tY T n) e
theorem N4 {U:cD}{f:List V}(a:qI U T I σ f vs)(e:strsOf f=Y ns):∃G:List (ba×pH),vs=strValues G/\G.map (·.1)=ns:=by
 induction f generalizing vs ns with
 |nil=>exact qp ([]) a.inv<|ae e
 |cons k f b=>
  replace a:=a.inv;obtain ⟨s,L,rfl,H,a⟩:=a;exact sR H.rB e λp x e=>A0 e λu i=>
   (b a i).elim λG t=>qp ((p,x)::G) (qn (aj.str p x::·) t.1)<|qn (p::·) t.2
theorem Ko (T:qP C hp W) {o:Type} [DecidableEq o] (i:Kd C.prog C.w o) {G:o}{s:aj}{k:V}{f j:List V}{a:aj}{y:Option V}(e:i.knd.is G s=true)
  (p:qu C W k a) (q:view hp k=.rt f j) (U:∃u:List o,f=u.map i.inj) (n:findKey f j (i.inj G)=Y y) :
  (q6 C A (call (.builtin "dict.get") [a,s]) (λc a=>qu C c (Al y .none) a) W)/\
  ∀{L:V}{h:aj},qu C W L h->q6 C A (call (.builtin "dict.get") [a,s,h]) (λc a=>qu C c (Al y L) a) W:=by
 refine xP (yS T p q) λv d z g t I=>?_;subst z
 obtain ⟨u,rfl⟩:=U;obtain ⟨M,b⟩:=zp i g t I;have w:=b.dict.mapOf;refine ⟨q6.mk λQQq x hQ=>?_,λrd=>q6.mk λQQq x hQ=>?_⟩
 .refine call_meetsIn F.slot_dict_get w.typeIs F.entry_dict_get (F.args_dict_get_2 _ _) (meets_dict_get i.knd v e<|xK T p q)<|qp _ w ?_
  rcases vY i b.rep n with ⟨q,H⟩|⟨k,a,q,H,r3⟩
  .subst q;exact Q H<|hQ ⟨W.G,W.σ,_⟩ _ (Pext0.toks _) .none
  .subst q;exact Q H<|hQ ⟨W.G,W.σ,_⟩ _ (Pext0.toks _) r3
 .refine call_meetsIn F.slot_dict_get w.typeIs F.entry_dict_get (F.args_dict_get_3 _ _ _) (meets_dict_get_default i.knd v e (xK T p q) _)<|qp _ w ?_
  rcases vY i b.rep n with ⟨q,H⟩|⟨k,a,q,H,r3⟩
  .subst q;exact Q H<|hQ ⟨W.G,W.σ,_⟩ _ (Pext0.toks _) rd
  .subst q;exact Q H<|hQ ⟨W.G,W.σ,_⟩ _ (Pext0.toks _) r3
theorem Wc (T:qP C hp W){v:V}{z:Option V}(t:qu C W o x)(e:view hp o=.rt ks vs)(i:JB k=true)(s:qu C W k y)(n:findKey ks vs k=Y z) :
  (q6 C A (call (.builtin "dict.get") [x,y]) (λU h=>qu C U (Al z .none) h) W)/\
  ∀{a:V}{u:aj},qu C W a u->q6 C A (call (.builtin "dict.get") [x,y,u]) (λU h=>qu C U (Al z a) h) W:=by
 refine xP (yS T t e) λJ J J J w J=>?_
 cases k with
 |str p=>obtain ⟨_,rfl⟩:=s.inv;exact Ko T (vx C.prog C.w) (beq_self_eq_true p) t e (J5 w n) n
 |int q=>obtain ⟨_,rfl⟩:=s.inv;exact Ko T (VS C.prog C.w) (beq_self_eq_true q) t e (J6 w n) n
 |_=>exact fT i
theorem aam (T:qP C hp W)(k:qu C W o x)(U:qD C W f j)(e:view hp o=.rt ks vs)(i:abi ks vs f=Y v):q6 C A (call (.builtin "dict.get")<|x::j) (λa b=>qu C a v b) W:=by
 cases f with
 |nil=>exact nS i|cons G f=>
  replace U:=U.inv;obtain ⟨_,_,rfl,H,U⟩:=U
  cases f with
  |nil=>exact Q U.inv<|qX i λn i=>A0 i λy z=>(Wc (v:=.none) T k e n H z).1
  |cons c f=>
   replace U:=U.inv;obtain ⟨_,_,rfl,g,U⟩:=U
   cases f with
   |nil=>exact Q U.inv<|qX i λn i=>A0 i λy z=>(Wc (v:=.none) T k e n H z).2 g
   |cons=>exact nS i
theorem RM {U:cD}{f:List V}(a:qI U T I σ f vs)(e:boolsOf f=Y bs):vs=bs.map jZ:=by
 induction f generalizing vs bs with
 |nil=>exact a.vr<|J (ae e) rfl
 |cons k f b=>cases k with
  |bool c=>
   exact a.sj λs L G a=>qN e λd i n=>Q (show s=.bool c from G)<|Q (b a i)<|J n rfl
  |_=>exact nS e
theorem qI.dropLast {U:cD}:∀{l:List V}{j:List aj},qI U T I σ l j->qI U T I σ l.dropLast j.dropLast
 |[]=>λa=>a.vr .nil
 |[J]=>λa=>a.sj λJ J J a=>a.vr .nil
 |_::_::_=>λa=>a.sj λJ J G a=>by have e:=a.dropLast;exact a.sj (λs L g a e=>.cons G e) e
theorem Tu (L:rk d T)(b:qP C hp W){f:List V}(k:qu C W o s)(e:view hp o=.lst f)(x:qu C W A j)(i:bV (λp=>if qZ f.length then (boolsOf f).bind λbs=>if bs.contains p then Y (.int<|bs.idxOf p) else N else N) A=Y a):q6 C T (call (.builtin "list.index") [s,j]) (λq h=>qu C q a h) W:=by
 cases A with
 |bool p=>
  refine qX i λn i=>sk i λbs hb i=>qX i λH i=>?_
  obtain rfl:j=.bool p:=x;refine qY (wC b k e) λv u c U y=>Q c ?_;clear c
  obtain ⟨t,U⟩:=U;have hl:=y.length;obtain rfl:=RM y hb;have G:p∈bs:=dF.mp H;have I:bs.idxOf p<bs.length:=List.idxOf_lt_length_of_mem G;have w:f.length<=65536:=of_decide_eq_true n;rw[ao] at hl
  refine q6.mk λQQq E g=>gQ F.slot_list_index (qp _ U rfl) F.entry_list_index (F.args_list_index_2 _ _) (list_indexAt v (bs.map jZ).toArray t N #[] (.bool p) (λz=>z==.bool p) (bs.idxOf p) (by simpa using I) (bq.mpr<|ai I<|hl▸aa w<|by decide) ?_ ?_)<|ri U ?_<|q6.int i g
  .simp
  .intro m G uN
   simpa using (List.not_of_lt_findIdx uN)
  .intro z n;obtain ⟨h,_,rfl⟩:∃h,h∈bs/\jZ h=z:=by simpa using n
   exact Q (bool_beq h p)<|pQ h p
 |_=>exact nS i
theorem PW {x:pH}{T:aj->ay->Prop}{d:aj->ay->Prop}{U:ay}(w:0<=jr p j)(G:T (.int (jr p j) U.toks) { U with toks:=U.toks+1 }):wpAny (model C.prog C.w) A (call (.builtin "str.index") [.str p x,.str j s]) T d U:=by
 delta jr at w G
 cases e:kM p j 0 p.length 1 with
 |nil=>rw[e] at w;exact absurd w (by decide)
 |cons c rest=>
  rw[e] at G
  exact call_gives F.slot_str_index (typeIs_str _ _ _) F.entry_str_index (F.args_str_index_2 _ _) (gives_str_index p j x s c rest e) G
theorem N_ {q:Type}{b:ba->Option q}{G:q}{v:Prop}(T:qP C a W) (k:qu C W o x) (e:sV b (view a o)=Y G) (d:∀p y,x=.str p y->b p=Y G->v):v:=by
 have I:=tY T k
 cases i:view a o with
 |str p=>rw[i] at e I;obtain ⟨y,rfl⟩:=I;exact d p y rfl e
 |_=>replace e:=i▸e;exact nS e
theorem Ou (hr:rk d A)(T:qP C hp W){e:MK}(ha:qu C W o x)(U:qD C W as j)(f:Tv hp e (view hp o) as=Y v) :
  q6 C A (call (.builtin<|mkId e)<|x::j) (λb s=>qu C b v s) W:=by
 cases e with
 |Ap=>exact lS f λu i f=>Bv U f λG h t f=>Tu hr T ha i t f
 |BJ=>exact N_ T ha f λp y i f=>i▸Bv U f λG h t f=>sR t f λs' t' f=>qX f λw f=>q6.mk λQQq E g=>PW w<|q6.int f g
 |Ez=>
  exact N_ T ha f λp y i f=>i▸Bv U f λG h t f=>lS f λu n f=>sk f λss z f=>qX f λH f=>by
   refine qY (wC T t n) λa vs c L r=>Q c ?_;clear c
   refine qt (N4 r z) λj yq e2=>?_;subst yq
   exact q6.mk λQQq E g=>SC.join L.is e2 H λt' k=>q6.str f g
 |Ey=>
  exact N_ T ha f λp y i f=>i▸WN U f λf=>qX f λhz f=>by have hz':(iN p).length<=65536:=of_decide_eq_true hz;exact q6.mk λQQq E g=>SC.lower (by delta lM;exact Q (g6 ..)<|decide_eq_false<|by lia)<|q6.str f g
 |A'=>cases i:view hp o with
  |rt ks vs=>replace f:=i▸f;exact aam T ha U i f
  |_=>replace f:=i▸f;exact nS f
 |EW=>cases i:view hp o with
  |int q=>
   rw[i] at f
   have I:=tY T ha;rw[i] at I
   obtain ⟨y,rfl⟩:=I;exact WN U f λf=>q6.mk λQQq E g=>call_int_bit_length<|q6.int f g
  |_=>replace f:=i▸f;exact nS f
 |_=>exact nS f
theorem Lh (p)(u)(c:u≠0):isSame (.str p u) (.str p u)=pure true:=(Q (by simp[c]:(u==0||u==0)=false)<|Q (by simp:(u==u)=true) rfl:(if (u==0||u==0)=true then _ else if (u==u)=true then pure true else _:gE Bool)=_)
open Builtin Builtin.Str in
theorem BX (x j)(y s)(c:s≠0):Gives («str.replace» ⟨[.str x y,.str j s,.str j s],[]⟩)<|.val<|.str x y:=by
 show Gives (if ((occurrences x j 0 x.length<|x.length+1).isEmpty||(j.length==0&&j.length==0))=true then (do rule "str.replace.nothing";ret (.str x y)) else
     (do
    let same←isSame (.str j s) (.str j s)
    if same=true then (do rule "str.replace.old-is-new";ret (.str x y)) else
    if tooLong (x.length+(occurrences x j 0 x.length<|x.length+1).length*j.length)=true then o_ "str.replace:memory" else
    retStr (glued j<|partsBetween x (occurrences x j 0 x.length<|x.length+1) j.length))) _
 cases i:((occurrences x j 0 x.length<|x.length+1).isEmpty||(j.length==0&&j.length==0))
 .exact Q (Lh j s c)<|.rule<|.of_eq rfl
 .exact .rule<|.of_eq rfl
theorem La (H:qP C a W)(ha:qu C W o x)(U:qD C W as j)(e:HH (view a o) as=Y L) :
  q6 C A (call (.builtin "str.replace")<|x::j) (λT b=>qu C T L b) W:=by
 refine N_ H ha e λp y i e=>Q i<|a2R U e λG f h u I g e=>tR I e λG s i e1 e=>tR g e λf L z n e=>qX e λc e=>?_
 subst i z
 have q:s≠0:=bw (H.T _ _ e1).1;refine q6.mk λQQq d hQ=>?_
 by_cases t:G=f
 .subst t
  by_cases w:s=L
  .refine J w ?_;clear w;exact call_gives F.slot_str_replace (typeIs_str _ _ _) F.entry_str_replace (F.args_str_replace_3 _ _ _) (BX p G y s q)<|hQ W _ (Pext0.refl W)<|J (ae e)<|Q (Txt.replace_self ..)<|.str _ _
  .exact SC.replaceA q (bw (H.T _ _ n).1) w (of_decide_eq_true c) (λv k=>q6.str e hQ)<|C.nb _ λG o i=>H.I G o<|H.top G o i
 .skip
  exact SC.replace q (bw (H.T _ _ n).1) (λu=>by subst u;exact t<|ae<|e1.symm.trans n) (by simpa using t) (of_decide_eq_true c) λv k=>q6.str e hQ
theorem qI.reverse {U:cD}{f:List V}(a:qI U T I σ f vs):qI U T I σ f.reverse vs.reverse:=by
 induction f generalizing vs with
 |nil=>exact a.vr .nil|cons k f b=>exact a.sj λJ J G a=>Q (dR ..)<|Q (dR ..)<|qI.append (b a)<|.cons G .nil
structure R7 (C:Ctx) (W:Wd) (hp:List O) (i:Nat) (a:bK) (o:O) (ob:gw):Prop where
 at_:W.s.heap.get? a=some ob
 rep:rA C.w.params W.G.T W.G.I W.σ ob o
 kept:∀s':ay,(∀b o,b≠a->W.s.heap.get? b=some o->s'.heap.get? b=some o)->Kept C W ⟨W.G,W.σ,s'⟩
 ns:(a==fQ)=false
theorem En (d:qP C hp W)(e:W.σ[i]?=Y a)(j:hp[i]?=Y o):∃G,R7 C W hp i a o G:=by
 refine qJ (d.rX _ _ e) λn z U=>qY U λT G h1 c I=>?_
 have f:a∈W.σ:=bG e;exact ⟨G,c,J (ae<|h1.symm.trans j) I,λh b=>⟨⟨Gh.le.refl _,rl.refl _⟩,λw o k H L p=>ri (b w o (λg=>L<|Q g f) k) H L⟩,
  beq_eq_false_iff_ne.mpr λg=>(d.tab _ C.sys).2.2.1<|J g f⟩
theorem AM (T:qP C hp W){f:List V}(e:W.σ[i]?=Y a)(j:hp[i]?=Y (.list f)):∃u h,R7 C W hp i a (.list f) ⟨.type "list",N,.seq (c8 u) h,#[]⟩/\qD C W f u/\f.length=u.length:=by
 refine rM (En T e j) λH G=>?_
 obtain ⟨u,h,rfl,b⟩:=G.rep.inv;exact ta u h G b b.length
theorem Cu (H:qP C hp W){h:List V}(e:W.σ[i]?=Y a)(G:R7 C W hp i a (.list h) ⟨.type "list",N,.seq (c8 vs) n,#[]⟩){f:Array aj->Array aj}{vs':List aj}(j:f vs.toArray=vs'.toArray)(U:qD C W l' vs'){A:aj->ay->Prop}(o:hp.set i (.list l')=hp')(k:qu C W v w)(g:∀T b,Kept C W T->qP C hp' T->qu C T v b->A b T.s):A w { W.s with heap:=W.s.heap.update a<|iW f }:=by
 have z:=mw G.at_ f;have p:=λ(q:bK) (I:gw) (c:q≠a) (L:W.s.heap.get? q=Y I)=>((cS W.s.heap a<|iW f).2 q c).trans L
 rw[j] at z
 exact g ⟨W.G,W.σ,_⟩ _ (G.kept _ p) (J o<|H.upd e p z (.list U) rfl rfl<|ag _) k
theorem QC (T:qP C hp W){e:MK}(k:qu C W o s)(U:qD C W as j)(p:Jn hp e o as=Y (v,hp')) :
  TH C A (call (.builtin (mkId e)) (s::j)) (λa b=>qu C a v b) hp' W:=by
 cases o with
 |ref c=>
  obtain ⟨x,rfl,i⟩:=k.inv;have p:(match hp[c]? with|Y (.list l)=>QD hp c e as l|_=>N)=Y (v,hp'):=p
  cases n:hp[c]? with
  |none=>replace p:=n▸p;exact nS p
  |some o=>cases o with
   |list l=>
    revert p;refine Q n ?_;intro p;refine qY (AM T i n) λd t G I z=>?_
    cases e with
    |uW=>
     refine Bv U p λh q L p=>qX p λH p=>λQQq u g=>?_
     have w:l.length<=65536:=of_decide_eq_true H;exact gQ F.slot_list_append (qp _ G.at_ rfl) F.entry_list_append (F.args_list_append_2 _ _) (gz x d.toArray t q (by simp only[bj,g6];lia)) ⟨G.at_,(sy p λn y=>Cu T i G (f:=(·.push q)) (vs':=d++[q]) (by simp) (qI.append I (.cons L .nil)) y (n▸.none) g)⟩
    |wF=>
     refine WN U p λp=>qX p λH p=>λQQq u g=>?_
     have w:l.length<=65536:=of_decide_eq_true H;exact gQ F.slot_list_reverse (qp _ G.at_ rfl) F.entry_list_reverse (F.args_list_reverse_1 _) (AutoListH.list_reverse_list_0 x d.toArray t (by simp only[bj,g6];lia)) ⟨G.at_,(sy p λn y=>Cu T i G (f:=(·.reverse)) (vs':=d.reverse) (by simp) (qI.reverse I) y (n▸.none) g)⟩
    |BU=>
     refine WN U p λp=>qX p λH p=>qN p λh L p=>λQQq u g=>?_
     have w:l.length<=65536:=of_decide_eq_true H;rw[gg] at L
     exact qt (I.get L) λb hc rc=>gQ F.slot_list_pop (qp _ G.at_ rfl) F.entry_list_pop (F.args_list_pop_1 _) (MeetsSeq.list_pop_last x d.toArray t b (by simpa[<- z] using hc) (by simp only[bj,g6];lia)) ⟨G.at_,(sy (qn Y p) λn y=>Cu T i G (f:=λj=>j.eraseIdxIfInBounds (d.toArray.size-1)) (vs':=d.dropLast) (by simp) (qI.dropLast I) y (n▸rc) g)⟩
    |_=>exact nS p
   |_=>replace p:=n▸p;exact nS p
 |_=>exact nS p
theorem QA (L:rk d A)(T:qP C hp W){e:MK}(k:qu C W o x)(U:qD C W as j)(f:za hp e o as=Y (v,hp')) :
  TH C A (call (.builtin<|mkId e)<|x::j) (λa b=>qu C a v b) hp' W:=by
 delta za at f
 split at f
 .exact QC T k U f
 .split at f
  .rename_i I;refine Q I ?_;clear I;refine qt (cg.mp f) λc i n=>?_
   cases n
   exact (La T k U i).th T
  .refine qt (cg.mp f) λc i n=>?_
   cases n
   exact (Ou L T k U.rB i).th T
end
section
structure acH (C:Ctx) (g:Glob):Prop where
 top:∀x v,g.top.lookup x=some v->C.mg x=some v
 miss:∀x,g.top.lookup x=none->C.mg x=none
 blt:∀x v,g.blt.lookup x=some v->C.mb x=some v
 vals:∀x v,g.vals.lookup x=some v->∃c,C.mg x=some c/\∀W:Wd,Gm.le C.tD W.G.I->qu C W v c
variable {n q f j:St}
def TT (T:Ctx)(c:Nat)(z:K)(I:List Nat)(L:a7)(A:St)(U:Bool)(H:St):Prop:=∀(a:Around)(g:kK)(W:Wd),rk c a->At T z I g A W->Tr T z I g a (j6 L g<|eval L g) H (λJ G=>G=U) W
def TL (T:Ctx)(c:Nat)(G:K)(A:List Nat)(es:List a7)(H:St)(k:List V)(I:St):Prop:=∀(U:Around)(g:kK)(W:Wd),rk c U->At T G A g H W->Tr T G A g U (spliced<|es.map λL=>(false,eval L g)) I (λa A=>qD T a k A) W
theorem wL:∀{l:List ba}{x:ba}{i:Nat},idx l x=Y i->l[i]?=Y x:=by
 intro l x i h;refine qt (List.findIdx?_eq_some_iff_getElem.mp h) λh1 h2 h3=>?_
 refine Q (aD h1)<|Q (eq_of_beq h2) rfl
theorem TE.O3 {e:dA}:TE C d B M (.Constant (.bool b) k e) n (.bool b) n:=λT g s L G U i h=>wpAny_Constant_bool<|h s _ (Wd.le.refl _) G<|.bool b
theorem TE.const_none {e:dA}:TE C d B M (.Constant .none k e) n .none n:=λT g s L G U i h=>wpAny_Constant_none<|h s _ (Wd.le.refl _) G .none
theorem TE.G7 {e:dA}:TE C d B M (.Constant (.str s) k e) n (.qr s) n:=λT g t L G U i h=>wpAny_Constant_str<|h ⟨t.G.S' t.s.toks s,t.σ,_⟩ _ (Pext0.tok s G.H.DQ).le (G.ry<|(Pext0.tok s G.H.DQ).strict<|cY _)<|.qr<|Tm.rO _ _ _
theorem TE.cell {p:ba}{e:dA}{o t:Nat}{k:V}(u:B.cells[o]?=Y p) (hk:B.scope.names.lookup p=Y .cell\/(B.scope.names.lookup p=Y .free/\(p==("__classdict__":ba))=false)) (i:M[o]?=Y t) (v:n.hp[t]?=Y (.cell<|Y k)) (z:(p==("__debug__":ba))=false) :
  TE C d B M (.Name p e) n k n:=λa w x L G QQq y h=>by
 refine qY (G.ok.cell o p u<|by rcases hk with h|h;exact .inl h;exact .inr h.1) λT s H c A=>?_
 rw[i] at H;(refine Vm.sI H ?_;clear H;rintro rfl)
 refine qJ (G.H.rX _ _ c) λJ J U=>qY U λI b h1 g h3=>?_
 rw[v] at h1;(refine Vm.sI h1 ?_;clear h1;rintro rfl)
 obtain ⟨_,rfl,r⟩:=h3.inv;refine wpAny_Name ?_ z;rcases hk with hk|hk
 .exact pD (by rw[G.ok.scope];exact G.ok.fn) (by delta ft;exact Q G.ok.scope hk) A ⟨_,g,rfl⟩<|h x _ (Wd.le.refl _) G r
 .exact wpAny_loadName_free (by rw[G.ok.scope];exact G.ok.fn) (by delta ft;exact Q G.ok.scope hk.1) A ⟨_,g,rfl⟩ (h x _ (Wd.le.refl _) G r) hk.2
theorem At.glob {s:Wd}(ha:At C B M env n s):s.s.heap.Ns env.globals C.mg/\s.s.heap.Ns env.builtins C.mb:=Q ha.ok.globals<|Q ha.ok.builtins<|C.gl _ λv G e=>ha.H.I v G<|ha.H.top v G e
theorem TE.glob {e:dA}(k:B.scope.names.lookup x=Y .globalImplicit)(o:C.mg x=Y c\/(C.mg x=N/\C.mb x=Y c))(hr:∀s:Wd,Gm.le C.tD s.G.I->qu C s v c)(i:(x==("__debug__":ba))=false) :
  TE C d B M (.Name x e) n v n:=λT p s J G U g h=>by
 refine Name_function_global (Q G.ok.scope G.ok.fn) (by delta ft;exact Q G.ok.scope k) ?_ i;rcases o with o|⟨o,t⟩
 .exact loadGlobal_global G.glob.1 o<|h s _ (Wd.le.refl _) G<|hr s G.H.top
 .exact loadGlobal_builtin G.glob.1 o G.glob.2 t<|h s _ (Wd.le.refl _) G<|hr s G.H.top
theorem TE.bin {L c:a7}{e:dA}(g:TE C d B M L n a f)(x:TE C d B M c f b j)(h:sH j.hp op a b=Y v):TE C d B M (.BinOp L op c e) n v j:=.binop g x λT t s i U o k u=>Pd U o k u h
theorem TE.un {e:dA}(h1:TE C d B M x n a f)(h:Vt op a=Y v):TE C d B M (.UnaryOp op x e) n v f:=λU i t L H I k g=>wpAny_UnaryOp<|h1 U i t L H _ _ λo s T y G=>PD G h _ _ λb s c p=>g b s (T.trans c.le) (y.ry c) p
theorem TT.plain (h:TE C d B M e n k f)(i:rC f.hp k=Y b)(hp:∀o v,j6 e o v=(do let k←v;er e.pos;gq [k] (truthy k))):TT C d B M e n b f:=
 λU o s L H I g p=>isTrue_plain (h U o s L H _ _ λt w T y G=>wW L y.H G i _ _ λc w u a=>p c w (T.trans u.le) (y.ry u) a)<|hp _ _
theorem TE.not {e:dA}(h1:TE C d B M x n a f)(h:rC f.hp a=Y U):TE C d B M (.UnaryOp .Not x e) n (.bool<|!U) f:=λb i t L H I k g=>wpAny_UnaryOp<|h1 b i t L H _ _ λo s T y G=>not_of<|wW L y.H G h _ _ λc s p u=>by refine Q u ?_;clear u;exact g c _ (T.trans p.le) (y.ry p)<|.bool _
theorem TT.not {e:dA}(h1:TT C d B M x n b f):TT C d B M (.UnaryOp .Not x e) n (!b) f:=λU h s L H I i g=>isTrue_not<|h1 U h s L H _ _ λo w T y G=>g o _ T y<|by refine Q G rfl
theorem TE.rb {h:dA}(h1:TT C d B M c n U f)(i:TE C d B M (if U then b else e) f v j):TE C d B M (.IfExp c b e h) n v j:=
 λk o t L H A p g=>by
  refine wpAny_IfExp<|h1 k o t L H _ _ λu I T y G=>?_
  subst G
  cases I<;>exact i k o u L y A p λw s x z a=>g w s (T.trans x) z a
theorem TT.rb {h:dA}(h1:TT C d B M c n H f)(o:TT C d B M (if H then b else e) f v j):TT C d B M (.IfExp c b e h) n v j:=
 λU i s L I A k g=>by
  refine isTrue_IfExp<|h1 U i s L I _ _ λp w T y G=>?_
  subst G
  cases w<;>exact o U i p L y A k λt u x z a=>g t u (T.trans x) z a
theorem TE.Wy {e:dA}(g:TE C d B M x n v f):TE C d B M (.BoolOp op [x] e) n v f:=g
theorem Ii {b:aj->ay->Prop}{a:List<|gE aj}{e:dA}{L:aj->ay->Prop}(d:wpAny I T x (λt u=>wpAny I T (truthy t) (λg U=>match op,g with|.And,false=>L t U|.Or,true=>L t U|J,W=>wpAny I T (boolOp e op<|y::a) L b U) b u) b s) :
  wpAny I T (boolOp e op<|x::y::a) L b s:=by
 refine af<|wpAny_mono d (λt u c=>af<|wpAny_standAt<|af<|cT<|wpAny_mono c (λg U h=>?_) λJ J x=>x) λJ J x=>x
 cases op<;>cases g<;>first|exact wpAny_pure h|exact h
theorem TE.zr {k:List a7}{e:dA}(h1:TE C d B M L n v f)(o:rC f.hp v=Y t)(i:t=(match op with|.And=>true|.Or=>false))(x:TE C d B M (.BoolOp op (y::k) e) f w j) :
  TE C d B M (.BoolOp op (L::y::k) e) n w j:=λU env s c H QQq u g=>by
 refine Ii<|h1 U env s c H _ _ λA z T rh G=>wW c rh.H G o _ _ λI b p a=>?_
 subst a i
 cases op<;>exact x U env I c (rh.ry p) QQq u λuq h uU Bg uF=>g uq h ((T.trans p.le).trans uU) Bg uF
theorem TE.xM {h:List a7}{e:dA}(h1:TE C d B M L n v f)(k:rC f.hp v=Y t)(i:t=(match op with|.And=>false|.Or=>true)) :
  TE C d B M (.BoolOp op (L::y::h) e) n v f:=λU o s b G I p g=>by
 refine Ii<|h1 U o s b G _ _ λu c T z sA=>wW b z.H sA k _ _ λw H x a=>?_
 subst a i
 cases op<;>exact g w c (T.trans x.le) (z.ry x)<|sA.mono x.le
theorem TT.MB {e:dA}:TT C d B M (.BoolOp op [] e) n (op==.And) n:=λT g s L G U i h=>wpAny_pure<|h s _ (Wd.le.refl _) G rfl
theorem TT.zr {h:List a7}{e:dA}(h1:TT C d B M L n t f)(i:t=(match op with|.And=>true|.Or=>false))(o:TT C d B M (.BoolOp op h e) f b j) :
  TT C d B M (.BoolOp op (L::h) e) n b j:=λU k s c H I p g=>by
 refine af<|h1 U k s c H _ _ λv u T y G=>?_
 subst G i
 cases op<;>exact o U k v c y I p λw x z A a=>g w x (T.trans z) A a
theorem TT.xM {g:List a7}{e:dA}(h1:TT C d B M L n t f)(i:t=(match op with|.And=>false|.Or=>true)) :
  TT C d B M (.BoolOp op (L::g) e) n t f:=λU k s a H I o h=>by
 refine af<|h1 U k s a H _ _ λp w T y G=>?_
 subst G i
 cases op<;>exact wpAny_pure<|h p _ T y rfl
theorem TL.nil:TL C d B M [] n [] n:=λT g s L G U e h=>spliced_nil<|h s _ (Wd.le.refl _) G .nil
theorem TL.cons (h1:TE C d B M L n k f)(c:TL C d B M es f vs j):TL C d B M (L::es) n (k::vs) j:=λU h t b H A e g=>spliced_cons<|h1 U h t b H _ _ λo s T y G=>c U h o b y _ _ λi I p u a=>g i _ (T.trans p) u<|.cons (G.mono p) a
inductive tw (C:Ctx) (d:Nat) (B:K) (M:List Nat):List a7->St->List V->St->Prop
 |nil {n:St}:tw C d B M [] n [] n
 |cons {e:a7}{es:List a7}{v:V}{vs:List V}{n f j:St}:TE C d B M e n v f->tw C d B M es f vs j->tw C d B M (e::es) n (v::vs) j
theorem tw.tl (t:tw C d B M es n vs q):TL C d B M es n vs q:=by
 induction t with
 |nil=>exact .nil|cons e J c=>exact .cons e c
theorem tw.length (t:tw C d B M es n vs q):vs.length=es.length:=by induction t<;>simp_all
theorem tw.ac9 (t:tw C d B M [] n vs q):n=q:=by cases t;rfl
theorem tw.BQ (t:tw C d B M [] n ls q):ls=[]/\n=q:=by cases t;exact ⟨rfl,rfl⟩
theorem tw.Ms (t:tw C d B M (L::es) n ls q):∃k u v,ls=k::u/\TE C d B M L n k v/\tw C d B M es v u q:=by cases t with|cons e s=>exact Ec _ _ _ rfl e s
theorem Hn (e:noStar L=true):starEach (L::es) env=(false,eval L env)::starEach es env:=by cases L<;>first|rfl|exact Vm.fT e
theorem rN:∀{a:List a7},a.all noStar=true->starEach a env=a.map λe=>(false,eval e env)
 |[]=>@λJ=>rfl
 |e::a=>@λg=>by
  rw[fm,aA] at g
  exact Q (Hn g.1)<|Q (rN g.2) rfl
theorem su {e:dA}(a:List a7):backTo e (a.map λL=>(false,eval L env))=a.map λL=>(false,eval L env):=by delta backTo;exact ax bk<|dB λL J=>rfl
theorem TE.tup {h:List a7}{e:dA}(o:h.all noStar=true)(h1:TL C d B M h n vs f)(w:h.length<=65536)(i:vs.length=h.length):TE C d B M (.Tuple h k e) n (.tup vs) f:=
 λU p s L H A t g=>by
  refine wpAny_Tuple<|Q (rN o)<|Q (su ..)<|h1 U p s L H _ _ λu b T y G=>⟨?_,?_⟩
  .exact J G.length<|Q i<|aa w<|by decide
  .refine rT (Pext0.tup y.H G u.s.toks) λa I v x=>?_
   have c:=I.strict<|Q x<|ag _
   have:=g a _ (T.trans c.le) (y.ry c) v;rw[x] at this
   exact this
end
section
variable {j k f g:St}{W:Wd}
structure Off (C:Ctx) (W:Wd) (a:bK) (o:gw):Prop where
 at_:W.s.heap.get? a=some o
 I:W.G.I a=none
 F:W.G.F a=none
 σ:a∉W.σ
 T:a∉C.tabs
theorem Gm.I8 {s:Gm}(e:(s.put a o) b=Y x):(b=a/\x=o)\/(b≠a/\s b=Y x):=by
 delta Gm.put at e
 by_cases i:b=a
 .rw[ql i] at e;(refine Vm.sI e ?_;clear e;rintro rfl);exact .inl ⟨i,rfl⟩
 .rw[qm i] at e;exact .inr ⟨i,e⟩
theorem Off.FJ (h:Off C W a o)(H:qP C hp W):q7 C (W.G.FJ a o) W.σ hp W.s where
 I:=H.I
 F b x e:=by
  rcases Gm.I8 e with ⟨rfl,rfl⟩|⟨_,e⟩
  .exact h.at_
  .exact H.F b x e
 IF b e:=by show (W.G.F.put a o) b=N;exact Q (Gm.so λz=>e<|by exact Q z h.I)<|H.IF b e
 top:=H.top
 tab P hP:=by
  refine qJ (H.tab P hP) λx y z=>ri x ?_ z
  show (W.G.F.put a o) P=N;exact Q (Gm.so λq=>h.T<|by exact J q hP) y
 len:=H.len
 nd:=H.nd
 rX i b e:=by
  refine qJ (H.rX i b e) λp q z=>ri p ?_ z
  show (W.G.F.put a o) b=N;exact Q (Gm.so λz=>h.σ<|by exact J z<|bG e) q
 gens:=H.gens
 os:=H.os
 pos:=H.pos
 T:=H.T
theorem q7.HN {F:Gm}(H:q7 C G σ hp s)(h:∀b x,F b=Y x->G.F b=Y x):q7 C ⟨G.I,F,G.T⟩ σ hp s where
 I:=H.I
 F b x e:=H.F b x<|h b x e
 IF b e:=by
  show F b=N
  cases q:F b with
  |none=>rfl|some x=>have:=h b x q;rw[H.IF b e] at this;exact Vm.nS this
 top:=H.top
 tab P hP:=by
  refine qJ (H.tab P hP) λx y z=>ri x ?_ z
  cases q:F P with
  |none=>exact q|some x=>have:=h P x q;rw[y] at this;exact Vm.nS this
 len:=H.len
 nd:=H.nd
 rX i b e:=by
  refine qJ (H.rX i b e) λp q z=>ri p ?_ z
  cases q':F b with
  |none=>exact q'|some x=>have:=h b x q';rw[q] at this;exact Vm.nS this
 gens:=H.gens
 os:=H.os
 pos:=H.pos
 T:=H.T
def Wd.hold (s:Wd)(v:bK)(o:gw):Wd:=⟨s.G.FJ v o,s.σ,s.s⟩
noncomputable def Wd.tL (t:Wd)(s:Gm):Wd:=⟨⟨t.G.I,s,t.G.T⟩,t.σ,t.s⟩
theorem At.hold (G:At C B M env j W)(z:Off C W a o)(c:a≠env.locals):At C B M env j<|W.hold a o:=⟨G.ok,z.FJ G.H,⟨G.L.ns,G.L.I,(Q (Gm.so<|fJ c) G.L.F:(W.G.F.put a o) env.locals=N),G.L.σ,G.L.T⟩⟩
open Classical in
noncomputable def Wd.zN (T:Ctx)(a:List bK)(s:Wd):Gm:=λv=>(s.G.F v).or<|if v∉a/\s.G.I v=N/\v∉s.σ/\v∉T.tabs then s.s.heap.get? v else N
def Wd.wm (T:Ctx)(a:List bK)(W:Wd):Wd:=W.tL<|W.zN T a
theorem XE (e:W.G.F b=Y o):W.zN C L b=Y o:=by delta Wd.zN;exact Q e rfl
theorem none_of {p:Type}{o:Option p}(b:∀G,o=Y G->False):o=N:=by
 cases o with
 |none=>rfl|some G=>exact (b G rfl).elim
theorem vV (T:qP C hp W)(e:W.zN C L v=Y o):Off C ⟨⟨W.G.I,λV=>N,W.G.T⟩,W.σ,W.s⟩ v o/\(v∈L->W.G.F v=Y o):=by
 delta Wd.zN at e
 cases i:W.G.F v with
 |some p=>
  rw[i] at e
  refine J (ae e)<|⟨⟨T.F v p i,?_,rfl,λa=>?_,λa=>?_⟩,λV=>rfl⟩
  .exact none_of λw t=>by have:=T.IF v<|Q t λa=>Vm.sN a;rw[i] at this;exact Vm.sN this
  .obtain ⟨c,G,t⟩:=cH a;refine qJ (T.rX c v<|J t<|aD G) λV z V=>?_
   rw[i] at z;exact Vm.sN z
  .have:=(T.tab v a).2.1;rw[i] at this;exact Vm.sN this
 |none=>
  rw[i,lg] at e
  exact qX e λt e=>⟨⟨e,t.2.1,rfl,t.2.2.1,t.2.2.2⟩,λa=>absurd a t.1⟩
theorem Jh (G:b∉L)(z:Off C W b o):W.zN C L b=Y o:=by delta Wd.zN;exact Q z.F<|Q (lg ..)<|Q (ql<|tb G z.I z.σ z.T) z.at_
theorem q7.ex (L)(H:qP C hp W):qP C hp<|W.wm C L where
 I:=H.I
 F b x e:=(vV H e).1.at_
 IF b e:=none_of λo q=>e (vV H q).1.I
 top:=H.top
 tab P hP:=⟨(H.tab P hP).1,none_of λo q=>(vV H q).1.T hP,(H.tab P hP).2.2⟩
 len:=H.len
 nd:=H.nd
 rX i b e:=⟨(H.rX i b e).1,none_of λo q=>(vV H q).1.σ<|bG e,(H.rX i b e).2.2⟩
 gens:=H.gens
 os:=H.os
 pos:=H.pos
 T:=H.T
structure R9 (C:Ctx) (L:List bK) (W W':Wd):Prop where
 le:W.le W'
 off:∀a o,a∉L->Off C W a o->Off C W' a o
theorem q7.xx (T:(W.wm C L).le W')(U:qP C hp' W'):R9 C L W (W'.tL W.G.F)/\qP C hp' (W'.tL W.G.F)/\∀v o,Off C W' v o->Off C (W'.tL W.G.F) v o:=by
 have b:∀q p,W.G.F q=Y p->W'.G.F q=Y p:=λq p e=>Q T.G.F<|XE e
 refine ⟨⟨⟨⟨T.G.I,rfl,T.G.T⟩,T.σ⟩,λv o G z=>?_⟩,U.HN b,λv o z=>⟨z.at_,z.I,none_of λp n=>by have:=b v p n;rw[z.F] at this;exact Vm.nS this,z.σ,z.T⟩⟩;have i:W'.G.F v=Y o:=Q T.G.F<|Jh G z
 refine ⟨U.F v o i,none_of λp n=>?_,z.F,λH=>?_,z.T⟩
 .skip
  have:=U.IF v<|Q n λH=>Vm.sN H;rw[i] at this;exact Vm.sN this
 .obtain ⟨c,I,e⟩:=cH H;refine qJ (U.rX c v<|J e<|aD I) λV d V=>?_
  rw[i] at d;exact Vm.sN d
theorem At.ex (G:At C B M env j W)(a:env.locals∈h):At C B M env j<|W.wm C h:=⟨G.ok,G.H.ex h,⟨G.L.ns,G.L.I,none_of λH e=>by have:=(vV G.H e).2 a;rw[G.L.F] at this;exact Vm.nS this,G.L.σ,G.L.T⟩⟩
theorem At.xx {h:kK}{i:List bK}{U:Wd}{I:St}(G:At C B M h I W) (T:(W.wm C i).le U) (y:At C B M h j U):R9 C i W (U.tL W.G.F)/\At C B M h j (U.tL W.G.F)/\∀v o,Off C U v o->Off C (U.tL W.G.F) v o:=
 have t:=q7.xx T y.H
 (ri t.1 (⟨y.ok,t.2.1,⟨y.L.ns,y.L.I,G.L.F,y.L.σ,y.L.T⟩⟩) t.2.2)
theorem zP {p:Type}{U:Around}{h:kK}{v:gE p}{R:Tm->Gm->List bK->p->Prop}{w:bK}{o:gw}(z:Off C W w o)
  (H:Tr C B M h U v k (λW' I=>R W'.G.T W'.G.I W'.σ I)<|W.hold w o) (x:p->ay->Prop) (s:aj->ay->Prop)
  (t:∀W' I,W.le W'->At C B M h k W'->R W'.G.T W'.G.I W'.σ I->Off C W' w o->x I W'.s):wpAny (model C.prog C.w) U v x s W.s:=by
 refine H x s λW' I T L G=>?_
 have e:W'.G.F=W.G.F.put w o:=T.G.F;have a:∀q I,W.G.F q=Y I->W'.G.F q=Y I:=λq I i=>by
  refine Q e ?_
  by_cases n:q=w
  .subst n;rw[z.F] at i;exact Vm.nS i
  .exact Q (Gm.so n) i
 have A:W'.G.F w=Y o:=by refine Q e<|Q (Gm.rO ..) rfl
 have y:At C B M h k<|W'.tL W.G.F:=⟨L.ok,L.H.HN a,⟨L.L.ns,L.L.I,(by
   refine (?_:W.G.F h.locals=N)
   cases n:W.G.F h.locals with
   |none=>rfl|some I=>have:=a _ _ n;rw[L.L.F] at this;exact Vm.nS this),L.L.σ,L.L.T⟩⟩
 refine t (W'.tL W.G.F) I (⟨⟨T.G.I,rfl,T.G.T⟩,T.σ⟩) y G ⟨L.H.F _ _ A,?_,z.F,?_,z.T⟩
 .cases n:W'.G.I w with
  |none=>exact n|some I=>have:=L.H.IF w<|Q n λc=>Vm.sN c;rw[A] at this;exact Vm.sN this
 .intro c;obtain ⟨d,b,i⟩:=cH c;refine qJ (L.H.rX d w<|J i<|aD b) λV n V=>?_
  rw[A] at n;exact Vm.sN n
def Dj (T:Ctx)(c:Nat)(I:K)(L:List Nat)(n:V)(h:List CmpOp)(o:List a7)(H:St)(U:Bool)(G:St):Prop:=
 ∀(a:Around)(i:kK)(W:Wd)(s:aj)(pos:dA),rk c a->At T I L i H W->qu T W n s->
  Tr T I L i a (compareChain pos s h<|evalEach o i) G (λJ b=>b=.bool U) W/\Tr T I L i a (testChain pos s h<|evalEach o i) G (λJ b=>b=U) W
theorem Dj.last {U:Bool}(h1:TE C d B M e j b f)(i:tW f.hp op a b=Y U):Dj C d B M a [op] [e] j U f:=
 λc o W s p L H q=>⟨λI u h=>by
  rw[evalEach,evalEach];exact chain_last<|h1 c o W L H _ _ λn v T y G=>vZ L y.H (q.mono T) G i _ _ λw t x z=>h w t (T.trans x.le) (y.ry x) z,λI u h=>by
  rw[evalEach,evalEach];exact test_last<|h1 c o W L H _ _ λn v T y G=>vZ L y.H (q.mono T) G i _ _ λw t x z=>Q z<|fw<|h w _ (T.trans x.le) (y.ry x) rfl⟩
theorem Dj.go {U:Bool}(h1:TE C d B M L j b f)(e:tW f.hp A a b=Y true)(o:Dj C d B M b (v::ops) (c::es) f U g):Dj C d B M a (A::v::ops) (L::c::es) j U g:=
 λi env W s q t G w=>⟨λQQq z H=>by
  rw[evalEach,evalEach];refine chain_link<|h1 i env W t G _ _ λn h T y sA=>vZ t y.H (w.mono T) sA e _ _ λI x p wd=>?_
  subst wd;refine fw ?_;have:=(o i env I h q t (y.ry p)<|sA.mono p.le).1 QQq z λuq u uU Bg uF=>H uq u ((T.trans p.le).trans uU) Bg uF
  rw[evalEach] at this
  exact this,λQQq z H=>by
  rw[evalEach,evalEach];refine test_link<|h1 i env W t G _ _ λn h T y sA=>vZ t y.H (w.mono T) sA e _ _ λI x p wd=>?_
  subst wd;refine fw ?_;have:=(o i env I h q t (y.ry p)<|sA.mono p.le).2 QQq z λuq u uU Bg uF=>H uq u ((T.trans p.le).trans uU) Bg uF
  rw[evalEach] at this
  exact this⟩
theorem Dj.stop (h1:TE C d B M L j b f)(e:tW f.hp A a b=Y false):Dj C d B M a (A::op'::ops) (L::e'::es) j false f:=
 λU i W s o c H p=>⟨λI t h=>by
  rw[evalEach,evalEach];refine chain_link<|h1 U i W c H _ _ λn u T y G=>vZ c y.H (p.mono T) G e _ _ λv q w x=>?_
  subst x;exact fw<|h v _ (T.trans w.le) (y.ry w) rfl,λI t h=>by
  rw[evalEach,evalEach];refine test_link<|h1 U i W c H _ _ λn u T y G=>vZ c y.H (p.mono T) G e _ _ λv q w x=>?_
  subst x;exact fw<|h v _ (T.trans w.le) (y.ry w) rfl⟩
theorem zh:∀{a:List CmpOp}{h:List a7},(a.zip h).any (λb=>kF b.1 b.2)=false->lO a h=false
 |[],J=>@λJ=>rfl
 |[A],[L]=>@λe=>by simpa[lO] using e
 |_::_,[]=>@λJ=>by simp[lO]
 |[_],_::_::_=>@λJ=>rfl
 |_::_::_,[_]=>@λJ=>by simp[lO]
 |_::v::a,_::L::h=>@λe=>by
  rw[cB,hY,nT] at e
  simpa[lO] using (zh e.2)
theorem TE.cmp {L:a7}{h:List CmpOp}{e:dA}(i:(h.zip es).any (λc=>kF c.1 c.2)=false)(h1:TE C d B M L j a f)(o:Dj C d B M a h es f b g) :
  TE C d B M (.Compare L h es e) j (.bool b) g:=λU p W q H I t u=>Q (arm_eval_Compare ..)<|Q (pE _ _ _<|zh i)<|af<|h1 U p W q H _ _ λn c T y G=>(o U p n c e q y G).1 I t λv s w x z=>by subst z;exact u v _ (T.trans w) x<|.bool _
theorem TT.cmp {L:a7}{h:List CmpOp}{e:dA}(i:(h.zip es).any (λc=>kF c.1 c.2)=false)(h1:TE C d B M L j a f)(o:Dj C d B M a h es f b g) :
  TT C d B M (.Compare L h es e) j b g:=λU p W q H A s t=>(Q (pE _ _ _<|zh i)<|af<|h1 U p W q H _ _ λn c T y G=>(o U p n c e q y G).2 A s λu I v w x=>t u _ (T.trans v) w x:wpAny _ _ (do testChain e (← eval L p) h (markedEach h es<|evalEach es p)) _ _ _)
theorem FD (L)(s b):∃a,subscripted L false s b=operate a (getItem s b):=by
 cases L with
 |Slice y h e i=>cases e<;>exact ⟨_,rfl⟩
 |_=>exact ⟨_,rfl⟩
theorem ID {b:Wd->aj->Prop}{p:String}(G:W.s.TypeIs s T)(e:eW (.type T) "__getitem__"=pure (Y<|.builtin p))(h:q6 C U (getItem s n) b W):q6 C U (subscriptTail L c s n) b W:=λI o hQ=>by
 refine af<|Q (getitemInPython_of_ne G.not_modules)<|af<|iT G e ?_
 have d:wpAny (model C.prog C.w) U (subscripted c false s n) (λu v=>wpAny (model C.prog C.w) U (m7 L s u>>=λJ=>pure u) I o v) o W.s:=rM (FD c s n) λa i=>Q i<|wpAny_operating<|h (λu v=>wpAny (model C.prog C.w) U (m7 L s u>>=λJ=>pure u) I o v) o λq t w u=>af<|wpAny_letTemporaryGo<|wpAny_pure<|hQ q t w u
 first
  |exact wpAny_pure<|af d
  |exact af<|wpAny_pure<|af d
  |exact af d
noncomputable def N2:V->Bool
 |.lst _|.tup _|.str _|.rt _ _=>true|_=>false
theorem Gg (I:uD C W x v)(e:N2 v=true):∃h p,W.s.TypeIs x h/\eW (.type h) "__getitem__"=pure (Y<|.builtin p):=by
 cases v with
 |lst l=>obtain ⟨w,a,rfl,i,U⟩:=I;exact wy "list" _ i.is.typeIs F.slot_list_getitem.lookup
 |tup l=>obtain ⟨w,a,rfl,⟨c,i⟩,U⟩:=I;exact wy "tuple" _ (qp _ i rfl) F.slot_tuple_getitem.lookup
 |str l=>obtain ⟨y,rfl⟩:=I;exact wy "str" _ (typeIs_str _ _ _) F.slot_str_getitem.lookup
 |rt n a=>obtain ⟨w,o,rfl,⟨c,i⟩,U⟩:=I;exact wy "dict" _ (qp _ i rfl) F.slot_dict_getitem.lookup
 |_=>exact fT e
theorem PV (e:N1 o i=Y v):N2 o=true:=by
 cases o with
 |lst|tup|str|rt=>rfl|_=>exact nS e
theorem TE.sub {e:dA}(h1:TE C d B M o j a f)(x:TE C d B M i f b g)(q:sf g.hp a b=Y v):TE C d B M (.Subscript o i e) j v g:=λU t W L G QQq u w=>Subscript_<|h1 U t W L G _ _ λn c uV y sA=>x U t n L y _ _ λz h A H I=>zB (Gg (tY H.H<|sA.mono A)<|PV q) λT id t1 t2=>ID t1 t2 (Eu L H.H (sA.mono A) I q) _ _ λuq s p uF=>w uq s ((uV.trans A).trans p.le) (H.ry p) uF
def Hf (T:Ctx)(c:Nat)(L:K)(G:List Nat)(y:Option a7)(I:St)(n:V)(H:St):Prop:=∀(U:Around)(h:kK)(W:Wd),rk c U->At T L G h I W->Tr T L G h U (evalPart y h) H (λa s=>qu T a n s) W
theorem Hf.none:Hf C d B M N j .none j:=λT i W L G U e h=>
 wpAny_pure<|h W _ (Wd.le.refl _) G .none
theorem Hf.some (e:TE C d B M L j v f):Hf C d B M (Y L) j v f:=λT h W U G I i n=>
 e T h W U G I i n
theorem P8 {y:Option Int}(e:SY o y hi w=Y v):N2 w=true:=by
 cases w with
 |lst|str=>rfl|_=>exact nS e
theorem TE.C3 {lo:Option a7}{c:dA}(h1:TE C d B M o j a f)(h2:Hf C d B M lo f b g)(h3:Hf C d B M hi g A N3)(q:FE N3.hp a b A=Y v) :
  TE C d B M (.Subscript o (.Slice lo hi N e) c) j v N3:=λU t W L H QQq w h=>by
 refine Subscript_<|h1 U t W L H _ _ λn x uV I G=>wpAny_Slice<|h2 U t n L I _ _ λxl y l₂ sv wd=>h3 U t xl L sv _ _ λuq z uU Bg uF=>Hf.none U t uq L Bg _ _ λxj u ze Ga S1=>?_
 subst S1;have pe:xm C xj ⟨xj.G,xj.σ,{ xj.s with heap:=xj.s.heap.push { cls:=.type "slice",data:=.fields #[y,z,.none] },toks:=xj.s.toks }⟩:=(Pext0.push _ _).strict<|ag _
 have YW:=(((G.mono l₂).mono uU).mono ze).mono pe.le;exact zB (Gg (tY (Ga.ry pe).H YW)<|sk q λJ J h=>sk h λJ J h=>P8 h) λT p t1 i=>ID t1 i (N7 L (Ga.ry pe).H YW (((wd.mono uU).mono ze).mono pe.le) ((uF.mono ze).mono pe.le) q<|bb _ rfl) _ _ λU' A e s=>h U' A (((((uV.trans l₂).trans uU).trans ze).trans pe.le).trans e.le) ((Ga.ry pe).ry e) s
end
section
variable {j u g G:St}
def TF (T:Ctx)(c:Nat)(I:K)(y:List Nat)(L:a7)(A:St)(o:O)(z:St):Prop:=
 ∀(U:Around)(f:kK)(W:Wd),rk c U->At T I y f A W->
  Tr T I y f U (eval L f) z (λa s=>∃v H,s=.ref v/\v≠f.locals/\Off T a v H/\rA T.w.params a.G.T a.G.I a.σ H o) W
theorem At.freeze (H:At C B M env j W)(z:Off C W a o)(c:a≠env.locals):At C B M env j ⟨W.G.vq a o,W.σ,W.s⟩:=⟨H.ok,H.H.freeze z.at_ z.I z.F z.σ z.T,⟨qt H.L.ns λd b h=>qp d b λf b k e i=>qt (h f b k e i) λs n p=>qp s n<|qu.mono p ⟨Gh.wK z.I,rl.refl _⟩,(ax (Gm.so<|fJ c) H.L.I:(W.G.I.put a o) env.locals=N),H.L.F,H.L.σ,H.L.T⟩⟩
theorem At.AN (ha:At C B M env j W)(h:Off C W a ob)(hL:a≠env.locals)(r:rA C.w.params W.G.T W.G.I W.σ ob o):At C B M env ⟨j.loc,j.hp++[o]⟩ ⟨W.G,W.σ++[a],W.s⟩:=
 ⟨ha.ok.mono<|rl.push _ _,ha.H.AN h.at_ h.I h.F h.σ h.T<|r.mono (Tm.le.refl _) (Gm.le.refl _)<|rl.push _ _,⟨qt ha.L.ns λm x y=>qp m x λi x v e f=>qt (y i x v e f) λc p q=>qp c p<|qu.mono q ⟨Gh.le.refl _,rl.push _ _⟩,ha.L.I,ha.L.F,by
  intro q;rcases bO.mp q with q|q
  .exact ha.L.σ q
  .exact hL (aM.mp q).symm,ha.L.T⟩⟩
theorem TF.frozen (H:TF C d B M e j o g)(p:(∃f,o=.list f)\/∃ks v,o=.dict ks v):TE C d B M e j (DP o) g:=λU h t L a QQq i q=>by
 refine H U h t L a _ _ λn b T y w=>xP w λs x A c z I=>Q A ?_;clear A
 have l₂:n.le ⟨n.G.vq s x,n.σ,n.s⟩:=⟨Gh.wK z.I,rl.refl _⟩;refine q ⟨n.G.vq s x,n.σ,n.s⟩ _ (T.trans l₂) (y.freeze z c) ?_;rcases p with ⟨f,rfl⟩|⟨ks,v,rfl⟩
 .replace I:=I.inv;obtain ⟨_,_,rfl,I⟩:=I;exact .lst (Gm.rO _ _ _)<|qD.mono I l₂
 .replace I:=I.inv;obtain ⟨_,_,rfl,k,I⟩:=I;exact .rt (Gm.rO _ _ _) k<|rI.mono l₂.G.T l₂.G.I l₂.σ I
theorem TF.tracked (H:TF C d B M e j o g):TE C d B M e j (.ref g.hp.length) ⟨g.loc,g.hp++[o]⟩:=λU f t L a A h i=>by
 refine H U f t L a _ _ λn b T y k=>xP k λs p q c z I=>Q q ?_;clear q
 exact i ⟨n.G,n.σ++[s],n.s⟩ _ (T.trans ⟨Gh.le.refl _,rl.push _ _⟩) (y.AN z c I)<|.ref<|by refine J y.H.len<|ax dN rfl
theorem At.lt (H:At C B M env j W):env.locals<W.s.heap.objs.size:=by
 refine qt H.L.ns λd k J=>?_;obtain ⟨I,a,h,e,_⟩:=k
 exact bP e
theorem Am {o:gw}(T:qP C hp W)(e:o.isFreed=false):Off C ⟨W.G,W.σ,{ W.s with heap:=W.s.heap.push o,toks:=t }⟩ W.s.heap.objs.size o:=⟨bb _ e,T.sD,T.wo,T.vn,T.freshT⟩
theorem TF.list {f:List a7}{e:dA}(h:f.all noStar=true)(h1:TL C d B M f j vs g)(w:f.length<=65536)(i:vs.length=f.length):TF C d B M (.List f e) j (.list vs) g:=
 λU k s L H A o p=>by
  refine wpAny_List<|Q (rN h)<|Q (su ..)<|h1 U k s L H _ _ λn a T y I=>⟨?_,?_⟩
  .exact J I.length<|Q i<|aa w<|by decide
  .skip
   exact p ⟨n.G,n.σ,_⟩ _ (T.trans ((Pext0.push _ _).strict<|ag _).le) (y.ry<|(Pext0.push _ _).strict<|ag _)<|uu _ _ rfl (bw y.lt) (Am y.H rfl)<|.list<|qD.mono I ((Pext0.push _ _).strict<|ag _).le
theorem TF.aeH {e:dA}:TF C d B M (.Dict [] [] e) j (.dict [] []) j:=λT f s L H U i h=>wpAny_Dict_empty<|h ⟨s.G,s.σ,_⟩ _ ((Pext0.push _ _).strict<|ag _).le (H.ry<|(Pext0.push _ _).strict<|ag _)<|uu _ _ rfl (bw H.lt) (Am H.H rfl)<|.dict .nil .nil
theorem Hd:∀{a:List V},Cg a=true->rj a
 |[]=>@λJ=>.nil
 |k::a=>@λe=>by
  unfold Cg at e
  revert e;refine Q (aA ..) ?_;intro e;exact iP.mpr ⟨λf b=>eq_of_beq<|dy.mp e.1 f b,Hd e.2⟩
def MI (L:Tm)(s:Gm)(a:List bK)(T:cD)(xs:List ba)(k:List V)(v:List<|aj×aj):Prop:=∃U,qI T L s a k U/\xs.length=U.length/\v.length=xs.length/\∀(H:iE)(n:d7),Carries (fg H n) v<|xs.zip U
noncomputable def zi (f:kK)(e:dA):List (ba×Nat×dA)->List a7->List (gE aj×gE aj)
 |(p,c,d)::k,L::v=>(eval (.Constant (.str p) c d) f,do let p←eval L f;er e;pure p)::zi f e k v|J,W=>[]
theorem ro {o v:Type}{c:o->Option v}{H:o}{a:List o}{f:List v}(e:qO c (H::a)=Y f):∃b k,c H=Y b/\qO c a=Y k/\f=b::k:=by
 have d:∀(y:Option v)(h:Option<|List v),(match y with|Y b=>(match h with|Y f=>Y<|b::f|N=>N)|N=>N)=Y f->∃b k,y=Y b/\h=Y k/\f=b::k:=by
  intro y h e
  cases y with
  |none=>exact nS e|some b=>cases h with
   |none=>exact nS e|some k=>exact ta b k rfl rfl<|(ae e).symm
 exact d _ _ e
theorem XU (e:TU k=Y x):∃b:ba×Nat×dA,k=Y (.Constant (.str b.1) b.2.1 b.2.2)/\x=.k (.qr b.1):=sk e λL i e=>sk e λA n e=>qN e λp z H=>(Yg n).elim λc U=>U.elim λf U=>qp (p,c,f) (by refine Q i<|Q U<|Q (Xc z) rfl) H.symm
theorem ET:∀{a:List<|Option a7}{f:List X},qO TU a=Y f->∃o:List (ba×Nat×dA),a=o.map (λb=>Y<|.Constant (.str b.1) b.2.1 b.2.2)/\f=o.map (λb=>.k<|.qr b.1)
 |[],f,e=>by (refine Vm.sI e ?_;clear e;rintro rfl);exact qp ([]) rfl rfl
 |k::a,f,e=>by
  refine qY (ro e) λh d i n z=>Q z ?_;clear z
  refine qt (ET n) λo H c=>Q H ?_;clear H;refine Q c ?_;clear c
  refine qt (XU i) λb p I=>Q p ?_;clear p;refine Q I ?_;clear I
  exact qp (b::o) rfl rfl
theorem Aq {e:dA}:∀{a:List<|ba×Nat×dA}{h:List a7},a.length=h.length->
  (evalEachOpt (a.map λb=>Y<|.Constant (.str b.1) b.2.1 b.2.2) f).zip ((evalEach h f).map λv=>do let s←v;er e;pure s)=(zi f e a h).map λd=>(Y d.1,d.2)
 |[],[]=>@λJ=>rfl
 |(s,c,d)::a,L::h=>@λi=>qn (mD _)<|Aq<|cC i
 |[],_::_=>@λi=>by cases i
 |_::_,[]=>@λi=>by cases i
theorem w7 {pos:dA}:∀{a:List<|ba×Nat×dA}{f:List a7},a.length=f.length->(zi env pos a f).length=a.length
 |[],[]=>@λJ=>rfl
 |(p,c,d)::a,L::f=>@λe=>qn (·+1)<|w7<|cC e
 |[],_::_=>@λe=>by cases e
 |_::_,[]=>@λe=>by cases e
theorem Ir {e:dA}(L:rk d U):∀{o:List<|ba×Nat×dA}{q:List a7}{v:List V}{j u:St}{W:Wd},o.length=q.length->tw C d B M q j v u->At C B M f j W->
  Tr C B M f U (evalPairs<|zi f e o q) u (λa H=>MI a.G.T a.G.I a.σ C.w.params (o.map (·.1)) v H) W
 |[],[],P,F,R,W,t,h,I=>Q h.BQ.1<|J h.BQ.2 λQQq A h=>evalPairs_nil<|h W _ (Wd.le.refl _) I<|HA ([]) .nil rfl rfl λP P=>trivial
 |(p,w,c)::o,b::q,_,j,_,W,t,h,I=>by
  refine Eg h.Ms λk v st1 i h1 s=>Q i λQQq A h=>evalPairs_cons<|TE.G7 U f W L I _ _ λq8 c₁ T y sA=>af<|h1 U f q8 L y _ _ λxl c₂ l₂ sv wd=>af<|wpAny_standAt<|wpAny_pure<|Ir L (cC t) s sv _ _ λuq H uU Bg Bx=>HD Bx λaeJ q1 q2 z q4=>h uq _ ((T.trans l₂).trans uU) Bg<|HA (c₂::aeJ) (.cons (wd.mono uU) q1) (qn (·+1) q2) (qn (·+1) z) λprog n=>?_
  obtain ⟨x,rfl,_⟩:=sA.inv;exact ⟨beq_self_eq_true p,rfl,q4 prog n⟩
 |[],_::_,_,_,_,_,t,_,_=>by cases t
 |_::_,[],_,_,_,_,t,_,_=>by cases t
theorem TF.dict {ls:List<|ba×Nat×dA}{p:List a7}{e:dA}(v:ls.length=p.length)(c:ls≠[])(w:ls.length<=15)(A:tw C d B M p j vs g)(I:rj<|ls.map λl=>V.str l.1) :
  TF C d B M (.Dict (ls.map λl=>Y<|.Constant (.str l.1) l.2.1 l.2.2) p e) j (.dict (ls.map λl=>.str l.1) vs) g:=λU f W L ha QQq E h=>by
 have zQ:zi f e ls p≠[]:=by
  intro i;have:=w7 (env:=f) (pos:=e) v;rw[i] at this
  exact c<|cO.mp this.symm
 have hns:(ls.map (·.1)).Nodup:=by
  have z:(ls.map λl=>V.str l.1)=(ls.map (·.1)).map V.str:=Q (bk ..) rfl;rw[z] at I
  exact rj.nodup (vx C.prog C.w) I
 refine wpAny_Dict_pairs (knd:=fg C.prog C.w) (Aq v) zQ (Q (w7 v) w) ?_;have off:=Am (o:=⟨.type "dict",N,.dict #[] 0,#[]⟩) ha.H rfl (t:=W.s.toks);have G1:W.s.heap.objs.size≠f.locals:=bw ha.lt;refine zP (R:=λT s σ ps=>MI T s σ C.w.params (ls.map (·.1)) vs ps) off (Ir L v A<|(ha.ry<|(Pext0.push _ _).strict<|ag _).hold off G1) _ _ λq8 ps uV rh YJ w0=>HD YJ λcv q1 H q3 q4=>ru _ (q4 _ _) (Eb _ (#[]) 0 w0.at_ (ri rfl rfl rfl) rfl (λz he=>by simp at he) .nil .nil) λh' hd hs=>?_
 rw[merged_nil_of_nodup _<|Q (d_<|aN H) hns] at hd
 refine qY (zo (vx C.prog C.w) hd<|Q (g_<|aN H.symm) q1) λC' n k a e3=>?_
 rw[d_<|aN H] at a e3
 rw[(ax bk rfl:(ls.map (·.1)).map (vx C.prog C.w).inj=ls.map λl=>V.str l.1)] at a e3
 have JJ:∀b o,b≠W.s.heap.objs.size->q8.s.heap.get? b=Y o->h'.get? b=Y o:=λb o q z=>(hs.2 b q).trans z
 have sv:At C B M f g ⟨q8.G,q8.σ,{ q8.s with heap:=h',toks:=q8.s.toks+ps.length }⟩:=⟨rh.ok,rh.H.keep _ JJ w0.I w0.F w0.σ w0.T rfl rfl<|aK _ _,⟨by
  refine qt rh.L.ns λm x y=>?_
  obtain ⟨o,p,ep,q,rest⟩:=x;exact qp m (wR o p ep (JJ _ _ G1.symm q) rest) y,rh.L.I,rh.L.F,rh.L.σ,rh.L.T⟩⟩
 exact h ⟨q8.G,q8.σ,_⟩ _ ⟨(((Pext0.push _ _).strict<|ag _).le.trans uV).G,(((Pext0.push _ _).strict<|ag _).le.trans uV).σ⟩ sv<|uu _ _ rfl G1 ⟨k,w0.I,w0.F,w0.σ,w0.T⟩<|.dict a e3
end
section
variable {i n g j:St}
theorem At.th (H:At C B M env i W)(G:TH C A t (λT s=>qu C T v s) hp' W):Tr C B M env A t ⟨i.loc,hp'⟩ (λT s=>qu C T v s) W:=λz d h=>G z d λT s L U I=>h T s L.le (H.kept L U) I
theorem yD (t:tw C d B M es i o n)(L:rk d a)(H:At C B M k i W) :
  Tr C B M k a (evalArgs f true (es.map λb=>(false,eval b k)) []) n (λc e=>e.kw=[]/\qD C c o e.pos) W:=λI p h=>by
 cases t with
 |nil=>exact evalArgs_nil3<|h W _ (Wd.le.refl _) H ⟨rfl,.nil⟩
 |cons e s=>
  exact nB<|(tw.cons e s).tl a k W L H (λo U=>I ⟨o,[]⟩ U) p λc u T y G=>h c _ T y ⟨rfl,G⟩
theorem vP (a:List a7):((a.map λL=>(false,eval L env)).any (·.1))=false:=by
 induction a with
 |nil=>rfl|cons L a e=>exact Q (bB ..)<|ax hY<|ax e rfl
theorem Ln {b:aj->ay->Prop}{e:dA}(c:o≠.set){a:List<|Bool×gE aj}{I:aj->ay->Prop}(f:a.any (·.1)=false)(d:wpAny L T (evalArgs (wA o) true a []) (λU t=>wpAny L T (call (wA o) U.pos U.kw) I b t) b s):wpAny L T (j9 e (wA o) [] a []) I b s:=by
 cases o with
 |range|list=>exact ip f d|set=>exact absurd rfl c
 |_=>exact jy f d
theorem TE.bf {c:dA}{f:List a7}(h:b≠.set)(hf:TE C d B M (.Name x np) i (.con<|wA b) i)(e:f.all noStar=true)(t:tw C d B M f i vs g)(k:yg g.hp b vs=Y v) :
  TE C d B M (.Call (.Name x np) f [] c) i v g:=λo p u L H QQq q w=>hO<|hf o p u L H _ _ λA z T y G=>Q G<|Q (rN e)<|Q (su ..)<|Ln h (vP f)<|yD t L y _ _ λI s l₂ sv a=>rF a λhk U=>Q hk<|RU L sv h U k _ _ λuq z l s uF=>w uq z ((T.trans l₂).trans l) s uF
theorem TE.ahP (hf:TE C d B M (.Name x np) i (.con<|.builtin "len") i)(hg:TE C d B M (.Name y nq) i (.con<|.type "set") i)(hn:noStar a=true)(t:TE C d B M a i o g)(I:yg g.hp .set [o]=Y b) :
  TE C d B M (.Call (.Name x np) [.Call (.Name y nq) [a] [] q] [] p) i b g:=λA f W hr ha QQq E h=>by
 refine hO<|hf A f W hr ha _ _ λq8 s T rh G=>?_
 subst G;refine Q (rN rfl)<|Q (su ..)<|jy (vP _)<|nB<|spliced_cons<|hO<|hg A f q8 hr rh _ _ λxl s l₂ sv wd=>?_
 subst wd;refine Q (rN<|show [a].all noStar=true from ax fm (Q hn rfl))<|Q (su ..)<|ip (vP [a])<|yD (tw.cons t .nil) hr sv _ _ λuq ar uU u wU=>rF wU λz U=>Q z ?_
 generalize ar.pos=ps at *
 obtain ⟨_,_,rfl,ahs,rn⟩:=U.inv;refine Q rn.inv<|lS (I:lV (λl=>if l.length<64 then (intsOf l).map λns=>V.int<|Kk ns else N) (view g.hp<|rB o)=Y b) λl e H=>qX H λh64 H=>qN H λns c hv=>qY (wC u.H ahs.rB e) λv vs rR L r=>Q rR ?_;clear rR
 refine wpAny_toks<|set_list hr.1 L.is (A3 r c) (J r.length h64) _ _ λxj s p4 k w=>spliced_nil<|wpAny_toks<|k _ _ λacC c' p5 rc tk5=>?_
 subst hv;exact h acC c' (((T.trans l₂).trans uU).trans<|(p4.strict w).le.trans (p5.strict tk5).le) ((u.ry<|p4.strict w).ry<|p5.strict tk5) rc
theorem Bc (e:u_ o=true):attributeBase o name f (eval o f)=eval o f:=by
 cases o with
 |Call b a h k=>cases b with
  |Name p c=>cases a with
   |nil=>cases h with
    |nil=>exact Vm.fT e|cons J W=>rfl
   |cons J W=>rfl
  |_=>rfl
 |_=>rfl
theorem TE.mt {apos c:dA}{f:List a7}{m:Mt}(q:name=w3 m)(w:u_ o=true)(x:f.all noStar=true)(I:f.length<25)(z:(apos.endLine==c.line)=true)(ho:TE C d B M o i a g)(H:BS m (view g.hp a)=Y p)(t:tw C d B M f g vs j)(h2:za j.hp p a vs=Y (v,hp')) :
  TE C d B M (.Call (.Attribute o name apos) f [] c) i v ⟨j.loc,hp'⟩:=λA env W L ha QQq E h=>by
 have k:backTo c (starEach f env)=f.map λe=>(false,eval e env):=by refine Q (rN x)<|Q (su ..) rfl
 refine wpAny_Call_method_late (Bc w) ?_ z k<|ho A env W L ha _ _ λq8 b T y G=>?_
 .refine Q k ?_;have ek:keywordEach [] env=[]:=rfl;simp only[jE,ek,gM,jC,qi,qa,oY,if_true,aA,decide_eq_true_eq,fL];exact ⟨dy.mpr λJ J=>rfl,lB _ I⟩
 .refine Q q ?_;obtain ⟨f1,f2,f3,f4,f5⟩:=Tw y.H G H;exact Hy (LU p) (mkId p) f1 f2 f3 f4 f5<|jy (vP f)<|yD t L y _ _ λxl ar l₂ sv yr=>rF yr λQV U=>Q QV<|sv.th (QA L sv.H (G.mono l₂) U h2) QQq E λuq s uU u uF=>h uq s ((T.trans l₂).trans uU) u uF
end
section
variable {u G H I:St}
def TSt (T:Ctx)(c:Nat)(z:K)(x:List Nat)(L:a7)(k:V)(y A:St):Prop:=∀(U:Around)(f:kK)(W:Wd)(s:aj),rk c U->At T z x f y W->qu T W k s->Tr T z x f U (assign L f s) A (λJ J=>True) W
theorem Gs (L:At C B M f u W)(n:B.slots[i]?=Y p)(o:B.scope.names.lookup p=Y .local)(T:i<u.loc.length)(r:qu C W k s) :
  Tr C B M f A (storeName f p s) { u with loc:=u.loc.set i<|Y k } (λJ J=>True) W:=λQQq d g=>by
 refine qt L.L.ns λt hn U=>wpAny_storeName_local (by delta ft;exact Q L.ok.scope o) hn (λx a y=>g ⟨W.G,W.σ,_⟩ _ ⟨Gh.le.refl _,rl.refl _⟩ ⟨L.ok,L.H.keep f.locals (λv b c e=>(y.2 v c).trans e) L.L.I L.L.F L.L.σ L.L.T rfl rfl<|cY _,⟨qp _ a λh j w e z=>?_,L.L.I,L.L.F,L.L.σ,L.L.T⟩⟩ trivial)<|Q (Q L.ok.scope L.ok.fn:f.scope.kind=.function) rfl
 by_cases q:h=i
 .subst q;rw[n] at e;(refine Vm.sI e ?_;clear e;rintro rfl)
  replace z:(u.loc.set h<|Y k)[h]?=Y (Y w):=z;revert z;refine Q (bu T) ?_;intro z
  cases z
  exact qp s (ql rfl) r
 .replace z:(u.loc.set i<|Y k)[h]?=Y (Y w):=z;rw[aV<|fJ q] at z
  refine qt (U h j w e z) λc' e1 e2=>?_
  have zQ:j≠p:=λc=>q (by
   subst c;exact (oK ((aO.mp e).1) L.ok.nd).mp<|e.trans n.symm)
  exact qp c' (ax (qm zQ) e1) e2
theorem SQ (L:At C B M f u W)(e:B.slots[i]?=Y p)(j:B.scope.names.lookup p=Y .local)(T:i<u.loc.length)(n:qu C W k s) :
  Tr C B M f A (bindName f p s) { u with loc:=u.loc.set i<|Y k } (λJ J=>True) W:=λU d g=>wpAny_bindName<|Gs L e j T n U d g
theorem Ih {b:aj->ay->Prop}{U:ay}{f:kK}{T:Unit->ay->Prop}(e:f.scope.kind=.function)(i:f.kindOf p=Y .cell)(n:f.cells.lookup p=Y c)(z:U.heap.get? c=Y ⟨.type "cell",N,.cell akK,#[]⟩)(h:∀j,j.get? c=Y ⟨.type "cell",N,.cell<|Y s,#[]⟩->ff c U.heap j->T () { U with heap:=j }):wpAny q9 A (storeName f p s) T b U:=by
 delta storeName;exact Q i<|Q e<|af<|wpAny_cellOf n<|af<|kN z<|wpAny_update z<|h _ (d9 _ z rfl)<|cS ..
theorem SK {T:Around}{f:kK}{x:ba}{c h:Nat}{k:V}{y:Option V}{s:aj}(ha:At C B M f u W) (e:B.cells[c]?=Y x) (i:B.scope.names.lookup x=Y .cell) (n:M[c]?=Y h) (hv:u.hp[h]?=Y (.cell y)) (o:qu C W k s) :
  Tr C B M f T (storeName f x s) { u with hp:=u.hp.set h<|.cell<|Y k } (λJ J=>True) W:=λQQq d g=>by
 refine qY (ha.ok.cell c x e<|.inl i) λi' v L j e3=>?_
 rw[n] at L;(refine Vm.sI L ?_;clear L;rintro rfl)
 refine qJ (ha.H.rX _ _ j) λA aF U=>qY U λa ob h1 h2 h3=>?_
 rw[hv] at h1;(refine Vm.sI h1 ?_;clear h1;rintro rfl)
 refine rM h3.Yl λakJ ho=>?_
 subst ho;refine Ih (Q ha.ok.scope ha.ok.fn) (by delta ft;exact Q ha.ok.scope i) e3 h2 λh' hc hs=>?_
 have k':=λ(b:bK) (a:gw) (z:b≠v) (p:W.s.heap.get? b=Y a)=>(hs.2 b z).trans p
 exact g ⟨W.G,W.σ,_⟩ _ ⟨Gh.le.refl _,rl.refl _⟩ (ha.kept (⟨⟨Gh.le.refl _,rl.refl _⟩,λw a p q o t=>ri (k' w a (λz=>o<|Q z<|bG j) p) q o⟩)<|ha.H.upd j k' hc (.cell o) rfl rfl<|ag _) trivial
theorem Af {b:aj->ay->Prop}{e:dA}{U:Unit->ay->Prop}(d:wpAny q9 A (bindName f p t) U b s):wpAny q9 A (assign (.Name p e) f t) U b s:=af<|wpAny_standAt d
inductive yo (B:K):a7->Tg->Prop
 |l {x:ba}{p:dA}{i:Nat}:B.scope.names.lookup x=some .local->B.slots[i]?=some x->yo B (.Name x p) (.l i)
 |cell {x:ba}{p:dA}{i:Nat}:B.scope.names.lookup x=some .cell->B.cells[i]?=some x->yo B (.Name x p) (.cell i)
theorem ye (e:ue B (n+1) (.Name x p)=Y t):yo B (.Name x p) t:=by
 have b:∀y,B.scope.names.lookup x=y->(match y with|Y .local=>(idx B.slots x).map .l|Y .cell=>(idx B.cells x).map .cell|_=>N)=Y t->yo B (.Name x p) t:=by
  intro y i e
  cases y with
  |none=>exact nS e|some y=>cases y with
   |«local»=>
    obtain ⟨v,o,rfl⟩:=cg.mp e;exact .l i<|wL o
   |cell=>
    obtain ⟨v,o,rfl⟩:=cg.mp e;exact .cell i<|wL o
   |_=>exact nS e
 exact b _ rfl e
theorem Xl (e:rz M (n+1) (.cell k) v u=Y G):∃t y,M[k]?=Y t/\u.hp[t]?=Y (.cell y)/\{ u with hp:=u.hp.set t<|.cell<|Y v }=G:=by
 have b:∀(w:St)(h:Option O),(match h with|Y<|.cell _=>Y w|_=>N)=Y G->∃y,h=Y (.cell y)/\w=G:=by
  intro w h e
  cases h with
  |none=>exact nS e|some L=>cases L with
   |cell y=>exact qp y rfl<|ae e
   |_=>exact nS e
 have d:∀f:Option Nat,(match f with|Y t=>(match u.hp[t]? with|Y<|.cell _=>Y { u with hp:=u.hp.set t<|.cell<|Y v }|_=>N)|N=>N)=Y G->∃t y,f=Y t/\u.hp[t]?=Y (.cell y)/\{ u with hp:=u.hp.set t<|.cell<|Y v }=G:=by
  intro f e
  cases f with
  |none=>exact nS e|some t=>
   exact qt (b _ _ e) λy i o=>ta t y rfl i o
 exact d _ e
theorem FF (e:rz M (n+1) (.l i) k u=Y G):i<u.loc.length/\{ u with loc:=u.loc.set i<|Y k }=G:=qX (e:(if i<u.loc.length then Y { u with loc:=u.loc.set i<|Y k } else N)=Y G) λL j=>⟨L,ae j⟩
theorem LH {f:List Tg}(e:rz M (n+1) (.tup f) v u=Y G):∃j,v=.tup j/\f.length=j.length/\(f.zip j).foldl (λy b=>y.bind λu=>rz M n b.1 b.2 u) (Y u)=Y G:=by
 cases v with
 |tup j=>exact qX (e:(if f.length=j.length then (f.zip j).foldl (λy b=>y.bind λu=>rz M n b.1 b.2 u) (Y u) else N)=Y G) λi o=>ru j rfl i o
 |_=>exact nS e
theorem B_ (k:∀{L:a7}{q:Tg},ue U c L=Y q->noStar L=true):∀{l:List a7}{f:List Tg},qO (ue U c) l=Y f->∀L∈l,noStar L=true
 |[],J,W,L,he=>by cases he
 |x::l,f,e,L,he=>by
  refine qY (ro e) λT v i n J=>?_
  rcases aE.mp he with z|he
  .exact Q z<|k i
  .exact B_ k n L he
theorem Iq (w:yo B (.Name q p) t)(e:rz M (n+1) t v u=Y G)(L:At C B M f u W)(k:qu C W v s) :
  Tr C B M f A (storeName f q s) G (λV V=>True) W:=by
 cases w with
 |l i o=>exact J ((FF e).2)<|Gs L o i (FF e).1 k
 |cell i o=>exact (Xl e).elim λh U=>U.elim λy U=>J U.2.2<|SK L o i U.1 U.2.1 k
theorem Cv (w:yo B (.Name q p) t)(e:rz M (n+1) t v u=Y G)(L:At C B M f u W)(k:qu C W v s) :
  Tr C B M f A (bindName f q s) G (λJ J=>True) W:=λU d g=>wpAny_bindName<|Iq w e L k U d g
theorem xf:∀{l:List a7},(∀e∈l,noStar e=true)->pT l env=l.map λa=>(false,assign a env)
 |[]=>@λW=>rfl
 |e::l=>@λn=>by
  have f:=n e<|.head _
  refine Q (bB ..)<|J (xf λe f=>n e<|.tail _ f) ?_
  cases e<;>first|rfl|exact Vm.fT f
theorem assignInOrder_cons {b:aj->ay->Prop}{d:aj->gE Unit}{a:List<|aj->gE Unit}{L:Unit->ay->Prop}(e:wpAny U T (d x) (λJ t=>wpAny U T (assignInOrder a f) L b t) b s):wpAny U T (assignInOrder (d::a)<|x::f) L b s:=af<|cT<|wpAny_mono e (λJ J x=>x) λJ J x=>x
theorem E8 {o v:Type}{b:v->o->Option v}:∀(l:List o),l.foldl (λy x=>y.bind λp=>b p x) N=N
 |[]=>rfl|x::l=>ax du<|E8 l
theorem E7 {o v:Type}{b:v->o->Option v}{L:o}{a:List o}{p c:v}(e:(L::a).foldl (λc L=>c.bind λf=>b f L) (Y p)=Y c):∃q,b p L=Y q/\a.foldl (λc L=>c.bind λf=>b f L) (Y q)=Y c:=by
 have d:∀y:Option v,a.foldl (λc L=>c.bind λf=>b f L) y=Y c->∃q,y=Y q/\a.foldl (λc L=>c.bind λf=>b f L) (Y q)=Y c:=by
  intro y e
  cases y with
  |none=>exact nS<|(E8 a).symm.trans e
  |some q=>exact qp q rfl e
 exact d _ e
theorem Dd (f:ue B c e=Y t):noStar e=true:=by
 cases c with
 |zero=>exact nS f|succ c=>exact oE f (λp i J=>(y0 i).elim λg n=>Q n rfl) λJ f=>oE f (λp i J=>(Ct i).elim λh n=>n.elim λg n=>Q n rfl) λJ f=>nS f
theorem Eo {b:a7->V->St->Option St}(L:rk d a):∀{l:List a7}{j:List V}{v:List aj}{u G:St}{W:Wd},
  (∀e∈l,∀k u G,b e k u=Y G->TSt C d B M e k u G)->(l.zip j).foldl (λy c=>y.bind λu=>b c.1 c.2 u) (Y u)=Y G->l.length=j.length->qD C W j v->At C B M f u W->
  Tr C B M f a (assignInOrder (l.map λg=>assign g f) v) G (λP P=>True) W
 |[],[],P,F,R,W,E,h,D,U,o=>Q U.inv<|J (ae h) λQQq T hq=>wpAny_pure<|hq W _ (Wd.le.refl _) o trivial
 |e::l,k::j,_,u,G,W,hf,h,i,U,o=>by obtain ⟨s,v,n,y,U⟩:=U.inv;exact qt (E7 h) λp z h=>Q n λQQq T hq=>assignInOrder_cons<|hf e (.head _) k u p z a f W _ L o y _ _ λq P t A P=>Eo L (λe w=>hf e<|.tail _ w) h (cC i) (qD.mono U t) A QQq T λx c l₂ sv n=>hq x c (t.trans l₂) sv n
 |[],_::_,_,_,_,_,_,_,i,_,_=>by cases i
 |_::_,[],_,_,_,_,_,_,i,_,_=>by cases i
theorem CY {b:Tg->V->St->Option St}{d:a7->Option Tg}:∀{l:List a7}{f:List Tg}{j:List V}{y:Option St},qO d l=Y f->(f.zip j).foldl (λy c=>y.bind λu=>b c.1 c.2 u) y=(l.zip j).foldl (λy c=>y.bind λu=>(d c.1).bind λq=>b q c.2 u) y
 |[],f,j,y,g=>by (refine Vm.sI g ?_;clear g;rintro rfl);rfl
 |e::l,f,[],y,g=>qY (ro g) λL T i n z=>Q z rfl
 |e::l,f,k::j,y,g=>by
  refine qY (ro g) λL T i n U=>Q U ?_;clear U
  refine Q cB ?_;rewrite [cB,du,du];exact ax (CY n)<|Q i rfl
theorem Aa {o v:Type}{b:o->Option v}:∀{l:List o}{r:List v},qO b l=Y r->r.length=l.length
 |[],r,e=>by (refine Vm.sI e ?_;clear e;rintro rfl);rfl
 |a::l,r,e=>by refine qY (ro e) λc w J i n=>Q n ?_;clear n;refine ax aQ<|Q (aQ ..)<|Q (Aa i) rfl
theorem xZ:∀(n m:Nat)(L:a7)(tg:Tg)(k:V)(u G:St),ue B n L=Y tg->rz M m tg k u=Y G->TSt C d B M L k u G
 |0,P=>@λP P P P P z P=>Vm.nS z
 |n+1,0=>@λP P P P P P z=>Vm.nS z
 |n+1,m+1=>@λL tg k u G hc c=>by
  intro A f W s hr ha r QQq E hq;refine oE hc (λh h1 P=>(y0 h1).elim λb q=>?_) λP z=>oE z (λj g h2=>(Ct g).elim λT q=>q.elim λb q=>qN h2 λw h1 e=>?_) λP z=>nS z
  .subst q;exact Af<|Cv (ye hc) c ha r QQq E hq
  .subst q e;obtain ⟨vs,rfl,hl,c⟩:=LH c;refine qY (LI ha.H r) λa p Bx x U=>Q Bx ?_;clear Bx
   have i:=Aa h1;have eA:=xf (env:=f)<|B_ Dd h1
   have t:=U.length;refine wpAny_assign_Tuple hr.1 x.is (by refine Q eA ?_;simp;lia) (by refine Q eA ?_;simp[List.findIdx?_map,List.findIdx?_eq_none_iff]) λh' he=>?_
   refine Q eA<|Q (bk ..) ?_
   have pe:xm C W ⟨W.G,W.σ,{ W.s with heap:=h' }⟩:=(Pext0.ext (s':={ W.s with heap:=h' }) (λv o e=>he v o (cJ<|bP e) e) rfl rfl).strict<|ag _
   rw[CY h1] at c
   exact Eo hr (λe he k u G z=>qt (gv.mp z) λL q1 q2=>xZ n m e L k u G q1 q2) c (J i hl) (qD.mono U pe.le) (ha.ry pe) QQq E λxl h l₂ y q=>hq xl h (pe.le.trans l₂) y q
end
section
variable {j G g w:St}
def K0 (U:Ctx)(s:Fl)(t:Wd)(T:k8):Prop:=match s with
 |.next=>T=.next|.ret k=>∃u,T=.ret u/\qu U t k u
def TS (T:Ctx)(c:Nat)(I:K)(A:List Nat)(d:gn)(H:St)(s:Fl)(L:St):Prop:=∀(U:Around)(f:kK)(W:Wd),rk c U->At T I A f H W->Tr T I A f U (exec d f) L (K0 T s) W
def yi (T:Ctx)(c:Nat)(I:K)(A:List Nat)(f:List gn)(H:St)(s:Fl)(L:St):Prop:=∀(U:Around)(h:kK)(W:Wd),rk c U->At T I A h H W->Tr T I A h U (execs f h) L (K0 T s) W
theorem yi.nil:yi C d B M [] j .next j:=λT f s L H U e h=>jW<|h s _ (Wd.le.refl _) H rfl
theorem yi.cons {f:List gn}{s:Fl}(h1:TS C d B M c j .next g)(h2:yi C d B M f g s w):yi C d B M (c::f) j s w:=λU h t L H A e i=>wpAny_execs_cons<|h1 U h t L H _ _ λn o T y I=>Q I<|h2 U h n L y A e λa o k p u=>i a o (T.trans k) p u
theorem yi.ret {f:List gn}(h1:TS C d B M c j (.ret v) g):yi C d B M (c::f) j (.ret v) g:=λU h t L H A e i=>by
 refine wpAny_execs_cons<|h1 U h t L H _ _ λn o T y I=>?_
 have s:=I;obtain ⟨u,rfl,k⟩:=I;exact i n _ T y s
theorem TS.ret {e:dA}(h1:TE C d B M L j v g):TS C d B M (.Return (Y L) e) j (.ret v) g:=λU f t a H A h i=>
 wpAny_Return_some<|h1 U f t a H _ _ λn s T y I=>i n _ T y<|qp s rfl I
theorem TS.ahq {e:dA}:TS C d B M (.Return N e) j (.ret .none) j:=λT f s L H U i h=>
 wpAny_Return_none<|h s _ (Wd.le.refl _) H<|qp _ rfl .none
theorem TS.rb {e:dA}{s:Fl}(h1:TT C d B M c j U g)(n:yi C d B M (if U then f else k) g s w):TS C d B M (.If c f k e) j s w:=λa h t L H A i o=>by
 refine wpAny_If<|h1 a h t L H _ _ λp I T y b=>?_
 subst b
 cases I<;>exact n a h p L y A i λq u v x z=>o q u (T.trans v) x z
theorem TS.expr {c:dA}(i:TE C d B M (.Call f as kws p) j .none g):TS C d B M (.Expr (.Call f as kws p) c) j .next g:=λU k s L H A o h=>by
 have e:interactive k=false:=by delta interactive;exact Q H.ok.scope<|Q H.ok.fn rfl
 exact wpAny_Expr (i U k s L H _ _ λn a T y I=>Q I<|h n _ T y rfl) e rfl
theorem TS.yO {e:dA}{s:Fl}(h1:yi C d B M body j s g):TS C d B M (.Try body (H::hs) [] [] e) j s g:=λU f t L I A i h=>by
 refine wpAny_Try_except<|h1 U f t L I _ _ λn o T y a=>?_
 cases s with
 |next=>subst a;exact jW<|h n _ T y rfl
 |ret k=>
  have u:=a;obtain ⟨b,rfl,p⟩:=a;exact h n _ T y u
theorem Bm (f:yI e=true):iw e t n env=pure false:=by cases e<;>first|rfl|cases f
theorem Er {o v:Prop} [Decidable o] [Decidable v] {y:Option<|Option<|List ba}{x:gE<|Option<|List ba}{h:Option<|List ba}(f:(if o then Y N else y)=Y h) (e:v↔o) (k:y=Y h->x=pure h):(if v then pure N else x)=pure h:=by
 by_cases H:o
 .exact (ql<|e.mpr H).trans<|qn pure<|ae<|(ql H).symm.trans f
 .exact (qm λp=>H<|e.mp p).trans<|k<|(qm H).symm.trans f
theorem Sz {o:Prop} [Decidable o] {y h:Option<|List ba}{v:gE<|Option<|List ba}(e:(if o then N else Y y)=Y h):(if o then v else pure y)=pure h:=by
 by_cases H:o
 .exact nS<|(ql H).symm.trans e
 .exact (qm H).trans<|qn pure<|ae<|(qm H).symm.trans e
theorem PR {y:Option<|List ba}(a:vg B M σ env)(e:PS B ts vs=Y y):fC [.Tuple ts k p] (.Tuple vs k' p') env=pure y:=by
 have i:(env.blockKind != .function)=false:=by delta qk;exact Q a.scope<|Q a.fn rfl
 delta fC;exact Q (funext λn=>by delta ft;refine Q a.scope rfl:env.kindOf=λn=>B.scope.names.lookup n)<|Er e (by refine Q i ?_;rw[p_]) λe=>Er e Iff.rfl λe=>Er e Iff.rfl λe=>Er e Iff.rfl λe=>Sz e
theorem P' {a:List<|Nat×V}{b:Nat×V}{f:List<|Option V}(h:∀c∈a,c.1≠b.1):a.foldl (λf c=>f.set c.1<|Y c.2) (f.set b.1<|Y b.2)=(a.foldl (λf c=>f.set c.1<|Y c.2) f).set b.1 (Y b.2):=by
 induction a generalizing f with
 |nil=>rfl|cons c a d=>
  refine Q (du ..)<|Q (du ..)<|Q (List.set_comm _ _<|fJ<|h c<|.head _)<|Q (d λH e=>h H<|.tail _ e) rfl
theorem IP:∀{l:List<|Nat×V}{f:List<|Option V},(l.map (·.1)).Nodup->l.reverse.foldl (λf b=>f.set b.1<|Y b.2) f=l.foldl (λf b=>f.set b.1<|Y b.2) f
 |[],W,P=>rfl|x::l,f,y=>by obtain ⟨H,T⟩:=bI.mp y;refine Q (dR ..)<|Q (List.foldl_append ..)<|Q (IP T)<|Q (du ..)<|Q (List.foldl_nil ..)<|Q (du ..)<|Q (P' λb a e=>H<|by show x.1∈_;exact J e<|bY.mpr<|qp b a rfl) rfl
theorem It (L:rk d A):∀{l:List<|ba×Nat}{o:List V}{u:List aj}{j:St}{W:Wd},(∀x∈l,B.slots[x.2]?=Y x.1/\B.scope.names.lookup x.1=Y .local/\x.2<j.loc.length)->l.length=o.length->qD C W o u->At C B M env j W->
  Tr C B M env A (assignInOrder (l.map λx=>bindName env x.1) u) { j with loc:=((l.map (·.2)).zip o).foldl (λh b=>h.set b.1<|Y b.2) j.loc } (λJ J=>True) W
 |[],[],J,P,W,F,e,U,H=>Q U.inv λQQq p hq=>wpAny_pure<|hq W _ (Wd.le.refl _) H trivial
 |x::l,k::o,_,j,W,q,e,U,H=>by obtain ⟨s,u,i,I,U⟩:=U.inv;exact qJ (q x<|.head _) λn z c=>Q i λQQq p hq=>assignInOrder_cons<|SQ H n z c I _ _ λt J T y J=>It L (λb v=>⟨(q b<|.tail _ v).1,(q b<|.tail _ v).2.1,cN.symm▸(q b<|.tail _ v).2.2⟩) (cC e) (qD.mono U T) y QQq p λxl a f sv i=>hq xl a (T.trans f) sv i
 |[],_::_,_,_,_,_,e,_,_=>by cases e
 |_::_,[],_,_,_,_,e,_,_=>by cases e
theorem Bl:∀{a:List ba}{f:List Tg},yE B a f=true->∃k:List (ba×Nat),a=k.map (·.1)/\f=k.map (λx=>.l x.2)/\∀x∈k,B.slots[x.2]?=Y x.1/\B.scope.names.lookup x.1=Y .local
 |[],[]=>@λJ=>ru ([]) rfl rfl λJ b=>by cases b
 |x::a,.l c::f=>@λb=>by
  have b:(B.slots[c]?==Y x&&B.scope.names.lookup x==Y .local&&yE B a f)=true:=b;rw[aA,aA,beq_iff_eq,beq_iff_eq] at b
  exact rT (Bl b.2) λk e i h3=>ru ((x,c)::k) (qn _ e) (qn _ i) λd H=>(aE.mp H).elim (λn=>n▸b.1)<|h3 d
 |[],_::_=>@λb=>Vm.fT b
 |_::_,[]=>@λb=>Vm.fT b
 |_::_,.cell _::_=>@λb=>Vm.fT b
 |_::_,.tup _::_=>@λb=>Vm.fT b
theorem Ew {c:Nat}:∀{l:List<|ba×Nat}{o:List V}{j G:St},((l.map λx=>Tg.l x.2).zip o).foldl (λy x=>y.bind λj=>rz M (c+1) x.1 x.2 j) (Y j)=Y G->l.length=o.length->
  (∀x∈l,x.2<j.loc.length)/\G={ j with loc:=((l.map (·.2)).zip o).foldl (λu a=>u.set a.1<|Y a.2) j.loc }
 |[],J,j,G,e,W=>by (refine Vm.sI e ?_;clear e;rintro rfl);exact ⟨(λJ e=>by cases e),rfl⟩
 |x::l,[],_,_,_,e=>by cases e
 |x::l,k::o,j,G,e,i=>by
  refine qt (E7 e) λp n e=>?_
  obtain ⟨I,n⟩:=FF n;rw[<- n] at e
  obtain ⟨L,z⟩:=Ew e (cC i);exact ⟨λa b=>(aE.mp b).elim (λH=>Q H I) λb=>eN (L a b) cN,z⟩
theorem Lq {o v:Type}:∀{a:List o}{f:List v},a.length=f.length->a.reverse.zip f.reverse=(a.zip f).reverse
 |[],[]=>@λJ=>rfl
 |x::a,p::f=>@λe=>by
  refine Q (dR ..)<|Q (dR ..)<|ax (List.zip_append<|by simpa using (by simpa using e))<|Q (Lq<|by simpa using e) ?_
  show _=((x,p)::a.zip f).reverse;exact Q (dR ..) rfl
 |[],_::_=>@λe=>by cases e
 |_::_,[]=>@λe=>by cases e
theorem TS.YA {pos:dA}{T:Nat}(h:TE C d B M (.Tuple es k' vp) j (.tup vs) g)(e:PS B ts es=Y (Y u))(i:yE B u tgs=true)(hnd:u.Nodup)(hs:rz M (T+2) (.tup tgs) (.tup vs) g=Y w):TS C d B M (.Assign [.Tuple ts k tp] (.Tuple es k' vp) pos) j .next w:=λa f s hr I QQq t y=>by
 refine rT (LH hs) λW z H hs=>?_
 cases z
 refine rT (Bl i) λl yr yq hl=>?_;subst yr;subst yq
 revert H;refine Q (ao ..) ?_;intro H;obtain ⟨hb,rfl⟩:=Ew hs H;refine Assign_Tuple_swapped (h a f s hr I _ _ λq8 c uV rh sA=>qY (LI rh.H sA) λA q rR L U=>Q rR ?_) rfl<|PR I.ok e;clear rR
 refine Q (by simp;exact H.trans U.length:(l.map (·.1)).length=q.toArray.size)<|wpAny_unpackItems_tuple hr.1 L.is λh' he=>?_
 have pe:xm C q8 ⟨q8.G,q8.σ,{ q8.s with heap:=h' }⟩:=(Pext0.ext (s':={ q8.s with heap:=h' }) (λv o z=>he v o (cJ<|bP z) z) rfl rfl).strict<|ag _
 refine Q (J (jn ..)<|ax bk rfl:(l.map (·.1)).reverse.map (λn=>bindName f n)=l.reverse.map λx=>bindName f x.1) ?_;have OL:=It hr (l:=l.reverse) (λx hx=>by have hx:=dw.mp hx;exact ⟨(hl x hx).1,(hl x hx).2,hb x hx⟩) (by simpa using H) (qD.mono (qI.reverse U) pe.le)<|rh.ry pe
 have e3:((l.reverse.map (·.2)).zip vs.reverse)=((l.map (·.2)).zip vs).reverse:=by refine Q (jn ..)<|Q (Lq<|by simpa using H) rfl
 have ah2:(((l.map (·.2)).zip vs).map (·.1)).Nodup:=by
  refine Q (d_<|by simp;exact aN H)<|e_.mpr<|List.Pairwise.imp_of_mem (λ{x b} hx hy zQ hxy=>zQ ?_)<|e_.mp hnd
  have p:=(hl x hx).1;rw[hxy,(hl b hy).1] at p
  exact (ae p).symm
 rw[e3,IP ah2] at OL
 exact OL _ _ λxl W l₂ sv W=>y xl _ ((uV.trans pe.le).trans l₂) sv rfl
end
section
variable {L rG g f G U:St}
theorem Fu (T:rk d A)(k:qu C W a s)(t:qu C W b j)(e:xN c a b=Y v):q6 C A (inplaceOp c s j) (λo h=>qu C o v h) W:=by
 refine q6.mk λI p u=>?_
 cases a with
 |int q=>cases b with
  |int w=>
   obtain ⟨_,rfl⟩:=k.inv;obtain ⟨_,rfl⟩:=t.inv
   cases c with
   |Add=>exact PyProof.Rows.iadd_int (q6.int e u)|Sub=>exact PyProof.Rows.isub_int (q6.int e u)
   |Mult=>exact qX e λi e=>PyProof.Rows.imul_int (q6.int e u) (oF (ag _) (ag _) (aa (of_decide_eq_true i) (by decide)))
   |FloorDiv=>exact rW e λi e=>ifloordiv_int (λn=>i (.inl n)) (q6.int e u) (.inl (eq_false_of_ne_true λn=>i (.inr n)))
   |LShift=>exact qX e λi e=>ilshift_int i.1 (aB i.2 (by decide)) (q6.int e u)
   |RShift=>exact qX e λi e=>irshift_int i (q6.int e u)
   |_=>exact nS e
  |_=>exact nS e
 |_=>exact nS e
theorem X4 (e:yy M (.cell k) L=Y n):∃h,M[k]?=Y h/\L.hp[h]?=Y (.cell<|Y n):=by
 have aux2:∀y:Option O,(match y with|Y<|.cell n=>n|_=>N)=Y n->y=Y (.cell<|Y n):=by
  intro y e
  cases y with
  |none=>exact nS e|some I=>cases I with
   |cell i=>exact qn (λi=>Y<|O.cell i) (e:i=Y n)|_=>exact nS e
 have d:∀j:Option Nat,(match j with|Y h=>(match L.hp[h]? with|Y<|.cell n=>n|_=>N)|N=>N)=Y n->∃h,j=Y h/\L.hp[h]?=Y (.cell<|Y n):=by
  intro j e
  cases j with
  |none=>exact nS e|some h=>exact qp h rfl<|aux2 _ e
 exact d _ e
theorem W7 (w:yo B (.Name q p) t)(e:yy M t L=Y k)(T:At C B M j L W):Tr C B M j A (loadName j q) L (λa s=>qu C a k s) W:=λQQq d hq=>by
 cases w with
 |@l _ _ c i n=>
  refine qt T.L.ns λo u v=>qt (gv.mp (e:(L.loc[c]?).bind id=Y k)) λy H x=>?_
  replace x:y=Y k:=x;subst x;exact qt (v c q k n H) λs z r=>o9 (Q T.ok.scope T.ok.fn) (by delta ft;exact Q T.ok.scope i) u z<|hq W s (Wd.le.refl _) T r
 |@cell _ _ h i n=>
  refine qt (X4 e) λc hi hv=>qY (T.ok.cell h q n<|.inl i) λi' b H x e3=>?_
  rw[hi] at H;(refine Vm.sI H ?_;clear H;rintro rfl)
  refine qJ (T.H.rX _ _ x) λJ J rR=>qY rR λI ob q1 q2 q3=>?_
  rw[hv] at q1;(refine Vm.sI q1 ?_;clear q1;rintro rfl)
  obtain ⟨_,rfl,r⟩:=q3.inv;exact pD (Q T.ok.scope T.ok.fn) (by delta ft;exact Q T.ok.scope i) e3 (qp _ q2 rfl)<|hq W _ (Wd.le.refl _) T r
theorem NV {b:aj->ay->Prop}{c:dA}{I:k8->ay->Prop}(d:wpAny q9 A (loadName i p) (λt u=>wpAny q9 A (eval e i) (λj k=>wpAny q9 A (inplaceOp T t j)
   (λh H=>wpAny q9 A (bindName i p h) (λJ=>I .next) b H) b k) b u) b s) :
  wpAny q9 A (exec (.AugAssign (.Name p pos') T e c) i) I b s:=af<|wpAny_standAt<|af<|wpAny_mono d (λt u n=>af<|cT<|wpAny_mono n (λj k o=>af<|wpAny_standAt<|af<|wpAny_operating<|wpAny_mono o (λh H a=>af<|wpAny_standAt<|af<|wpAny_mono a (λJ J p=>wpAny_pure p) λJ J p=>p) λJ J p=>p) λJ J p=>p) λJ J p=>p
theorem TS.aug {c:dA}(w:yo B (.Name x np) t)(j:yy M t L=Y a)(k:TE C d B M e L b g)(i:xN op a b=Y v)(o:rz M (n+1) t v g=Y f) :
  TS C d B M (.AugAssign (.Name x np) op e c) L .next f:=λA q s z H QQq E I=>NV<|W7 w j H _ _ λq8 h T y sA=>k A q q8 z y _ _ λxl c₂ l₂ sv wd=>Fu z (sA.mono l₂) wd i _ _ λuq abH p uF=>Cv w o (sv.ry p) uF _ _ λxj J ze u J=>I xj _ (((T.trans l₂).trans p.le).trans ze) u rfl
theorem Qo (e:place k c=Y j):jI k c=Y j/\j<c/\-(c:Int)<=k/\k<c:=by
 delta place at e
 delta jI
 by_cases H:k<0
 .simp only[H,if_true] at e ⊢
  exact qX e λt e=>J (ae e) ⟨by refine Q (ql<|by simp only[aA,decide_eq_true_eq];exact t) rfl,D' t,by omega,Nv t⟩
 .simp only[H,if_false] at e ⊢
  exact qX e λt e=>J (ae e) ⟨by refine Q (ql<|by simp only[aA,decide_eq_true_eq];exact t) rfl,Ea t,by omega,MV t⟩
theorem NU {b:aj->ay->Prop}{a:ay}{x:bK}{z:Unit->ay->Prop}(e:a.heap.get? x=Y ⟨.type "list",N,.seq items n,#[]⟩)(i:place k items.size=Y j)(w:items.size<=65536)(T:z () { a with heap:=a.heap.update x<|iW (·.setIfInBounds j v) }) :
  wpAny (model I o) A (setItem (.ref x) (.int k t) v) z b a:=by
 have c:a.heap.IsList x items:=⟨_,e,rfl,n,rfl⟩;delta setItem
 try with_reducible refine cT ?_
 first|refine af<|wpAny_pure ?_|skip
 refine af<|wpAny_sequenceKey c.typeIs rfl ?_
 refine af (gZ (name:=az "__setitem__") c.typeIs qd
  <| iu qd c.typeIs entry_list_setitem ?_<|args_list_setitem _ _ _)
 refine (uP (Qo i) λu d p h=>af<|wpAny_listSubscript_int (by delta hJ;simp only[aA,decide_eq_true_eq];exact acO w p h) ?_:wpAny _ _ (fG.List.listSubscript? (.int k t)>>=_) _ _ a);clear i w p h
 cases k with
 |ofNat m=>
  obtain rfl:m=j:=ae ((show jI (mY m) items.size=Y m from by
   delta jI;exact qX u λH J=>Q (ql H) rfl).symm.trans u)
  refine af<|af<|wpAny_seqItemAt e rfl<|wpAny_pure<|Q (eV d) ?_
  refine af<|pS e rfl ?_
  first
   |exact af<|wpAny_pure<|wpAny_pure<|ri .none rfl<|wpAny_pure T
   |exact wpAny_pure<|qp .none rfl<|wpAny_pure T
 |negSucc m=>
  refine af<|af<|af<|m4 e rfl<|wpAny_pure<|wpAny_pure<|Q u ?_
  simp only[d8,(eV d),oI];refine af<|pS e rfl ?_
  first
   |exact af<|wpAny_pure<|wpAny_pure<|ri .none rfl<|wpAny_pure T
   |exact wpAny_pure<|qp .none rfl<|wpAny_pure T
theorem qI.set {a:cD}(H:Rep a T I σ v c){h:List V}(b:qI a T I σ h vs):qI a T I σ (h.set d v)<|vs.set d c:=by
 induction h generalizing vs d with
 |nil=>exact b.vr .nil|cons e h ih=>
  refine b.sj λJ J i b=>?_
  cases d with
  |zero=>exact .cons H b|succ d=>exact .cons i<|ih b
theorem adn (H:qP C hp W){l:List V}(e:W.σ[j]?=Y a)(e1:hp[j]?=Y (.list l))(k:qu C W i y)(s:qu C W v z)(n:putL hp j l v i=Y hp'):TH C A (setItem (.ref a) y z) (λP P=>True) hp' W:=by
 cases i with
 |int q=>
  obtain ⟨_,rfl⟩:=k.inv;refine qY (AM H e e1) λI h x r hl=>qX n λT n=>qN n λt c n=>λQQq d u=>?_
  have w:l.length<=65536:=of_decide_eq_true T;have k':=λ(b:bK) (o:gw) (q':b≠a) (p:W.s.heap.get? b=Y o)=>((cS W.s.heap a<|iW (·.setIfInBounds t z)).2 b q').trans p
  refine NU x.at_ (Q (bj ..)<|J hl c) (Q (bj ..)<|hl▸w) ?_;refine u ⟨W.G,W.σ,_⟩ _ (x.kept _ k') (J n<|H.upd e k' (mw x.at_ (·.setIfInBounds t z)) ?_ rfl rfl<|ag _) trivial
  simpa using (rA.list<|qI.set s r)
 |_=>exact nS n
theorem VD (T:qP C hp W) {K:Type} [DecidableEq K] (i:Kd C.prog C.w K) {I:K}{h p:List V}{b:List V×List V}(e:W.σ[j]?=Y a) (s:hp[j]?=Y (.dict h p)) (k:qu C W v z) (hq:i.knd.is I y=true) (u:rj h->∃x:List K,h=x.map i.inj) (DL:tQ h p (i.inj I) v=Y b) (w:h.length<=65536) :
  TH C A (setItem (.ref a) y z) (λP P=>True) (hp.set j<|.dict b.1 b.2) W:=by
 refine rM (En T e s) λob t=>?_
 obtain ⟨d,n,rfl,kk,r⟩:=t.rep.inv;obtain ⟨x,rfl⟩:=u kk;intro QQq E hQ;obtain ⟨cv,d1⟩:=zp i ⟨n,t.at_⟩ kk r;obtain ⟨s,e2⟩:=BI i k (rj.nodup i kk) d1.len d1.rep DL;have hlz:(x.zip cv).length<=j5:=by
  refine Q (iq ..)<|J d1.len<|Q (iK ..) ?_
  rw[ao] at w
  exact aa w (by decide)
 refine wpAny_setItem_pairs hq d1.dict (λh' hd hs=>qY (zo i hd e2) λC' n' H q2 q3=>?_) hlz;have k':=λ(q:bK) (o:gw) (I:q≠a) (c:W.s.heap.get? q=Y o)=>(hs.2 q I).trans c
 rw[<- s] at q2 q3
 exact hQ ⟨W.G,W.σ,_⟩ _ (t.kept _ k') (T.upd e k' H (.dict q2 q3) rfl rfl<|cY _) trivial
theorem BL (T:qP C hp W)(p:qu C W o h)(w:qu C W k s)(x:qu C W v a)(e:ub hp o k v=Y hp'):TH C A (setItem h s a) (λJ J=>True) hp' W:=by
 cases o with
 |ref c=>
  obtain ⟨y,rfl,i⟩:=p.inv;have e:Oe hp c (rB k) v hp[c]?=Y hp':=e
  cases n:hp[c]? with
  |none=>rw[n] at e;exact nS e
  |some o=>cases o with
   |list l=>rw[n] at e;exact adn T i n w.rB x e
   |dict H d=>
    replace e:=n▸e;refine qX e λt e=>A0 e λh z=>?_
    have w:=w.rB;generalize rB k=u at w t z
    cases u with
    |str q=>obtain ⟨_,rfl⟩:=w.inv;exact VD T (vx C.prog C.w) i n x (beq_self_eq_true q) (λI=>K8 I z) z t.2
    |int q=>obtain ⟨_,rfl⟩:=w.inv;exact VD T (VS C.prog C.w) i n x (beq_self_eq_true q) (λI=>K9 I z) z t.2
    |_=>exact fT t.1
   |_=>rw[n] at e;exact nS e
 |_=>exact nS e
theorem TS.wj {c:dA}(j:yI e=true)(h1:TE C d B M e L v g)(x:TE C d B M o g a f)(s:TE C d B M i f b G)(q:ub G.hp a b v=Y hp') :
  TS C d B M (.Assign [.Subscript o i p] e c) L .next ⟨G.loc,hp'⟩:=λt w z A ha QQq I h=>wpAny_Assign_Subscript (h1 t w z A ha _ _ λn c₁ T y sA=>x t w n A y _ _ λxl c₂ l₂ sv wd=>s t w xl A sv _ _ λuq abH uU u uF=>BL u.H (wd.mono uU) uF ((sA.mono l₂).mono uU) q _ _ λxj J k H J=>h xj _ (((T.trans l₂).trans uU).trans k.le) (u.kept k H) rfl)<|Bm j
theorem TS.uC {c:dA}(j:TE C d B M o L a g)(z:TE C d B M i g b f)(h3:sf f.hp a b=Y x)(t:TE C d B M e f y G)(q:xN op x y=Y v)(n:ub G.hp a b v=Y hp')(hs:∀lo hi w,i≠.Slice lo hi N w):TS C d B M (.AugAssign (.Subscript o i p) op e c) L .next ⟨G.loc,hp'⟩:=λA I W hr ha QQq E h=>by
 refine wpAny_AugAssign_SubscriptAny (j A I W hr ha _ _ λq8 c₁ T rh sA=>z A I q8 hr rh _ _ λxl c₂ l₂ sv wd=>?_) ?_
 .exact Eu hr sv.H (sA.mono l₂) wd h3 _ _ λuq abH Od uF=>t A I uq hr (sv.ry Od) _ _ λxj akP ze Ga S1=>Fu hr (uF.mono ze) S1 q _ _ λacC akO I7 ahl=>BL (Ga.ry I7).H ((((sA.mono l₂).mono Od.le).mono ze).mono I7.le) (((wd.mono Od.le).mono ze).mono I7.le) ahl n _ _ λU' J k H J=>h U' _ (((((T.trans l₂).trans Od.le).trans ze).trans I7.le).trans k.le) ((Ga.ry I7).kept k H) rfl
 .intro s iv u
  cases i with
  |Slice lo hi step w=>cases step with
   |none=>exact absurd rfl<|hs _ _ _
   |some=>rfl
  |_=>rfl
end
section
variable {f w j y G L:St}
structure Wd.uM (W W':Wd):Prop where
 I:Gm.le W.G.I W'.G.I
 T:Tm.le W.G.T W'.G.T
 σ:rl W.σ W'.σ
theorem Wd.le.uM {s:Wd}(T:s.le W'):s.uM W':=⟨T.G.I,T.G.T,T.σ⟩
theorem Wd.uM.trans {s:Wd}(o:s.uM b)(T:b.uM c):s.uM c:=⟨o.I.trans T.I,o.T.trans T.T,o.σ.trans T.σ⟩
def z5 (T:Ctx)(v:bK)(a:List V)(b:Gd)(t:Wd)(d:Nat->fM->Prop):Prop:=
 ∃(P:Nat->aj->Prop),
  (∀(e:Around),e.handled=N->∀(c:Nat)(U:ay)(I:Option aj->ay->Prop)(E:aj->ay->Prop),c<a.length->d c U.heap->
   (∀s i h,P c s->d (c+1) i->(∀q H,q≠v->U.heap.get? q=Y H->i.get? q=Y H)->I (Y s) { U with heap:=i,toks:=h })->wpAny (model T.prog T.w) e (pyNext<|.ref v) I E U)/\
  (∀(e:Around),e.handled=N->∀(U:ay)(I:Option aj->ay->Prop)(E:aj->ay->Prop),d a.length U.heap->
   (∀i h,(∀q H,q≠v->U.heap.get? q=Y H->i.get? q=Y H)->I N { U with heap:=i,toks:=h })->wpAny (model T.prog T.w) e (pyNext<|.ref v) I E U)/\
  (∀(e:Around),e.handled=N->∀(c:Nat)(U:ay)(I:aj->ay->Prop)(E:aj->ay->Prop),d c U.heap->I (.ref v) U->wpAny (model T.prog T.w) e (pyIter<|.ref v) I E U)/\
  (∀c s,P c s->∃k,a[c]?=Y k/\qu T t k s)/\
  (∀c o,d c o->∃H,o.get? v=Y H)/\
  ∀c (W n:Wd) hp,t.uM W->W.uM n->qP T hp n->um hp b=true->(∀H,W.s.heap.get? v=Y H->n.s.heap.get? v=Y H)->d c W.s.heap->d c n.s.heap
theorem Q7 {k:fM}{q:bK}(g:k.IsListIter I q i):∃o,k.get? I=Y o:=let ⟨o,e,_⟩:=g;⟨o,e⟩
theorem GN {d:List V}{n:Nat}(c:a≠I)(U:qD C W d vs)(b)(g:∀(T:Wd) hp,W.uM T->qP C hp T->um hp b=true->T.s.heap.IsList a vs.toArray):z5 C I d b W λh i=>i.IsListIter I a h/\i.IsList a vs.toArray:=by
 have hl:=U.length;refine Ed (λh s=>vs.toArray[h]?=Y s) (λA hA h u QQq v hi f hQ=>?_) (λA hA u QQq v f hQ=>?_) (λA hA h u QQq v f hQ=>?_) (λh s i=>?_) (λh i f=>Q7 f.1) λh T W2 hp l1 l2 H z hI f=>?_
 .exact (nU hA I a c vs.toArray).item h u QQq v (eN hi hl) f λs h' t p q k=>hQ s h' t p q λx o hb=>k x o (by simp;exact hb)
 .exact (nU hA I a c vs.toArray).done u QQq v (by simpa[hl] using f) λh' t k=>hQ h' t λx o hb=>k x o (by simp;exact hb)
 .exact (nU hA I a c vs.toArray).self h u QQq v f hQ
 .skip
  exact U.at (by simpa using i)
 .exact ⟨f.1.at λo e=>hI o e,g W2 hp (l1.trans l2) H z⟩
theorem Oz {d:List V}(c:a≠I)(U:qD C W d vs)(b:∀(T:Wd) p,W.uM T->qP C p T->T.s.heap.IsTuple a vs.toArray):z5 C I d N W λi h=>h.IsTupleIter I a i/\h.IsTuple a vs.toArray:=by
 have e:=U.length;refine Ed (λi s=>vs.toArray[i]?=Y s) (λq hA i u QQq v hi f hQ=>?_) (λq hA u QQq v f hQ=>?_) (λq hA i u QQq v f hQ=>?_) (λi s h=>?_) (λi h f=>let ⟨A,z,_⟩:=f.1;⟨A,z⟩) λi T W2 p o l2 H g hI f=>?_
 .exact (m8 hA I a c vs.toArray).item i u QQq v (eN hi e) f λs h' tk n t k=>hQ s h' tk n t λx A hb=>k x A (by simp;exact hb)
 .exact (m8 hA I a c vs.toArray).done u QQq v (by simpa[e] using f) λh' tk k=>hQ h' tk λx A hb=>k x A (by simp;exact hb)
 .exact (m8 hA I a c vs.toArray).self i u QQq v f hQ
 .skip
  exact U.at (by simpa using h)
 .exact ⟨f.1.at λA z=>hI A z,b W2 p (o.trans l2) H⟩
theorem OA:z5 C I ((rangeInts a c n).map .int) N W λh i=>IsRangeIter i I (a+(h:Nat)*c) ((n:Int)-(h:Nat)) c:=by
 have hl:((rangeInts a c n).map V.int).length=n:=by refine Q (ao ..)<|Q (rangeInts_length ..) rfl
 refine Ed (λh s=>h<n/\∃x,s=.int (a+h*c) x) (λT u h U QQq g d f v=>?_) (λT u U QQq g f v=>?_) (λT u h U QQq g f v=>?_) (λh s ⟨d,x,e⟩=>?_) (λh i f=>⟨_,f⟩) λh W1 W2 p l1 l2 H z hI f=>hI _ f
 .rw[hl] at d
  exact (m9 u I a c n).item h U QQq g d f λs h' t A q k=>v s h' t ⟨d,A⟩ q λb o hb=>k b o (by simp;exact hb)
 .replace f:=hl▸f;exact (m9 u I a c n).done U QQq g f λh' t k=>v h' t λb o hb=>k b o (by simp;exact hb)
 .exact (m9 u I a c n).self h U QQq g f v
 .refine Q e ?_;clear e;exact qp (.int<|a+h*c) (by refine Q aZ<|Q (rangeInts_get d) ?_;rfl)<|.int _ _
def vS (T:Ctx)(s:Wd)(a:List bK):Prop:=∀v∈a,∃H,Off T s v H
def LoopAt (T:Ctx)(d:a7)(v:bK)(a:List bK)(g:List V)(b:Gd)(t:Wd)(e:Nat->fM->Prop):Prop:=
 (∀(h:Around),h.handled=N->∀(c:Nat)(o:List O)(W:Wd)(I:aj->ay->Prop)(E p:aj->ay->Prop),c<g.length->t.uM W->qP T o W->vS T W a->e c W.s.heap->
  (∀s k n,g[c]?=Y k->qu T n k s->W.le n->qP T o n->vS T n a->(∀q H,q∉a->Off T W q H->Off T n q H)->e (c+1) n.s.heap->I s n.s)->
  wpAny (model T.prog T.w) h (pyNext<|.ref v) (λz U=>∃s,z=Y s/\wpAny (model T.prog T.w) h (letOwnedTupleGo d (.ref v) s) (λJ=>I s) p U) E W.s)/\
 (∀(h:Around),h.handled=N->∀(o:List O)(W:Wd)(I:Option aj->ay->Prop)(E:aj->ay->Prop),t.uM W->qP T o W->vS T W a->e g.length W.s.heap->
  (∀n,W.le n->qP T o n->(∀q H,q∉a->Off T W q H->Off T n q H)->I N n.s)->wpAny (model T.prog T.w) h (pyNext<|.ref v) I E W.s)/\
 (∀(h:Around),h.handled=N->∀(c:Nat)(U:ay)(I:aj->ay->Prop)(E:aj->ay->Prop),e c U.heap->I (.ref v) U->wpAny (model T.prog T.w) h (pyIter<|.ref v) I E U)/\
 ∀c (W n:Wd) o,t.uM W->W.uM n->qP T o n->um o b=true->(∀x∈a,∀H,W.s.heap.get? x=Y H->n.s.heap.get? x=Y H)->e c W.s.heap->e c n.s.heap
theorem LoopAt.up {a:List bK}{h:List V}{s:Wd}{b:Nat->fM->Prop}(T:LoopAt C tE I a h gd s b)(u:s.uM W'):LoopAt C tE I a h gd W' b:=tb (λU e c k n A g o H d=>T.1 U e c k n A g o H<|u.trans d) (λU e k n A g d=>T.2.1 U e k n A g<|u.trans d) T.2.2.1 λc n i k d=>T.2.2.2 c n i k<|u.trans d
noncomputable abbrev Wd.stp (s:Wd)(i:fM)(x:pH):Wd:=⟨s.G,s.σ,{ s.s with heap:=i,toks:=x }⟩
abbrev zw (T:a7):Prop:=∀s a,letOwnedTupleGo T s a=pure ()
theorem z5.loop {l:List V}{t:Wd}{b:Nat->fM->Prop}(U:z5 C I l gd t b)(i:zw tE):LoopAt C tE I [I] l gd t b:=by
 obtain ⟨d,ael,aen,aeh,p,T,x⟩:=U;refine tb (λA hA c hp t QQq u E' uN lw H hD hS hq=>?_) (λA hA hp t QQq u lw H hD hS hq=>?_) aeh λc t W' hp l1 l2 H g k=>x c t W' hp l1 l2 H g<|k I<|.head _
 .refine rM (hD I<|.head _) λo0 xD=>wpAny_toks<|ael A hA c t.s _ _ uN hS λs h' h hPv V' hk Bp=>qp s rfl<|qt (p c s hPv) λxv hx rx=>?_
  obtain ⟨v,n⟩:=T _ _ V';refine Q (i ..) ?_;exact wpAny_pure (hq s xv (t.stp h' h) hx (Rep.mono lw.T lw.I lw.σ rx) ⟨Gh.le.refl _,rl.refl _⟩ (H.keep I hk xD.I xD.F xD.σ xD.T rfl rfl Bp)
   (λq hb=>Q (aM.mp hb) ⟨v,n,xD.I,xD.F,xD.σ,xD.T⟩) (λa o ne z=>⟨hk _ _ (λe=>ne<|e▸.head _) z.at_,z.I,z.F,z.σ,z.T⟩) V')
 .exact rM (hD I<|.head _) λo0 xD=>wpAny_toks<|aen A hA t.s _ _ hS λh' h hk Bp=>hq (t.stp h' h) ⟨Gh.le.refl _,rl.refl _⟩ (H.keep I hk xD.I xD.F xD.σ xD.T rfl rfl Bp) λa o ne z=>⟨hk _ _ (λe=>ne<|e▸.head _) z.at_,z.I,z.F,z.σ,z.T⟩
def tO (T:Ctx)(c:Nat)(A:K)(x:List Nat)(a d:a7)(z:St)(h:List V)(b:Gd)(H:St):Prop:=
 ∀(e:Around)(i:kK)(W:Wd),rk c e->At T A x i z W->∀(I:aj->ay->Prop)(E:aj->ay->Prop),
  (∀k v n g,W.le k->At T A x i H k->vS T k n->i.locals∉n->LoopAt T d v n h b k g->g 0 k.s.heap->I (.ref v) k.s)->
  wpAny (model T.prog T.w) e (eval a i) (λs U=>wpAny (model T.prog T.w) e (pyIter s) I E U) E W.s
theorem ur {h:List V}{s U:Wd}{b:Nat->fM->Prop}{A:aj->ay->Prop}(i:zw tE)(g:∀U v k b,s.le U->At C B M env w U->vS C U k->env.locals∉k->LoopAt C tE v k h gd U b->b 0 U.s.heap->A (.ref v) U.s)(T:s.le U)(H:At C B M env w U)(z:Off C U v o)(c:v≠env.locals)(a:z5 C v h gd U b)(I:b 0 U.s.heap):A (.ref v) U.s:=
 g U v [v] b T H (λq d=>Q (aM.mp d) ⟨o,z⟩) (λe=>c (aM.mp e).symm) (a.loop i) I
theorem tZ (o):xm C W ⟨W.G,W.σ,{ W.s with heap:=W.s.heap.push o }⟩:=(Pext0.push o W.s.toks).strict<|ag _
theorem uG {o:gw}(T:qP C hp W)(e:o.isFreed=false):Off C ⟨W.G,W.σ,{ W.s with heap:=W.s.heap.push o }⟩ W.s.heap.objs.size o:=⟨bb _ e,T.sD,T.wo,T.vn,T.freshT⟩
theorem Gw {a:List V}:∀{g:List Nat},vF a=Y g->a=g.map V.ref:=by
 induction a with
 |nil=>exact λe=>J (ae e) rfl
 |cons k a ih=>cases k with
  |ref c=>exact λe=>qN e λo i n=>J n<|qn (V.ref c::·)<|ih i
  |_=>exact λe=>nS e
theorem Qf {a:List Nat}:∀{h k:List aj},qD C W (a.map V.ref) h->W.uM W'->qD C W' (a.map V.ref) k->k=h:=by
 induction a with
 |nil=>exact λU J A=>A.inv.trans U.inv.symm
 |cons c a b=>
  intro h k U o A
  obtain ⟨s,T,rfl,H,d⟩:=U.inv;obtain ⟨n,u,rfl,g,e⟩:=A.inv;obtain ⟨_,rfl,p⟩:=H.inv;obtain ⟨_,rfl,i⟩:=g.inv;refine Q (b d o e)<|Q (ae<|(o.σ _ _ p).symm.trans i) rfl
theorem tO.tracked {h:List V}(o:TE C d B M e f (.ref i) j)(p:j.hp[i]?=Y (.list h))(u:vF h=Y ids)(x:zw tE):tO C d B M e tE f h (Y (i,ids)) j:=λa b W hr ha QQq E g=>by
 refine o a b W hr ha _ _ λn s T rh sA=>?_
 obtain ⟨q,rfl,e1⟩:=sA.inv;refine qJ (rh.H.rX _ _ e1) λz H U=>qY U λI ob c k q3=>?_
 rw[p] at c;(refine Vm.sI c ?_;clear c;rintro rfl)
 obtain ⟨vs,t,rfl,r⟩:=q3.inv;have hl:=Gw u;have A:n.s.heap.IsList q vs.toArray:=⟨_,k,rfl,t,rfl⟩;refine qb A ?_;have pe:=tZ (W:=n) { cls:=.type "list_iterator",data:=.fields #[.ref q,.int 0 0] };refine ur x g (T.trans pe.le) (rh.ry pe) (uG rh.H rfl) (bw rh.lt) (GN (n:=t) (cJ<|bP k) (qD.mono r pe.le) _ λW2 yt l2 H2 hg=>?_) ⟨ru _ (bb _ rfl) rfl rfl,A.push _⟩
 cases e2:yt[i]? with
 |none=>rw[um,e2] at hg;exact fT hg
 |some I=>cases I with
  |list l'=>
   rw[um,e2] at hg
   refine qJ (H2.rX i q<|l2.σ _ _ e1) λP P rR=>qY rR λo2 v p1 p2 p3=>?_
   obtain rfl:=ae (p1.symm.trans e2);obtain ⟨ws,n2,rfl,r2⟩:=p3.inv;have hl':=Gw<|eq_of_beq hg
   subst hl hl'
   have:=Qf (qD.mono r pe.le) l2 r2;refine J this ?_;clear this;exact ⟨_,p2,rfl,n2,rfl⟩
  |_=>rw[um,e2] at hg;exact fT hg
theorem tO.list {k:List V}(o:TE C d B M e f (.lst k) j)(i:zw tE):tO C d B M e tE f k N j:=λU p t a H QQq v g=>by
 refine o U p t a H _ _ λn s T rh I=>?_
 obtain ⟨q,u,h,rfl,x,b⟩:=I.inv;have A:n.s.heap.IsList q u.toArray:=⟨_,rh.H.I _ _ x,rfl,h,rfl⟩;refine qb A ?_;have c:=tZ (W:=n) { cls:=.type "list_iterator",data:=.fields #[.ref q,.int 0 0] };exact ur i g (T.trans c.le) (rh.ry c) (uG rh.H rfl) (bw rh.lt) (GN (n:=h) (cJ<|bP<|rh.H.I _ _ x) (qD.mono b c.le) _ λz yt l2 H2 hg=>⟨_,H2.I _ _<|l2.I _ _ x,rfl,h,rfl⟩) ⟨ru _ (bb _ rfl) rfl rfl,A.push _⟩
theorem tO.tup {k:List V}(o:TE C d B M e f (.tup k) j)(i:zw tE):tO C d B M e tE f k N j:=λU p v a H QQq x g=>by
 refine o U p v a H _ _ λn s T rh I=>?_
 obtain ⟨q,u,h,rfl,z,b⟩:=I.inv;have t:n.s.heap.IsTuple q u.toArray:=⟨_,rh.H.I _ _ z,rfl,h,rfl⟩;refine ji t ?_;have c:=tZ (W:=n) { cls:=.type "tuple_iterator",data:=.fields #[.ref q,.int 0 0] };exact ur i g (T.trans c.le) (rh.ry c) (uG rh.H rfl) (bw rh.lt) (Oz (cJ<|bP<|rh.H.I _ _ z) (qD.mono b c.le) λA yt l2 H2=>⟨_,H2.I _ _<|l2.I _ _ z,rfl,h,rfl⟩) ⟨ru _ (bb _ rfl) rfl rfl,t.push _⟩
theorem N' (e:wZ q a d=true):d≠0/\jm q a d=true/\cz q a d=(vk q a d:Int):=by
 delta wZ at e
 simp only[aA,decide_eq_true_eq] at e
 obtain ⟨⟨c,n⟩,i⟩:=e;refine ri c n ?_;have x:0<=cz q a d:=by
  delta cz
  split
  .split
   .exact yv (jH (by lia) (by lia))
   .lia
  .split
   .exact yv (jH (by lia) (by lia))
   .lia
 delta vk;exact (cf x).symm
theorem tO.tH (k:TE C d B M e f (.tH q a h) j)(o:wZ q a h=true)(i:zw tE):tO C d B M e tE f (wD q a h) N j:=λU p t b H QQq u g=>by
 refine k U p t b H _ _ λn s T A I=>?_
 obtain ⟨x,v,z,ad,rfl,e1⟩:=I.inv;refine qJ (N' o) λc k2 k3=>wpAny_pyIter_range (A.H.I _ _ e1) k2 ?_
 have pe:=tZ (W:=n) { cls:=.type "range_iterator",data:=.fields #[fH q,fH (cz q a h),fH h] };exact ur i g (T.trans pe.le) (A.ry pe) (uG A.H rfl) (bw A.lt) (OA)<|Q k3<|Q (by simp:q+((0:Nat):Int)*h=q)<|Q (rfl:((vk q a h:Nat):Int)-((0:Nat):Int)=(vk q a h:Int))<|bb _ rfl
end
section
variable {T rG U j N3 akE:St}
theorem Ju {x:ba}(b:∀d:Around,d.handled=N->Walks C.prog C.w d I [I] [I] x.cps.size (SignAt x) (λc i=>i.IsStrIter I ty x t c)):z5 C I (x.cps.toList.map λh=>.str<|one h) N W λc i=>i.IsStrIter I ty x t c:=by
 refine Ed (SignAt x) (λd hA c w QQq E L T hQ=>?_) (λd hA w QQq E T hQ=>?_) (λd hA c w QQq E T hQ=>(b d hA).self c w QQq E T hQ) (λc s A=>?_) (λc i T=>let ⟨o,e,_⟩:=T;⟨o,e⟩) λc n W2 f l1 l2 H g G T=>let ⟨o,e,r⟩:=T;(qp o (G o e) r)
 .exact (b d hA).item c w QQq E (by simpa using L) T λs k v p y a=>hQ s k v p y λq o z=>a q o (by simp;exact z)
 .exact (b d hA).done w QQq E (by simpa using T) λk v a=>hQ k v λq o z=>a q o (by simp;exact z)
 .obtain ⟨h,u,e,rfl⟩:=A;refine qp (.str<|one h) (Q aZ<|Q fO<|Q e ?_)<|.str _ _;rfl
theorem tO.str (k:TE C d B M e T v U)(o:rB v=.str s)(i:zw tE):tO C d B M e tE T (s.cps.toList.map λh=>.str<|one h) N U:=λa f t L H A p g=>by
 refine k a f t L H _ _ λn u b y G=>?_
 have I:=G.rB;revert I;refine Q o ?_;intro I;obtain ⟨x,rfl⟩:=I.inv
 cases q:s.cps.all (·<128)
 .refine wpAny_pyIter_wide q ?_;have c:=tZ (W:=n) { cls:=.type "str_iterator",data:=.fields #[.str s x,.int 0 0] };exact ur i g (b.trans c.le) (y.ry c) (uG y.H rfl) (bw y.lt) (Ju λa w=>Walks.strWide w _ s x)<|ru _ (bb _ rfl) rfl rfl
 .refine wpAny_pyIter_ascii q ?_;have c:=tZ (W:=n) { cls:=.type "str_ascii_iterator",data:=.fields #[.str s x,.int 0 0] };exact ur i g (b.trans c.le) (y.ry c) (uG y.H rfl) (bw y.lt) (Ju λa w=>Walks.strAscii w _ s x)<|ru _ (bb _ rfl) rfl rfl
def Dm (a:Ctx)(c:Nat)(I:K)(H:List Nat)(q:Tg)(f:List gn)(b:Gd):List V->St->Fl->St->Prop
 |[]=>@λT s rG=>um T.hp b=true/\s=.next/\rG=T
 |x::l=>@λT s rG=>um T.hp b=true/\∃u,rz H 5 q x T=Y u/\((∃n,yi a c I H f u .next n/\Dm a c I H q f b l n s rG)\/∃L,s=.ret L/\yi a c I H f u (.ret L) rG)
theorem XD {s:Fl}:∀{l:List V},Dm C d B M tg body gd l T s rG->um T.hp gd=true
 |[]=>@λo=>o.1
 |_::_=>@λo=>o.1
theorem Loc.off (n:Loc C B L loc W):∃o,Off C W L o:=by
 refine qt n.ns λd k J=>?_;obtain ⟨o,a,h,e,_⟩:=k
 exact ⟨o,e,n.I,n.F,n.σ,n.T⟩
theorem Loc.ahead (p:Loc C B L loc W)(z:Off C W L o)(a:W.le W')(G:Off C W' L o):Loc C B L loc W':=by
 refine qt p.ns λd u g=>?_;obtain ⟨v,f,h,e,t⟩:=u
 rw[z.at_] at e;(refine Vm.sI e ?_;clear e;rintro rfl)
 exact ⟨qp d (wR o f h G.at_ t) λc b k e i=>qt (g c b k e i) λs n q=>qp s n<|q.mono a,G.I,G.F,G.σ,G.T⟩
theorem At.step {f:List bK}(G:At C B M env uL W0)(H:env.locals∉f)(a:W0.le W1)(b:qP C uL.hp W1)(ko:∀v o,v∉f->Off C W0 v o->Off C W1 v o):At C B M env uL W1:=G.L.off.elim λo z=>⟨G.ok.mono a.σ,b,G.L.ahead z a<|ko _ _ H z⟩
abbrev Fx (a:Ctx)(c:Nat)(I:K)(H:List Nat)(L:a7)(q:Tg):Prop:=∀k T rG,rz H 5 q k T=Y rG->TSt a c I H L k T rG
abbrev Re (d:Ctx)(a:List bK)(b:Gd)(e:Nat->fM->Prop)(c:Nat)(s:Wd):Prop:=∀g f,s.le g->qP d f g->um f b=true->(∀v∈a,∀G,Off d s v G->Off d g v G)->vS d g a/\e c g.s.heap
theorem GO (L:LoopAt C tE I D l gd q8 Sx)(e:A.handled=N)(H:i<l.length)(a:At C B M env uL W0)(c:vS C W0 D)(b:env.locals∉D)(g:q8.le W0)(t:Sx i W0.s.heap){v:aj->ay->Prop}(hQ:∀s x,wpAny (model C.prog C.w) A (letOwnedTupleGo tE (.ref I) s) (λW=>v s) E' x->QQq (Y s) x)(G:∀s k n,l.drop i=k::l.drop (i+1)->qu C n k s->q8.le n->W0.le n->At C B M env uL n->(∀q o,q∉D->Off C W0 q o->Off C n q o)->Re C D gd Sx (i+1) n->v s n.s) :
  wpAny (model C.prog C.w) A (pyNext<|.ref I) QQq E W0.s:=by
 refine wpAny_mono (L.1 A e i uL.hp W0 v E E' H g.uM a.H c t λs k n hx rv f H1 u p V'=>G s k n (Q (l_ H)<|qn (·::l.drop (i+1))<|ae<|(aD H).symm.trans hx) rv (g.trans f) f (a.step b f H1 p) p λW3 d l3 H3 g3 k3=>⟨λw hb=>(u w hb).imp λo h=>k3 w hb o h,?_⟩) (λy x h=>h.elim λs h=>Q h.1<|hQ s x h.2) λW W z=>z
 refine L.2.2.2 (i+1) n W3 d (g.trans f).uM l3.uM H3 g3 (λw hb o z=>?_) V';obtain ⟨o',h⟩:=u w hb;exact J (ae<|h.at_.symm.trans z)<|(k3 w hb o' h).at_
theorem GP (L:LoopAt C tE I D l gd q8 Sx)(e:A.handled=N)(G:At C B M env uL W0)(c:vS C W0 D)(H:env.locals∉D)(b:q8.le W0)(d:Sx l.length W0.s.heap)(p:∀n,q8.le n->W0.le n->At C B M env uL n->(∀q o,q∉D->Off C W0 q o->Off C n q o)->QQq N n.s):wpAny (model C.prog C.w) A (pyNext<|.ref I) QQq E W0.s:=
 L.2.1 A e uL.hp W0 QQq E b.uM G.H c d λn f g a=>p n (b.trans f) f (G.step H f g a) a
def Gf (a:Ctx)(c:Nat)(L:K)(G:List Nat)(q:Tg)(f:List gn)(b:Gd)(g:kK)(k:List V)(u:List bK)(d:Nat->fM->Prop)(v:Wd)(s:Fl)(H:St)(h:Nat)(e:ay):Prop:=∃(t:Nat)(I:St)(i:Wd),h=k.length+1-t/\t<=k.length/\e=i.s/\v.le i/\At a L G g I i/\vS a i u/\d t i.s.heap/\Dm a c L G q f b (k.drop t) I s H
@[elab_as_elim] theorem Gf.elim {e:Nat->ay->Prop}(a:Gf C d B M tg body gd env l D Sx q8 fl j n s)(g:∀t I b,t<=l.length->q8.le b->At C B M env I b->vS C b D->Sx t b.s.heap->Dm C d B M tg body gd (l.drop t) I fl j->e (l.length+1-t) b.s):e n s:=by obtain ⟨t,I,b,rfl,w,rfl,f,G,c,H,o⟩:=a;exact g t I b w f G c H o
theorem Gf.intro (h)(w:h<=l.length)(a:q8.le W0)(G:At C B M env uL W0)(t:vS C W0 D/\Sx h W0.s.heap)(o:Dm C d B M tg body gd (l.drop h) uL fl j):Gf C d B M tg body gd env l D Sx q8 fl j (l.length+1-h) W0.s:=⟨h,uL,W0,rfl,w,rfl,a,G,t.1,t.2,o⟩
theorem Q_ {b:k8->ay->Prop}{p:aj->ay->Prop}{g:aj->ay->Prop}(a:rk d A)(H:Fx C d B M L tg)(o:Dm C d B M tg body gd (k::l) uL fl j)(I:At C B M env uL W1)(q:qu C W1 k s)(hn:∀u c,R9 C [env.locals] W1 c->At C B M env u c->Dm C d B M tg body gd l u fl j->b .next c.s)(ahX:∀v w c,fl=.ret v->W1.le c->At C B M env j c->qu C c v w->b (.ret w) c.s) :
  wpAny (model C.prog C.w) A (assign L env s) (λW x=>wpAny (model C.prog C.w) A (execs body env) b p x) g W1.s:=by
 obtain ⟨_,z,e,h⟩:=o;refine H k uL z e A env (W1.wm C [env.locals]) s a (I.ex<|.head _) q _ _ λn W l2 y W=>?_
 obtain ⟨u,g3,g4⟩|⟨v,i,g3⟩:=h
 .exact g3 A env n a y _ _ λc f l3 a3 G=>have t:=I.xx (l2.trans l3) a3;(J G.symm<|hn u (c.tL W1.G.F) t.1 t.2.1 g4)
 .exact g3 A env n a y _ _ λc f l3 a3 G=>have t:=I.xx (l2.trans l3) a3;G.elim λw hc=>J hc.1.symm<|ahX v w (c.tL W1.G.F) i t.1.le t.2.1 hc.2
theorem TS.uY {e:dA}{L:a7}{x:List V}{fl:Fl}(hi:∀u k H,L≠.Set u k H)(hs:tO C d B M L tE T x b U)(ht:Fx C d B M tE tg)(hb:Dm C d B M tg f b x U fl j) :
  TS C d B M (.For tE L f [] e) T fl j:=λA env W hr ha QQq g h=>by
 refine wpAny_For (hs A env W hr ha _ _ λn I G Sx uV y hD BW hL hS=>?_) λv=>?_
 .refine codeAny_forLoop_any (Gf C d B M tg f b env x G Sx n fl j) (λt s hI=>Gf.elim hI λi uL W0 QX lw a0 Q6 p hE=>?_) (x.length+1)<|.intro 0 (dZ _) (Wd.le.refl _) y ⟨hD,hS⟩ hb
  by_cases uN:i<x.length
  .exact GO hL hr.1 uN a0 Q6 BW lw p (λv s h=>h) λv xv W1 hd rv GL GS a1 ko re=>Q_ hr ht (J hd hE) a1 rv
    (λst2 W3 k3 a3 g4=>qp (x.length+1-(i+1)) (oy (dT uN)<|bW i)<|.intro (i+1) uN (GL.trans k3.le) a3 (re W3 st2.hp k3.le a3.H (XD g4) λa ha o z=>k3.off a o (λq=>BW<|J (aM.mp q) ha) z) g4)
    λw c W3 hf lw3 a3 rc=>h W3 _ (uV.trans<|GL.trans lw3) a3<|Q hf<|qp c rfl rc
  .skip
   have q:Dm C d B M tg f b [] uL fl j:=J (jD<|cU.mp uN) hE;exact GP hL hr.1 a0 Q6 BW lw (J (gA QX<|cU.mp uN) p) λW1 GL P a1 P=>jW<|h W1 _ (uV.trans GL) (Q q.2.2 a1)<|(qn (λfl=>K0 C fl W1 k8.next) q.2.1).mpr rfl
 .cases L with
  |Set u k H=>exact absurd rfl<|hi u k H
  |_=>rfl
end
section
variable {i a j o p t:St}
def MJ (T:Ctx)(c:Nat)(U:K)(I:List Nat)(L:a7)(f:List gn):Nat->St->Fl->St->Prop
 |0=>@λJ J J=>False
 |n+1=>@λi s a=>(s=.next/\TT T c U I L i false a)\/(∃u q,TT T c U I L i true u/\yi T c U I f u .next q/\MJ T c U I L f n q s a)\/∃u k,s=.ret k/\TT T c U I L i true u/\yi T c U I f u (.ret k) a
theorem Sl {s:Fl}{QB:k8->ay->Prop}{NNq:ay->Prop}{E1 w:aj->ay->Prop}(x:rk d c)(z:MJ C d B M L f h uL s a)(H:At C B M v uL W0)(h1:∀A,W0.le A->s=.next->At C B M v a A->NNq A.s)(h2:∀I u n,I<h->W0.le n->At C B M v u n->MJ C d B M L f I u s a->QB .next n.s)(G:∀T n,W0.le n->At C B M v a n->K0 C s n T->(∃k,s=.ret k)->QB T n.s) :
  wpAny (model C.prog C.w) c (j6 L v<|eval L v) (λb U=>if b=true then wpAny (model C.prog C.w) c (execs f v) QB w U else NNq U) E1 W0.s:=by
 cases h with
 |zero=>exact z.elim|succ h=>
  rcases z with ⟨e,g⟩|⟨st1,u,g1,g2,g3⟩|⟨st1,k,e,g1,g2⟩
  .exact g c v W0 x H _ _ λA b l1 y r1=>(qm λq=>tF<|q.symm.trans r1).mpr<|h1 A l1 e y
  .exact g1 c v W0 x H _ _ λA b l1 y r1=>(ql r1).mpr<|g2 c v A x y _ _ λW2 T l2 a2 r2=>J ((r2:T=.next).symm)<|h2 h u W2 (bW _) (l1.trans l2) a2 g3
  .exact g1 c v W0 x H _ _ λA b l1 y r1=>(ql r1).mpr<|g2 c v A x y _ _ λW2 T l2 a2 r2=>G T W2 (l1.trans l2) a2 (J e.symm r2) ⟨k,e⟩
theorem TS.Ls {e:dA}{s:Fl}(b:MJ C d B M c body n i s a):TS C d B M (.While c body [] e) i s a:=λg f v L H QQq k h=>
 wpAny_While (codeAny_whileLoop (λx z=>∃(u:St)(A:Wd),z=A.s/\v.le A/\At C B M f u A/\MJ C d B M c body x u s a) (λx z U=>U.elim λu U=>U.elim λA U=>U.1.symm ▸
  Sl L U.2.2.2 U.2.2.1 (λW1 l1 w y=>jW<|h W1 _ (U.2.1.trans l1) y<|J w.symm rfl) (λT st2 W3 hm l3 a3 g3=>⟨T,hm,st2,W3,rfl,U.2.1.trans l3,a3,g3⟩)
   λq W3 l3 a3 G hv=>hv.elim λI w=>(J w G:K0 C (.ret I) W3 q).elim λcc hc=>hc.1.symm▸h W3 _ (U.2.1.trans l3) a3 (J w.symm<|qp cc rfl hc.2)) n<|uu i v rfl (Wd.le.refl _) H b)
end
theorem vh:Slot "list_reverseiterator" "__next__" "list_reverseiterator.__next__":=
 .of (owner:="list_reverseiterator") (n:="__next__") (by refine Q (dM ..)<|Q (cx ..) ?_;kernel_rfl) rfl rfl rfl
  (by first|exact .inl rfl|exact .inr rfl) (by refine Q (d6 ..) ?_;kernel_rfl)
theorem Ay:j7 pb "list_reverseiterator.__next__"=Y fG.«list_reverseiterator.__next__»:=jJ (by kernel_rfl)
theorem Bu (t):pU "list_reverseiterator.__next__" ⟨[t],[]⟩:=by kernel_rfl
theorem Bn:Slot "list_reverseiterator" "__iter__" "list_reverseiterator.__iter__":=
 .of (owner:="list_reverseiterator") (n:="__iter__") (by refine Q (dM ..)<|Q (cx ..) ?_;kernel_rfl) rfl rfl rfl
  (by first|exact .inl rfl|exact .inr rfl) (by refine Q (d6 ..) ?_;kernel_rfl)
theorem F4:j7 pb "list_reverseiterator.__iter__"=Y fG.«dict_keyiterator.__iter__»:=entryFor_alias (id':="dict_keyiterator.__iter__") (by kernel_rfl) rfl (by decide +kernel) (by kernel_rfl)
theorem Hu (t):pU "list_reverseiterator.__iter__" ⟨[t],[]⟩:=by kernel_rfl
def IsRevIter (i:fM)(v q:bK)(c:Nat):Prop:=∃G,i.get? v=Y G/\G.cls=.type "list_reverseiterator"/\G.data=.fields #[.ref q,.int ((c:Int)-1) 0]
section
variable {s:ay}
theorem IsRevIter.typeIs {q:bK}(p:IsRevIter s.heap it q k):s.TypeIs (.ref it) "list_reverseiterator":=let ⟨G,e,i,_⟩:=p;(qp G e i)
theorem EB {q:bK}{U:aj->ay->Prop}(p:IsRevIter s.heap it q k)(H:U (.ref it) s):wpAny (model G n) A (pyIter<|.ref it) U E s:=wpAny_pyIter_slot p.typeIs Bn<|iu Bn p.typeIs F4 (wpAny_pure ⟨_,rfl,"list_reverseiterator",_,p.typeIs,vh.lookup,H⟩)<|Hu _
theorem EA {q:bK}{U:Option aj->ay->Prop}(p:IsRevIter s.heap it q<|k+1)(I:s.heap.IsList q items)(e:items[k]?=Y x)(hQ:∀i,IsRevIter i it q k->ff it s.heap i->U (Y x) { s with heap:=i }):wpAny (model G n) A (pyNext<|.ref it) U E s:=by
 obtain ⟨L,j,t,z⟩:=id p;obtain ⟨o,H,_,T,c⟩:=I;rw[(by lia:((k+1:Nat):Int)-1=(k:Int))] at z
 refine af (wpAny_attempt (gZ p.typeIs vh
  <| iu vh p.typeIs Ay ?_<|Bu _))
 refine (?_:wpAny _ _ (field (.ref it) 1>>=_) _ _ s);refine af<|j3 j z rfl (Q (qm<|by lia)<|af<|j3 j z rfl<|af<|m4 H c ?_:wpAny _ _ (if (k:Int)<0 then _ else _) _ _ s)
 simp only[dU,e];exact af<|mZ j z (ag _)<|wpAny_pure<|qp x rfl<|wpAny_pure<|hQ _ ⟨_,d9 _ j<|nH<|iX z _,(oS ..).trans t,Q (iX z ..) rfl⟩<|cS ..
theorem FI {q:bK}{U:Option aj->ay->Prop}(e:A.handled=N)(p:IsRevIter s.heap it q 0)(hQ:∀i,nR it s.heap i->U N { s with heap:=i }):wpAny (model G n) A (pyNext<|.ref it) U E s:=by
 obtain ⟨H,j,o,z⟩:=id p;refine af (wpAny_attempt (gZ p.typeIs vh
  <| iu vh p.typeIs Ay ?_<|Bu _))
 refine (?_:wpAny _ _ (field (.ref it) 1>>=_) _ _ s);refine af<|j3 j z rfl (Q (ql<|by decide)<|af<|m5<|af<|af<|af<|fX (af<|iG (by first|rfl|(rfl;rfl))<|fX (af<|wpAny_handled ?_)<|by size_fits)<|by size_fits:wpAny _ _ (if (((0:Nat):Int)-1)<0 then _ else _) _ _ s)
 first|refine Q (show A.in1.handled=N from e) ?_|rw[e]
 refine af<|wpAny_pure<|wpAny_throw ?_
 refine af<|lN (qp _ (bb _ rfl) rfl) isSubtype_stop ?_
 exact wpAny_pure<|hQ _<|((nR.refl _ _).push _).push _
end
theorem FR:mroOf (.type "reversed")=pure [.type "reversed",.type "object"]:=by rw[mroOf_type];kernel_rfl
theorem FU:eW (.type "reversed") "__new__"=pure (Y<|.builtin "reversed.__new__"):=by rw[dM,cx];kernel_rfl
theorem Hq:j7 pb "reversed.__new__"=Y fG.«reversed.__new__»:=jJ (by kernel_rfl)
theorem TA:Bind.madeBy (.type "reversed")=pure (Y "reversed.__new__"):=madeBy_type FR FU (by decide +kernel)
theorem LB:kb (.type "reversed") (.type "reversed")=pure true:=by rw[d6];kernel_rfl
theorem SD:kb (.type "list_reverseiterator") (.type "reversed")=pure false:=by rw[d6];kernel_rfl
theorem IY {v:bK}{R:Result->ay->Prop}(e:s.heap.get? v=Y ⟨.type "list",N,.seq items n,#[]⟩)(I:R (.ok (.ret (.ref s.heap.objs.size))) { s with heap:=s.heap.push { cls:=.type "list_reverseiterator",data:=.fields #[.ref v,fH ((items.size:Int)-1)] } }) :
  wpAny (model G o) A.in1 (fG.«reversed.__new__» ⟨[.type "reversed",.ref v],[]⟩) (λx w=>match x with|.done T=>R (.ok T) w|.again t=>t.quiet=true/\jA (model G o) A t R w) (λy w=>R (.error y) w) s:=by
 have L:s.TypeIs (.ref v) "list":=⟨_,e,rfl⟩;have i:=FR;have p:=LB;have z:=F.slot_list_reversed.lookup;have H:=F.slot_list_reversed.bind (.ref v);obtain ⟨j,U,a,h,u⟩:=s
 wp_walk
 refine codeAny_mono (fx (R:=λb w=>b=.ok (.ret (.ref j.objs.size))/\w=⟨j.push { cls:=.type "list_reverseiterator",data:=.fields #[.ref v,fH ((items.size:Int)-1)] },U,a,h,u⟩) F.slot_list_reversed.plain F.entry_list_reversed
  (F.slot_list_reversed.check _ _ _ _ _ _ _ _ L (F.args_list_reversed_1 _) (AutoListH.list___reversed___list_0 v items n G o A.in1 (λb w=>b=.ok (.ret (.ref j.objs.size))/\w=⟨j.push { cls:=.type "list_reverseiterator",data:=.fields #[.ref v,fH ((items.size:Int)-1)] },U,a,h,u⟩) _ ⟨e,rfl,rfl⟩))) λb w c=>?_
 obtain ⟨rfl,rfl⟩:=c;exact wpAny_pure I
theorem Hs {v:bK}{y:aj->ay->Prop}(e:s.heap.get? v=Y ⟨.type "list",N,.seq items n,#[]⟩)(I:y (.ref s.heap.objs.size) { s with heap:=s.heap.push { cls:=.type "list_reverseiterator",data:=.fields #[.ref v,fH ((items.size:Int)-1)] } }) :
  wpAny (model G o) A (call (.type "reversed") [.ref v]) y E s:=by
 have i:=FR;have p:=TA;have z:=LB;have H:checkTypeCall "reversed" ⟨[.ref v],[]⟩=pure ():=by kernel_rfl
 have c:checkBuiltinCall "reversed.__new__" ⟨[.type "reversed",.ref v],[]⟩=pure ():=by kernel_rfl
 refine m6 (mx ?_);show wpAny _ _ (callAny (.type "reversed") _) _ _ _;refine wpAny_pure ⟨Code.quiet_builtin _ (by decide +kernel),codeAny_builtin F.entry_type_call ?_⟩;rw[Around.under_plain (weight_type_call_type "reversed" [.ref v] []) (units_type_call_type "reversed" [.ref v] [])];have k:(dh "reversed"==dh "type")=false:=by decide +kernel
 have L:((oC "reversed").bind (·.mro.findSome? λf=>(oC f).bind λq=>if q.noNew then Y true else if q.attrs.any (·.1=="__new__") then Y false else N)).getD false=false:=by decide +kernel
 repeat (any_goals (first|assumption|wp_step))
 refine codeAny_mono (fx (R:=λa u=>a=.ok (.ret (.ref s.heap.objs.size))/\u={ s with heap:=s.heap.push { cls:=.type "list_reverseiterator",data:=.fields #[.ref v,fH ((items.size:Int)-1)] } }) (by decide +kernel) Hq
  (iG c (IY (A:=A.in1) (R:=λa u=>a=.ok (.ret (.ref s.heap.objs.size))/\u={ s with heap:=s.heap.push { cls:=.type "list_reverseiterator",data:=.fields #[.ref v,fH ((items.size:Int)-1)] } }) e ⟨rfl,rfl⟩))) λa U t=>?_
 obtain ⟨rfl,rfl⟩:=t;have T:(({ s with heap:=s.heap.push { cls:=.type "list_reverseiterator",data:=.fields #[.ref v,fH ((items.size:Int)-1)] } }:ay)).TypeIs (.ref s.heap.objs.size) "list_reverseiterator":=⟨_,bb _ rfl,rfl⟩;have g:=SD
 repeat (any_goals (first|assumption|wp_step))
section
variable {f y j t u w:St}
theorem TK {g:List V}(c:a≠I)(U:qD C W g vs)(hk:∀(W1:Wd) hp,W.uM W1->qP C hp W1->W1.s.heap.IsList a vs.toArray):z5 C I g.reverse N W λi h=>∃k,i+k=vs.length/\IsRevIter h I a k/\h.IsList a vs.toArray:=by
 have e:=U.length;refine Ed (λi v=>∃k,i+(k+1)=vs.length/\vs[k]?=Y v) (λA hA i s QQq L hi f hQ=>?_) (λA hA s QQq L f hQ=>?_) (λA hA i s QQq L f hQ=>?_) (λi v rR=>qt rR λk n h=>?_) (λi h f=>?_) λi W1 W2 hp l1 l2 H z G f=>?_
 .obtain ⟨k,n,p,h2⟩:=f;revert hi;refine Q (cw ..) ?_;intro hi;obtain ⟨k,rfl⟩:∃T,k=T+1:=⟨k-1,NN e n hi⟩;have QW:k<vs.length:=Nq n;refine EA p h2 (x:=vs[k]) (by simp[QW]) λh' q hs=>?_
  have:=hQ vs[k] h' s.toks (qp k n<|by simp[QW]) (ru k (MO n) q<|h2.extBut hs.extBut c) λb o hb n=>(hs.2 b hb).trans n
  exact this
 .refine rT f λk n p h2=>?_
  revert n;refine Q (cw ..) ?_;intro n;have:k=0:=M1 e n;subst this;exact FI hA p λh' d=>hQ h' s.toks λb o hb n=>d b o hb n
 .exact rT f λk n p h2=>EB p hQ
 .refine qt (U.at h) λx p h2=>qp x (ax (List.getElem?_reverse<|M8 e n) ?_) h2
  refine J p ?_;congr 1;exact MT e n
 .refine rT f λk n wU P=>?_;obtain ⟨o,p,_⟩:=wU;exact ⟨o,p⟩
 .refine rT f λk n rR P=>?_;obtain ⟨o,p,h2⟩:=rR
  exact ru k n (qp o (G o p) h2)<|hk W2 hp (l1.trans l2) H
theorem tO.rev {k:dA}{o:List V}(s:noStar L=true)(hf:TE C d B M (.Name q e) f (.con<|.type "reversed") f)(x:TE C d B M L f (.lst o) j)(i:zw b):tO C d B M (.Call (.Name q e) [L] [] k) b f o.reverse N j:=λv A H I ha QQq E g=>by
 refine hO<|hf v A H I ha _ _ λn c T U3 G=>?_
 subst G;refine Q (rN<|by simp[s])<|Q (su ..)<|ip (vP [L])<|yD (tw.cons x .nil) I U3 _ _ λq8 ar uV rh wU=>rF wU λQV U=>Q QV ?_
 generalize ar.pos=p at *
 obtain ⟨_,_,rfl,S8,rn⟩:=U.inv;refine Q rn.inv ?_;obtain ⟨a,vs,h,rfl,e1,r⟩:=S8.inv;have z:=rh.H.I _ _ e1;refine Hs z ?_;have pe:=tZ (W:=q8) { cls:=.type "list_reverseiterator",data:=.fields #[.ref a,fH ((vs.toArray.size:Int)-1)] };refine EB (ru _ (bb _ rfl) rfl rfl) ?_;exact ur i g ((T.trans uV).trans pe.le) (rh.ry pe) (uG rh.H rfl) (bw rh.lt) (TK (cJ<|bP z) (qD.mono r pe.le) λW2 yt l2 H2=>⟨_,H2.I _ _<|l2.I _ _ e1,rfl,h,rfl⟩)<|ru vs.length (bZ _) (ru _ (bb _ rfl) rfl rfl) ⟨_,aY _ z,rfl,h,rfl⟩
end
end Vm
end
noncomputable section
set_option tactic.hygienic true
namespace Vm
theorem EJ {U:aj->ay->Prop}(c:s.heap.IsTupleIter it t i)(u:s.heap.IsTuple t items)(hQ:∀v j,items[i]?=Y v->j.IsTupleIter it t (i+1)->ff it s.heap j->U v { s with heap:=j })(hE:items[i]?=N->A.handled=N/\∀j w,nR it s.heap j->(∃o,j.get? w=Y o/\o.cls=.type "StopIteration")->E (.ref w) { s with heap:=j }) :
  wpAny (model G n) A (o8<|.ref it) U E s:=by
 obtain ⟨o,e,p,q⟩:=id c;obtain ⟨x,z,_,y,H⟩:=u;refine af (gZ c.typeIs F.slot_tuple_iterator_next
  <| iu F.slot_tuple_iterator_next c.typeIs F.entry_tuple_iterator_next ?_<|F.args_tuple_iterator_next_1 _)
 refine (?_:wpAny _ _ (field (.ref it) 0>>=_) _ _ s);refine af<|j3 e q rfl<|Q (qm<|show ¬((jl t==aj.none)=true) from dn)<|af<|j3 e q rfl<|af<|m4 z H ?_
 cases k:items[i]? with
 |some v=>
  simp only[dU,k];exact af<|mZ e q (ag _)<|wpAny_pure<|qp v rfl<|wpAny_pure<|hQ v _ k ⟨_,d9 _ e<|nH<|iX q _,(oS ..).trans p,Q (iX q ..) rfl⟩<|cS ..
 |none=>
  obtain ⟨I,hE⟩:=hE k;simp only[dU,k];refine af<|m5<|af<|mZ e q (by simp)<|af<|af<|fX (af<|iG (by first|rfl|(rfl;rfl))<|fX (af<|wpAny_handled ?_)<|by size_fits)<|by size_fits
  first|refine Q (show A.in1.handled=N from I) ?_|rw[I]
  exact af<|wpAny_pure<|wpAny_throw<|hE _ _ (((cS ..).extBut.push _).push _)<|qp _ (bb _ rfl) rfl
theorem UK (hh:A.handled=N)(it t)(zQ:t≠it)(items:Array aj):Draws prog w A it [it,t] items.size (λi v=>items[i]?=Y v) λi h=>h.IsTupleIter it t i/\h.IsTuple t items where
 live:=λ_ _ st=>let ⟨o,ho,_⟩:=st.1;⟨o,ho⟩
 frame:=λ_ _ _ st hk=>⟨let ⟨o,e,r⟩:=st.1;(qp o (hk it (.head _) o e) r),let ⟨o,e,r⟩:=st.2;(qp o (hk t (.tail _<|.head _) o e) r)⟩
 item:=λi s QQq E hi st hQ=>EJ st.1 st.2 (λx h' hx ah5 Ar=>hQ x h' s.toks hx ⟨ah5,st.2.extBut Ar.extBut zQ⟩ Ar) λz=>by rw[eV hi] at z;exact Vm.sN z
 done:=λs QQq E st hE=>EJ st.1 st.2 (λx h' hx _ _=>by rw[Array.getElem?_eq_none<|ag _] at hx;exact Vm.nS hx) λ_=>⟨hh,hE⟩
set_option maxHeartbeats 1000000 in
theorem FT (v)(a)(c) :
  Meets (fG.«enumerate.__new__» ⟨[.type "enumerate",.ref v],[]⟩) (λ_ b U=>U.heap.get? v=Y ⟨.type "tuple",N,.seq a c,#[]⟩/\
   b (.ok (.ret (.ref (U.heap.push { cls:=.type "tuple_iterator",data:=.fields #[.ref v,.int 0 0] }).objs.size)))
    { U with heap:=(U.heap.push { cls:=.type "tuple_iterator",data:=.fields #[.ref v,.int 0 0] }).push { cls:=.type "enumerate",data:=.fields #[.none,.bool false,.ref U.heap.objs.size,fH 0,.none,.none] } }):=
 .of_wp λG n T b U t=>by
  obtain ⟨i,H,d,h,u⟩:=U;obtain ⟨e,t⟩:=t;have j:=sub_enumerate;have w:fM.IsTuple (ay.heap ⟨i,H,d,h,u⟩) v a:=⟨_,e,rfl,c,rfl⟩
  wp_walk using f' e
  refine wpAny_stack_any λf=>wpAny_pure ?_
  split
  .rename_i L _ _ _ _ _
   cases (L==dh "enumerate")
   .wp_walk using f' e,ji w
    exact ⟨_,rfl,t⟩
   .wp_walk using f' e,ji w
    exact ⟨_,rfl,t⟩
  .wp_walk using f' e,ji w
   exact (qp _ rfl t)
theorem Ht {v:bK}{U:aj->ay->Prop}(e:s.heap.get? v=Y ⟨.type "tuple",N,.seq a c,#[]⟩)(g:∀i,p0 i (s.heap.objs.size+1) s.heap.objs.size 0 .none->i.IsTupleIter s.heap.objs.size v 0->(∀q o,s.heap.get? q=Y o->i.get? q=Y o)->U (.ref<|s.heap.objs.size+1) { s with heap:=i }) :
  wpAny (model G n) A (call (.type "enumerate") [.ref v]) U E s:=by
 refine callType_new F.called_enumerate rfl (F.typeCall_enumerate_1 _) (F.newCall_enumerate_1 _) (λt=>F.args_object_init_2 t _) F.entry_enumerate_new
  (FT v a c) ⟨e,?_⟩
 refine Q (lL ..) ?_;have w:p0 ((s.heap.push { cls:=.type "tuple_iterator",data:=.fields #[.ref v,.int 0 0] }).push
   { cls:=.type "enumerate",data:=.fields #[.none,.bool false,.ref s.heap.objs.size,fH 0,.none,.none] }) (s.heap.objs.size+1) s.heap.objs.size 0 .none:=by
  have:=bb (s.heap.push { cls:=.type "tuple_iterator",data:=.fields #[.ref v,.int 0 0] })
   (o:={ cls:=.type "enumerate",data:=.fields #[.none,.bool false,.ref s.heap.objs.size,fH 0,.none,.none] }) rfl
  rw[lL ..] at this;exact this
 exact ⟨qp _ w rfl,g _ w (ru _ (aY _<|bb _ rfl) rfl rfl) λq o p=>aY _<|aY _ p⟩
end Vm
end
noncomputable section
namespace Vm
section
variable {j U f w G L:St}
theorem q7.VQ {D:List bK}{s':ay}(H:qP C hp W)(k:∀b o,b∉D->W.s.heap.get? b=Y o->s'.heap.get? b=Y o)(hD:vS C W D)(hg:s'.gens=W.s.gens)(ho:s'.os=W.s.os)(ht:W.s.toks<=s'.toks):q7 C W.G W.σ hp s' where
 I a o e:=k a o (λq=>(hD a q).elim λJ z=>by rw[z.I] at e;exact Vm.nS e)<|H.I a o e
 F a o e:=k a o (λq=>(hD a q).elim λJ z=>by rw[z.F] at e;exact Vm.nS e)<|H.F a o e
 IF:=H.IF
 top:=H.top
 tab P hP:=(H.tab P hP).elim λa h=>tb a h.1 h.2.1<|h.2.2.elim λo h=>qp o (k P o (λq=>(hD P q).elim λJ z=>z.T hP) h.1) h.2
 len:=H.len
 nd:=H.nd
 rX i a e:=(H.rX i a e).elim λp h=>ri p h.1<|h.2.elim λo h=>⟨o,h.elim λob h=>ru ob h.1 (k a ob (λq=>(hD a q).elim λJ z=>z.σ<|bG e) h.2.1) h.2.2⟩
 gens:=hg.trans H.gens
 os:=ho.trans H.os
 pos:=ai H.pos ht
 T t x e:=⟨(H.T t x e).1,ai (H.T t x e).2 ht⟩
theorem Rl {t:List V}{P:Nat->aj->Prop}{d:Nat->fM->Prop}{pos:dA}(D:∀u:Around,u.handled=N->Draws C.prog C.w u it fp t.length P d)(c:e≠it)(hef:e∉fp)(A:it∈fp)(hP:∀h v,P h v->∃x,t[h]?=Y x/\qu C W x v)(hre:∀h (W1 W2:Wd) hp,W.uM W1->W1.uM W2->qP C hp W2->(∀o,W1.s.heap.get? it=Y o->W2.s.heap.get? it=Y o)->d h W1.s.heap->d h W2.s.heap) :
  LoopAt C (.Tuple elts n pos) e [e,it] (t.zipIdx.map λx=>.tup [.int x.2,x.1]) N W λh i=>(∃old,p0 i e it h old)/\d h i:=by
 have hl:(t.zipIdx.map λx=>V.tup [.int x.2,x.1]).length=t.length:=by refine Q (ao ..)<|Q (List.length_zipIdx ..) rfl
 have mem:∀{b:bK},b∉[e,it]->b≠e/\b≠it:=λi=>⟨λz=>i<|z▸.head _,λz=>i<|z▸.tail _ (.head _)⟩
 refine tb (λu hA h hp W1 QQq p T uN lw H hD hS hq=>?_) (λu hA hp W1 QQq p lw H hD hS hq=>?_) (λu hA h s QQq p hS hq=>hS.1.elim λR he=>qc he hq) λh W1 W2 hp l1 l2 H g k hS=>?_
 .rw[hl] at uN
  obtain ⟨⟨old,he⟩,hs⟩:=hS;obtain ⟨oe,Z9⟩:=hD e (.head _);obtain ⟨oi,ahH⟩:=hD it (.tail _<|.head _);refine wpAny_toks<|wpAny_pyNext_enum_itemD (D u.in1 hA) he hs uN c hef λx h' tk hPx ho Ar hT hz hk Bp=>qp _ rfl<|wpAny_letOwnedTupleGo_enum ho λq he2 VW=>?_
  have V3:∀b o,b∉[e,it]->W1.s.heap.get? b=Y o->q.get? b=Y o:=λb o hb y=>(VW.2 b (mem hb).1).trans<|hk b o (mem hb).1 (mem hb).2 y
  have lI:W1.le ⟨W1.G.vq W1.s.heap.objs.size ⟨.type "tuple",N,.seq #[.int h tk,x] 0,#[]⟩,W1.σ,{ W1.s with heap:=q,toks:=tk+1 }⟩:=⟨Gh.wK H.sD,rl.refl _⟩;refine qt (hP h x hPx) λxv hx rx=>?_
  have off:∀{a:bK}{o:gw},Off C W1 a o->∀{I:gw},q.get? a=Y I->Off C ⟨W1.G.vq W1.s.heap.objs.size ⟨.type "tuple",N,.seq #[.int h tk,x] 0,#[]⟩,W1.σ,{ W1.s with heap:=q,toks:=tk+1 }⟩ a I:=λ{a o} i {I} e=>⟨e,(Gm.so<|cJ<|bP i.at_).trans i.I,i.F,i.σ,i.T⟩
  obtain ⟨oi',QX⟩:=((D u.in1 hA).live _ _ Ar);refine hq _ (.tup [.int h,xv]) _ (by refine Q aZ<|Q List.getElem?_zipIdx<|Q hx ?_;simp) (.tup (Gm.rO _ _ _)<|.cons (.int _ _)<|.cons (Rep.mono (lw.T.trans lI.G.T) (lw.I.trans lI.G.I) (lw.σ.trans lI.σ) rx) .nil) lI ((q7.VQ (s':={ W1.s with heap:=q,toks:=tk+1 }) H V3 hD rfl rfl Bp).freeze ((VW.2 _<|bw<|bP Z9.at_).trans hT) H.sD H.wo H.vn H.freshT) (λb hb=>?_) (λa o hb z=>off z<|V3 a o hb z.at_) ⟨⟨x,by exact_mod_cast he2⟩,(D u.in1 hA).frame _ _ _ Ar λb hb o y=>(VW.2 b λz=>hef<|J z hb).trans y⟩;rcases aE.mp hb with rfl|hb
  .exact NQ _<|off Z9 he2
  .exact Q (aM.mp hb)<|NQ _<|off ahH<|(VW.2 _<|fJ c).trans QX
 .rw[hl] at hS
  obtain ⟨⟨old,he⟩,hs⟩:=hS;refine wpAny_toks<|wpAny_pyNext_enum_endD (D u.in1 hA) he hs λh' hx Bp=>hq ⟨W1.G,W1.σ,{ W1.s with heap:=h' }⟩ ⟨Gh.le.refl _,rl.refl _⟩ (q7.VQ (W:=W1) H (λb o hb y=>hx b o (mem hb).2 y) hD rfl rfl Bp) λa o hb z=>⟨hx a o (mem hb).2 z.at_,z.I,z.F,z.σ,z.T⟩
 .obtain ⟨⟨old,he⟩,hs⟩:=hS;exact ⟨⟨old,k e (.head _) _ he⟩,hre h W1 W2 hp l1 l2 H (k it<|.tail _<|.head _) hs⟩
theorem SU {pos:dA}{l:List V}(hn:noStar a=true)(hf:TE C d B M (.Name x np) j (.con<|.type "enumerate") j)(h1:TE C d B M a j k f)(hv:OZ k=Y l) :
  tO C d B M (.Call (.Name x np) [a] [] pos) (.Tuple elts n tp) j (l.zipIdx.map λx=>.tup [.int x.2,x.1]) N f:=λA env W I ha QQq E g=>by
 refine hO<|hf A env W I ha _ _ λakR c T U3 ahm=>?_
 subst ahm;refine Q (rN<|by simp[hn])<|Q (su ..)<|ip (vP [a])<|yD (tw.cons h1 .nil) I U3 _ _ λq8 ar uV rh wU=>rF wU λQV sA=>Q QV ?_
 generalize ar.pos=p at *
 obtain ⟨c,_,rfl,S8,rn⟩:=sA.inv;refine Q rn.inv ?_;have S7:=S8.rB;have fin:∀(h':fM)(D:Around->Prop){P:Nat->aj->Prop}{Sx:Nat->fM->Prop}{fp:List bK},p0 h' (q8.s.heap.objs.size+1) q8.s.heap.objs.size 0 .none->(∀b o,q8.s.heap.get? b=Y o->h'.get? b=Y o)->Sx 0 h'->
   (∀A:Around,A.handled=N->Draws C.prog C.w A q8.s.heap.objs.size fp l.length P Sx)->q8.s.heap.objs.size+1∉fp->q8.s.heap.objs.size∈fp->(∀i k,P i k->∃x,l[i]?=Y x/\qu C q8 x k)->
   (∀i (W1 W2:Wd) hp,q8.uM W1->W1.uM W2->qP C hp W2->(∀o,W1.s.heap.get? q8.s.heap.objs.size=Y o->W2.s.heap.get? q8.s.heap.objs.size=Y o)->Sx i W1.s.heap->Sx i W2.s.heap)->
   wpAny (model C.prog C.w) A (pyIter<|.ref<|q8.s.heap.objs.size+1) QQq E { q8.s with heap:=h' }:=λh' R {P Sx fp} v hk hS hD h1 h2 hP hre=>by
  refine qc v ?_;have pe:xm C q8 ⟨q8.G,q8.σ,{ q8.s with heap:=h' }⟩:=(Pext0.ext (s':={ q8.s with heap:=h' }) hk rfl rfl).strict<|ag _
  have off:∀{b:bK}{o:gw},q8.s.heap.objs.size<=b->h'.get? b=Y o->Off C ⟨q8.G,q8.σ,{ q8.s with heap:=h' }⟩ b o:=λ{b o} hb e=>by
   have hn:q8.s.heap.get? b=N:=jP hb;refine ⟨e,none_of λo q=>?_,none_of λo q=>?_,λz=>?_,λz=>?_⟩
   .have:=rh.H.I b o q;rw[hn] at this;exact Vm.nS this
   .have:=rh.H.F b o q;rw[hn] at this;exact Vm.nS this
   .obtain ⟨i,hi,q⟩:=cH z;refine qJ (rh.H.rX i b<|J q<|aD hi) λR R xY=>?_;refine qY xY λR R R p R=>?_
    rw[hn] at p;exact Vm.nS p
   .refine uP (rh.H.tab b z) λR R R yq=>qt yq λo p R=>?_
    rw[hn] at p;exact Vm.nS p
  obtain ⟨oi,hi⟩:=(hD A I.1).live _ _ hS;refine g ⟨q8.G,q8.σ,{ q8.s with heap:=h' }⟩ _ _ (λi g=>(∃h,p0 g (q8.s.heap.objs.size+1) q8.s.heap.objs.size i h)/\Sx i g) ((T.trans uV).trans pe.le) (rh.ry pe) (λb hb=>?_) (λz=>?_) ((Rl hD (kR _) h1 h2 hP hre).up pe.le.uM) ⟨⟨_,v⟩,hS⟩
  .rcases aE.mp hb with rfl|hb
   .exact NQ _<|off (cY _) v
   .exact Q (aM.mp hb) ⟨_,off (ag _) hi⟩
  .have hL:=rh.lt;rcases aE.mp z with e|z
   .rw[e] at hL;exact absurd hL<|cU.mpr<|cY _
   .rw[aM.mp z] at hL;exact b8 _ hL
 have Wx:∀{y:ba}{t:pH}{ty:String},l=y.cps.toList.map (λc=>.str<|one c)->c=.str y t->strIterType y=ty->(∀A:Around,A.handled=N->Draws C.prog C.w A q8.s.heap.objs.size [q8.s.heap.objs.size] y.cps.size (λi k=>∃c u,y.cps[i]?=Y c/\k=.str ⟨#[c]⟩ u) (λi g=>g.IsStrIter q8.s.heap.objs.size ty y t i))->
   wpAny (model C.prog C.w) A (call (.type "enumerate") [c]) (λx Zq=>wpAny (model C.prog C.w) A (pyIter x) QQq E Zq) E q8.s:=λ{y t ty} hl hc hty hD=>by
  subst hl hc hty;refine call_enumerate_str λh' v hit R hk=>fin h' (λR=>True) (P:=λi k=>∃c u,y.cps[i]?=Y c/\k=.str ⟨#[c]⟩ u) v hk hit (Q (ao ..)<|Q (cF ..) hD) (λz=>kR _<|aM.mp z) (.head _) (λi k rR=>zB rR λc u e hv=>qp (.str<|one c) (by refine Q aZ<|Q fO<|Q e ?_;rfl)<|Q hv<|.str _ _)
   λi W1 W2 hp R R R hI j=>let ⟨o,e,r⟩:=j;(qp o (hI o e) r)
 have hv:(match rB k with|.tup l=>Y l|.str s=>Y<|s.cps.toList.map λc=>V.str<|one c|_=>N)=Y l:=hv;generalize rB k=u at hv S7
 cases u with
 |tup l'=>
  obtain rfl:=ae hv;obtain ⟨t,vs,n1,rfl,e1,r⟩:=S7.inv;have e2:=rh.H.I _ _ e1;have lt:=bP e2;refine Ht e2 λh' v hit hk=>fin h' (λR=>True) (P:=λi k=>vs.toArray[i]?=Y k) (Sx:=λi g=>g.IsTupleIter q8.s.heap.objs.size t i/\g.IsTuple t vs.toArray) (fp:=[q8.s.heap.objs.size,t]) v hk ⟨hit,⟨_,hk _ _ e2,rfl,_,rfl⟩⟩ (λA hA=>?_) (λz=>?_) (.head _) (λi k hv=>r.at<|by simpa using hv) λi W1 W2 hp l1 l2 H hI j=>⟨let ⟨o,e,r⟩:=j.1;(qp o (hI o e) r),⟨_,H.I _ _<|l2.I _ _<|l1.I _ _ e1,rfl,_,rfl⟩⟩
  .exact Q (show l'.length=vs.toArray.size from r.length)<|UK hA q8.s.heap.objs.size t (cJ lt) vs.toArray
  .rcases aE.mp z with z|z
   .exact kR _ z
   .rw[<- aM.mp z] at lt;exact absurd lt<|cU.mpr<|cY _
 |str y=>
  obtain ⟨t,rfl⟩:=S7.inv;have hl:=(ae hv).symm
  cases hc:y.cps.all (·<128)
  .exact Wx hl rfl (by delta strIterType;exact Q hc rfl) λA hA=>Draws.strWide hA _ y t
  .exact Wx hl rfl (by delta strIterType;exact Q hc rfl) λA hA=>Draws.strAscii hA _ y t
 |_=>exact nS hv
end
end Vm
end
noncomputable section
namespace PySem
section
variable {K:Type} [DecidableEq K] {c:pK prog w K}
theorem Dr {QQq:Unit->ay->Prop}(e:c.is G key=true)(T:s.heap.DictOf c d a)(hQ:∀i,i.DictOf c d (stored a G b)->ff d s.heap i->QQq () { s with heap:=i })(hsz:a.length<=j5) :
  wpAny (model prog w) A (oG d (c.hash G) key b) QQq E s:=by
 obtain ⟨H,j,o,p,q,n,t,hp,x⟩:=T;refine af<|wpAny_dictFind_of e p n t ?_
 have OM:(j.findIdx? λg=>c.is G g.key)=a.findIdx? λkv=>decide<|kv.1=G:=by refine J (hp.findIdx G) ?_;obtain ⟨f⟩:=j;simp
 cases v:j.findIdx? λg=>c.is G g.key with
 |some u=>
  refine wpAny_updateDict p n<|hQ _ (Eb _ _ o (d9 _ p<|ox<|pk n _) (q.mapDict _) (pk n _) (t.modify _ _) ?_ ?_)<|cS ..
  .rw[stored,ql<|pG<|OM▸v];have hl:(j.toList.findIdx? λg=>c.is G g.key)=Y u:=by refine J v ?_;obtain ⟨f⟩:=j;simp
   obtain ⟨f⟩:=j
   simpa using (hp.modify x hl b)
  .rw[stored,ql<|pG<|OM▸v,keys_map_store];exact x
 |none=>
  have I:¬(a.any λkv=>decide<|kv.1=G)=true:=by rw[hH];intro U;exact qt U λkv V2 k=>(oq<|J OM v:G∉a.map (·.1))<|bY.mpr ⟨kv,V2,of_decide_eq_true k⟩
  refine wpAny_updateDictKeys (hz:=J (cF)<|Q hp.length hsz) p n<|hQ _ (Eb _ _ (o+1) (d9 _ p<|ox<|nV n _) (q.mapDictKeys _) (nV n _) (t.push e _) ?_ ?_)<|cS ..
  .rw[stored,qm I];obtain ⟨f⟩:=j
   simpa using (hp.append e (c.hash G) b)
  .rw[stored,qm I,bN,i9];refine ⟨x,by simp,?_⟩;intro h L y hy;simp only[bB,jC,aM] at hy
   refine Q hy ?_;clear hy;exact λz=>(oq<|J OM v:G∉a.map (·.1))<|J z L
theorem Sm {QQq:Unit->ay->Prop}(f:d≠a)(ha:(a==fQ)=false)(T:s.heap.DictOf (fg prog w) d b)(hm:s.heap.DictOf (fg prog w) a more)(G:b.length+more.length<=j5)(hQ:∀h',h'.DictOf (fg prog w) d (merged b more)->h'.DictOf (fg prog w) a more->ff d s.heap h'->QQq () { s with heap:=h' }) :
  wpAny (model prog w) A (mergeMapping d (.ref a) false) QQq E s:=by
 obtain ⟨o,I,L,V0,hca,n,hka,y,x⟩:=id hm;obtain ⟨v,es0,ep0,z,hcd,H,u,g,hnd⟩:=id T;have hlen:more.length=I.size:=J y.length cF;have loop:wpAny (model prog w) A (do
   let size:=(← j8 a).size;let aeG←dictEpoch a
   for i in aq size do
    let Y e:=(← j8 a)[i]?|unsupported "dict.changed-during-merge"
    gq [e.key,e.val] do
     if false=true then
      if (← pd d e.key e.hash).isSome then do rule "dict.merge.duplicate-key";raiseNew (← newExc (.type "KeyError") [e.key])
     oG d e.hash e.key e.val
    if (← dictEpoch a) != aeG then o_ "dict.changed-during-merge") QQq E s:=by
  refine af<|jz V0 n<|af<|wpAny_dictEpoch V0 n<|Q (dk ..) ?_
  refine af<|wpAny_forIn_list _
   (λj W s'=>∃h' i,s'={ s with heap:=h' }/\j=dm i (I.size-i)/\i<=I.size/\h'.DictOf (fg prog w) d (merged b<|more.take i)/\h'.get? a=Y o/\ff d s.heap h')
   _ ?_ ?_ _ _ (Hy s.heap 0 rfl rfl (dZ _) (by simpa[merged] using T) V0<|ff.refl _ _)
  .intro U j q s' hI;refine Vm.gk λP kP=>?_
   obtain ⟨h',i,k,hr,hi,QZ,JI,Ar⟩:=hI;have uN:i<I.size:=(Nat.lt_or_ge i I.size).elim id λh=>by rw[jL h] at hr;exact nomatch hr
   have e:I.size-i=(I.size-(i+1))+1:=NF uN;revert hr;refine Q e<|Q (fY ..) ?_;intro hr
   have hx:U=i:=(fE hr).1;have V2:=aD<|Q hlen uN
   have yt:=y.get? (by refine Q fO ?_;exact eV uN) V2;refine qt (hka I[i]<|Array.getElem_mem uN) λp aek aem=>kP<|Q k<|Q hx<|af<|jz JI n<|Q (eV uN) ?_
   dsimp only;exact Q (qm dn)<|Q aem<|Q ((fg prog w).inj _ _ _ aek yt.1)<|Q yt.2<|af<|cT<|Dr (hsz:=aa (merged_length_le b<|more.take i)<|aa (aP (nN ..) _) G) yt.1 QZ λh'' ah7 TZ=>af<|wpAny_dictEpoch ((TZ.2 a<|fJ f).trans JI) n<|Q (qm<|by exact Q (bne_self_eq_false ..) dn)<|wpAny_pure<|Hy h'' (i+1) rfl ((fE hr).2) uN (Q (merged_take_succ b more i _ V2) ah7) ((TZ.2 a<|fJ f).trans JI)<|Ar.trans TZ
  .intro q s' hI;refine Vm.gk λP kP=>?_
   obtain ⟨h',i,k,hr,hi,QZ,JI,Ar⟩:=hI;revert QZ;refine Q (gA hi<|Nat.le_of_sub_eq_zero<|List.range'_eq_nil_iff.mp hr.symm)<|J hlen<|Q (oX ..) ?_;intro QZ
   exact kP<|J k.symm<|wpAny_pure<|hQ h' QZ (Eb o I L JI hca n hka y x) Ar
 refine af<|af<|wpAny_typeOf hm.typeIs<|iG PySem.F.sub_dict_dict<|Q (ql rfl)<|af<|iT hm.typeIs PySem.F.slot_dict_iter.lookup<|af<|wpAny_pure ?_
 have e1:((Y<|g8 "dict.__iter__")==Y (g8 "dict.__iter__"))=true:=rfl;refine Q e1 ?_;dsimp only;refine Q (qm<|by exact Q ha dn)<|af<|jz z H ?_
 split
 .refine af<|jz V0 n<|af<|J (Array.forIn_toList ..)<|wpAny_forIn_list _ (λj W s'=>s'=s/\∀e∈j,e∈I.toList) _ ?_ ?_ _ _ ⟨rfl,λW h=>h⟩
  .exact λe j q s' hI=>(hka e<|Array.mem_toList_iff.mp<|hI.2 e<|.head _).elim λp hk=>(nF hk.1).elim λt ht=>Q ht<|wpAny_pure ⟨hI.1,λU hx=>hI.2 U<|.tail _ hx⟩
  .exact λq s' hI=>J hI.1.symm loop
 .exact loop
end
def Ai (L:Model)(T:Around)(v:bK)(I:aj->ay->Prop)(d:aj->ay->Prop):List (gE aj)->ay->Prop
 |[]=>@λU=>I (.ref v) U
 |t::a=>@λU=>wpAny L T t (λs u=>wpAny L T (mergeMapping v s false) (λJ b=>Ai L T v I d a b) (λJ J=>False) u) d U
theorem WY {y:aj->ay->Prop}(c:ts≠[])(z:Ai (model H n) A U.heap.objs.size y E ts { U with heap:=U.heap.push { cls:=.type "dict",data:=.dict #[] } }) :
  wpAny (model H n) A (ma<|ts.map λv=>(N,v)) y E U:=by
 refine af<|wpAny_forIn_list _ (λj b t=>∃u,j=u.map (λv=>(N,v))/\((b=(N,[])/\u≠[]/\t=U/\u=ts)\/(b=(Y U.heap.objs.size,[])/\Ai (model H n) A U.heap.objs.size y E u t))) _ ?_ ?_ _ _<|qp ts rfl<|.inl<|tb rfl c rfl rfl
 .rintro s j b t ⟨u,h,o⟩;have go:∀(v:gE aj)(G:List<|gE aj)(f:ay),Ai (model H n) A U.heap.objs.size y E (v::G) f->∀(p:ForInStep (Option bK×List (gE aj×gE aj))->ay->Prop),(∀I,Ai (model H n) A U.heap.objs.size y E G I->p (.yield (Y U.heap.objs.size,[])) I)->
    wpAny (model H n) A (do
     let e←gq [jl U.heap.objs.size] v
     (((gq [jl U.heap.objs.size,e]<|mergeMapping U.heap.objs.size e false).onRaise λs=>do
           let _←gq [jl U.heap.objs.size,e,s] (runValue<|Code.builtin "proto.let_go" { })
           pure ()).tryCatch
         λh=>do
         let vQ←isInstance h (dh "AttributeError")
         have a:Unit->gE Unit:=λg=>throw h
         if vQ=true then do
           rule "dict.display.not-a-mapping"
           let vQ←typeNameOf e
           let g ←
            raiseErrorMade "TypeError"
              (toString "'"++toString vQ++toString "' object is not a mapping")
           a g
          else a ()).onRaise
       λs=>do
       let _←gq [jl U.heap.objs.size,s] (runValue<|Code.builtin "proto.let_go" { })
       pure ()
     pure (ForInStep.yield (Y U.heap.objs.size,[]))) p E f:=by
   intro v G f L p hR;exact af<|cT<|wpAny_mono L (λe I d=>af<|wpAny_onRaise<|wpAny_tryCatch<|wpAny_onRaise<|cT<|wpAny_mono d (λJ T i=>wpAny_pure<|hR T i) λJ J h=>h.elim) λJ J h=>h
  cases u with
  |nil=>cases h|cons v G=>
   rw[bB] at h
   injection h with k q
   subst k q;rcases o with ⟨rfl,_,rfl,rfl⟩|⟨rfl,o⟩
   .exact af<|wpAny_pure<|af<|j4<|go v G _ z _ λI d=>qp G rfl<|.inr ⟨rfl,d⟩
   .exact af<|wpAny_pure<|af<|wpAny_pure<|go v G _ o _ λI d=>qp G rfl<|.inr ⟨rfl,d⟩
 .rintro b t ⟨u,h,o⟩
  cases u with
  |cons v G=>cases h|nil=>
   rcases o with ⟨_,w,_⟩|⟨rfl,o⟩
   .exact absurd rfl w
   .exact af<|wpAny_pure<|wpAny_pure o
end PySem
end
noncomputable section
namespace Vm
section
variable {i g f j:St}
theorem Ic {α v:Type}:∀a:List<|α×v,(a.map (·.1)).zip (a.map (·.2))=a
 |[]=>rfl|(G,p)::a=>by refine Q (bB ..)<|Q (bB ..)<|ax cB<|Q (Ic a) rfl
theorem IJ {K:Type} [DecidableEq K] {a:List<|K×aj}{G:K}{s:aj}(x:(a.map (·.1)).Nodup):((eZ a G s).map (·.1)).Nodup:=by
 delta eZ
 split
 .have:(a.map λb=>if b.1=G then (b.1,s) else b).map (·.1)=a.map (·.1):=by
   refine ax bk<|dB λb J=>(?_:(if b.1=G then (b.1,s) else b).1=b.1)
   split<;>rfl
  exact Q this x
 .rename_i I;rw[bN,i9];refine ⟨x,by simp,λc e h H=>?_⟩;simp only[bB,jC,aM] at H
  refine Q H ?_;clear H;rintro rfl;exact qt (bY.mp e) λb p d=>I<|hH.mpr<|qp b p<|decide_eq_true d
theorem Lf {b:List V×List V}(e:wk ks vs (k::u5) (L::vs')=Y b):∃a,tQ ks vs k L=Y a/\wk a.1 a.2 u5 vs'=Y b:=by
 have c:∀a:Option<|List V×List V,(match a with|Y (G,d)=>wk G d u5 vs'|N=>N)=Y b->∃H,a=Y H/\wk H.1 H.2 u5 vs'=Y b:=by
  intro a e
  cases a with
  |none=>exact nS e|some H=>exact qp H rfl e
 exact c _ e
theorem GK {K:Type}[DecidableEq K](o:Kd prog w K){U:cD}:∀{more kvs:List<|K×aj}{u G d L:List V},(kvs.map (·.1)).Nodup->qI U T I σ u (kvs.map (·.2))->qI U T I σ G (more.map (·.2))->
  wk ((kvs.map (·.1)).map o.inj) u ((more.map (·.1)).map o.inj) G=Y (d,L)->d=((pV kvs more).map (·.1)).map o.inj/\qI U T I σ L ((pV kvs more).map (·.2))
 |[],kvs,u,J,d,L,x,r,e,h=>by
  rw[DC e] at h
  obtain ⟨p,n⟩:=b0 (ae h);exact ⟨p.symm,n▸r⟩
 |kc::more,kvs,u,_,d,L,x,r,e,h=>by
  refine qY (Gv e) λk a z b e=>?_
  rw[z] at h
  refine qt (Lf h) λt H h=>?_;obtain ⟨q,v⟩:=t
  refine rF (BI o b x (by simp) r H) λc s=>?_
  rw[Ic] at c s
  rw[c] at h
  exact GK o (kvs:=eZ kvs kc.1 kc.2) (IJ x) s e h
theorem Hp {n:List V}{b:List V×List V}(e:mergeAll ks vs (k::n)=Y b) :
  ∃u G a,k=.rt u G/\(u.all uX=true/\ks.length+u.length<=65536)/\wk ks vs u G=Y a/\mergeAll a.1 a.2 n=Y b:=by
 cases k with
 |rt u G=>
  have c:∀a:Option<|List V×List V,(match a with|Y (d,I)=>mergeAll d I n|N=>N)=Y b->∃H,a=Y H/\mergeAll H.1 H.2 n=Y b:=by
   intro a e
   cases a with
   |none=>exact nS e|some H=>exact qp H rfl e
  exact qX (e:(if u.all uX=true/\ks.length+u.length<=65536 then (match wk ks vs u G with|Y (d,I)=>mergeAll d I n|N=>N) else N)=Y b) λt e=>(c _ e).elim λa o=>Ec u G a rfl t o
 |_=>exact nS e
theorem SJ (a:List ba):(a.map V.str).all uX=true:=ax jE<|dy.mpr λJ J=>rfl
theorem PX {L:kK}(c:v≠L.locals){QQq:ay->Prop}{u:List V}(rh:At C B M L i a)(wz:Off C a v ob)(I:rA C.w.params a.G.T a.G.I a.σ ob<|.dict ks vs)(sA:qu C a (.rt u vv) s)(hk:ks.all uX=true)(t:u.all uX=true/\ks.length+u.length<=65536)(em:wk ks vs u vv=Y p)(d:∀h' An,a.le ⟨a.G,a.σ,{ a.s with heap:=h' }⟩->At C B M L i ⟨a.G,a.σ,{ a.s with heap:=h' }⟩->Off C ⟨a.G,a.σ,{ a.s with heap:=h' }⟩ v An->rA C.w.params a.G.T a.G.I a.σ An (.dict p.1 p.2)->p.1.all uX=true->QQq { a.s with heap:=h' }) :
  wpAny (model C.prog C.w) A (mergeMapping v s false) (λW=>QQq) (λW W=>False) a.s:=by
 refine gk λP k=>?_
 obtain ⟨xs,ex⟩:=strs_of_all hk;obtain ⟨ys,ey⟩:=strs_of_all t.1;rw[ex] at I em
 rw[ey] at sA em
 obtain ⟨q,C',n,H,ei,kap,en⟩:=sA.inv;obtain ⟨akG,h,eo,kd,end_⟩:=I.inv;obtain ⟨cv,b⟩:=zp (vx C.prog C.w) ⟨_,J eo wz.at_⟩ kd end_;obtain ⟨cv2,w⟩:=zp (vx C.prog C.w) ⟨_,rh.H.I _ _ ei⟩ kap en;have z1:=d_<|aN b.len
 have hsz:(xs.zip cv).length+(ys.zip cv2).length<=j5:=by
  have:=t.2;rw[ex,ey,ao,ao] at this
  exact Q (iq ..)<|Q (iq ..)<|J (b.len ..)<|J (w.len ..)<|Q (iK ..)<|Q (iK ..)<|aa this<|by decide
 obtain ⟨q1,q2⟩:=GK (vx C.prog C.w) (more:=ys.zip cv2) (J z1.symm<|kd.nodup<|vx C.prog C.w) ((g_<|aN b.len.symm).symm▸b.rep) ((g_<|aN w.len.symm).symm▸w.rep) (Q z1<|Q (d_<|aN w.len) em);refine k<|Q H<|PySem.Sm (λz=>nS<|wz.I.symm.trans<|(qn a.G.I z).trans ei) (beq_eq_false_iff_ne.mpr λz=>nS<|(rh.H.tab _ C.sys).1.symm.trans<|(qn a.G.I z).symm.trans ei) b.dict w.dict hsz λh' hd W hs=>qY (zo (vx C.prog C.w) hd q2) λx T e1 e2 G=>?_
 rw[<- q1] at e2 G
 have JJ:∀b' o,b'≠v->a.s.heap.get? b'=Y o->h'.get? b'=Y o:=λb' o z e=>(hs.2 b' z).trans e
 exact d h' _ ⟨Gh.le.refl _,rl.refl _⟩ ⟨rh.ok,rh.H.keep _ JJ wz.I wz.F wz.σ wz.T rfl rfl<|ag _,⟨by
  refine qt rh.L.ns λm U y=>?_
  obtain ⟨o,es,ep,z,rest⟩:=U;exact qp m (wR o es ep (JJ _ _ c.symm z) rest) y,rh.L.I,rh.L.F,rh.L.σ,rh.L.T⟩⟩ ⟨e1,wz.I,wz.F,wz.σ,wz.T⟩ (.dict e2 G)<|Q q1<|SJ _
theorem Ly {p:kK}(L:rk d A)(c:a≠p.locals){QQq:aj->ay->Prop}{w:aj->ay->Prop}:∀{U:List a7}{ls:List V}{i g:St}{W:Wd}{ob:gw}{u G u5 vs':List V}{pos:dA},tw C d B M U i ls g->At C B M p i W->Off C W a ob->
  rA C.w.params W.G.T W.G.I W.σ ob (.dict u G)->u.all uX=true->mergeAll u G ls=Y (u5,vs')->
  (∀W' An,W.le W'->At C B M p g W'->Off C W' a An->rA C.w.params W'.G.T W'.G.I W'.σ An (.dict u5 vs')->QQq (.ref a) W'.s)->
  PySem.Ai (model C.prog C.w) A a QQq w ((evalEach U p).map λv=>do let x←v;er pos;pure x) W.s
 |[],P,i,g,W,ob,u,G,u5,vs',pos,t,ha,z,r,hk,hm,hQ=>by
  refine rF t.BQ λn e2=>?_
  rw[n] at hm
  exact rF (b0<|ae hm) λH e4=>hQ W ob (Wd.le.refl _) (J e2 ha) z<|J H<|J e4 r
 |e::U,_,i,_,W,ob,u,G,u5,vs',pos,t,ha,z,r,hk,hm,hQ=>by
  refine Eg t.Ms λv ls st1 k h1 s=>?_
  rw[k] at hm
  exact Ef (Hp hm) λkk vv b k hh em hm=>af<|zP (R:=λT I q h=>Rep C.w.params T I q v h) z (h1 A p _ L<|ha.hold z c) _ _ λq8 h uV y sA wz=>af<|wpAny_standAt<|wpAny_pure<|PX c y wz (r.mono uV.G.T uV.G.I uV.σ) (J k sA) hk hh em λh' An l a o r u=>Ly L c s a o r u hm λW' An l2 a o r=>hQ W' An ((uV.trans l).trans l2) a o r
theorem C2 {e:dA}:∀{a:List<|Option a7}{n:List a7},a.all (·.isNone)=true->a.length=n.length->
  (evalEachOpt a h).zip ((evalEach n h).map λv=>do let x←v;er e;pure x)=((evalEach n h).map λv=>do let x←v;er e;pure x).map λo=>(N,o)
 |[],[]=>@λJ J=>rfl
 |k::a,L::n=>@λp q=>by
  rw[fm,aA] at p
  cases k with
  |some J=>cases p.1|none=>exact qn (mD _)<|C2 p.2<|cC q
 |[],_::_=>@λJ q=>by cases q
 |_::_,[]=>@λJ q=>by cases q
theorem TF.star {h:List<|Option a7}{k:List a7}{e:dA}(p:h.all (·.isNone)=true)(q:h.length=k.length)(c:k≠[])(t:tw C d B M k i ls f)(n:mergeAll [] [] ls=Y (ks,vs)) :
  TF C d B M (.Dict h k e) i (.dict ks vs) f:=λU u v L G H w x=>by
 refine Q (PySem.arm_eval_Dict ..)<|Q (C2 p q)<|af<|wpAny_standAt<|PySem.WY ?_ ?_
 .intro z
  cases k with
  |nil=>exact c rfl|cons b k=>exact nomatch z
 .skip
  exact Ly L (bw G.lt) t (G.ry<|(Pext0.push _ _).strict<|ag _) (Am G.H rfl) (.dict .nil .nil) rfl n λa o T s A I=>x a _ (((Pext0.push _ _).strict<|ag _).le.trans T) s<|uu _ o rfl (bw G.lt) A I
end
theorem Bb (f:ba×NameKind->List (ba×bK)->gE (ForInStep<|List<|ba×bK))(hf:∀n k c,f (n,k) c=(if (k==.free)=true then do let a←cellOf env n;pure (.yield<|(n,a)::c) else pure (.yield c))) :
  ∀(names:List<|ba×NameKind)(acc:List<|ba×bK),(∀x∈names,x.2=.free->∃a,env.cells.lookup x.1=Y a)->(∀x a,acc.lookup x=Y a->env.cells.lookup x=Y a)->
   ∃cl,forIn names acc f=pure cl/\(∀x a,cl.lookup x=Y a->env.cells.lookup x=Y a)/\(∀x,(∃a,acc.lookup x=Y a)\/(x,.free)∈names->∃a,cl.lookup x=Y a)
 |[]=>@λacc J ha=>ru acc rfl ha λx h=>h.elim id λq=>nomatch q
 |(n,k)::names=>@λacc h ha=>by
  refine Q (gy ..)<|Q (hf ..) ?_
  by_cases hk:(k==NameKind.free)=true
  .refine rM (h (n,k) (.head _)<|by simpa using hk) λa e=>?_
   obtain ⟨cl,c1,c2,c3⟩:=Bb f hf names ((n,a)::acc) (λx hx=>h x<|.tail _ hx) (λx b e'=>by
    rw[bM] at e'
    split at e'
    .rename_i q;(refine Vm.sI e' ?_;clear e';rintro rfl);exact Q (eq_of_beq q) e
    .exact ha x b e')
   refine ru cl ?_ c2 λx hx=>c3 x ?_
   .exact Q (ql hk)<|Q (by delta cellOf;refine Q e rfl:cellOf env n=pure a) c1
   .rcases hx with ⟨b,hb⟩|hx
    .refine .inl<|Q (bM ..) ?_
     split
     .exact ⟨a,rfl⟩
     .exact ⟨b,hb⟩
    .rcases aE.mp hx with q|q
     .cases q
      exact .inl ⟨a,by refine Q (bM ..)<|Q (beq_self_eq_true ..) rfl⟩
     .exact .inr q
  .refine rT (Bb f hf names acc (λx hx=>h x<|.tail _ hx) ha) λcl c1 c2 c3=>ru cl ?_ c2 λx hx=>c3 x ?_
   .exact Q (qm hk) c1
   .rcases hx with hx|hx
    .exact .inl hx
    .rcases aE.mp hx with q|q
     .cases q;exact absurd rfl hk
     .exact .inr q
theorem Bt {f:kK}{v:eT}(b:∀c∈v.names,c.2=.free->∃w,f.cells.lookup c.1=Y w) :
  ∃a,closureFor v f=pure a/\(∀c w,a.lookup c=Y w->f.cells.lookup c=Y w)/\(∀c,(c,.free)∈v.names->∃w,a.lookup c=Y w):=by
 obtain ⟨a,i,d,g⟩:=Bb (λc j=>match c with
  |(p,h)=>do
   if (h==.free)=true then do
    let w←cellOf f p
    pure (.yield<|(p,w)::j)
   else pure (.yield j)) (λJ J J=>rfl) v.names [] b (λJ J e=>nomatch e)
 exact ru a ((qn (·>>=pure) i).trans rfl) d λc k=>g c<|.inr k
noncomputable def ownOf (a:List<|ba×NameKind):List ba:=(a.filter λb=>b.2==.cell).map (·.1)
theorem EH:ownOf ((n,k)::names)=if (k==.cell)=true then n::ownOf names else ownOf names:=by
 delta ownOf;refine Q (dK ..) ?_
 by_cases e:(k==NameKind.cell)=true
 .exact Q (ql e)<|Q (ql e) rfl
 .refine Q (qm e)<|Q (qm e) rfl
structure afd (C:Ctx) (W:Wd) (hp:List O) (names:List<|ba×NameKind) (acc:List<|ba×bK) (as:List bK):Prop where
 len:as.length=(ownOf names).length
 H:qP C (hp++aw (ownOf names).length (.cell none)) ⟨W.G,W.σ++as,{ W.s with heap:=pushCells W.s.heap names }⟩
 own:(ownOf names).Nodup->∀(k:Nat)(x:ba),(ownOf names)[k]?=some x->∃a,as[k]?=some a/\(ix W.s.heap.objs.size names acc).lookup x=some a
 rest:∀x,x∉ownOf names->(ix W.s.heap.objs.size names acc).lookup x=acc.lookup x
 hk:∀b o,W.s.heap.get? b=some o->(pushCells W.s.heap names).get? b=some o
 new:∀a∈as,W.s.heap.get? a=none
theorem HP:∀(a:List<|ba×NameKind)(f:List<|ba×bK)(s:Wd)(j:List O),qP C j s->∃u,afd C s j a f u
 |[]=>@λf s j T=>⟨[],rfl,by simpa[ownOf,pushCells] using T,λJ c p e=>(nomatch (by simpa[ownOf] using e:False)),λJ J=>rfl,λJ J i=>i,λJ e=>nomatch e⟩
 |(o,c)::a=>@λf s j T=>by
  by_cases n:(c==NameKind.cell)=true
  .skip
   have U:qP C (j++[.cell N]) ⟨s.G,s.σ++[s.s.heap.objs.size],{ s.s with heap:=s.s.heap.push { cls:=.type "cell",data:=.cell N } }⟩:=q7.AN (T.push _<|ag _) (bb _ rfl) T.sD T.wo T.vn T.freshT .aeU
   obtain ⟨u,h⟩:=HP a ((o,s.s.heap.objs.size)::f) _ _ U;have z:ownOf ((o,c)::a)=o::ownOf a:=by refine Q (EH ..)<|Q (ql n) rfl
   have H:pushCells s.s.heap ((o,c)::a)=pushCells (s.s.heap.push { cls:=.type "cell",data:=.cell N }) a:=by rw[pushCells,ql n]
   have q:ix s.s.heap.objs.size ((o,c)::a) f=ix (s.s.heap.objs.size+1) a ((o,s.s.heap.objs.size)::f):=by rw[ix,ql n]
   have b:=h.own;have d:=h.rest;rw[lL ..] at b d
   refine ⟨s.s.heap.objs.size::u,by refine Q z ?_;simp[h.len],?_,?_,?_,?_,?_⟩
   .skip
    refine Q z<|Q H ?_
    simpa[eD,a8] using h.H
   .refine Q z<|Q q ?_
    intro x t p k;obtain ⟨G,w⟩:=bI.mp x
    cases t with
    |zero=>
     cases (ae k:o=p)
     exact qp _ rfl<|by refine Q (d _ G)<|Q (bM ..)<|Q (beq_self_eq_true ..) rfl
    |succ t=>
     exact qt (b w t p<|by simpa using k) λI L g=>qp I (by simpa using L) g
   .refine Q z<|Q q ?_
    intro p k;rw[aE,not_or] at k
    refine Q (d p k.2)<|Q (bM ..) ?_
    have:(p==o)=false:=beq_eq_false_iff_ne.mpr k.1;refine Q this rfl
   .exact Q H λv y i=>h.hk v y<|aY _ i
   .intro I ha;rcases aE.mp ha with rfl|ha
    .cases A:s.s.heap.get? s.s.heap.objs.size with
     |none=>rfl|some y=>exact absurd (bP A)<|b8 _
    .cases A:s.s.heap.get? I with
     |none=>rfl|some y=>
      have:=h.new I ha;rw[aY { cls:=.type "cell",data:=.cell N } A] at this;exact Vm.sN this
  .obtain ⟨u,h⟩:=HP a f s j T;have z:ownOf ((o,c)::a)=ownOf a:=by refine Q (EH ..)<|Q (qm n) rfl
   have H:pushCells s.s.heap ((o,c)::a)=pushCells s.s.heap a:=by rw[pushCells,qm n]
   have q:ix s.s.heap.objs.size ((o,c)::a) f=ix s.s.heap.objs.size a f:=by rw[ix,qm n]
   exact ⟨u,Q z h.len,Q z<|Q H h.H,Q z<|Q q h.own,Q z<|Q q h.rest,Q H h.hk,h.new⟩
section
variable {W:Wd}{d:List O}
theorem yV {v:eT}:∀{a:List<|ba×NameKind},(a.map λ(j,h)=>if (h==.free&&v.kind==.function&&v.names.lookup j==Y .cell) then (j,NameKind.cell) else (j,h)).lookup x=Y h->
  ∃y,a.lookup x=Y y/\(x,y)∈a/\(h=y\/(y=.free/\h=.cell))
 |[]=>@λe=>nomatch e
 |(j,k1)::a=>@λe=>by
  rw[bB] at e
  dsimp only at e
  by_cases i:(x==j)=true
  .have n:=eq_of_beq i;subst n;refine ru k1 (by refine ax bM<|Q (beq_self_eq_true ..) rfl) (.head _) ?_
   split at e
   .rename_i U;rw[bM,beq_self_eq_true] at e
    (refine Vm.sI e ?_;clear e;rintro rfl)
    rw[aA,aA] at U
    exact .inr ⟨eq_of_beq U.1.1,rfl⟩
   .rw[bM,beq_self_eq_true] at e
    (refine Vm.sI e ?_;clear e;rintro rfl)
    exact .inl rfl
  .skip
   have z:(a.map λ(j,h)=>if (h==.free&&v.kind==.function&&v.names.lookup j==Y .cell) then (j,NameKind.cell) else (j,h)).lookup x=Y h:=by split at e<;>(rw[bM,(by simpa using i:(x==j)=false)] at e;exact e)
   exact rT (yV z) λy H b o=>ru y (ax bM<|Q (by simpa using i:(x==j)=false) H) (.tail _ b) o
theorem Ob (a:vg B M W.σ env):mI sc env=Oc sc B.scope:=by delta mI Oc ft;refine Q a.scope rfl
structure yk (B:K) (sc:eT):Prop where
 fn:sc.kind=.function
 free:∀x,(x,.free)∈sc.names->B.scope.names.lookup x=some .cell\/B.scope.names.lookup x=some .free
 has:∀x,(x,.free)∈sc.names->x∈B.cells
 own:∀x∈q_ sc,x∉B.cells
 nd:(sc.names.map (·.1)).Nodup
theorem OY {cl:List<|ba×bK}{as:List bK}(ho:vg B M W.σ env)(hn:W.σ.length=d.length)(hc:yk B sc)(h1:∀x a,cl.lookup x=Y a->env.cells.lookup x=Y a)(h2:∀x,(x,.free)∈sc.names->∃a,cl.lookup x=Y a){cells:List<|ba×bK}(own:∀(k:Nat)(x:ba),(ownOf sc.names)[k]?=Y x->∃a,as[k]?=Y a/\cells.lookup x=Y a)(rest:∀x,x∉ownOf sc.names->cells.lookup x=cl.lookup x) :
  vg (B.comp sc) ((aq (q_ sc).length).map (d.length+·)++M) (W.σ++as) { (newEnv sc L env.globals cells env.qual N .none (Y env) eX) with scope:=mI sc env } where
 scope:=Ob ho
 fn:=hc.fn
 nd:=(iF _ iA).nodup hc.nd
 globals:=ho.globals
 builtins:=ho.builtins
 qual:=ho.qual
 code:=ho.code
 cell k x hk hl:=by
  have hk:(q_ sc++B.cells)[k]?=Y x:=hk;refine (?_:∃i a,_/\_/\cells.lookup x=Y a)
  by_cases q:k<(q_ sc).length
  .rw[bC q] at hk
   refine qt (own k x hk) λa e1 e2=>ta (d.length+k) a ?_ ?_ e2
   .refine Q (bC<|by simpa using q) ?_;simp[q]
   .refine Q (eK<|D_ hn)<|Q hn<|Q (bc ..) ?_;exact e1
  .rw[eK<|hV q] at hk
   have EZ:x∉ownOf sc.names:=λz=>hc.own x z (bG hk)
   obtain ⟨k0,f1,f2,f3⟩:∃k0,sc.names.lookup x=Y k0/\(x,k0)∈sc.names/\k0=.free:=by
    rcases hl with hl|hl
    .refine rT (yV hl) λk0 a b c=>?_
     rcases c with c|⟨c,_⟩
     .subst c;exact absurd (bY.mpr ⟨(x,.cell),dr.mpr ⟨b,rfl⟩,rfl⟩) EZ
     .exact ru k0 a b c
    .refine rT (yV hl) λk0 a b c=>?_
     rcases c with c|⟨c,z⟩
     .exact ru k0 a b c.symm
     .cases z
   subst f3;obtain ⟨a,e⟩:=h2 x f2;refine qY (ho.cell (k-(q_ sc).length) x hk<|hc.free x f2) λi a' g1 g2 g3=>?_
   rw[h1 x a e] at g3;(refine Vm.sI g3 ?_;clear g3;rintro rfl)
   refine ta i a ?_ ?_<|Q (rest x EZ) e
   .refine Q (eK<|by simpa using q) ?_
    simpa using g1
   .refine Q (bC (aO.mp g2).1) ?_;exact g2
end
section
variable {d k g j:St}
theorem rl.EE (σ f):rl σ<|σ++f:=λc v e=>by refine ax (bC (aO.mp e).1) ?_;exact e
theorem O5 (H:At C B M env d W)(hc:yk B v){cl:List<|ba×bK}(h1:∀t w,cl.lookup t=Y w->env.cells.lookup t=Y w)(e:∀t,(t,.free)∈v.names->∃w,cl.lookup t=Y w){QQq:kK->ay->Prop}{x:aj->ay->Prop}(hQ:∀z T,W.le T->(∀b o,W.s.heap.get? b=Y o->T.s.heap.get? b=Y o)->T.G=W.G->z.locals=W.s.heap.objs.size->(∀w,w∈T.σ->w∈W.σ\/W.s.heap.get? w=N)->
   At C B M env ⟨d.loc,d.hp++aw (q_ v).length (.cell N)⟩ T->
   At C (B.comp v) ((aq (q_ v).length).map (d.hp.length+·)++M) { z with scope:=mI v env } ⟨aw (B.comp v).slots.length N,d.hp++aw (q_ v).length (.cell N)⟩ T->QQq z T.s) :
  wpAny (model C.prog C.w) A (jk v env.globals cl [] env.qual N .none<|Y env) QQq x W.s:=by
 simp only[jk,Option.isSome_some,if_true];refine af<|j4<|af<|wpAny_layCells _ (λI U y=>by cases hkc:U==NameKind.cell<;>rfl) _ _ _ _ ?_
 have p:=tZ (W:=W) { cls:=.type "dict",data:=.dict #[] };refine rM (HP v.names cl _ _ (H.ry p).H) λu L=>af<|wpAny_pure<|wpAny_pure<|hQ _ ⟨W.G,W.σ++u,{ W.s with heap:=pushCells (W.s.heap.push { cls:=.type "dict",data:=.dict #[] }) v.names }⟩ ⟨Gh.le.refl _,rl.EE _ _⟩ (λb o n=>L.hk b o<|aY _ n) rfl rfl ?_ ?_ ?_
 .intro w h;rcases bO.mp h with h|h
  .exact .inl h
  .refine .inr ?_
   cases q:W.s.heap.get? w with
   |none=>rfl|some o=>
    have:=L.new w h;rw[aY { cls:=.type "dict",data:=.dict #[] } q] at this;exact Vm.sN this
 .refine ⟨H.ok.mono<|rl.EE _ _,L.H,⟨?_,H.L.I,H.L.F,?_,H.L.T⟩⟩
  .exact qt H.L.ns λa t G=>qp a (t.keeps λb o n=>L.hk b o<|aY _ n) λi t s n f=>qt (G i t s n f) λc p q=>qp c p<|qu.mono q ⟨Gh.le.refl _,rl.EE _ _⟩
  .intro h;rcases bO.mp h with h|h
   .exact H.L.σ h
   .have:=L.new _ h;refine qt H.L.ns λa rR J=>?_;obtain ⟨o,es,ep,n,_⟩:=rR
    rw[aY { cls:=.type "dict",data:=.dict #[] } n] at this;exact Vm.sN this
 .skip
  refine ⟨OY H.ok H.H.len hc h1 e (L.own<|(iF _ iA).nodup hc.nd) L.rest,L.H,⟨qp (λJ=>N) ((pP W.s.heap<|.type "dict").keeps<|pushCells_keeps _ _) λi t s n f=>?_,H.H.sD,H.H.wo,?_,H.H.freshT⟩⟩
  .skip
   revert f;refine Q jo ?_;intro f
   split at f<;>cases f
  .intro h;have h:W.s.heap.objs.size∈W.σ++u:=h;rcases bO.mp h with h|h
   .exact H.H.vn h
   .have:=L.new _ h;replace this:=(show W.s.heap.objs.size=W.s.heap.objs.size from rfl)▸this;rw[bb _ rfl] at this;exact Vm.sN this
end
end Vm
end
noncomputable section
namespace PySem
noncomputable def xw (L:a7)(a:List Comprehension)(v:eT)(e:dA)(c:Nat)(s b:aj)(f:kK):gE Fin:=
 match a[c+1]? with
 |Y d=>do
  let h←eval d.iter f
  er d.iter.pos
  if (d.is_async != 0)=true then do
   let h←foldedIterable d.iter h
   let vQ←gq [h] (if (d.is_async != 0)=true then asyncIter h else pyIter h)
   let _←runOwn (Code.compStart (L.ListComp a v e) (c+1) vQ b f) f
   qh (Code.compLoop (L.ListComp a v e) c s b f)
  else do
   let h←qf d.iter f h
   let vQ←gq [h] (if (d.is_async != 0)=true then asyncIter h else pyIter h)
   let _←runOwn (Code.compStart (L.ListComp a v e) (c+1) vQ b f) f
   qh (Code.compLoop (L.ListComp a v e) c s b f)
 |N=>(eval L f>>=λh=>call (g8 "list.append") [b,h]>>=λJ=>pure ():gE Unit)>>=λJ=>
  qh<|Code.compLoop (L.ListComp a v e) c s b f
theorem K3 {e:a7}{f:List Comprehension}{g:dA}(j:f[depth]?=Y ⟨target,e,ifs,0⟩) :
  compTurn (.ListComp elt f scope g) depth it acc i=(er e.pos>>=λJ=>pyNext it>>=λy=>match y with
   |N=>pure<|.done .next
   |Y h=>do
    letOwnedTupleGo target it h
    assign target i h
    let ok←forIn ifs true λL y=>if y=true then do let ok←j6 L i (eval L i);pure (ForInStep.yield ok) else pure (ForInStep.yield y)
    if ok=true then xw elt f scope g depth it acc i
    else qh (.compLoop (.ListComp elt f scope g) depth it acc i)):=by
 delta compTurn xw;dsimp only;refine Q j ?_;dsimp only;refine Q (qm<|by decide)<|Q (qm<|by decide)<|qn (er e.pos>>=·)<|funext λJ=>qn (pyNext it>>=·)<|funext λy=>?_
 cases y with
 |none=>rfl|some h=>cases f[depth+1]?<;>rfl
theorem K4 {e:a7}{f:List Comprehension}{i:dA}(k:f[c]?=Y ⟨a,e,ifs,0⟩)(d:Nat->ay->Prop)(g:∀t U,d t U->wpAny (model G n) A (pyNext s) (λy w=>match y with
   |N=>R (.ok .next) w|Y v=>wpAny (model G n) A (letOwnedTupleGo a s v) (λJ w=>wpAny (model G n) A (assign a j v) (λJ o=>
     wpAny (model G n) A (forIn ifs true λq y=>if y=true then do let z←j6 q j (eval q j);pure (ForInStep.yield z) else pure (ForInStep.yield y)) (λz H=>
      if z=true then wpAny (model G n) A (xw L f scope i c s b j) (λx I=>x=.again (.compLoop (.ListComp L f scope i) c s b j)/\∃T,T<t/\d T I) (mJ (model G n) A j λu s'=>R (.error u) s') H
      else ∃T,T<t/\d T H) (mJ (model G n) A j λu s'=>R (.error u) s') o) (mJ (model G n) A j λu s'=>R (.error u) s') w) (mJ (model G n) A j λu s'=>R (.error u) s') w) (mJ (model G n) A j λu s'=>R (.error u) s') U)(t)(h:d t U) :
  jA (model G n) A (.compLoop (.ListComp L f scope i) c s b j) R U:=by
 refine codeAny_loop rfl d (λt U p=>wpAny_noted<|Q (K3 k)<|af<|wpAny_standAt<|af<|wpAny_mono (g t U p) (λy w FX=>?_) λJ J h'=>h') t h
 cases y with
 |none=>exact wpAny_pure FX|some v=>
  refine af<|wpAny_mono FX (λJ w FX=>af<|wpAny_mono FX (λJ o ahU=>af<|wpAny_mono ahU (λz H aaR=>?_) λJ J h'=>h') λJ J h'=>h') λJ J h'=>h'
  cases z with
  |false=>exact wpAny_pure ⟨rfl,aaR⟩|true=>exact wpAny_mono aaR (λx I TY=>by obtain ⟨rfl,TY⟩:=TY;exact ⟨rfl,TY⟩) λJ J h'=>h'
end PySem
end
noncomputable section
namespace Vm
section
variable {f c g j:St}
theorem SR {i:List V}(T:rk d A)(e:tO C d B M L tE f i gd c)(G:At C B M h f W)(QQq:aj->ay->Prop)(k:aj->ay->Prop)(n:∀a v p t,R9 C [h.locals] W a->At C B M h c a->vS C a p->h.locals∉p->(∀q o,q≠h.locals->Off C W q o->q∉p)->LoopAt C tE v p i gd a t->t 0 a.s.heap->QQq (.ref v) a.s) :
  wpAny (model C.prog C.w) A (eval L h) (λs U=>wpAny (model C.prog C.w) A (pyIter s) QQq k U) k W.s:=by
 refine e A h (W.wm C [h.locals]) T (G.ex<|.head _) QQq k λa v p t i q u H I b=>n (a.tL W.G.F) v p t (G.xx i q).1 (G.xx i q).2.1 (λw x=>(u w x).imp λo z=>(G.xx i q).2.2 w o z) H (λw o x z y=>?_) (I.up ⟨Gm.le.refl _,Tm.le.refl _,rl.refl _⟩) b
 obtain ⟨o',h'⟩:=u w y;have L:a.G.F w=Y o:=Q (show a.G.F=W.zN C [h.locals] from i.G.F)<|Jh (λy=>x<|aM.mp y) z
 rw[h'.F] at L;exact Vm.nS L
theorem Off.ex (z:Off C W a o)(b:a∈L)(T:qP C hp W):Off C (W.wm C L) a o:=⟨z.at_,z.I,none_of λp e=>by have:=(vV T e).2 b;rw[z.F] at this;exact Vm.nS this,z.σ,z.T⟩
theorem Zd (z:Off C W a ob)(T:(W.hold a ob).le W')(G:At C B M env f W'):W.le (W'.tL W.G.F)/\At C B M env f (W'.tL W.G.F)/\Off C (W'.tL W.G.F) a ob:=by
 have e:W'.G.F=W.G.F.put a ob:=T.G.F;have b:∀q o,W.G.F q=Y o->W'.G.F q=Y o:=λq o i=>by
  refine Q e ?_
  by_cases n:q=a
  .subst n;rw[z.F] at i;exact Vm.nS i
  .exact Q (Gm.so n) i
 have A:W'.G.F a=Y ob:=by refine Q e<|Q (Gm.rO ..) rfl
 refine ⟨⟨⟨T.G.I,rfl,T.G.T⟩,T.σ⟩,⟨G.ok,G.H.HN b,⟨G.L.ns,G.L.I,(by
   show W.G.F env.locals=N
   cases n:W.G.F env.locals with
   |none=>rfl|some o=>have:=b _ _ n;rw[G.L.F] at this;exact Vm.nS this),G.L.σ,G.L.T⟩⟩,⟨G.H.F _ _ A,?_,z.F,?_,z.T⟩⟩
 .cases n:W'.G.I a with
  |none=>exact n|some o=>have:=G.H.IF a<|Q n λk=>Vm.sN k;rw[A] at this;exact Vm.sN this
 .intro k;obtain ⟨d,H,i⟩:=cH k;refine qJ (G.H.rX d a<|J i<|aD H) λV n V=>?_
  rw[A] at n;exact Vm.sN n
theorem NX (z:Off C W a ob)(T:(W.hold a ob).le W')(G:Off C W' b Ji):b≠a/\Off C (W'.tL W.G.F) b Ji:=by
 have e:W'.G.F=W.G.F.put a ob:=T.G.F;have d:b≠a:=by rintro rfl;have:=G.F;rw[e,Gm.rO] at this;exact Vm.sN this
 refine ⟨d,G.at_,G.I,?_,G.σ,G.T⟩;have:=G.F;rw[e,Gm.so d] at this
 exact this
theorem Jg (z:Off C W b Ji)(d:b≠a):Off C (W.hold a ob) b Ji:=⟨z.at_,z.I,(Q (Gm.so d) z.F:(W.G.F.put a ob) b=N),z.σ,z.T⟩
end
section
variable {e a f g:St}
inductive zZ (C:Ctx) (d:Nat) (B:K) (M:List Nat):List a7->St->Bool->St->Prop
 |nil {e:St}:zZ C d B M [] e true e
 |go {c:a7}{l:List a7}{e st1 st2:St}{b:Bool}:TT C d B M c e true st1->zZ C d B M l st1 b st2->zZ C d B M (c::l) e b st2
 |stop {c:a7}{l:List a7}{e st1:St}:TT C d B M c e false st1->zZ C d B M (c::l) e false st1
theorem Gl {U:Bool->ay->Prop}{d:aj->ay->Prop}:∀(l:List a7),U false s->
  wpAny (model C.prog C.w) A (forIn l false λc T=>if T=true then do let ok←j6 c h (eval c h);pure (ForInStep.yield ok) else pure (ForInStep.yield T)) U d s
 |[]=>@λG=>wpAny_pure G
 |c::l=>@λG=>Q (gy ..)<|af<|wpAny_pure<|Gl l G
theorem zZ.run {j:List a7}(L:rk d U)(h:zZ C d B M j e b a):∀{s:Wd},At C B M i e s->
  Tr C B M i U (forIn j true λc G=>if G=true then do let ok←j6 c i (eval c i);pure (ForInStep.yield ok) else pure (ForInStep.yield G)) a (λJ c=>c=b) s:=by
 induction h with
 |nil=>exact λ{s} H I k h=>wpAny_pure<|h s _ (Wd.le.refl _) H rfl
 |go h1 o p=>
  intro s H I k h;exact Q (gy ..)<|af<|af<|h1 U i s L H _ _ λn c T y hc=>wpAny_pure<|hc.symm▸p y _ _ λq c t u hc=>h q c (T.trans t) u hc
 |stop h1=>
  intro s H I k h;exact Q (gy ..)<|af<|af<|h1 U i s L H _ _ λn c T y hc=>wpAny_pure<|hc.symm▸Gl _ (h n _ T y rfl)
def Dl (T:Ctx)(c:Nat)(L:K)(I:List Nat)(b:St->List V->St->Prop)(d:Comprehension×Tg)(h:Gd):List V->St->List V->St->Prop
 |[]=>@λe i a=>um e.hp h=true/\i=[]/\a=e
 |x::l=>@λe i a=>um e.hp h=true/\∃u,rz I 5 d.2 x e=Y u/\((∃n,zZ T c L I d.1.ifs u false n/\Dl T c L I b d h l n i a)\/
   ∃n U v G,zZ T c L I d.1.ifs u true n/\b n v U/\Dl T c L I b d h l U G a/\i=v++G)
def Sa (T:Ctx)(d:Nat)(U:K)(I:List Nat)(L:a7):List (Comprehension×Tg)->St->List V->St->Prop
 |[]=>@λe i a=>∃k,i=[k]/\TE T d U I L e k a
 |c::r=>@λe i a=>(∀u h j,c.1.iter≠.Set u h j)/\∃G b v,tO T d U I c.1.iter c.1.target e G b v/\Dl T d U I (Sa T d U I L r) c b G v i a
abbrev AF (T:Ctx)(c:Nat)(H:K)(G:List Nat)(L:a7)(b:Comprehension×Tg)(h:List<|Comprehension×Tg)(d:Gd)(j:List V)(I:St)(u:List V)(U:St):Prop:=Dl T c H G (Sa T c H G L h) b d j I u U
theorem Dl.gd {b:St->List V->St->Prop}{c:Comprehension×Tg}{i:Gd}{j:List V}:∀{l:List V},Dl C d B M b c i l e j a->um e.hp i=true
 |[]=>@λh=>h.1
 |_::_=>@λh=>h.1
theorem Dl.sj {b:St->List V->St->Prop}{c:Comprehension×Tg}{i:Gd}{k:V}{n j:List V}{o:Prop}(h:Dl C d B M b c i (k::n) e j a)
  (p:∀u q,rz M 5 c.2 k e=Y u->zZ C d B M c.1.ifs u false q->Dl C d B M b c i n q j a->o)
  (s:∀u q T v G,j=v++G->rz M 5 c.2 k e=Y u->zZ C d B M c.1.ifs u true q->b q v T->Dl C d B M b c i n T G a->o):o:=
 h.2.elim λu h=>h.2.elim (λU=>U.elim λq t=>p u q h.1 t.1 t.2) λU=>U.elim λq U=>U.elim λT U=>U.elim λv U=>U.elim λG t=>s u q T v G t.2.2.2 h.1 t.1 t.2.1 t.2.2.1
end
def Gb (T:Ctx)(c:Nat)(A:K)(z:List Nat)(L:a7)(f:List Comprehension)(v:eT)(e:dA)(h:Nat)(j:List<|Comprehension×Tg):Prop:=
 ∀(st I:St)(u:List V),Sa T c A z L j st u I->∀(a:Around)(g:kK)(W:Wd)(w:bK)(G:gw)(uj:List V)(s:aj),rk c a->At T A z g st W->Off T W w G->w≠g.locals->rA T.w.params W.G.T W.G.I W.σ G (.list uj)->
  uj.length+u.length<=65536->∀(H:ay->Prop)(E:aj->ay->Prop),(∀b o,W.le b->At T A z g I b->Off T b w o->rA T.w.params b.G.T b.G.I b.σ o (.list<|uj++u)->H b.s)->
  wpAny (model T.prog T.w) a (PySem.xw L f v e h s (.ref w) g) (λx U=>x=.again (.compLoop (.ListComp L f v e) h s (.ref w) g)/\H U) E W.s
def acF (T:Ctx)(c:Nat)(z:K)(A:List Nat)(L:a7)(f:List Comprehension)(v:eT)(e:dA)(h:Nat)(b:Comprehension×Tg)(j:List<|Comprehension×Tg):Prop:=
 ∀(l:List V)(d:Gd)(st I:St)(G:List V),AF T c z A L b j d l st G I->∀(U:Around)(g:kK)(W:Wd)(w q:bK)(D:List bK)(H:gw)(uj:List V)(i:Nat->fM->Prop),rk c U->At T z A g st W->Off T W w H->w≠g.locals->
  rA T.w.params W.G.T W.G.I W.σ H (.list uj)->uj.length+G.length<=65536->vS T W D->g.locals∉D->w∉D->LoopAt T b.1.target q D l d W i->i 0 W.s.heap->∀(R:Result->ay->Prop),
  (∀a o,W.le a->At T z A g I a->Off T a w o->rA T.w.params a.G.T a.G.I a.σ o (.list<|uj++G)->R (.ok .next) a.s)->
  jA (model T.prog T.w) U (.compLoop (.ListComp L f v e) h (.ref q) (.ref w) g) R W.s
def D9 (T:Ctx)(c:Nat)(A:K)(z:List Nat)(L:a7)(b:Comprehension×Tg)(f:List<|Comprehension×Tg)(g:kK)(j:List V)(e:Gd)(u:List bK)(v:bK)(i:Nat->fM->Prop)(s:Wd)(uj d:List V)(x:St)(h:Nat)(U:ay):Prop:=
 ∃(t:Nat)(I:St)(a:Wd)(G:gw)(H w:List V),h=j.length+1-t/\t<=j.length/\U=a.s/\s.le a/\At T A z g I a/\vS T a u/\Off T a v G/\
  rA T.w.params a.G.T a.G.I a.σ G (.list<|uj++H)/\H++w=d/\i t a.s.heap/\AF T c A z L b f e (j.drop t) I w x
@[elab_as_elim] theorem D9.elim {b:Nat->fM->Prop}{f:Nat->ay->Prop}(g:D9 C d B M elt c r env l gd D a b W uj out rG n s)(h:∀t I U G H u,t<=l.length->W.le U->At C B M env I U->vS C U D->Off C U a G->rA C.w.params U.G.T U.G.I U.σ G (.list<|uj++H)->H++u=out->b t U.s.heap->AF C d B M elt c r gd (l.drop t) I u rG->f (l.length+1-t) U.s):f n s:=by
 obtain ⟨t,I,U,G,H,u,rfl,w,rfl,T,L,i,z,j,e,k,o⟩:=g;exact h t I U G H u w T L i z j e k o
theorem D9.intro {b:Nat->fM->Prop}(h)(w:h<=l.length)(T:W.le W0)(G:At C B M env uL W0)(t:vS C W0 D/\b h W0.s.heap)(z:Off C W0 a VG)(I:rA C.w.params W0.G.T W0.G.I W0.σ VG<|.list<|uj++Om)(e:Om++Je=out)(U:AF C d B M elt c r gd (l.drop h) uL Je rG):D9 C d B M elt c r env l gd D a b W uj out rG (l.length+1-h) W0.s:=
 ⟨h,uL,W0,VG,Om,Je,rfl,w,rfl,T,G,t.1,z,I,e,t.2,U⟩
theorem Ry {b:ay->Prop}{E1 g E3:aj->ay->Prop}(ht:Fx C d B M L tg)(GY:Gb C d B M elt gens scope pos k j)(hr:rk d A)(C8:v≠f.locals)(hE:AF C d B M elt (⟨L,iter,ifs,0⟩,tg) j gd (xv::l) uL p rG)(a1:At C B M f uL t)(z_:Off C t v H)(I:rA C.w.params t.G.T t.G.I t.σ H<|.list<|uj++a)(ho:a++p=out)(w:uj.length+out.length<=65536)(rv:qu C t xv s)(hk:∀st2 W3 Z_ Te Td,R9 C [f.locals,v] t W3->At C B M f st2 W3->Off C W3 v Z_->rA C.w.params W3.G.T W3.G.I W3.σ Z_ (.list<|uj++Te)->Te++Td=out->AF C d B M elt (⟨L,iter,ifs,0⟩,tg) j gd l st2 Td rG->b W3.s) :
  wpAny (model C.prog C.w) A (assign L f s) (λW U=>wpAny (model C.prog C.w) A (forIn ifs true λc j=>if j=true then do let ok←j6 c f (eval c f);pure (ForInStep.yield ok) else pure (ForInStep.yield j)) (λok Zp=>
   if ok=true then wpAny (model C.prog C.w) A (PySem.xw elt gens scope pos k it (.ref v) f) (λx ahf=>x=.again (.compLoop (.ListComp elt gens scope pos) k it (.ref v) f)/\b ahf) E3 Zp else b Zp) g U) E1 t.s:=by
 refine hE.sj (λst1 st2 i g3 g4=>?_) λst1 st2 st3 q u2 e i g3 g4 g5=>?_
 .refine ht xv uL st1 i A f (t.wm C [f.locals]) s hr (a1.ex<|.head _) rv _ _ λW2 W T y W=>zZ.run hr g3 y _ _ λW3 c l3 a3 G=>?_
  have u:=a1.xx (T.trans l3) a3;exact Q G<|Q (qm<|by decide)<|hk st2 (W3.tL t.G.F) H a p ⟨u.1.le,λv o n h=>u.1.off v o (λz=>n<|aM.mp z▸.head _) h⟩ u.2.1 (u.1.off _ _ (λz=>C8<|aM.mp z) z_) (I.mono u.1.le.G.T u.1.le.G.I u.1.le.σ) ho g4
 .have e2:(uj++a).length+q.length<=65536:=by
   rw[<- ho,e,aG,aG] at w
   refine Q (aG ..) ?_;exact aa (aa (aN<|b9 ..)<|aP (aP (aK ..) _) _) w
  refine ht xv uL st1 i A f (t.wm C [f.locals]) s hr (a1.ex<|.head _) rv _ _ λW2 W T y W=>zZ.run hr g3 y _ _ λW3 c l3 a3 G=>?_
  have u:=a1.xx (T.trans l3) a3;exact Q G<|Q (ql rfl)<|GY st2 st3 q g4 A f ((W3.tL t.G.F).wm C [f.locals,v]) v H (uj++a) it hr (u.2.1.ex<|.head _) ((u.1.off _ _ (λz=>C8<|aM.mp z) z_).ex (.tail _<|.head _) u.2.1.H) C8 (I.mono u.1.le.G.T u.1.le.G.I u.1.le.σ) e2 _ _ λW4 ob4 l4 a4 q4 r4=>hk st3 (W4.tL (W3.tL t.G.F).G.F) ob4 (a++q) u2 ⟨u.1.le.trans (u.2.1.xx l4 a4).1.le,λv o n h=>(u.2.1.xx l4 a4).1.off v o n<|u.1.off v o (λz=>n<|aM.mp z▸.head _) h⟩ (u.2.1.xx l4 a4).2.1 ((u.2.1.xx l4 a4).2.2 v ob4 q4) (J (a8 uj a q) r4) (Q (a8 ..)<|J e ho) g5
theorem LW {j:a7}{gens:List Comprehension}{pos:dA}{u:List<|Comprehension×Tg}(G:Fx C d B M tE tg)(hg:gens[k]?=Y ⟨tE,j,ifs,0⟩)(f:Gb C d B M elt gens scope pos k u):acF C d B M elt gens scope pos k (⟨tE,j,ifs,0⟩,tg) u:=by
 intro H gd x rG a hE A env W v I D ob i Sx L ha z_ c JG w hD BW haD hL hS R hR;refine PySem.K4 hg (D9 C d B M elt (⟨tE,j,ifs,0⟩,tg) u env H gd D v Sx W i a rG) (λT U h=>D9.elim h λt uL n VG Om Je QX lw y Q6 VF VY aa2 p hE=>?_) (H.length+1)
  <| D9.intro 0 (dZ _) (Wd.le.refl _) ha ⟨hD,hS⟩ z_ (J ((bh i).symm) JG) rfl hE
 by_cases uN:t<H.length
 .exact GO hL L.1 uN y Q6 BW lw p (λs U h=>h) λs xv W1 hd rv GL GS a1 ko re=>
   Ry G f L c (J hd hE) a1 (ko _ _ haD VF) (VY.mono GS.G.T GS.G.I GS.σ) aa2 w rv λst2 W3 Z_ Te Td k3 a3 q3 r3 h3 g=>
    qp (H.length+1-(t+1)) (oy (dT uN)<|bW t)<|.intro (t+1) uN (GL.trans k3.le) a3 (re W3 st2.hp k3.le a3.H g.gd λb hb o z=>k3.off b o (λq=>(aE.mp q).elim (λe=>BW<|e▸hb) λq=>haD<|aM.mp q▸hb) z) q3 r3 h3 g
 .skip
  exact GP hL L.1 y Q6 BW lw (J (gA QX<|cU.mp uN) p) λW1 GL GS a1 ko=>hR W1 VG GL (Q (J (jD<|cU.mp uN) hE:AF C d B M elt (⟨tE,j,ifs,0⟩,tg) u gd [] uL Je rG).2.2 a1) (ko _ _ haD VF)<|((bh Om).symm.trans<|J (J (jD<|cU.mp uN) hE:AF C d B M elt (⟨tE,j,ifs,0⟩,tg) u gd [] uL Je rG).2.1 aa2)▸VY.mono GS.G.T GS.G.I GS.σ
end Vm
end
noncomputable section
namespace PySem
theorem BA {b:Result->ay->Prop}{e:a7}{f:List Comprehension}{k:dA}(o:f[depth]?=Y ⟨target,e,ifs,0⟩)(H:jA (model G n) A (.compLoop (.ListComp elt f scope k) depth t acc env) b s)(d:wpAny (model G n) A (pyIter t) (λh v=>jA (model G n) A (.compLoop (.ListComp elt f scope k) depth h acc env) b v)
   (mJ (model G n) A env λu v=>b (.error u) v) s) :
  jA (model G n) A (.compStart (.ListComp elt f scope k) depth t acc env) b s:=by
 refine mx<|wpAny_notedAt ?_
 have p:(clausesOf<|.ListComp elt f scope k)[depth]?=Y ⟨target,e,ifs,0⟩:=o;delta compStart;simp only[p,mM];refine af<|wpAny_askSetting<|wpAny_ite ?_
 split
 .first
   |exact af<|wpAny_pure<|wpAny_pure<|lb rfl H
   |exact wpAny_pure<|lb rfl H
 .first
   |exact af<|m5<|af<|wpAny_standAt<|af<|wpAny_mono d (λh v a=>wpAny_pure<|lb rfl a) λJ J u=>u|(exact af<|m5<|af<|wpAny_standAt<|af<|wpAny_mono d (λh v a=>wpAny_pure<|lb rfl a) λJ J u=>u)
end PySem
namespace Vm
variable {i g j q:St}
theorem Pf {l:List V}(H:At C B M env i W)(z:Off C W a ob)(f:a≠env.locals)(I:rA C.w.params W.G.T W.G.I W.σ ob<|.list l)(k:qu C W v c)(w:l.length<=65536)(QQq:aj->ay->Prop)(d:aj->ay->Prop)(n:∀T o,W.le T->At C B M env i T->Off C T a o->rA C.w.params T.G.T T.G.I T.σ o (.list<|l++[v])->QQq .none T.s) :
  wpAny (model C.prog C.w) A (call (.builtin "list.append") [.ref a,c]) QQq d W.s:=by
 obtain ⟨p,s,rfl,b⟩:=I.inv;have e:=b.length;have u:=λ(x:bK) (y:gw) (h:x≠a) (L:W.s.heap.get? x=Y y)=>((cS W.s.heap a<|iW (·.push c)).2 x h).trans L
 refine gQ F.slot_list_append (qp _ z.at_ rfl) F.entry_list_append (F.args_list_append_2 _ _) (gz a p.toArray s c<|by simp only[bj,g6];exact e▸aa w (by decide)) ⟨z.at_,?_⟩;refine n ⟨W.G,W.σ,{ W.s with heap:=W.s.heap.update a<|iW (·.push c) }⟩ _ ⟨Gh.le.refl _,rl.refl _⟩ ⟨H.ok,H.H.keep a u z.I z.F z.σ z.T rfl rfl<|ag _,⟨by
   refine qt H.L.ns λU rR G=>?_;obtain ⟨y,es,t,h,rest⟩:=rR
   exact qp U (wR y es t (u _ _ f.symm h) rest) G,H.L.I,H.L.F,H.L.σ,H.L.T⟩⟩ ⟨mw z.at_ (·.push c),z.I,z.F,z.σ,z.T⟩ ?_
 simpa using (rA.list<|qI.append b<|.cons k .nil)
def Fy (T:Ctx)(c:Nat)(U:K)(L:List Nat)(b:Comprehension×Tg):Prop:=b.1.is_async=0/\Fx T c U L b.1.target b.2
theorem C9 (h:∀a c f,e≠.Set a c f)(s):qf e env s=pure s:=by cases e<;>first|rfl|exact absurd rfl<|h _ _ _
theorem JD {gens:List Comprehension}{e:dA}:∀(o:List<|Comprehension×Tg)(h:Nat),gens.drop (h+1)=o.map (·.1)->(∀b∈o,Fy C d B M b)->Gb C d B M L gens v e h o
 |[]=>@λh hd J=>by
  intro i g G hE A env W a ob uj it hr ha z_ C8 JG w QQq E hQ;obtain ⟨k,rfl,h1⟩:=hE;have hn:gens[h+1]?=N:=by
   have:=qn (λl=>l[0]?) hd
   simpa using this
  delta PySem.xw;exact Q hn<|af<|af<|zP (R:=λT I σ c=>Rep C.w.params T I σ k c) z_ (h1 A env _ hr<|ha.hold z_ C8) _ _ λn c l1 y r1 DF=>af<|Pf y DF C8 (JG.mono l1.G.T l1.G.I l1.σ) r1 (b6 w) _ _ λW2 Ji l2 a2 Tj r2=>wpAny_pure<|wpAny_pure ⟨rfl,hQ W2 Ji (l1.trans l2) a2 Tj r2⟩
 |(c,t)::o=>@λh hd Bs=>by
  intro i g G hE A env W a ob uj it hr ha z_ C8 JG w QQq E hQ;have hg:gens[h+1]?=Y c:=by
   have:=qn (λl=>l[0]?) hd
   simpa using this
  have H:gens.drop (h+1+1)=o.map (·.1):=by simpa[jO] using (qn (kJ 1) hd)
  obtain ⟨h0,ht⟩:=Bs (c,t) (.head _);obtain ⟨target,iter,ifs,as⟩:=c;subst h0;obtain ⟨p,l,gd,st1,Ac,hE'⟩:=hE;delta PySem.xw;refine Q hg ?_;dsimp only;refine af<|wpAny_mono (SR hr Ac ha (λit' U=>wpAny (model C.prog C.w) A (runOwn (Code.compStart (L.ListComp gens v e) (h+1) it' (.ref a) env) env>>=λJ=>qh<|Code.compLoop (L.ListComp gens v e) h it (.ref a) env) (λx U=>x=.again (.compLoop (.ListComp L gens v e) h it (.ref a) env)/\QQq U) E U) _ λn I D Sx k1 y hD BW hap CM hS=>?_) (λu Zq FX=>af<|wpAny_standAt ?_) λJ J s=>s
  rotate_left
  .exact Q (qm<|by decide)<|af<|iG (C9 p u)<|af<|cT<|Q (qm<|by decide) FX
  .skip
   have run:jA (model C.prog C.w) A (.compLoop (.ListComp L gens v e) (h+1) (.ref I) (.ref a) env) (λo U=>match o with|.ok f=>wpAny (model C.prog C.w) A (qh<|Code.compLoop (L.ListComp gens v e) h it (.ref a) env) (λx U=>x=.again (.compLoop (.ListComp L gens v e) h it (.ref a) env)/\QQq U) E U|.error s=>cameBackBy (model C.prog C.w) A env E s U) n.s:=(LW ht hg<|JD o (h+1) H λb hp=>Bs b<|.tail _ hp) l gd st1 g G hE' A env n a I D ob uj Sx hr y (k1.off a ob (λz=>C8<|aM.mp z) z_) C8 (JG.mono k1.le.G.T k1.le.G.I k1.le.σ) w hD BW (hap a ob C8 z_) CM hS _ λW2 Ji l2 a2 Tj r2=>wpAny_pure ⟨rfl,hQ W2 Ji (k1.le.trans l2) a2 Tj r2⟩
   exact af<|wpAny_runOwn<|PySem.BA hg run<|CM.2.2.1 A hr.1 0 _ _ _ hS run
end Vm
end
noncomputable section
namespace Vm
section
variable {c j f g:St}{W:Wd}
theorem w5:∀{a:List<|ba×NameKind},(a.map (·.1)).Nodup->(x,k)∈a->a.lookup x=Y k
 |[]=>@λW b=>nomatch b
 |(n,k1)::a=>@λy b=>by
  obtain ⟨G,T⟩:=bI.mp y;rcases aE.mp b with q|q
  .cases q;refine ax bM<|Q (beq_self_eq_true ..) rfl
  .skip
   refine ax bM<|Q (beq_eq_false_iff_ne.mpr λi=>G<|by refine J i ?_;clear i;exact bY.mpr<|qp _ q rfl) ?_;exact w5 T q
theorem vg.free (a:vg B M W.σ env)(hc:yk B sc):∀b∈sc.names,b.2=.free->∃v,env.cells.lookup b.1=Y v:=λb d e=>by
 obtain ⟨p,h⟩:=b;subst e;obtain ⟨k,T,i⟩:=cH (hc.has p d);refine qY (a.cell k p (by refine Q (aD T)<|Q i rfl)<|hc.free p d) λJ v J J G=>?_
 exact ⟨v,G⟩
theorem G8 {s:a7}{t:List Comprehension}{pos:dA}{u:List<|Comprehension×Tg}{G:List V}{U:St}(p:yk B v)(DL:∀es k L,s≠.Set es k L)(Ac:tO C d B M s tE c G gd st1)(EX:t=u.map (·.1))(ht:Fx C d (B.comp v) ((aq (q_ v).length).map (st1.hp.length+·)++M) tE tg)(Bs:∀L∈u,Fy C d (B.comp v) ((aq (q_ v).length).map (st1.hp.length+·)++M) L)(hE:AF C d (B.comp v) ((aq (q_ v).length).map (st1.hp.length+·)++M) elt (⟨tE,s,ifs,0⟩,tg) u gd G ⟨aw (B.comp v).slots.length N,st1.hp++aw (q_ v).length (.cell N)⟩ out U)(w:out.length<=65536)(hr:rk d A)(ha:At C B M env c W){use:Option<|aj->gE Unit}{QQq:aj->ay->Prop}{E:aj->ay->Prop}(hQ:∀W' D cL ob o,W.le W'->At C B M env ⟨st1.loc,U.hp⟩ W'->Off C W' D ob->D≠env.locals->rA C.w.params W'.G.T W'.G.I W'.σ ob (.list out)->Off C W' cL o->cL≠D->cL≠env.locals->(∃m,W'.s.heap.Ns cL m)->compPost (model C.prog C.w) A E use QQq (.ref D) cL (.ok .next) W'.s) :
  wpAny (model C.prog C.w) A (comprehension (.ListComp elt (⟨tE,s,ifs,0⟩::t) v pos) v env pos' (newList []) false (eval s env) use) QQq E W.s:=by
 refine rT (Bt<|vg.free ha.ok p) λi c1 c2 c3=>wpAny_comprehension_free rfl (C9 DL) c1 p.fn (λy hy n=>w5 p.nd<|J n hy)<|Ac A env W hr ha _ _ λW1 H D T l1 a1 hD BW CM hS=>fX ?_
 have pe:=tZ (W:=W1) { cls:=.type "list",dict:=N,data:=.seq ([]:List aj).toArray };have a2:=a1.ry pe;refine O5 a2 p c2 c3 λF_ W3 l3 x hG3 JO ahV a3 b3=>?_
 have L0:∀{a:bK}{o:gw},Off C ⟨W1.G,W1.σ,{ W1.s with heap:=W1.s.heap.push { cls:=.type "list",dict:=N,data:=.seq ([]:List aj).toArray } }⟩ a o->Off C W3 a o:=λ{a o} h=>
  ⟨x _ _ h.at_,Q hG3 h.I,Q hG3 h.F,(λz=>by
   rcases ahV a z with q|q
   .exact h.σ q
   .rw[h.at_] at q;exact Vm.sN q),h.T⟩
 refine rM a3.L.off λoL HL=>?_
 have below:∀{a:bK}{o:gw},(W1.s.heap.push { cls:=.type "list",dict:=N,data:=.seq ([]:List aj).toArray }).get? a=Y o->a≠F_.locals:=λh=>Q JO<|cJ<|bP h
 have hLc:env.locals≠F_.locals:=Q JO<|cJ a2.lt
 have hS3:T 0 W3.s.heap:=CM.2.2.2 0 W1 W3 _ (Wd.le.refl _).uM (pe.le.trans l3).uM a3.H hE.gd (λb P o e=>x _ _<|aY _ e) hS;have run:jA (model C.prog C.w) A (.compLoop (.ListComp elt (⟨tE,s,ifs,0⟩::t) v pos) 0 (.ref H) (.ref W1.s.heap.objs.size) { F_ with scope:=mI v env }) (compPost (model C.prog C.w) A E use QQq (.ref W1.s.heap.objs.size) F_.locals) W3.s:=by
  refine (LW (gens:=⟨tE,s,ifs,0⟩::t) ht rfl<|JD u 0 EX Bs) G gd _ U out hE A { F_ with scope:=mI v env } (W3.hold env.locals oL) W1.s.heap.objs.size H D _ [] T hr (b3.hold HL hLc) (Jg (L0<|uG a1.H rfl)<|bw a1.lt) (below (uG a1.H rfl).at_) (.list .nil) (by simpa using w) (λb hb=>((λb hb=>(hD b hb).imp λo h=>L0 ⟨aY _ h.at_,h.I,h.F,h.σ,h.T⟩) b hb).imp λo h=>Jg h λz=>BW<|J z hb) (λz=>(hD _ z).elim λo h=>below (aY _ h.at_) rfl) (λz=>(hD _ z).elim λo h=>b8 _<|bP h.at_) (CM.up ⟨(pe.le.trans l3).G.I,(pe.le.trans l3).G.T,(pe.le.trans l3).σ⟩) hS3 _ λW4 I l4 a4 adQ r4=>?_
  refine qJ (Zd HL l4 a4) λlw5 a5 p5=>?_
  obtain ⟨akN,q5⟩:=NX HL l4 adQ;obtain ⟨oc,vG⟩:=a5.L.off;exact hQ (W4.tL W3.G.F) _ F_.locals I oc (((l1.trans pe.le).trans l3).trans lw5) ⟨ha.ok.mono (((l1.trans pe.le).trans l3).trans lw5).σ,a5.H,Loc.ahead a3.L HL lw5 p5⟩ q5 (bw a1.lt) r4 vG (below (uG a1.H rfl).at_).symm hLc.symm<|let ⟨m,hm,_⟩:=a5.L.ns;⟨m,hm⟩
 exact PySem.BA rfl run<|CM.2.2.1 A hr.1 0 _ _ _ hS3 run
theorem TF.comp {s:a7}{x:List Comprehension}{pos:dA}{u:List<|Comprehension×Tg}{G:List V}{H:St}(hc:yk B v)(DL:∀es k p,s≠.Set es k p)(Ac:tO C n B M s tE c G gd I)(EX:x=u.map (·.1))(ht:Fx C n (B.comp v) ((aq (q_ v).length).map (I.hp.length+·)++M) tE q)(Bs:∀p∈u,Fy C n (B.comp v) ((aq (q_ v).length).map (I.hp.length+·)++M) p)(hE:AF C n (B.comp v) ((aq (q_ v).length).map (I.hp.length+·)++M) L (⟨tE,s,t,0⟩,q) u gd G ⟨aw (B.comp v).slots.length N,I.hp++aw (q_ v).length (.cell N)⟩ d H)(w:d.length<=65536):TF C n B M (.ListComp L (⟨tE,s,t,0⟩::x) v pos) c (.list d) ⟨I.loc,H.hp⟩:=λA env W hr ha QQq E h=>by
 refine Q (eval_ListComp ..)<|G8 hc DL Ac EX ht Bs hE w hr ha λW' D cL ob o T a1 AW G1 rep vG V8 JO U=>rM U λa hm=>qp a hm λi hs=>?_
 have k:∀b o,b≠cL->W'.s.heap.get? b=Y o->i.get? b=Y o:=λb o z e=>(hs.2 b z).trans e
 refine h ⟨W'.G,W'.σ,{ W'.s with heap:=i }⟩ _ ⟨T.G,T.σ⟩ ⟨a1.ok,a1.H.keep cL k vG.I vG.F vG.σ vG.T rfl rfl<|ag _,⟨by
   refine qt a1.L.ns λa U y=>?_;obtain ⟨o,es,ep,z,x⟩:=U
   exact qp a (wR o es ep (k _ _ JO.symm z) x) y,a1.L.I,a1.L.F,a1.L.σ,a1.L.T⟩⟩<|uu D ob rfl G1 ⟨k _ _ V8.symm AW.at_,AW.I,AW.F,AW.σ,AW.T⟩ rep
noncomputable def Vw (U:K)(v:eT)(p:ba)(e d:dA):Bool:=U.scope.names.lookup p==Y .local&&e.line==d.line&&!(v.names.any λ(n,k)=>n==p&&(k==.local||k==.cell))
theorem Ag (a:vg U M σ env):iw (.ListComp elt gs v e) (Y<|.Name p d) n env=pure (Vw U v p d e):=by delta iw Vw qk ft;dsimp only;exact Q a.scope<|Q a.fn rfl
end
section
variable {i g a f:St}
theorem Kr {x:bK}(L:rk d A)(H:At C B M env i W)(z:Off C W x o)(j:x≠env.locals)(U:∃b,W.s.heap.Ns x b)(rv:qu C W v c)(w:yo B (.Name p py) tg)(hs:rz M (n+1) tg v i=Y g)(QQq:ay->Prop)(s:aj->ay->Prop)(u:∀I,W.le I->At C B M env g I->QQq I.s) :
  wpAny (model C.prog C.w) A (assign (.Name p py) env c) (λJ ZM=>∃b,ZM.heap.Ns x b/\∀h',ff x ZM.heap h'->QQq { ZM with heap:=h' }) s W.s:=by
 refine rM U λb hm=>zP (R:=λJ J J J=>True) z (λQ2 E2 G=>Af<|Cv w hs (H.hold z j) rv Q2 E2 G) _ _ λW1 J T y J DF=>qp b (hm.at' λo' e=>by rw[z.at_] at e;(refine Vm.sI e ?_;clear e;rintro rfl);exact DF.at_) λh' hsb=>?_
 have k:∀q o,q≠x->W1.s.heap.get? q=Y o->h'.get? q=Y o:=λq o h e=>(hsb.2 q h).trans e
 exact u ⟨W1.G,W1.σ,{ W1.s with heap:=h' }⟩ ⟨T.G,T.σ⟩ ⟨y.ok,y.H.keep x k DF.I DF.F DF.σ DF.T rfl rfl<|ag _,⟨by
   refine qt y.L.ns λb rR p=>?_;obtain ⟨o,es,ep,h,t⟩:=rR
   exact qp b (wR o es ep (k _ _ j.symm h) t) p,y.L.I,y.L.F,y.L.σ,y.L.T⟩⟩
theorem TS.YB {L k:a7}{s:List a7}{j:List Comprehension}{v:eT}{e c x:dA}{y:ba}{tg H:Tg}{u:List<|Comprehension×Tg}{tE:a7}{G:List V}{b:Gd}{out:List V}{st1 x':St}{n:Nat}{tr:Bool}
  (hc:yk B v) (DL:∀es t p,k≠.Set es t p) (Ac:tO C d B M k tE i G b st1) (EX:j=u.map (·.1)) (ht:Fx C d (B.comp v) ((aq (q_ v).length).map (st1.hp.length+·)++M) tE tg) (Bs:∀p∈u,Fy C d (B.comp v) ((aq (q_ v).length).map (st1.hp.length+·)++M) p)
  (hE:AF C d (B.comp v) ((aq (q_ v).length).map (st1.hp.length+·)++M) L (⟨tE,k,s,0⟩,tg) u b G ⟨aw (B.comp v).slots.length N,st1.hp++aw (q_ v).length (.cell N)⟩ out x')
  (w:out.length<=65536) (hw:Vw B v y x e=true) (hy:yo B (.Name y x) H)
  (hs:rz M (n+1) H (if tr then .ref x'.hp.length else .lst out) ⟨st1.loc,x'.hp++(if tr then [.list out] else [])⟩=Y g) :
  TS C d B M (.Assign [.Name y x] (.ListComp L (⟨tE,k,s,0⟩::j) v e) c) i .next g:=λA env W hr ha QQq E h=>by
 refine Q (exec_Assign_Name_used _ _ _ _<|by refine Q (Ag ha.ok)<|Q hw rfl)<|af<|wpAny_standAt<|af<|af<|G8 hc DL Ac EX ht Bs hE w hr ha λW' D cL ob o T a1 AW G1 I vG V8 JO U=>?_
 cases tr with
 |true=>
  have a2:=a1.AN AW G1 I;refine Kr hr a2 ⟨vG.at_,vG.I,vG.F,λz=>?_,vG.T⟩ JO U (.ref (by
   refine J a1.H.len<|ax dN rfl)) hy hs _ _ λW2 l2 a2=>?_
  .rcases bO.mp z with q|q
   .exact vG.σ q
   .exact V8<|aM.mp q
  .exact wpAny_pure<|wpAny_pure<|h W2 _ (T.trans ⟨l2.G,(rl.push W'.σ D).trans l2.σ⟩) a2 rfl
 |false=>
  have a2:=a1.freeze AW G1;have l2:W'.le ⟨W'.G.vq D ob,W'.σ,W'.s⟩:=⟨Gh.wK AW.I,rl.refl _⟩;refine Kr hr a2 ⟨vG.at_,?_,vG.F,vG.σ,vG.T⟩ JO U ?_ hy (by simpa using hs) _ _ λW2 l3 a2=>?_
  .exact (ax (Gm.so V8) vG.I:(W'.G.I.put D ob) cL=N)
  .obtain ⟨_,_,rfl,u⟩:=I.inv;exact .lst (Gm.rO _ _ _)<|qD.mono u l2
  .exact wpAny_pure<|wpAny_pure<|h W2 _ (T.trans<|l2.trans l3) a2 rfl
theorem NW {b:aj->ay->Prop}{e:dA}{U:k8->ay->Prop}(d:wpAny q9 A (eval j h) (λt u=>wpAny q9 A (assign L h t) (λJ=>U .next) b u) b s)(k:iw j (Y L) e.line h=pure false)(o:noStar L=true)(n:fC [L] j h=pure N):wpAny q9 A (exec (.Assign [L] j e) h) U b s:=by
 refine Q (kg ..)<|af<|wpAny_standAt (Q k<|af<|wpAny_pure<|Q (qm<|by decide)<|af<|wpAny_mono d (λt u c=>Q n<|af<|wpAny_pure ?_) λJ J G=>G:wpAny q9 A (do if←iw j (Y L) e.line h then _ else _) U b s)
 exact Q (Q (xf λp q=>Q (aM.mp q) o) rfl:(pT [L] h).map (·.2)=[assign L h])<|af<|wpAny_mono c (λJ J G=>wpAny_pure G) λJ J G=>G
theorem zG {b:List a7}:iw value (Y<|.Tuple b k p) n env=pure false:=by cases value<;>rfl
theorem FC:iw value (Y<|.Attribute o x p) n env=pure false:=by cases value<;>rfl
theorem TS.U6 {j:dA}{t:Nat}(b:∀k o h,vg B M o k->iw e (Y L) h k=pure false)(p:TE C d B M e i v a)(q:ue B h L=Y tg)(u:rz M t tg v a=Y f)(hw:∀k o,vg B M o k->fC [L] e k=pure N):TS C d B M (.Assign [L] e j) i .next f:=λU k w c H QQq x I=>NW (p U k w c H _ _ λn s T y G=>xZ h t L tg v a f q u U k n s c y G _ _ λz J A sv J=>I z _ (T.trans A) sv rfl) (b k w.σ _ H.ok) (Dd q)<|hw k w.σ H.ok
end
section
variable {y z j u:St}
theorem zL (e:sS n=true):eW (.type "function") n=pure N:=by
 delta sS at e
 simp only[oD,ir,beq_iff_eq,List.contains_nil,gB,or_false] at e
 rcases e with rfl|rfl|rfl|rfl|rfl|rfl|rfl<;>(refine Q (dM ..)<|Q (cx ..) ?_;kernel_rfl)
theorem GZ (n:qu C W k c)(e:GA k=true):handedOut c=pure c:=by
 cases k with
 |con k=>
  obtain rfl:=n.inv
  cases c with
  |type|builtin=>exact fT e|_=>rfl
 |none|bool=>exact Q n.inv rfl|int|str=>obtain ⟨_,rfl⟩:=n.inv;rfl
 |qr=>obtain ⟨_,rfl,_⟩:=n.inv;rfl
 |ref=>obtain ⟨_,rfl,_⟩:=n.inv;rfl
 |tup|lst=>obtain ⟨_,_,_,rfl,_⟩:=n.inv;rfl
 |rt=>obtain ⟨_,_,_,rfl,_⟩:=n.inv;rfl
 |tH=>obtain ⟨_,_,_,_,rfl,_⟩:=n.inv;rfl
 |bm=>obtain ⟨_,_,rfl,_⟩:=n.inv;rfl
theorem Bj.ns {i:fM}{b:ba->Option aj}(e:i.get? a=Y ob)(f:Bj ob b):i.Ns1 a b:=let ⟨g,c,k,G,n,d⟩:=f;⟨ob,g,c,e,k,G,n,d⟩
theorem Bj.of {i:fM}{b:ba->Option aj}(s:i.Ns1 a b):∃G,i.get? a=Y G/\Bj G b:=let ⟨o,f,c,e,k,H,n,d⟩:=s;⟨o,e,f,c,k,H,n,d⟩
structure FnAt (C:Ctx) (W:Wd) (hp:List O) (i:Nat) (a:bK) (f:wQ) (cl:List<|ba×Nat) (d0:Option Nat) (fd:FuncData) (dict:Option bK):Prop where
 t:R7 C W hp i a (.fn f cl d0) ⟨.type "function",dict,.func fd,#[]⟩
 fo:Ge W.G.I f fd
 As:∀x i,cl.lookup x=some i->∃a,W.σ[i]?=some a/\fd.closure.lookup x=some a
 hd:AE W.σ d0 dict
theorem HW (T:qP C hp W)(e:W.σ[i]?=Y a)(k:hp[i]?=Y (.fn f cl d0)):∃n h,FnAt C W hp i a f cl d0 n h:=by
 refine rM (En T e k) λH G=>?_
 obtain ⟨n,h,rfl,o,b,I⟩:=G.rep.inv;exact ⟨n,h,G,o,b,I⟩
structure aiw (C:Ctx) (W:Wd) (hp:List O) (d:Nat) (D:bK) (l:List<|ba×V) (ob:gw) (m:ba->Option aj):Prop where
 t:R7 C W hp d D (.ns l) ob
 ns:Bj ob m
 hl:∀x v,l.lookup x=some v->∃c,m x=some c/\qu C W v c
 EZ:∀x,l.lookup x=none->m x=none
theorem VH (T:qP C hp W){v:bK}{f:List<|ba×V}(e:W.σ[d]?=Y v)(i:hp[d]?=Y (.ns f)):∃H b,aiw C W hp d v f H b:=by
 refine rM (En T e i) λH G=>?_
 obtain ⟨b,a,g,s⟩:=G.rep.inv;exact ⟨H,b,G,a,g,s⟩
theorem KN (T:qP C hp W){o:FuncData}(G:FnAt C W hp i a f cl d0 o dict)(e:WI hp n d0=Y v) :
  sS n=true/\GA v=true/\∃q b s,W.s.heap.get? a=Y ⟨.type "function",Y q,.func o,#[]⟩/\W.s.heap.Ns1 q b/\b n=Y s/\qu C W v s:=by
 cases d0 with
 |none=>exact nS e|some h=>
  refine qX e λp e=>?_
  cases dict with
  |none=>exact G.hd.elim|some q=>
   cases t:hp[h]? with
   |none=>rw[t] at e;exact nS e
   |some I=>cases I with
    |ns l=>
     rw[t] at e
     exact sd (VH T G.hd t) λL b x=>sk e λU A e=>qX e λH e=>qt (x.hl n U A) λs c k=>⟨p,ae e▸H,q,b,s,G.t.at_,x.ns.ns x.t.at_,c,ae e▸k⟩
    |_=>replace e:=t▸e;exact nS e
theorem Lo (a:qP C hp W)(ho:qu C W o s)(h:te hp o p=Y v):q6 C A (getAttr s p b) (λW' c=>qu C W' v c) W:=by
 refine q6.mk λQQq d hq=>?_
 cases o with
 |ref i=>
  obtain ⟨w,rfl,e⟩:=ho.inv;have h:zX hp i p hp[i]?=Y v:=h;obtain ⟨L,x,U⟩:=W;obtain ⟨I,g,dd,t,os⟩:=U
  cases n:hp[i]? with
  |none=>rw[n] at h;exact nS h
  |some o=>cases o with
   |fn f cl d0=>
    replace h:=n▸h;exact sd (HW a e n) λfd dict F=>qJ (KN a F h) λH k2 rR=>Ef rR λq m c k3 k4 k5 k6=>zu.E_ ⟨k3,k4.ns⟩ (zL H) k5 (GZ k6 k2)<|hq ⟨L,x,_⟩ _ (Pext0.toks _) k6
   |list l=>
    replace h:=n▸h;refine qX h λhn h=>zB (AM a e n) λG k T V=>Q hn ?_;clear hn
    exact zu.FV T.at_<|hq _ _ (Pext0.DG (zu.zW "list.append"<|.ref w) rfl (t+1) a.sD)<|J (ae h)<|.bm (Gm.rO _ _ _)<|.ref e
   |_=>replace h:=n▸h;exact nS h
 |_=>exact nS h
theorem Le (T:qP C hp W)(k:qu C W o s)(e:isFn hp o=true)(i:te hp o p=Y v):q6 C A (getMethod s p w) (λa b=>∃f,b=(f,[])/\qu C a v f) W:=by
 refine q6.mk λQQq d hq=>?_
 cases o with
 |ref c=>
  obtain ⟨x,rfl,n⟩:=k.inv;have i:zX hp c p hp[c]?=Y v:=i;have e:EU hp[c]?=true:=e;obtain ⟨L,I,U⟩:=W;obtain ⟨hh,g,dd,h,os⟩:=U
  cases e1:hp[c]? with
  |none=>rw[e1] at i;exact nS i
  |some o=>cases o with
   |fn t G d0=>
    revert i;refine Q e1 ?_;intro i;exact sd (HW T n e1) λfd dict F=>qJ (KN T F i) λH k2 wU=>Ef wU λq m f k3 k4 k5 k6=>zu.JZ ⟨k3,k4.ns⟩ (zL H) k5 (GZ k6 k2)<|hq ⟨L,I,_⟩ _ (Pext0.toks _)<|qp f rfl k6
   |list l=>rw[e1] at e;exact fT e
   |_=>replace i:=e1▸i;exact nS i
 |_=>exact nS i
theorem TE.attr {pos:dA}(k:u_ o=true)(q:TE C d B M o y a j)(i:te j.hp a p=Y v):TE C d B M (.Attribute o p pos) y v j:=λU f t L H QQq w g=>by
 refine Attribute_any_ (q U f t L H _ _ λn b T A G=>?_) ?_
 .exact Lo A.H G i _ _ λc s x I=>g c s (T.trans x.le) (A.ry x) I
 .have e:eval (.Attribute o p pos) f=(do
   let h←attributeBase o p f (eval o f)
   er pos.atName
   let r←gq [h] (getAttr h p true)
   m7 o h r
   pure r):=by with_unfolding_all rfl
  refine ax e<|Q (Bc k) rfl
end
section
variable {st rG U u:St}
theorem K2 {l:List<|ba×V}{m:ba->Option aj}(h:∀x,l.lookup x=N->m x=N):Within m<|l.map (·.1):=λy hy=>by
 cases q:l.lookup y with
 |none=>exact absurd (h y q) hy|some v=>
  clear hy h
  induction l with
  |nil=>exact Vm.nS q|cons x l ih=>
   rw[bM] at q
   split at q
   .rename_i e;exact Q (eq_of_beq e)<|.head _
   .exact .tail _<|ih q
theorem Jj {a:cD}{l:List<|ba×V}{b:ba->Option aj}(G:Rep a T I σ k s)(d:∀j k,l.lookup j=Y k->∃s,b j=Y s/\Rep a T I σ k s)(h2:∀j,l.lookup j=N->b j=N) :
  (∀j L,((n,k)::l).lookup j=Y L->∃c,(λe=>if e=n then Y s else b e) j=Y c/\Rep a T I σ L c)/\(∀j,((n,k)::l).lookup j=N->(λe=>if e=n then Y s else b e) j=N):=by
 refine ⟨λj L f=>?_,λj f=>?_⟩
 .rw[bM] at f
  split at f
  .rename_i H;(refine Vm.sI f ?_;clear f;rintro rfl);exact qp s (ql<|eq_of_beq H) G
  .rename_i H;exact qt (d j L f) λc o g=>qp c ((qm<|by simpa using H).trans o) g
 .revert f;refine Q (bM ..) ?_;intro f
  split at f
  .exact Vm.sN f
  .rename_i H;exact (qm<|by simpa using H).trans<|h2 j f
theorem Xv (H:qP C hp W)(e:W.σ[i]?=Y a)(I:FnAt C W hp i a f cl N fd dict)(hv:qu C W v z)(Bs:sS n=true):TH C A (setAttr (.ref a) n z) (λV V=>True) (hp.set i (.fn f cl<|Y hp.length)++[.ns [(n,v)]]) W:=by
 obtain ⟨T,fo,As,V6⟩:=I
 cases dict with
 |some D=>exact V6.elim|none=>
  intro QQq E hQ;obtain ⟨G,σ,s⟩:=W;obtain ⟨hh,g,dd,h,os⟩:=s;refine wpAny_toks<|zu.E9 T.at_ (zL Bs) (λdx x q=>nS q) λV x Q' E' Q4=>?_
  have c:a≠hh.objs.size:=cJ<|bP T.at_
  refine zu.JY (fM.Ns1.of_empty<|AJ _ (#[]) _ ((oh _ _ _ _ c.symm).trans<|fM.get?_push_at rfl rfl) rfl (λe he=>absurd he<|by simp) λV=>rfl) Within.nil (by simp) λh' Zk JL hs=>Q4 _ λw=>?_
  refine qt (Bj.of JL) λobD gD nD=>?_
  have hx':h'.get? a=Y ⟨.type "function",Y hh.objs.size,.func fd,#[]⟩:=(hs.2 a c).trans<|d9 _ (aY _ T.at_) rfl
  have k:∀b o,b≠a->hh.get? b=Y o->h'.get? b=Y o:=λb o z q=>(hs.2 b<|cJ<|bP q).trans<|(oh _ _ _ _ z).trans<|aY _ q
  have t:=Jj (l:=[]) (n:=n) (qu.mono hv (W':=⟨G,σ++[hh.objs.size],⟨h',g,dd,Zk,os⟩⟩) ⟨Gh.le.refl _,rl.push _ _⟩) (λd v q=>nS q) λV V=>rfl
  have H3:=((H.upd (s':=⟨h',g,dd,Zk,os⟩) e k hx' (.gone _) rfl rfl w).AN gD H.sD H.wo H.vn H.freshT<|.ns nD t.1 t.2).upd (o:=.fn f cl<|Y hp.length) (rl.push _ _ _ _ e) (λV V V q=>q) hx' (.fn fo (λd j q=>let ⟨y,p,r⟩:=As d j q;(qp y (rl.push _ _ _ _ p) r)) (by
   show (σ++[hh.objs.size])[hp.length]?=Y hh.objs.size;refine J H.len<|Q dN rfl)) rfl rfl<|ag _
  have eL:(hp.set i .gone++[O.ns [(n,v)]]).set i (.fn f cl<|Y hp.length)=hp.set i (.fn f cl<|Y hp.length)++[O.ns [(n,v)]]:=by refine Q (nJ _ _<|by simpa using (J H.len<|(aO.mp e).1))<|Q (kh ..) rfl
  rw[eL] at H3
  refine hQ ⟨G,σ++[hh.objs.size],⟨h',g,dd,Zk,os⟩⟩ _ ⟨⟨Gh.le.refl _,rl.push _ _⟩,λL o p q r h=>⟨k L o (λz=>r<|Q z<|bG e) p,q,λz=>?_⟩⟩ H3 trivial;rcases bO.mp z with z|z
  .exact r z
  .rw[aM.mp z] at p;exact absurd (bP p)<|b8 _
theorem S_ (n:qP C a W){j:List<|ba×V}(e:a[h]?=Y (.ns j))(I:FnAt C W a c v f cl (Y h) fd y)(hv:qu C W k z)(i:sS p=true)(L:j.length<100):TH C d (setAttr (.ref v) p z) (λP P=>True) (a.set h<|.ns<|(p,k)::j) W:=by
 have A:=I.hd
 cases y with
 |none=>exact A.elim|some D=>
  refine sd (VH n A e) λobD m NNq=>?_
  intro QQq E hQ;obtain ⟨G,σ,s⟩:=W;obtain ⟨hh,g,dd,t,os⟩:=s;exact wpAny_toks<|zu.E9 I.t.at_ (zL i) (λw x q Q' E' Q4=>J (ae q)<|zu.JY (NNq.ns.ns NNq.t.at_) (K2 NNq.EZ) (Q (ao ..)<|lB _ L) λh' T JL hs=>Q4 _ λBp=>qt (Bj.of JL) λakM H nD=>hQ ⟨G,σ,⟨h',g,dd,T,os⟩⟩ _ (NNq.t.kept _ λb o z q=>(hs.2 b z).trans q) (n.upd A (λb o z q=>(hs.2 b z).trans q) H (.ns nD (Jj hv NNq.hl NNq.EZ).1 (Jj hv NNq.hl NNq.EZ).2) rfl rfl Bp) trivial) λq=>sN q
theorem Ho (T:qP C hp W)(k:qu C W o a)(w:qu C W v s)(e:yG hp o p v=Y hp'):TH C A (setAttr a p s) (λV V=>True) hp' W:=by
 cases o with
 |ref c=>
  obtain ⟨x,rfl,i⟩:=k.inv;have e:Of hp c p v hp[c]?=Y hp':=e
  cases n:hp[c]? with
  |none=>rw[n] at e;exact nS e
  |some o=>cases o with
   |fn t y h=>
    revert e;refine Q n ?_;intro e;refine sd (HW T i n) λq f G=>?_
    cases h with
    |none=>exact qX e λz e=>J (ae e)<|Xv T i G w z
    |some j=>
     have e:putN hp j p v hp[j]?=Y hp':=e
     cases H:hp[j]? with
     |none=>rw[H] at e;exact nS e
     |some o=>cases o with
      |ns l=>rw[H] at e;exact qX e λz e=>J (ae e)<|S_ T H G w z.1 z.2
      |_=>rw[H] at e;exact nS e
   |_=>replace e:=n▸e;exact nS e
 |_=>exact nS e
theorem TS.setAttr {c:dA}(h:TE C d B M e st v U)(x:TE C d B M o U a u)(i:yG u.hp a n v=Y hp'):TS C d B M (.Assign [.Attribute o n p] e c) st .next ⟨u.loc,hp'⟩:=λb f s L ha QQq j g=>plainObj_wpAny_Assign_Attribute (h b f s L ha _ _ λq c₁ T y G=>x b f q L y _ _ λt w z A I=>Ho A.H I (G.mono z) i _ _ λxj J k H J=>g xj _ ((T.trans z).trans k.le) (A.kept k H) rfl) FC
end
theorem Hr {c:Nat}:∀(a:List aj),jc a->codeAmong e (a++[fH c,fH h,v])=(codeAmong e a).or (if ((c:Int)==e.line&&(h:Int)==e.col)=true then Y v else N):=by
 intro a s
 fun_induction jc a with
 |case1=>rfl|case2 q x d t f rest b=>
  simp only[jq,codeAmong]
  split
  .rfl
  .exact b s
 |case3=>exact s.elim
theorem K5 {d:Nat}:∀(a:List aj),jc a->jc (a++[fH d,fH c,v]):=by
 intro a s
 fun_induction jc a with
 |case1=>assumption|case2 q x e t f rest b=>
  exact b s
 |case3=>exact s.elim
theorem ahO {b:aj->ay->Prop}{U:ay}{q:bK}{e:dA}{d:ba->Option aj}{QQq:aj->ay->Prop}(g:closureFor scope env=pure D1)(i:env.globals=c_)(k:U.heap.Ns c_ d)(n:env.code=.ref c)(j:p9 U.heap c q)(z:U.heap.get? q=Y (tabObj ps))(t:jc ps.toList)(p:c_≠q)(f:U.heap.BuiltinsAt d q)(u:∀(fd:FuncData)(w:bK)(v:fM)(x:pH),fd.params=params->fd.body=body->fd.scope=scope->fd.qualname=qual->fd.globals=c_->fd.builtins=eX->fd.defaults=.none->fd.kwdefaults=.none->fd.closure=D1->U.heap.objs.size<=v.objs.size->
   ((codeAmong e ps.toList=Y fd.code/\(∀H o,U.heap.get? H=Y o->v.get? H=Y o))\/
    (codeAmong e ps.toList=N/\nR q U.heap v/\U.heap.objs.size<=w/\w<v.objs.size/\fd.code=.ref w/\v.CodeRec (.ref w) qual/\v.get? q=Y (tabObj<|ps++#[fH e.line,fH e.col,.ref w])))->
   QQq (.ref v.objs.size) { U with heap:=v.push ⟨.type "function",N,.func fd,#[]⟩,toks:=x }) :
  wpAny q9 A (makeFunction name qual params body scope env [] [] [] e firstLine) QQq b U:=by
 cases I:codeAmong e ps.toList with
 |none=>
  cases body with
  |expr L=>
   exact kla_makeFunction g i k n j z t I p f λw s v x y G T x4 x5=>u _ w v x rfl rfl rfl rfl rfl rfl rfl rfl rfl (aa G<|bl T)<|.inr<|Vc I y G T rfl x4 x5
  |stmts H=>
   exact makeFunction_K g i k n j z t I p f λw s a v x y G T x4 x5=>u _ w v x rfl rfl rfl rfl rfl rfl rfl rfl rfl (aa G<|bl T)<|.inr<|Vc I y G T rfl x4 x5
 |some h=>
  cases body with
  |expr L=>
   exact kla_makeFunctionHit g i k n j z t I f λs v x y G=>u _ 0 v x rfl rfl rfl rfl rfl rfl rfl rfl rfl G<|.inl ⟨I,y⟩
  |stmts H=>
   exact makeFunction_hit g i k n j z t I f λs a v x y G=>u _ 0 v x rfl rfl rfl rfl rfl rfl rfl rfl rfl G<|.inl ⟨I,y⟩
theorem q7.Xa {u:ay}(H:q7 C G σ hp s){v:bK}(a:v∈C.tabs)(b:∀w o,w≠v->s.heap.get? w=Y o->u.heap.get? w=Y o)(e:u.heap.get? c'=Y oc)(y:s.heap.objs.size<=c')(hPo:u.heap.get? v=Y ob)(tab:xV C (G.I.put c' oc) v ob)(n:u.gens=s.gens)(z:u.os=s.os)(j:s.toks<=u.toks):q7 C (G.vq c' oc) σ hp u:=by
 have fresh:∀o,s.heap.get? c'≠Y o:=λo L=>absurd (bP L)<|cU.mpr y
 have c:G.I c'=N:=by
  cases d:G.I c' with
  |none=>rfl|some o=>exact absurd (H.I _ _ d)<|fresh o
 have g:G.F c'=N:=by
  cases d:G.F c' with
  |none=>rfl|some o=>exact absurd (H.F _ _ d)<|fresh o
 have f:=(H.tab v a).1;have PF:=(H.tab v a).2.1;exact {
  I:=λw x L=>by
   rcases Gm.I8 L with ⟨rfl,rfl⟩|⟨_,L⟩
   .exact e
   .exact b w x (λd=>by subst d;rw[f] at L;exact Vm.nS L)<|H.I w x L
  F:=λw x L=>b w x (λd=>by subst d;have L:G.F w=Y x:=L;rw[PF] at L;exact Vm.nS L)<|H.F w x L
  IF:=λw L=>by
   by_cases d:w=c'
   .refine Q d ?_;clear d;exact g
   .refine H.IF w ?_;replace L:(G.I.put c' oc) w≠N:=L
    rwa [Gm.so d] at L
  top:=H.top.trans<|Gm.vL c
  tab:=λh k=>by
   refine uP (H.tab h k) λx q A U=>qt U λo L t=>tb ((Gm.so λd=>by subst d;exact fresh o L).trans x) q A ?_
   by_cases d:h=v
   .refine Q d ?_;clear d;exact qp ob hPo tab
   .exact qp o (b h o d L)<|t.mono<|Gm.vL c
  len:=H.len
  nd:=H.nd
  rX:=λi w L=>qJ (H.rX i w L) λp d rR=>qY rR λx o h1 h2 h3=>⟨(Gm.so λA=>by subst A;exact fresh o h2).trans p,d,x,o,h1,b w o (λA=>((H.tab v a).2.2.1)<|J A<|bG L) h2,h3.mono (Tm.le.refl _) (Gm.vL c)<|rl.refl _⟩
  gens:=n.trans H.gens
  os:=z.trans H.os
  pos:=ai H.pos j
  T:=λt x L=>⟨(H.T t x L).1,ai (H.T t x L).2 j⟩ }
section
variable {d u n s:St}
structure sG (C:Ctx) (g:Glob):Prop extends acH C g where
 Cz:∀cv l c q,g.yW (some cv) l c=some q->∃a P,cv=.ref a/\P∈C.tabs/\P≠fQ/\C.qual P l c=some q/\∀h:fM,(∀x o,C.tD x=some o->h.get? x=some o)->p9 h a P
 bt:∀h:fM,(∀x o,C.tD x=some o->h.get? x=some o)->∀P∈C.tabs,h.BuiltinsAt C.mg P
 gP:∀P∈C.tabs,c_≠P
 dbg:g.blt.lookup ("__debug__":ba)=none
 lim:∀h:fM,(∀x o,C.tD x=some o->h.get? x=some o)->h.NoLimit
theorem Jp {o v:Type}{b:o->Option v}:∀{l:List o}{r:List v},qO b l=Y r->(∀a∈l,∃p∈r,b a=Y p)/\(∀p∈r,∃a∈l,b a=Y p)
 |[],r,e=>by (refine Vm.sI e ?_;clear e;rintro rfl);exact ⟨(λJ e=>nomatch e),λJ e=>nomatch e⟩
 |a::l,r,e=>by
  refine qY (ro e) λp w i q z=>Q z ?_;clear z
  obtain ⟨g,t⟩:=Jp q;refine ⟨λc hx=>?_,λj hy=>?_⟩
  .rcases aE.mp hx with rfl|hx
   .exact ⟨p,.head _,i⟩
   .exact qt (g c hx) λf G H=>⟨f,.tail _ G,H⟩
  .rcases aE.mp hy with rfl|hy
   .exact qp a (.head _) i
   .exact qt (t j hy) λh G H=>qp h (.tail _ G) H
theorem De (e:zq B sc=Y cl) :
  (∀p,(p,.free)∈sc.names->∃c,idx B.cells p=Y c/\(B.scope.names.lookup p=Y .cell\/B.scope.names.lookup p=Y .free))/\
  (∀p c,(p,c)∈cl->(p,.free)∈sc.names/\idx B.cells p=Y c/\(B.scope.names.lookup p=Y .cell\/B.scope.names.lookup p=Y .free)):=by
 refine qt (cg.mp e) λj i o=>J o ?_;clear o
 obtain ⟨k,q⟩:=Jp i;have g:∀(p:ba×NameKind)(b:ba×Nat),(match B.scope.names.lookup p.1 with
  |Y .cell=>(idx B.cells p.1).map (p.1,·)|Y .free=>(idx B.cells p.1).map (p.1,·)
  |_=>N)=Y b->b.1=p.1/\idx B.cells p.1=Y b.2/\(B.scope.names.lookup p.1=Y .cell\/B.scope.names.lookup p.1=Y .free):=λp b z=>by
  split at z
  .rename_i U;obtain ⟨c,H,rfl⟩:=cg.mp z;exact ⟨rfl,H,.inl U⟩
  .rename_i U;obtain ⟨c,H,rfl⟩:=cg.mp z;exact ⟨rfl,H,.inr U⟩
  .exact Vm.nS z
 refine ⟨λp a=>?_,λp c a=>?_⟩
 .exact qt (k (p,.free)<|dr.mpr ⟨a,rfl⟩) λb W z=>qJ (g _ _ z) λW H t=>qp _ H t
 .refine qt (q (p,c)<|dw.mp a) λf G z=>qJ (g _ _ z) λH t v=>rF (dr.mp G) λT w=>?_
  obtain ⟨x,h⟩:=f;dsimp only at H t v w
  refine Q H ?_;clear H;have:h=.free:=by simpa using w
  subst this;exact ri T t v
theorem Ll {f:List<|ba×Nat}:∀{j:List<|ba×Nat},v5 M f=Y j->∀p c,(p,c)∈j->∃h,(p,h)∈f/\M[h]?=Y c:=by
 induction f with
 |nil=>exact λe p c a=>by rw[<- ae e] at a;exact nomatch a
 |cons b f g=>
  intro j e p c a;refine yZ e λt k i o z=>?_
  rw[<- ae z] at a
  exact (aE.mp a).elim (λH=>qp b.2 (Q ((b0 H).1)<|.head _)<|Q ((b0 H).2) i) λH=>(g o p c H).imp λh e=>⟨.tail _ e.1,e.2⟩
theorem W9 {ps:Array aj}{c:Nat}{e:dA}(f:c≠fQ)(t:jc ps.toList)(b:∀g v j,codeAmong g ps.toList=Y v->C.qual c g.line g.col=Y j->xX I v j)(h:C.qual c e.line e.col=Y q)(i:I c'=N)(U:xX (I.put c' oc) (.ref c') q):xV C (I.put c' oc) c<|tabObj<|ps++#[fH e.line,fH e.col,.ref c']:=by
 refine .inr ⟨f,_,rfl,by simpa using K5 ps.toList t,λg v j o z=>?_⟩;rw[eB] at o
 revert o;refine Q (Hr _ t) ?_;intro o
 cases p:codeAmong g ps.toList with
 |some a=>
  rw[p] at o
  exact (b _ _ _ (p.trans o) z).mono<|Gm.vL i
 |none=>
  rw[p,lg] at o
  exact qX o λk o=>by
   rw[aA,beq_iff_eq,beq_iff_eq] at k
   rw[(by lia:g.line=e.line),(by lia:g.col=e.col),h] at z
   exact ae o▸ae z▸U
theorem LV (hG:sG C g){pos:dA}(ha:At C B M env d W)(L:zq B sc=Y Df)(Q0:v5 M Df=Y cl)(hq:g.yW B.code pos.line pos.col=Y q)(QQq:aj->ay->Prop)(E:aj->ay->Prop)(hQ:∀W' c,W.le W'->At C B M env ⟨d.loc,d.hp++[.fn ⟨params,body,sc,q⟩ cl N]⟩ W'->qu C W' (.ref d.hp.length) c->QQq c W'.s):wpAny (model C.prog C.w) A (makeFunction name q params body sc env [] [] [] pos line) QQq E W.s:=by
 refine gk λP0 k0=>?_
 obtain ⟨s1,s2⟩:=De L
 cases H:B.code with
 |none=>rw[H] at hq;exact nS hq
 |some cv=>
 revert hq;refine Q H ?_;intro hq;obtain ⟨w,P,Bx,hP,hPs,k,G⟩:=(hG.Cz _ _ _ _ hq);subst Bx;obtain ⟨D1,c1,c2,T⟩:=Bt (λx hx hf=>by obtain ⟨xn,xk⟩:=x;subst hf;exact qt (s1 xn hx) λh p r=>qY ((λx h h1 h2=>ha.ok.cell h x (wL h1) h2) xn h p r) λi a V V e=>⟨a,e⟩)
 refine uP (ha.H.tab P hP) λpI pF pσ U=>qt U λob hob hT=>?_
 rcases hT with hT|⟨_,ps,rfl,htr,aa_⟩
 .exact absurd hT.1 hPs
 refine k0<|wpAny_toks ?_
 clear k0 s1;refine ahO c1 ha.ok.globals (by have:=ha.glob.1;rwa [ha.ok.globals] at this) (ha.ok.code _ H) (G _ λx o e=>ha.H.I x o<|ha.H.top x o e) hob htr (hG.gP P hP) (hG.bt _ (λx o e=>ha.H.I x o<|ha.H.top x o e) P hP) λfd c' h' tk x1 x2 x3 x4 x5 x6 x7 j x9 hsz aep Bp=>gk λP0 k0=>?_
 have key:∃G',Gh.le W.G G'/\G'.I env.locals=N/\q7 C G' W.σ d.hp { W.s with heap:=h',toks:=tk }/\xX G'.I fd.code q/\(∀b o,b≠P->W.s.heap.get? b=Y o->h'.get? b=Y o):=by
  rcases aep with ⟨y1,y2⟩|⟨y1,y2,y3,y4,y5,y6,y7⟩
  .exact zA W.G (.refl _) ha.L.I (ha.H.ext y2 Bp rfl rfl) (aa_ _ _ _ y1 k) λb o V e=>y2 b o e
  .obtain ⟨c2',oc,vs,t,z1,z2,z3,z4⟩:=y6
   cases z1
   have cI:W.G.I c'=N:=by
    cases qq:W.G.I c' with
    |none=>rfl|some o=>exact absurd (bP<|ha.H.I _ _ qq)<|cU.mpr y3
   refine zA (W.G.vq c' oc) (Gh.wK cI) ((Gm.so<|cJ<|ai ha.lt y3).trans ha.L.I) (ha.H.Xa hP (λb o z e=>y2 b o z e) z2 y3 y7 (W9 hPs htr aa_ k cI<|AI c' oc vs t rfl (Gm.rO _ _ _) z3 z4) rfl rfl Bp) (Q y5<|AI c' oc vs t rfl (Gm.rO _ _ _) z3 z4) λb o z e=>y2 b o z e
 refine HC key λG' lG lI H' hcd hk=>?_
 have I:rA C.w.params G'.T G'.I (W.σ++[h'.objs.size]) ⟨.type "function",N,.func fd,#[]⟩<|.fn ⟨params,body,sc,q⟩ cl N:=by
  refine .fn ⟨x1,x2,x3,x4,x5,x6,x7,j,hcd⟩ (λx i hx=>qt (Ll Q0 x i<|mem_of_lookup hx) λh hk1 V3=>qJ (s2 x h hk1) λp1 p2 p3=>qY ((λx h h1 h2=>ha.ok.cell h x (wL h1) h2) x h p2 p3) λi' a r1 r2 r3=>?_) trivial;rw[V3] at r1;(refine Vm.sI r1 ?_;clear r1;rintro rfl)
  obtain ⟨a',r4⟩:=T x p1;have:=c2 x a' r4;rw[r3] at this;(refine Vm.sI this ?_;clear this;rintro rfl)
  exact qp a (rl.push _ _ _ _ r2)<|Q x9 r4
 have lW:W.le ⟨G',W.σ++[h'.objs.size],{ W.s with heap:=h'.push ⟨.type "function",N,.func fd,#[]⟩,toks:=tk }⟩:=⟨lG,rl.push _ _⟩;refine k0<|hQ ⟨G',W.σ++[h'.objs.size],{ W.s with heap:=h'.push ⟨.type "function",N,.func fd,#[]⟩,toks:=tk }⟩ _ lW ⟨ha.ok.mono lW.σ,H'.ahK ⟨.type "function",N,.func fd,#[]⟩ _ rfl I<|ag _,⟨?_,lI,Q lG.F ha.L.F,?_,ha.L.T⟩⟩<|.ref<|by refine J ha.H.len<|ax dN rfl
 .refine qt ha.L.ns λm xY y=>?_;obtain ⟨o,es,ep,z,rest⟩:=xY
  exact qp m (wR o es ep (aY _<|hk _ _ (λz=>ha.L.T<|Q z hP) z) rest) λi x v e f=>qt (y i x v e f) λc p q=>qp c p<|q.mono lW
 .intro z;rcases bO.mp z with z|z
  .exact ha.L.σ z
  .exact absurd (aM.mp z)<|cJ<|ai ha.lt hsz
end
section
variable {i j k o:St}
theorem wY (e:wH p=true):∃a,p=⟨[],a,N,[],[],N,[]⟩/\a.all (·.annotation.isNone)=true:=by
 obtain ⟨f,q,y,u,G,h,d⟩:=p;delta wH at e
 simp only[aA,f9,ly] at e
 obtain ⟨⟨⟨⟨⟨⟨t,I⟩,c⟩,H⟩,z⟩,n⟩,s⟩:=e;subst t I c H z n;exact qp q rfl s
theorem He:∀{as:List Arg},as.all (·.annotation.isNone)=true->annotationsOf as env=[]
 |[]=>@λJ=>rfl
 |⟨p,N,e⟩::as=>@λf=>He (as:=as) (by simpa using f)
 |⟨p,Y z,e⟩::as=>@λf=>by simp at f
theorem KS (e:wH p=true):annTrees p N env=[]:=by
 refine qt (wY e) λf q n=>?_;subst q
 delta annTrees;simp only[bh,Option.toList_none,dY];exact Q (He n) rfl
theorem TE.lam (f:sG C g){e:dA}(h:wH params=true)(p:zq B sc=Y Df)(n:v5 M Df=Y cl)(z:g.yW B.code e.line e.col=Y (B.qual++"<lambda>")) :
  TE C d B M (.Lambda params body sc e) i (.ref i.hp.length) ⟨i.loc,i.hp++[.fn ⟨params,.expr body,sc,B.qual++"<lambda>"⟩ cl N]⟩:=λT q s L I U t u=>by
 refine kla_eval ?_ ?_
 .refine qt (wY h) λG H J=>?_;subst H
  exact Q (defaultsOf_eq ..) (rfl:(evalEach [] q,evalEachOpt [] q)=([],[]))
 .exact Q I.ok.qual<|LV f I p n z U t u
theorem TS.DX (f:sG C g){e:dA}(p:wH params=true)(q:zq B sc=Y Df)(s:v5 M Df=Y cl)(z:g.yW B.code e.line e.col=Y (B.qual++name))(w:yo B (.Name name np) tg)(H:rz M (n+1) tg (.ref i.hp.length) ⟨i.loc,i.hp++[.fn ⟨params,.stmts body,sc,B.qual++name⟩ cl N]⟩=Y j) :
  TS C d B M (.FunctionDef name params body [] N [] sc N name e) i .next j:=λU t u L I QQq v h=>by
 have hqn:qualnameIn t name name=B.qual++name:=by
  delta qualnameIn;have:t.kindOf name≠Y .globalExplicit:=by
   delta ft;refine Q I.ok.scope ?_
   cases w with
   |l x J=>exact Q x λA=>nomatch A
   |cell x J=>exact Q x λA=>nomatch A
  refine ax (qm<|by simpa using this)<|Q I.ok.qual rfl
 have a:defaultsOf params t=([],[]):=by
  refine qt (wY p) λG b J=>?_;subst b
  exact Q (defaultsOf_eq ..) (rfl:(evalEach [] t,evalEachOpt [] t)=([],[]))
 refine Q (exec_def ..)<|af<|wpAny_standAt<|af<|cT<|Q a<|Q (KS p)<|Q hqn<|af<|wpAny_pure<|af<|cT<|wpAny_pure<|cT<|af<|wpAny_pure<|LV f I q s z _ _ λW1 c T y r1=>af<|wpAny_standAt<|af<|Cv w H y r1 _ _ λW2 J l2 a2 J=>wpAny_pure<|h W2 _ (T.trans l2) a2 rfl
end
noncomputable def bindAll (U:List Nat):List Tg->List V->St->Option St
 |[],[]=>@λx=>Y x
 |t::u,k::G=>@λx=>match rz U 5 t k x with
  |Y x=>bindAll U u G x|N=>N
 |J,W=>@λJ=>N
def zY (U:K):List ba->List Tg->Prop
 |[],[]=>True|x::a,q::f=>(∃e,yo U (.Name x e) q)/\zY U a f
 |J,W=>False
theorem KD {x:St}(e:bindAll M (q::ts) (k::vs) x=Y rG):∃u,rz M 5 q k x=Y u/\bindAll M ts vs u=Y rG:=by
 have b:∀y:Option St,(match y with|Y x=>bindAll M ts vs x|N=>N)=Y rG->∃u,y=Y u/\bindAll M ts vs u=Y rG:=by
  intro y e
  cases y with
  |none=>exact nS e|some n=>exact qp n rfl e
 exact b _ e
theorem Gj (b:ba×aj->PUnit->gE (ForInStep PUnit))(d:∀p s u,b (p,s) u=(do storeName env p s;pure (.yield ⟨⟩))) :
  ∀{f:List<|ba×aj}{j:List Tg}{vs:List V}{st I:St}{W:Wd},zY B (f.map (·.1)) j->bindAll M j vs st=Y I->qD C W vs (f.map (·.2))->At C B M env st W->
   Tr C B M env A (forIn f PUnit.unit b) I (λJ J=>True) W
 |[],[],[],J,P,W,F,e,R,L=>ae e▸λJ J hq=>wpAny_pure<|hq W _ (Wd.le.refl _) L trivial
 |xc::f,t::j,s::vs,st,I,W,a,e,U,L=>λQQq c hq=>by
  obtain ⟨g,G,i,k,o⟩:=U.inv;obtain ⟨n,z⟩:=fE i;refine qt (KD e) λv H e=>Q (gy ..)<|Q (d ..) ?_
  obtain ⟨⟨x,w⟩,ht2⟩:=a;exact af<|af<|Iq w H L ((show xc.2=g from n).symm▸k) _ _ λW1 J T y J=>wpAny_pure<|Gj b d ht2 e ((show f.map (·.2)=G from z).symm▸qD.mono o T) y _ _ λW2 h l2 a2 q=>hq W2 h (T.trans l2) a2 q
 |[],_::_,_,_,_,_,a,_,_,_=>a.elim|_::_,[],_,_,_,_,a,_,_,_=>a.elim
 |[],[],_::_,_,_,_,_,e,_,_=>nS e|_::_,_::_,[],_,_,_,_,e,_,_=>nS e
section
variable {W:Wd}
open Classical in
noncomputable def Wd.vH (T:Ctx)(s:Wd):Gm:=λv=>if s.G.I v=N/\v∉s.σ/\v∉T.tabs then s.s.heap.get? v else N
def Wd.xE (T:Ctx)(W:Wd):Wd:=W.tL<|W.vH T
theorem xR (e:W.vH C b=Y o):W.G.I b=N/\b∉W.σ/\b∉C.tabs/\W.s.heap.get? b=Y o:=by
 delta Wd.vH at e
 split at e
 .rename_i U;exact tb U.1 U.2.1 U.2.2 e
 .exact Vm.nS e
theorem GB (e:W.G.I b=N)(G:b∉W.σ)(a:b∉C.tabs)(i:W.s.heap.get? b=Y o):W.vH C b=Y o:=by delta Wd.vH;exact ax (ql<|ri e G a) i
theorem q7.all (H:qP C hp W):qP C hp<|W.xE C where
 I:=H.I
 F b x e:=(xR e).2.2.2
 IF b e:=by
  show W.vH C b=N
  cases q:W.vH C b with
  |none=>rfl|some o=>exact absurd (xR q).1 e
 top:=H.top
 tab P hP:=by
  refine qJ (H.tab P hP) λx y z=>ri x ?_ z
  show W.vH C P=N
  cases q:W.vH C P with
  |none=>rfl|some o=>exact absurd hP (xR q).2.2.1
 len:=H.len
 nd:=H.nd
 rX i b e:=by
  refine qJ (H.rX i b e) λp q z=>ri p ?_ z
  show W.vH C b=N
  cases q:W.vH C b with
  |none=>rfl|some o=>exact absurd (bG e) (xR q).2.1
 gens:=H.gens
 os:=H.os
 pos:=H.pos
 T:=H.T
theorem q7.acW (H:qP C hp W)(T:(W.xE C).le W')(U:qP C hp' W'):Kept C W (W'.tL W.G.F)/\qP C hp' (W'.tL W.G.F):=by
 have b:∀v G,W.G.F v=Y G->W'.G.F v=Y G:=λv G e=>by
  refine Q T.G.F ?_;have i:W.G.I v=N:=by
   cases z:W.G.I v with
   |none=>rfl|some o=>have:=H.IF v<|Q z λc=>Vm.sN c;rw[e] at this;exact Vm.sN this
  refine GB i (λc=>?_) (λc=>?_)<|H.F v G e
  .obtain ⟨d,I,z⟩:=cH c;refine qJ (H.rX d v<|J z<|aD I) λV k V=>?_
   rw[e] at k;exact Vm.sN k
  .have:=(H.tab v c).2.1;rw[e] at this;exact Vm.sN this
 refine ⟨⟨⟨⟨T.G.I,rfl,T.G.T⟩,T.σ⟩,λq o k z L a=>?_⟩,U.HN b⟩;have f:W'.G.F q=Y o:=Q T.G.F<|GB z L a k
 refine ri (U.F q o f) ?_ λc=>?_
 .cases g:W'.G.I q with
  |none=>exact g|some G=>have:=U.IF q<|Q g λc=>Vm.sN c;rw[f] at this;exact Vm.sN this
 .obtain ⟨d,I,e⟩:=cH c;refine qJ (U.rX d q<|J e<|aD I) λV k V=>?_
  rw[f] at k;exact Vm.sN k
noncomputable def wg (a:List<|ba×Nat):List (ba×NameKind)->Nat->Option (List Nat)
 |[]=>@λJ=>Y []
 |(y,.cell)::r=>@λb=>(wg a r<|b+1).map (b::·)
 |(y,.free)::r=>@λb=>match a.lookup y,wg a r b with
  |Y i,Y l=>Y<|i::l
  |J,W=>N
 |_::r=>@λb=>wg a r b
noncomputable def aey (a:List<|ba×NameKind):List ba:=(a.filter λx=>x.2==.cell||x.2==.free).map (·.1)
def zy (a:List<|ba×Nat)(f:List<|ba×NameKind)(c:Nat)(U:List Nat)(h:Nat)(p:ba):Prop:=(∃t,(ownOf f)[t]?=Y p/\U[h]?=Y (c+t))\/((p,NameKind.free)∈f/\∃T,a.lookup p=Y T/\U[h]?=Y T)
theorem zy.own (G:zy cells names (c+1) l k x):zy cells ((n,.cell)::names) c (c::l) (k+1) x:=G.elim (λU=>qt U λt e i=>.inl ⟨t+1,e,i.trans<|qn Y<|cV c 1 t⟩) λu=>rF u λe i=>.inr ⟨.tail _ e,i⟩
theorem zy.free (G:zy cells names b l k x):zy cells ((n,.free)::names) b (t::l) (k+1) x:=G.elim (λU=>qt U λT e i=>.inl<|qp T e i) λu=>rF u λe i=>.inr ⟨.tail _ e,i⟩
theorem zy.other (e:ownOf ((n,kd)::names)=ownOf names)(G:zy cells names b l k x):zy cells ((n,kd)::names) b l k x:=G.elim (λU=>qt U λt i o=>.inl<|qp t (J e.symm i) o) λu=>rF u λi o=>.inr ⟨.tail _ i,o⟩
theorem Rv {U:List Nat}(e:wg cells ((n,.free)::names) b=Y U):∃i u,cells.lookup n=Y i/\wg cells names b=Y u/\i::u=U:=by
 have c:∀(y:Option Nat)(h:Option<|List Nat),(match y,h with|Y i,Y u=>Y<|i::u|_,_=>N)=Y U->∃i u,y=Y i/\h=Y u/\i::u=U:=by
  intro y h e
  cases y with
  |none=>exact nS e|some i=>cases h with
   |none=>exact nS e|some u=>exact ta i u rfl rfl<|ae e
 exact c _ _ e
theorem zU:∀{names:List<|ba×NameKind}{b:Nat}{M:List Nat},wg cells names b=Y M->∀(h:Nat)(p:ba),(aey names)[h]?=Y p->zy cells names b M h p
 |[],b,M,e,h,p,i=>nomatch i|(j,k)::names,b,M,e,h,p,i=>by
  cases k with
  |cell=>
   refine qt (cg.mp (e:(wg cells names<|b+1).map (b::·)=Y M)) λd n z=>J z ?_
   cases h with
   |zero=>exact .inl<|qp 0 i rfl
   |succ h=>exact (zU n h p i).own
  |free=>
   refine qY (Rv e) λt d H c z=>J z ?_
   cases h with
   |zero=>exact .inr<|J (ae i) ⟨.head _,t,H,rfl⟩
   |succ h=>exact (zU c h p i).free
  |_=>exact zy.other rfl<|zU (names:=names) e h p i
theorem Jc {a:List<|ba×NameKind}(x:(a.map (·.1)).Nodup)(c:(p,NameKind.free)∈a):p∉ownOf a:=λG=>by
 obtain ⟨⟨j,h⟩,T,e⟩:=bY.mp G;obtain ⟨b,i⟩:=dr.mp T;dsimp only at e i
 subst e;have n:=w5 x b;rw[w5 x c] at n;(refine Vm.sI n ?_;clear n;rintro rfl)
 exact Vm.fT i
structure D8 (B:K):Prop where
 fn:B.scope.kind=.function
 co:B.scope.isCoroutine=false
 gen:B.scope.isGenerator=false
 slots:B.slots=slotNames B.scope
 cells:B.cells=Cb B.scope
 nd:(B.scope.names.map (·.1)).Nodup
theorem Ut {D1:List<|ba×bK}{s:aj}{binds:List<|ba×aj}(H:qP C hp W)(g:D8 B)(Q0:wg j B.scope.names hp.length=Y cs')(b:∀x c,j.lookup x=Y c->∃a,W.σ[c]?=Y a/\D1.lookup x=Y a)(d:∀o,B.code=Y o->s=o)(i:bindAll cs' tgs vs ⟨aw B.slots.length N,hp++aw (q_ B.scope).length (.cell N)⟩=Y st1)(ht:zY B (binds.map (·.1)) tgs)(U:qD C W vs<|binds.map (·.2)){QQq:kK->ay->Prop}{E:aj->ay->Prop}(hQ:∀G I,W.le I->At C B cs' G st1 I->QQq G I.s) :
  wpAny (model C.prog C.w) A (jk B.scope c_ D1 binds B.qual (Y a) s N eX) QQq E W.s:=by
 simp only[jk,Option.isSome_none,gB,if_false];refine af<|j4<|af<|wpAny_layCells _ (λname kind j=>by cases z:kind==NameKind.cell<;>rfl) _ _ _ _ ?_
 have p:=tZ (W:=W) { cls:=.type "frame",data:=.dict #[] };refine rM (HP B.scope.names D1 _ _<|p.hp p.tk _ H) λu L=>?_
 have T:W.le ⟨W.G,W.σ++u,{ W.s with heap:=pushCells (W.s.heap.push { cls:=.type "frame",data:=.dict #[] }) B.scope.names }⟩:=⟨Gh.le.refl _,rl.EE _ _⟩;have a1:At C B cs' (newEnv B.scope W.s.heap.objs.size c_ (ix (W.s.heap.push { cls:=.type "frame",data:=.dict #[] }).objs.size B.scope.names D1) B.qual (Y a) s N eX) ⟨aw B.slots.length N,hp++aw (q_ B.scope).length (.cell N)⟩
   ⟨W.G,W.σ++u,{ W.s with heap:=pushCells (W.s.heap.push { cls:=.type "frame",data:=.dict #[] }) B.scope.names }⟩:=by
  refine ⟨⟨rfl,g.fn,?_,rfl,rfl,rfl,λo e=>d o e,λk x hk hl=>?_⟩,L.H,⟨qp (λJ=>N) ((pP W.s.heap<|.type "frame").keeps<|pushCells_keeps _ _) λc x v e f=>?_,H.sD,H.wo,?_,H.freshT⟩⟩
  .exact Q g.slots<|(iF _ iA).nodup g.nd
  .rw[g.cells] at hk
   rcases zU Q0 k x hk with ⟨t,p,q⟩|⟨p,c,q,r⟩
   .refine qt ((L.own<|(iF _ iA).nodup g.nd) t x p) λw e1 e2=>ta (hp.length+t) w q ?_ e2
    have hlen:=H.len;refine ax (eK<|D_ hlen)<|Q hlen<|Q (bc ..) ?_;exact e1
   .exact qt (b x c q) λw e1 e2=>ta c w r (rl.EE _ _ _ _ e1)<|(L.rest x<|Jc g.nd p).trans e2
  .skip
   revert f;refine Q jo ?_;intro f
   split at f<;>cases f
  .intro h;have h:W.s.heap.objs.size∈W.σ++u:=h;rcases bO.mp h with h|h
   .exact H.vn h
   .have:=L.new _ h;rw[bb _ rfl] at this;exact Vm.sN this
 refine af<|Gj _ (λJ J J=>rfl) ht i (qD.mono U T) a1 _ _ λn J l2 y J=>wpAny_pure<|hQ _ n (T.trans l2) y
end
theorem rk.in1 (L:rk (d+1) A)(f):rk d<|A.deeper f:=ri L.1 (av (aN<|cV ..) L.2.1)<|av (a9 (aa (aN<|cV ..)<|aP (by decide:3<=10) _) 50) L.2.2
def wx (T:Ctx)(n:FuncData)(a:List V)(f:List ba)(j:List V)(u:List ba)(G:List V):Prop:=∀(U:Around)(W:Wd)(d:List O)(H s:List aj),qP T d W->qD T W a H->qD T W j s->q6 T U (iH n ⟨H,f.zip s⟩) (λb i=>i.map (·.1)=u/\qD T b G (i.map (·.2))) W
def BodyOk (T:Ctx)(c:Nat)(H:K)(G:List Nat)(U:lD)(x:St)(k:V)(I:St):Prop:=match U with
 |.expr L=>TE T c H G L x k I|.stmts f=>(yi T c H G f x (.ret k) I)\/(yi T c H G f x .next I/\k=.none)
theorem Cc {t:FuncData}{cells:List<|ba×Nat}{st2:St}(L:rk (d+1) j)(H:qP C a W)(ho:W.s.heap.get? w=Y o)(V7:o.data=.func t)(n:t.scope=B.scope)(g:D8 B)(z:t.globals=c_)(hbl:t.builtins=eX)(c:B.qual=t.qualname++".<locals>.")(hcr:W.s.heap.CodeRec t.code t.qualname)(aeo:∀s,B.code=Y s->t.code=s)(As:∀x i,cells.lookup x=Y i->∃w,W.σ[i]?=Y w/\t.closure.lookup x=Y w)(ah3:∀h:fM,(∀x o,C.tD x=Y o->h.get? x=Y o)->h.NoLimit)(V9:wx C t as kn kv names vs)(U:qD C W as u)(A:qD C W kv I)(ht:zY B names tgs)(Q0:wg cells B.scope.names a.length=Y cs')(hb:bindAll cs' tgs vs ⟨aw B.slots.length N,a++aw (q_ B.scope).length (.cell N)⟩=Y st1)(zR:BodyOk C d B cs' t.body st1 v st2) :
  TH C j (call (.ref w) u<|kn.zip I) (λW' s=>qu C W' v s) st2.hp W:=λQQq E hQ=>by
 have G:∀W' s,(W.xE C).le W'->qP C st2.hp W'->qu C W' v s->QQq s W'.s:=λW' s T H' r=>by
  obtain ⟨k,H2⟩:=q7.acW H T H'
  exact hQ (W'.tL W.G.F) s k H2 r
 have VX:j.depth<recursionLimit:=av (aK _ _)<|eG L.2.1<|by decide
 have block:∀(R:Result->ay->Prop)(body:kK->Code)(W1:Wd)(q:List<|ba×aj),xm C (W.xE C) W1->q.map (·.1)=names->qD C W1 vs (q.map (·.2))->
   (∀env W2,(W.xE C).le W2->At C B cs' env st1 W2->jA (model C.prog C.w) j (body env) R W2.s)->
   wpAny (model C.prog C.w) j.in1 (jk t.scope t.globals t.closure q (t.qualname++".<locals>.") (Y w) t.code N t.builtins) (λenv Sw=>Sw.heap.NoLimit/\jA (model C.prog C.w) j (body env) R Sw) (λe s'=>R (.error e) s') W1.s:=λR body W1 q p hn hv hgo=>Q n<|Q z<|Q hbl<|J c<|Ut (p.hp p.tk _ H.all) g Q0 (λx i e=>qt (As x i e) λb e1 e2=>qp b (p.le.σ _ _ e1) e2) aeo hb (Q hn ht) hv λenv W2 l2 a2=>⟨ah3 _ λx o e=>a2.H.I x o<|a2.H.top x o e,hgo env W2 (p.le.trans l2) a2⟩
 cases V_:t.body with
 |expr e=>
  rw[V_] at zR
  exact m6<|kla_callFunE VX ho V7 (by rw[n];exact g.co) (by rw[n];exact g.gen) V_ hcr<|(V9 j.in1 (W.xE C) a u I H.all U A) _ _ λW1 q p ⟨hn,hv⟩=>block _ (λenv=>.expr e env) W1 q p hn hv λenv W2 l2 a2=>kla_codeExpr<|zR (j.deeper env) env W2 (L.in1 env) a2 _ _ λW3 s l3 y r3=>G W3 s (l2.trans l3) y.H r3
 |stmts b=>
  rw[V_] at zR
  refine m6<|codeAny_call_function VX ho V7 (by rw[n];exact g.co) (by rw[n];exact g.gen) V_ hcr<|(V9 j.in1 (W.xE C) a u I H.all U A) _ _ λW1 q p ⟨hn,hv⟩=>block _ (λenv=>.func b env) W1 q p hn hv λenv W2 l2 a2=>codeAny_func ?_
  rcases zR with zR|⟨zR,rfl⟩
  .refine zR (j.deeper env) env W2 (L.in1 env) a2 _ _ λW3 f l3 y r3=>?_
   obtain ⟨s,rfl,rc⟩:=r3;exact G W3 s (l2.trans l3) y.H rc
  .refine zR (j.deeper env) env W2 (L.in1 env) a2 _ _ λW3 f l3 y r3=>?_
   subst r3;exact G W3 .none (l2.trans l3) y.H .none
section
variable {L T j g:St}
structure v9 (C:Ctx) (d:Nat) (orc:vA):Prop where
 top:∀(a:bK)(as:List V)(kn:List ba)(kv:List V)(hp:List O)(v:V)(hp':List O),orc.top a as kn kv hp=some (v,hp')->
  (∃o fd,C.tD a=some o/\o.data=.func fd)/\∀(A:Around)(W:Wd)(xs ks:List aj),rk d A->qP C hp W->qD C W as xs->qD C W kv ks->TH C A (call (.ref a) xs<|kn.zip ks) (λW' c=>qu C W' v c) hp' W
 zV:∀(f:wQ)(cl:List<|ba×Nat)(as:List V)(hp:List O)(v:V)(hp':List O),orc.zV f cl as hp=some (v,hp')->
  ∀(A:Around)(W:Wd)(xs:List aj)(i:Nat)(a:bK)(rt:Option Nat),rk d A->qP C hp W->hp[i]?=some (.fn f cl rt)->W.σ[i]?=some a->qD C W as xs->TH C A (call (.ref a) xs []) (λW' c=>qu C W' v c) hp' W
theorem UX {b:Around}(H:qP C hp W){f:List V}(e:W.s.heap.get? u=Y (zu.zW "list.append"<|.ref a))(p:W.σ[i]?=Y a)(x:qD C W f xs)(h:Jn hp .uW (.ref i) f=Y (v,hp')) :
  TH C b (call (.ref u) xs) (λW' s=>qu C W' v s) hp' W:=by
 have h:(match hp[i]? with|Y<|.list l=>QD hp i .uW f l|_=>N)=Y (v,hp'):=h
 cases e1:hp[i]? with
 |none=>replace h:=e1▸h;exact nS h
 |some o=>cases o with
  |list l=>
   revert h;refine Q e1 ?_;intro h;refine qY (AM H p e1) λvs n t r hl=>Bv x h λy yc hy h=>qX h λc h=>λQQq E hQ=>?_
   have hz':l.length<=65536:=of_decide_eq_true c;exact zu.Ym e t.at_ (by simp only[bj,g6];exact hl▸aa hz' (by decide))<|sy h λe1 e2=>Cu H p t (by simp) (qI.append r<|.cons hy .nil) e2 (e1▸.none) hQ
  |_=>replace h:=e1▸h;exact nS h
theorem PM {b:Around}{f:kK}{e:dA}(q:rk d b){es:List a7}{s:Wd}(h:tw C d B M es L vs T)(w:At C B M f L s) :
  Tr C B M f b (evalAll<|es.map λc=>do let v←eval c f;er e;pure v) T (λi u=>qD C i vs u) s:=by
 induction h generalizing s with
 |nil=>exact λQQq o h=>wpAny_evalAll_nil<|h s _ (Wd.le.refl _) w .nil
 |cons G z ih=>exact λQQq o h=>wpAny_evalAll_cons<|af<|G _ _ s q w _ _ λn p t y H=>af<|wpAny_standAt<|wpAny_pure<|ih y _ _ λx u l2 a2 a=>h x _ (t.trans l2) a2<|.cons (H.mono l2) a
theorem ES {f:kK}{e:dA}:∀(kws:List Keyword),gM e (keywordEach kws f)=kws.map λk=>(k.arg,do let s←eval k.value f;er e;pure s)
 |[]=>rfl|⟨y,s,c⟩::kws=>qn (mD _)<|ES kws
theorem Iu {A:Around}{env:kK}{e:dA}{o:List a7}{p:List Keyword}{u H:List V}(I:p.all (λk=>k.arg.isSome)=true)(G:tw C d B M o L u j)(z:tw C d B M (p.map (·.value)) j H g)(q:rk d A)(w:At C B M env L W) :
  Tr C B M env A (evalArgs f true (o.map λc=>(false,eval c env))<|gM e<|keywordEach p env) g (λs t=>∃x,t.kw=(p.filterMap (·.arg)).zip x/\qD C s u t.pos/\qD C s H x) W:=λQQq E h=>by
 have i:(gM e<|keywordEach p env).all (·.1.isSome)=true:=by rw[ES,jE];exact I
 have n:(gM e<|keywordEach p env).map (·.2)=(p.map (·.value)).map (λc=>(do let v←eval c env;er e;pure v:gE aj)):=by rw[ES,bk,bk];rfl
 have e3:(gM e<|keywordEach p env).filterMap (·.1)=p.filterMap (·.arg):=Q (ES ..)<|Q List.filterMap_map rfl
 cases G with
 |nil=>
  exact evalArgs_kw_nil i<|Q n<|Q e3<|PM q z w _ _ λW2 x l2 y r2=>h W2 _ l2 y<|ru x rfl .nil r2
 |cons t b=>
  exact evalArgs_kw i<|(tw.cons t b).tl A env W q w _ _ λW1 vs l1 a1 a=>Q n<|Q e3<|PM q z a1 _ _ λW2 x l2 y r2=>h W2 _ (l1.trans l2) y<|ru x rfl (qD.mono a l2) r2
theorem Kz {f:Around}{b:aj->ay->Prop}{e:dA}{QQq:aj->ay->Prop}(h:wpAny q9 f (evalArgs (.ref a) true args keywords) (λp u=>(∃o x,u.heap.get? a=Y o/\o.data=.func x)/\wpAny q9 f (call (.ref a) (first++p.pos) p.kw) QQq b u) b s) :
  wpAny q9 f (j9 e (.ref a) first args keywords) QQq b s:=by
 refine af<|cT<|wpAny_mono h (λp u t=>af<|wpAny_standAt ?_) λJ J p=>p
 obtain ⟨⟨o,x,H,i⟩,c⟩:=t;have tail:∀{v:gE aj},wpAny q9 f v QQq b u->wpAny q9 f (v>>=λy=>gq [y] point>>=λJ=>pure y) QQq b u:=λht=>af<|wpAny_mono ht (λy Sw q=>af<|cT<|wpAny_point<|wpAny_pure q) λJ J p=>p
 cases n:(args.any (·.1)||keywords.any (·.1.isNone)) <;>
  refine af ?_<;>skip <;>
  refine af<|kN H ?_<;>refine Q i ?_<;>refine wpAny_pure ?_
 .first
   |refine wpAny_ite ?_
   |skip
  split<;>first
   |exact tail c
   |exact tail<|oQ c
 .first
   |exact tail<|oQ c
   |exact tail c
section
variable (U:v9 C d orc) {kws:List Keyword}(I:kws.all (λk=>k.arg.isSome)=true) (q:rk d A) (w:At C B M env L W) (G:tw C d B M es L as j) (z:tw C d B M (kws.map (·.value)) j kv g)
include U I q w G z
theorem call_top (i:orc.top a as (kws.filterMap (·.arg)) kv g.hp=Y (v,e)) :
  Tr C B M env A (j9 pos (.ref a) [] (es.map λb=>(false,eval b env))<|gM pos<|keywordEach kws env) ⟨g.loc,e⟩ (λc s=>qu C c v s) W:=λQQq h o=>by
 obtain ⟨⟨p,t,n,y⟩,x⟩:=U.top _ _ _ _ _ _ _ i;exact callWith_function_kw<|Iu I G z q w _ _ λW2 ar l2 a2 rR=>rT rR λu H r1 r2=>⟨⟨a2.H.I _ _<|a2.H.top _ _ n,y⟩,Q H<|Q (dY ..)<|a2.th (x A W2 _ u q a2.H r1 r2) QQq h λW3 s f a3 r3=>o W3 s (l2.trans f) a3 r3⟩
theorem vO {h:Nat}{x:bK}(i:W.σ[h]?=Y x) (n:Pa orc as (kws.filterMap (·.arg)) kv g.hp g.hp[h]?=Y (v,hp')) :
  Tr C B M env A (j9 pos (.ref x) [] (es.map λi=>(false,eval i env))<|gM pos<|keywordEach kws env) ⟨g.loc,hp'⟩ (λb s=>qu C b v s) W:=λQQq p u=>by
 cases y:g.hp[h]? with
 |none=>rw[y] at n;exact nS n
 |some o=>cases o with
  |fn t cl rt=>
   replace n:=y▸n
   cases H:kws.filterMap (·.arg) with
   |cons=>rw[H] at n;exact nS n
   |nil=>
    revert n;refine Q H ?_;intro n
    cases kv with
    |cons=>exact nS n|nil=>
     exact Kz<|Iu I G z q w _ _ λW2 ar l2 a2 wU=>rT wU λks c r1 r2=>sd (HW a2.H (l2.σ _ _ i) y) λfd e F=>⟨wy _ _ F.t.at_ rfl,Q (Q c<|Q H rfl:ar.kw=[])<|Q (dY ..)<|a2.th ((U.zV _ _ _ _ _ _ n) A W2 _ h x rt q a2.H y (l2.σ _ _ i) r1) QQq p λW3 s f a3 a=>u W3 s (l2.trans f) a3 a⟩
  |_=>rw[y] at n;exact nS n
theorem UT {f:String}(o:W.G.I u=Y (zu.zW f<|.ref a))(n:W.σ[i]?=Y a)(b:Ww f as (kws.filterMap (·.arg)) kv g.hp (.ref i)=Y (v,e)) :
  Tr C B M env A (j9 pos (.ref u) [] (es.map λn=>(false,eval n env))<|gM pos<|keywordEach kws env) ⟨g.loc,e⟩ (λh s=>qu C h v s) W:=λQQq x y=>by
 refine qX b λt b=>?_
 obtain ⟨rfl,H,rfl⟩:=t
 cases kws with
 |cons k kws=>
  rw[fm,aA] at I
  obtain ⟨p,hy⟩:=gj.mp I.1;rw[gm,hy] at H
  exact Wq H
 |nil=>
  obtain rfl:=z.ac9;exact zu.Lm (vP es)<|yD G q w _ _ λW2 ar l2 a2 yr=>rF yr λc r2=>⟨a2.H.I _ _<|l2.G.I _ _ o,Q c<|Q (dY ..)<|a2.th (UX a2.H (a2.H.I _ _<|l2.G.I _ _ o) (l2.σ _ _ n) r2 b) QQq x λW3 s l3 a3 r3=>y W3 s (l2.trans l3) a3 r3⟩
theorem Lz (i:es.all noStar=true)(o:qu C W f x)(n:v7 orc f as (kws.filterMap (·.arg)) kv g.hp=Y (v,e)) :
  Tr C B M env A (j9 pos x [] (backTo pos<|starEach es env)<|gM pos<|keywordEach kws env) ⟨g.loc,e⟩ (λa b=>qu C a v b) W:=by
 refine Q (rN i)<|Q (su ..) ?_
 cases f with
 |con b=>
  obtain rfl:=o.inv
  cases x with
  |ref y=>exact call_top U I q w G z n|_=>exact nS n
 |ref h=>obtain ⟨y,rfl,c⟩:=o.inv;exact vO U I q w G z c n
 |bm id p=>
  cases p with
  |ref h=>
   obtain ⟨_,s,rfl,H,t⟩:=o.inv;obtain ⟨y,rfl,c⟩:=t.inv;exact UT U I q w G z H c n
  |_=>exact nS n
 |_=>exact nS n
end
end
section
variable {s t b i j:St}
theorem TE.call (U:v9 C d orc){pos:dA}{h:List a7}{k:List Keyword}(e:h.all noStar=true)(o:k.all (λp=>p.arg.isSome)=true)(hf:TE C d B M (.Name x np) s f b)(u:tw C d B M h b as i)(w:tw C d B M (k.map (·.value)) i kv j)(n:v7 orc f as (k.filterMap (·.arg)) kv j.hp=Y (v,hp')) :
  TE C d B M (.Call (.Name x np) h k pos) s v ⟨j.loc,hp'⟩:=λq z A L H QQq I g=>wpAny_Call_Name_kw<|hf q z A L H _ _ λW1 c T y G=>Lz U o L y u w e G n QQq I λW2 c l2 a2 a=>g W2 c (T.trans l2) a2 a
theorem TE.mc (U:v9 C d orc){apos pos:dA}{es:List a7}(q:u_ o=true)(u:es.all noStar=true)(I:es.length<25)(n:(apos.endLine==pos.line)=true)(h0:TE C d B M o s a b)(z:isFn b.hp a=true)(H:te b.hp a name=Y f)(w:tw C d B M es b as i)(x:v7 orc f as [] [] i.hp=Y (v,hp')) :
  TE C d B M (.Call (.Attribute o name apos) es [] pos) s v ⟨i.loc,hp'⟩:=λA env W L ha QQq E g=>by
 refine Q (arm_eval_Call ..)<|Q (Bc q)<|af<|h0 A env W L ha _ _ λW1 h T y G=>af<|wpAny_standAt ?_
 have k:methodCallForm (es.length+([]:List Keyword).length) (backTo pos<|starEach es env) (gM pos<|keywordEach [] env)=true:=by refine Q (by refine Q (rN u)<|Q (su ..) rfl:backTo pos (starEach es env)=es.map λe=>(false,eval e env)) ?_;delta methodCallForm;have ek:keywordEach [] env=[]:=rfl;simp only[jE,ek,gM,jC,qi,qa,oY,if_true,aA,decide_eq_true_eq,fL];exact ⟨dy.mpr λJ J=>rfl,lB _ I⟩
 delta methodCall;refine Q k<|af<|cT<|Le y.H G z H _ _ λW2 r p rR=>qt rR λc hc rc=>Q hc ?_;clear hc
 exact af<|iG (by delta methodCallPos;simp[n]:methodCallPos true o env apos pos=pure pos)<|Lz U (kws:=[]) rfl L (y.ry p) w .nil u rc x QQq E λW3 c l3 a3 r3=>g W3 c ((T.trans p.le).trans l3) a3 r3
theorem J1 {o v:Type}{c d:o->Option v}:∀{l:List o},(∀x∈l,c x=d x)->l.filterMap c=l.filterMap d
 |[]=>@λJ=>rfl
 |x::l=>@λa=>by refine ax gm<|ax gm<|Q (a x<|.head _)<|Q (J1 λe f=>a e<|.tail _ f) rfl
theorem OB {a:List aj}:∀{f:List ba},f.Nodup->f.length=a.length->(f.filterMap λp=>((f.zip a).lookup p).map (p,·))=f.zip a:=by
 intro f
 induction f generalizing a with
 |nil=>intro _ _;rfl
 |cons p f ih=>
  intro x e
  cases a with
  |nil=>cases e|cons u a=>
   obtain ⟨G,T⟩:=bI.mp x;refine Q (cB ..)<|ax gm<|Q (bM ..)<|Q (beq_self_eq_true ..)<|Q (List.cons.injEq ..) ⟨rfl,(J1 λk c=>?_).trans<|ih T<|by simpa using e⟩
   refine Q (bM ..)<|Q (beq_eq_false_iff_ne.mpr λn=>G<|J n c:(k==p)=false) rfl
theorem lookup_some {a:List aj}:∀{f:List ba},f.length=a.length->∀p∈f,((f.zip a).lookup p).isSome=true:=by
 intro f
 induction f generalizing a with
 |nil=>intro _ p h;cases h
 |cons m f c=>
  intro e p h
  cases a with
  |nil=>cases e|cons u a=>
   refine Q (cB ..)<|Q (bM ..) ?_
   split
   .rfl
   .rename_i k;rcases aE.mp h with rfl|h
    .rw[beq_self_eq_true] at k;exact Vm.tF k
    .exact c (by simpa using e) p h
theorem Pc {o:FuncData}{f:List aj}(e:o.params=⟨[],as,N,[],[],N,[]⟩)(k:o.defaults=.none)(x:(as.map (·.arg)).Nodup)(n:as.length=f.length) :
  iH o ⟨f,[]⟩=pure ((as.map (·.arg)).zip f):=by
 obtain ⟨_,_,_,_,_,_,_,_,_,_,_,_,_⟩:=o;subst e k;generalize U:as.map (·.arg)=ns at *
 have n:ns.length=f.length:=by refine J U<|Q (ao ..)<|Q n rfl
 have z:ns.filter (λp=>(kU p<|ns.zip f).isNone)=[]:=mW.mpr λp a H=>by
  have:=lookup_some n p a
  rw[ly.mp H] at this
  exact fT this
 delta iH;dsimp only;refine (qm ?_).trans ?_
 .refine Q U ?_;show ¬(decide (ns.length<f.length)&&_)=true;exact Q (decide_eq_false<|by exact Q n<|b8 _) dn
 refine Q U<|(qm ?_).trans ?_
 .show ¬(!(List.filter (λp=>(kU p<|ns.zip f).isNone)<|List.take (ns.length-(kJ (0-ns.length) ([]:List aj)).length) ns).isEmpty)=true;exact Q (pZ ..)<|Q (show ns.length-([]:List aj).length=f.length from n)<|Q (mU<|aN n)<|Q z dn
 refine rwE (show (kJ ((nM (λ(q:Arg)=>q.arg) []++ns).length-(kJ (((N:Option<|Array aj).getD #[]).toList.length-(nM (λ(q:Arg)=>q.arg) []++ns).length) ((N:Option<|Array aj).getD #[]).toList).length)<|nM (λ(q:Arg)=>q.arg) []++ns).zip
       (kJ (((N:Option<|Array aj).getD #[]).toList.length-(nM (λ(q:Arg)=>q.arg) []++ns).length) ((N:Option<|Array aj).getD #[]).toList)=[] from ?_) ?_
 .exact (qn _<|pZ ..).trans<|List.zip_nil_right ..
 .refine qn (pure:_->gE (List<|ba×aj)) ?_;show pM _ (ns++[])=_;exact Q (bh ..)<|OB x n
theorem wx.plain {n:FuncData}{f:List V}(e:n.params=⟨[],as,N,[],[],N,[]⟩)(k:n.defaults=.none)(x:(as.map (·.arg)).Nodup)(hl:as.length=f.length) :
  wx C n f [] [] (as.map (·.arg)) f:=λT v o u G a U A L d hq=>by
 have z:=U.length;subst A;refine (Q (Pc e k x<|hl.trans z)<|wpAny_pure<|hq v _ (xm.refl v) ⟨?_,?_⟩:wpAny _ _ (iH n ⟨u,[]⟩) _ _ _)
 .exact d_ (by simp;lia)
 .exact Q (g_<|by simp;lia) U
end
def uO (T:Ctx)(c:Nat)(g:vA)(b:K->a7->Option X):Prop:=∀(H:K)(L:a7)(a:X),b H L=Y a->∀(h:Nat)(M:List Nat)(st:St)(k:V)(I:St),(ev g h).E M a st=Y (k,I)->TE T c H M L st k I/\∀U,rC I.hp k=Y U->TT T c H M L st U I
def Hi (T:Ctx)(c:Nat)(g:vA)(b:K->a7->Option X):Prop:=∀(H:K)(L:a7)(a:X),zl L=true->b H L=Y a->∀(h:Nat)(M:List Nat)(st:St)(I:O)(U:St),rS (ev g h) M a st=Y (I,U)->TF T c H M L st I U
theorem t_ (G:uO C d g b){x:St}(e:qO (b U) f=Y xs)(i:sJ (ev g h) M xs x=Y (vs,rG)):tw C d U M f x vs rG:=by
 induction f generalizing xs x vs rG with
 |nil=>
  obtain rfl:=ae e;exact sE i<|.nil
 |cons L f j=>
  refine qY (ro e) λa o n z H=>?_;subst H
  exact mE i λk u c i=>mL i λI p q i=>sy i λT s=>T▸s▸.cons (G U L a n h M x k u c).1 (j z q)
theorem acz (T:uO C d g b){x:St}{e:dA}(j:qO (b B) f=Y xs)(i:OV (ev g h) M xs x=Y (v,rG)) :
  TE C d B M (.BoolOp .And f e) x v rG/\∀U,rC rG.hp v=Y U->TT C d B M (.BoolOp .And f e) x U rG:=by
 induction f generalizing xs x v rG with
 |nil=>obtain rfl:=ae j;exact nS i
 |cons L f o=>
  refine qY (ro j) λa G n z H=>?_;subst H
  cases f with
  |nil=>
   obtain rfl:=ae z;obtain ⟨p,q⟩:=T B L a n h M x v rG i;refine ⟨.Wy p,λU hb=>?_⟩
   cases U with
   |true=>exact .zr (q true hb) rfl .MB|false=>exact .xM (q false hb) rfl
  |cons c f=>
   refine qY (ro z) λI s k t w=>?_
   replace i:=w▸i;refine mE i λy u A i=>rF (T B L a n h M x y u A) λp q=>mB i (λhb i=>?_) λhb i=>sy i λe6 e7=>?_
   .rw[<- w] at i
    exact rF (o z i) λi1 i2=>⟨.zr p hb rfl i1,λU Au=>.zr (q true hb) rfl<|i2 U Au⟩
   .subst e6 e7;exact ⟨.xM p hb rfl,λU Au=>J (ae<|hb.symm.trans Au)<|.xM (q false hb) rfl⟩
theorem adO (T:uO C d g b){x:St}{e:dA}(j:qO (b B) f=Y xs)(i:J9 (ev g h) M xs x=Y (v,rG)) :
  TE C d B M (.BoolOp .Or f e) x v rG/\∀U,rC rG.hp v=Y U->TT C d B M (.BoolOp .Or f e) x U rG:=by
 induction f generalizing xs x v rG with
 |nil=>obtain rfl:=ae j;exact nS i
 |cons L f o=>
  refine qY (ro j) λa G n z H=>?_;subst H
  cases f with
  |nil=>
   obtain rfl:=ae z;obtain ⟨p,q⟩:=T B L a n h M x v rG i;refine ⟨.Wy p,λU hb=>?_⟩
   cases U with
   |false=>exact .zr (q false hb) rfl .MB|true=>exact .xM (q true hb) rfl
  |cons c f=>
   refine qY (ro z) λI s k t w=>?_
   revert i;refine Q w ?_;intro i;refine mE i λy u A i=>rF (T B L a n h M x y u A) λp q=>mB i (λhb i=>sy i λe6 e7=>?_) λhb i=>?_
   .subst e6 e7;exact ⟨.xM p hb rfl,λU Au=>J (ae<|hb.symm.trans Au)<|.xM (q true hb) rfl⟩
   .rw[<- w] at i
    exact rF (o z i) λi1 i2=>⟨.zr p hb rfl i1,λU Au=>.zr (q false hb) rfl<|i2 U Au⟩
theorem RE (G:uO C d g o){f:List CmpOp}{j:List a7}{x:St}(e:f.length=j.length)(i:qO (o B) j=Y xs)(n:CP (ev g h) M a f xs x=Y (b,rG)):Dj C d B M a f j x b rG:=by
 induction j generalizing f xs a x b rG with
 |nil=>cases f with
  |nil=>exact nS n|cons=>exact nomatch e
 |cons L j ih=>cases f with
  |nil=>exact nomatch e|cons A f=>
   refine qY (ro i) λp q z H c=>?_;subst c
   cases j with
   |nil=>
    obtain rfl:=cO.mp (cC e);obtain rfl:=ae H;exact mE n λT u k n=>qN n λU s t=>sy (qn Y t) λw y=>w▸y▸.last (G B L p z h M x T _ k).1 s
   |cons e' j=>cases f with
    |nil=>exact nomatch e|cons v f=>
     refine qY (ro H) λI akI e3 e4 e5=>?_
     rw[e5] at n
     refine mE n λT u k n=>?_
     have t1:=(G B L p z h M x T u k).1;refine mB n (λhb n=>?_) λhb n=>sy n λw y=>w▸y▸.stop t1 hb
     rw[<- e5] at n
     exact .go t1 hb<|ih (cC e) H n
theorem Iz (I:uO C d g j){x:St}(e:qO (j A) f=Y xs)(i:B2 (ev g h) M xs x=Y (b,rG)):zZ C d A M f x b rG:=by
 induction f generalizing xs x b rG with
 |nil=>obtain rfl:=ae e;exact sE i<|.nil
 |cons L f ih=>
  refine qY (ro e) λa G n z H=>?_;subst H
  refine mE i λT u c i=>?_
  have o:=(I A L a n h M x T u c).2;exact mB i (λk i=>.go (o true k)<|ih z i) λk i=>sy i λU p=>U▸p▸.stop (o false k)
section
variable {u j w A G:St}
theorem PZ (e:BF o=Y x):o=Y x/\(∀I,x≠.rev I)/\(∀I,x≠.enum I):=sk e λa i e=>by
 cases a with
 |rev|enum=>exact nS e|_=>exact J (ae e)<|ri i (λW i=>X.noConfusion i) λW i=>X.noConfusion i
theorem yl (e:y9 L=Y (f,a)):∃g c,L=.Call (.Name f g) [a] [] c:=sk e λb i e=>by
 obtain ⟨h,k,o⟩:=b;obtain ⟨g,n⟩:=UU i
 cases k with
 |nil=>exact nS e|cons T k=>cases k with
  |cons=>exact nS e|nil=>cases o with
   |cons=>exact nS e|nil=>exact qN e λd z L=>(y0 z).elim λU H=>tG U g<|by refine Q n<|Q H<|Q ((b0 L).1)<|Q ((b0 L).2) rfl
theorem Gi {o:Option aj}(e:o.bind Il=Y s):o=Y (.type s):=sk e λt i e=>by
 cases t with
 |type p=>exact J (ae e) i|_=>exact nS e
theorem LN (e:isName t=true):zw t:=BR e λp f s a=>rfl
theorem Ze (h:isTup t=true):∃l k p,t=.Tuple l k p:=j2 t (eq_of_beq h) λl k p=>⟨l,k,p,rfl⟩
theorem ac_ {f:List V}(i:zw tE)(o:TE C d B M e u v st1)(s:N5 st1 v=Y (f,gd,j)):tO C d B M e tE u f gd j:=by
 have b:∀{x:List V},tO C d B M e tE u x N st1->Y (x,(N:Gd),st1)=Y (f,gd,j)->tO C d B M e tE u f gd j:=λo s=>sy s λy n=>by
  injection n with n L
  exact J y<|J n<|J L o
 cases v with
 |ref t=>
  have s:SV t st1 st1.hp[t]?=Y (f,gd,j):=s
  cases y:st1.hp[t]? with
  |none=>rw[y] at s;exact nS s
  |some I=>cases I with
   |list x=>
    rw[y] at s
    exact qN s λT U g=>sy (qn Y g) λn L=>by
     injection L with L e4
     exact n▸L▸e4▸.tracked o y U i
   |_=>rw[y] at s;exact nS s
 |lst x=>exact b (.list o i) s|tup x=>exact b (.tup o i) s
 |str p=>exact b (.str o rfl i) s|qr p=>exact b (.str o rfl i) s
 |tH q a h=>
  refine qN s λz H c=>qX H λk H=>?_
  obtain rfl:=ae H;exact b (.tH o k i)<|qn Y c
 |_=>exact nS s
theorem N0 (e:Dv x t=true)(hx:∀I,x≠.enum I):zw t:=by
 cases x with
 |enum I=>exact absurd rfl<|hx I
 |_=>exact LN e
theorem PY (I:uO C d g b){f:List V}(e:Dv a tE=true)(i:BF (b U L)=Y a)(n:tK (ev g h) M a u=Y (f,gd,j)):tO C d U M L tE u f gd j:=qJ (PZ i) λz o p=>mE ((C_ o p).symm.trans n) λk v H n=>ac_ (N0 e p) (I U L a z h M u k v H).1 n
theorem TE.builtin (f:sG C g){e:dA}(h:B.scope.names.lookup x=Y .globalImplicit)(i:g.top.lookup x=N)(n:g.blt.lookup x=Y v):TE C d B M (.Name x e) u (.con v) u:=by
 refine TE.glob h (.inr ⟨f.miss x i,f.blt x v n⟩) (λs J=>.con _) ?_
 cases H:x==("__debug__":ba) with
 |false=>rfl|true=>rw[eq_of_beq H,f.dbg] at n;exact Vm.nS n
theorem IL (f:sG C g)(T:uO C d o c){q:List V}(e:Dv x tE=true)(i:srcOf g (c B) B L=Y x)(he:tK (ev o h) M x u=Y (q,gd,j)):tO C d B M L tE u q gd j:=by
 have s:=λi:BF (c B L)=Y x=>PY T e i he
 have i:(match y9 L with
  |Y (p,a)=>if B.scope.names.lookup p=Y .globalImplicit/\g.top.lookup p=N then SW g (c B) L p a else BF (c B L)
  |N=>BF<|c B L)=Y x:=i
 cases z:y9 L with
 |none=>rw[z] at i;exact s i
 |some b=>
  obtain ⟨p,a⟩:=b;rw[z] at i
  dsimp only at i
  by_cases t:B.scope.names.lookup p=Y .globalImplicit/\g.top.lookup p=N
  .revert i;refine Q (ql t) ?_;intro i;delta SW at i
   by_cases H:(g.blt.lookup p).bind Il=Y "reversed"
   .revert i;refine Q (ql H) ?_;intro i;refine qX i λJL i=>qN i λI k U=>?_
    subst U;refine sd (yl z) λy b rR=>?_;subst rR
    have he:(match (ev o h).E M I u with
     |Y (.lst q,u)=>Y (q.reverse,(N:Gd),u)|_=>N)=Y (q,gd,j):=he
    cases hv:(ev o h).E M I u with
    |none=>rw[hv] at he;exact nS he
    |some y=>
     obtain ⟨v,st1⟩:=y;revert he;refine Q hv ?_;intro he
     cases v with
     |lst l'=>
      refine sy he λe1 e2=>?_
      injection e2 with e2 e3
      exact e1▸e2▸e3▸.rev JL (TE.builtin f t.1 t.2<|Gi H) (T B a I k h M u _ _ hv).1 (LN e)
     |_=>exact nS he
   .revert i;refine Q (qm H) ?_;intro i
    by_cases H:(g.blt.lookup p).bind Il=Y "enumerate"
    .revert i;refine Q (ql H) ?_;intro i;refine qX i λJL i=>qN i λI k U=>?_
     subst U;refine sd (yl z) λy b wU=>Q wU ?_;clear wU
     refine acS (Ze e) λelts n tp rR=>Q rR ?_;clear rR
     have he:(match (ev o h).E M I u with
      |Y (v,u)=>(OZ v).map λq=>(q.zipIdx.map λx=>V.tup [.int x.2,x.1],(N:Gd),u)
      |N=>N)=Y (q,gd,j):=he
     exact mE he λv st1 hv he=>qN he λl' h2 L=>sy (qn Y L) λe1 e2=>by
      injection e2 with e2 e3
      exact e1▸e2▸e3▸SU JL (TE.builtin f t.1 t.2<|Gi H) (T B a I k h M u _ _ hv).1 h2
    .rw[qm H] at i
     exact s i
  .rw[qm t] at i;exact s i
theorem Im {a:Comprehension}{f:List<|Comprehension×Tg}{h:St->Option (Bool×St)}{d:St->Option (List V×St)}(g:∀u T j,h u=Y (T,j)->zZ C c B M a.ifs u T j)(p:∀u s j,d u=Y (s,j)->Sa C c B M L f u s j){v:List V}{u:St}(e:sY M q b (λu=>match h u with
    |Y (true,u)=>d u|Y (false,u)=>Y ([],u)
    |N=>N) v u=Y (s,j)):AF C c B M L (a,q) f b v u s j:=by
 induction v generalizing u s j with
 |nil=>exact qX e λi e=>sy e λn z=>ri i n.symm z.symm
 |cons k v ih=>
  exact qX e λi e=>mS e λt H e=>mL e λI U x e=>mL e λT o y e=>sy e λn z=>⟨i,t,H,mT x
   (λx' h4 x=>.inr<|AI x' U I T (g _ _ _ h4) (p _ _ _ x) (J z<|ih y) n.symm)
   λx' h4 x=>sy x λe3 e4=>.inl ⟨x',g _ _ _ h4,(qn (·++T) e3).trans n▸z▸ih (Q e4 y)⟩⟩
theorem X5 (hG:sG C g)(T:uO C d s c)(e:c B L=Y xe)(i:qO (λ(a:Comprehension)=>ue B 5 a.target) v=Y ts)(n:qO (λ(a:Comprehension)=>srcOf g (c B) B a.iter) v=Y is)(h3:qO (λ(a:Comprehension)=>qO (c B) a.ifs) v=Y fs)(y:∀a∈v,BP a.iter=true)(H:(is.zip v).all (λU=>Dv U.1 U.2.target)=true)(he:yd (ev s h) M xe ts is fs u=Y (x,j)):Sa C d B M L (v.zip ts) u x j:=by
 induction v generalizing ts is fs u x j with
 |nil=>
  obtain rfl:=ae i;obtain rfl:=ae n;obtain rfl:=ae h3;exact mE he λk st1 hv he=>sy he λe1 e2=>qp k e1.symm<|J e2<|(T B L xe e h M u k _ hv).1
 |cons a v ih=>
  refine qY (ro i) λt ts' a1 a2 Ib=>?_;subst Ib
  refine qY (ro n) λI is' b1 b2 xY=>?_;subst xY
  refine qY (ro h3) λf fs' c1 c2 o=>?_;subst o
  refine mR he λq gd st1 p he=>Q (cB ..) ?_
  revert H;refine Q (cB ..)<|Q (fm ..)<|Q (aA ..) ?_;intro H
  refine ⟨λes h U z=>?_,q,gd,st1,IL hG T H.1 b1 p,Im (λu b j=>Iz T c1) (λu x j GY=>ih a2 b2 c2 (λa hq=>y a<|.tail _ hq) H.2 GY) he⟩;have:=y a<|.head _
  rw[z] at this;exact fT this
end
section
variable {j i o s u:St}
theorem TF.ahM {L:a7}{pos:dA}(h1:TE C d B M L j (.lst [k]) o)(x:TE C d B M b o (.int q) s)(w:0<=q)(H:q<65536) :
  TF C d B M (.BinOp L .Mult b pos) j (.list<|aw q.toNat k) s:=λc f t g I QQq p h=>by
 refine wpAny_BinOp<|h1 c f t g I _ _ λn z T rh G=>x c f n g rh _ _ λA y l₂ sv a=>?_
 (refine a.inv.elim ?_;clear a;rintro _ rfl)
 refine qY (wC sv.H (G.mono l₂) rfl) λv vs rR U r1=>Q rR ?_;clear rR;obtain ⟨n1,L1⟩:=U
 obtain ⟨c0,_,rfl,ra,rn⟩:=r1.inv;obtain rfl:=rn.inv;refine nE rfl ⟨_,L1,rfl⟩ (λs'=>typeIs_int s' _ _) noFill_list_mul mh gN repeat_list lQ.lookup
  (gQ gN (typeIs_int _ _ _) lT (lH _ _) (oR q _ v [c0].toArray n1)
   ⟨L1,rfl,⟨_,L1,rfl⟩,gQ mf ⟨_,L1,rfl⟩ lR (lE _ _)
    (jQ v [c0].toArray n1 q _ (by simp[hJ];exact ⟨aB (by decide) w,gi H<|by decide⟩) (by simp;lia)<|by simp[km,j5];lia)
    ⟨L1,?_⟩⟩)
 have e:List.foldl (λx1 x2=>x1++x2) #[] (aw (if [c0].toArray.isEmpty=true then 0 else q.toNat) [c0].toArray)=(aw q.toNat c0).toArray:=by simpa using (ve c0 q.toNat #[])
 exact Q e<|h ⟨A.G,A.σ,_⟩ _ ((T.trans l₂).trans ((Pext0.push _ _).strict<|ag _).le) (sv.ry<|(Pext0.push _ _).strict<|ag _)<|uu _ _ rfl (bw sv.lt) (Am sv.H rfl)<|.list<|qD.mono (qI.replicate ra q.toNat) ((Pext0.push _ _).strict<|ag _).le
inductive Co (C:Ctx) (d:Nat) (B:K) (M:List Nat) (elt:a7) (gs:List Comprehension) (sc:eT) (j:St) (out:List V) (st1 x':St):Prop
 |mk (tE:a7) (iter:a7) (ifs:List a7) (rest:List Comprehension) (tg:Tg) (r:List<|Comprehension×Tg) (l:List V) (gd:Gd) (e:gs=⟨tE,iter,ifs,0⟩::rest) (h1:yk B sc) (h2:∀es k p,iter≠.Set es k p)
  (h3:tO C d B M iter tE j l gd st1) (h4:rest=r.map (·.1)) (h5:Fx C d (B.comp sc) ((aq (q_ sc).length).map (st1.hp.length+·)++M) tE tg) (h6:∀p∈r,Fy C d (B.comp sc) ((aq (q_ sc).length).map (st1.hp.length+·)++M) p)
  (h7:AF C d (B.comp sc) ((aq (q_ sc).length).map (st1.hp.length+·)++M) elt (⟨tE,iter,ifs,0⟩,tg) r gd l ⟨aw (B.comp sc).slots.length none,st1.hp++aw (q_ sc).length (.cell none)⟩ out x') (h8:out.length<=65536)
theorem Co.tf {e:dA}{v:St}(T:Co C d B M elt gs sc j out st1 v):TF C d B M (.ListComp elt gs sc e) j (.list out) ⟨st1.loc,v.hp⟩:=by obtain ⟨a,f,x,G,q,g,H,b,rfl,p,c,h,k,I,n,U,w⟩:=T;exact .comp p c h k I n U w
theorem Rz (e:Ba B gs sc=true):yk B sc/\∀a∈gs,a.is_async=0/\BP a.iter=true:=by
 delta Ba at e
 simp only[aA,decide_eq_true_eq] at e
 obtain ⟨⟨⟨⟨z,H⟩,n⟩,x⟩,q⟩:=e;obtain ⟨t,c⟩:=gj.mp H;obtain ⟨b,d⟩:=De c;refine ⟨⟨eq_of_beq z,λp g=>let ⟨f,k,a⟩:=b p g;a,λp g=>let ⟨f,k,a⟩:=b p g;bG (wL k),λp g G=>?_,x⟩,λa T=>?_⟩
 .have:=dy.mp q p g;rw[bS,List.contains_eq_mem,decide_eq_false_iff_not] at this
  exact this G
 .have:=dy.mp n a T;rw[aA] at this
  exact ⟨eq_of_beq this.1,this.2⟩
theorem GF (f:BP e=true):∀a c g,e≠.Set a c g:=λa c g k=>by rw[k] at f;exact Vm.fT f
theorem Fm (hG:sG C g)(G:uO C d orc b)(e:Ba B (gc::w) sc=true)(U:srcOf g (b B) B gc.iter=Y I)(n:qO (λ(a:Comprehension)=>srcOf g (b<|B.comp sc) (B.comp sc) a.iter) w=Y y)(z:qO (λ(a:Comprehension)=>ue (B.comp sc) 5 a.target) (gc::w)=Y A)(H:qO (λ(a:Comprehension)=>qO (b<|B.comp sc) a.ifs) (gc::w)=Y fs)(c:b (B.comp sc) elt=Y xe)(k:((I::y).zip<|gc::w).all (λp=>Dv p.1 p.2.target)=true)(he:B3 (ev orc h) M xe A (I::y) fs (B.comp sc).slots.length (q_ sc).length j=Y (T,i)):∃st1 x',Co C d B M elt (gc::w) sc j T st1 x'/\i=⟨st1.loc,x'.hp⟩:=by
 refine rF (Rz e) λBs QY=>qY (ro z) λt ts' a1 a2 Ib=>?_;subst Ib
 refine qY (ro H) λf fs' c1 c2 xY=>?_;subst xY
 refine mR he λx gd st1 hs he=>mL he λvs x' ht he=>qX he λhz he=>sy he λe8 e9=>?_
 subst e8 e9;obtain ⟨q,g2⟩:=QY gc (.head _);obtain ⟨target,iter,ifs,as⟩:=gc;dsimp only at q g2 U a1 c1
 refine Q q ?_;clear q;rw[cB,fm,aA] at k
 refine wy st1 x' ⟨target,iter,ifs,w,t,w.zip ts',x,gd,rfl,Bs,GF g2,IL hG G k.1 U hs,(d_<|aN (Aa a2).symm).symm,λv j i G=>xZ 5 5 _ _ v j i a1 G,λp hp=>?_,Im (λj L i=>Iz G c1) (λj T i GY=>X5 hG G c a2 n c2 (λa hq=>(QY a<|.tail _ hq).2) k.2 GY) ht,of_decide_eq_true hz⟩ rfl;obtain ⟨p1,p2⟩:=p;refine ⟨(QY p1<|.tail _ (px hp).1).1,?_⟩;have key:∀{gs:List Comprehension}{A:List Tg},qO (λ(a:Comprehension)=>ue (B.comp sc) 5 a.target) gs=Y A->∀p∈gs.zip A,ue (B.comp sc) 5 p.1.target=Y p.2:=by
  intro gs
  induction gs with
  |nil=>intro A _ p hp;cases hp
  |cons a gs ih=>
   intro A G p hp;refine qY (ro G) λL r e1 e2 yq=>?_;subst yq
   rw[cB] at hp
   rcases aE.mp hp with rfl|hp
   .exact e1
   .exact ih e2 p hp
 exact λv j i G=>xZ 5 5 _ _ v j i (key a2 _ hp) G
end
section
variable {i f s t u:St}
theorem Up {y:Ev}(e:rS y M x i=Y (o,f)):(∃h,o=.list h)\/∃n v,o=.dict n v:=by
 cases x with
 |list h=>exact qN e λb J z=>.inl ⟨_,(qn nG z).symm⟩
 |bin L I a=>exact qX e λJ e=>LK e λh k w q J J J J z=>.inl ⟨_,z⟩
 |dict n v=>exact mL e λJ J J e=>mL e λJ J J e=>qX e λJ e=>sy e λz J=>.inr<|tG _ _ z.symm
 |star h=>exact mL e λJ J J e=>qN e λb J z=>.inr<|tG _ _<|(qn nG z).symm
 |comp=>exact qN e λb J z=>.inl ⟨_,(qn nG z).symm⟩
 |_=>exact nS e
theorem XT {o:List<|ba×Nat×dA}(e:sJ (ev orc h) M (o.map λb=>.k<|.qr b.1) U=Y (q,a)):q=o.map (λb=>.qr b.1)/\a=U:=by
 induction o generalizing U a q with
 |nil=>exact sy e λv n=>⟨v.symm,n.symm⟩
 |cons b o w=>
  refine mE e λk x z e=>mL e λy A H e=>sy e λv n=>?_
  cases h with
  |zero=>exact nS z|succ h=>
   refine sy z λG I=>?_
   subst G I;obtain ⟨L,T⟩:=w H;exact ⟨v.symm.trans<|qn (V.qr b.1::·) L,n.symm.trans T⟩
section
variable (p:sG C g) (j:uO C d orc c)
include j
theorem Tq {q:List a7}{e:dA}(v:uQ g c B (.List q e)=Y x)(w:rS (ev orc h) M x i=Y (o,f)):TF C d B M (.List q e) i o f:=by
 refine rW v λG v=>qN v λy n z=>?_
 subst z;refine qN w λb H A=>sy (qn Y A) λk I=>?_
 subst k I;rw[bS,b5,aA] at G
 exact .list G.1 (t_ j n H).tl (of_decide_eq_true G.2) (t_ j n H).length
theorem XF {e:dA}(v:uQ g c B (.BinOp a op b e)=Y x)(w:rS (ev orc h) M x i=Y (o,f)):TF C d B M (.BinOp a op b e) i o f:=by
 refine yZ v λI y n z H=>?_
 obtain rfl:=ae H;refine qX w λA w=>LK w λG k L q T U h4 hi eo=>?_
 subst T eo
 cases op with
 |Mult=>exact .ahM (j B a (.list G) n (h+1) M i _ _<|qM<|qM U).1 (j B b y z h M L _ _ h4).1 hi.1 hi.2|_=>exact fT A
theorem Tp {ks:List<|Option a7}{vs:List a7}{pos:dA}(hc:(ks.all (·.isNone)&&!ks.isEmpty&&ks.length==vs.length)=true)(h1:qO (c B) vs=Y xs)(he:rS (ev orc k) M (.star xs) i=Y (o,f)):TF C d B M (.Dict ks vs pos) i o f:=
 mL he λl st1 h2 he=>qN he λy h3 e2=>sy (qn Y e2) λe3 e4=>by
  revert hc;refine Q (aA ..)<|Q (aA ..) ?_;intro hc
  refine J e3<|J e4<|.star hc.1.1 (eq_of_beq hc.2) (λq=>?_) (t_ j h1 h2) h3
  rw[cO.mp<|(eq_of_beq hc.2).trans<|qn jN q] at hc
  exact fT hc.1.2
theorem Qw {k:List<|ba×Nat×dA}{q:List a7}{e:dA}(w:k.length=q.length/\k.length<=15)(x:qO (c a) q=Y v)(y:rS (ev orc h) M (.dict (k.map λb=>.k<|.qr b.1) v) i=Y (o,f)) :
  TF C d a M (.Dict (k.map λb=>Y<|.Constant (.str b.1) b.2.1 b.2.2) q e) i o f:=
 mL y λA G n y=>mL y λI L z y=>qX y λT y=>sy y λH U=>by
  obtain ⟨rfl,rfl⟩:=XT n;rw[(ax bk rfl:(k.map λb=>V.qr b.1).map rB=k.map λb=>V.str b.1)] at T H
  refine J H<|J U ?_
  cases k with
  |nil=>
   obtain rfl:=cO.mp w.1.symm;exact Q (t_ j x z).BQ.1<|J (t_ j x z).BQ.2 .aeH
  |cons b k=>exact .dict w.1 (List.cons_ne_nil _ _) w.2 (t_ j x z)<|Hd T.2.1
theorem Ts {e:dA}(q:uQ g c B (.Dict ks vs e)=Y x)(v:rS (ev orc h) M x i=Y (o,f)):TF C d B M (.Dict ks vs e) i o f:=
 aaE q (λn q=>qN q λy z H=>Tp j n z<|Q H v) λJ q=>rW q λn q=>yZ q λG A z I H=>by
  revert n;refine Q (bS ..)<|Q (b5 ..)<|Q (aA ..) ?_;intro n
  have w:=of_decide_eq_true n.2;have k:ks.length=vs.length:=eq_of_beq n.1;rw[<- ae H] at v
  refine qt (ET z) λL T U=>?_;subst T;subst U
  rw[ao] at w k
  exact Qw j ⟨k,w⟩ I v
include p
theorem Tt {e:dA}(n:uQ g c B (.ListComp elt gs sc e)=Y x)(q:rS (ev orc h) M x i=Y (o,f)):TF C d B M (.ListComp elt gs sc e) i o f:=by
 refine rW n λL n=>?_
 rw[bS,b5] at L
 cases gs with
 |nil=>exact nS n|cons a v=>
  refine Ot n λI w G fs b z H A k T U=>rW U λhT U=>?_
  rw[bS,b5] at hT
  obtain rfl:=ae U;exact qN q λy h6 e2=>sy (qn Y e2) λe3 e4=>zB (Fm p j L z H A k T hT h6) λst1 x' hf e5=>e3▸e4▸e5▸hf.tf
end
theorem Jl (z:sG C g)(A:uO C d orc c):Hi C d orc<|uQ g c:=by
 intro G L a e k h H i I f n
 cases L with
 |List l pos=>exact Tq A k n|BinOp b T o pos=>exact XF A k n
 |Dict q w pos=>exact Ts A k n|ListComp U x v pos=>exact Tt z A k n
 |_=>exact fT e
end
theorem vt {o:Type _}{v:Prop} [Decidable v] {G:o}{y:Option o}{p:o}{A:Prop}(e:(if v then Y G else y)=Y p) (b:v->G=p->A) (d:y=Y p->A):A:=by
 by_cases a:v
 .exact b a<|ae<|(ql a).symm.trans e
 .exact d<|(qm a).symm.trans e
theorem C5 {n:Bf}(c:n.ctorIdx≠Bf.set.ctorIdx):n≠.set:=λe=>c<|qn Bf.ctorIdx e
theorem KI (e:aci v=Y b):v=wA b/\b≠.set:=by
 have h:∀{f p:String}{g:Bf},f=p->g=b->wA g=.builtin p->g≠.set->g8 f=wA b/\b≠.set:=λi n z c=>by subst i n;exact ⟨z.symm,c⟩
 have d:∀{f p:String}{g:Bf},f=p->g=b->wA g=.type p->g≠.set->dh f=wA b/\b≠.set:=λi n z c=>by subst i n;exact ⟨z.symm,c⟩
 cases v with
 |builtin f=>exact vt e (h · · rfl<|C5<|by decide) λe=>vt e (h · · rfl<|C5<|by decide) λe=>vt e (h · · rfl<|C5<|by decide) λe=>vt e (h · · rfl<|C5<|by decide) λe=>vt e (h · · rfl<|C5<|by decide) λe=>vt e (h · · rfl<|C5<|by decide) λe=>vt e (h · · rfl<|C5<|by decide) nS
 |type f=>exact vt e (d · · rfl<|C5<|by decide) λe=>vt e (d · · rfl<|C5<|by decide) nS
 |_=>exact nS e
theorem GJ {g:Mt}(e:Ov n=Y g):n=w3 g:=by
 have b:∀{j:ba}{k:Mt},n=j->k=g->w3 k=j->n=w3 g:=λi o z=>by subst i o;exact z.symm
 exact vt e (b · · rfl) λe=>vt e (b · · rfl) λe=>vt e (b · · rfl) λe=>vt e (b · · rfl) λe=>vt e (b · · rfl) λe=>vt e (b · · rfl) λe=>vt e (b · · rfl) λe=>vt e (b · · rfl) λe=>vt e (b · · rfl) nS
theorem Ld:Ov "append"=Y .append:=rfl
theorem R0 (e:te hp o n=Y f)(c:n≠"append"):isFn hp o=true:=by
 cases o with
 |ref d=>
  have e:zX hp d n hp[d]?=Y f:=e;refine (?_:EU hp[d]?=true)
  cases i:hp[d]? with
  |none=>rw[i] at e;exact nS e
  |some o=>cases o with
   |fn=>rfl|list=>rw[i] at e;exact qX e λp J=>absurd p c
   |_=>rw[i] at e;exact nS e
 |_=>exact nS e
theorem Tz {o v A:Type}{c:v->Option A}{h:o->v}{a:List o}:qO c (a.map h)=qO (λG=>c<|h G) a:=by
 induction a with
 |nil=>rfl|cons p a e=>
  refine (?_:(match c (h p) with|Y b=>(match qO c (a.map h) with|Y r=>Y<|b::r|N=>N)|N=>N)=_);exact Q e rfl
theorem both {x:St}(g:TE C d B M e x k rG)(b:∀f v,j6 e f v=(do let k←v;er e.pos;gq [k] (truthy k))):TE C d B M e x k rG/\∀T,rC rG.hp k=Y T->TT C d B M e x T rG:=⟨g,λJ h=>.plain g h b⟩
theorem Wv {x:St}{r:Ev}(e:(match yy M (.cell i) x with
   |Y k=>Y (k,x)|N=>N)=Y (k,rG)):∃h,M[i]?=Y h/\x.hp[h]?=Y (.cell<|Y k)/\x=rG:=by
 have b:∀{y:Option V},(match y with|Y k=>Y (k,x)|N=>N)=Y (k,rG)->y=Y k/\x=rG:=λ{y} j=>by
  cases y with
  |none=>exact nS j|some L=>exact sy j λn z=>⟨qn Y n,z⟩
 obtain ⟨H,c⟩:=b e;delta yy at H
 dsimp only at H
 cases o:M[i]? with
 |none=>rw[o] at H;exact nS H
 |some h=>
  revert H;refine Q o ?_;intro H;dsimp only at H
  cases G:x.hp[h]? with
  |none=>rw[G] at H;exact nS H
  |some y=>cases y with
   |cell L=>rw[G] at H;exact ru h rfl (J (qn (λf=>Y<|O.cell f) H) G) c
   |_=>rw[G] at H;exact nS H
theorem aal (hG:sG C g)(e:VJ g B q=Y y){x:St}(he:(ev j c).E M y x=Y (k,rG)):TE C d B M (.Name q p) x k rG:=by
 cases c with
 |zero=>exact nS he|succ c=>
 refine rW e λG e=>?_
 have G:(q==("__debug__":ba))=false:=eq_false_of_ne_true G
 cases z:B.scope.names.lookup q with
 |none=>rw[z] at e;exact nS e
 |some h=>
  rw[z] at e
  cases h with
  |«local»=>
   refine qN e λi H f=>?_
   subst f;have he:(match x.loc[i]? with
    |Y<|Y k=>Y (k,x)|_=>N)=Y (k,rG):=he
   cases n:x.loc[i]? with
   |none=>rw[n] at he;exact nS he
   |some o=>cases o with
    |none=>rw[n] at he;exact nS he
    |some o=>rw[n] at he;exact sE he<|.l (wL H) z n G
  |cell=>
   refine qN e λi H f=>?_
   subst f;refine rT (Wv (r:=ev j c) he) λT I u L=>J L ?_;clear L
   exact .cell (wL H) (.inl z) I u G
  |free=>
   refine rW e λa e=>qN e λi H f=>?_
   subst f;refine rT (Wv (r:=ev j c) he) λT I u v=>J v ?_;clear v
   exact .cell (wL H) (.inr ⟨z,eq_false_of_ne_true a⟩) I u G
  |globalImplicit=>
   have e:VL g q (g.vals.lookup q)=Y y:=e
   cases n:g.vals.lookup q with
   |some o=>
    revert e;refine Q n ?_;intro e;obtain rfl:=ae e;obtain ⟨s,q1,b⟩:=hG.vals q o n;exact sE he<|.glob z (.inl q1) b G
   |none=>
    revert e;refine Q n ?_;intro e;have e:VK g q (g.top.lookup q)=Y y:=e
    cases U:g.top.lookup q with
    |some o=>
     rw[U] at e
     obtain rfl:=ae e;refine sE he<|.glob z (.inl<|hG.top q o U) (λA W=>?_) G
     cases o with
     |int i t=>exact .int _ _|_=>exact .con _
    |none=>
     revert e;refine Q U ?_;intro e;refine qN e λo w f=>?_
     subst f;exact sE he<|.glob z (.inr ⟨hG.miss q U,hG.blt q o w⟩) (λA W=>.con _) G
  |_=>exact nS e
abbrev Pp (T:Ctx)(e:Nat)(z:K)(x:List Nat)(L:a7)(G:St)(k:V)(y:St):Prop:=TE T e z x L G k y/\∀U,rC y.hp k=Y U->TT T e z x L G U y
theorem okB {U:St}(f:rC U.hp (.bool b)=Y b')(h:TT C d B M e s b U):TT C d B M e s b' U:=J (ae f) h
@[elab_as_elim] theorem O' {b:X->Prop}(e:H4 a f g kv=Y L)(G:b<|.call f g a kv)(k2:∀o,f=.k (.con<|wA o)->o≠.set->a=[]->b (.bf o g)):b L:=oE e (λs i e=>oE e (λo n e=>qX e λz T=>J (ae T)<|k2 o ((F6 i).trans<|qn (λs=>X.k<|.con s) (KI n).1) (KI n).2<|f9.mp z) λW e=>J (ae e)<|J (F6 i) G) λW e=>J (ae e) G
theorem aad {a:List Keyword}(e:a.all (λT=>T.arg.isSome)=true)(i:a.filterMap (·.arg)=[]):a=[]:=by
 cases a with
 |nil=>rfl|cons U a=>
  rw[fm,aA] at e
  rw[gm,(gj.mp e.1).choose_spec] at i
  exact nomatch i
theorem F1 (T:Hi C d orc<|uQ a c)(e:zl L=true)(i:uQ a c y L=Y f)(n:((rS (ev orc k) M f G).map λb=>(DP b.1,b.2))=Y (v,j)):TE C d y M L G v j:=qN n λb z U=>sE (qn Y U)<|(T y L f e i k M G _ _ z).frozen (Up z)
section
variable {A j:St}(H:uO C d orc c) (I:v9 C d orc)
include H
theorem Qp {y:Option a7}(e:Oi c U y=Y a)(i:(ev orc h).E M a A=Y (k,j)):Hf C d U M y A k j:=by
 cases y with
 |none=>
  obtain rfl:=ae e
  cases h with
  |zero=>exact nS i|succ h=>exact sE i<|.none
 |some L=>exact .some (H U L a e h M A k j i).1
theorem ac4 {e:dA}(hx:Zt c B o q=Y x)(i:(ev orc<|k+1).E M x A=Y (v,j)):TE C d B M (.Subscript o q e) A v j:=
 oE hx (λb n hx=>(Xg n).elim λt z=>by
  obtain ⟨y,h,w⟩:=b;refine Q z ?_;clear z
  cases w with
  |some s=>exact nS hx|none=>
   refine AX hx λL a G T U h3 g=>?_
   obtain rfl:=ae g;exact mE i λva u h4 i=>mE i λvb st2 h5 i=>mE i λvc st3 h6 i=>qN i λp h7 e8=>sE (qn Y e8)<|.C3 (H B o L T k M A _ _ h4).1 (Qp H U h5) (Qp H h3 h6) h7)
 λJ hx=>yZ hx λL f T U g=>by obtain rfl:=ae g;exact mE i λva u h3 i=>mE i λvb st2 h4 i=>qN i λp h5 e6=>sE (qn Y e6)<|.sub (H B o _ T k M A _ _ h3).1 (H B q _ U k M _ _ _ h4).1 h5
theorem aha {e:dA}(h:(c B L).map (X.un t)=Y x)(i:(ev orc<|k+1).E M x A=Y (o,j)):Pp C d B M (.UnaryOp t L e) A o j:=by
 refine qN h λT n z=>?_
 subst z;have p:∀{t:UnaryOp},(∀f v,j6 (.UnaryOp t L e) f v=(do let o←v;er (a7.UnaryOp t L e).pos;gq [o] (truthy o)))->(match (ev orc k).E M T A with
   |Y (L,A)=>(Vt t L).map (·,A)|N=>N)=Y (o,j)->Pp C d B M (.UnaryOp t L e) A o j:=λg i=>
  mE i λU u a i=>qN i λG q s=>sE (qn Y s)<|both (.un (H B L T n k M A _ _ a).1 q) g
 cases t with
 |Not=>
  exact mE i λU u a i=>qN i λb q s=>sE (qn Y s)<|(H B L T n k M A _ _ a).elim λw t2=>⟨.not w q,λy Au=>okB Au<|.not<|t2 b q⟩
 |Invert|UAdd|USub=>exact p (λJ J=>rfl) i
theorem aeQ {o:List a7}{e:dA}(f:uQ g c B (.Compare L ops o e)=Y x)(i:(ev orc<|k+1).E M x A=Y (v,j)):Pp C d B M (.Compare L ops o e) A v j:=by
 refine rW f λG f=>yZ f λT u n z U=>?_
 obtain rfl:=ae U;simp only[ir,not_or,Bool.not_eq_true] at G
 refine mE i λa w h i=>qN i λb p q=>sE (qn Y q)<|?_
 have s:=(H B L T n k M A _ _ h).1;exact ⟨.cmp G.1 s<|RE H (bne_eq_false_iff_eq.mp G.2) z p,λt y=>okB y<|.cmp G.1 s<|RE H (bne_eq_false_iff_eq.mp G.2) z p⟩
theorem aea {f:dA}(h:uQ g c B (.IfExp L b e f)=Y x)(i:(ev orc<|k+1).E M x A=Y (v,j)):Pp C d B M (.IfExp L b e f) A v j:=by
 refine AX h λT a o n z U p=>?_
 obtain rfl:=ae p;refine mE i λq u s i=>?_
 have t:=(H B L T n k M A _ _ s).2;exact mB i (λG i=>(H B b a z k M u _ _ i).elim λw t2=>⟨.rb (t true G) w,λy Au=>.rb (t true G)<|t2 y Au⟩)
  λG i=>(H B e o U k M u _ _ i).elim λw t2=>⟨.rb (t false G) w,λy Au=>.rb (t false G)<|t2 y Au⟩
theorem acY {f:List a7}{t:Nat}{e:dA}(h:uQ g c B (.Tuple f t e)=Y x)(i:(ev orc<|k+1).E M x A=Y (v,j)):TE C d B M (.Tuple f t e) A v j:=by
 refine rW h λG h=>qN h λo n z=>?_
 subst z;rw[bS,b5,aA] at G
 exact qN i λb L p=>sE (qn Y p)<|(.tup G.1 (t_ H n L).tl (of_decide_eq_true G.2) (t_ H n L).length)
include I
theorem aaq {e h:dA}{as:List a7}{s:List Keyword}(t:(if !(u_ o&&as.all noStar&&s.isEmpty&&decide (as.length<25)&&e.endLine==h.line) then N else o2 (c B o) (qO (c B) as) λo as=>Y<|mtX name o as)=Y x)(i:(ev orc<|k+1).E M x A=Y (v,j)):TE C d B M (.Call (.Attribute o name e) as s h) A v j:=by
 refine rW t λL t=>yZ t λT u n h2 U=>?_
 obtain rfl:=ae U;rw[bS,b5] at L
 simp only[aA,decide_eq_true_eq] at L
 obtain ⟨⟨⟨⟨c1,g⟩,y⟩,a⟩,w⟩:=L;obtain rfl:s=[]:=f9.mp y;have mc:∀{vo f:V}{st1 st2:St}{G:List V}{b:V×List O},(ev orc k).E M T A=Y (vo,st1)->isFn st1.hp vo=true->te st1.hp vo name=Y f->sJ (ev orc k) M u st1=Y (G,st2)->v7 orc f G [] [] st2.hp=Y b->(b.1,(⟨st2.loc,b.2⟩:St))=(v,j)->
   TE C d B M (.Call (.Attribute o name e) as [] h) A v j:=λa1 a2 a3 a4 a5 a6=>sE (qn Y a6)<|.mc I c1 g a w (H B o T n k M A _ _ a1).1 a2 a3 (t_ H h2 a4) a5
 delta mtX at i
 cases hm:Ov name with
 |some m=>
  rw[hm] at i
  refine mE i λvo st1 h3 i=>?_
  cases p:isFn st1.hp vo with
  |true=>exact mV ((ql p).symm.trans i) λf L9 i=>mL i λG st2 q i=>qN i λb h5 h6=>mc h3 p (Q (GJ hm) L9) q h5 h6
  |false=>
   refine mK ((qm<|by refine Q p ?_;decide).symm.trans i) λkk hkk i=>mL i λG st2 q i=>qN i λb h5 h6=>sE (qn Y h6)<|?_
   exact .mt (GJ hm) c1 g a w (H B o T n k M A _ _ h3).1 hkk (t_ H h2 q) h5
 |none=>
  revert i;refine Q hm ?_;intro i;exact mE i λvo st1 h3 i=>mV i λf p i=>mL i λG st2 q i=>qN i λb h5 h6=>mc h3 (R0 p λz=>by rw[z,Ld] at hm;exact sN hm) p q h5 h6
theorem abU {h:dA}{f:List a7}{o:List Keyword}(q:(if !(f.all noStar&&decide (f.length+o.length<12)&&o.all (λk=>k.arg.isSome)) then N else o3 (c B<|.Name p e) (qO (c B) f) (qO (λk=>c B k.value) o) λL f u=>H4 (o.filterMap (·.arg)) L f u)=Y x)(i:(ev orc<|k+1).E M x A=Y (v,j)):TE C d B M (.Call (.Name p e) f o h) A v j:=by
 refine rW q λT q=>AX q λa G s n z U q=>?_
 revert T;refine Q (bS ..)<|Q (b5 ..)<|Q (aA ..)<|Q (aA ..) ?_;intro T
 refine O' q (λi=>?_) (λb hf hb hk i=>?_) i
 .exact mE i λt st1 y i=>mL i λvs st2 h5 i=>mL i λks st3 h6 i=>qN i λw g e8=>sE (qn Y e8)<|.call I T.1.1 T.2 (H B _ a n k M A _ _ y).1 (t_ H z h5) (t_ H (ax Tz U) h6) g
 .exact Q (aad T.2 hk)<|mL i λvs st1 y i=>qN i λw' h5 e8=>sE (qn Y e8)<|.bf hb (H B _ _ (hf▸n) 1 M A _ A rfl).1 T.1.1 (t_ H z y) h5
end
theorem JC (e:HR v x=true)(n:(∃f,v=.builtin f)\/∃f,v=.type f):x=.k (.con v):=by
 delta HR at e
 cases i:O4 x with
 |none=>rw[i] at e;exact fT e
 |some a=>
  rw[i] at e
  refine ax (F6 i) ?_;obtain ⟨f,rfl⟩|⟨f,rfl⟩:=n
  .cases a with
   |builtin p=>rw[eq_of_beq (e:(p==f)=true)]|_=>exact fT e
  .cases a with
   |type p=>rw[eq_of_beq (e:(p==f)=true)]|_=>exact fT e
theorem aat (H:uO C d orc c){pos:dA}(s:lsA f h kws=Y y)(i:lsX c B f y=Y x)(n:(ev orc<|k+1).E M x A=Y (v,j)):TE C d B M (.Call f h kws pos) A v j:=by
 cases h with
 |nil=>exact nS s|cons b h=>cases h with
  |cons=>exact nS s|nil=>cases kws with
   |cons=>exact nS s|nil=>
    refine qX s λT s=>sk s λw G s=>qX s λt s=>qN s λU hw e=>?_
    obtain ⟨L,g⟩:=y0 T;refine sd (yl G) λp2 q2 e2=>?_
    subst g e2 e;revert i;refine Q (show U=(.Name w.1 p2,[w.2],[]) from (ae hw).symm) ?_;intro i;refine AX i λa xg xa h1 h2 h3 e=>qX e λhc e=>?_
    obtain rfl:=ae e;rw[aA] at hc
    rw[JC hc.1<|.inl ⟨_,rfl⟩] at h1
    rw[JC hc.2<|.inr ⟨_,rfl⟩] at h2
    refine mL n λvs st1 z n=>qN n λu h5 o=>sE (qn Y o)<|(mE z λva st2 p z=>sy (show Y ([va],st2)=Y (vs,st1) from z) λq e10=>?_)
    subst q e10;exact .ahP (H B _ _ h1 1 M A _ A rfl).1 (H B _ _ h2 1 M A _ A rfl).1 t.2 (H B _ xa h3 k M A _ _ p).1 h5
theorem ad6 (f:sG C g){e:dA}(h:uQ g c B (.Lambda args body sc e)=Y x)(i:(ev orc<|k+1).E M x A=Y (v,j)):TE C d B M (.Lambda args body sc e) A v j:=by
 refine rW h λG h=>qN h λp n z=>?_
 subst z;rw[bS,b5,aA] at G
 exact mC i λo L i=>sE i<|.lam f G.1 n L (eq_of_beq G.2)
theorem UD (hG:sG C g)(I:v9 C d orc)(H:uO C d orc c):uO C d orc<|uQ g c:=by
 have T:=Jl hG H;intro B L x e h M A k j he
 cases h with
 |zero=>exact nS he|succ h=>
 cases L with
 |Constant c kk pos=>cases c with
  |int i=>obtain rfl:=ae e;exact both (sE he<|.const_int) λJ J=>rfl
  |str s=>obtain rfl:=ae e;exact both (sE he<|.G7) λJ J=>rfl
  |bool b=>obtain rfl:=ae e;exact both (sE he<|.O3) λJ J=>rfl
  |none=>obtain rfl:=ae e;exact both (sE he<|.const_none) λJ J=>rfl
  |_=>exact nS e
 |Name a p=>exact both (aal hG e he) λJ J=>rfl
 |BinOp a t b pos=>
  refine yZ e λxa xb z h2 L=>?_
  obtain rfl:=ae L;exact mE he λva u h3 he=>mE he λvb st2 h4 he=>qN he λw h5 e6=>sE (qn Y e6)<|both (.bin (H B a xa z h M A _ _ h3).1 (H B b xb h2 h M _ _ _ h4).1 h5) λJ J=>rfl
 |UnaryOp t a pos=>exact aha H e he|BoolOp t l pos=>cases t with
  |And=>exact qN e λxs z L=>by subst L;exact acz H z he
  |Or=>exact qN e λxs z L=>by subst L;exact adO H z he
 |Compare a ops l pos=>exact aeQ H e he|IfExp q a b pos=>exact aea H e he
 |Attribute o a pos=>
  refine rW e λhc e=>qN e λxo z L=>?_
  subst L;exact mE he λva u h3 he=>qN he λw h5 e6=>sE (qn Y e6)<|both (.attr (by simpa using hc) (H B o xo z h M A _ _ h3).1 h5) λJ J=>rfl
 |List l pos=>
  exact both (F1 T rfl e<|rW e λJ e=>qN e λxs J L=>by subst L;exact he) λJ J=>rfl
 |Dict ks vs pos=>
  refine both (F1 (k:=h) T rfl e ?_) λJ J=>rfl
  have e:O0 c B ks vs=Y x:=e;delta O0 at e
  by_cases q:(ks.all (·.isNone)&&!ks.isEmpty&&ks.length==vs.length)=true
  .revert e;refine Q (ql q) ?_;intro e;exact qN e λxs J L=>by subst L;exact he
  .revert e;refine Q (qm q) ?_;intro e;exact rW e λJ e=>yZ e λJ J J J L=>by obtain rfl:=ae L;exact he
 |ListComp U gs v pos=>
  refine both (F1 (k:=h) T rfl e<|rW e λJ e=>?_) λJ J=>rfl
  cases gs with
  |nil=>exact nS e|cons q gs=>exact Ot e λJ J J J J J J J J J L=>rW L λJ L=>by obtain rfl:=ae L;exact he
 |Tuple l kk pos=>exact both (acY H e he) λJ J=>rfl
 |Lambda args body v pos=>exact both (ad6 hG e he) λJ J=>rfl
 |Subscript o i pos=>exact both (ac4 H e he) λJ J=>rfl
 |Call f as kws pos=>exact both (oE e (λy hy e=>aat H hy e he) λJ e=>oE e (λy n e=>Q (MD n)<|aaq H I e he) λJ e=>rW e λhn e=>
   BR (G:=λf=>(if !(as.all noStar&&decide (as.length+kws.length<12)&&kws.all (λh=>h.arg.isSome)) then N else o3 (c B f) (qO (c B) as) (qO (λh=>c B h.value) kws) λf as kv=>H4 (kws.filterMap (·.arg)) f as kv)=Y x->TE C d B M (.Call f as kws pos) A k j)
    (by rwa [bS,b5] at hn) (λy p e=>abU H I e he) e) λJ J=>rfl
 |_=>exact nS e
theorem Rk (f:sG C g)(T:v9 C d orc)(h):uO C d orc<|Ca g h:=by
 induction h with
 |zero=>exact λU L a e=>nS e
 |succ h G=>exact UD f T G
theorem nok (f:sG C g)(T:v9 C d orc)(h):Hi C d orc<|Ca g h:=by
 cases h with
 |zero=>exact λU L a J i=>nS i
 |succ h=>exact Jl f<|Rk f T h
def Hh (T:Ctx)(k:Nat)(n:vA)(b:K->gn->Option XS):Prop:=∀(B:K)(o:gn)(x:XS),b B o=Y x->∀(p:Nat)(M:List Nat)(f:St)(fl:Fl)(a:St),(ev n p).S M x f=Y (fl,a)->TS T k B M o f fl a
section
variable (h:Hh C d orc c)
include h
theorem uI:∀{o:List gn}{p:List XS}{f:St}{fl:Fl}{a:St},qO (c B) o=Y p->rQ (ev orc k) M p f=Y (fl,a)->yi C d B M o f fl a
 |[],p,f,fl,a,q,t=>by obtain rfl:=ae q;exact sE t<|.nil
 |s::o,p,f,fl,a,q,t=>by
  refine qY (ro q) λx y n z T=>?_;subst T
  exact mF t (λi G t=>.cons (h B s x n k M f _ _ G)<|uI z t) λv G e=>Q e<|.ret<|h B s x n k M f _ _ G
theorem Rb {q:Tg}(p:qO (c B) b=Y xs):∀{l:List V}{f:St}{fl:Fl}{a:St},uh (ev orc o) M q gd xs l f=Y (fl,a)->Dm C d B M q b gd l f fl a
 |[],f,fl,a,s=>qX s λn s=>sy s λz T=>ri n z.symm T.symm
 |x::l,f,fl,a,s=>qX s λn s=>mS s λi w s=>mF s (λU k s=>⟨n,i,w,.inl<|qp U (uI h p k)<|Rb p s⟩) λv k e=>⟨n,i,w,.inr<|qp v e<|uI h p k⟩
theorem Pw {o:K->a7->Option X}(u:uO C d orc o)(q:o B T=Y p)(s:qO (c B) b=Y xs):∀{n:Nat}{f:St}{fl:Fl}{a:St},wN (ev orc k) M p xs n f=Y (fl,a)->MJ C d B M T b n f fl a
 |0,f,fl,a,y=>nS y|n+1,f,fl,a,y=>mE y λv i z y=>
  have t:=(u B T p q k M f _ _ z).2
  mB y (λU y=>mF y (λG h2 y=>.inr<|.inl<|ta i G (t true U) (uI h s h2)<|Pw u q s y) λv h2 e=>.inr<|.inr<|ta i v e (t true U)<|uI h s h2)
   λU y=>sy y λe1 e2=>.inl ⟨e1.symm,J e2<|t false U⟩
end
section
variable {f a:St}
theorem Qx (G:Hi C d orc c){T:a7}(o:zl T=true)(z:c B T=Y x)(n:(ev orc k).E M (.new x) f=Y (v,a)):TE C d B M T f v a:=by
 cases k with
 |zero=>exact nS n|succ k=>exact qN n λb U p=>sE (qn Y p)<|(G B T x o z k M f _ _ U).tracked
theorem z6 {b:a7}:(zF mu t b x=.new x/\zl b=true)\/zF mu t b x=x:=(jb _).elim (λc=>.inl ⟨ql c,((aA _ _).mp c).1⟩) λc=>.inr<|qm c
section
variable (u:uO C d orc c) (A:Hi C d orc c)
include u A
theorem Du {b:a7}(U:c B b=Y x)(n:(ev orc k).E M (zF mu T b x) f=Y (v,a)):TE C d B M b f v a:=by
 rcases z6 with h|h
 .exact Qx A h.2 U<|J h.1 n
 .rw[h] at n;exact (u B b x U k M f v a n).1
theorem Dt:∀{p q:List a7}{y:List X}{f:St}{G:List V}{a:St},qO (c B) q=Y y->sJ (ev orc o) M (NZ mu p q y) f=Y (G,a)->tw C d B M q f G a
 |[],q,y,f,G,a,s,T=>t_ u s T|t::p,[],y,f,G,a,s,T=>t_ u s T
 |t::p,e::q,y,f,G,a,s,T=>by
  refine qY (ro s) λx U n z b=>?_;subst b
  exact mE T λv i h1 T=>mL T λvs' st2 k T=>sy T λe3 e4=>e3▸e4▸.cons (Du u A n h1) (Dt z k)
end
theorem UO {T p:a7}{q:X}{s:List Tg}{is:List X}{U:List<|List X}{n t:Nat}{o:Prop}(he:(ev orc<|k+1).E M (zF mu T p<|.comp q s is U n t) f=Y (v,a))
  (b:∀(tr:Bool)(G:List V)(st2:St),B3 (ev orc k) M q s is U n t f=Y (G,st2)->v=(if tr then .ref st2.hp.length else .lst G)->a=⟨st2.loc,st2.hp++(if tr then [.list G] else [])⟩->o):o:=by
 rcases z6 with h|h
 .rw[h.1] at he;refine qN he λy q1 q2=>qN q1 λz q3 q4=>?_
  subst q4;exact sy (qn Y q2) λe1 e2=>b true z.1 z.2 q3 e1.symm e2.symm
 .rw[h] at he;refine qN he λy q1 q2=>qN q1 λz q3 q4=>?_
  subst q4;exact sy (qn Y q2) λe1 e2=>b false z.1 z.2 q3 e1.symm<|e2.symm.trans<|by refine Q (qm dn)<|Q (bh ..) rfl
end
theorem IA {q:ba}{T:a7}:fC [.Name q p] T env=pure N:=by cases T<;>rfl
theorem Hk {b:List a7}{T:a7}(n:yN T=N):fC [.Tuple b k p] T env=pure N:=by cases T<;>first|rfl|exact sN n
section
variable {f i a:St}
theorem Yz (p:TE C d B M (.Tuple o ke pe) f (.tup vs) i)(q:WK B tg (PS B k o)=true)(w:rz M 5 tg (.tup vs) i=Y a)(n:ue B 5 (.Tuple k kt pt)=Y tg) :
  TS C d B M (.Assign [.Tuple k kt pt] (.Tuple o ke pe) pos) f .next a:=by
 cases U:PS B k o with
 |none=>rw[U] at q;exact fT q
 |some s=>cases s with
  |none=>exact .U6 (λt G T b=>zG) p n w λt G b=>PR b U
  |some y=>
   rw[U] at q
   cases tg with
   |tup z=>
    have q:=(aA _ _).mp<|show (yE B y z&&decide y.Nodup)=true from q
    exact .YA p U q.1 (of_decide_eq_true q.2) w
   |_=>exact fT q
end
section
variable (L:sG C g) (u:uO C d orc c) (I:Hi C d orc c) (H:uO C d orc<|uQ g c) (A:Hi C d orc<|uQ g c) (j:uQ g c B e=Y x) {f i a:St}(w:rz M 5 tg v i=Y a)
include L u H A j w
theorem U5 (n:ue B 5 (.Name p y)=Y tg)(z:(ev orc s).E M (zF mu (.Name p y) e x) f=Y (v,i)):TS C d B M (.Assign [.Name p y] e pos) f .next a:=by
 have T:(∀U σ t,vg B M σ U->iw e (Y<|.Name p y) t U=pure false)->TS C d B M (.Assign [.Name p y] e pos) f .next a:=λh2=>.U6 h2 (Du H A j z) n w λU σ J=>IA
 by_cases hc:yI e=true
 .exact T λU σ t J=>Bm hc
 clear A;revert j z T;refine comp_elim hc (λelt gs sc pv j z T=>?_) (λJ J J J j=>nS j) λJ J J J J j=>nS j
 cases k:Vw B sc p y pv with
 |false=>exact T λU σ t ok=>by refine Q (Ag ok)<|Q k rfl
 |true=>
  clear T
  cases s with
  |zero=>exact z6.elim (λh=>nS<|h.1▸z) λh=>nS<|h▸z
  |succ s=>
   refine rW j λQ1 j=>?_
   rw[bS,b5] at Q1
   cases gs with
   |nil=>exact nS j|cons gc gr=>
    refine Ot j λi0 G ts fs xe h1 h2 h3 h4 h5 e=>rW e λhT e=>?_
    rw[bS,b5] at hT
    obtain rfl:=ae e;refine UO z λtr out st2 q1 e1 e2=>zB (Fm L u Q1 h1 h2 h3 h4 h5 hT q1) λsa o hf yr=>?_;subst yr
    obtain ⟨tE,iter,ifs,rest,tg',r,q,b,QY,f1,f2,f3,f4,f5,f6,f7,f8⟩:=hf;refine Q QY ?_;subst e1 e2;exact .YB f1 f2 f3 f4 f5 f6 f7 f8 k (ye n) w
include I
theorem acy (n:ue B 5 b=Y tg)(z:WL B b e tg=true)(U:(ev orc o).E M (HG mu b e x) f=Y (v,i)):TS C d B M (.Assign [b] e pos) f .next a:=by
 refine oE n (λp q W=>(y0 q).elim λs k=>?_) λW h=>oE h (λy h0 W=>(Ct h0).elim λt k=>k.elim λpt k=>?_) λW h=>nS h
 .subst k;exact U5 L u H A j w n<|J (Gk<|.inl rfl) U
 .subst k
  cases hte:yN e with
  |none=>
   rw[Gk<|.inr hte] at U
   exact .U6 (λenv σ T W=>zG) (Du H A j U) n w λenv σ W=>Hk hte
  |some G=>
   refine sd (Ct hte) λke pe rR=>?_;subst rR
   refine rW j λhc j=>qN j λxs q ex=>?_
   subst ex;rw[bS,b5,aA] at hc
   cases o with
   |zero=>exact nS U|succ o=>
   refine qN U λp q1 q2=>sy (qn Y q2) λe1 e2=>?_
   subst e1 e2;exact Yz (.tup hc.1 (Dt u I q q1).tl (of_decide_eq_true hc.2) (Dt u I q q1).length) z w n
end
section
variable {A j:St}
theorem abu (G:uO C d orc c)(e:stepT g mu c rs U (.Expr L pos)=Y x)(i:(ev orc<|k+1).S M x A=Y (fl,j)):TS C d U M (.Expr L pos) A fl j:=by
 refine qX e λn e=>qN e λa z L=>?_
 subst L;refine mN i λu H i=>sy i λh o=>?_
 subst h o;have p:=(G U _ a z k M A _ _ H).1;exact RK n (λb f q s p=>.expr p) p
theorem adm (G:uO C d orc c)(e:stepT g mu c rs U (.Return y pos)=Y x)(i:(ev orc<|k+1).S M x A=Y (fl,j)):TS C d U M (.Return y pos) A fl j:=by
 cases y with
 |none=>
  obtain rfl:=ae e;refine qN i λb z y=>sy (qn Y y) λH f=>?_
  cases k with
  |zero=>exact nS z|succ k=>
   obtain rfl:=ae z;subst H f;exact .ahq
 |some y=>
  refine qN e λa z y=>?_
  subst y;exact qN i λb n y=>sE (qn Y y)<|.ret (G U _ a z k M A _ _ n).1
theorem ahS (I:uO C d orc c)(T:Hh C d orc rs)(e:stepT g mu c rs y (.If L a b pos)=Y x)(i:(ev orc<|k+1).S M x A=Y (fl,j)):TS C d y M (.If L a b pos) A fl j:=by
 refine AX e λf u G n z H h=>?_
 obtain rfl:=ae h;refine mE i λo v p i=>?_
 have q:=(I y L f n k M A _ _ p).2;exact mB i (λU i=>.rb (q true U)<|uI T z i) λU i=>.rb (q false U)<|uI T H i
theorem isEmpty_nil {o:Type}{a:List o}(G:¬(!a.isEmpty)=true):a=[]:=by
 cases a with
 |nil=>rfl|cons J W=>exact absurd rfl G
theorem acV (I:uO C d orc c)(T:Hh C d orc rs)(e:stepT g mu c rs B (.While q b o pos)=Y x)(i:(ev orc<|k+1).S M x A=Y (fl,j)):TS C d B M (.While q b o pos) A fl j:=by
 refine rW e λL e=>yZ e λa G n z H=>Q (isEmpty_nil L) ?_
 obtain rfl:=ae H;exact .Ls<|Pw T I n z i
theorem aeA (f:sG C g)(I:uO C d orc c)(T:Hh C d orc rs)(hx:stepT g mu c rs B (.For t e b o pos)=Y x)(i:(ev orc<|k+1).S M x A=Y (fl,j)):TS C d B M (.For t e b o pos) A fl j:=by
 refine rW hx λL hx=>rW hx λa hx=>AX hx λU p G n z H q=>qX q λs q=>Q (isEmpty_nil L) ?_
 obtain rfl:=ae q;rw[bS,b5] at a
 exact mR i λy w u h4 i=>.uY (GF a) (IL f I s z h4) (λv A j h=>xZ 5 5 _ _ v A j n h)<|Rb T H i
theorem acZ (T:Hh C d orc rs)(e:stepT g mu c rs B (.Try b G o f pos)=Y x)(i:(ev orc<|k+1).S M x A=Y (fl,j)):TS C d B M (.Try b G o f pos) A fl j:=by
 refine rW e λI e=>qN e λh n z=>?_
 subst z;rw[ir,ir,not_or,not_or] at I
 obtain rfl:=isEmpty_nil I.1.2;refine Q (isEmpty_nil I.2) ?_
 cases G with
 |nil=>exact absurd rfl I.1.1|cons H G=>exact .yO<|uI T n i
theorem isNone_none {p:Type}{o:Option p}(e:o.isNone=true):o=N:=by
 cases o with
 |none=>rfl|some J=>exact fT e
theorem aeI (f:sG C g) {p:ba}{H:iC}{o:List gn}{q:List a7}{ret:Option a7}{u:List TypeParam}{v:eT}{h:Option eT}{s:ba}
  (e:stepT g mu c rs B (.FunctionDef p H o q ret u v h s pos)=Y x) (i:(ev orc<|k+1).S M x A=Y (fl,j)):TS C d B M (.FunctionDef p H o q ret u v h s pos) A fl j:=by
 refine qX e λn e=>rW e λI e=>yZ e λL t z T w=>?_
 obtain rfl:=ae w;rw[aA,aA,aA] at n
 refine Q (f9.mp n.1.1.1)<|Q (isNone_none n.1.1.2)<|Q (f9.mp n.1.2)<|Q (isNone_none n.2) ?_
 rw[bS,b5,aA,aA] at I
 obtain rfl:=eq_of_beq I.1.2;exact mC i λG y i=>qN i λU a w=>sE (qn Y w)<|.DX f I.1.1 T y (eq_of_beq I.2) (ye z) a
theorem ac3 (G:uO C d orc c)(f:R4 c B e o b=Y x)(i:(ev orc<|k+1).S M x A=Y (fl,j)):TS C d B M (.Assign [.Subscript o b p] e pos) A fl j:=by
 refine rW f λL f=>rW f λh f=>AX f λq I a n z H e=>?_
 obtain rfl:=ae e;exact mE i λs u t i=>mE i λT v w i=>mE i λU y h6 i=>qN i λhp' g e=>sE (qn Y e)<|.wj (by rw[bS,b5] at h;exact h) (G B _ a H k M _ _ _ t).1 (G B o q n k M _ _ _ w).1 (G B b I z k M _ _ _ h6).1 g
theorem Qy:(newX mu n e x=.new x/\zl e=true)\/newX mu n e x=x:=(jb _).elim (λf=>.inl ⟨ql f,((aA _ _).mp f).2⟩) λf=>.inr<|qm f
theorem acx (G:uO C d orc b)(T:Hi C d orc b)(e:(if !u_ o then N else (o2 (b y o) (b y f) λo g=>Y<|.setAttr o n<|newX mu n f g))=Y x)(i:(ev orc<|k+1).S M x A=Y (fl,j)):TS C d y M (.Assign [.Attribute o n p] f pos) A fl j:=by
 refine rW e λL e=>yZ e λI a q z f=>?_
 obtain rfl:=ae f;refine mE i λs u H i=>mE i λU t c i=>qN i λv w f=>sE (qn Y f)<|.setAttr ?_ (G y o I q k M _ _ _ c).1 w
 rcases Qy with h|h
 .exact Qx T h.2 z<|J h.1 H
 .rw[h] at H;exact (G y _ a z k M _ _ _ H).1
theorem ae9 (G:uO C d orc c)(e:acv c B op o t=Y x)(i:(ev orc<|k+1).S M x A=Y (fl,j)):TS C d B M (.AugAssign t op o pos) A fl j:=by
 refine oE e (λb n e=>rW e λI e=>AX e λa p f h1 H s o=>(LD n).elim λv q=>?_) λJ e=>rW e λhn e=>yZ e λtg f h1 H o=>?_
 .refine Q q ?_;clear q;obtain rfl:=ae o;exact mE i λT st1 h4 i=>mE i λU st2 g i=>mV i λq h6 i=>mE i λw st3 h7 i=>mV i λu h8 i=>qN i λhp' h9 o=>sE (qn Y o)<|(.uC (G B _ a h1 k M _ _ _ h4).1 (G B _ p H k M _ _ _ g).1 h6 (G B _ f s k M _ _ _ h7).1 h8 h9 λy h q z=>I<|Q z rfl)
 .obtain rfl:=ae o;rw[bS,b5] at hn
  exact mV i λT s i=>mE i λU st1 h4 i=>mV i λL g i=>qN i λst2 h6 o=>sE (qn Y o)<|BR hn (λb v h1=>.aug (ye h1) s (G B _ f H k M _ _ _ h4).1 g h6) h1
end
theorem afa (f:sG C a)(T:v9 C d orc)(n){s:Fl}{e:dA}(g:KO mu (Ca a n) B t b=Y x)(i:(ev orc<|k+1).S M x A=Y (s,j)):TS C d B M (.Assign [t] b e) A s j:=by
 refine yZ g λG I o z b=>qX b λH b=>?_
 obtain rfl:=ae b;refine mE i λp u c i=>qN i λq v b=>sE (qn Y b)<|?_
 cases n with
 |zero=>exact nS z|succ n=>exact acy f (Rk f T n) (nok f T n) (Rk f T<|n+1) (nok f T<|n+1) z v o H c
theorem SX {n:Nat}(f:sG C g) (T:v9 C d orc) (U:Hh C d orc<|Kt g mu n):Hh C d orc<|Kt g mu<|n+1:=by
 have I:=Rk f T n;intro B s x hx t M A fl j i
 cases t with
 |zero=>exact nS i|succ t=>
 cases s with
 |Expr e pos=>exact abu I hx i|Return e pos=>exact adm I hx i
 |If z a b pos=>exact ahS I U hx i|While z k G pos=>exact acV I U hx i
 |For L e k G pos=>exact aeA f I U hx i|Try k hs G fin pos=>exact acZ U hx i
 |Raise a b c=>obtain rfl:=ae hx;exact nS i
 |FunctionDef name H k q ret u v h w pos=>exact aeI f hx i|Assign h e pos=>
  have hx:WJ mu (Ca g n) B e h=Y x:=hx
  cases h with
  |nil=>exact nS hx|cons L h=>cases h with
   |cons J W=>exact nS hx|nil=>
    exact oE hx (λy o hx=>(LD o).elim λp z=>z▸ac3 I hx i) λJ hx=>oE hx (λy o hx=>MD o▸acx I (nok f T n) hx i) λJ hx=>afa f T n hx i
 |AugAssign L op e pos=>exact ae9 I hx i|_=>exact nS hx
theorem ZC (f:sG C g)(T:v9 C d orc):∀n,Hh C d orc<|Kt g mu n
 |0=>λU c h e=>nS e
 |n+1=>SX f T<|ZC f T n
noncomputable def JU (b:List V->Option (List V)):Option O->Option V
 |Y<|.list l=>(b l).map .lst|Y<|.dict f j=>(b j).map<|.rt f
 |_=>N
noncomputable def sU (a:List O):Nat->V->Option V
 |0=>@λJ=>N
 |n+1=>@λk=>match k with
  |.none=>Y .none|.bool T=>Y<|.bool T
  |.int q=>Y<|.int q
  |.str p=>Y<|.str p
  |.qr p=>Y<|.qr p
  |.con s=>Y<|.con s
  |.tH b T s=>Y<|.tH b T s
  |.tup l=>(qO (sU a n) l).map .tup|.lst l=>(qO (sU a n) l).map .lst
  |.rt j u=>(qO (sU a n) u).map<|.rt j
  |.ref q=>JU (qO<|sU a n) a[q]?|.bm _ _=>N
theorem A5 {b:V->Option V}(d:∀k s L,Rep P T I σ k s->b k=Y L->Rep P T I' wa L s){j:List V}:∀{A:List aj}{G:List V},qI P T I σ j A->qO b j=Y G->qI P T I' wa G A:=by
 induction j with
 |nil=>exact λa e=>J (ae e) a
 |cons k j ih=>
  intro A G a e;refine qY (ro e) λU H i n z=>Q z ?_;clear z
  exact dg (λs=>dg λA a=>ri a.1 (d _ _ _ a.2.1 i)<|ih a.2.2 n) a
theorem JT {b:V->Option V}(d:∀k s L,Rep P T I σ k s->b k=Y L->Rep P T I' wa L s){j:List V}:∀{u:List V}{G:List DictEntry}{f:List V},rI P T I σ u j G->qO b j=Y f->rI P T I' wa u f G:=by
 induction j with
 |nil=>exact λy e=>J (ae e) y
 |cons k j ih=>
  intro u G f y e;refine qY (ro e) λU t i n z=>Q z ?_;clear z
  exact dg (λW=>dg λW=>dg λW=>dg λW y=>Ee y.1 y.2.1 y.2.2.1 (d _ _ _ y.2.2.2.1 i)<|ih y.2.2.2.2 n) y
theorem Mb {hp:List O}(hI:Gm.le I I')(ho:∀(i:Nat)(a:bK)(o:O),σ[i]?=Y a->hp[i]?=Y o->∃ob,rA P T I σ ob o/\((∃l,o=.list l)\/(∃ks vs,o=.dict ks vs)->I' a=Y ob))(n:Nat):∀(v:V)(c:aj)(v':V),Rep P T I σ v c->sU hp n v=Y v'->Rep P T I' wa v' c:=by
 induction n with
 |zero=>exact λW W W W h=>nS h
 |succ n ih=>
  intro v c v' r h
  cases v with
  |none|bool|int|str|con|qr=>exact J (ae h) r|bm=>exact nS h
  |tH=>exact J (ae h)<|dg (λW=>dg λW=>dg λW=>dg λW r=>⟨r.1,hI _ _ r.2⟩) r
  |tup l=>exact qN h λl' h1 e=>e▸dg (λW=>dg λW=>dg λW r=>⟨r.1,hI _ _ r.2.1,A5 ih r.2.2 h1⟩) r
  |lst l=>exact qN h λl' h1 e=>e▸dg (λW=>dg λW=>dg λW r=>⟨r.1,hI _ _ r.2.1,A5 ih r.2.2 h1⟩) r
  |rt ks vs=>exact qN h λl' h1 e=>J e<|dg (λW=>dg λW=>dg λW r=>tb r.1 (hI _ _ r.2.1) r.2.2.1<|JT ih r.2.2.2 h1) r
  |ref i=>
   obtain ⟨a,e0,ea⟩:=r.inv;refine Q e0 ?_
   cases e1:hp[i]? with
   |none=>exact nS<|(qn (JU _) e1).symm.trans h
   |some o=>
    have h:=(qn (JU<|qO<|sU hp n) e1).symm.trans h;refine qt (ho _ _ _ ea e1) λob q1 q2=>?_
    cases o with
    |list l=>exact qN h λl' h1 e=>e▸q1.inv.elim λW q=>q.elim λW q=>.lst ((q2<|.inl ⟨_,rfl⟩).trans<|qn Y q.1)<|A5 ih q.2 h1
    |dict ks vs=>exact qN h λl' h1 e=>J e<|q1.inv.elim λW q=>q.elim λW q=>.rt ((q2<|.inr ⟨_,_,rfl⟩).trans<|qn Y q.1) q.2.1<|JT ih q.2.2 h1
    |_=>exact nS h
theorem q7.drop (H:qP C hp W):qP C [] ⟨W.G,[],W.s⟩ where
 I:=H.I
 F:=H.F
 IF:=H.IF
 top:=H.top
 tab P hP:=uP (H.tab P hP) λx y z w=>tb x y (λh=>nomatch h) w
 len:=rfl
 nd:=.nil
 rX i a e:=Vm.nS e
 gens:=H.gens
 os:=H.os
 pos:=H.pos
 T:=H.T
theorem Qk {α:Type}(a:qP C hp W)(e:sU hp' n v=Y v')(G:TH C A x (λb s=>qu C b v s) hp' ⟨W.G,[],W.s⟩):TH C A x (λb s=>qu C b v' s) hp W:=λQQq d g=>by
 refine G QQq d λb s kept f j=>?_
 classical
 let u:Gm:=λy=>if y∈b.σ then b.s.heap.get? y else b.G.I y
 have GY:∀y,y∈b.σ->b.G.I y=N/\b.G.F y=N/\y∉C.tabs:=λy hb=>by
  obtain ⟨h,hi,i⟩:=cH hb;refine qJ (f.rX h y<|J i<|aD hi) λp q V=>?_
  exact ri p q λz=>(f.tab y z).2.2.1 hb
 have Q5:Gm.le b.G.I u:=λy o i=>(qm λhb=>nS<|(GY y hb).1.symm.trans i:(if y∈b.σ then _ else _)=_).trans i
 have aeg:∀y o,u y=Y o->b.s.heap.get? y=Y o:=λy o i=>by
  have i:(if y∈b.σ then b.s.heap.get? y else b.G.I y)=Y o:=i
  split at i
  .exact i
  .exact f.I y o i
 have HT:∀y,b.G.I y=N->y∉b.σ->u y=N:=λy H h2=>by show (if y∈b.σ then _ else _)=_;exact Q (qm h2) H
 have H2:qP C hp ⟨⟨u,b.G.F,b.G.T⟩,W.σ,b.s⟩:={
  I:=aeg
  F:=f.F
  IF:=λy i=>by
   by_cases hb:y∈b.σ
   .exact (GY y hb).2.1
   .refine f.IF y λz=>i<|HT y z hb
  top:=f.top.trans Q5
  tab:=λP hP=>uP (f.tab P hP) λU c z yq=>qt yq λo i x=>⟨HT P U z,c,(a.tab P hP).2.2.1,o,i,x.mono Q5⟩
  len:=a.len
  nd:=a.nd
  rX:=λh w i=>by obtain ⟨o,ob,H,h2,h3,h4,h5,h6⟩:=((λh w i=>qJ (a.rX h w i) λp q xY=>qY xY λo ob H h2 h3=>qJ (kept.off w ob h2 p (λz=>nomatch z) λz=>(a.tab w z).2.2.1<|bG i) λk k2 k3=>Hy o ob H k h3 k2 k3 q) h w i);exact ⟨HT w h4 h5,Q kept.le.G.F h6,o,ob,H,h2,h3.mono kept.le.G.T (kept.le.G.I.trans Q5)<|rl.refl _⟩
  gens:=f.gens
  os:=f.os
  pos:=f.pos
  T:=f.T }
 refine g ⟨⟨u,b.G.F,b.G.T⟩,W.σ,b.s⟩ s (⟨⟨⟨kept.le.G.I.trans Q5,kept.le.G.F,kept.le.G.T⟩,rl.refl _⟩,λL o p q j x=>qJ (kept.off L o p q (λz=>nomatch z) x) λk k2 k3=>ri k (HT L k2 k3) j⟩) H2<|Mb Q5 (λh w o e1 e2=>qJ (f.rX h w e1) λV V yr=>qY yr λt ob H h2 h3=>?_) n v s v' j e
 rw[e2] at H;(refine Vm.sI H ?_;clear H;rintro rfl)
 exact ⟨ob,h3,λV=>by show (if w∈b.σ then _ else _)=_;exact Q (ql<|bG e1) h2⟩
structure Fn where
 B:K
 names:List ba
 tgs:List Tg
 body:List XS ⊕ X
def tU (h:vA)(z:Fn)(a:List<|ba×Nat)(f:List V)(k:List O):Option<|V×List O:=
 match wg a z.B.scope.names k.length with
 |Y u=>match bindAll u z.tgs f ⟨aw z.B.slots.length N,k++aw (q_ z.B.scope).length (.cell N)⟩ with
  |Y st=>match z.body with
   |.inl G=>we h u G st|.inr c=>((ev h 60).E u c st).map λb=>(b.1,b.2.hp)
  |N=>N
 |N=>N
def AG (b:Glob)(o:yj)(z:Fn)(T:lD)(h:List XS ⊕ X):Prop:=match T,h with
 |.stmts a,.inl f=>F9 b o z.B a=Y f|.expr L,.inr c=>Ca b 100 z.B L=Y c
 |J,W=>False
def zz (a:Glob)(o:yj)(z:Fn)(T:lD):Prop:=AG a o z T z.body
theorem S2 {z:Fn}{f:List<|ba×Nat}{k:List V}{b:V×List O}{o:Prop}(e:tU orc z f k hp=Y b) (c:∀u x,wg f z.B.scope.names hp.length=Y u->
  bindAll u z.tgs k ⟨aw z.B.slots.length N,hp++aw (q_ z.B.scope).length (.cell N)⟩=Y x->(match z.body with|.inl G=>we orc u G x|.inr a=>((ev orc 60).E u a x).map λd=>(d.1,d.2.hp))=Y b->o):o:=by
 delta tU at e
 cases i:wg f z.B.scope.names hp.length with
 |none=>rw[i] at e;exact nS e
 |some u=>
  revert e;refine Q i ?_;intro e;dsimp only at e
  cases p:bindAll u z.tgs k ⟨aw z.B.slots.length N,hp++aw (q_ z.B.scope).length (.cell N)⟩ with
  |none=>rw[p] at e;exact nS e
  |some x=>rw[p] at e;exact c u x i p e
theorem Xm {a:List XS}{f:List Nat}{x:St}{k:V}{p:List O}{o:Prop}(e:we orc f a x=Y (k,p)) (b:∀I,rQ (ev orc 60) f a x=Y (.ret k,I)->I.hp=p->o)
  (d:∀I,rQ (ev orc 60) f a x=Y (.next,I)->k=.none->I.hp=p->o):o:=by
 delta we at e
 cases i:rQ (ev orc 60) f a x with
 |none=>rw[i] at e;exact nS e
 |some c=>
  rw[i] at e
  obtain ⟨t,I⟩:=c
  cases t with
  |ret L=>exact sy e λq z=>b I (i.trans<|by refine Q q rfl) z
  |next=>exact sy e λq z=>d I i q.symm z
theorem IX (A:sG C g)(T:v9 C d orc)(U:zz g mu f body)(e:tU orc f cells vs hp=Y (v,hp')) :
  ∃G x I,wg cells f.B.scope.names hp.length=Y G/\bindAll G f.tgs vs ⟨aw f.B.slots.length N,hp++aw (q_ f.B.scope).length (.cell N)⟩=Y x/\BodyOk C d f.B G body x v I/\I.hp=hp':=by
 refine S2 e λG x i o e=>?_
 cases z:f.body with
 |inl h=>
  rw[z] at e
  cases body with
  |expr a=>exact (show False from (qn (AG g mu f<|.expr a) z).mp U).elim|stmts b=>
   have U:F9 g mu f.B b=Y h:=(qn (AG g mu f<|.stmts b) z).mp U;exact Xm e (λI H a=>AJ G x I i o (.inl<|uI (ZC A T 100) U H) a) λI H c a=>AJ G x I i o (.inr ⟨uI (ZC A T 100) U H,c⟩) a
 |inr a=>
  rw[z] at e
  cases body with
  |stmts h=>exact (show False from (qn (AG g mu f<|.stmts h) z).mp U).elim|expr L=>
   exact qN e λp H k=>AJ G x p.2 i o (J ((b0 k).1)<|(Rk A T 100 f.B L a ((qn (AG g mu f<|.expr L) z).mp U) 60 G x p.1 p.2 H).1)<|(b0 k).2
noncomputable def OS (v:eT):Bool:=v.kind==.function&&!v.isCoroutine&&!v.isGenerator&&decide (v.names.map (·.1)).Nodup
theorem Uu (e:OS sc=true):D8<|K.of sc q c:=by
 delta OS at e
 simp only[aA,bS,decide_eq_true_eq] at e
 obtain ⟨⟨⟨o,z⟩,i⟩,x⟩:=e;exact ⟨eq_of_beq o,z,i,rfl,rfl,x⟩
def Mv (a:Glob)(o:yj)(U:K)(T:lD):Option<|List XS ⊕ X:=match T with
 |.stmts T=>(F9 a o U T).map .inl|.expr L=>(Ca a 100 U L).map .inr
def AA (b:Glob)(o:yj)(t:wQ):Option Fn:=
 if OS t.scope&&wH t.params&&decide ((t.params.args.map (·.arg)).Nodup) then
  (qO (λ(x:Arg)=>ue (K.of t.scope (t.qual++".<locals>.") N) 5<|.Name x.arg x.pos) t.params.args).bind λa=>
   (Mv b o (K.of t.scope (t.qual++".<locals>.") N) t.body).map λh=>⟨K.of t.scope (t.qual++".<locals>.") N,t.params.args.map (·.arg),a,h⟩
 else N
theorem O_ {b:Glob}{o:yj}{z:Fn}(e:Mv b o z.B T=Y z.body):zz b o z T:=by
 delta zz
 cases T with
 |stmts T=>exact qN e λa e i=>J i e
 |expr T=>exact qN e λa e i=>J i e
theorem Iy:∀{b:List Arg}{f:List Tg},qO (λ(a:Arg)=>ue B 5<|.Name a.arg a.pos) b=Y f->zY B (b.map (·.arg)) f
 |[],f,e=>by (refine Vm.sI e ?_;clear e;rintro rfl);trivial
 |a::b,f,e=>by
  refine qY (ro e) λG u i o z=>Q z ?_;clear z
  exact ⟨⟨a.pos,ye i⟩,Iy o⟩
theorem Lk (e:AA g mu f=Y fn):fn.B=K.of f.scope (f.qual++".<locals>.") N/\D8 fn.B/\(∃a,f.params=⟨[],a,N,[],[],N,[]⟩/\(a.map (·.arg)).Nodup/\fn.names=a.map (·.arg))/\zY fn.B fn.names fn.tgs/\zz g mu fn f.body:=by
 refine qX e λi e=>sk e λk o e=>qN e λh z H=>?_
 revert i;refine Q (aA ..)<|Q (aA ..)<|Q (decide_eq_true_eq ..) ?_;intro i
 refine qt (wY i.1.2) λa c W=>J H ?_;clear H
 exact Ee rfl (Uu i.1.1) (ru a c (by have:=i.2;rwa [c] at this)<|by refine Q c rfl) (Iy o)<|O_ z
structure rK where
 addr:bK
 fn:Fn
 bind:List V->List ba->List V->Option (List V)
 pure:Bool
 mu:yj
structure CS (C:Ctx) (g:Glob) (t:rK) (o:gw) (fd:FuncData):Prop where
 at_:C.tD t.addr=some o
 data:o.data=.func fd
 scope:fd.scope=t.fn.B.scope
 ok:D8 t.fn.B
 globals:fd.globals=c_
 builtins:fd.builtins=eX
 qual:t.fn.B.qual=fd.qualname++".<locals>."
 code:xX C.tD fd.code fd.qualname
 aeM:∀c,t.fn.B.code=some c->fd.code=c
 tgs:zY t.fn.B t.fn.names t.fn.tgs
 body:zz g t.mu t.fn fd.body
 bind:∀as kn kv vs,t.bind as kn kv=some vs->wx C fd as kn kv t.fn.names vs
def pureO (h:vA)(T:rK)(a:List V)(f:List ba)(k:List V):Option V:=(qO (sU [] 9) a).bind λu=>(qO (sU [] 9) k).bind λG=>(T.bind u f G).bind λd=>(tU h T.fn [] d []).bind λb=>sU b.2 9 b.1
def yY (a:List rK)(b:bK->List V->Option V)(h:vA)(v:bK)(f:List V)(k:List ba)(u:List V)(G:List O):Option<|V×List O:=(a.find? (·.addr==v)).elim (if k=[]/\u=[] then (b v f).map (·,G) else N) λT=>(T.bind f k u).bind λd=>if T.pure=true then (pureO h T f k u).map (·,G) else tU h T.fn [] d G
def EI (b:Glob)(o:yj)(h:vA)(t:wQ)(a:List<|ba×Nat)(f:List V)(k:List O):Option<|V×List O:=(AA b o t).bind λz=>if f.length=z.names.length then tU h z a f k else N
noncomputable def Oq (c:Glob)(o:yj)(a:List rK)(b:bK->List V->Option V):Nat->vA
 |0=>⟨λJ J J J J=>N,λJ J J J=>N⟩
 |n+1=>⟨yY a b<|Oq c o a b n,EI c o<|Oq c o a b n⟩
def KX (T:Ctx)(b:bK->List V->Option V):Prop:=∀v a k,b v a=Y k->(∃G o,T.tD v=Y G/\G.data=.func o)/\∀(c:Nat)(U:Around)(W:Wd)(f:List O)(p:List aj),rk (c+1) U->qP T f W->qD T W a p->TH T U (call (.ref v) p []) (λd t=>qu T d k t) f W
theorem Gu (e:qO (sU [] 9) as=Y KQ)(U:qD C W as xs):qD C ⟨W.G,[],W.s⟩ KQ xs:=A5 (λk t L U e=>Mb (Gm.le.refl _) (λc v I J i=>Vm.nS i) 9 k t L U e) U e
theorem UN:∀{p:ba}{c:Nat},([]:List<|ba×Nat).lookup p=Y c->False:=λe=>nomatch e
section
variable (j:sG C g) (s:v9 C n orc)
include j s
theorem PN {p:FuncData}(q:CS C g t o p){G:List O}(L:rk (n+1) A)(H:qP C G W)(U:qD C W as xs)(I:qD C W kv f)(hb:t.bind as kn kv=Y vs)(i:tU orc t.fn [] vs G=Y (v,hp')):TH C A (call (.ref t.addr) xs<|kn.zip f) (λT w=>qu C T v w) hp' W:=by
 refine Ef (IX j s q.body i) λa u b d z r3 yr=>J yr ?_;clear yr
 obtain ⟨w,oc,vs',x,c,k,e3,e4⟩:=q.code;exact Cc L H ((λy o e=>H.I y o<|H.top y o e) _ _ q.at_) q.data q.scope q.ok q.globals q.builtins q.qual (AI w oc vs' x c ((λy o e=>H.I y o<|H.top y o e) _ _ k) e3 e4) q.aeM (λy h e=>(UN e).elim) j.lim (q.bind _ _ _ _ hb) U I q.tgs d z r3
theorem ac0 {p:FuncData}(q:CS C g T o p){d:List O}(L:rk (n+1) A)(a:qP C d W)(U:qD C W t xs)(G:qD C W u f)(e:(T.bind t kn u).bind (λw=>if T.pure=true then (pureO orc T t kn u).map (·,d) else tU orc T.fn [] w d)=Y (v,hp')):TH C A (call (.ref T.addr) xs<|kn.zip f) (λh x=>qu C h v x) hp' W:=
 sk e λw i e=>aaE e (λV e=>qN e λy e I=>sk e λKQ z e=>sk e λkv' H e=>sk e λvs' c e=>sk e λb k h3=>J ((b0 I).1)<|J ((b0 I).2)<|Qk (α:=Unit) a h3<|PN j s q L a.drop (Gu z U) (Gu H G) c k) λV e=>PN j s q L a U G i e
theorem abO {d:Around}{t:wQ}{a:List<|ba×Nat}{f:List V}{v:List aj}{h w:Nat}{y:Option Nat}{k:V}{u G:List O}(e:EI g mu orc t a f u=Y (k,G)) (L:rk (n+1) d) (A:qP C u W)
  (i:u[h]?=Y (.fn t a y)) (h2:W.σ[h]?=Y w) (U:qD C W f v):TH C d (call (.ref w) v []) (λW' c=>qu C W' k c) G W:=sk e λz hfn e=>qX e λH e=>by
 refine Vd (Lk hfn) λs1 s2 Ib s6 s7=>rT Ib λKQ s3 x s5=>Ef (IX j s s7 e) λcs' st1 st2 r1 r2 r3 xY=>J xY ?_;clear xY
 refine qJ (A.rX _ _ h2) λaI aF T=>qY T λI ob g1 g2 g3=>?_
 obtain rfl:=ae (g1.symm.trans i);obtain ⟨fd,dict,rfl,fo,b,V6⟩:=g3.inv;obtain ⟨c,o,vs',tk,e1,e2,e3,p⟩:=fo.code;exact Cc L A g2 rfl (Q fo.scope<|Q s1 rfl) s2 fo.globals fo.builtins (Q s1<|Q fo.qual rfl) (AI c o vs' tk e1 (A.I _ _ e2) e3<|Q fo.qual p) (λc q=>by rw[s1] at q;exact Vm.nS q) b j.lim (Q s5<|wx.plain (Q fo.params s3) fo.defaults x<|by refine Q H<|Q s5<|Q (ao ..) rfl:wx C fd f [] [] z.names f) U .nil s6 r1 r2<|Q fo.body r3
end
theorem XA (j:sG C g){b:bK->List V->Option V}(d:∀t∈ahc,∃o q,CS C g t o q)(U:KX C b)(c):v9 C c<|Oq g mu ahc b c:=by
 induction c with
 |zero=>exact ⟨λP P P P P P P h=>nS h,λP P P P P P h=>nS h⟩|succ c s=>
  refine ⟨λv u G I L6 k hp' h0=>oE h0 (λt hft h=>?_) λP h=>qX h λhkn h=>qN h λw z e=>?_,λf cl u L6 k hp' h a W xs i v y L H h1 h2 hx=>abO j s h L H h1 h2 hx⟩
  .obtain rfl:t.addr=v:=eq_of_beq (pz (p:=λt:rK=>t.addr==v) hft);refine sd (d t<|lZ hft) λo q T=>?_
   exact ⟨wy o q T.at_ T.data,λa W xs x L H hx A=>ac0 j s T L H hx A h⟩
  .exact J ((b0 e).1)<|J ((b0 e).2)<|Q hkn.1<|Q hkn.2 ⟨(U v u w z).1,λa W xs x L H hx A=>(U v u w z).2 c a W L6 xs L H hx⟩
end Vm
end
noncomputable section
namespace L1
open uJ
open Vm (V O X XS Tg wQ Fn K Glob rK vA yj)
noncomputable def aia (p:ba):wQ:=⟨⟨[],[],N,[],[],N,[]⟩,.stmts [],{ kind:=.module,names:=[],isGenerator:=false,isCoroutine:=false,more:=[] },p⟩
def HX (p:ba)(c:gn):wQ:=if c.ctorIdx=0 then ⟨(Fb c).2.1,.stmts (Fb c).2.2.1,(Fb c).2.2.2,p++(Fb c).1⟩ else
 let L:=(Cf c).2.1;if e:L.ctorIdx=4 then pj (motive_1:=λJ=>wQ) L e λH a v J=>⟨H,.expr a,v,p++"<lambda>"⟩ else aia p
def sub (c h:Nat):gn:=(Fb (s8 c)).2.2.1.getD h (.Pass ⟨0,0,0,0⟩)
def kk (c:Nat)(v:bK):K:=K.of (BY (s8 c)) ((Fb (s8 c)).1++".<locals>.") (Y (.ref v))
def fN (c:Nat):List ba:=(t8 (s8 c)).args.map (·.arg)
noncomputable abbrev _root_.Vm.X.i (U:Int):X:=.k (.int U)
noncomputable abbrev _root_.Vm.X.g (T:bK)(U:List X):X:=.call (.k (.con (.ref T))) U [] []
noncomputable abbrev ez (p j:ba):XS:=.rb (.cmp (.k (.qr p)) [.In] [.l 0]) [.asg (.l 0) (.mt .replace (.l 0) [.k (.qr p),.k (.qr j)])] []
def Av:wQ:=HX "_int2digits.<locals>." (sub 4 1)
def w9:wQ:=HX "_digits2int.<locals>." (sub 5 0)
def Mg:wQ:=HX "_law_element.<locals>." (sub 24 0)
def xJ:wQ:=HX "_law_element.<locals>." (sub 24 7)
def AD:List (Int×ba):=(H7.zip H6).filterMap λb=>b.1.bind λL=>(aaI (DY L)).bind λL=>(IH (DY b.2)).map λp=>(L,p)
def b3V:V:=.rt (AD.map λb=>.int b.1) (AD.map λb=>.str b.2)
noncomputable def NY:List (ba×Nat×aj):=(("__name__",165,(.str "law_wc0030_02" 2361))::("__doc__",166,.none)::("__package__",167,.none)::("__loader__",168,(.builtin "__main__.__loader__#opaque"))::("__spec__",169,.none)::("__annotations__",170,(.ref 6))::("__builtins__",171,(.ref 4))::("__file__",173,(.str "/claim/cut.py" 172))::("__cached__",174,.none)::("_DIV_LIMIT",190,(.int 4000 189))::("_div2n1n",207,(.ref 21))::("_div3n2n",221,(.ref 28))::("_int2digits",232,(.ref 35))::("_digits2int",243,(.ref 42))::("_divmod_pos",258,(.ref 49))::("int_divmod",268,(.ref 56))::("b1_set",330,(.ref 64))::("in_table_b1",337,(.ref 74))::("b3_exceptions",2288,(.ref 75))::("map_table_b3",2296,(.ref 120))::("SubElement",2309,(.ref 129))::("_serialize_text",2318,(.ref 136))::("_raise_serialization_error",2325,(.ref 143))::("_escape_cdata",2332,(.ref 150))::("_escape_attrib",2339,(.ref 157))::("_escape_attrib_html",2346,(.ref 164))::("_escape_cdata_c14n",2353,(.ref 171))::("_escape_attrib_c14n",2360,(.ref 178))::("_law_read",2368,(.ref 183))::("_law_element",2378,(.ref 190))::("_law_page",2397,(.ref 197))::("_law_taken_apart",2411,(.ref 204))::("_law_above",2422,(.ref 211))::("_law_whole",2428,(.ref 216))::("_law_figures",2440,(.ref 223))::("_law_changes",2446,(.ref 228))::("_law_leaves",2452,(.ref 233))::("law",2458,(.ref 238))::[])
noncomputable def Qi:List (aj×Nat×Nat×ba):=[((.ref 34),32,4,"_int2digits.<locals>.inner"),((.ref 41),47,4,"_digits2int.<locals>.inner"),((.ref 189),185,10,"_law_element.<locals>.<lambda>"),((.ref 189),192,19,"_law_element.<locals>.<lambda>")]
def k2:K:=kk 2 20
def Y4:XS:=.rb (.l 3) [.aug (.l 0) .LShift (.i 1),.aug (.l 1) .LShift (.i 1),.aug (.l 2) .Add (.i 1)] []
def Y3:XS:=.rb (.l 3) [.aug (.l 9) .RShift (.i 1)] []
def x2:List XS:=[.rb (.cmp (.bin .Sub (.mt .yf (.l 0) []) (.l 2)) [.LtE] [.i 4000]) [.ret (.bf .divmod [.l 0,.l 1])] [],.asg (.l 3) (.bin .BitAnd (.l 2) (.i 1)),Y4,.asg (.l 4) (.bin .RShift (.l 2) (.i 1)),.asg (.l 5) (.bin .Sub (.bin .LShift (.i 1) (.l 4)) (.i 1)),.asg (.tup [.l 6,.l 7]) (.tup [.bin .RShift (.l 1) (.l 4),.bin .BitAnd (.l 1) (.l 5)]),.asg (.tup [.l 8,.l 9]) (.g 28 [.bin .RShift (.l 0) (.l 2),.bin .BitAnd (.bin .RShift (.l 0) (.l 4)) (.l 5),.l 1,.l 6,.l 7,.l 4]),.asg (.tup [.l 10,.l 9]) (.g 28 [.l 9,.bin .BitAnd (.l 0) (.l 5),.l 1,.l 6,.l 7,.l 4]),Y3,.ret (.tup [.bin .BitOr (.bin .LShift (.l 8) (.l 4)) (.l 10),.l 9])]
def f2:Fn:=⟨k2,fN 2,[.l 0,.l 1,.l 2],.inl x2⟩
def k3:K:=kk 3 27
def YZ:XS:=.rb (.cmp (.bin .RShift (.l 0) (.l 5)) [.Eq] [.l 3]) [.asg (.tup [.l 6,.l 7]) (.tup [.bin .Sub (.bin .LShift (.i 1) (.l 5)) (.i 1),.bin .Add (.bin .Sub (.l 0) (.bin .LShift (.l 3) (.l 5))) (.l 3)])] [.asg (.tup [.l 6,.l 7]) (.g 21 [.l 0,.l 3,.l 5])]
def YY:XS:=.Ls (.cmp (.l 7) [.Lt] [.i 0]) [.aug (.l 6) .Sub (.i 1),.aug (.l 7) .Add (.l 2)]
def x3:List XS:=[YZ,.asg (.l 7) (.bin .Sub (.bin .BitOr (.bin .LShift (.l 7) (.l 5)) (.l 1)) (.bin .Mult (.l 6) (.l 4))),YY,.ret (.tup [.l 6,.l 7])]
def f3:Fn:=⟨k3,fN 3,[.l 0,.l 1,.l 2,.l 3,.l 4,.l 5],.inl x3⟩
def k4:K:=kk 4 34
def x4:List XS:=[.asg (.cell 1) (.new (.bin .Mult (.list [.i 0]) (.bin .FloorDiv (.bin .Sub (.bin .Add (.mt .yf (.l 0) []) (.cell 0)) (.i 1)) (.cell 0)))),.DX (.cell 2) Av [("n",0),("inner",2),("a_digits",1)],.rb (.l 0) [.expr (.call (.cell 2) [.l 0,.i 0,.bf .len [.cell 1]] [] [])] [],.ret (.cell 1)]
def f4:Fn:=⟨k4,fN 4,[.l 0,.cell 0],.inl x4⟩
def k5:K:=kk 5 41
def x5:List XS:=[.DX (.cell 2) w9 [("n",1),("inner",2),("digits",0)],.ret (.rb (.cell 0) (.call (.cell 2) [.i 0,.bf .len [.cell 0]] [] []) (.i 0))]
def f5:Fn:=⟨k5,fN 5,[.cell 0,.cell 1],.inl x5⟩
def k6:K:=kk 6 48
def x6:List XS:=[.asg (.l 2) (.mt .yf (.l 1) []),.asg (.l 3) (.g 35 [.l 0,.l 2]),.asg (.l 4) (.i 0),.asg (.l 5) (.new (.list [])),.uY (.l 6) (.rev (.l 3)) [.asg (.tup [.l 7,.l 4]) (.g 21 [.bin .Add (.bin .LShift (.l 4) (.l 2)) (.l 6),.l 1,.l 2]),.expr (.mt .append (.l 5) [.l 7])],.expr (.mt .reverse (.l 5) []),.asg (.l 8) (.g 42 [.l 5,.l 2]),.ret (.tup [.l 8,.l 4])]
def f6:Fn:=⟨k6,fN 6,[.l 0,.l 1],.inl x6⟩
def k7:K:=kk 7 55
def ag7:XS:=.rb (.cmp (.l 1) [.Eq] [.i 0]) [.stop] [.rb (.cmp (.l 1) [.Lt] [.i 0]) [.asg (.tup [.l 2,.l 3]) (.g 56 [.un .USub (.l 0),.un .USub (.l 1)]),.ret (.tup [.l 2,.un .USub (.l 3)])] [.rb (.cmp (.l 0) [.Lt] [.i 0]) [.asg (.tup [.l 2,.l 3]) (.g 56 [.un .Invert (.l 0),.l 1]),.ret (.tup [.un .Invert (.l 2),.bin .Add (.l 1) (.un .Invert (.l 3))])] [.ret (.g 49 [.l 0,.l 1])]]]
def x7:List XS:=[ag7]
def f7:Fn:=⟨k7,fN 7,[.l 0,.l 1],.inl x7⟩
def ahk:eT:=BY (s8 10)
def QO:K:=kk 10 73
def k12:K:=kk 12 119
def x12:List XS:=[.asg (.l 1) (.mt .get (.k b3V) [.bf .ord [.l 0]]),.rb (.cmp (.l 1) [.IsNot] [.k .none]) [.ret (.l 1)] [],.ret (.mt .lower (.l 0) [])]
def f12:Fn:=⟨k12,fN 12,[.l 0],.inl x12⟩
def k14:K:=kk 14 128
noncomputable def Za:List XS:=[.asg (.l 2) (.star [.l 2,.l 3]),.asg (.l 4) (.mc (.l 0) "makeelement" [.l 1,.l 2]),.expr (.mt .append (.l 0) [.l 4]),.ret (.l 4)]
def f14:Fn:=⟨k14,["parent","tag","attrib","extra"],[.l 0,.l 1,.l 2,.l 3],.inl Za⟩
def k15:K:=kk 15 135
noncomputable def Y':List XS:=[.uY (.l 2) (.mc (.l 1) "itertext" []) [.expr (.call (.l 0) [.l 2] [] [])],.rb (.attr (.l 1) "tail") [.expr (.call (.l 0) [.attr (.l 1) "tail"] [] [])] []]
def f15:Fn:=⟨k15,fN 15,[.l 0,.l 1],.inl Y'⟩
def k17:K:=kk 17 149
def x17:List XS:=[.yO [ez "&" "&amp;",ez "<" "&lt;",ez ">" "&gt;",.ret (.l 0)]]
def f17:Fn:=⟨k17,fN 17,[.l 0],.inl x17⟩
def k18:K:=kk 18 156
def x18:List XS:=[.yO [ez "&" "&amp;",ez "<" "&lt;",ez ">" "&gt;",ez "\"" "&quot;",ez "\x0d" "&#13;",ez "\n" "&#10;",ez "\t" "&#09;",.ret (.l 0)]]
def f18:Fn:=⟨k18,fN 18,[.l 0],.inl x18⟩
def k19:K:=kk 19 163
def x19:List XS:=[.yO [ez "&" "&amp;",ez ">" "&gt;",ez "\"" "&quot;",.ret (.l 0)]]
def f19:Fn:=⟨k19,fN 19,[.l 0],.inl x19⟩
def k20:K:=kk 20 170
def x20:List XS:=[.yO [ez "&" "&amp;",ez "<" "&lt;",ez ">" "&gt;",ez "\x0d" "&#xD;",.ret (.l 0)]]
def f20:Fn:=⟨k20,fN 20,[.l 0],.inl x20⟩
def k21:K:=kk 21 177
def x21:List XS:=[.yO [ez "&" "&amp;",ez "<" "&lt;",ez "\"" "&quot;",ez "\t" "&#x9;",ez "\n" "&#xA;",ez "\x0d" "&#xD;",.ret (.l 0)]]
def f21:Fn:=⟨k21,fN 21,[.l 0],.inl x21⟩
def k23:K:=kk 23 182
def Vp:XS:=.asg (.l 3) (.bin .Add (.list [.i 97,.i 65]) (.comp (.bin .Add (.i 119808) (.bin .Mult (.i 52) (.l 0))) [.l 0] [.tup [.i 0,.i 1,.i 2,.i 4,.i 7,.i 8,.i 9,.i 10,.i 11,.i 12]] [[]] 1 0))
def Y_:List XS:=[.asg (.cell 0) (.bin .Add (.list [.i 173,.i 847,.i 6150,.i 6155,.i 6156,.i 6157,.i 8203,.i 8204,.i 8205,.i 8288,.i 65279]) (.bf .list [.bf .range [.i 65024,.i 65040]])),Vp,.asg (.cell 1) (.new (.dict [] [])),.uY (.tup [.l 4,.l 5]) (.enum (.l 1)) [.asg (.tup [.l 6,.l 7]) (.tup [.bin .Mod (.bin .FloorDiv (.l 2) (.bin .Pow (.i 13) (.l 4))) (.i 36),.bf .chr [.sub (.cell 0) (.bin .Mod (.bin .FloorDiv (.l 2) (.bin .Add (.l 4) (.i 2))) (.i 27))]]),.asg (.l 8) (.bf .chr [.bin .Sub (.bin .Add (.sub (.l 3) (.bin .Mod (.l 6) (.i 12))) (.bf .ord [.l 5])) (.i 97)]),.wj (.cell 1) (.l 5) (.sub (.list [.l 8,.bin .Add (.l 7) (.l 8),.bin .Add (.l 8) (.l 7)]) (.bin .FloorDiv (.l 6) (.i 12)))],.asg (.l 9) (.rb (.cmp (.bin .Mod (.l 2) (.i 2)) [.Eq] [.i 1]) (.mt .replace (.mt .replace (.mt .replace (.l 0) [.k (.qr "fl"),.k (.qr "ﬂ")]) [.k (.qr "rs"),.k (.qr "₨")]) [.k (.qr "st"),.k (.qr "ﬆ")]) (.l 0)),.asg (.cell 2) (.mt .join (.k (.qr "")) [.comp (.mt .get (.cell 1) [.l 0,.l 0]) [.l 0] [.l 9] [[]] 1 0]),.asg (.cell 3) (.comp (.g 74 [.l 0]) [.l 0] [.cell 2] [[]] 1 0),.asg (.l 10) (.comp (.g 120 [.sub (.cell 2) (.l 0)]) [.l 0] [.bf .range [.bf .len [.cell 2]]] [[.cmp (.sub (.cell 3) (.l 0)) [.Is] [.k (.bool false)]]] 1 0),.ret (.rb (.cmp (.comp (.cmp (.l 0) [.Is] [.k (.bool true)]) [.l 0] [.cell 3] [[]] 1 0) [.Eq] [.comp (.cmp (.bf .ord [.l 0]) [.In] [.cell 0]) [.l 0] [.cell 2] [[]] 1 0]) (.mt .join (.k (.qr "")) [.l 10]) (.k (.qr "")))]
def f23:Fn:=⟨k23,fN 23,[.l 0,.l 1,.l 2],.inl Y_⟩
def k24:K:=kk 24 189
def x24:List XS:=[.asg (.cell 1) (.lam Mg []),.setAttr (.cell 1) "tag" (.cell 0),.setAttr (.cell 1) "attrib" (.l 0),.setAttr (.cell 1) "tail" (.mt .get (.l 0) [.k (.qr "tail")]),.setAttr (.cell 1) "kids" (.new (.list [])),.setAttr (.cell 1) "append" (.attr (.attr (.cell 1) "kids") "append"),.setAttr (.cell 1) "makeelement" (.k (.con (.ref 190))),.setAttr (.cell 1) "itertext" (.lam xJ [("tag",0),("one",1)]),.ret (.cell 1)]
def f24:Fn:=⟨k24,fN 24,[.cell 0,.l 0],.inl x24⟩
def k25:K:=kk 25 196
def Y9:List XS:=[.asg (.tup [.l 6,.l 7,.l 8]) (.tup [.new (.list []),.new (.list [.g 190 [.k (.qr ""),.dict [] []]]),.new (.list [])]),.uY (.l 9) (.bf .range [.bf .len [.l 1]]) [.asg (.tup [.l 10,.l 11]) (.tup [.rb (.cmp (.l 9) [.Gt] [.i 0]) (.k (.qr "&")) (.l 5),.dict [.k (.qr "tail"),.k (.qr "own")] [.k (.qr "?"),.sub (.l 1) (.l 9)]]),.uY (.l 12) (.bf .range [.sub (.l 3) (.l 9)]) [.asg (.l 10) (.call (.l 4) [.l 10] [] [])],.expr (.mt .append (.l 7) [.call (.k (.con (.ref 129))) [.sub (.l 7) (.bin .Add (.sub (.l 2) (.l 9)) (.i 1)),.sub (.l 0) (.bin .Add (.sub (.l 1) (.l 9)) (.i 3)),.l 11] ["tail"] [.l 10]]),.expr (.mt .append (.l 8) [.and [.cmp (.attr (.sub (.l 7) (.un .USub (.i 1))) "attrib") [.Eq] [.dict [.k (.qr "tail"),.k (.qr "own")] [.l 10,.sub (.l 1) (.l 9)]],.cmp (.l 11) [.Eq] [.dict [.k (.qr "tail"),.k (.qr "own")] [.k (.qr "?"),.sub (.l 1) (.l 9)]]]])],.ret (.rb (.and [.cmp (.g 136 [.attr (.l 6) "append",.sub (.l 7) (.i 1)]) [.Is] [.k .none],.cmp (.l 8) [.Eq] [.bin .Mult (.list [.k (.bool true)]) (.bf .len [.l 1])]]) (.mt .join (.k (.qr "")) [.l 6]) (.k (.qr "")))]
def f25:Fn:=⟨k25,fN 25,[.l 0,.l 1,.l 2,.l 3,.l 4,.l 5],.inl Y9⟩
def k26:K:=kk 26 203
def Y8:List XS:=[.asg (.tup [.l 2,.l 3,.l 4,.l 5,.l 6]) (.tup [.new (.list []),.new (.list []),.new (.list []),.new (.list []),.i 0]),.uY (.l 7) (.l 0) [.rb (.cmp (.l 7) [.In] [.l 1]) [.expr (.mt .append (.l 3) [.rb (.l 5) (.sub (.l 5) (.un .USub (.i 1))) (.un .USub (.i 1))]),.expr (.mt .append (.l 5) [.bf .len [.l 2]]),.expr (.mt .append (.l 2) [.bin .Sub (.mt .index (.l 1) [.l 7]) (.i 3)]),.expr (.mt .append (.l 4) [.i 0])] [.rb (.cmp (.l 7) [.Eq] [.k (.qr "&")]) [.asg (.l 6) (.mt .pop (.l 5) [])] [.rb (.cmp (.l 7) [.Eq] [.k (.qr ";")]) [.uC (.l 4) (.l 6) .Add (.i 1)] []]]],.ret (.tup [.l 2,.l 3,.l 4,.l 5])]
def f26:Fn:=⟨k26,fN 26,[.l 0,.l 1],.inl Y8⟩
def k27:K:=kk 27 210
def Y7:List XS:=[.asg (.tup [.l 2,.l 3]) (.tup [.new (.list []),.list []]),.uY (.l 4) (.bf .range [.l 0]) [.asg (.l 3) (.rb (.l 3) (.C3 (.l 3) (.k .none) (.bin .Add (.i 1) (.bin .Mod (.bin .FloorDiv (.l 1) (.bin .Pow (.i 12) (.l 4))) (.bf .len [.l 3])))) (.list [])),.expr (.mt .append (.l 2) [.rb (.l 3) (.sub (.l 3) (.un .USub (.i 1))) (.un .USub (.i 1))]),.asg (.l 3) (.bin .Add (.l 3) (.list [.l 4]))],.ret (.l 2)]
def f27:Fn:=⟨k27,fN 27,[.l 0,.l 1],.inl Y7⟩
def k28:K:=kk 28 215
def Y6:List XS:=[.asg (.tup [.l 0,.cell 5]) (.tup [.i 0,.comp (.l 0) [.l 0] [.bf .range [.cell 3,.bf .len [.cell 0]]] [[.cmp (.sub (.cell 1) (.l 0)) [.GtE] [.cell 3]]] 1 0]),.uY (.cell 6) (.bf .range [.bin .Pow (.i 2) (.bf .len [.cell 5])]) [.asg (.l 1) (.comp (.sub (.cell 5) (.l 0)) [.l 0] [.bf .range [.bf .len [.cell 5]]] [[.cmp (.bin .Mod (.bin .FloorDiv (.cell 6) (.bin .Pow (.i 2) (.l 0))) (.i 2)) [.Eq] [.i 1]]] 1 0),.asg (.cell 7) (.bin .Add (.l 1) (.comp (.sub (.cell 1) (.l 0)) [.l 0] [.l 1] [[]] 1 0)),.rb (.cmp (.bf .set [.cell 7]) [.Eq] [.bf .len [.cell 7]]) [.asg (.l 2) (.i 1),.uY (.l 3) (.bin .Add (.comp (.un .USub (.bin .Pow (.sub (.cell 2) (.l 0)) (.i 2))) [.l 0] [.l 1] [[]] 1 0) (.comp (.bin .Sub (.cell 4) (.sub (.cell 0) (.l 0))) [.l 0] [.bf .range [.cell 3,.bf .len [.cell 0]]] [[.cmp (.l 0) [.NotIn] [.cell 7]]] 1 0)) [.aug (.l 2) .Mult (.l 3)],.aug (.l 0) .Add (.l 2)] []],.ret (.l 0)]
def f28:Fn:=⟨k28,fN 28,[.cell 0,.cell 1,.cell 2,.cell 3,.cell 4],.inl Y6⟩
def k29:K:=kk 29 222
def Y5:List XS:=[.asg (.l 3) (.new (.list [])),.uY (.l 4) (.bf .range [.l 2]) [.asg (.tup [.l 0,.l 5]) (.g 56 [.l 0,.l 1]),.rb (.un .Not (.or [.cmp (.i 0) [.LtE,.Lt] [.l 5,.l 1],.cmp (.l 1) [.Lt,.LtE] [.l 5,.i 0]])) [.ret (.list [.i 0])] [],.rb (.cmp (.bin .Mult (.i 2) (.bf .abs [.l 5])) [.Gt] [.bf .abs [.l 1]]) [.asg (.tup [.l 0,.l 5]) (.tup [.bin .Add (.l 0) (.i 1),.bin .Sub (.l 5) (.l 1)])] [],.expr (.mt .append (.l 3) [.l 5])],.ret (.rb (.cmp (.l 0) [.Eq] [.i 0]) (.l 3) (.list [.i 0]))]
def f29:Fn:=⟨k29,fN 29,[.l 0,.l 1,.l 2],.inl Y5⟩
def k30:K:=kk 30 227
def Y2:List XS:=[.asg (.cell 0) (.comp (.cmp (.l 0) [.Gt] [.i 0]) [.l 0] [.l 0] [[.cmp (.l 0) [.NotEq] [.i 0]]] 1 0),.ret (.bf .len [.comp (.i 1) [.l 0] [.bf .range [.i 1,.bf .len [.cell 0]]] [[.cmp (.sub (.cell 0) (.l 0)) [.NotEq] [.sub (.cell 0) (.bin .Sub (.l 0) (.i 1))]]] 1 0])]
def f30:Fn:=⟨k30,fN 30,[.l 0],.inl Y2⟩
def k31:K:=kk 31 232
def Vo:XS:=.asg (.tup [.l 3,.l 4,.l 5,.l 6]) (.tup [.new (.comp (.tup [.bin .Sub (.l 0) (.cell 0),.i 1]) [.l 0] [.l 0] [[]] 1 0),.new (.bin .Mult (.list [.i 0]) (.bf .len [.l 0])),.new (.list [.i 0,.i 0,.i 0]),.list []])
def Y1:List XS:=[Vo,.uY (.l 7) (.bf .range [.bin .Sub (.bf .len [.l 0]) (.i 1),.un .USub (.i 1),.un .USub (.i 1)]) [.asg (.tup [.l 6,.tup [.l 8,.l 9]]) (.tup [.bf .list [.l 5],.sub (.l 3) (.l 7)]),.rb (.cmp (.sub (.l 4) (.l 7)) [.Gt] [.i 0]) [.asg (.l 5) (.new (.list [.bin .Add (.sub (.l 5) (.i 0)) (.i 1),.bin .Add (.sub (.l 5) (.i 1)) (.i 1),.bin .Sub (.sub (.l 5) (.i 2)) (.i 1)]))] [.rb (.cmp (.l 8) [.Eq] [.i 0]) [.uC (.l 5) (.i 2) .Add (.i 1),.uC (.l 4) (.sub (.l 1) (.l 7)) .Add (.rb (.cmp (.sub (.l 2) (.l 7)) [.NotEq] [.i 0]) (.i 1) (.i 0))] [.uC (.l 5) (.rb (.cmp (.bin .Mult (.l 8) (.l 9)) [.Gt] [.i 0]) (.i 0) (.i 1)) .Add (.i 1),.asg (.tup [.l 10,.l 11]) (.sub (.l 3) (.sub (.l 1) (.l 7))),.rb (.cmp (.sub (.l 2) (.l 7)) [.NotEq] [.i 0]) [.wj (.l 3) (.sub (.l 1) (.l 7)) (.tup [.bin .Sub (.bin .Mult (.l 10) (.l 8)) (.bin .Mult (.bin .Mult (.bin .Pow (.sub (.l 2) (.l 7)) (.i 2)) (.l 9)) (.l 11)),.bin .Mult (.l 11) (.l 8)])] []]]],.ret (.tup [.l 5,.l 6])]
def f31:Fn:=⟨k31,fN 31,[.l 0,.l 1,.l 2,.cell 0],.inl Y1⟩
def k32:K:=kk 32 237
def Vn:XS:=.asg (.cell 0) (.comp (.rb (.cmp (.l 0) [.Gt] [.i 0]) (.bin .Mod (.l 0) (.bin .Pow (.i 10) (.i 12))) (.un .USub (.bin .Mod (.un .USub (.l 0)) (.bin .Pow (.i 10) (.i 12))))) [.l 0] [.C3 (.l 0) (.k .none) (.i 60)] [[]] 1 0)
def Vl:XS:=.asg (.tup [.cell 2,.l 1,.l 2,.l 3]) (.tup [.bin .Add (.i 2) (.bin .Mod (.sub (.cell 1) (.i 0)) (.i 4)),.k (.qr "fhklrst"),.sub (.cell 1) (.i 3),.sub (.list [.k (.qr "&"),.k .none,.k (.qr "")]) (.bin .Mod (.bin .FloorDiv (.sub (.cell 1) (.i 5)) (.i 60)) (.i 3))])
def Vk:XS:=.asg (.l 4) (.sub (.list [.k (.con (.ref 150)),.k (.con (.ref 157)),.k (.con (.ref 164)),.k (.con (.ref 171)),.k (.con (.ref 178))]) (.bin .Mod (.bin .FloorDiv (.sub (.cell 1) (.i 0)) (.i 4)) (.i 5)))
def Vj:XS:=.asg (.tup [.cell 3,.cell 4]) (.tup [.comp (.bin .Sub (.bin .Mod (.bin .FloorDiv (.sub (.cell 1) (.i 1)) (.bin .Pow (.i 7) (.l 0))) (.i 7)) (.i 3)) [.l 0] [.bf .range [.cell 2]] [[]] 1 0,.g 211 [.cell 2,.bin .FloorDiv (.sub (.cell 1) (.i 2)) (.i 256)]])
def Vi:XS:=.asg (.cell 5) (.bin .Add (.list [.i 0]) (.comp (.bin .Mod (.bin .FloorDiv (.sub (.cell 1) (.i 2)) (.bin .Pow (.i 4) (.l 0))) (.i 4)) [.l 0] [.bf .range [.bin .Sub (.cell 2) (.i 1)]] [[]] 1 0))
def Vh:XS:=.asg (.l 5) (.g 197 [.l 1,.cell 3,.cell 4,.cell 5,.l 4,.l 3])
def Vg:XS:=.rb (.or [.cmp (.call (.l 4) [.l 5] [] []) [.NotEq] [.mt .replace (.l 5) [.k (.qr "&"),.k (.qr "&amp;")]],.cmp (.g 183 [.l 5,.l 1,.sub (.cell 1) (.i 4)]) [.NotEq] [.l 5],.cmp (.g 204 [.l 5,.l 1]) [.NotEq] [.tup [.cell 3,.cell 4,.cell 5,.rb (.cmp (.l 3) [.Eq] [.k (.qr "&")]) (.list []) (.list [.i 0])]]]) [.ret (.k (.bool false))] []
def Vf:XS:=.asg (.l 6) (.bin .Add (.bin .Add (.bin .Add (.i 32) (.bin .Mult (.i 6) (.mt .yf (.bf .abs [.l 2]) []))) (.bin .Mod (.sub (.cell 1) (.i 5)) (.i 60))) (.rb (.cmp (.bin .Mod (.bin .FloorDiv (.sub (.cell 1) (.i 5)) (.i 180)) (.i 16)) [.Eq] [.i 5]) (.i 4000) (.i 0)))
def Ve:XS:=.asg (.tup [.l 7,.l 8]) (.tup [.bin .Pow (.i 2) (.l 6),.g 233 [.cell 3,.cell 4,.cell 5,.l 2]])
noncomputable def Pt:XS:=.asg (.l 13) (.bf .max [.comp (.bin .Add (.bin .Add (.sub (.cell 4) (.cell 0)) (.sub (.cell 6) (.cell 0))) (.bf .sum [.comp (.sub (.cell 6) (.l 0)) [.l 0] [.bf .range [.cell 3]] [[.cmp (.sub (.cell 5) (.l 0)) [.Eq] [.cell 0]]] 1 0])) [.cell 0] [.bf .range [.cell 2]] [[]] 0 1])
def Pr:XS:=.ret (.cmp (.g 35 [.g 216 [.cell 3,.cell 4,.cell 5,.i 0,.bin .Add (.l 7) (.l 13)],.l 6]) [.Eq] [.g 223 [.g 216 [.cell 3,.cell 4,.cell 5,.i 0,.l 7],.bin .Sub (.l 7) (.l 13),.bin .Add (.cell 2) (.i 1)]])
def Y0:List XS:=[Vn,.asg (.cell 1) (.comp (.bin .Add (.l 1) (.bf .sum [.comp (.sub (.cell 0) (.l 0)) [.l 0] [.bf .range [.l 0,.bf .len [.cell 0],.i 6]] [[]] 1 0])) [.tup [.l 0,.l 1]] [.enum (.tup [.i 14,.i 2293,.i 36905,.i 1,.i 31415,.i 7])] [[]] 2 0),Vl,Vk,Vj,Vi,Vh,Vg,Vf,Ve,.uY (.l 9) (.tup [.i 0,.i 1]) [.asg (.l 10) (.g 216 [.cell 3,.cell 4,.cell 5,.l 9,.l 7]),.asg (.tup [.l 11,.l 12]) (.tup [.g 223 [.l 10,.bin .Sub (.l 7) (.l 2),.bin .Sub (.bin .Add (.cell 2) (.i 1)) (.l 9)],.g 223 [.l 10,.bin .Sub (.l 2) (.l 7),.bin .Sub (.bin .Add (.cell 2) (.i 1)) (.l 9)]]),.rb (.or [.cmp (.sub (.l 11) (.un .USub (.i 1))) [.NotEq] [.i 1],.cmp (.bin .Pow (.sub (.l 12) (.un .USub (.i 1))) (.i 2)) [.NotEq] [.i 1],.cmp (.list [.g 228 [.l 11],.g 228 [.l 12],.mt .index (.comp (.cmp (.l 0) [.Eq] [.i 0]) [.l 0] [.l 11] [[]] 1 0) [.k (.bool false)]]) [.NotEq] [.sub (.l 8) (.l 9)]]) [.ret (.k (.bool false))] [],.rb (.cmp (.g 42 [.l 11,.l 6]) [.NotEq] [.g 216 [.cell 3,.cell 4,.cell 5,.l 9,.bin .Add (.l 7) (.l 2)]]) [.ret (.k (.bool false))] []],Pt,Pr]
def f32:Fn:=⟨k32,fN 32,[.l 0],.inl Y0⟩
noncomputable def ab3:List (ba×aj):=["len","sum","chr","ord","max","abs","divmod","range","list","set","reversed","enumerate"].filterMap λ(f:String)=>let p:ba:=az f;(bootBuiltins p).map λs=>(p,s)
def g0:Glob:={ top:=NY.map λb=>(b.1,b.2.2),blt:=ab3,Cz:=Qi,vals:=[("b3_exceptions",b3V)] }
noncomputable def rP (c:Nat)(a:List V)(f:List ba)(j:List V):Option (List V):=if f=[]/\j.length=0/\a.length=c then Y a else N
noncomputable def subB (a:List V)(f:List ba)(j:List V):Option (List V):=if f.length=j.length/\(f=[]\/f=[az "tail"]) then match a with
 |[k,L]=>Y [k,L,.rt [] [],.rt (f.map .str) j]|[k,L,A]=>if f=[] then N else Y [k,L,A,.rt (f.map .str) j]
 |_=>N else N
def t32:rK:=⟨238,f32,rP 1,true,[]⟩
def t31:rK:=⟨233,f31,rP 4,true,["parts","nought","counts"]⟩
def t30:rK:=⟨228,f30,rP 1,true,[]⟩
def t29:rK:=⟨223,f29,rP 3,true,["figures"]⟩
def t28:rK:=⟨216,f28,rP 5,true,[]⟩
def t27:rK:=⟨211,f27,rP 2,true,["above"]⟩
def t26:rK:=⟨204,f26,rP 2,true,["own","above","ties","path"]⟩
def t25:rK:=⟨197,f25,rP 6,true,["page","made","kept"]⟩
def t24:rK:=⟨190,f24,rP 2,false,["kids"]⟩
def t23:rK:=⟨183,f23,rP 3,true,["forms"]⟩
def t21:rK:=⟨178,f21,rP 1,true,[]⟩
def t20:rK:=⟨171,f20,rP 1,true,[]⟩
def t19:rK:=⟨164,f19,rP 1,true,[]⟩
def t18:rK:=⟨157,f18,rP 1,true,[]⟩
def t17:rK:=⟨150,f17,rP 1,true,[]⟩
def t15:rK:=⟨136,f15,rP 2,false,[]⟩
def Zn:rK:=⟨129,f14,subB,false,[]⟩
def Zo:rK:=⟨120,f12,rP 1,true,[]⟩
def t7:rK:=⟨56,f7,rP 2,true,[]⟩
def t6:rK:=⟨49,f6,rP 2,true,["q_digits"]⟩
def t5:rK:=⟨42,f5,rP 2,false,[]⟩
def t4:rK:=⟨35,f4,rP 2,true,["a_digits"]⟩
def t3:rK:=⟨28,f3,rP 6,true,[]⟩
def t2:rK:=⟨21,f2,rP 3,true,[]⟩
def zE:List rK:=[t32,t31,t30,t29,t28,t27,t26,t25,t24,t23,t21,t20,t19,t18,t17,t15,Zn,Zo,t7,t6,t5,t4,t3,t2]
noncomputable def Ft:List Int:=[65024,65025,65026,65027,65028,65029,6150,65030,65031,65032,65033,6155,6156,6157,8203,8204,8205,65034,65035,65036,65037,65038,65039,173,847,8288,65279]
def HI (p:ba):Option V:=match p.cps.toList with
 |[c]=>Y (.bool (Ft.contains (c:Int)))|_=>N
def VE (a:List V):Option V:=match a with
 |[.str p]=>HI p|_=>N
def zJ (v:bK)(a:List V):Option V:=if v=74 then VE a else N
def qy (c:Nat):vA:=Vm.Oq g0 [] zE zJ c
end L1
end
noncomputable section
namespace PySem.Sem
theorem NT (T:Model)(t){b:aj->dA->ay->Prop}{U:ay}(e:U.heap.get? v=Y ⟨.type "dict",N,.dict #[] n,#[]⟩)(L:Unit->dA->ay->Prop)(h:∀k,k.get? v=Y ⟨.type "dict",N,.dict #[⟨fS T.w.params q,.str q U.toks,I⟩]<|n+1,#[]⟩->ff v U.heap k->L () p { U with heap:=k,toks:=U.toks+1 }):wp T t (nsSet v q I) L b p U:=by
 simp only[nsSet,strHash,wp_bind',wp_cmd_ask,wp_pure',wp_cmd_mkText];refine Q (wp_loadPart_of T t b p { U with toks:=U.toks+1 } _ e ..) ⟨Q e rfl,h _ (d9 _ e rfl |>.trans ?_)<|cS ..⟩;rfl
end PySem.Sem
namespace L1
open uJ
open Vm
theorem Xj {L:Model}{q:Unit->ay->Prop}{d:aj->ay->Prop}{U:ay}(e:U.heap.get? v=Y ⟨.type "dict",N,.dict #[] n,#[]⟩)(h:∀k,k.get? v=Y ⟨.type "dict",N,.dict #[⟨fS L.w.params p,.str p U.toks,I⟩]<|n+1,#[]⟩->ff v U.heap k->q () { U with heap:=k,toks:=U.toks+1 }):wpAny L T (nsSet v p I) q d U:=λt f J=>gE.NT L t e _ h
section
variable {i:Model}{A:Around}{w x2 x3:aj}{g:List (ba×aj)->ay->Prop}{E:aj->ay->Prop}{s:ay}
def KW (n:FuncData):Prop:=∃I e h c f L T v a,n.params=⟨[],[⟨"parent",I,e⟩,⟨"tag",h,c⟩,⟨"attrib",f,L⟩],N,[],[],Y ⟨"extra",T,v⟩,a⟩/\n.defaults=.ref 122
theorem F' {h:Option (Array aj)->gE (List<|ba×aj)}(U:s.heap.get? 122=Y ⟨.type "tuple",N,.seq #[.ref 121] 0,#[]⟩)(d:wpAny i A (h<|Y #[.ref 121]) g E s):wpAny i A (seqItems? (.ref 122)>>=h) g E s:=af<|af<|kN U<|wpAny_pure d
theorem ab5 {o:FuncData}(p:KW o) (q:s.heap.get? 122=Y ⟨.type "tuple",N,.seq #[.ref 121] 0,#[]⟩) (d:wpAny i A (pf ⟨.type "dict",N,.dict #[] 0,#[]⟩) (λv t=>g [(az "parent",w),(az "tag",x2),(az "attrib",.ref 121),(az "extra",.ref v)] t) E s):wpAny i A (iH o ⟨[w,x2],[]⟩) g E s:=by obtain ⟨_,_,_,_,_,_,_,_,_,_,_,_,_⟩:=o;obtain ⟨I,e,h,c,f,L,T,U,a,k,n⟩:=p;subst k n;exact F' q (af<|wpAny_mono d (λv t d=>wpAny_pure d) λJ J d=>d:wpAny i A (pf _>>=_) g E s)
theorem Yq {o:FuncData}(p:KW o) {h:aj}(j:s.heap.get? 122=Y ⟨.type "tuple",N,.seq #[.ref 121] 0,#[]⟩) (d:wpAny i A (pf ⟨.type "dict",N,.dict #[] 0,#[]⟩) (λv t=>wpAny i A (nsSet v (az "tail") h) (λJ=>g [(az "parent",w),(az "tag",x2),(az "attrib",.ref 121),(az "extra",.ref v)]) E t) E s):wpAny i A (iH o ⟨[w,x2],[(az "tail",h)]⟩) g E s:=by
 obtain ⟨_,_,_,_,_,_,_,_,_,_,_,_,_⟩:=o;obtain ⟨I,e,k,c,f,L,T,U,a,q,n⟩:=p;subst q n;refine F' j (?_:wpAny i A (pf _>>=_) g E s);refine af<|wpAny_mono d (λv t d=>(?_:wpAny i A (((nsSet v (az "tail") h>>=λJ=>pure _)>>=_)>>=_) g E t)) λJ J d=>d
 exact af<|af<|af<|wpAny_mono d (λJ b d=>wpAny_pure<|wpAny_pure<|wpAny_pure d) λJ J d=>d
theorem Yp {o:FuncData}(p:KW o) {I:aj}(j:s.heap.get? 122=Y ⟨.type "tuple",N,.seq #[.ref 121] 0,#[]⟩) (d:wpAny i A (pf ⟨.type "dict",N,.dict #[] 0,#[]⟩) (λv t=>wpAny i A (nsSet v (az "tail") I) (λJ=>g [(az "parent",w),(az "tag",x2),(az "attrib",x3),(az "extra",.ref v)]) E t) E s):wpAny i A (iH o ⟨[w,x2,x3],[(az "tail",I)]⟩) g E s:=by
 obtain ⟨_,_,_,_,_,_,_,_,_,_,_,_,_⟩:=o;obtain ⟨T,e,h,c,f,L,U,b,a,k,n⟩:=p;subst k n;refine F' j (?_:wpAny i A (pf _>>=_) g E s);refine af<|wpAny_mono d (λv t d=>(?_:wpAny i A (((nsSet v (az "tail") I>>=λJ=>pure _)>>=_)>>=_) g E t)) λJ J d=>d
 exact af<|af<|af<|wpAny_mono d (λJ q d=>wpAny_pure<|wpAny_pure<|wpAny_pure d) λJ J d=>d
end
theorem P_ (k:fM):k.get? k.objs.size=N:=by
 cases e:k.get? k.objs.size with
 |none=>rfl|some I=>exact absurd (bP e)<|b8 _
theorem SI (e:subB a kn kv=Y y):(kn.length=kv.length/\(kn=[]\/kn=[az "tail"]))/\((∃k L,a=[k,L]/\y=[k,L,.rt [] [],.rt (kn.map .str) kv])\/∃k L I,a=[k,L,I]/\kn≠[]/\y=[k,L,I,.rt (kn.map .str) kv]):=by
 refine qX e λt e=>⟨t,?_⟩
 cases a with
 |nil=>exact nS e|cons k a=>cases a with
  |nil=>exact nS e|cons L a=>cases a with
   |nil=>exact .inl<|wy k L rfl<|(ae e).symm
   |cons I a=>cases a with
    |nil=>exact rW e λT e=>.inr<|Ec k L I rfl T<|(ae e).symm
    |cons J W=>exact nS e
section
variable {fd:FuncData}(x:KW fd) (j:C.tD 122=Y ⟨.type "tuple",N,.seq #[.ref 121] 0,#[]⟩) {A:Around}{W:Wd}{G:List O}{z:List aj}{w x2 x3:aj}(H:qP C G W) {y:List V}
 {g:List (ba×aj)->ay->Prop}{E:aj->ay->Prop}(hq:∀(u:Wd)(r:List<|ba×aj),Pext0 C W u->(r.map (·.1)=[az "parent",az "tag",az "attrib",az "extra"]/\qD C u y (r.map (·.2)))->g r u.s)
include x j H hq
theorem SF (t:z=[w,x2]/\x3=.ref 121)(n:∀u,W.le u->∀v,qu C u (.rt [] []) (.ref v)->qD C u y [w,x2,x3,.ref v]):wpAny (model C.prog C.w) A (iH fd ⟨z,[]⟩) g E W.s:=by
 obtain ⟨rfl,rfl⟩:=t;refine ab5 x (H.I _ _<|H.top _ _ j)<|j4 ?_
 have I:=Pext0.DG ⟨.type "dict",N,.dict #[] 0,#[]⟩ rfl W.s.toks H.sD;exact hq ⟨W.G.vq W.s.heap.objs.size ⟨.type "dict",N,.dict #[] 0,#[]⟩,W.σ,_⟩ _ I ⟨rfl,n _ I.le _<|.rt (Gm.rO _ _ _) .nil .nil⟩
theorem SE (o:z=[w,x2,x3]\/(z=[w,x2]/\x3=.ref 121)) {k:V}{I:aj}(p:qu C W k I) (t:∀u,W.le u->∀v,qu C u (.rt [.str<|az "tail"] [k]) (.ref v)->qD C u y [w,x2,x3,.ref v]):wpAny (model C.prog C.w) A (iH fd ⟨z,[(az "tail",I)]⟩) g E W.s:=by
 have d:wpAny (model C.prog C.w) A (pf ⟨.type "dict",N,.dict #[] 0,#[]⟩) (λv U=>wpAny (model C.prog C.w) A (nsSet v (az "tail") I) (λJ=>g [(az "parent",w),(az "tag",x2),(az "attrib",x3),(az "extra",.ref v)]) E U) E W.s:=by
  refine j4<|Xj (bb _ rfl) λL T a=>?_
  have b:=Pext0.frz (s':={ W.s with heap:=L,toks:=W.s.toks+1 }) (λq c n=>(a.2 q<|cJ<|bP n).trans<|aY _ n) T (P_ _) H.sD rfl rfl;exact hq ⟨_,W.σ,{ W.s with heap:=L,toks:=W.s.toks+1 }⟩ _ b ⟨rfl,t _ b.le _<|.rt (Gm.rO _ _ _) (mA _ _)<|.str rfl (qu.mono p b.le) .nil⟩
 exact o.elim (λn=>Q n<|Yp x (H.I _ _<|H.top _ _ j) d) λn=>by obtain ⟨rfl,rfl⟩:=n;exact Yq x (H.I _ _<|H.top _ _ j) d
theorem LC {d:List V}(p:(z=[w,x2,x3]/\kn≠[])\/(z=[w,x2]/\x3=.ref 121))(Q3:kn.length=d.length)(n:kn=[]\/kn=[az "tail"])(U:qD C W d ks)(q:∀u,W.le u->∀v,qu C u (.rt (kn.map .str) d) (.ref v)->qD C u y [w,x2,x3,.ref v]):wpAny (model C.prog C.w) A (iH fd ⟨z,kn.zip ks⟩) g E W.s:=by
 refine gk λo I=>?_
 rcases n with e|e
 .have L:d=[]:=cO.mp<|Q3.symm.trans<|qn jN e
  rw[L] at U
  revert q;refine Q e<|Q L ?_;intro q
  exact I<|Q e<|Q U.inv<|SF x j H hq (p.resolve_left λt=>t.2 e) q
 .obtain ⟨T,L⟩:=List.length_eq_one_iff.mp (Q3.symm.trans<|qn jN e);rw[L] at U
  obtain ⟨a,b,U.inv,c,f⟩:=U.inv;revert q;refine Q e<|Q L ?_;intro q
  exact I<|Q e<|Q U.inv<|Q f.inv<|SE x j H hq (p.imp_left λt=>t.1) c q
end
theorem SG {p:FuncData}(x:KW p)
  (j:C.tD 122=Y ⟨.type "tuple",N,.seq #[.ref 121] 0,#[]⟩) (I:C.tD 121=Y ⟨.type "dict",N,.dict #[] 0,#[]⟩) (as:List V) (f:List ba) (L y:List V) (n:subB as f L=Y y) :
  wx C p as f L [az "parent",az "tag",az "attrib",az "extra"] y:=λA W G z b H U d=>q6.mk λg E hq=>by
 refine gk λo e=>?_
 obtain ⟨⟨Q3,hc2⟩,n⟩:=SI n;rcases n with ⟨k,t,ea,c⟩|⟨k,t,a,ea,en,c⟩
 .revert U;refine Q ea ?_;intro U;obtain ⟨c1,l1,q1,r1,U⟩:=U.inv;obtain ⟨c2,q,q2,r2,U⟩:=U.inv;have q3:q=[]:=U.inv;exact e<|LC x j H hq (.inr ⟨by refine Q q1<|Q q2<|Q q3 rfl,rfl⟩) Q3 hc2 d λu T v r=>Q c<|.cons (qu.mono r1 T)<|.cons (qu.mono r2 T)<|.cons (.rt (T.G.I _ _<|H.top _ _ I) .nil .nil)<|.cons r .nil
 .rw[ea] at U
  obtain ⟨c1,l1,q1,r1,U⟩:=U.inv;obtain ⟨c2,q,q2,r2,U⟩:=U.inv;obtain ⟨h,l3,q3,r3,U⟩:=U.inv;exact e<|LC x j H hq (.inl ⟨by refine Q q1<|Q q2<|Q q3<|Q U.inv rfl,en⟩) Q3 hc2 d λu T v r=>Q c<|.cons (qu.mono r1 T)<|.cons (qu.mono r2 T)<|.cons (qu.mono r3 T)<|.cons r .nil
end L1
end
noncomputable section
namespace L1
open uJ
open Vm
section
variable {d:Nat}
theorem ae7:∃e c L v G u,CO (s8 10)=.stmts [.Return (Y<|.Compare (.Call (.Name (az "ord") e) [.Name (az "code") c] [] L) [.In] [.Name (az "b1_set") v] G) u]:=⟨⟨79,11,79,14⟩,⟨79,15,79,19⟩,⟨79,11,79,20⟩,⟨79,24,79,30⟩,⟨79,11,79,30⟩,⟨79,4,79,30⟩,by kernel_rfl⟩
def b1P:List<|Int×Nat:=Ft.zip [287,288,289,290,291,292,273,293,294,295,296,274,275,276,277,278,279,297,298,299,300,301,302,271,272,280,281]
def acq:List<|Int×aj:=b1P.map λb=>(b.1,.int b.1 b.2)
theorem adR (T):∃c a,oB T=⟨.type "set",N,.set acq.toArray c a,#[]⟩/\a.fits 27=true:=wy _ _ rfl rfl
theorem U2:(b1P.all λb=>qe b.1==b.1)=true:=rfl
theorem setOf {i:fM}{T:cD}(e:i.get? 64=Y (oB T)):i.SetOf (intKind G n) 64 (λq=>Ft.contains q) 27:=by
 refine zB (adR T) λh a j o=>?_
 have z:Ft=b1P.map (·.1):=rfl;refine ⟨_,acq.toArray,h,a,e,Q j<|ri rfl rfl rfl,by refine Q j rfl,λc f=>?_,λq=>⟨λg=>?_,λf=>?_⟩,by decide,o,rfl⟩
 .refine qt (bY.mp f) λb I H=>?_;subst H
  exact ⟨qp b.1 (intKind_is _ _ _ _)<|(eq_of_beq<|dy.mp U2 b I).symm,rfl⟩
 .have g:=dF.mp g;rw[z] at g
  refine qt (bY.mp g) λb I k=>J k ?_;clear k
  exact qp _ (bY.mpr<|qp b I rfl)<|intKind_is _ _ _ _
 .refine qt f λc f j=>qt (bY.mp f) λb I L=>?_;subst L
  obtain ⟨x,U⟩:=ov (show aj.isInt q (aj.int b.1 b.2)=true from j);exact dF.mpr<|Q z<|bY.mpr<|qp b I<|qn (λs:aj=>match s with|.int p W=>p|_=>0) U
theorem Ta (e:HI s=Y v):∃c,s.cps.toList=[c]/\v=.bool (Ft.contains (c:Int)):=by
 delta HI at e
 cases i:s.cps.toList with
 |nil=>rw[i] at e;exact nS e
 |cons c l=>
  revert e;refine Q i ?_;intro e
  cases l with
  |nil=>exact qp c rfl<|(ae e).symm
  |cons J W=>exact nS e
theorem Tb (e:VE as=Y v):∃p,as=[.str p]/\HI p=Y v:=by
 cases as with
 |nil=>exact nS e|cons L l=>cases L with
  |str p=>cases l with
   |nil=>exact qp p rfl e|cons J W=>exact nS e
  |_=>exact nS e
theorem ah9:D8 QO:=⟨rfl,rfl,rfl,by kernel_rfl,by kernel_rfl,by decide +kernel⟩
theorem ae6 {t:FuncData}{P:cD}(abe:C.tD 74=Y o)(hd:o.data=.func t)(n:t.scope=ahk)(z:t.body=CO (s8 10))(I:t.params=⟨[],(t8<|s8 10).args,N,[],[],N,[]⟩)(c:t.defaults=.none)(k:t.globals=c_)(hbl:t.builtins=eX)(g:t.qualname="in_table_b1")(U:xX C.tD t.code t.qualname)(hck:t.code=.ref 73)(abf:C.tD 64=Y (oB P))(m1:C.mg "b1_set"=Y (.ref 64))(m2:C.mg "ord"=N)(m3:C.mb "ord"=Y (.builtin "ord"))(b:∀h:fM,(∀x o,C.tD x=Y o->h.get? x=Y o)->h.NoLimit):KX C zJ:=by
 intro q a v h;refine qX h λha h=>Q ha ?_;clear ha
 refine qt (Tb h) λp xY h=>Q xY ?_;clear xY
 refine qt (Ta h) λs hc yq=>Q yq ?_;clear yq
 refine ⟨wy o t abe hd,λd A W j f L H hx=>?_⟩;obtain ⟨w,oc,vs',tk,e1,e2,e3,e4⟩:=U;obtain ⟨p1,p2,p3,p4,p5,u,eb⟩:=ae7;replace eb:=z.trans eb;have ON:(t8<|s8 10).args.map (·.arg)=[az "code"]:=by kernel_rfl
 have te3:TE C d QO [] (.Call (.Name (az "ord") p1) [.Name (az "code") p2] [] p3) ⟨[Y<|.str p],j⟩ (.int s) ⟨[Y<|.str p],j⟩:=TE.bf (C5<|by decide) (TE.glob rfl (.inr ⟨m2,m3⟩) (λW V=>.con _) rfl:TE C d QO [] (.Name (az "ord") p1) ⟨[Y<|.str p],j⟩ (.con<|wA .ord) ⟨[Y<|.str p],j⟩) rfl (.cons (TE.l (i:=0) rfl rfl rfl rfl) .nil) (by
  refine (?_:Oo p=_);delta Oo;refine Q hc rfl)
 have te5:TE C d QO [] (.Compare (.Call (.Name (az "ord") p1) [.Name (az "code") p2] [] p3) [.In] [.Name (az "b1_set") p4] p5) ⟨[Y<|.str p],j⟩ (.bool<|Ft.contains (s:Int)) ⟨[Y<|.str p],j⟩:=
  TE.cmp rfl te3 (λA env W x pos L ha ra=>by
   (refine ra.inv.elim ?_;clear ra;rintro _ rfl)
   refine ⟨λQQq E h=>?_,λQQq E h=>?_⟩
   .rw[evalEach,evalEach];refine chain_last<|(TE.glob rfl (.inl m1) (λW V=>.con _) rfl) A env W L ha _ _ λq8 y T rh G=>?_
    subst G;exact wpAny_inSet_of (intKind_is _ _ _ _) rfl ((λW' l H'=>setOf<|H'.I _ _<|H'.top _ _ abf) q8 T rh.H)<|h ⟨q8.G,q8.σ,_⟩ _ (T.trans (Pext0.toks _).le) (rh.ry<|(Pext0.toks _).strict<|cY _) rfl
   .rw[evalEach,evalEach];refine test_last<|(TE.glob rfl (.inl m1) (λW V=>.con _) rfl) A env W L ha _ _ λq8 y T rh G=>?_
    subst G;exact wpAny_inSet_of (intKind_is _ _ _ _) rfl ((λW' l H'=>setOf<|H'.I _ _<|H'.top _ _ abf) q8 T rh.H)<|fw<|h ⟨q8.G,q8.σ,_⟩ _ (T.trans (Pext0.toks _).le) (rh.ry<|(Pext0.toks _).strict<|cY _) rfl)
 refine Cc (cells:=[]) (cs':=[]) (st1:=⟨[Y<|.str p],j⟩) (st2:=⟨[Y<|.str p],j⟩) (tgs:=[.l 0]) L H ((λx o e=>H.I x o<|H.top x o e) _ _ abe) hd (Q n rfl) ah9 k hbl (Q g rfl) (AI w oc vs' tk e1 ((λx o e=>H.I x o<|H.top x o e) _ _ e2) e3 e4) (λx e=>by (refine Vm.sI e ?_;clear e;rintro rfl);exact hck) (λx i e=>Vm.nS e) b (J ON<|wx.plain I c (by refine Q ON ?_;decide +kernel)<|by have:=qn jN ON;simpa using this) hx .nil ?_ ?_ ?_ ?_
 .exact ⟨⟨p1,.l rfl rfl⟩,trivial⟩
 .skip
  rfl
 .have:(j++aw (q_ QO.scope).length (O.cell N))=j:=by
   show j++[]=j;simp
  exact Q this rfl
 .exact Q eb<|.inl<|yi.ret<|TS.ret te5
end
theorem Lc (b:ba->Int)(p):∀a:List (ba×Nat×aj),nsFind (a.map λc=>(⟨b c.1,.str c.1 c.2.1,c.2.2⟩:DictEntry)).toArray p=(a.map λc=>(c.1,c.2.2)).lookup p:=by
 intro a;unfold nsFind findBy
 induction a with
 |nil=>rfl|cons c a e=>
  rw[bB,bB,bM];rw[List.find?_toArray,List.find?_cons] at *
  have g:(aj.str c.1 c.2.1).isStr p=(p==c.1):=by show (c.1==p)=(p==c.1);exact Bool.beq_comm ..
  simp only[g]
  cases n:p==c.1 with
  |true=>rfl|false=>exact e
theorem Ss (T):(ents (A4 T).2.1).toList=NY.map λb=>(⟨fS T b.1,.str b.1 b.2.1,b.2.2⟩:DictEntry):=by kernel_rfl
section
variable {w:d7}{s:ay}{d j:ba->Option aj}
theorem AZ (y:Bw w s d j)(p):d p=(NY.map λb=>(b.1,b.2.2)).lookup p:=by
 obtain ⟨G,a,c,e,i,I,g⟩:=y.g;have n:=y.K 2 3 _ rfl;rw[show c_=3 from rfl,n] at e
 (refine Vm.sI e ?_;clear e;rintro rfl)
 have H:a=ents (A4 w.params).2.1:=by unfold ents;rw[i]
 rw[<- g,H,<-Lc (fS w.params),<-Ss]
theorem R_ (y:Bw w s d j)(c:Nat)(e:(KF w.params)[c]?=Y (a,o))(G:a∉sO):(vN w s d j y).tD a=Y o:=by show I0 s.heap a=_;unfold I0;rw[qm G];exact y.K c a o e
theorem yA (e:C=vN w s d j y)(c:Nat)(i:(KF w.params)[c]?=Y (a,o))(G:a∉sO):C.tD a=Y o:=(qn (λT:Vm.Ctx=>T.tD a) e).trans (R_ y c i G)
theorem Ha {o:yj}{z:Fn}(e:z.body=.inl xs)(i:(match body with|.stmts f=>F9 g o z.B f|_=>N)=Y xs):zz g o z body:=by
 cases body with
 |stmts f=>unfold zz;rw[e];exact i
 |expr L=>exact Vm.nS i
theorem RR {o:FuncData}(e:o.params=⟨[],as,N,[],[],N,[]⟩)(i:o.defaults=.none)(p:as.map (·.arg)=names)(x:names.Nodup)(z:names.length=n)(q)(u)(G f)(H:rP n q u G=Y f):wx C o q u G names f:=by
 unfold rP at H
 split at H
 case isFalse=>exact Vm.nS H
 rename_i U;obtain ⟨rfl,c,k⟩:=U
 (refine Vm.sI H ?_;clear H;rintro rfl)
 rw[cO] at c
 subst c;subst p;exact wx.plain e i x (by rw[k,<-z,ao])
theorem PO {as:List Arg}(e:as.map (·.arg)=names)(i:qO (λ(x:Arg)=>ue B 5 (.Name x.arg x.pos)) as=Y tgs):zY B names tgs:=e▸Iy i
abbrev ahe (c:Nat)(T:rK):eT×List ba×List ba×Bool×ba×Option aj×Option (List Tg)×Option (List XS)×iC×List ba×Bool×(List XS ⊕ X):=(BY (s8 c),T.fn.B.slots,T.fn.B.cells,decide ((T.fn.B.scope.names.map (·.1)).Nodup),T.fn.B.qual,T.fn.B.code,qO (λ(x:Arg)=>ue T.fn.B 5 (.Name x.arg x.pos)) (t8 (s8 c)).args,(match CO (s8 c) with|.stmts a=>F9 g0 T.mu T.fn.B a|_=>N),t8 (s8 c),(t8 (s8 c)).args.map (·.arg),decide T.fn.names.Nodup,T.fn.body)
abbrev ahd (c h:Nat)(f:String)(T:rK)(a:List XS):eT×List ba×List ba×Bool×ba×Option aj×Option (List Tg)×Option (List XS)×iC×List ba×Bool×(List XS ⊕ X):=(T.fn.B.scope,slotNames T.fn.B.scope,Cb T.fn.B.scope,true,az f++".<locals>.",Y (.ref h),Y T.fn.tgs,Y a,⟨[],(t8 (s8 c)).args,N,[],[],N,[]⟩,T.fn.names,true,.inl a)
theorem t9 (hC:C=vN w s d j H)(k i)(a){A G t I:Nat}{p:String}{q y:Int}{T:rK}(U:T.fn.B.scope.kind=.function/\T.fn.B.scope.isCoroutine=false/\T.fn.B.scope.isGenerator=false)(e1:(KF w.params)[i+1]?=Y (T.addr,Wg k x .none p t0 c))(ha:T.addr∉sO)(n:(KF w.params)[i]?=Y (c,Wr x A q b1 b2 b3 y G t u v ww z I))(hc:c∉sO)(h:ahe k T=ahd k c x T a)(hb:T.bind=rP T.fn.names.length):∃o fd,CS C g0 T o fd:=
 have h0:=b0 h;have L:=b0 h0.2;have h2:=b0 L.2;have h3:=b0 h2.2;have b:=b0 h3.2;have h5:=b0 b.2;have h6:=b0 h5.2;have h7:=b0 h6.2;have f:=b0 h7.2;have g:=b0 f.2;have Wb:=b0 g.2
 ⟨_,fnD k x 3 .none (.str (az p) t0) (.ref c),⟨yA hC (i+1) e1 ha,rfl,h0.1,⟨U.1,U.2.1,U.2.2,L.1,h2.1,of_decide_eq_true h3.1⟩,rfl,rfl,b.1,⟨c,_,_,_,rfl,yA hC i n hc,rfl,rfl⟩,λc' e=>ae (h5.1.symm.trans e),PO g.1 h6.1,Ha Wb.2 h7.1,hb▸RR f.1 rfl g.1 (of_decide_eq_true Wb.1) rfl⟩⟩
theorem aeB:D8 k14:=⟨rfl,rfl,rfl,by kernel_rfl,by kernel_rfl,by decide +kernel⟩
theorem aeR:(match CO (s8 14) with|.stmts a=>F9 g0 [] k14 a|_=>N)=Y Za:=by kernel_rfl
theorem afb:((t8 (s8 14)).args++(t8 (s8 14)).kwarg.toList).map (·.arg)=f14.names:=by kernel_rfl
theorem ac1 (e:C=vN w s d j H):∃o p,CS C g0 Zn o p:=by have i:=yA e (a:=129) (o:=Z') 6 rfl (by decide);have n:=yA e (a:=128) (o:=oS7) 5 rfl (by decide);refine ⟨_,_,⟨i,rfl,by kernel_rfl,aeB,rfl,rfl,by kernel_rfl,⟨_,_,_,_,rfl,n,rfl,rfl⟩,λv z=>by (refine Vm.sI z ?_;clear z;rintro rfl);rfl,PO (as:=((t8 (s8 14)).args++(t8 (s8 14)).kwarg.toList)) afb (by kernel_rfl),Ha rfl aeR,SG ⟨_,_,_,_,_,_,_,_,_,rfl,rfl⟩ (yA e 4 rfl (by decide)) (yA e 3 rfl (by decide))⟩⟩
theorem all_cons {o:Type}{b:o->Prop}{G:o}{a:List o}(p:b G)(e:∀c∈a,b c):∀c∈G::a,b c:=ck.mpr ⟨p,e⟩
theorem W8 (e:C=vN w s d j H):∀T∈zE,∃o n,CS C g0 T o n:=all_cons (t9 e 32 60 Y0 ⟨rfl,rfl,rfl⟩ rfl (by decide) rfl (by decide) (by kernel_rfl) rfl) (all_cons (t9 e 31 58 Y1 ⟨rfl,rfl,rfl⟩ rfl (by decide) rfl (by decide) (by kernel_rfl) rfl) (all_cons (t9 e 30 56 Y2 ⟨rfl,rfl,rfl⟩ rfl (by decide) rfl (by decide) (by kernel_rfl) rfl) (all_cons (t9 e 29 54 Y5 ⟨rfl,rfl,rfl⟩ rfl (by decide) rfl (by decide) (by kernel_rfl) rfl) (all_cons (t9 e 28 52 Y6 ⟨rfl,rfl,rfl⟩ rfl (by decide) rfl (by decide) (by kernel_rfl) rfl) (all_cons (t9 e 27 50 Y7 ⟨rfl,rfl,rfl⟩ rfl (by decide) rfl (by decide) (by kernel_rfl) rfl) (all_cons (t9 e 26 48 Y8 ⟨rfl,rfl,rfl⟩ rfl (by decide) rfl (by decide) (by kernel_rfl) rfl) (all_cons (t9 e 25 46 Y9 ⟨rfl,rfl,rfl⟩ rfl (by decide) rfl (by decide) (by kernel_rfl) rfl) (all_cons (t9 e 24 44 x24 ⟨rfl,rfl,rfl⟩ rfl (by decide) rfl (by decide) (by kernel_rfl) rfl) (all_cons (t9 e 23 42 Y_ ⟨rfl,rfl,rfl⟩ rfl (by decide) rfl (by decide) (by kernel_rfl) rfl) (all_cons (t9 e 21 40 x21 ⟨rfl,rfl,rfl⟩ rfl (by decide) rfl (by decide) (by kernel_rfl) rfl) (all_cons (t9 e 20 38 x20 ⟨rfl,rfl,rfl⟩ rfl (by decide) rfl (by decide) (by kernel_rfl) rfl) (all_cons (t9 e 19 36 x19 ⟨rfl,rfl,rfl⟩ rfl (by decide) rfl (by decide) (by kernel_rfl) rfl) (all_cons (t9 e 18 34 x18 ⟨rfl,rfl,rfl⟩ rfl (by decide) rfl (by decide) (by kernel_rfl) rfl) (all_cons (t9 e 17 32 x17 ⟨rfl,rfl,rfl⟩ rfl (by decide) rfl (by decide) (by kernel_rfl) rfl) (all_cons (t9 e 15 28 Y' ⟨rfl,rfl,rfl⟩ rfl (by decide) rfl (by decide) (by kernel_rfl) rfl) (all_cons (ac1 e) (all_cons (t9 e 12 26 x12 ⟨rfl,rfl,rfl⟩ rfl (by decide) rfl (by decide) (by kernel_rfl) rfl) (all_cons (t9 e 7 22 x7 ⟨rfl,rfl,rfl⟩ rfl (by decide) rfl (by decide) (by kernel_rfl) rfl) (all_cons (t9 e 6 20 x6 ⟨rfl,rfl,rfl⟩ rfl (by decide) rfl (by decide) (by kernel_rfl) rfl) (all_cons (t9 e 5 18 x5 ⟨rfl,rfl,rfl⟩ rfl (by decide) rfl (by decide) (by kernel_rfl) rfl) (all_cons (t9 e 4 16 x4 ⟨rfl,rfl,rfl⟩ rfl (by decide) rfl (by decide) (by kernel_rfl) rfl) (all_cons (t9 e 3 14 x3 ⟨rfl,rfl,rfl⟩ rfl (by decide) rfl (by decide) (by kernel_rfl) rfl) (all_cons (t9 e 2 12 x2 ⟨rfl,rfl,rfl⟩ rfl (by decide) rfl (by decide) (by kernel_rfl) rfl) (λJ a=>nomatch a))))))))))))))))))))))))
end
end L1
end
noncomputable section
set_option tactic.hygienic true
open PySem.W.X
namespace L1
open uJ
open Vm
theorem R6 {b:Frag}:AllIn h b->∀i:Nat,b[i]?=Y (a,o)->h.get? a=Y o:=by
 induction b with
 |nil=>exact λ_ i e=>nomatch e
 |cons c l f=>exact λx i=>Nat.casesOn i (λe=>by rw[(ae e:c=(a,o))] at x;exact x.1) λi e=>f x.2 i e
section
variable {w:d7}{s:ay}{d j:ba->Option aj}
theorem ad9:∀T,KP=(KF T).map (·.1):=λT=>rfl
theorem QQ {U:cD}:∀{f:List aj}{k:List Int},lC f k->qI U T I σ (k.map .int) f:=by
 intro f k L
 induction L with
 |nil=>exact .nil|cons q x _ a=>exact .cons (.int _ _) a
theorem lookup_mem {o:Type}{G:o}{a:List<|ba×o}:a.lookup x=Y G->(x,G)∈a:=by
 induction a with
 |nil=>exact λe=>nomatch e
 |cons b a ih=>
  intro e;rw[bM] at e
  cases i:x==b.1 with
  |true=>rw[i] at e;exact Q (beq_iff_eq.mp i)<|J (ae e)<|.head _
  |false=>rw[i] at e;exact .tail _<|ih e
theorem ab2 (e:ab3.lookup x=Y v):bootBuiltins x=Y v/\x≠"__name__":=by
 refine qt (List.mem_filterMap.mp<|lookup_mem e) λf a i=>qt (cg.mp i) λb n z=>?_
 cases z
 exact ⟨n,(by decide +kernel:∀f∈["len","sum","chr","ord","max","abs","divmod","range","list","set","reversed","enumerate"],az f≠az "__name__") f a⟩
noncomputable def tokOf:aj->Nat
 |.int _ x=>x|.str _ x=>x
 |_=>0
def Wk (a:List<|Int×ba)(f:List DictEntry):List DictEntry:=List.zipWith (λb g=>⟨qe b.1,.int b.1<|tokOf g.key,.str b.2<|tokOf g.val⟩) a f
theorem UE {T:cD}(f:List<|Int×ba):∀k:List DictEntry,f.length=k.length->rI T L t a (f.map λb=>.int b.1) (f.map λb=>.str b.2) (Wk f k):=by
 induction f with
 |nil=>exact λk e=>.nil
 |cons b f ih=>exact λk=>List.casesOn k (λe=>nomatch e) λg k e=>.int rfl (.str _ _)<|ih k<|cC e
noncomputable def U7:Int->List Int->Bool
 |_,[]=>true|a,b::l=>decide (a<b)&&U7 b l
theorem YC (a):∀q:Int,U7 q a=true->(q::a).Pairwise (·<·):=by
 induction a with
 |nil=>exact λq _=>mA _ _
 |cons c a b=>
  intro q e;have e:=(aA _ _).mp e;have G:q<c:=of_decide_eq_true e.1;have t:=b c e.2;exact .cons (ck.mpr ⟨G,λf g=>gi G<|(iP.mp t).1 f g⟩) t
theorem Yt:Wk AD (ents oL).toList=(ents oL).toList:=by kernel_rfl
theorem acn:AD.length=(ents oL).toList.length:=by kernel_rfl
theorem aco:U7 (-1) (AD.map λb=>b.1)=true:=by kernel_rfl
theorem acm:oL=⟨.type "dict",N,.dict (ents oL).toList.toArray 650,#[]⟩:=rfl
theorem Ys:rj<|AD.map λb=>V.int b.1:=e_.mpr<|(e_.mp (iP.mp<|YC _ _ aco).2).imp λG=>qn Y<|decide_eq_false<|Int.ne_of_lt G
theorem I6 {i:fM}(e:i.get? c=Y o)(p:o.cls=.type "code")(n:o.data=.fields vs)(z:vs[11]?=Y (.ref a))(H:vs.getD 11 .none=.ref a)(f:vs.getD 18 .none=.str file tf)(k:vs.getD 7 .none=.int flags tg)(G:vs.getD 9 .none=.bool inF)(g:vs.getD 10 .none=.int text tt)(h:c≠a):p9 i c a:=
 ⟨o,vs,file,tf,flags,tg,inF,text,tt,e,p,n,z,H,f,k,G,g,h⟩
def QOk (T:Vm.Ctx)(t:aj)(c h:Nat)(p:ba):Prop:=∃v q,t=.ref v/\q∈T.tabs/\q≠fQ/\T.qual q c h=Y p/\∀i:fM,(∀x G,T.tD x=Y G->i.get? x=Y G)->p9 i v q
theorem Qj {a:Glob}{f:Nat}{G:aj->Nat->Nat->ba->Prop}(g:∀b∈a.Cz,G b.1 b.2.1 b.2.2.1 b.2.2.2)(e:a.yW (Y t) f c=Y p):G t f c p:=by
 cases t with
 |ref v=>
  refine qt (cg.mp e) λb i n=>?_
  have I:=g b<|lZ i
  have z:=pz i;rw[aA,aA] at z
  rw[n,eq_of_beq z.1.2,eq_of_beq z.2] at I
  have H:b.1=.ref v:=by
   have h:=z.1.1
   cases p:b.1 with
   |ref q=>rw[p] at h;exact qn jl<|eq_of_beq h
   |_=>rw[p] at h;exact f_ h
  exact J H I
 |_=>exact nS e
theorem S9 (y:Bw w s d j):∀b∈Qi,QOk (vN w s d j y) b.1 b.2.1 b.2.2.1 b.2.2.2:=
 have g:∀{i:fM}{c:Nat}{G:gw}(h:Nat),(∀b G,I0 s.heap b=Y G->i.get? b=Y G)->(KF w.params)[h]?=Y (c,G)->c∉sO->i.get? c=Y G:=λh n e H=>HQ n (y.K h _ _ e) H
 have I:∀i:fM,(∀b G,I0 s.heap b=Y G->i.get? b=Y G)->p9 i 189 185:=λi n=>I6 (g 44 n rfl<|by decide) rfl rfl rfl rfl rfl rfl rfl rfl (by decide)
 ck.mpr ⟨Hz 34 30 rfl (by show _∈sO;decide) (by decide) rfl λi n=>I6 (g 16 n rfl<|by decide) rfl rfl rfl rfl rfl rfl rfl rfl<|by decide,
 ck.mpr ⟨Hz 41 37 rfl (by show _∈sO;decide) (by decide) rfl λi n=>I6 (g 18 n rfl<|by decide) rfl rfl rfl rfl rfl rfl rfl rfl<|by decide,
 ck.mpr ⟨Hz 189 185 rfl (by show _∈sO;decide) (by decide) rfl I,
 ck.mpr ⟨Hz 189 185 rfl (by show _∈sO;decide) (by decide) rfl I,λ_ i=>nomatch i⟩⟩⟩⟩
theorem L' (H:Bw w s d j):sG (vN w s d j H) g0 where
 top x v h:=(AZ H x).trans h
 miss x h:=(AZ H x).trans h
 blt x v h:=by obtain ⟨h1,h2⟩:=ab2 h;exact (H.bt x h2).trans h1
 vals x v h:=by
  have hm:=lookup_mem h;simp only[g0,aM,jM] at hm
  obtain ⟨rfl,rfl⟩:=hm;refine qp (.ref 75) ((AZ H _).trans rfl) λW hW=>?_
  have e2:=hW _ _<|R_ H (a:=75) (o:=oL) 10 rfl<|by decide
  rw[acm] at e2
  exact .rt e2 Ys<|Q Yt<|UE _ _ acn
 Cz cv l c q:=Qj (G:=QOk<|vN w s d j H)<|S9 H
 bt h k P hP:=by
  obtain ⟨bm,ob,h1,h2,h3,h4,h5,h6⟩:=H.bm;have e:=(AZ H "__builtins__").symm.trans h1
  cases ((by rfl:(NY.map λy=>(y.1,y.2.2)).lookup (az "__builtins__")=Y (.ref 4)).symm.trans e)
  refine ⟨4,ob,h1,by assumption,by decide,?_,HQ k h3<|by decide,h4,h5,h6⟩;rintro rfl;have hP:4∈sO:=hP;revert hP;decide
 gP:=by refine (?_:∀P∈sO,c_≠P);decide
 dbg:=rfl
 lim h k:=let ⟨mc,a,b⟩:=H.lim;(qp mc (ns0 k a<|by decide) b)
theorem Xx (e:C=vN w s d j y):KX C zJ:=by
 have g:∀p,C.mg p=d p:=λp=>qn (λT:Vm.Ctx=>T.mg p) e
 exact ae6 (yA e 25 rfl<|by decide) rfl (by kernel_rfl) rfl (by kernel_rfl) rfl rfl rfl rfl (AI _ _ _ _ rfl (yA e 24 rfl<|by decide) rfl rfl) rfl (yA e 9 rfl<|by decide) ((g _).trans<|(AZ y _).trans rfl) ((g _).trans<|(AZ y _).trans rfl) (((λp=>qn (λT:Vm.Ctx=>T.mb p) e) _).trans<|(y.bt _<|by decide +kernel).trans rfl) (e▸L' y).lim
theorem ahY (H:Bw w s d j)(hg:s.gens=#[])(ht:0<s.toks):qP (vN w s d j H) [] ⟨⟨I0 s.heap,λ_=>N,λ_=>N⟩,[],s⟩ where
 I a o e:=by
  have e:I0 s.heap a=Y o:=e;delta I0 at e
  split at e
  .exact Vm.nS e
  .exact e
 F a o e:=Vm.nS e
 IF a e:=rfl
 top:=Gm.le.refl _
 tab P hP:=by
  refine tb (ql hP) rfl (λh=>nomatch h) ?_;have hP:P∈sO:=hP;simp only[sO,aE,kG,or_false] at hP
  have hn:∀P,P≠fQ->xV (vN w s d j H) (I0 s.heap) P (tabObj #[]):=λP zQ=>.inr ⟨zQ,#[],rfl,trivial,λpos cv q e=>Vm.nS e⟩
  rcases hP with rfl|rfl|rfl|rfl
  .exact qp _ (H.K 0 _ _ rfl)<|.inl ⟨rfl,rfl⟩
  .exact qp _ (H.K 7 _ _ rfl)<|hn _<|by decide
  .exact qp _ (H.K 8 _ _ rfl)<|hn _<|by decide
  .exact qp _ (H.K 11 _ _ rfl)<|hn _<|by decide
 len:=rfl
 nd:=.nil
 rX i a e:=Vm.nS e
 gens:=hg
 os:=rfl
 pos:=ht
 T t x e:=Vm.nS e
theorem PQ {G:Nat->Prop}(b:c∈sO)(H:G 1)(p:G 30)(a:G 37)(e:G 185):G c:=(ck.mpr ⟨H,ck.mpr ⟨p,ck.mpr ⟨a,ck.mpr ⟨e,λ_ b=>nomatch b⟩⟩⟩⟩:∀c∈sO,G c) c b
theorem Ti {T:Vm.Ctx}{i k:fM}(e:i.get? b=Y o)(q:k.get? b=Y o')(t:xV T I b o')(n:i.get? b=Y ⟨.none,N,.fields #[],#[]⟩)(f:b≠fQ)(z:i.get? c=Y oc)(H:oc.cls=.type "code")(g:oc.data=.fields vs)(u:vs[11]?=Y (.ref b)):qg i k b o:=
 t.elim (λp=>absurd p.1 f) λp=>p.2.elim λL p=>.inr<|.inl ⟨AJ c oc vs z H g u,Q (ae<|e.symm.trans n) ⟨rfl,#[],L,rfl,q.trans<|by refine Q p.1 ?_;simp[tabObj]⟩⟩
theorem XB (y:Bw w s d j){i:fM}(a:c∈sO):s.heap.get? c=Y o->i.get? c=Y o'->xV (vN w s d j y) I c o'->qg s.heap i c o:=
 PQ (G:=λc=>s.heap.get? c=Y o->i.get? c=Y o'->xV (vN w s d j y) I c o'->qg s.heap i c o) a
  (λe e1 t=>t.elim (λq=>.inl<|e1.trans<|qn Y<|q.2.trans<|ae<|(y.K 0 _ _ rfl).symm.trans e) λq=>absurd rfl q.1)
  (λe e1 t=>Ti e e1 t (y.K 7 _ _ rfl) (by decide) (y.K 16 _ _ rfl) rfl rfl rfl)
  (λe e1 t=>Ti e e1 t (y.K 8 _ _ rfl) (by decide) (y.K 18 _ _ rfl) rfl rfl rfl)
  λe e1 t=>Ti e e1 t (y.K 11 _ _ rfl) (by decide) (y.K 44 _ _ rfl) rfl rfl rfl
theorem XC (y:Bw w s d j){u:Wd}(h:qP (vN w s d j y) hp u):OldK s.heap u.s.heap:=by
 have g:∀v G,s.heap.get? v=Y G->qg s.heap u.s.heap v G:=λv G e=>by
  by_cases a:v∈sO
  .exact (h.tab v a).2.2.2.elim λo t=>XB y a e t.1 t.2
  .exact .inl<|h.I _ _<|h.top _ _<|(qm a:I0 s.heap v=_).trans e
 refine ⟨g,λv G e=>?_⟩;rcases g v G e with i|⟨_,_,b,H,_,i⟩|⟨_,_,⟨o,_,_,i,_⟩,_⟩
 .exact ⟨_,i⟩
 .exact ⟨_,i⟩
 .exact ⟨_,i⟩
end
section
variable {w:d7}{s:ay}{d j:ba->Option aj}
theorem Uw (Og:∀ns:List Int,ns.length<=63->∃n,n<=100/\(qy n).top 238 [.lst<|ns.map .int] [] [] []=Y (.bool true,[]))(hC:C=vN w s d j H):Fin w s:=λns a its hl hI ah1 L9 hg ht QQq E hQ=>by
 refine qt (Og ns hl) λn hn hp=>?_
 have As:claimMargin<=700:=by decide
 have:=((XA (hC▸L' H) (W8 hC) (Xx hC) n).top 238 _ _ _ _ _ _ hp).2 callerA _ _ [] ⟨rfl,av (bo (aP As 1) hn) (by decide),av (a9 (aP (aW 10 hn) 4) 50) (by decide)⟩ (hC▸ahY H hg ht) (.cons (.lst ((qm L9:I0 s.heap a=_).trans ah1)<|QQ hI) .nil) .nil QQq E λW' c kept H' r=>hQ W'.s c r.inv (XC H<|hC▸H') (H'.os.trans<|qn (λX:Vm.Ctx=>X.os) hC) H'.gens
 rw[qn (λX:Vm.Ctx=>X.w) hC,qn (λX:Vm.Ctx=>X.prog) hC] at this
 exact this
end
theorem aeW (b:∀ns:List Int,ns.length<=63->∃n,n<=100/\(qy n).top 238 [.lst<|ns.map .int] [] [] []=Y (.bool true,[])):WalkX qv yb (XL qv []) (X.obsZ KP) (X.valZ KF 239 2459) yT.toRowW dL [] λt f=>PySem.call t f:=by
 intro w U x d j G y v I a h u A T p hd L hD z hg args vals as k ahZ ah4 hrd hwl hlo;refine gk λo kz=>uP (X.z_facts ad9 y) λZA ZI ZN g=>?_
 wrow_args ahZ ah4 hrd hwl hlo
 rename_i ns _ _ _ _ _ _ _ q its _ hL ra w1 r0 hI _ hlen _;have L9:=(script_at k).1;rw[ZN] at L9
 have H:Bw w x d j:=⟨λi q I e=>k.keeps _ _<|R6 ZA i e,G.T.g,G.T.b,G.T.nolimit,G.T.builtins,G.T.bmain⟩;revert z;refine Q ((AZ H _).trans (by kernel_rfl):d dL.name=Y (.ref 238)) ?_;intro z
 cases z
 refine kz<|X8 (λw s d j H hC=>Uw b hC) w x d j H ns q its (bA.mp<|bX.mp hlen) hI (script_obj k hL) (by refine Q L9 ?_;decide) hg (gf<|script_toks k g) _ _ λs' c e1 e2 e3 e4=>?_
 subst e1;exact tb (.inl ⟨_,_,[],rfl,λ_=>rfl,ReadsW.bool true,by first|rfl|wrow_post,λ_=>⟨lK,λ_ hm=>nomatch hm⟩⟩) e2 e3<|AllBare.of_eq e4
theorem XN (Og:∀ns:List Int,ns.length<=63->∃n,n<=100/\(qy n).top 238 [.lst<|ns.map .int] [] [] []=Y (.bool true,[])):PySem.Challenge.rw_wc0030_02.Holds:=aa3 (by w_witness2)<|aeW Og
end L1
end
end
open PySem
noncomputable section
namespace L1
open Vm
theorem len_app (a:List O)(f:List O):(a++f).length=a.length+f.length:=aG
theorem sC (a f:List O)(c:Nat):(a++f)[a.length+c]?=f[c]?:=by refine Q (eK<|aK _ _)<|Q (bc ..) rfl
theorem vd (a f:List O):(a++f)[a.length]?=f[0]?:=sC a f 0
theorem yF (a f:List O)(c:Nat)(I:O):(a++f).set (a.length+c) I=a++f.set c I:=by refine Q (List.set_append_right _ _<|aK _ _)<|Q (bc ..) rfl
theorem IQ (a f:List O)(I:O):(a++f).set a.length I=a++f.set 0 I:=yF a f 0 I
theorem u6 {y:Ev}{U:List Nat}{f:List XS}{x:St}(e:y.S U d x=Y (.next,st1))(i:rQ y U f st1=o):rQ y U (d::f) x=o:=by show (match y.S U d x with|Y (.next,x)=>rQ y U f x|o=>o)=o;exact Q e i
theorem tN {y:Ev}{U:List Nat}{f:List XS}{x:St}(e:y.S U d x=Y (.ret v,st1)):rQ y U (d::f) x=Y (.ret v,st1):=by show (match y.S U d x with|Y (.next,x)=>rQ y U f x|o=>o)=_;refine Q e rfl
noncomputable def yX (o:Option<|Fl×St):Option<|V×List O:=match o with
 |Y (.ret k,st)=>Y (k,st.hp)|Y (.next,st)=>Y (.none,st.hp)
 |N=>N
theorem ua {U:List Nat}{x:St}:we orc U b x=yX (rQ (ev orc 60) U b x):=rfl
theorem qH {y:Ev}{U:List Nat}{f:List XS}{x:St}(e:y.S U d x=Y (.next,st1))(i:yX (rQ y U f st1)=o):yX (rQ y U (d::f) x)=o:=(qn yX<|u6 e rfl).trans i
theorem tq {y:Ev}{U:List Nat}{f:List XS}{x:St}(e:y.S U d x=Y (.ret v,⟨loc,hp⟩)):yX (rQ y U (d::f) x)=Y (v,hp):=qn yX<|tN e
theorem aic {y:Ev}{U:List Nat}{x:St}:yX (rQ y U [] x)=Y (.none,x.hp):=rfl
theorem Jq {o v:Type}{b:o->Option v}:∀{l:List o}{f:List v},qO b l=Y f->f.length=l.length
 |[],f,e=>by (refine Vm.sI e ?_;clear e;rintro rfl);rfl
 |x::l,f,e=>by
  unfold qO at e
  split at e
  .split at e
   ·(refine Vm.sI e ?_;clear e;rintro rfl)
    rename_i f U;exact qn (·+1)<|Jq U
   .exact Vm.nS e
  .exact Vm.nS e
theorem CF {o v:Type}{c:o->Option v}{G:o}{b:v}(e:c G=Y b):qO c [G]=Y [b]:=by show (match c G with|Y b=>(match qO c [] with|Y r=>Y<|b::r|N=>N)|N=>N)=_;exact Q e rfl
theorem uR {o v:Type}{c:o->Option v}{G:o}{b:v}{a:List o}{f:List v}(e:c G=Y b)(i:qO c a=Y f):qO c (G::a)=Y (b::f):=by show (match c G with|Y b=>(match qO c a with|Y f=>Y<|b::f|N=>N)|N=>N)=_;refine Q e<|Q i rfl
theorem rD (n)(e:zE.find? (·.addr==a)=Y t)(i:t.pure=true)(o:t.bind=rP k){b:List V}{u:List O}(z:b.length=k)(H:qO (sU [] 9) b=Y KQ)(c:tU (qy n) t.fn [] KQ []=Y (v,hp'))(p:sU hp' 9 v=Y v'):(qy<|n+1).top a b [] [] u=Y (v',u):=by
 have G:qO (sU [] 9) ([]:List V)=Y []:=rfl;refine (?_:yY zE zJ (qy n) a b [] [] u=_);delta yY pureO;refine Q e ?_;simp only[mM,(Q o<|ql ⟨rfl,rfl,z⟩:t.bind b [] []=Y b),i,if_true,H,G,(Q o<|ql ⟨rfl,rfl,(Jq H).trans z⟩:t.bind KQ [] []=Y KQ),c,p,oI,d8]
theorem Cw (n)(e:zE.find? (·.addr==a)=Y t)(i:t.pure=false){G:List O}(o:t.bind as kn kv=Y vs):(qy<|n+1).top a as kn kv G=tU (qy n) t.fn [] vs G:=by show yY zE zJ (qy n) a as kn kv G=_;delta yY;refine Q e ?_;simp only[mM,o,i,if_false,gB,d8]
theorem Sr (n)(e:zE.find? (·.addr==c)=N){f:List O}:(qy<|n+1).top c a [] [] f=(zJ c a).map (·,f):=by show yY zE zJ (qy n) c a [] [] f=_;delta yY;exact Q e (ql ⟨rfl,rfl⟩:(if ([]:List ba)=[]/\([]:List V)=[] then (zJ c a).map (·,f) else N)=_)
theorem AB (n)(e:AA g0 [] f=Y fn){g:List V}{j:List O}(i:g.length=fn.names.length):(qy<|n+1).zV f cl g j=tU (qy n) fn cl g j:=by show EI g0 [] (qy n) f cl g j=_;delta EI;exact Q e<|ql i
theorem qx (e:(ev g j).E M x st=Y (v,st1))(i:(ev g j).E M y st1=Y (w,st2))(n:sH st2.hp op v w=Y r):(ev g<|j+1).E M (.bin op x y) st=Y (r,st2):=qE e<|qE i<|qM n
theorem xW (e:(ev g j).E M x st=Y (.int i,st1)):(ev g<|j+1).E M (.un .USub x) st=Y (.int <| -i,st1):=qE e rfl
theorem Pm (e:(ev g j).E M x st=Y (.int i,st1)):(ev g<|j+1).E M (.un .Invert x) st=Y (.int<|fu i,st1):=qE e rfl
theorem afg (e:(ev g j).E M x st=Y (v,st1))(i:rC st1.hp v=Y b):(ev g<|j+1).E M (.un .Not x) st=Y (.bool !b,st1):=qE e<|qM i
theorem qW (e:(ev g j).E M x st=Y (v,st1))(i:(ev g j).E M y st1=Y (u,st2))(n:tW st2.hp op v u=Y b):(ev g<|j+1).E M (.cmp x [op] [y]) st=Y (.bool b,st2):=qE e<|qM (qE i<|qM n:CP (ev g j) M v [op] [y] st1=Y (b,st2))
theorem vC (e:(ev g j).E M z st=Y (v,st1))(i:rC st1.hp v=Y true)(n:(ev g j).E M x st1=Y (r,st2)):(ev g<|j+1).E M (.rb z x y) st=Y (r,st2):=qE e<|qT i n
theorem wB (e:(ev g j).E M z st=Y (v,st1))(i:rC st1.hp v=Y false)(n:(ev g j).E M y st1=Y (r,st2)):(ev g<|j+1).E M (.rb z x y) st=Y (r,st2):=qE e<|qF i n
theorem qA (e:M[k]?=Y i)(n:st.hp[i]?=Y (.cell<|Y v)):(ev orc<|j+1).E M (.cell k) st=Y (v,st):=qV (Uo e n) rfl
theorem Cd (e:rz M 5 q k st=Y st1)(i:bindAll M ts vs st1=o):bindAll M (q::ts) (k::vs) st=o:=(qS e i:_)
theorem qo {y:Ev}{j:List X}(e:y.E M a st=Y (k,st1))(i:sJ y M j st1=Y (vs,st2)):sJ y M (a::j) st=Y (k::vs,st2):=qE e<|qL i rfl
theorem qG {y:Ev}(e:y.E M x st=Y (v,st1)):sJ y M [x] st=Y ([v],st1):=qo e rfl
theorem uf (e:sJ (ev g j) M as st=Y (vs,st1))(i:yg st1.hp b vs=Y v):(ev g<|j+1).E M (.bf b as) st=Y (v,st1):=qL e<|qM i
theorem rm (e:(ev g j).E M x st=Y (v,st1))(i:(ev g j).E M y st1=Y (w,st2))(n:sf st2.hp v w=Y r):(ev g<|j+1).E M (.sub x y) st=Y (r,st2):=qE e<|qE i<|qM n
theorem WT (e:(ev g j).E M x st=Y (v,st1))(i:(ev g j).E M y st1=Y (w,st2))(n:(ev g j).E M z st2=Y (u,st3))(A:FE st3.hp v w u=Y r):(ev g<|j+1).E M (.C3 x y z) st=Y (r,st3):=qE e<|qE i<|qE n<|qM A
theorem sW (e:sJ (ev g j) M as st=Y (vs,st1)):(ev g<|j+1).E M (.tup as) st=Y (.tup vs,st1):=qM e
theorem yB (e:sJ (ev g j) M as st=Y (vs,st1)):(ev g<|j+1).E M (.list as) st=Y (.lst vs,st1):=qM<|qM e
theorem xq (e:(ev g j).E M x st=Y (v,st1))(i:te st1.hp v n=Y r):(ev g<|j+1).E M (.attr x n) st=Y (r,st1):=qE e<|qM i
theorem Cn (e:(ev g j).E M x st=Y (v,st1))(i:sJ (ev g j) M as st1=Y (vs,st2))(n:sJ (ev g j) M kx st2=Y (ks,st3))(z:v7 g v vs kn ks st3.hp=Y (r,hp')):(ev g<|j+1).E M (.call x as kn kx) st=Y (r,⟨st3.loc,hp'⟩):=qE e<|qL i<|qL n<|qM z
theorem G_ {d:List O}(e:sJ (ev orc<|j+1) M as st=Y (vs,⟨loc,d⟩))(i:sJ (ev orc<|j+1) M kx ⟨loc,d⟩=Y (kv,⟨loc,d⟩))(n:orc.top a vs kn kv d=Y (v,hp')):(ev orc<|j+2).E M (.call (.k<|.con<|.ref a) as kn kx) st=Y (v,⟨loc,hp'⟩):=Cn (v:=.con<|.ref a) rfl e i n
theorem call_top {d:List O}(e:sJ (ev orc<|j+1) M as st=Y (vs,⟨loc,d⟩))(i:orc.top a vs [] [] d=Y (v,hp')):(ev orc<|j+2).E M (.call (.k<|.con<|.ref a) as [] []) st=Y (v,⟨loc,hp'⟩):=G_ e rfl i
theorem Kp {j:List O}(e:j[i]?=Y (.fn f cl dc))(k:orc.zV f cl vs j=Y (r,hp')):v7 orc (.ref i) vs [] [] j=Y (r,hp'):=(show v7 orc (.ref i) vs [] [] j=Pa orc vs [] [] j j[i]? from rfl).trans<|Q e k
theorem vO {d:List O}(e:(ev g j).E M x st=Y (.ref i,st1))(k:sJ (ev g j) M as st1=Y (vs,⟨loc,d⟩))(n:d[i]?=Y (.fn f cl dc))(z:g.zV f cl vs d=Y (r,hp')):(ev g<|j+1).E M (.call x as [] []) st=Y (r,⟨loc,hp'⟩):=Cn (st3:=⟨loc,d⟩) e k rfl<|Kp n z
theorem uK {d:List O}{h:Mt}(e:(ev g j).E M x st=Y (v,st1))(i:isFn st1.hp v=false)(n:BS h (view st1.hp v)=Y k)(z:sJ (ev g j) M as st1=Y (vs,⟨loc,d⟩))(H:za d k v vs=Y (w,hp')):(ev g<|j+1).E M (.mt h x as) st=Y (w,⟨loc,hp'⟩):=
 qE e<|(qm<|by refine Q i ?_;decide).trans<|qK n<|qL z<|qM H
theorem afh {d:List O}{h:Mt}(e:(ev g j).E M x st=Y (v,st1))(i:isFn st1.hp v=true)(n:te st1.hp v (w3 h)=Y fv)(z:sJ (ev g j) M as st1=Y (vs,⟨loc,d⟩))(H:v7 g fv vs [] [] d=Y (w,hp')):(ev g<|j+1).E M (.mt h x as) st=Y (w,⟨loc,hp'⟩):=
 qE e<|(ql i).trans<|qV n<|qL z<|qM H
theorem Vb {d:List O}(e:(ev g j).E M x st=Y (v,st1))(i:te st1.hp v n=Y fv)(o:sJ (ev g j) M as st1=Y (vs,⟨loc,d⟩))(z:v7 g fv vs [] [] d=Y (w,hp')):(ev g<|j+1).E M (.mc x n as) st=Y (w,⟨loc,hp'⟩):=qE e<|qV i<|qL o<|qM z
theorem acI {k:List X}(e:sJ (ev g j) M k st=Y (vs,st1))(i:mergeAll [] [] vs=Y (ks,ws)):(ev g<|j+1).E M (.star k) st=Y (.rt ks ws,st1):=qM (qL e<|qM i:rS (ev g j) M (.star k) st=Y (.dict ks ws,st1))
theorem xp (e:rS (ev g j) M x st=Y (o,st1)):(ev g<|j+1).E M (.new x) st=Y (.ref st1.hp.length,⟨st1.loc,st1.hp++[o]⟩):=qM e
theorem aff {f:List X}(e:(ev g j).E M x st=Y (v,st1))(i:rC st1.hp v=Y true):(ev g<|j+1).E M (.or<|x::y::f) st=Y (v,st1):=qE e<|qT i rfl
theorem Pl {f:List X}(e:(ev g c).E M a st=Y (v,st1))(i:rC st1.hp v=Y false)(n:J9 (ev g c) M (I::f) st1=Y (r,st2)):J9 (ev g c) M (a::I::f) st=Y (r,st2):=qE e<|qF i n
theorem WU (e:(ev g j).E M x st=Y (.bool false,st))(i:(ev g j).E M y st=Y (.bool false,st))(n:(ev g j).E M z st=Y (r,st2)):(ev g<|j+1).E M (.or [x,y,z]) st=Y (r,st2):=Pl e rfl<|Pl i rfl n
theorem acJ (e:(ev g j).E M x st=Y (v,st1))(i:rC st1.hp v=Y false)(n:(ev g j).E M y st1=Y (r,st2)):(ev g<|j+1).E M (.or [x,y]) st=Y (r,st2):=Pl e i n
theorem afe (e:(ev g j).E M x st=Y (.bool false,st))(i:(ev g j).E M y st=Y (r,st2)):(ev g<|j+1).E M (.or [x,y]) st=Y (r,st2):=acJ e rfl i
theorem Sf (e:(ev g j).E M x st=Y (v,st1))(i:rC st1.hp v=Y true)(n:(ev g j).E M y st1=Y (r,st2)):(ev g<|j+1).E M (.and [x,y]) st=Y (r,st2):=qE e<|qT i n
theorem qU (e:(ev g j).E M x st=Y (v,st1))(i:rz M 5 t v st1=Y st2):(ev g<|j+1).S M (.asg t x) st=Y (.next,st2):=qE e<|qM i
theorem tT (e:(ev g j).E M x st=Y (.none,st1)):(ev g<|j+1).S M (.expr x) st=Y (.next,st1):=(qn (λy:Option<|V×St=>match y with|Y (.none,st)=>Y (Fl.next,st)|_=>N) e:_)
theorem sx (e:(ev g j).E M x st=Y (v,st1)):(ev g<|j+1).S M (.ret x) st=Y (.ret v,st1):=qM e
theorem tX (e:(ev g j).E M x st=Y (v,st1))(i:rC st1.hp v=Y true)(n:rQ (ev g j) M a st1=Y (fl,st2)):(ev g<|j+1).S M (.rb x a b) st=Y (fl,st2):=qE e<|qT i n
theorem sF (e:(ev g j).E M x st=Y (v,st1))(i:rC st1.hp v=Y false)(n:rQ (ev g j) M b st1=Y (fl,st2)):(ev g<|j+1).S M (.rb x a b) st=Y (fl,st2):=qE e<|qF i n
theorem z0 (e:(ev g j).E M x st=Y (.bool false,st1)):(ev g<|j+1).S M (.rb x a []) st=Y (.next,st1):=sF e rfl rfl
theorem CU (e:yy M t st=Y w)(i:(ev g j).E M x st=Y (v,st1))(n:xN op w v=Y r)(z:rz M 5 t r st1=Y st2):(ev g<|j+1).S M (.aug t op x) st=Y (.next,st2):=qV e<|qE i<|qV n<|qM z
theorem D6 (f:(ev g j).E M e st=Y (v,st1))(i:(ev g j).E M x st1=Y (w,st2))(n:(ev g j).E M y st2=Y (u,st3))(z:ub st3.hp w u v=Y hp'):(ev g<|j+1).S M (.wj x y e) st=Y (.next,⟨st3.loc,hp'⟩):=qE f<|qE i<|qE n<|qM z
theorem vR (f:(ev g j).E M e st=Y (v,st1))(i:(ev g j).E M x st1=Y (w,st2))(o:yG st2.hp w n v=Y hp'):(ev g<|j+1).S M (.setAttr x n e) st=Y (.next,⟨st2.loc,hp'⟩):=qE f<|qE i<|qM o
theorem v8 {k:List V}(e:tK (ev g j) M x st=Y (k,gd,st1))(i:uh (ev g j) M t gd b k st1=Y (fl,st2)):(ev g<|j+1).S M (.uY t x b) st=Y (fl,st2):=qR e i
theorem rf (e:(ev g c).S M d st=Y (.next,st1))(i:rQ (ev g c) M b st1=Y (fl,st2)):rQ (ev g c) M (d::b) st=Y (fl,st2):=u6 e i
theorem rL (e:(ev g c).S M s st=Y (.next,st1)):rQ (ev g c) M [s] st=Y (.next,st1):=u6 e rfl
theorem r_ {j:List V}(e:um st.hp gd=true)(i:rz M 5 t k st=Y st1)(n:rQ (ev g c) M b st1=Y (.next,st2))(z:uh (ev g c) M t gd b j st2=Y (fl,st3)):uh (ev g c) M t gd b (k::j) st=Y (fl,st3):=(ql e).trans<|qS i<|(qn (λo:Option<|Fl×St=>match o with|Y (.next,st)=>uh (ev g c) M t gd b j st|o=>o) n:_).trans z
theorem Dp {h:Nat}(e:(ev g c).E M x st=Y (v,st1))(i:rC st1.hp v=Y true)(n:rQ (ev g c) M b st1=Y (.next,st2))(z:wN (ev g c) M x b h st2=o):wN (ev g c) M x b (h+1) st=o:=(qE e<|qT i (qn (λo:Option<|Fl×St=>match o with|Y (.next,st)=>wN (ev g c) M x b h st|o=>o) n:_)).trans z
theorem Dq {h:Nat}(e:(ev g c).E M x st=Y (v,st1))(i:rC st1.hp v=Y false):wN (ev g c) M x b (h+1) st=Y (.next,st1):=qE e<|qF i rfl
theorem WQ (e:v5 M cl=Y Df)(i:rz M 5 t (.ref st.hp.length) ⟨st.loc,st.hp++[.fn f Df N]⟩=Y st1):(ev orc<|j+1).S M (.DX t f cl) st=Y (.next,st1):=qC e<|qM i
theorem Pj (e:wN (ev g j) M x b 8 st=Y (fl,st1)):(ev g<|j+1).S M (.Ls x b) st=Y (fl,st1):=e
theorem vi (e:a=b):Y (V.int a)=Y (V.int b):=Q e rfl
theorem dt [Decidable o](G:o):Y (decide o)=Y true:=qn Y<|decide_eq_true G
theorem df [Decidable o](G:¬o):Y (decide o)=Y false:=qn Y<|decide_eq_false G
noncomputable def plX:X->Bool
 |.enum J=>false|.rev J=>false
 |_=>true
theorem tP (e:plX x=true)(i:(ev g j).E M x st=Y (v,st1)):tK (ev g j) M x st=N5 st1 v:=(C_ (λI n=>by rw[n] at e;exact fT e) λI n=>by rw[n] at e;exact fT e).trans<|qE i rfl
noncomputable def nats (a:List Nat):List V:=a.map λ(c:Nat)=>V.int (c:Int)
theorem A7 (c h:Nat):bg (c:Int) (h:Int)=((c/h:Nat):Int):=ax (eS _<|aC _) rfl
theorem DT (c h:Nat):a_ (c:Int) (h:Int)=((c%h:Nat):Int):=ax (i6 _<|aC _) rfl
theorem fdiv_pow (c h:Nat):bg (c:Int) (2^h)=((c/2^h:Nat):Int):=by refine J (A7 c<|2^h) ?_;congr 1
theorem mul_pow (c h:Nat):(c:Int)*2^h=((c*2^h:Nat):Int):=by push_cast;rfl
theorem MF (c h:Nat):fR (c:Int) (h:Int)=((c &&& h:Nat):Int):=by delta fR;exact Q (decide_eq_true<|aC c)<|Q (decide_eq_true<|aC h) rfl
theorem Qs (c b:Nat):i8 (c:Int) (b:Int)=((c ||| b:Nat):Int):=by
 delta i8 fR fu;refine Q (decide_eq_false<|by lia)<|Q (decide_eq_false<|by lia) ?_
 dsimp only;refine Q (by lia:(- (-(c:Int)-1)-1).toNat=c)<|Q (by lia:(- (-(b:Int)-1)-1).toNat=b) ?_;lia
theorem Pq (c h:Nat):jF (c:Int) ((c/2^h*2^h:Nat):Int)=((c%2^h:Nat):Int):=by
 delta jF;refine Q (Qs ..)<|Q (MF ..) ?_
 have e:c ||| (c/2^h*2^h)=c:=by
  apply nZ;intro t;refine Q (Nat.testBit_or ..)<|Q (mO ..)<|Q (mP ..) ?_
  by_cases w:h<=t
  .simp[w]
  .simp[w]
 have i:c &&& (c/2^h*2^h)=c/2^h*2^h:=by
  apply nZ;intro t;refine Q (Nat.testBit_and ..)<|Q (mO ..)<|Q (mP ..) ?_
  by_cases w:h<=t
  .simp[w]
  .simp[w]
 refine Q e<|Q i ?_
 have:=d5 c<|2^h
 rw[bQ] at this
 exact nx.mpr<|qn mY this.symm
theorem KU (c h:Nat):fR (c:Int) ((2^h-1:Nat):Int)=((c%2^h:Nat):Int):=by refine Q (MF ..)<|Q (Nat.and_two_pow_sub_one_eq_mod ..) rfl
theorem Qt (c h t:Nat)(G:h<2^t):i8 ((c*2^t:Nat):Int) (h:Int)=((c*2^t+h:Nat):Int):=by rw[Qs,bQ,Nat.two_pow_add_eq_or_of_lt G]
theorem D2 (c:Nat):au (c:Int)=if c=0 then 0 else c.log2+1:=by
 delta au
 by_cases e:c=0
 .exact Q e rfl
 .skip
  simp[(by simpa using e),e]
theorem bits_le {c h:Nat}:au (c:Int)<=h↔c<2^h:=by
 rw[D2]
 by_cases e:c=0
 .refine Q e ?_;simp[bE]
 .refine Q (qm e) ?_;rw[Nat.succ_le_iff,Nat.log2_lt e]
theorem sM {q:Int}{c:Nat}(G:q.natAbs<2^c):au q<=c:=by
 have e:au q=au (q.natAbs:Int):=by
  delta au
  by_cases G:q=0
  .refine Q G ?_;clear G;rfl
  .skip
   exact Q (by simpa using G:(q==0)=false)<|Q (by simp;assumption:((q.natAbs:Int)==0)=false) rfl
 exact Q e<|bits_le.mpr G
theorem Yo {c h:Nat}(w:2^(h-1)<=c) (G:c<2^h) (T:0<h):au (c:Int)=h:=by
 apply gA<|bits_le.mpr G
 apply hV;intro k;exact b8 _<|ai (bits_le.mp<|nX k) w
theorem BM {d h:Nat}(n:au (d:Int)<=au (h:Int)+4100\/au (h:Int)<=9000):aS (d:Int) (h:Int)=false:=by
 have b:∀t:Nat,(if ((t:Int)==0)=true then 0 else (t:Int).natAbs.log2/30+1)=(au (t:Int)+29)/30:=λt=>by
  rw[D2]
  by_cases n:t=0
  .exact Q n rfl
  .skip
   refine Q (qm n)<|Q (qm<|by refine Q (by simpa using n:((t:Int)==0)=false) ?_;simp)<|Q (oO ..) (Nat.add_div_right _ (by decide:0<30)).symm
 delta aS;rw[nC];simp only[decide_eq_false_iff_not,b];exact n.elim (λn=>.inr<|cU.mpr<|aa (ie (aa (a9 n 29) (aP (by decide:4129<=29+150*30) _):_<=au (h:Int)+29+150*30))<|aN<|Nat.add_mul_div_right _ _<|by decide) λn=>.inl<|cU.mpr<|ie (c:=30) (a9 n 29)
theorem rV (a b):sH hp .Add (.int a) (.int b)=Y (.int<|a+b):=rfl
theorem ui (a b):sH hp .Sub (.int a) (.int b)=Y (.int<|a-b):=rfl
theorem Be (c h:Nat):sH hp .RShift (.int c) (.int h)=Y (.int ((c/2^h:Nat):Int)):=by show (if (0:Int)<=h then Y (V.int<|bg c<|2^(h:Int).toNat) else N)=_;refine Q (ql<|aC _)<|Q (dU ..)<|Q (fdiv_pow ..) rfl
theorem CQ (c h t:Nat) (G:c<2^t) (w:t<=50000) (i:h<=50000):sH hp .LShift (.int c) (.int h)=Y (.int ((c*2^h:Nat):Int)):=by show (if (0:Int)<=h/\(au (c:Int):Int)+h<=100000 then _ else _)=_;have:=bits_le.mpr G;refine ax (ql ⟨aC _,bA.mpr<|aa (bo (aa this w) i)<|by decide⟩)<|Q (dU ..)<|Q (mul_pow ..) rfl
theorem aew (c h t:Nat) (G:c<2^t) (w:t<=50000) (i:h<=50000):xN .LShift (.int c) (.int h)=Y (.int ((c*2^h:Nat):Int)):=by show (if (0:Int)<=h/\(au (c:Int):Int)+h<=100000 then _ else _)=_;have:=bits_le.mpr G;refine ax (ql ⟨aC _,bA.mpr<|aa (bo (aa this w) i)<|by decide⟩)<|Q (dU ..)<|Q (mul_pow ..) rfl
theorem aev (c h:Nat):xN .RShift (.int c) (.int h)=Y (.int ((c/2^h:Nat):Int)):=by show (if (0:Int)<=h then Y (V.int<|bg c<|2^(h:Int).toNat) else N)=_;refine Q (ql<|aC _)<|Q (dU ..)<|Q (fdiv_pow ..) rfl
theorem xU (a b:Int)(c h)(G:a.natAbs<2^c)(T:b.natAbs<2^h)(w:c<=50000)(i:h<=50000):sH hp .Mult (.int a) (.int b)=Y (.int<|a*b):=by
 have e:CC a b=true:=by exact decide_eq_true<|aa (bo (aa (sM G) w)<|aa (sM T) i)<|by decide
 refine (ax (ql e) rfl:(if CC a b=true then _ else _)=_)
theorem WG (q a):sH hp .BitAnd (.int q) (.int a)=Y (.int<|fR q a):=rfl
theorem ack (q a):sH hp .BitOr (.int q) (.int a)=Y (.int<|i8 q a):=rfl
theorem ae4 (q a):sH hp .BitXor (.int q) (.int a)=Y (.int<|jF q a):=rfl
theorem CN (a b):xN .Add (.int a) (.int b)=Y (.int<|a+b):=rfl
theorem Ae (a b):tW hp .Eq (.int a) (.int b)=Y (decide<|a=b):=rfl
theorem RW (c:Nat)(w:c<=50000):sH hp .LShift (.int 1) (.int c)=Y (.int ((2^c:Nat):Int)):=by
 have:=CQ (hp:=hp) 1 c 1 (ag _) (by decide) w;rw[ib] at this
 exact this
theorem FL {c j:Nat}(G:0<j) (h:aS (c:Int) (j:Int)=false):¬((j:Int)=0\/aS (c:Int) (j:Int)=true):=λn=>n.elim (λi=>bw G<|da i) λi=>fT<|h.symm.trans i
theorem UZ {a:List O}(c h:Nat) (G:0<h) (e:aS (c:Int) (h:Int)=false):yg a .divmod [.int c,.int h]=Y (.tup [.int (c/h:Nat),.int (c%h:Nat)]):=by show (if (h:Int)=0\/aS (c:Int) (h:Int)=true then N else Y (V.tup [.int<|bg c h,.int<|a_ c h]))=_;refine Q (qm<|FL G e)<|Q (A7 ..)<|Q (DT ..) rfl
theorem YF (c:Nat):fR (c:Int) 1=((c%2:Nat):Int):=KU c 1
theorem KJ (c:Nat):sH hp .RShift (.int c) (.int 1)=Y (.int ((c/2:Nat):Int)):=Be c 1
theorem Q9 (c h:Nat)(G:c<2^h)(w:h<=50000):xN .LShift (.int c) (.int 1)=Y (.int ((c*2^1:Nat):Int)):=aew c 1 h G w (by decide)
theorem abj (c:Nat):xN .RShift (.int c) (.int 1)=Y (.int ((c/2:Nat):Int)):=aev c 1
theorem KL {hp:List O}(c h:Nat) (G:0<h) (e:aS (c:Int) (h:Int)=false):sH hp .FloorDiv (.int c) (.int h)=Y (.int (c/h:Nat)):=by show (if (h:Int)=0\/aS (c:Int) (h:Int)=true then N else Y (V.int<|bg c h))=_;refine Q (qm<|FL G e)<|Q (A7 ..) rfl
theorem RY {a:List O}(c h:Nat) (G:0<h) (e:aS (c:Int) (h:Int)=false):sH a .Mod (.int c) (.int h)=Y (.int (c%h:Nat)):=by show (if (h:Int)=0\/aS (c:Int) (h:Int)=true then N else Y (V.int<|a_ c h))=_;refine Q (qm<|FL G e)<|Q (DT ..) rfl
theorem H8 (a:Int)(c:Nat)(w:(au a:Int)*(c:Int)<=100000):sH hp .Pow (.int a) (.int c)=Y (.int<|a^c):=by show (if (0:Int)<=c/\(au a:Int)*(c:Int)<=100000 then Y (V.int<|a^(c:Int).toNat) else N)=_;refine Q (ql ⟨aC _,w⟩)<|Q (dU ..) rfl
theorem AY (a f):nats (a++f)=nats a++nats f:=bN
theorem rE (a):(nats a).length=a.length:=ao ..
theorem DH (a:List Nat)(c:Nat):(nats a)[c]?=(a[c]?).map λ(h:Nat)=>V.int (h:Int):=aZ ..
theorem DO (a)(n):∀f:List Nat,qO (sU a<|n+1) (nats f)=Y (nats f)
 |[]=>rfl|d::f=>by
  have e:=DO a n f;unfold nats at e ⊢
  refine Q bB ?_;rw[qO,e];rfl
theorem H9 {a:List O}{l:List V}(e:a[i]?=Y (.list l))(w:l.length<=65536):za a .uW (.ref i) [v]=Y (.none,a.set i<|.list<|l++[v]):=(EL _ _ e).trans<|ql<|decide_eq_true w
theorem CX {M:List Nat}{st:St}{A:List O}{l:List V}(e:(ev orc j).E M x st=Y (.ref i,st1))(k:st1.hp[i]?=Y (.list l0))(n:sJ (ev orc j) M as st1=Y ([v],⟨loc,A⟩))(z:A[i]?=Y (.list l))(w:l.length<=65536) :
  (ev orc<|j+1).E M (.mt .append x as) st=Y (.none,⟨loc,A.set i<|.list<|l++[v]⟩):=
 uK e ((qn EU k:isFn st1.hp (.ref i)=_)) ((qn (λy=>BS .append<|Ek i y) k:BS .append (view st1.hp<|.ref i)=_)) n<|H9 z w
theorem zK {c h:Nat}(G:c<h):place (c:Int) h=Y c:=by delta place;rewrite [qm<|bX.mpr<|aC c];exact ax (ql ⟨aC c,bq.mpr G⟩) rfl
theorem vU {a:List O}{f:List V}{c:Nat}{k:V}(e:f[c]?=Y k) (w:f.length<=65536):sf a (.lst f) (.int c)=Y k:=by
 show (if qZ f.length=true then (place (c:Int) f.length).bind λt=>f[t]? else N)=_;refine Q (ql<|show qZ f.length=true from decide_eq_true w)<|Q (zK (aO.mp e).1) ?_
 exact e
theorem ac2 {a:List O}{o:V}{f:List V}{c:Nat}{L:V}(e:view a o=.lst f) (i:f[c]?=Y L) (w:f.length<=65536):sf a o (.int c)=Y L:=by delta sf;exact Q e<|vU i w
theorem Xw {a:List O}{c h:Nat}{l:List V}{k:V}(e:a[c]?=Y (.list l)) (G:h<l.length) (w:l.length<=65536):ub a (.ref c) (.int h) k=Y (a.set c<|.list<|l.set h k):=by have i:ub a (.ref c) (.int h) k=Oe a c (.int h) k a[c]?:=rfl;exact ax i<|Q e<|(ql<|decide_eq_true w).trans<|qM<|zK G
theorem HO {f:List V}(e:view hp (rB k)=.lst f)(w:f.length<=65536):yg hp .len [k]=Y (.int f.length):=(qn TO e:_).trans<|ql<|decide_eq_true w
theorem xy {l:List V}(e:view hp a=.lst l)(w:l.length<=65536):rC hp a=Y (decide<|l.length≠0):=(qn Ip e:_).trans<|ql<|decide_eq_true w
theorem adl {a:List O}{f:List V}(e:a[i]?=Y (.list f))(w:f.length<=65536):za a .wF (.ref i) []=Y (.none,a.set i<|.list f.reverse):=(EL _ _ e).trans<|ql<|decide_eq_true w
theorem Wm {a:List O}{l:List V}(e:a[i]?=Y (.list l))(w:l.length<=65536):v7 orc (.bm "list.append"<|.ref i) [v] [] [] a=Y (.none,a.set i<|.list<|l++[v]):=(ql ⟨rfl,rfl,rfl⟩:(if "list.append"="list.append"/\([]:List ba)=[]/\([]:List V)=[] then Jn a .uW (.ref i) [v] else N)=_).trans<|(EL _ _ e).trans<|ql<|decide_eq_true w
theorem Ky {U:List Nat}{y:St}{z:List O}{l:List V}(e:(ev g j).E U x y=Y (.bm "list.append"<|.ref i,st1))(k:sJ (ev g j) U as st1=Y ([v],⟨loc,z⟩))(n:z[i]?=Y (.list l))(w:l.length<=65536) :
  (ev g<|j+1).E U (.call x as [] []) y=Y (.none,⟨loc,z.set i<|.list<|l++[v]⟩):=Cn (st3:=⟨loc,z⟩) e k rfl<|Wm n w
theorem Cy {x:St}{a:List V}(e:w8 x.hp (.tH q b d)=Y a):N5 x (.tH q b d)=Y (a,N,x):=(qM e:(w8 x.hp<|.tH q b d).map (λa=>(a,N,x))=_)
theorem zH {c h:Nat}(G:h<2^9000):aS (c:Int) (h:Int)=false:=BM<|.inr<|bits_le.mpr G
theorem wM {a j:List V}(w:a.length+j.length<=65536):sH hp .Add (.lst a) (.lst j)=Y (.lst<|a++j):=by show (if qZ (a.length+j.length)=true then _ else _)=_;refine ax (ql<|show qZ (a.length+j.length)=true from decide_eq_true w) rfl
def gT (y:Ev)(U:List Nat)(a:X)(f:List X)(j:List Tg)(v:List X)(G:List<|List X)(x:St):Option<|List V×St:=match B2 y U f x with
 |Y (true,x)=>yd y U a j v G x|Y (false,x)=>Y ([],x)
 |N=>N
theorem wq {U v:Type}(b:U->v):∀a:List U,(a.flatMap λx=>[b x])=a.map b
 |[]=>rfl|x::a=>ax c9<|Q (wq b a) rfl
theorem A6 {U v:Type}(b:U->Bool)(d:U->v):∀a:List U,(a.flatMap λx=>if b x=true then [d x] else [])=(a.filter b).map d
 |[]=>rfl|x::a=>by
  refine ax c9<|Q (A6 b d a)<|Q (dK ..) ?_
  cases b x<;>rfl
theorem Zg {y:Ev}{U:List Nat}{x:St}(e:y.E U t x=Y (.bool b,st1)):B2 y U [t] x=Y (b,st1):=by
 refine qE e ?_
 cases b<;>rfl
section
variable {u:Type}
theorem PL {d:u->List V}:∀(l:List u),(∀a∈l,gT r M elt f [] [] [] ⟨[Y<|ρ a],hp⟩=Y (d a,⟨[Y<|ρ a],hp⟩))->∀y,∃h,sY M (.l 0) N (gT r M elt f [] [] []) (l.map ρ) ⟨[y],hp⟩=Y (l.flatMap d,⟨[h],hp⟩)
 |[]=>@λJ y=>⟨y,rfl⟩
 |a::l=>@λb y=>(PL l (λp c=>b p<|.tail _ c)<|Y<|ρ a).elim λh e=>⟨h,wV rfl rfl (b a<|.head _) e⟩
theorem O6 {d:u->List V}{l:List u}(e:tK r M i st=Y (l.map ρ,N,st))(g:∀G∈l,gT r M elt f [] [] [] ⟨[Y<|ρ G],st.hp⟩=Y (d G,⟨[Y<|ρ G],st.hp⟩))(w:(l.flatMap d).length<=65536) :
  rS r M (.comp elt [.l 0] [i] [f] 1 0) st=Y (.list<|l.flatMap d,st):=
 (PL l g N).elim λy j=>qM<|DZ (n:=1) e j w
theorem u4 {l:List u}(e:tK (ev orc j) M i st=Y (l.map ρ,N,st))(JN:∀G∈l,(ev orc j).E M elt ⟨[Y<|ρ G],st.hp⟩=Y (g G,⟨[Y<|ρ G],st.hp⟩))(w:l.length<=65536) :
  (ev orc<|j+1).E M (.comp elt [.l 0] [i] [[]] 1 0) st=Y (.lst<|l.map g,st):=J (wq g l)<|qM<|O6 (f:=[]) e (λG a=>zk<|JN G a)<|Q (wq ..)<|Q (ao ..) w
theorem xO {l:List u}(p:u->Bool)(e:tK (ev h j) M i st=Y (l.map ρ,N,st))(aef:∀G∈l,(ev h j).E M q ⟨[Y<|ρ G],st.hp⟩=Y (.bool<|p G,⟨[Y<|ρ G],st.hp⟩))(JN:∀G∈l,p G=true->(ev h j).E M elt ⟨[Y<|ρ G],st.hp⟩=Y (g G,⟨[Y<|ρ G],st.hp⟩))(w:l.length<=65536) :
  (ev h<|j+1).E M (.comp elt [.l 0] [i] [[q]] 1 0) st=Y (.lst<|(l.filter p).map g,st):=by
 refine J (A6 p g l)<|qM<|O6 e (λG a=>?_)<|Q (A6 ..)<|Q (ao ..)<|aa (cE ..) w
 delta gT;refine Q (Zg<|aef G a) ?_
 cases n:p G with
 |false=>rfl|true=>exact zk<|JN G a n
end
def K1 (h:Nat) (U:Nat):Prop:=∀(t T n:Nat)(a:List O),0<n->n<=U->2^(n-1)<=T->T<2^n->t<T*2^n->(qy h).top 21 [.int t,.int T,.int n] [] [] a=Y (.tup [.int (t/T:Nat),.int (t%T:Nat)],a)
def acL (h:Nat) (U:Nat):Prop:=∀(c f d e n:Nat)(a:List O),0<n->n<=U->2^(n-1)<=d->d<2^n->e<2^n->f<2^n->c<d*2^n+e->
 (qy h).top 28 [.int c,.int f,.int (d*2^n+e:Nat),.int d,.int e,.int n] [] [] a=Y (.tup [.int ((c*2^n+f)/(d*2^n+e):Nat),.int ((c*2^n+f)%(d*2^n+e):Nat)],a)
theorem aay (i:vA) (y h j T q:Option V) (s a:Int) (o:Nat) (G:a<o) (w:-2*(o:Int)<=a):∃p H:Int,p*o+H=s*o+a/\0<=H/\H<o/\
  (ev i 60).S [] YY ⟨[y,h,Y<|.int o,j,T,q,Y<|.int s,Y<|.int a],[]⟩=Y (.next,⟨[y,h,Y<|.int o,j,T,q,Y<|.int p,Y<|.int H],[]⟩):=by
 by_cases U:a<0
 .by_cases k:a+o<0
  .exact uu (s-1-1) (a+o+o) (by refine Q (eI ..)<|Q (eI ..) ?_;lia) (by lia) (by lia)<|Pj<|Dp rfl (dt U) rfl (Dp rfl (dt k) rfl<|Dq rfl<|df<|by lia)
  .exact uu (s-1) (a+o) (by refine Q (eI ..) ?_;lia) (by lia) (by lia)<|Pj<|Dp rfl (dt U) rfl (Dq rfl<|df k)
 .exact uu s a rfl (bX.mp U) G<|Pj<|Dq rfl (df U)
theorem X7 (h L v x I A t:Nat) (w:L<=16000) (h2:K1 h L) (H:0<t) (i:t<=L) (b:2^(t-1)<=I) (U:I<2^t) (k:A<2^t) (s:v<I*2^t+A) (z:Option V) :
  ∃q0 g:Nat,v=q0*I+g/\q0<2^t/\(g<I\/q0=2^t-1)/\(ev (qy h) 60).S [] YZ ⟨[Y<|.int v,Y<|.int x,z,Y<|.int I,Y<|.int A,Y<|.int t,N,N],[]⟩ =
   Y (.next,⟨[Y<|.int v,Y<|.int x,z,Y<|.int I,Y<|.int A,Y<|.int t,Y<|.int q0,Y<|.int g],[]⟩):=by
 by_cases j:v/2^t=I
 .have a:I*2^t<=v:=J j<|Nat.div_mul_le_self _ _
  have G:1<=2^t:=j_;refine uu (2^t-1) (v-I*2^t+I) ?_ (hU (bE _)<|ag _) (.inr rfl) ?_
  .refine Q (Nat.sub_mul ..)<|Q (ib ..)<|Q (bQ (2^t) I) ?_
   have:I<=I*2^t:=gI _ G;generalize I*2^t=y at *
   clear j b U k s;exact MZ a this
  .refine tX (qW (qx rfl rfl<|Be v t) rfl<|dt<|qn _ j) rfl<|rL<|qU (sW<|qo (qx (qx rfl rfl<|RW t<|by lia) rfl<|vi ?_)<|qG<|qx (qx rfl (qx rfl rfl<|CQ I t t U (by lia)<|by lia) rfl) rfl<|vi ?_) rfl
   .exact (fq G).symm
   .exact J (fq a) rfl
 .have a:v/2^t<I:=ct (bT (by rw[cb<|bE _,je,ib];exact eG s<|cM k _:v/2^t<I+1)) j;have T:v<I*2^t:=by rwa [cb<|bE _] at a
  exact uu (v/I) (v%I) (Q (bQ ..)<|(d5 _ _).symm) (by rwa [cb<|av (dZ _) a,bQ]) (.inl<|dq _<|av (dZ _) a)<|sF (qW (qx rfl rfl<|Be v t) rfl<|df λo=>j<|da o) rfl<|rL<|qU (call_top rfl<|h2 v I t [] H i b U T) rfl
section
variable {n q0 g f d e c:Nat}
theorem ag' (h:c=q0*d+g) (d3:g<d\/q0=2^n-1) (G:f<2^n) (T:c<d*2^n+e) (i:((c*2^n+f:Nat):Int)=(q0:Int)*((d*2^n+e:Nat):Int)+(((g*2^n+f:Nat):Int)-(q0*e:Nat))):(((g*2^n+f:Nat):Int)-(q0*e:Nat))<((d*2^n+e:Nat):Int):=by
 rcases d3 with d3|d3
 .have w:(g+1)*2^n<=d*2^n:=cy _ d3;rw[je,ib] at w
  generalize q0*e=x,d*2^n=y,g*2^n=z at *
  exact b7 (Int.sub_le_self _<|aC x)<|bq.mpr<|ai (cM G z)<|aa w<|aK y e
 .have w:(c+1)*2^n<=(d*2^n+e)*2^n:=cy _ T;rw[je,ib] at w
  have o:(q0:Int)*((d*2^n+e:Nat):Int)=((d*2^n+e)*2^n:Nat)-((d*2^n+e:Nat):Int):=by rw[d3,fq j_,eI,fc<|d*2^n+e,cu];exact qn _<|dO _
  rw[o] at i
  generalize (d*2^n+e)*2^n=x,d*2^n+e=y,c*2^n=u,(((g*2^n+f:Nat):Int)-(q0*e:Nat))=z at *
  clear h d3 T o;exact Nf G i w
theorem adY (w:2^(n-1)<=d) (G:0<n) (T:q0<2^n) (k:e<2^n):-2*((d*2^n+e:Nat):Int)<=(((g*2^n+f:Nat):Int)-(q0*e:Nat)):=by
 have h:2^n=2*2^(n-1):=J (my ..)<|qn _ (aH G).symm
 have i:q0*e<=2^n*2^n:=dG (bl T)<|bl k
 have b:2^n*2^n<=2*(d*2^n):=J (fP ..)<|cy _<|Q h<|aW 2 w
 generalize q0*e=x,2^n*2^n=y,d*2^n=u,g*2^n=z at *
 exact aB (bR<|jh 2 _)<|aB (jV<|bA.mpr<|aa i<|aa b<|aW 2<|aK u e)<|aB (bR (Int.zero_sub _).symm)<|ig (aC _) _
theorem VA (G:d<2^n) (T:e<2^n) (k:c<d*2^n+e) (h:c=q0*d+g):g<2^(n+n+1):=by
 have w:d*2^n+e<=2^n*2^n+2^n:=bo (cy _<|bl G)<|bl T
 have i:2^n<=2^n*2^n:=gI _<|bE _
 refine Q (iI ..)<|Q (cG ..) ?_
 generalize q0*d=x,2^n*2^n=y,d*2^n=u at *
 exact av (h▸cp g x)<|ai k<|aa w<|aa (aP i y)<|aN (jS y).symm
end
theorem aie (m NNq:Nat) (hN:NNq<=16000) (h2:K1 m NNq):acL (m+1) NNq:=λc f d e n hp hn JK c1 c2 c3 c4 c5=>by
 refine rD m rfl rfl rfl rfl rfl (hp':=[]) (v:=.tup [.int ((c*2^n+f)/(d*2^n+e):Nat),.int ((c*2^n+f)%(d*2^n+e):Nat)]) (xP (X7 m NNq c f d e n hN h2 hn JK c1 c2 c3 c5<|Y<|.int (d*2^n+e:Nat)) λq0 g d1 d2 d3 d4=>?_) rfl;have hA:((c*2^n+f:Nat):Int)=(q0:Int)*((d*2^n+e:Nat):Int)+(((g*2^n+f:Nat):Int)-(q0*e:Nat)):=by refine Q d1 ?_;push_cast;clear d4 d3 h2;grind
 refine xP (aay (qy m) (Y<|.int c) (Y<|.int f) (Y<|.int d) (Y<|.int e) (Y<|.int n) q0 (((g*2^n+f:Nat):Int)-(q0*e:Nat)) (d*2^n+e) (ag' d1 d3 c4 c5 hA)<|adY c1 hn d2 c3) λq' r' f1 f2 f3 f4=>?_
 have g2:=(og (a:=((c*2^n+f:Nat):Int))<|bq.mpr<|av (dZ _) c5).mpr<|ri (by refine Q hA<|J f1<|Q (cu ..)<|Q (gY ..) rfl) f2 f3
 obtain rfl:=g2.1;obtain rfl:=g2.2;refine qH d4<|qH (qU (qx (qx (qx rfl rfl<|CQ g n _ (VA c2 c3 c5 d1) (aa (cm<|bo (aa JK hN)<|aa JK hN)<|by decide)<|by lia) rfl<|(ack _ _).trans<|vi<|Qt g f n c4) (qx rfl rfl<|(xU q0 e n n d2 c3 (by lia)<|by lia).trans<|vi (fc ..).symm) rfl) rfl)<|qH f4<|tq<|sx<|sW<|qo rfl<|qG rfl
theorem PG {t:Nat}(G:0<b):(a/t/b)*t+(a/t%b*t+a%t)/b=a/b/\(a/t%b*t+a%t)%b=a%b:=by
 have e:a=b*(a/t/b*t)+(a/t%b*t+a%t):=(d5 a t).symm.trans<|(qn (·+a%t)<|(qn (t*·) (d5 (a/t) b).symm).trans<|by refine Q (ic ..)<|Q (oU ..)<|Q (bQ t<|a/t/b)<|Q (bQ t<|a/t%b) rfl).trans<|b9 ..
 constructor
 .conv=>rhs;rw[e]
  rw[pL G]
 .conv=>rhs;rw[e]
  rw[Nat.mul_add_mod]
section
variable {a b n p h A c:Nat}
theorem aes (w:2^(n-1)<=b)(G:0<n)(e:b*2^p=c)(hh:n+p=2*h)(T:0<h):2^(h-1)*2^h<=c:=by
 have:2^(n-1)*2^p<=c:=e▸cy _ w;rw[<- cG] at this ⊢
 cases n with
 |zero=>exact absurd G<|b8 0
 |succ n=>cases h with
  |zero=>exact absurd T<|b8 0
  |succ h=>
   exact Q (cC<|(cj h<|h+1).symm.trans<|(ia<|h+1).symm.trans<|hh.symm.trans<|cj n p) this
theorem aer (e:a*2^p=A)(i:b*2^p=c)(o:2^(n+p)=2^h*2^h)(G:a<b*2^n):A<c*2^h*2^h:=by
 have:a*2^p<b*2^n*2^p:=iJ G<|bE _
 rw[e,oJ,i] at this
 exact ai this<|Q (fP ..)<|J o<|aW _<|aX (by decide)<|aK _ _
theorem aeq (G:0<c):(A/2^h%c*2^h+A%2^h)/c<2^h:=by
 rw[cb G];have w:=cy (2^h)<|oT<|dq (A/2^h) G
 rw[kr,bQ c] at w
 exact ai (cM (dq _<|bE _) _) w
theorem ahF (d):d%2=0\/d%2=1:=Nat.mod_two_eq_zero_or_one d
theorem adN (e:n%2=p):∃h,n+p=2*h:=⟨n/2+p,(qn (·+p) (J e<|(d5 n 2).symm:n=2*(n/2)+p)).trans<|by refine Q (ic ..)<|Q (ia p)<|Q (b9 ..) rfl⟩
theorem acU (o:p=0\/p=1)(G:a<2^(n+n))(T:b<2^n)(w:n<=16000):(ev orc 60).S [] Y4 ⟨[Y<|.int a,Y<|.int b,Y<|.int n,Y<|.int p,N,N,N,N,N,N,N],[]⟩ =
   Y (.next,⟨[Y<|.int (a*2^p:Nat),Y<|.int (b*2^p:Nat),Y<|.int (n+p:Nat),Y<|.int p,N,N,N,N,N,N,N],[]⟩):=by
 rcases o with rfl|rfl
 .exact Q (ng ..)<|Q (fi ..)<|Q (fi ..)<|sF rfl rfl rfl
 .exact tX rfl rfl<|rf (CU rfl rfl (Q9 a _ G<|aa (bo w w)<|by decide) rfl)<|rf (CU rfl rfl (Q9 b n T<|bJ w) rfl)<|rL<|CU rfl rfl rfl rfl
theorem acT (o:p=0\/p=1)(i):(ev orc 60).S [] Y3 ⟨[l0,l1,l2,Y<|.int p,l4,l5,l6,l7,l8,Y<|.int (i*2^p:Nat),l10],[]⟩=Y (.next,⟨[l0,l1,l2,Y<|.int p,l4,l5,l6,l7,l8,Y<|.int i,l10],[]⟩):=by
 rcases o with rfl|rfl
 .exact Q (ng ..)<|Q (fi ..)<|sF rfl rfl rfl
 .exact tX rfl rfl<|rL<|CU rfl rfl (abj _)<|Q (Nat.mul_div_cancel _<|show 0<2^1 by decide) rfl
theorem aiq {U i:Nat}(G:¬(U:Int)-i<=4000) (w:U<=i+i):4000<i:=gF.mp λh=>G<|Int.sub_right_le_of_le_add<|bA.mpr<|aa w<|a9 h i
theorem aip (NNq:Nat) (hN:NNq<=16000) (JK:n<=NNq) (hn:0<n) (hs:¬(au (a:Int):Int)-n<=4000) (ha:au (a:Int)<=n+n) (hh:n+p=2*h) (hp:p=0\/p=1):4000<NNq/\h<=(NNq+1)/2/\0<h/\n+p<=50000/\h<=50000:=
 have p1:p<=1:=hp.elim (λe=>Q e<|dZ 1) λe=>aN e
 have n1:n+p<=50000:=aa (bo (aa JK hN) p1) (by decide)
 (Ee (ai (aiq hs ha) JK) ((nI<|by decide).mpr<|Q (bQ ..)<|J hh<|bo JK p1) (eM λe=>by rw[e] at hh;exact absurd (Nat.eq_zero_of_add_eq_zero_right hh)<|bw hn) n1<|aa (hh▸gU h (by decide)) n1)
end
theorem G6 (d NNq)(w:NNq<=16000)(f:4000<NNq->acL d ((NNq+1)/2)):K1 (d+1) NNq:=λa b n j I i o u k=>by
 refine rD d rfl rfl rfl rfl rfl (hp':=[]) (v:=.tup [.int (a/b:Nat),.int (a%b:Nat)]) ?_ rfl;have s:0<b:=ai (bE _) o;have e:=Yo o u I;have T:a<2^(n+n):=Q (cG ..)<|eG k<|iJ u<|bE _
 by_cases x:(au (a:Int):Int)-n<=4000
 .skip
  exact tq<|tX (qW rfl rfl<|dt x) rfl<|tN<|sx<|uf rfl<|UZ a b s<|BM<|Q e<|.inl<|aa (bA.mp<|Int.le_add_of_sub_right_le x)<|bx 4000 n▸aP (by decide) n
 have L:=ahF n;generalize hpp:n%2=p at L
 refine rM (adN hpp) λh hh=>Vd (aip NNq w i I x (bits_le.mpr T) hh L) λU G hh0 hnp hh5=>qH (z0<|qW rfl rfl<|df x)<|qH (qU (qx rfl rfl<|(WG _ _).trans<|vi<|(YF n).trans<|qn _ hpp) rfl)<|qH (acU L T u<|aa i w) ?_
 generalize hA:a*2^p=A;generalize hB:b*2^p=c;have HU:0<c:=J hB<|Nat.mul_pos s<|bE _
 have hX:2^(n+p)=2^h*2^h:=by refine Q hh<|J (cG ..)<|Q (ia ..) rfl
 have q:=aer hA hB hX k;have Wa:c/2^h*2^h+c%2^h=c:=J (bQ (2^h) _)<|d5 _ _
 have xS:0<2^h:=bE _;have y:2^(h-1)<=c/2^h:=(nI xS).mpr<|aes o I hB hh hh0
 have k2:c/2^h<2^h:=(cb xS).mpr<|J hB<|J hX<|Q (cG ..)<|iJ u<|bE _
 have H:=(f U) (A/2^(n+p)) (A/2^h%2^h) (c/2^h) (c%2^h) h [] hh0 G y k2 (dq _ xS) (dq _ xS)<|Q Wa<|by rwa [hX,cb<|Nat.mul_pos xS xS,<-fP]
 rw[Wa,(Q hX<|J (nj ..)<|Q (bQ ..)<|d5 _ _:A/2^(n+p)*2^h+A/2^h%2^h=A/2^h)] at H
 have d2:=(f U) (A/2^h%c) (A%2^h) (c/2^h) (c%2^h) h [] hh0 G y k2 (dq _ xS) (dq _ xS)<|Q Wa<|dq _ HU
 rw[Wa] at d2
 obtain ⟨e1,e2⟩:=PG HU;have t:A/2^h/c<2^h:=by rw[cb HU,cb xS,bQ (2^h) c];exact q
 have g:=Qt (A/2^h/c) ((A/2^h%c*2^h+A%2^h)/c) h<|aeq HU
 rw[e1,(by refine J hA<|J hB<|Q (Nat.mul_div_mul_right _ _<|bE _) rfl:A/c=a/b)] at g
 have m1:∀z:Nat,sH [] .BitAnd (.int z) (.int ((2^h-1:Nat):Int))=Y (.int ((z%2^h:Nat):Int)):=λz=>(WG _ _).trans<|vi<|KU z h
 refine qH (qU (qx rfl rfl<|(KJ _).trans<|vi<|qn _<|Q hh<|Nat.mul_div_cancel_left _<|by decide) rfl) (qH (qU (qx (qx rfl rfl<|RW h hh5) rfl<|(ui _ _).trans<|vi (fq xS).symm) rfl)
  (qH (qU (sW<|qo (qx rfl rfl<|Be c h)<|qG<|qx rfl rfl<|m1 c) rfl)
  <| qH (qU (call_top (qo (qx rfl rfl<|Be A<|n+p)<|qo (qx (qx rfl rfl<|Be A h) rfl<|m1 _) rfl) H) rfl)<|qH (qU (call_top (qo rfl<|qo (qx rfl rfl<|m1 A) rfl) d2) rfl) ?_))
 exact Q e2<|Q (by refine J hA<|J hB<|Q (Nat.mul_mod_mul_right ..) rfl:A%c=a%b*2^p)<|qH (acT L _)<|tq<|sx<|sW<|qo (qx (qx rfl rfl<|CQ (A/2^h/c) h h t hh5 hh5) rfl<|(ack _ _).trans<|vi g)<|qG rfl
theorem Kj:∀(j U m:Nat),U<=4000*2^j->U<=16000->2*j+1<=m->K1 m U
 |0,U,m+1,w,d,J=>G6 m U d λh=>absurd h<|cU.mpr w
 |j+1,U,m+2,w,d,T=>G6 (m+1) U d λh=>aie m _ (aa (ie<|a9 d 1)<|by decide)<|Kj j _ m (bT<|jU<|pn<|dD<|aa w<|aN<|(qn _<|bQ ..).trans<|oU ..) (aa (ie<|a9 d 1)<|by decide)<|lU T
theorem Yc (d)(w:5<=d):K1 d 16000:=Kj 2 16000 d (ag _) (ag _) (by omega)
noncomputable def se (c:Nat):Nat->Nat->List Nat
 |J,0=>[]
 |x,t+1=>x%2^c::se c (x/2^c) t
noncomputable def valN (c:Nat):List Nat->Nat
 |[]=>0|d::l=>d+2^c*valN c l
theorem A9 (c):∀(w t:Nat),(se c t w).length=w
 |0=>@λJ=>rfl
 |w+1=>@λt=>qn (·+1)<|A9 c w _
theorem Mq (c):∀(w t:Nat),∀T∈se c t w,T<2^c
 |0=>@λJ J h=>nomatch h
 |w+1=>@λt T h=>by
  rcases aE.mp h with rfl|h
  .exact dq _<|bE _
  .exact Mq c w _ T h
theorem Km (c):∀(u t T:Nat),se c T (u+t)=se c T u++se c (T/2^(c*u)) t
 |0=>@λt T=>by simp[se]
 |u+1=>@λt T=>by
  refine Q (show u+1+t=(u+t)+1 by exact cj _ _) ?_;rewrite [se,se];refine Q (Km c u t ..)<|ax jq ?_
  congr 2;refine Q (nj ..)<|J (cG ..)<|Q (dS ..)<|Q (bx ..) rfl
theorem Kl (c):∀(u t:Nat),se c (t%2^(c*u)) u=se c t u
 |0=>@λt=>rfl
 |u+1=>@λt=>by rw[se,se,(by refine J (cG ..)<|Q (dS ..)<|Q (bx ..) rfl:2^(c*(u+1))=2^c*2^(c*u)),Nat.mod_mul_right_mod,Nat.mod_mul_right_div_self,Kl c u]
theorem Lx (c):∀(w t:Nat),t<2^(c*w)->valN c (se c t w)=t
 |0=>@λt G=>by simp at G;subst G;rfl
 |w+1=>@λt G=>by
  rw[se,valN,Lx c w]
  .exact Nat.mod_add_div _ _
  .rw[cb<|bE _,<-cG];exact G
theorem Cr (c):∀(l f:List Nat),valN c (l++f)=valN c l+2^(c*l.length)*valN c f
 |[]=>@λf=>by simp[valN]
 |d::l=>@λf=>by refine Q jq ?_;rw[valN,valN,Cr c l f,aQ,dS,cG,ic];exact J (fP ..)<|Q (bQ (2^c)<|2^(c*l.length))<|(b9 _ _ _).symm
theorem Pz (c):∀(l:List Nat),(∀d∈l,d<2^c)->valN c l<2^(c*l.length)
 |[]=>@λJ=>by simp[valN]
 |d::l=>@λb=>by
  rw[valN,aQ,dS,cG,bQ _<|2^c];have w:2^c*(valN c l+1)<=2^c*2^(c*l.length):=aW _<|Pz c l λT a=>b T<|.tail _ a
  rw[ic,fi] at w
  exact Nt (b d<|.head _) w
def ada:eT:=⟨.function,[("x",.local),("L",.local),("R",.local),("mid",.local),("shift",.local),("upper",.local),("lower",.local),("a_digits",.free),("inner",.free),("n",.free)],false,false,Av.scope.more⟩
def ad8:K:=⟨ada,["x","L","R","mid","shift","upper","lower"],["a_digits","inner","n"],"_int2digits.<locals>.inner.<locals>.",N⟩
def YV:XS:=.rb (.cmp (.bin .Add (.l 1)<|.i 1) [.Eq] [.l 2]) [.wj (.cell 0) (.l 1)<|.l 0,.ret<|.k .none] []
def YU:XS:=.asg (.l 3)<|.bin .RShift (.bin .Add (.l 1)<|.l 2)<|.i 1
noncomputable def YT:XS:=.asg (.l 4)<|.bin .Mult (.bin .Sub (.l 3)<|.l 1)<|.cell 2
noncomputable def YS:XS:=.asg (.l 5)<|.bin .RShift (.l 0)<|.l 4
noncomputable def YR:XS:=.asg (.l 6)<|.bin .BitXor (.l 0)<|.bin .LShift (.l 5)<|.l 4
noncomputable def YQ:XS:=.expr<|.call (.cell 1) [.l 6,.l 1,.l 3] [] []
noncomputable def YP:XS:=.expr<|.call (.cell 1) [.l 5,.l 3,.l 2] [] []
def OU:Fn:=⟨ad8,["x","L","R"],[.l 0,.l 1,.l 2],.inl [YV,YU,YT,YS,YR,YQ,YP]⟩
theorem Wu:AA g0 [] Av=Y OU:=by kernel_rfl
noncomputable def RH:List<|ba×Nat:=[("n",0),("inner",2),("a_digits",1)]
def QU (c:Nat)(a:List V):List O:=[.cell<|Y<|.int c,.cell<|Y<|.ref 3,.cell<|Y<|.ref 4,.list a,.fn Av RH N]
theorem ZO (g)(a)(f):tU g OU RH a f=match Vm.bindAll [1,2,0] [.l 0,.l 1,.l 2] a ⟨[N,N,N,N,N,N,N],f++[]⟩ with
 |Y st=>we g [1,2,0] [YV,YU,YT,YS,YR,YQ,YP] st|N=>N:=by
 delta tU;exact Q (by kernel_rfl:wg RH OU.B.scope.names f.length=Y [1,2,0]) rfl
theorem RV (c m t T:Nat)(l:List V)(w:T+1<=l.length)(i:l.length<=65536)(G:t<2^c) :
  (qy<|m+1).zV Av RH [.int t,.int T,.int (T+1:Nat)] (QU c l)=Y (.none,QU c<|l.take T++(nats (se c t 1)++l.drop (T+1))):=by
 have e:l.set T (V.int t)=l.take T++(nats (se c t 1)++l.drop (T+1)):=by rewrite [List.set_eq_take_append_cons_drop,ql<|show T<l.length from w,se];exact Q (pq G) rfl
 exact Q (AB m Wu rfl)<|Q (ZO ..)<|J e<|tq<|tX (qW (qx rfl rfl<|rV _ _) rfl<|dt rfl) rfl<|u6 (D6 rfl rfl rfl<|Xw rfl w i)<|tN<|sx rfl
theorem Gq {t:Nat}(w:L<=q9)(i:q9<=t):t-L=(q9-L)+(t-q9):=by obtain ⟨z,rfl⟩:=gJ w;obtain ⟨A,rfl⟩:=gJ i;refine Q (b9 ..)<|Q (bc ..)<|Q (bc ..)<|J (b9 ..)<|Q (bc ..) rfl
theorem JP (c h):(c+(c+h))/2=c+h/2:=by refine J (b9 ..)<|J (ia ..) ?_;rw[pL<|by decide]
theorem VN {h:Nat}(G:L<h)(H:¬h=L+1)(e:(L+h)/2=q9):L<q9/\q9<h/\h-L=(q9-L)+(h-q9):=by
 refine rM (gJ<|bl G) λz i=>?_;subst i
 have w:2<=z:=ct (Nat.lt_of_add_lt_add_left G) λn=>H<|Q n rfl
 rw[JP] at e
 subst e;exact Q (bc ..)<|Q (bc ..)<|Q (n0 ..) ⟨ju<|Nat.div_pos w<|by decide,cM (Nat.div_lt_self (ai (by decide) w)<|ag _) _,(cK<|Nat.div_le_self ..).symm⟩
theorem X2 {c t:Nat}(G:c<2*(h+1))(w:c<=2*t):c<=t+h:=(Nat.lt_or_ge h t).elim (λT=>aa (bT (G:c<(2*h+1)+1))<|by show 2*h+1<=t+h;exact Q (ia ..)<|Q (cV ..)<|a9 T h) λT=>aa w<|Q (ia ..)<|aP T t
theorem QF {h:Nat}(G:L<h)(w:h-L<=2*2^k)(e:(L+h)/2=q9):q9-L<=2^k/\h-q9<=2^k:=by
 obtain ⟨z,rfl⟩:=gJ (bl G);rw[JP] at e
 subst e;rw[bc] at w
 exact Q (bc ..)<|Q (n0 ..) ⟨Nat.div_le_of_le_mul w,Nat.sub_le_of_le_add<|X2 (Nat.lt_mul_div_succ z<|by decide) w⟩
theorem HM (w:c<=65536):((c:Nat):Int).natAbs<2^17:=av w (by decide)
theorem aeD (c h t q9 R)(a:List V)(G:t<q9)(T:q9<R)(w:R<=a.length)(e:R-t=(q9-t)+(R-q9)):(a.take t++(nats (se c h<|q9-t)++a.drop q9)).take q9++(nats (se c (h/2^(c*(q9-t)))<|R-q9)++(a.take t++(nats (se c h<|q9-t)++a.drop q9)).drop R)=a.take t++(nats (se c h<|R-t)++a.drop R):=by
 have i:(a.take t++nats (se c h<|q9-t)).length=q9:=by refine Q (aG ..)<|Q (fz ..)<|Q (rE ..)<|Q (A9 ..)<|Q (iy<|aa (bl<|eG G T) w)<|Q (cK<|bl G) rfl
 refine Q ((a8 ..).symm:a.take t++(nats (se c h<|q9-t)++a.drop q9)=(a.take t++nats (se c h<|q9-t))++a.drop q9)<|Q (List.take_left' i) ?_;rw[List.drop_append,i,mX<|J i.symm<|bl T,dY,jO,e,Km,AY,a8,a8,cK<|bl T]
theorem XW (n:Nat)(I:0<n):∀(h t:Nat)(T L R:Nat)(l:List V),h+1<=t->L<R->R-L<=2^h->R<=l.length->l.length<=65536->n*(R-L)<=50000->T<2^(n*(R-L))->
  (qy t).zV Av RH [.int T,.int L,.int R] (QU n l)=Y (.none,QU n<|l.take L++(nats (se n T<|R-L)++l.drop R)):=by
 intro h
 induction h with
 |zero=>
  intro t T L R l w a i b d G k;refine rM (gx<|aa (cp 1 _) w) λt e=>?_;subst e
  obtain rfl:R=L+1:=gA (nf.mp i) a;rw[bc] at k ⊢
  exact RV n t T L l b d (by rwa [fi] at k)
 |succ h j=>
  intro t T L R l w a i b d G k;refine rM (gx<|aa (cp 1 _) w) λt o=>?_;subst o
  by_cases p:R=L+1
  .subst p;rw[bc] at k ⊢
   exact RV n t T L l b d (by rwa [fi] at k)
  generalize hM:(L+R)/2=q9;refine qJ (VN a p hM) λs q z=>?_
  rw[my] at i
  refine rF (QF a i hM) λU u=>?_
  have v:T/2^(n*(q9-L))<2^(n*(R-q9)):=by rewrite [cb<|bE _];exact Q (bQ ..)<|J (by refine J (cG ..)<|J (ic ..)<|Q z rfl:2^(n*(R-L))=2^(n*(q9-L))*2^(n*(R-q9))) k
  have H:n*(R-L)=n*(q9-L)+n*(R-q9):=by refine J (ic ..)<|Q z rfl
  have y:n*(q9-L)<=50000:=aa (H▸aK _ _) G;have x:n*(R-q9)<=50000:=aa (H▸cp _ _) G;have c:=j t (T%2^(n*(q9-L))) L q9 l (aJ w) s U (aa (bl q) b) d y<|dq _<|bE _
  have A:(l.take L++(nats (se n T<|q9-L)++l.drop q9)).length=l.length:=by refine Q (aG ..)<|Q (aG ..)<|Q (fz ..)<|Q (rE ..)<|Q (A9 ..)<|Q (kH ..)<|Q (iy<|aa (bl a) b)<|J (Gq (bl s)<|aa (bl q) b)<|Q (cK<|aa (bl a) b) rfl
  rw[Kl] at c
  have i2:=j t (T/2^(n*(q9-L))) q9 R (l.take L++(nats (se n T<|q9-L)++l.drop q9)) (aJ w) q u (J A.symm b) (J A.symm d) x v;rw[aeD n T L q9 R l s q b z] at i2
  have hmul:∀f,sH f .Mult (.int ((q9-L:Nat):Int)) (.int n)=Y (.int ((n*(q9-L):Nat):Int)):=λf=>
   (xU ((q9-L:Nat):Int) (n:Int) 17 17 (HM<|aa (c7 ..)<|aa (bl q)<|aa b d) (HM<|aa (aa (gI n<|jd a) G)<|by decide) (by decide)<|by decide).trans<|vi<|by refine J (fc ..)<|Q (bQ ..) rfl
  refine Q (AB t Wu rfl)<|Q (ZO ..) ?_
  exact qH (z0<|qW (qx rfl rfl<|rV _ _) rfl<|df λg=>p (da g).symm) (qH (qU (qx (qx rfl rfl<|rV _ _) rfl<|(KJ<|L+R).trans<|vi<|qn _ hM) rfl)
   (qH (qU (qx (qx rfl rfl<|(ui _ _).trans<|vi (fq<|bl s).symm) rfl<|hmul _) rfl) (qH (qU (qx rfl rfl<|Be T<|n*(q9-L)) rfl)
   <| qH (qU (qx rfl (qx rfl rfl<|CQ _ (n*(q9-L)) _ v x y)<|(ae4 _ _).trans<|vi<|Pq T<|n*(q9-L)) rfl)<|qH (tT<|vO rfl rfl rfl c)<|qH (tT<|vO rfl rfl rfl i2) aic)))
noncomputable abbrev nd (c h:Nat):Nat:=(au (c:Int)+h-1)/h
theorem VI (G:0<h):c<2^(h*nd c h)/\h*nd c h<=au (c:Int)+h-1:=by
 have e:=d5 (au (c:Int)+h-1) h;have T:=dq (au (c:Int)+h-1) G;refine ⟨bits_le.mp ?_,J e<|aK _ _⟩
 cases h with
 |zero=>exact absurd G<|b8 0
 |succ h=>exact Nat.le_of_add_le_add_right<|aa (aN e.symm)<|aP (bT T) _
theorem adU (G:0<n)(w:n<=16000)(i:x<=30000):(x+n-1)/n<=30000:=by apply bT;rw[cb G];exact ai (hU (ai G<|cp n x)<|ag _)<|Q (kr 30000 n)<|a9 (aa i (aW _ G:30000*1<=30000*n)) n
theorem aak {c h:Nat}(G:0<h):(c:Int)+(h:Int)-1=((c+h-1:Nat):Int):=((jG<|aa G<|cp h c).trans<|qn (·-1)<|iB c h).symm
theorem i2d (c j t:Nat) (a:List O) (w:18<=c) (H:0<t) (i:t<=16000) (b:au (j:Int)<=30000) :
  (qy c).top 35 [.int j,.int t] [] [] a=Y (.lst<|nats<|se t j<|nd j t,a):=by
 obtain ⟨c,rfl⟩:∃T,c=T+1:=⟨c-1,(aH<|aa (by decide) w).symm⟩;obtain ⟨U,d⟩:=VI H;have G:nd j t<=30000:=adU H i b;have e:sU (QU t<|nats<|se t j<|nd j t) 9 (.ref 3)=Y (.lst<|nats<|se t j<|nd j t):=by show (qO (sU _ 8) _).map V.lst=_;exact Q (DO ..) rfl
 refine rD c rfl rfl rfl rfl rfl ?_ e;refine qH (st1:=⟨[Y<|.int j],[.cell<|Y<|.int t,.cell<|Y<|.ref 3,.cell N,.list<|aw (nd j t)<|V.int 0]⟩) (qU (xp<|WR rfl (qx (qx (qx rfl rfl<|rV _ _) rfl<|(ui _ _).trans<|vi<|aak H) rfl<|(λa:List O=>KL (hp:=a) (au (j:Int)+t-1) t H<|BM<|.inr<|aa (bits_le.mpr<|show t<2^17 from av i (by decide))<|by decide) _) ⟨aC _,bq.mpr<|av G<|by decide⟩) rfl)
  <| qH (WQ rfl rfl) ?_
 have hlen:(aw (nd j t)<|V.int 0).length=nd j t:=g7 ..
 by_cases n:j=0
 .refine Q n ?_;clear n;have z:nd 0 t=0:=jv (by show 0+t-1<t;exact Q (bZ ..)<|hU H<|ag _);exact Q z<|qH (sF rfl rfl rfl)<|tq<|sx rfl
 .skip
  have s:0<nd j t:=by
   rcases eO (nd j t) with h|h
   .rw[h] at U;exact absurd (Nat.lt_one_iff.mp U) n
   .exact h
  have f:=XW t H 15 c j 0 (nd j t) (aw (nd j t)<|V.int 0) (aJ<|aa (by decide) w) s (aa G<|by decide) (aN hlen.symm) (hlen.symm▸aa G (by decide)) (Q (gR ..)<|aa d<|Ng i b)<|Q (gR ..) U
  rw[gR,List.take_zero,dY,mX<|aN hlen,bh] at f
  exact qH (tX rfl (dt λk=>n<|da k)<|rL<|tT<|vO rfl (qo rfl<|qo rfl<|qG<|uf rfl<|(HO rfl<|hlen.symm▸aa G (by decide)).trans<|vi<|qn _ hlen) rfl f)<|tq<|sx rfl
def ac':eT:=⟨.function,[("L",.local),("R",.local),("mid",.local),("shift",.local),("digits",.free),("inner",.free),("n",.free)],false,false,w9.scope.more⟩
def ad7:K:=⟨ac',["L","R","mid","shift"],["digits","inner","n"],"_digits2int.<locals>.inner.<locals>.",N⟩
def YO:XS:=.rb (.cmp (.bin .Add (.l 0)<|.i 1) [.Eq] [.l 1]) [.ret<|.sub (.cell 0)<|.l 0] []
def YN:XS:=.asg (.l 2)<|.bin .RShift (.bin .Add (.l 0)<|.l 1)<|.i 1
noncomputable def YM:XS:=.asg (.l 3)<|.bin .Mult (.bin .Sub (.l 2)<|.l 0)<|.cell 2
noncomputable def YL:XS:=.ret<|.bin .Add (.bin .LShift (.call (.cell 1) [.l 2,.l 1] [] [])<|.l 3)<|.call (.cell 1) [.l 0,.l 2] [] []
def OT:Fn:=⟨ad7,["L","R"],[.l 0,.l 1],.inl [YO,YN,YM,YL]⟩
theorem Wt:AA g0 [] w9=Y OT:=by kernel_rfl
noncomputable def G9 (c:Nat):List<|ba×Nat:=[("n",c+1),("inner",c+2),("digits",c)]
theorem ZP (g)(c)(a)(f):tU g OT (G9 c) a f=match Vm.bindAll [c,c+2,c+1] [.l 0,.l 1] a ⟨[N,N,N,N],f++[]⟩ with
 |Y st=>we g [c,c+2,c+1] [YO,YN,YM,YL] st|N=>N:=by
 delta tU;exact Q (by kernel_rfl:wg (G9 c) OT.B.scope.names f.length=Y [c,c+2,c+1]) rfl
noncomputable def iL (a:List Int):List V:=a.map V.int
theorem r9 (a):(iL a).length=a.length:=ao ..
theorem aaP (a:List Int)(c:Nat):(iL a)[c]?=(a[c]?).map V.int:=aZ ..
theorem JE (a f):iL (a++f)=iL a++iL f:=bN
theorem L8 (q):∀(l f:List Int),Mp.tJ q (l++f)=Mp.tJ q l+q^l.length*Mp.tJ q f
 |[]=>@λf=>by refine (Q (gh ..)<|Q (dO ..)<|Q (dz ..) rfl:Mp.tJ q f=0+q^0*Mp.tJ q f)
 |c::l=>@λf=>by refine (Q (L8 q l f) ?_:c+q*Mp.tJ q (l++f)=c+q*Mp.tJ q l+q^(l.length+1)*Mp.tJ q f);rw[fF,eh,cu (q^l.length) q,dH q,j1]
theorem BV (n):∀a:List Int,(∀q∈a,q.natAbs<2^n)->(Mp.tJ (2^n) a).natAbs<2^(n*a.length)
 |[]=>@λJ=>lj
 |c::a=>@λo=>by
  refine (av (dX ..) ?_:(c+2^n*Mp.tJ (2^n) a).natAbs<2^(n*(a.length+1)));refine Q (Q (iY ..)<|Q (p7 ..) rfl:((2:Int)^n*Mp.tJ (2^n) a).natAbs=2^n*(Mp.tJ (2^n) a).natAbs)<|Q (dS ..) ?_;rw[bx<|n*a.length,cG]
  have w:=aW (2^n)<|BV n a λq b=>o q<|.tail _ b
  rw[dS] at w
  exact ai (n4 (o c<|.head _) _)<|Q (bx ..) w
theorem acj (a:Int)(c h:Nat)(G:a.natAbs<2^h)(w:h<=50000)(i:c<=50000):sH hp .LShift (.int a) (.int c)=Y (.int<|a*2^c):=by have b:=sM G;exact ql ⟨aC c,bA.mpr<|aa (bo (aa b w) i)<|by decide⟩
theorem Px (q)(a:List Int){R:Nat}(w:L<=q9)(i:q9<=R)(b:R<=a.length):Mp.tJ q ((a.drop L).take<|R-L)=Mp.tJ q ((a.drop L).take<|q9-L)+q^(q9-L)*Mp.tJ q ((a.drop q9).take<|R-q9):=by
 have e:(a.drop L).take (R-L)=(a.drop L).take (q9-L)++(a.drop q9).take (R-q9):=by refine Q (Gq w i)<|ax List.take_add<|Q (jO ..)<|Q (cK w) rfl
 refine Q e<|Q (L8 ..)<|Q (fz ..)<|Q (kH ..)<|Q (iy<|fh (aa i b) _) rfl
theorem sub_int (e:view hp dv=.lst (iL ds))(G:L<ds.length)(w:ds.length<=65536):sf hp dv (.int L)=Y (.int<|ds[L]'hL):=ac2 e (by refine Q (aaP ..)<|Q (aD G) ?_;rfl)<|J ((r9 ds).symm) w
theorem WE (n m L:Nat)(hp:List O)(b:Nat)(dv:V)(ds:List Int)(hb0:hp[b]?=Y (.cell<|Y dv))(hv:view hp dv=.lst (iL ds))(hL:L+1<=ds.length)(hl:ds.length<=65536) :
  (qy<|m+1).zV w9 (G9 b) [.int L,.int (L+1:Nat)] hp=Y (.int<|Mp.tJ (2^n)<|(ds.drop L).take 1,hp):=by
 have e3:Mp.tJ (2^n) ((ds.drop L).take 1)=ds[L]'hL:=by refine Q (l_ hL) ?_;show ds[L]+2^n*0=_;refine Q (bD ..)<|Q (dJ ..) rfl
 exact Q (AB m Wt rfl)<|Q (ZP ..)<|Q e3<|Q (bh ..)<|tq<|tX (qW (qx rfl rfl<|rV _ _) rfl<|dt rfl) rfl<|tN<|sx<|rm (qA rfl hb0) rfl<|sub_int hv hL hl
theorem aaJ (c)(I:0<c)(a:List O)(b)(k)(f)(e:a[b]?=Y (.cell<|Y k))(i:a[b+1]?=Y (.cell<|Y<|.int c))(n:a[b+2]?=Y (.cell<|Y<|.ref<|b+3))(z:a[b+3]?=Y (.fn w9 (G9 b) N))(H:view a k=.lst (iL f))(w:f.length<=65536)(hd:∀d∈f,d.natAbs<2^c)(j:c*f.length<=50000):∀(T A:Nat)(L R:Nat),T+1<=A->L<R->R-L<=2^T->R<=f.length->
  (qy A).zV w9 (G9 b) [.int L,.int R] a=Y (.int<|Mp.tJ (2^c)<|(f.drop L).take<|R-L,a):=by
 intro T
 induction T with
 |zero=>
  intro A L R g h o G;obtain ⟨A,rfl⟩:=gx (aa (cp 1 _) g);obtain rfl:R=L+1:=gA (nf.mp o) h;exact Q (bc ..)<|WE c A L a b k f e H G w
 |succ T ih=>
  intro A L R g h o G;obtain ⟨A,rfl⟩:=gx (aa (cp 1 _) g)
  by_cases p:R=L+1
  .subst p;exact Q (bc ..)<|WE c A L a b k f e H G w
  generalize hM:(L+R)/2=q9;refine qJ (VN h p hM) λt s u=>?_
  rw[my] at o
  obtain ⟨U,v⟩:=QF h o hM;have x:(Mp.tJ (2^c)<|(f.drop q9).take<|R-q9).natAbs<2^(c*(R-q9)):=by
   have:=BV c ((f.drop q9).take<|R-q9) λd y=>hd d<|List.mem_of_mem_drop<|List.mem_of_mem_take y
   rwa [fz,kH,iy<|fh G _] at this
  have hmul:∀a,sH a .Mult (.int ((q9-L:Nat):Int)) (.int c)=Y (.int ((c*(q9-L):Nat):Int)):=λa=>
   (xU ((q9-L:Nat):Int) (c:Int) 17 17 (HM<|aa (c7 ..)<|aa (bl s)<|aa G w) (HM<|aa (aa (gI c<|ai (av (dZ _) h) G) j)<|by decide) (by decide)<|by decide).trans<|vi<|by refine J (fc ..)<|Q (bQ ..) rfl
  refine Q (AB A Wt rfl)<|Q (ZP ..)<|Q (bh ..) ?_
  refine qH (z0<|qW (qx rfl rfl<|rV _ _) rfl<|df λq=>p (da q).symm) (qH (qU (qx (qx rfl rfl<|rV _ _) rfl<|(KJ<|L+R).trans<|vi<|qn _ hM) rfl)
   (qH (qU (qx (qx rfl rfl<|(ui _ _).trans<|vi (fq<|bl t).symm) (qA rfl i)<|hmul _) rfl)
   <| tq<|sx<|qx (qx (vO (qA rfl n) rfl z<|ih A q9 R (aJ g) s v G) rfl<|acj _ (c*(q9-L)) _ x (aa (aW c<|aa (c7 _ _) G) j)<|aa (aW c<|aa (c7 _ _)<|aa (bl s) G) j) (vO (qA rfl n) rfl z<|ih A L q9 (aJ g) t U<|aa (bl s) G)<|(rV _ _).trans<|vi ?_))
  refine Q (Px (2^c) f (bl t) (bl s) G)<|Q (cu ..)<|Q (gY ..)<|J (Int.pow_mul ..) rfl
theorem So {f:List V}(j)(e:view hp v=.lst f):view (hp++j) v=.lst f:=by
 cases v with
 |ref c=>
  delta view at e ⊢
  dsimp only at e ⊢
  cases i:hp[c]? with
  |none=>rw[i] at e;exact V.noConfusion (e:V.ref c=V.lst f)
  |some I=>
   refine Q (bC<|(aO.mp i).1)<|Q i ?_
   rw[i] at e
   exact e
 |_=>exact e
theorem d2i (c h)(hp)(k)(f)(w:18<=c)(G:0<h)(e:view hp k=.lst (iL f))(i:rB k=k)(b:∀q∈f,q.natAbs<2^h)(o:h*f.length<=50000) :
  ∃j,(qy c).top 42 [k,.int h] [] [] hp=Y (.int<|Mp.tJ (2^h) f,hp++j):=by
 obtain ⟨c,rfl⟩:∃t,c=t+1:=⟨c-1,(aH<|aa (by decide) w).symm⟩;have d:f.length<=50000:=aa (gU _ G) o;refine ⟨[.cell<|Y k,.cell<|Y<|.int h,.cell<|Y<|.ref<|hp.length+3,.fn w9 (G9 hp.length) N],ax (Cw c rfl rfl rfl) ?_⟩;have VV:=λu=>So u e
 have T:(iL f).length<=65536:=J (r9 f).symm<|aa d<|by decide
 refine (qS (Cd ((AP rfl<|vd ..).trans<|qn (λH=>Y (⟨[],H⟩:St))<|IQ ..)<|Cd ((AP rfl<|sC ..).trans<|qn (λH=>Y (⟨[],H⟩:St))<|yF ..) rfl) (qH (st1:=⟨[],hp++[.cell<|Y k,.cell<|Y<|.int h,.cell<|Y<|.ref<|hp.length+3,.fn w9 (G9 hp.length) N]⟩) (WQ rfl ?_)<|tq (loc:=[])<|sx ?_:yX (rQ (ev (qy c) 60) [hp.length,hp.length+1,hp.length+2] x5 ⟨[],hp++[.cell<|Y k,.cell<|Y<|.int h,.cell N]⟩)=_):tU (qy c) f5 [] [k,.int h] hp=_)
 .skip
  exact Q (len_app ..)<|Q (a8 ..)<|(AP rfl<|sC ..).trans<|qn (λH=>Y (⟨[],H⟩:St))<|yF ..
 by_cases n:f.length=0
 .obtain rfl:=cO.mp n;exact wB (qA rfl<|vd ..) (xy (VV _) T) rfl
 .have z:=aaJ h G (hp++[.cell<|Y k,.cell<|Y<|.int h,.cell<|Y<|.ref<|hp.length+3,.fn w9 (G9 hp.length) N]) hp.length k f (vd ..) (sC ..) (sC ..) (sC ..) (VV _) (aa d<|by decide) b o 16 c 0 f.length (aJ w) (eM n) (aa d<|by decide)<|ag _
  rw[gR,pN,oX] at z
  exact vC (qA rfl<|vd ..) ((xy (VV _) T).trans<|dt<|J (r9 f).symm n)<|vO (qA rfl<|sC ..) (qo rfl<|qG<|uf (qG<|qA rfl<|vd ..)<|(λu=>(HO (J i.symm<|VV u) T).trans<|vi<|qn _<|r9 f:∀u,yg (hp++u) .len [k]=Y (.int (f.length:Nat))) _) (sC ..) z
theorem FP (a):nats a=iL (a.map λ(c:Nat)=>(c:Int)):=by delta nats iL;exact Q (bk ..) rfl
theorem FY (c):∀a:List Nat,Mp.tJ (2^c) (a.map λ(d:Nat)=>(d:Int))=(valN c a:Nat)
 |[]=>rfl|d::l=>by refine (Q (FY c l) ?_:(d:Int)+2^c*Mp.tJ (2^c) (l.map λ(d:Nat)=>(d:Int))=((d+2^c*valN c l:Nat):Int));push_cast;rfl
theorem aih (c h)(a)(k)(f)(w:18<=c)(G:0<h)(e:view a k=.lst (nats f))(i:rB k=k)(hd:∀t∈f,t<2^h)(o:h*f.length<=50000) :
  ∃j,(qy c).top 42 [k,.int h] [] [] a=Y (.int (valN h f:Nat),a++j):=by
 have U:=d2i c h a k (f.map λ(t:Nat)=>(t:Int)) w G (J (FP f) e) i (λt U=>qt (bY.mp U) λT b n=>J n<|hd T b)<|Q (ao ..) o
 rwa [FY] at U
noncomputable def xr (c h:Nat):List Nat->Nat->List Nat×Nat
 |[]=>@λt=>([],t)
 |d::l=>@λt=>((t*2^c+d)/h::(xr c h l<|(t*2^c+d)%h).1,(xr c h l<|(t*2^c+d)%h).2)
theorem Ij (c h):valN c [h]=h:=rfl
theorem F0 (c h):∀(l:List Nat)(t:Nat),(xr c h l t).1.length=l.length
 |[]=>@λJ=>rfl
 |d::l=>@λt=>qn (·+1)<|F0 c h l _
theorem X3 {c t:Nat}(e:b*q+s=c*Di+d)(i:s*t+A=sX*b+u):c*(Di*t)+(A+t*d)=(sX+t*q)*b+u:=by
 have n:(c*Di+d)*t+A=(sX+t*q)*b+u:=by refine J e<|Q (je ..) ?_;rw[b9,i,<-b9,je sX,bx<|sX*b,bQ t q,oJ q t b,bQ b q]
 refine J n<|Q (je ..)<|Q (fP ..)<|Q (bQ d t)<|Q (b9 ..)<|Q (bx (t*d) A) rfl
theorem V1 {c:Nat}(G:c<b)(T:d<Di):c*Di+d<b*Di:=ai (cM T _)<|J (kr c Di)<|cy Di G
theorem abg (n h)(G:0<h)(a):∀t:Nat,t<h->(∀T∈a,T<2^n)->
  (xr n h a t).2<h/\(∀z∈(xr n h a t).1,z<2^n)/\t*2^(n*a.length)+valN n a.reverse=valN n (xr n h a t).1.reverse*h+(xr n h a t).2:=by
 induction a with
 |nil=>exact λt U W=>ri U (λW c=>nomatch c)<|Q (fL ..)<|Q (Nat.mul_zero ..)<|Q (ng ..)<|Q (fi ..)<|(gV t).trans<|(bZ t).symm.trans<|qn (·+t) (Nat.zero_mul h).symm
 |cons T a b=>
  intro t U hd;refine qJ (b ((t*2^n+T)%h) (dq _ G) λA H=>hd A<|.tail _ H) λk g e=>ri k (ck.mpr ⟨(cb G).mpr<|J (bQ h _)<|V1 U<|hd T<|.head _,g⟩) ?_
  show t*2^(n*(a.length+1))+valN n (T::a).reverse=valN n ((t*2^n+T)/h::(xr n h a<|(t*2^n+T)%h).1).reverse*h+(xr n h a<|(t*2^n+T)%h).2;refine Q dR ?_;rw[Cr,cw,dR,Cr,cw,F0,Ij,Ij,dS,bx<|n*a.length,cG];exact X3 (d5 (t*2^n+T) h) e
noncomputable def ab1:List XS:=[.asg (.tup [.l 7,.l 4])<|.call (.k<|.con<|.ref 21) [.bin .Add (.bin .LShift (.l 4)<|.l 2)<|.l 6,.l 1,.l 2] [] [],.expr<|.mt .append (.l 5) [.l 7]]
theorem aax (c h t:Nat)(w:5<=c)(H:0<h)(i:h<=16000)(b:2^(h-1)<=t)(U:t<2^h)(y j e:Option V):∀(a:List Nat)(T:Nat)(qs:List Nat)(d q:Option V),T<t->(∀z∈a,z<2^h)->qs.length+a.length<=65536->
  ∃A f,uh (ev (qy c) 59) [] (.l 6) N ab1 (nats a) ⟨[y,Y<|.int t,Y<|.int h,j,Y<|.int T,Y<|.ref 0,d,q,e],[.list<|nats qs]⟩ =
   Y (.next,⟨[y,Y<|.int t,Y<|.int h,j,Y<|.int (xr h t a T).2,Y<|.ref 0,A,f,e],[.list<|nats<|qs++(xr h t a T).1]⟩):=by
 intro a
 induction a with
 |nil=>
  intro T qs d q _ _ _;exact tG d q (Q (bh ..) rfl:_=Y (Fl.next,(⟨[y,Y<|.int t,Y<|.int h,j,Y<|.int T,Y<|.ref 0,d,q,e],[.list<|nats<|qs++[]]⟩:St)))
 |cons z l g=>
  intro T qs d q k hd n;refine sd (g ((T*2^h+z)%t) (qs++[(T*2^h+z)/t]) (Y<|.int z) (Y<|.int ((T*2^h+z)/t:Nat)) (dq _<|av (dZ _) k) (λI o=>hd I<|.tail _ o)<|by refine Q aG ?_;rw[b9,bx [_].length];exact n) λA f p=>?_
  refine tG A f ?_;have G:h<=50000:=aa i (by decide);rw[AY ..,a8] at p
  exact r_ rfl rfl (rf (qU (call_top (qo (qx (qx rfl rfl<|CQ T h h (eG k U) G G) rfl<|rV _ _) rfl)<|Yc c w (T*2^h+z) t h _ H i b U<|V1 k<|hd z<|.head _) rfl)<|rL<|tT<|uK rfl rfl rfl (qG rfl)<|H9 rfl<|J ((rE qs).symm)<|aa (aK _ _) n) p
theorem aid (c a t:Nat)(hp:List O)(w:19<=c)(I:0<t)(i:au (t:Int)<=16000)(b:au (a:Int)<=30000):(qy c).top 49 [.int a,.int t] [] [] hp=Y (.tup [.int (a/t:Nat),.int (a%t:Nat)],hp):=by
 obtain ⟨c,rfl⟩:∃T,c=T+1:=⟨c-1,(aH<|aa (by decide) w).symm⟩;obtain ⟨z,e⟩:∃z,au (t:Int)=z:=⟨_,rfl⟩;have g:0<z:=J e<|Q (D2 ..)<|Q (qm<|bw I)<|fI _
 have j:2^(z-1)<=t:=by apply hV;intro h;exact Nj e g (bits_le.mpr h)
 obtain ⟨s,w2⟩:=VI g;have U:z<=16000:=J e i;generalize V4:se z a (nd a z)=ds at *
 have o:ds.length=nd a z:=by refine J V4<|Q (A9 ..) rfl
 have p:∀A∈ds,A<2^z:=J V4<|Mq z _ _
 have q:ds.length<=46000:=Q o<|aa (gU _ g)<|aa w2<|aa (c7 _ _)<|bo b U
 refine qJ (abg z t I ds.reverse 0 I λA x=>p A<|dw.mp x) λy d n=>?_
 have L:=F0 z t ds.reverse 0;rw[Nat.zero_mul,bZ,nK,(J V4<|Lx z _ _ s:valN z ds=a)] at n
 refine sd (aax c z t (aJ<|aa (by decide) w) g U j (bits_le.mp<|aN e) (Y<|.int a) (Y<|.lst<|nats ds) N ds.reverse 0 [] N N I (λA x=>p A<|dw.mp x)<|Q (cw ..)<|Q (fL ..)<|Q (bZ ..)<|aa q<|by decide) λl6 l7 H=>?_
 rw[dY] at H
 generalize hG:xr z t ds.reverse 0=G at *
 have OL:nats ds.reverse=(nats ds).reverse:=jn ..
 have aei:nats G.1.reverse=(nats G.1).reverse:=jn ..
 obtain ⟨f,hj⟩:=aih c z [.list<|nats G.1.reverse] (.ref 0) G.1.reverse (aJ w) g rfl rfl (λu hq=>d u<|dw.mp hq) (Q (cw ..)<|Q L<|Q (cw ..)<|Q o<|aa w2<|aa (c7 _ _)<|aa (bo b U)<|by decide);have hq:valN z G.1.reverse=a/t/\G.2=a%t:=by have h2:=(Nat.div_mod_unique I).mpr ⟨(bx ..).trans (Q (bQ ..) n:a=t*valN z G.1.reverse+G.2).symm,y⟩;exact ⟨h2.1.symm,h2.2.symm⟩
 have hi:=λhp=>i2d c a z hp (aJ<|aa (ag _) w) g U b
 rw[V4] at hi
 refine rD c rfl rfl rfl rfl rfl (hp':=[.list<|nats G.1.reverse]++f) (v:=.tup [.int (a/t:Nat),.int (a%t:Nat)]) ?_ rfl;rw[hq.1] at hj
 rw[hq.2,OL] at H
 rw[aei] at hj ⊢
 exact qH (qU (uK rfl rfl rfl rfl<|qn (λk:Nat=>Y (V.int k,([]:List O))) e) rfl)
  (qH (qU (call_top rfl<|hi _) rfl)
  (qH (qU rfl rfl)
  (qH (qU (xp rfl) rfl)
  <| qH (v8 rfl H)<|qH (tT<|uK rfl rfl rfl rfl<|adl rfl<|J ((rE G.1).symm)<|aa (Q L<|Q (cw ..) q)<|by decide)<|qH (qU (call_top rfl hj) rfl)<|tq<|sx<|sW rfl)))
theorem G5 (q a):bg (-q) (-a)=bg q a:=kY ..
theorem VU (c:Nat)(h u:Nat)(a:List O)(w:20<=c)(G:0<u)(i:au (u:Int)<=16000)(b:au (h:Int)<=30000) :
  (qy c).top 56 [.int h,.int u] [] [] a=Y (.tup [.int (h/u:Nat),.int (h%u:Nat)],a):=by
 obtain ⟨c,rfl⟩:∃T,c=T+1:=⟨c-1,(aH<|aa (by decide) w).symm⟩;exact rD c (t:=t7) rfl rfl rfl rfl rfl (tq<|sF (qW rfl rfl<|df λe=>bw G<|da e) rfl<|tN<|sF (qW rfl rfl<|df<|bX.mpr<|aC u) rfl<|tN<|sF (qW rfl rfl<|df<|bX.mpr<|aC h) rfl<|tN<|sx<|call_top rfl<|aid c h u [] (aJ w) G i b) rfl
theorem VT (c:Nat)(q b:Int)(a:List O)(w:21<=c)(G:0<b)(i:au b<=16000)(U:q.natAbs<2^30000) :
  (qy c).top 56 [.int q,.int b] [] [] a=Y (.tup [.int<|bg q b,.int<|a_ q b],a):=by
 obtain ⟨b,rfl⟩:∃j:Nat,b=j:=⟨b.toNat,(cf<|bU G).symm⟩;rcases ny q 0 with h|h
 .obtain ⟨c,rfl⟩:∃t,c=t+1:=⟨c-1,(aH<|aa (by decide) w).symm⟩;obtain ⟨T,e⟩:∃T:Nat,fu q=T:=⟨(-q-1).toNat,by delta fu;exact NP h⟩;have k:q=-(T:Int)-1:=(jg q).symm.trans<|(qn nc<|nQ.mp e).trans<|oa ..
  have u:bg q b=fu ((T/b:Nat):Int)/\a_ q b=(b:Int)+fu ((T%b:Nat):Int):=by
   delta fu;refine Q (eS _<|aC b)<|Q (i6 _<|aC b) ?_
   have n:(b:Int)*(-((T/b:Nat):Int)-1)=-((b*(T/b):Nat):Int)-b:=by
    push_cast
    refine Q (fk ..)<|Q (Int.mul_neg ..)<|Q (gK ..) rfl
   exact (og<|by assumption).mpr ⟨Q n<|Q k<|Nb (d5 T b),M0 (dq T<|show 0<b by lia),Nu ⟩
  refine rD c rfl rfl rfl rfl rfl (hp':=[]) (v:=.tup [.int<|bg q b,.int<|a_ q b]) (Q u.1<|Q u.2 ?_) rfl;have z:=VU c T b [] (aJ w) (bq.mp G) i<|bits_le.mpr<|av (MY k) U
  rw[<- e] at z
  exact tq<|sF (qW rfl rfl<|df λH=>Int.ne_of_gt G H) rfl<|tN<|sF (qW rfl rfl<|df<|bX.mpr<|aC b) rfl<|tN<|tX (qW rfl rfl<|dt h) rfl<|u6 (qU (call_top (qo (Pm rfl) rfl) z) rfl)<|tN<|sx<|sW<|qo (Pm rfl)<|qG<|qx rfl (Pm rfl)<|rV _ _
 .obtain ⟨q,rfl⟩:∃A:Nat,q=A:=⟨q.toNat,(cf h).symm⟩;exact Q (A7 ..)<|Q (DT ..)<|VU c q b a (b6 w) (by lia) i<|bits_le.mpr U
theorem ahT (c)(q b:Int)(a)(w:22<=c)(d:b≠0)(G:b.natAbs<2^16000)(T:q.natAbs<2^30000) :
  (qy c).top 56 [.int q,.int b] [] [] a=Y (.tup [.int<|bg q b,.int<|a_ q b],a):=by
 rcases ny b 0 with h|h
 .obtain ⟨c,rfl⟩:∃i,c=i+1:=⟨c-1,(aH<|aa (by decide) w).symm⟩;have e:=VT c (-q) (-b) [] (gS w) (eQ h) (sM<|Q (cW ..) G)<|Q (cW ..) T
  rw[G5] at e
  exact rD c rfl rfl rfl rfl rfl (v:=.tup [.int<|bg q b,.int<|a_ q b]) (J (Q (Int.fmod_def ..)<|Q (Int.fmod_def ..)<|Q (G5 ..)<|Q (jh ..) Nc  : -(a_ (-q) <| -b)=a_ q b)<|tq<|sF (qW rfl rfl<|df d) rfl<|tN<|tX (qW rfl rfl<|dt h) rfl<|u6 (qU (call_top (qo (xW rfl)<|qG<|xW rfl) e) rfl)<|tN<|sx<|sW<|qo rfl<|qG<|xW rfl) rfl
 .exact VT c q b a (b6 w) (od.mpr ⟨h,d.symm⟩) (sM G) T
theorem rs1 (c h:Nat):cz c h 1=((h-c:Nat):Int):=by
 delta cz;refine Q (ql<|by decide)<|Q (Int.ediv_one ..) ?_
 by_cases G:(c:Int)<h
 .refine Q (ql G)<|(gG ..).trans (fq<|bl<|bq.mp G).symm
 .rw[qm G];exact (qn mY<|jL<|bA.mp<|bX.mp G).symm
theorem Fc (t:-65537<=i/\i<=65537):jY i=true:=by delta jY;refine Q (aA ..)<|Q (decide_eq_true_eq ..)<|Q (decide_eq_true_eq ..) ⟨aB (by decide) t.1,b7 t.2<|by decide⟩
theorem Qd {hp:List O}{a b:Nat}(w:a<=65536) (i:b<=65536):w8 hp (.tH a b 1)=Y (nats<|dm a<|b-a):=by
 have e:vk a b 1=b-a:=by delta vk;exact Q (rs1 a b) rfl
 have j:wZ a b 1=true:=by delta wZ jm qZ;refine Q (rs1 a b)<|Q e ?_;rw[Fc<|NR w,Fc<|NR i,Fc<|by decide,Fc<|NR<|aa (c7 b a) i,decide_eq_true<|show b-a<=65536 by exact aa (c7 _ _) i,ql<|by decide,Fc<|by lia,Bool.or_true];rfl
 refine (ax (ql j) ?_:(if wZ a b 1=true then Y (wD a b 1) else N)=_);delta wD nats;refine Q e<|Q (jf ..) ?_
 delta iO;exact Q (bk ..)<|Q (bk ..)<|qn Y<|dB λT J=>qn V.int<|show (a:Int)+(T:Nat)*1=((a+T:Nat):Int) from by refine Q (gK ..)<|Q (iB ..) rfl
theorem Xn {d:List O}{c:Nat}(w:c<=65536):w8 d (.tH 0 c 1)=Y (nats<|aq c):=by
 have:=Qd (hp:=d) (a:=0) (by decide) w;rw[gR,<-dk] at this
 exact this
section
variable {a b:Nat}
theorem IK (e:(ev g j).E M x st=Y (.int a,st1))(i:(ev g j).E M y st1=Y (.int b,st2))(w:a<=65536)(k:b<=65536):tK (ev g<|j+1) M (.bf .range [x,y]) st=Y (nats<|dm a<|b-a,N,st2):=(tP rfl<|uf (qo e<|qG i) rfl).trans<|Cy<|Qd w k
theorem vD (e:(ev orc j).E M x st=Y (.int b,st1))(w:b<=65536):tK (ev orc<|j+1) M (.bf .range [x]) st=Y (nats<|aq b,N,st1):=(tP rfl<|uf (qG e) rfl).trans<|Cy<|Xn w
theorem v_ {f:List V}(e:(ev g j).E M x st=Y (k,st1))(i:view st1.hp (rB k)=.lst f)(w:f.length<=65536):(ev g<|j+1).E M (.bf .len [x]) st=Y (.int f.length,st1):=uf (qG e)<|HO i w
end
theorem Jb {q:Int}{c h:Nat}(n:q=h\/q=(h:Int)-c) (G:h<c):place q c=Y h:=by
 have e:(if q<0 then q+c else q)=h:=by
  rcases n with rfl|rfl
  .refine Q (qm<|bX.mpr<|aC h) rfl
  .exact Q (ql<|Int.sub_neg_of_lt<|bq.mpr G)<|gG _ _
 delta place;exact Q e<|Q (ql ⟨aC h,bq.mpr G⟩) rfl
theorem uS {c:List O}{o:V}{f:List V}{q:Int}{k:Nat}{L:V}(e:view c o=.lst f) (n:q=k\/q=(k:Int)-f.length) (i:f[k]?=Y L) (w:f.length<=65536):sf c o (.int q)=Y L:=by refine ax (qn (λA=>N1 A<|.int q) e)<|(ql<|decide_eq_true w).trans<|Q (Jb n (aO.mp i).1) ?_;exact i
theorem ED {d:List O}{c h:Nat}{l:List V}{q:Int}{k:V}(e:d[c]?=Y (.list l)) (n:q=h\/q=(h:Int)-l.length) (G:h<l.length) (w:l.length<=65536):ub d (.ref c) (.int q) k=Y (d.set c<|.list<|l.set h k):=by have i:ub d (.ref c) (.int q) k=Oe d c (.int q) k d[c]?:=rfl;exact ax i<|Q e<|(ql<|decide_eq_true w).trans<|qM<|Jb n G
theorem Qn {q:Int}{c:Nat}(G:c<2^9000):aS q c=false:=by
 delta aS;dsimp only;rw[nC];refine .inl<|decide_eq_false ?_
 by_cases e:c=0
 .subst e;exact λG=>absurd G (by decide)
 .have T:c.log2<9000:=(Nat.log2_lt e).mpr G;refine Q (qm<|by simpa using e)<|Q (oO ..)<|cU.mpr<|jU T
theorem u1 {d:List O}(q:Int) (c:Nat) (G:0<c) (T:c<2^9000):sH d .Mod (.int q) (.int c)=Y (.int<|a_ q c):=qm<|not_or.mpr ⟨λe=>bw G<|da e,by refine Q (Qn T) ?_;decide⟩
theorem xd {d:List O}(q:Int) (c:Nat) (G:0<c) (T:c<2^9000):sH d .FloorDiv (.int q) (.int c)=Y (.int<|bg q c):=qm<|not_or.mpr ⟨λe=>bw G<|da e,by refine Q (Qn T) ?_;decide⟩
theorem P7 {hp:List O}{o:V}{l:List V}{h:Nat}(e:view hp o=.lst l) (w:l.length<=65536):FE hp o .none (.int h)=Y (.lst<|l.take h):=by
 have i:sliceBounds N (Y (h:Int)) N l.length=(((0:Nat):Int),((min h l.length:Nat):Int),1):=by simp only[sliceBounds,Option.getD_none,qm (bX.mpr<|aC h),show (1:Int)>0 from by decide,if_true];congr 2;exact (Int.max_eq_right<|Int.le_min.mpr ⟨aC _,aC _⟩).trans<|(Nat.le_total h l.length).elim (λU=>(Int.min_eq_left<|bA.mpr U).trans (qn _ (iy U)).symm) λU=>(Int.min_eq_right<|bA.mpr U).trans (qn _ (Nat.min_eq_right U)).symm
 have H:HJ l N (Y (h:Int))=l.take h:=by
  delta HJ;refine Q i<|Q (sliceRange_one ..)<|Q (gR ..) ?_
  have:=pick_run l.toArray 0<|min h l.length
  simp only[List.getElem?_toArray] at this
  refine ax this<|ax pN<|J (List.take_eq_take_min ..) rfl
 exact ax (J e rfl:FE hp o .none (.int h)=SY o N (Y (h:Int)) (.lst l))<|J H<|ql<|decide_eq_true w
theorem yh (c h:Nat)(w:au (c:Int)*h<=100000):sH hp .Pow (.int c) (.int h)=Y (.int ((c^h:Nat):Int)):=(H8 c h<|J (fc ..)<|bA.mpr w).trans<|vi (fb ..).symm
noncomputable def vu (q:Int)(c:Nat)(a:List Nat):List Nat:=a.take<|1+(a_ (bg q ((12^c:Nat):Int)) a.length).toNat
noncomputable def tI (a:List Nat):Int:=match a.getLast? with
 |Y c=>c|N=>-1
noncomputable def zt (q:Int):List Nat->List Int->List Nat->List Int
 |[]=>@λa J=>a
 |k::f=>@λa j=>zt q f (a++[tI<|vu q k j])<|vu q k j++[k]
theorem TQ {f:List Nat}(e:f.getLast?=Y x)(w:f.length<=65536):sf hp (.lst<|nats f) (.int <| -1)=Y (.int x):=by
 have G:0<f.length:=iz.mpr (by rintro rfl;exact Vm.nS e);refine uS (k:=f.length-1) rfl (.inr<|Q (rE ..)<|YI G) ?_<|(rE f).symm▸w
 refine Q (DH ..)<|J gg<|Q e ?_;rfl
def abY:List XS:=[.asg (.l 3)<|.rb (.l 3) (.C3 (.l 3) (.k .none)<|.bin .Add (.i 1)<|.bin .Mod (.bin .FloorDiv (.l 1)<|.bin .Pow (.i 12)<|.l 4)<|.bf .len [.l 3])<|.list [],.expr<|.mt .append (.l 2) [.rb (.l 3) (.sub (.l 3)<|.un .USub<|.i 1)<|.un .USub<|.i 1],.asg (.l 3)<|.bin .Add (.l 3)<|.list [.l 4]]
section
variable {orc:vA}{number:Int}
theorem abI {x2:Option V}(h:Nat)(w:h<=60)(f:List Nat)(i:f.length<=60) :
  (ev orc<|j+8).E [] (.rb (.l 3) (.C3 (.l 3) (.k .none)<|.bin .Add (.i 1)<|.bin .Mod (.bin .FloorDiv (.l 1)<|.bin .Pow (.i 12)<|.l 4)<|.bf .len [.l 3])<|.list []) ⟨[x0,Y<|.int number,x2,Y<|.lst<|nats f,Y<|.int h],hp⟩ =
   Y (.lst<|nats<|vu number h f,⟨[x0,Y<|.int number,x2,Y<|.lst<|nats f,Y<|.int h],hp⟩):=by
 have b:(nats f).length<=65536:=(rE f).symm▸aa i (by decide)
 by_cases e:f.length=0
 .obtain rfl:=cO.mp e;exact Q (show vu number h []=[] from pX)<|wB rfl (xy rfl b) rfl
 .skip
  have t:0<12^h/\12^h<2^9000:=⟨lh<|by decide,av (aX (by decide) w)<|by decide +kernel⟩;obtain ⟨T,n⟩:=dQ (eH (bg number ((12^h:Nat):Int))<|bq.mpr<|eM e);refine Q (by delta vu;exact Q n rfl:vu number h f=f.take (1+T))<|Q (show nats (f.take<|1+T)=(nats f).take (1+T) from ml ..)<|vC rfl ((xy rfl b).trans<|dt<|J ((rE f).symm) e)<|WT rfl rfl (qx rfl (qx (qx rfl (qx rfl rfl<|yh 12 h ?_)<|xd number _ t.1 t.2) (v_ rfl rfl b) ?_)<|(rV 1 (T:Int)).trans<|vi (iB 1 T).symm)<|P7 rfl b
  .refine (Q (by rfl:au 12=4) ?_:au 12*h<=100000);exact aa (aW 4 w)<|by decide
  .exact Q (rE ..)<|(u1 _ _ (eM e)<|av i<|by decide +kernel).trans<|vi n
theorem QK:∀(ks:List Nat)(ab:List Int)(p:List Nat)(x4:Option V),(∀k∈ks,k<=60)->ab.length+ks.length<=60->p.length+ks.length<=60->
  ∃x3 YX,uh (ev orc 59) [] (.l 4) N abY (nats ks) ⟨[x0,Y<|.int number,Y<|.ref 0,Y<|.lst<|nats p,x4],[.list<|iL ab]⟩=Y (.next,⟨[x0,Y<|.int number,Y<|.ref 0,x3,YX],[.list<|iL<|zt number ks ab p]⟩)
 |[]=>@λab p x4 J J J=>tG _ _ rfl
 |k::ks=>@λab p x4 hk h1 h2=>by
  rw[aQ] at h1 h2
  have hc:(vu number k p).length<=p.length:=nN ..
  refine sd (QK (x0:=x0) ks (ab++[tI<|vu number k p]) (vu number k p++[k]) (Y<|.int k) (λx hx=>hk x<|.tail _ hx) (Q (aG ..)<|aa (aN<|cV ..) h1)<|by refine Q (aG ..) ?_;show (vu number k p).length+1+ks.length<=60;lia) λx3 YX ih=>?_
  refine tG x3 YX ?_;have ec:=abI (orc:=orc) (number:=number) (j:=50) (x0:=x0) (x2:=Y<|.ref 0) (hp:=[.list<|iL ab]) k (hk k<|.head _) p<|ni h2
  have eg:zt number (k::ks) ab p=zt number ks (ab++[tI<|vu number k p]) (vu number k p++[k]):=rfl;refine Q eg ?_;generalize vu number k p=c at ec ih hc ⊢
  have hz:(nats c).length<=65536:=(rE c).symm▸by lia
  have el:(ev orc 57).E [] (.rb (.l 3) (.sub (.l 3)<|.un .USub<|.i 1)<|.un .USub<|.i 1) ⟨[x0,Y<|.int number,Y<|.ref 0,Y<|.lst<|nats c,Y<|.int k],[.list<|iL ab]⟩=Y (.int<|tI c,⟨[x0,Y<|.int number,Y<|.ref 0,Y<|.lst<|nats c,Y<|.int k],[.list<|iL ab]⟩):=by
   delta tI
   cases E4:c.getLast? with
   |none=>
    obtain rfl:=l9.mp E4;exact wB rfl (xy rfl hz) rfl
   |some x=>
    exact vC rfl ((xy rfl hz).trans<|dt<|by refine Q (rE ..) ?_;intro h;obtain rfl:=cO.mp h;exact Vm.nS E4)<|rm rfl rfl<|TQ E4<|by lia
  rw[JE] at ih
  rw[AY] at ih
  exact r_ rfl rfl (rf (qU ec rfl)<|rf (tT<|uK rfl rfl rfl (qG el)<|H9 rfl<|(r9 ab).symm▸by lia)<|rL<|qU (qx rfl (yB<|qG rfl)<|wM<|by refine Q (rE ..) ?_;show c.length+1<=65536;lia) rfl) ih
end
theorem JS (a)(n):∀f:List Int,qO (sU a<|n+1) (iL f)=Y (iL f)
 |[]=>rfl|d::f=>uR rfl<|JS a n f
theorem xG {a:List O}{l:List Int}(e:a[i]?=Y (.list<|iL l)):sU a (n+2) (.ref i)=Y (.lst<|iL l):=(qn (JU<|qO<|sU a<|n+1) e).trans<|qM<|JS a n l
theorem U_ (m n:Nat)(number:Int)(hp:List O)(hm:1<=m)(hn:n<=50):(qy m).top 211 [.int n,.int number] [] [] hp=Y (.lst<|iL<|zt number (aq n) [] [],hp):=by
 obtain ⟨m,rfl⟩:∃m',m=m'+1:=⟨m-1,(aH<|aa (ag _) hm).symm⟩;refine sd (QK (orc:=qy m) (number:=number) (x0:=Y<|.int n) (aq n) [] [] N (λk hk=>by have:=bF.mp hk;lia) (by refine Q (aU ..) ?_;show 0+n<=60;lia)<|by refine Q (aU ..) ?_;show 0+n<=60;lia) λx3 x4 hl=>?_
 refine rD m (t:=t27) rfl rfl rfl rfl rfl (hp':=[.list<|iL<|zt number (aq n) [] []]) (v:=.ref 0) (?_:we (qy m) [] Y7 ⟨[Y<|.int n,Y<|.int number,N,N,N],[]⟩=_)<|xG rfl
 exact ax ua<|qH (qU (sW rfl) rfl)
  (qH (v8 (vD rfl<|bJ hn) hl)<|tq<|sx rfl)
section
variable {i o2:CmpOp}
theorem Pn (e:(ev h j).E M x st=Y (v,st1))(k:(ev h j).E M y st1=Y (u,st2))(n:tW st2.hp i v u=Y true)(A:(ev h j).E M z st2=Y (w,st3))(H:tW st3.hp o2 u w=Y b):(ev h<|j+1).E M (.cmp x [i,o2] [y,z]) st=Y (.bool b,st3):=qE e<|qM (qE k<|qT n<|qE A<|qM H:CP (ev h j) M v [i,o2] [y,z] st1=Y (b,st3))
theorem afi (e:(ev h j).E M x st=Y (v,st1))(k:(ev h j).E M y st1=Y (u,st2))(n:tW st2.hp i v u=Y false):(ev h<|j+1).E M (.cmp x [i,o2] [y,z]) st=Y (.bool false,st2):=qE e<|qM (qE k<|qF n rfl:CP (ev h j) M v [i,o2] [y,z] st1=Y (false,st2))
end
theorem Ad (q b):tW hp .Gt (.int q) (.int b)=Y (decide<|b<q):=rfl
theorem Pe (a:Int):yg hp .abs [.int a]=Y (.int (a.natAbs:Int)):=vi<|if h:a<0 then (ql h).trans (fW<|bU h).symm else (qm h).trans (dP<|bX.mp h).symm
def Vz:X:=.or [.cmp (.i 0) [.LtE,.Lt] [.l 5,.l 1],.cmp (.l 1) [.Lt,.LtE] [.l 5,.i 0]]
def Ow:X:=.cmp (.bin .Mult (.i 2)<|.bf .abs [.l 5]) [.Gt] [.bf .abs [.l 1]]
def abX:List XS:=[.asg (.tup [.l 0,.l 5])<|.call (.k<|.con<|.ref 56) [.l 0,.l 1] [] [],.rb (.un .Not Vz) [.ret<|.list [.i 0]] [],.rb Ow [.asg (.tup [.l 0,.l 5])<|.tup [.bin .Add (.l 0)<|.i 1,.bin .Sub (.l 5)<|.l 1]] [],.expr<|.mt .append (.l 3) [.l 5]]
theorem Qg {q:Int}(U:b≠0):(0<b/\0<=a_ q b/\a_ q b<b)\/(b<0/\b<a_ q b/\a_ q b<=0):=by
 rcases o6 b 0 with h|h|h
 .refine .inr ⟨h,?_⟩;have w:=eH (-q)<|eQ h
  have T:=i5 (-q)<|eQ h
  rw[pA] at w T
  exact ⟨Int.lt_of_neg_lt_neg T,Int.nonpos_of_neg_nonneg w⟩
 .exact absurd h U
 .exact .inl ⟨h,eH q h,i5 q h⟩
theorem Qh {q:Int}(U:b≠0):(bg q b).natAbs<=q.natAbs:=by
 rcases iZ U with h|h
 .exact J (kY ..)<|Q (eS _<|mH<|bU h)<|J (cW q)<|mq _ _
 .exact Q (eS _<|bU h)<|mq _ _
theorem ZX {q:Int}(U:b≠0):(a_ q b).natAbs<b.natAbs:=by
 rcases Qg U with ⟨_,w,G⟩|⟨_,w,G⟩
 .exact j0 w G
 .exact J (cW ..)<|J (cW b)<|j0 (mH G)<|Int.neg_lt_neg w
section
variable {b:Int}(g:22<=m) (f:b≠0) (d:b.natAbs<2^16000)
include f
theorem Xe {a:Int}{h e T:Option V}:(ev orc 57).E [] Vz ⟨[x0,Y<|.int b,h,e,T,Y<|.int<|a_ a b],hp⟩=Y (.bool true,⟨[x0,Y<|.int b,h,e,T,Y<|.int<|a_ a b],hp⟩):=by
 rcases Qg f with ⟨G,w,U⟩|⟨G,w,U⟩
 .exact aff (Pn rfl rfl (dt w) rfl<|dt U) rfl
 .refine afe ?_<|Pn rfl rfl (dt w) rfl<|dt U
  by_cases j:0<=a_ a b
  .exact Pn rfl rfl (dt j) rfl<|df<|Np w
  .exact afi rfl rfl<|df j
include d
theorem LR {a:Int}{h e T:Option V}:(ev orc 58).E [] Ow ⟨[x0,Y<|.int b,h,e,T,Y<|.int<|a_ a b],hp⟩=Y (.bool<|decide<|(b.natAbs:Int)<2*((a_ a b).natAbs:Int),⟨[x0,Y<|.int b,h,e,T,Y<|.int<|a_ a b],hp⟩):=qW (qx rfl (uf (qG rfl)<|Pe _)<|xU 2 _ 2 16000 (by decide) (eG (ZX f) d) (by decide)<|by decide) (uf (qG rfl)<|Pe _)<|Ad _ _
include g
theorem aaw {x2:Option V}{h:Nat}(n:h<=2^30000)(a:List Nat):∀(c:Int)(acc:List Int)(o e:Option V),c.natAbs+a.length<h->acc.length+a.length<=60->
  ∃U q,uh (ev (qy m) 59) [] (.l 4) N abX (nats a) ⟨[Y<|.int c,Y<|.int b,x2,Y<|.ref 0,o,e],[.list<|iL acc]⟩ =
   Y (.next,⟨[Y<|.int (Mp.xH b a.length c).2,Y<|.int b,x2,Y<|.ref 0,U,q],[.list<|iL<|acc++(Mp.xH b a.length c).1]⟩):=by
 induction a with
 |nil=>exact λc acc o e W W=>tG o e<|(Q (bh ..) rfl:_=Y (Fl.next,(⟨[Y<|.int c,Y<|.int b,x2,Y<|.ref 0,o,e],[.list<|iL<|acc++[]]⟩:St)))
 |cons t a p=>
  intro c acc o e u v;rw[aQ] at u v
  have k:c.natAbs<2^30000:=ai (av (aK _ _) u) n;have hi:=λj=>ahT m c b j g f d k
  have s:(Mp.dig b c).1.natAbs+a.length<h:=by
   clear hi k n d;delta Mp.dig
   split
   .exact av (a9 (aa (dX _ 1)<|a9 (Qh f) 1) _)<|Q (b9 ..)<|Q (bx 1 ..) u
   .exact av (a9 (Qh f) _)<|fU u
  refine sd (p (Mp.dig b c).1 (acc++[(Mp.dig b c).2]) (Y<|.int t) (Y<|.int (Mp.dig b c).2) s<|by refine Q aG ?_;rw[b9,bx [_].length];exact v) λU q p=>?_
  refine tG U q<|Q (rfl:Mp.xH b (t::a).length c=((Mp.dig b c).2::(Mp.xH b a.length (Mp.dig b c).1).1,(Mp.xH b a.length (Mp.dig b c).1).2)) ?_
  rw[a8] at p
  have w:(ev (qy m) 59).S [] (.rb Ow [.asg (.tup [.l 0,.l 5])<|.tup [.bin .Add (.l 0)<|.i 1,.bin .Sub (.l 5)<|.l 1]] []) ⟨[Y<|.int<|bg c b,Y<|.int b,x2,Y<|.ref 0,Y<|.int t,Y<|.int<|a_ c b],[.list<|iL acc]⟩ =
    Y (.next,⟨[Y<|.int (Mp.dig b c).1,Y<|.int b,x2,Y<|.ref 0,Y<|.int t,Y<|.int (Mp.dig b c).2],[.list<|iL acc]⟩):=by
   delta Mp.dig
   by_cases T:(b.natAbs:Int)<2*((a_ c b).natAbs:Int)
   .exact Q (ql T)<|tX (LR f d) (dt T)<|rL<|qU (sW<|qo (qx rfl rfl<|rV _ _)<|qG<|qx rfl rfl<|ui _ _) rfl
   .exact Q (qm T)<|sF (LR f d) (df T) rfl
  exact r_ rfl rfl (rf (qU (call_top rfl<|hi _) rfl)<|rf (z0<|afg (Xe f) rfl)<|rf w<|rL<|tT<|uK rfl rfl rfl (qG rfl)<|H9 rfl<|J ((r9 acc).symm)<|aa (aa (aK _ _) v)<|by decide)<|J (JE acc [(Mp.dig b c).2]) p
end
theorem Ff {c:Nat}(w:c<=2^30000)(h)(q j:Int)(L)(a)(H:23<=h)(G:j≠0)(I:j.natAbs<2^16000)(U:q.natAbs+L<c)(k:L<=60) :
  (qy h).top 223 [.int q,.int j,.int L] [] [] a=Y (.lst<|iL<|if (Mp.xH j L q).2=0 then (Mp.xH j L q).1 else [0],a):=by
 obtain ⟨h,rfl⟩:∃T,h=T+1:=⟨h-1,(aH<|aa (by decide) H).symm⟩;refine sd (aaw (aJ H) G I (x2:=Y<|.int L) w (aq L) q [] N N (Q (aU ..) U)<|Q (aU ..)<|J ((bZ L).symm) k) λo e p=>?_
 rw[aU,dY] at p
 clear w I U G H;generalize Mp.xH j L q=F at p ⊢
 have s:(ev (qy h) 59).E [] (.rb (.cmp (.l 0) [.Eq] [.i 0]) (.l 3)<|.list [.i 0]) ⟨[Y<|.int F.2,Y<|.int j,Y<|.int L,Y<|.ref 0,o,e],[.list<|iL F.1]⟩=Y (if F.2=0 then .ref 0 else .lst [.int 0],⟨[Y<|.int F.2,Y<|.int j,Y<|.int L,Y<|.ref 0,o,e],[.list<|iL F.1]⟩):=by
  by_cases n:F.2=0
  .exact Q (ql n)<|vC (qW rfl rfl<|Ae _ _) (dt n) rfl
  .exact Q (qm n)<|wB (qW rfl rfl<|Ae _ _) (df n) rfl
 refine rD h rfl rfl rfl rfl rfl (hp':=[.list<|iL F.1]) (v:=if F.2=0 then .ref 0 else .lst [.int 0]) ?_ ?_
 .exact (ax ua<|qH (qU (xp rfl) rfl)<|qH (v8 (vD rfl<|aa k<|by decide) p)<|tq<|sx s:we (qy h) [] Y5 ⟨[Y<|.int q,Y<|.int j,Y<|.int L,N,N,N],[]⟩=_)
 .by_cases n:F.2=0
  .exact Q (ql n)<|Q (ql n)<|xG rfl
  .exact Q (qm n)<|Q (qm n) rfl
noncomputable def bL (a:List Bool):List V:=a.map V.bool
theorem Fs (a):(bL a).length=a.length:=ao ..
theorem UW (a b):tW hp .NotEq (.int a) (.int b)=Y (decide<|a≠b):=by show Y (!decide (a=b))=_;refine Q (decide_not ..) rfl
theorem ae0 (T G):tW hp .NotEq (.bool T) (.bool G)=Y (T != G):=by cases T<;>cases G<;>rfl
theorem Mz:∀s:List Bool,((dm 1<|s.length-1).filter λc=>s.getD c false != s.getD (c-1) false).length=Mp.chg s
 |[]=>rfl|[a]=>rfl
 |a::b::l=>by
  refine (?_:((dm 1<|l.length+1).filter _).length=Mp.ne2 a b+Mp.chg (b::l));refine J (Mz<|b::l)<|Q (fY ..)<|Q (dK ..)<|Q (show 1+1=2 from rfl)<|Q (ax jf<|Q (jf ..)<|Q (bk ..)<|dB λh W=>by show 2+h=1+h+1;rw[bx 1,bx 2]:dm 2 l.length=(dm 1 l.length).map (·+1))<|Q (ll ..) ?_
  have i:(dm 1 l.length).filter ((λc=>(a::b::l).getD c false != (a::b::l).getD (c-1) false)∘(·+1))=(dm 1 l.length).filter λc=>(b::l).getD c false != (b::l).getD (c-1) false:=
   kl λc d=>by obtain ⟨c,rfl⟩:∃T,c=T+1:=⟨c-1,(aH (ki.mp d).1).symm⟩;rfl
  refine Q i ?_;show (if (b != a)=true then 1::_ else _).length=_;delta Mp.ne2
  cases a<;>cases b
  .exact (ao ..).trans (bZ _).symm
  .exact (qn pW<|ao ..).trans<|bx _ 1
  .exact (qn pW<|ao ..).trans<|bx _ 1
  .exact (ao ..).trans (bZ _).symm
theorem BZ (a)(c)(f):sU a (c+2) (.lst<|iL f)=Y (.lst<|iL f):=qM<|JS a c f
theorem Fq (c)(a:List Int)(f)(w:1<=c)(i:a.length<=60):(qy c).top 228 [.lst<|iL a] [] [] f=Y (.int (Mp.chg<|Mp.ux a:Nat),f):=by
 obtain ⟨c,rfl⟩:∃h,c=h+1:=⟨c-1,(aH w).symm⟩;have b:(Mp.ux a).length<=60:=by delta Mp.ux;exact Q (ao ..)<|aa (cE ..) i
 have e:(ev (qy c) 59).E [0] (.comp (.cmp (.l 0) [.Gt] [.i 0]) [.l 0] [.l 0] [[.cmp (.l 0) [.NotEq] [.i 0]]] 1 0) ⟨[Y<|.lst<|iL a],[.cell N]⟩=Y (.lst<|bL<|Mp.ux a,⟨[Y<|.lst<|iL a],[.cell N]⟩):=by delta bL Mp.ux;exact Q (bk ..)<|xO (λx=>decide<|x≠0) rfl (λq W=>qW rfl rfl<|UW _ _) (λq W W=>qW rfl rfl<|Ad _ _)<|aa i<|by decide
 generalize Mp.ux a=s at *
 have T:(bL s).length<=65536:=J ((Fs s).symm)<|aa b<|by decide
 have d:∀u,u<s.length->(bL s)[u]?=Y (.bool<|s.getD u false):=λu H=>by delta bL;refine ax aZ<|Q (aD H)<|Q cq<|Q (aD H) ?_;rfl
 have j:(ev (qy c) 58).E [0] (.comp (.i 1) [.l 0] [.bf .range [.i 1,.bf .len [.cell 0]]] [[.cmp (.sub (.cell 0)<|.l 0) [.NotEq] [.sub (.cell 0)<|.bin .Sub (.l 0)<|.i 1]]] 1 0) ⟨[Y<|.lst<|iL a],[.cell<|Y<|.lst<|bL s]⟩ =
   Y (.lst<|((dm 1<|s.length-1).filter λu=>s.getD u false != s.getD (u-1) false).map λW=>V.int 1,⟨[Y<|.lst<|iL a],[.cell<|Y<|.lst<|bL s]⟩):=by
  refine xO (λu=>s.getD u false != s.getD (u-1) false) (IK rfl ((v_ (qA rfl rfl) rfl T).trans<|qn (λz:Nat=>Y (V.int z,(_:St)))<|Fs s) (by decide)<|aa b<|by decide) (λu H=>?_) (λW W W=>rfl)<|Q (ed ..)<|aa (c7 _ 1)<|aa b<|by decide
  obtain ⟨G,g⟩:=ki.mp H;have k:u<s.length:=kT λU=>absurd g<|cU.mpr<|aa (aP (fh U 1) 1)<|aN<|cK G
  exact qW (rm (qA rfl rfl) rfl<|vU (d u k) T) (rm (qA rfl rfl) (qx rfl rfl<|(ui (u:Int) 1).trans<|vi (jG G).symm)<|vU (d (u-1)<|av (c7 u 1) k) T)<|ae0 _ _
 refine rD c (t:=t30) rfl rfl rfl rfl (CF<|BZ [] 7 a) (ax ua<|qH (qU e rfl)<|tq<|sx<|(v_ j rfl<|Q (ao ..)<|aa (cE ..)<|Q (ed ..)<|aa (c7 _ 1)<|aa b<|by decide).trans<|Q (ao ..)<|Q (Mz ..) rfl:we (qy c) [0] Y2 ⟨[Y<|.lst<|iL a],[.cell N]⟩=_) rfl
section
theorem zv {M:List Nat}{d:X}{f u st3:St}{h:V}(q:(ev g j).E M d f=Y (o,st1))(t:(ev g j).E M y st1=Y (h,u))(h3:sf u.hp o h=Y a)(z:(ev g j).E M e u=Y (b,st3))(h5:xN op a b=Y v)(h6:ub st3.hp o h v=Y hp') :
  (ev g<|j+1).S M (.uC d y op e) f=Y (.next,⟨st3.loc,hp'⟩):=qE q<|qE t<|qV h3<|qE z<|qV h5<|qM h6
theorem rY {a:List O}{d:Nat}{f:List V}(e:a[d]?=Y (.list f)):view a (.ref d)=.lst f:=qn (Ek d) e
theorem adk {a:List O}:(aq 7).map (λn:Nat=>w8 a<|.tH ((n:Int)-1) (-1) <| -1)=(aq 7).map λn=>Y<|nats (aq n).reverse:=rfl
theorem ZS {a:List O}{d:Nat}(b:d<7):w8 a (.tH ((d:Int)-1) (-1) <| -1)=Y (nats (aq d).reverse):=List.map_inj_left.mp adk d<|bF.mpr b
open Mp (LS lst up)
noncomputable def uT (d:Nat)(s:LS):List V:=(aq d).map λi=>V.tup [.int<|s.U i,.int<|s.L i]
noncomputable def Ao (d:Nat)(s:LS):List V:=(aq d).map λi=>V.int<|s.no i
noncomputable def ud (a:LS):List V:=[.int a.a,.int a.b,.int a.c]
theorem tB {o:Type}(b:Nat->o){d h:Nat}(a:h<d):((aq d).map b)[h]?=Y (b h):=by refine Q aZ<|Q (fy a) ?_;rfl
theorem sQ {o:Type}(b:Nat->o)(d):((aq d).map b).length=d:=by refine Q (ao ..)<|Q (aU ..) rfl
theorem Qe {o:Type}{b g:Nat->o}{d h:Nat}(j:∀i,i<d->i≠h->g i=b i):((aq d).map b).set h (g h)=(aq d).map g:=by
 refine eu λi=>?_
 by_cases a:i<d
 .refine Q (tB g a) ?_
  by_cases e:h=i
  .refine Q e ?_;clear e;refine ax (bu<|Q (sQ ..) a) rfl
  .refine Q (aV e)<|Q (tB b a)<|Q (j i a<|fJ e) rfl
 .refine ax (b_<|by refine Q (cN ..)<|Q (sQ ..) ?_;lia)<|Q (b_<|by refine Q (sQ ..) ?_;lia) rfl
structure zx (n:Nat) (s:LS) (x:V) (hp:List O) (c:Nat):Prop where
 x0:hp[0]?=some (.cell<|some x)
 p1:hp[1]?=some (.list<|uT n s)
 p2:hp[2]?=some (.list<|Ao n s)
 p3:hp[c]?=some (.list<|ud s)
 c3:3<=c
def Bd (d:Nat)(a:LS):Prop:=∀i,(a.U i).natAbs<2^d/\(a.L i).natAbs<2^d
theorem KH {a:List O}{f:List V}(e:view a (rB o)=.lst f)(y:f.length<=65536):yg a .list [o]=Y (.lst f):=(qn TB e:_).trans<|ql<|decide_eq_true y
noncomputable abbrev uc (o:V)(a f:List V)(d:Nat)(y h e b q g:Option V):List<|Option V:=[Y o,Y<|.lst a,Y<|.lst f,Y<|.ref 1,Y<|.ref 2,Y<|.ref d,y,h,e,b,q,g]
def abM:XS:=.asg (.l 5)<|.new<|.list [.bin .Add (.sub (.l 5)<|.i 0)<|.i 1,.bin .Add (.sub (.l 5)<|.i 1)<|.i 1,.bin .Sub (.sub (.l 5)<|.i 2)<|.i 1]
def YK:List XS:=[.uC (.l 5) (.i 2) .Add<|.i 1,.uC (.l 4) (.sub (.l 1)<|.l 7) .Add<|.rb (.cmp (.sub (.l 2)<|.l 7) [.NotEq] [.i 0]) (.i 1)<|.i 0]
def ahL:XS:=.wj (.l 3) (.sub (.l 1)<|.l 7)<|.tup [.bin .Sub (.bin .Mult (.l 10)<|.l 8)<|.bin .Mult (.bin .Mult (.bin .Pow (.sub (.l 2)<|.l 7)<|.i 2)<|.l 9)<|.l 11,.bin .Mult (.l 11)<|.l 8]
def ZY:List XS:=[.uC (.l 5) (.rb (.cmp (.bin .Mult (.l 8)<|.l 9) [.Gt] [.i 0]) (.i 0)<|.i 1) .Add<|.i 1,.asg (.tup [.l 10,.l 11])<|.sub (.l 3)<|.sub (.l 1)<|.l 7,.rb (.cmp (.sub (.l 2)<|.l 7) [.NotEq] [.i 0]) [ahL] []]
def RN:List XS:=[.asg (.tup [.l 6,.tup [.l 8,.l 9]])<|.tup [.bf .list [.l 5],.sub (.l 3)<|.l 7],.rb (.cmp (.sub (.l 4)<|.l 7) [.Gt] [.i 0]) [abM] [.rb (.cmp (.l 8) [.Eq] [.i 0]) YK ZY]]
section
variable {A T:List V}{G w:Nat->Int}(hA:∀i,i<n->A[i]?=Y (V.int<|G i)) (hT:∀i,i<n->T[i]?=Y (V.int<|w i)) (JQ:A.length<=60) (H:T.length<=60)
theorem n6 (z:n<=50):n<=65536:=aa z (by decide)
section
variable (U:n<=50) (I:zx n s x hp c)
include I
include U in
theorem aeu {t:Nat}(a:t<n):sf hp (.ref 1) (.int t)=Y (.tup [.int<|s.U t,.int<|s.L t]):=uS (rY I.p1) (.inl rfl) (tB _ a) (by delta uT;exact Q (sQ ..)<|n6 U)
include U in
theorem OO {t:Nat}(a:t<n):sf hp (.ref 2) (.int t)=Y (.int<|s.no t):=uS (rY I.p2) (.inl rfl) (tB _ a) (by delta Ao;exact Q (sQ ..)<|n6 U)
theorem HV {q:Int}{t:Nat}{a:V}(e:q=t) (j:(ud s)[t]?=Y a):sf hp (.ref c) (.int q)=Y a:=uS (rY I.p3) (.inl e) j<|show 3<=65536 by decide
omit I in
theorem DJ (e:hp[j]?=Y o):j<hp.length:=(aO.mp e).1
theorem Tc (f:0<s.no k):(ev orc 58).S [0] abM ⟨uc own A T c (Y<|.lst<|ud s) (Y<|.int k) (Y<|.int<|s.U k) (Y<|.int<|s.L k) a d,hp⟩ =
  Y (.next,⟨uc own A T hp.length (Y<|.lst<|ud s) (Y<|.int k) (Y<|.int<|s.U k) (Y<|.int<|s.L k) a d,hp++[.list<|ud<|lst G w k s]⟩)/\zx n (lst G w k s) x (hp++[.list<|ud<|lst G w k s]) hp.length:=by
 have e:lst G w k s={ s with a:=s.a+1,b:=s.b+1,c:=s.c-1 }:=ql f;have g:∀{h:Nat}{j t:O},hp[h]?=Y j->(hp++[t])[h]?=Y j:=λ{h j t} o=>(bC<|DJ o).trans o
 refine ⟨?_,?_⟩
 .exact Q e<|qU (xp<|qM<|qo (qx (rm rfl rfl<|HV I rfl rfl) rfl<|rV _ _)<|qo (qx (rm rfl rfl<|HV I rfl rfl) rfl<|rV _ _)<|qG<|qx (rm rfl rfl<|HV I rfl rfl) rfl<|ui _ _) rfl
 .exact Q e ⟨g I.x0,g I.p1,g I.p2,Q (vd ..) rfl,ai (bW 2)<|oT<|DJ I.p2⟩
end
include hT H in
theorem Vv (a:k<n){u:List O}:(ev orc<|j+2).E [0] (.sub (.l 2)<|.l 7) ⟨uc own A T c' t' (Y<|.int k) u' l' a' d',u⟩=Y (.int<|w k,⟨uc own A T c' t' (Y<|.int k) u' l' a' d',u⟩):=rm rfl rfl<|vU (hT k a)<|aa H<|by decide
include hA JQ in
theorem Pg (a:k<n){u:List O}:(ev orc<|j+2).E [0] (.sub (.l 1)<|.l 7) ⟨uc own A T c' t' (Y<|.int k) u' l' a' d',u⟩=Y (.int<|G k,⟨uc own A T c' t' (Y<|.int k) u' l' a' d',u⟩):=rm rfl rfl<|vU (hA k a)<|aa JQ<|by decide
include hT H in
theorem Ep (a:k<n){u:List O}:(ev orc<|j+3).E [0] (.cmp (.sub (.l 2)<|.l 7) [.NotEq] [.i 0]) ⟨uc own A T c' t' (Y<|.int k) u' l' a' d',u⟩=Y (.bool<|decide<|w k≠0,⟨uc own A T c' t' (Y<|.int k) u' l' a' d',u⟩):=qW (Vv hT H a) rfl<|UW _ _
section
variable (U:n<=50) (I:zx n s x hp c) (hk:k<n) (Bq:p<n) (L:G k=(p:Int)\/G k=(p:Int)-(n:Int)) (GV:w k≠0->G k=(p:Int))
include U I
theorem Ks {i:Int}{t:Nat}{v:Int}{s':LS}(e:i=t) (j:(ud s)[t]?=Y (.int v)) (o:(ud s).set t (.int<|v+1)=ud s') (z:s'.U=s.U) (a:s'.L=s.L) (d:s'.no=s.no) :
  sf hp (.ref c) (.int i)=Y (.int v)/\ub hp (.ref c) (.int i) (.int<|v+1)=Y (hp.set c<|.list<|ud s')/\zx n s' x (hp.set c<|.list<|ud s') c:=by
 have q:=I.c3;refine ri (HV I e j) ?_ ?_
 .exact J o<|ED I.p3 (.inl e) (aO.mp j).1<|show 3<=65536 by decide
 .exact ⟨(aV<|by lia).trans I.x0,(aV<|by lia).trans<|by delta uT;exact Q z<|Q a I.p1,(aV<|bw q).trans<|by delta Ao;exact Q d I.p2,bu<|DJ I.p3,q⟩
include Bq L
theorem adS {s':LS}(f:s'.no p=s.no p+e)(d:∀i,i<n->i≠p->s'.no i=s.no i)(j:s'.U=s.U)(o:s'.L=s.L)(z:ud s'=ud s) :
  sf hp (.ref 2) (.int<|G k)=Y (.int<|s.no p)/\ub hp (.ref 2) (.int<|G k) (.int<|s.no p+e)=Y (hp.set 2<|.list<|Ao n s')/\zx n s' x (hp.set 2<|.list<|Ao n s') c:=by
 have hl:(Ao n s).length=n:=sQ _ n;refine ri (uS (rY I.p2) (hl.symm▸L) (tB _ Bq)<|hl.symm▸n6 U) ?_ ?_
 .exact J (J f (Qe (g:=λi=>V.int<|s'.no i) λi a h=>by refine Q (d i a h) rfl):(Ao n s).set p (.int<|s.no p+e)=Ao n s')<|ED I.p2 (hl.symm▸L) (hl.symm▸Bq)<|hl.symm▸n6 U
 .exact ⟨(aV<|by decide).trans I.x0,(aV<|by decide).trans<|by delta uT;exact Q j<|Q o I.p1,bu<|DJ I.p2,(aV<|cJ I.c3).trans<|Q z I.p3,I.c3⟩
theorem ado {s':LS}(d:∀i,i<n->i≠p->s'.U i=s.U i/\s'.L i=s.L i)(e:s'.no=s.no)(j:ud s'=ud s) :
  sf hp (.ref 1) (.int<|G k)=Y (.tup [.int<|s.U p,.int<|s.L p])/\ub hp (.ref 1) (.int<|G k) (.tup [.int<|s'.U p,.int<|s'.L p])=Y (hp.set 1<|.list<|uT n s')/\zx n s' x (hp.set 1<|.list<|uT n s') c:=by
 have o:=I.c3;have hl:(uT n s).length=n:=sQ _ n;have z:(uT n s).set p (.tup [.int<|s'.U p,.int<|s'.L p])=uT n s':=Qe (g:=λi=>V.tup [.int<|s'.U i,.int<|s'.L i]) λi a f=>by refine Q ((d i a f).1)<|Q ((d i a f).2) rfl
 refine ri (uS (rY I.p1) (hl.symm▸L) (tB _ Bq)<|hl.symm▸n6 U) ?_ ?_
 .exact J z<|ED I.p1 (hl.symm▸L) (hl.symm▸Bq)<|hl.symm▸n6 U
 .exact ⟨(aV<|by decide).trans I.x0,bu<|DJ I.p1,(aV<|by decide).trans<|by delta Ao;exact Q e I.p2,(aV<|by lia).trans<|Q j I.p3,o⟩
include hk GV hA hT JQ H
theorem Sk (b:¬0<s.no k)(e:s.U k=0):∃g,rQ (ev orc 57) [0] YK ⟨uc own A T c told (Y<|.int k) (Y<|.int<|s.U k) (Y<|.int<|s.L k) h f,hp⟩ =
  Y (.next,⟨uc own A T c told (Y<|.int k) (Y<|.int<|s.U k) (Y<|.int<|s.L k) h f,g⟩)/\zx n (lst G w k s) x g c:=by
 refine qJ (Ks U I (i:=2) (s':={ s with c:=s.c+1 }) rfl rfl rfl rfl rfl rfl) λj o q=>?_
 have z:lst G w k s={ s with c:=s.c+1,no:=if w k=0 then s.no else up s.no (G k).toNat (s.no (G k).toNat+1) }:=(qm b).trans<|ql e
 have t:(lst G w k s).no p=s.no p+(if w k≠0 then 1 else 0):=by
  refine Q z ?_
  by_cases u:w k=0
  .exact Q (ql u)<|Q (qm λv=>v u)<|(dJ _).symm
  .exact Q (qm u)<|Q (ql u)<|Q (GV u)<|ql rfl
 obtain ⟨f1,f2,I2⟩:=adS U q Bq L t (λi y h2=>by
  refine Q z ?_
  by_cases u:w k=0
  .refine Q (ql u) rfl
  .exact Q (qm u)<|Q (GV u)<|qm h2) (by refine Q z rfl) (by refine Q z rfl) (Q z rfl)
 have a:∀d,(ev orc 56).E [0] (.rb (.cmp (.sub (.l 2)<|.l 7) [.NotEq] [.i 0]) (.i 1)<|.i 0) ⟨uc own A T c told (Y<|.int k) (Y<|.int<|s.U k) (Y<|.int<|s.L k) h f,d⟩=Y (.int<|if w k≠0 then 1 else 0,⟨uc own A T c told (Y<|.int k) (Y<|.int<|s.U k) (Y<|.int<|s.L k) h f,d⟩):=λd=>by
  by_cases u:w k=0
  .exact Q (qm λv=>v u)<|wB (Ep hT H hk) (df λv=>v u) rfl
  .exact Q (ql u)<|vC (Ep hT H hk) (dt u) rfl
 exact qp _ (rf (zv rfl rfl j rfl (CN _ _) o)<|rL<|zv rfl (Pg hA JQ hk) f1 (a _) (CN _ _) f2) I2
end
theorem pw2 {b:List O}{a:Int}(d:a.natAbs<2^2):sH b .Pow (.int a) (.int 2)=Y (.int<|a*a):=(H8 a 2 (by
 have y:au a<=2:=sM d;lia)).trans<|vi<|by refine Q (eh ..)<|Q (eh ..)<|Q (gh ..)<|Q (dO ..) rfl
theorem y_ {q a:Int}{d:Nat}(b:q.natAbs<2^d)(e:a.natAbs<2^j):(q*a).natAbs<2^(d+j):=Q (iY ..)<|Q (cG ..)<|Nat.mul_lt_mul_of_lt_of_lt b e
theorem HE {q:Int}(a:q.natAbs<2^2):(q*q).natAbs<2^4:=y_ a a
theorem sub_lt {q a:Int}{d:Nat}(b:q.natAbs<2^d)(e:a.natAbs<2^d):(q-a).natAbs<2^(d+1):=Q (iI ..)<|Q (jS ..)<|av (dW q a)<|Nat.add_lt_add b e
theorem Bd.mono {a:LS}(y:b<=b')(z:Bd b a):Bd b' a:=λi=>⟨ai (z i).1<|aX (by decide) y,ai (z i).2<|aX (by decide) y⟩
theorem acM (v:Bd b s)(a:(w k).natAbs<2^2):Bd (2*b+5)<|lst G w k s:=by
 have B':=v.mono (b':=2*b+5) (by lia);intro i;delta lst
 split
 .exact B' i
 .split
  .exact B' i
  .show ((if w k=0 then s.U else _) i).natAbs<_/\((if w k=0 then s.L else _) i).natAbs<_
   by_cases e:w k=0
   .exact Q (ql e)<|Q (ql e)<|B' i
   .refine Q (qm e)<|Q (qm e) ?_
    delta up
    by_cases j:i=(G k).toNat
    .refine Q (ql j)<|Q (ql j) ?_
     have m:=λ{q:Int}{d z:Nat}(f:q.natAbs<2^d) (y:d<=z)=>ai f<|aX (show 0<2 by decide) y
     exact ⟨sub_lt (m (y_ (v (G k).toNat).1 (v k).1)<|by lia)<|m (y_ (y_ (HE a) (v k).2) (v (G k).toNat).2)<|by lia,m (y_ (v (G k).toNat).2 (v k).1)<|by lia⟩
    .exact Q (qm j)<|Q (qm j)<|B' i
section
variable (U:n<=50) (I:zx n s x hp c) (hk:k<n) (Bq:p<n) (L:G k=(p:Int)\/G k=(p:Int)-(n:Int)) (GV:w k≠0->G k=(p:Int))
include U I Bq L hk GV hA hT JQ H
theorem S6 (f:¬0<s.no k)(j:s.U k≠0)(sX:Bd b s)(o:b<=20000)(t:(w k).natAbs<2^2):∃u v d',rQ (ev orc 57) [0] ZY ⟨uc own A T c told (Y<|.int k) (Y<|.int<|s.U k) (Y<|.int<|s.L k) a d,hp⟩ =
  Y (.next,⟨uc own A T c told (Y<|.int k) (Y<|.int<|s.U k) (Y<|.int<|s.L k) v d',u⟩)/\zx n (lst G w k s) x u c:=by
 have e:lst G w k s=_:=(qm f).trans<|qm j
 have y:∃zO,(ev orc 57).S [0] (.uC (.l 5) (.rb (.cmp (.bin .Mult (.l 8)<|.l 9) [.Gt] [.i 0]) (.i 0)<|.i 1) .Add<|.i 1) ⟨uc own A T c told (Y<|.int k) (Y<|.int<|s.U k) (Y<|.int<|s.L k) a d,hp⟩ =
   Y (.next,⟨uc own A T c told (Y<|.int k) (Y<|.int<|s.U k) (Y<|.int<|s.L k) a d,zO⟩)/\zx n { s with a:=if 0<s.U k*s.L k then s.a+1 else s.a,b:=if 0<s.U k*s.L k then s.b else s.b+1 } x zO c:=by
  have ec:(ev orc 55).E [0] (.cmp (.bin .Mult (.l 8)<|.l 9) [.Gt] [.i 0]) ⟨uc own A T c told (Y<|.int k) (Y<|.int<|s.U k) (Y<|.int<|s.L k) a d,hp⟩=Y (.bool<|decide<|0<s.U k*s.L k,⟨uc own A T c told (Y<|.int k) (Y<|.int<|s.U k) (Y<|.int<|s.L k) a d,hp⟩):=qW (qx rfl rfl<|xU _ _ b b (sX k).1 (sX k).2 (by lia)<|by lia) rfl<|Ad _ _
  by_cases q:0<s.U k*s.L k
  .refine Q (ql q)<|Q (ql q) ?_
   obtain ⟨e1,e2,I1⟩:=Ks U I (i:=0) (s':={ s with a:=s.a+1 }) rfl rfl rfl rfl rfl rfl;exact qp _ (zv (st3:=⟨uc own A T c told (Y<|.int k) (Y<|.int<|s.U k) (Y<|.int<|s.L k) a d,hp⟩) rfl (vC ec (dt q) rfl) e1 rfl (CN _ _) e2) I1
  .refine Q (qm q)<|Q (qm q) ?_
   obtain ⟨e1,e2,I1⟩:=Ks U I (i:=1) (s':={ s with b:=s.b+1 }) rfl rfl rfl rfl rfl rfl;exact qp _ (zv (st3:=⟨uc own A T c told (Y<|.int k) (Y<|.int<|s.U k) (Y<|.int<|s.L k) a d,hp⟩) rfl (wB ec (df q) rfl) e1 rfl (CN _ _) e2) I1
 refine qt y λzO y I1=>?_
 obtain ⟨f1,f2,I2⟩:=ado U I1 Bq L (s':=lst G w k s) (λi g1 h=>by
  refine Q e ?_;show (if w k=0 then s.U else _) i=_/\(if w k=0 then s.L else _) i=_
  by_cases q:w k=0
  .exact Q (ql q)<|Q (ql q) ⟨rfl,rfl⟩
  .exact Q (qm q)<|Q (qm q)<|Q (GV q) ⟨qm h,qm h⟩) (by refine Q e rfl) (Q e rfl)
 have h2:(ev orc 57).S [0] (.asg (.tup [.l 10,.l 11])<|.sub (.l 3)<|.sub (.l 1)<|.l 7) ⟨uc own A T c told (Y<|.int k) (Y<|.int<|s.U k) (Y<|.int<|s.L k) a d,zO⟩ =
   Y (.next,⟨uc own A T c told (Y<|.int k) (Y<|.int<|s.U k) (Y<|.int<|s.L k) (Y<|.int<|s.U p)<|Y<|.int<|s.L p,zO⟩):=
  qU (rm rfl (Pg hA JQ hk) f1) rfl
 by_cases q:w k=0
 .refine wR zO _ _ (rf y<|rf h2<|rL<|sF (Ep hT H hk) (df λz=>z q) rfl) ?_;have:lst G w k s={ s with a:=if 0<s.U k*s.L k then s.a+1 else s.a,b:=if 0<s.U k*s.L k then s.b else s.b+1 }:=by
   refine Q e<|Q (ql q)<|Q (ql q) rfl
  exact Q this I1
 .have g:(lst G w k s).U p=s.U p*s.U k-w k*w k*s.L k*s.L p:=by
   refine Q e ?_;show (if w k=0 then s.U else _) p=_;exact Q (qm q)<|Q (GV q)<|ql rfl
  have gL:(lst G w k s).L p=s.L p*s.U k:=by refine Q e ?_;show (if w k=0 then s.L else _) p=_;exact Q (qm q)<|Q (GV q)<|ql rfl
  rw[g,gL] at f2
  have et:(ev orc 55).E [0] (.tup [.bin .Sub (.bin .Mult (.l 10)<|.l 8)<|.bin .Mult (.bin .Mult (.bin .Pow (.sub (.l 2)<|.l 7)<|.i 2)<|.l 9)<|.l 11,.bin .Mult (.l 11)<|.l 8]) ⟨uc own A T c told (Y<|.int k) (Y<|.int<|s.U k) (Y<|.int<|s.L k) (Y<|.int<|s.U p)<|Y<|.int<|s.L p,zO⟩ =
    Y (.tup [.int<|s.U p*s.U k-w k*w k*s.L k*s.L p,.int<|s.L p*s.U k],⟨uc own A T c told (Y<|.int k) (Y<|.int<|s.U k) (Y<|.int<|s.L k) (Y<|.int<|s.U p)<|Y<|.int<|s.L p,zO⟩):=
   sW<|qo (qx (qx rfl rfl<|xU _ _ b b (sX p).1 (sX k).1 (by lia)<|by lia) (qx (qx (qx (Vv hT H hk) rfl<|pw2 t) rfl<|xU _ _ 4 b (HE t) (sX k).2 (by decide)<|by lia) rfl<|xU _ _ (4+b) b (y_ (HE t) (sX k).2) (sX p).2 (by lia)<|by lia)<|ui _ _)<|qG<|qx rfl rfl<|xU _ _ b b (sX p).2 (sX k).1 (by lia)<|by lia
  exact wR _ (Y<|.int<|s.U p) (Y<|.int<|s.L p) (rf y<|rf h2<|rL<|tX (Ep hT H hk) (dt q)<|rL<|D6 et rfl (Pg hA JQ hk) f2) I2
end
end
end
end L1
end
noncomputable section
namespace L1
open Vm
open Mp (LS lst up)
theorem aeL {o:Type}{z:Ev}{v:List Nat}{I:X}{x:St}{ρ d:o->V}{l:List o}(e:tK z v I x=Y (l.map ρ,N,x))(JN:∀a∈l,z.E v elt ⟨[Y<|ρ a],x.hp⟩=Y (d a,⟨[Y<|ρ a],x.hp⟩))(b:l.length<=65536) :
  rS z v (.comp elt [.l 0] [I] [[]] 1 0) x=Y (.list<|l.map d,x):=J (wq d l)<|O6 e (λa c=>zk<|JN a c)<|Q (wq ..)<|Q (ao ..) b
noncomputable def lr (z I:Nat->Int):Nat->LS->LS
 |0=>@λa=>a
 |m+1=>@λa=>lr z I m<|lst z I m a
noncomputable def lt (z I:Nat->Int):Nat->LS->LS
 |0=>@λa=>a
 |m+1=>@λa=>lt z I m<|lst z I (m+1) a
section
variable {A T:List V}{h j:Nat->Int}(U:∀i,i<n->A[i]?=Y (V.int<|h i)) (L:∀i,i<n->T[i]?=Y (V.int<|j i)) (G:A.length<=60) (y:T.length<=60) (t:n<=50) (w:∀k,k<n->∃p,p<n/\(h k=(p:Int)\/h k=(p:Int)-(n:Int))/\(j k≠0->h k=(p:Int))) (H:∀k,k<n->(j k).natAbs<2^2)
include U L G y t w H
theorem GR {v:Nat}(I:zx n s x hp c)(hk:v<n)(sX:Bd b s)(f:b<=20000){e:Option V}:∃g o a' d',rQ (ev orc 59) [0] RN ⟨uc own A T c told (Y<|.int v) u e a d,hp⟩ =
  Y (.next,⟨uc own A T o (Y<|.lst<|ud s) (Y<|.int v) (Y<|.int<|s.U v) (Y<|.int<|s.L v) a' d',g⟩)/\zx n (lst h j v s) x g o:=by
 refine rT (w v hk) λp Bq h1 h2=>?_
 have e1:(ev orc 59).S [0] (.asg (.tup [.l 6,.tup [.l 8,.l 9]])<|.tup [.bf .list [.l 5],.sub (.l 3)<|.l 7]) ⟨uc own A T c told (Y<|.int v) u e a d,hp⟩ =
   Y (.next,⟨uc own A T c (Y<|.lst<|ud s) (Y<|.int v) (Y<|.int<|s.U v) (Y<|.int<|s.L v) a d,hp⟩):=
  qU (sW<|qo (uf (qG rfl)<|KH (rY I.p3)<|show 3<=65536 by decide)<|qG<|rm rfl rfl<|aeu t I hk) rfl
 by_cases q:0<s.no v
 .obtain ⟨g1,g2⟩:=Tc I q;exact Hx _ _ _ _ (rf e1<|rL<|tX (qW (rm rfl rfl<|OO t I hk) rfl<|Ad _ _) (dt q)<|rL g1) g2
 .by_cases z:s.U v=0
  .exact qt (Sk U L G y t I hk Bq h1 h2 q z) λg g1 g2=>Hx _ _ _ _ (rf e1<|rL<|sF (qW (rm rfl rfl<|OO t I hk) rfl<|Ad _ _) (df q)<|rL<|tX (qW rfl rfl<|Ae _ _) (dt z) g1) g2
  .exact acR (S6 U L G y t I hk Bq h1 h2 q z sX f (H v hk)) λg a' d' g1 g2=>Hx _ _ _ _ (rf e1<|rL<|sF (qW (rm rfl rfl<|OO t I hk) rfl<|Ad _ _) (df q)<|rL<|sF (qW rfl rfl<|Ae _ _) (df z) g1) g2
theorem QI (b):∀(m:Nat)(c:LS)(u:List O)(z v:Nat)(f k o e g q:Option V),m<n->zx n c b u z->Bd v c->(v+5)*2^m<=20000->
  ∃s x k' a l' a' d',uh (ev orc 59) [0] (.l 7) N RN (nats (aq<|m+1).reverse) ⟨uc own A T z f k o e g q,u⟩ =
   Y (.next,⟨uc own A T x (Y<|.lst<|ud<|lt h j m c) k' a l' a' d',s⟩)/\zx n (lr h j (m+1) c) b s x
 |0=>@λc u z v f k o e g q hm I sX hb=>by obtain ⟨s,x,a',d',g1,g2⟩:=(GR U L G y t w H I hm sX (by lia));exact ⟨s,x,_,_,_,_,_,r_ rfl rfl g1 rfl,g2⟩
 |m+1=>@λc u z v f k o e g q hm I sX hb=>by
  revert hb;refine Q (iI ..) ?_;intro hb;have hb0:v<=20000:=by exact MS hb (aW (v+5)<|show 1<=2^m*2 by exact oV _ j_)
  obtain ⟨s,x,a',d',g1,g2⟩:=(GR U L G y t w H I hm sX hb0);obtain ⟨d,c2,k2,u2,l2,a2,d2,i1,i2⟩:=QI b m _ s x (2*v+5) _ _ _ _ a' d' (fU hm) g2 (acM sX<|H _ hm) (by
   refine Q (show 2*v+5+5=(v+5)*2 by lia) ?_;rw[fP,bQ 2];exact hb)
  exact ⟨d,c2,k2,u2,l2,a2,d2,Q (fK ..)<|Q (List.reverse_append ..)<|r_ rfl rfl g1 i1,i2⟩
end
noncomputable def s0 (b:Nat->Int)(q:Int):LS:=⟨λi=>b i-q,λJ=>1,λJ=>0,0,0,0⟩
noncomputable def D0 (a:LS):List Int:=[a.a,a.b,a.c]
noncomputable def rg (ow:Nat->Int)(c:Nat):List V:=(aq c).map λi=>V.int<|ow i
theorem QN (c){b h j:Nat->Int}{s:Nat}(a)(hm:1<=c)(I:0<s)(t:s<=6)(w:∀k,k<s->∃p,p<s/\(h k=(p:Int)\/h k=(p:Int)-(s:Int))/\(j k≠0->h k=(p:Int)))(H:∀k,k<s->(j k).natAbs<2^2)(d:∀k,(b k-x).natAbs<2^100) :
  (qy c).top 233 [.lst<|rg b s,.lst<|rg h s,.lst<|rg j s,.int x] [] [] a=Y (.tup [.lst<|ud<|lr h j s<|s0 b x,.lst<|ud<|lt h j (s-1)<|s0 b x],a):=by
 obtain ⟨c,rfl⟩:∃z,c=z+1:=⟨c-1,(aH hm).symm⟩;have hl:∀u:Nat->Int,(rg u s).length=s:=λu=>sQ _ s
 have f:∀(u:Nat->Int),sU [] 9 (.lst<|rg u s)=Y (.lst<|rg u s):=λu=>by
  have:=BZ [] 7<|(aq s).map u
  unfold iL at this
  rw[bk] at this
  exact this
 obtain ⟨g,c',k',u',l',a',d',g1,g2⟩:=QI (A:=rg h s) (T:=rg j s) (λi hi=>tB (λi=>V.int<|h i) hi) (λi hi=>tB (λi=>V.int<|j i) hi) (aa (aN<|hl h)<|by lia) (aa (aN<|hl j)<|by lia) (bJ t) w H (.int x) (s-1) (s0 b x) _ 3 100 (Y<|.lst []) N N N N N (Nat.sub_one_lt_of_lt I) (⟨rfl,rfl,rfl,rfl,ag 3⟩:zx s (s0 b x) (.int x) [.cell<|Y<|.int x,.list<|uT s<|s0 b x,.list<|Ao s<|s0 b x,.list<|ud<|s0 b x] 3) (λi=>⟨d i,show 1<2^100 by decide +kernel⟩) (by
  have:2^(s-1)<=2^5:=aX (by decide)<|fh t _
  lia)
 rw[aH I] at g1 g2
 have e0:(ev (qy c) 60).S [0] Vo ⟨[Y<|.lst<|rg b s,Y<|.lst<|rg h s,Y<|.lst<|rg j s,N,N,N,N,N,N,N,N,N],[.cell<|Y<|.int x]⟩ =
   Y (.next,⟨uc (.lst<|rg b s) (rg h s) (rg j s) 3 (Y<|.lst []) N N N N N,[.cell<|Y<|.int x,.list<|uT s<|s0 b x,.list<|Ao s<|s0 b x,.list<|ud<|s0 b x]⟩):=by
  refine qU (sW<|qo (xp (o:=.list<|uT s<|s0 b x) (st1:=⟨[Y<|.lst<|rg b s,Y<|.lst<|rg h s,Y<|.lst<|rg j s,N,N,N,N,N,N,N,N,N],[.cell<|Y<|.int x]⟩) ?_)<|qo (xp (st1:=⟨[Y<|.lst<|rg b s,Y<|.lst<|rg h s,Y<|.lst<|rg j s,N,N,N,N,N,N,N,N,N],[.cell<|Y<|.int x,.list<|uT s<|s0 b x]⟩) ?_)<|qo (xp rfl)<|qG rfl) rfl
  .exact aeL ((tP rfl rfl).trans rfl) (λi J=>sW<|qo (qx rfl (qA rfl rfl)<|ui _ _)<|qG rfl) (by refine Q (aU ..) ?_;lia)
  .have e:Ao s (s0 b x)=aw s (V.int 0):=by
    delta Ao;exact eu λi=>by
     by_cases q:i<s
     .refine Q (tB _ q)<|Q jo<|Q (ql q) ?_;rfl
     .refine Q (b_<|by refine Q (sQ ..) ?_;lia)<|Q (b_<|by refine Q (g7 ..) ?_;lia) rfl
   exact Q e<|WR rfl (uf (qG rfl)<|(HO rfl<|by rw[hl];lia).trans<|vi<|qn _<|hl b) ⟨aC s,bq.mpr<|av t<|by decide⟩
 refine rD c rfl rfl rfl rfl (uR (f _)<|uR (f _)<|uR (f _) rfl) (hp':=g) (v:=.tup [.ref c',.lst<|ud<|lt h j (s-1)<|s0 b x]) ?_ ?_
 .exact (ax ua<|qH e0<|qH (v8 ((tP rfl<|uf (qo (qx (v_ rfl rfl<|by rw[hl];lia) rfl<|Q (hl ..) rfl)<|qo rfl<|qG rfl) rfl).trans<|Cy<|ZS<|dD t) g1)<|tq<|sx<|sW<|qo rfl<|qG rfl:we (qy c) [0] Y1 ⟨[Y<|.lst<|rg b s,Y<|.lst<|rg h s,Y<|.lst<|rg j s,N,N,N,N,N,N,N,N,N],[.cell<|Y<|.int x]⟩=_)
 .exact qM<|uR (xG (l:=D0<|lr h j s<|s0 b x) g2.p3)<|CF<|BZ g 6<|D0<|lt h j (s-1)<|s0 b x
end L1
end
noncomputable section
namespace L1
open Vm
theorem DR:∀(l acc:List Int),(l.foldl iD acc).length<=acc.length+l.length/\((l.foldl iD acc).length=acc.length+l.length↔l.Nodup/\∀v∈l,v∉acc)
 |[]=>@λacc=>⟨ag _,⟨λW=>⟨lK,λv h=>nomatch h⟩,λW=>rfl⟩⟩
 |x::l=>@λacc=>by
  refine Q (du ..)<|Q (aQ ..) ?_
  have hs:iD acc x=if x∈acc then acc else acc++[x]:=by
   by_cases h:x∈acc
   .rw[ql h];exact ql<|hH (p:=λy=>y==x).mpr<|qp x h<|beq_self_eq_true x
   .rw[qm h];exact qm λz=>by exact qt (hH.mp z) λy a b=>h<|J (eq_of_beq b) a
  refine Q hs ?_;rw[bI]
  by_cases h:x∈acc
  .refine Q (ql h) ?_;obtain ⟨i1,i2⟩:=DR l acc;exact ⟨fj i1,⟨λz=>by lia,λz=>absurd h<|z.2 x<|.head _⟩⟩
  .refine Q (qm h) ?_;obtain ⟨i1,i2⟩:=DR l (acc++[x]);rw[aG] at i1 i2
   have h1:[x].length=1:=rfl;rw[h1] at i1 i2
   refine ⟨aa i1<|aN<|cV acc.length 1 _,?_⟩;rw[show acc.length+(l.length+1)=acc.length+1+l.length by exact (cj _ _).symm,i2];refine ⟨λz=>⟨⟨λhx=>z.2 x hx<|by simp,z.1⟩,λv hv=>?_⟩,λz=>⟨z.1.2,λv hv hm=>?_⟩⟩
   .rcases aE.mp hv with rfl|hv
    .exact h
    .exact λhm=>z.2 v hv<|fa _ hm
   .rcases bO.mp hm with hm|hm
    .exact z.2 v (.tail _ hv) hm
    .exact z.1.1<|J (aM.mp hm) hv
theorem UL (a:List Nat):decide (Kk (a.map λc:Nat=>(c:Int))=(a.length:Int))=decide a.Nodup:=by
 refine decide_eq_decide.mpr ?_;delta Kk kQ;have e:(aq (a.map λc:Nat=>(c:Int)).length).map (λj=>(a.map λc:Nat=>(c:Int)).getD j 0)=a.map λc:Nat=>(c:Int):=by
  refine eu λj=>?_
  by_cases G:j<(a.map λc:Nat=>(c:Int)).length
  .refine Q (tB _ G)<|Q cq<|Q (aD G) ?_;rfl
  .refine Q (b_<|by refine Q (sQ ..) ?_;lia)<|Q (b_<|by lia) rfl
 refine Q e ?_;have h:=(DR (a.map λc:Nat=>(c:Int)) []).2;rw[ao,fL,bZ] at h
 have H:(a.map λc:Nat=>(c:Int)).Nodup↔a.Nodup:=by delta List.Nodup;rw[e_];exact ⟨λh=>h.imp λh e=>h<|qn _ e,λh=>h.imp λh e=>h<|da e⟩
 rw[<- H];refine ⟨λi=>(h.mp<|da i).1,λi=>qn _<|h.mpr ⟨i,λq J b=>nomatch b⟩⟩
theorem GC:∀a:List Nat,intsOf (nats a)=Y (a.map λx:Nat=>(x:Int))
 |[]=>rfl|x::a=>(Q (GC a) rfl:(intsOf<|nats a).map ((x:Int)::·)=_)
theorem adi {l:List Nat}(G:l.length<64):yg hp .set [.lst<|nats l]=Y (.int<|Kk<|l.map λc:Nat=>(c:Int)):=by show (if (nats l).length<64 then (intsOf<|nats l).map λj=>V.int<|Kk j else N)=_;exact Q (rE ..)<|Q (ql G)<|Q (GC ..) rfl
theorem DI (c:Nat):∀l:List Nat,L4 (.int c) (nats l)=Y (l.contains c)
 |[]=>rfl|a::l=>by refine (Q (DI c l) ?_:(rU 8 (.int a)<|.int c).bind (λz=>(L4 (.int c)<|nats l).map (z||·))=_);show Y (decide ((a:Int)=(c:Int))||l.contains c)=_;refine Q (oD ..) ?_;congr 2;exact decide_eq_decide.mpr ⟨λh=>(da h).symm,λh=>qn _ h.symm⟩
theorem Hb (b):∀(a:List Nat)(k:Nat),((aq a.length).filter λt=>decide<|b/2^(k+t)%2=1).map (λt=>a.getD t 0)=Mp.bits b k a
 |[]=>@λk=>rfl
 |e::a=>@λk=>by
  refine (?_:_=if b/2^k%2=1 then e::Mp.bits b (k+1) a else Mp.bits b (k+1) a);refine Q (aQ ..)<|Q (jB ..)<|Q (dK ..)<|Q (ll ..)<|J (Hb b a<|k+1)<|Q (kl λt W=>by refine (Q (show k+(t+1)=k+1+t by exact (cj _ _).symm) rfl:decide (b/2^(k+(t+1))%2=1)=_)) ?_
  by_cases i:b/2^k%2=1
  .exact Q (ql i)<|Q (ql<|by rw[gV];exact decide_eq_true i)<|ax bB<|Q (bk ..) rfl
  .exact Q (qm i)<|Q (qm<|by rw[gV];exact λn=>i<|of_decide_eq_true n)<|ax bk rfl
theorem bits_sub (c):∀(a:List Nat)(i:Nat),∀t∈Mp.bits c i a,t∈a
 |[]=>@λi t h=>nomatch h
 |x::a=>@λi t h=>by
  change t∈(if c/2^i%2=1 then x::Mp.bits c (i+1) a else Mp.bits c (i+1) a) at h
  split at h
  .rcases aE.mp h with rfl|h
   .exact .head _
   .exact .tail _<|bits_sub c a (i+1) t h
  .exact .tail _<|bits_sub c a (i+1) t h
theorem D3 (c):∀(a:List Nat)(k:Nat),(Mp.bits c k a).length<=a.length
 |[]=>@λk=>ag _
 |x::a=>@λk=>by
  refine (?_:(if c/2^k%2=1 then x::Mp.bits c (k+1) a else Mp.bits c (k+1) a).length<=_)
  split
  .exact Q (aQ ..)<|Q (aQ ..)<|fV<|D3 c a<|k+1
  .exact Q aQ<|fj<|D3 c a<|k+1
noncomputable def EF:List Int->Int->Int
 |[]=>@λa=>a
 |x::l=>@λa=>EF l<|a*x
theorem LL:∀(l f:List Int)(a:Int),EF (l++f) a=EF f (EF l a)
 |[]=>@λf a=>rfl
 |x::l=>@λf a=>LL l f<|a*x
theorem FK (b:Nat->Int):∀(l:List Nat)(q:Int),EF (l.map b) q=q*Mp.u9 b l
 |[]=>@λq=>(gK q).symm
 |x::l=>@λq=>by refine (?_:EF (l.map b) (q*b x)=q*(b x*Mp.u9 b l));rw[FK b l,dH]
theorem aex {a b:Int}(G:a.natAbs<2^i)(T:b.natAbs<2^j)(w:i<=50000)(k:j<=50000):xN .Mult (.int a) (.int b)=Y (.int<|a*b):=by
 have e:CC a b=true:=by exact decide_eq_true<|aa (bo (aa (sM G) w)<|aa (sM T) k)<|by decide
 refine (ax (ql e) rfl:(if CC a b=true then _ else _)=_)
theorem bd3 {q:Int}(u:0<=q/\q<=3):q.natAbs<=3:=bA.mp<|Q (dP u.1) u.2
theorem ail (q b):tW hp .GtE (.int q) (.int b)=Y (decide<|b<=q):=rfl
abbrev zj (b i g:Nat->Int)(c h:Nat)(q:Int)(y o e:Option V):List O:=[.cell<|Y<|.lst<|rg b c,.cell<|Y<|.lst<|rg i c,.cell<|Y<|.lst<|rg g c,.cell<|Y<|.int h,.cell<|Y<|.int q,.cell y,.cell o,.cell e]
noncomputable def Fi:List Nat:=[0,1,2,3,4,5,6,7]
def abt:X:=.bin .Add (.comp (.un .USub<|.bin .Pow (.sub (.cell 2)<|.l 0)<|.i 2) [.l 0] [.l 1] [[]] 1 0)<|.comp (.bin .Sub (.cell 4)<|.sub (.cell 0)<|.l 0) [.l 0] [.bf .range [.cell 3,.bf .len [.cell 0]]] [[.cmp (.l 0) [.NotIn] [.cell 7]]] 1 0
def aiu:List XS:=[.asg (.l 2)<|.i 1,.uY (.l 3) abt [.aug (.l 2) .Mult<|.l 3],.aug (.l 0) .Add<|.l 2]
def RO:List XS:=[.asg (.l 1)<|.comp (.sub (.cell 5)<|.l 0) [.l 0] [.bf .range [.bf .len [.cell 5]]] [[.cmp (.bin .Mod (.bin .FloorDiv (.cell 6)<|.bin .Pow (.i 2)<|.l 0)<|.i 2) [.Eq] [.i 1]]] 1 0,.asg (.cell 7)<|.bin .Add (.l 1)<|.comp (.sub (.cell 1)<|.l 0) [.l 0] [.l 1] [[]] 1 0,.rb (.cmp (.bf .set [.cell 7]) [.Eq] [.bf .len [.cell 7]]) aiu []]
section
theorem uz (g:Nat->Int){h:Nat}(w:n<=60)(G:h<n):sf hp (.lst<|rg g n) (.int h)=Y (.int<|g h):=vU (tB (λu=>V.int<|g u) G)<|Q (show (rg g n).length=n from sQ _ n)<|aa w<|by decide
theorem LX {c:Nat}(w:c<=4500):∀(l:List Int)(q:Int)(h:Nat)(e:Option V),(∀z∈l,z.natAbs<2^c)->q.natAbs<2^(c*h)->h+l.length<=11->
  ∃U,uh (ev orc 57) Fi (.l 3) N [.aug (.l 2) .Mult<|.l 3] (iL l) ⟨[x0,x1,Y<|.int q,e],hp⟩=Y (.next,⟨[x0,x1,Y<|.int<|EF l q,U],hp⟩)
 |[]=>@λq h e J J J=>⟨e,rfl⟩
 |z::l=>@λq h e hz G i=>by revert i;refine Q aQ ?_;intro i;obtain ⟨U,o⟩:=LX w l (q*z) (h+1) (Y<|.int z) (λg a=>hz g<|.tail _ a) (Q (ic ..)<|Q (fi ..)<|y_ G<|hz z<|.head _) (by lia);exact ⟨U,r_ rfl rfl (rL<|CU rfl rfl (aex G (hz z<|.head _) (aa (dG w<|show h<=10 by lia)<|by decide)<|aa w<|by decide) rfl) o⟩
variable (T:Mp.xu n ow ab ti) (d:f<=1) (j:∀k,k<n->(t-ow k).natAbs<2^4500)
include T
theorem LA (h:Nat):(ti h).natAbs<2^2:=dD<|bd3<|T.C0 h
theorem Rn:(Mp.uB ab n f).length<=5:=by refine aa (cE ..) ?_;delta Mp.sl;exact Q (ed ..)<|aa (c7 n f) T.n5
include d j
theorem To (b:Nat)(i:b<=65536)(CZ:Int){h e g:Option V}:∃q A a I,rQ (ev orc 59) Fi RO ⟨[Y<|.int CZ,x1,h,e],zj ow ab ti n f t (Y<|.lst<|nats<|Mp.uB ab n f) (Y<|.int b) g⟩ =
  Y (.next,⟨[Y<|.int<|CZ+Mp.yP (λv=>t-ow v) ti (Mp.pa ab) (Mp.sl f n) (Mp.bits b 0<|Mp.uB ab n f) [],q,A,a],zj ow ab ti n f t (Y<|.lst<|nats<|Mp.uB ab n f) (Y<|.int b) I⟩):=by
 have o:=Rn (f:=f) T;have p:n<=60:=aa T.n5 (by decide);have L:∀s∈Mp.bits b 0 (Mp.uB ab n f),f<=s/\s<n/\(Mp.pa ab s:Int)=ab s:=λs u=>by
  have:=Mp.yK T<|bits_sub b _ 0 s u
  exact ri this.1 this.2.1 this.2.2.2.1
 have G:=D3 b (Mp.uB ab n f) 0;have e1:(ev orc 58).E Fi (.comp (.sub (.cell 5)<|.l 0) [.l 0] [.bf .range [.bf .len [.cell 5]]] [[.cmp (.bin .Mod (.bin .FloorDiv (.cell 6)<|.bin .Pow (.i 2)<|.l 0)<|.i 2) [.Eq] [.i 1]]] 1 0) ⟨[Y<|.int CZ,x1,h,e],zj ow ab ti n f t (Y<|.lst<|nats<|Mp.uB ab n f) (Y<|.int b) g⟩ =
   Y (.lst<|nats<|Mp.bits b 0<|Mp.uB ab n f,⟨[Y<|.int CZ,x1,h,e],zj ow ab ti n f t (Y<|.lst<|nats<|Mp.uB ab n f) (Y<|.int b) g⟩):=by
  generalize Mp.uB ab n f=es at o ⊢
  refine J (Hb b es 0) ?_;delta nats;refine Q (bk ..)<|xO (g:=λw=>V.int ((es.getD w 0:Nat):Int)) (λw=>decide<|b/2^(0+w)%2=1) (vD ((v_ (qA rfl rfl) rfl<|by refine Q (ao ..) ?_;lia).trans<|qn (λk:Nat=>Y (V.int k,(_:St)))<|ao ..)<|by lia) (λw hi=>?_) (λw hi W=>?_)<|by refine Q (aU ..) ?_;lia
  .have hi:=bF.mp hi;refine Q (bZ ..)<|(qW (qx (qx (qA rfl rfl) (qx rfl rfl<|yh 2 w ?_)<|KL b (2^w) (bE w)<|zH<|Nat.pow_lt_pow_right (ag _)<|by lia) rfl<|RY _ 2 (by decide)<|zH<|by decide +kernel) rfl<|Ae _ _).trans ?_
   .skip
    exact aa (dG (bits_le.mpr (by decide):au ((2:Nat):Int)<=2)<|show w<=5 by lia)<|cp _ _
   .exact qn (λz=>Y (V.bool z,(_:St)))<|decide_eq_decide.mpr ⟨λu=>da u,λu=>qn _ u⟩
  .have hi:=bF.mp hi;refine rm (qA rfl rfl) rfl<|vU ?_<|by refine Q (rE ..) ?_;lia
   refine Q (DH ..)<|Q (aD hi)<|Q cq<|Q (aD hi) ?_;rfl
 generalize hbs:Mp.bits b 0 (Mp.uB ab n f)=bs at *
 generalize Mp.uB ab n f=es at *
 have U:bs.length<=5:=aa G o;have hz:∀{l:List Nat},l.length<=20->(nats l).length<=65536:=λu=>Q (rE ..)<|aa u<|by decide
 have QS:(Mp.tk (Mp.pa ab) bs).length<=10:=by delta Mp.tk;exact Q (aG ..)<|Q (ao ..)<|bo U U
 have e2:(ev orc 58).E Fi (.bin .Add (.l 1)<|.comp (.sub (.cell 1)<|.l 0) [.l 0] [.l 1] [[]] 1 0) ⟨[Y<|.int CZ,Y<|.lst<|nats bs,h,e],zj ow ab ti n f t (Y<|.lst<|nats es) (Y<|.int b) g⟩ =
   Y (.lst<|nats<|Mp.tk (Mp.pa ab) bs,⟨[Y<|.int CZ,Y<|.lst<|nats bs,h,e],zj ow ab ti n f t (Y<|.lst<|nats es) (Y<|.int b) g⟩):=by
  delta Mp.tk;exact Q (AY ..)<|Q (show nats (bs.map<|Mp.pa ab)=bs.map λk=>V.int ((Mp.pa ab k:Nat):Int) from bk)<|qx rfl (u4 ((tP rfl rfl).trans rfl) (λk hk=>(rm (qA rfl rfl) rfl<|uz ab p (L k hk).2.1).trans<|by refine Q ((L k hk).2.2) rfl)<|aa U<|by decide)<|wM<|Q (rE ..)<|Q (ao ..)<|aa (bo U U)<|by decide
 have e3:(ev orc 58).E Fi (.cmp (.bf .set [.cell 7]) [.Eq] [.bf .len [.cell 7]]) ⟨[Y<|.int CZ,Y<|.lst<|nats bs,h,e],zj ow ab ti n f t (Y<|.lst<|nats es) (Y<|.int b)<|Y<|.lst<|nats<|Mp.tk (Mp.pa ab) bs⟩ =
   Y (.bool<|decide (Mp.tk (Mp.pa ab) bs).Nodup,⟨[Y<|.int CZ,Y<|.lst<|nats bs,h,e],zj ow ab ti n f t (Y<|.lst<|nats es) (Y<|.int b)<|Y<|.lst<|nats<|Mp.tk (Mp.pa ab) bs⟩):=J (UL ..)<|qW (uf (qG<|qA rfl rfl)<|adi<|av QS<|by decide) (v_ (qA rfl rfl) rfl<|hz<|aa QS<|by decide)<|(Ae _ _).trans<|by refine Q (rE ..) rfl
 by_cases x:(Mp.tk (Mp.pa ab) bs).Nodup
 .have ef:∀h e,(ev orc 57).E Fi abt ⟨[Y<|.int CZ,Y<|.lst<|nats bs,h,e],zj ow ab ti n f t (Y<|.lst<|nats es) (Y<|.int b)<|Y<|.lst<|nats<|Mp.tk (Mp.pa ab) bs⟩ =
    Y (.lst<|iL<|bs.map (λk=>- (ti k*ti k))++(Mp.rest (Mp.sl f n)<|Mp.tk (Mp.pa ab) bs++[]).map λv=>t-ow v,⟨[Y<|.int CZ,Y<|.lst<|nats bs,h,e],zj ow ab ti n f t (Y<|.lst<|nats es) (Y<|.int b)<|Y<|.lst<|nats<|Mp.tk (Mp.pa ab) bs⟩):=λh e=>by
   refine Q (JE ..)<|Q (bh ..) ?_
   have y:(Mp.sl f n).length<=5:=by delta Mp.sl;exact Q (ed ..)<|aa (c7 n f) T.n5
   refine qx (u4 ((tP rfl rfl).trans rfl) (λk hk=>xW<|qx (rm (qA rfl rfl) rfl<|uz ti p (L k hk).2.1) rfl<|pw2<|LA T k)<|aa U<|by decide)
    (xO (l:=Mp.sl f n) (λv=>!(Mp.tk (Mp.pa ab) bs).contains v) (IK (qA rfl rfl) ((v_ (qA rfl rfl) rfl<|Q (sQ _ n)<|aa T.n5<|by decide).trans<|qn (λk:Nat=>Y (V.int k,(_:St)))<|sQ _ n) (bJ d)<|bJ p) (λk hk=>qW rfl (qA rfl rfl) ?_) (λk hk W=>qx (qA rfl rfl) (rm (qA rfl rfl) rfl<|uz ow p (Mp.rH.mp hk).2)<|ui _ _)<|by lia) ?_
   .exact qn (Option.map not)<|DI k<|Mp.tk (Mp.pa ab) bs
   .skip
    exact Q (show iL (bs.map λk=>- (ti k*ti k))=bs.map λk=>V.int <| - (ti k*ti k) from bk)<|Q (show iL ((Mp.rest (Mp.sl f n)<|Mp.tk (Mp.pa ab) bs).map λv=>t-ow v)=(Mp.rest (Mp.sl f n)<|Mp.tk (Mp.pa ab) bs).map λv=>V.int<|t-ow v from bk)<|wM<|Q (ao ..)<|Q (ao ..)<|aa (bo U<|aa (cE (λv=>!(Mp.tk (Mp.pa ab) bs).contains v)<|Mp.sl f n) y)<|by decide
  obtain ⟨a,c⟩:=LX (ag _) (bs.map (λk=>- (ti k*ti k))++(Mp.rest (Mp.sl f n)<|Mp.tk (Mp.pa ab) bs++[]).map λv=>t-ow v) 1 1 e (λz hz=>by
   rcases bO.mp hz with hz|hz
   .refine qt (bY.mp hz) λk W wU=>J wU ?_;clear wU
    exact Q (cW ..)<|ai (HE<|LA T k)<|aX (by decide)<|by decide
   .refine qt (bY.mp hz) λk hk H=>J H ?_;clear H
    exact j k (Mp.rH.mp (Mp.u7.mp hk).1).2) (show 1<2^(4500*1) from Nat.one_lt_two_pow (by decide)) (Q (aG ..)<|Q (ao ..)<|Q (ao ..)<|aa (aP (bo U<|aa (cE (λv=>!(Mp.tk (Mp.pa ab) bs++[]).contains v)<|Mp.sl f n)<|by delta Mp.sl;exact Q (ed ..)<|aa (c7 n f) T.n5) 1)<|ag _)
  have et:Mp.yP (λv=>t-ow v) ti (Mp.pa ab) (Mp.sl f n) bs []=EF (bs.map (λk=>- (ti k*ti k))++(Mp.rest (Mp.sl f n)<|Mp.tk (Mp.pa ab) bs++[]).map λv=>t-ow v) 1:=by rw[LL,FK λk=>- (ti k*ti k),FK λv=>t-ow v,dO];exact ql ⟨x,λv W u=>nomatch u⟩
  refine Q et ?_;generalize EF _ 1=P at *
  exact ⟨_,_,_,_,rf (qU e1 rfl)<|rf (qU e2 rfl)<|rL<|tX e3 (dt x)<|rf (qU rfl rfl)<|rf (v8 ((tP rfl<|ef _ _).trans rfl) c)<|rL<|CU rfl rfl (CN _ _) rfl⟩
 .have e0:Mp.yP (λv=>t-ow v) ti (Mp.pa ab) (Mp.sl f n) bs []=0:=qm λu=>x u.1
  exact Q e0<|Q (dJ ..) ⟨_,_,_,_,rf (qU e1 rfl)<|rf (qU e2 rfl)<|rL<|sF e3 (df x) rfl⟩
theorem QJ:∀(c a:Nat)(y h e U q:Option V),a+c<=65536->∃A b I i g,uh (ev orc 59) Fi (.cell 6) N RO (nats<|dm a c) ⟨[Y<|.int<|Mp.sm (λz=>Mp.yP (λu=>t-ow u) ti (Mp.pa ab) (Mp.sl f n) (Mp.bits z 0<|Mp.uB ab n f) []) a,y,h,e],zj ow ab ti n f t (Y<|.lst<|nats<|Mp.uB ab n f) U q⟩ =
  Y (.next,⟨[Y<|.int<|Mp.sm (λz=>Mp.yP (λu=>t-ow u) ti (Mp.pa ab) (Mp.sl f n) (Mp.bits z 0<|Mp.uB ab n f) [])<|a+c,A,b,I],zj ow ab ti n f t (Y<|.lst<|nats<|Mp.uB ab n f) i g⟩)
 |0=>@λa y h e U q J=>Hv y h e U q rfl
 |c+1=>@λa y h e U q o=>acQ (To T d j a (aa (aK _ _) o) (Mp.sm (λz=>Mp.yP (λu=>t-ow u) ti (Mp.pa ab) (Mp.sl f n) (Mp.bits z 0<|Mp.uB ab n f) []) a)) λs p w x v=>NS (QJ c (a+1) s p w (Y<|.int a) x<|Q (cj ..) o) λG H L nb2 tk2 ih=>Q (show a+(c+1)=a+1+c from (cj a c).symm)<|Hv G H L nb2 tk2<|r_ rfl rfl v ih
end
theorem yJ (a)(c)(b:Nat->Int)(h):sU a (c+2) (.lst<|rg b h)=Y (.lst<|rg b h):=by
 have:=BZ a c<|(aq h).map b
 unfold iL at this
 rw[bk] at this
 exact this
theorem AK (c){b o g:Nat->Int}{h v:Nat}{q:Int}(a)(w:1<=c)(H:Mp.xu h b o g)(u:v<=1)(j:∀k,k<h->(q-b k).natAbs<2^4500) :
  (qy c).top 216 [.lst<|rg b h,.lst<|rg o h,.lst<|rg g h,.int v,.int q] [] [] a=Y (.int<|Mp.u3 b o g h v q,a):=by
 obtain ⟨c,rfl⟩:∃z,c=z+1:=⟨c-1,(aH w).symm⟩;have p:=Rn (f:=v) H;have U:h<=60:=aa H.n5 (by decide);have G:2^(Mp.uB o h v).length<=2^5:=aX (by decide) p;refine NS (QJ (orc:=qy c) H u j (2^(Mp.uB o h v).length) 0 N N N N N<|Q (bZ ..)<|aa G<|by decide) λs A x I i e=>?_
 rw[bZ,<-dk] at e
 have hw:∀y:Nat->Int,(rg y h).length=h:=λy=>sQ _ h
 have L:(ev (qy c) 58).E Fi (.comp (.l 0) [.l 0] [.bf .range [.cell 3,.bf .len [.cell 0]]] [[.cmp (.sub (.cell 1)<|.l 0) [.GtE] [.cell 3]]] 1 0) ⟨[N,N,N,N],zj b o g h v q N N N⟩ =
   Y (.lst<|nats<|Mp.uB o h v,⟨[N,N,N,N],zj b o g h v q N N N⟩):=
  xO (λk=>decide<|(v:Int)<=o k) (IK (qA rfl rfl) ((v_ (qA rfl rfl) rfl<|Q (hw ..)<|aa H.n5<|by decide).trans<|qn (λk:Nat=>Y (V.int k,(_:St)))<|hw b) (bJ u)<|bJ U) (λk hk=>qW (rm (qA rfl rfl) rfl<|uz o U (Mp.rH.mp hk).2) (qA rfl rfl)<|ail _ _) (λk J J=>rfl) (by delta Mp.sl;exact Q (ed ..)<|M4 U)
 refine rD c (t:=t28) rfl rfl rfl rfl (uR (yJ _ _ _ _)<|uR (yJ _ _ _ _)<|uR (yJ _ _ _ _) rfl) (ax ua<|qH (qU (sW<|qo rfl<|qG L) rfl)<|qH (v8 (vD (qx rfl (v_ (qA rfl rfl) rfl<|Q (rE ..)<|aa p<|by decide)<|(qn (λk:Nat=>sH _ .Pow (.int 2)<|.int k)<|rE _).trans<|yh 2 (Mp.uB o h v).length ?_)<|aa G<|by decide) e)<|tq<|sx rfl:we (qy c) Fi Y6 ⟨[N,N,N,N],zj b o g h v q N N N⟩=_) rfl;exact MP (dG (bits_le.mpr (by decide):au ((2:Nat):Int)<=2) p)
def yu (b:Nat)(k:V)(L A:V)(a:List V):List O:=
 [.cell<|Y k,.cell<|Y<|.ref<|b+2,.fn Mg []<|Y<|b+3,
  .ns [("itertext",.ref<|b+5),("makeelement",.con<|.ref 190),("append",.bm "list.append"<|.ref<|b+4),("kids",.ref<|b+4),("tail",A),("attrib",L),("tag",k)],
  .list a,.fn xJ [("tag",b),("one",b+1)] N]
theorem zM:sS (az "tag")=true/\sS (az "attrib")=true/\sS (az "tail")=true/\sS (az "kids")=true/\sS (az "append")=true/\sS (az "makeelement")=true/\sS (az "itertext")=true:=by decide +kernel
theorem Z6 (e:l[k]?=Y (.fn f c N))(i:sS n=true)(o:hp.length+l.length=hp.length+d):yG (hp++l) (.ref<|hp.length+k) n v=Y (hp++(l.set k (.fn f c<|Y<|hp.length+d)++[.ns [(n,v)]])):=by show Of (hp++l) (hp.length+k) n v (hp++l)[hp.length+k]?=_;refine Q (sC ..)<|Q e<|(ql i).trans<|Q (yF ..)<|Q (len_app ..)<|Q o<|Q (a8 ..) rfl
theorem yH (e:l[k]?=Y (.fn f c<|Y<|hp.length+d))(i:l[d]?=Y (.ns q))(o:sS n=true)(G:q.length<100):yG (hp++l) (.ref<|hp.length+k) n v=Y (hp++l.set d (.ns<|(n,v)::q)):=by
 show Of (hp++l) (hp.length+k) n v (hp++l)[hp.length+k]?=_;refine Q (sC ..)<|Q e ?_
 show putN (hp++l) (hp.length+d) n v (hp++l)[hp.length+d]?=_;refine Q (sC ..)<|Q i<|(ql ⟨o,G⟩).trans<|Q (yF ..) rfl
theorem ae8 (e:l[k]?=Y (.fn f c<|Y<|hp.length+d))(i:l[d]?=Y (.ns q))(o:sS n=true)(z:q.lookup n=Y v)(H:GA v=true):te (hp++l) (.ref<|hp.length+k) n=Y v:=by
 show zX (hp++l) (hp.length+k) n (hp++l)[hp.length+k]?=_;refine Q (sC ..)<|Q e<|(ql o).trans<|Q (sC ..)<|Q i ?_
 show (kU n q).bind _=_;exact Q z<|ql H
theorem acu (e:l[k]?=Y (.list x)):te (hp++l) (.ref<|hp.length+k) "append"=Y (.bm "list.append"<|.ref<|hp.length+k):=by show zX (hp++l) (hp.length+k) "append" (hp++l)[hp.length+k]?=_;exact Q (sC ..)<|Q e (ql rfl:(if ("append":ba)="append" then Y (V.bm "list.append"<|.ref<|hp.length+k) else N)=_)
theorem XH {U:List Nat}(h)(e:rS (ev g j) U x ⟨loc,hp++l⟩=Y (o,⟨loc,hp++l⟩))(i:hp.length+l.length=hp.length+h):(ev g<|j+1).E U (.new x) ⟨loc,hp++l⟩=Y (.ref<|hp.length+h,⟨loc,hp++(l++[o])⟩):=by refine (xp e).trans<|Q (len_app ..)<|Q i<|Q (a8 ..) rfl
theorem LZ {U:List Nat}(h)(e:v5 U cl=Y Df)(i:hp.length+l.length=hp.length+h):(ev orc<|j+1).E U (.lam f cl) ⟨loc,hp++l⟩=Y (.ref<|hp.length+h,⟨loc,hp++(l++[.fn f Df N])⟩):=by refine (qC e rfl:(ev orc<|j+1).E U (.lam f cl) ⟨loc,hp++l⟩=Y (V.ref (hp++l).length,(⟨loc,(hp++l)++[.fn f Df N]⟩:St))).trans<|Q (len_app ..)<|Q i<|Q (a8 ..) rfl
theorem Kx {U:List Nat}(e:U[i]?=Y (hp.length+k))(j:l[k]?=Y (.cell w)):rz U 5 (.cell i) v ⟨loc,hp++l⟩=Y ⟨loc,hp++l.set k (.cell<|Y v)⟩:=(AP e<|(sC ..).trans j).trans<|qn (λd=>Y (⟨loc,d⟩:St))<|yF ..
theorem Un {y:Option V}(e:findKey ks vs (.str "tail")=Y y)(j):za j .A' (.rt ks vs) [.qr "tail"]=Y (Al y .none,j):=by show ((findKey ks vs<|.str "tail").map (Al · .none)).map (·,j)=_;exact Q e rfl
theorem Wl (m)(n)(a f)(y)(e:findKey a f (.str "tail")=Y y)(hp) :
  (qy<|m+1).top 190 [n,.rt a f] [] [] hp=Y (.ref<|hp.length+2,hp++yu hp.length n (.rt a f) (Al y .none) []):=by
 refine Q (Cw m rfl rfl rfl) (qS (Cd (Kx (k:=0) rfl rfl) rfl) ?_:tU (qy m) f24 [] [n,.rt a f] hp=_);have c1:∀{l:List O}{j:Nat},l[1]?=Y (.cell<|Y<|.ref<|hp.length+2)->(ev (qy m)<|j+1).E [hp.length,hp.length+1] (.cell 1) ⟨[Y<|.rt a f],hp++l⟩=Y (.ref<|hp.length+2,⟨[Y<|.rt a f],hp++l⟩):=λi=>qA rfl<|(sC ..).trans i
 exact qH (qU (LZ 2 rfl rfl)<|Kx (k:=1) rfl rfl)
  (qH (vR (qA rfl<|vd ..) (c1 rfl)<|Z6 rfl zM.1 rfl)
  (qH (vR rfl (c1 rfl)<|yH rfl rfl zM.2.1 (by decide:1<100))
  (qH (vR (uK rfl rfl rfl (qG rfl)<|Un e _) (c1 rfl)<|yH rfl rfl zM.2.2.1 (by decide:2<100))
  (qH (vR (XH 4 rfl rfl) (c1 rfl)<|yH rfl rfl zM.2.2.2.1 (by decide:3<100))
  (qH (vR (xq (xq (c1 rfl)<|ae8 rfl rfl zM.2.2.2.1 rfl rfl)<|acu rfl) (c1 rfl)<|yH rfl rfl zM.2.2.2.2.1 (by decide:4<100))
  (qH (vR rfl (c1 rfl)<|yH rfl rfl zM.2.2.2.2.2.1 (by decide:5<100))
  (qH (vR (LZ 5 rfl rfl) (c1 rfl)<|yH rfl rfl zM.2.2.2.2.2.2 (by decide:6<100))
  <| tq<|sx<|c1 rfl)))))))
def si (a:List O)(c:Nat)(k L A:V)(f:List V):Prop:=∀h,h<6->a[c+h]?=(yu c k L A f)[h]?
theorem yM (G:si hp b tag attr tail kids)(e:sS n=true)(i:([("itertext",.ref<|b+5),("makeelement",.con<|.ref 190),("append",.bm "list.append"<|.ref<|b+4),("kids",.ref<|b+4),("tail",tail),("attrib",acw),("tag",tag)]:List<|ba×V).lookup n=Y v)(o:GA v=true)(z:acw=attr):te hp (.ref<|b+2) n=Y v:=by subst z;refine (Q (G 2<|by decide)<|(ql e).trans<|Q (G 3<|by decide) ?_:zX hp (b+2) n hp[b+2]?=_);show (kU n _).bind _=_;exact Q i<|ql o
theorem Dg (G:si hp b tag attr tail kids):te hp (.ref<|b+2) "itertext"=Y (.ref<|b+5):=yM G zM.2.2.2.2.2.2 rfl rfl rfl
theorem Yx (G:si hp b tag attr tail kids):te hp (.ref<|b+2) "kids"=Y (.ref<|b+4):=yM G zM.2.2.2.1 rfl rfl rfl
theorem Yw (G:si hp b tag attr tail kids):te hp (.ref<|b+2) "makeelement"=Y (.con<|.ref 190):=yM G zM.2.2.2.2.2.1 rfl rfl rfl
theorem R2 (G:si hp b tag attr tail kids):te hp (.ref<|b+2) "append"=Y (.bm "list.append"<|.ref<|b+4):=yM G zM.2.2.2.2.1 rfl rfl rfl
theorem ME (G:si hp b tag attr tail kids)(e:GA tail=true):te hp (.ref<|b+2) "tail"=Y tail:=yM G zM.2.2.1 rfl e rfl
theorem R1 (G:si hp b tag attr tail kids)(e:GA attr=true):te hp (.ref<|b+2) "attrib"=Y attr:=yM G zM.2.1 rfl e rfl
theorem Yy (G:si hp b tag attr tail kids):isFn hp (.ref<|b+2)=true:=by show EU hp[b+2]?=true;exact Q (G 2<|by decide) rfl
inductive Fo where
 |nil
 |cons (tag tail attr:V) (kids rest:Fo)
noncomputable def Zh:V->Bool
 |.str s=>decide<|s.cps.size≠0
 |.qr s=>decide<|s.cps.size≠0
 |_=>false
def Z8:V->Bool
 |.str p=>qZ p.cps.size|.qr p=>qZ p.cps.size
 |_=>false
def wI (k:V):Bool:=Z8 k||(match k with|.none=>true|_=>false)
theorem LM (e:wI k=true):rC hp k=Y (Zh k)/\GA k=true:=by
 delta wI at e
 cases k with
 |none=>exact ⟨rfl,rfl⟩|str p=>
  have e:qZ p.cps.size=true:=by simpa[Z8] using e
  exact ⟨ql e,rfl⟩
 |qr p=>
  have e:qZ p.cps.size=true:=by simpa[Z8] using e
  exact ⟨ql e,rfl⟩
 |_=>cases e
noncomputable def s_:Fo->List V
 |.nil=>[]
 |.cons k L J T rest=>([k]++s_ T)++([L]++s_ rest)
noncomputable def A_:Fo->Nat
 |.nil=>0|.cons J W V L rest=>max (A_ L+1)<|A_ rest
noncomputable def BO:Fo->Bool
 |.nil=>true|.cons k L J T rest=>wI k&&wI L&&BO T&&BO rest
noncomputable def refsOf (a:List Nat):List V:=a.map λb=>V.ref<|b+2
def D7 (a:List O):List Nat->Fo->Prop
 |bs,.nil=>bs=[]|bs,.cons k L A T rest=>∃c j u,bs=c::j/\si a c k A L (refsOf u)/\D7 a u T/\D7 a j rest
theorem C4 (a):vF (refsOf a)=Y (a.map (·+2)):=by
 induction a with
 |nil=>rfl|cons c a e=>
  exact (Q e rfl:(vF<|refsOf a).map (_::·)=_)
noncomputable def Ku (c:Nat):List<|ba×Nat:=[("tag",c),("one",c+1)]
def ZD:eT:=⟨.function,[("one",.free),("tag",.free)],false,false,xJ.scope.more⟩
def aaz:K:=⟨ZD,[],["one","tag"],"_law_element.<locals>.<lambda>.<locals>.",N⟩
noncomputable def RA:X:=.comp (.l 1) [.l 0,.l 1] [.attr (.cell 0) "kids",.bin .Add (.mc (.l 0) "itertext" [])<|.list [.attr (.l 0) "tail"]] [[],[]] 2 0
def RQ:X:=.bin .Add (.list [.cell 1]) RA
def J0:Fn:=⟨aaz,[],[],.inr RQ⟩
theorem abR:AA g0 [] xJ=Y J0:=by kernel_rfl
theorem aho (g)(c)(a):tU g J0 (Ku c) [] a=((ev g 60).E [c+1,c] RQ ⟨[],a++[]⟩).map λb=>(b.1,b.2.hp):=by delta tU;exact Q (by kernel_rfl:wg (Ku c) J0.B.scope.names a.length=Y [c+1,c]) rfl
theorem PK (U)(y)(f)(b:St->Option (List V×St))(d:∀v,b ⟨[y,Y v],f⟩=Y ([v],⟨[y,Y v],f⟩)):∀(l:List V)(h:Option V),∃e,sY U (.l 1) N b l ⟨[y,h],f⟩=Y (l,⟨[y,e],f⟩)
 |[]=>@λh=>⟨h,rfl⟩
 |v::l=>@λh=>rM (PK U y f b d l<|Y v) λe g=>⟨e,wV rfl rfl (d v) g⟩
def gO (g:vA)(U:List Nat)(x:St):Option<|List V×St:=gT (ev g 58) U (.l 1) [] [.l 1] [.bin .Add (.mc (.l 0) "itertext" [])<|.list [.attr (.l 0) "tail"]] [[]] x
theorem acX {g:vA}{U:List Nat}{u:List V}(G:si j c tag attr tail ks)(e:wI tail=true)(i:g.zV xJ (Ku c) [] j=Y (.lst u,j))(w:u.length+([tail]).length<=65536)(y) :
  ∃h,gO g U ⟨[Y<|.ref<|c+2,y],j⟩=Y (u++[tail],⟨[Y<|.ref<|c+2,h],j⟩):=rM (PK U (Y<|.ref<|c+2) j (gT (ev g 58) U (.l 1) [] [] [] []) (λT=>rfl) (u++[tail]) y) λh n=>⟨h,Q8 (f:=[]) (tP rfl<|qx ((λk=>Vb rfl (Dg G) rfl<|Kp (G 5<|by decide) i) 54) (yB<|qG<|(λk=>xq rfl<|ME G (LM (hp:=j) e).2) 53)<|wM w) n⟩
theorem PJ (g)(M)(f)(h)(j)(e:um f (Y (h,j))=true)(b:∀(L:Fo)(t:Nat)(k T A:V)(u:List Nat),A_ L<g->wI k=true->BO L=true->si f t k T A (refsOf u)->D7 f u L->([k]++s_ L).length<=65536->
   (qy g).zV xJ (Ku t) [] f=Y (.lst<|[k]++s_ L,f)) :
  ∀(s:Fo)(G:List Nat)(y o:Option V),A_ s<=g->BO s=true->D7 f G s->(s_ s).length<=65536->
   ∃p U,sY M (.l 0) (Y (h,j)) (gO (qy g) M) (refsOf G) ⟨[y,o],f⟩=Y (s_ s,⟨[p,U],f⟩)
 |.nil=>@λG y o W W i W=>by obtain rfl:G=[]:=i;exact tG y o<|PH e
 |.cons k A T L rest=>@λG y o v x i w=>by
  obtain ⟨c,d,u,rfl,I,a,h3⟩:=i
  change max (A_ L+1) (A_ rest)<=_ at v
  change (wI k&&wI A&&BO L&&BO rest)=true at x
  simp only[aA] at x
  refine rF x λrR n=>?_;obtain ⟨⟨H,o2⟩,z⟩:=rR
  change (([k]++s_ L)++([A]++s_ rest)).length<=65536 at w
  rw[aG,aG (as:=[A])] at w
  exact rM (acX I o2 (b L c k T A u (aa (Nat.le_max_left ..) v) H z I a<|aa (aK ([k]++s_ L).length _) w) (aa (aP (aK [A].length _) ([k]++s_ L).length) w) o) λq i2=>sd (PJ g M f h j e b rest d (Y<|.ref<|c+2) q (aa (Nat.le_max_right ..) v) n h3<|by lia) λp U i3=>tG p U (J (a8 ([k]++s_ L) ..)<|wV e rfl i2 i3:_=Y (([k]++s_ L)++([A]++s_ rest),_))
theorem C7 (a):∀(m:Nat)(L:Fo)(h:Nat)(k U A:V)(g:List Nat),A_ L<m->wI k=true->BO L=true->si a h k U A (refsOf g)->D7 a g L->([k]++s_ L).length<=65536->
   (qy m).zV xJ (Ku h) [] a=Y (.lst<|[k]++s_ L,a)
 |0=>@λJ J J J J J j J J J J J=>by lia
 |m+1=>@λL h k U A g G e i h1 b w=>by
  refine Q (AB m abR rfl)<|Q (aho ..) ?_;rw[bh]
  have o:um a (Y (h+4,g.map (·+2)))=true:=by
   show (match a[h+4]? with
    |Y<|.list l=>vF l==Y (g.map (·+2))|_=>false)=true
   refine Q (h1 4<|by decide) ?_;show (vF (refsOf g)==_)=true;exact Q (C4 ..)<|beq_self_eq_true _
  replace w:=aG▸w;refine sd (PJ m [h+1,h] a (h+4) (g.map (·+2)) o (C7 a m) L g N N (bT G) i b<|by lia) λp c T=>?_
  have z:tK (ev (qy m) 58) [h+1,h] (.attr (.cell 0) "kids") ⟨[],a⟩=Y (refsOf g,Y (h+4,g.map (·+2)),⟨[],a⟩):=by refine (tP rfl<|xq (qA rfl<|h1 1<|by decide)<|Yx h1).trans ?_;show SV (h+4) ⟨[],a⟩ a[h+4]?=_;refine Q (h1 4<|by decide) ?_;show (vF<|refsOf g).map _=_;exact Q (C4 ..) rfl
  have H:(ev (qy m) 59).E [h+1,h] RA ⟨[],a⟩=Y (.lst<|s_ L,⟨[],a⟩):=qM<|qM<|DZ (n:=2) (f:=[]) z T<|by lia
  exact qM<|qx (yB<|qG<|qA rfl<|h1 0<|by decide) H<|wM w
def FN (k:V):List V:=if Zh k=true then [k] else []
theorem si.lt (G:si hp c n L A f)(H:k<6):c+k<hp.length:=by
 have e:=G k H;rw[(aD _:(yu c n L A f)[k]?=Y ((yu c n L A f)[k]'(by simpa[yu] using H)))] at e
 exact (aO.mp e).1
theorem si.app (h:si hp b tag attr tail kids)(j):si (hp++j) b tag attr tail kids:=λi G=>by refine ax (bC<|h.lt G) ?_;exact h i G
theorem si.set (G:si hp b tag attr tail kids)(o)(n:j<b\/b+6<=j):si (hp.set j o) b tag attr tail kids:=λt H=>by refine ax (aV λU:j=b+t=>n.elim (λG=>cU.mpr (aK b t) (U▸G)) λG=>cU.mpr G (U▸cM H b)) ?_;exact G t H
theorem si.Xk (h:si hp c k L A f)(j):si (hp.set (c+4)<|.list j) c k L A j:=λi G=>by
 by_cases e:i=4
 .subst e;refine Q (bu<|h.lt G) ?_;rfl
 .refine Q (aV λd=>e (oA d).symm)<|Q (h i G) ?_
  have e:∀i,i<6->i≠4->(yu c k L A f)[i]?=(yu c k L A j)[i]?:=λi G d=>by show (yu c k L A f)[i]?=((yu c k L A f).set 4<|.list j)[i]?;refine Q (aV<|fJ d) rfl
  exact e i G ‹_›
theorem DW (f j):si (f++(yu f.length tag attr tail kids++j)) f.length tag attr tail kids:=λc G=>by refine Q (sC ..)<|Q (bC<|by simpa[yu] using G) rfl
theorem Zr (m){y:Option V}(f:subB as kn kv=Y [.ref<|p+2,t,a,e])(i:mergeAll [] [] [a,e]=Y (ks,vs))(n:findKey ks vs (.str "tail")=Y y)(h:si hp p akL akH akD lk)(w:lk.length<=65536) :
  (qy<|m+2).top 129 as kn kv hp=Y (.ref<|hp.length+2,hp.set (p+4) (.list<|lk++[.ref<|hp.length+2])++yu hp.length t (.rt ks vs) (Al y .none) []):=by
 refine ax (Cw (m+1) (t:=Zn) rfl rfl f) (Q (bh ..)<|J (nJ _ _<|h.lt<|by decide) ?_:yX (rQ (ev (qy<|m+1) 60) [] Za ⟨[Y<|.ref<|p+2,Y t,Y a,Y e,N],hp++[]⟩)=_);have G:=h.app<|yu hp.length t (.rt ks vs) (Al y .none) []
 exact qH (qU (acI rfl i) rfl) (qH (qU (Vb rfl (Yw h) rfl<|Wl m t ks vs y n hp) rfl)
  <| qH (tT<|afh rfl (Yy G) (R2 G) (qG rfl)<|Wm (G 4<|by decide) w)<|tq<|sx rfl)
theorem writes (g)(y):∀(l acc:List V)(k:List O)(h:Option V),k[j]?=Y (.list acc)->acc.length+l.length<=65536->
  ∃e,uh (ev g 59) [] (.l 2) N [.expr<|.call (.l 0) [.l 2] [] []] l ⟨[Y<|.bm "list.append"<|.ref j,y,h],k⟩=Y (.next,⟨[Y<|.bm "list.append"<|.ref j,y,e],k.set j<|.list<|acc++l⟩)
 |[]=>@λacc k h f J=>by
  refine ⟨h,?_⟩;have i:k.set j (.list<|acc++[])=k:=by
   refine Q (bh ..)<|eu λo=>?_
   by_cases n:o=j
   .refine Q n ?_;clear n;refine Q (bu<|(aO.mp f).1)<|Q f rfl
   .refine Q (aV<|fJ n) rfl
  exact Q i rfl
 |x::l=>@λacc k h f w=>by
  obtain ⟨e,o⟩:=writes g y l (acc++[x]) (k.set j<|.list<|acc++[x]) (Y x) (by refine Q (bu<|(aO.mp f).1) rfl) (by simp at w ⊢;lia);rw[kh,a8] at o
  exact ⟨e,r_ rfl rfl (rL<|tT<|Ky rfl (qG rfl) f<|aa (aK _ _) w) o⟩
theorem Qa (m)(G:A_ kd<m)(e:wI tag=true)(i:wI tail=true)(n:BO kd=true)(I:si hp b tag attr tail<|refsOf ks)(a:D7 hp ks kd)(z:hp[j]?=Y (.list acc))(o:j<b\/b+6<=j)(w:acc.length+([tag]++s_ kd).length+1<=65536) :
  (qy<|m+1).top 136 [.bm "list.append"<|.ref j,.ref<|b+2] [] [] hp=Y (.none,hp.set j<|.list<|acc++(([tag]++s_ kd)++FN tail)):=by
 refine ax (Cw m (t:=t15) rfl rfl rfl) (Q (bh ..) ?_:yX (rQ (ev (qy m) 60) [] Y' ⟨[Y<|.bm "list.append"<|.ref j,Y<|.ref<|b+2,N],hp++[]⟩)=_);obtain ⟨y,H⟩:=writes (qy m) (Y<|.ref<|b+2) ([tag]++s_ kd) acc hp N z (fU w);refine qH (v8 ((tP rfl<|Vb rfl (Dg I) rfl<|Kp (I 5<|ag _)<|C7 hp m kd b tag attr tail ks G e n I a<|by lia).trans rfl) H) ?_;have u:=LM (hp:=hp.set j<|.list<|acc++([tag]++s_ kd)) i;have c:=ME (I.set (.list<|acc++([tag]++s_ kd)) o) u.2;have k:(hp.set j<|.list<|acc++([tag]++s_ kd))[j]?=Y (.list<|acc++([tag]++s_ kd)):=bu<|(aO.mp z).1
 have p:(acc++([tag]++s_ kd)).length<=65536:=Q (aG ..)<|Q (bx ..)<|by lia
 refine qH (st1:=⟨[Y<|.bm "list.append"<|.ref j,Y<|.ref<|b+2,y],hp.set j<|.list<|acc++(([tag]++s_ kd)++FN tail)⟩) ?_ rfl;unfold FN at k p c u ⊢
 cases L:Zh tail with
 |true=>
  refine tX (xq rfl c) (L▸u.1)<|rL<|(tT<|Ky rfl (qG<|xq rfl c) k p).trans<|Q (kh ..)<|Q (a8 ..)<|Q (ql rfl) rfl
 |false=>
  exact Q (qm dn)<|Q (bh ..)<|sF (xq rfl c) (L▸u.1) rfl
theorem Ah {p j:ba}(e:p.cps.toList=j.cps.toList):p=j:=qn ba.mk<|Array.toList_inj.mp e
theorem aL (e:(a&&b)=true):a=true:=(h_.mp e).1
theorem aR (e:(a&&b)=true):b=true:=(h_.mp e).2
noncomputable def zI (c:Nat)(a:List Nat)(f:List Nat):List Nat:=f.flatMap λh=>if h=c then a else [h]
theorem AQ:∀{l:List Nat},c∉l->zI c z l=l
 |[]=>@λJ=>rfl
 |k::l=>@λG=>by show (if k=c then z else [k])++zI c z l=k::l;exact Q (qm<|by rintro rfl;exact G<|.head _)<|Q (AQ λa=>G<|.tail _ a) rfl
theorem join_cons (s p q)(a):(iU s<|p::q::a).cps.toList=p.cps.toList++(s.cps.toList++(iU s<|q::a).cps.toList):=by show (p++s++iU s (q::a)).cps.toList=_;refine Q (jR ..)<|Q (jR ..)<|Q (eB ..)<|Q (eB ..)<|Q (a8 ..) rfl
theorem IW (c)(q:ba):∀a:List ba,(∀p∈a,c∉p.cps.toList)->zI c q.cps.toList (iU ⟨#[c]⟩ a).cps.toList=(iU q a).cps.toList
 |[]=>@λW=>rfl
 |[p]=>@λh=>AQ<|h p<|.head _
 |p::e::r=>@λh=>by
  have f:=IW c q (e::r) λG b=>h G<|.tail _ b
  refine Q (join_cons ..)<|Q (join_cons ..)<|J f ?_
  have i:=AQ (z:=q.cps.toList)<|h p<|.head _
  unfold zI at i f ⊢
  refine ax eE<|Q (eE ..)<|Q i<|qn _<|qn (·++_) ?_
  show (if c=c then q.cps.toList else [c])++[]=_;refine Q (ql rfl)<|Q (bh ..) rfl
theorem IZ (p j)(c):(cX p ⟨#[c]⟩ j).cps.toList=zI c j.cps.toList p.cps.toList:=by refine Q (StrLaws.replace_one ..)<|J (IW c j _<|StrLaws.split_free p c)<|Q (StrLaws.join_split ..) rfl
theorem Jz {b:Nat->List Nat}{s j:ba}(e:j.cps.toList.flatMap b=s.cps.toList.flatMap b):∀a:List ba,(iU j a).cps.toList.flatMap b=(iU s a).cps.toList.flatMap b
 |[]=>rfl|[p]=>rfl
 |p::q::r=>by refine Q (join_cons ..)<|Q (join_cons ..)<|ax eE<|Q (eE ..)<|Q (eE ..)<|Q (eE ..)<|Q (Jz e<|q::r)<|Q e rfl
theorem JA:∀a:List ba,c∈(iU z a).cps.toList->c∈z.cps.toList\/c∈(iU y a).cps.toList
 |[]=>@λh=>.inr h
 |[p]=>@λh=>.inr h
 |p::G::r=>@λh=>by
  rw[join_cons] at h ⊢
  rcases bO.mp h with h|h
  .exact .inr<|fa _ h
  .rcases bO.mp h with h|h
   .exact .inl h
   .exact (JA (G::r) h).imp id λh=>dE _<|dE _ h
theorem yU {b:Nat->List Nat}(x){j e:ba}(f:e.cps.toList.flatMap b=j.cps.toList.flatMap b):(cX x j e).cps.toList.flatMap b=x.cps.toList.flatMap b:=by
 delta cX
 split
 .rfl
 .have i:=kO x j<|x.length+1
  rw[me] at i ⊢
  rw[Jz f,i]
theorem DD (a:c∈(cX x y z).cps.toList):c∈z.cps.toList\/c∈x.cps.toList:=by
 delta cX at a
 split at a
 .exact .inr a
 .have e:=kO x y<|x.length+1
  rw[me] at e a
  exact J e<|JA _ a
theorem B1 {b:Nat->List Nat}:∀a:List Nat,(∀c∈a,1<=(b c).length)->a.length<=(a.flatMap b).length
 |[]=>@λJ=>ag _
 |c::a=>@λG=>by
  have w:=B1 a λc d=>G c<|.tail _ d
  have:=G c<|.head _
  exact Q (c9 ..)<|Q (aG ..)<|Q (aQ ..)<|aa (aN<|bx ..)<|bo this w
theorem sub_one (p)(c):hasSub ⟨#[c]⟩ p=decide (c∈p.cps.toList):=StrLaws.found_one p c
noncomputable def B6:List (ba×ba)->V->Option V
 |[]=>@λk=>Y k
 |(p,j)::l=>@λk=>sV (λe=>if hasSub p e=true then (if vE e j=true then B6 l (.str<|cX e p j) else N) else B6 l k)<|rB k
noncomputable def Uy (a:List<|ba×ba):List XS:=a.map (λb=>.rb (.cmp (.k<|.qr b.1) [.In] [.l 0]) [.asg (.l 0)<|.mt .replace (.l 0) [.k<|.qr b.1,.k<|.qr b.2]] [])++[.ret<|.l 0]
noncomputable def BD:Nat->List (ba×ba)
 |0=>[("&","&amp;"),("<","&lt;"),(">","&gt;")]
 |1=>[("&","&amp;"),("<","&lt;"),(">","&gt;"),("\"","&quot;"),("\x0d","&#13;"),("\n","&#10;"),("\t","&#09;")]
 |2=>[("&","&amp;"),(">","&gt;"),("\"","&quot;")]
 |3=>[("&","&amp;"),("<","&lt;"),(">","&gt;"),("\x0d","&#xD;")]
 |_=>[("&","&amp;"),("<","&lt;"),("\"","&quot;"),("\t","&#x9;"),("\n","&#xA;"),("\x0d","&#xD;")]
theorem OG (e:rB v=.str s):view hp v=.str s/\isFn hp v=false/\∀c,sU hp (c+1) v=Y v:=by
 cases v with
 |str j=>exact ri e rfl λJ=>rfl
 |qr j=>exact ri e rfl λJ=>rfl
 |_=>exact V.noConfusion e
theorem aaL (e:view hp v=.str p):tW hp .In (.qr j) v=Y (hasSub j p):=(qn (O8 .In (.qr j)<|.str j) e:_)
theorem BK (e:view c k=.str s)(i:vE s b=true):za c .AS k [.qr a,.qr b]=Y (.str<|cX s a b,c):=qM<|(qn (λk=>HH k [.qr a,.qr b]) e:HH (view c k) [.qr a,.qr b]=_).trans<|ql i
theorem B5:∀(l:List<|ba×ba)(k r:V),B6 l k=Y r->(∃p,rB k=.str p)->rQ (ev orc<|j+9) [] (Uy l) ⟨[Y k],[]⟩=Y (.ret r,⟨[Y r],[]⟩)
 |[],k,r,i,J=>Q (ae i) rfl|(o,e)::l,k,r,i,⟨p,n⟩=>by
  refine qJ (OG (hp:=[]) n) λz H J=>?_
  have i:(if hasSub o p=true then (if vE p e=true then B6 l (.str<|cX p o e) else N) else B6 l k)=Y r:=(qn (sV _) n).symm.trans i
  by_cases c:hasSub o p=true
  .have i:=(ql c).symm.trans i
   by_cases q:vE p e=true
   .exact u6 (tX (qW rfl rfl<|aaL z) (qn Y c)<|rL<|qU (uK rfl H (qn (BS .replace) z:_) (qo rfl<|qG rfl)<|BK z q) rfl)<|B5 l _ r ((ql q).symm.trans i) ⟨_,rfl⟩
   .exact absurd ((qm q).symm.trans i) nofun
  .exact u6 (sF (qW rfl rfl<|aaL z) (qn Y<|eq_false_of_ne_true c) rfl)<|B5 l k r ((qm c).symm.trans i) ⟨p,n⟩
noncomputable def yn:Nat->bK
 |0=>150|1=>157
 |2=>164|3=>171
 |_=>178
theorem lt5:∀c,c<5->c=0\/c=1\/c=2\/c=3\/c=4:=by decide
theorem abw (m h)(G:h<5){L:V}(e:B6 (BD h) v=Y L)(U:∃p,rB v=.str p)(T:∃p,rB L=.str p)(a):(qy<|m+1).top (yn h) [v] [] [] a=Y (L,a):=by
 refine rM U λp i=>?_
 obtain ⟨f,n⟩:=T;have z:sU [] 9 L=Y L:=(OG n).2.2 8;have H:qO (sU [] 9) [v]=Y [v]:=CF<|(OG i).2.2 8
 have c:=B5 (orc:=qy m) (j:=50) (BD h) v L e ⟨p,i⟩;have k:yX (rQ (ev (qy m) 60) [] [.yO<|Uy<|BD h] ⟨[Y v],[]⟩)=Y (L,[]):=tq (c:(ev (qy m) 60).S [] (.yO<|Uy<|BD h) ⟨[Y v],[]⟩=_);clear c e;rcases lt5 h G with rfl|rfl|rfl|rfl|rfl
 .exact rD m (t:=t17) rfl rfl rfl rfl H k z
 .exact rD m (t:=t18) rfl rfl rfl rfl H k z
 .exact rD m (t:=t19) rfl rfl rfl rfl H k z
 .exact rD m (t:=t20) rfl rfl rfl rfl H k z
 .exact rD m (t:=t21) rfl rfl rfl rfl H k z
noncomputable def Dy:List Nat:=[60,62,34,13,10,9]
noncomputable def vf:List Nat:=[38,97,109,112,59]
noncomputable def qz (a:List Nat):ba:=⟨a.toArray⟩
theorem J_ {p:ba}(b:∀c∈Dy,c∉p.cps.toList):∀a:List<|ba×ba,(∀f∈a,∃c∈Dy,f.1=⟨#[c]⟩)->B6 a (.str p)=Y (.str p)
 |[]=>@λJ=>rfl
 |(j,e)::a=>@λd=>by
  refine qt (d _<|.head _) λc g h=>?_
  exact (qm (Q (show j=_ from h)<|Q (sub_one ..) λn=>b c g<|of_decide_eq_true n:¬hasSub j p=true)).trans<|J_ b a λf G=>d f<|.tail _ G
theorem Sv:∀c,c<5->∀b∈(BD c).drop 1,∃h∈Dy,b.1=⟨#[h]⟩:=by decide +kernel
theorem W_:∀c,c<5->BD c=(qz [38],qz vf)::(BD c).drop 1:=by decide +kernel
theorem Mi (m h)(G:h<5)(e:rB v=.str p)(c:38∈p.cps.toList)(b:∀t∈Dy,t∉p.cps.toList)(w:p.cps.toList.length<=1000)(a) :
  (qy<|m+1).top (yn h) [v] [] [] a=Y (.str<|qz<|zI 38 vf p.cps.toList,a):=by
 refine abw m h G (Q (W_ h G)<|(qn (sV _) e).trans ?_) ⟨p,e⟩ ⟨_,rfl⟩ a;show (if hasSub (qz [38]) p=true then (if vE p (qz vf)=true then B6 ((BD h).drop 1) (.str<|cX p (qz [38])<|qz vf) else N) else _)=_;refine ax (ql<|(sub_one p 38).trans<|decide_eq_true c) ?_;rewrite [ql];refine Q (Ah<|IZ p (qz vf) 38:cX p (qz [38]) (qz vf)=qz (zI 38 vf p.cps.toList)) ?_
 .refine J_ (λt H T=>qt (fZ.mp<|show t∈zI 38 vf p.cps.toList from T) λz d T=>?_) _<|Sv h G
  by_cases A:z=38
  .rw[ql A] at T
   exact absurd T<|(by decide:∀t∈Dy,t∉vf) t H
  .rw[qm A] at T
   exact b t H<|Q (aM.mp T) d
 .delta vE;have i:p.length=p.cps.toList.length:=cF.symm;have n:(qz vf).length=5:=rfl;exact Q i<|Q n<|decide_eq_true<|aa (bo w<|cy 5<|cm w)<|by decide
theorem Xb {a:List O}{p:ba}{U:List Nat}(e:p.cps.toList=U) {c j:Nat}(i:U[c]?=Y j) (w:U.length<=65536):sf a (.qr p) (.int c)=Y (.str<|Vm.one j):=by refine (Q (J e cF.symm:p.cps.size=U.length)<|Q (ql<|show qZ U.length=true from decide_eq_true w)<|Q (zK<|(aO.mp i).1)<|Q (d8 ..)<|J fO<|Q e<|Q i ?_:(if qZ p.cps.size=true then (place (c:Int) p.cps.size).bind λT=>(p.cps[T]?).map λj=>V.str<|Vm.one j else N)=_);rfl
theorem Zu (k L A T):subB [k,L,A] ["tail"] [T]=Y [k,L,A,.rt [.str "tail"] [T]]:=ql ⟨rfl,.inr rfl⟩
noncomputable def qB:List Nat:=[102,104,107,108,114,115,116]
noncomputable def rq:ba:="fhklrst"
theorem A2:rq.cps.toList=qB:=by kernel_rfl
noncomputable def xh (c:Nat):List Nat:=38::(aw c [97,109,112,59]).flatten
def Iv:Nat->V
 |0=>.qr "&"|d+1=>.str<|qz<|xh<|d+1
theorem Fw:("&":ba)=qz [38]:=by kernel_rfl
theorem FA:∀d,rB (Iv d)=.str (qz<|xh d)
 |0=>qn V.str Fw|d+1=>rfl
theorem CR:∀d,∀i∈(aw d [97,109,112,59]).flatten,i=97\/i=109\/i=112\/i=59
 |0=>@λi h=>nomatch h
 |d+1=>@λi h=>by
  rw[eD,kj] at h
  rcases bO.mp h with h|h
  .simpa using h
  .exact CR d i h
theorem YG (c):zI 38 vf (xh c)=xh (c+1):=by
 have e:zI 38 vf (aw c [97,109,112,59]).flatten=(aw c [97,109,112,59]).flatten:=AQ λh=>by have:=CR c 38 h;lia
 exact (Q e rfl:vf++zI 38 vf (aw c [97,109,112,59]).flatten=_)
theorem KV:∀d,(aw d [97,109,112,59]).flatten.length=4*d
 |0=>rfl|d+1=>by
  refine Q (eD ..)<|Q (kj ..)<|ax aG<|Q (KV d) ?_
  show 4+4*d=_;exact bx _ _
theorem Bi (c):(xh c).length=1+4*c:=by delta xh;exact ax aQ<|Q (KV ..)<|bx _ _
theorem U9 (c):∀i∈Dy,i∉xh c:=λi a h=>by
 rcases aE.mp h with h|h
 .subst h;exact absurd a (by decide)
 .rcases CR c i h with rfl|rfl|rfl|rfl<;>exact absurd a (by decide)
abbrev uA (f d g:Nat->Int)(c i:Nat)(k:V)(y j e T:Option V):List<|Option V:=[Y<|.qr rq,Y<|.lst<|rg f c,Y<|.lst<|rg d c,Y<|.lst<|rg g c,Y<|.con<|.ref<|yn i,Y k,Y<|.ref 0,Y<|.ref 7,Y<|.ref 8,y,j,e,T]
section
variable {m h n:Nat}(b:h<5) {ow ab ti:Nat->Int}{last:V}
include b
theorem G0 (y j):∀(ks:List Nat)(T:Nat)(e:Option V),ks.length+T<=100->
  ∃U,uh (ev (qy<|m+1) 58) [] (.l 12) N [.asg (.l 10)<|.call (.l 4) [.l 10] [] []] (nats ks) ⟨uA ow ab ti n h last y (Y<|Iv T) j e,hp⟩=Y (.next,⟨uA ow ab ti n h last y (Y<|Iv<|ks.length+T) j U,hp⟩)
 |[]=>@λT e J=>⟨e,Q (fL ..)<|Q (bZ ..) rfl⟩
 |x::ks=>@λT e w=>by
  replace w:=aQ▸w;refine rM (G0 y j (hp:=hp) ks (T+1) (Y<|.int x)<|aa (aN<|cV _ T 1) w) λU f=>?_
  have i:=Mi m h b (FA T) (iQ ..) (U9 T) (aa (aN<|Bi T)<|aa (aP (aW 4<|aa (cp T _) w) 1)<|by decide) hp;rw[show (qz<|xh T).cps.toList=xh T from rfl,YG] at i
  exact Q (aQ ..)<|Q (b9 ..)<|Q (bx 1 T)<|⟨U,r_ rfl rfl (rL<|qU (Cn rfl (qG rfl) rfl i) rfl) f⟩
end
noncomputable def eb:Nat->Nat
 |0=>1|k+1=>9+6*k
def wG (c:Nat->Int):Nat->V
 |0=>.qr ""|k+1=>.str<|Vm.one<|qB.getD (c k+3).toNat 0
def wi (c:Nat->Int)(o:V):Nat->V
 |0=>o|k+1=>Iv (c<|k+1).toNat
noncomputable def vl (k:V)(o:Int):V:=.rt [.str "tail",.str "own"] [k,.int o]
def uw (c:Nat->Int)(o:V):Nat->V
 |0=>.none|k+1=>wi c o k
def Bh (ow d:Nat->Int)(o:V):Nat->V
 |0=>.rt [] []|k+1=>vl (wi d o k)<|ow k
noncomputable def rr (pr:Nat->Nat)(c i:Nat):List Nat:=((aq c).filter λt=>decide<|pr t=i).map (·+1)
theorem Jy {c:Nat->Nat}(d:∀t,t<k->c t<=t)(w:k<=i):rr c k i=[]:=by
 delta rr;rw[mW.mpr]
 .rfl
 .intro t a e;exact b8 _<|ai (bF.mp a)<|aa w<|of_decide_eq_true e▸d t (bF.mp a)
theorem XR {c:Nat->Nat}:rr c (k+1) i=rr c k i++if c k=i then [k+1] else []:=by
 delta rr;refine Q (fK ..)<|Q (iS ..)<|ax bN<|Q (dK ..) ?_
 by_cases e:c k=i
 .exact Q (ql e)<|Q (ql<|decide_eq_true e) rfl
 .exact Q (qm e)<|Q (qm λj=>e<|of_decide_eq_true j) rfl
structure KY (ow ti:Nat->Int) (last:V) (pr:Nat->Nat) (k:Nat) (hp:List O):Prop where
 len:hp.length=9+6*k
 h0:hp[0]?=some (.list [])
 h7:hp[7]?=some (.list<|refsOf<|(aq<|k+1).map eb)
 h8:hp[8]?=some (.list<|aw k<|.bool true)
 Rm:∀i,i<=k->si hp (eb i) (wG ow i) (Bh ow ti last i) (uw ti last i) (refsOf<|(rr pr k i).map eb)
theorem abz (d:c≠i):eb c+6<=eb i\/eb i+6<=eb c:=by
 cases c with
 |zero=>cases i with
  |zero=>exact absurd rfl d|succ i=>exact .inl<|aa (by decide)<|aK 9 _
 |succ c=>cases i with
  |zero=>exact .inr<|aa (by decide)<|aK 9 _
  |succ i=>exact (Nat.lt_or_gt_of_ne λU=>d<|qn _ U).imp (λT=>aP (aW 6 T) 9) λT=>aP (aW 6 T) 9
theorem Fh (c):(∀i,i=7\/i=8->i<eb c\/eb c+6<=i)/\eb c+4≠7/\eb c+4≠8/\0<eb c:=by
 cases c with
 |zero=>exact tb (λi h=>.inr<|h.elim (·▸by decide) (·▸by decide)) (by decide) (by decide)<|ag _
 |succ c=>exact tb (λi h=>.inl<|ai (h.elim (·▸by decide) (·▸by decide):i<9)<|aK ..) (bw<|ai (by decide)<|aa (aK 9 _)<|aK ..) (bw<|ai (by decide)<|aa (aK 9 _)<|aK ..)<|ai (by decide)<|aK 9 _
def GW (a:List O)(c k:Nat)(lk:List V)(o L A:V):List O:=((a.set (eb c+4) (.list<|lk++[.ref<|eb (k+1)+2])++yu (eb<|k+1) o L A []).set 7<|.list<|refsOf<|(aq<|k+2).map eb).set 8<|.list<|aw (k+1)<|.bool true
theorem KY.step {c d:Nat->Int}{pr:Nat->Nat}(j:KY c d last pr k hp)(o:∀p,p<=k->pr p<=p) :
  KY c d last pr (k+1)<|GW hp (pr k) k (refsOf<|(rr pr k<|pr k).map eb) (wG c<|k+1) (Bh c d last<|k+1)<|uw d last<|k+1:=by
 have e:=j.len;have i:(GW hp (pr k) k (refsOf<|(rr pr k<|pr k).map eb) (wG c<|k+1) (Bh c d last<|k+1)<|uw d last<|k+1).length=9+6*(k+1):=by
  delta GW;refine Q (cN ..)<|Q (cN ..)<|Q (aG ..)<|Q (cN ..)<|Q e ?_
  show 9+6*k+6=_;rfl
 refine ⟨i,?_,?_,?_,λt w=>?_⟩
 .delta GW;refine Q (aV<|by decide)<|Q (aV<|by decide)<|Q (bC<|by refine Q (cN ..) ?_;lia)<|Q (aV<|gb _) ?_
  exact j.h0
 .delta GW;refine Q (aV<|by decide)<|Q (bu<|by refine Q (aG ..)<|Q (cN ..) ?_;lia) rfl
 .delta GW;refine ax (bu<|by refine Q (cN ..)<|Q (aG ..)<|Q (cN ..) ?_;lia) rfl
 .skip
  refine si.set (si.set ?_ _<|(Fh t).1 7<|.inl rfl) _<|(Fh t).1 8<|.inr rfl
  by_cases q:t=k+1
  .subst q;refine Q (Jy (λp G=>o p<|bT G)<|ag _) ?_;have:=DW (tag:=wG c<|k+1) (attr:=Bh c d last<|k+1) (tail:=uw d last<|k+1) (kids:=[]) (hp.set (eb (pr k)+4)<|.list<|refsOf ((rr pr k<|pr k).map eb)++[.ref<|eb (k+1)+2]) [];rw[cN,e,bh] at this
   exact this
  .have w:t<=k:=by lia
   refine si.app ?_ _;refine Q (XR ..) ?_
   by_cases z:pr k=t
   .subst z;exact Q (ql rfl)<|Q (bN ..)<|Q (show refsOf ((rr pr k<|pr k).map eb++[k+1].map eb)=refsOf ((rr pr k<|pr k).map eb)++[.ref<|eb (k+1)+2] from bN)<|(j.Rm _ w).Xk _
   .exact Q (qm z)<|Q (bh ..)<|(j.Rm t w).set _<|(abz z).imp (ai<|cM (by decide) _) (aa ·<|aK ..)
theorem Wj {o:V}(e:findKey u5 vs' o=Y (Y I))(j:rU 8 b I=Y true)(q:zT ks vs u5 vs'=Y true):zT (o::ks) (b::vs) u5 vs'=Y true:=by
 show (match findKey u5 vs' o with
  |Y<|Y I=>(match rU 8 b I,zT ks vs u5 vs' with
   |Y a,Y d=>Y<|a&&d
   |J,W=>N)
  |Y N=>Y false|N=>N)=_
 refine Q e ?_;show (match rU 8 b I,zT ks vs u5 vs' with
   |Y a,Y d=>Y<|a&&d
   |J,W=>N)=_
 exact Q j<|Q q rfl
theorem Wi (e:wI q=true):tW hp .Eq (vl q o) (vl q o)=Y true:=by
 have j:rU 8 q q=Y true:=by
  cases q with
  |none=>rfl|str s=>exact qn Y<|decide_eq_true rfl
  |qr s=>exact qn Y<|decide_eq_true rfl
  |_=>exact fT e
 exact (Wj rfl j<|Wj rfl (qn Y<|decide_eq_true rfl) rfl:zT [.str "tail",.str "own"] [q,.int o] [.str "tail",.str "own"] [q,.int o]=Y true)
theorem Kn {z:St}(e:sJ (ev orc<|j+1) [] [x,y] z=Y ([t,.int o],z)):(ev orc<|j+2).E [] (.dict [.k<|.qr "tail",.k<|.qr "own"] [x,y]) z=Y (vl t o,z):=by
 have q:rS (ev orc<|j+1) [] (.dict [.k<|.qr "tail",.k<|.qr "own"] [x,y]) z=Y (.dict [.str "tail",.str "own"] [t,.int o],z):=by
  show (match sJ (ev orc<|j+1) [] [.k<|.qr "tail",.k<|.qr "own"] z with
   |Y (a,z)=>(match sJ (ev orc<|j+1) [] [x,y] z with
    |Y (g,z)=>if (a.map rB).all uX=true/\Cg (a.map rB)=true/\a.length=g.length then Y (O.dict (a.map rB) g,z) else N
    |N=>N)
   |N=>N)=_
  refine Q (qo rfl<|qG rfl) ?_;dsimp only;exact Q e rfl
 exact qM q
def RP:List XS:=[.asg (.tup [.l 10,.l 11])<|.tup [.rb (.cmp (.l 9) [.Gt] [.i 0]) (.k<|.qr "&")<|.l 5,.dict [.k<|.qr "tail",.k<|.qr "own"] [.k<|.qr "?",.sub (.l 1)<|.l 9]],.uY (.l 12) (.bf .range [.sub (.l 3)<|.l 9]) [.asg (.l 10)<|.call (.l 4) [.l 10] [] []],.expr<|.mt .append (.l 7) [.call (.k<|.con<|.ref 129) [.sub (.l 7)<|.bin .Add (.sub (.l 2)<|.l 9)<|.i 1,.sub (.l 0)<|.bin .Add (.sub (.l 1)<|.l 9)<|.i 3,.l 11] ["tail"] [.l 10]],.expr<|.mt .append (.l 8) [.and [.cmp (.attr (.sub (.l 7)<|.un .USub<|.i 1) "attrib") [.Eq] [.dict [.k<|.qr "tail",.k<|.qr "own"] [.l 10,.sub (.l 1)<|.l 9]],.cmp (.l 11) [.Eq] [.dict [.k<|.qr "tail",.k<|.qr "own"] [.k<|.qr "?",.sub (.l 1)<|.l 9]]]]]
def Jf (o:V):Prop:=o=.qr "&"\/o=.none\/o=.qr ""
theorem Zj:∀d,d<=100->wI (Iv d)=true
 |0=>@λJ=>rfl
 |d+1=>@λh=>by refine (Q (p_ ..)<|Q (decide_eq_true_eq ..) ?_:(decide ((qz<|xh<|d+1).cps.size<=65536)||false)=true);have:(qz<|xh<|d+1).cps.size=(xh<|d+1).length:=rfl;exact Q this<|Q (Bi ..)<|aa (aP (aW 4 h) 1)<|by decide
theorem PE {I:Nat->Int}{o:V}(z:∀k,0<=I k/\I k<=3)(a:Jf o):∀k,wI (wi I o k)=true
 |0=>by rcases a with rfl|rfl|rfl<;>rfl
 |k+1=>Zj _ (aa (nt.mpr (z _).2:_<=3)<|by decide)
section
variable (U:h<5) {c i f:Nat->Int}{p:Nat->Nat}(T:n<=5) (H:∀k,k<n->-3<=c k/\c k<=3) (w:∀k,0<=f k/\f k<=3) (A:f 0=0) (L:Jf last) (G:∀k,k<n->p k<=k/\i k+1=(p k:Int))
include U T H w A L G
theorem Qr {t:Nat}(a:t<n)(I:KY c f last p t hp)(y g e):∃s' v,rQ (ev (qy (m+2)) 59) [] RP ⟨uA c i f n h last (Y (.int t)) y g e,hp⟩ =
  Y (.next,⟨uA c i f n h last (Y (.int t)) (Y (wi f last t)) (Y (vl (.qr "?") (c t))) s',v⟩)/\KY c f last p (t+1) v:=by
 have FZ:n<=60:=aa T (by decide);obtain ⟨b,yt⟩:=G t a;have e1:(ev (qy (m+2)) 59).S [] (.asg (.tup [(.l 10),(.l 11)]) (.tup [(.rb (.cmp (.l 9) [.Gt] [(.i 0)]) (.k (.qr "&")) (.l 5)),(.dict [(.k (.qr "tail")),(.k (.qr "own"))] [(.k (.qr "?")),(.sub (.l 1) (.l 9))])])) ⟨uA c i f n h last (Y (.int t)) y g e,hp⟩ =
   Y (.next,⟨uA c i f n h last (Y (.int t)) (Y (if 0<t then .qr "&" else last)) (Y (vl (.qr "?") (c t))) e,hp⟩):=by
  have z:(ev (qy (m+2)) 57).E [] (.rb (.cmp (.l 9) [.Gt] [(.i 0)]) (.k (.qr "&")) (.l 5)) ⟨uA c i f n h last (Y (.int t)) y g e,hp⟩=Y (if 0<t then .qr "&" else last,⟨uA c i f n h last (Y (.int t)) y g e,hp⟩):=by
   by_cases q:0<t
   .exact Q (ql q) (vC (qW rfl rfl (Ad _ _)) (dt (bq.mpr q)) rfl)
   .exact Q (qm q) (wB (qW rfl rfl (Ad _ _)) (df λs=>q (bq.mp s)) rfl)
  have hd:(ev (qy (m+2)) 57).E [] (.dict [(.k (.qr "tail")),(.k (.qr "own"))] [(.k (.qr "?")),(.sub (.l 1) (.l 9))]) ⟨uA c i f n h last (Y (.int t)) y g e,hp⟩=Y (vl (.qr "?") (c t),⟨uA c i f n h last (Y (.int t)) y g e,hp⟩):=Kn (qo rfl (qG (rm rfl rfl (uz c FZ a))));exact qU (sW (qo z (qG hd))) rfl
 have e2:∃s',(ev (qy (m+2)) 59).S [] (.uY (.l 12) (.bf .range [(.sub (.l 3) (.l 9))]) [(.asg (.l 10) (.call (.l 4) [(.l 10)] [] []))]) ⟨uA c i f n h last (Y (.int t)) (Y (if 0<t then .qr "&" else last)) (Y (vl (.qr "?") (c t))) e,hp⟩ =
   Y (.next,⟨uA c i f n h last (Y (.int t)) (Y (wi f last t)) (Y (vl (.qr "?") (c t))) s',hp⟩):=by
  obtain ⟨d,hd⟩:=dQ (w t).1;have hd3:d<=3:=bA.mp<|hd▸(w t).2
  have Ac:=vD (orc:=qy (m+2)) (j:=57) (M:=[]) (x:=.sub (.l 3) (.l 9)) (st:=⟨uA c i f n h last (Y (.int t)) (Y (if 0<t then .qr "&" else last)) (Y (vl (.qr "?") (c t))) e,hp⟩) (rm rfl rfl ((uz f FZ a).trans (by refine Q hd rfl))) (aa hd3 (by decide))
  cases t with
  |zero=>
   have:d=0:=by rw[A] at hd;lia
   subst this;exact ⟨e,v8 Ac rfl⟩
  |succ t=>
   refine rM (G0 (m:=m+1) (n:=n) U (ow:=c) (ab:=i) (ti:=f) (last:=last) (Y (.int (t+1:Nat))) (Y (vl (.qr "?") (c (t+1)))) (hp:=hp) (aq d) 0 e (Q (aU ..) (bJ hd3))) λs' g1=>?_
   rw[aU,gV] at g1
   exact Q (by show Iv (f (t+1)).toNat=_;exact Q hd rfl:wi f last (t+1)=Iv d) ⟨s',v8 Ac g1⟩
 refine rM e2 λs' e2=>?_
 have hrl:(refsOf ((aq (t+1)).map eb)).length=t+1:=by delta refsOf;refine Q (ao ..) (Q (by refine Q (ao ..) (Q (aU ..) rfl):((aq (t+1)).map eb).length=t+1) rfl)
 have hlk:(refsOf ((rr p t (p t)).map eb)).length<=60000:=by delta refsOf rr;exact Q (ao ..) (Q (ao ..) (Q (ao ..) (aa (cE ..) (by refine Q (aU ..) ?_;lia))))
 have ah0:sf hp (.ref 7) (.int (i t+1))=Y (.ref (eb (p t)+2)):=by refine Q yt (uS (rY I.h7) (.inl rfl) ?_ (by refine Q hrl ?_;lia));delta refsOf;refine Q aZ (Q aZ (Q (fy (by lia)) ?_));rfl
 obtain ⟨u,hu⟩:=dQ (Si<|H t a);have ahW:sf hp (.qr rq) (.int (c t+3))=Y (wG c (t+1)):=by refine Q hu (Q (by show V.str (Vm.one (qB.getD (c t+3).toNat 0))=_;exact Q hu rfl:wG c (t+1)=.str (Vm.one (qB.getD u 0))) (Xb A2 (Q cq (Q (aD (show u<qB.length from (Sh (H t a) hu:u<7))) ?_)) (by decide)));rfl
 have OK:=Zr (m) (Zu (.ref (eb (p t)+2)) (wG c (t+1)) (vl (.qr "?") (c t)) (wi f last t)) rfl rfl (I.Rm (p t) b) (aa hlk (by decide));rw[I.len] at OK
 have hI:=I.step (λj hj=>(G j (av hj a)).1);generalize hA:hp.set (eb (p t)+4) (.list (refsOf ((rr p t (p t)).map eb)++[.ref (eb (t+1)+2)]))++yu (eb (t+1)) (wG c (t+1)) (Bh c f last (t+1)) (uw f last (t+1)) []=vM;rw[(by delta GW;refine Q hA rfl:GW hp (p t) t (refsOf ((rr p t (p t)).map eb)) (wG c (t+1)) (Bh c f last (t+1)) (uw f last (t+1))=(vM.set 7 (.list (refsOf ((aq (t+2)).map eb)))).set 8 (.list (aw (t+1) (.bool true))))] at hI
 have hpl:(hp.set (eb (p t)+4) (.list (refsOf ((rr p t (p t)).map eb)++[.ref (eb (t+1)+2)]))).length=eb (t+1):=(cN ..).trans I.len;have hA7:vM[7]?=Y (.list (refsOf ((aq (t+1)).map eb))):=by refine J hA (Q (bC (by refine Q hpl ?_;show 7<9+6*t;lia)) (Q (aV (Fh (p t)).2.1) ?_));exact I.h7
 have hA8:vM[8]?=Y (.list (aw t (.bool true))):=by refine J hA (Q (bC (by refine Q hpl ?_;show 8<9+6*t;exact aK _ _)) (Q (aV (Fh (p t)).2.2.1) ?_));exact I.h8
 have hEl:si (vM.set 7 (.list (refsOf ((aq (t+2)).map eb)))) (eb (t+1)) (wG c (t+1)) (Bh c f last (t+1)) (uw f last (t+1)) []:=by
  refine si.set ?_ _ ((Fh (t+1)).1 7 (.inl rfl));have:=DW (tag:=wG c (t+1)) (attr:=Bh c f last (t+1)) (tail:=uw f last (t+1)) (kids:=[]) (hp.set (eb (p t)+4) (.list (refsOf ((rr p t (p t)).map eb)++[.ref (eb (t+1)+2)]))) [];rw[hpl,bh,hA] at this
  exact this
 have hr2:refsOf ((aq (t+1)).map eb)++[.ref (eb (t+1)+2)]=refsOf ((aq (t+2)).map eb):=by refine Q (fK (n:=t+1)) (Q (bN ..) ?_);delta refsOf;exact Q (bN ..) rfl
 have hB7:(vM.set 7 (.list (refsOf ((aq (t+2)).map eb))))[7]?=Y (.list (refsOf ((aq (t+2)).map eb))):=bu (DJ hA7);have o:(vM.set 7 (.list (refsOf ((aq (t+2)).map eb))))[8]?=Y (.list (aw t (.bool true))):=(aV (by decide)).trans hA8;generalize hB:vM.set 7 (.list (refsOf ((aq (t+2)).map eb)))=EY at hI hEl hB7 o
 have e3:(ev (qy (m+2)) 59).S [] (.expr (.mt .append (.l 7) [(.call (.k (.con (.ref 129))) [(.sub (.l 7) (.bin .Add (.sub (.l 2) (.l 9)) (.i 1))),(.sub (.l 0) (.bin .Add (.sub (.l 1) (.l 9)) (.i 3))),(.l 11)] ["tail"] [(.l 10)])])) ⟨uA c i f n h last (Y (.int t)) (Y (wi f last t)) (Y (vl (.qr "?") (c t))) s',hp⟩=Y (.next,⟨uA c i f n h last (Y (.int t)) (Y (wi f last t)) (Y (vl (.qr "?") (c t))) s',EY⟩):=by
  have:=tT (CX (x:=.l 7) (st:=⟨uA c i f n h last (Y (.int t)) (Y (wi f last t)) (Y (vl (.qr "?") (c t))) s',hp⟩) rfl I.h7 (qG (G_ (qo (rm rfl (qx (rm rfl rfl (uz i FZ a)) rfl (rV _ _)) ah0) (qo (rm rfl (qx (rm rfl rfl (uz c FZ a)) rfl (rV _ _)) ahW) (qG rfl))) (qG rfl) (J hA OK):(ev (qy (m+2)) 57).E [] (.call (.k (.con (.ref 129))) [(.sub (.l 7) (.bin .Add (.sub (.l 2) (.l 9)) (.i 1))),(.sub (.l 0) (.bin .Add (.sub (.l 1) (.l 9)) (.i 3))),(.l 11)] ["tail"] [(.l 10)]) ⟨uA c i f n h last (Y (.int t)) (Y (wi f last t)) (Y (vl (.qr "?") (c t))) s',hp⟩=Y (.ref (eb (t+1)+2),⟨uA c i f n h last (Y (.int t)) (Y (wi f last t)) (Y (vl (.qr "?") (c t))) s',vM⟩))) hA7 (by refine Q hrl ?_;lia));rw[hr2,hB] at this
  exact this
 have E4:sf EY (.ref 7) (.int (-1))=Y (.ref (eb (t+1)+2)):=by
  have hl2:(refsOf ((aq (t+2)).map eb)).length=t+2:=by delta refsOf;refine Q (ao ..) (Q (ao ..) (Q (aU ..) rfl))
  refine uS (k:=t+1) (rY hB7) (.inr (by refine Q hl2 ?_;lia)) ?_ (by refine Q hl2 ?_;lia);delta refsOf;refine Q aZ (Q aZ (Q (fy (ag _)) ?_));rfl
 have e4:(ev (qy (m+2)) 59).S [] (.expr (.mt .append (.l 8) [(.and [(.cmp (.attr (.sub (.l 7) (.un .USub (.i 1))) "attrib") [.Eq] [(.dict [(.k (.qr "tail")),(.k (.qr "own"))] [(.l 10),(.sub (.l 1) (.l 9))])]),(.cmp (.l 11) [.Eq] [(.dict [(.k (.qr "tail")),(.k (.qr "own"))] [(.k (.qr "?")),(.sub (.l 1) (.l 9))])])])])) ⟨uA c i f n h last (Y (.int t)) (Y (wi f last t)) (Y (vl (.qr "?") (c t))) s',EY⟩=Y (.next,⟨uA c i f n h last (Y (.int t)) (Y (wi f last t)) (Y (vl (.qr "?") (c t))) s',EY.set 8 (.list (aw (t+1) (.bool true)))⟩):=by
  have:=tT (CX (x:=.l 8) (st:=⟨uA c i f n h last (Y (.int t)) (Y (wi f last t)) (Y (vl (.qr "?") (c t))) s',EY⟩) rfl o (qG (Sf (qW (xq (rm rfl (xW rfl) E4) (R1 hEl rfl)) (Kn (qo rfl (qG (rm rfl rfl (uz c FZ a))))) (Wi (PE w L t)):(ev (qy (m+2)) 56).E [] (.cmp (.attr (.sub (.l 7) (.un .USub (.i 1))) "attrib") [.Eq] [(.dict [(.k (.qr "tail")),(.k (.qr "own"))] [(.l 10),(.sub (.l 1) (.l 9))])]) ⟨uA c i f n h last (Y (.int t)) (Y (wi f last t)) (Y (vl (.qr "?") (c t))) s',EY⟩=Y (.bool true,⟨uA c i f n h last (Y (.int t)) (Y (wi f last t)) (Y (vl (.qr "?") (c t))) s',EY⟩)) rfl (qW rfl (Kn (qo rfl (qG (rm rfl rfl (uz c FZ a))))) (Wi rfl):(ev (qy (m+2)) 56).E [] (.cmp (.l 11) [.Eq] [(.dict [(.k (.qr "tail")),(.k (.qr "own"))] [(.k (.qr "?")),(.sub (.l 1) (.l 9))])]) ⟨uA c i f n h last (Y (.int t)) (Y (wi f last t)) (Y (vl (.qr "?") (c t))) s',EY⟩=Y (.bool true,⟨uA c i f n h last (Y (.int t)) (Y (wi f last t)) (Y (vl (.qr "?") (c t))) s',EY⟩)))) o (by refine Q (g7 ..) ?_;lia));rw[List.replicate_succ'.symm] at this
  exact this
 exact (wy s' _ (rf e1 (rf e2 (rf e3 (rL e4)))) hI)
end
section
variable (tg tl at_:Nat->V) (kid:Nat->List Nat)
noncomputable def G3:Nat->List Nat->Fo
 |0,J=>.nil|J+1,[]=>.nil
 |m+1,h::r=>.cons (tg h) (tl h) (at_ h) (G3 m (kid h)) (G3 m r)
noncomputable def full:Nat->List Nat->Bool
 |0,l=>l.isEmpty|J+1,[]=>true
 |m+1,h::r=>full m (kid h)&&full m r
noncomputable def Ax:Nat->List Nat->List (Bool×Nat)
 |0,J=>[]
 |J+1,[]=>[]
 |m+1,h::r=>((true,h)::Ax m (kid h))++((false,h)::Ax m r)
variable {tg tl at_ kid}
theorem JX (G:∀h,h<=n->si hp (eb h) (tg h) (at_ h) (tl h) (refsOf ((kid h).map eb)))(a:∀h,∀t∈kid h,t<=n):∀(m:Nat)(l:List Nat),full kid m l=true->(∀t∈l,t<=n)->D7 hp (l.map eb) (G3 tg tl at_ kid m l)
 |0,l=>@λe J=>by refine Q (f9.mp e) ?_;rfl
 |J+1,[]=>@λJ J=>rfl
 |m+1,h::r=>@λe b=>(AJ (eb h) (r.map eb) ((kid h).map eb) rfl (G h (b h (.head _))) (JX G a m _ (aL e) (a h)) (JX G a m r (aR e) λt c=>b t (.tail _ c)))
theorem F2:∀(m:Nat)(l:List Nat),s_ (G3 tg tl at_ kid m l)=(Ax kid m l).map λb=>if b.1=true then tg b.2 else tl b.2
 |0,l=>rfl|J+1,[]=>rfl
 |m+1,h::r=>by refine (?_:([tg h]++s_ (G3 tg tl at_ kid m (kid h)))++([tl h]++s_ (G3 tg tl at_ kid m r))=_);refine Q (F2 m ..) ?_;refine Q (F2 m ..) ?_;refine Q (show Ax kid (m+1) (h::r)=((true,h)::Ax kid m (kid h))++((false,h)::Ax kid m r) from rfl) (Q (bN ..) ?_);rfl
theorem JW (G:∀c,wI (tg c)=true)(a:∀c,wI (tl c)=true):∀(m:Nat)(l:List Nat),BO (G3 tg tl at_ kid m l)=true
 |0,l=>rfl|J+1,[]=>rfl
 |m+1,c::r=>by refine (?_:(wI (tg c)&&wI (tl c)&&BO _&&BO _)=true);refine Q (G ..) ?_;refine Q (a ..) ?_;rw[JW G a m,JW G a m];rfl
theorem F3:∀(m:Nat)(l:List Nat),A_ (G3 tg tl at_ kid m l)<=m
 |0,l=>ag _|J+1,[]=>dZ _
 |m+1,h::r=>by exact Nat.max_le.mpr ⟨cm (F3 m (kid h)),fj (F3 m r)⟩
end
def AV (a:List V):Option ba:=(strsOf a).bind λa=>if nr ("":ba) a then Y (lP ("":ba) a) else N
theorem QP {f:List V}(e:view hp (rB k)=.lst f)(i:AV f=Y s):za hp .Ez (.qr "") [k]=Y (.str s,hp):=by
 show ((lV (λf=>(strsOf f).bind λf=>if nr ("":ba) f then Y (V.str (lP ("":ba) f)) else N) (view hp (rB k))).map λL=>(L,hp))=_;refine Q e ?_;delta AV at i
 show ((strsOf f).bind λf=>if nr ("":ba) f then Y (V.str (lP ("":ba) f)) else N).map _=_
 cases z:strsOf f with
 |none=>rw[z] at i;exact nS i
 |some j=>
  rw[z,d8] at i
  by_cases H:nr ("":ba) j
  .rw[ql H] at i
   refine Q (d8 ..) (Q (ql H) (J (ae i) ?_));rfl
  .rw[qm H] at i;exact nS i
theorem Wf:∀(l:List ba)(a:Array Nat),(l.foldl (λa p=>a++("":ba).cps++p.cps) a).toList=a.toList++l.flatMap (·.cps.toList)
 |[]=>@λa=>(bh _).symm
 |x::l=>@λa=>by have e:("":ba).cps.toList=[]:=rfl;refine Q du ?_;rw[Wf l,eB,eB,e,bh,c9,a8]
theorem join_list:∀a:List ba,(lP "" a).cps.toList=a.flatMap (·.cps.toList)
 |[]=>rfl|x::a=>Wf a x.cps
theorem JV:∀(l:List ba)(c h:Nat),(∀x∈l,x.length<=c)->l.foldl (λt x=>t+x.length+("":ba).length) h<=h+c*l.length
 |[]=>@λc h J=>aK _ _
 |x::l=>@λc h n=>by
  have w:=JV l c (h+x.length+0) λj a=>n j (.tail _ a)
  have:=n x (.head _);refine Q (aQ ..) (Q (dS ..) ?_);show l.foldl _ (h+x.length+0)<=_;exact Nr w this
theorem joinOk_of {a:List ba}(b:∀p∈a,p.length<=k)(w:k*a.length<=60000):nr "" a=true:=by have e:lM (a.foldl (λh p=>h+p.length+("":ba).length) 0)=false:=decide_eq_false (cU.mpr (aa (JV a k 0 b) (by refine Q (bZ ..) ?_;exact aa w (by decide))));delta nr;refine Q (List.foldl_toArray ..) (Q e ?_);rfl
theorem Gr {o:Type}{b:o->V}{g:o->ba}:∀a:List o,(∀G∈a,rB (b G)=.str (g G))->strsOf (a.map b)=Y (a.map g)
 |[]=>@λJ=>rfl
 |x::a=>@λc=>by refine (?_:sV (λp=>(strsOf (a.map b)).map (p::·)) (rB (b x))=_);refine Q (c x (.head _)) (Q (Gr a λG d=>c G (.tail _ d)) ?_);rfl
theorem DE {o:Type}{f:o->V}{d:o->List Nat}(a:List o)(g:∀G∈a,rB (f G)=.str (qz (d G)))(n:∀G∈a,(d G).length<=k)(w:k*a.length<=60000):AV (a.map f)=Y (qz (a.flatMap d)):=by
 delta AV;rw[Gr (g:=λG=>qz (d G)) a g,d8,ql (joinOk_of (k:=k) (λp b=>by
  refine qt (bY.mp b) λG H e=>?_;refine J e ?_;clear e
  exact n G H) (by refine Q (ao ..) ?_;exact w))]
 refine qn Y (Ah ?_);refine Q (join_list ..) (Q (oZ ..) ?_);rfl
theorem Kc {hp:List O}(f:List Bool)(w:f.length<=65536):rU 8 (.lst (bL f)) (.lst (bL f))=Y true:=by
 have b:∀f:List Bool,zS (rU 7) (bL f) (bL f)=Y true:=λf=>by
  induction f with
  |nil=>rfl|cons T f e=>
   exact (congr (qn Ci (by cases T<;>rfl)) e:Ci (rU 7 (.bool T) (.bool T)) (zS (rU 7) (bL f) (bL f))=_)
 exact (ql rfl).trans (b f)
theorem air {a:List O}{g:List V}(j:a[i]?=Y (.list g)):te a (.ref i) "append"=Y (.bm "list.append"<|.ref i):=by show zX a i "append" a[i]?=_;exact Q j (ql rfl:(if ("append":ba)="append" then Y (V.bm "list.append"<|.ref i) else N)=_)
noncomputable def rJ:Nat->V
 |0=>.qr "&"|1=>.none
 |_=>.qr ""
theorem Jw:∀c,Jf<|rJ c
 |0=>.inl rfl|1=>.inr<|.inl rfl
 |J+2=>.inr<|.inr rfl
def wc (L:Nat->Nat)(d i:Nat):List<|Bool×Nat:=((true,1)::Ax (rr L d) 9 (rr L d 1))++if i=0 then [(false,1)] else []
def B4 (L o:Nat->Int)(e:Bool×Nat):List Nat:=if e.1=true then [qB.getD (L (e.2-1)+3).toNat 0] else xh (o<|e.2-1).toNat
def td (L o:Nat->Int)(I:Nat->Nat)(d i:Nat):List Nat:=(wc I d i).flatMap<|B4 L o
theorem Qv:∀c,FN (rJ c)=if c=0 then [.qr "&"] else []
 |0=>rfl|1=>rfl
 |J+2=>rfl
section
variable (hm:12<=m) (hh:h<5) {p G o:Nat->Int}(z:0<n) (A:n<=5) (H:∀k,k<n->-3<=p k/\p k<=3) (y:∀k,0<=o k/\o k<=3) (w:o 0=0) (T:∀k,k<n->f k<=k/\G k+1=(f k:Int)) (x:full (rr f n) 9 (rr f n 1)=true) (U:∀e∈Ax (rr f n) 9 (rr f n 1),2<=e.2) (u:(wc f n c).length<=30)
include hm hh z A H y w T
theorem Gz:∀(j k:Nat)(hp:List O)(L s g t:Option V),k+j<=n->KY p o (rJ c) f k hp->
  ∃q v g' s' hp',uh (ev (qy m) 59) [] (.l 9) N RP (nats<|dm k j) ⟨uA p G o n h (rJ c) L s g t,hp⟩=Y (.next,⟨uA p G o n h (rJ c) q v g' s',hp'⟩)/\KY p o (rJ c) f (k+j) hp'
 |0=>@λk hp L s g t J I=>⟨L,s,g,t,hp,rfl,I⟩
 |j+1=>@λk hp L s g t hk I=>by
  have ps:=Qr (m:=m-2) hh A H y w (Jw c) T (ai (ju<|fI j) hk) I s g t;rw[aH<|aa (by decide) hm] at ps
  exact zB ps λi zO g1 I1=>acP (Gz j (k+1) zO (Y<|.int k) (Y<|wi o (rJ c) k) (Y<|vl (.qr "?")<|p k) i (Q (cj ..) hk) I1) λa b d e yt g2 I2=>⟨a,b,d,e,yt,r_ rfl rfl g1 g2,Q (show k+(j+1)=k+1+j from (cj k j).symm) I2⟩
include x U u
theorem Xy (hp):(qy<|m+1).top 197 [.qr rq,.lst<|rg p n,.lst<|rg G n,.lst<|rg o n,.con<|.ref<|yn h,rJ c] [] [] hp=Y (.str<|qz<|td p o f n c,hp):=by
 have hw:∀g:Nat->Int,(rg g n).length=n:=λg=>sQ _ n
 have hlf:sU [] 9 (rJ c)=Y (rJ c):=match c with
  |0=>rfl|1=>rfl
  |W+2=>rfl
 let i:List O:=[.list []]++yu 1 (.qr "") (.rt [] []) .none []++[.list [.ref 3],.list []];obtain ⟨x9,t,g,s,QT,gl,I⟩:=(Gz (c:=c) hm hh z A H y w T n 0 i N N N N (aN<|bZ n) ⟨rfl,rfl,rfl,rfl,λL hi=>Q (Nat.le_zero.mp hi)<|Q (Jy (λj hj=>absurd hj<|Nat.not_lt_zero j)<|ag 0)<|DW [.list []] [.list [.ref 3],.list []]⟩);rw[<- dk] at gl
 revert I;refine Q (bZ ..) ?_;intro I;have htg:∀L,wI (wG p L)=true:=λL=>match L with
  |0=>rfl|W+1=>rfl
 have QS:∀L,wI (uw o (rJ c) L)=true:=λL=>match L with
  |0=>rfl|k+1=>PE y (Jw c) k
 have aa6:∀L,∀j∈rr f n L,j<=n:=λL j hj=>qt (bY.mp hj) λa ha rR=>J rR<|bF.mp (dr.mp ha).1
 have htx:=F2 (tg:=wG p) (tl:=uw o<|rJ c) (at_:=Bh p o<|rJ c) (kid:=rr f n) 9<|rr f n 1
 have hlen:(Ax (rr f n) 9<|rr f n 1).length<=30:=by
  delta wc at u
  rw[aG,aQ] at u
  exact aa (aa (cY _)<|aK _ _) u
 have JF:=Qa (m-1) (av (F3 9<|rr f n 1)<|aa (by decide:9<11)<|fh hm 1) (htg 1) (QS 1) (JW htg QS 9<|rr f n 1) (I.Rm 1 z) (JX I.Rm aa6 9 (rr f n 1) x<|aa6 1) I.h0 (.inl<|show 0<9 by decide) (by
  refine Q htx<|Q (aG ..)<|Q (ao ..) ?_
  exact aa (a9 (aP (aP hlen 1) 0) 1)<|by decide)
 rw[aH<|aa (by decide) hm,dY,htx] at JF
 have hT:([wG p 1]++(Ax (rr f n) 9<|rr f n 1).map λe=>if e.1=true then wG p e.2 else uw o (rJ c) e.2)++FN (uw o (rJ c) 1)=(wc f n c).map λe=>if e.1=true then wG p e.2 else uw o (rJ 0) e.2:=by
  have e1:∀e∈Ax (rr f n) 9 (rr f n 1),(if e.1=true then wG p e.2 else uw o (rJ c) e.2)=if e.1=true then wG p e.2 else uw o (rJ 0) e.2:=λe he=>by obtain ⟨q,hq⟩:∃q,e.2=q+2:=⟨e.2-2,(aH<|U e he).symm⟩;exact Q hq rfl
  refine Q (dB e1) ?_;show _++FN (rJ c)=_;refine Q (Qv ..) ?_;delta wc;refine Q (bN ..) ?_
  by_cases q:c=0
  .exact Q (ql q)<|Q (ql q) rfl
  .exact Q (qm q)<|Q (qm q) rfl
 rw[hT] at JF
 have hj:AV ((wc f n c).map λe=>if e.1=true then wG p e.2 else uw o (rJ 0) e.2)=Y (qz<|td p o f n c):=by
  refine DE (wc f n c) (λe he=>?_) (λe he=>?_)<|aa (aW 100 u)<|by decide
  .have h1:1<=e.2:=by
    rcases bO.mp he with he|he
    .rcases aE.mp he with rfl|he
     .exact ag _
     .exact aa (by decide)<|U e he
    .by_cases q:c=0
     .rw[ql q] at he;exact Q (aM.mp he)<|ag _
     .rw[qm q] at he;exact absurd he nofun
   obtain ⟨b,k⟩:=e;obtain ⟨k,rfl⟩:∃q,k=q+1:=⟨k-1,(aH<|show 1<=k from h1).symm⟩
   cases b with
   |true=>rfl|false=>
    refine (?_:rB (wi o (rJ 0) k)=.str (qz<|xh (o k).toNat))
    cases k with
    |zero=>exact Q w<|FA 0
    |succ k=>exact FA _
  .delta B4
   split
   .exact (by decide:1<=100)
   .refine Q (Bi ..) ?_;exact YH (y _) (by decide)
 generalize (wc f n c).map (λe=>if e.1=true then wG p e.2 else uw o (rJ 0) e.2)=TX at JF hj
 have hmd:sf QT (.ref 7) (.int 1)=Y (.ref<|eb 1+2):=by
  refine uS (rY I.h7) (.inl rfl) ?_<|Q (by delta refsOf;refine Q (ao ..)<|Q (ao ..)<|Q (aU ..) rfl:(refsOf<|(aq<|n+1).map eb).length=n+1)<|aa (cm A)<|by decide
  delta refsOf;refine Q aZ<|Q aZ<|Q (fy<|pn z) ?_;rfl
 refine rD m (t:=t25) rfl rfl rfl rfl (uR rfl<|uR ((λg=>yJ [] 7 g n) _)<|uR ((λg=>yJ [] 7 g n) _)<|uR ((λg=>yJ [] 7 g n) _)<|uR rfl<|CF hlf) (hp':=QT.set 0<|.list TX) (v:=.str<|qz<|td p o f n c) (ax ua ?_:we (qy m) [] Y9 ⟨[Y<|.qr rq,Y<|.lst<|rg p n,Y<|.lst<|rg G n,Y<|.lst<|rg o n,Y<|.con<|.ref<|yn h,Y<|rJ c,N,N,N,N,N,N,N],[]⟩=_) rfl;have hel:=Wl (m-1) (.qr "") [] [] N rfl [.list []];rw[aH<|aa (by decide) hm] at hel
 have hF:=(λd=>bu<|DJ I.h0:∀d:List V,(QT.set 0<|.list d)[0]?=Y (.list d)) TX;have hG:=(λd=>(aV<|by decide).trans I.h8:∀d:List V,(QT.set 0<|.list d)[8]?=Y (.list<|aw n<|.bool true)) TX;generalize QT.set 0 (.list TX)=vy at JF hF hG ⊢
 have g2:(ev (qy m) 57).E [] (.cmp (.l 8) [.Eq] [.bin .Mult (.list [.k<|.bool true])<|.bf .len [.l 1]]) ⟨uA p G o n h (rJ c) x9 t g s,vy⟩=Y (.bool true,⟨uA p G o n h (rJ c) x9 t g s,vy⟩):=by
  have hb:sH vy .Mult (.lst [.bool true]) (.int n)=Y (.lst<|aw n<|.bool true):=by show (if 0<=(n:Int)/\(n:Int)<65536 then Y (V.lst<|aw (n:Int).toNat<|.bool true) else N)=_;exact Q (ql ⟨aC n,bq.mpr<|av A<|by decide⟩) rfl
  exact qW rfl (qx (yB<|qG rfl) ((v_ rfl rfl<|by rw[hw];exact aa A<|by decide).trans<|qn (λk:Nat=>Y (V.int k,(_:St)))<|hw p) hb) (Q (rY hG)<|Q (show aw n (V.bool true)=bL (aw n true) from List.map_replicate.symm)<|Kc (hp:=[]) _<|Q (g7 ..)<|aa A<|by decide:O8 .Eq (.ref 8) (view vy<|.ref 8) (.lst<|aw n<|.bool true)=_)
 exact qH (qU (sW<|qo (xp rfl)<|qo (xp<|qM<|qG<|call_top (qo rfl<|qG rfl) hel)<|qG<|xp rfl) rfl) (qH (v8 (vD ((v_ rfl rfl<|by rw[hw];exact aa A<|by decide).trans<|qn (λk:Nat=>Y (V.int k,(_:St)))<|hw p)<|aa A<|by decide) gl)
  <| tq<|sx<|vC (Sf (qW (call_top (qo (xq rfl<|air I.h0)<|qG<|rm rfl rfl hmd) JF) rfl rfl) rfl g2) rfl<|uK rfl rfl rfl (qG rfl)<|QP (rY hF) hj)
end
def ones (a:List Nat):List V:=a.map λc=>V.str<|Vm.one c
def ahG:List XS:=[.expr<|.mt .append (.l 3) [.rb (.l 5) (.sub (.l 5)<|.un .USub<|.i 1)<|.un .USub<|.i 1],.expr<|.mt .append (.l 5) [.bf .len [.l 2]],.expr<|.mt .append (.l 2) [.bin .Sub (.mt .index (.l 1) [.l 7])<|.i 3],.expr<|.mt .append (.l 4) [.i 0]]
def ahj:XS:=.rb (.cmp (.l 7) [.Eq] [.k<|.qr ";"]) [.uC (.l 4) (.l 6) .Add<|.i 1] []
def abZ:List XS:=[.rb (.cmp (.l 7) [.In] [.l 1]) ahG [.rb (.cmp (.l 7) [.Eq] [.k<|.qr "&"]) [.asg (.l 6)<|.mt .pop (.l 5) []] [ahj]]]
abbrev Ab (k:V)(y:Option V)(h:Option V):List<|Option V:=[Y k,Y<|.qr rq,Y<|.ref 0,Y<|.ref 1,Y<|.ref 2,Y<|.ref 3,y,h]
abbrev tM (o f j:List Int)(u:List Nat):List O:=[.list<|iL o,.list<|iL f,.list<|iL j,.list<|nats u]
def Goes (g:vA)(k:V)(y:Option V)(U:List Nat)(o j u:List Int)(G:List Nat)(d:List O):Prop:=∀h,∃e T,uh (ev g 59) [] (.l 7) N abZ (ones U) ⟨Ab k y h,tM o j u G⟩=Y (.next,⟨Ab k e T,d⟩)
theorem EV (c)(a):tW a .In (.str<|Vm.one c) (.qr rq)=Y (decide<|c∈qB):=by have e:tW a .In (.str<|Vm.one c) (.qr rq)=Y (hasSub ⟨#[c]⟩ rq):=rfl;refine ax e<|Q (sub_one ..)<|Q (A2 ..) rfl
theorem B7 (c h)(p)(e:p=qz [h])(a):tW a .Eq (.str<|Vm.one c) (.qr p)=Y (decide<|c=h):=Q e<|ax rfl<|qn Y<|decide_eq_decide.mpr ⟨λi=>fE (qn (λp:ba=>p.cps.toList) i) |>.1,λi=>Q i rfl⟩
theorem Uv:∀c,c<7->jr rq (Vm.one<|qB.getD c 0)=(c:Int):=by decide +kernel
theorem LY:∀c,c<7->qB.getD c 0∈qB:=by decide
theorem Goes.nil:Goes orc pg l [] o f j u<|tM o f j u:=λh=>tG l h rfl
theorem XX (a)(q):iL a++[V.int q]=iL (a++[q]):=by delta iL;exact Q (bN ..) rfl
theorem GI (a:List Nat)(c:Nat):nats a++[V.int c]=nats (a++[c]):=by delta nats;exact Q (bN ..) rfl
theorem Goes.opn {c:Nat}(I:c<7) (w:o.length<=60) (i:a.length<=60) (b:t.length<=60) (U:p.length<=60) (d:Goes orc pg l M (o++[(c:Int)-3]) (a++[tI p]) (t++[0]) (p++[o.length]) vy):Goes orc pg l (qB.getD c 0::M) o a t p vy:=λh=>by
 refine sd (d<|Y<|.str<|Vm.one<|qB.getD c 0) λf q g=>tG f q ?_
 have G:(nats p).length<=65536:=Q (rE ..)<|bJ U
 have s:(ev orc 56).E [] (.rb (.l 5) (.sub (.l 5)<|.un .USub<|.i 1)<|.un .USub<|.i 1) ⟨Ab pg l<|Y<|.str<|Vm.one<|qB.getD c 0,tM o a t p⟩=Y (.int<|tI p,⟨Ab pg l<|Y<|.str<|Vm.one<|qB.getD c 0,tM o a t p⟩):=by
  delta tI
  cases n:p.getLast? with
  |none=>
   refine Q (l9.mp n) ?_;exact wB rfl rfl rfl
  |some e=>
   have u:0<p.length:=iz.mpr (by rintro rfl;exact Vm.nS n);refine vC rfl ((xy rfl G).trans<|dt<|Q (rE ..)<|bw u)<|rm rfl (xW rfl)<|uS (k:=p.length-1) (rY rfl) (.inr<|Q (rE ..)<|YI u) ?_ G
   refine Q (DH ..)<|J gg<|Q n ?_;rfl
 have z:za (tM o (a++[tI p]) t<|p++[o.length]) .BJ (.qr rq) [.str<|Vm.one<|qB.getD c 0]=Y (.int c,tM o (a++[tI p]) t<|p++[o.length]):=by show ((if 0<=jr rq (Vm.one<|qB.getD c 0) then Y (V.int<|jr rq<|Vm.one<|qB.getD c 0) else N).map λe=>(e,tM o (a++[tI p]) t<|p++[o.length]))=_;exact Q (Uv c I)<|Q (ql<|aC c) rfl
 have H:=tT<|CX (x:=.l 3) (st:=⟨Ab pg l<|Y<|.str<|Vm.one<|qB.getD c 0,tM o a t p⟩) rfl rfl (qG s) rfl<|by refine Q (r9 ..) ?_;lia
 have v:=tT<|CX (orc:=orc) (j:=56) (M:=[]) (x:=.l 5) (st:=⟨Ab pg l<|Y<|.str<|Vm.one<|qB.getD c 0,tM o (a++[tI p]) t p⟩) rfl rfl (qG<|(v_ (x:=.l 2) rfl (rY rfl)<|by rw[r9];lia).trans<|qn (λT:Nat=>Y (V.int T,(_:St)))<|r9 o) rfl G
 have k:=tT<|CX (x:=.l 2) (st:=⟨Ab pg l<|Y<|.str<|Vm.one<|qB.getD c 0,tM o (a++[tI p]) t<|p++[o.length]⟩) rfl rfl (qG (qx (uK rfl rfl rfl (qG rfl) z) rfl<|ui _ 3:(ev orc 56).E [] (.bin .Sub (.mt .index (.l 1) [.l 7])<|.i 3) ⟨Ab pg l<|Y<|.str<|Vm.one<|qB.getD c 0,tM o (a++[tI p]) t<|p++[o.length]⟩=Y (.int<|(c:Int)-3,⟨Ab pg l<|Y<|.str<|Vm.one<|qB.getD c 0,tM o (a++[tI p]) t<|p++[o.length]⟩))) rfl<|by refine Q (r9 ..) ?_;lia
 have L:=tT<|CX (orc:=orc) (j:=56) (M:=[]) (x:=.l 4) (st:=⟨Ab pg l<|Y<|.str<|Vm.one<|qB.getD c 0,tM (o++[(c:Int)-3]) (a++[tI p]) t<|p++[o.length]⟩) rfl rfl (qG rfl) (as:=[.i 0]) rfl<|by rw[r9];lia
 rw[XX] at H k L
 rw[GI] at v
 exact r_ rfl rfl (rL<|tX (qW rfl rfl<|EV _ _) (dt<|LY c I)<|rf H<|rf v<|rf k<|rL L) g
theorem Jk (n:c=38\/c=59\/c=97\/c=109\/c=112):c∉qB:=by rcases n with rfl|rfl|rfl|rfl|rfl<;>decide
theorem Qb:(";":ba)=qz [59]:=by kernel_rfl
theorem Goes.skip (n:c=97\/c=109\/c=112)(b:Goes orc pg l M o a t p vy):Goes orc pg l (c::M) o a t p vy:=λh=>sd (b<|Y<|.str<|Vm.one c) λT q e=>tG T q<|r_ rfl rfl (rL<|sF (qW rfl rfl<|EV _ _) (df<|Jk<|.inr<|.inr n)<|rL<|sF (qW rfl rfl<|B7 c 38 _ Fw _) (df<|by lia)<|rL<|z0<|(qW rfl rfl<|B7 c 59 _ Qb _).trans<|qn (λU=>Y (V.bool U,(_:St)))<|decide_eq_false<|by lia) e
theorem Goes.amp {c:Nat}(w:p.length<=60) (a:Goes g k (Y<|.int c) M o j u p vy):Goes g k l (38::M) o j u (p++[c]) vy:=λh=>by
 refine sd (a<|Y<|.str<|Vm.one 38) λT q e=>?_
 have i:za (tM o j u<|p++[c]) .BU (.ref 3) []=Y (.int c,tM o j u p):=by show Jn (tM o j u<|p++[c]) .BU (.ref 3) []=_;refine (EL _ _ rfl).trans ?_;show (if qZ (nats<|p++[c]).length=true then (nats<|p++[c]).getLast?.map λL=>(L,(tM o j u<|p++[c]).set 3<|.list (nats<|p++[c]).dropLast) else N)=_;refine ax (ql<|decide_eq_true<|by refine Q (rE ..)<|Q (aG ..) ?_;show p.length+1<=_;exact dD<|aa w<|cp _ _)<|J (GI ..)<|Q List.getLast?_concat<|Q (List.dropLast_concat ..) ?_;rfl
 exact tG T q<|r_ rfl rfl (rL<|sF (qW rfl rfl<|EV _ _) (df<|Jk<|.inl rfl)<|rL<|tX (qW rfl rfl<|B7 38 38 _ Fw _) (dt rfl)<|rL<|qU (uK rfl rfl rfl rfl i) rfl) e
theorem Goes.semi {c:Nat}{x:Int}(e:a[c]?=Y x) (w:a.length<=60) (b:Goes orc pg (Y<|.int c) M o u (a.set c<|x+1) G vy):Goes orc pg (Y<|.int c) (59::M) o u a G vy:=λy=>by
 refine sd (b<|Y<|.str<|Vm.one 59) λh f i=>?_
 have n:sf (tM o u a G) (.ref 2) (.int c)=Y (.int x):=by refine uS (rY rfl) (.inl rfl) ?_ (by refine Q (r9 ..) ?_;lia);delta iL;refine Q aZ<|Q e ?_;rfl
 have z:ub (tM o u a G) (.ref 2) (.int c) (.int<|x+1)=Y (tM o u (a.set c<|x+1) G):=by refine (ED rfl (.inl rfl) (Q (r9 ..)<|(aO.mp e).1)<|by refine Q (r9 ..) ?_;lia).trans ?_;exact Q List.map_set.symm rfl
 exact tG h f<|r_ rfl rfl (rL<|sF (qW rfl rfl<|EV _ _) (df<|Jk<|.inr<|.inl rfl)<|rL<|sF (qW rfl rfl<|B7 59 38 _ Fw _) (df<|by decide)<|rL<|tX (qW rfl rfl<|B7 59 59 _ Qb _) (dt rfl)<|rL<|zv rfl rfl n rfl (CN _ _) z) i
noncomputable def xi:List (Bool×Nat)->Nat->List Int->List Nat->List Nat->Option (Nat×List Int×List Nat×List Nat)
 |[]=>@λc a f j=>Y (c,a,f,j)
 |(true,h)::u=>@λc a f j=>if h=c+1 then xi u (c+1) (a++[tI j]) f (j++[c]) else N
 |(false,h)::u=>@λc a f j=>if j.getLast?=Y (h-1)/\h-1<c/\h-1∉f then xi u c a ((h-1)::f) j.dropLast else N
noncomputable def yQ (b:Nat->Int)(c:Nat)(a:List Nat):List Int:=(aq c).map λh=>if h∈a then b h else 0
theorem MG {U:List Nat}{o j:List Int}{u:List Nat}{G:List O}{c:Nat}:∀(d:Nat)(f:List Int)(x:Int),f[c]?=Y x->f.length<=60->Goes orc pg (Y<|.int c) U o j (f.set c<|x+d) u G->Goes orc pg (Y<|.int c) ((aw d [97,109,112,59]).flatten++U) o j f u G
 |0=>@λf x e w a=>by
  have i:f.set c (x+(0:Nat))=f:=by
   refine Q (Int.natCast_zero ..)<|Q (dJ ..) ?_
   exact eu λt=>by
    by_cases n:c=t
    .subst n;refine Q (bu (aO.mp e).1)<|Q e rfl
    .refine Q (aV n) rfl
  rw[i] at a
  exact a
 |d+1=>@λf x e w a=>by
  refine Q (eD ..)<|Q (kj ..)<|Q (a8 ..)<|Goes.skip (.inl rfl)<|Goes.skip (.inr<|.inl rfl)<|Goes.skip (.inr<|.inr rfl)<|Goes.semi e w<|MG d (f.set c<|x+1) (x+1) (bu (aO.mp e).1) (J ((cN ..).symm) w) ?_
  exact Q (kh ..)<|Q (show x+1+(d:Int)=x+((d+1:Nat):Int) by lia) a
theorem DB (how:∀c,-3<=ow c/\ow c<=3)(o:∀c,0<=d c/\d c<=3):∀(u:List<|Bool×Nat)(cnt:Nat)(G:List Int)(e I:List Nat)(y:Option V),xi u cnt G e I=Y (h,Ph,f,HK)->(∀T∈e,T<cnt)->cnt+u.length<=50->G.length+u.length<=50->I.length+u.length<=50->
  Goes orc pg y (u.flatMap<|B4 ow d) ((aq cnt).map ow) G (yQ d cnt e) I (tM ((aq h).map ow) Ph (yQ d h f) HK)
 |[]=>@λcnt G e I y p J J J J=>by
  have p:=ae p;rw[jM,jM,jM] at p
  obtain ⟨rfl,rfl,rfl,rfl⟩:=p;exact Goes.nil
 |(true,i)::u=>@λcnt G e I y p As j b U=>by
  rw[aQ] at j b U
  by_cases n:i=cnt+1
  .have z:xi u (cnt+1) (G++[tI I]) e (I++[cnt])=Y (h,Ph,f,HK):=(ql n).symm.trans p;refine Q n ?_;clear n;obtain ⟨t,H⟩:=dQ (Si<|how cnt);have q:B4 ow d (true,cnt+1)=[qB.getD t 0]:=by show [qB.getD (ow cnt+3).toNat 0]=_;exact Q H rfl
   refine Q (c9 ..)<|Q q ?_
   have k:((aq cnt).map ow).length=cnt:=by refine Q (ao ..)<|Q (aU ..) rfl
   refine Goes.opn (Sh (how _) H) (by refine Q k ?_;lia) (by lia) (by delta yQ;refine Q (ao ..)<|Q (aU ..) ?_;lia) (by lia) ?_;refine Q k<|Q (show (t:Int)-3=ow cnt from nQ.mpr H.symm) ?_
   have L:yQ d cnt e++[0]=yQ d (cnt+1) e:=by
    delta yQ;refine Q (fK ..)<|Q (bN ..) ?_
    show _=_++[if cnt∈e then d cnt else 0];refine Q (qm λa=>b8 _<|As _ a) rfl
   exact Q (Q (fK ..)<|Q (bN ..) rfl:(aq cnt).map ow++[ow cnt]=(aq<|cnt+1).map ow)<|Q L<|DB how o u (cnt+1) _ e _ y z (λT s=>dT<|As T s) (AH j) (by refine Q (aG ..) ?_;show G.length+1+_<=50;exact AH b)<|by refine Q (aG ..) ?_;show I.length+1+_<=50;exact AH U
  .exact absurd ((qm n).symm.trans p) nofun
 |(false,i)::u=>@λcnt G e I y p As j b U=>by
  rw[aQ] at j b U
  by_cases n:I.getLast?=Y (i-1)/\i-1<cnt/\i-1∉e
  .skip
   refine qJ n λg q2 q3=>?_
   have x:I=I.dropLast++[i-1]:=by
    have A:I≠[]:=by rintro rfl;exact Vm.nS g
    have:=lu A;rw[kW A] at g
    rw[ae g] at this
    exact this.symm
   have V5:I.dropLast.length<=I.length:=Q (nO ..)<|Nat.pred_le _
   refine Q (c9 ..)<|Q x ?_
   have hx:(yQ d cnt e)[i-1]?=Y 0:=by delta yQ;refine Q (tB _ q2)<|Q (qm q3) rfl
   refine Goes.amp (NH U V5)<|MG _ _ 0 hx (Nh j (by delta yQ;refine Q (ao ..)<|Q (aU ..) rfl)) ?_
   have q:(yQ d cnt e).set (i-1) (0+((d<|i-1).toNat:Int))=yQ d cnt ((i-1)::e):=by
    have:=o<|i-1
    refine Q (show (0+((d<|i-1).toNat:Int))=d (i-1) from (dz _).trans<|cf (o _).1) ?_;delta yQ;refine eu λT=>?_
    by_cases a:i-1=T
    .subst a;refine Q (bu<|Q (ao ..)<|Q (aU ..) q2)<|Q (tB _ q2)<|Q (ql<|.head _) rfl
    .refine Q (aV a) ?_
     by_cases w:T<cnt
     .refine Q (tB _ w)<|Q (tB _ w) ?_
      congr 1
      by_cases v:T∈e
      .refine Q (ql v)<|Q (ql<|.tail _ v) rfl
      .refine Q (qm v)<|Q (qm λc=>(aE.mp c).elim (λq=>a q.symm) v) rfl
     .refine Q (b_<|by refine Q (sQ ..) ?_;lia)<|Q (b_<|by refine Q (sQ ..) ?_;lia) rfl
   exact Q q<|DB how o u cnt G ((i-1)::e) I.dropLast (Y<|.int (i-1:Nat)) ((ql n).symm.trans p) (λT s=>(aE.mp s).elim (λq=>Q q q2)<|As T) (b6 j) (b6 b)<|aa (a9 V5 _)<|b6 U
  .exact absurd ((qm n).symm.trans p) nofun
theorem ur {U f:List Nat}{y:St}(e:plX x=true)(i:(ev g c).E U x y=Y (.str s,y))(n:s.cps.toList=f):tK (ev g c) U x y=Y (ones f,N,y):=(tP e i).trans<|qn (λf=>Y (ones f,N,y)) n
theorem JR {a:List O}{f:List Nat}(e:a[i]?=Y (.list<|nats f)):sU a (n+2) (.ref i)=Y (.lst<|nats f):=(qn (JU<|qO<|sU a<|n+1) e).trans<|qM<|DO a n f
theorem Su {b d:Nat->Int}(g:∀c,-3<=b c/\b c<=3)(n:∀c,0<=d c/\d c<=3)(h)(w:1<=h)(e:xi es 0 [] [] []=Y (n',Ph,abN,HK))(i:es.length<=30)(G) :
  (qy h).top 204 [.str<|qz<|es.flatMap<|B4 b d,.qr rq] [] [] G=Y (.tup [.lst<|iL<|(aq n').map b,.lst<|iL Ph,.lst<|iL<|yQ d n' abN,.lst<|nats HK],G):=by
 obtain ⟨h,rfl⟩:∃T,h=T+1:=⟨h-1,(aH w).symm⟩;have a:=DB (orc:=qy h) (pg:=.str<|qz<|es.flatMap<|B4 b d) g n es 0 [] [] [] (Y<|.int 0) e (λz f=>nomatch f) (by lia) (by refine (?_:0+_<=50);lia) (by refine (?_:0+_<=50);lia);refine sd (a N) λj k a=>?_
 generalize U:es.flatMap (B4 b d)=M at a ⊢
 generalize L:(aq n').map b=o at a ⊢
 generalize yQ d n' abN=t at a ⊢
 exact rD h (t:=t26) rfl rfl rfl rfl rfl (ax ua<|qH rfl<|qH (v8 (ur rfl rfl rfl) a)<|tq<|sx rfl:we (qy h) [] Y8 ⟨[Y<|.str<|qz M,Y<|.qr rq,N,N,N,N,N,N],[]⟩=_)<|qM<|uR (xG rfl)<|uR (xG rfl)<|uR (xG rfl)<|CF<|JR rfl
noncomputable def rp:List Nat:=[173,847,6150,6155,6156,6157,8203,8204,8205,8288,65279,65024,65025,65026,65027,65028,65029,65030,65031,65032,65033,65034,65035,65036,65037,65038,65039]
noncomputable def tC:List Nat:=[97,65,119808,119860,119912,120016,120172,120224,120276,120328,120380,120432]
theorem ae5 (c:Nat):Ft.contains (c:Int)=rp.contains c:=by rw[pC,dF,dF];exact ⟨λa=>((by decide +kernel:∀q∈Ft,0<=q/\q.toNat∈rp) _ a).2,(by decide +kernel:∀q∈rp,(q:Int)∈Ft) c⟩
theorem Yv (U:Nat)(w:1<=U)(h:Nat)(a:List O):(qy U).top 74 [.str<|Vm.one h] [] [] a=Y (.bool<|rp.contains h,a):=by obtain ⟨t,rfl⟩:∃t,U=t+1:=⟨U-1,(aH w).symm⟩;exact Q (Sr t rfl)<|J (ae5 ..) rfl
def EK:List<|Nat×List Nat:=[(8360,[114,115]),(64258,[102,108]),(64262,[115,116])] ++
 (tC.drop 2).flatMap λc=>qB.map λh=>(c+h-97,[h])
noncomputable def IG:List (Nat×List Nat)->List (Int×ba)->Bool
 |[],J=>true|_::_,[]=>false
 |p::a,b::f=>if (p.1:Int)=b.1 then decide (p.2=b.2.cps.toList)&&IG a f else IG (p::a) f
noncomputable def PA:Int->List (Int×ba)->Bool
 |J,[]=>true|k,b::a=>decide (k<b.1)&&PA b.1 a
theorem Zs:IG EK AD=true:=rfl
theorem Vs:PA 180 AD=true:=rfl
theorem Dx:∀(a:List<|Int×ba)(l:List<|Nat×List Nat),IG l a=true->∀b∈l,∃p,((b.1:Int),p)∈a/\p.cps.toList=b.2
 |J,[]=>@λJ b e=>nomatch e
 |[],c::l=>@λe b hp=>fT e
 |x::a,c::l=>@λe b hp=>by
  by_cases i:(c.1:Int)=x.1
  .have e:(decide (c.2=x.2.cps.toList)&&IG l a)=true:=(ql i).symm.trans e;rcases aE.mp hp with hp|hp
   .exact ⟨x.2,hp▸(Q i<|.head _),hp▸(of_decide_eq_true<|aL e).symm⟩
   .exact (Dx a l (aR e) b hp).elim λp t=>⟨p,.tail _ t.1,t.2⟩
  .exact (Dx a (c::l) ((qm i).symm.trans e) b hp).elim λp t=>⟨p,.tail _ t.1,t.2⟩
theorem Vr:∀(a:List<|Int×ba)(q:Int),PA q a=true->∀b∈a,q<b.1
 |[]=>@λJ J b e=>nomatch e
 |y::a=>@λq e b c=>(aE.mp c).elim (λi=>Q i<|of_decide_eq_true<|aL e) λc=>gi (of_decide_eq_true<|aL e)<|Vr a _ (aR e) b c
noncomputable abbrev kB (a:List<|Int×ba):List V:=a.map λb=>.int b.1
noncomputable abbrev vB (a:List<|Int×ba):List V:=a.map λb=>.str b.2
theorem find_eq (e:y.1=c):findKey (kB<|y::a) (vB<|y::a) (.int c)=Y (Y<|.str y.2):=(qT (dt e) rfl:(match Y (decide<|y.1=c) with|Y true=>Y<|Y<|V.str y.2|Y false=>findKey (kB a) (vB a)<|.int c|N=>N)=_)
theorem Mf (G:¬y.1=c):findKey (kB<|y::a) (vB<|y::a) (.int c)=findKey (kB a) (vB a) (.int c):=(qF (df G) rfl:(match Y (decide<|y.1=c) with|Y true=>Y<|Y<|V.str y.2|Y false=>findKey (kB a) (vB a)<|.int c|N=>N)=_)
theorem Me:∀(a:List<|Int×ba)(q b:Int)(p:ba),PA q a=true->(b,p)∈a->findKey (kB a) (vB a) (.int b)=Y (Y<|.str p)
 |[]=>@λJ J J J c=>nomatch c
 |y::a=>@λq b p c G=>(aE.mp G).elim (λe=>(find_eq<|e▸rfl).trans<|e▸rfl) λG=>(Mf λi:y.1=b=>eJ b<|(qn (·<b) i).mp<|Vr a _ (aR c) _ G).trans<|Me a y.1 b p (aR c) G
theorem J4:∀(a:List<|Int×ba)(q b:Int),PA q a=true->b<=q->findKey (kB a) (vB a) (.int b)=Y N
 |[]=>@λJ J J J=>rfl
 |y::a=>@λq b e w=>have G:b<y.1:=b7 w<|of_decide_eq_true<|aL e
  (Mf λi:y.1=b=>eJ b<|(qn (b<·) i).mp G).trans (J4 a y.1 b (aR e)<|bU G)
abbrev fB (c:Nat):Option<|Option V:=findKey (kB AD) (vB AD)<|.int c
theorem RZ (c h){y:Option V}(e:fB h=Y y):(ev (qy c) 59).E [] (.mt .get (.k b3V) [.bf .ord [.l 0]]) ⟨[Y<|.str<|Vm.one h,N],[]⟩=Y (Al y .none,⟨[Y<|.str<|Vm.one h,N],[]⟩):=uK rfl rfl rfl (qG<|uf (qG rfl) rfl)<|qM<|qM e
theorem U0 (U)(w:1<=U)(h)(e:fB h=Y (Y<|.str s))(a):(qy U).top 120 [.str<|Vm.one h] [] [] a=Y (.str s,a):=by obtain ⟨u,rfl⟩:∃u,U=u+1:=⟨U-1,(aH w).symm⟩;exact rD u (t:=Zo) rfl rfl rfl rfl rfl (ax ua<|qH (qU (RZ u h e) rfl)<|tq rfl) rfl
theorem U1 (U)(w:1<=U)(h)(e:fB h=Y N)(i:iN (Vm.one h)=s)(n:qZ s.length=true)(a):(qy U).top 120 [.str<|Vm.one h] [] [] a=Y (.str s,a):=by obtain ⟨u,rfl⟩:∃u,U=u+1:=⟨U-1,(aH w).symm⟩;subst i;exact rD u (t:=Zo) rfl rfl rfl rfl rfl (ax ua<|qH (qU (RZ u h e) rfl)<|qH rfl<|tq<|sx<|uK rfl rfl rfl rfl<|qM<|ql n) rfl
theorem wJ:∀c∈qB,c<=122/\(iN<|Vm.one c).cps.toList=[c]/\(iN<|Vm.one<|65+c-97).cps.toList=[c]:=by decide +kernel
theorem GH (U)(w:1<=U)(c:b∈EK)(a):(qy U).top 120 [.str<|Vm.one b.1] [] [] a=Y (.str ⟨b.2.toArray⟩,a):=(Dx AD EK Zs b c).elim λp t=>U0 U w b.1 ((Me AD 180 _ _ Vs t.1).trans<|qn (λp=>Y<|Y<|V.str p) (Ah t.2:p=⟨b.2.toArray⟩)) a
theorem DK (U)(w:1<=U){t:Nat}(i:c<=180)(e:(iN<|Vm.one c).cps.toList=[t])(a):(qy U).top 120 [.str<|Vm.one c] [] [] a=Y (.str<|Vm.one t,a):=U1 U w c (J4 AD 180 _ Vs<|bA.mpr i) (Ah e:_=Vm.one t) rfl a
theorem TG:∀c∈([38,97,109,112,59]:List Nat),(iN<|Vm.one c).cps.toList=[c]:=by decide +kernel
theorem Rf (U)(w:1<=U)(b:h∈([38,97,109,112,59]:List Nat))(a):(qy U).top 120 [.str<|Vm.one h] [] [] a=Y (.str<|Vm.one h,a):=DK U w ((by decide:∀h∈([38,97,109,112,59]:List Nat),h<=180) h b) (TG h b) a
theorem O7:∀c,c<10->tC.getD (c+2) 0∈tC.drop 2:=by decide
theorem Ro (U)(w:1<=U){h:Nat}(b:h∈qB)(k)(G:k<12)(a):(qy U).top 120 [.str<|Vm.one<|tC.getD k 0+h-97] [] [] a=Y (.str<|Vm.one h,a):=by
 match k,G with
 |0,J=>
  exact Q (bc 97 h)<|DK U w (aa (wJ h b).1<|by decide) (wJ h b).2.1 a
 |1,J=>exact DK U w (aa (fh (aP (wJ h b).1 65) 97)<|by decide) (wJ h b).2.2 a|k+2,G=>exact GH U w (dE _<|fZ.mpr ⟨tC.getD (k+2) 0,O7 k<|gS<|gS G,bY.mpr<|qp h b rfl⟩) a
theorem Yb:∀c∈qB,∀h,h<12->rp.contains (tC.getD h 0+c-97)=false:=by decide +kernel
def tA (c h:Nat):ba:=Vm.one<|tC.getD (h%12) 0+c-97
def ug (c:Nat):ba:=Vm.one<|rp.getD c 0
def vX (c h t:Nat):ba:=match h/12 with
 |0=>tA c h|1=>ug t++tA c h
 |_=>tA c h++ug t
noncomputable def ym (U:Int)(c:Nat):Nat:=(a_ (bg U ((13^c:Nat):Int)) ((36:Nat):Int)).toNat
noncomputable def zb (U:Int)(c:Nat):Nat:=(a_ (bg U ((c+2:Nat):Int)) ((27:Nat):Int)).toNat
theorem uZ (q:Int) {b:Nat}(G:0<b):a_ q (b:Int)=((a_ q (b:Int)).toNat:Int)/\(a_ q (b:Int)).toNat<b:=⟨(cf<|eH q<|bq.mpr G).symm,(iM<|eH q<|bq.mpr G).mpr<|i5 q<|bq.mpr G⟩
noncomputable def El (U:Int):Nat->List Nat->List V
 |J,[]=>[]
 |i,h::M=>.str (vX h (ym U i)<|zb U i)::El U (i+1) M
noncomputable def Z4:Nat->List Nat->List V
 |J,[]=>[]
 |i,h::M=>.tup [.int i,.str<|Vm.one h]::Z4 (i+1) M
def We:List XS:=[.asg (.tup [.l 6,.l 7])<|.tup [.bin .Mod (.bin .FloorDiv (.l 2)<|.bin .Pow (.i 13)<|.l 4)<|.i 36,.bf .chr [.sub (.cell 0)<|.bin .Mod (.bin .FloorDiv (.l 2)<|.bin .Add (.l 4)<|.i 2)<|.i 27]],.asg (.l 8)<|.bf .chr [.bin .Sub (.bin .Add (.sub (.l 3)<|.bin .Mod (.l 6)<|.i 12)<|.bf .ord [.l 5])<|.i 97],.wj (.cell 1) (.l 5)<|.sub (.list [.l 8,.bin .Add (.l 7)<|.l 8,.bin .Add (.l 8)<|.l 7])<|.bin .FloorDiv (.l 6)<|.i 12]
abbrev lF (k:V)(U:Int)(y h e T L A a:Option V):List<|Option V:=[Y k,Y<|.qr rq,Y<|.int U,Y<|.lst<|nats tC,y,h,e,T,L,A,a]
abbrev vy (I:O):List O:=[.cell<|Y<|.lst<|nats rp,.cell<|Y<|.ref 4,.cell N,.cell N,I]
noncomputable abbrev Az:List Nat:=[0,1,2,3]
theorem UP:∀c,c<12->∃h,tC[c]?=Y h/\tC.getD c 0=h:=by decide
theorem RB:∀c,c<12->∀h,h<123->97<=h->CL ((tC.getD c 0+h-97:Nat):Int)=true:=by decide +kernel
theorem PB:∀c,c<27->∃h,rp[c]?=Y h/\rp.getD c 0=h/\CL (h:Int)=true:=by decide +kernel
theorem Yj (q):yg hp .chr [.int q]=if CL q=true then Y (.str<|Vm.one q.toNat) else N:=rfl
theorem RJ {a:List O}{c:Nat}(e:CL (c:Int)=true):yg a .chr [.int c]=Y (.str<|Vm.one c):=(Yj _).trans<|ql e
theorem IE {a:List O}{f:List Nat}{c h:Nat}(e:f[c]?=Y h) (w:f.length<=65536):sf a (.lst<|nats f) (.int c)=Y (.int h):=vU (by delta nats;refine ax aZ<|Q e ?_;rfl)<|J ((ao ..).symm) w
theorem acA {x:ba}(e:view hp v=.str y)(w:x.cps.size+y.cps.size<=65536):sH hp .Add (.str x) v=Y (.str<|x++y):=(qn (ab' .Add x) e:sH hp .Add (.str x) v=_).trans<|ql<|decide_eq_true w
theorem Uq (G:f<36):sf hp (.lst [.str<|tA c f,.str<|ug u++tA c f,.str<|tA c f++ug u]) (.int (f/12:Nat))=Y (.str<|vX c f u):=by
 have U:f/12<3:=jU G;delta vX;generalize f/12=T at U
 rcases (by decide:∀T,T<3->T=0\/T=1\/T=2) T U with rfl|rfl|rfl<;>rfl
theorem one_inj (e:Vm.one a=Vm.one b):a=b:=qn (λp:ba=>p.cps.toList.headD 0) e
theorem GU (a h):tx (.str<|Vm.one a) (.str<|Vm.one h)=Y (decide<|a=h):=qn Y<|decide_eq_decide.mpr ⟨one_inj,qn Vm.one⟩
theorem VP (G:¬c=h):tx (.str<|Vm.one c) (.str<|Vm.one h)=Y false:=(GU c h).trans<|qn Y<|decide_eq_false G
theorem Ex (c)(k):∀(l:List Nat)(f:List V),l.length=f.length->c∉l->tQ (ones l) f (.str<|Vm.one c) k=Y (ones<|l++[c],f++[k])
 |[],[]=>@λJ J=>rfl
 |[],_::_=>@λe J=>lz e
 |_::_,[]=>@λe J=>lz e
 |a::l,L::f=>@λe G=>by have i:tQ (ones<|a::l) (L::f) (.str<|Vm.one c) k=(match tQ (ones l) f (.str<|Vm.one c) k with|Y (j,u)=>Y (.str (Vm.one a)::j,L::u)|N=>N):=qF (VP λn=>G<|Q n<|.head _) rfl;exact Q i<|Q (Ex c k l f (cC e) λn=>G<|.tail _ n) rfl
theorem Th (a):(ones a).length=a.length:=ao ..
section
variable {x4 x5 x6 x7 g x9 x10:Option V}
theorem aez (w:97<=c) (i:c<=122) (b:h<=60) (e:tQ ks vs (.str<|Vm.one c) (.str<|vX c (ym y h)<|zb y h)=Y (u5,vs')) (T:ks.length<=1000) :
  rQ (ev orc 59) Az We ⟨lF pg y (Y<|.int h) (Y<|.str<|Vm.one c) x6 x7 g x9 x10,vy<|.dict ks vs⟩ =
   Y (.next,⟨lF pg y (Y<|.int h) (Y<|.str<|Vm.one c) (Y<|.int (ym y h:Nat)) (Y<|.str<|ug<|zb y h) (Y<|.str<|tA c<|ym y h) x9 x10,vy<|.dict u5 vs'⟩):=by
 refine rF (uZ (bg y ((13^h:Nat):Int)) (b:=36)<|by decide) λj I=>rF (uZ (bg y ((h+2:Nat):Int)) (b:=27)<|by decide) λn a=>?_
 have t:0<13^h/\13^h<2^9000:=⟨lh<|by decide,av (aX (by decide) b)<|by decide +kernel⟩;have sm:∀u:Nat,u<=100->u<2^9000:=λu G=>av G (by decide +kernel)
 change _=((ym y h:Nat):Int) at j
 change ym y h<36 at I
 change _=((zb y h:Nat):Int) at n
 change zb y h<27 at a
 generalize ym y h=f at *
 generalize zb y h=x at *
 refine rT (PB x a) λz A H d=>?_
 have U:au ((13:Nat):Int)*h<=100000:=by have:=dG (bits_le.mpr (by decide):au ((13:Nat):Int)<=4) b;lia
 refine qt (UP (f%12)<|dq _<|by decide) λu k L=>?_
 have o:=RB (f%12) (dq _<|by decide) c (fV i) w;rw[L] at o
 have p:(ev orc 59).S Az (.asg (.l 8)<|.bf .chr [.bin .Sub (.bin .Add (.sub (.l 3)<|.bin .Mod (.l 6)<|.i 12)<|.bf .ord [.l 5])<|.i 97]) ⟨lF pg y (Y<|.int h) (Y<|.str<|Vm.one c) (Y<|.int f) (Y<|.str<|ug x) g x9 x10,vy<|.dict ks vs⟩ =
   Y (.next,⟨lF pg y (Y<|.int h) (Y<|.str<|Vm.one c) (Y<|.int f) (Y<|.str<|ug x) (Y<|.str<|tA c f) x9 x10,vy<|.dict ks vs⟩):=by
  refine Q (by delta tA;refine Q L rfl:tA c f=Vm.one (u+c-97))<|qU (uf (qG<|qx (qx (rm rfl (qx rfl rfl<|RY f 12 (by decide)<|zH<|sm 12<|by decide)<|IE k<|by decide) (uf (qG rfl) rfl)<|rV u c) rfl<|(ui _ 97).trans<|vi ((fq<|aa w<|cp c u).symm:(u:Int)+c-97=((u+c-97:Nat):Int)))<|RJ o) rfl
 exact rf (qU (sW<|qo (qx (qx rfl (qx rfl rfl<|yh 13 h U)<|xd y _ t.1 t.2) rfl<|(u1 _ 36 (by decide)<|sm 36<|by decide).trans<|vi j)<|qG (Q (by delta ug;refine Q H rfl:ug x=Vm.one z)<|uf (qG<|rm (qA rfl rfl) (qx (qx rfl (qx rfl rfl<|(rV h 2).trans<|vi (rfl:(h:Int)+2=((h+2:Nat):Int)))<|xd y _ (fI _)<|sm _<|by lia) rfl<|(u1 _ 27 (by decide)<|sm 27<|by decide).trans<|vi n)<|IE A<|by decide)<|RJ d:(ev orc 57).E Az (.bf .chr [.sub (.cell 0)<|.bin .Mod (.bin .FloorDiv (.l 2)<|.bin .Add (.l 4)<|.i 2)<|.i 27]) ⟨lF pg y (Y<|.int h) (Y<|.str<|Vm.one c) x6 x7 g x9 x10,vy<|.dict ks vs⟩=Y (.str<|ug x,⟨lF pg y (Y<|.int h) (Y<|.str<|Vm.one c) x6 x7 g x9 x10,vy<|.dict ks vs⟩))) rfl)<|rf p<|rL<|D6 (st3:=⟨lF pg y (Y<|.int h) (Y<|.str<|Vm.one c) (Y<|.int f) (Y<|.str<|ug x) (Y<|.str<|tA c f) x9 x10,vy<|.dict ks vs⟩) (rm (yB<|qo rfl<|qo (qx rfl rfl<|acA rfl<|show 1+1<=65536 by decide)<|qG<|qx rfl rfl<|acA rfl<|show 1+1<=65536 by decide) (qx rfl rfl<|KL f 12 (by decide)<|zH<|sm 12<|by decide)<|Uq I) (qA rfl rfl) rfl<|(ql ⟨rfl,aa T<|by decide⟩).trans<|qM e
theorem E6:∀(l done:List Nat)(vs:List V)(d:Nat)(x4 x5 x6 x7 g:Option V),(∀c∈l,97<=c/\c<=122)->(done++l).Nodup->done.length=vs.length->done.length+l.length<=100->d+l.length<=60->
  ∃I i T U n,uh (ev orc 59) Az (.tup [.l 4,.l 5]) N We (Z4 d l) ⟨lF pg NNq x4 x5 x6 x7 g x9 x10,vy<|.dict (ones done) vs⟩ =
   Y (.next,⟨lF pg NNq I i T U n x9 x10,vy<|.dict (ones<|done++l)<|vs++El NNq d l⟩)
 |[]=>@λdone vs d x4 x5 x6 x7 g W W W W W=>Hv x4 x5 x6 x7 g<|by refine Q (bh ..) ?_;show _=Y (Fl.next,(⟨_,vy<|.dict (ones done)<|vs++[]⟩:St));exact Q (bh ..) rfl
 |c::l=>@λdone vs d x4 x5 x6 x7 g o x e b w=>by
  rw[aQ] at b w
  obtain ⟨I,i,T,U,n,k⟩:=E6 l (done++[c]) (vs++[.str<|vX c (ym NNq d)<|zb NNq d]) (d+1) _ _ _ _ _ (λc j=>o c<|.tail _ j) (J ((a8 done [c] l).symm) x) (ax aG<|Q (aG ..)<|Q e rfl) (by refine Q (aG ..) ?_;show done.length+1+_<=100;lia) (by lia);rw[a8,a8] at k
  exact Hv I i T U n<|r_ rfl rfl (aez (o c<|.head _).1 (o c<|.head _).2 (ni w:d<=60) (Ex c (.str<|vX c (ym NNq d)<|zb NNq d) done vs e λa=>(i9.mp x).2.2 c a c (.head _) rfl)<|by refine Q (Th ..) ?_;lia) k
end
noncomputable def DN (U:Int):Nat->List Nat->Nat->Option ba
 |J,[]=>@λJ=>N
 |i,h::M=>@λt=>if h=t then Y (vX h (ym U i)<|zb U i) else DN U (i+1) M t
theorem Rg (U)(c):∀(M:List Nat)(h:Nat),findKey (ones M) (El U h M) (.str<|Vm.one c)=Y ((DN U h M c).map V.str)
 |[]=>@λJ=>rfl
 |a::M=>@λh=>by
  refine (?_:_=Y ((if a=c then Y (vX a (ym U h)<|zb U h) else DN U (h+1) M c).map V.str))
  by_cases e:a=c
  .rw[ql e];exact qT ((GU a c).trans<|dt e) rfl
  .rw[qm e];exact qF (VP e)<|Rg U c M _
theorem G2 (U)(c):∀(M:List Nat)(h:Nat),c∈M->∃t,DN U h M c=Y (vX c (ym U t)<|zb U t)
 |[]=>@λJ b=>nomatch b
 |a::M=>@λh b=>by
  by_cases e:a=c
  .exact ⟨h,(ql e).trans<|e▸rfl⟩
  .exact (G2 U c M (h+1)<|(aE.mp b).resolve_left λi=>e i.symm).elim λz n=>⟨z,(qm e).trans n⟩
theorem Ma (U)(c):∀(M:List Nat)(h:Nat),c∉M->DN U h M c=N
 |[]=>@λJ G=>rfl
 |a::M=>@λh G=>(qm<|by rintro rfl;exact G<|.head _).trans<|Ma U c M _ λb=>G<|.tail _ b
def gC (U:Int)(c:Nat):List Nat:=match DN U 0 qB c with
 |Y p=>p.cps.toList|N=>[c]
theorem aet (e:(findKey ks vs<|.str<|Vm.one c).map (Al ·<|.str<|Vm.one c)=Y w)(i:view a L=.rt ks vs):za a .A' L [.str<|Vm.one c,.str<|Vm.one c]=Y (w,a):=by have n:za a .A' L [.str<|Vm.one c,.str<|Vm.one c]=(Tv a .A' (view a L) [.str<|Vm.one c,.str<|Vm.one c]).map (·,a):=rfl;exact Q n<|Q i<|qM e
theorem abl (U)(c):(findKey (ones qB) (El U 0 qB)<|.str<|Vm.one c).map (Al ·<|.str<|Vm.one c)=Y (.str<|qz<|gC U c):=by
 refine Q (Rg ..) ?_;delta gC
 cases DN U 0 qB c with
 |none=>rfl|some p=>rfl
def Zm:List<|Nat×List Nat:=EK++qB.flatMap λc=>[(c,[c]),(c-32,[c])]
def xt (c:Nat):List Nat:=(Zm.lookup c).getD [c]
def sP (c:Nat):Bool:=!rp.contains c
noncomputable def vz:List Nat:=[38,97,109,112,59]
noncomputable def zf:List Nat:=[64258,8360,64262]
noncomputable def uH (c:Nat):List Nat:=if c=64258 then [102,108] else if c=8360 then [114,115] else if c=64262 then [115,116] else [c]
theorem Ml:∀c∈qB,∀h,h<12->xt (tC.getD h 0+c-97)=[c]:=by decide +kernel
theorem X6:∀c∈vz++zf,xt c=uH c/\sP c=true/\c∉qB:=by decide +kernel
theorem FW:∀c∈qB++vz,uH c=[c]:=by decide +kernel
theorem XI:∀c,c<27->sP (rp.getD c 0)=false:=by decide +kernel
theorem Ra (a:c∈qB)(G:t<27):((vX c h t).cps.toList.filter sP).flatMap xt=uH c/\(vX c h t).cps.toList.length<=2/\∀T∈(vX c h t).cps.toList,sP T=true->∃z,z<12/\T=tC.getD z 0+c-97:=by
 have e:sP (tC.getD (h%12) 0+c-97)=true:=by delta sP;exact Q (Yb c a (h%12)<|dq _<|by decide) rfl
 have i:=Ml c a (h%12)<|dq _<|by decide
 have o:=XI t G;have A:(tA c h).cps.toList=[tC.getD (h%12) 0+c-97]:=rfl;have H:(ug t).cps.toList=[rp.getD t 0]:=rfl;generalize I:tC.getD (h%12) 0+c-97=d at *
 generalize rp.getD t 0=w at *
 have b:∀T:Nat,T=d->sP T=true->∃z,z<12/\T=tC.getD z 0+c-97:=λT hx J=>⟨h%12,dq _<|by decide,hx.trans I.symm⟩
 delta vX;refine Q (FW c<|fa _ a) ?_
 match h/12 with
 |0=>
  refine (?_:((tA c h).cps.toList.filter sP).flatMap xt=_/\(tA c h).cps.toList.length<=2/\∀T∈(tA c h).cps.toList,_);refine Q A ⟨by simp[e,i],(by decide:1<=2),λT hx=>b T<|aM.mp hx⟩
 |1=>
  refine (?_:((ug t++tA c h).cps.toList.filter sP).flatMap xt=_/\(ug t++tA c h).cps.toList.length<=2/\∀T∈(ug t++tA c h).cps.toList,_);refine Q (jR ..)<|Q (eB ..)<|Q A<|Q H ⟨by simp[e,i,o],(by decide:2<=2),λT hx k=>?_⟩
  rcases aE.mp hx with rfl|hx
  .rw[o] at k;exact fT k
  .exact b T (aM.mp hx) k
 |n+2=>
  refine (?_:((tA c h++ug t).cps.toList.filter sP).flatMap xt=_/\(tA c h++ug t).cps.toList.length<=2/\∀T∈(tA c h++ug t).cps.toList,_);refine Q (jR ..)<|Q (eB ..)<|Q A<|Q H ⟨by simp[e,i,o],(by decide:2<=2),λT hx k=>?_⟩
  rcases aE.mp hx with rfl|hx
  .exact b _ rfl k
  .rw[aM.mp hx,o] at k;exact fT k
theorem OQ (I)(d:c∈qB++(vz++zf)):((gC I c).filter sP).flatMap xt=uH c/\(gC I c).length<=2/\∀j∈gC I c,sP j=true->∀(L:Nat)(w:1<=L)(a:List O),(qy L).top 120 [.str<|Vm.one j] [] [] a=Y (.str<|qz<|xt j,a):=by
 delta gC;rcases bO.mp d with h|h
 .refine rM (G2 I c qB 0 h) λT e=>Q e ?_
  obtain ⟨_,G⟩:=uZ (bg I ((T+2:Nat):Int)) (b:=27) (by decide);refine qJ (Ra h G) λi k f=>ri i k λj U n L w a=>qt (f j U n) λz g A=>Q A ?_;clear A
  exact Q (Ml c h z g)<|Ro L w h z g a
 .refine qJ (X6 c h) λi k f=>Q (Ma I c qB 0 f)<|ri ?_ (by decide:1<=2) λj U n L w a=>?_
  .skip
   refine Q (dK ..)<|Q (ql k)<|J i ?_
   show xt c++[]=_;refine Q (bh ..) rfl
  .obtain rfl:=aM.mp U;refine Q i ?_;rcases bO.mp h with h|h
   .exact Q (FW j<|dE _ h)<|Rf L w h a
   .skip
    exact GH L w ((by decide +kernel:∀j∈zf,(j,uH j)∈EK) j h) a
theorem Sd {U:List Nat}{y:St}{f:List V}(e:(ev orc<|j+1).E U x y=Y (.lst f,y))(i:AV f=Y s):(ev orc<|j+2).E U (.mt .join (.k<|.qr "") [x]) y=Y (.str s,y):=uK rfl rfl rfl (qG e)<|QP rfl i
theorem SA {b:List O}{L:List Nat}{f h:Nat}(e:L[f]?=Y h) (U:L.length<=65536):sf b (.str<|qz L) (.int f)=Y (.str<|Vm.one h):=by refine (Q (rfl:(qz L).cps.size=L.length)<|Q (ql<|show qZ L.length=true from decide_eq_true U)<|Q (zK<|(aO.mp e).1)<|Q (d8 ..)<|J fO ?_:(if qZ (qz L).cps.size=true then (place (f:Int) (qz L).cps.size).bind λT=>((qz L).cps[T]?).map λh=>V.str<|Vm.one h else N)=_);show (L[f]?).map _=_;exact Q e rfl
theorem TN {U:List Nat}(w:U.length<=65536):yg hp .len [.str<|qz U]=Y (.int (U.length:Nat)):=by refine (Q (rfl:(qz U).cps.size=U.length)<|Q (ql<|show qZ U.length=true from decide_eq_true w) rfl:(if qZ (qz U).cps.size=true then Y (V.int ((qz U).cps.size:Nat)) else N)=_)
theorem I4 {b:Nat->Bool}(l:List Nat):((aq l.length).filter λj=>b<|l.getD j 0).map (λj=>l.getD j 0)=l.filter b:=by
 have e:(aq l.length).map (λj=>l.getD j 0)=l:=by
  refine eu λh=>?_
  by_cases G:h<l.length
  .refine Q (tB _ G)<|Q cq<|Q (aD G) ?_;rfl
  .refine Q (b_<|by refine Q (sQ ..) ?_;lia)<|Q (b_<|by lia) rfl
 have i:=ll (p:=b) (f:=λj=>l.getD j 0) (l:=aq l.length);rw[e] at i
 exact i.symm
def AO (U:Int)(T:List Nat):List Nat:=if a_ U 2=1 then (cX (cX (cX (qz T) "fl" "ﬂ") "rs" "₨") "st" "ﬆ").cps.toList else T
theorem CI:("ﬂ":ba).cps.toList.flatMap uH=("fl":ba).cps.toList.flatMap uH/\("₨":ba).cps.toList.flatMap uH=("rs":ba).cps.toList.flatMap uH/\("ﬆ":ba).cps.toList.flatMap uH=("st":ba).cps.toList.flatMap uH:=by decide +kernel
theorem CH:(∀c∈("ﬂ":ba).cps.toList,c∈zf)/\(∀c∈("₨":ba).cps.toList,c∈zf)/\(∀c∈("ﬆ":ba).cps.toList,c∈zf)/\("ﬂ":ba).length=1/\("₨":ba).length=1/\("ﬆ":ba).length=1:=by decide +kernel
theorem DV {U:List Nat}(h:∀c∈U,c∈qB++vz):U.flatMap uH=U:=by
 induction U with
 |nil=>rfl|cons c l e=>exact ax c9<|Q (FW c<|h c<|.head _)<|Q (e λi b=>h i<|.tail _ b) rfl
theorem Mh:∀c,1<=(uH c).length:=λc=>by
 delta uH
 split
 .decide
 split
 .decide
 split
 .decide
 exact ag 1
theorem IM (U)(h:∀c∈i,c∈qB++vz):(AO U i).flatMap uH=i/\∀c∈AO U i,c∈qB++(vz++zf):=by
 have e:∀c∈i,c∈qB++(vz++zf):=λc b=>(bO.mp<|h c b).elim (λq=>fa _ q) λq=>dE _<|fa _ q
 have d:∀c∈zf,c∈qB++(vz++zf):=λc q=>dE _<|dE _ q
 delta AO
 split
 .refine ⟨?_,λc b=>?_⟩
  .exact Q (yU _ CI.2.2)<|Q (yU _ CI.2.1)<|Q (yU _ CI.1)<|DV h
  .rcases DD b with q|q
   .exact d c<|CH.2.2.1 c q
   .rcases DD q with q|q
    .exact d c<|CH.2.1 c q
    .rcases DD q with q|q
     .exact d c<|CH.1 c q
     .exact e c q
 .exact ⟨DV h,e⟩
theorem I3 {p j e:ba}(f:e.cps.toList.flatMap uH=j.cps.toList.flatMap uH)(w:(p.cps.toList.flatMap uH).length<=b):(cX p j e).length<=b:=Q (cF.symm:(cX p j e).length=(cX p j e).cps.toList.length)<|aa (B1 _ λc J=>Mh c)<|Q (yU p f) w
section
variable {a:List Nat}(g:∀c∈a,c∈qB++vz) (d:a.length<=1000)
include g d
theorem P1:(AO NNq a).length<=1000:=aa (B1 _ λc J=>Mh c)<|Q ((IM NNq g).1) d
theorem Xf {x4 x5 x6 x7:Option V}:(ev orc 59).E Az (.rb (.cmp (.bin .Mod (.l 2)<|.i 2) [.Eq] [.i 1]) (.mt .replace (.mt .replace (.mt .replace (.l 0) [.k<|.qr "fl",.k<|.qr "ﬂ"]) [.k<|.qr "rs",.k<|.qr "₨"]) [.k<|.qr "st",.k<|.qr "ﬆ"])<|.l 0) ⟨lF (.str<|qz a) NNq x4 x5 x6 x7 x8 x9 x10,hp⟩ =
  Y (.str<|qz<|AO NNq a,⟨lF (.str<|qz a) NNq x4 x5 x6 x7 x8 x9 x10,hp⟩):=by
 have e:(ev orc 58).E Az (.cmp (.bin .Mod (.l 2)<|.i 2) [.Eq] [.i 1]) ⟨lF (.str<|qz a) NNq x4 x5 x6 x7 x8 x9 x10,hp⟩=Y (.bool<|decide<|a_ NNq 2=1,⟨lF (.str<|qz a) NNq x4 x5 x6 x7 x8 x9 x10,hp⟩):=qW (qx rfl rfl<|u1 NNq 2 (by decide)<|by decide +kernel) rfl<|Ae _ _
 have r:∀{p j:ba},p.length<=1000->j.length=1->vE p j=true:=λi k=>by delta vE;exact Q k<|decide_eq_true<|aa (bo i<|cy 1<|cm i)<|by decide
 have b:((qz a).cps.toList.flatMap uH).length<=1000:=by show (a.flatMap uH).length<=1000;exact Q (DV g) d
 delta AO
 by_cases n:a_ NNq 2=1
 .exact Q (ql n)<|vC e (dt n)<|uK (uK (uK rfl rfl rfl (qo rfl<|qG rfl)<|BK rfl<|r d CH.2.2.2.1) rfl rfl (qo rfl<|qG rfl)<|BK rfl<|r (I3 CI.1 b) CH.2.2.2.2.1) rfl rfl (qo rfl<|qG rfl)<|BK rfl<|r (I3 CI.2.1<|Q (yU _ CI.1) b) CH.2.2.2.2.2
 .exact Q (qm n)<|wB e (df n) rfl
end
abbrev Br (U:Int)(y h:Option V):List O:=[.cell<|Y<|.lst<|nats rp,.cell<|Y<|.ref 4,.cell y,.cell h,.dict (ones qB)<|El U 0 qB]
theorem TM:∀c∈qB,97<=c/\c<=122:=by decide
theorem OD:qB.Nodup:=by decide
theorem Jv (c):∀a:List<|Nat×List Nat,(∀b∈a,b.2.length<=2)->((a.lookup c).getD [c]).length<=2
 |[]=>@λJ=>(by decide:1<=2)
 |(h,f)::a=>@λd=>by
  refine Q (bM ..) ?_
  cases c==h with
  |true=>exact d _<|.head _
  |false=>exact Jv c a λb e=>d b<|.tail _ e
theorem Yu (c):(xt c).length<=2:=Jv c Zm (by decide +kernel)
theorem Xr (q9)(w:5<=q9)(NNq)(hpg:∀o∈a,o∈qB++vz)(hl:a.length<=1000)(p):(qy q9).top 183 [.str<|qz a,.qr rq,.int NNq] [] [] p=Y (.str<|qz a,p):=by
 obtain ⟨u,rfl⟩:∃u,q9=u+1:=⟨q9-1,(aH<|aa (by decide) w).symm⟩;have d:1<=u:=aa (by decide)<|aJ w
 refine rF (IM NNq hpg) λsp1 Zy=>?_
 have T:=P1 (NNq:=NNq) hpg hl;have g:=λy s v x q A I p=>Xf (orc:=qy u) (NNq:=NNq) hpg hl (x4:=y) (x5:=s) (x6:=v) (x7:=x) (x8:=q) (x9:=A) (x10:=I) (hp:=p)
 generalize AO NNq a=sp at *
 refine NS (E6 (orc:=qy u) (pg:=.str<|qz a) (NNq:=NNq) (x9:=N) (x10:=N) qB [] [] 0 N N N N N TM OD rfl (by decide)<|by decide) λL y5 z y7 y8 hlp=>?_
 have hgl:∀o∈sp,(gC NNq o).length<=2:=λo hc=>(OQ NNq<|Zy o hc).2.1
 have G:(sp.flatMap<|gC NNq).length<=2000:=by
  have key:∀j:List Nat,(∀o∈j,(gC NNq o).length<=2)->(j.flatMap<|gC NNq).length<=2*j.length:=λj=>by
   induction j with
   |nil=>exact λW=>ag _
   |cons o j ih=>
    intro h;have i:=ih λU hx=>h U<|.tail _ hx
    have:=h o<|.head _
    exact Q (c9 ..)<|Q (aG ..)<|Q (aQ ..)<|aa (bo this i)<|aN<|bx ..
  have:=key sp hgl;lia
 have hb3:∀U∈sp.flatMap (gC NNq),sP U=true->∀p,(qy u).top 120 [.str<|Vm.one U] [] [] p=Y (.str<|qz<|xt U,p):=λU hx n p=>qt (fZ.mp hx) λo hc hx=>(OQ NNq<|Zy o hc).2.2 U hx n u d p
 have ah6:((sp.flatMap<|gC NNq).filter sP).flatMap xt=a:=by
  refine J sp1 ?_;have key:∀j:List Nat,(∀o∈j,o∈qB++(vz++zf))->((j.flatMap<|gC NNq).filter sP).flatMap xt=j.flatMap uH:=λj=>by
   induction j with
   |nil=>exact λW=>rfl
   |cons o j ih=>
    intro h;refine Q (c9 ..)<|Q (iS ..)<|ax eE<|Q ((OQ NNq<|h o<|.head _).1)<|Q (ih λU hx=>h U<|.tail _ hx)<|ax c9 rfl
  exact key sp Zy
 have H:(ev (qy u) 59).E Az (.mt .join (.k<|.qr "") [.comp (.mt .get (.cell 1) [.l 0,.l 0]) [.l 0] [.l 9] [[]] 1 0]) ⟨lF (.str<|qz a) NNq L y5 z y7 y8 (Y<|.str<|qz sp) N,Br NNq N N⟩ =
   Y (.str<|qz<|sp.flatMap<|gC NNq,⟨lF (.str<|qz a) NNq L y5 z y7 y8 (Y<|.str<|qz sp) N,Br NNq N N⟩):=
  Sd (u4 (ur rfl rfl rfl) (λo W=>uK (qA rfl rfl) rfl rfl (qo rfl<|qG rfl)<|aet (abl NNq o) rfl)<|bJ T)<|DE sp (λW W=>rfl) hgl<|by lia
 generalize hT:sp.flatMap (gC NNq)=tl at *
 have c:(ev (qy u) 59).E Az (.comp (.call (.k<|.con<|.ref 74) [.l 0] [] []) [.l 0] [.cell 2] [[]] 1 0) ⟨lF (.str<|qz a) NNq L y5 z y7 y8 (Y<|.str<|qz sp) N,Br NNq (Y<|.str<|qz tl) N⟩ =
   Y (.lst<|bL<|tl.map rp.contains,⟨lF (.str<|qz a) NNq L y5 z y7 y8 (Y<|.str<|qz sp) N,Br NNq (Y<|.str<|qz tl) N⟩):=by
  have e:bL (tl.map rp.contains)=tl.map λo=>V.bool<|rp.contains o:=by delta bL;exact ax bk rfl
  exact Q e<|u4 (ur rfl (qA rfl rfl) rfl) (λo W=>call_top (qG rfl)<|Yv u d o _)<|by lia
 have e7:(ev (qy u) 59).E Az (.comp (.call (.k<|.con<|.ref 120) [.sub (.cell 2)<|.l 0] [] []) [.l 0] [.bf .range [.bf .len [.cell 2]]] [[.cmp (.sub (.cell 3)<|.l 0) [.Is] [.k<|.bool false]]] 1 0) ⟨lF (.str<|qz a) NNq L y5 z y7 y8 (Y<|.str<|qz sp) N,Br NNq (Y<|.str<|qz tl)<|Y<|.lst<|bL<|tl.map rp.contains⟩ =
   Y (.lst<|((aq tl.length).filter λk=>sP<|tl.getD k 0).map λk=>.str<|qz<|xt<|tl.getD k 0,⟨lF (.str<|qz a) NNq L y5 z y7 y8 (Y<|.str<|qz sp) N,Br NNq (Y<|.str<|qz tl)<|Y<|.lst<|bL<|tl.map rp.contains⟩):=by
  have gd:∀k,k<tl.length->tl[k]?=Y (tl.getD k 0):=λk hk=>by refine Q cq<|Q (aD hk) ?_;rfl
  refine xO (λk=>sP<|tl.getD k 0) (vD (uf (qG<|qA rfl rfl)<|TN<|by lia)<|by lia) (λk hk=>?_) (λk hk n=>?_) (by refine Q (aU ..) ?_;lia)
  .have hk:=bF.mp hk;refine qW (rm (qA rfl rfl) rfl<|vU (by delta bL;refine Q aZ<|Q aZ<|Q (gd k hk) ?_;rfl)<|by refine Q (by refine Q (Fs ..)<|Q (ao ..) rfl:(bL<|tl.map rp.contains).length=tl.length) ?_;lia) rfl ?_;delta sP
   cases rp.contains (tl.getD k 0)<;>rfl
  .skip
   exact call_top (qG<|rm (qA rfl rfl) rfl<|SA (gd k<|bF.mp hk)<|by lia)<|hb3 _ (bG<|gd k<|bF.mp hk) n _
 have hj:AV (((aq tl.length).filter λk=>sP<|tl.getD k 0).map λk=>.str<|qz<|xt<|tl.getD k 0)=Y (qz a):=by
  have:=DE (f:=λk=>V.str<|qz<|xt<|tl.getD k 0) ((aq tl.length).filter λk=>sP<|tl.getD k 0) (λW W=>rfl) (λk W=>Yu _) (by
   have:=cE (λk=>sP<|tl.getD k 0)<|aq tl.length
   rw[aU] at this
   lia)
  refine Q this ?_;have e:(((aq tl.length).filter λk=>sP<|tl.getD k 0).flatMap λk=>xt<|tl.getD k 0)=a:=by refine J ah6<|J (I4 tl)<|Q (oZ ..) rfl
  refine Q e rfl
 generalize hK:((aq tl.length).filter λk=>sP<|tl.getD k 0).map (λk=>V.str<|qz<|xt<|tl.getD k 0)=kp at e7 hj
 have e8:(ev (qy u) 59).E Az (.rb (.cmp (.comp (.cmp (.l 0) [.Is] [.k<|.bool true]) [.l 0] [.cell 3] [[]] 1 0) [.Eq] [.comp (.cmp (.bf .ord [.l 0]) [.In] [.cell 0]) [.l 0] [.cell 2] [[]] 1 0]) (.mt .join (.k<|.qr "") [.l 10])<|.k<|.qr "") ⟨lF (.str<|qz a) NNq L y5 z y7 y8 (Y<|.str<|qz sp)<|Y<|.lst kp,Br NNq (Y<|.str<|qz tl)<|Y<|.lst<|bL<|tl.map rp.contains⟩ =
   Y (.str<|qz a,⟨lF (.str<|qz a) NNq L y5 z y7 y8 (Y<|.str<|qz sp)<|Y<|.lst kp,Br NNq (Y<|.str<|qz tl)<|Y<|.lst<|bL<|tl.map rp.contains⟩):=by
  exact vC (qW (u4 ((tP rfl<|qA rfl rfl).trans rfl) (λb W=>by cases b<;>rfl)<|by refine Q (ao ..) ?_;lia) (Q (by delta bL;exact ax bk rfl:bL (tl.map rp.contains)=tl.map λo=>V.bool<|rp.contains o)<|u4 (ur rfl (qA rfl rfl) rfl) (λo W=>qW (uf (qG rfl) rfl) (qA rfl rfl)<|DI o rp)<|by lia:(ev (qy u) 57).E Az (.comp (.cmp (.bf .ord [.l 0]) [.In] [.cell 0]) [.l 0] [.cell 2] [[]] 1 0) ⟨lF (.str<|qz a) NNq L y5 z y7 y8 (Y<|.str<|qz sp)<|Y<|.lst kp,Br NNq (Y<|.str<|qz tl)<|Y<|.lst<|bL<|tl.map rp.contains⟩=Y (.lst<|bL<|tl.map rp.contains,⟨lF (.str<|qz a) NNq L y5 z y7 y8 (Y<|.str<|qz sp)<|Y<|.lst kp,Br NNq (Y<|.str<|qz tl)<|Y<|.lst<|bL<|tl.map rp.contains⟩))<|Kc (hp:=[]) _<|by refine Q (ao ..) ?_;lia) rfl<|Sd rfl hj
 exact rD u (t:=t23) rfl rfl rfl rfl rfl (ax ua<|qH (by kernel_rfl)<|qH (by kernel_rfl:(ev (qy u) 60).S Az Vp ⟨[Y<|.str<|qz a,Y<|.qr rq,Y<|.int NNq,N,N,N,N,N,N,N,N],[.cell<|Y<|.lst<|nats rp,.cell N,.cell N,.cell N]⟩=Y (.next,⟨lF (.str<|qz a) NNq N N N N N N N,[.cell<|Y<|.lst<|nats rp,.cell N,.cell N,.cell N]⟩))<|qH rfl<|qH (v8 (qn (λj:List Nat=>Y ((j.map λo=>V.str<|Vm.one o).zipIdx.map λU:V×Nat=>V.tup [.int (U.2:Nat),U.1],N,(⟨lF (.str<|qz a) NNq N N N N N N N,vy<|.dict (ones []) []⟩:St))) A2) hlp)<|qH (qU (g L y5 z y7 y8 N N<|Br NNq N N) rfl)<|qH (qU H rfl)<|qH (qU c rfl)<|qH (qU e7 rfl)<|tq<|sx e8:we (qy u) Az Y_ ⟨[Y<|.str<|qz a,Y<|.qr rq,Y<|.int NNq,N,N,N,N,N,N,N,N],[.cell N,.cell N,.cell N,.cell N]⟩=Y (.str<|qz a,Br NNq (Y<|.str<|qz tl)<|Y<|.lst<|bL<|tl.map rp.contains)) rfl
noncomputable def OP:List Nat->List Int->List Nat->List (List Int)
 |[]=>@λa J=>[a]
 |k::f=>@λa p=>if p=[] then OP f (a++[-1]) [k] else (aq p.length).flatMap λr=>OP f (a++[tI<|p.take<|r+1])<|p.take (r+1)++[k]
theorem D5 (q):∀(a:List Nat)(f:List Int)(j:List Nat),zt q a f j∈OP a f j
 |[]=>@λf j=>.head _
 |k::a=>@λf j=>by
  show zt q a (f++[tI<|vu q k j]) (vu q k j++[k])∈if j=[] then _ else _
  by_cases e:j=[]
  .exact Q e<|Q (ql rfl)<|Q (show vu q k []=[] from pX)<|D5 q a _ _
  .refine Q (qm e) ?_;exact rM (dQ<|eH (bg q ((12^k:Nat):Int))<|bq.mpr<|iz.mpr e) λh n=>Q (by delta vu;exact Q n<|Q (bx ..) rfl:vu q k j=j.take (h+1))<|fZ.mpr<|qp h (bF.mpr<|Ny (i5 (bg q ((12^k:Nat):Int))<|bq.mpr<|iz.mpr e) n)<|D5 q a _ _
noncomputable def vm (a:List Int)(c:Nat):Int:=a.getD c 0
noncomputable def sz (a:List Int)(c:Nat):Nat:=(a.getD c 0+1).toNat
def UQ (c:Nat)(a:List Int)(h:Nat):Bool:=decide ((wc (sz a) c h).length<=30)&&(((wc (sz a) c h).any λb=>!b.1)&&(match xi (wc (sz a) c h) 0 [] [] [] with
 |Y (t,f,j,u)=>decide (t=c)&&(decide (f=a)&&(decide (u=if h=0 then [] else [0])&&(aq c).all λT=>decide (T=0)||decide (T∈j)))|N=>false))
def aik (c:Nat)(a:List Int):Bool:=decide (a.length=c)&&(decide (a.getD 0 0=-1)&&(((aq c).all λh=>decide (h=0)||(decide (0<=a.getD h 0)&&decide (a.getD h 0<h))) &&
 (full (rr (sz a) c) 9 (rr (sz a) c 1)&&(((Ax (rr (sz a) c) 9<|rr (sz a) c 1).all λb=>decide<|2<=b.2)&&(UQ c a 0&&UQ c a 1)))))
theorem shapes:∀c,c<6->2<=c->(OP (aq c) [] []).all (aik c)=true:=by decide +kernel
structure Hg (n:Nat) (a:List Int):Prop where
 len:a.length=n
 a0:vm a 0=-1
 ak:∀k,0<k->k<n->0<=vm a k/\vm a k<k
 ful:full (rr (sz a) n) 9 (rr (sz a) n 1)=true
 ev2:∀e∈Ax (rr (sz a) n) 9 (rr (sz a) n 1),2<=e.2
 evs:∀c,(wc (sz a) n c).length<=30/\(∃e∈wc (sz a) n c,e.1=false)/\∃cls,xi (wc (sz a) n c) 0 [] [] []=some (n,a,cls,if c=0 then [] else [0])/\∀i,0<i->i<n->i∈cls
theorem Mw (e:UQ n a c=true):(wc (sz a) n c).length<=30/\(∃b∈wc (sz a) n c,b.1=false)/\∃f,xi (wc (sz a) n c) 0 [] [] []=Y (n,a,f,if c=0 then [] else [0])/\∀t,0<t->t<n->t∈f:=by
 have i:=aR<|aR e
 refine ri (of_decide_eq_true<|aL e) ?_ ?_
 .exact qt (hH.mp<|aL<|aR e) λb d q=>qp b d<|by cases z:b.1 with|true=>rw[z] at q;exact fT q|false=>rfl
 .cases H:xi (wc (sz a) n c) 0 [] [] [] with
  |none=>rw[H] at i;exact fT i
  |some r=>
   obtain ⟨T,j,f,u⟩:=r;revert i;refine Q H ?_;intro i;refine qp f (by refine Q (of_decide_eq_true<|aL i)<|Q (of_decide_eq_true<|aL<|aR i)<|Q (of_decide_eq_true<|aL<|aR<|aR i) rfl) λt G U=>?_
   rcases oj.mp (dy.mp (aR<|aR<|aR i) t<|bF.mpr U) with q|q
   .exact absurd (of_decide_eq_true q)<|bw G
   .exact of_decide_eq_true q
theorem BH (w:2<=n)(i:n<=5)(s):Hg n<|zt s (aq n) [] []:=by
 have e:=dy.mp (shapes n (fV i) w) _<|D5 s (aq n) [] []
 generalize zt s (aq n) [] []=U at e ⊢
 refine ⟨of_decide_eq_true<|aL e,of_decide_eq_true<|aL<|aR e,λh G T=>?_,aL<|aR<|aR<|aR e,λb a=>of_decide_eq_true<|dy.mp (aL<|aR<|aR<|aR<|aR e) b a,λt=>?_⟩
 .skip
  rcases oj.mp (dy.mp (aL<|aR<|aR e) h<|bF.mpr T) with q|q
  .exact absurd (of_decide_eq_true q)<|bw G
  .exact ⟨of_decide_eq_true<|aL q,of_decide_eq_true<|aR q⟩
 .by_cases q:t=0
  .exact Q q<|Mw<|aL<|aR<|aR<|aR<|aR<|aR e
  .skip
   exact Q (by delta wc;refine Q (qm q)<|Q (qm<|by decide) rfl:wc (sz U) n t=wc (sz U) n 1)<|Q (qm q)<|Mw<|aR<|aR<|aR<|aR<|aR<|aR e
end L1
end
noncomputable section
namespace L1
open Vm
open Mp (LS lst yp co cn u3 xu)
section
variable {d b i:Nat->Int}(o:Mp.Hj b n) (j:∀k,k<n->i k≠0->∃p:Nat,b k=(p:Int))
include o j
theorem QH:∀(m:Nat)(a:LS),m<=n->yp d b i n m a->yp d b i n 0 (lr b i m a)
 |0=>@λa J h=>h
 |m+1=>@λa w h=>QH m _ (b6 w)<|Mp.GQ o j w h
theorem QG:∀(m:Nat)(a:LS),m+1<=n->yp d b i n (m+1) a->yp d b i n 1 (lt b i m a)
 |0=>@λa J h=>h
 |m+1=>@λa w h=>QG m _ (b6 w)<|Mp.GQ o j w h
end
def F8 (e T U:Nat->Int)(c:Nat)(q:Int):Nat->LS
 |0=>lr T U c<|s0 e q
 |_=>lt T U (c-1)<|s0 e q
theorem abL {f I L:Nat->Int}{g:Nat}(H:xu g f I L)(G:0<g)(o:h<=1):∃t:Nat,D0 (F8 f I L g x h)=[((Mp.chg<|Mp.ux<|co f I L g h x:Nat):Int),((Mp.chg<|Mp.ux<|cn f I L g h x:Nat):Int),((t:Nat):Int)]/\t<=g-h/\((co f I L g h x).map λc=>decide<|c=0).idxOf false=t:=by
 have q:yp (λT=>f T-x) I L g h<|F8 f I L g x h:=by
  rcases kA.mp o with rfl|rfl
  .exact QH H.fth H.hti g _ (ag _)<|Mp.ER rfl rfl rfl rfl rfl rfl
  .exact QG H.fth H.hti (g-1) _ (aN<|aH G)<|Q (aH G)<|Mp.ER rfl rfl rfl rfl rfl rfl
 refine qJ q.cnt λe s U=>qt U λt y u=>?_
 obtain ⟨v,z⟩:=Mp.XJ y;refine ru t (Q (Mp.abP ..)<|Q (Mp.abQ ..) ?_) v z;show [_,_,_]=_;refine Q e<|Q s<|Q u rfl
theorem Mn (c):∀a:List Nat,(∀d∈a,d<2^c)->se c (valN c a) a.length=a
 |[]=>@λJ=>rfl
 |d::a=>@λe=>by
  have G:=e d<|iQ ..
  refine (Q (show valN c (d::a)=d+2^c*valN c a from rfl)<|Q (mj ..)<|Q (pq G)<|Q (n3 _ _<|bE c)<|Q (jv G)<|Q (bZ ..)<|Q (Mn c a λt f=>e t<|List.mem_cons_of_mem _ f) rfl:(valN c (d::a)%2^c)::se c (valN c (d::a)/2^c) a.length=_)
theorem adT {h:Nat}(G:0<h)(w:2^(h*L)<=c)(T:c<2^(h*(L+1))):nd c h=L+1:=by
 have q:au (c:Int)<=h*(L+1):=bits_le.mpr T;have H:¬au (c:Int)<=h*L:=λe=>b8 _<|ai (bits_le.mp e) w
 apply Nat.div_eq_of_lt_le
 .refine Q (bQ ..)<|nY<|(cV ..)▸a9 (gF.mp H) h
 .skip
  refine Q (by refine Q (bQ ..)<|Q (dS ..)<|Q (dS ..) rfl:(L+1+1)*h=h*L+h+h)<|ai (hU (oV _ G) lj)<|a9 q h
theorem val_last (c):∀(a:List Nat)(d:Nat),0<d->2^(c*a.length)<=valN c (a++[d]):=λa d G=>by rw[Cr];show _<=_+2^(c*a.length)*(d+2^c*0);refine Q (Nat.mul_zero ..) ?_;rw[gV];exact MW (aW _ G)
theorem XY (c h)(l)(t)(f)(w:18<=c)(G:0<h)(q:h<=16000)(g:∀T∈l++[t],T<2^h)(U:0<t)(s:h*(l.length+1)<=30000) :
  (qy c).top 35 [.int (valN h<|l++[t]:Nat),.int h] [] [] f=Y (.lst<|nats<|l++[t],f):=by
 have u:=Pz h (l++[t]) g;have e:(l++[t]).length=l.length+1:=ax aG rfl;replace u:=e▸u;have:=i2d c (valN h<|l++[t]) h f w G q<|aa (bits_le.mpr u) s
 rw[adT G (val_last h l t U) u,<-e,Mn h _ g] at this
 exact this
theorem aaQ {f b z:Nat->Int}{n h:Nat}{q:Int}(H:xu n f b z) (t:Nat) (w:18<=t) (I:0<h) (s:h<=4500) (u:∀k,k<n->Mp.AU f b z n k<=q) (T:(49+(q.natAbs:Int))^5<2^h) (a:List O) :
  (qy t).top 35 [.int<|u3 f b z n 0<|2^h+q,.int h] [] [] a=Y (.lst<|iL<|co f b z n 0 q,a):=by
 have L:=Mp.aeN H u;have v:=Mp.H0 H 0 q;have hlen:=Mp.B8 (own:=f) (ab:=b) (ti:=z) (n:=n) 0 q;have x:=Mp.Mu (own:=f) (ab:=b) (ti:=z) (n:=n) 0 q;refine Q (Mp.Cp H 0 _ q)<|Q (show (2:Int)^h+q-q=2^h by exact i7 _ _) ?_
 generalize co f b z n 0 q=cl at *
 obtain ⟨y,rfl⟩:∃y:List Nat,cl=y.map λ(d:Nat)=>(d:Int):=by
  clear hlen x v
  induction cl with
  |nil=>exact ⟨[],rfl⟩|cons c l G=>
   obtain ⟨y,rfl⟩:=G λU A=>L U<|.tail _ A
   obtain ⟨k,hk⟩:=dQ (L c<|.head _);exact ⟨k::y,Q hk rfl⟩
 refine Q (FY ..)<|J (FP ..) ?_
 rw[ao] at hlen
 replace x:=aZ▸x;have zQ:y≠[]:=by rintro rfl;exact lz hlen
 have hd:y=y.dropLast++[1]:=by
  have e:=lu zQ;have g:y.getLast zQ=1:=by
   have:y[y.length-1]?=Y (y.getLast zQ):=by refine J gg<|Q (kW zQ) rfl
   rw[show y.length-1=n-0 by exact Q hlen rfl] at this
   rw[this] at x
   have:=ae x;exact da this
  rw[g] at e
  exact e.symm
 have uN:∀U∈y.dropLast++[1],U<2^h:=λU A=>by
  rw[<- hd] at A
  have e1:((2:Int)^h)=((2^h:Nat):Int):=(fb 2 h).symm;rw[e1] at T
  exact bq.mp<|b7 (v (U:Int)<|bY.mpr<|qp U A rfl) T
 have:=XY t h y.dropLast 1 a w I (bJ s) uN (ag _) (by
  refine Q (Q (nO ..)<|Q hlen rfl:y.dropLast.length+1=n+1) ?_;have:=dG s<|show n+1<=6 by exact fV H.n5
  exact bJ this)
 replace this:=hd.symm▸this;exact this
end L1
end
noncomputable section
namespace L1
open Vm
open Mp (co cn u3 xu)
theorem OX (a:List Int)(y:a.length<=65536):∀n,rU (n+2) (.lst<|iL a) (.lst<|iL a)=Y true:=λn=>by
 have e:∀a:List Int,zS (rU<|n+1) (iL a) (iL a)=Y true:=λa=>by
  induction a with
  |nil=>rfl|cons q a f=>
   exact (congr (qn Ci<|qn Y<|decide_eq_true rfl) f:Ci (rU (n+1) (.int q)<|.int q) (zS (rU<|n+1) (iL a)<|iL a)=_)
 exact (ql rfl).trans<|e a
theorem aai (f:List Int)(y:f.length<=65536):tW hp .NotEq (.lst<|iL f) (.lst<|iL f)=Y false:=by show (rU 8 (.lst<|iL f)<|.lst<|iL f).map not=_;exact Q (OX f y 6) rfl
theorem ne_str (p):tW hp .NotEq (.str p) (.str p)=Y false:=qn (λU=>Y<|!U)<|decide_eq_true (rfl:p=p)
abbrev tv (y h:Option V)(b e i:Nat->Int)(c:Nat)(U:List O):List O:=.cell y::.cell h::.cell (Y<|.int c)::.cell (Y<|.lst<|rg b c)::.cell (Y<|.lst<|rg e c)::.cell (Y<|.lst<|rg i c)::U
noncomputable abbrev s9:List Nat:=[0,1,2,3,4,5]
def B9 (b e h:Nat->Int)(c:Nat)(q:Int):V:=.tup [.lst<|iL<|D0<|F8 b e h c q 0,.lst<|iL<|D0<|F8 b e h c q 1]
noncomputable abbrev w6 (y h:Option V)(q:Int)(e U s:Option V)(c:Nat)(A:Option V)(a I i b f:Option V):List<|Option V:=[y,h,Y<|.int q,e,U,s,Y<|.int c,Y<|.int<|2^c,A,a,I,i,b,f]
def aij:X:=.or [.cmp (.sub (.l 11)<|.un .USub<|.i 1) [.NotEq] [.i 1],.cmp (.bin .Pow (.sub (.l 12)<|.un .USub<|.i 1)<|.i 2) [.NotEq] [.i 1],.cmp (.list [.call (.k<|.con<|.ref 228) [.l 11] [] [],.call (.k<|.con<|.ref 228) [.l 12] [] [],.mt .index (.comp (.cmp (.l 0) [.Eq] [.i 0]) [.l 0] [.l 11] [[]] 1 0) [.k<|.bool false]]) [.NotEq] [.sub (.l 8)<|.l 9]]
def abW:List XS:=[.asg (.l 10)<|.call (.k<|.con<|.ref 216) [.cell 3,.cell 4,.cell 5,.l 9,.l 7] [] [],.asg (.tup [.l 11,.l 12])<|.tup [.call (.k<|.con<|.ref 223) [.l 10,.bin .Sub (.l 7)<|.l 2,.bin .Sub (.bin .Add (.cell 2)<|.i 1)<|.l 9] [] [],.call (.k<|.con<|.ref 223) [.l 10,.bin .Sub (.l 2)<|.l 7,.bin .Sub (.bin .Add (.cell 2)<|.i 1)<|.l 9] [] []],.rb aij [.ret<|.k<|.bool false] [],.rb (.cmp (.call (.k<|.con<|.ref 42) [.l 11,.l 6] [] []) [.NotEq] [.call (.k<|.con<|.ref 216) [.cell 3,.cell 4,.cell 5,.l 9,.bin .Add (.l 7)<|.l 2] [] []]) [.ret<|.k<|.bool false] []]
structure R8 (x:Int) (w:Nat):Prop where
 xs:x.natAbs<2^50
 ws:w<=4400
 wp:32<=w
 Wh:2*(49+(x.natAbs:Int))^5<(((2:Int)^w-x).natAbs:Int)
 fr2:2*(49+(x.natAbs:Int))^5<(2:Int)^w
section
variable (S:R8 x w)
include S
theorem EC:((2:Int)^w).natAbs=2^w:=Q (p7 ..) rfl
theorem VC {h:Nat}(y:w+1<=h):2^w+2^51<=2^(h+51):=by
 refine Q (cG ..) ?_;have i:2^w<=2^h:=aX (by decide)<|b6 y
 have b:2<=2^h:=by have:=aX (show 0<2 by decide) (show 1<=h by exact gf y);rwa [nW] at this
 exact aa (a9 i _)<|Nat.add_le_mul b<|by decide
end
section
variable (g:25<=m) (T:xu n ow ab ti) (d:2<=n) (S:R8 x w)
include g T d S
theorem near {t:Int}(b:t.natAbs<=2^w+2^51):∀U,U<n->(t-ow U).natAbs<2^4500:=λU G=>by
 have a:2^(4440+51)*2<=2^4500:=J (iI ..)<|aX (by decide)<|by decide
 rw[jS] at a
 exact ai (av (aa (dW t<|ow U)<|bo (aa b<|VC S<|aa (cm S.ws)<|by decide)<|bA.mp<|T.o3 U G)<|cM (aX (by decide) (by decide):2^2<=2^(4440+51)) _) a
theorem Rh:((2:Int)^w-x).natAbs<2^4491/\((x:Int)-2^w).natAbs<2^4491/\((2:Int)^w-x)≠0:=by
 have t:=Mp.abr (2^w) x;rw[fb] at t
 refine uP t λJ J b U=>?_
 have G:2^w+x.natAbs<2^4491:=ai (cM (ai S.xs<|aX (by decide)<|by decide) _)<|VC S<|aa (cm S.ws)<|by decide
 refine ⟨av b G,av U G,λe=>?_⟩;have a:=S.Wh;rw[e] at a
 exact absurd a<|bX.mpr<|gW (by decide)<|p6<|gX (by decide)<|aC _
theorem Zc:(u3 ow ab ti n U<|2^w).natAbs<2^27000:=by
 refine qJ (Rh g T d S) λG J J=>Q (Mp.Cp T U _ x) ?_
 have a:=Mp.BV G (co ow ab ti n U x) λc e=>by
  have b:=Mp.H0 T U x c e;have k:=S.Wh;generalize (49+(x.natAbs:Int))^5=C at *
  generalize 2^4491=A at *
  exact eG (bq.mp<|b7 (aB b<|aB (i4<|aB (aC _) b)<|bR (n7 C).symm) k) G
 exact ai a<|aX (by decide)<|Q (Mp.B8 ..)<|aa (dG (ag<|4491+1)<|cm<|aa (c7 n U) T.n5)<|by decide
theorem G4 (a):(qy m).top 223 [.int<|u3 ow ab ti n f<|2^w,.int<|2^w-x,.int (n-f+1:Nat)] [] [] a=Y (.lst<|iL<|co ow ab ti n f x,a)/\(qy m).top 223 [.int<|u3 ow ab ti n f<|2^w,.int<|x-2^w,.int (n-f+1:Nat)] [] [] a=Y (.lst<|iL<|cn ow ab ti n f x,a):=by
 refine qJ (Rh g T d S) λG U c=>?_
 have o:∀{b:Int},b.natAbs<2^4491->b.natAbs<2^16000:=λk=>ai k<|aX (by decide)<|by decide
 have s:(u3 ow ab ti n f<|2^w).natAbs+(n-f+1)<2^30000:=ai (lX (Zc g T d S)<|aa (cm<|aa (c7 n f) T.n5) (aa (by decide:6<=2^3)<|aX (by decide)<|by decide:6<=2^27000))<|aa (J (jS ..)<|aW _<|by decide) (Q (show (8:Nat)=2^3 from rfl)<|J (cG ..)<|aX (by decide)<|by decide:2^27000*8<=2^30000)
 have i:=Ff (ag<|2^30000) m (u3 ow ab ti n f<|2^w) (2^w-x) (n-f+1) a (by lia) c (o G) s (by have:=T.n5;lia);have p:=Ff (ag<|2^30000) m (u3 ow ab ti n f<|2^w) (x-2^w) (n-f+1) a (by lia) (by lia) (o U) s (by have:=T.n5;lia);rw[Mp.abp T f S.Wh,ql rfl] at i
 rw[Mp.abq T f S.Wh,ql rfl] at p
 exact ⟨i,p⟩
end
theorem Yh {b d i:Nat->Int}{c:Nat}{q:Int}{h:Nat}(y:h<=1) (a:List O):sf a (B9 b d i c q) (.int h)=Y (.lst<|iL<|D0<|F8 b d i c q h):=by rcases kA.mp y with rfl|rfl<;>rfl
theorem aag (c:Nat):(-1:Int)=(c:Int)-((c+1:Nat):Int):=Q (kZ ..)<|J (n8 ..)<|Q (nv ..) rfl
theorem KC:∀a:List Bool,boolsOf (bL a)=Y a
 |[]=>rfl|b::a=>(Q (KC a) rfl:(boolsOf<|bL a).map (b::·)=_)
theorem aeb {f:List Bool}(h:f.idxOf false=z)(G:z<f.length)(y:f.length<=65536):za hp .Ap (.lst<|bL f) [.bool false]=Y (.int z,hp):=(Q (ql<|decide_eq_true<|Q (Fs ..) y)<|Q (KC ..)<|Q (d8 ..)<|Q (ql<|dF.mpr<|List.idxOf_lt_length_iff.mp<|Q h G)<|Q h rfl:((if qZ (bL f).length=true then (boolsOf<|bL f).bind λj=>if j.contains false=true then Y (V.int (j.idxOf false:Nat)) else N else N).map λx=>(x,hp))=_)
section
variable (e:25<=m) (T:xu n ow ab ti) (g:2<=n) (S:R8 x w)
include e T g S
theorem Fd {f:Nat}(hf:f<=1) (y a1 s u q A ah I i v G:Option V) (sL:List O):∃J',rQ (ev (qy m) 59) s9 abW ⟨w6 y a1 x s u q w (Y<|B9 ow ab ti n x) (Y<|.int f) A ah I i,tv v G ow ab ti n sL⟩ =
  Y (.next,⟨w6 y a1 x s u q w (Y<|B9 ow ab ti n x) (Y<|.int f) (Y<|.int<|u3 ow ab ti n f<|2^w) (Y<|.lst<|iL<|co ow ab ti n f x) (Y<|.lst<|iL<|cn ow ab ti n f x) i,tv v G ow ab ti n<|sL++J'⟩):=by
 have L:n-f+1<=6:=cm<|aa (c7 n f) T.n5
 have w1:=AK m (tv v G ow ab ti n sL) (aa (by decide) e) T hf<|near e T g S<|Q (EC S)<|aK _ _
 have w2:∀j,(qy m).top 216 [.lst<|rg ow n,.lst<|rg ab n,.lst<|rg ti n,.int f,.int<|2^w+x] [] [] j=Y (.int<|u3 ow ab ti n f<|2^w+x,j):=λj=>AK m j (aa (by decide) e) T hf (near e T g S (by
  have:=dX (2^w) x;rw[EC S] at this
  generalize 2^w=W at *
  exact MX S.xs this))
 refine rF (G4 e T g S (f:=f)<|tv v G ow ab ti n sL) λg1 g2=>?_
 have z:=Mp.B8 (own:=ow) (ab:=ab) (ti:=ti) (n:=n) f x;have H:=Mp.RD (own:=ow) (ab:=ab) (ti:=ti) (n:=n) f x;have hla:=Mp.Mu (own:=ow) (ab:=ab) (ti:=ti) (n:=n) f x;refine qt (Mp.Yi (own:=ow) (ab:=ab) (ti:=ti) (n:=n) f x) λcc k Q1=>rT (abL (x:=x) T (ai (by decide) g) hf) λt hz1 U hz3=>?_
 have c6:=aa (aN z) L;have c1:=Fq m (co ow ab ti n f x) (tv v G ow ab ti n sL) (aa (by decide) e)<|aa c6<|by decide
 have c2:=Fq m (cn ow ab ti n f x) (tv v G ow ab ti n sL) (aa (by decide) e)<|aa (aa (aN H) L)<|by decide
 have V5:∀d∈co ow ab ti n f x,d.natAbs<2^w:=λd hd=>by
  have a:=(Mp.H0 T f x) d hd;have b:=S.fr2;have e1:((2:Int)^w)=((2^w:Nat):Int):=(fb 2 w).symm;rw[e1] at b
  generalize 2^w=W at *
  generalize (49+(x.natAbs:Int))^5=C at *
  exact M7 a b
 obtain ⟨J',d1⟩:=d2i m w (tv v G ow ab ti n sL) (.lst<|iL<|co ow ab ti n f x) (co ow ab ti n f x) (aa (by decide) e) (ai (by decide) S.wp) rfl rfl V5 (aa (dG S.ws c6)<|by decide);rw[<- (by refine Q (Mp.Cp T f _ x)<|Q (i7 ..) rfl:u3 ow ab ti n f (2^w+x)=Mp.tJ (2^w) (co ow ab ti n f x))] at d1
 have OK:∀j,sf j (B9 ow ab ti n x) (.int f)=Y (.lst<|iL<|D0<|F8 ow ab ti n x f):=λj=>Yh hf j
 generalize hWh:u3 ow ab ti n f (2^w)=WH at *
 generalize u3 ow ab ti n f (2^w+x)=WX at *
 generalize co ow ab ti n f x=Dh at *
 generalize cn ow ab ti n f x=KG at *
 generalize B9 ow ab ti n x=CT at *
 refine ⟨J',?_⟩;have s1:(ev (qy m) 59).S s9 (.asg (.l 10)<|.call (.k<|.con<|.ref 216) [.cell 3,.cell 4,.cell 5,.l 9,.l 7] [] []) ⟨w6 y a1 x s u q w (Y CT) (Y<|.int f) A ah I i,tv v G ow ab ti n sL⟩ =
   Y (.next,⟨w6 y a1 x s u q w (Y CT) (Y<|.int f) (Y<|.int WH) ah I i,tv v G ow ab ti n sL⟩):=
  qU (call_top (qo (qA rfl rfl)<|qo (qA rfl rfl)<|qo (qA rfl rfl)<|qo rfl<|qG rfl) w1) rfl
 have hN:(ev (qy m) 56).E s9 (.bin .Sub (.bin .Add (.cell 2)<|.i 1)<|.l 9) ⟨w6 y a1 x s u q w (Y CT) (Y<|.int f) (Y<|.int WH) ah I i,tv v G ow ab ti n sL⟩=Y (.int (n-f+1:Nat),⟨w6 y a1 x s u q w (Y CT) (Y<|.int f) (Y<|.int WH) ah I i,tv v G ow ab ti n sL⟩):=qx (qx (qA rfl rfl) rfl<|rV n 1) rfl<|(ui _ f).trans<|vi ((fq<|aa hf<|fI n).symm.trans<|qn mY<|Nat.succ_sub<|aa hf<|b6 g:(n:Int)+1-f=((n-f+1:Nat):Int))
 have s2:(ev (qy m) 59).S s9 (.asg (.tup [.l 11,.l 12])<|.tup [.call (.k<|.con<|.ref 223) [.l 10,.bin .Sub (.l 7)<|.l 2,.bin .Sub (.bin .Add (.cell 2)<|.i 1)<|.l 9] [] [],.call (.k<|.con<|.ref 223) [.l 10,.bin .Sub (.l 2)<|.l 7,.bin .Sub (.bin .Add (.cell 2)<|.i 1)<|.l 9] [] []]) ⟨w6 y a1 x s u q w (Y CT) (Y<|.int f) (Y<|.int WH) ah I i,tv v G ow ab ti n sL⟩ =
   Y (.next,⟨w6 y a1 x s u q w (Y CT) (Y<|.int f) (Y<|.int WH) (Y<|.lst<|iL Dh) (Y<|.lst<|iL KG) i,tv v G ow ab ti n sL⟩):=
  qU (sW<|qo (call_top (qo rfl<|qo (qx rfl rfl<|ui _ _)<|qG hN) g1)<|qG<|call_top (qo rfl<|qo (qx rfl rfl<|ui _ _)<|qG hN) g2) rfl
 have hcb:cc.natAbs<2^2:=by
  have o:=iY cc cc;rw[(by refine J Q1<|Q (eh ..)<|Q (eh ..)<|Q (gh ..)<|Q (dO ..) rfl:cc*cc=1)] at o
  have:=Nat.eq_one_of_mul_eq_one_left o.symm;lia
 have p:(ev (qy m) 57).E s9 (.cmp (.bin .Pow (.sub (.l 12)<|.un .USub<|.i 1)<|.i 2) [.NotEq] [.i 1]) ⟨w6 y a1 x s u q w (Y CT) (Y<|.int f) (Y<|.int WH) (Y<|.lst<|iL Dh) (Y<|.lst<|iL KG) i,tv v G ow ab ti n sL⟩=Y (.bool false,⟨w6 y a1 x s u q w (Y CT) (Y<|.int f) (Y<|.int WH) (Y<|.lst<|iL Dh) (Y<|.lst<|iL KG) i,tv v G ow ab ti n sL⟩):=by have hb:au cc<=2:=sM hcb;refine qW (qx (rm rfl (xW rfl)<|(λj=>uS rfl (.inr<|Q (r9 ..)<|Q H<|aag _) (by delta iL;refine Q aZ<|Q k ?_;rfl)<|by refine Q (r9 ..) ?_;lia) _) rfl<|(H8 cc 2<|by lia).trans<|vi Q1) rfl rfl
 have k3:(ev (qy m) 57).E s9 (.cmp (.list [.call (.k<|.con<|.ref 228) [.l 11] [] [],.call (.k<|.con<|.ref 228) [.l 12] [] [],.mt .index (.comp (.cmp (.l 0) [.Eq] [.i 0]) [.l 0] [.l 11] [[]] 1 0) [.k<|.bool false]]) [.NotEq] [.sub (.l 8)<|.l 9]) ⟨w6 y a1 x s u q w (Y CT) (Y<|.int f) (Y<|.int WH) (Y<|.lst<|iL Dh) (Y<|.lst<|iL KG) i,tv v G ow ab ti n sL⟩=Y (.bool false,⟨w6 y a1 x s u q w (Y CT) (Y<|.int f) (Y<|.int WH) (Y<|.lst<|iL Dh) (Y<|.lst<|iL KG) i,tv v G ow ab ti n sL⟩):=by exact qW (yB<|qo (call_top (qG rfl) c1)<|qo (call_top (qG rfl) c2)<|qG<|uK (Q (by delta bL;exact ax bk rfl:bL (Dh.map λc=>decide<|c=0)=Dh.map λc=>V.bool<|decide<|c=0)<|u4 ((tP rfl rfl).trans rfl) (λc P=>qW rfl rfl<|Ae _ _)<|aa c6<|by decide:(ev (qy m) 54).E s9 (.comp (.cmp (.l 0) [.Eq] [.i 0]) [.l 0] [.l 11] [[]] 1 0) ⟨w6 y a1 x s u q w (Y CT) (Y<|.int f) (Y<|.int WH) (Y<|.lst<|iL Dh) (Y<|.lst<|iL KG) i,tv v G ow ab ti n sL⟩=Y (.lst<|bL<|Dh.map λc=>decide<|c=0,⟨w6 y a1 x s u q w (Y CT) (Y<|.int f) (Y<|.int WH) (Y<|.lst<|iL Dh) (Y<|.lst<|iL KG) i,tv v G ow ab ti n sL⟩)) rfl rfl (qG rfl)<|aeb hz3 (Q (ao ..)<|Q z<|dD U)<|Q (ao ..)<|aa c6<|by decide) (rm rfl rfl<|OK _)<|Q hz1<|aai [_,_,_]<|by show 3<=65536;decide
 exact rf s1<|rf s2<|rf (z0<|WU (qW (rm rfl (xW rfl)<|(λj=>uS rfl (.inr<|Q (r9 ..)<|Q z<|aag _) (by delta iL;refine Q aZ<|Q hla ?_;rfl)<|by refine Q (r9 ..) ?_;lia) _) rfl rfl) p k3)<|rL (z0<|qW (call_top (qo rfl<|qG rfl) d1) (call_top (qo (qA rfl rfl)<|qo (qA rfl rfl)<|qo (qA rfl rfl)<|qo rfl<|qG<|qx rfl rfl<|rV _ _)<|w2 _)<|(UW WX WX).trans<|qn Y<|decide_eq_false λh=>h rfl)
end
end L1
end
noncomputable section
namespace L1
open Vm
open Mp (co cn u3 xu AU)
theorem FO:∀a:List Int,intsOf (iL a)=Y a
 |[]=>rfl|x::a=>(Q (FO a) rfl:(intsOf<|iL a).map (x::·)=_)
theorem Vx (f):yg hp .sum [.lst<|iL f]=Y (.int f.sum):=by show (intsOf<|iL f).map (λf=>V.int f.sum)=_;exact Q (FO ..) rfl
theorem Jo:∀(l:List Int)(q:Int),q<=l.foldl (λa d=>if a<d then d else a) q/\(∀G∈l,G<=l.foldl (λa d=>if a<d then d else a) q)/\(l.foldl (λa d=>if a<d then d else a) q=q\/l.foldl (λa d=>if a<d then d else a) q∈l)
 |[]=>@λq=>⟨cZ _,(λG b=>nomatch b),.inl rfl⟩
 |z::l=>@λq=>by
  refine qJ (Jo l<|if q<z then z else q) λw n o=>Q (du ..) ?_
  generalize e:l.foldl (λa d=>if a<d then d else a) (if q<z then z else q)=q9 at *
  by_cases H:q<z
  .rw[ql H] at w o
   refine ⟨M3 w H,λG hy=>?_,o.elim (λi=>.inr<|Q i<|.head _) λi=>.inr<|.tail _ i⟩;rcases aE.mp hy with rfl|hy
   .exact w
   .exact n G hy
  .rw[qm H] at w o
   refine ⟨w,λG hy=>?_,o.elim .inl λi=>.inr<|.tail _ i⟩;rcases aE.mp hy with rfl|hy
   .exact NO w H
   .exact n G hy
theorem adX (f)(c:f≠[]):∃U,yg hp .max [.lst<|iL f]=Y (.int U)/\U∈f/\∀a∈f,a<=U:=by
 cases f with
 |nil=>exact absurd rfl c|cons x f=>
  refine qJ (Jo f x) λw b o=>ru (f.foldl (λG n=>if G<n then n else G) x) ?_ (o.elim (λi=>J i.symm<|.head _) λi=>.tail _ i) λa hy=>?_
  .show (intsOf<|iL<|x::f).bind Tx=_;exact Q (FO ..) rfl
  .rcases aE.mp hy with rfl|hy
   .exact w
   .exact b a hy
theorem J7 (p:Nat->Prop)[DecidablePred p](g:Nat->Int):∀l:List Nat,((l.filter λj=>decide<|p j).map g).sum=Mp.qw (λj=>if p j then g j else 0) l
 |[]=>rfl|x::l=>by
  refine Q (dK ..) ?_;show _=(if p x then g x else 0)+Mp.qw _ l;refine J (J7 p g l) ?_
  by_cases q:p x
  .refine Q (ql<|decide_eq_true q)<|Q (ql q)<|Q (bB ..)<|ax pY rfl
  .refine Q (qm λz=>q<|of_decide_eq_true z)<|Q (qm q)<|Q (dz ..) rfl
theorem set_own (y)(k):rz (hp.length::M) 5 (.cell 0) k ⟨[],hp++[.cell y]⟩=Y ⟨[],hp++[.cell<|Y k]⟩:=by show (match (hp++[O.cell y])[hp.length]? with|Y<|.cell _=>Y (⟨[],(hp++[O.cell y]).set hp.length<|.cell<|Y k⟩:St)|_=>N)=_;exact Q (vd ..)<|Q (IQ ..) rfl
theorem Rx {l:List Nat}(e:tK (ev k j) M i ⟨loc,hp⟩=Y (nats l,N,⟨loc,hp⟩))(d:∀o∈l,(ev k j).E (hp.length::M) elt ⟨[],hp++[.cell<|Y<|.int o]⟩=Y (.int<|g o,⟨[],hp++[.cell<|Y<|.int o]⟩))(w:l.length<=65536) :
  ∃y,(ev k<|j+1).E M (.comp elt [.cell 0] [i] [[]] 0 1) ⟨loc,hp⟩=Y (.lst<|iL<|l.map g,⟨loc,hp++[.cell y]⟩):=by
 have p:∀(l:List Nat),(∀o∈l,(ev k j).E (hp.length::M) elt ⟨[],hp++[.cell<|Y<|.int o]⟩=Y (.int<|g o,⟨[],hp++[.cell<|Y<|.int o]⟩))->∀y,∃q,sY (hp.length::M) (.cell 0) N (gT (ev k j) (hp.length::M) elt [] [] [] []) (nats l) ⟨[],hp++[.cell y]⟩=Y (iL<|l.map g,⟨[],hp++[.cell q]⟩):=λl=>by
  induction l with
  |nil=>exact λJ y=>⟨y,rfl⟩
  |cons o l s=>
   intro h y;exact rM (s (λo a=>h o<|.tail _ a)<|Y<|.int o) λq t=>⟨q,wV rfl (set_own y<|.int o) (zk<|h o<|.head _) t⟩
 obtain ⟨q,t⟩:=p l d N;refine ⟨q,?_⟩;have n:B3 (ev k j) M elt [.cell 0] [i] [[]] 0 1 ⟨loc,hp⟩=Y (iL<|l.map g,⟨loc,hp++[.cell q]⟩):=by
  show (match tK (ev k j) M i ⟨loc,hp⟩ with
   |Y (l,b,st)=>(match sY ((aq 1).map (st.hp.length+·)++M) (.cell 0) b (gT (ev k j) ((aq 1).map (st.hp.length+·)++M) elt [] [] [] []) l ⟨aw 0 N,st.hp++aw 1 (O.cell N)⟩ with
    |Y (G,I)=>if qZ G.length then Y (G,(⟨st.loc,I.hp⟩:St)) else N
    |N=>N)
   |N=>N)=_
  refine Q e ?_;show (match sY (hp.length::M) (.cell 0) N (gT (ev k j) (hp.length::M) elt [] [] [] []) (nats l) (⟨[],hp++[O.cell N]⟩:St) with
    |Y (G,I)=>if qZ G.length then Y (G,(⟨loc,I.hp⟩:St)) else N
    |N=>N)=_
  exact Q t<|ql<|decide_eq_true<|Q (r9 ..)<|Q (ao ..) w
 exact qM (f:=λf:O×St=>(DP f.1,f.2))<|qM (f:=λf:List V×St=>(O.list f.1,f.2)) n
noncomputable def akF:X:=.bin .Add (.bin .Add (.sub (.cell 4)<|.cell 0)<|.sub (.cell 6)<|.cell 0)<|.bf .sum [.comp (.sub (.cell 6)<|.l 0) [.l 0] [.bf .range [.cell 3]] [[.cmp (.sub (.cell 5)<|.l 0) [.Eq] [.cell 0]]] 1 0]
section
variable (a:25<=m) (T:xu n ow ab ti) (b:2<=n)
include T
theorem ZR (G:h<n):-3<=AU ow ab ti n h/\AU ow ab ti n h<=21:=by
 have w:=T.o3 h G;have o:∀c:List Nat,0<=Mp.qw (λt=>if ab t=(h:Int) then ti t else 0) c/\Mp.qw (λt=>if ab t=(h:Int) then ti t else 0) c<=3*(c.length:Int):=λc=>by
  induction c with
  |nil=>exact ⟨cZ _,cZ _⟩|cons U c u=>
   refine (?_:0<=(if ab U=(h:Int) then ti U else 0)+_/\(if ab U=(h:Int) then ti U else 0)+_<=_);refine Q (aQ ..) ?_
   split
   .exact ⟨gX (T.C0 U).1 u.1,by rw[kZ,fF,gY<|3*_];exact ej (T.C0 U).2 u.2⟩
   .exact Q (dz ..) ⟨u.1,aB u.2<|br (bA.mpr<|cY _)<|by decide⟩
 obtain ⟨i,d⟩:=o (aq n);replace d:=aU▸d;exact ⟨ej (ej (n_<|aB qj<|Q (cW ..) w) (T.C0 h).1) i,ej (ej (aB qj w) (T.C0 h).2)<|aB d<|br (bA.mpr T.n5)<|by decide⟩
include b a
theorem X0 (y a1 e U q A d I k g o p G)(sL):∃s f,(∀t,t<n->AU ow ab ti n t<=s)/\s.natAbs<=21/\(ev (qy m) 60).S s9 Pt ⟨w6 y a1 x e U q w A d I k g o,tv p G ow ab ti n sL⟩ =
  Y (.next,⟨w6 y a1 x e U q w A d I k g<|Y<|.int s,tv p G ow ab ti n<|sL++f⟩):=by
 have v:n<=60:=aa T.n5 (by decide);obtain ⟨z,hc⟩:=Rx (M:=s9) (i:=.bf .range [.cell 2]) (hp:=tv p G ow ab ti n sL) (vD (qA rfl rfl)<|by lia) (λt L=>by
  have L:=bF.mp L;have c0:∀j u,(ev (qy m)<|j+1).E ((tv p G ow ab ti n sL).length::s9) (.cell 0) ⟨u,tv p G ow ab ti n sL++[.cell<|Y<|.int t]⟩=Y (.int t,⟨u,tv p G ow ab ti n sL++[.cell<|Y<|.int t]⟩):=λj u=>qA rfl<|vd ..
  have ein:(ev (qy m) 55).E ((tv p G ow ab ti n sL).length::s9) (.comp (.sub (.cell 6)<|.l 0) [.l 0] [.bf .range [.cell 3]] [[.cmp (.sub (.cell 5)<|.l 0) [.Eq] [.cell 0]]] 1 0) ⟨[],tv p G ow ab ti n sL++[.cell<|Y<|.int t]⟩ =
    Y (.lst<|((aq n).filter λj=>decide<|ab j=(t:Int)).map λj=>V.int<|ti j,⟨[],tv p G ow ab ti n sL++[.cell<|Y<|.int t]⟩):=
   xO (λj=>decide<|ab j=(t:Int)) (vD (qA rfl rfl)<|by lia) (λj hj=>qW (rm (qA rfl rfl) rfl<|uz ab v<|bF.mp hj) (c0 _ _)<|Ae _ _) (λj hj J=>rm (qA rfl rfl) rfl<|uz ti v<|bF.mp hj) (by refine Q (aU ..) ?_;lia)
  rw[(by delta iL;exact Q (bk ..) rfl:((aq n).filter λj=>decide<|ab j=(t:Int)).map (λj=>V.int<|ti j)=iL (((aq n).filter λj=>decide<|ab j=(t:Int)).map ti))] at ein
  have:=qx (qx (rm (x:=.cell 4) (qA rfl rfl) (c0 53 [])<|uz ow v L) (rm (x:=.cell 6) (qA rfl rfl) (c0 53 [])<|uz ti v L)<|rV _ _) (uf (qG ein)<|Vx _)<|rV _ _
  rw[J7] at this
  exact this) (by refine Q (aU ..) ?_;lia)
 obtain ⟨s,H,h2,h3⟩:=adX ((aq n).map<|AU ow ab ti n) (by
  intro h;have:=qn jN h;rw[ao,aU] at this
  exact absurd this<|bw<|ai (by decide) b)
 refine ta s ([.cell z]) (λt L=>h3 _<|bY.mpr ⟨t,bF.mpr L,rfl⟩) (qt (bY.mp h2) λt L c=>Q c ?_)<|qU (uf (qG hc) H) rfl
 exact MU c (ZR T<|bF.mp L)
omit a b in
theorem N8 {q:Int}(x:q.natAbs<=21)(i:w<=4400)(c:32<=w):R8 q w:=qJ (Mp.N8 x c) λG J U=>⟨av x<|by decide,i,c,G,U⟩
theorem XO (c:w<=4400)(U:32<=w)(o:∀d,d<n->AU ow ab ti n d<=H)(G:H.natAbs<=21)(y h e f q L g I i j k p)(sL):(ev (qy m) 60).S s9 Pr ⟨w6 y h x e f q w L g I i j<|Y<|.int H,tv k p ow ab ti n sL⟩ =
  Y (.ret<|.bool true,⟨w6 y h x e f q w L g I i j<|Y<|.int H,tv k p ow ab ti n sL⟩):=by
 have s:=N8 T G c U;have u:=AK m (tv k p ow ab ti n sL) (aa (by decide) a) T (dZ 1)<|near a T b s<|Q (EC s)<|aK _ _
 have v:=AK m (tv k p ow ab ti n sL) (aa (by decide) a) T (dZ 1) (near a T b s (t:=2^w+H) (by
  have:=dX (2^w) H;rw[EC s] at this
  generalize 2^w=W at *
  exact aa this<|aP (aa G<|by decide) _))
 have g1:=(G4 a T b s (f:=0)<|tv k p ow ab ti n sL).1;have hs:=s.fr2;have h5:(0:Int)<=(49+(H.natAbs:Int))^5:=p6<|gX (by decide)<|aC _
 have Ar:(49+(H.natAbs:Int))^5<2^w:=by
  clear u v g1;generalize (49+(H.natAbs:Int))^5=A at *
  generalize (2:Int)^w=W at *
  exact b7 (aB (i4 h5)<|bR (n7 A).symm) hs
 have z:=aaQ T m (aa (by decide) a) (ai (by decide) U) (aa c<|by decide) o Ar<|tv k p ow ab ti n sL
 have As:=Mp.B8 (own:=ow) (ab:=ab) (ti:=ti) (n:=n) 0 H;generalize u3 ow ab ti n 0 (2^w)=W0 at *
 generalize u3 ow ab ti n 0 (2^w+H)=W1 at *
 generalize co ow ab ti n 0 H=C at *
 exact sx<|qW (call_top (qo (call_top (qo (qA rfl rfl)<|qo (qA rfl rfl)<|qo (qA rfl rfl)<|qo rfl<|qG<|qx rfl rfl<|rV _ _) v)<|qG rfl) z) (call_top (qo (call_top (qo (qA rfl rfl)<|qo (qA rfl rfl)<|qo (qA rfl rfl)<|qo rfl<|qG rfl) u)<|qo (qx rfl rfl<|ui _ _)<|qG<|qx (qA rfl rfl) rfl<|(rV n 1).trans<|vi (rfl:(n:Int)+1=((n-0+1:Nat):Int))) g1)<|OX C (Q As<|aa (cm T.n5)<|by decide) 6
end
end L1
end
noncomputable section
namespace L1
open Vm
noncomputable def sgn (q:Int):Int:=if 0<q then a_ q ((10^12:Nat):Int) else-a_ (-q) ((10^12:Nat):Int)
theorem ZH (q):(sgn q).natAbs<=10^12:=by
 have key:∀a:Int,(a_ a ((10^12:Nat):Int)).natAbs<=10^12:=λa=>rF (uZ a<|show 0<10^12 by decide) λe T=>Q e<|bl T
 delta sgn
 split
 .exact key q
 .exact Q (cW ..)<|key <| -q
def ZJ:X:=.rb (.cmp (.l 0) [.Gt] [.i 0]) (.bin .Mod (.l 0)<|.bin .Pow (.i 10)<|.i 12)<|.un .USub<|.bin .Mod (.un .USub<|.l 0)<|.bin .Pow (.i 10)<|.i 12
theorem adg (q)(a):(ev orc<|j+5).E s9 ZJ ⟨[Y<|.int q],a⟩=Y (.int<|sgn q,⟨[Y<|.int q],a⟩):=by
 have w:au ((10:Nat):Int)*12<=100000:=by decide
 have t:0<10^12/\10^12<2^9000:=⟨by decide,by decide +kernel⟩;delta sgn
 by_cases G:0<q
 .exact Q (ql G)<|vC (qW rfl rfl<|Ad _ _) (dt G)<|qx rfl (qx rfl rfl<|yh 10 12 w)<|u1 q _ t.1 t.2
 .exact Q (qm G)<|wB (qW rfl rfl<|Ad _ _) (df G)<|xW<|qx (xW rfl) (qx rfl rfl<|yh 10 12 w)<|u1 (-q) _ t.1 t.2
def uy (a:List Int):List Int:=(a.take 60).map sgn
theorem adh (a:List Int)(w:a.length<=63)(f:List<|Option V)(j):(ev orc 59).E s9 (.comp ZJ [.l 0] [.C3 (.l 0) (.k .none)<|.i 60] [[]] 1 0) ⟨Y (.lst<|iL a)::f,j⟩=Y (.lst<|iL<|uy a,⟨Y (.lst<|iL a)::f,j⟩):=by
 have e:(iL a).take 60=(a.take 60).map V.int:=ml.symm;refine Q (by delta iL uy;exact ax bk rfl:iL (uy a)=(a.take 60).map λq=>V.int<|sgn q)<|u4 ?_ (λq J=>adg q j)<|Q (fz ..)<|aa (lA ..)<|by decide
 have i:=P7 (hp:=j) (o:=.lst<|iL a) (h:=60) rfl<|Q (r9 ..)<|bJ w
 rw[e] at i
 exact (tP rfl<|WT rfl rfl rfl i).trans rfl
noncomputable def Jx (c h:Nat):List Nat:=(aq h).filter λt=>decide (c<=t)&&decide ((t-c)%6=0)
theorem OF:∀c:Nat,c<6->∀h:Nat,h<61->wZ c h 6=true/\iO (c:Int) 6 (vk c h 6)=(Jx c h).map (λt:Nat=>(t:Int))/\¬((6:Int)=0\/aS ((h:Int)-c) 6=true):=by decide +kernel
theorem Xo {a:List O}{c h:Nat}(G:c<6) (T:h<61):w8 a (.tH c h 6)=Y (nats<|Jx c h):=by show (if wZ c (h:Nat) 6=true then Y ((iO (c:Int) 6<|vk c (h:Nat) 6).map V.int) else N)=_;exact Q (ql (OF c G h T).1)<|Q ((OF c G h T).2.1)<|Q (bk ..) rfl
theorem Xp {a:List O}{c h:Nat}(G:c<6) (T:h<61):yg a .range [.int c,.int h,.int 6]=Y (.tH c h 6):=by show (if (6:Int)=0\/aS ((h:Int)-c) 6=true then N else Y (V.tH c h 6))=_;exact qm (OF c G h T).2.2
noncomputable def Ce:List<|Nat×Int:=[(0,14),(1,2293),(2,36905),(3,1),(4,31415),(5,7)]
def vw (a:List Int)(b:Nat×Int):Int:=b.2+((Jx b.1 a.length).map λc=>a.getD c 0).sum
def abT:X:=.bin .Add (.l 1)<|.bf .sum [.comp (.sub (.cell 0)<|.l 0) [.l 0] [.bf .range [.l 0,.bf .len [.cell 0],.i 6]] [[]] 1 0]
theorem aeV {g:vA}{j:Nat}{sg:List Int}(G:sg.length<61) {b:Nat×Int}(T:b.1<6) (f:List O):(ev g<|j+7).E s9 abT ⟨[Y<|.int b.1,Y<|.int b.2],.cell (Y<|.lst<|iL sg)::f⟩=Y (.int<|vw sg b,⟨[Y<|.int b.1,Y<|.int b.2],.cell (Y<|.lst<|iL sg)::f⟩):=by
 have e:=u4 (orc:=g) (M:=s9) (elt:=.sub (.cell 0)<|.l 0) (g:=λh=>V.int<|sg.getD h 0) ((tP (x:=.bf .range [.l 0,.bf .len [.cell 0],.i 6]) (j:=j+4) (st:=⟨[Y<|.int b.1,Y<|.int b.2],.cell (Y<|.lst<|iL sg)::f⟩) rfl<|uf (qo rfl<|qo ((v_ (qA rfl rfl) rfl<|by refine Q (r9 ..) ?_;lia).trans<|qn (λh:Nat=>Y (V.int h,(_:St)))<|r9 sg)<|qG rfl)<|Xp T G).trans<|Cy<|Xo T G) (λh a=>rm (qA rfl rfl) rfl<|vU (by delta iL;refine ax aZ<|Q cq<|Q (aD<|bF.mp (dr.mp a).1) ?_;rfl)<|by refine Q (r9 ..) ?_;lia) (by
  have:=cE (λh=>decide (b.1<=h)&&decide ((h-b.1)%6=0))<|aq sg.length
  rw[aU] at this
  exact aa this<|aa (bl G)<|by decide)
 rw[(by delta iL;exact Q (bk ..) rfl:(Jx b.1 sg.length).map (λh=>V.int<|sg.getD h 0)=iL ((Jx b.1 sg.length).map λh=>sg.getD h 0))] at e
 exact qx rfl (uf (qG e)<|Vx _)<|rV _ _
end L1
end
noncomputable section
namespace L1
open Vm
open Mp (xu)
theorem PI {y:Ev}{U:List Nat}{b:Nat×Int->V}:∀(l:List<|Nat×Int),(∀p∈l,y.E U a ⟨[Y<|.int p.1,Y<|.int p.2],f⟩=Y (b p,⟨[Y<|.int p.1,Y<|.int p.2],f⟩))->∀z i,∃e T,sY U (.tup [.l 0,.l 1]) N (gT y U a [] [] [] []) (l.map λp=>V.tup [.int p.1,.int p.2]) ⟨[z,i],f⟩=Y (l.map b,⟨[e,T],f⟩)
 |[]=>@λJ z i=>tG z i rfl
 |p::l=>@λh z i=>sd (PI l (λc d=>h c<|.tail _ d) (Y<|.int p.1)<|Y<|.int p.2) λe T g=>tG e T<|wV rfl rfl (zk<|h p<|.head _) g
def aeT:X:=.comp abT [.tup [.l 0,.l 1]] [.enum<|.tup [.i 14,.i 2293,.i 36905,.i 1,.i 31415,.i 7]] [[]] 2 0
theorem Yk {a:List Int}(G:a.length<61)(g:List<|Option V)(j):(ev orc 59).E s9 aeT ⟨g,.cell (Y<|.lst<|iL a)::j⟩=Y (.lst<|iL<|Ce.map<|vw a,⟨g,.cell (Y<|.lst<|iL a)::j⟩):=Q (by delta iL;exact ax bk rfl:iL (Ce.map<|vw a)=Ce.map λb=>V.int<|vw a b)<|sd (PI Ce (λb c=>aeV G ((by decide:∀b∈Ce,b.1<6) b c) j) N N) λe T h=>qM<|qM<|DZ (f:=[]) (n:=2) (st1:=⟨g,.cell (Y<|.lst<|iL a)::j⟩) rfl h<|show 6<=65536 by decide
theorem PU {f:Nat->Int}:∀a:List Nat,(∀x∈a,(f x).natAbs<=k)->((a.map f).sum).natAbs<=k*a.length
 |[]=>@λJ=>ag _
 |x::a=>@λd=>Q (bB ..)<|Q (pY ..)<|Q (aQ ..)<|Q (dS ..)<|Q (bx ..)<|aa (dX _ _)<|bo (d x<|.head _)<|PU a λt b=>d t<|.tail _ b
theorem abS (a:p∈Ce):(vw (uy ns) p).natAbs<2^46:=by
 have w:(uy ns).length<=60:=by delta uy;exact Q (ao ..)<|Q (fz ..)<|lA _ _
 have i:(Jx p.1 (uy ns).length).length<=60:=by
  have:=cE (λc=>decide (p.1<=c)&&decide ((c-p.1)%6=0))<|aq (uy ns).length
  replace this:=aU▸this;exact aa this w
 have T:=PU (f:=λc=>(uy ns).getD c 0) (Jx p.1 (uy ns).length) λc G=>by
  have:(uy ns).getD c 0∈uy ns:=by refine Q cq<|Q (aD<|bF.mp (dr.mp G).1) ?_;exact List.getElem_mem ..
  exact qt (bY.mp this) λd W e=>J e<|ZH d
 exact av (aa (dX _ _)<|bo ((by decide:∀p∈Ce,p.2.natAbs<=100000) p a)<|aa T<|aW (10^12) i) (by decide)
noncomputable def LQ (q:Int):Nat:=2+(a_ q ((4:Nat):Int)).toNat
noncomputable def hOf (q:Int):Nat:=(a_ (bg q ((4:Nat):Int)) ((5:Nat):Int)).toNat
noncomputable def C6 (q:Int):Nat:=(a_ (bg q ((60:Nat):Int)) ((3:Nat):Int)).toNat
noncomputable def sr (q:Int)(c:Nat):Int:=a_ (bg q ((7^c:Nat):Int)) ((7:Nat):Int)-3
noncomputable def rZ (q:Int):Nat->Int
 |0=>0|k+1=>a_ (bg q ((4^k:Nat):Int)) ((4:Nat):Int)
def tn (q:Int)(c:Nat):List Int:=zt (bg q ((256:Nat):Int)) (aq c) [] []
theorem VM (t:-3<=z/\z<=3):(z.natAbs:Int)<=3:=by
 rcases nz 0 z with q|q
 .exact Q (dP q) t.2
 .exact Q (fW q)<|n_ t.1
theorem ahu (w:1<=c):(-1:Int)=((c-1:Nat):Int)-(c:Int):=Q (jG w)<|Q (n8 ..)<|Q (gY ..)<|J (n8 ..)<|Q (nv ..) rfl
theorem adW (q):2<=LQ q/\LQ q<=5:=rF (uZ q<|by decide) λJ G=>⟨aK 2 _,aP (bT G) 2⟩
theorem Ak (q)(c):-3<=sr q c/\sr q c<=3:=rF (uZ (bg q ((7^c:Nat):Int))<|by decide) λe G=>⟨ig (e▸aC _) 3,ig (e▸bA.mpr (bT G):a_ (bg q ((7^c:Nat):Int)) ((7:Nat):Int)<=6) 3⟩
theorem BC (q):∀k,0<=rZ q k/\rZ q k<=3
 |0=>⟨cZ _,(by decide:(0:Int)<=3)⟩
 |k+1=>by obtain ⟨e,G⟩:=uZ (bg q ((4^k:Nat):Int)) (b:=4) (by decide);exact ⟨(Q e<|aC _:0<=a_ (bg q ((4^k:Nat):Int)) ((4:Nat):Int)),(Q e<|bA.mpr<|bT G:a_ (bg q ((4^k:Nat):Int)) ((4:Nat):Int)<=3)⟩
theorem Jd (a:List Int)(h:a.length=n):iL a=rg (vm a) n:=by
 delta rg iL;refine eu λi=>?_
 by_cases G:i<n
 .refine Q (tB _ G)<|ax aZ ?_
  delta vm;refine Q cq<|Q (aD<|Q h G) ?_;rfl
 .refine ax (b_<|Q (ao ..)<|h▸hV G)<|Q (b_<|Q (sQ ..)<|hV G) rfl
theorem Zi (S:Hg n a)(h5:n<=5):xu n (sr c1) (vm a)<|rZ c2 where
 n5:=h5
 o3:=λk J=>VM<|Ak c1 k
 C0:=BC c2
 ti0:=rfl
 ab0:=S.a0
 WM:=S.ak
abbrev cL (q b f G o z:Int):Option V:=Y<|.lst<|iL [q,b,f,G,o,z]
abbrev vM (y:Option V)(q b f G o z:Int)(h g T s:Option V):List O:=[.cell y,.cell<|cL q b f G o z,.cell h,.cell g,.cell T,.cell s]
noncomputable abbrev wb (y h f T q A b:Option V):List<|Option V:=[y,h,f,T,q,A,b,N,N,N,N,N,N,N]
section
variable {sg a0 a1 a2 a3 a4 a5 a6 o2 o3 o4 o5:Option V}
theorem BG (c)(w:c<=1000):c<2^9000:=av w (by decide +kernel)
theorem wu {j h:Nat}{t:Int}{b:List<|Option V}{f:List O}(g:f[1]?=Y (.cell<|cL c0 c1 c2 c3 c4 c5)) (i:[c0,c1,c2,c3,c4,c5][h]?=Y t):(ev orc<|j+2).E s9 (.sub (.cell 1)<|.k<|.int h) ⟨b,f⟩=Y (.int t,⟨b,f⟩):=rm (qA rfl g) rfl<|vU (by delta iL;refine Q aZ<|Q i ?_;rfl)<|show 6<=65536 by decide
theorem XQ {b:List O}{c:Nat}(G:c<3):sf b (.lst [.qr "&",.none,.qr ""]) (.int c)=Y (rJ c):=by
 refine vU ?_<|show 3<=65536 by decide
 rcases (by decide:∀c,c<3->c=0\/c=1\/c=2) c G with rfl|rfl|rfl<;>rfl
theorem X1 {b:List O}{c:Nat}(G:c<5):sf b (.lst [.con<|.ref 150,.con<|.ref 157,.con<|.ref 164,.con<|.ref 171,.con<|.ref 178]) (.int c)=Y (.con<|.ref<|yn c):=by
 refine vU ?_<|show 5<=65536 by decide
 rcases (by decide:∀c,c<5->c=0\/c=1\/c=2\/c=3\/c=4) c G with rfl|rfl|rfl|rfl|rfl<;>rfl
theorem st2:(ev orc 60).S s9 Vl ⟨wb a0 a1 a2 a3 a4 a5 a6,vM sg c0 c1 c2 c3 c4 c5 o2 o3 o4 o5⟩=Y (.next,⟨wb a0 (Y<|.qr rq) (Y<|.int c3) (Y<|rJ<|C6 c5) a4 a5 a6,vM sg c0 c1 c2 c3 c4 c5 (Y<|.int (LQ c0:Nat)) o3 o4 o5⟩):=by
 refine rF (uZ c0 (b:=4)<|by decide) λf G=>?_
 obtain ⟨i,T⟩:=uZ (bg c5 ((60:Nat):Int)) (b:=3) (by decide);exact qU (sW<|qo (qx rfl (qx (wu rfl rfl) rfl<|u1 c0 4 (by decide)<|BG 4<|by decide)<|(rV _ _).trans<|vi<|by delta LQ;exact qn _ f)<|qo rfl<|qo (wu rfl rfl)<|qG<|rm (yB<|qo rfl<|qo rfl<|qG rfl) (qx (qx (wu rfl rfl) rfl<|xd c5 60 (by decide)<|BG 60<|by decide) rfl<|(u1 _ 3 (by decide)<|BG 3<|by decide).trans<|vi i)<|XQ T) rfl
theorem st3:(ev orc 60).S s9 Vk ⟨wb a0 a1 a2 a3 a4 a5 a6,vM sg c0 c1 c2 c3 c4 c5 o2 o3 o4 o5⟩=Y (.next,⟨wb a0 a1 a2 a3 (Y<|.con<|.ref<|yn<|hOf c0) a5 a6,vM sg c0 c1 c2 c3 c4 c5 o2 o3 o4 o5⟩):=rF (uZ (bg c0 ((4:Nat):Int))<|by decide) λf G=>qU (rm (yB<|qo rfl<|qo rfl<|qo rfl<|qo rfl<|qG rfl) (qx (qx (wu rfl rfl) rfl<|xd c0 4 (by decide)<|BG 4<|by decide) rfl<|(u1 _ 5 (by decide)<|BG 5<|by decide).trans<|vi f)<|X1 G) rfl
end
section
variable (e:1<=m) {sg a0 a1 a2 a3 a4 a5 a6 o3 o4 o5:Option V}(d:2<=n) (a:n<=5)
include e d a
theorem x':(ev (qy m) 60).S s9 Vj ⟨wb a0 a1 a2 a3 a4 a5 a6,vM sg c0 b c2 c3 c4 c5 (Y<|.int n) o3 o4 o5⟩=Y (.next,⟨wb a0 a1 a2 a3 a4 a5 a6,vM sg c0 b c2 c3 c4 c5 (Y<|.int n) (Y<|.lst<|rg (sr b) n) (Y<|.lst<|rg (vm<|tn c2 n) n) o5⟩):=by
 have f:(ev (qy m) 58).E s9 (.comp (.bin .Sub (.bin .Mod (.bin .FloorDiv (.sub (.cell 1)<|.i 1)<|.bin .Pow (.i 7)<|.l 0)<|.i 7)<|.i 3) [.l 0] [.bf .range [.cell 2]] [[]] 1 0) ⟨wb a0 a1 a2 a3 a4 a5 a6,vM sg c0 b c2 c3 c4 c5 (Y<|.int n) o3 o4 o5⟩=Y (.lst<|rg (sr b) n,⟨wb a0 a1 a2 a3 a4 a5 a6,vM sg c0 b c2 c3 c4 c5 (Y<|.int n) o3 o4 o5⟩):=
  u4 (vD (qA rfl rfl)<|by lia) (λz c=>by have c:=bF.mp c;exact qx (qx (qx (wu rfl rfl) (qx rfl rfl<|yh 7 z (bJ<|dG (bits_le.mpr (by decide):au ((7:Nat):Int)<=3)<|show z<=5 by lia))<|xd b _ (lh<|by decide)<|av (aX (by decide) (by lia):7^z<=7^5)<|by decide +kernel) rfl<|u1 _ 7 (by decide)<|BG 7<|by decide) rfl<|ui _ 3) (by refine Q (aU ..) ?_;lia)
 have i:=U_ m n (bg c2 ((256:Nat):Int)) (vM sg c0 b c2 c3 c4 c5 (Y<|.int n) o3 o4 o5) e<|bJ a
 rw[Jd _ (BH d a<|bg c2 ((256:Nat):Int)).len] at i
 exact qU (sW<|qo f<|qG<|call_top (qo (qA rfl rfl)<|qG<|qx (wu rfl rfl) rfl<|xd c2 256 (by decide)<|BG 256<|by decide) i) rfl
theorem st5:(ev (qy m) 60).S s9 Vi ⟨wb a0 a1 a2 a3 a4 a5 a6,vM sg c0 c1 f c3 c4 c5 (Y<|.int n) o3 o4 o5⟩=Y (.next,⟨wb a0 a1 a2 a3 a4 a5 a6,vM sg c0 c1 f c3 c4 c5 (Y<|.int n) o3 o4<|Y<|.lst<|rg (rZ f) n⟩):=by
 have g:(ev (qy m) 58).E s9 (.comp (.bin .Mod (.bin .FloorDiv (.sub (.cell 1)<|.i 2)<|.bin .Pow (.i 4)<|.l 0)<|.i 4) [.l 0] [.bf .range [.bin .Sub (.cell 2)<|.i 1]] [[]] 1 0) ⟨wb a0 a1 a2 a3 a4 a5 a6,vM sg c0 c1 f c3 c4 c5 (Y<|.int n) o3 o4 o5⟩=Y (.lst<|(aq<|n-1).map λk=>V.int<|rZ f<|k+1,⟨wb a0 a1 a2 a3 a4 a5 a6,vM sg c0 c1 f c3 c4 c5 (Y<|.int n) o3 o4 o5⟩):=
  u4 (vD (qx (qA rfl rfl) rfl<|(ui n 1).trans<|vi (jG<|aa (by decide) d).symm)<|by lia) (λk b=>by have b:=bF.mp b;exact qx (qx (wu rfl rfl) (qx rfl rfl<|yh 4 k (bJ<|dG (bits_le.mpr (by decide):au ((4:Nat):Int)<=3)<|show k<=5 by lia))<|xd f _ (lh<|by decide)<|av (aX (by decide) (by lia):4^k<=4^5)<|by decide +kernel) rfl<|u1 _ 4 (by decide)<|BG 4<|by decide) (by refine Q (aU ..) ?_;lia)
 have i:[V.int 0]++(aq<|n-1).map (λk=>V.int<|rZ f<|k+1)=rg (rZ f) n:=by delta rg;obtain ⟨k,rfl⟩:∃k,n=k+1:=⟨n-1,(aH<|b6 d).symm⟩;exact Q (jB ..)<|Q (bB ..)<|Q (bk ..) rfl
 exact qU ((qx (yB<|qG rfl) g<|wM<|by refine Q (ao ..)<|Q (aU ..) ?_;show 1+_<=65536;lia).trans<|by refine Q i rfl) rfl
end
theorem adp {c:Nat}(k:Hg c a):∀i,i<c->sz a i<=i/\vm a i+1=(sz a i:Int):=λi G=>by
 have e:sz a i=(vm a i+1).toNat:=rfl;rcases eO i with rfl|h
 .exact Q e<|Q (k.a0 ..) ⟨ag 0,rfl⟩
 .exact rF (k.ak i h G) λw T=>⟨nt.mpr<|Int.add_one_le_of_lt T,(cf<|gX w<|by decide).symm⟩
theorem Ri (q a)(e:Bool×Nat):(∀c∈B4 (sr q) (rZ a) e,c∈qB++vz)/\(B4 (sr q) (rZ a) e).length<=13:=by
 delta B4
 split
 .exact rM (dQ<|Si<|Ak q<|e.2-1) λt g=>Q g ⟨λc hx=>fa _<|Q (aM.mp hx)<|LY t<|Sh (Ak q _) g,(by decide:1<=13)⟩
 .refine ⟨λc hx=>dE _ ?_,?_⟩
  .rcases aE.mp hx with rfl|hx
   .decide
   .skip
    rcases (CR _ c hx) with rfl|rfl|rfl|rfl<;>decide
  .refine Q (Bi ..) ?_;exact YH (BC a _) (ag _)
theorem Mc {c:Bool×Nat->List Nat}:∀a:List<|Bool×Nat,(∀e∈a,(c e).length<=k)->(a.flatMap c).length<=k*a.length
 |[]=>@λJ=>ag _
 |e::a=>@λh=>by exact Q (c9 ..)<|Q (aG ..)<|Q (aQ ..)<|Q (dS ..)<|Nn (Mc a λg d=>h g<|.tail _ d) (h e<|.head _)
theorem Xz {d:Nat}(k:Hg d a)(q g):(∀t∈td (sr q) (rZ g) (sz a) d c,t∈qB++vz)/\(td (sr q) (rZ g) (sz a) d c).length<=1000/\38∈td (sr q) (rZ g) (sz a) d c:=by
 refine qJ (k.evs c) λw U J=>qt U λi u e=>ri (λt G=>?_) ?_ ?_
 .exact qt (fZ.mp G) λi J G=>(Ri q g i).1 t G
 .have:=Mc (wc (sz a) d c) λi J=>(Ri q g i).2
  delta td;exact aa this<|aa (aW 13 w)<|by decide
 .refine fZ.mpr<|qp i u ?_
  delta B4;exact Q e<|iQ ..
theorem aah (l:List<|List Int)(c:∀g∈l,g.length<=65536):tW hp .NotEq (.tup<|l.map λg=>.lst<|iL g) (.tup<|l.map λg=>.lst<|iL g)=Y false:=by
 have e:∀l:List<|List Int,(∀g∈l,g.length<=65536)->zS (rU 7) (l.map λg=>.lst<|iL g) (l.map λg=>.lst<|iL g)=Y true:=λl=>by
  induction l with
  |nil=>exact λJ=>rfl
  |cons u l ih=>
   intro c;exact (congr (qn Ci<|OX u (c u<|.head _) 5)<|ih λg a=>c g<|.tail _ a:Ci (rU 7 (.lst<|iL u)<|.lst<|iL u) (zS (rU 7) _ _)=_)
 refine (?_:(rU 8 (.tup<|l.map λg=>.lst<|iL g)<|.tup<|l.map λg=>.lst<|iL g).map not=_);have i:rU 8 (.tup<|l.map λg=>.lst<|iL g) (.tup<|l.map λg=>.lst<|iL g)=Y true:=(ql rfl).trans<|e l c
 exact Q i rfl
theorem last_eq:∀c,tW hp .Eq (rJ c) (.qr "&")=Y (decide<|c=0)
 |0=>qn Y<|decide_eq_true rfl
 |1=>rfl|J+2=>qn Y<|(decide_eq_false<|by decide +kernel).trans (decide_eq_false<|gb _).symm
noncomputable def Oh (c:Nat):List Nat:=if c=0 then [] else [0]
section
variable (j:25<=m) {sg a0 a2 p b:Option V}(o:2<=n) (f:n<=5) (s:h<5)
include j o f s
abbrev zg (y i:Option V)(c k:Nat)(T U:Option V):List<|Option V:=wb y (Y<|.qr rq) i (Y<|rJ c) (Y<|.con<|.ref<|yn k) T U
abbrev tS (y:Option V)(q a d G t z:Int)(c:Nat):List O:=vM y q a d G t z (Y<|.int c) (Y<|.lst<|rg (sr a) c) (Y<|.lst<|rg (vm<|tn d c) c)<|Y<|.lst<|rg (rZ d) c
theorem st6:(ev (qy m) 60).S s9 Vh ⟨zg a0 a2 c h p b,tS sg c0 a d c3 c4 c5 n⟩=Y (.next,⟨zg a0 a2 c h (Y<|.str<|qz<|td (sr a) (rZ d) (sz<|tn d n) n c) b,tS sg c0 a d c3 c4 c5 n⟩):=by
 have k:=BH o f<|bg d ((256:Nat):Int)
 change Hg n (tn d n) at k
 have e:=Xy (m:=m-1) (nY<|aa (by decide) j) s (gf o) f (λz J=>Ak a z) (BC d) rfl (adp k) k.ful k.ev2 (k.evs c).1<|tS sg c0 a d c3 c4 c5 n
 rw[aH<|aa (by decide) j] at e
 exact qU (call_top (qo rfl<|qo (qA rfl rfl)<|qo (qA rfl rfl)<|qo (qA rfl rfl)<|qo rfl<|qG rfl) e) rfl
theorem st7:(ev (qy m) 60).S s9 Vg ⟨zg a0 a2 T h (Y<|.str<|qz<|td (sr t) (rZ c2) (sz<|tn c2 n) n T) b,tS sg c0 t c2 c3 c4 c5 n⟩=Y (.next,⟨zg a0 a2 T h (Y<|.str<|qz<|td (sr t) (rZ c2) (sz<|tn c2 n) n T) b,tS sg c0 t c2 c3 c4 c5 n⟩):=by
 have u:=BH o f<|bg c2 ((256:Nat):Int)
 change Hg n (tn c2 n) at u
 refine qJ (Xz (c:=T) u t c2) λp1 w x=>qJ (u.evs T) λG W U=>qt U λa e v3=>?_
 have i:=Su (Ak t) (BC c2) m (gf j) e G<|tS sg c0 t c2 c3 c4 c5 n
 change (qy m).top 204 [.str<|qz<|td (sr t) (rZ c2) (sz<|tn c2 n) n T,.qr rq] [] [] _=_ at i
 have y:yQ (rZ c2) n a=(aq n).map (rZ c2):=dB λA I=>by
  rcases eO A with rfl|q
  .skip
   split<;>rfl
  .refine ax (ql<|v3 A q<|bF.mp I) rfl
 have L:=Mi (m-1) h s (v:=.str<|qz<|td (sr t) (rZ c2) (sz<|tn c2 n) n T) rfl x (λz hx j=>(by decide:∀z∈Dy,z∉qB++vz) z hx<|p1 z j) w<|tS sg c0 t c2 c3 c4 c5 n
 rw[aH<|aa (by decide) j] at L
 have H:cX (qz<|td (sr t) (rZ c2) (sz<|tn c2 n) n T) "&" "&amp;"=qz (zI 38 vf<|td (sr t) (rZ c2) (sz<|tn c2 n) n T):=Q (Fw ..)<|Q (by kernel_rfl:("&amp;":ba)=qz vf)<|Ah<|IZ _ (qz vf) 38
 have c:vE (qz<|td (sr t) (rZ c2) (sz<|tn c2 n) n T) "&amp;"=true:=by delta vE;have k:(qz<|td (sr t) (rZ c2) (sz<|tn c2 n) n T).length=(td (sr t) (rZ c2) (sz<|tn c2 n) n T).length:=rfl;exact Q k<|Q (by rfl:("&amp;":ba).length=5)<|decide_eq_true<|aa (bo w<|cy 5<|cm w)<|by decide
 rw[y,FP _] at i
 generalize td (sr t) (rZ c2) (sz<|tn c2 n) n T=pg at *
 have k1:(ev (qy m) 58).E s9 (.cmp (.call (.l 4) [.l 5] [] []) [.NotEq] [.mt .replace (.l 5) [.k<|.qr "&",.k<|.qr "&amp;"]]) ⟨zg a0 a2 T h (Y<|.str<|qz pg) b,tS sg c0 t c2 c3 c4 c5 n⟩=Y (.bool false,⟨zg a0 a2 T h (Y<|.str<|qz pg) b,tS sg c0 t c2 c3 c4 c5 n⟩):=by
  have g:(ev (qy m) 57).E s9 (.call (.l 4) [.l 5] [] []) ⟨zg a0 a2 T h (Y<|.str<|qz pg) b,tS sg c0 t c2 c3 c4 c5 n⟩=Y (.str<|qz<|zI 38 vf pg,⟨zg a0 a2 T h (Y<|.str<|qz pg) b,tS sg c0 t c2 c3 c4 c5 n⟩):=Cn (st3:=⟨zg a0 a2 T h (Y<|.str<|qz pg) b,tS sg c0 t c2 c3 c4 c5 n⟩) rfl (qG rfl) rfl L
  exact qW g (J H<|uK rfl rfl rfl (qo rfl<|qG rfl)<|BK rfl c:(ev (qy m) 57).E s9 (.mt .replace (.l 5) [.k<|.qr "&",.k<|.qr "&amp;"]) ⟨zg a0 a2 T h (Y<|.str<|qz pg) b,tS sg c0 t c2 c3 c4 c5 n⟩=Y (.str<|qz<|zI 38 vf pg,⟨zg a0 a2 T h (Y<|.str<|qz pg) b,tS sg c0 t c2 c3 c4 c5 n⟩))<|ne_str _
 have k3:(ev (qy m) 58).E s9 (.cmp (.call (.k<|.con<|.ref 204) [.l 5,.l 1] [] []) [.NotEq] [.tup [.cell 3,.cell 4,.cell 5,.rb (.cmp (.l 3) [.Eq] [.k<|.qr "&"]) (.list [])<|.list [.i 0]]]) ⟨zg a0 a2 T h (Y<|.str<|qz pg) b,tS sg c0 t c2 c3 c4 c5 n⟩=Y (.bool false,⟨zg a0 a2 T h (Y<|.str<|qz pg) b,tS sg c0 t c2 c3 c4 c5 n⟩):=by
  have g:(ev (qy m) 56).E s9 (.rb (.cmp (.l 3) [.Eq] [.k<|.qr "&"]) (.list [])<|.list [.i 0]) ⟨zg a0 a2 T h (Y<|.str<|qz pg) b,tS sg c0 t c2 c3 c4 c5 n⟩=Y (.lst<|iL<|(Oh T).map λd:Nat=>(d:Int),⟨zg a0 a2 T h (Y<|.str<|qz pg) b,tS sg c0 t c2 c3 c4 c5 n⟩):=by
   delta Oh
   by_cases q:T=0
   .exact Q (ql q)<|vC (qW rfl rfl<|last_eq T) (dt q) rfl
   .exact Q (qm q)<|wB (qW rfl rfl<|last_eq T) (df q) rfl
  refine qW (call_top (qo rfl<|qG rfl) i) (sW<|qo (qA rfl rfl)<|qo (qA rfl rfl)<|qo (qA rfl rfl)<|qG g)<|J (by delta iL rg;exact ax bk rfl:iL ((aq n).map<|sr t)=rg (sr t) n)<|J (by delta iL rg;exact ax bk rfl:iL ((aq n).map<|rZ c2)=rg (rZ c2) n)<|J (Jd _ u.len)<|aah [(aq n).map<|sr t,tn c2 n,(aq n).map<|rZ c2,(Oh T).map λd:Nat=>(d:Int)] λz hx=>?_
  rcases (by simpa using hx) with rfl|rfl|rfl|rfl
  .refine Q (ao ..)<|Q (aU ..) ?_;lia
  .refine Q u.len ?_;lia
  .refine Q (ao ..)<|Q (aU ..) ?_;lia
  .refine Q (ao ..) ?_;delta Oh
   split<;>decide
 exact z0<|WU k1 (qW (call_top (qo rfl<|qo rfl<|qG<|wu rfl rfl)<|Xr m (Nat.le_of_add_left_le j) c4 p1 w<|tS sg c0 t c2 c3 c4 c5 n) rfl<|ne_str _) k3
end
noncomputable def Ej (q b:Int):Nat:=32+6*au (q.natAbs:Int)+(a_ b ((60:Nat):Int)).toNat+if a_ (bg b ((180:Nat):Int)) ((16:Nat):Int)=5 then 4000 else 0
theorem adf {q:Int}(U:q.natAbs<2^46)(c):R8 q<|Ej q c:=by
 have w:au (q.natAbs:Int)<=46:=bits_le.mpr U;obtain ⟨_,T⟩:=uZ c (b:=60) (by decide);have i:32+6*au (q.natAbs:Int)<=Ej q c:=by delta Ej;exact MR
 exact qJ (Mp.Xh (bits_le.mp<|ag _) i) λk J t=>⟨ai U<|aX (by decide)<|by decide,(by have:=bo (aP (aW 6 w) 32) (bl T);delta Ej;split<;>exact aa (a9 this _) (by decide)),aa (aK ..) i,k,t⟩
section
variable (s:25<=m) {sg a0 a1 a d f o:Option V}(p:2<=n) (g:n<=5) {x:Int}(j:x.natAbs<2^46)
include s p g j
theorem st8:(ev (qy m) 60).S s9 Vf ⟨wb a0 a1 (Y<|.int x) a d f o,tS sg c0 c1 c2 c3 c4 t n⟩=Y (.next,⟨wb a0 a1 (Y<|.int x) a d f<|Y<|.int (Ej x t:Nat),tS sg c0 c1 c2 c3 c4 t n⟩):=by
 have T:au (x.natAbs:Int)<=46:=bits_le.mpr j;obtain ⟨e,U⟩:=uZ t (b:=60) (by decide);have i:(ev (qy m) 58).E s9 (.rb (.cmp (.bin .Mod (.bin .FloorDiv (.sub (.cell 1)<|.i 5)<|.i 180)<|.i 16) [.Eq] [.i 5]) (.i 4000)<|.i 0) ⟨wb a0 a1 (Y<|.int x) a d f o,tS sg c0 c1 c2 c3 c4 t n⟩=Y (.int ((if a_ (bg t ((180:Nat):Int)) ((16:Nat):Int)=5 then 4000 else 0:Nat):Int),⟨wb a0 a1 (Y<|.int x) a d f o,tS sg c0 c1 c2 c3 c4 t n⟩):=by
  have q:(ev (qy m) 57).E s9 (.cmp (.bin .Mod (.bin .FloorDiv (.sub (.cell 1)<|.i 5)<|.i 180)<|.i 16) [.Eq] [.i 5]) ⟨wb a0 a1 (Y<|.int x) a d f o,tS sg c0 c1 c2 c3 c4 t n⟩=Y (.bool<|decide<|a_ (bg t ((180:Nat):Int)) ((16:Nat):Int)=5,⟨wb a0 a1 (Y<|.int x) a d f o,tS sg c0 c1 c2 c3 c4 t n⟩):=qW (qx (qx (wu rfl rfl) rfl<|xd t 180 (by decide)<|BG 180<|by decide) rfl<|u1 _ 16 (by decide)<|BG 16<|by decide) rfl<|Ae _ _
  by_cases z:a_ (bg t ((180:Nat):Int)) ((16:Nat):Int)=5
  .exact Q (ql z)<|vC q (dt z) rfl
  .exact Q (qm z)<|wB q (df z) rfl
 exact qU ((qx (qx (qx rfl (qx rfl (uK (uf (qG rfl)<|Pe x) rfl rfl rfl rfl)<|(xU 6 _ 3 6 (by decide) (av T<|by decide) (by decide)<|by decide).trans<|vi (fc ..).symm)<|rV _ _) (qx (wu rfl rfl) rfl<|(u1 t 60 (by decide)<|BG 60<|by decide).trans<|vi e)<|rV _ _) i<|rV _ _).trans<|qn (λu:Int=>Y (V.int u,(_:St)))<|by delta Ej;split<;>rfl) rfl
theorem st9 {v:Nat}(U:v<=4400):(ev (qy m) 60).S s9 Ve ⟨wb a0 a1 (Y<|.int x) a d f<|Y<|.int v,tS sg b q H u z t n⟩ =
  Y (.next,⟨w6 a0 a1 x a d f v (Y<|B9 (sr q) (vm<|tn H n) (rZ H) n x) N N N N N,tv sg (cL b q H u z t) (sr q) (vm<|tn H n) (rZ H) n []⟩):=by
 have S:=BH p g<|bg H ((256:Nat):Int)
 change Hg n (tn H n) at S
 have e:=QN m (tS sg b q H u z t n) (gf s) (gf p) (fj g) (λT c=>by
  rcases eO T with rfl|h
  .exact ru (n-1) (hU (ai (by decide) p)<|by decide) (.inr<|S.a0.trans<|ahu<|aa (by decide) p) λh=>absurd rfl h
  .refine rF (S.ak T h c) λG k=>?_
   have i:=(cf G).symm;exact ru ((vm (tn H n) T).toNat) (eG ((iM G).mpr k) c) (.inl i) λW=>i) (λT W=>dD<|bd3<|BC H T) λT=>av (dW _ _)<|ai (lY (bA.mp<|VM<|Ak q T) j)<|by decide
 have w:(ev (qy m) 58).E s9 (.bin .Pow (.i 2)<|.l 6) ⟨wb a0 a1 (Y<|.int x) a d f<|Y<|.int v,tS sg b q H u z t n⟩=Y (.int<|2^v,⟨wb a0 a1 (Y<|.int x) a d f<|Y<|.int v,tS sg b q H u z t n⟩):=by have:=dG (sM (by decide):au (2:Int)<=2) U;refine qx rfl rfl<|H8 2 v<|J (fc ..)<|bA.mpr<|aa this<|by decide
 exact qU (sW<|qo w<|qG<|call_top (qo (qA rfl rfl)<|qo (qA rfl rfl)<|qo (qA rfl rfl)<|qG rfl) e) rfl
end
end L1
end
noncomputable section
namespace L1
open Vm
open Mp (xu co cn u3)
theorem XM {c:Nat}(w:25<=c)(a:List Int)(i:a.length<=63):∃f,we (qy c) s9 Y0 ⟨[Y<|.lst<|iL a,N,N,N,N,N,N,N,N,N,N,N,N,N],[.cell N,.cell N,.cell N,.cell N,.cell N,.cell N]⟩=Y (.bool true,f):=by
 have e:=Yk (orc:=qy c) (by delta uy;refine Q (ao ..)<|Q (fz ..)<|dD<|lA ..:(uy a).length<61) [Y<|.lst<|iL a,N,N,N,N,N,N,N,N,N,N,N,N,N] [.cell N,.cell N,.cell N,.cell N,.cell N];have I:=abS (ns:=a) (p:=(3,1)) (by decide);have o:Ce.map (vw<|uy a)=[vw (uy a) (0,14),vw (uy a) (1,2293),vw (uy a) (2,36905),vw (uy a) (3,1),vw (uy a) (4,31415),vw (uy a) (5,7)]:=rfl;rw[o] at e
 generalize vw (uy a) (0,14)=c0 at *
 generalize vw (uy a) (1,2293)=c1 at *
 generalize vw (uy a) (2,36905)=A at *
 generalize vw (uy a) (3,1)=c3 at *
 generalize vw (uy a) (4,31415)=c4 at *
 generalize vw (uy a) (5,7)=c5 at *
 have s0:(ev (qy c) 60).S s9 Vn ⟨[Y<|.lst<|iL a,N,N,N,N,N,N,N,N,N,N,N,N,N],[.cell N,.cell N,.cell N,.cell N,.cell N,.cell N]⟩=Y (.next,⟨[Y<|.lst<|iL a,N,N,N,N,N,N,N,N,N,N,N,N,N],[.cell<|Y<|.lst<|iL<|uy a,.cell N,.cell N,.cell N,.cell N,.cell N]⟩):=qU (adh a i [N,N,N,N,N,N,N,N,N,N,N,N,N] [.cell N,.cell N,.cell N,.cell N,.cell N,.cell N]) rfl;generalize Y (V.lst<|iL<|uy a)=sg at *
 obtain ⟨d,T⟩:=adW c0;obtain ⟨_,U⟩:=uZ (bg c0 ((4:Nat):Int)) (b:=5) (by decide)
 change hOf c0<5 at U
 have z:=st2 (orc:=qy c) (c0:=c0) (c1:=c1) (c2:=A) (c3:=c3) (c4:=c4) (c5:=c5) (sg:=sg) (a0:=Y<|.lst<|iL a) (a1:=N) (a2:=N) (a3:=N) (a4:=N) (a5:=N) (a6:=N) (o2:=N) (o3:=N) (o4:=N) (o5:=N);have H:=st3 (orc:=qy c) (c0:=c0) (c1:=c1) (c2:=A) (c3:=c3) (c4:=c4) (c5:=c5) (sg:=sg) (a0:=Y<|.lst<|iL a) (a1:=Y<|.qr rq) (a2:=Y<|.int c3) (a3:=Y<|rJ<|C6 c5) (a4:=N) (a5:=N) (a6:=N) (o2:=Y<|.int (LQ c0:Nat)) (o3:=N) (o4:=N) (o5:=N);generalize LQ c0=n at *
 generalize hOf c0=h at *
 have g:=adf I c5;have j:=BH d T<|bg A ((256:Nat):Int)
 change Hg n (tn A n) at j
 have L:=Zi (c1:=c1) (c2:=A) j T;obtain ⟨u,s⟩:=Fd w L d g (dZ 1) (Y<|.lst<|iL a) (Y<|.qr rq) (Y<|rJ<|C6 c5) (Y<|.con<|.ref<|yn h) (Y<|.str<|qz<|td (sr c1) (rZ A) (sz<|tn A n) n<|C6 c5) N N N N sg (cL c0 c1 A c3 c4 c5) [];obtain ⟨G,k⟩:=Fd w L d g (ag 1) (Y<|.lst<|iL a) (Y<|.qr rq) (Y<|rJ<|C6 c5) (Y<|.con<|.ref<|yn h) (Y<|.str<|qz<|td (sr c1) (rZ A) (sz<|tn A n) n<|C6 c5) (Y<|.int<|u3 (sr c1) (vm<|tn A n) (rZ A) n 0<|2^Ej c3 c5) (Y<|.lst<|iL<|co (sr c1) (vm<|tn A n) (rZ A) n 0 c3) (Y<|.lst<|iL<|cn (sr c1) (vm<|tn A n) (rZ A) n 0 c3) N sg (cL c0 c1 A c3 c4 c5) ([]++u)
 exact qY (X0 w L d (Y<|.lst<|iL a) (Y<|.qr rq) (Y<|rJ<|C6 c5) (Y<|.con<|.ref<|yn h) (Y<|.str<|qz<|td (sr c1) (rZ A) (sz<|tn A n) n<|C6 c5) (Y<|B9 (sr c1) (vm<|tn A n) (rZ A) n c3) (Y<|.int (1:Nat)) (Y<|.int<|u3 (sr c1) (vm<|tn A n) (rZ A) n 1<|2^Ej c3 c5) (Y<|.lst<|iL<|co (sr c1) (vm<|tn A n) (rZ A) n 1 c3) (Y<|.lst<|iL<|cn (sr c1) (vm<|tn A n) (rZ A) n 1 c3) N sg (cL c0 c1 A c3 c4 c5)<|[]++u++G) λq t v x y=>⟨tv sg (cL c0 c1 A c3 c4 c5) (sr c1) (vm<|tn A n) (rZ A) n<|[]++u++G++t,ax ua<|qH s0<|qH (qU e rfl)<|qH z<|qH H<|qH (x' (by lia) d T)<|qH (st5 (by lia) d T)<|qH (st6 w d T U)<|qH (st7 w d T U)<|qH (st8 w d T I)<|qH (st9 w d T I g.ws)<|qH (v8 ((tP rfl rfl).trans rfl)<|r_ rfl rfl s<|r_ rfl rfl k rfl)<|qH y<|tq<|XO w L d g.ws g.wp v x (Y<|.lst<|iL a) (Y<|.qr rq) (Y<|rJ<|C6 c5) (Y<|.con<|.ref<|yn h) (Y<|.str<|qz<|td (sr c1) (rZ A) (sz<|tn A n) n<|C6 c5) (Y<|B9 (sr c1) (vm<|tn A n) (rZ A) n c3) (Y<|.int (1:Nat)) (Y<|.int<|u3 (sr c1) (vm<|tn A n) (rZ A) n 1<|2^Ej c3 c5) (Y<|.lst<|iL<|co (sr c1) (vm<|tn A n) (rZ A) n 1 c3) (Y<|.lst<|iL<|cn (sr c1) (vm<|tn A n) (rZ A) n 1 c3) sg (cL c0 c1 A c3 c4 c5)<|[]++u++G++t⟩
theorem XK (ns:List Int)(hns:ns.length<=63):(qy 41).top 238 [.lst<|ns.map .int] [] [] []=Y (.bool true,[]):=rM (XM (by decide) ns hns) λhp hr=>rD 40 (t:=t32) rfl rfl rfl rfl (CF<|BZ [] 7 ns) hr rfl
end L1
end
noncomputable section
namespace L1
theorem ad4:PySem.Challenge.rw_wc0030_02.Holds:=XN λa w=>qp 41 (by decide)<|XK a w
end L1
end
theorem PySem.Challenge.cw_wc0030_02_holds : PySem.Challenge.rw_wc0030_02.Holds :=
 L1.ad4
