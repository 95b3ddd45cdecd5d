import PyProof.Rows.All
import PyProof.TableCode
import PyProof.FactsAll.str_8
import PyProof.Comp
import PyProof.FactsAll.list_3
import PyProof.FactsAll.list_4
import PyProof.FactsAll.tuple_2
import PyProof.TupleIter
import PyProof.ForAny
import PyProof.CallRoads
import PyProof.Cells
import PyProof.StrWalks
import PyProof.CompFree
import PyProof.MeetsSeq
import PyProof.DictRoads
import PyProof.DictCalls
import PyProof.TupleKey
import PyProof.DictTable
import PyProof.EnumStmt
import PyProof.NeKinds
import PyProof.ExcClass
import PyProof.FactsAll.set_0
import PyProof.FactsAll.set_1
import PyProof.FactsGen
import PyProof.StrBlockL
import PyProof.InstStoreFacts
import PyProof.IsiH_dict
import PyProof.LayNew
import PyProof.ListNew
import PyProof.ListCopy
import PyProof.ListStr
import PyProof.Rows.TupIter
import PyProof.ZipIter
import PyProof.WalksPairs
import PyProof.TupleCall
import PyProof.Rows.StrJoin2
import PyProof.Rows.CallKw2
import PyProof.Rows.RuleU_int
import PyProof.Rows.SumAny
import PyProof.TupleOfSeq
import PyProof.SetRoads
import PyProof.SetNew
import PyProof.Rows.ExtendIn
import ObjForm.Fk.ObjNew
import ObjForm.Fk.InstLoad
import Wide.BridgeG
import KE.KDictLaws
import KE.KSetIn
import KE.KSortAsk
import KE.KxFormat
import Wide.FinOn
import OpenK.AllK
import Wide.All
import Lean
import PySem.Challenge.RW_we0038_01
set_option Elab.async false
set_option compiler.extract_closed false
set_option bootstrap.genMatcherCode false
set_option genInjectivity false
set_option genSizeOf false
set_option linter.unusedVariables false
set_option linter.unusedSimpArgs false
set_option maxRecDepth 100000
set_option maxHeartbeats 1000000
open List renaming length->U,length_append->aK,getElem?_eq_getElem->bO,mem_singleton->bw,length_map->bg,getElem?_append_left->cA,getElem?_eq_some_iff->cJ,getD_eq_getElem?_getD->c5,getElem?_append_right->dc,prefix_refl->bP,mem_append->bK,append_assoc->cm,length_cons->cK,mem_of_getElem?->dT,getElem?_map->c6,append_nil->cM,mem_cons->cu,flatMap_cons->e9,map_append->eL,map_cons->eu,all_eq_true->fW,prefix_append->gK,lookup_cons->gv,length_range->gL,length_take->gA,mem_map->fa,range->eD,not_mem_nil->g8,range'->fj,length_nil->iQ,foldl_append->jS,flatMap_append->kN,map_map->gM,cons_append->jT,getElem?_eq_none_iff->ot,length_drop->kO,getElem_of_mem->mE,eq_nil_of_length_eq_zero->rO,nodup_append->mF,nodup_cons->l5,nodup_nil->lx,foldl_cons->l6,length_filter_le->pE,getElem?_range->ou,length_pos_iff->oz,take_of_length_le->qK,getElem_mem->nE,drop_zero->mG,nil_append->nF,getElem?_eq_none->rP,take_append_drop->rQ,eq_nil_or_concat->rR,concat_eq_append->rS,filter_cons->pF,take_prefix->pG,take_length->pH,take_add_one->qL,map_congr_left->rT,drop_eq_getElem_cons->vx,take_append_of_le_length->w6,all_cons->oA,lookup->mH,range'_append_1->tI,getElem?_cons_succ->vy,size_toArray->rU,length_set->qM,take_prefix_take_left->w7,map_nil->pI,mem_filter->rV,mem_cons_of_mem->vz,mem_range->rW,mem_cons_self->vA,toArray->qN,pairwise_append->w8,mem_flatMap->vB,getElem?_take_of_lt->zV,drop_length->vC,map_eq_nil_iff->w9,filter_append->xa,append_eq_nil_iff->zW,ext_getElem?->xb,mem_range'_1->xc,mem_append_right->zX,set_append_right->zY,getElem?_set_ne->zZ,nodup_range->xe,contains_eq_mem->z6,cons_ne_nil->xf,pairwise_iff_getElem->Dr,nil_prefix->xg,contains_cons->z7,getElem?_drop->z8,length_range'->z9,idxOf_lt_length_iff->Ds,pairwise_cons->Aa,drop_drop->xh,length_eq_zero_iff->Dt,reverse_cons->Ab,getElem?_set_self->Du,lookup_cons_self->Dv,getElem?_range'->Dw,range_succ->Ac,all_nil->xi,forIn_cons->Ad,mem_of_mem_take->Dx,drop_append_of_le_length->Jt,drop_left->Ae,zip_cons_cons->Dy,getElem_idxOf->Dz,set_cons_zero->DA,nodup_range'->DB,any_eq_true->DE,ext_getElem->DF,getElem_inj->DG,flatMap_nil->DH,lookup_eq_none_iff->Ju,pairwise_singleton->Jv,of_mem_zip->DI,filter_eq_nil_iff->Jw,flatMap_singleton->Jy,drop_of_length_le->Jz,forIn_nil->DJ,take_eq_take_iff->JA,range_eq_range'->JB,mem_append_left->JC,set_append_left->JD,length_take_le'->JE,mem_of_mem_drop->JF,foldl->Af,length_dropLast->JG,any_cons->DK,length_flatMap->JH,lookup_append->JI,find?_toArray->JJ,range'_concat->JK,forIn_toArray->JL,set_cons_succ->JM,getElem?_take->JN,pairwise_map->JO,flatten_cons->JP,map_id->DL,mem_reverse->JQ,map_snd_zip->JR,range'_succ->JS,head?_drop->JT,set_append->JU,foldl_nil->JV,take_left->JW,sum_cons->JX,map_take->JY,IsPrefix.eq_of_length->Ag,IsPrefix.trans->xj,IsPrefix.length_le->JZ,cons.inj->tJ,cons.injEq->DM,Nodup.idxOf_getElem->DN,Pairwise.filter->J1,Perm.trans->J2,Perm.refl->J8
open _root_ renaming List->J,Nat->B,autoParam->aO,if_neg->aE,if_pos->aU,absurd->aY,Int->az,of_decide_eq_true->dq,congrArg->bA,decide_eq_true->dF,Option->bC,Bool->bb,decide_eq_false->fz,Array->bD,decide_eq_true_eq->ip,of_decide_eq_false->kj,String->dm,congrFun->fk,False->c7,Unit->fD,beq_iff_eq->nG,True->gC,decide_eq_decide->vD,beq_eq_false_iff_ne->xk,beq_self_eq_true->xl,or_false->rX,DecidableEq->xm,decide_eq_false_iff_not->J9,if_false->xn,eq_false_of_ne_true->Ka,if_true->xo,bne_self_eq_false->Kb,bne_iff_ne->DO
open Option renaming none->aA,getD_some->vE,map_some->vF,bind_some->Kc,some.inj->cj
open Nat renaming le_refl->aG,le_of_ble_eq_true->bY,zero_le->bH,le_add_right->dZ,le_trans->cX,add_sub_cancel_left->jx,le_succ->eM,sub_self->fF,le_of_not_lt->iR,add_assoc->iq,zero_add->iu,lt_irrefl->jf,le_succ_of_le->ly,ne_of_lt->iS,add_zero->jy,add_right_comm->nH,not_lt->iT,ne_of_gt->kl,lt_of_lt_of_le->oB,le_of_lt->lz,le_add_left->pJ,eq_zero_or_pos->tK,lt_of_not_le->tM,lt_succ_self->tN,pos_of_ne_zero->vG,min_eq_left->tO,succ_pos->rY,add_sub_cancel'->xp,lt_of_le_of_lt->xq,lt_trans->tP,add_sub_add_right->Ah,add_comm->tQ,not_lt_of_le->Ai,add->qO,not_le->vH,not_lt_zero->Aj,mul_le_mul_right->DP,add_sub_cancel->DQ,min_eq_right->DR,le_of_eq->Ak,succ_mul->Al,exists_eq_add_of_le->Kd,le_antisymm->DS,one_mul->Am,eq_of_beq_eq_true->Ke,lt_of_sub_eq_succ->Kf,le_total->DT,lt_succ_of_lt->Kg,succ_ne_self->Kh,le_max_right->Ki,succ_le_succ->Kj,max_eq_left->Kk,le_max_left->Kl,sub_le->DU,beq->An,succ->Ao
open PySem renaming Value->ak,Shared->ay,Addr->ax,wpAny->aF,Params->aP,Str->ao,model->aN,OsState->bM,World->bx,Heap->bn,Around->bS,typeLookup->ea,GenState->de,Expr->bB,Obj->bc,treeTable->iw,Program->du,strKind->gN,Drawn->cV,Builtin->ed,call->gO,checkBuiltinCall->mI,Fin->h9,compareOp->iU,DictEntry->jz,foldedSetIterable->pK,Pos->cN,intKind->oC,sizeLine->km,Stmt->fq,Sem->dG,starEach->lC,FuncData->lD,Builtin->tR,keywordEach->qP,seqIndex?->oE,getAttr->l7,backTo->lE,standAt->nK,Keyword->nN,letTemporaryGo->vI,argsOk->l8,Stmt->rZ,binaryOp->pL,swapsWithSole->vJ,swappedStores->vK,attributeBase->vL,methodCallPos->vM,mainGlobals->tS,builtinKind->tT,letOwnedTupleGo->xr,importedModules->xt,backToKw->qQ,entryFor->qR,isSubtype->r0,intKind->pM,assignEach->tU,sysModules->tW,checkBoundCall->xu,closureFor->tX,pyNext->oF,pyIter->oG,excClassObj->vN,execs->mJ,bindArgs->r7,cStatics->r8,Frame->nO,Tok->jg,compEnvC->tY,Thread->qS,clipAt->qT,Flow->mK,Code->nP,call_meets->DV,Scope->r9,Str->Ap,Slot->qU,mainGlobals->Km,Scope->DW,IsRangeIter->DX,builtinsNs->Kn,Expr->DY,Str.ofString->ft,Str.mk->tZ,Str.join->DZ,Challenge.rw_we0038_01->l9,Challenge.pw_we0038_01->oH,Sem.bind_eq_wrap'->jU,Sem.wrap_wrap->jA,Sem.onRaise_eq_wrap->D0,Obj.mapSeq->fX,Obj.mk->t7,Flow.next->pN,Code.quiet_builtin->xw,Code.builtin->xx,Around.under_plainId->Aq,Around.deeper->Ko,Around.over->Kp,BindsTo.of_defaults->D1,Frame.where_->Ar,Frame.guarded->D2,Manifest.varargsMethods->Kq,NameKind.local->D3,Bind.staticBase->Kr,Keeper.caller->Ks
open PySem.Heap renaming get?_push_of_some->dD,get?_push_size->ew,lt_size->dH,size_push->jV,SameBut->iV,get?_update_self->pO,ExtBut->qW,get?_push_cases->D4,SameBut.update->iA,IsSliceOf.new->Kt,DictOf.new->Ku
open Bool renaming false_ne_true->dy,and_eq_true_iff->fb,and_eq_true->gP,and_true->lF,eq_iff_iff->sa,false_eq_true->As,true_and->xy,noConfusion->Au,false_or->Av,or_eq_true->D5,and_false->D6,not_false->D7,and_eq_false_iff->Kv,or_eq_false_iff->Kw,or_false->D8,eq_false_iff->Ky,not_true->Kz,or_assoc->KA,not_inj->KB
open Array renaming length_toList->eO,getElem?_eq_getElem->ia,getElem?_eq_some_iff->jW,getElem?_toList->jX,getD_eq_getD_getElem?->t8,ext'->t9,eq_empty_of_size_eq_zero->KC,toArray_toList->D9,perm_iff_toList_perm->KD,size_push->Eb,mem_toList_iff->KE,toList_append->KF,toList_push->KG,toList_inj->KH,mk->Ec
open PySem.F renaming plainAttrs_str->nQ,slot_str_format_m->ua,type_str_format_m->ub,plainAttrs_list->uc,slot_dict_getattribute->Aw,slot_set_getattribute->Ax,slot_str_join->Ay,type_str_join->Az,plain_extend_loop->AB,slot_list_append->Ed,type_list_append->Ef,plainAttrs_dict->Eg,type_set_contains->Eh,slot_dict_setdefault->KI,type_dict_setdefault->KJ,entry_dict_get->Ei,args_dict_setdefault_3->KK,slot_list_extend->KL,type_list_extend->KM,slot_tuple_len->Ej,entry_dict_setdefault->KN,slot_dict_get->Ek,type_dict_get->El,slot_tuple_lt->Em,slot_dict_setdefault->KO,called_tuple->En,slot_set_contains->KP,entry_extend_loop->KQ,slot_tuple_init->KR
open PySem.W renaming boot_heap->g9,SharedT->mL,piecesOf->sd,segRun->qX,boot_o_0->Eo,boot_o_2->KS,kds_fill_cons->KT,OpenLaw.row->qY,X.s_again->xz,X.SegX.mono->Ep,WData.int->vO,KPc.ite_no->Er,OpenRow.toRowW->KU
open PySem.Value renaming builtin->lG,none->jB,str->iW,type->pP,int->qZ,ref->ud,isInt->AC
open Int renaming add_zero->pQ,natCast_nonneg->vP,toNat_natCast->xB,zero_add->vQ,zero_mul->xC,fmod_eq_emod_of_nonneg->KV,not_lt->xD,ofNat_lt->AD,ofNat->xF,le_of_lt->Es,le_trans->Et,one_mul->Eu,mul_add->Ev,mul_nonneg->KW
open Classical renaming not_not->xG,byContradiction->Ew,choose_spec->KX,not_forall->KY
open PyProof.Rows renaming assign_Tuple->Ex,Attribute_any_->AE,seqObj->q7,is_none_ne->KZ,lt_int->K0,Subscript_->Ey,SortSt.mk'->AF
open PySem.Calls renaming spliced_cons->AG,callWith_function->Ez,callWith_builtin->EA,evalArgs_plain->EB,Name_function_global->K7,spliced_nil->EC,call_len_list->K8
open ForInStep renaming yield->AH
open PySem.Builtin.Str renaming nextMarkup->K9,tooLong->Lb
open PySem.Builtin.List renaming listExtendWith->Lc,listFitsIndex->Ld,listSameRef->Le
open Ne renaming symm->ue
open PySem.Builtin.Range renaming rangeSize->Lf
open Eq renaming trans->xH
open String renaming ofList->Lg
open PySem.Builtin.Frozenset renaming oneOther->SV
open PySem.Builtin.Generator renaming genWake->SW
open Prod renaming ext->ED,mk->EF,mk.inj->Lh
open PySem.MeetsSeq.EqGives renaming int->SY
namespace Mine.Internal
theorem aR(h:True:=by rfl):True:=h
end Mine.Internal
open Mine.Internal renaming aR._auto_1->a8
namespace Mine.Internal
section
variable{P:Prop}{α:Type}
section
variable{AA BB CC DD EE FF GG HH:Sort _}{aiz:Prop}
theorem xA{Q:Prop}(h:P/\Q)(k:P->Q->aiz):aiz:=k h.1 h.2
theorem xE{P:AA->Prop}(h:∃a:AA,P a)(k:∀a,P a->aiz):aiz:=h.elim k
theorem Li{Q:AA->Prop}(h:P/\∃a:AA,Q a)(k:P->∀a,Q a->aiz):aiz:=xE h.2<|k h.1
theorem eh{Q R:Prop}(h:P/\Q/\R)(k:P->Q->R->aiz):aiz:=xA h.2<|k h.1
theorem aH{P Q:AA->Prop}(h:∃a:AA,P a/\Q a)(k:∀a,P a->Q a->aiz):aiz:=h.elim λa h=>xA h<|k a
theorem xI{P:AA->BB->Prop}(h:∃a:AA,∃b:BB,P a b)(k:∀a,∀b,P a b->aiz):aiz:=h.elim λa h=>xE h<|k a
theorem SZ{Q:AA->BB->Prop}(h:P/\∃a:AA,∃b:BB,Q a b)(k:P->∀a,∀b,Q a b->aiz):aiz:=xI h.2<|k h.1
theorem EG{P:AA->BB->CC->Prop}(h:∃a:AA,∃b:BB,∃c:CC,P a b c)(k:∀a,∀b,∀c,P a b c->aiz):aiz:=h.elim λa h=>xI h<|k a
theorem nR{Q R:AA->Prop}(h:P/\∃a:AA,Q a/\R a)(k:P->∀a,Q a->R a->aiz):aiz:=aH h.2<|k h.1
theorem dv{P Q:AA->BB->Prop}(h:∃a:AA,∃b:BB,P a b/\Q a b)(k:∀a,∀b,P a b->Q a b->aiz):aiz:=h.elim λa h=>aH h<|k a
theorem EH{P:AA->Prop}{Q:AA->BB->Prop}(h:∃a:AA,P a/\∃b:BB,Q a b)(k:∀a,P a->∀b,Q a b->aiz):aiz:=h.elim λa h=>Li h<|k a
theorem gc{Q R S:Prop}(h:P/\Q/\R/\S)(k:P->Q->R->S->aiz):aiz:=eh h.2<|k h.1
theorem xJ{Q:Prop}{R:AA->Prop}(h:P/\Q/\∃a:AA,R a)(k:P->Q->∀a,R a->aiz):aiz:=Li h.2<|k h.1
theorem cP{P Q R:AA->Prop}(h:∃a:AA,P a/\Q a/\R a)(k:∀a,P a->Q a->R a->aiz):aiz:=h.elim λa h=>eh h<|k a
theorem Lj{P:AA->BB->CC->DD->Prop}(h:∃a:AA,∃b:BB,∃c:CC,∃d:DD,P a b c d)(k:∀a,∀b,∀c,∀d,P a b c d->aiz):aiz:=h.elim λa h=>EG h<|k a
theorem S4{Q R S:AA->Prop}(h:P/\∃a:AA,Q a/\R a/\S a)(k:P->∀a,Q a->R a->S a->aiz):aiz:=cP h.2<|k h.1
theorem se{Q R S T:Prop}(h:P/\Q/\R/\S/\T)(k:P->Q->R->S->T->aiz):aiz:=gc h.2<|k h.1
theorem uf{P Q R S:AA->Prop}(h:∃a:AA,P a/\Q a/\R a/\S a)(k:∀a,P a->Q a->R a->S a->aiz):aiz:=h.elim λa h=>gc h<|k a
theorem S6{Q:Prop}{R:AA->BB->Prop}(h:P/\Q/\∃a:AA,∃b:BB,R a b)(k:P->Q->∀a,∀b,R a b->aiz):aiz:=SZ h.2<|k h.1
theorem eR{P Q:AA->BB->CC->Prop}(h:∃a:AA,∃b:BB,∃c:CC,P a b c/\Q a b c)(k:∀a,∀b,∀c,P a b c->Q a b c->aiz):aiz:=h.elim λa h=>dv h<|k a
theorem vR{Q R:AA->BB->Prop}(h:P/\∃a:AA,∃b:BB,Q a b/\R a b)(k:P->∀a,∀b,Q a b->R a b->aiz):aiz:=dv h.2<|k h.1
theorem dh{P Q R:AA->BB->Prop}(h:∃a:AA,∃b:BB,P a b/\Q a b/\R a b)(k:∀a,∀b,P a b->Q a b->R a b->aiz):aiz:=h.elim λa h=>cP h<|k a
theorem S7{Q:AA->BB->CC->Prop}(h:P/\∃a:AA,∃b:BB,∃c:CC,Q a b c)(k:P->∀a,∀b,∀c,Q a b c->aiz):aiz:=EG h.2<|k h.1
theorem Lk{P Q:AA->Prop}{R:AA->BB->Prop}(h:∃a:AA,P a/\Q a/\∃b:BB,R a b)(k:∀a,P a->Q a->∀b,R a b->aiz):aiz:=h.elim λa h=>xJ h<|k a
theorem EI{Q:Prop}{R S:AA->Prop}(h:P/\Q/\∃a:AA,R a/\S a)(k:P->Q->∀a,R a->S a->aiz):aiz:=nR h.2<|k h.1
theorem ug{P Q R S T:AA->Prop}(h:∃a:AA,P a/\Q a/\R a/\S a/\T a)(k:∀a,P a->Q a->R a->S a->T a->aiz):aiz:=h.elim λa h=>se h<|k a
theorem S8{Q:Prop}{R:AA->BB->CC->Prop}(h:P/\Q/\∃a:AA,∃b:BB,∃c:CC,R a b c)(k:P->Q->∀a,∀b,∀c,R a b c->aiz):aiz:=S7 h.2<|k h.1
theorem S9{P Q:AA->BB->Prop}{R:AA->BB->CC->Prop}(h:∃a:AA,∃b:BB,P a b/\Q a b/\∃c:CC,R a b c)(k:∀a,∀b,P a b->Q a b->∀c,R a b c->aiz):aiz:=h.elim λa h=>Lk h<|k a
theorem q8{Q R S T ait:Prop}(h:P/\Q/\R/\S/\T/\ait)(k:P->Q->R->S->T->ait->aiz):aiz:=se h.2<|k h.1
theorem Ta{P:AA->BB->CC->DD->EE->Prop}(h:∃a:AA,∃b:BB,∃c:CC,∃d:DD,∃e:EE,P a b c d e)(k:∀a,∀b,∀c,∀d,∀e,P a b c d e->aiz):aiz:=h.elim λa h=>Lj h<|k a
theorem aih{Q:Prop}{R S:AA->BB->Prop}(h:P/\Q/\∃a:AA,∃b:BB,R a b/\S a b)(k:P->Q->∀a,∀b,R a b->S a b->aiz):aiz:=vR h.2<|k h.1
theorem Tc{P Q:AA->Prop}{R:AA->BB->CC->Prop}(h:∃a:AA,P a/\Q a/\∃b:BB,∃c:CC,R a b c)(k:∀a,P a->Q a->∀b,∀c,R a b c->aiz):aiz:=h.elim λa h=>S6 h<|k a
theorem Te{P:AA->Prop}{Q R:AA->BB->CC->Prop}(h:∃a:AA,P a/\∃b:BB,∃c:CC,Q a b c/\R a b c)(k:∀a,P a->∀b,∀c,Q a b c->R a b c->aiz):aiz:=h.elim λa h=>vR h<|k a
theorem EJ{Q R S:AA->BB->Prop}(h:P/\∃a:AA,∃b:BB,Q a b/\R a b/\S a b)(k:P->∀a,∀b,Q a b->R a b->S a b->aiz):aiz:=dh h.2<|k h.1
theorem kn{P Q R S:AA->BB->Prop}(h:∃a:AA,∃b:BB,P a b/\Q a b/\R a b/\S a b)(k:∀a,∀b,P a b->Q a b->R a b->S a b->aiz):aiz:=h.elim λa h=>uf h<|k a
theorem lH{P Q R:AA->BB->CC->Prop}(h:∃a:AA,∃b:BB,∃c:CC,P a b c/\Q a b c/\R a b c)(k:∀a,∀b,∀c,P a b c->Q a b c->R a b c->aiz):aiz:=h.elim λa h=>dh h<|k a
theorem Tf{P Q:AA->BB->CC->Prop}{R:AA->BB->CC->DD->Prop}(h:∃a:AA,∃b:BB,∃c:CC,P a b c/\Q a b c/\∃d:DD,R a b c d)(k:∀a,∀b,∀c,P a b c->Q a b c->∀d,R a b c d->aiz):aiz:=h.elim λa h=>S9 h<|k a
theorem Tg{P Q:AA->Prop}{R:AA->BB->CC->DD->Prop}(h:∃a:AA,P a/\Q a/\∃b:BB,∃c:CC,∃d:DD,R a b c d)(k:∀a,P a->Q a->∀b,∀c,∀d,R a b c d->aiz):aiz:=h.elim λa h=>S8 h<|k a
theorem Ll{P Q R:AA->BB->CC->DD->Prop}(h:∃a:AA,∃b:BB,∃c:CC,∃d:DD,P a b c d/\Q a b c d/\R a b c d)(k:∀a,∀b,∀c,∀d,P a b c d->Q a b c d->R a b c d->aiz):aiz:=h.elim λa h=>lH h<|k a
theorem vS{P Q:AA->BB->Prop}{R:AA->BB->CC->DD->Prop}(h:∃a:AA,∃b:BB,P a b/\Q a b/\∃c:CC,∃d:DD,R a b c d)(k:∀a,∀b,P a b->Q a b->∀c,∀d,R a b c d->aiz):aiz:=h.elim λa h=>Tc h<|k a
theorem Th{Q:AA->Prop}{R S:AA->BB->CC->Prop}(h:P/\∃a:AA,Q a/\∃b:BB,∃c:CC,R a b c/\S a b c)(k:P->∀a,Q a->∀b,∀c,R a b c->S a b c->aiz):aiz:=Te h.2<|k h.1
theorem pR{P Q R S T:AA->BB->Prop}(h:∃a:AA,∃b:BB,P a b/\Q a b/\R a b/\S a b/\T a b)(k:∀a,∀b,P a b->Q a b->R a b->S a b->T a b->aiz):aiz:=h.elim λa h=>ug h<|k a
theorem Ti{Q R S T:AA->BB->Prop}(h:P/\∃a:AA,∃b:BB,Q a b/\R a b/\S a b/\T a b)(k:P->∀a,∀b,Q a b->R a b->S a b->T a b->aiz):aiz:=kn h.2<|k h.1
theorem EK{P:AA->BB->CC->DD->EE->FF->Prop}(h:∃a:AA,∃b:BB,∃c:CC,∃d:DD,∃e:EE,∃aiA:FF,P a b c d e aiA)(k:∀a,∀b,∀c,∀d,∀e,∀aiA,P a b c d e aiA->aiz):aiz:=h.elim λa h=>Ta h<|k a
theorem oJ{Q R S:AA->BB->CC->Prop}(h:P/\∃a:AA,∃b:BB,∃c:CC,Q a b c/\R a b c/\S a b c)(k:P->∀a,∀b,∀c,Q a b c->R a b c->S a b c->aiz):aiz:=lH h.2<|k h.1
theorem Tj{Q R S T ait:AA->Prop}(h:P/\∃a:AA,Q a/\R a/\S a/\T a/\ait a)(k:P->∀a,Q a->R a->S a->T a->ait a->aiz):aiz:=ug h.2<|k h.1
theorem uh{Q:Prop}{R S T:AA->BB->Prop}(h:P/\Q/\∃a:AA,∃b:BB,R a b/\S a b/\T a b)(k:P->Q->∀a,∀b,R a b->S a b->T a b->aiz):aiz:=EJ h.2<|k h.1
theorem AI{P Q R S:AA->BB->CC->Prop}(h:∃a:AA,∃b:BB,∃c:CC,P a b c/\Q a b c/\R a b c/\S a b c)(k:∀a,∀b,∀c,P a b c->Q a b c->R a b c->S a b c->aiz):aiz:=h.elim λa h=>kn h<|k a
theorem mM{P Q R S T:AA->BB->CC->Prop}(h:∃a:AA,∃b:BB,∃c:CC,P a b c/\Q a b c/\R a b c/\S a b c/\T a b c)(k:∀a,∀b,∀c,P a b c->Q a b c->R a b c->S a b c->T a b c->aiz):aiz:=h.elim λa h=>pR h<|k a
theorem Lm{P Q R S:AA->BB->CC->DD->Prop}(h:∃a:AA,∃b:BB,∃c:CC,∃d:DD,P a b c d/\Q a b c d/\R a b c d/\S a b c d)(k:∀a,∀b,∀c,∀d,P a b c d->Q a b c d->R a b c d->S a b c d->aiz):aiz:=h.elim λa h=>AI h<|k a
end
theorem gg{P:α->Prop}{a:α}{l:J α}(h:P a)(t:∀x∈l,P x):∀x∈a::l,P x:=λx hx=>by
 rcases cu.mp hx with rfl|hx
 ·exact h
 ·exact t x hx
theorem fM{P:α->Prop}{a:α}(h:P a):∀x∈[a],P x:=gg h λx hx=>nomatch hx
theorem ma{P:α->Prop}{l m:J α}(h:∀x∈l,P x)(t:∀x∈m,P x):∀x∈l++m,P x:=λx hx=>(bK.mp hx).elim (h x)<|t x
theorem EL{α:Sort _}{p:α->Prop}{c:Prop}[Decidable c]{t e:α}(ht:p t)(he:p e):p (if c then t else e):=by split<;>assumption
theorem cons_eq{α:Type _}{a b:α}{l m:J α}(h:a=b)(k:l=m):a::l=b::m:=h▸k▸rfl
noncomputable def ep(a:α)(P:α->Prop):α:=@Classical.epsilon α ⟨a⟩ λx=>¬P x
theorem Tk{a:α}{P:α->Prop}(h:P<|ep a P)(x:α):P x:=Ew λhx=>@Classical.epsilon_spec α (λx=>¬P x) ⟨x,hx⟩ h
section
variable{A1 A2 A3 A4 A5 A6 A7 A8 A9 sf si sj sk:Type}
noncomputable def nT(d1:A1)(d2:A2)(d3:A3)(d4:A4)(d5:A5)(d6:A6)(d7:A7)(d8:A8)(d9:A9)(EM:sf)(EN:si)(EO:sj)(EP:sk)(P:A1->A2->A3->A4->A5->A6->A7->A8->A9->sf->si->sj->sk->Prop):A1×A2×A3×A4×A5×A6×A7×A8×A9×sf×si×sj×sk:=ep (d1,d2,d3,d4,d5,d6,d7,d8,d9,EM,EN,EO,EP) λx=>P x.1 x.2.1 x.2.2.1 x.2.2.2.1 x.2.2.2.2.1 x.2.2.2.2.2.1 x.2.2.2.2.2.2.1 x.2.2.2.2.2.2.2.1 x.2.2.2.2.2.2.2.2.1 x.2.2.2.2.2.2.2.2.2.1 x.2.2.2.2.2.2.2.2.2.2.1 x.2.2.2.2.2.2.2.2.2.2.2.1 x.2.2.2.2.2.2.2.2.2.2.2.2
theorem oK{d1:A1}{d2:A2}{d3:A3}{d4:A4}{d5:A5}{d6:A6}{d7:A7}{d8:A8}{d9:A9}{EM:sf}{EN:si}{EO:sj}{EP:sk}(P:A1->A2->A3->A4->A5->A6->A7->A8->A9->sf->si->sj->sk->Prop)(E:A1×A2×A3×A4×A5×A6×A7×A8×A9×sf×si×sj×sk)(hE:E=nT d1 d2 d3 d4 d5 d6 d7 d8 d9 EM EN EO EP P)(h:P E.1 E.2.1 E.2.2.1 E.2.2.2.1 E.2.2.2.2.1 E.2.2.2.2.2.1 E.2.2.2.2.2.2.1 E.2.2.2.2.2.2.2.1 E.2.2.2.2.2.2.2.2.1 E.2.2.2.2.2.2.2.2.2.1 E.2.2.2.2.2.2.2.2.2.2.1 E.2.2.2.2.2.2.2.2.2.2.2.1 E.2.2.2.2.2.2.2.2.2.2.2.2)(x0:A1)(x1:A2)(x2:A3)(x3:A4)(x4:A5)(x5:A6)(x6:A7)(x7:A8)(x8:A9)(x9:sf)(Ln:si)(Lo:sj)(Lp:sk):P x0 x1 x2 x3 x4 x5 x6 x7 x8 x9 Ln Lo Lp:=by
 subst hE;exact Tk (P:=λx:A1×A2×A3×A4×A5×A6×A7×A8×A9×sf×si×sj×sk=>P x.1 x.2.1 x.2.2.1 x.2.2.2.1 x.2.2.2.2.1 x.2.2.2.2.2.1 x.2.2.2.2.2.2.1 x.2.2.2.2.2.2.2.1 x.2.2.2.2.2.2.2.2.1 x.2.2.2.2.2.2.2.2.2.1 x.2.2.2.2.2.2.2.2.2.2.1 x.2.2.2.2.2.2.2.2.2.2.2.1 x.2.2.2.2.2.2.2.2.2.2.2.2) h (x0,x1,x2,x3,x4,x5,x6,x7,x8,x9,Ln,Lo,Lp)
end
@[elab_as_elim] theorem D{α:Sort _}{P:α->Prop}{a b:α}(h:a=b)(k:P b):P a:=h▸k
@[elab_as_elim] theorem bL{α:Sort _}{P:α->Prop}{b a:α}(h:a=b)(k:P a):P b:=h▸k
theorem aD(h:gC:=by decide):gC:=h
theorem aW(h:gC:=by with_unfolding_all rfl):gC:=h
theorem aI(h:gC->gC:=by intro _;rfl):gC->gC:=h
end
end Mine.Internal
namespace Mine.Internal
open PySem PyProof.Rows
section
variable{h h':bn}{a:ax}{ρ aB:J ax}
inductive V where
 |none
 |bool (b:bb)
 |int (i:az)
 |str (s:ao)
 |val (v:ak)
 |ref (k:B)
 |tup (c:ak) (l:J V)
noncomputable def ui:ak->bb
 | .type n=>n=="tuple"
 | .ref _=>true
 |_=>false
noncomputable def xK:Data->bb
 | .seq .. =>true
 |_=>false
noncomputable def mc(o:bc):bb:=ui o.cls&&xK o.data
theorem Lq{P:Prop}(h:false=true):P:=aY h dy
theorem AJ{o:bc}{d:Data}(h:o.data=d)(k:aO (xK d=false) a8):mc o=false:=(bA (λx=>ui o.cls&&xK x) h).trans<|(bA (ui o.cls&& ·) k).trans<|D6 _
theorem q9{o:bc}{c:ak}(h:o.cls=c)(k:aO (ui c=false) a8):mc o=false:=(bA (λx=>ui x&&xK o.data) h).trans<|bA (· &&xK o.data) k
@[reducible] noncomputable def TupAt(h:bn)(c:ak)(a:ax)(vs:bD ak)(n:B):Prop:=match c with
 | .type _=>h.get? a=some ⟨c,aA,.seq vs n,#[]⟩
 |_=>∃d,h.get? a=some ⟨c,d,.seq vs n,#[]⟩
mutual
noncomputable def V.Is(ρ:J ax)(h:bn):V->ak->Prop
 | .none,x=>x= .none
 | .bool b,x=>x= .bool b
 | .int i,x=>∃t,x= .int i t
 | .str s,x=>∃t,x= .str s t
 | .val v,x=>x=v
 | .ref k,x=>∃a,ρ[k]?=some a/\x= .ref a
 | .tup c l,x=>ui c=true/\∃a vs n,x= .ref a/\TupAt h c a vs n/\V.IsL ρ h l vs.toList
noncomputable def V.IsL(ρ:J ax)(h:bn):J V->J ak->Prop
 | [],xs=>xs=[]
 |v::l,xs=>∃x r,xs=x::r/\V.Is ρ h v x/\V.IsL ρ h l r
end
noncomputable def bF(h h':bn):Prop:=∀b o,h.get? b=some o->mc o=true->h'.get? b=some o
theorem bF.refl(h:bn):bF h h:=λH H e H=>e
theorem bF.trans{Lr:bn}(x:bF h h')(y:bF h' Lr):bF h Lr:=λb o e t=>y b o (x b o e t) t
theorem bF.push(h:bn)(o:bc):bF h (h.push o):=λb o' e H=>dD o e
theorem TupAt.mono(hs:bF h h'){c:ak}(tc:ui c=true){vs:bD ak}{n:B}(e:TupAt h c a vs n):TupAt h' c a vs n:=by
 cases c with
 |type t=>exact hs a _ e<|fb.mpr ⟨tc,rfl⟩
 |ref r=>obtain⟨d,e⟩:=e;exact⟨d,hs a _ e<|fb.mpr ⟨tc,rfl⟩⟩
 |_=>cases tc
theorem jY{o:bc}(hs:iV a h h')(ho:h.get? a=some o)(ht:mc o=false):bF h h':=λb o' e t=>by
 by_cases hb:b=a
 ·subst hb;simp only[ho] at e;(cases cj e;clear e);rw[ht] at t;exact aY t dy
 ·exact(hs.2 b hb).trans e
theorem iB(k:∀b o,h.get? b=some o->h'.get? b=some o):bF h h':=λb o e H=>k b o e
theorem pS(hp:ρ<+:aB){k:B}(e:ρ[k]?=some a):aB[k]?=some a:=by
 obtain⟨t,rfl⟩:=hp;rw[cA (cJ.mp e).1];exact e
mutual
theorem V.Is.mono{ρ aB:J ax}{h h':bn}(hp:ρ<+:aB)(hs:bF h h'):∀{v:V} {x:ak},v.Is ρ h x->v.Is aB h' x
 | .none,_,e=>e
 | .bool _,_,e=>e
 | .int _,_,e=>e
 | .str _,_,e=>e
 | .val _,_,e=>e
 | .ref _,_,z0=>aH z0 λa e1 e2=>⟨a,pS hp e1,e2⟩
 | .tup c l,_,z0=>oJ z0 λtc a vs n e1 e2 e3=>⟨tc,a,vs,n,e1,TupAt.mono hs tc e2,V.IsL.mono hp hs e3⟩
theorem V.IsL.mono{ρ aB:J ax}{h h':bn}(hp:ρ<+:aB)(hs:bF h h'):∀{l:J V} {xs:J ak},V.IsL ρ h l xs->V.IsL aB h' l xs
 | [],_,e=>e
 |v::l,_,z0=>dh z0 λx r e e1 e2=>⟨x,r,e,V.Is.mono hp hs e1,V.IsL.mono hp hs e2⟩
end
theorem dK{ρ:J ax}{h:bn}:∀{l:J V} {xs:J ak},V.IsL ρ h l xs->U xs=U l
 | [],_,e=>by rw[show _=[] from e];rfl
 |v::l,_,z0=>dh z0 λx r e H e2=>by simp only[e,cK,cK,dK e2]
theorem V.IsL.get{ρ:J ax}{h:bn}:∀{l:J V} {xs:J ak},V.IsL ρ h l xs->∀{i:B} {v:V},l[i]?=some v->∃x,xs[i]?=some x/\v.Is ρ h x
 | [],_,_,i,v,e=>by exact nomatch e
 |aiy::l,_,z0,0,v,q=>dh z0 λx r e e1 e2=>by cases q;subst e;exact⟨x,rfl,e1⟩
 |aiy::l,_,z0,i+1,v,q=>dh z0 λx r e e1 e2=>by
  refine aH (V.IsL.get e2 (i:=i) (v:=v)<|by simpa using q) λy hy h2=>?_
  subst e;exact⟨y,by simpa using hy,h2⟩
theorem V.IsL.append{ρ:J ax}{h:bn}:∀{l m:J V} {xs ys:J ak},V.IsL ρ h l xs->V.IsL ρ h m ys->V.IsL ρ h (l++m) (xs++ys)
 | [],_,_,_,e,q=>by rw[show _=[] from e];exact q
 |v::l,_,_,_,z0,q=>dh z0 λx r e e1 e2=>by subst e;exact⟨x,r++_,rfl,e1,V.IsL.append e2 q⟩
theorem V.IsL.drop{ρ:J ax}{h:bn}:∀{l:J V} {xs:J ak} (n:B),V.IsL ρ h l xs->V.IsL ρ h (l.drop n) (xs.drop n)
 |_,_,0=>λe=>e
 | [],_,n+1=>λe=>by simp only[show _=[] from e];exact rfl
 |v::l,_,n+1=>λz0=>dh z0 λx r e e1 e2=>by subst e;exact V.IsL.drop n e2
theorem V.IsL.take{ρ:J ax}{h:bn}:∀{l:J V} {xs:J ak} (n:B),V.IsL ρ h l xs->V.IsL ρ h (l.take n) (xs.take n)
 |_,_,0=>λe=>by rfl
 | [],_,n+1=>λe=>by rw[show _=[] from e];exact rfl
 |v::l,_,n+1=>λz0=>dh z0 λx r e e1 e2=>by subst e;exact⟨x,r.take n,rfl,e1,V.IsL.take n e2⟩
theorem V.IsL.set{ρ:J ax}{h:bn}:∀{l:J V} {xs:J ak} (i:B) {v:V} {x:ak},V.IsL ρ h l xs->v.Is ρ h x->V.IsL ρ h (l.set i v) (xs.set i x)
 | [],_,i,_,_,e,_=>by rw[show _=[] from e];exact rfl
 |aiy::l,_,0,v,x,z0,q=>dh z0 λy r e e1 e2=>by subst e;exact⟨x,r,rfl,q,e2⟩
 |aiy::l,_,i+1,v,x,z0,q=>dh z0 λy r e e1 e2=>by subst e;exact⟨y,r.set i x,rfl,e1,V.IsL.set i e2 q⟩
inductive O where
 |list (l:J V)
 |attrs (l:J (ao×V))
 |inst (c:ax) (d:B)
 |cell (v:V)
 |fields (c:dm) (l:J V)
 |fc (l:J (ao×V))
 |intD (l:J (az×V))
 |fY
noncomputable def O.Is(w:bx)(ρ:J ax)(h:bn):O->ax->Prop
 | .list l,a=>∃vs n,h.get? a=some ⟨.type "list",aA,.seq vs n,#[]⟩/\V.IsL ρ h l vs.toList
 | .attrs l,a=>(∃ob,h.get? a=some ob/\ob.cls= .type "dict"/\ob.dict=aA)/\∃m,h.Ns1 a m/\∀x,(∀v,l.lookup x=some v->∃y,m x=some y/\v.Is ρ h y)/\(l.lookup x=aA->m x=aA)
 | .inst c d,a=>∃b,ρ[d]?=some b/\h.get? a=some ⟨.ref c,some b,.plain,#[]⟩
 | .cell v,a=>∃x,h.get? a=some ⟨.type "cell",aA,.cell<|some x,#[]⟩/\v.Is ρ h x
 | .fields c l,a=>c≠"tuple"/\∃vs,h.get? a=some ⟨.type c,aA,.fields vs,#[]⟩/\V.IsL ρ h l vs.toList
 | .fc l,a=>∃bI,h.DictOf (strKind default w) a bI/\bI.map (·.1)=l.map (·.1)/\V.IsL ρ h (l.map (·.2)) (bI.map (·.2))
 | .intD l,a=>∃bI,h.DictOf (pM default w) a bI/\bI.map (·.1)=l.map (·.1)/\V.IsL ρ h (l.map (·.2)) (bI.map (·.2))
 | .fY,a=>∃led,h.get? a=some ⟨.type "set",aA,.set #[] 0 (.fresh 0 0 led),#[]⟩
theorem O.Is.mono{w:bx}{ρ aB:J ax}{h h':bn}{a:ax}(hp:ρ<+:aB)(hs:bF h h')(ha:h'.get? a=h.get? a):∀{o:O},o.Is w ρ h a->o.Is w aB h' a
 | .list _=>λz0=>dv z0 λvs n e q=>⟨vs,n,ha.trans e,q.mono hp hs⟩
 | .attrs _=>λz0=>nR z0 λy0 m y2 k=>aH y0 λob e r1=>eR y2 λo EQ ep e2 r=>⟨⟨ob,ha.trans e,r1⟩,m,⟨o,EQ,ep,ha.trans e2,r⟩,λx=>⟨λv hv=>by
   exact aH ((k x).1 v hv) λy hy q=>⟨y,hy,q.mono hp hs⟩,(k x).2⟩⟩
 | .inst _ _=>λz0=>aH z0 λb e q=>⟨b,pS hp e,ha.trans q⟩
 | .cell _=>λz0=>aH z0 λx e q=>⟨x,ha.trans e,q.mono hp hs⟩
 | .fields _ _=>λz0=>nR z0 λc vs e q=>⟨c,vs,ha.trans e,q.mono hp hs⟩
 | .fc _=>λz0=>cP z0 λbI y1 d k=>eR y1 λo es ep e r=>⟨bI,⟨o,es,ep,ha.trans e,r⟩,d,k.mono hp hs⟩
 | .intD _=>λz0=>cP z0 λbI y1 d k=>eR y1 λo es ep e r=>⟨bI,⟨o,es,ep,ha.trans e,r⟩,d,k.mono hp hs⟩
 | .fY=>λz0=>xE z0 λt e=>⟨t,ha.trans e⟩
theorem O.Is.there{w:bx}:∀{o:O},o.Is w ρ h a->∃ob,h.get? a=some ob/\mc ob=false
 | .list _=>λz0=>dv z0 λvs n e q=>⟨_,e,by rfl⟩
 | .attrs _=>λz0=>aH z0.1 λob e c=>⟨_,e,q9 c.1⟩
 | .inst _ _=>λz0=>aH z0 λb e q=>⟨_,q,by rfl⟩
 | .cell _=>λz0=>aH z0 λx e q=>⟨_,e,by rfl⟩
 | .fields c _=>λz0=>nR z0 λhc vs e q=>⟨_,e,D6 _⟩
 | .fc _=>λz0=>cP z0 λbI y H H=>eR y λo es ep e hc=>⟨_,e,q9 hc.1.1⟩
 | .intD _=>λz0=>cP z0 λbI y H H=>eR y λo es ep e hc=>⟨_,e,q9 hc.1.1⟩
 | .fY=>λz0=>xE z0 λt e=>⟨_,e,by rfl⟩
theorem cD{v:V}{l:J V}{xs:J ak}{aiz:Prop}(i:V.IsL ρ h (v::l) xs)(k:∀x r,xs=x::r->V.Is ρ h v x->V.IsL ρ h l r->aiz):aiz:=dv i λx r e i=>k x r e i.1 i.2
end
end Mine.Internal
namespace Mine.Internal
section
variable{p:LP}{ρ:J B}
inductive LT
 |V (i:B)|N (k:B)|A (s t:LT)|S (s t:LT)|M (s t:LT)|X (s t:LT)|Y (s t:LT)
inductive LF
 |L (s t:LT)|K (s t:LT)|E (s t:LT)|N (aiA:LF)|C (aiA g:LF)|O (aiA g:LF)|I (aiA g:LF)|F
noncomputable def LT.at:J B->B->B
 | [],_=>0
 |x::_,0=>x
 |_::r,i+1=>LT.at r i
noncomputable def LT.d(ρ:J B):LT->B
 | .V i=>LT.at ρ i
 | .N k=>k
 | .A s t=>s.d ρ+t.d ρ
 | .S s t=>s.d ρ-t.d ρ
 | .M s t=>s.d ρ*t.d ρ
 | .X s t=>max (s.d ρ)<|t.d ρ
 | .Y s t=>min (s.d ρ)<|t.d ρ
noncomputable def LF.d(ρ:J B):LF->Prop
 | .L s t=>s.d ρ<=t.d ρ
 | .K s t=>s.d ρ<t.d ρ
 | .E s t=>s.d ρ=t.d ρ
 | .N aiA=>¬aiA.d ρ
 | .C aiA g=>aiA.d ρ/\g.d ρ
 | .O aiA g=>aiA.d ρ\/g.d ρ
 | .I aiA g=>aiA.d ρ->g.d ρ
 | .F=>c7
noncomputable abbrev LP:=az×J az
noncomputable def LP.dot:J az->J B->az
 |c::p,x::ρ=>c*x+LP.dot p ρ
 |_,_=>0
noncomputable def LP.ev(p:LP)(ρ:J B):az:=p.1+LP.dot p.2 ρ
noncomputable def LP.xL:J az->J az->J az
 | [],q=>q
 |p,[]=>p
 |c::p,d::q=>(c+d)::LP.xL p q
noncomputable def LP.ag(a:az)(p:LP)(b:az)(q:LP)(k:az):LP:=(a*p.1+b*q.1+k,LP.xL (p.2.map (a* ·))<|q.2.map (b* ·))
noncomputable def LP.unit:B->J az
 |0=>[1]
 |i+1=>0::LP.unit i
theorem LP.ER:∀(i:B) (ρ:J B),LP.dot (LP.unit i) ρ=LT.at ρ i
 |0,[]=>rfl
 |0,x::ρ=>by show 1*(x:az)+LP.dot [] ρ=x;rw[Eu];cases ρ<;>exact pQ _
 |i+1,[]=>rfl
 |i+1,x::ρ=>by show 0*(x:az)+LP.dot (LP.unit i) ρ=_;rw[xC,vQ,LP.ER i ρ];rfl
theorem LP.uj:∀ρ:J B,LP.dot [] ρ=0| []=>rfl|_::_=>rfl
theorem LP.Lu:∀(p q:J az) (ρ:J B),LP.dot (LP.xL p q) ρ=LP.dot p ρ+LP.dot q ρ
 | [],q,ρ=>by rw[LP.uj,vQ];rfl
 |c::p,[],ρ=>by rw[LP.uj,pQ];rfl
 |c::p,d::q,[]=>rfl
 |c::p,d::q,x::ρ=>by
  show(c+d)*x+LP.dot (LP.xL p q) ρ=(c*x+LP.dot p ρ)+(d*x+LP.dot q ρ);rw[LP.Lu p q ρ,az.add_mul];omega
theorem LP.ET(a:az):∀(p:J az) (ρ:J B),LP.dot (p.map (a* ·)) ρ=a*LP.dot p ρ
 | [],ρ=>by rw[pI,LP.uj,az.mul_zero]
 |c::p,[]=>(az.mul_zero a).symm
 |c::p,x::ρ=>by
  show a*c*x+LP.dot (p.map (a* ·)) ρ=a*(c*x+LP.dot p ρ);rw[LP.ET a p ρ,Ev,az.mul_assoc]
theorem LP.vT{a b k:az}{q:LP}:LP.ev (LP.ag a p b q k) ρ=a*p.ev ρ+b*q.ev ρ+k:=by
 show _+LP.dot (LP.xL _ _) ρ=_;rw[LP.Lu,LP.ET,LP.ET];show a*p.1+b*q.1+k+(a*_+b*_)=a*(p.1+_)+b*(q.1+_)+k;rw[Ev,Ev];omega
noncomputable def LP.All(cs:J LP)(ρ:J B):Prop:=∀p∈cs,0<=p.ev ρ
theorem LP.All.cons{cs:J LP}(h:LP.All cs ρ)(hp:0<=p.ev ρ):LP.All (p::cs) ρ:=λq hq=>by
 rcases cu.mp hq with rfl|hq
 ·exact hp
 ·exact h q hq
noncomputable def LP.hd(p:LP):az:=p.2.headD 0
noncomputable def LP.tl(p:LP):LP:=(p.1,p.2.tail)
noncomputable def LP.pairs(ps ns:J LP):J LP:=ps.flatMap λp=>ns.map λq=>LP.tl<|LP.ag (-LP.hd q) p (LP.hd p) q 0
noncomputable def LP.fm:B->J LP->bb
 |0,cs=>cs.any λp=>decide (p.1<0)&&p.2.all (· ==0)
 |n+1,cs=>LP.fm n<|(cs.filter λp=>p.hd==0).map LP.tl++LP.pairs (cs.filter λp=>decide (0<p.hd)) (cs.filter λp=>decide (p.hd<0))
theorem LP.Lv(h:p.hd=0):p.tl.ev ρ.tail=p.ev ρ:=by
 obtain⟨k,l⟩:=p;cases l with
 |nil=>show k+LP.dot [] _=k+LP.dot [] _;rw[LP.uj,LP.uj]
 |cons c l=>
  obtain rfl:c=0:=h;cases ρ with
  |nil=>show k+LP.dot l []=k+0;cases l<;>rfl
  |cons x ρ=>show k+LP.dot l ρ=k+(0*x+LP.dot l ρ);rw[xC,vQ]
theorem LP.Tm{q:LP}(hp:p.hd≠0)(hq:q.hd≠0):LP.hd (LP.ag (-q.hd) p p.hd q 0)=0:=by
 obtain⟨k,l⟩:=p;obtain⟨k',l'⟩:=q;cases l with
 |nil=>exact aY rfl hp
 |cons c l=>
  cases l' with
  |nil=>exact aY rfl hq
  |cons d l'=>show-d*c+c*d=0;rw[az.neg_mul,az.mul_comm];omega
theorem LP.Lw:∀(n:B) (cs:J LP) (ρ:J B),LP.fm n cs=true->LP.All cs ρ->c7
 |0,cs,ρ,h,hA=>by
  obtain⟨p,hp,hq⟩:=DE.mp h;obtain⟨G,h2⟩:=(gP _ _).mp hq;have z:∀(l:J az) (ρ:J B),l.all (· ==0)=true->LP.dot l ρ=0:=by
   intro l
   induction l with
   |nil=>intro ρ _;exact LP.uj ρ
   |cons c l ih=>
    intro ρ h;obtain⟨q1,q2⟩:=(gP _ _).mp h;obtain rfl:c=0:=by simpa using q1
    cases ρ with
    |nil=>rfl
    |cons x ρ=>show 0*_+LP.dot l ρ=0;rw[ih ρ q2,xC];rfl
  have h3:=hA p hp;unfold LP.ev at h3;rw[z p.2 ρ h2,pQ] at h3;exact aY (dq G)<|xD.mpr h3
 |n+1,cs,ρ,h,hA=>by
  refine LP.Lw n _ ρ.tail h λp hp=>?_
  rcases bK.mp hp with hp|hp
  ·obtain⟨q,hq,rfl⟩:=fa.mp hp;obtain⟨hq,h0⟩:=rV.mp hq;rw[LP.Lv<|by simpa using h0];exact hA q hq
  ·obtain⟨q,hq,hp⟩:=vB.mp hp;obtain⟨r,hr,rfl⟩:=fa.mp hp;obtain⟨hq,G⟩:=rV.mp hq;obtain⟨hr,h2⟩:=rV.mp hr;have G:=dq G;have h2:=dq h2;rw[LP.Lv<|LP.Tm (az.ne_of_gt G)<|az.ne_of_lt h2,LP.vT,pQ];exact az.add_nonneg (KW (by omega)<|hA q hq)<|KW (Es G)<|hA r hr
noncomputable def LT.go:LT->J LP->(J LP->LP->bb)->bb
 | .V i,cs,k=>k cs (0,LP.unit i)
 | .N m,cs,k=>k cs (m,[])
 | .A s t,cs,k=>s.go cs λcs p=>t.go cs λcs q=>k cs<|LP.ag 1 p 1 q 0
 | .S s t,cs,k=>s.go cs λcs p=>t.go cs λcs q=>k (LP.ag 1 p (-1) q 0::cs) (LP.ag 1 p (-1) q 0)&&k (LP.ag 1 q (-1) p 0::cs) (0,[])
 | .M s t,cs,k=>s.go cs λcs p=>t.go cs λcs q=>if p.2.isEmpty then k cs (LP.ag p.1 q 0 q 0) else q.2.isEmpty&&k cs (LP.ag q.1 p 0 p 0)
 | .X s t,cs,k=>s.go cs λcs p=>t.go cs λcs q=>k (LP.ag 1 p (-1) q 0::cs) p&&k (LP.ag 1 q (-1) p 0::cs) q
 | .Y s t,cs,k=>s.go cs λcs p=>t.go cs λcs q=>k (LP.ag 1 p (-1) q 0::cs) q&&k (LP.ag 1 q (-1) p 0::cs) p
theorem LT.sm{aiz:Prop}(t:LT):∀(cs:J LP) (k:J LP->LP->bb),t.go cs k=true->LP.All cs ρ->(∀cs p,k cs p=true->LP.All cs ρ->p.ev ρ=t.d ρ->aiz)->aiz:=by
 have z:∀{k:az},LP.ev (k,[]) ρ=k:=λ{k}=>by show k+LP.dot [] ρ=k;rw[LP.uj,pQ]
 have z':∀{p:LP},p.2.isEmpty=true->p.ev ρ=p.1:=λ{p} h=>by
  obtain⟨k,l⟩:=p;cases l with
  |nil=>exact z
  |cons _ _=>exact nomatch h
 have sub:∀{p q:LP} {a b:B},p.ev ρ=a->q.ev ρ=b->LP.ev (LP.ag 1 p (-1) q 0) ρ=a-b:=λe1 e2=>by rw[LP.vT,e1,e2];omega
 have pos:∀{p q:LP} {a b:B} {cs:J LP},p.ev ρ=a->q.ev ρ=b->b<=a->LP.All cs ρ->LP.All (LP.ag 1 p (-1) q 0::cs) ρ:=λe1 e2 h hA=>hA.cons (by rw[sub e1 e2];exact az.sub_nonneg_of_le<|az.ofNat_le.mpr h)
 induction t with
 |V i=>exact λcs k h hA g=>g _ _ h hA<|(vQ _).trans<|LP.ER i ρ
 |N m=>exact λcs k h hA g=>g _ _ h hA z
 |A s t is it=>exact λcs k h hA g=>is _ _ h hA λH p h hA e1=>it _ _ h hA λH q h hA e2=>g _ _ h hA (by rw[LP.vT,e1,e2,Eu,Eu,pQ];rfl)
 |S s t is it=>exact λcs k h hA g=>is _ _ h hA λH p h hA e1=>it _ _ h hA λH q h hA e2=>
   (DT (t.d ρ)<|s.d ρ).elim (λc=>g _ _ ((gP _ _).mp h).1 (pos e1 e2 c hA)<|(sub e1 e2).trans (az.ofNat_sub c).symm) (λc=>g _ _ ((gP _ _).mp h).2 (pos e2 e1 c hA)<|z.trans (bA xF<|B.sub_eq_zero_of_le c).symm)
 |M s t is it=>
  exact λcs k h hA g=>is _ _ h hA λH p h hA e1=>it _ _ h hA λH q h hA e2=>by
   by_cases c:p.2.isEmpty=true
   ·rw[aU c] at h;exact g _ _ h hA (by rw[LP.vT,←z' c,e1,e2,xC,pQ,pQ];rfl)
   ·rw[aE c] at h;have h:=(gP _ _).mp h;exact g _ _ h.2 hA (by rw[LP.vT,←z' h.1,e1,e2,xC,pQ,pQ,az.mul_comm];rfl)
 |X s t is it=>exact λcs k h hA g=>is _ _ h hA λH p h hA e1=>it _ _ h hA λH q h hA e2=>
   (DT (t.d ρ)<|s.d ρ).elim (λc=>g _ _ ((gP _ _).mp h).1 (pos e1 e2 c hA)<|e1.trans (bA xF<|Kk c).symm) (λc=>g _ _ ((gP _ _).mp h).2 (pos e2 e1 c hA)<|e2.trans (bA xF<|B.max_eq_right c).symm)
 |Y s t is it=>exact λcs k h hA g=>is _ _ h hA λH p h hA e1=>it _ _ h hA λH q h hA e2=>
   (DT (t.d ρ)<|s.d ρ).elim (λc=>g _ _ ((gP _ _).mp h).1 (pos e1 e2 c hA)<|e2.trans (bA xF<|DR c).symm) (λc=>g _ _ ((gP _ _).mp h).2 (pos e2 e1 c hA)<|e1.trans (bA xF<|tO c).symm)
noncomputable def LF.go:LF->bb->J LP->(J LP->bb)->bb
 | .L s t,b,cs,k=>s.go cs λcs p=>t.go cs λcs q=>cond b (k<|LP.ag 1 q (-1) p 0::cs)<|k<|LP.ag 1 p (-1) q (-1)::cs
 | .K s t,b,cs,k=>s.go cs λcs p=>t.go cs λcs q=>cond b (k<|LP.ag 1 q (-1) p (-1)::cs)<|k<|LP.ag 1 p (-1) q 0::cs
 | .E s t,b,cs,k=>s.go cs λcs p=>t.go cs λcs q=>cond b (k<|LP.ag 1 p (-1) q 0::LP.ag 1 q (-1) p 0::cs)<|k (LP.ag 1 p (-1) q (-1)::cs)&&k (LP.ag 1 q (-1) p (-1)::cs)
 | .N aiA,b,cs,k=>aiA.go (!b) cs k
 | .C aiA g,b,cs,k=>cond b (aiA.go true cs λcs=>g.go true cs k)<|aiA.go false cs k&&g.go false cs k
 | .O aiA g,b,cs,k=>cond b (aiA.go true cs k&&g.go true cs k)<|aiA.go false cs λcs=>g.go false cs k
 | .I aiA g,b,cs,k=>cond b (aiA.go false cs k&&g.go true cs k)<|aiA.go true cs λcs=>g.go false cs k
 | .F,b,cs,k=>cond b true<|k cs
noncomputable def LF.is(ρ:J B)(aiA:LF)(b:bb):Prop:=cond b (aiA.d ρ)<|¬aiA.d ρ
theorem LF.sm{ρ:J B}{aiz:Prop}(aiA:LF):∀(b:bb) (cs:J LP) (k:J LP->bb),aiA.go b cs k=true->LP.All cs ρ->aiA.is ρ b->(∀cs,k cs=true->LP.All cs ρ->aiz)->aiz:=by
 have pos:∀{p q:LP} {a b:B} {cs:J LP} (j:az),p.ev ρ=a->q.ev ρ=b->b-j<=a->LP.All cs ρ->LP.All (LP.ag 1 p (-1) q j::cs) ρ:=λj e1 e2 h hA=>hA.cons (by rw[LP.vT,e1,e2];omega);have le:∀{a b:B},b<=a->(b:az)-0<=a:=λh=>by omega
 have lt:∀{a b:B},b<a->(b:az)-(-1)<=a:=λh=>by omega
 have two:∀{a b:bb},(a&&b)=true->a=true/\b=true:=λh=>(gP _ _).mp h
 induction aiA with
 |L s t=>
  intro b cs k h hA hf g;refine LT.sm s _ _ h hA λH p h hA e1=>LT.sm t _ _ h hA λH q h hA e2=>?_
  cases b
  ·exact g _ h<|pos _ e1 e2 (lt<|tM hf) hA
  ·exact g _ h<|pos _ e2 e1 (le hf) hA
 |K s t=>
  intro b cs k h hA hf g;refine LT.sm s _ _ h hA λH p h hA e1=>LT.sm t _ _ h hA λH q h hA e2=>?_
  cases b
  ·exact g _ h<|pos _ e1 e2 (le<|iR hf) hA
  ·exact g _ h<|pos _ e2 e1 (lt hf) hA
 |E s t=>
  intro b cs k h hA hf g;refine LT.sm s _ _ h hA λH p h hA e1=>LT.sm t _ _ h hA λH q h hA e2=>?_
  cases b
  ·exact(B.lt_or_gt_of_ne hf).elim (λc=>g _ (two h).2<|pos _ e2 e1 (lt c) hA) λc=>g _ (two h).1<|pos _ e1 e2 (lt c) hA
  ·exact g _ h<|pos _ e1 e2 (le<|Ak<|Eq.symm hf)<|pos _ e2 e1 (le<|Ak hf) hA
 |N aiA i=>
  intro b cs k h hA hf g;cases b
  ·exact i _ _ _ h hA (xG.mp hf) g
  ·exact i _ _ _ h hA hf g
 |C aiA g' i j=>
  intro b cs k h hA hf g;cases b
  ·by_cases q:aiA.d ρ
   ·exact j _ _ _ (two h).2 hA (λr=>hf ⟨q,r⟩) g
   ·exact i _ _ _ (two h).1 hA q g
  ·exact i _ _ _ h hA hf.1 λH h hA=>j _ _ _ h hA hf.2 g
 |O aiA g' i j=>
  intro b cs k h hA hf g;cases b
  ·exact i _ _ _ h hA (λr=>hf<|.inl r) λH h hA=>j _ _ _ h hA (λr=>hf<|.inr r) g
  ·exact Or.elim hf (λq=>i _ _ _ (two h).1 hA q g) λq=>j _ _ _ (two h).2 hA q g
 |I aiA g' i j=>
  intro b cs k h hA hf g
  by_cases q:aiA.d ρ
  ·cases b
   ·exact i _ _ _ h hA q λH h hA=>j _ _ _ h hA (λr=>hf λH=>r) g
   ·exact j _ _ _ (two h).2 hA (hf q) g
  ·cases b
   ·exact(hf λr=>aY r q).elim
   ·exact i _ _ _ (two h).1 hA q g
 |F=>
  intro b cs k h hA hf g;cases b
  ·exact g _ h hA
  ·exact hf.elim
noncomputable def LT.dec{α:Type}(z:α):B->B->(LT->B->α)->α
 |0,_,_=>z
 |aiy+1,w,k=>match w % 16 with
  |0=>k (.V<|w / 16 % 16)<|w / 256
  |1=>k (.N<|w / 16 % 16)<|w / 256
  |2=>LT.dec z aiy (w / 16) λs w=>LT.dec z aiy w λt w=>k (.A s t) w
  |3=>LT.dec z aiy (w / 16) λs w=>LT.dec z aiy w λt w=>k (.S s t) w
  |4=>LT.dec z aiy (w / 16) λs w=>LT.dec z aiy w λt w=>k (.M s t) w
  |5=>LT.dec z aiy (w / 16) λs w=>LT.dec z aiy w λt w=>k (.X s t) w
  |6=>LT.dec z aiy (w / 16) λs w=>LT.dec z aiy w λt w=>k (.Y s t) w
  |_=>k (.N<|w / 16 % 4294967296)<|w / 68719476736
noncomputable def LF.dec{α:Type}(z:α):B->B->(LF->B->α)->α
 |0,_,_=>z
 |aiy+1,w,k=>match w % 16 with
  |0=>LT.dec z 40 (w / 16) λs w=>LT.dec z 40 w λt w=>k (.L s t) w
  |1=>LT.dec z 40 (w / 16) λs w=>LT.dec z 40 w λt w=>k (.K s t) w
  |2=>LT.dec z 40 (w / 16) λs w=>LT.dec z 40 w λt w=>k (.E s t) w
  |3=>LF.dec z aiy (w / 16) λaiA w=>k (.N aiA) w
  |4=>LF.dec z aiy (w / 16) λaiA w=>LF.dec z aiy w λg w=>k (.C aiA g) w
  |5=>LF.dec z aiy (w / 16) λaiA w=>LF.dec z aiy w λg w=>k (.O aiA g) w
  |6=>LF.dec z aiy (w / 16) λaiA w=>LF.dec z aiy w λg w=>k (.I aiA g) w
  |_=>k .F<|w / 16
noncomputable def LF.of(w:B):LF:=LF.dec .F 40 (w / 16) λaiA H=>aiA
noncomputable def LP.units:B->J LP
 |0=>[]
 |n+1=>(0,LP.unit n)::LP.units n
theorem LP.Lx{ρ:J B}:∀n,LP.All (LP.units n) ρ
 |0=>λp hp=>nomatch hp
 |n+1=>(LP.Lx n).cons (by show 0<=0+LP.dot (LP.unit n) ρ;rw[LP.ER,vQ];exact vP _)
noncomputable def LF.Ly(N:B):bb:=(LF.of N).go false (LP.units<|N % 16)<|LP.fm<|N % 16
noncomputable def LF.den(N:B)(ρ:J B):Prop:=cond (LF.Ly N) ((LF.of N).d ρ) gC
theorem ag(ρ:J B)(N:B){S:Prop}(e:LF.den N ρ=S:=by kernel_rfl):S:=e▸by
 unfold LF.den;cases h:LF.Ly N with
 |false=>exact trivial
 |true=>exact Ew λq=>LF.sm (ρ:=ρ) (LF.of N) false _ _ h (LP.Lx _) q λH=>LP.Lw _ _ _
variable{a b c d e aiA g h i j k l m n o p q r s t:B}
theorem xM:a+(b+1)<=c->a+1+b<=c:=ag [a,b,c] 0x201011002202011102002063
theorem Tn:a+(b+1)<=c->a+1<=c+1:=ag [a,b,c] 0x112021100202011102002063
theorem To:a+(b+1)<=c->a<=c:=ag [a,b,c] 0x200002011102002063
theorem Lz:a<b->b<=a->c7:=ag [a,b] 0x70010061000162
theorem xN:a+(b+1)=c->a+1+b=c:=ag [a,b,c] 0x201011002222011102002263
theorem LA:a+(b+1)=c->a<c:=ag [a,b,c] 0x200012011102002263
theorem EU:a<b->b<=c->a<=c:=ag [a,b,c] 0x200002010061000163
theorem Tp:a<b->b=c+1->a≠c->c<=a->c7:=ag [a,b,c] 0x700200620002361120210261000163
theorem AK:a<b->b<=c->c≠a:=ag [a,b,c] 0x20232010061000163
theorem Tq:a+200*(b+1)<=9000->a+0+3+200*b<=9000:=ag [a,b] 0x2328710000000c874310100222000002328711102000000c874002062
theorem Ts:a+10*(b+1)<=900->a+0+1+10*b<=900:=ag [a,b] 0x384710a14110100222000000384711102a14002062
theorem mO:a<b->b=c->a<c:=ag [a,b,c] 0x200012010261000163
theorem me:a<b->c=b->a<c:=ag [a,b,c] 0x200011020261000163
theorem vU:a=b->b<=a:=ag [a,b] 68736254562
theorem Tt:a=b->a<=b:=ag [a,b] 17592202822242
theorem Tu:min a b<=c->d<=a->d<=b->d<=c:=ag [a,b,c,d] 0x203001030060030062010006064
theorem Tv:a=b->c<=b->min c d<=a:=ag [a,b,c,d] 0x3020601020061000264
theorem LB:a<b->c=d->b<=d->a<c:=ag [a,b,c,d] 0x200013010063020261000164
theorem LE:a+(b+c)+0=a+c+b:=ag [a,b,c] 0x102000220120102002223
theorem Tw:a+(b+1)=c->c<=a->c7:=ag [a,b,c] 0x70020062011102002263
theorem Tx:a+(b+1)=c->a<=c:=ag [a,b,c] 0x200002011102002263
theorem Ty:a+0=b->a<b->c7:=ag [a,b] 0x71000161001002262
theorem Tz:a+0=b->a<=b:=ag [a,b] 72057662774190690
theorem EW:a<b+1->¬a<b->a=b:=ag [a,b] 0x1000210001361110200162
theorem LG:a<b->b-1+(c+1)=b+c:=ag [a,b,c] 0x201021120211103221000163
theorem LH:a+1<b+1->a<b:=ag [a,b] 0x100011110211002162
theorem TA:a<b->b<=c->b-1+0<c:=ag [a,b,c] 0x200111103212010061000163
theorem LI:a<b->a<=b-1:=ag [a,b] 76845967193669986
theorem TB:a<b\/a=b/\c<=d->b<a\/b=a/\d<=c->c=d:=ag [a,b,c,d] 0x302022030000102400101563020010002410001564
theorem TD:a<b\/a=b/\c<=d->b<a\/b=a/\d<=c->a=b:=ag [a,b,c,d] 0x100022030000102400101563020010002410001564
theorem TE:¬a=0->a=b->0<b:=ag [a,b] 0x1001110002601002362
theorem TF:a=0->a=b->b=0:=ag [a,b] 0x11021000260100262
theorem AL:a=0->a<=b:=ag [a,b] 17592187093602
theorem TG:0<a->b+a-1<c+a-1\/b+a-1=c+a-1/\d+a-1<=e+a-1->b<c\/b=c/\d<=e:=ag [a,b,c,d,e] 0x403002010242010151100402311003023011002023110010232411002023110010231560001165
theorem LJ:a<=b->b<=a->b=a:=ag [a,b] 0x1020010061000062
theorem LK:a<b->c+b-1-(b-1-a)=c+a:=ag [a,b,c] 0x2020011103311102023321000163
theorem TH:a<b->c=b->b-1-a<c:=ag [a,b,c] 0x200011103311020261000163
theorem TJ:a+b-1<c->a+b<=max d c:=ag [a,b,c,d] 0x203051000202011100023164
theorem LL:a<=b+c-1-(c-1)->a<=b:=ag [a,b,c] 0x100001120311201023300063
theorem TK:a+b-1<c+(d-c)->a+b<=max c d:=ag [a,b,c,d] 0x302051000202030320211100023164
theorem TM:0<a->b=a->a-1<b:=ag [a,b] 0x101100310010260001162
theorem LM:a<b->c+(b-1-a)=c+b-1-a:=ag [a,b,c] 0x1110202330011103320221000163
theorem TN:a<b->b-1-a<b:=ag [a,b] 0x100011103311000162
theorem LN:a<b->c<=d->c<=d+b-1-a:=ag [a,b,c,d] 0x1110302332003020061000164
theorem LO:a<b->a<=c+b-1:=ag [a,b,c] 0x111020230001000163
theorem TO:0<a->b+a<=c->b+a-1<c:=ag [a,b,c] 0x201100102312000102060001163
theorem LQ:0<a->b<=c->b<=c+a-1:=ag [a,b,c] 0x110020231002010060001163
theorem TP:0<a->b+a<=c->b+a-1<d+(c-d):=ag [a,b,c,d] 0x302033021100102312000102060001164
theorem LR:0<a->b+(a-1)=b+a-1:=ag [a,b] 0x110010231100310220001162
theorem xO:0<a->a-1<a:=ag [a] 299080316096865
theorem TQ:a<b+(c+1)->¬a=b+c->a<b+c:=ag [a,b,c] 0x2010200120102002361120210200163
theorem TR:a<b+0->b<=a->0<c->d=c->e+c-1<a\/e+c-1=a/\aiA+c-1<=g:=ag [a,b,c,d,e,aiA,g] 0x601120502300011204023240011204023152030262001160010060110200167
theorem TU:a<b+0->b<=a->c<=d:=ag [a,b,c,d] 0x302000010060110200164
theorem TX:a+b-1<c\/a+b-1=c/\d+b-1<e->a+b-1<c\/a+b-1=c/\d+b-1<=e:=ag [a,b,c,d,e] 0x401110302302011100023242011100023154011103023120111000232420111000231565
theorem TY:a<b->c=b->c<=a->d<e\/d=e/\aiA<=g:=ag [a,b,c,d,e,aiA,g] 0x605004030244030150020061020261000167
theorem LS:a<b->b=0->c7:=ag [a,b] 0x70110261000162
theorem TZ:a<=b+1/\a<=c+1->c+1-a+a-1=c:=ag [a,b,c] 0x201100001120232321120200011102000463
theorem T0:a<=b+1/\a<=c+1->b+1-a+a-1=b:=ag [a,b,c] 0x101100001110232321120200011102000463
theorem T3:a-1<=b->a-1<=c->a<=b+1/\a<=c+1:=ag [a,b,c] 0x112020001110200042011003061011003063
theorem T4:¬a=0->a-1<a:=ag [a] 4785285074264929
theorem T5:a=0->a<=b+1/\a<=c+1:=ag [a,b,c] 0x112020001110200040100263
theorem AM:a<=b->a+1<=b+1:=ag [a,b] 0x111021100201000062
theorem LU:a+1<=b+1->a<=b:=ag [a,b] 0x100001110211002062
theorem T6:a<b->a+1<b+1:=ag [a,b] 0x111021100211000162
theorem LV:¬a=0->1<a+1:=ag [a] 0x1100211101002361
theorem T7:0<a\/0<b->c+d=e+a->aiA+d=g+b->c+d=e->aiA+d=g->c7:=ag [a,b,c,d,e,aiA,g] 0x76030502264030202261060230502260040230202261001100011567
theorem vV:a+(b+c+d)=a+b+c+d:=ag [a,b,c,d] 0x302010002223020102200224
theorem T8:a+2*(b+2)<=c->a+1+1+2*(b+1)<=c:=ag [a,b,c] 0x201110221411110022202021102214002063
theorem LW:0+a<=a:=ag [a] 4609
theorem T9:a+b+(c+c)<d->d=a+b+e->c+c<e:=ag [a,b,c,d,e] 0x402020214010002230263020202100022165
theorem LX:a+a<b->c=d+e+b->c-a+(b-(b-a))=c:=ag [a,b,c,d,e] 0x200010310300203221040302220261000002165
theorem Ua:a+2*(b+2)<=c->1+2*(b+1)<=c:=ag [a,b,c] 0x201110221411202021102214002063
theorem LY:a+a<b->c+d=e->c=aiA+g+b->aiA+g+a<=e:=ag [a,b,c,d,e,aiA,g] 0x400060502201060502220264030202261000002167
theorem Ub:a+2*(b+2)<=c->a+1+1<=c:=ag [a,b,c] 0x201111002202021102214002063
theorem LZ:a+a<b->b-(b-a)=a:=ag [a,b] 0x10310321000002162
theorem Uc:a-(a-b)<=b:=ag [a,b] 17660908667650
theorem Ud:a+a<b->c=d+e+b->d+e+(b-a)=c-a:=ag [a,b,c,d,e] 0x2030010340302221040302220261000002165
theorem Ue:a+a<b->c=d+e+b->d+e+(b-a)+a=c:=ag [a,b,c,d,e] 0x200000103403022221040302220261000002165
theorem Uf:a+a<b->b-a+a<=b:=ag [a,b] 0x100000103201000002162
theorem L0:a+a<b->c=d+e+b->max (d+e) (c-a)=c-a:=ag [a,b,c,d,e] 0x2030020340302521040302220261000002165
theorem L1:a+a<b->c=d+e+b->min c (d+e+a)=d+e+a:=ag [a,b,c,d,e] 0x4030220040302220621040302220261000002165
theorem L2:a+a<b->a<=b:=ag [a,b] 72057662757413218
theorem Ug:a+a<b->0+a<=b:=ag [a,b] 0x100001201000002162
theorem Uh:a+a<b->c=d+e+b->d+e+(a+a)<c:=ag [a,b,c,d,e] 0x200000240302211040302220261000002165
theorem L3:a+(b+c+d)=e->a+b+c+d=e:=ag [a,b,c,d,e] 0x403020100022224030201022002265
theorem L4:a+(b+c+d)=e->aiA<=c->a+b+aiA<=e:=ag [a,b,c,d,e,aiA] 0x405010002202050064030201022002266
theorem Ui:a+b+(c+c)<a+b+d->d=min c e->c7:=ag [a,b,c,d,e] 0x74020630263010002220202100022165
theorem Uj:a<=b->0+a<=b:=ag [a,b] 72057671364116578
theorem Uk:min a b=min (min a b) b:=ag [a,b] 72339096411833890
theorem Ul:a=min b c->a<=c:=ag [a,b,c] 0x200002010600263
theorem L5:min (a+b+c) (a+b+d)=a+b+min d c:=ag [a,b,c,d] 0x203061000223010002220100022624
theorem L6:a+(b+c+d)=e->a+b<=e:=ag [a,b,c,d,e] 0x401000204030201022002265
theorem Um:a+b<=c->b<=c-a:=ag [a,b,c] 0x2031002010002063
theorem Un:a+b<=c->a<=c:=ag [a,b,c] 0x200002010002063
theorem L7:¬a<a+b->b=0:=ag [a,b] 76597477582574434
theorem Uo:0<a\/0<b->¬c<c+a->d<d+b:=ag [a,b,c,d] 0x1030230100202201361001100011564
theorem L8:0<a\/0<b->c=a+b->0<c:=ag [a,b,c] 0x200111000220261001100011563
theorem Up:0<a\/0<b->c=a+b->c-1<c:=ag [a,b,c] 0x201120311000220261001100011563
theorem Uq:0<a\/0<b->c=a+b->c=0->c7:=ag [a,b,c] 0x70120261000220261001100011563
theorem EY:a<b->c=d+b->d+a<c:=ag [a,b,c,d] 0x200030211030220261000164
theorem Ur:a=b-c->b<=a+d+c:=ag [a,b,c,d] 0x203000221002010300264
theorem Us:a<b->b=c-d->a+d<c:=ag [a,b,c,d] 0x203000213020310261000164
theorem L9:a<b->c=b+d->a<c:=ag [a,b,c,d] 0x200013010220261000164
theorem Ut:min (a-b) a=a-b:=ag [a,b] 72060892841260578
theorem Uu:a+b<c->d<=a+b->d<0+c:=ag [a,b,c,d] 0x200123011000230062010002164
theorem Uv:a<b->a-c<=b:=ag [a,b,c] 72620556893028707
theorem Uw:a<b->c=min d e->e=c+b->d<=c+a:=ag [a,b,c,d,e] 0x2023001020240264030620261000165
theorem Ux:min a b<=a:=ag [a,b] 16778754
theorem Ma:a+b-c<=d->c<=b->a<=d:=ag [a,b,c,d] 0x300001020063020100023064
theorem Mb:a<b->a<=b+c+d:=ag [a,b,c,d] 0x302010220001000164
theorem Mc:a<b->c<=d+1->c+a-b<=d:=ag [a,b,c,d] 0x301000202301130220061000164
theorem Uy:¬a+a<b->¬c<a->b<=c+a:=ag [a,b,c] 0x202100002013610000021363
theorem Me:a+(b+(c+b))=a+b+c+b:=ag [a,b,c] 0x102010002221020210200223
theorem Mf:a+(b+(c+b))-b=a+b+c:=ag [a,b,c] 0x201000221010202102002323
theorem Mg:a<b->c=d+(e+d)->b=d->d+e+a<c:=ag [a,b,c,d,e] 0x200040302213010263040230220261000165
theorem Uz:a=b+(c+b)->a<=b+c+d+b:=ag [a,b,c,d] 0x103020102220001020210200264
theorem Mh:a+b+c+d=a+(b+c+d):=ag [a,b,c,d] 0x302010220023020100022224
theorem UA:a+a<b->b=a+(c+a)->c=0->c7:=ag [a,b,c] 0x70120260020200210261000002163
theorem UB:a<b->c=d+(b+d)->d+a+d<c:=ag [a,b,c,d] 0x203000302213010230220261000164
theorem UC:a<b->c=d+(b+d)->d+a<c:=ag [a,b,c,d] 0x200030213010230220261000164
theorem UD:a<b->c=d+(e+d)->b=d->a<c:=ag [a,b,c,d,e] 0x200013010263040230220261000165
theorem UE:a+a<b->b=a+(b-(a+a)+a):=ag [a,b] 0x210320021021000002162
theorem UF:min (a-(b+b)) (a-b)=a-(b+b):=ag [a,b] 0x101020031000310102003622
theorem UG:a+a<b->min a b=a:=ag [a,b] 0x1000621000002162
theorem UH:a+a<b->a+(b-(a+a))=b-a:=ag [a,b] 0x1030000210300221000002162
theorem UI:a+b<c->d<=e+a+b->d<e+c:=ag [a,b,c,d,e] 0x204023011000402230062010002165
theorem UJ:a<=b+c->d+a<=d+b+c:=ag [a,b,c,d] 0x201030220030202010200064
theorem UK:a<b->c+a-d<=c+b:=ag [a,b,c,d] 0x102023000202301000164
theorem UL:a+b<a+c->b<c:=ag [a,b,c] 0x201012000210002163
theorem UM:a<=b+c->a-(b-c)<b+c+1-(b-c):=ag [a,b,c] 0x201031120102232010300312010200063
theorem UN:a<b+c+1-(b-c)->b-c+a<=b+c:=ag [a,b,c] 0x201020020103202010311201022300163
theorem UO:a<=400->1+2*a<=1000:=ag [a] 0x3e8700214112000000190700061
theorem Mi:a-b+(a-(a-b))=a:=ag [a,b] 0x1000300310003222
theorem UP:a=b-(b-c)->a<=b-(b-c):=ag [a,b,c] 0x201031030002010310300263
theorem UQ:a=b-(b-c)->b-(b-c)<=a:=ag [a,b,c] 0x2010310302010310300263
theorem UR:a-b+(b+b)<a->c7:=ag [a,b] 0x70010102100032162
theorem US:0+2*a<=1+2*a:=ag [a] 0x2141120021401201
theorem uk:a+b=c->a<=c:=ag [a,b,c] 0x200002010002263
theorem UT:a+b<=c/\d+b<=e->a+b<=c+aiA/\d+b<=e+aiA:=ag [a,b,c,d,e,aiA] 0x504021030205020210002044010302020100020466
theorem UU:a+b<=c/\d+b<=e->c<=aiA->e<=g->a+b<=aiA+h/\d+b<=g+h:=ag [a,b,c,d,e,aiA,g,h] 0x706021030207050210002046040065020064010302020100020468
theorem UV:a=b+c+1->a<=d+1->c<=d:=ag [a,b,c,d] 0x302001130200061120102200264
theorem UW:a+b<=c->d+b<=e->c<=aiA/\e<=g->a<=aiA/\d<=g:=ag [a,b,c,d,e,aiA,g] 0x603005000046040050200464010302062010002067
theorem UX:a+b<=c/\d+b<=e->a<=c/\d<=e:=ag [a,b,c,d,e] 0x403002000044010302020100020465
theorem UY:a=b+c+1->a<=d+1->b<=d:=ag [a,b,c,d] 0x301001130200061120102200264
theorem UZ:¬a=b->a<=b->a<b:=ag [a,b] 0x1000110000610002362
theorem U0:a=b->c<=b->c<=a:=ag [a,b,c] 0x2001020061000263
theorem Mj:a+b<=c+d->d<=e->c<=a->b<=e:=ag [a,b,c,d,e] 0x401000020064030063020210002065
theorem Mk:a+b<=c->a+b<=max d c:=ag [a,b,c,d] 0x203051000202010002064
theorem U1:a<b->¬b<=a:=ag [a,b] 1100333711714
theorem U2:a+b<=max c d->b>0->c<=a->e<=a->aiA<=g/\d<=e->c7:=ag [a,b,c,d,e,aiA,g] 0x74030060500460040060020061001163020510002067
theorem U3:a+b<=c+d->e+d<=aiA/\c+d<=g->b>0->g<=a->c7:=ag [a,b,c,d,e,aiA,g] 0x70060061001166030202050304020463020210002067
theorem U4:a+b<=max c d->b>0->c<=a->e<=a->d<=e/\aiA<=g->c7:=ag [a,b,c,d,e,aiA,g] 0x76050040300460040060020061001163020510002067
theorem U5:a+b<=c+d->c+d<=e/\aiA+d<=g->b>0->e<=a->c7:=ag [a,b,c,d,e,aiA,g] 0x70040061001166030502040302020463020210002067
theorem U6:a<=0->a=0:=ag [a] 1100049547361
theorem Ml:a+(b-1)<c->a+b<=c:=ag [a,b,c] 0x201000202011103002163
theorem U7:a+b+c<d->a+b+c<d+e:=ag [a,b,c,d,e] 0x403022010002213020100022165
theorem Mm:a<=a+b+c:=ag [a,b,c] 35253093793795
theorem Mn:a-(b+c)=d+e+aiA->¬a<b+c->a=b+c+d+e+aiA:=ag [a,b,c,d,e,aiA] 0x5040302010222200220102001365040302220102003266
theorem Mo:a-(b+c)=d+e->¬a<b+c->a=b+c+d+e:=ag [a,b,c,d,e] 0x4030201022200220102001364030220102003265
theorem Mp:a<b+c+d->¬a<b+c->a-(b+c)<d:=ag [a,b,c,d] 0x3020102003120102001363020102200164
theorem Mq:¬a<b->a=0+b+(a-b):=ag [a,b] 0x1000310012200210001362
theorem Mr:a<b+c->¬a<b->a-b<c:=ag [a,b,c] 0x2010003110001362010200163
theorem U8:¬a+b<=c->¬c-a+1<b->b=d->d-1=0+(c-a):=ag [a,b,c,d] 0x203012113032301026101100203213620100020364
theorem U9:a<b->c=d+e+a->c+(b-a+1)=d+e+b+1:=ag [a,b,c,d,e] 0x111040302221100103220220040302220261000165
theorem Va:0+a<=b->c-d+1<a->0+(c-d+1)<b:=ag [a,b,c,d] 0x101130203201210011302032161000012064
theorem EZ:a+b+c+0<a+(b+(c+0))->c7:=ag [a,b,c] 0x70120210200201201000222163
theorem Ms:a<b->c=d+e+a->c+(b-a)=d+e+b+0:=ag [a,b,c,d,e] 0x11040302220010320220040302220261000165
theorem sq:¬a+b<=c->a<c->c-a<b:=ag [a,b,c] 0x1000203120001620100020363
theorem Mt:0+a<=b->¬c+a<=d->c<d->0+(d-c)<b:=ag [a,b,c,d] 0x1020303012130201630002020361000012064
theorem Mu:a+b<=c->d=e+aiA+a->d+b<=e+aiA+c:=ag [a,b,c,d,e,aiA] 0x205040221030200050402230262010002066
theorem Mw:a=b+c+d->b+c<=a:=ag [a,b,c,d] 0x2010203020102200264
theorem Mx:a+b+c=a+b->c=0:=ag [a,b,c] 0x12021000220100022263
theorem AN:a+b<=c->d+e+a+b<=d+e+c:=ag [a,b,c,d,e] 0x204030221000403022202010002065
theorem Vb:a<b->a+(b-a-1)=b-1:=ag [a,b] 0x111031100103300221000162
theorem My:a+(b-c)=d+1->c<b->a+(b-c-1)=d:=ag [a,b,c,d] 0x301120103300221020161130220103002264
theorem Mz:a<b->a+(b-a-1)<b:=ag [a,b] 0x101100103300211000162
theorem MA:¬a+b<=c->a<c->c-a-1<b:=ag [a,b,c] 0x1011002033120001620100020363
theorem AO:a<b->c+d+a+(b-a)=c+d+b+0:=ag [a,b,c,d] 0x11030202220010300302022221000164
theorem Vc:¬a+b<=c->c=a+(b+d)+e+aiA->c7:=ag [a,b,c,d,e,aiA] 0x750403010200222202620100020366
theorem Vd:¬a+b<=c->c=a+b+d->c7:=ag [a,b,c,d] 0x730100022202620100020364
theorem Ve:¬a+b<=c->c<a+(b+(d+e)):=ag [a,b,c,d,e] 0x4030210200220120100020365
theorem Vf:a=1->a=2->c7:=ag [a] 0x72100261100261
theorem Vg:a<b->a=b->c7:=ag [a,b] 0x71000261000162
theorem Vh:a<min b c->a<b:=ag [a,b,c] 72058831263236451
theorem Vi:a<min b c->a<c:=ag [a,b,c] 0x200012010600163
theorem Vj:a<b->c<=a->d<=b/\b<c->c7:=ag [a,b,c,d] 0x72010110300460020061000164
theorem Vk:¬a=0->b<b+a:=ag [a,b] 4539887822840674
theorem E0:a<b-c->c+a<b:=ag [a,b,c] 0x100020212010300163
theorem Vl:a<=b->c<=b/\b<a->c7:=ag [a,b,c] 0x70010110200461000063
theorem Vm:a+1<=b->b<=a->c7:=ag [a,b] 0x70010061011002062
theorem Vn:a<=2*b->b<=50->a+a<=400:=ag [a,b] 0x190700002000000032710061021400062
theorem AP:a<=2*b->c<=2->c+a<=2*(b+1):=ag [a,b,c] 0x111022140020202120061021400063
theorem Vo:a-b=c+1->a=b+c+1:=ag [a,b,c] 0x112010220021120210003263
theorem Vp:a<b->a=c+1->c<b:=ag [a,b,c] 0x102011120200261000163
theorem Vq:a<=1->b<=c->a+b<=c+1:=ag [a,b,c] 0x112021000202010061100063
theorem Vr:a+(b-1)<c->c=1->a+b<=0+1:=ag [a,b,c] 0x110121000201120262011103002163
theorem Vs:max 0 (1-a)+(a+a)<min 1 (max 0 (1-a)+a)->c7:=ag [a] 0x70000113015211600002001130152161
theorem Vt:a<=2*b->b<=50->a<=400:=ag [a,b] 0x190700000000032710061021400062
theorem Vu:0<a->a=a-1+1:=ag [a] 0x111100320020001161
theorem Vv:1+a+1+b<=a+2+b:=ag [a,b] 0x102100221011001122202
theorem Vw:1<=a->b+1<=max b c\/d+b<=b/\(a+b<=1+c\/c+2<=a)\/b+1<=d/\d+b<=b+1+c/\(a+b<=1+c\/c+2<=a)->¬c+2<=a->¬b<c->a=1:=ag [a,b,c,d] 0x11002201013600212020360021202020112100020520111022103020430111020400212020201121000205101030204520105111020560011064
theorem Vx:a+1<=max b c\/d+a<=b/\(e+a<=1+c\/c+2<=e)\/b+1<=d/\d+a<=b+1+c/\(e+a<=1+c\/c+2<=e)->¬b<c->a<=b:=ag [a,b,c,d,e] 0x1000020101364021202020112004020520111022003020430111020440212020201120040205100030204520105110020565
theorem Vy:0<a->¬b<a->b=0->c7:=ag [a,b] 0x701102600101360001162
theorem Vz:a<b->0+a<b+1+c:=ag [a,b,c] 0x201110220001211000163
theorem VA:a+2+b<=max 0 (1+a+1+b):=ag [a,b] 0x101100112220151021002202
theorem VB:0+a<=max 0 (a+1+b):=ag [a,b] 0x101100220150001202
theorem VC:1<=a->b+1<=max c b\/d+b<=c/\(a+b<=1+b\/b+2<=a)\/c+1<=d/\d+b<=c+1+b/\(a+b<=1+b\/b+2<=a)->c<b->c+1<d\/c+1=d/\1<=a:=ag [a,b,c,d] 0x1103011202243011202151020160021102010112100020510112022103020430112020400211020101121000205201030204510205111020560011064
theorem VD:a+1<=max b c\/d+a<=b/\(e+a<=1+c\/c+2<=e)\/b+1<=d/\d+a<=b+1+c/\(e+a<=1+c\/c+2<=e)->b<c->a<=c:=ag [a,b,c,d,e] 0x200002010164021202020112004020520111022003020430111020440212020201120040205100030204520105110020565
theorem VE:a<b->c+1+a<c+1+b:=ag [a,b,c] 0x101120220011202211000163
theorem VF:1+a<=max 0 (1+a+1+b):=ag [a,b] 0x101100112220150011202
theorem MB:¬(a<=1+b/\1+b<a+c)->a+c<=1+b\/b+2<=a:=ag [a,b,c] 0x21102010112200020520002101121101120004363
theorem VG:a+(b-1)<c+1+d->a+b<=c+1+d:=ag [a,b,c,d] 0x301120221000203011202211103002164
theorem VH:a<=b->¬(a<=b/\b<a+c)->a+c<=b:=ag [a,b,c] 0x1020002020002101100004361000063
theorem VI:1+a<b+c->d+c<=e+1->e-d=1+a-b->aiA<c-1->d+aiA=e-(c-1)+aiA:=ag [a,b,c,d,e,aiA] 0x501120340325030221120350161000112330403261140220302062010200112166
theorem VJ:1<=a->b+c<=d+1->d-b=1+e-a->aiA<c-1->e-(c-1)+aiA<e:=ag [a,b,c,d,e,aiA] 0x405011203403211120350160040112310303261130220102060011066
theorem VK:1+a<b+c->1<=b->d+c<=e+1->e-d=1+a-b->aiA<c-1->b+aiA=1+(a-(c-1)+aiA):=ag [a,b,c,d,e,aiA] 0x501120300321125010221120350161000112330403261140220302061011062010200112166
theorem VL:a+b<=c+1->d<b-1->a+d<c:=ag [a,b,c,d] 0x203000211110330161120210002064
theorem VM:a<b-1->a<b:=ag [a,b] 72058766835581282
theorem VN:¬a+1<=max b c->max b c<=a-1+1:=ag [a,b,c] 0x1111003220105020105110020363
theorem VO:1<=a->b+c<=d+1->d-b=1+e-a->c-1<=e:=ag [a,b,c,d,e] 0x401120300040112310303261130220102060011065
theorem VP:a+b<=c+1->b-1<=c:=ag [a,b,c] 0x201110301120210002063
theorem VQ:a-b=1+c-d->d<=1+c->b<=a->d+(a+1-b)=c+2+0:=ag [a,b,c,d] 0x12120221011002330220010062011230063020112310003264
theorem VR:a<=b->a+(b+1-a)=b+1+0:=ag [a,b] 0x11110220011102300221000062
theorem VS:1+a<b+c->¬d+c<=e+1->b<=1+a->e+1-d<c:=ag [a,b,c,d,e] 0x2030114023100112100611402203020362010200112165
theorem VU:a+(b-c)=1+d->b-c=1+d-a:=ag [a,b,c,d] 0x3011232010323011220103002264
theorem VV:1+a<b+c->d<e+c->b<=1+a->d-e<c:=ag [a,b,c,d,e] 0x204030310011210062040230162010200112165
theorem VW:1+a<b+c->d+(1+a-b)=e->b<=1+a->d<=e/\e<d+c:=ag [a,b,c,d,e] 0x203024014030040011210064010001123302262010200112165
theorem VX:1+a<b+c->b<=1+a->1+a-b<c:=ag [a,b,c] 0x201000112310011210062010200112163
theorem VY:a+(b-c)=1+d->b<c+e->c<=b->a<=1+d/\1+d<a+e:=ag [a,b,c,d,e] 0x400023011213011200041020064020210163011220103002265
theorem VZ:a<b+c->b<=a->a-b<c:=ag [a,b,c] 0x201000310010062010200163
theorem MC:2<=a->a=1->b=1+c:=ag [a,b,c] 0x201121021100260021063
theorem V0:¬a<1+b->¬a=1+b->a=b+2+(a-b-2):=ag [a,b] 0x21100033211022002101120023610112001362
theorem V1:a<1+b->¬a=0->a-1<b:=ag [a,b] 0x1011003101002361011200162
theorem V2:¬a=0->a=1+(a-1):=ag [a] 0x1100311200201002361
theorem MD:2<=a->a=1->b=c:=ag [a,b,c] 0x201021100260021063
theorem V3:¬a<b->¬a=b->a=b+1+(a-b-1):=ag [a,b] 0x11100033111022002100023610001362
theorem V4:a+2+b=1+a+1+b:=ag [a,b] 0x101100112221021002222
theorem ME:a<=22->a<=60:=ag [a] 0x3c700000000016700061
theorem E1:a<=2*b->b<=11->a<=22:=ag [a,b] 0x167000b110061021400062
theorem V5:a<=11->a<=400:=ag [a] 7044571184758881
theorem MF:a<=11->a<=50:=ag [a] 887306069213281
theorem MG:a<=1->a=0\/a=1:=ag [a] 0x110020100251100061
theorem MH:5+min 6 a<=11:=ag [a] 0xb10061651201
theorem V6:max (a+1+1+1+1) (b+1+1+1+1)<=c+1->0<c:=ag [a,b,c] 0x200111120211111111102222111111110022225063
theorem MI:max (a+1+1+1+1) (b+1+1+1+1)<=c+1->¬b+1+1+1+1=c->c<=b+1+1+1+1->b+1+1+1+1-c=1:=ag [a,b,c] 0x1120111111111022223211111111102222200620111111111022222361120211111111102222111111110022225063
theorem V7:a+1+1+1+1=b->2<b:=ag [a,b] 0x102111011111111002222262
theorem E2:a+1+1+1+1=b->a+1+1+1+1-b=0:=ag [a,b] 0x11011111111002222321011111111002222262
theorem V8:max (a+1+1+1+1) (b+1+1+1+1)<=c+1->¬a+1+1+1+1=c->c<=a+1+1+1+1->a+1+1+1+1-c=1:=ag [a,b,c] 0x1120111111110022223211111111002222200620111111110022222361120211111111102222111111110022225063
theorem V9:a+1+1+1+1=b->0<b:=ag [a,b] 0x100111011111111002222262
theorem MJ:a+b<=c->c+d<=e->a+b<=e:=ag [a,b,c,d,e] 0x401000204030202062010002065
theorem MK:a+b<=c->d<=a->d<=c:=ag [a,b,c,d] 0x203000030062010002064
theorem ML:0<a->b+a<=max c d->c<=b->b+a<=d:=ag [a,b,c,d] 0x300010201020063020500102060001164
theorem MM:0<a->b+c<=max d e->aiA+a<=b->d<=aiA->aiA+a<=e:=ag [a,b,c,d,e,aiA] 0x400050205030061000502064030520102060001166
theorem Wa:a-b<=c+1->¬d=0->b<=e->a-(e+d)<=c:=ag [a,b,c,d,e] 0x2030402003040100601302361120210003065
theorem Wb:a+b<=max c d->d-c<=e+1->¬b=0->a-c<=e:=ag [a,b,c,d,e] 0x4020003001102361140220303063020510002065
theorem Wc:a+b<=max c d->d-c<=0->¬b=0->c<=a->c7:=ag [a,b,c,d] 0x700200601102360120303063020510002064
theorem We:a+b<=max c d->e+b<=max aiA g->c<=a->aiA<=e->d<=c\/g<=aiA->b=0:=ag [a,b,c,d,e,aiA,g] 0x11025060020300564050060020066050510402063020510002067
theorem Wf:¬a<b->¬b=a->a<=c->b<c:=ag [a,b,c] 0x20101200006001023610001363
theorem MN:¬a<b->¬(a<b/\b<=c):=ag [a,b,c] 0x20100100014310001363
theorem AQ:a<b+1->c<a->a-1<b:=ag [a,b,c] 0x101100310020161110200163
theorem Wg:¬a-1=b->¬b<c->b<a->c<a-1:=ag [a,b,c] 0x11003201001016201013610110032363
theorem Wh:a-1=b->¬b<c->¬c=b->c<a-1:=ag [a,b,c] 0x11003201102023620101361011003263
theorem Wi:a<b+1->c<a->c<a/\a<=b:=ag [a,b,c] 0x100000020140020161110200163
theorem Wj:a<b->b<c->b-1<c-1:=ag [a,b,c] 0x112031110312010161000163
theorem Wk:a<b+1->c<d->d<a->c<a/\a<=b:=ag [a,b,c,d] 0x100000020140030163020161110200164
theorem Wl:a<b+1->c<d->d<a->c<d/\d<=b:=ag [a,b,c,d] 0x103003020140030163020161110200164
theorem Wm:a<b->b=c->¬(c<a/\a<=d):=ag [a,b,c,d] 0x3000000201432010261000164
theorem Wn:a<b->a=c->c<=b-1:=ag [a,b,c] 0x111032002000261000163
theorem Wo:a<b+1->c<a->c=d->d<a/\a<=b:=ag [a,b,c,d] 0x100000030143020260020161110200164
theorem Wp:a<b->a=c->¬b=c:=ag [a,b,c] 0x2010232000261000163
theorem Wq:a<=b->b-(b-a)=a:=ag [a,b] 4557489135681634
theorem Wr:a+(b+1)=c->d=c->a<d:=ag [a,b,c,d] 0x300012030262011102002264
theorem Ws:a<b->b<=a->c<d:=ag [a,b,c,d] 0x302010010061000164
theorem Wt:a<0->b<c:=ag [a,b,c] 35253361049955
theorem E3:a<b+1->¬a=b->a<b:=ag [a,b] 0x1000110002361110200162
theorem Wu:a-b<=c+1->b<=d->a-(d+1)<=c:=ag [a,b,c,d] 0x201130200303010061120210003064
theorem MO:a<b->c<d->d<=a->c<b:=ag [a,b,c,d] 0x102010030063020161000164
theorem Wv:¬a=b->b<=a->b<a:=ag [a,b] 0x10100100610002362
theorem Ww:a-b<=c+1->d<a->d-b<=c:=ag [a,b,c,d] 0x201030300030161120210003064
theorem Wx:a<=b->a≥b->a=b:=ag [a,b] 0x100020010061000062
theorem Wy:a-b<=0->b<=a->b=a:=ag [a,b] 0x1020010060110003062
theorem Wz:¬1=a->1<=a->b<=2+(a-(1+1))->c<=b+(a-b)->c<=a:=ag [a,b,c] 0x20010003102200611112003212100600110600112363
theorem WA:2<=a->a<=b->1<=b:=ag [a,b] 0x101101000060021062
theorem WB:¬1=a->1<=a->b=a->c<=2+(a-(1+1))->c<=b:=ag [a,b,c] 0x1020011112003212200600102600110600112363
theorem WC:¬1=a->1<=a->b<=2+(a-(1+1))->b+(a-b)<=a:=ag [a,b] 0x10003102011112003212100600110600112362
theorem MQ:a<1->b<a->c<d:=ag [a,b,c,d] 0x302010010161100164
theorem WD:¬1=a->1<=a->2+(a-(1+1))<=a:=ag [a] 0x11112003212000110600112361
theorem WE:¬1=a->1<=a->1<1+(a-1):=ag [a] 0x1100311211100110600112361
theorem WF:1<=a->¬a>1->a=1:=ag [a] 0x1100200111360011061
theorem WG:a>1->a<=1+(b-1)->a<=b:=ag [a,b] 0x100001110311200060011162
theorem WH:a>1->a-1<a:=ag [a] 299080316162401
theorem WI:a>1->0<a-1:=ag [a] 76564496763654497
theorem WJ:a>1->0≠a-1:=ag [a] 0x1100301230011161
theorem WK:a>1->a<=1+(b-1)->a-1<b:=ag [a,b] 0x101100311110311200060011162
theorem WL:1<=a->1+(a-1)<=a:=ag [a] 0x1100311200011061
theorem AR:1<=a->a≠a-1:=ag [a] 0x1100300230011061
theorem xP:a+(b+1)<=c->a-1<c:=ag [a,b,c] 0x201100312011102002063
theorem ul:a+(b+1)<=c->a<c:=ag [a,b,c] 0x200012011102002063
theorem WM:1<=a->a-1≠a:=ag [a] 4785290157822049
theorem MR:a<=b+1+c->a<=b+(c+1):=ag [a,b,c] 0x112021020002011102200063
theorem WN:a<b+(c+1)->a<b+1+c:=ag [a,b,c] 0x201110220011120210200163
theorem WO:a<b->b-1-c<b:=ag [a,b,c] 0x102011103311000163
theorem WP:a<b->b<c->c-1-b<c-1-a:=ag [a,b,c] 0x1120331011203312010161000163
theorem MS:1<=a->a-1<a:=ag [a] 299080316162145
theorem MT:a<b->¬a=b-1->a<b-1:=ag [a,b] 0x1110300111103002361000162
theorem WQ:¬a<b->a≠b->b<a:=ag [a,b] 0x101100023610001362
theorem WR:0<a->b+a<=c->0<=b/\b<c:=ag [a,b,c] 0x201011001042000102060001163
theorem WT:0<a->b+a<=c/\d+a<=e->b<c:=ag [a,b,c,d,e] 0x201014000302020001020460001165
theorem WU:a<=b-(c+1)->d<=c/\c<b->a+1<=b-d:=ag [a,b,c,d] 0x301031100201020120300461120210300064
theorem WV:a<=b+1->a+c<=b+(c+1):=ag [a,b,c] 0x112021022000201110200063
theorem WW:a<=0+b->b<=c->a+1+1<=c+2:=ag [a,b,c] 0x212021111002202010061001200063
theorem WX:a<=0+b->b<=c->a+1<=c+2:=ag [a,b,c] 0x212021100202010061001200063
theorem WY:a<=b+2->a+2*c<=b+2*(c+1):=ag [a,b,c] 0x112022141022021400202110200063
theorem WZ:a<=1->b<=1->c+a+b<=c+2:=ag [a,b,c] 0x212021000202201110061100063
theorem W0:a<=0+2*b->b<=c+2->a<=2*c+4:=ag [a,b,c] 0x412021420002120210061021401200063
theorem W1:a<=b+1->c<=a+d->c<=b+(d+1):=ag [a,b,c,d] 0x113021022003000220061110200064
theorem W2:2<5+a:=ag [a] 85074193
theorem W3:4<5+a/\1<5+a/\0<5+a:=ag [a] 0x5120110051211140051241141
theorem sr:4<=7+a:=ag [a] 118636801
theorem W4:a+1+5=6+a:=ag [a] 0x6125111002221
theorem E4:a<200->b<a->c=b->d<=c->d<=16777216:=ag [a,b,c,d] 0x10000007300203006102026001016000000c8700164
theorem W5:a=5+b->a<=5+b:=ag [a,b] 0x105120001051200262
theorem W6:4≠5+a:=ag [a] 1361318449
theorem W7:4<=5+a+b:=ag [a,b] 17593547243778
theorem W8:4<=5+a:=ag [a] 85082369
theorem E5:a<b->5+a<5+b:=ag [a,b] 0x105120051211000162
theorem W9:a<b->min a b=a:=ag [a,b] 281501300162914
theorem Xa:a<=b+a-b:=ag [a,b] 17592456773634
theorem Xb:5+a<=7+a:=ag [a] 485868507649
theorem Xc:2<7+a:=ag [a] 118628625
theorem Xd:6+a<7+a/\5+a<7+a/\4<7+a/\1<7+a/\0<7+a:=ag [a] 0x7120110071211140071241140071200512140071200612141
theorem AS:a+b<c->c<=d->a+b<d:=ag [a,b,c,d] 0x301000213020062010002164
theorem E6:a+b<=max c d->c<a->d<=e->a-1<e:=ag [a,b,c,d,e] 0x401100314030060020163020510002065
theorem Xe:a+b<=max c d->c<a->d<=e->a<=e:=ag [a,b,c,d,e] 0x400004030060020163020510002065
theorem MU:a=7+b+c->d=a->5+b<d:=ag [a,b,c,d] 0x301051210030262010712200264
theorem Xf:a+b=c->a+(b+1)-1=c:=ag [a,b,c] 0x201111102002322010002263
theorem Xg:¬a+(b+1)<=a:=ag [a,b] 1172559634482
theorem MV:a=7+b+c->0<a:=ag [a,b,c] 77125273499206243
theorem MW:a=7+b+c->1<a:=ag [a,b,c] 0x1112010712200263
theorem MX:a=7+b+c->4<a:=ag [a,b,c] 0x4112010712200263
theorem Xh:a=b->b<=a+c:=ag [a,b,c] 0x200021001000263
theorem MY:a<=200->a<=16777216:=ag [a] 0x10000007000000000c8700061
theorem Xi:a<200->b<=min c d->d<=a->b<=200:=ag [a,b,c,d] 0xc87100003006302061006000000c8700164
theorem Xj:a<=a+6:=ag [a] 26038370305
theorem Xk:a+2+1<=a+6:=ag [a] 0x610021121002201
theorem Xl:a<b->c=7+b+d->e=c->5+a<e:=ag [a,b,c,d,e] 0x400051212040263010712220261000165
theorem Xm:a<b->c=7+b+d->5+a+1<=c+6:=ag [a,b,c,d] 0x612021100512203010712220261000164
theorem Xn:a<b-c->b<=d->c+a<d:=ag [a,b,c,d] 0x300020213010062010300164
theorem Xo:5+a+(2+b)=7+a+b:=ag [a,b] 0x100071221021200512222
theorem Xp:a=b+4->b+3<a:=ag [a,b] 0x3110214110200262
theorem Xq:a=b+4->b<=a:=ag [a,b] 281754420118114
theorem Xr:10+a+b=c+3->7+a+(b+4)=c+4:=ag [a,b,c] 0x41202411020071222312021000a122263
theorem Xs:a<=65->a<=16777216:=ag [a] 0x1000000700000000041700061
theorem Xu:a<=64->a+1<=65:=ag [a] 0x41711002000000040700061
theorem Xv:a<=64->a<=65:=ag [a] 0x41700000000040700061
theorem MZ:a<=64->a<=16777216:=ag [a] 0x1000000700000000040700061
theorem Xw:a<64->b<=0+c->c<=a->b<=64:=ag [a,b,c] 0x40710000200620012100600000040700163
theorem Xx:a<=0+b->b<=64->a<=64:=ag [a,b] 0x40700000000040710061001200062
theorem Xy:0<a->b+(c+(2*(d-e)+1))<=2*aiA+1->g+a<=max e d->h<=2*(d-(g+a))+1->i<=2*(g-e)+1->e<=g->b+1+(c+i+h)<=2*aiA+1:=ag [a,b,c,d,e,aiA,g,h,i] 0x115021427080202211102206040061140603214280061100602303214270063040500602061150214211403032142202102060001169
theorem Xz:0<a->b+a<=max c d->e+a<=max aiA g->d<=h->c<=b->aiA<=e->g<=i->b+a<=d/\d<=h/\e+a<=g/\g<=i:=ag [a,b,c,d,e,aiA,g,h,i] 0x806006000402047030043000102048060064050061020067030066050500402063020500102060001169
theorem XA:0<a->b+a<=max c d->e+a<=max aiA g->d<=h->c<=b->aiA<=e->g<=i->c<=b/\b<=h/\aiA<=e/\e<=i:=ag [a,b,c,d,e,aiA,g,h,i] 0x804004050047010041020048060064050061020067030066050500402063020500102060001169
theorem XB:a+(0+b)+(c+d+e)=a+(c+(d+(e+b))):=ag [a,b,c,d,e] 0x104023022020024030202210012002225
theorem XC:0<a->b+a<=max c d->e<=2*(d-(b+a))+1->aiA<=2*(b-c)+1->c<=b->g+aiA+e<g+(2*(d-c)+1):=ag [a,b,c,d,e,aiA,g] 0x112030321426024050602211020061120103214250061100102303214240063020500102060001167
theorem XD:a+(b+(2*(c-d)+1))<=2*e+1->aiA+g<c/\h+g<i->j+k<=b+(2*(c-d)+1)->e<200->l<=2*(aiA-d)+1->m<=l->j+m<=16777216:=ag [a,b,c,d,e,aiA,g,h,i,j,k,l,m] 0x10000007c09020b0c00611305032142b006000000c87401611302032142102a090206806070212060502146114021421130203214210200206d
theorem XE:a+(b+(2*(c-d)+1))<=2*e+1->aiA+g<=b+(2*(c-d)+1)->e<200->aiA<=16777216:=ag [a,b,c,d,e,aiA,g] 0x10000007500000000c8740161130203214210260502061140214211302032142102002067
theorem XF:a+(b+(2*(c-d)+1))<=2*e+1->e<200->a<=16777216:=ag [a,b,c,d,e] 0x10000007000000000c8740161140214211302032142102002065
theorem XH:a+(b+(2*(c-d)+1))<=2*e+1->a+b<=2*e+1:=ag [a,b,c,d,e] 0x114021421000201140214211302032142102002065
theorem XI:a<a+(2*(b-c)+1):=ag [a,b,c] 0x112010321420020013
theorem XJ:a+(b+(2*(c-d)+1))<=2*e+1->aiA+g<=b+(2*(c-d)+1)->e<200->aiA<=1000000:=ag [a,b,c,d,e,aiA,g] 0xf42407500000000c8740161130203214210260502061140214211302032142102002067
theorem XK:a+b<=2*c+1->c<200->d<=b->d<=16777216:=ag [a,b,c,d] 0x10000007300103006000000c8720161120214210002064
theorem XM:0+(2*a+1)<=2*a+1:=ag [a] 0x110021421100214201201
theorem XN:10+a+b=7+a+b+3:=ag [a,b] 0x311000712221000a12222
theorem M0:a<64->a<200:=ag [a] 0xc8700100000040700161
theorem XO:10+a+b<7+a+(b+4):=ag [a,b] 0x411020071221000a12212
theorem XQ:a<7+b+c->a<7+b+(c+d):=ag [a,b,c,d] 0x302021071220012010712200164
theorem XR:a<=b->a+1<=2*(c-d)+1+b:=ag [a,b,c,d] 0x101130203214221100201000064
theorem XT:a=b+5->b<a:=ag [a,b] 282922651222626
theorem XU:a=b+5->b<=a:=ag [a,b] 281823139594850
theorem XV:a<=1->b<=200->b+a<=16777216:=ag [a,b] 0x10000007001020000000c8710061100062
theorem XW:a<=10->a<=16777216:=ag [a] 0x10000007000a100061
theorem XX:a<64->b<=0+2*c->d<=a+2->c<=d->b<=200:=ag [a,b,c,d] 0xc8710030200621002300620214012100600000040700164
theorem XY:a=b->a<=b+5:=ag [a,b] 0x511020001000262
theorem XZ:a=b+1->c=b+5->a<=c:=ag [a,b,c] 0x200005110220261110200263
theorem X0:11+a+b=c+4->7+a+(b+1)=c+1:=ag [a,b,c] 0x11202111020071222412021000b122263
theorem X2:7+a+b=c->11+a+b=c+4:=ag [a,b,c] 0x412021000b12222010007122263
theorem E7:10+a+(b+1)=11+a+b:=ag [a,b] 0x1000b1221110200a12222
theorem X3:a<=15->b<=a->b+1<=16:=ag [a,b] 0x107111020001006f100062
theorem X4:¬a+1+1=1:=ag [a] 300239957402161
theorem X5:a<=132->b<=a->b<=16777216:=ag [a,b] 0x1000000710000100600000084700062
theorem M1:a<b->b<=132->c<=a->c<=16777216:=ag [a,b,c] 0x1000000720000200600000084710061000163
theorem X6:a<64->b<=2*a+4->b<=16777216:=ag [a,b] 0x1000000710041002142100600000040700162
theorem X7:7+a=2+(5+a):=ag [a] 0x5122120071221
theorem X8:a<64->b<=2*a+4->b<=132:=ag [a,b] 0x84710041002142100600000040700162
theorem X9:7+a<=b->c=7+a->c<=b:=ag [a,b,c] 0x102000071220261000712063
theorem Yb:¬a+3=0:=ag [a] 5117059633
theorem Yc:0<a+1:=ag [a] 4563534097
theorem Yd:a+1=0->c7:=ag [a] 7701161583201
theorem M2:a<200->a<=1000:=ag [a] 0x3e87000000000c8700161
theorem M3:a<64->a<=1000:=ag [a] 0x3e8700000000040700161
theorem um:a<=1000->a<=1000000:=ag [a] 0xf42407000000003e8700061
theorem M4:a<=5000->a<=1000000:=ag [a] 0xf4240700000001388700061
theorem Ye:0<a->a=0->c7:=ag [a] 0x70100260001161
theorem M5:a<=1001->a<=1000000:=ag [a] 0xf42407000000003e9700061
theorem Yg:a<=2000->b<=2000->b+1+a<=5000:=ag [a,b] 0x13887001110220000007d071006000007d0700062
theorem Yh:a<=2000->a<=5000:=ag [a] 0x13887000000007d0700061
theorem Yi:a<=2000->a+2<=5000:=ag [a] 0x13887210020000007d0700061
theorem Yj:a<=1000->1+a<=16777216:=ag [a] 0x10000007001120000003e8700061
theorem E8:a<=1000->a<=16777216:=ag [a] 0x10000007000000003e8700061
theorem AT:¬a<=b->b<=a:=ag [a,b] 1099780064098
theorem Yk:¬a<=b->b-c<=a-c:=ag [a,b,c] 0x2000320103010000363
theorem Yl:a=b->b<=1000->a<=16777216:=ag [a,b] 0x10000007000000003e8710061000262
theorem Ym:a+3=1\/3<=a+3:=ag [a] 0x310023101131002251
theorem Yn:¬(a+3=1\/a+3=2):=ag [a] 0x2131002211310022531
theorem M6:2*a+1+1+1+1=4+2*a:=ag [a] 0x2144121111111100214222221
theorem Yo:a=b->¬b<a:=ag [a,b] 1104628679266
theorem Yp:4+2*a<=b->c<a->5+2*c<b:=ag [a,b,c] 0x102021451210020161000214412063
theorem Yq:a+2*(b+1)<=c->a+2+2*b<=c:=ag [a,b,c] 0x201021421002202011102214002063
theorem Yr:a+2*(b+1)<=c->a<c:=ag [a,b,c] 0x200012011102214002063
theorem Ys:a+(2*b+1+1)=a+2+2*b:=ag [a,b] 0x102142100221111102142200222
theorem Yt:a+b=c+(d+b)->c=2->a=2+d:=ag [a,b,c,d] 0x302120022120261030220210002264
theorem Yu:a<=5000000->2+a<=16777216:=ag [a] 0x10000007002120004c4b40700061
theorem Yv:4+2*a<5+2*a:=ag [a] 0x2145120021441211
theorem M7:a<=1000->b<=1000->a+b<=16777216:=ag [a,b] 0x10000007100020000003e871006000003e8700062
theorem M8:4+2*a+1=5+2*a:=ag [a] 0x2145121100214412221
theorem Yw:a*2001<=2000*2001->b<=a*2001->b<=5000000:=ag [a,b] 0x4c4b407100000007d170041006000007d17000007d074000007d17004062
theorem xQ:a<=2000->b<=a->b<=2000:=ag [a,b] 0x7d07100001006000007d0700062
theorem M9:a=b+1->c<=d*2001->b<=2000->a+c<=d*2001+2001:=ag [a,b,c,d] 0x7d17000007d173042200020000007d071006000007d1730420061110200264
theorem Yx:a<=2000->b<=5000000->c<=a->b+1+c<=16777216:=ag [a,b,c] 0x10000007201110220002006004c4b4071006000007d0700063
theorem Na:a<b->4+2*a<4+2*b:=ag [a,b] 0x102144120021441211000162
theorem Yy:a<=5000000->a<=16777216:=ag [a] 0x10000007000004c4b40700061
theorem Yz:a<=1000/\b<=1000/\c<=1000->d<=5000->e<=5000->4+d+2+e+3+c<=16777216:=ag [a,b,c,d,e] 0x1000000720314021304122222000001388740060000138873006000003e87200000003e871004000003e87000465
theorem YA:a<=5000->b<=5000->4+a+2+b+3<=16777216:=ag [a,b] 0x10000007311021004122220000013887100600001388700062
theorem YB:a<=5000->b<=5000->4+a+2+b<=16777216:=ag [a,b] 0x10000007102100412220000013887100600001388700062
theorem Nb:a<=2000->a<=2000:=ag [a] 0x7d07000000007d0700061
theorem YC:a<=5000->4+a+2<=16777216:=ag [a] 0x1000000721004122000001388700061
theorem YD:a<=5000->4+a<=16777216:=ag [a] 0x1000000700412000001388700061
theorem Nc:a<=2000->b<=a->c<=b->c<=2000:=ag [a,b,c] 0x7d07200102006001006000007d0700063
theorem Nd:a<b->4+2*a<5+2*b/\4+2*b<5+2*b/\3<5+2*b/\2<5+2*b/\1<5+2*b/\0<5+2*b:=ag [a,b] 0x102145120111021451211141021451221141021451231141021451210214412141021451200214412141000162
theorem E9:a<=2000->b<=a->b<=1000000:=ag [a,b] 0xf42407100001006000007d0700062
theorem YE:a<b->5+2*a<4+2*b:=ag [a,b] 0x102144120021451211000162
theorem YF:min a b*2001<=2000*2001->c<=min a b*2001->c<=5000000:=ag [a,b,c] 0x4c4b407200000007d171000642006000007d17000007d074000007d17100064063
theorem YG:a<=2000->b<=a->min c b<=2000:=ag [a,b,c] 0x7d07102060001006000007d0700063
theorem YH:2<=5+2*a:=ag [a] 142892736769
theorem YI:3+1<=5+2*a:=ag [a] 585288633225729
theorem Nf:a=4+2*b->2<=a+c:=ag [a,b,c] 0x200022101021441200263
theorem Ng:a<4->a<4+2*b:=ag [a,b] 0x102144120014100162
theorem YJ:2<=4+2*a:=ag [a] 142875959553
theorem Fa:a<=2000->a<=16777216:=ag [a] 0x10000007000000007d0700061
theorem Fb:a<b->b<=2000->c<=a->c<=2000:=ag [a,b,c] 0x7d07200002006000007d0710061000163
theorem YK:a<=2000->a+1<=2001:=ag [a] 0x7d17110020000007d0700061
theorem YL:a<=2->a<=4+2*b:=ag [a,b] 0x102144120002100062
theorem YM:a+b<=2*c->c<=1000->a+b<=2000:=ag [a,b,c] 0x7d07100020000003e8720062021410002063
theorem YN:min (a-b) (c-b)<=c:=ag [a,b,c] 0x201020310003603
theorem YO:a<=1000->a+1<=1001:=ag [a] 0x3e97110020000003e8700061
theorem YP:319<=a->a≠319->a≠320->a≠321->322<=a:=ag [a] 0x1427000000141700236000001407002360000013f700236000000013f7061
theorem Nh:a<=1000000->a<=16777216:=ag [a] 0x10000007000000f4240700061
theorem YQ:a*901<=900*901->b<=a*901->2+b<=1000000:=ag [a,b] 0xf4240710212000000385700410060000038570000038474000003857004062
theorem YR:a<=900->b<=a->b+1<=901:=ag [a,b] 0x385711102000100600000384700062
theorem YS:a<=2000->b<=2000->b+1+a<=16777216:=ag [a,b] 0x10000007001110220000007d071006000007d0700062
theorem YT:a<=2000->a+1<=16777216:=ag [a] 0x10000007110020000007d0700061
theorem YU:a<=2000->a+2<=16777216:=ag [a] 0x10000007210020000007d0700061
theorem YV:a<=100->a<=1000:=ag [a] 0x3e8700000000064700061
theorem YW:a<=2*b->b<=100->a<=900:=ag [a,b] 0x384700000000064710061021400062
theorem YX:a<=22->b<=22->1+b+1+a<=16777216:=ag [a,b] 0x10000007001110112220000000167100600000016700062
theorem Nj:a<=22->1+a+1<=16777216:=ag [a] 0x1000000711001122000000016700061
theorem AU:a<=22->1+a<=16777216:=ag [a] 0x1000000700112000000016700061
theorem YY:a<=22->b<=22->a+1+b<=16777216:=ag [a,b] 0x10000007101100220000000167100600000016700062
theorem Nk:a<=22->a+1<=16777216:=ag [a] 0x1000000711002000000016700061
theorem xR:a<=11->a<=1000:=ag [a] 0x3e87000b100061
theorem Fc:a<=22->a<=1000:=ag [a] 0x3e8700000000016700061
theorem YZ:a<=22->b<=22->1+b+1+a<200:=ag [a,b] 0xc87001110112221000000167100600000016700062
theorem Y0:a<=22->b<=22->a+1+b<64:=ag [a,b] 0x407101100221000000167100600000016700062
theorem Y1:a<=22->b<=22->c<=30->c+a+(1+b)<=16777216:=ag [a,b,c] 0x100000071011200202200000001e72006000000167100600000016700063
theorem Nl:a<=22->1+a<=1000000:=ag [a] 0xf4240700112000000016700061
theorem Nm:a<=22->b<=30->b+a<=16777216:=ag [a,b] 0x100000070010200000001e7100600000016700062
theorem Fd:a<=22->a<=1000000:=ag [a] 0xf4240700000000016700061
theorem Y2:a<=30->a<=1000000:=ag [a] 0xf424070000000001e700061
theorem Y3:a<=22->1+a+1<=30:=ag [a] 0x1e711001122000000016700061
theorem Y4:a<=22->b<=22->c<=30->c+b+(1+a)<=16777216:=ag [a,b,c] 0x100000070011210202200000001e72006000000167100600000016700063
theorem Y5:a<=22->a+1+1<=30:=ag [a] 0x1e711110022000000016700061
theorem Y6:a<=22->a+1+1<=16777216:=ag [a] 0x1000000711110022000000016700061
theorem Y7:a<=22->a+1<=1000000:=ag [a] 0xf4240711002000000016700061
theorem Y8:a=10->a<=10:=ag [a] 0xa1000a100261
theorem vW:a<=22->a<=16777216:=ag [a] 0x1000000700000000016700061
theorem Y9:a<=2*b->b<=11->a<=900:=ag [a,b] 0x3847000b110061021400062
theorem Fe:a<=11->a<=1000000:=ag [a] 0xf42407000b100061
theorem Nn:a<=11->a<=16777216:=ag [a] 0x10000007000b100061
theorem Za:a<=2->a<=1000:=ag [a] 0x3e870002100061
theorem Zb:a<=11->a<200:=ag [a] 0xc87001b100061
theorem No:a<=11->a<64:=ag [a] 0x407001b100061
theorem Zc:a<=2*b->b<=22->a<=900:=ag [a,b] 0x384700000000016710061021400062
theorem Zd:a<=22->a<200:=ag [a] 0xc8700100000016700061
theorem Ze:a<=22->a<64:=ag [a] 0x40700100000016700061
theorem Zf:a<=44->a<=1000:=ag [a] 0x3e870000000002c700061
theorem Zg:a<=2*b->b<=44->a<=900:=ag [a,b] 0x38470000000002c710061021400062
theorem Ff:a<=22->a+a<=16777216:=ag [a] 0x1000000700002000000016700061
theorem Zh:a<=22->a+a<200:=ag [a] 0xc8700002100000016700061
theorem Zi:a<=22->a+a<=44:=ag [a] 0x2c700002000000016700061
theorem Zj:a<=2*b/\c<=2*b->b<=11->a<=22:=ag [a,b,c] 0x167000b110061021420010214000463
theorem Zk:a<=2*b/\c<=2*b->b<=11->c<=22:=ag [a,b,c] 0x167200b110061021420010214000463
theorem Np:a<=30->a<=16777216:=ag [a] 0x100000070000000001e700061
theorem Zl:a<=2*b/\c<=2*b->b<=11->d<=2->c+(d-1)<=30:=ag [a,b,c,d] 0x1e7113032020213006b110061021420010214000464
theorem Zm:a<=2*b/\c<=2*b->b<=11->d<=2->a+(d-1)<=30:=ag [a,b,c,d] 0x1e7113030020213006b110061021420010214000464
theorem Nq:a<=2*b/\c<=2*b->b<=11->c<=16777216:=ag [a,b,c] 0x10000007200b110061021420010214000463
theorem Zn:a<=2*b/\c<=2*b->b<=11->a<=16777216:=ag [a,b,c] 0x10000007000b110061021420010214000463
theorem Zo:a<=11->min b a<=11:=ag [a,b] 0xb1001060b100062
theorem Zp:a<=2*b/\c<=2*b->d<=2->e<=2->d+a<=2*(b+1)/\e+c<=2*(b+1):=ag [a,b,c,d,e] 0x111022142040201110221400302042140062130061021420010214000465
theorem Fg:a<64->a<=16777216:=ag [a] 0x1000000700000000040700161
theorem Zq:a<=66->a<=16777216:=ag [a] 0x1000000700000000042700061
theorem Zr:a<=33->a<=1000000:=ag [a] 0xf4240700000000021700061
theorem Nr:a<=11->b<=22->a+b<=16777216:=ag [a,b] 0x100000071000200000001671006b100062
theorem Zs:a<=33->a<=8000000:=ag [a] 0x7a1200700000000021700061
theorem Zt:a<=b*2->b<=33->a<=66:=ag [a,b] 0x42700000000021710062110400062
theorem Zu:a<=11->b<=22->a+b<=33:=ag [a,b] 0x2171000200000001671006b100062
theorem Zv:a<=11->a<=8000000:=ag [a] 0x7a12007000b100061
theorem Nt:a<=b*2->b<=11->a<=22:=ag [a,b] 0x167000b110062110400062
theorem Zw:a<=b*1->b<=11->a<=16777216:=ag [a,b] 0x10000007000b110061110400062
theorem Zx:a<=11->b<=a->b<=1000000:=ag [a,b] 0xf42407100001006b100062
theorem Zy:a<=6->0+1+1+1+1+1+a+(0+1)<=16777216:=ag [a] 0x100000071101200111111111101222222206100061
theorem Zz:a<=6->min b a<=6:=ag [a,b] 0x610010606100062
theorem ZA:a<=63->a<=16777216:=ag [a] 0x100000070000000003f700061
theorem ZB:min 6 a<=6:=ag [a] 26038638081
theorem ZC:min (min 6 a) a=min 6 a:=ag [a] 0x6160000616621
theorem ZD:a<4->a<=1000:=ag [a] 0x3e870004100161
theorem Fh:a+b<=2*c->c<=1000->a+b<=16777216:=ag [a,b,c] 0x10000007100020000003e8720062021410002063
theorem ZE:a+b<=2*c->c<=1000->a<=16777216:=ag [a,b,c] 0x10000007000000003e8720062021410002063
theorem ZF:a+b<=2*c->c<=1000->b<=16777216:=ag [a,b,c] 0x10000007100000003e8720062021410002063
theorem ZG:a<=1000->a+1<=16777216:=ag [a] 0x10000007110020000003e8700061
theorem ZH:a<=1000->min b a<=1000:=ag [a,b] 0x3e87001060000003e8700062
theorem ZI:a+(b+1)+2*c<=a+b+2*(c+1):=ag [a,b,c] 0x112022141000222021411102002203
theorem Fi:a<b+(0+1)->¬a<b->a=b:=ag [a,b] 0x1000210001361101210200162
theorem ZJ:a-1<b->a<=b:=ag [a,b] 72057663042629986
theorem ZK:a+200*(b+1)<=9000->c<=5->a+c+200*b<=9000:=ag [a,b,c] 0x2328710000000c874200022051200600002328711102000000c874002063
theorem Nu:a+10*(b+1)<=900->a+1+10*b<=900:=ag [a,b] 0x384710a14110022000000384711102a14002062
theorem ZL:a<b->c=d->e=b->d+a<c+e:=ag [a,b,c,d,e] 0x402020030211040263020261000165
theorem ZM:a=b->a<=b+c:=ag [a,b,c] 0x201020001000263
theorem ZN:a=b->c<=2*a->b<=8000000->c<=16777216:=ag [a,b,c] 0x10000007200007a1200710060021420061000263
theorem ZO:a+b=c->d<=2*a->c<=8000000->d<=16777216:=ag [a,b,c,d] 0x10000007300007a1200720060021430062010002264
theorem ZP:128<=a->¬(a=32\/a=35\/a=36\/a=38\/a=40\/a=41\/a=42\/a=43\/a=45\/a=46\/a=63):=ag [a] 0x3f70020000002e700250000002d700250000002b700250000002a70025000000297002500000028700250000002670025000000247002500000023700250000002070025300000000807061
theorem ZQ:128<=a->¬a<=126:=ag [a] 0x7e7000300000000807061
theorem ZR:128<=a->¬a<=94:=ag [a] 0x5e7000300000000807061
theorem ZS:128<=a->¬a<=13:=ag [a] 0xd1000300000000807061
theorem ZT:a<=b->a<=min a b:=ag [a,b] 72064191124471906
theorem ZU:¬a<b+c->d=b->d+c<=a:=ag [a,b,c,d] 0x20302010302620102001364
theorem ZV:¬a<b->c=d->b+(c-d)<=a:=ag [a,b,c,d] 0x30203102030202610001364
theorem Nv:¬a<b->c=b->c<=a:=ag [a,b,c] 0x20010202610001363
theorem ZW:a<b->a<b+c:=ag [a,b,c] 0x201020011000163
theorem Nw:¬a<b-c->b<=c+a:=ag [a,b,c] 0x20210020103001363
theorem Fj:a<=b->min a b=a:=ag [a,b] 281501300162658
theorem ZX:a<b->a<c\/c<=a/\a<c+(b-c):=ag [a,b,c] 0x201032020010020042000151000163
theorem ZY:a<=b->a<=b+c:=ag [a,b,c] 0x201020001000063
theorem ZZ:a=b-c+d->c<=b->c+a=b+d:=ag [a,b,c,d] 0x301020020221020063020103200264
theorem Z0:a<=b->¬b+c<a:=ag [a,b,c] 9024933996789859
theorem Z1:a<b+(c-b)->b<=c->a≠c+d:=ag [a,b,c,d] 0x3020200232010061020310200164
theorem Z2:a+b=a+c->b=c:=ag [a,b,c] 0x201022000210002263
theorem Z3:a<b->a<c+(b-c):=ag [a,b,c] 0x201032020011000163
theorem Z4:a<=1000000->a+1<=16777216:=ag [a] 0x10000007110020000f4240700061
theorem Z5:a+200*b<=9000->c<=b->a+200*c<=9000:=ag [a,b,c] 0x2328720000000c874002010200600002328710000000c874002063
theorem Z6:a+10*b<=900->c<=b->a+10*c<=900:=ag [a,b,c] 0x384720a14002010200600000384710a14002063
theorem Z7:¬a<b->b+(a-b)=a:=ag [a,b] 0x10003102210001362
theorem Z8:a+200*(b+1)<=9000->a+1+200*b<=9000:=ag [a,b] 0x2328710000000c874110022000002328711102000000c874002062
theorem Z9:a+10*(b+1)<=900->a+10*b<=900:=ag [a,b] 0x384710a14002000000384711102a14002062
theorem aaa:a+200*(b+1)<=9000->a+3+200*b<=9000:=ag [a,b] 0x2328710000000c874310022000002328711102000000c874002062
theorem aab:a<64->b=a->b<64:=ag [a,b] 0x40710100102600000040700162
theorem aac:a<64->a<=16777216+1:=ag [a] 0x11010000007200000000040700161
theorem aad:¬a<2->1<=a:=ag [a] 1168784757601
theorem aae:a<2->a<=16777216+1:=ag [a] 0x1101000000720002100161
theorem aaf:a=b->b<=c->a<=c:=ag [a,b,c] 0x200002010061000263
theorem aag:a-b=0->a<=b:=ag [a,b] 72057598601343586
theorem Nx:a=b->a<=b+(c-d):=ag [a,b,c,d] 0x302031020001000264
theorem aah:a=b+(a-b)->c=b->c<=a:=ag [a,b,c] 0x2001020261000310200263
theorem aai:¬a<b->a=b+(a-b):=ag [a,b] 0x1000310200210001362
theorem aaj:a+b=c->d+(c-a)=d+b:=ag [a,b,c,d] 0x103020020330222010002264
theorem aak:a+(b-c)=a+(b+1-(c+1)):=ag [a,b,c] 0x112021110230022010300223
theorem Fk:a<b->b-(a+1)<b-a:=ag [a,b] 0x1031100210311000162
theorem aal:a+b<=1000000->a<=1000000:=ag [a,b] 0xf42407000000f4240710002062
theorem aam:a=b+c->a<=1000000->b<=1000000:=ag [a,b,c] 0xf42407100000f4240700062010200263
theorem aan:a+(b+1)=a+1+b:=ag [a,b] 0x101100221110200222
end
end Mine.Internal
namespace Mine.Internal
open PySem.W
noncomputable def Fn.{aiy}{α:Type aiy}(p:α->bb)(as:bD α)(start stop:B):bb:=
 match An start 0&&An stop as.size with
 |true=>as.toList.any p
 |false=>as.any p start stop
noncomputable def anyOf.{aiy}{α:Type aiy}(as:bD α)(p:α->bb)(start:B:=0)(stop:B:=as.size):bb:=Fn p as start stop
theorem any_eq.{aiy}:@bD.any.{aiy}=@anyOf.{aiy}:=by
 funext α as p start stop;show as.any p start stop=Fn p as start stop;unfold Fn;cases h:(An start 0&&An stop as.size) with
 |false=>rfl
 |true=>
  obtain⟨G,h2⟩:=fb.mp h;have e1:=Ke G;have e2:=Ke h2;subst e1 e2;simp
noncomputable def AV:tR:=by
 refine(λ(_:gC)=>?b) (by
  have e:tR.«type.__new__»=?b:=by
   delta tR.«type.__new__»;rw[any_eq.{0}]
  exact trivial)
theorem aao:tR.«type.__new__»=AV:=by
 delta tR.«type.__new__» AV;rw[any_eq.{0}]
theorem TTr:@iw=@iw:=rfl
name_quick TTq for iw by Mine.Internal.TTr
noncomputable def tb(id:dm):bC tR:=match id=="type.__new__" with
 |true=>some AV
 |false=>PySem.W.Fast.TTq id
theorem aap:iw "type.__new__"=some tR.«type.__new__»:=by kernel_rfl
theorem tb_eq:iw=tb:=by
 funext id;show iw id=match id=="type.__new__" with
 |true=>some AV
 |false=>PySem.W.Fast.TTq id
 generalize h:(id=="type.__new__")=b;cases b with
 |false=>exact fk PySem.W.Fast.TTq_eq id
 |true=>
  have e:=eq_of_beq h;exact(bA iw e).trans<|aap.trans<|bA some aao
noncomputable def eC(i:B):rZ:=match oH.main.body[i]? with
 |some s=>s
 |none=>.Pass ⟨0,0,0,0⟩
noncomputable def Ny{α:Type}(s:rZ)(aiA:Ap->J DY->J PySem.Keyword->J rZ->J DY->J PySem.TypeParam->DW->bC DW->Ap->J Ap->PySem.Pos->α)(d:α):α:=match s with
 | .ClassDef a b c l e g h i j m n=>aiA a b c l e g h i j m n
 |_=>d
noncomputable def Nz(s:rZ):J rZ:=Ny s (λH H H b H H H H H H H=>b) []
noncomputable def aaq(i j:B):rZ:=(Nz<|eC i)[j]?.getD<|.Pass ⟨0,0,0,0⟩
noncomputable def AW:J B->rZ
 | [i]=>eC i
 | [i,j]=>aaq i j
 |_=>.Pass ⟨0,0,0,0⟩
noncomputable def fBody(p:J B):J rZ:=match AW p with
 | .FunctionDef _ _ b .. =>b
 |_=>[]
noncomputable def fArgs(p:J B):PySem.Arguments:=match AW p with
 | .FunctionDef _ a .. =>a
 |_=>⟨[],[],none,[],[],none,[]⟩
noncomputable def fScope(p:J B):DW:=match AW p with
 | .FunctionDef _ _ _ _ _ _ s _ _ _=>s
 |_=>default
noncomputable def ib(p:J B):Ap:=(PySem.docOf<|fBody p++Nz (AW p)).getD default
open PySem
noncomputable def enc(l:J Char):B:=J.rec id (λc H e n=>B.casesOn (n*128+c.toNat) 0 λm=>e<|m+1) l.reverse 1
noncomputable def dec:B->B->J Char:=B.rec (λH=>[]) λH d n=>B.casesOn (n.div 128) [] λm=>Char.ofNat (n.mod 128)::d (m+1)
noncomputable def pick(b:B)(_:gC):J Char:=dec 4000 b.succ
noncomputable def Fo:J Char:=by
 refine pick ?b ((λH H=>trivial:ib [5]=ib [5]->Ao ?b=Ao ?b->gC) (by exact(by rfl:ib [5]=ft (Lg ?l)))<|by exact(by rfl:Ao ?b=enc ?l))
noncomputable abbrev Fp:ao:=⟨(Fo.map Char.toNat).toArray⟩
theorem D5e:ib [5]=Fp:=(by kernel_rfl:ib [5]=ft (Lg Fo)).trans<|Fast.ofString_ofList Fo
noncomputable def S5(d:ao):fq:=Ny (eC 5) (λa b c l e aiA g h i j m=>.ClassDef a b c (.Expr (.Constant (.str d) 0 ⟨71,4,143,7⟩) ⟨71,4,143,7⟩::l.tail) e aiA g h i j m)<|eC 5
theorem S5e:eC 5=S5 Fp:=xH (by kernel_rfl:eC 5=S5 (ib [5]))<|bA S5 D5e
noncomputable abbrev so:=ft
noncomputable abbrev vs(s:dm)(n:B):ak:=.str (so s) n
noncomputable abbrev vr(n:B):ak:=.ref n
noncomputable abbrev vi(z:az)(n:B):ak:=.int z n
noncomputable abbrev vt(s:dm):ak:=.type s
noncomputable abbrev vn:ak:=.none
noncomputable abbrev vb:ak:=.bool true
noncomputable abbrev vf:ak:=.bool false
noncomputable abbrev vc(n:B):ak:=vs "/claim/cut.py" n
noncomputable abbrev m1:ak:=vs "cpy313.difflib" 194
noncomputable abbrev m2:ak:=vs "cpy313.re" 648
noncomputable abbrev m3:ak:=vs "law_we0038_01" 804
noncomputable abbrev bm:="builtin_function_or_method"
noncomputable abbrev ob(c:ak)(d:Data):bc:=.mk c none d #[]
noncomputable abbrev of(c:ak)(v:bD ak):bc:=ob c<|.fields v
noncomputable abbrev tu(v:bD ak):bc:=ob (vt "tuple")<|.seq v 0
noncomputable abbrev cd(v:bD ak):bc:=of (vt "code") v
noncomputable abbrev fi(v:bD ak):bc:=of vn v
noncomputable abbrev fo(aiA:lD):bc:=ob (vt "function")<|.func aiA
noncomputable abbrev fp(aiA:lD):bc:=ob vn<|.func aiA
noncomputable abbrev fm(a b:dm)(p:J B):=lD.mk (so a) (so b) (fArgs p) (.stmts<|fBody p)<|fScope p
noncomputable abbrev AX(c l:B)(m:ak):bc:=.mk (vt "frame") none .plain #[some<|vr c,some<|vr 3,some<|vr l,none,some m,none,some<|vr 0]
noncomputable def vl:B->J dm->J ak
 |_,[]=>[]
 |t,s::l=>vs s t::vl (t+1) l
noncomputable abbrev AY(P:aP)(c:ak)(n:B)(l:J<|dm×B×ak):bc:=ob c<|.dict (l.map λx=>.mk (PyData.keyHash P<|so x.1) (vs x.1 x.2.1) x.2.2).toArray n
noncomputable abbrev dt(P:aP)(n:B)(l:J<|dm×B×ak):bc:=AY P (vt "dict") n l
noncomputable def di:B->J (az×dm)->J jz
 |_,[]=>[]
 |t,x::l=>.mk x.1 (vi x.1 t) (vs x.2<|t+4)::di (t+6) l
noncomputable abbrev cl(l:J<|dm×B×ak)(n:B):J (dm×B×ak):=(l.head?.toList++l.tail.tail).take n
noncomputable def AZ(s:dm)(t:B)(ln:az)(b:B):bc:=cd #[vs s t,vs s<|t+1,vc<|t+2,vi ln 0,vi 0 0,vi 0 0,vi 0 0,vi 0 0,vr b,vf,vi 181 0,vr<|b+1,vn,vn,vn,vn,vi (t+3) 0,vi ln 0,vc<|t+4]
noncomputable def fN(b t:B)(s q:dm)(p:J B)(ln ac kw fl:az)(ns:J dm)(df:ak)(doc:bb)(md:ak):J bc:=[tu #[],fi #[],tu (vl (t+3) ns).toArray,tu #[],fp<|fm s q p 0 [] vn vn vn vn none vn vn 0,cd #[vs s t,vs q<|t+1,vc<|t+2,vi ln 0,vi ac 0,vi kw 0,vi 0 0,vi fl 0,vr b,vb,vi 181 0,vr<|b+1,vn,vr<|b+2,vr<|b+3,vr<|b+4,vi (.ofNat<|t+3+U ns) 0,vi ln 0,vc<|t+4+U ns],fo<|fm s q p 3 [] df vn (match doc with|true=>.str (ib p) (t+5+U ns)|false=>vn) md none (vr<|b+5) vn 0]
noncomputable def NA:J (dm×B×ak):=[("__module__",203,m1),("__qualname__",205,vs "_tuplegetter" 204),("__firstlineno__",207,vi 5 206),("__init__",216,vr 35),("__get__",225,vr 43),("__set__",234,vr 50),("__delete__",242,vr 57),("__static_attributes__",245,vr 58)]
noncomputable def un(P:aP):J bc:=fN 15 187 "_wall" "_wall" [0] 1 1 0 3 ["k"] vn false (vs "__main__" 164)++[tu #[],of (vt bm) #[lG "type.__prepare__",vt "type"],dt P 8 NA,tu #[],fi #[vi 7 0,vi 4 0,vr 34,vi 11 0,vi 4 0,vr 42,vi 18 0,vi 4 0,vr 49,vi 21 0,vi 4 0,vr 56],AZ "_tuplegetter" 198 5 25,AX 27 24 m1]++fN 29 208 "__init__" "_tuplegetter.__init__" [2,0] 7 3 0 3 ["self","index","doc"] vn false m1++[tu #[vn]]++fN 37 217 "__get__" "_tuplegetter.__get__" [2,1] 11 3 0 3 ["self","obj","objtype"] (vr 36) false m1++fN 44 226 "__set__" "_tuplegetter.__set__" [2,2] 18 3 0 3 ["self","obj","value"] vn false m1++fN 51 235 "__delete__" "_tuplegetter.__delete__" [2,3] 21 2 0 3 ["self","obj"] vn false m1++[tu (vl 243 ["__doc__","index"]).toArray,dt P 4<|cl NA 7++[("__dict__",247,vr 61),("__weakref__",249,vr 62),("__doc__",250,vn)],t7 (vt "type") none (.cls<|.mk (so "_tuplegetter") [vt "object"] [vr 60,vt "object"] 59 (so "_tuplegetter") true [] [] false none false) #[none,none,(some<|vs "_tuplegetter" 196),(some<|vs "_tuplegetter" 204),(some<|lG "object.__new__"),(some vb)],of (vt "getset_descriptor") #[vs "__dict__" 246,vr 60,lG "function.__dict__",lG "function.__dict__#set"],of (vt "getset_descriptor") #[vs "__weakref__" 248,vr 60,lG "ExceptionGroup.__weakref__",vn],of (vt "super") #[vr 60,vr 60,vr 60],of (vt bm) #[lG "object.__init_subclass__",vr 60]]
noncomputable def NB:J (dm×B×ak):=[("__module__",260,m1),("__qualname__",262,vs "Match" 261),("__firstlineno__",264,vi 23 263),("__doc__",266,iW (ib [3]) 265),("__slots__",268,vr 73),("_fields",272,vr 74),("_field_defaults",273,vr 75),("__new__",284,vr 82),("_make",306,vr 91),("_replace",317,vr 100),("__replace__",318,vr 100),("__repr__",326,vr 107),("_asdict",333,vr 114),("__getnewargs__",341,vr 121),("__match_args__",345,vr 122),("a",355,vr 124),("b",365,vr 127),("size",375,vr 130),("__static_attributes__",376,vr 132),("__classcell__",377,vr 68)]
noncomputable def aar(_:aP):bc:=fo<|(fm "__new__" "Match.__new__" [3,4] 3 [] vn vn (iW (ib [3,4]) 283) m1 none (vr 81) vn 0)
noncomputable abbrev NC(P:aP):bc:=fo<|(fm "_make" "Match._make" [3,5] 3 [] vn vn (iW (ib [3,5]) 293) m1 (some 92) (vr 88) vn 0)
noncomputable abbrev A0(P:aP):bc:=dt P 2<|cl NB 6++[("__new__",284,vr 136),("_make",306,vr 91),("_replace",317,vr 100),("__replace__",318,vr 100),("__repr__",326,vr 107),("_asdict",333,vr 114),("__getnewargs__",341,vr 121),("__match_args__",345,vr 122),("a",355,vr 124),("b",365,vr 127),("size",375,vr 130),("__static_attributes__",376,vr 132)]
noncomputable def vX(P:aP):J bc:=[tu #[vt "tuple"],of (vt bm) #[lG "type.__prepare__",vt "type"],dt P 20 NB,ob (vt "cell")<|Data.cell<|some<|vr 135,tu #[],fi #[vi 29 0,vi 4 0,vr 81,vi 34 0,vi 4 0,vr 88,vi 41 0,vi 4 0,vr 99,vi 52 0,vi 4 0,vr 106,vi 56 0,vi 4 0,vr 113,vi 59 0,vi 4 0,vr 120],AZ "Match" 255 23 69,AX 71 67 m1,tu #[],tu (vl 269 ["a","b","size"]).toArray,dt P 0 []]++fN 76 274 "__new__" "Match.__new__" [3,4] 29 4 0 3 ["_cls","a","b","size"] vn true m1++[tu #[],fi #[],tu (vl 288 ["cls","iterable","result"]).toArray,tu #[],fp<|(fm "_make" "Match._make" [3,5] 0 [] vn vn vn vn none vn vn 0),cd #[vs "_make" 285,vs "Match._make" 286,vc 287,vi 33 0,vi 2 0,vi 0 0,vi 0 0,vi 3 0,vr 83,vb,vi 181 0,vr 84,vn,vr 85,vr 86,vr 87,vi 291 0,vi 33 0,vc 292],NC P,dt P 5 [("__module__",295,m1),("__name__",298,vs "_make" 297),("__qualname__",301,vs "Match._make" 300),("__doc__",303,iW (ib [3,5]) 293),("__annotations__",305,vr 92)],t7 (vt "classmethod") (some 90) (.fields #[vr 89,vf]) #[],dt P 0 [],tu #[vr 68],tu (vl 310 ["__class__"]).toArray,fi #[],tu (vl 311 ["self","kwds","result"]).toArray,tu #[],fp<|(fm "_replace" "Match._replace" [3,6] 0 [] vn vn vn vn none vn vn 0),cd #[vs "_replace" 307,vs "Match._replace" 308,vc 309,vi 41 0,vi 1 0,vi 1 0,vi 0 0,vi 11 0,vr 94,vb,vi 181 0,vr 95,vn,vr 96,vr 97,vr 98,vi 314 0,vi 41 0,vc 315],fo<|(fm "_replace" "Match._replace" [3,6] 3 [(EF (so "__class__") 68)] vn vn (iW (ib [3,6]) 316) m1 none (vr 99) (vr 93) 0)]++fN 101 319 "__repr__" "Match.__repr__" [3,8] 52 1 0 3 ["self"] vn true m1++fN 108 327 "_asdict" "Match._asdict" [3,9] 56 1 0 3 ["self"] vn false m1++fN 115 334 "__getnewargs__" "Match.__getnewargs__" [3,10] 59 1 0 3 ["self"] vn true m1++[tu (vl 342 ["a","b","size"]).toArray,dt P 2 [("index",352,vi 0 346),("__doc__",354,vs "Alias for field number 0" 347)],t7 (vr 60) (some 123) .plain #[],AY P (vt "frame") 3 [("self",348,vr 124),("index",349,vi 0 346),("doc",350,vs "Alias for field number 0" 347)],dt P 2 [("index",362,vi 1 356),("__doc__",364,vs "Alias for field number 1" 357)],t7 (vr 60) (some 126) .plain #[],AY P (vt "frame") 3 [("self",358,vr 127),("index",359,vi 1 356),("doc",360,vs "Alias for field number 1" 357)],dt P 2 [("index",372,vi 2 366),("__doc__",374,vs "Alias for field number 2" 367)],t7 (vr 60) (some 129) .plain #[],AY P (vt "frame") 3 [("self",368,vr 130),("index",369,vi 2 366),("doc",370,vs "Alias for field number 2" 367)],tu #[],ob (vt "list")<|Data.seq #[] 0,A0 P,t7 (vt "type") none (.cls<|.mk (so "Match") [vt "tuple"] [vr 135,vt "tuple",vt "object"] 134 (so "Match") false [] [] false none false) #[(some<|vr 65),none,(some<|vs "Match" 253),(some<|vs "Match" 261),(some vn),(some vf)],of (vt "staticmethod") #[vr 82],of (vt "super") #[vr 135,vr 135,vr 135],of (vt bm) #[lG "object.__init_subclass__",vr 135]]
noncomputable def xS(P:aP):J bc:=fN 139 381 "_calculate_ratio" "_calculate_ratio" [4] 66 2 0 3 ["matches","length"] vn false m1
noncomputable def ND:J (dm×B×ak):=[("__module__",396,m1),("__qualname__",398,vs "SequenceMatcher" 397),("__firstlineno__",400,vi 70 399),("__doc__",402,iW Fp 401),("__init__",417,vr 160),("set_seqs",427,vr 167),("set_seq1",436,vr 174),("set_seq2",445,vr 181),("_SequenceMatcher__chain_b",463,vr 188),("find_longest_match",491,vr 196),("get_matching_blocks",518,vr 203),("get_opcodes",533,vr 210),("get_grouped_opcodes",551,vr 218),("ratio",560,vr 225),("quick_ratio",567,vr 232),("real_quick_ratio",574,vr 239),("__static_attributes__",585,vr 240)]
noncomputable abbrev Fq(P:aP):bc:=tu #[vn,vs "" 404,vs "" 405,vb]
noncomputable def aas(_:aP):bc:=fo<|(fm "__init__" "SequenceMatcher.__init__" [5,1] 3 [] (vr 153) vn (iW (ib [5,1]) 416) m1 none (vr 159) vn 0)
noncomputable def aat(_:aP):bc:=fo<|(fm "set_seqs" "SequenceMatcher.set_seqs" [5,2] 3 [] vn vn (iW (ib [5,2]) 426) m1 none (vr 166) vn 0)
noncomputable def aau(_:aP):bc:=fo<|(fm "set_seq1" "SequenceMatcher.set_seq1" [5,3] 3 [] vn vn (iW (ib [5,3]) 435) m1 none (vr 173) vn 0)
noncomputable def aav(_:aP):bc:=fo<|(fm "set_seq2" "SequenceMatcher.set_seq2" [5,4] 3 [] vn vn (iW (ib [5,4]) 444) m1 none (vr 180) vn 0)
noncomputable def aaw(_:aP):bc:=fo<|(fm "__chain_b" "SequenceMatcher.__chain_b" [5,5] 3 [] vn vn vn m1 none (vr 187) vn 0)
noncomputable abbrev Fr(P:aP):bc:=tu #[vi 0 464,vn,vi 0 465,vn]
noncomputable def aax(_:aP):bc:=fo<|(fm "find_longest_match" "SequenceMatcher.find_longest_match" [5,6] 3 [] (vr 189) vn (iW (ib [5,6]) 490) m1 none (vr 195) vn 0)
noncomputable def aay(_:aP):bc:=fo<|(fm "get_matching_blocks" "SequenceMatcher.get_matching_blocks" [5,7] 3 [] vn vn (iW (ib [5,7]) 517) m1 none (vr 202) vn 0)
noncomputable def aaz(_:aP):bc:=fo<|(fm "get_opcodes" "SequenceMatcher.get_opcodes" [5,8] 3 [] vn vn (iW (ib [5,8]) 532) m1 none (vr 209) vn 0)
noncomputable abbrev Ba(P:aP):bc:=tu #[vi 3 534]
noncomputable def Bb(_:aP):bc:=fo<|(fm "get_grouped_opcodes" "SequenceMatcher.get_grouped_opcodes" [5,9] 3 [] (vr 211) vn (iW (ib [5,9]) 550) m1 none (vr 217) vn 0)
noncomputable abbrev Bc(P:aP):bc:=dt P 3<|cl ND 16++[("__dict__",587,vr 243),("__weakref__",589,vr 244)]
noncomputable def Bd(P:aP):J bc:=[tu #[],of (vt bm) #[lG "type.__prepare__",vt "type"],dt P 17 ND,tu #[],fi #[vi 145 0,vi 4 0,vr 159,vi 173 0,vi 4 0,vr 166,vi 184 0,vi 4 0,vr 173,vi 209 0,vi 4 0,vr 180,vi 236 0,vi 4 0,vr 187,vi 260 0,vi 4 0,vr 195,vi 335 0,vi 4 0,vr 202,vi 383 0,vi 4 0,vr 209,vi 430 0,vi 4 0,vr 217,vi 475 0,vi 4 0,vr 224,vi 499 0,vi 4 0,vr 231,vi 502 0,vi 4 0,vr 238],AZ "SequenceMatcher" 391 70 149,AX 151 148 m1,Fq P]++fN 154 406 "__init__" "SequenceMatcher.__init__" [5,1] 145 5 0 3 ["self","isjunk","a","b","autojunk"] (vr 153) true m1++fN 161 418 "set_seqs" "SequenceMatcher.set_seqs" [5,2] 173 3 0 3 ["self","a","b"] vn true m1++fN 168 428 "set_seq1" "SequenceMatcher.set_seq1" [5,3] 184 2 0 3 ["self","a"] vn true m1++fN 175 437 "set_seq2" "SequenceMatcher.set_seq2" [5,4] 209 2 0 3 ["self","b"] vn true m1++fN 182 446 "__chain_b" "SequenceMatcher.__chain_b" [5,5] 236 1 0 3 ["self","b","b2j","i","elt","indices","junk","isjunk","popular","n","ntest","idxs"] vn false m1++[Fr P]++fN 190 466 "find_longest_match" "SequenceMatcher.find_longest_match" [5,6] 260 5 0 3 ["self","alo","ahi","blo","bhi","a","b","b2j","isbjunk","besti","bestj","bestsize","j2len","nothing","i","j2lenget","newj2len","j","k"] (vr 189) true m1++fN 197 492 "get_matching_blocks" "SequenceMatcher.get_matching_blocks" [5,7] 335 1 0 3 ["self","la","lb","queue","matching_blocks","alo","ahi","blo","bhi","i","j","k","x","i1","j1","k1","non_adjacent","i2","j2","k2"] vn true m1++fN 204 519 "get_opcodes" "SequenceMatcher.get_opcodes" [5,8] 383 1 0 3 ["self","i","j","answer","ai","bj","size","tag"] vn true m1++[Ba P]++fN 212 535 "get_grouped_opcodes" "SequenceMatcher.get_grouped_opcodes" [5,9] 430 2 0 35 ["self","n","codes","tag","i1","i2","j1","j2","nn","group"] (vr 211) true m1++fN 219 552 "ratio" "SequenceMatcher.ratio" [5,10] 475 1 0 3 ["self","matches"] vn true m1++fN 226 561 "quick_ratio" "SequenceMatcher.quick_ratio" [5,11] 499 1 0 3 ["self"] vn false m1++fN 233 568 "real_quick_ratio" "SequenceMatcher.real_quick_ratio" [5,12] 502 1 0 3 ["self"] vn false m1++[tu (vl 575 ["a","autojunk","b","b2j","bjunk","bpopular","fullbcount","isjunk","matching_blocks","opcodes"]).toArray,Bc P,t7 (vt "type") none (.cls<|.mk (so "SequenceMatcher") [vt "object"] [vr 242,vt "object"] 241 (so "SequenceMatcher") true [] [] false none false) #[none,none,(some<|vs "SequenceMatcher" 389),(some<|vs "SequenceMatcher" 397),(some<|lG "object.__new__"),(some vb)],of (vt "getset_descriptor") #[vs "__dict__" 586,vr 242,lG "function.__dict__",lG "function.__dict__#set"],of (vt "getset_descriptor") #[vs "__weakref__" 588,vr 242,lG "ExceptionGroup.__weakref__",vn],of (vt "super") #[vr 242,vr 242,vr 242],of (vt bm) #[lG "object.__init_subclass__",vr 242]]
noncomputable def aaA(_:aP):bc:=fo<|(fm "_format_range_unified" "_format_range_unified" [6] 3 [] vn vn (iW (ib [6]) 601) m1 none (vr 252) vn 0)
noncomputable abbrev Be(P:aP):bc:=tu #[vs "" 603,vs "" 604,vs "" 605,vs "" 606,vi 3 607,vs "\n" 608]
noncomputable def xU(_:aP):bc:=fo<|(fm "unified_diff" "unified_diff" [7] 3 [] (vr 254) vn (iW (ib [7]) 636) m1 none (vr 260) vn 0)
noncomputable def aaB(_:aP):bc:=fo<|(fm "_check_types" "_check_types" [8] 3 [] vn vn vn m1 none (vr 267) vn 0)
noncomputable def Fs(P:aP):J bc:=fN 247 592 "_format_range_unified" "_format_range_unified" [6] 504 2 0 3 ["start","stop","beginning","length"] vn true m1++[Be P]++fN 255 609 "unified_diff" "unified_diff" [7] 513 8 0 35 ["a","b","fromfile","tofile","fromfiledate","tofiledate","n","lineterm","started","group","fromdate","todate","first","last","file1_range","file2_range","tag","i1","i2","j1","j2","line"] (vr 254) true m1++fN 262 638 "_check_types" "_check_types" [8] 576 2 0 7 ["a","b","args","arg"] vn false m1
noncomputable abbrev Bf(P:aP):bc:=ob (vt "dict")<|.dict (di 651 [(40,"\\("),(41,"\\)"),(91,"\\["),(93,"\\]"),(123,"\\{"),(125,"\\}"),(63,"\\?"),(42,"\\*"),(43,"\\+"),(45,"\\-"),(124,"\\|"),(94,"\\^"),(36,"\\$"),(92,"\\\\"),(46,"\\."),(38,"\\&"),(126,"\\~"),(35,"\\#"),(32,"\\ "),(9,"\\\t"),(10,"\\\n"),(13,"\\\x0d"),(11,"\\\x0b"),(12,"\\\x0c")]).toArray 24
noncomputable def NE(P:aP):J bc:=[of (vt "bytes_iterator") #[vn,vi 24 0],Bf P,dt P 2 [],tu #[],of (vt "StopIteration") #[vr 272,vn,vn,vn,vf,vn]]
noncomputable def aaC(_:aP):bc:=fo<|(fm "escape" "escape" [11] 3 [] vn vn (iW (ib [11]) 802) m2 none (vr 279) vn 0)
noncomputable def NH(_:aP):bc:=fo<|(fm "_law_text" "_law_text" [13] 3 [] vn vn vn m3 none (vr 286) vn 0)
noncomputable def aaD(_:aP):bc:=fo<|(fm "_law_special" "_law_special" [14] 3 [] vn vn vn m3 none (vr 293) vn 0)
noncomputable def aaE(_:aP):bc:=fo<|(fm "_law_rows" "_law_rows" [15] 3 [] vn vn vn m3 none (vr 300) vn 0)
noncomputable def aaF(_:aP):bc:=fo<|(fm "_law_range" "_law_range" [16] 3 [] vn vn vn m3 none (vr 307) vn 0)
noncomputable abbrev xV(P:aP):bc:=fo<|(fm "_law_report" "_law_report" [17] 3 [] vn vn vn m3 none (vr 312) vn 0)
noncomputable abbrev su(P:aP):bc:=fo<|(fm "law" "law" [18] 3 [] vn vn vn m3 none (vr 317) vn 0)
noncomputable def Gg6(P:aP):J bc:=fN 274 796 "escape" "escape" [11] 586 1 0 3 ["pattern"] vn true m2++fN 281 806 "_law_text" "_law_text" [13] 596 1 0 3 ["script","text","number","way","rest","code"] vn false m3++fN 288 818 "_law_special" "_law_special" [14] 612 1 0 3 ["sign","code"] vn false m3++fN 295 826 "_law_rows" "_law_rows" [15] 617 1 0 3 ["steps","rows","coming","old","new"] vn false m3++fN 302 837 "_law_range" "_law_range" [16] 630 2 0 3 ["start","size"] vn false m3++[tu #[],fi #[],fp<|(fm "_law_report" "_law_report" [17] 0 [] vn vn vn vn none vn vn 0),cd #[vs "_law_report" 845,vs "_law_report" 846,vc 847,vi 636 0,vi 4 0,vi 0 0,vi 0 0,vi 3 0,vr 309,vb,vi 181 0,vr 310,vn,vn,vn,vr 311,vi 848 0,vi 636 0,vc 849],xV P,tu #[],fi #[],fp<|(fm "law" "law" [18] 0 [] vn vn vn vn none vn vn 0),cd #[vs "law" 851,vs "law" 852,vc 853,vi 656 0,vi 1 0,vi 0 0,vi 0 0,vi 3 0,vr 314,vb,vi 181 0,vr 315,vn,vn,vn,vr 316,vi 854 0,vi 656 0,vc 855],su P]
noncomputable def e3:J (dm×B×ak):=[("__doc__",166,vn),("__package__",167,vn),("__loader__",168,lG "__main__.__loader__#opaque"),("__spec__",169,vn),("__annotations__",170,vr 6),("__builtins__",171,vr 4),("__file__",173,vc 172),("__cached__",174,vn),("_wall",193,vr 21),("_tuplegetter",252,vr 60),("Match",380,vr 135),("_calculate_ratio",388,vr 145),("SequenceMatcher",591,vr 242),("_format_range_unified",602,vr 253),("unified_diff",637,vr 261),("_check_types",647,vr 268),("_special_chars_map",795,vr 270),("escape",803,vr 280),("_law_text",817,vr 287),("_law_special",825,vr 294),("_law_rows",836,vr 301),("_law_range",844,vr 308),("_law_report",850,vr 313),("law",856,vr 318)]
noncomputable def aaG(l:J<|az×B):J ak:=l.flatMap λx=>[vi x.1 0,vi 0 0,vr x.2]
noncomputable def e12:J (az×B):=[(1,20),(5,27),(23,71),(66,144),(70,151),(504,252),(513,260),(576,267),(586,279),(596,286),(612,293),(617,300),(630,307),(636,312),(656,317)]
noncomputable abbrev Ft:Life:=.mk [] [] [] 0 [] [] false #[] [] 0 false false false 0 [2000,10,10] false 0 true [] [] 0 false
noncomputable def al:bb->J bc->J bc
 |_,[]=>[]
 |true,x::l=>x::al false l
 |false,_::l=>al true l
noncomputable def Fu:B->J bc->BT
 |0,_=>.nil
 |_,[]=>.nil
 |n+1,x::l=>.node x (Fu n<|al true l)<|Fu n<|al false l
noncomputable def hl(P:aP)(x y:bc)(l:J bc):J bc:=[boot_o_0 P,boot_o_1 P,boot_o_2 P,x,boot_o_4 P,boot_o_5 P,boot_o_6 P,boot_o_7 P,boot_o_8 P,boot_o_9 P,boot_o_10 P,tu #[],y,AZ "<module>" 182 1 11,AX 13 3<|vs "__main__" 164]++l
noncomputable abbrev o3(P:aP)(m:ak)(k n:B):bc:=dt P n<|("__name__",165,m)::e3.take k
noncomputable abbrev uo(k:B):bc:=fi (aaG<|e12.take k).toArray
noncomputable def u(P:aP):J bc:=hl P (boot_o_3 P) (fi #[]) []
noncomputable def lg0(P:aP):J bc:=hl P (o3 P m1 10 11) (uo 2)<|un P
noncomputable def lg1(P:aP):J bc:=hl P (o3 P m1 11 12) (uo 3)<|un P++vX P
noncomputable def lg2(P:aP):J bc:=hl P (o3 P m1 12 13) (uo 4)<|un P++vX P++xS P
noncomputable def lg3(P:aP):J bc:=hl P (o3 P m1 13 14) (uo 5)<|un P++vX P++xS P++Bd P
noncomputable def lg4(P:aP):J bc:=hl P (o3 P m2 16 17) (uo 8)<|un P++vX P++xS P++Bd P++Fs P
noncomputable def lg5(P:aP):J bc:=hl P (o3 P m2 17 18) (uo 8)<|un P++vX P++xS P++Bd P++Fs P++NE P
noncomputable def NI(P:aP):J bc:=hl P (o3 P m3 24 25) (uo 15)<|un P++vX P++xS P++Bd P++Fs P++NE P++Gg6 P
noncomputable def TT(l:J bc)(n t:B)(os:bM):mL:=.mk (Fu 10 l) n Ft #[] (.mk 0 0 0 0) t os
noncomputable abbrev Tb(w:bx)(os:bM):mL:=TT (u w.params) 15 187 os
noncomputable abbrev NJ(w:bx)(os:bM):mL:=TT (lg0 w.params) 65 253 os
noncomputable abbrev NK(w:bx)(os:bM):mL:=TT (lg1 w.params) 139 381 os
noncomputable abbrev NL(w:bx)(os:bM):mL:=TT (lg2 w.params) 146 389 os
noncomputable abbrev NM(w:bx)(os:bM):mL:=TT (lg3 w.params) 247 592 os
noncomputable abbrev Fv(w:bx)(os:bM):mL:=TT (lg4 w.params) 269 650 os
noncomputable abbrev Fw(w:bx)(os:bM):mL:=TT (lg5 w.params) 274 796 os
noncomputable abbrev Fx(w:bx)(os:bM):mL:=TT (NI w.params) 319 857 os
noncomputable abbrev NO(P:aP):bc:=o3 P m3 24 25
noncomputable abbrev pw:=oH
noncomputable def pT:Env:={scope:=pw.main.scope,locals:=mainNs,globals:=mainNs,cells:=[],code:=.ref 13,frame:=some 14}
noncomputable def iC:nP:=.body (behindTheImports pw) pT
noncomputable def oM:J nO:=[topFrame ⟨0,0,0,0⟩]
noncomputable def S0(w:bx)(os:bM):ay:=.mk (g9 w.params) #[] boot_drawn boot_toks os
noncomputable abbrev r6:bC ak:=some<|.ref 6
noncomputable def hpa(P:aP):bn:=.mk (.mk<|u P) Ft
noncomputable def Sa(w:bx)(os:bM):ay:=.mk (hpa w.params) #[] (.mk 0 0 0 0) 187 os
noncomputable def K1(p:du)(w:bx)(s:ay)(t:qS):=topGo iw p w 11 r6 12 s t
noncomputable def K2(p:du)(w:bx)(s:ay)(t:qS):=qX iw p w 11 r6 1 1 s t
noncomputable def K3(p:du)(w:bx)(n:B)(s:mL)(t:qS):=segRunT iw p w 11 r6 1 n s t
noncomputable def K4(T:dm->bC ed)(p:du)(w:bx)(n:B)(s:mL)(t:qS):=segRunT T p w 11 r6 1 n s t
noncomputable def K5(p:du)(w:bx)(s:ay)(t:qS):=topRun iw p w 11 r6 2 s t
noncomputable def K6(s:ay)(c:nP):bC (ay×qS):=some (s,.mk (denote iw c) c ⟨0,0,0,0⟩ oM)
theorem K1r:@K1=@K1:=rfl
name_quick K1q for Mine.Internal.K1 by Mine.Internal.K1r
theorem K2r:@K2=@K2:=rfl
name_quick K2q for Mine.Internal.K2 by Mine.Internal.K2r
theorem K3r:@K3=@K3:=rfl
name_quick K3q for Mine.Internal.K3 by Mine.Internal.K3r
theorem K4r:@K4=@K4:=rfl
name_quick K4q for Mine.Internal.K4 by Mine.Internal.K4r
theorem K5r:@K5=@K5:=rfl
name_quick K5q for Mine.Internal.K5 by Mine.Internal.K5r
theorem K6r:@K6=@K6:=rfl
name_quick K6q for Mine.Internal.K6 by Mine.Internal.K6r
theorem aaH(w:bx)(os:bM):K1 pw w (S0 w os) (topStub pw)=K6 (Sa w os) iC:=(fk (fk (fk (fk Fast.K1q_eq pw) w)<|S0 w os)<|topStub pw).trans<|(by kernel_rfl:_=Fast.K6q (Sa w os) iC).trans (fk (fk Fast.K6q_eq<|Sa w os) iC).symm
noncomputable abbrev NP:=blockOf (behindTheImports pw) pT iC ⟨0,0,0,0⟩ oM
theorem aaI(w:bx)(os:bM):K2 pw w (Sa w os) NP=some (pN,(Tb w os).abs,iC,⟨0,0,0,0⟩):=(fk (fk (fk (fk Fast.K2q_eq pw) w)<|Sa w os) NP).trans (by kernel_rfl)
theorem ra(p:du)(w:bx)(n:B)(s:mL)(t:qS){r}(h:Fast.K3q p w n s t=r):segRunT iw p w 11 r6 1 n s t=r:=(fk (fk (fk (fk (fk Fast.K3q_eq p) w) n) s) t).trans h
theorem e4q(p:du)(w:bx)(n:B)(s:mL)(t:qS){r}(h:Fast.K4q tb p w n s t=r):segRunT tb p w 11 r6 1 n s t=r:=(fk (fk (fk (fk (fk (fk Fast.K4q_eq tb) p) w) n) s) t).trans h
noncomputable def NQ:J fq:=[eC 0,eC 1,eC 2]
noncomputable def NR:J fq:=[eC 3]
noncomputable def NS:J fq:=[eC 4]
noncomputable def Fy:J fq:=[eC 5]
noncomputable def NT:J fq:=[eC 6,eC 7,eC 8,eC 9]
noncomputable def Fz:J fq:=[eC 10]
noncomputable def NU:J fq:=[eC 11,eC 12,eC 13,eC 14,eC 15,eC 16,eC 17,eC 18]
theorem aaJ(w:bx)(os:bM):qX iw pw w 11 r6 1 362 (Tb w os).abs (sd NQ pT iC ⟨0,0,0,0⟩ oM)=some (pN,(NJ w os).abs,iC,⟨5,0,22,54⟩):=segRun_of (ra _ _ _ _ _<|by kernel_rfl)
theorem aaK(w:bx)(os:bM):qX iw pw w 11 r6 1 1047 (NJ w os).abs (sd NR pT iC ⟨5,0,22,54⟩ oM)=some (pN,(NK w os).abs,iC,⟨23,0,65,54⟩):=segRun_of (ra _ _ _ _ _<|by kernel_rfl)
theorem aaL(w:bx)(os:bM):qX iw pw w 11 r6 1 31 (NK w os).abs (sd NS pT iC ⟨23,0,65,54⟩ oM)=some (pN,(NL w os).abs,iC,⟨66,0,69,14⟩):=segRun_of (ra _ _ _ _ _<|by kernel_rfl)
theorem aaM(w:bx)(os:bM):qX iw pw w 11 r6 1 666 (NL w os).abs (sd Fy pT iC ⟨66,0,69,14⟩ oM)=some (pN,(NM w os).abs,iC,⟨70,0,503,16⟩):=by unfold Fy;rw[tb_eq,S5e];exact segRun_of (e4q _ _ _ _ _<|by kernel_rfl)
theorem aaN(w:bx)(os:bM):qX iw pw w 11 r6 1 133 (NM w os).abs (sd NT pT iC ⟨70,0,503,16⟩ oM)=some (pN,(Fv w os).abs,iC,⟨584,0,584,8⟩):=segRun_of (ra _ _ _ _ _<|by kernel_rfl)
noncomputable abbrev FA(w:bx):Prop:=∀os,qX iw pw w 11 r6 1 1253 (Fv w os).abs (sd Fz pT iC ⟨584,0,584,8⟩ oM)=some (pN,(Fw w os).abs,iC,⟨585,0,585,18⟩)
theorem aaO(w:bx)(os:bM):qX iw pw w 11 r6 1 1253 (Fv w os).abs (sd Fz pT iC ⟨584,0,584,8⟩ oM)=some (pN,(Fw w os).abs,iC,⟨585,0,585,18⟩):=byRow2 "comprehension-iter-twice" (P:=FA) (byRow2 "special-get-raises" (P:=λw=>FA<|w.withFollow "comprehension-iter-twice" false) (λw os=>segRun_of<|ra _ _ _ _ _<|by kernel_rfl) λw os=>segRun_of<|ra _ _ _ _ _<|by kernel_rfl) (byRow2 "special-get-raises" (P:=λw=>FA<|w.withFollow "comprehension-iter-twice" true) (λw os=>segRun_of<|ra _ _ _ _ _<|by kernel_rfl) λw os=>segRun_of<|ra _ _ _ _ _<|by kernel_rfl) w os
theorem aaP(w:bx)(os:bM):qX iw pw w 11 r6 1 219 (Fw w os).abs (sd NU pT iC ⟨585,0,585,18⟩ oM)=some (pN,(Fx w os).abs,iC,⟨656,0,696,75⟩):=segRun_of (ra _ _ _ _ _<|by kernel_rfl)
@[irreducible] noncomputable def bZ(P:aP):bn:=.mk (.mk<|NI P) Ft
noncomputable def Sf(w:bx)(os:bM):ay:=.mk (bZ w.params) #[] (.mk 0 0 0 0) 857 os
noncomputable abbrev NV:qS:=.mk (doneF pN) iC ⟨656,0,696,75⟩ oM
theorem aaQ(w:bx)(os:bM):K5 pw w (Fx w os).abs NV=some (Sf w os):=(fk (fk (fk (fk Fast.K5q_eq pw) w) (Fx w os).abs) NV).trans (by kernel_rfl)
theorem aaR:behindTheImports pw=(NQ++(NR++(NS++(Fy++(NT++(Fz++(NU++[]))))))):=by kernel_rfl
theorem aaS(w:bx)(os:bM):topRun iw pw w 11 r6 (qO 12<|qO 1<|qO 362<|qO 1047<|qO 31<|qO 666<|qO 133<|qO 1253<|qO 219 2) (S0 w os) (topStub pw)=some (Sf w os):=by
 refine go_top (aaH w os)<|piece_block (aaI w os) ?_;rw[aaR];exact piece_app (aaJ w os)<|piece_app (aaK w os)<|piece_app (aaL w os)<|piece_app (aaM w os)<|piece_app (aaN w os)<|piece_app (aaO w os)<|piece_app (aaP w os)<|piece_nil<|aaQ w os
end Mine.Internal
namespace Mine.Internal
open PySem PyProof.Rows
section
variable{g:B->bb}{C:Cx}{ρ aB mf:J ax}{hp jh aZ:J O}{s s':ay}{h h':bn}{a it c N fI:ax}{α κ:Type}{x nm:ao}{st aj am ba ce:St}{k n q j lo d:B}{o oI:bc}{ob:O}{v aiy:V}{y:ak}{m mg mN:ao->bC ak}{b:bb}{i:az}{aiA:B->B}{l args vs items:J V}{w:bx}{T:dm}{p p' pos tp apos:cN}{e t target r1 r2 value:bB}{r ss body orelse:J fq}{K:Fl->St->Prop}{A:bS}{Q:ak->ay->Prop}{es elts:J bB}{env:Env}{fd:lD}{names sn:J ao}{aiw:St->Prop}{l':J (ao×V)}{o1 o2:CmpOp}{bs rest:J ak}{col:bC bb}{dd:bC ax}{k0 k1 k2 k3 k5:bC ak}
structure Wd where
 prog:du
 w:bx
 top:bn
 os:bM
 drawn:cV
 last:∃o,top.get? (top.objs.size-1)=some o
structure Cx extends Wd where
 env:Env
noncomputable def oN:bx:=⟨λH H=>0,{strHash:=λH=>0,shareClass:=λH=>0,mergeTok:=id,idOf:=λH=>0,idOfShared:=λH H=>0,followText:=λH=>true,idOfImm:=λH=>0}⟩
noncomputable def aaT:Cx:=⟨⟨default,oN,(default:bn).push default,default,{},⟨_,rfl⟩⟩,default⟩
structure St where
 loc:J (ao×V)
 hp:J O
noncomputable def eN(g g':bD de):Prop:=(∀(i:B) (x:de),g[i]?=some x->g'[i]?=some x)/\∀(i:B) (x:de),g.size<=i->g'[i]?=some x->x= .finished
theorem eN.refl(g:bD de):eN g g:=⟨λH H e=>e,λi x h e=>by
 have:=(jW.mp e).1;exact(Lz this h).elim⟩
theorem eN.trans{g g' NW:bD de}(x:eN g g')(y:eN g' NW):eN g NW:=by
 refine⟨λi z e=>y.1 i z<|x.1 i z e,λi z h e=>?_⟩
 by_cases hi:i<g'.size
 ·have:g'[i]?=some g'[i]:=ia hi;have q:=x.2 i _ h this;simp only[y.1 i _ this] at e
  (have:=cj e;clear e;subst this);exact q
 ·exact y.2 i z (by exact iR ‹_›) e
noncomputable def uq(C:Cx)(ρ:J ax)(h:bn)(loc:J<|ao×V):Prop:=
 ∃m,h.Ns C.env.locals m/\∀x v,loc.lookup x=some v->∃y,m x=some y/\v.Is ρ h y
structure Led(C:Cx)(ρ:J ax)(hp:J O)(s:ay):Prop where
 len:U ρ=U hp
 objs:∀(k:B) (o:O) (a:ax),hp[k]?=some o->ρ[k]?=some a->o.Is C.w ρ s.heap a
 nodup:ρ.Nodup
 fB:C.env.locals∉ρ
 low:∀a∈ρ,C.top.objs.size<=a
 gQ:C.top.get? C.env.locals=aA
 top:∀b o,C.top.get? b=some o->s.heap.get? b=some o
 os:s.os=C.os
 drawn:s.drawn=C.drawn
theorem Led.size{C:Cx}{ρ:J ax}{hp:J O}{s:ay}(L:Led C ρ hp s):C.top.objs.size<=s.heap.objs.size:=by
 refine xE C.last λo h=>?_
 have G:C.top.objs.size-1<C.top.objs.size:=dH h;have h2:C.top.objs.size-1<s.heap.objs.size:=dH<|L.top _ _ h;exact ZJ h2
theorem xW(e:h.objs.size<=a):h.get? a=aA:=by
 cases q:h.get? a with
 |none=>rfl
 |some o=>exact aY (dH q)<|iT.mpr e
structure Rep(C:Cx)(ρ:J ax)(st:St)(s:ay):Prop where
 loc:uq C ρ s.heap st.loc
 led:Led C ρ st.hp s
theorem pU:∀{l:J ax},l.Nodup->∀{i j:B} {a:ax},l[i]?=some a->l[j]?=some a->i=j
 | [],_,i,j,a,e,_=>by exact nomatch e
 |x::l,hn,0,0,a,_,_=>rfl
 |x::l,hn,0,j+1,a,e,q=>by
  cases e;exact aY (dT (by simpa using q)) (l5.mp hn).1
 |x::l,hn,i+1,0,a,e,q=>by
  cases q;exact aY (dT (by simpa using e)) (l5.mp hn).1
 |x::l,hn,i+1,j+1,a,e,q=>by
  exact D (pU (l5.mp hn).2 (i:=i) (j:=j) (by simpa using e)<|by simpa using q) rfl
theorem FB{α:Type}{x z:ao}{aiy:α}(hz:z≠x):∀{l:J (ao×α)},(l.filter λp=> !(p.1==x)).lookup z=some aiy->l.lookup z=some aiy
 | []=>λe=>by simp at e
 |(p1,p2)::l=>λe=>by
  by_cases hp:p1=x
  ·subst hp;have hb:(z==p1)=false:=by simpa using hz
   simp only[pF,xl,Kz,As,xn] at e;exact D gv<|D hb<|FB hz e
  ·have:(p1==x)=false:=by simpa using hp
   simp only[pF,this,D7,xo] at e;rw[gv] at e ⊢;cases hq:z==p1 with
   |true=>rw[hq] at e;exact e
   |false=>rw[hq] at e;exact FB hz e
theorem Led.at(L:Led C ρ hp s){o:O}(e:hp[k]?=some o):∃a,ρ[k]?=some a/\o.Is C.w ρ s.heap a/\a∈ρ:=by
 have hk:k<U ρ:=by exact D L.len<|(cJ.mp e).1
 exact⟨ρ[k],bO hk,L.objs k o _ e<|bO hk,nE hk⟩
theorem Rep.toks(R:Rep C ρ st s)(n:B):Rep C ρ st {s with toks:=n}:=⟨R.loc,⟨R.led.len,R.led.objs,R.led.nodup,R.led.fB,R.led.low,R.led.gQ,R.led.top,R.led.os,R.led.drawn⟩⟩
theorem Led.Bg(L:Led C ρ hp s):s.heap.objs.size∉ρ:=λh=>by
 obtain⟨k,hk,e⟩:=mE h;have eS:k<U hp:=by exact bL L.len hk
 refine aH ((L.objs k hp[k] s.heap.objs.size (bO eS)<|by refine bL e ?_;exact bO hk).there) λob ho H=>?_
 exact aY (dH ho)<|jf _
theorem Rep.push(R:Rep C ρ st s)(o:bc):Rep C ρ st {s with heap:=s.heap.push o}:=by
 have hs:=bF.push s.heap o;have kp:∀b o',s.heap.get? b=some o'->(s.heap.push o).get? b=some o':=λb o' e=>dD o e;refine⟨?_,⟨R.led.len,λk ob a e q=>?_,R.led.nodup,R.led.fB,R.led.low,R.led.gQ,λb o' e=>kp _ _<|R.led.top b o' e,R.led.os,R.led.drawn⟩⟩
 ·refine aH R.loc λm hn hm=>?_
  exact⟨m,hn.push o,λx v e=>by obtain⟨y,hy,q⟩:=hm x v e;exact⟨y,hy,q.mono (bP _) hs⟩⟩
 ·have z:=R.led.objs k ob a e q;exact aH z.there λx hx H=>(z.mono (bP _) hs<|(kp _ _ hx).trans hx.symm)
theorem Rep.alloc(R:Rep C ρ st s)(hf:o.isFreed=false)(hi:ob.Is C.w (ρ++[s.heap.objs.size]) (s.heap.push o) s.heap.objs.size):
  Rep C (ρ++[s.heap.objs.size]) ⟨st.loc,st.hp++[ob]⟩ {s with heap:=s.heap.push o}:=by
 have R':=R.push o;have hp:ρ<+:ρ++[s.heap.objs.size]:=gK ..;have lt:C.env.locals<s.heap.objs.size:=by obtain⟨m,hn,_⟩:=R.loc;exact hn.lt
 have hL:C.top.objs.size<=s.heap.objs.size:=R.led.size;refine⟨?_,⟨?_,λk ob' a e q=>?_,?_,?_,λa ha=>?_,R.led.gQ,R'.led.top,R.led.os,R.led.drawn⟩⟩
 ·refine aH R'.loc λm hn hm=>?_
  exact⟨m,hn,λx v e=>by obtain⟨y,hy,q⟩:=hm x v e;exact⟨y,hy,q.mono hp<|bF.refl _⟩⟩
 ·simp only[aK,cK,iQ,R.led.len]
 ·by_cases hk:k<U st.hp
  ·simp only[cA hk] at e
   (simp only[cA<|by refine D R.led.len ?_;exact hk] at q)
   exact(R'.led.objs k ob' a e q).mono hp (bF.refl _) rfl
  ·have kP:k=U st.hp:=by
    have:=(cJ.mp e).1;simp only[aK,cK,iQ] at this;exact Fi this hk
   subst kP;simp only[dc<|aG _,fF] at e
   (simp only[dc (by refine D R.led.len ?_;exact aG _),R.led.len,fF] at q)
   (have:=cj e;clear e;subst this);(have:=cj q;clear q;subst this);exact hi
 ·refine mF.mpr ⟨R.led.nodup,l5.mpr ⟨by simp,lx⟩,λa ha b hb=>?_⟩;rw[bw] at hb;subst hb;intro e;subst e;exact R.led.Bg ha
 ·intro h;rcases bK.mp h with h|h
  ·exact R.led.fB h
  ·rw[bw] at h;exact aY h<|iS lt
 ·rcases bK.mp ha with ha|ha
  ·exact R.led.low a ha
  ·rw[bw] at ha;subst ha;exact hL
theorem Rep.change(R:Rep C ρ st s)(ha:ρ[k]?=some a)(hs:iV a s.heap h')(hi:ob.Is C.w ρ h' a)(n:B):
  Rep C ρ ⟨st.loc,st.hp.set k ob⟩ {s with heap:=h',toks:=n}:=by
 have hk:k<U ρ:=(cJ.mp ha).1;have eS:k<U st.hp:=by exact bL R.led.len hk
 have mem:a∈ρ:=by refine bL ((cJ.mp ha).2) ?_;exact nE hk
 refine aH ((R.led.objs k _ a (bO eS) ha).there) λH ho ht=>?_
 have aj:bF s.heap h':=jY hs ho ht;have aL:C.env.locals≠a:=λe=>R.led.fB<|e▸mem;refine⟨?_,⟨by simpa using R.led.len,λj o b e q=>?_,R.led.nodup,R.led.fB,R.led.low,R.led.gQ,λb o e=>?_,R.led.os,R.led.drawn⟩⟩
 ·refine aH R.loc λm hn hm=>?_
  exact⟨m,hn.sameBut hs aL,λx v e=>by obtain⟨y,hy,q⟩:=hm x v e;exact⟨y,hy,q.mono (bP _) aj⟩⟩
 ·by_cases hj:j=k
  ·subst hj;rw[Du eS] at e
   (cases cj e;clear e)
   simp only[ha] at q;(cases cj q;clear q);exact hi
  ·simp only[zZ<|ue hj] at e;have z:=R.led.objs j o b e q;have ne:b≠a:=λz=>by
    subst z;exact hj<|pU R.led.nodup q ha
   exact z.mono (bP _) aj<|hs.2 b ne
 ·have:b≠a:=λz=>by
   subst z;exact aY (dH e)<|iT.mpr<|R.led.low _ mem
  exact(hs.2 b this).trans<|R.led.top b o e
theorem Rep.store(R:Rep C ρ st s)(hv:v.Is ρ s.heap y)(hn:h'.Ns C.env.locals λz=>if z=x then some y else m z)(hs:iV C.env.locals s.heap h')
  (hm:∀x v,st.loc.lookup x=some v->∃y,m x=some y/\v.Is ρ s.heap y) (n:B):Rep C ρ ⟨(x,v)::st.loc.filter (λp=> !(p.1==x)),st.hp⟩ {s with heap:=h',toks:=n}:=by
 refine aH R.loc λm0 cq H=>lH cq λoL es ep hL hd H=>?_
 have aj:bF s.heap h':=jY hs hL<|AJ hd;refine⟨⟨_,hn,λz aiy e=>?_⟩,⟨R.led.len,λk o b e q=>?_,R.led.nodup,R.led.fB,R.led.low,R.led.gQ,λb o e=>?_,R.led.os,R.led.drawn⟩⟩
 ·by_cases hz:z=x
  ·subst hz;rw[Dv] at e
   (cases cj e;clear e)
   exact⟨y,aU rfl,hv.mono (bP _) aj⟩
  ·have hb:(z==x)=false:=by simpa using hz
   rw[gv,hb] at e;have e':st.loc.lookup z=some aiy:=FB hz e;refine aH (hm z aiy e') λy' G h2=>?_
   exact⟨y',by refine D (aE hz) ?_;exact G,h2.mono (bP _) aj⟩
 ·have z:=R.led.objs k o b e q
  have ne:b≠C.env.locals:=λz=>R.led.fB (z▸by
   refine xE (cJ.mp q) λl e1=>?_
   refine bL e1 ?_;exact nE l)
  exact z.mono (bP _) aj<|hs.2 b ne
 ·have:b≠C.env.locals:=λz=>by
   subst z;rw[R.led.gQ] at e;exact nomatch e
  exact(hs.2 b this).trans<|R.led.top b o e
mutual
noncomputable def V.xX(n:B):V->bb
 | .ref k=>decide (k<n)
 | .tup _ l=>V.sv n l
 |_=>true
noncomputable def V.sv(n:B):J V->bb
 | []=>true
 |v::l=>V.xX n v&&V.sv n l
end
mutual
theorem V.Is.shrink{ρ:J ax}{h:bn}{n:B}:∀{v:V} {y:ak},v.xX n=true->v.Is ρ h y->v.Is (ρ.take n) h y
 | .none,_,_,e=>e
 | .bool _,_,_,e=>e
 | .int _,_,_,e=>e
 | .str _,_,_,e=>e
 | .val _,_,_,e=>e
 | .ref k,_,hk,z0=>aH z0 λa e1 e2=>⟨a,by refine D (zV<|dq hk) ?_;exact e1,e2⟩
 | .tup c l,_,hb,z0=>oJ z0 λtc a vs n e1 e2 e3=>⟨tc,a,vs,n,e1,e2,V.IsL.shrink hb e3⟩
theorem V.IsL.shrink{ρ:J ax}{h:bn}{n:B}:∀{l:J V} {xs:J ak},V.sv n l=true->V.IsL ρ h l xs->V.IsL (ρ.take n) h l xs
 | [],_,_,e=>e
 |v::l,_,hb,z0=>dh z0 λx r e e1 e2=>⟨x,r,e,V.Is.shrink (fb.mp hb).1 e1,V.IsL.shrink (fb.mp hb).2 e2⟩
end
noncomputable def O.xX(n:B):O->bb
 | .list l=>V.sv n l
 | .attrs l=>l.all λp=>p.2.xX n
 | .inst _ d=>decide (d<n)
 | .cell v=>v.xX n
 | .fields _ l=>V.sv n l
 | .fc l=>V.sv n<|l.map (·.2)
 | .intD l=>V.sv n<|l.map (·.2)
 | .fY=>true
theorem lookup_mem{α κ:Type}[BEq κ]{x:κ}{v:α}:∀{l:J (κ×α)},l.lookup x=some v->∃k,(k,v)∈l
 | []=>λe=>by simp at e
 |(k,aiy)::l=>λe=>by
  rw[gv] at e;cases h:x==k with
  |true=>rw[h] at e;cases e;exact⟨k,.head _⟩
  |false=>rw[h] at e;obtain⟨k',h'⟩:=lookup_mem e;exact⟨k',.tail _ h'⟩
mutual
noncomputable def V.cf(aiA:B->B):V->V
 | .ref k=>.ref<|aiA k
 | .tup c l=>.tup c<|V.lI aiA l
 | .none=>.none
 | .bool b=>.bool b
 | .int i=>.int i
 | .str s=>.str s
 | .val v=>.val v
noncomputable def V.lI(aiA:B->B):J V->J V
 | []=>[]
 |v::l=>V.cf aiA v::V.lI aiA l
end
mutual
noncomputable def V.bG(g:B->bb):V->bb
 | .ref k=>g k
 | .tup _ l=>V.fe g l
 | .none=>true
 | .bool _=>true
 | .int _=>true
 | .str _=>true
 | .val _=>true
noncomputable def V.fe(g:B->bb):J V->bb
 | []=>true
 |v::l=>V.bG g v&&V.fe g l
end
theorem V.NX:V.none.bG g=true:=rfl
theorem V.NY:(V.bool b).bG g=true:=rfl
theorem V.FC:(V.int i).bG g=true:=rfl
theorem V.FD:(V.str x).bG g=true:=rfl
theorem V.ur:(V.ref k).bG g=g k:=rfl
mutual
theorem V.Is.cf(hf:∀k a,g k=true->ρ[k]?=some a->aB[aiA k]?=some a):∀{v:V} {x:ak},v.bG g=true->v.Is ρ h x->(v.cf aiA).Is aB h x
 | .none,_,_,e=>e
 | .bool _,_,_,e=>e
 | .int _,_,_,e=>e
 | .str _,_,_,e=>e
 | .val _,_,_,e=>e
 | .ref k,_,hk,z0=>aH z0 λa e1 e2=>⟨a,hf k a hk e1,e2⟩
 | .tup c l,_,hb,z0=>oJ z0 λtc a vs n e1 e2 e3=>⟨tc,a,vs,n,e1,e2,V.IsL.cf hf hb e3⟩
theorem V.IsL.cf(hf:∀k a,g k=true->ρ[k]?=some a->aB[aiA k]?=some a):∀{l:J V} {xs:J ak},V.fe g l=true->V.IsL ρ h l xs->V.IsL aB h (V.lI aiA l) xs
 | [],_,_,e=>e
 |v::l,_,hb,z0=>dh z0 λx r e e1 e2=>⟨x,r,e,V.Is.cf hf (fb.mp hb).1 e1,V.IsL.cf hf (fb.mp hb).2 e2⟩
end
mutual
theorem V.jC(hf:∀k,g k=true->aiA k=k):∀{v:V},v.bG g=true->v.cf aiA=v
 | .none=>λH=>rfl
 | .bool _=>λH=>rfl
 | .int _=>λH=>rfl
 | .str _=>λH=>rfl
 | .val _=>λH=>rfl
 | .ref k=>λhk=>bA V.ref<|hf k hk
 | .tup c l=>λhb=>bA (V.tup c)<|V.ut hf hb
theorem V.ut(hf:∀k,g k=true->aiA k=k):∀{l:J V},V.fe g l=true->V.lI aiA l=l
 | []=>λH=>rfl
 |v::l=>λhb=>cons_eq (V.jC hf (fb.mp hb).1)<|V.ut hf (fb.mp hb).2
end
noncomputable def O.cf(aiA:B->B):O->O
 | .list l=>.list<|V.lI aiA l
 | .attrs l=>.attrs<|l.map λp=>(p.1,p.2.cf aiA)
 | .inst c d=>.inst c<|aiA d
 | .cell v=>.cell<|v.cf aiA
 | .fields c l=>.fields c<|V.lI aiA l
 | .fc l=>.fc<|l.map λp=>(p.1,p.2.cf aiA)
 | .intD l=>.intD<|l.map λp=>(p.1,p.2.cf aiA)
 | .fY=>.fY
noncomputable def O.bG(g:B->bb):O->bb
 | .list l=>V.fe g l
 | .attrs l=>l.all λp=>p.2.bG g
 | .inst _ d=>g d
 | .cell v=>v.bG g
 | .fields _ l=>V.fe g l
 | .fc l=>V.fe g<|l.map (·.2)
 | .intD l=>V.fe g<|l.map (·.2)
 | .fY=>true
theorem O.Bh:(O.list l).cf aiA= .list (V.lI aiA l):=rfl
theorem xY{κ:Type}[BEq κ]{x:κ}{aiA:V->V}:∀{l:J (κ×V)},(l.map λp=>(p.1,aiA p.2)).lookup x=(l.lookup x).map aiA
 | []=>rfl
 |(k,v)::l=>by
  refine D eu<|D gv<|D gv ?_;cases x==k with
  |true=>rfl
  |false=>exact xY
theorem xZ{κ:Type}{aiA:B->B}:∀{l:J (κ×V)},(l.map λp=>(p.1,p.2.cf aiA)).map (·.2)=V.lI aiA (l.map (·.2))
 | []=>rfl
 |p::l=>bA (J.cons _)<|xZ (l:=l)
theorem O.Is.cf{w:bx}{ρ aB:J ax}{aiA:B->B}{g:B->bb}{h:bn}{a:ax}(hf:∀k a,g k=true->ρ[k]?=some a->aB[aiA k]?=some a):∀{o:O},o.bG g=true->o.Is w ρ h a->(o.cf aiA).Is w aB h a
 | .list _=>λhb z0=>dv z0 λvs m e q=>⟨vs,m,e,q.cf hf hb⟩
 | .attrs l=>λhb z0=>nR z0 λe m hn k=>⟨e,m,hn,λx=>⟨λv hv=>by
   rw[xY] at hv;cases hq:l.lookup x with
   |none=>rw[hq] at hv;exact nomatch hv
   |some aiy=>
    rw[hq] at hv;cases hv
    exact aH ((k x).1 aiy hq) λy hy q=>xE (lookup_mem hq) λk' hm=>⟨y,hy,q.cf hf (fW.mp hb _ hm)⟩,λhv=>(k x).2 (by
    rw[xY] at hv;cases hq:l.lookup x with
    |none=>rfl
    |some aiy=>rw[hq] at hv;cases hv)⟩⟩
 | .inst _ d=>λhb z0=>aH z0 λb e q=>⟨b,hf d b hb e,q⟩
 | .cell _=>λhb z0=>aH z0 λx e q=>⟨x,e,q.cf hf hb⟩
 | .fields _ _=>λhb z0=>nR z0 λc vs e q=>⟨c,vs,e,q.cf hf hb⟩
 | .fc l=>λhb z0=>cP z0 λbI e d k=>⟨bI,e,by refine D d<|D gM ?_;rfl,by refine D xZ ?_;exact k.cf hf hb⟩
 | .intD l=>λhb z0=>cP z0 λbI e d k=>⟨bI,e,by refine D d<|D gM ?_;rfl,by refine D xZ ?_;exact k.cf hf hb⟩
 | .fY=>λH e=>e
structure ji(T:Wd)(ρ:J ax)(hp:J O)(s:ay):Prop where
 len:U ρ=U hp
 objs:∀(k:B) (o:O) (a:ax),hp[k]?=some o->ρ[k]?=some a->o.Is T.w ρ s.heap a
 nodup:ρ.Nodup
 low:∀a∈ρ,T.top.objs.size<=a
 size:T.top.objs.size<=s.heap.objs.size
 top:∀b o,T.top.get? b=some o->s.heap.get? b=some o
 os:s.os=T.os
 drawn:s.drawn=T.drawn
theorem Rep.toF(R:Rep C ρ st s):ji C.toWd ρ st.hp s:=
 ⟨R.led.len,R.led.objs,R.led.nodup,R.led.low,R.led.size,R.led.top,R.led.os,R.led.drawn⟩
theorem ji.mem{T:Wd}(L:ji T ρ hp s)(h:a∈ρ):∃(k:B) (o:O) (ob:bc),hp[k]?=some o/\ρ[k]?=some a/\o.Is T.w ρ s.heap a/\s.heap.get? a=some ob/\mc ob=false:=by
 obtain⟨k,hk,e⟩:=mE h;have eS:k<U hp:=by exact bL L.len hk
 have e1:ρ[k]?=some a:=by simp only[bO hk,e]
 have e2:hp[k]?=some hp[k]:=bO eS;exact aH ((L.objs k _ a e2 e1).there) λob ho ht=>(⟨k,_,ob,e2,e1,L.objs k _ a e2 e1,ho,ht⟩)
theorem Rep.after(R:Rep C ρ st s)(k:∀b o,s.heap.get? b=some o->s'.heap.get? b=some o)(ho:s'.os=s.os)(hd:s'.drawn=s.drawn):Rep C ρ st s':=by
 have hs:=iB k;refine⟨?_,⟨R.led.len,λj o a e q=>?_,R.led.nodup,R.led.fB,R.led.low,R.led.gQ,λb o e=>k b o<|R.led.top b o e,ho.trans R.led.os,hd.trans R.led.drawn⟩⟩
 ·refine aH R.loc λm hn hm=>?_
  exact⟨m,hn.keeps k,λx v e=>by obtain⟨y,hy,q⟩:=hm x v e;exact⟨y,hy,q.mono (bP _) hs⟩⟩
 ·have z:=R.led.objs j o a e q;exact aH z.there λx hx H=>(z.mono (bP _) hs<|(k _ _ hx).trans hx.symm)
noncomputable def cn(n:B)(A:bS):Prop:=A.handled=none/\A.depth+10*n<=900/\A.units+200*n<=9000
noncomputable abbrev bq:ak->ay->Prop:=λH H=>c7
structure bk(C:Cx)(ρ:J ax)(s:ay)(aj:St)(aB:J ax)(s':ay):Prop where
 pre:ρ<+:aB
 aX:bF s.heap s'.heap
 keep:∀b o,s.heap.get? b=some o->b∉ρ->b≠C.env.locals->s'.heap.get? b=some o
 fresh:∀a∈aB,a∉ρ->s.heap.get? a=none
 gens:eN s.gens s'.gens
 rep:Rep C aB aj s'
section
variable{rb:St}{bQ:ay}
theorem ek(R:Rep C ρ st s):bk C ρ s st ρ s:=⟨bP _,bF.refl _,λH H e H H=>e,λa h q=>aY h q,eN.refl _,R⟩
theorem gh(R:Rep C ρ st s)(n:B):bk C ρ s st ρ {s with toks:=n}:=⟨bP _,bF.refl _,λH H e H H=>e,λa h q=>aY h q,eN.refl _,R.toks n⟩
theorem bk.trans(x:bk C ρ s aj aB s')(y:bk C aB s' rb mf bQ):bk C ρ s rb mf bQ:=by
 refine⟨x.pre.trans y.pre,x.aX.trans y.aX,λb o e G h2=>y.keep b o (x.keep b o e G h2) (λh=>?_) h2,λa h q=>?_,x.gens.trans y.gens,y.rep⟩
 ·simp only[x.fresh b h G] at e;exact nomatch e
 ·by_cases ha:a∈aB
  ·exact x.fresh a ha q
  ·have z:=y.fresh a h ha;cases e:s.heap.get? a with
   |none=>rfl
   |some o=>
    by_cases hl:a=C.env.locals
    ·subst hl;refine aH x.rep.loc λm cq H=>eR cq λoL H H hL H=>?_
     simp only[hL] at z;exact nomatch z
    ·simp only[x.keep a o e q hl] at z;exact nomatch z
theorem uu:h.get? h.objs.size=none:=by
 cases e:h.get? h.objs.size with
 |none=>rfl
 |some o=>exact aY (dH e)<|jf _
theorem bk.push(R:Rep C ρ st s)(o:bc)(n:B):bk C ρ s st ρ {s with heap:=s.heap.push o,toks:=n}:=
 ⟨bP _,bF.push _ _,λb o' e H H=>dD o e,λa h q=>aY h q,eN.refl _,(R.push o).toks n⟩
theorem bk.alloc(R:Rep C ρ st s){o:bc}{ob:O}(hf:o.isFreed=false)(hi:ob.Is C.w (ρ++[s.heap.objs.size]) (s.heap.push o) s.heap.objs.size)(n:B):
  bk C ρ s ⟨st.loc,st.hp++[ob]⟩ (ρ++[s.heap.objs.size]) {s with heap:=s.heap.push o,toks:=n}:=
 ⟨gK ..,bF.push _ _,λb o' e H H=>dD o e,λa h q=>by
  rcases bK.mp h with h|h
  ·exact aY h q
  ·rw[bw] at h;subst h;exact uu,eN.refl _,(R.alloc hf hi).toks n⟩
theorem bk.change(R:Rep C ρ st s){k:B}{a:ax}{h':bn}{ob:O}(ha:ρ[k]?=some a)(hs:iV a s.heap h')(hi:ob.Is C.w ρ h' a)(n:B):
  bk C ρ s ⟨st.loc,st.hp.set k ob⟩ ρ {s with heap:=h',toks:=n}:=by
 have hk:k<U ρ:=(cJ.mp ha).1;have mem:a∈ρ:=by refine bL ((cJ.mp ha).2) ?_;exact nE hk
 refine aH ((R.led.objs k _ a (bO<|by refine bL R.led.len ?_;exact hk) ha).there) λH ho ht=>?_
 exact⟨bP _,jY hs ho ht,λb o e G H=>(hs.2 b λz=>G<|z▸mem).trans e,λa h q=>aY h q,eN.refl _,R.change ha hs hi n⟩
theorem bk.grow(R:Rep C ρ st s)(k:∀b o,s.heap.get? b=some o->s'.heap.get? b=some o)(hg:eN s.gens s'.gens)(ho:s'.os=s.os)(hd:s'.drawn=s.drawn):bk C ρ s st ρ s':=
 ⟨bP _,iB k,λb o e H H=>k b o e,λa h q=>aY h q,hg,R.after k ho hd⟩
end
structure eH(C:Cx)(p:B)(ρ:J ax)(s:ay)(aj:St)(aB:J ax)(s':ay):Prop where
 pre:ρ.take p<+:aB
 aX:bF s.heap s'.heap
 keep:∀b o,s.heap.get? b=some o->b∉ρ->b≠C.env.locals->s'.heap.get? b=some o
 fresh:∀a∈aB,a∉ρ->s.heap.get? a=none
 gens:eN s.gens s'.gens
 rep:Rep C aB aj s'
theorem pV{p:B}(x:ρ.take p<+:aB)(y:aB.take p<+:mf):ρ.take p<+:mf:=by
 refine xj (xE x λt av=>?_) y;clear x;subst av
 by_cases h:p<=U ρ
 ·(simp only[w6 (by rw[gA];exact ZT h),J.take_take,B.min_self])
  exact bP _
 ·exact D (qK<|AT h) (D J.take_append<|D (qK (l:=ρ)<|by exact AT h)<|gK ..)
section
variable{p:B}{rb:St}{bQ:ay}
theorem bk.toS(N:bk C ρ s aj aB s'):eH C p ρ s aj aB s':=⟨(pG p ρ).trans N.pre,N.aX,N.keep,N.fresh,N.gens,N.rep⟩
theorem eH.refl(R:Rep C ρ st s):eH C p ρ s st ρ s:=(ek R).toS
theorem eH.trans(x:eH C p ρ s aj aB s')(y:eH C p aB s' rb mf bQ):eH C p ρ s rb mf bQ:=by
 refine⟨pV x.pre y.pre,x.aX.trans y.aX,λb o e G h2=>y.keep b o (x.keep b o e G h2) (λh=>?_) h2,λa h q=>?_,x.gens.trans y.gens,y.rep⟩
 ·simp only[x.fresh b h G] at e;exact nomatch e
 ·by_cases ha:a∈aB
  ·exact x.fresh a ha q
  ·have z:=y.fresh a h ha;cases e:s.heap.get? a with
   |none=>rfl
   |some o=>
    by_cases hl:a=C.env.locals
    ·subst hl;refine aH x.rep.loc λm cq H=>eR cq λoL H H hL H=>?_
     simp only[hL] at z;exact nomatch z
    ·simp only[x.keep a o e q hl] at z;exact nomatch z
theorem bk.FE(x:bk C ρ s aj aB s')(y:eH C p aB s' rb mf bQ):eH C p ρ s rb mf bQ:=(x.toS (p:=p)).trans y
theorem eH.NZ(x:eH C p ρ s aj aB s')(y:bk C aB s' rb mf bQ):eH C p ρ s rb mf bQ:=x.trans y.toS
end
noncomputable def FG(C:Cx)(n:B)(e:bB)(st:St)(v:V)(aj:St):Prop:=
 ∀(A:bS) (s:ay) (ρ:J ax) (Q:ak->ay->Prop),cn n A->Rep C ρ st s->
  (∀aB x s',bk C ρ s aj aB s'->v.Is aB s'.heap x->Q x s')->aF (aN C.prog C.w) A (eval e C.env) Q bq s
@[irreducible] noncomputable def EV(C:Cx)(n:B)(e:bB)(st:St)(v:V)(aj:St):Prop:=FG C n e st v aj
theorem EV.mk(run:FG C n e st v aj):EV C n e st v aj:=by with_unfolding_all exact run
theorem EV.run(h:EV C n e st v aj):FG C n e st v aj:=by with_unfolding_all exact h
noncomputable def FH(C:Cx)(n:B)(aiA:ak->ak->dG ak)(aiy v:V)(st:St)(r:V)(aj:St):Prop:=
 ∀(A:bS) (s:ay) (ρ:J ax) (x y:ak) (Q:ak->ay->Prop),cn n A->Rep C ρ st s->aiy.Is ρ s.heap x->v.Is ρ s.heap y->
  (∀aB z s',bk C ρ s aj aB s'->r.Is aB s'.heap z->Q z s')->aF (aN C.prog C.w) A (aiA x y) Q bq s
@[irreducible] noncomputable def a9(C:Cx)(n:B)(aiA:ak->ak->dG ak)(aiy v:V)(st:St)(r:V)(aj:St):Prop:=FH C n aiA aiy v st r aj
theorem a9.mk{aiA:ak->ak->dG ak}{r:V}(run:FH C n aiA aiy v st r aj):a9 C n aiA aiy v st r aj:=by with_unfolding_all exact run
theorem a9.run{aiA:ak->ak->dG ak}{r:V}(h:a9 C n aiA aiy v st r aj):FH C n aiA aiy v st r aj:=by with_unfolding_all exact h
theorem ah{x:ao}{p:cN}{v:V}(hl:aO (st.loc.lookup x=some v) a8)(hk:aO (C.env.scope.kind= .function) a8)(hn:aO (C.env.kindOf x=some .local) a8)(hd:aO ((x==("__debug__":ao))=false) aD._auto_1):
  EV C n (.Name x p) st v st:=.mk λA s ρ Q hA R h=>by
 exact aH R.loc λm bT hm=>aH (hm x v hl) λy hy hv=>(wpAny_Name (wpAny_loadName_local hk hn bT hy<|h ρ y s (ek R) hv) hd)
theorem bz{i:az}{k:B}{p:cN}:EV C n (.Constant (.int i) k p) st (.int i) st:=.mk λA s ρ Q hA R h=>
 wpAny_Constant_int (h ρ _ _ (gh R _) ⟨_,rfl⟩)
theorem dE{x:ao}{k:B}{p:cN}:EV C n (.Constant (.str x) k p) st (.str x) st:=.mk λA s ρ Q hA R h=>
 Calls.Constant_str (h ρ _ _ (gh R _) ⟨_,rfl⟩)
theorem EV.none{k:B}{p:cN}:EV C n (.Constant .none k p) st .none st:=.mk λA s ρ Q hA R h=>by
 simp only[eval_Constant];exact wpAny_pure<|h ρ _ _ (ek R) rfl
theorem EV.bool{b:bb}{k:B}{p:cN}:EV C n (.Constant (.bool b) k p) st (.bool b) st:=.mk λA s ρ Q hA R h=>by
 simp only[eval_Constant];exact wpAny_pure<|h ρ _ _ (ek R) rfl
theorem bt{l r:bB}{op:Operator}{w:V}(G:EV C n l st aiy am)(h2:EV C n r am v ba)(h3:a9 C n (pL op) aiy v ba w ce):
  EV C n (.BinOp l op r p) st w ce:=.mk λA s ρ Q hA R h=>
 wpAny_BinOp (G.run A s ρ _ hA R λaC x s1 N1 i1=>h2.run A s1 aC _ hA N1.rep λbh y s2 N2 i2=>
  h3.run A s2 bh x y _ hA N2.rep (i1.mono N2.pre N2.aX) i2 λdp z s3 N3 i3=>h dp z s3 ((N1.trans N2).trans N3) i3)
theorem EV.cmp{l r:bB}{op:CmpOp}{w:V}(G:EV C n l st aiy am)(h2:EV C n r am v ba)(h3:a9 C n (iU op) aiy v ba w ce)
  (hm:aO (behindInMarks op r=false) aW._auto_1):EV C n (.Compare l [op] [r] p) st w ce:=.mk λA s ρ Q hA R h=>
 wpAny_Compare1 (G.run A s ρ _ hA R λaC x s1 N1 i1=>h2.run A s1 aC _ hA N1.rep λbh y s2 N2 i2=>
  h3.run A s2 bh x y _ hA N2.rep (i1.mono N2.pre N2.aX) i2 λdp z s3 N3 i3=>h dp z s3 ((N1.trans N2).trans N3) i3) hm
theorem eT{a b:az}:a9 C n (pL .Add) (.int a) (.int b) st (.int<|a+b) st:=.mk λA s ρ x y Q hA R ⟨t,e1⟩ ⟨aiy,e2⟩ h=>by
 subst e1 e2;exact wpAny_add_int<|h ρ _ _ (gh R _) ⟨_,rfl⟩
theorem a9.mod_int{a b:az}(hb:b≠0):a9 C n (pL .Mod) (.int a) (.int b) st (.int<|a.fmod b) st:=.mk λA s ρ x y Q hA R ⟨t,e1⟩ ⟨aiy,e2⟩ h=>by
 subst e1 e2;exact PyProof.Rows.mod_int hb<|h ρ _ _ (gh R _) ⟨_,rfl⟩
theorem mh{a b:az}:a9 C n (iU .Eq) (.int a) (.int b) st (.bool<|a==b) st:=.mk λA s ρ x y Q hA R ⟨t,e1⟩ ⟨aiy,e2⟩ h=>by
 subst e1 e2;exact PyProof.Rows.eq_int<|h ρ _ _ (ek R) rfl
theorem a9.ne_int{a b:az}:a9 C n (iU .NotEq) (.int a) (.int b) st (.bool<|a !=b) st:=.mk λA s ρ x y Q hA R ⟨t,e1⟩ ⟨aiy,e2⟩ h=>by
 subst e1 e2;exact PyProof.Rows.ne_int<|h ρ _ _ (ek R) rfl
theorem jZ{a b:az}:a9 C n (iU .Lt) (.int a) (.int b) st (.bool<|decide (a<b)) st:=.mk λA s ρ x y Q hA R ⟨t,e1⟩ ⟨aiy,e2⟩ h=>by
 subst e1 e2;exact K0<|h ρ _ _ (ek R) rfl
theorem a9.gt_int{a b:az}:a9 C n (iU .Gt) (.int a) (.int b) st (.bool<|decide (b<a)) st:=.mk λA s ρ x y Q hA R ⟨t,e1⟩ ⟨aiy,e2⟩ h=>by
 subst e1 e2;exact PyProof.Rows.gt_int<|h ρ _ _ (ek R) rfl
noncomputable def FI(C:Cx)(n:B)(e:bB)(st:St)(b:bb)(aj:St):Prop:=
 ∀(A:bS) (s:ay) (ρ:J ax) (Q:bb->ay->Prop),cn n A->Rep C ρ st s->
  (∀aB s',bk C ρ s aj aB s'->Q b s')->aF (aN C.prog C.w) A (isTrue e C.env<|eval e C.env) Q bq s
@[irreducible] noncomputable def TV(C:Cx)(n:B)(e:bB)(st:St)(b:bb)(aj:St):Prop:=FI C n e st b aj
theorem TV.mk(run:FI C n e st b aj):TV C n e st b aj:=by with_unfolding_all exact run
theorem TV.run(h:TV C n e st b aj):FI C n e st b aj:=by with_unfolding_all exact h
theorem bV{l r:bB}{op:CmpOp}(G:EV C n l st aiy am)(h2:EV C n r am v ba)(h3:a9 C n (iU op) aiy v ba (.bool b) ce)
  (hm:aO (behindInMarks op r=false) aW._auto_1):TV C n (.Compare l [op] [r] p) st b ce:=.mk λA s ρ Q hA R h=>
 wpAny_isTrue_Compare1 (G.run A s ρ _ hA R λaC x s1 N1 i1=>h2.run A s1 aC _ hA N1.rep λbh y s2 N2 i2=>
  h3.run A s2 bh x y _ hA N2.rep (i1.mono N2.pre N2.aX) i2 λdp z s3 N3 i3=>by
   subst i3;exact wpAny_truthy_bool (h dp s3 ((N1.trans N2).trans N3))) hm
inductive Fl where
 |next|brk|cont
 |ret (v:V)
noncomputable def Fl.Is(ρ:J ax)(h:bn):Fl->mK->Prop
 | .next,aiA=>aiA= .next
 | .brk,aiA=>aiA= .brk
 | .cont,aiA=>aiA= .cont
 | .ret v,aiA=>∃x,aiA= .ret x/\v.Is ρ h x
noncomputable def FJ(C:Cx)(n:B)(p:B)(ss:J fq)(st:St)(K:Fl->St->Prop):Prop:=
 ∀(A:bS) (s:ay) (ρ:J ax) (Q:mK->ay->Prop),cn n A->Rep C ρ st s->
  (∀aB fl aiA aj s',K fl aj->eH C p ρ s aj aB s'->fl.Is aB s'.heap aiA->Q aiA s')->aF (aN C.prog C.w) A (mJ ss C.env) Q bq s
@[irreducible] noncomputable def XS(C:Cx)(n:B)(p:B)(ss:J fq)(st:St)(K:Fl->St->Prop):Prop:=FJ C n p ss st K
theorem XS.mk{p:B}(run:FJ C n p ss st K):XS C n p ss st K:=by with_unfolding_all exact run
theorem XS.run{p:B}(h:XS C n p ss st K):FJ C n p ss st K:=by with_unfolding_all exact h
noncomputable def FK(C:Cx)(n:B)(p:B)(ss:fq)(st:St)(K:Fl->St->Prop):Prop:=
 ∀(A:bS) (s:ay) (ρ:J ax) (Q:mK->ay->Prop),cn n A->Rep C ρ st s->
  (∀aB fl aiA aj s',K fl aj->eH C p ρ s aj aB s'->fl.Is aB s'.heap aiA->Q aiA s')->aF (aN C.prog C.w) A (exec ss C.env) Q bq s
@[irreducible] noncomputable def X1(C:Cx)(n:B)(p:B)(ss:fq)(st:St)(K:Fl->St->Prop):Prop:=FK C n p ss st K
theorem X1.mk{p:B}{ss:fq}(run:FK C n p ss st K):X1 C n p ss st K:=by with_unfolding_all exact run
theorem X1.run{p:B}{ss:fq}(h:X1 C n p ss st K):FK C n p ss st K:=by with_unfolding_all exact h
theorem bd(h:K .next st):XS C n q [] st K:=.mk λA s ρ Q hA R k=>wpAny_execs_nil<|k ρ .next .next st s h (eH.refl R) rfl
noncomputable abbrev kS(C:Cx)(n q:B)(r:J fq)(K:Fl->St->Prop):Fl->St->Prop:=λfl aj=>match fl with| .next=>XS C n q r aj K|fl=>K fl aj
noncomputable abbrev kL(I:St->Prop)(K:Fl->St->Prop):Fl->St->Prop:=λfl ce=>match fl with| .next| .cont=>I ce| .brk=>K .next ce| .ret w=>K (.ret w) ce
theorem cg{a:fq}(h:X1 C n q a st<|kS C n q r K):XS C n q (a::r) st K:=.mk λA s ρ Q hA R k=>by
 refine wpAny_execs_cons<|h.run A s ρ _ hA R λaC fl aiA am s1 hK N1 hf=>?_;cases fl with
 |next=>subst hf;exact hK.run A s1 aC Q hA N1.rep λbh fl aiA ba s2 rc N2 uv=>k bh fl aiA ba s2 rc (N1.trans N2) uv
 |brk=>subst hf;exact k aC .brk _ am s1 hK N1 rfl
 |cont=>subst hf;exact k aC .cont _ am s1 hK N1 rfl
 |ret v=>obtain⟨x,rfl,hv⟩:=hf;exact k aC (.ret v) _ am s1 hK N1 ⟨x,rfl,hv⟩
theorem X1.ret{e:bB}{p:cN}{v:V}{K:Fl->St->Prop}(G:EV C n e st v am)(h:K (.ret v) am):X1 C n q (.Return (some e) p) st K:=.mk λA s ρ Q hA R k=>
 wpAny_Return_some (G.run A s ρ _ hA R λaC x s1 N1 i1=>k aC (.ret v) _ am s1 h N1.toS ⟨x,rfl,i1⟩)
theorem jj(G:TV C n t st b am)(ht:b=true->XS C n q body am K)(hf:b=false->XS C n q orelse am K):X1 C n q (.If t body orelse p) st K:=.mk λA s ρ Q hA R k=>
 wpAny_If (G.run A s ρ _ hA R λaC s1 N1=>by
  cases b with
  |true=>exact(ht rfl).run A s1 aC Q hA N1.rep λbh fl aiA ba s2 rc N2 uv=>k bh fl aiA ba s2 rc (N1.FE N2) uv
  |false=>exact(hf rfl).run A s1 aC Q hA N1.rep λbh fl aiA ba s2 rc N2 uv=>k bh fl aiA ba s2 rc (N1.FE N2) uv)
noncomputable def St.put(st:St)(x:ao)(v:V):St:=⟨(x,v)::st.loc.filter (λp=> !(p.1==x)),st.hp⟩
theorem vY{Q:fD->ay->Prop}(R:Rep C ρ st s)(hv:v.Is ρ s.heap y)
  (h:∀s',bk C ρ s (st.put x v) ρ s'->Q () s') (hk:aO (C.env.scope.kind= .function) a8) (hn:aO (C.env.kindOf x=some .local) a8):aF (aN C.prog C.w) A (storeName C.env x y) Q bq s:=by
 refine aH R.loc λm bT hm=>?_
 refine wpAny_storeName_local hn bT (λh' FL hs=>h _ ⟨bP _,?_,λb o e H hb=>(hs.2 b hb).trans e,λa h q=>aY h q,eN.refl _,R.store hv FL hs hm _⟩) (by show(C.env.scope.kind== .class||(C.env.scope.kind== .module&&_))=false;rw[hk];rfl);exact lH bT λoL es ep hL hd H=>(jY hs hL<|AJ hd)
theorem X1.assign(G:EV C n e st v am)(h:K .next (am.put x v))(hk:aO (C.env.scope.kind= .function) a8)(hn:aO (C.env.kindOf x=some .local) a8)
  (hs:aO (swapsWith e (some<|.Name x p') p.line C.env=pure false) a8):X1 C n q (.Assign [.Name x p'] e p) st K:=.mk λA s ρ Q hA R k=>
 wpAny_Assign_Name (G.run A s ρ _ hA R λaC y s1 N1 i1=>vY N1.rep i1 (λs2 N2=>k aC .next _ _ s2 h (N1.trans N2).toS rfl) hk hn) hs
theorem cY(G:EV C n e st v am)(h:XS C n q r (am.put x v) K)(hk:aO (C.env.scope.kind= .function) a8)(hn:aO (C.env.kindOf x=some .local) a8)
  (hs:aO (swapsWith e (some<|.Name x p') p.line C.env=pure false) a8):XS C n q (.Assign [.Name x p'] e p::r) st K:=cg<|X1.assign G h hk hn hs
theorem j6(G:EV C n e st v am)(h:K (.ret v) am):XS C n q (.Return (some e) p::r) st K:=cg<|X1.ret G h
noncomputable def FM(C:Cx)(n:B)(aiA:ak)(args:J V)(st:St)(v:V)(aj:St):Prop:=
 ∀(A:bS) (s:ay) (ρ:J ax) (xs:J ak) (Q:ak->ay->Prop),cn n A->Rep C ρ st s->V.IsL ρ s.heap args xs->
  (∀aB x s',bk C ρ s aj aB s'->v.Is aB s'.heap x->Q x s')->aF (aN C.prog C.w) A (gO aiA xs) Q bq s
@[irreducible] noncomputable def aQ(C:Cx)(n:B)(aiA:ak)(args:J V)(st:St)(v:V)(aj:St):Prop:=FM C n aiA args st v aj
theorem aQ.mk{aiA:ak}(run:FM C n aiA args st v aj):aQ C n aiA args st v aj:=by with_unfolding_all exact run
theorem aQ.run{aiA:ak}(h:aQ C n aiA args st v aj):FM C n aiA args st v aj:=by with_unfolding_all exact h
noncomputable def FN(C:Cx)(n:B)(es:J bB)(st:St)(vs:J V)(aj:St):Prop:=
 ∀(A:bS) (s:ay) (ρ:J ax) (pos:cN) (Q:J ak->ay->Prop),cn n A->Rep C ρ st s->
  (∀aB xs s',bk C ρ s aj aB s'->V.IsL aB s'.heap vs xs->Q xs s')->aF (aN C.prog C.w) A (spliced<|lE pos<|lC es C.env) Q bq s
@[irreducible] noncomputable def jl(C:Cx)(n:B)(es:J bB)(st:St)(vs:J V)(aj:St):Prop:=FN C n es st vs aj
theorem jl.mk(run:FN C n es st vs aj):jl C n es st vs aj:=by with_unfolding_all exact run
theorem jl.run(h:jl C n es st vs aj):FN C n es st vs aj:=by with_unfolding_all exact h
noncomputable def gR:bB->bb
 | .Starred .. =>false
 |_=>true
theorem aM:jl C n [] st [] st:=.mk λA s ρ pos Q hA R h=>EC<|h ρ [] s (ek R) rfl
theorem kQ(he:gR e=true):lC (e::es) env=(false,eval e env)::lC es env:=by
 cases e with
 |Starred=>exact aY he dy
 |_=>rfl
theorem an(G:EV C n e st v am)(h2:jl C n es am vs ba)(he:aO (gR e=true) a8):jl C n (e::es) st (v::vs) ba:=.mk λA s ρ pos Q hA R h=>by
 refine D (kQ he)<|AG ?_;show aF _ _ (if false=true then _ else eval e C.env) _ _ _;exact D (aE dy)<|G.run A s ρ _ hA R λaC x s1 N1 i1=>h2.run A s1 aC pos _ hA N1.rep λbh xs s2 N2 i2=>h bh (x::xs) s2 (N1.trans N2) ⟨x,xs,rfl,i1.mono N2.pre N2.aX,i2⟩
theorem hH(hg:C.top.Ns tS mg)(hx:mg x=some y)(hk:aO (C.env.scope.kind= .function) a8)(hn:aO (C.env.kindOf x=some .globalImplicit) a8)(he:aO (C.env.globals=tS) a8)
  (hd:aO ((x==("__debug__":ao))=false) aD._auto_1):EV C n (.Name x p) st (.val y) st:=.mk λA s ρ Q hA R h=>by
 refine K7 hk hn (Calls.loadGlobal_global (mg:=mg) (by refine D he ?_;exact hg.keeps R.led.top) hx<|h ρ _ _ (ek R) rfl) hd
theorem cB{mb:ao->bC ak}(hg:C.top.Ns tS mg)(hx:mg x=aA)(hb:C.top.Ns builtinsNs mb)(hy:mb x=some y)(hk:aO (C.env.scope.kind= .function) a8)(hn:aO (C.env.kindOf x=some .globalImplicit) a8)(he:aO (C.env.globals=tS) a8)(FO:aO (C.env.builtins=builtinsNs) a8)
  (hd:aO ((x==("__debug__":ao))=false) aD._auto_1):EV C n (.Name x p) st (.val y) st:=.mk λA s ρ Q hA R h=>by
 refine K7 hk hn (Calls.loadGlobal_builtin (mg:=mg) (mb:=mb) (by refine D he ?_;exact hg.keeps R.led.top) hx (by refine D FO ?_;exact hb.keeps R.led.top) hy<|h ρ _ _ (ek R) rfl) hd
theorem jD{aiA:ao}{p pos:cN}{e:bB}{es:J bB}{a:ax}{o:bc}{fd:lD}{vs:J V}{v:V}(hf:EV C n (.Name aiA p) st (.val<|.ref a) am)(ho:C.top.get? a=some o)(hd:o.data= .func fd)
  (ha:jl C n (e::es) am vs ba) (hc:aQ C n (.ref a) vs ba v ce) (he:aO (gR e=true) a8):EV C n (.Call (.Name aiA p) (e::es) [] pos) st v ce:=.mk λA s ρ Q hA R h=>by
 refine wpAny_Call_Name_kw<|hf.run A s ρ _ hA R λaC x s1 N1 i1=>?_;subst i1;refine Ez (o:=o) (fd:=fd) ?_
 have key:=ha.run A s1 aC pos (λxs s2=>(s2.heap.get? a=some o/\o.data= .func fd)/\aF (aN C.prog C.w) A (gO (.ref a) ([]++xs) []) Q bq s2) hA N1.rep (λbh xs s2 N2 i2=>⟨⟨N2.rep.led.top a o ho,hd⟩,by
  exact hc.run A s2 bh xs Q hA N2.rep i2 λdp z s3 N3 i3=>h dp z s3 ((N1.trans N2).trans N3) i3⟩)
 rw[kQ he] at key ⊢;exact EB key
noncomputable abbrev rd(T:Wd)(fd:lD)(a L:ax):Cx:=⟨T,callEnv fd L a⟩
noncomputable def Back(v:V):Fl->Prop
 | .ret aiy=>aiy=v
 | .next=>v= .none
 |_=>c7
theorem cn.deeper{A:bS}{env:Env}(h:cn (n+1) A):cn n (A.deeper env):=⟨h.1,by have:=h.2.1;simp only[Ko];exact Nu this,by have:=h.2.2;simp only[Ko];exact aaa this⟩
theorem cn.depth{A:bS}(h:cn n A):A.depth<recursionLimit:=by have:=h.2.1;have:recursionLimit=1000:=rfl;lia
theorem cn.units{A:bS}(h:cn n A):A.units<cLine:=by have:=h.2.2;have:cLine=9900:=rfl;lia
theorem cn.in1{A:bS}(h:cn (n+1) A):cn n A.in1:=⟨h.1,by have:=h.2.1;exact Z9 this,by have:=h.2.2;exact Z8 this⟩
theorem FP{ρ:J ax}(hn:ρ.Nodup):∀{ns:J B},ns.Nodup->(∀k∈ns,k<U ρ)->(ns.map λk=>ρ.getD k 0).Nodup
 | []=>λH H=>lx
 |k::ns=>λh hl=>by
  obtain⟨G,h2⟩:=l5.mp h;refine D eu<|l5.mpr ⟨λhm=>(aH (fa.mp hm) λj hj e=>?_),FP hn h2 λj hj=>hl j<|.tail _ hj⟩;have e1:ρ[k]?=some (ρ.getD k 0):=by refine D (c5)<|D (bO<|hl k<|.head _) ?_;rfl
  have e2:ρ[j]?=some (ρ.getD k 0):=by refine bL e<|D (c5)<|D (bO<|hl j<|.tail _ hj) ?_;rfl
  exact G<|pU hn e1 e2▸hj
theorem mi(hn:h.Ns a m)(e:∀o,h.get? a=some o->h'.get? a=some o):h'.Ns a m:=by
 exact eR hn λo es ep ho r=>(⟨o,es,ep,e o ho,r⟩)
theorem FQ{ρ:J ax}{h:bn}{x:ao}{aiy:V}:∀{ns:J ao} {as:J V} {ys:J ak},ns.Nodup->V.IsL ρ h as ys->(ns.zip as).lookup x=some aiy->∃y,(ns.zip ys).reverse.lookup x=some y/\aiy.Is ρ h y
 | [],_,_,_,_,e=>by simp at e
 |m::ns,[],_,_,_,e=>by simp at e
 |m::ns,b::as,_,hn,z0,e=>dh z0 λy FR ez i1 i2=>by
  subst ez;rw[Dy,gv] at e;refine D Dy<|D Ab ?_;cases hq:x==m with
  |true=>
   rw[hq] at e;cases e;have hxm:x=m:=eq_of_beq hq;subst hxm;refine⟨y,?_,i1⟩;have aaU:(ns.zip FR).reverse.lookup x=none:=by
    rw[Ju];intro p hp;rw[JQ] at hp;have:=(DI hp).1;have cw:x≠p.1:=λz=>(l5.mp hn).1<|z▸this;simpa using cw
   rw[JI,aaU,bC.none_or,gv,hq]
  |false=>
   rw[hq] at e;exact aH (FQ (l5.mp hn).2 i2 e) λy' G h2=>(⟨y',by rw[JI,G,bC.some_or],h2⟩)
structure Cv(p:B)(ns:J B)(aiA:B->B)(g:B->bb)(jh aZ:J O):Prop where
 nd:ns.Nodup
 low:∀k∈ns,p<=k
 gf:∀k,g k=true->(k<p/\aiA k=k)\/(∃i,ns[i]?=some k/\aiA k=p+i)
 len:U aZ=p+U ns
 old:∀k o',k<p->aZ[k]?=some o'->∃o,jh[k]?=some o/\o.bG g=true/\o'=o.cf aiA
 new:∀i k,ns[i]?=some k->∃o,jh[k]?=some o/\o.bG g=true/\aZ[p+i]?=some (o.cf aiA)
noncomputable def ya(ρ aC:J ax)(ns:J B):J ax:=ρ++ns.map (λk=>aC.getD k 0)
structure Cut(T:Wd)(ρ aC bh:J ax)(aZ:J O)(aiA:B->B)(g:B->bb)(s:ay):Prop where
 led:ji T bh aZ s
 sub:∀a∈bh,a∈aC
 pre:ρ<+:bh
 cf:∀k a,g k=true->aC[k]?=some a->bh[aiA k]?=some a
theorem Cv.cut{T:Wd}{p:B}{ns:J B}{aC:J ax}(c:Cv p ns aiA g jh aZ)(hp:U ρ=p)(pre:ρ<+:aC)(L:ji T aC jh s):
  Cut T ρ aC (ya ρ aC ns) aZ aiA g s:=by
 subst hp;have FS:∀k∈ns,k<U aC:=λk eS=>by
  obtain⟨i,hi,e⟩:=mE eS;refine aH (c.new i k<|by rw[bO hi,e]) λo ho H=>?_
  exact D L.len<|(cJ.mp ho).1
 have gd:∀k a,aC[k]?=some a->aC.getD k 0=a:=λk a e=>by refine D (c5)<|D e ?_;rfl
 have FU:∀k,k<U ρ->aC[k]?=ρ[k]?:=λk eS=>by
  obtain⟨t,rfl⟩:=pre;exact D (cA eS) rfl
 have FV:∀a∈ns.map (λk=>aC.getD k 0),a∈aC/\a∉ρ:=λa ha=>by
  refine aH (fa.mp ha) λk eS e=>?_
  have bJ:=FS k eS;have e1:aC[k]?=some a:=by refine bL e<|D (c5)<|D (bO bJ) ?_;rfl
  refine⟨dT e1,λhm=>?_⟩;obtain⟨j,hj,e2⟩:=mE hm;have e3:aC[j]?=some a:=by rw[FU j hj,bO hj,e2]
  have:=pU L.nodup e1 e3;have:=c.low k eS;lia
 have hf:∀k a,g k=true->aC[k]?=some a->(ya ρ aC ns)[aiA k]?=some a:=λk a hgk e=>by
  unfold ya;rcases c.gf k hgk with ⟨G,h2⟩|⟨i,G,h2⟩
  ·refine D h2<|D (cA ‹_›)<|bL (FU k ‹_›) ?_;exact e
  ·rw[h2,dc<|dZ _ _,jx,c6,G];show some (aC.getD k 0)=_;exact D (gd k a e) rfl
 refine⟨⟨?_,λk o' a e q=>?_,?_,λa h=>?_,L.size,L.top,L.os,L.drawn⟩,λa h=>?_,gK ..,hf⟩
 ·exact D aK<|D (bg _) c.len.symm
 ·by_cases N7:k<U ρ
  ·refine cP (c.old k o' N7 e) λo G h2 h3=>?_
   unfold ya at q;rw[cA ‹_›,←FU k ‹_›] at q;exact D h3<|(L.objs k o a G q).cf hf h2
  ·have q0:=q;unfold ya at q;rw[dc (by exact iR ‹_›),c6] at q;cases bT:ns[k-U ρ]? with
   |none=>rw[bT] at q;cases q
   |some j=>
    rw[bT] at q;refine cP (c.new _ j bT) λo G h2 h3=>?_
    rw[show U ρ+(k-U ρ)=k from by exact Z7 N7,e] at h3;cases h3;have hj:=FS j<|dT bT;have q':aC.getD j 0=a:=by cases q;rfl
    exact(L.objs j o a G<|by refine bL q'<|D (c5)<|D (bO hj) ?_;rfl).cf hf h2
 ·
  refine mF.mpr ⟨?_,FP L.nodup c.nd FS,λa ha b hb e=>?_⟩
  ·obtain⟨t,rfl⟩:=pre;exact(mF.mp L.nodup).1
  ·subst e;exact(FV a hb).2 ha
 ·rcases bK.mp h with h|h
  ·exact L.low a<|pre.subset h
  ·exact L.low a (FV a h).1
 ·rcases bK.mp h with h|h
  ·exact pre.subset h
  ·exact(FV a h).1
structure vZ(T:Wd)(ρ:J ax)(s:ay)(aZ:J O)(aB:J ax)(s':ay):Prop where
 pre:ρ<+:aB
 aX:bF s.heap s'.heap
 keep:∀b o,s.heap.get? b=some o->b∉ρ->s'.heap.get? b=some o
 fresh:∀a∈aB,a∉ρ->s.heap.get? a=none
 gens:eN s.gens s'.gens
 led:ji T aB aZ s'
noncomputable def Conv(p:B)(jh:J O)(v1:V)(aZ:J O)(v:V):Prop:=∃ns aiA g,Cv p ns aiA g jh aZ/\v1.bG g=true/\v=v1.cf aiA
theorem vZ.conv{T:Wd}{aC:J ax}{s1:ay}{v1:V}(hl:U ρ=U hp)(N:vZ T ρ s jh aC s1)(c:Conv (U hp) jh v1 aZ v):
  ∃bh,vZ T ρ s aZ bh s1/\∀x,v1.Is aC s1.heap x->v.Is bh s1.heap x:=by
 refine lH c λns aiA g cv ci av=>?_
 clear c;subst av;have k:=cv.cut hl N.pre N.led;exact⟨_,⟨k.pre,N.aX,N.keep,λa h q=>N.fresh a (k.sub a h) q,N.gens,k.led⟩,λx hx=>hx.cf k.cf ci⟩
noncomputable def FW(T:Wd)(n:B)(aiA:ak)(hp:J O)(args:J V)(aZ:J O)(v:V):Prop:=
 ∀(A:bS) (s:ay) (ρ:J ax) (xs:J ak) (Q:ak->ay->Prop),cn n A->ji T ρ hp s->V.IsL ρ s.heap args xs->
  (∀aB x s',vZ T ρ s aZ aB s'->v.Is aB s'.heap x->Q x s')->aF (aN T.prog T.w) A (gO aiA xs) Q bq s
@[irreducible] noncomputable def cE(T:Wd)(n:B)(aiA:ak)(hp:J O)(args:J V)(aZ:J O)(v:V):Prop:=FW T n aiA hp args aZ v
theorem cE.mk{T:Wd}{aiA:ak}(run:FW T n aiA hp args aZ v):cE T n aiA hp args aZ v:=by with_unfolding_all exact run
theorem cE.run{T:Wd}{aiA:ak}(h:cE T n aiA hp args aZ v):FW T n aiA hp args aZ v:=by with_unfolding_all exact h
theorem cn.le{m:B}(h:cn n A)(hm:m<=n):cn m A:=⟨h.1,by have:=h.2.1;exact Z6 this hm,by have:=h.2.2;exact Z5 this hm⟩
noncomputable def uw(T:Wd)(n:B)(aiA:ak)(hp:J O)(args:J V)(aZ:J O)(v:V):Prop:=
 ∀(A:bS) (s:ay) (ρ:J ax) (xs:J ak) (Q:ak->ay->Prop),cn n A->ji T ρ hp s->V.IsL ρ s.heap args xs->
  (∀aB x s',vZ T ρ s aZ aB s'->v.Is aB s'.heap x->Q x s')->codeAny (aN T.prog T.w) A (.call aiA ⟨xs,[]⟩) (λr s'=>match r with| .ok (.ret v)=>Q v s'| .ok _=>c7| .error e=>bq e s') s
theorem uw.v0{T:Wd}{bs:J V}
  (ho:T.top.get? a=some o) (hd:o.data= .func fd) (oO:fd.body= .stmts body) (pW:T.top.CodeRec fd.code fd.qualname) (mj:T.top.NoLimit)
  (mP:∀(A:bS) (E:ak->ay->Prop) (ρ:J ax) (s:ay) (xs:J ak) (Q:J (ao×ak)->ay->Prop),ji T ρ hp s->V.IsL ρ s.heap args xs->
   (∀ys h' t',(∀b o,s.heap.get? b=some o->h'.get? b=some o)->s.heap.objs.size<=h'.objs.size->V.IsL ρ h' bs ys->Q (names.zip ys) {s with heap:=h',toks:=t'})->aF (aN T.prog T.w) A (r7 fd ⟨xs,[]⟩) Q E s) (ko:names.Nodup)
  (iD:∀x∈fd.scope.names,x.2≠ .cell) (lJ:∀x∈names,fd.scope.names.lookup x=some .local)
  (hb:∀L,XS (rd T fd a L) n (U hp) body ⟨names.zip bs,hp⟩ (λfl am=>∃v1,Back v1 fl/\Conv (U hp) am.hp v1 aZ v))
  (bo:aO (fd.scope.isCoroutine=false) a8) (oP:aO (fd.scope.isGenerator=false) a8) (hk:aO (fd.scope.kind= .function) a8):uw T (n+1) (.ref a) hp args aZ v:=by
 intro A s ρ xs Q hA R aV hQ;refine codeAny_call_function hA.depth (R.top a o ho) hd bo oP oO (pW.keeps R.top)<|mP _ _ ρ s xs _ R aV λys h0 t0 sw FX nU=>(wpAny_newFunctionEnv iD (λx hx=>lJ _ (DI hx).1) (λh₁ bT ux=>⟨(mj.keeps λb o e=>sw b o<|R.top b o e).fresh _ ux,codeAny_func ?_⟩) hk);have yb:∀b o,h0.get? b=some o->h₁.get? b=some o:=λb o e=>ux.extBut b o (iS<|dH e)<|dD _ e;have ml:∀b o,s.heap.get? b=some o->h₁.get? b=some o:=λb o e=>yb b o<|sw b o e;have hs:=iB ml;have nf:h0.objs.size∉ρ:=λh=>by
  exact mM (R.mem h) λH H ob H H H ho H=>(aY (dH<|sw _ _ ho)<|jf _)
 have enter:Rep (rd T fd a h0.objs.size) ρ ⟨names.zip bs,hp⟩ {s with heap:=h₁,toks:=t0+U (names.zip ys)}:=by
  refine⟨⟨_,bT,λx aiy e=>FQ ko (nU.mono (bP _)<|iB yb) e⟩,⟨R.len,λj o b e q=>?_,R.nodup,nf,R.low,xW<|cX R.size FX,λb o e=>ml b o<|R.top b o e,R.os,R.drawn⟩⟩;have z:=R.objs j o b e q;exact aH z.there λx hx H=>(z.mono (bP _) hs<|(ml _ _ hx).trans hx.symm)
 refine wpAny_mono ((hb h0.objs.size).run (A.deeper<|callEnv fd h0.objs.size a) _ ρ (λaiA s'=>∃x,(match aiA with| .ret v=>v|_=>jB)=x/\Q x s') hA.deeper enter ?_) (λaiA s' hf=>?_) λH H hf=>hf.elim
 ·intro aB fl aiA aj s' ⟨v1,hB,hC⟩ N hf;have ex:∀b o,s.heap.get? b=some o->b≠h0.objs.size:=λb o e=>iS<|dH<|sw b o e;have fr:∀c∈aB,c∉ρ->s.heap.get? c=none:=λc h q=>by
   cases e:s.heap.get? c with
   |none=>rfl
   |some o=>
    have:=(ml c o e).symm.trans (N.fresh c h q:h₁.get? c=none);cases this
  have NF:vZ T ρ s aj.hp aB s':=⟨by have:=N.pre;rwa [qK<|Ak R.len] at this,hs.trans N.aX,λb o e G=>N.keep b o (ml b o e) G<|ex b o e,fr,N.gens,N.rep.toF⟩
  refine aH (NF.conv R.len hC) λbh N2 hv=>?_
  cases fl with
  |next=>subst hf;subst hB;exact⟨_,rfl,hQ bh _ s' N2<|hv .none rfl⟩
  |brk=>exact hB.elim
  |cont=>exact hB.elim
  |ret aiy=>
   refine aH hf λx av hx=>?_
   clear hf;subst av;subst hB;exact⟨x,rfl,hQ bh x s' N2<|hv x hx⟩
 ·refine aH hf λx e hq=>?_
  subst e;exact hq
theorem cE.v0{T:Wd}{n:B}{a:ax}{o:bc}{fd:lD}{body:J fq}{names:J ao}{args bs:J V}{hp aZ:J O}{v:V}
  (ho:T.top.get? a=some o) (hd:o.data= .func fd) (oO:fd.body= .stmts body) (pW:T.top.CodeRec fd.code fd.qualname) (mj:T.top.NoLimit)
  (mP:∀(A:bS) (E:ak->ay->Prop) (ρ:J ax) (s:ay) (xs:J ak) (Q:J (ao×ak)->ay->Prop),ji T ρ hp s->V.IsL ρ s.heap args xs->
   (∀ys h' t',(∀b o,s.heap.get? b=some o->h'.get? b=some o)->s.heap.objs.size<=h'.objs.size->V.IsL ρ h' bs ys->Q (names.zip ys) {s with heap:=h',toks:=t'})->aF (aN T.prog T.w) A (r7 fd ⟨xs,[]⟩) Q E s) (ko:names.Nodup)
  (iD:∀x∈fd.scope.names,x.2≠ .cell) (lJ:∀x∈names,fd.scope.names.lookup x=some .local)
  (hb:∀L,XS (rd T fd a L) n (U hp) body ⟨names.zip bs,hp⟩ (λfl am=>∃v1,Back v1 fl/\Conv (U hp) am.hp v1 aZ v))
  (bo:aO (fd.scope.isCoroutine=false) a8) (oP:aO (fd.scope.isGenerator=false) a8) (hk:aO (fd.scope.kind= .function) a8):cE T (n+1) (.ref a) hp args aZ v:=
 .mk λA s ρ xs Q hA R aV hQ=>wpAny_call<|uw.v0 ho hd oO pW mj mP ko iD lJ hb bo oP hk A s ρ xs Q hA R aV hQ
theorem cE.fn{T:Wd}
  (ho:T.top.get? a=some o) (hd:o.data= .func fd) (oO:fd.body= .stmts body) (pW:T.top.CodeRec fd.code fd.qualname) (mj:T.top.NoLimit)
  (mP:∀xs:J ak,U xs=U args->r7 fd ⟨xs,[]⟩=pure (names.zip xs)) (ko:names.Nodup)
  (iD:∀x∈fd.scope.names,x.2≠ .cell) (lJ:∀x∈names,fd.scope.names.lookup x=some .local)
  (hb:∀L,XS (rd T fd a L) n (U hp) body ⟨names.zip args,hp⟩ (λfl am=>∃v1,Back v1 fl/\Conv (U hp) am.hp v1 aZ v))
  (bo:aO (fd.scope.isCoroutine=false) a8) (oP:aO (fd.scope.isGenerator=false) a8) (hk:aO (fd.scope.kind= .function) a8):cE T (n+1) (.ref a) hp args aZ v:=
 cE.v0 ho hd oO pW mj (λA E ρ s xs Q R aV hq=>by
  refine D (mP xs<|dK aV) ?_
  exact wpAny_pure (hq xs s.heap s.toks (λH H e=>e) (aG _) aV)) ko iD lJ hb bo oP hk
noncomputable abbrev kOf{β:Type}{t:dG β}{m:dG α}{k:α->dG β}(h:t=m >>= k):α->dG β:=k
noncomputable def bindK(fd:lD)(xs:J ak):bC (bD ak)->dG (J<|ao×ak):=kOf (t:=r7 fd ⟨xs,[]⟩) (m:=seqItems? fd.defaults) rfl
theorem bindK_eq(fd:lD)(xs:J ak):r7 fd ⟨xs,[]⟩=seqItems? fd.defaults >>= bindK fd xs:=rfl
theorem cE.N8{T:Wd}{ds:J V}{Td:ax}{od:bc}{items:bD ak}{m:B}
  (ho:T.top.get? a=some o) (hd:o.data= .func fd) (oO:fd.body= .stmts body) (pW:T.top.CodeRec fd.code fd.qualname) (mj:T.top.NoLimit)
  (htd:fd.defaults= .ref Td) (hod:T.top.get? Td=some od) (hds:od.data= .seq items m) {xd:J ak} (hxd:∀ρ h,V.IsL ρ h ds xd)
  (mP:∀xs:J ak,U xs=U args->bindK fd xs (some items)=pure (names.zip<|xs++xd)) (ko:names.Nodup)
  (iD:∀x∈fd.scope.names,x.2≠ .cell) (lJ:∀x∈names,fd.scope.names.lookup x=some .local)
  (hb:∀L,XS (rd T fd a L) n (U hp) body ⟨names.zip<|args++ds,hp⟩ (λfl am=>∃v1,Back v1 fl/\Conv (U hp) am.hp v1 aZ v))
  (bo:aO (fd.scope.isCoroutine=false) a8) (oP:aO (fd.scope.isGenerator=false) a8) (hk:aO (fd.scope.kind= .function) a8):cE T (n+1) (.ref a) hp args aZ v:=
 cE.v0 ho hd oO pW mj (λA E ρ s xs Q R aV hq=>by
  exact D1 htd (R.top _ _ hod) hds (bindK_eq fd xs) (mP xs (dK aV)) _ _ _ _ (hq (xs++xd) s.heap s.toks (λH H e=>e) (aG _) (aV.append (hxd _ _)))) ko iD lJ hb bo oP hk
mutual
theorem V.Is.mQ(hf:∀k a,g k=true->ρ[aiA k]?=some a->aB[k]?=some a):∀{v:V} {x:ak},v.bG g=true->(v.cf aiA).Is ρ h x->v.Is aB h x
 | .none,_,_,e=>e
 | .bool _,_,_,e=>e
 | .int _,_,_,e=>e
 | .str _,_,_,e=>e
 | .val _,_,_,e=>e
 | .ref k,_,hk,z0=>aH z0 λa e1 e2=>⟨a,hf k a hk e1,e2⟩
 | .tup c l,_,hb,z0=>oJ z0 λtc a vs n e1 e2 e3=>⟨tc,a,vs,n,e1,e2,V.IsL.mQ hf hb e3⟩
theorem V.IsL.mQ(hf:∀k a,g k=true->ρ[aiA k]?=some a->aB[k]?=some a):∀{l:J V} {xs:J ak},V.fe g l=true->V.IsL ρ h (V.lI aiA l) xs->V.IsL aB h l xs
 | [],_,_,e=>e
 |v::l,_,hb,z0=>dh z0 λx r e e1 e2=>⟨x,r,e,V.Is.mQ hf (fb.mp hb).1 e1,V.IsL.mQ hf (fb.mp hb).2 e2⟩
end
theorem V.aaV:∀{l:J V},U (V.lI aiA l)=U l
 | []=>rfl
 |v::l=>bA (· +1)<|V.aaV (l:=l)
mutual
theorem V.re:∀{v:V},v.bG (λH=>true)=true
 | .none=>rfl
 | .bool _=>rfl
 | .int _=>rfl
 | .str _=>rfl
 | .val _=>rfl
 | .ref k=>rfl
 | .tup c l=>V.v4
theorem V.v4:∀{l:J V},V.fe (λH=>true) l=true
 | []=>rfl
 |v::l=>fb.mpr ⟨V.re,V.v4⟩
end
theorem O.re:∀{o:O},o.bG (λH=>true)=true
 | .list l=>V.v4
 | .attrs l=>fW.mpr λH H=>V.re
 | .inst c d=>rfl
 | .cell v=>V.re
 | .fields _ l=>V.v4
 | .fc l=>V.v4
 | .intD l=>V.v4
 | .fY=>rfl
theorem O.Is.mQ{w:bx}{ρ aB:J ax}{aiA:B->B}{g:B->bb}{h:bn}{a:ax}(hf:∀k a,g k=true->ρ[aiA k]?=some a->aB[k]?=some a):∀{o:O},o.bG g=true->(o.cf aiA).Is w ρ h a->o.Is w aB h a
 | .list _=>λhb z0=>dv z0 λvs m e q=>⟨vs,m,e,q.mQ hf hb⟩
 | .attrs l=>λhb z0=>nR z0 λe m hn k=>⟨e,m,hn,λx=>⟨λv hv=>by
   refine aH ((k x).1 (v.cf aiA)<|by refine D xY<|D hv ?_;rfl) λy hy q=>?_
   refine xE (lookup_mem hv) λk' hm=>?_
   exact⟨y,hy,q.mQ hf (fW.mp hb _ hm)⟩,λhv=>(k x).2 (by refine D xY (D hv ?_);rfl)⟩⟩
 | .inst _ d=>λhb z0=>aH z0 λb e q=>⟨b,hf d b hb e,q⟩
 | .cell _=>λhb z0=>aH z0 λx e q=>⟨x,e,q.mQ hf hb⟩
 | .fields _ _=>λhb z0=>nR z0 λc vs e q=>⟨c,vs,e,q.mQ hf hb⟩
 | .fc l=>λhb z0=>cP z0 λbI e d k=>⟨bI,e,by refine D d<|D gM ?_;rfl,by rw[xZ] at k;exact k.mQ hf hb⟩
 | .intD l=>λhb z0=>cP z0 λbI e d k=>⟨bI,e,by rw[d,gM];rfl,by rw[xZ] at k;exact k.mQ hf hb⟩
 | .fY=>λH e=>e
noncomputable def over{α:Type}:J α->J B->J α->J α
 |aix,[],os=>aix++os
 |aix,j::js,o::os=>over (aix.set j o) js os
 |aix,_::_,[]=>aix
termination_by structural _ js=>js
theorem FY{aix os:J α}:over aix [] os=aix++os:=rfl
theorem uy{aix os:J α}{js:J B}{o:α}:over aix (j::js) (o::os)=over (aix.set j o) js os:=rfl
theorem FZ{α:Type}:∀{js:J B} {aix os:J α},U js<=U os->U (over aix js os)=U aix+(U os-U js)
 | [],aix,os=>λh=>aK
 |j::js,aix,[]=>λh=>by simp at h
 |j::js,aix,o::os=>λh=>by
  rw[uy,FZ (by simpa using h),qM];simp only[cK];exact aak
theorem Bi{α:Type}:∀{js:J B} {aix os:J α} {k:B},k∉js->k<U aix->(over aix js os)[k]?=aix[k]?
 | [],aix,os,k,h,hk=>cA hk
 |j::js,aix,[],k,h,hk=>rfl
 |j::js,aix,o::os,k,h,hk=>by
  rw[uy,Bi (λq=>h<|.tail _ q) (by rw[qM];exact hk),zZ];intro e;subst e;exact h<|.head _
theorem Bj{α:Type}:∀{js:J B} {aix os:J α} {i j:B},js.Nodup->js[i]?=some j->j<U aix->U js<=U os->(over aix js os)[j]?=os[i]?
 | [],aix,os,i,j,hn,h,hk,hl=>by simp at h
 |j'::js,aix,[],i,j,hn,h,hk,hl=>by simp at hl
 |j'::js,aix,o::os,0,j,hn,h,hk,hl=>by
  cases h;rw[uy,Bi (l5.mp hn).1 (by rw[qM];exact hk),Du hk];rfl
 |j'::js,aix,o::os,i+1,j,hn,h,hk,hl=>by
  rw[uy,Bj (l5.mp hn).2 (by simpa using h) (by rw[qM];exact hk)<|by simpa using hl];rfl
theorem F0{α:Type}:∀{js:J B} {aix os:J α} {i:B},U js<=U os->(over aix js os)[U aix+i]?=os[U js+i]?
 | [],aix,os,i,h=>by rw[FY,dc<|dZ _ _,jx];simp
 |j::js,aix,[],i,h=>by simp at h
 |j::js,aix,o::os,i,h=>by
  have:=F0 (js:=js) (aix:=aix.set j o) (os:=os) (i:=i) (by simpa using h);rw[qM] at this;rw[uy,this,cK,show U js+1+i=(U js+i)+1 from by exact nH _ _ _,vy]
noncomputable def oQ(js:J B)(p:B)(k:B):B:=if k<U js then js.getD k 0 else p+(k-U js)
theorem cE.frame{aiA:ak}(js:J B)(hf:cE C.toWd n aiA hp args aZ v)(hl:U js=U hp)(hle:U hp<=U aZ)(hn:js.Nodup)
  (v5:∀(i:B) (o:O),hp[i]?=some o->o.bG (λk=>decide (k<U js))=true/\∃j,js[i]?=some j/\st.hp[j]?=some (o.cf λk=>js.getD k 0)) (ha:V.fe (λk=>decide (k<U js)) args=true):
  aQ C n aiA (V.lI (λk=>js.getD k 0) args) st (v.cf<|oQ js<|U st.hp) ⟨st.loc,over st.hp js<|aZ.map<|O.cf<|oQ js<|U st.hp⟩:=by
 refine .mk λA s ρ xs Q hA R aV hQ=>?_
 have jlt:∀j∈js,j<U st.hp:=λj hj=>by
  obtain⟨i,hi,e⟩:=mE hj;refine nR (v5 i hp[i]<|bO<|by refine bL hl ?_;exact hi) λH j' G h2=>?_
  rw[bO hi,e] at G;cases G;exact(cJ.mp h2).1
 have N9:∀j∈js,j<U ρ:=λj hj=>by refine D R.led.len ?_;exact jlt j hj
 have F4:∀(k:B) (a:ax),k<U js->ρ[js.getD k 0]?=some a->(js.map λj=>ρ.getD j 0)[k]?=some a:=λk a hk e=>by
  refine D (c6)<|D (bO hk) ?_;show some (ρ.getD js[k] 0)=_;rw[c5,bO hk] at e;refine D (c5) ?_
  refine D (show ρ[js[k]]?=some a from e) ?_;rfl
 have Bk:∀(k:B) (a:ax),(js.map λj=>ρ.getD j 0)[k]?=some a->k<U js/\ρ[js.getD k 0]?=some a:=λk a e=>by
  have hk:k<U js:=by have:=(cJ.mp e).1;rwa [bg] at this
  refine⟨hk,?_⟩;rw[c6,bO hk] at e;have e':ρ.getD js[k] 0=a:=by cases e;rfl
  have eS:=N9 _<|nE hk;rw[c5,bO eS,vE] at e';rw[c5,bO hk,vE,bO eS,e']
 have sub:∀a∈(js.map λj=>ρ.getD j 0),a∈ρ:=λa ha=>by
  obtain⟨k,hk,e⟩:=mE ha;exact dT (Bk k a<|by rw[bO hk,e]).2
 have L:ji C.toWd (js.map λj=>ρ.getD j 0) hp s:=by
  refine⟨by rw[bg,hl],λk o a e q=>(nR (v5 k o e) λG j h2 h3=>?_),FP R.led.nodup hn N9,λa h=>R.led.low a<|sub a h,R.toF.size,R.led.top,R.led.os,R.led.drawn⟩;refine xA (Bk k a q) λhk q'=>?_
  have hj:js.getD k 0=j:=by refine D (c5)<|D h2 ?_;rfl
  exact(R.led.objs j _ a h3<|hj▸q').mQ (λk a hk e=>F4 k a (dq hk) e) G
 refine hf.run A s (js.map λj=>ρ.getD j 0) xs Q hA L (aV.mQ (λk a hk e=>F4 k a (dq hk) e) ha) λρc x s' N hx=>xE N.pre λt av=>?_
 subst av;have lc:U (js.map λj=>ρ.getD j 0)=U js:=bg ..;have pl:U ρ=U st.hp:=R.led.len;have tl:U js+U t=U aZ:=by rw[←N.led.len,aK,lc]
 have go:∀k a,(λH:B=>true) k=true->((js.map λj=>ρ.getD j 0)++t)[k]?=some a->(ρ++t)[oQ js (U st.hp) k]?=some a:=λk a H e=>by
  unfold oQ
  by_cases hk:k<U js
  ·refine D (aU hk) ?_
   rw[cA<|by exact me hk lc] at e;refine xA (Bk k a e) λH q=>?_
   rw[cA (cJ.mp q).1];exact q
  ·refine D (aE hk) ?_
   rw[dc (by exact Nv hk lc),lc] at e;rw[dc (by exact Nx pl),pl,jx];exact e
 have uz:∀a∈t,a∉(js.map λj=>ρ.getD j 0):=λa ha hm=>(mF.mp N.led.nodup).2.2 a hm a ha rfl;have F5:∀a∈t,s.heap.get? a=none:=λa ha=>N.fresh a (bK.mpr<|.inr ha)<|uz a ha;have tρ:∀a∈t,a∉ρ:=λa ha hm=>by
  refine mM (R.toF.mem hm) λH H ob H H H ho H=>?_
  rw[F5 a ha] at ho;cases ho
 have keep:∀b o,s.heap.get? b=some o->b∉(js.map λj=>ρ.getD j 0)->s'.heap.get? b=some o:=N.keep;have aaW:C.env.locals∉(js.map λj=>ρ.getD j 0):=λh=>R.led.fB<|sub _ h;have ol:U (over st.hp js<|aZ.map<|O.cf<|oQ js<|U st.hp)=U st.hp+U t:=by
  (refine D (FZ<|by rw[bg];exact uk tl)<|D (bg _) ?_);exact aaj tl
 refine hQ (ρ++t) x s' ⟨gK ..,N.aX,λb o e G H=>keep b o e λh=>G<|sub b h,λa h q=>?_,N.gens,?_,?_⟩<|hx.cf go V.re
 ·rcases bK.mp h with h|h
  ·exact aY h q
  ·exact F5 a h
 ·refine aH R.loc λm bT hm=>?_
  exact⟨m,mi bT λo e=>keep _ o e aaW,λx v e=>by
   exact aH (hm x v e) λy hy q=>⟨y,hy,q.mono (gK ..) N.aX⟩⟩
 ·refine⟨by rw[ol,aK,pl],λk o a e q=>?_,?_,λh=>?_,λa h=>?_,R.led.gQ,N.led.top,N.led.os,N.led.drawn⟩
  ·by_cases hk:k<U st.hp
   ·rw[cA<|by exact me hk pl] at q
    by_cases hj:k∈js
    ·obtain⟨i,hi,e'⟩:=mE hj;have ei:js[i]?=some k:=by rw[bO hi,e']
     rw[Bj hn ei hk (by refine D (bg _) ?_;exact uk tl),c6] at e;cases hh:aZ[i]? with
     |none=>rw[hh] at e;cases e
     |some o'=>
      rw[hh] at e;cases e;refine(N.led.objs i o' a hh (D (cA (by exact me hi lc)) ?_)).cf go O.re;exact F4 i a hi (by refine D (c5)<|D ei ?_;exact q)
    ·rw[Bi hj hk] at e;have z:=R.led.objs k o a e q;refine aH z.there λob ho H=>z.mono (gK ..) N.aX<|(keep a ob ho λh=>?_).trans ho.symm;obtain⟨i,hi,e'⟩:=mE h;refine xA (Bk i a<|by rw[bO hi,e']) λG h2=>?_
     have:=pU R.led.nodup q h2;rw[this,c5,bO G] at hj;exact hj<|nE G
   ·have:k=U st.hp+(k-U st.hp):=by exact aai hk
    rw[this,F0 (by refine D (bg _) ?_;exact uk tl),c6] at e;cases hh:aZ[U js+(k-U st.hp)]? with
    |none=>rw[hh] at e;cases e
    |some o'=>
     rw[hh] at e;cases e;refine(N.led.objs _ o' a hh ?_).cf go O.re;rw[dc (by exact aah this pl),pl] at q;rw[dc (by exact Nx lc),lc,jx];exact q
  ·refine mF.mpr ⟨R.led.nodup,(mF.mp N.led.nodup).2.1,λa ha b hb e=>?_⟩;subst e;exact tρ a hb ha
  ·rcases bK.mp h with h|h
   ·exact R.led.fB h
   ·refine aH R.loc λm cq H=>eR cq λoL H H hL H=>?_
    rw[F5 _ h] at hL;cases hL
  ·rcases bK.mp h with h|h
   ·exact R.led.low a h
   ·exact N.led.low a<|bK.mpr<|.inr h
theorem mn(h:k<=16777216):k<=km:=h
noncomputable def F6(C:Cx)(n:B)(v:V)(st:St)(b:bb):Prop:=
 ∀(A:bS) (s:ay) (ρ:J ax) (x:ak) (Q:bb->ay->Prop),cn n A->Rep C ρ st s->v.Is ρ s.heap x->(∀s',bk C ρ s st ρ s'->Q b s')->aF (aN C.prog C.w) A (truthy x) Q bq s
@[irreducible] noncomputable def fG(C:Cx)(n:B)(v:V)(st:St)(b:bb):Prop:=F6 C n v st b
theorem fG.mk(run:F6 C n v st b):fG C n v st b:=by with_unfolding_all exact run
theorem fG.run(h:fG C n v st b):F6 C n v st b:=by with_unfolding_all exact h
theorem kR{b:bb}:fG C n (.bool b) st b:=.mk λA s ρ x Q hA R e h=>by
 subst e;exact wpAny_truthy_bool<|h s<|ek R
theorem fG.none:fG C n .none st false:=.mk λA s ρ x Q hA R e h=>by
 subst e;exact truthy_none<|h s<|ek R
theorem fu(G:EV C n e st v am)(h2:fG C n v am b)(he:aO (isTrue e C.env (eval e C.env)=(do let v ←eval e C.env;nK e.pos;holding [v] (truthy v))) a8):TV C n e st b am:=.mk λA s ρ Q hA R h=>
 isTrue_plain (G.run A s ρ _ hA R λaC x s1 N1 i1=>h2.run A s1 aC x Q hA N1.rep i1 λs2 N2=>h aC s2<|N1.trans N2) he
theorem TV.not(G:TV C n e st b am):TV C n (.UnaryOp .Not e p) st (!b) am:=.mk λA s ρ Q hA R h=>
 isTrue_not (G.run A s ρ _ hA R λaC s1 N1=>h aC s1 N1)
theorem pX:TV C n (.BoolOp .And [] p) st true st:=.mk λA s ρ Q hA R h=>isTrue_and_nil<|h ρ s<|ek R
theorem TV.or_nil:TV C n (.BoolOp .Or [] p) st false st:=.mk λA s ρ Q hA R h=>isTrue_or_nil<|h ρ s<|ek R
theorem jm(G:TV C n e st false am):TV C n (.BoolOp .And (e::es) p) st false am:=.mk λA s ρ Q hA R h=>
 isTrue_and (G.run A s ρ _ hA R λaC s1 N1=>h aC s1 N1)
theorem kq(G:TV C n e st true am)(h2:TV C n (.BoolOp .And es p) am b ba):TV C n (.BoolOp .And (e::es) p) st b ba:=.mk λA s ρ Q hA R h=>
 isTrue_and (G.run A s ρ _ hA R λaC s1 N1=>h2.run A s1 aC Q hA N1.rep λbh s2 N2=>h bh s2<|N1.trans N2)
theorem TV.or_true(G:TV C n e st true am):TV C n (.BoolOp .Or (e::es) p) st true am:=.mk λA s ρ Q hA R h=>
 isTrue_or (G.run A s ρ _ hA R λaC s1 N1=>h aC s1 N1)
theorem TV.or_false(G:TV C n e st false am)(h2:TV C n (.BoolOp .Or es p) am b ba):TV C n (.BoolOp .Or (e::es) p) st b ba:=.mk λA s ρ Q hA R h=>
 isTrue_or (G.run A s ρ _ hA R λaC s1 N1=>h2.run A s1 aC Q hA N1.rep λbh s2 N2=>h bh s2<|N1.trans N2)
theorem EV.ifT{a b:bB}(G:TV C n t st true am)(h2:EV C n a am v ba):EV C n (.IfExp t a b p) st v ba:=.mk λA s ρ Q hA R h=>
 wpAny_IfExp (G.run A s ρ _ hA R λaC s1 N1=>h2.run A s1 aC Q hA N1.rep λbh x s2 N2 i2=>h bh x s2 (N1.trans N2) i2)
theorem EV.ifF{a b:bB}(G:TV C n t st false am)(h2:EV C n b am v ba):EV C n (.IfExp t a b p) st v ba:=.mk λA s ρ Q hA R h=>
 wpAny_IfExp (G.run A s ρ _ hA R λaC s1 N1=>h2.run A s1 aC Q hA N1.rep λbh x s2 N2 i2=>h bh x s2 (N1.trans N2) i2)
theorem dL{es:J bB}{k:B}{p:cN}{vs:J V}(G:jl C n es st vs am)(hz:U vs<=16777216:=by exact bY rfl):EV C n (.Tuple es k p) st (.tup (.type "tuple") vs) am:=.mk λA s ρ Q hA R h=>by
 refine Tuple_<|G.run A s ρ p _ hA R λaC xs s1 N1 i1=>?_;have hl:U xs<=km:=by exact D (dK i1)<|mn hz
 refine wpAny_newObj_type (h aC _ _ (N1.trans<|bk.push N1.rep _ _) ⟨rfl,_,xs.toArray,0,rfl,ew _ rfl,i1.mono (bP _)<|bF.push _ _⟩) ?_
 show xs.toArray.size<=km;exact D rU hl
theorem eI{es:J bB}{p:cN}{vs:J V}(G:jl C n es st vs am)(hz:U vs<=16777216:=by exact bY rfl):EV C n (.List es p) st (.ref<|U am.hp) ⟨am.loc,am.hp++[.list vs]⟩:=.mk λA s ρ Q hA R h=>by
 refine List_<|G.run A s ρ p _ hA R λaC xs s1 N1 i1=>?_;have hl:U xs<=km:=by exact D (dK i1)<|mn hz
 refine wpAny_newObj_type (h (aC++[s1.heap.objs.size]) _ _ (N1.trans (bk.alloc (ob:=.list vs) (o:=⟨.type "list",aA,.seq xs.toArray 0,#[]⟩) N1.rep rfl ⟨xs.toArray,0,ew _ rfl,i1.mono (gK ..) (bF.push _ _)⟩ _))
  ⟨s1.heap.objs.size,by(refine D (dc (by rw[N1.rep.led.len];exact aG _)) (D N1.rep.led.len (D (fF _) ?_)));rfl,rfl⟩) ?_
 show xs.toArray.size<=km;rw[rU];exact hl
theorem X1.brk{p:cN}{K:Fl->St->Prop}(h:K .brk st):X1 C n q (.Break p) st K:=.mk λA s ρ Q hA R k=>wpAny_Break<|k ρ .brk .brk st s h (eH.refl R) rfl
theorem X1.cont{p:cN}{K:Fl->St->Prop}(h:K .cont st):X1 C n q (.Continue p) st K:=.mk λA s ρ Q hA R k=>wpAny_Continue<|k ρ .cont .cont st s h (eH.refl R) rfl
theorem X1.aug{op:Operator}{r:V}(hl:st.loc.lookup x=some aiy)(G:EV C n e st v am)(h2:a9 C n (inplaceOp op) aiy v am r ba)(h:K .next (ba.put x r))
  (hk:aO (C.env.scope.kind= .function) a8) (hn:aO (C.env.kindOf x=some .local) a8):X1 C n q (.AugAssign (.Name x p') op e p) st K:=.mk λA s ρ Q hA R k=>by
 exact aH R.loc λm bT hm=>aH (hm x aiy hl) λy hy hv=>wpAny_AugAssign_Name (wpAny_loadName_local hk hn bT hy (G.run A s ρ _ hA R λaC z s1 N1 i1=>h2.run A s1 aC y z _ hA N1.rep (hv.mono N1.pre N1.aX) i1 λbh w s2 N2 i2=>
  vY N2.rep i2 (λs3 N3=>k bh .next _ _ s3 h ((N1.trans N2).trans N3).toS rfl) hk hn))
theorem a9.iadd_int{a b:az}:a9 C n (inplaceOp .Add) (.int a) (.int b) st (.int<|a+b) st:=.mk λA s ρ x y Q hA R ⟨t,e1⟩ ⟨aiy,e2⟩ h=>by
 subst e1 e2;exact PyProof.Rows.iadd_int<|h ρ _ _ (gh R _) ⟨_,rfl⟩
noncomputable def St.Bl(st:St):J ao->J V->St
 |x::xs,v::vs=>St.Bl (st.put x v) xs vs
 |_,_=>st
theorem Oa:∀{xs:J ao} {vs:J V} {st:St} {ys:J ak} {A:bS} {s:ay} {ρ:J ax} {Q:fD->ay->Prop},Rep C ρ st s->V.IsL ρ s.heap vs ys->
  (∀x∈xs,C.env.kindOf x=some .local)->C.env.scope.kind= .function->(∀s',bk C ρ s (st.Bl xs vs) ρ s'->Q () s')->aF (aN C.prog C.w) A (assignInOrder (xs.map λx=>bindName C.env x) ys) Q bq s
 | [],vs,st,ys,A,s,ρ,Q,R,hi,hx,hk,h=>by cases vs<;>exact wpAny_pure<|h s (ek R)
 |x::xs,[],st,ys,A,s,ρ,Q,R,hi,hx,hk,h=>by
  obtain rfl:ys=[]:=hi;exact wpAny_pure<|h s<|ek R
 |x::xs,v::vs,st,_,A,s,ρ,Q,R,z0,hx,hk,h=>dh z0 λy ys ez i1 i2=>by
  subst ez;show aF _ _ (do holding ys (bindName C.env x y);assignInOrder (xs.map λx=>bindName C.env x) ys) _ _ _;exact wpAny_bind<|wpAny_holding<|wpAny_bindName<|vY R i1 (λs1 N1=>(Oa N1.rep (i2.mono N1.pre N1.aX) (λz hz=>hx z<|.tail _ hz) hk λs2 N2=>h s2<|N1.trans N2)) hk<|hx x<|.head _
theorem V.IsL.reverse{ρ:J ax}{h:bn}:∀{l:J V} {xs:J ak},V.IsL ρ h l xs->V.IsL ρ h l.reverse xs.reverse
 | [],_,e=>by exact D (show _=[] from e) rfl
 |v::l,_,z0=>dh z0 λx r e e1 e2=>by subst e;exact D Ab<|D Ab<|V.IsL.append (V.IsL.reverse e2) ⟨x,[],rfl,e1,rfl⟩
theorem Ob{x:ak}{Q:J ak->ay->Prop}(hA:A.handled=aA)(R:Rep C ρ st s)(hi:V.Is ρ s.heap (.tup (.type "tuple") vs) x)
  (h:∀ys s',bk C ρ s st ρ s'->V.IsL ρ s'.heap vs ys->Q ys s'):aF (aN C.prog C.w) A (unpackItems x (U vs) aA) Q bq s:=by
 refine oJ hi λH a ar k av ho hl=>?_
 clear hi;subst av;have ht:IsTup s.heap a ar:=⟨_,ho,rfl,k,rfl⟩
 have hz:U vs=ar.size:=by rw[←eO,dK hl]
 refine D hz<|unpackItems_tuple hA ht λh' he=>?_;have kp:∀b o,s.heap.get? b=some o->h'.get? b=some o:=λb o e=>he b o (iS<|dH e) e;exact h _ _ (bk.grow R kp (eN.refl _) rfl rfl)<|hl.mono (bP _)<|iB kp
theorem X1.F7(G:EV C n e st (.tup (.type "tuple") vs) am)(h:K .next (am.Bl names.reverse vs.reverse))(hl:aO (U names=U vs) a8)
  (hx:aO (names.all (λx=>C.env.kindOf x==some .local)=true) a8) (hk:aO (C.env.scope.kind= .function) a8) (hs:aO (vJ [.Tuple elts k tp] e p.line C.env=pure false) a8) (hw:aO (vK [.Tuple elts k tp] e C.env=pure (some names)) a8):
  X1 C n q (.Assign [.Tuple elts k tp] e p) st K:=.mk λA s ρ Q hA R kk=>by
 exact Assign_Tuple_swapped (G.run A s ρ _ hA R λaC x s1 N1 i1=>(D hl<|Ob hA.1 N1.rep i1 λys s2 N2 i2=>(Oa N2.rep (V.IsL.reverse i2) (λx hm=>eq_of_beq<|fW.mp hx x<|JQ.mp hm) hk λs3 N3=>kk aC .next _ _ s3 h ((N1.trans N2).trans N3).toS rfl))) hs hw
theorem rf(G:EV C n e st (.tup (.type "tuple") vs) am)(h:XS C n q r (am.Bl names.reverse vs.reverse) K)(hl:aO (U names=U vs) a8)
  (hx:aO (names.all (λx=>C.env.kindOf x==some .local)=true) a8) (hk:aO (C.env.scope.kind= .function) a8) (hs:aO (vJ [.Tuple elts k tp] e p.line C.env=pure false) a8) (hw:aO (vK [.Tuple elts k tp] e C.env=pure (some names)) a8):
  XS C n q (.Assign [.Tuple elts k tp] e p::r) st K:=cg<|X1.F7 G h hl hx hk hs hw
noncomputable def jE(own:J ax)(h h':bn):Prop:=∀b o,b∉own->h.get? b=some o->h'.get? b=some o
theorem Rep.own{ρ:J ax}{s:ay}{own:J ax}{h':bn}(R:Rep C ρ st s)(ho:∀a∈own,a∉ρ/\a≠C.env.locals/\C.top.get? a=none)(he:jE own s.heap h')(hs:bF s.heap h')(t:B):
  Rep C ρ st {s with heap:=h',toks:=t}:=by
 refine⟨?_,⟨R.led.len,λj o a e q=>?_,R.led.nodup,R.led.fB,R.led.low,R.led.gQ,λb o e=>he b o (λhb=>?_)<|R.led.top b o e,R.led.os,R.led.drawn⟩⟩
 ·refine aH R.loc λm hn hm=>?_
  exact⟨m,mi hn λo e=>he _ o (λhb=>(ho _ hb).2.1 rfl) e,λx v e=>by obtain⟨y,hy,q⟩:=hm x v e;exact⟨y,hy,q.mono (bP _) hs⟩⟩
 ·have z:=R.led.objs j o a e q;exact aH z.there λx hx H=>(z.mono (bP _) hs<|(he a x (λhb=>(ho a hb).1<|dT q) hx).trans hx.symm)
 ·have:=(ho b hb).2.2;simp only[this] at e;exact nomatch e
theorem eH.own{p:B}{fO ρ:J ax}{s0 s:ay}{own:J ax}{h':bn}(N:eH C p fO s0 st ρ s)(ho:∀a∈own,a∉ρ/\a≠C.env.locals/\C.top.get? a=none)(hf:∀a∈own,s0.heap.get? a=none)(he:jE own s.heap h')(hs:bF s.heap h')(t:B):
  eH C p fO s0 st ρ {s with heap:=h',toks:=t}:=
 ⟨N.pre,N.aX.trans hs,λb o e G h2=>he b o (λhb=>by have:=hf b hb;rw[this] at e;cases e)<|N.keep b o e G h2,N.fresh,N.gens,N.rep.own ho he hs t⟩
theorem bk.own{fO ρ:J ax}{s0 s:ay}{own:J ax}{h':bn}(N:bk C fO s0 st ρ s)(ho:∀a∈own,a∉ρ/\a≠C.env.locals/\C.top.get? a=none)(hf:∀a∈own,s0.heap.get? a=none)(he:jE own s.heap h')(hs:bF s.heap h')(t:B):
  bk C fO s0 st ρ {s with heap:=h',toks:=t}:=
 ⟨N.pre,N.aX.trans hs,λb o e G h2=>he b o (λhb=>by have:=hf b hb;rw[this] at e;cases e)<|N.keep b o e G h2,N.fresh,N.gens,N.rep.own ho he hs t⟩
noncomputable def v6(C:Cx)(n:B)(target:bB)(it:ak)(own:J ax)(At:B->bn->Prop)(items:J V)(aiw:St->Prop)(aC:J ax):Prop:=
 (∀i h h',At i h->(∀a∈own,∀o,h.get? a=some o->h'.get? a=some o)->bF h h'->At i h')/\(∀i h,At i h->∀a∈own,∃o,h.get? a=some o)/\
 ∀(i:B) (A:bS) (s:ay) (ρ:J ax) (st:St) (Qn:ay->Prop) (Qs:ak->ay->Prop),cn n A->Rep C ρ st s->aC<+:ρ->aiw st->At i s.heap->(∀a∈own,a∉ρ/\a≠C.env.locals/\C.top.get? a=none)->
  (∀v,items[i]?=some v->∀x h' t,At (i+1) h'->jE own s.heap h'->bF s.heap h'->v.Is ρ h' x->Qs x {s with heap:=h',toks:=t})->
  (items[i]?=aA->∀h' t,jE own s.heap h'->bF s.heap h'->Qn {s with heap:=h',toks:=t})->
  aF (aN C.prog C.w) A (oF it) (λr s'=>match r with
   |Option.none=>Qn s'
   |some x=>aF (aN C.prog C.w) A (xr target it x) (λH bQ=>Qs x bQ) bq s') bq s
noncomputable def F8(C:Cx)(n:B)(v:V)(st:St)(items:J V)(aiw:St->Prop)(lo:B):Prop:=
 ∀(A:bS) (s:ay) (ρ:J ax) (x:ak) (Q:ak->ay->Prop),cn n A->Rep C ρ st s->v.Is ρ s.heap x->
  (∀it own At s',(∀target p,lo<=p->v6 C n target it own At items aiw (ρ.take p))->At 0 s'.heap->(∀a∈own,s.heap.get? a=aA)->bk C ρ s st ρ s'->Q it s')->aF (aN C.prog C.w) A (oG x) Q bq s
@[irreducible] noncomputable def gj(C:Cx)(n:B)(v:V)(st:St)(items:J V)(aiw:St->Prop)(lo:B):Prop:=F8 C n v st items aiw lo
theorem gj.mk(run:F8 C n v st items aiw lo):gj C n v st items aiw lo:=by with_unfolding_all exact run
theorem gj.run(h:gj C n v st items aiw lo):F8 C n v st items aiw lo:=by with_unfolding_all exact h
noncomputable def F9(C:Cx)(n:B)(target e:bB)(st am:St)(items:J V)(aiw:St->Prop)(lo:B):Prop:=
 ∀(A:bS) (s:ay) (ρ:J ax) (Q:ak->ay->Prop),cn n A->Rep C ρ st s->
  (∀aC it own At s',(∀p,lo<=p->v6 C n target it own At items aiw (aC.take p))->At 0 s'.heap->(∀a∈own,a∉aC/\s.heap.get? a=aA)->bk C ρ s am aC s'->Q it s')->
  aF (aN C.prog C.w) A (eval e C.env) (λx s1=>aF (aN C.prog C.w) A (oG x) Q bq s1) bq s
@[irreducible] noncomputable def gS(C:Cx)(n:B)(target e:bB)(st am:St)(items:J V)(aiw:St->Prop)(lo:B):Prop:=F9 C n target e st am items aiw lo
theorem gS.mk(run:F9 C n target e st am items aiw lo):gS C n target e st am items aiw lo:=by with_unfolding_all exact run
theorem gS.run(h:gS C n target e st am items aiw lo):F9 C n target e st am items aiw lo:=by with_unfolding_all exact h
theorem gS.of(G:EV C n e st v am)(h2:gj C n v am items aiw lo):gS C n target e st am items aiw lo:=.mk λA s ρ Q hA R h=>by
 refine G.run A s ρ _ hA R λaC x s1 N1 i1=>h2.run A s1 aC x _ hA N1.rep i1 λit own At s2 hit cO dj N2=>?_
 have Oc:∀a∈own,a∉aC:=λa ha hr=>by
  refine mM (N1.rep.toF.mem hr) λH H ob H H H h3 H=>?_
  simp only[dj a ha] at h3;exact nomatch h3
 refine h aC it own At s2 (hit target) cO (λa ha=>⟨Oc a ha,?_⟩)<|N1.trans N2;cases e:s.heap.get? a with
 |none=>rfl
 |some o=>
  have v7:=dj a ha
  by_cases hl:a=C.env.locals
  ·subst hl;refine aH N1.rep.loc λm cq H=>eR cq λoL H H hL H=>?_
   simp only[hL] at v7;exact nomatch v7
  ·by_cases hr:a∈ρ
   ·exact aY (N1.pre.subset hr)<|Oc a ha
   ·simp only[N1.keep a o e hr hl] at v7;exact nomatch v7
noncomputable def Ga(C:Cx)(n:B)(target:bB)(v:V)(st aj:St):Prop:=
 ∀(A:bS) (s:ay) (ρ:J ax) (x:ak) (Q:fD->ay->Prop),cn n A->Rep C ρ st s->v.Is ρ s.heap x->(∀aB s',bk C ρ s aj aB s'->Q () s')->aF (aN C.prog C.w) A (assign target C.env x) Q bq s
@[irreducible] noncomputable def c8(C:Cx)(n:B)(target:bB)(v:V)(st aj:St):Prop:=Ga C n target v st aj
theorem c8.mk(run:Ga C n target v st aj):c8 C n target v st aj:=by with_unfolding_all exact run
theorem c8.run(h:c8 C n target v st aj):Ga C n target v st aj:=by with_unfolding_all exact h
theorem bW(hk:aO (C.env.scope.kind= .function) a8)(hn:aO (C.env.kindOf x=some .local) a8):c8 C n (.Name x p) v st (st.put x v):=.mk λA s ρ y Q hA R hv h=>
 wpAny_assign_Name (vY R hv (λs' N=>h ρ s' N) hk hn)
noncomputable def SubL(r loc:J<|ao×V):Prop:=∀x v,r.lookup x=some v->loc.lookup x=some v
theorem SubL.nil{loc:J (ao×V)}:SubL [] loc:=λx v h=>by exact nomatch h
theorem SubL.cons{k:ao}{r loc:J (ao×V)}(h:loc.lookup k=some v)(t:SubL r loc):SubL ((k,v)::r) loc:=λx aiy e=>by
 rw[gv] at e;cases hq:x==k with
 |true=>rw[hq] at e;(cases cj e;clear e);exact D (eq_of_beq hq) h
 |false=>rw[hq] at e;exact t x aiy e
theorem bp{loc:J (ao×V)}:∀{r:J (ao×V)},(r.map λp=>loc.lookup p.1)=(r.map λp=>some p.2)->SubL r loc
 | []=>λH=>SubL.nil
 |(_,_)::_=>λh=>SubL.cons (tJ h).1<|bp (tJ h).2
noncomputable def c9(aiA:B->B)(g:B->bb)(r loc:J<|ao×V):Prop:=∀x v',r.lookup x=some v'->∃v,loc.lookup x=some v/\v.bG g=true/\v'=v.cf aiA
theorem c9.nil{loc:J (ao×V)}:c9 aiA g [] loc:=λx v h=>by exact nomatch h
theorem c9.cons{k:ao}{v':V}{r loc:J (ao×V)}(h:loc.lookup k=some v)(hi:v.bG g=true)(hr:v'=v.cf aiA)(t:c9 aiA g r loc):c9 aiA g ((k,v')::r) loc:=λx aiy e=>by
 rw[gv] at e;cases hq:x==k with
 |true=>rw[hq] at e;(cases cj e;clear e);exact D (eq_of_beq hq)<|⟨v,h,hi,hr⟩
 |false=>rw[hq] at e;exact t x aiy e
noncomputable def jn(p:B)(st aj:St):Prop:=(aj.hp=st.hp/\SubL aj.loc st.loc)\/∃ns aiA g,Cv p ns aiA g st.hp aj.hp/\c9 aiA g aj.loc st.loc
theorem jn.loc{p:B}{l:J (ao×V)}(h:SubL l' l):jn p ⟨l,hp⟩ ⟨l',hp⟩:=.inl ⟨rfl,h⟩
theorem eH.conv{p:B}(R:Rep C ρ st s)(hp:p<=U st.hp)(c:jn p st aj):∃bh,eH C p ρ s aj bh s/\∀a∈bh,a∈ρ:=by
 rcases c with ⟨ch,cl⟩|⟨ns,aiA,g,cv,cl⟩
 ·refine⟨ρ,⟨pG ..,bF.refl _,λH H e H H=>e,λa h q=>aY h q,eN.refl _,?_,?_⟩,λH h=>h⟩
  ·exact aH R.loc λm bT hm=>(⟨m,bT,λx v e=>hm x v<|cl x v e⟩)
  ·exact D ch R.led
 have k:=cv.cut (ρ:=ρ.take p) (by simp only[gA,R.led.len];exact Fj hp) (pG ..) R.toF;refine⟨_,⟨k.pre,bF.refl _,λH H e H H=>e,λa h q=>aY (k.sub a h) q,eN.refl _,(aH R.loc λm bT hm=>(⟨m,bT,λx v' e=>(cP (cl x v' e) λv e1 e2 av=>?_)⟩)),⟨k.led.len,k.led.objs,k.led.nodup,λh=>R.led.fB<|k.sub _ h,k.led.low,R.led.gQ,k.led.top,k.led.os,k.led.drawn⟩⟩,k.sub⟩;subst av;exact aH (hm x v e1) λy hy q=>(⟨y,hy,q.cf k.cf e2⟩)
theorem jo{ss:J fq}{K:Fl->St->Prop}{aj:St}(c:jn q st aj)(h:XS C n q ss aj K)(hp:q<=U st.hp):XS C n q ss st K:=.mk λA s ρ Q hA R k=>by
 exact aH (eH.conv R hp c) λbh N2 H=>(h.run A s bh Q hA N2.rep λdp fl aiA ce s3 hK N3 hf=>k dp fl aiA ce s3 hK (N2.trans N3) hf)
theorem XS.forget{l:J (ao×V)}(c:SubL l' l)(h:XS C n q ss ⟨l',hp⟩ K):XS C n q ss ⟨l,hp⟩ K:=.mk λA s ρ Q hA R k=>by
 have R':Rep C ρ ⟨l',hp⟩ s:=⟨by obtain⟨m,bT,hm⟩:=R.loc;exact⟨m,bT,λx v e=>hm x v<|c x v e⟩,R.led⟩
 exact h.run A s ρ Q hA R' λdp fl aiA ce s3 hK N3 hf=>k dp fl aiA ce s3 hK N3 hf
theorem nV{iter:bB}(r:B)(Inv:B->St->Prop)
  (G:gS C n target iter st am items aiw lo) (h0:Inv 0 am) (hD:∀i aj,i<=U items->Inv i aj->aiw aj) (kr:lo<=r) (hq:q<=r)
  (iX:∀i aiy aj,items[i]?=some aiy->Inv i aj->∃ba,c8 C n target aiy aj ba/\XS C n r body ba (kL (Inv<|i+1) K))
  (sx:∀aj,Inv (U items) aj->XS C n q orelse aj K)
  (hs:aO (∀x,pK iter C.env x=pure x) aI._auto_1):
  X1 C n q (.For target iter body orelse pos) st K:=.mk λA s ρ Q hA R k=>by
 refine wpAny_For (G.run A s ρ _ hA R λaC it own At s2 uA cO dj iY=>?_) hs;have hit:=uA r kr;have jp:∀a∈own,C.top.get? a=aA:=λa ha=>by
  cases e:C.top.get? a with
  |none=>rfl
  |some o=>have:=R.led.top a o e;rw[(dj a ha).2] at this;exact nomatch this
 have lJ:∀a∈own,a≠C.env.locals:=λa ha e=>by
  subst e;refine aH R.loc λm cq H=>eR cq λoL H H hL H=>?_
  simp only[(dj _ ha).2] at hL;exact nomatch hL
 have weak:∀{ρ s aj aB s'},eH C r ρ s aj aB s'->eH C q ρ s aj aB s':=λN=>⟨xj (w7 hq) N.pre,N.aX,N.keep,N.fresh,N.gens,N.rep⟩
 refine codeAny_forLoop_any (λm s'=>∃i aB aj,m=U items-i/\i<=U items/\Inv i aj/\eH C q ρ s aj aB s'/\aC.take r<+:aB/\At i s'.heap/\(∀a∈own,a∉aB)) ?_ (U items)
  ⟨0,aC,am,rfl,bH _,h0,iY.toS,pG ..,cO,λa ha=>(dj a ha).1⟩
 intro m s' dM;refine AI dM λi aB aj bE hi hI bR=>?_
 clear dM;subst bE;refine gc bR λN NN Gb yc=>?_
 have side:∀a∈own,a∉aB/\a≠C.env.locals/\C.top.get? a=aA:=λa ha=>⟨yc a ha,lJ a ha,jp a ha⟩
 refine wpAny_mono (hit.2.2 i A s' aB aj
   (λcW=>aF (aN C.prog C.w) A (mJ orelse C.env) Q bq cW)
   (λy cW=>aF (aN C.prog C.w) A (PySem.assign target C.env y) (λH sy=>aF (aN C.prog C.w) A (mJ body C.env) (λaiA lK=>match aiA with
     | .next| .cont=>∃m,m<U items-i/\(∃i aB aj,m=U items-i/\i<=U items/\Inv i aj/\eH C q ρ s aj aB lK/\aC.take r<+:aB/\At i lK.heap/\(∀a∈own,a∉aB))
     | .brk=>Q .next lK
     | .ret v=>Q (.ret v) lK) bq sy) bq cW) hA N.rep NN (hD i aj hi hI) Gb side ?_ ?_) (λr cW h=>?_) (λH H h=>h.elim)
 ·intro aiy hu y h' t at' ext aX iy;have Ni:=N.own side (λa ha=>(dj a ha).2) ext aX t;have lt:i<U items:=(cJ.mp hu).1;refine aH (iX i aiy aj hu hI) λba yd hB=>yd.run A _ aB y _ hA Ni.rep iy λdp s3 N3=>hB.run A s3 dp _ hA N3.rep λeX fl aiA hO s4 hK N4 hf=>?_
  have rg:=N3.FE N4;have sB:=Ni.trans<|weak rg;have ownIn:∀a∈own,a∉eX/\(∀o,h'.get? a=some o->s4.heap.get? a=some o):=λa ha=>by
   refine xE (hit.2.1 (i+1) h' at' a ha) λo ho=>⟨λhm=>?_,λo e=>rg.keep a o e (yc a ha)<|lJ a ha⟩
   have:=rg.fresh a hm<|yc a ha;simp only[show h'.get? a=aA from this] at ho;exact nomatch ho
  have again:Inv (i+1) hO->∃m,m<U items-i/\(∃i aB aj,m=U items-i/\i<=U items/\Inv i aj/\eH C q ρ s aj aB s4/\aC.take r<+:aB/\At i s4.heap/\(∀a∈own,a∉aB)):=λiZ=>
   ⟨U items-(i+1),by exact Fk lt,i+1,eX,hO,rfl,lt,iZ,sB,pV NN rg.pre,hit.1 (i+1) h' _ at' (λa ha=>(ownIn a ha).2) rg.aX,λa ha=>(ownIn a ha).1⟩
  cases fl with
  |next=>subst hf;exact again hK
  |cont=>subst hf;exact again hK
  |brk=>subst hf;exact k eX .next _ hO s4 hK sB rfl
  |ret w=>obtain⟨z,rfl,hz⟩:=hf;exact k eX (.ret w) _ hO s4 hK sB ⟨z,rfl,hz⟩
 ·intro hu h' t ext aX;have Ni:=N.own side (λa ha=>(dj a ha).2) ext aX t;have he:i=U items:=DS hi<|ot.mp hu;subst he;exact(sx aj hI).run A _ aB Q hA Ni.rep λeX fl aiA hO s4 hK N4 hf=>k eX fl aiA hO s4 hK (Ni.trans N4) hf
 ·cases r with
  |none=>exact wpAny_mono h (λH H h=>h) λH H h=>h.elim
  |some y=>
   refine wpAny_mono h (λH sy h=>wpAny_mono h (λH sy h=>wpAny_mono h (λaiA lK h=>?_) λH H h=>h.elim) λH H h=>h.elim) λH H h=>h.elim;cases aiA<;>exact h
theorem ye{vs:bD ak}(h:o.data= .fields vs):mc o=false:=AJ h
theorem Od{l:ax}{i:B}(x:h.IsListIter it l i)(e:jE [it] h h'):bF h h':=λb o q t=>e b o (λhb=>by
 rw[bw] at hb;subst hb;refine cP x λob ho H hd=>?_
 rw[ho] at q;cases q
 rw[ye hd] at t;cases t) q
theorem Bm{r:ax}{x:ak}{Q:fD->ay->Prop}(ho:s.heap.get? r=some o)(hc:o.cls= .type T)
  (hT: ["enumerate","zip","dict_itemiterator","dict_reverseitemiterator","odict_iterator","itertools.zip_longest","itertools.pairwise"].contains T=false) (h:Q () s):aF (aN C.prog C.w) A (xr target (.ref r) x) Q bq s:=by
 have key:∀a:ax,aF (aN C.prog C.w) A (do
   let o ←load r
   match o.cls,o.data with
   | .type n,.fields vs=>
    if["enumerate","zip","dict_itemiterator","dict_reverseitemiterator","odict_iterator","itertools.zip_longest","itertools.pairwise"].contains n&&vs[0]?==some (rawInt a) then
     rule "for.unpacks-the-owned-tuple"
     updateField r 0 .none
   |_,_=>pure ()) Q bq s:=λa=>by
  refine wpAny_bind<|wpAny_load ho<|D hc ?_;cases o.data with
  |fields vs=>
   show aF _ A (if(["enumerate","zip","dict_itemiterator","dict_reverseitemiterator","odict_iterator","itertools.zip_longest","itertools.pairwise"].contains T&&_)=true then _ else _) Q bq s;exact D hT<|D (bb.false_and _)<|D (aE dy)<|wpAny_pure h
  |_=>exact wpAny_pure h
 have k2:aF (aN C.prog C.w) A (xr (.Tuple [] 0 default) (.ref r) x) Q bq s:=by
  cases x with
  |ref a=>exact key a
  |_=>exact wpAny_pure h
 cases target with
 |Tuple=>exact k2
 |List=>exact k2
 |_=>exact wpAny_pure h
noncomputable def Gc(C:Cx)(it:ak)(At:B->bn->Prop):Prop:=∀(i:B) (A:bS) (s:ay) (Q:ak->ay->Prop),At i s.heap->Q it s->aF (aN C.prog C.w) A (oG it) Q bq s
@[irreducible] noncomputable def fC(C:Cx)(n:B)(v:V)(st:St)(items:J V)(aiw:St->Prop)(lo:B):Prop:=∀(A:bS) (s:ay) (ρ:J ax) (x:ak) (Q:ak->ay->Prop),cn n A->Rep C ρ st s->v.Is ρ s.heap x->
  (∀it own At s',(∀target p,lo<=p->v6 C n target it own At items aiw (ρ.take p))->Gc C it At->At 0 s'.heap->(∀a∈own,s.heap.get? a=aA)->bk C ρ s st ρ s'->Q it s')->aF (aN C.prog C.w) A (oG x) Q bq s
theorem fC.mk(run:∀(A:bS) (s:ay) (ρ:J ax) (x:ak) (Q:ak->ay->Prop),cn n A->Rep C ρ st s->v.Is ρ s.heap x->
  (∀it own At s',(∀target p,lo<=p->v6 C n target it own At items aiw (ρ.take p))->Gc C it At->At 0 s'.heap->(∀a∈own,s.heap.get? a=aA)->bk C ρ s st ρ s'->Q it s')->aF (aN C.prog C.w) A (oG x) Q bq s):fC C n v st items aiw lo:=by with_unfolding_all exact run
theorem fC.run(h:fC C n v st items aiw lo):∀(A:bS) (s:ay) (ρ:J ax) (x:ak) (Q:ak->ay->Prop),cn n A->Rep C ρ st s->v.Is ρ s.heap x->
  (∀it own At s',(∀target p,lo<=p->v6 C n target it own At items aiw (ρ.take p))->Gc C it At->At 0 s'.heap->(∀a∈own,s.heap.get? a=aA)->bk C ρ s st ρ s'->Q it s')->aF (aN C.prog C.w) A (oG x) Q bq s:=by with_unfolding_all exact h
theorem fC.ok(h:fC C n v st items aiw lo):gj C n v st items aiw lo:=.mk λA s ρ x Q hA R hv k=>h.run A s ρ x Q hA R hv λit own At s' G H=>k it own At s' G
theorem fC.list{k:B}{items:J V}(hk:st.hp[k]?=some (.list items)):fC C n (.ref k) st items (λaj=>aj.hp[k]?=some (.list items)) (k+1):=.mk λA s ρ x Q hA R hv h=>by
 refine aH hv λl hl av=>?_
 clear hv;subst av;refine dv (R.led.objs k _ l hk hl) λvs m ho hi=>?_
 have hL:s.heap.IsList l vs:=⟨_,ho,rfl,m,rfl⟩
 refine wpAny_pyIter_list hL<|h (.ref s.heap.objs.size) [s.heap.objs.size] (λi h=>h.IsListIter s.heap.objs.size l i) _ (λtarget p hp=>⟨λi h h' x e H=>x.at λo=>e _ (.head _) o,λi h x a ha=>?_,?_⟩) (λi A s Q h hq=>wpAny_pyIter_listiter h hq) ⟨_,ew _ rfl,rfl,rfl⟩ (λa ha=>?_)<|bk.push R _ s.toks
 ·rw[bw] at ha;subst ha;exact aH x λo ho H=>(⟨o,ho⟩)
 ·intro i A' s' aB aj Qn Qs fP R' pre hD cO side rh ri;obtain⟨l',kt,mR,m',gD,ic⟩:∃l',aB[k]?=some l'/\∃mR m',s'.heap.get? l'=some ⟨.type "list",aA,.seq mR m',#[]⟩/\V.IsL aB s'.heap items mR.toList:=by
   exact cP (R'.led.at hD) λa G cq H=>dv cq λmR m' h2 h3=>(⟨a,G,mR,m',h2,h3⟩)
  have:l'=l:=by
   have:=pS pre (by refine D (zV hp) ?_;exact hl);rw[kt] at this;cases this;rfl
  subst this;have sC:s'.heap.IsList l' mR:=⟨_,gD,rfl,m',rfl⟩
  have jF:∀{h2:bn},qW s.heap.objs.size s'.heap h2->jE [s.heap.objs.size] s'.heap h2:=λe b o hb q=>e b o (λz=>hb<|z▸ .head _) q;cases hq:items[i]? with
  |some v=>
   refine aH (V.IsL.get ic hq) λx hx hv=>?_
   refine wpAny_pyNext_list_item cO sC (by refine bL (jX) ?_;exact hx) λh2 mT gw=>?_
   have ba:=Od cO<|jF gw.extBut;exact cP (id mT) λoi yf yg H=>(Bm yf yg (by decide)<|rh v hq x h2 s'.toks mT (jF gw.extBut) ba<|hv.mono (bP _) ba)
  |none=>
   refine wpAny_pyNext_list_end fP.1 cO sC ?_ λh2 gw=>?_
   ·rw[←jX,ot,dK ic,←ot];exact hq
   ·exact ri hq h2 s'.toks (jF gw)<|Od cO<|jF gw
 ·rw[bw] at ha;subst ha;exact uu
theorem gj.list{k:B}{items:J V}(hk:st.hp[k]?=some (.list items)):gj C n (.ref k) st items (λaj=>aj.hp[k]?=some (.list items)) (k+1):=(fC.list hk).ok
theorem Oe{ty:dm}{t:jg}{i:B}(y:h.IsStrIter it ty x t i)(e:jE [it] h h'):bF h h':=λb o q t=>e b o (λhb=>by
 rw[bw] at hb;subst hb;refine cP y λob ho H hd=>?_
 rw[ho] at q;cases q
 rw[ye hd] at t;cases t) q
noncomputable def signs(x:ao):J V:=x.cps.toList.map λc=>.str ⟨#[c]⟩
theorem fC.str{x:ao}:fC C n (.str x) st (signs x) (λH=>gC) 0:=.mk λA s ρ y Q hA R hv h=>by
 refine xE hv λt av=>?_
 clear hv;subst av;have jF:∀{a:ax} {G h2:bn},qW a G h2->jE [a] G h2:=λe b o hb q=>e b o (λz=>hb<|z▸ .head _) q;have at':∀{i:B} {v:V},(signs x)[i]?=some v->∃c,x.cps[i]?=some c/\v= .str ⟨#[c]⟩:=λ{i v} e=>by
  unfold signs at e;rw[c6,jX] at e;cases hc:x.cps[i]? with
  |none=>rw[hc] at e;cases e
  |some c=>rw[hc] at e;cases e;exact⟨c,rfl,rfl⟩
 have Ge:∀{i:B},(signs x)[i]?=aA->x.cps[i]?=aA:=λ{i} e=>by
  unfold signs at e;rw[c6,jX] at e;cases hc:x.cps[i]? with
  |none=>rfl
  |some c=>rw[hc] at e;cases e
 have key:∀ty:dm,["enumerate","zip","dict_itemiterator","dict_reverseitemiterator","odict_iterator","itertools.zip_longest","itertools.pairwise"].contains ty=false->(∀{A':bS} {s':ay} {it:ax} {i c:B} {Q':bC ak->ay->Prop},s'.heap.IsStrIter it ty x t i->x.cps[i]?=some c->(∀h',h'.IsStrIter it ty x t (i+1)->iV it s'.heap h'->Q' (some<|.str ⟨#[c]⟩ s'.toks) {s' with heap:=h',toks:=s'.toks+1})->aF (aN C.prog C.w) A' (oF<|.ref it) Q' bq s')->
   (∀{A':bS} {s':ay} {it:ax} {i:B} {Q':bC ak->ay->Prop},A'.handled=aA->s'.heap.IsStrIter it ty x t i->x.cps[i]?=aA->(∀h',qW it s'.heap h'->Q' aA {s' with heap:=h'})->aF (aN C.prog C.w) A' (oF<|.ref it) Q' bq s')->
   ∀target p,0<=p->v6 C n target (.ref s.heap.objs.size) [s.heap.objs.size] (λi h=>h.IsStrIter s.heap.objs.size ty x t i) (signs x) (λH=>gC) (ρ.take p):=λty ku k1 k2 target p hp=>by
  refine⟨λi h h' ⟨o,ho,r⟩ e H=>⟨o,e _ (.head _) o ho,r⟩,λi h ⟨o,ho,_⟩ a ha=>?_,?_⟩
  ·rw[bw] at ha;subst ha;exact⟨o,ho⟩
  intro i A' s' aB aj Qn Qs fP R' pre hD cO side rh ri;cases hq:(signs x)[i]? with
  |some v=>
   refine aH (at' hq) λc hc av=>?_
   subst av;exact k1 cO hc λh2 mT gw=>by
    exact cP (id mT) λoi yf yg H=>(Bm yf yg ku<|rh _ hq _ h2 _ mT (jF gw.extBut) (Oe cO<|jF gw.extBut) ⟨_,rfl⟩)
  |none=>exact k2 fP.1 cO (Ge hq) λh2 gw=>ri hq h2 s'.toks (jF gw)<|Oe cO<|jF gw
 cases ha:x.cps.all (· <128) with
 |true=>
  refine wpAny_pyIter_ascii ha (h _ _ _ _ (key "str_ascii_iterator" (by decide) wpAny_pyNext_ascii_item wpAny_pyNext_ascii_end) (λi A s Q h hq=>wpAny_pyIter_striter_ascii h hq) ⟨_,ew _ rfl,rfl,rfl⟩ (λa ha=>?_)<|bk.push R _ s.toks);rw[bw] at ha;subst ha;exact uu
 |false=>
  refine wpAny_pyIter_wide ha (h _ _ _ _ (key "str_iterator" (by decide) wpAny_pyNext_wide_item wpAny_pyNext_wide_end) (λi A s Q h hq=>wpAny_pyIter_striter_wide h hq) ⟨_,ew _ rfl,rfl,rfl⟩ (λa ha=>?_)<|bk.push R _ s.toks);rw[bw] at ha;subst ha;exact uu
theorem gj.str{x:ao}:gj C n (.str x) st (signs x) (λH=>gC) 0:=fC.str.ok
theorem mU(L:Led C ρ hp s)(h:bn):V.Is (ρ++[s.heap.objs.size]) h (.ref<|U hp) (.ref s.heap.objs.size):=
 ⟨s.heap.objs.size,by simp only[←L.len,dc<|aG _,fF];rfl,rfl⟩
theorem aQ.aaX{b:az}:aQ C n (.type "range") [.int b] st (.ref<|U st.hp) ⟨st.loc,st.hp++[.fields "range" [.int 0,.int b,.int 1]]⟩:=.mk λA s ρ xs Q hA R aV h=>by
 refine cD aV λx r bE cx i2=>?_
 clear aV;subst bE;refine xE cx λt av=>?_
 clear cx;subst av;obtain rfl:r=[]:=i2;exact call_range_1 (h _ _ _ (bk.alloc (ob:=.fields "range" [.int 0,.int b,.int 1]) R rfl ⟨by decide,_,ew _ rfl,⟨_,_,rfl,⟨_,rfl⟩,_,_,rfl,⟨_,rfl⟩,_,_,rfl,⟨_,rfl⟩,rfl⟩⟩ _)<|mU R.led _)
theorem aQ.aaY{a b:az}:aQ C n (.type "range") [.int a,.int b] st (.ref<|U st.hp) ⟨st.loc,st.hp++[.fields "range" [.int a,.int b,.int 1]]⟩:=.mk λA s ρ xs Q hA R aV h=>by
 refine cD aV λx r bE cx bR=>?_
 clear aV;subst bE;refine xE cx λt av=>?_
 clear cx;subst av;refine cD bR λy r' gT ky i2=>?_
 clear bR;subst gT;refine xE ky λaiy av=>?_
 clear ky;subst av;obtain rfl:r'=[]:=i2;exact call_range_2 (h _ _ _ (bk.alloc (ob:=.fields "range" [.int a,.int b,.int 1]) R rfl ⟨by decide,_,ew _ rfl,⟨_,_,rfl,⟨_,rfl⟩,_,_,rfl,⟨_,rfl⟩,_,_,rfl,⟨_,rfl⟩,rfl⟩⟩ _)<|mU R.led _)
noncomputable def nums(a:az)(k:B):J V:=(eD k).map λ(i:B)=>.int<|a+(i:az)
theorem Of{x l c:az}(y:DX h it x l c)(e:jE [it] h h'):bF h h':=λb o q t=>e b o (λhb=>by
 rw[bw] at hb;subst hb;simp only[y] at q;(injection q;subst_vars)
 cases t) q
theorem gj.range{k:B}{a b:az}(hk:st.hp[k]?=some (.fields "range" [.int a,.int b,.int 1]))(hz:Lf a b 1=((b-a).toNat:az))(hs:ed.Range.small a b 1=true):gj C n (.ref k) st (nums a (b-a).toNat) (λH=>gC) 0:=.mk λA s ρ x Q hA R hv h=>by
 refine aH hv λl hl av=>?_
 clear hv;subst av;refine nR (R.led.objs k _ l hk hl) λH vs ho hi=>?_
 obtain⟨vl⟩:=vs;refine cD hi λH H bE cx bR=>?_
 clear hi;subst bE;refine xE cx λt1 av=>?_
 clear cx;subst av;refine cD bR λH H gT ky Bn=>?_
 clear bR;subst gT;refine xE ky λt2 av=>?_
 clear ky;subst av;refine cD Bn λH H Gf Og Gg=>?_
 clear Bn;subst Gf Gg;refine xE Og λt3 av=>?_
 clear Og;subst av;have jF:∀{a:ax} {G h2:bn},qW a G h2->jE [a] G h2:=λe b o hb q=>e b o (λz=>hb<|z▸ .head _) q;have atS:∀{i:B} {v:V},(nums a (b-a).toNat)[i]?=some v->i<(b-a).toNat/\v= .int (a+i):=λ{i v} e=>by
  unfold nums at e;rw[c6] at e
  by_cases bJ:i<(b-a).toNat
  ·rw[ou bJ] at e;(injection e;subst_vars);exact⟨bJ,rfl⟩
  ·rw[rP<|by refine D gL ?_;exact iR ‹_›] at e;exact nomatch e
 have Ge:∀{i:B},(nums a (b-a).toNat)[i]?=aA->(b-a).toNat<=i:=λ{i} e=>by
  have:=ot.mp e;unfold nums at this;rw[bg,gL] at this;exact this
 refine wpAny_pyIter_range ho hs<|h _ [s.heap.objs.size] (λi h=>DX h s.heap.objs.size (a+i) (((b-a).toNat:az)-i) 1) _ (λtarget p hp=>⟨λi h h' y e H=>e _ (.head _) _ y,λi h y c hc=>?_,?_⟩) ?_ (λc hc=>?_)<|bk.push R _ s.toks
 ·rw[bw] at hc;subst hc;exact⟨_,y⟩
 ·intro i A' s' aB aj Qn Qs fP R' pre hD cO side rh ri;cases hq:(nums a (b-a).toNat)[i]? with
  |some v=>
   refine xA (atS hq) λbJ av=>?_
   subst av;refine wpAny_pyNext_range_item cO (by lia) λh2 mT gw=>Bm mT rfl (by decide)<|rh _ hq _ h2 _ ?_ (jF gw.extBut) (Of cO<|jF gw.extBut) ⟨_,rfl⟩;have e1:a+((i+1:B):az)=a+(i:az)+1:=by lia
   have e2:((b-a).toNat:az)-((i+1:B):az)=((b-a).toNat:az)-(i:az)-1:=by lia
   simp only[e1,e2];exact mT
  |none=>
   have:=Ge hq;exact wpAny_pyNext_range_end fP.1 cO (by lia) λh2 gw=>ri hq h2 s'.toks (jF gw)<|Of cO<|jF gw
 ·show DX _ _ _ _ _;have e1:a+((0:B):az)=a:=by lia
  have e2:((b-a).toNat:az)-((0:B):az)=Lf a b 1:=by simp only[hz];rfl
  exact D e1<|D e2<|ew _ rfl
 ·rw[bw] at hc;subst hc;exact uu
theorem Oh{l:ax}{i:B}(x:h.IsTupleIter it l i)(e:jE [it] h h'):bF h h':=λb o q t=>e b o (λhb=>by
 rw[bw] at hb;subst hb;refine cP x λob ho H hd=>?_
 simp only[ho] at q;(cases cj q;clear q)
 simp only[ye hd] at t;cases t) q
theorem gj.tup{items:J V}{lo:B}(hr:V.sv lo items=true):gj C n (.tup (.type "tuple") items) st items (λH=>gC) lo:=.mk λA s ρ x Q hA R hv h=>by
 refine oJ hv λH l vs m av ho hi=>?_
 clear hv;subst av;have hL:s.heap.IsTuple l vs:=⟨_,ho,rfl,m,rfl⟩
 have jF:∀{a:ax} {G h2:bn},qW a G h2->jE [a] G h2:=λe b o hb q=>e b o (λz=>hb<|z▸ .head _) q;refine wpAny_pyIter_tuple hL<|h (.ref s.heap.objs.size) [s.heap.objs.size] (λi h=>h.IsTupleIter s.heap.objs.size l i/\h.get? l=some ⟨.type "tuple",aA,.seq vs m,#[]⟩/\V.IsL (ρ.take lo) h items vs.toList) _ (λtarget p hp=>⟨λi h h' x e st=>⟨?_,st _ _ x.2.1 rfl,x.2.2.mono (bP _) st⟩,λi h x a ha=>?_,?_⟩) ⟨⟨_,ew _ rfl,rfl,rfl⟩,dD _ ho,(hi.shrink hr).mono (bP _)<|bF.push _ _⟩ (λa ha=>?_)<|bk.push R _ s.toks
 ·refine xA x λcq H=>?_
  obtain⟨o,ho,r⟩:=cq;exact⟨o,e _ (.head _) o ho,r⟩
 ·rw[bw] at ha;subst ha;refine xA x λcq H=>?_
  obtain⟨o,ho,_⟩:=cq;exact⟨o,ho⟩
 ·intro i A' s' aB aj Qn Qs fP R' pre hD cO side rh ri;refine eh cO λhit Oi pY=>?_
  have sC:s'.heap.IsTuple l vs:=⟨_,Oi,rfl,m,rfl⟩
  cases hq:items[i]? with
  |some v=>
   refine aH (V.IsL.get pY hq) λx hx hv=>?_
   refine wpAny_pyNext_tuple_item hit sC (by refine bL (jX) ?_;exact hx) λh2 mT gw=>?_
   have ba:=Oh hit<|jF gw.extBut;exact cP (id mT) λoi yf yg H=>(Bm yf yg (by decide)<|rh v hq x h2 s'.toks ⟨mT,ba _ _ Oi rfl,pY.mono (bP _) ba⟩ (jF gw.extBut) ba<|hv.mono ((w7 hp).trans pre) ba)
  |none=>
   refine wpAny_pyNext_tuple_end fP.1 hit sC ?_ λh2 gw=>?_
   ·rw[←jX,ot,dK pY,←ot];exact hq
   ·exact ri hq h2 s'.toks (jF gw)<|Oh hit<|jF gw
 ·rw[bw] at ha;subst ha;exact uu
noncomputable def pairs:B->J V->J V
 |_,[]=>[]
 |i,v::l=>.tup (.type "tuple") [.int i,v]::pairs (i+1) l
theorem Bo:∀{l:J V} {k i:B},(pairs k l)[i]?=(l[i]?).map λv=>.tup (.type "tuple") [.int ((k+i:B):az),v]
 | [],k,i=>rfl
 |v::l,k,0=>rfl
 |v::l,k,i+1=>by
  exact(Bo (l:=l) (k:=k+1) (i:=i)).trans<|D (nH k 1 i) rfl
noncomputable def rj(C:Cx)(aiy:V)(st:St)(T:dm):Prop:=∀(s:ay) (ρ:J ax) (x:ak),Rep C ρ st s->aiy.Is ρ s.heap x->s.TypeIs x T/\∀a,x= .ref a->∃ob,s.heap.get? a=some ob/\ob.dict=aA
theorem uB{k:B}{l:J V}(hk:st.hp[k]?=some (.list l)):rj C (.ref k) st "list":=λs ρ x R hv=>by
 refine aH hv λa ha av=>?_
 clear hv;subst av;refine dv (R.led.objs k _ a hk ha) λvs m ho hi=>?_
 exact⟨⟨_,ho,rfl⟩,λb e=>by cases e;exact⟨_,ho,rfl⟩⟩
theorem nW{t:ao}:rj C (.str t) st "str":=λs ρ x R hv=>by
 refine xE hv λaiy av=>?_
 clear hv;subst av;exact⟨typeIs_str s t aiy,λb e=>by cases e⟩
theorem jq{o:bB}{name:ao}{args:J bB}{id:dm}(ho:EV C n o st aiy am)(hT:rj C aiy am T)(ha:jl C n (e::args) am vs ba)(hc:aQ C n (.builtin id) (aiy::vs) ba v ce)
  (pa:PlainAttrs T) (slot:qU T name id) (ku:typeOf (.builtin id)=pure (.type "method_descriptor"))
  (oR:aO (vL o name C.env (eval o C.env)=eval o C.env) a8)
  (Bp:aO (((lE pos (lC (e::args) C.env)).all (λx=> !x.1)&&(qQ pos (qP [] C.env)).all (λx=>x.1.isSome)
   &&decide (U (e::args)+U ([]:J nN)+(if([]:J nN).isEmpty then 0 else 1)<30))=true) a8)
  (lL:aO ((apos.endLine==pos.line)=true) a8) (he:aO ((e::args).all gR=true) a8):EV C n (.Call (.Attribute o name apos) (e::args) [] pos) st v ce:=.mk λA s ρ Q hA R h=>by
 refine wpAny_Call_method oR Bp lL pa slot ku<|ho.run A s ρ _ hA R λaC x s1 N1 i1=>⟨(hT s1 aC x N1.rep i1).1,(hT s1 aC x N1.rep i1).2,?_⟩;have Gh:gR e=true:=by simp only[oA,gP] at he;exact he.1
 have key:=ha.run A s1 aC pos (λxs s2=>aF (aN C.prog C.w) A (gO (.builtin id) ([x]++xs) []) Q bq s2) hA N1.rep (λbh xs s2 N2 i2=>
  hc.run A s2 bh (x::xs) Q hA N2.rep ⟨x,xs,rfl,i1.mono N2.pre N2.aX,i2⟩ λdp z s3 N3 i3=>h dp z s3 ((N1.trans N2).trans N3) i3)
 have pZ:=(fb.mp (fb.mp Bp).1).1;have hp:(lE pos<|lC (e::args) C.env).any (·.1)=false:=by
  rw[J.any_eq_false];intro x hx;simpa using fW.mp pZ x hx
 rw[kQ Gh] at key hp ⊢;exact EA hp<|EB key
theorem EV.method0{o:bB}{name:ao}{id:dm}(ho:EV C n o st aiy am)(hT:rj C aiy am T)(hc:aQ C n (.builtin id) [aiy] am v ce)
  (pa:PlainAttrs T) (slot:qU T name id) (ku:typeOf (.builtin id)=pure (.type "method_descriptor"))
  (oR:aO (vL o name C.env (eval o C.env)=eval o C.env) a8)
  (lL:aO ((apos.endLine==pos.line)=true) a8):EV C n (.Call (.Attribute o name apos) [] [] pos) st v ce:=.mk λA s ρ Q hA R h=>by
 exact wpAny_Call_method oR rfl lL pa slot ku<|ho.run A s ρ _ hA R λaC x s1 N1 i1=>⟨(hT s1 aC x N1.rep i1).1,(hT s1 aC x N1.rep i1).2,(EA rfl<|PyProof.Rows.evalArgs_none<|hc.run A s1 aC [x] Q hA N1.rep ⟨x,[],rfl,i1,rfl⟩ λdp z s3 N3 i3=>h dp z s3 (N1.trans N3) i3)⟩
theorem Gi{k:B}{l:J V}{v:V}(hk:st.hp[k]?=some (.list l))(hz:U l<=16777216):aQ C n (.builtin "list.append") [.ref k,v] st .none ⟨st.loc,st.hp.set k<|.list<|l++[v]⟩:=.mk λA s ρ xs Q hA R aV h=>by
 refine cD aV λx r bE cx bR=>?_
 clear aV;subst bE;refine aH cx λa ha av=>?_
 clear cx;subst av;refine cD bR λy r' gT hy i2=>?_
 clear bR;subst gT;obtain rfl:r'=[]:=i2;refine dv (R.led.objs k _ a hk ha) λvs m ho hi=>wpAny_call_entry slot_list_append ⟨_,ho,rfl⟩ entry_list_append ?_<|args_list_append _ _
 show aF _ _ (updateSeq a (·.push y) >>= λH=>ret .none) _ _ s;refine wpAny_bind ?_
 have hlen:vs.size<=km:=by exact bL eO<|D (dK hi) hz
 refine xE (⟨_,rfl⟩:∃m',fX (·.push y) ⟨.type "list",aA,.seq vs m,#[]⟩=⟨.type "list",aA,.seq (vs.push y) m',#[]⟩) λm' e=>?_
 have gV:bF s.heap (s.heap.update a<|fX (·.push y)):=jY (iA ..) ho rfl;have ic:V.IsL ρ (s.heap.update a<|fX (·.push y)) (l++[v]) (vs.push y).toList:=by
  exact D KG<|V.IsL.append (hi.mono (bP _) gV) ⟨y,[],rfl,hy.mono (bP _) gV,rfl⟩
 exact wpAny_updateSeq ho rfl<|wpAny_pure ⟨.none,rfl,h ρ _ _ (bk.change R (ob:=.list<|l++[v]) ha (iA ..) ⟨vs.push y,m',((pO _ ho rfl).trans<|bA some e),ic⟩ s.toks) rfl⟩
theorem iE{o:bB}{l2:J V}(ho:EV C n o st (.ref k) am)(hT:am.hp[k]?=some (.list l2))(ha:EV C n e am v ba)(hk:ba.hp[k]?=some (.list l))(hz:U l<=16777216)
  (oR:aO (vL o "append" C.env (eval o C.env)=eval o C.env) a8)
  (Bp:aO (((lE pos (lC [e] C.env)).all (λx=> !x.1)&&(qQ pos (qP [] C.env)).all (λx=>x.1.isSome)
   &&decide (U [e]+U ([]:J nN)+(if([]:J nN).isEmpty then 0 else 1)<30))=true) a8)
  (lL:aO ((apos.endLine==pos.line)=true) a8) (he:aO (gR e=true) a8):EV C n (.Call (.Attribute o "append" apos) [e] [] pos) st .none ⟨ba.loc,ba.hp.set k<|.list<|l++[v]⟩:=
 jq ho (uB hT) (an ha aM he) (Gi hk hz) uc Ed Ef oR Bp lL (fb.mpr ⟨he,rfl⟩)
theorem X1.expr(G:EV C n e st v am)(h:K .next am)(hi:aO (interactive C.env=false) a8)(hs:aO (swapsWith e none p.line C.env=pure false) a8):X1 C n q (.Expr e p) st K:=.mk λA s ρ Q hA R k=>
 wpAny_Expr_any (G.run A s ρ _ hA R λaC x s1 N1 i1=>k aC .next _ _ s1 h N1.toS rfl) hi hs
theorem eE(G:EV C n e st v am)(h:XS C n q r am K)(hi:aO (interactive C.env=false) a8)(hs:aO (swapsWith e none p.line C.env=pure false) a8):XS C n q (.Expr e p::r) st K:=cg<|X1.expr G h hi hs
theorem p0(hk:st.hp[k]?=some (.list l))(hz:U l<2 ^ 63):aQ C n (.builtin "len") [.ref k] st (.int<|U l) st:=.mk λA s ρ xs Q hA R aV h=>by
 refine cD aV λx r bE cx i2=>?_
 clear aV;subst bE;refine aH cx λa ha av=>?_
 clear cx;subst av;obtain rfl:r=[]:=i2;refine dv (R.led.objs k _ a hk ha) λvs m ho hi=>?_
 have hl:vs.size=U l:=by rw[←eO,dK hi]
 exact K8 ⟨_,ho,rfl,m,rfl⟩ (by refine D hl ?_;lia)<|h ρ _ _ (gh R _) ⟨_,by exact D hl rfl⟩
inductive v8(top:bn)(c:ax)(mN:ao->bC ak):Prop
 |mk nm q N bs sn sub ab col dd k0 k1 k2 k3 k5 newId (h:top.get? c=some (vN nm q c N bs [.type "object"] true sn sub ab col dd k0 k1 k2 k3 k5 newId)) (n:top.Ns N mN)
theorem Bq{l:J (ao×V)}(R:Rep C ρ st s)(hk:st.hp[k]?=some (.inst c d))(hd:st.hp[d]?=some (.attrs l))(ha:ρ[k]?=some a):
  ∃m b,ρ[d]?=some b/\a≠b/\s.heap.InstFk a c m/\∀x,(∀v,l.lookup x=some v->∃y,m x=some y/\v.Is ρ s.heap y)/\(l.lookup x=aA->m x=aA):=by
 refine aH (R.led.objs k _ a hk ha) λb hb ho=>nR (R.led.objs d _ b hd hb) λcq m bT hm=>cP cq λob kz mo uC=>?_
 have ne:b≠a:=λe=>by subst e;simp only[ho] at kz;(injection kz;subst_vars);exact nomatch mo
 exact⟨m,b,hb,ne.symm,⟨_,ho,rfl,λc e=>by simp at e,.inr ⟨b,rfl,ne,bT,⟨_,kz,mo,uC⟩⟩⟩,hm⟩
theorem EV.attr{o:bB}{l:J (ao×V)}(ho:EV C n o st (.ref k) am)(hk:am.hp[k]?=some (.inst c d))(hd:am.hp[d]?=some (.attrs l))(hv:l.lookup x=some v)
  (hc:v8 C.top c mN) (yh:aO (mN "__getattribute__"=aA) a8) (mW:aO (mN x=aA) a8) (hB:ea (.type "object") x=pure aA) (hv':∀id,v≠ .val (.builtin id))
  (he:aO (eval (.Attribute o x pos) C.env=(do
   let w ←eval o C.env
   nK pos.atName
   let r ←holding [w] (l7 w x true)
   vI o w r
   pure r)) aW._auto_1):EV C n (.Attribute o x pos) st v am:=.mk λA s ρ Q hA R h=>by
 refine AE (ho.run A s ρ _ hA R λaC y s1 N1 i1=>(aH i1 λa ha av=>?_)) he;clear i1;subst av;refine kn (Bq N1.rep hk hd ha) λm b hb ne I hm=>aH ((hm x).1 v hv) λy hy iv=>?_
 obtain⟨nm,q,N,bs,sn,sub,ab,col,dd,k0,k1,k2,k3,k5,newId,hC,hn⟩:=hc;refine load_attrFk (N1.rep.led.top _ _ hC) (hn.keeps N1.rep.led.top) yh mW hB I hy ?_<|h aC y _ (N1.trans<|gh N1.rep _) iv
 cases v with
 |none=>subst iv;rfl
 |bool b=>subst iv;rfl
 |int i=>obtain⟨t,rfl⟩:=iv;rfl
 |str i=>obtain⟨t,rfl⟩:=iv;rfl
 |ref i=>obtain⟨t,_,rfl⟩:=iv;rfl
 |tup c' l'=>obtain⟨_,t,_,_,rfl,_⟩:=iv;rfl
 |val w=>
  subst iv;cases y with
  |builtin id=>exact aY rfl<|hv' id
  |_=>rfl
theorem bk.Oj(R:Rep C ρ st s)(ha:ρ[k]?=some a)(he:∀b o,b≠a->s.heap.get? b=some o->h'.get? b=some o)(hi:ob.Is C.w ρ h' a)(t:B):
  bk C ρ s ⟨st.loc,st.hp.set k ob⟩ ρ {s with heap:=h',toks:=t}:=by
 have hk:k<U ρ:=(cJ.mp ha).1;have eS:k<U st.hp:=by exact bL R.led.len hk
 have mem:a∈ρ:=by refine bL ((cJ.mp ha).2) ?_;exact nE hk
 refine aH ((R.led.objs k _ a (bO eS) ha).there) λH ho ht=>?_
 have aX:bF s.heap h':=λb o e t=>by
  by_cases hb:b=a
  ·subst hb;simp only[ho] at e;(cases cj e;clear e);rw[ht] at t;exact aY t dy
  ·exact he b o hb e
 have aL:C.env.locals≠a:=λe=>R.led.fB<|e▸mem;refine⟨bP _,aX,λb o e G H=>he b o (λz=>G<|z▸mem) e,λa h q=>aY h q,eN.refl _,?_,⟨by simpa using R.led.len,λj o b e q=>?_,R.led.nodup,R.led.fB,R.led.low,R.led.gQ,λb o e=>he b o (λz=>?_)<|R.led.top b o e,R.led.os,R.led.drawn⟩⟩
 ·refine aH R.loc λm hn hm=>?_
  exact⟨m,mi hn λo e=>he _ o aL e,λx v e=>by obtain⟨y,hy,q⟩:=hm x v e;exact⟨y,hy,q.mono (bP _) aX⟩⟩
 ·by_cases hj:j=k
  ·subst hj;rw[Du eS] at e
   (cases cj e;clear e)
   simp only[ha] at q;(cases cj q;clear q);exact hi
  ·simp only[zZ<|ue hj] at e;have z:=R.led.objs j o b e q;have ne:b≠a:=λz=>by
    subst z;exact hj<|pU R.led.nodup q ha
   exact aH z.there λx hx H=>(z.mono (bP _) aX<|(he b x ne hx).trans hx.symm)
 ·subst z;exact aY (dH e)<|iT.mpr<|R.led.low _ mem
noncomputable def putL(l:J<|ao×V)(x:ao)(v:V):J (ao×V):=(x,v)::l.filter (λp=> !(p.1==x))
theorem Br{l:J (ao×V)}{z:ao}(h:z≠x):(putL l x v).lookup z=l.lookup z:=by
 refine D gv<|D (by simpa using h:(z==x)=false) ?_;show(l.filter _).lookup z=_
 induction l with
 |nil=>rfl
 |cons p l ih=>
  obtain⟨k,aiy⟩:=p
  by_cases hk:k=x
  ·subst hk;simp only[pF,xl,Kz,As,xn];exact D gv<|D (show(z==k)=false by simpa using h) ih
  ·simp only[pF,show(k==x)=false by simpa using hk,D7,xo];simp only[gv,gv,ih]
theorem Ol{α:Type}{z:ao}{aiy:α}:∀{l:J (ao×α)},l.lookup z=some aiy->z∈l.map (·.1)
 | []=>λh=>by exact nomatch h
 |p::l=>λh=>by
  rw[gv] at h;cases Om:z==p.1 with
  |true=>rw[eq_of_beq Om];exact vA ..
  |false=>rw[Om] at h;exact vz _<|Ol h
theorem aaZ{l:J (ao×V)}{Q:fD->ay->Prop}(R:Rep C ρ st s)(hk:st.hp[k]?=some (.inst c d))(hd:st.hp[d]?=some (.attrs l))(ha:ρ[k]?=some a)(hv:v.Is ρ s.heap y)
  (hc:v8 C.top c mN) (bT:mN "__setattr__"=aA) (mW:mN x=aA) (hB:ea (.type "object") x=pure aA) (hl:U l<=16777216)
  (h:∀s',bk C ρ s ⟨st.loc,st.hp.set d<|.attrs<|putL l x v⟩ ρ s'->Q () s'):aF (aN C.prog C.w) A (setAttr (.ref a) x y) Q bq s:=by
 refine kn (Bq R hk hd ha) λm b hb ne I hm=>aH (R.led.objs k _ a hk ha) λb' yi ho=>?_
 simp only[hb] at yi;(cases cj yi;clear yi);obtain⟨nm,q,N,bs,sn,sub,ab,col,dd,k0,k1,k2,k3,k5,newId,hC,hn⟩:=hc;have hac:a≠c:=λe=>by
  subst e;have:=R.led.top _ _ hC;rw[ho] at this;exact nomatch this
 refine store_attrFk (ns:=l.map (·.1)) PySem.F.store_object (R.led.top _ _ hC) (hn.keeps R.led.top) bT mW hB hac I (λh' tk' I' ml rk=>?_) (λz hz=>?_) (by refine D (bg _) ?_;exact hl)
 ·have ext:∀b' o,b'≠b->s.heap.get? b'=some o->h'.get? b'=some o:=λb' o cw e=>by
   by_cases On:b'=a
   ·subst On;refine ug (rk _ ho) λo1 e1 e2 e3 e4 e5=>?_
    have hoe:o=⟨.ref c,some b,.plain,#[]⟩:=by simp only[ho] at e;(injection e;subst_vars);rfl
    obtain⟨c1,d1,t1,s1⟩:=o1;have h5:=e5 b rfl;simp only at e2 e3 e4 h5;subst e2 e3 e4 h5;simp only[hoe];exact e1
   ·exact ml b' o On (λH dx e1 e2=>by simp only[ho] at e1;cases e1;cases e2;exact cw) e
  refine h _<|bk.Oj R hb ext ?_ tk'
  have aX:bF s.heap h':=λb' o e t=>ext b' o (λz=>by
   subst z;obtain⟨⟨ob,e1,e2,_⟩,_⟩:=R.led.objs d _ b' hd hb;simp only[e1] at e;(cases cj e;clear e)
   exact Lq ((q9 e2).symm.trans t)) e
  refine uf I' λo e1 e2 e3 e4=>?_
  have yj:=ext a _ ne ho;rw[e1] at yj;(have:=cj yj;clear yj;subst this);rcases e4 with ⟨e5,_⟩|⟨dx,e5,e6,e7,e8⟩
  ·exact nomatch e5
  ·(have:=cj e5;clear e5;subst this)
   refine⟨e8,_,e7,λz=>?_⟩
   by_cases hz:z=x
   ·subst hz;refine⟨λaiy hu=>⟨y,aU rfl,?_⟩,λhu=>?_⟩
    ·unfold putL at hu;rw[Dv] at hu;(cases cj hu;clear hu);exact hv.mono (bP _) aX
    ·unfold putL at hu;rw[Dv] at hu;exact nomatch hu
   ·exact D (Br hz)<|⟨λaiy hu=>(aH ((hm z).1 aiy hu) λw G h2=>(⟨w,(aE hz).trans G,h2.mono (bP _) aX⟩)),λhu=>(aE hz).trans<|(hm z).2 hu⟩
 ·cases hq:l.lookup z with
  |none=>exact aY ((hm z).2 hq) hz
  |some aiy=>exact Ol hq
theorem mq{aiA:ao}(hf:EV C n (.Name aiA p) st (.val<|.type T) am)
  (ha:jl C n (e::es) am vs ba) (hc:aQ C n (.type T) vs ba v ce) (he:aO (gR e=true) a8) (sD:aO (es.all gR=true) a8):EV C n (.Call (.Name aiA p) (e::es) [] pos) st v ce:=.mk λA s ρ Q hA R h=>by
 refine wpAny_Call_Name_kw<|hf.run A s ρ _ hA R λaC x s1 N1 i1=>?_;subst i1;refine callWith_type1 (ha.run A s1 aC pos _ hA N1.rep λbh xs s2 N2 i2=>hc.run A s2 bh xs Q hA N2.rep i2 λdp z s3 N3 i3=>h dp z s3 ((N1.trans N2).trans N3) i3) (kQ he) ?_
 clear ha hf
 induction es with
 |nil=>rfl
 |cons e' es ih=>
  simp only[oA,gP] at sD;rw[kQ sD.1];exact ih sD.2
theorem aQ.str_int{a:az}(ha:a.natAbs.log2<1920):aQ C n (.type "str") [.int a] st (.str<|ft<|toString a) st:=.mk λA s ρ xs Q hA R aV h=>by
 refine cD aV λx r bE cx i2=>?_
 clear aV;subst bE;obtain⟨t,rfl⟩:=cx;obtain rfl:r=[]:=i2;exact P.str_of_int ha<|h ρ _ _ (gh R _) ⟨_,rfl⟩
theorem nY{a b:ao}(h3:(a++b).length<=km):a9 C n (pL .Add) (.str a) (.str b) st (.str<|a++b) st:=.mk λA s ρ x y Q hA R ⟨t,e1⟩ ⟨aiy,e2⟩ h=>by
 subst e1 e2;refine PySem.P.add_str ?_
 have f:a.length=0->a++b=b:=λe=>by
  have:a.cps=#[]:=KC e;show tZ (a.cps++b.cps)=b;rw[this,bD.empty_append]
 have u:b.length=0->a++b=a:=λe=>by
  have:b.cps=#[]:=KC e;show tZ (a.cps++b.cps)=a;rw[this,bD.append_empty]
 split
 ·rename_i q;exact h ρ _ _ (ek R) ⟨aiy,by exact D (f<|eq_of_beq q) rfl⟩
 ·split
  ·rename_i q;exact h ρ _ _ (ek R) ⟨t,by exact D (u<|eq_of_beq q) rfl⟩
  ·exact⟨h3,h ρ _ _ (gh R _) ⟨_,rfl⟩⟩
theorem len0{P:J α->Prop}(h:P []):∀l:J α,U l=0->P l
 | [],_=>h
theorem sE{P:J α->Prop}(h:∀x,∀l:J α,U l=n->P (x::l)):∀l:J α,U l=n+1->P l
 |x::l,e=>h x l<|Ao.inj e
section
variable{P:J α->Prop}
theorem sF(h:∀a0,P [a0]):∀l:J α,U l=1->P l:=sE λa=>len0<|h a
theorem sG(h:∀a0 a1,P [a0,a1]):∀l:J α,U l=2->P l:=sE λa=>sF (P:=λl=>P<|a::l)<|h a
theorem Gj(h:∀a0 a1 a2,P [a0,a1,a2]):∀l:J α,U l=3->P l:=sE λa=>sG (P:=λl=>P<|a::l)<|h a
theorem yk(h:∀a0 a1 a2 a3,P [a0,a1,a2,a3]):∀l:J α,U l=4->P l:=sE λa=>Gj (P:=λl=>P<|a::l)<|h a
theorem Oo(h:∀a0 a1 a2 a3 a4,P [a0,a1,a2,a3,a4]):∀l:J α,U l=5->P l:=sE λa=>yk (P:=λl=>P<|a::l)<|h a
theorem aa0(h:∀a0 a1 a2 a3 a4 a5,P [a0,a1,a2,a3,a4,a5]):∀l:J α,U l=6->P l:=sE λa=>Oo (P:=λl=>P<|a::l)<|h a
theorem aa1(h:∀a0 a1 a2 a3 a4 a5 a6,P [a0,a1,a2,a3,a4,a5,a6]):∀l:J α,U l=7->P l:=sE λa=>aa0 (P:=λl=>P<|a::l)<|h a
theorem aa2(h:∀a0 a1 a2 a3 a4 a5 a6 a7,P [a0,a1,a2,a3,a4,a5,a6,a7]):∀l:J α,U l=8->P l:=sE λa=>aa1 (P:=λl=>P<|a::l)<|h a
end
noncomputable def fQ(P:aP):J jz:=match (NO P).data with| .dict es _=>es.toList|_=>[]
noncomputable def kU(P:aP):J jz:=match (Eo P).data with| .dict es _=>es.toList|_=>[]
noncomputable def cT(es:J jz)(x:ao):bC ak:=(es.find? λe=>e.key.isStr x).map (·.val)
theorem aa3(es:J jz)(x:ao):nsFind es.toArray x=cT es x:=by
 unfold nsFind findBy cT;simp only[JJ]
theorem v9{es:J jz}{ep:B}(ho:h.get? a=some o)(hd:o.data= .dict es.toArray ep)(hk:(es.all λe=>match e.key with| .str _ _=>true|_=>false)=true):h.Ns a (cT es):=by
 refine⟨o,es.toArray,ep,ho,hd,λe he=>?_,aa3 es⟩;have:=fW.mp hk e (by simpa using he);cases hq:e.key with
 |str n t=>exact⟨n,t,rfl⟩
 |_=>rw[hq] at this;exact Au this
theorem cQ(P:aP):(bZ P).Ns tS (cT<|fQ P):=v9 (o:=NO P) (ep:=25) (by kernel_rfl) (by kernel_rfl) (by kernel_rfl)
noncomputable def epB(P:aP):B:=match (Eo P).data with| .dict _ n=>n|_=>0
theorem dN(P:aP):(bZ P).Ns builtinsNs (cT<|kU P):=v9 (o:=Eo P) (ep:=epB P) (by kernel_rfl) (by kernel_rfl) (by kernel_rfl)
theorem Op(P:aP):cT (fQ P) "_law_range"=some (.ref 308):=by kernel_rfl
theorem sH(P:aP):cT (fQ P) "str"=none:=by kernel_rfl
theorem sI(P:aP):cT (kU P) "str"=some (.type "str"):=by kernel_rfl
theorem noLimit(P:aP):(bZ P).NoLimit:=by
 refine⟨cT [],v9 (o:=KS P) (es:=[]) (ep:=0) (by kernel_rfl) (by kernel_rfl) rfl,rfl⟩
theorem aa4(P:aP):∃o,(bZ P).get? ((bZ P).objs.size-1)=some o:=⟨su P,by kernel_rfl⟩
noncomputable def TW(w:bx)(os:bM)(dr:cV):Wd:=⟨oH,w,bZ w.params,os,dr,aa4 w.params⟩
noncomputable def fdOf(o:bc):lD:=match o.data with| .func aiA=>aiA|_=>default
structure iF(P:aP)(a:ax)(o:bc)(names:J ao):Prop where
 get:(bZ P).get? a=some o
 fd:o.data= .func (fdOf o)
 code:(bZ P).CodeRec (fdOf o).code (fdOf o).qualname
 nd:names.Nodup
 cell:∀x∈(fdOf o).scope.names,x.2≠ .cell
 loc:∀x∈names,(fdOf o).scope.names.lookup x=some .local
theorem aa5{l:J (ao×NameKind)}(h:(l.all λx=>x.2 != .cell)=true):∀x∈l,x.2≠ .cell:=λx hx=>DO.mp<|fW.mp h x hx
theorem aa6{l:J (ao×NameKind)}(h:(names.all λx=>l.lookup x==some .local)=true):∀x∈names,l.lookup x=some .local:=λx hx=>nG.mp<|fW.mp h x hx
noncomputable def codeOk(h:bn)(fd:lD):bb:=match fd.code with
 | .ref c=>match h.get? c with
  |some o=>match o.data with
   | .fields vs=>match (vs[1]?:bC ak) with
    |some (iW q _)=>q==fd.qualname
    |_=>false
   |_=>false
  |_=>false
 |_=>false
theorem codeRec_of:codeOk h fd=true->h.CodeRec fd.code fd.qualname:=by
 unfold codeOk;cases hc:fd.code with
 |ref c=>
  dsimp only;cases ho:h.get? c with
  |none=>exact λk=>aY k dy
  |some o=>
   dsimp only;cases hv:o.data with
   |fields vs=>
    dsimp only;cases hq:(vs[1]?:bC ak) with
    |none=>exact λk=>aY k dy
    |some v=>cases v with
     |str q t=>exact λk=>⟨c,o,vs,t,rfl,ho,hv,D hq<|eq_of_beq k▸rfl⟩
     |_=>exact λk=>aY k dy
   |_=>exact λk=>aY k dy
 |_=>exact λk=>aY k dy
noncomputable def okD(h:bn)(o:bc)(names:J ao):bb:=(match o.data with| .func _=>true|_=>false)&&(codeOk h (fdOf o)&&(decide names.Nodup&&(((fdOf o).scope.names.all λx=>x.2 != .cell)&&names.all λx=>(fdOf o).scope.names.lookup x==some .local)))
theorem jr{P:aP}(get:(bZ P).get? a=some o)(k:okD (bZ P) o names=true):iF P a o names:=
 xA (fb.mp k) λk0 k=>xA (fb.mp k) λk1 k=>xA (fb.mp k) λk2 k=>xA (fb.mp k) λk3 k4=>
 ⟨get,by cases h:o.data with
  |func aiA=>exact bA Data.func (D h rfl:aiA=match o.data with| .func aiA=>aiA|_=>default)
  |_=>exact aY (k0:(match o.data with| .func _=>true|_=>false)=true) (D h dy),codeRec_of k1,dq k2,aa5 k3,aa6 k4⟩
theorem yl(P:aP):iF P 253 (aaA P) ["start","stop"]:=jr (by kernel_rfl) (by kernel_rfl)
theorem rl(P:aP):iF P 261 (xU P) ["a","b","fromfile","tofile","fromfiledate","tofiledate","n","lineterm"]:=jr (by kernel_rfl) (by kernel_rfl)
theorem Gk(P:aP):iF P 268 (aaB P) ["a","b","args"]:=jr (by kernel_rfl) (by kernel_rfl)
theorem mX(P:aP):iF P 280 (aaC P) ["pattern"]:=jr (by kernel_rfl) (by kernel_rfl)
theorem sJ(P:aP):iF P 287 (NH P) ["script"]:=jr (by kernel_rfl) (by kernel_rfl)
theorem ym(P:aP):iF P 294 (aaD P) ["sign"]:=jr (by kernel_rfl) (by kernel_rfl)
theorem Gl(P:aP):iF P 301 (aaE P) ["steps"]:=jr (by kernel_rfl) (by kernel_rfl)
theorem yn(P:aP):iF P 308 (aaF P) ["start","size"]:=jr (by kernel_rfl) (by kernel_rfl)
theorem rm(P:aP):iF P 313 (xV P) ["steps","around","heads","end"]:=jr (by kernel_rfl) (by kernel_rfl)
theorem d82(P:aP):iF P 82 (aar P) ["_cls","a","b","size"]:=jr (by kernel_rfl) (by kernel_rfl)
theorem d89(P:aP):iF P 89 (NC P) ["cls","iterable"]:=jr (by kernel_rfl) (by kernel_rfl)
theorem Oq(P:aP):iF P 160 (aas P) ["self","isjunk","a","b","autojunk"]:=jr (by kernel_rfl) (by kernel_rfl)
theorem Gm(P:aP):iF P 167 (aat P) ["self","a","b"]:=jr (by kernel_rfl) (by kernel_rfl)
theorem Gn(P:aP):iF P 174 (aau P) ["self","a"]:=jr (by kernel_rfl) (by kernel_rfl)
theorem Go(P:aP):iF P 181 (aav P) ["self","b"]:=jr (by kernel_rfl) (by kernel_rfl)
theorem Gp(P:aP):iF P 188 (aaw P) ["self"]:=jr (by kernel_rfl) (by kernel_rfl)
theorem Gq(P:aP):iF P 196 (aax P) ["self","alo","ahi","blo","bhi"]:=jr (by kernel_rfl) (by kernel_rfl)
theorem Gr(P:aP):iF P 203 (aay P) ["self"]:=jr (by kernel_rfl) (by kernel_rfl)
theorem Gs(P:aP):iF P 210 (aaz P) ["self"]:=jr (by kernel_rfl) (by kernel_rfl)
theorem sK(P:aP):iF P 218 (Bb P) ["self","n"]:=jr (by kernel_rfl) (by kernel_rfl)
theorem Os(P:aP):cT (fQ P) "_format_range_unified"=some (.ref 253):=by kernel_rfl
theorem aa7(P:aP):cT (fQ P) "unified_diff"=some (.ref 261):=by kernel_rfl
theorem aa8(P:aP):cT (fQ P) "_check_types"=some (.ref 268):=by kernel_rfl
theorem wa(P:aP):cT (fQ P) "escape"=some (.ref 280):=by kernel_rfl
theorem aa9(P:aP):cT (fQ P) "_law_text"=some (.ref 287):=by kernel_rfl
theorem Ot(P:aP):cT (fQ P) "_law_special"=some (.ref 294):=by kernel_rfl
theorem aba(P:aP):cT (fQ P) "_law_rows"=some (.ref 301):=by kernel_rfl
theorem Bs(P:aP):cT (fQ P) "_law_report"=some (.ref 313):=by kernel_rfl
theorem abb(P:aP):cT (fQ P) "SequenceMatcher"=some (.ref 242):=by kernel_rfl
theorem Ou(P:aP):cT (fQ P) "Match"=some (.ref 135):=by kernel_rfl
theorem qa(P:aP):cT (fQ P) "len"=none:=by kernel_rfl
theorem abc(P:aP):cT (fQ P) "sum"=none:=by kernel_rfl
theorem qb(P:aP):cT (fQ P) "list"=none:=by kernel_rfl
theorem Ov(P:aP):cT (fQ P) "isinstance"=none:=by kernel_rfl
theorem Bt(P:aP):cT (fQ P) "ord"=none:=by kernel_rfl
theorem Gu(P:aP):cT (fQ P) "chr"=none:=by kernel_rfl
theorem Ow(P:aP):cT (fQ P) "range"=none:=by kernel_rfl
theorem Ox(P:aP):cT (fQ P) "max"=none:=by kernel_rfl
theorem abd(P:aP):cT (fQ P) "min"=none:=by kernel_rfl
theorem abe(P:aP):cT (fQ P) "set"=none:=by kernel_rfl
theorem abf(P:aP):cT (fQ P) "enumerate"=none:=by kernel_rfl
theorem abg(P:aP):cT (fQ P) "map"=none:=by kernel_rfl
theorem Oy(P:aP):cT (fQ P) "tuple"=none:=by kernel_rfl
theorem qc(P:aP):cT (kU P) "len"=some (.builtin "len"):=by kernel_rfl
theorem abh(P:aP):cT (kU P) "sum"=some (.builtin "sum"):=by kernel_rfl
theorem Oz(P:aP):cT (kU P) "isinstance"=some (.builtin "isinstance"):=by kernel_rfl
theorem Bu(P:aP):cT (kU P) "ord"=some (.builtin "ord"):=by kernel_rfl
theorem Gv(P:aP):cT (kU P) "chr"=some (.builtin "chr"):=by kernel_rfl
theorem OA(P:aP):cT (kU P) "max"=some (.builtin "max"):=by kernel_rfl
theorem abi(P:aP):cT (kU P) "min"=some (.builtin "min"):=by kernel_rfl
theorem qd(P:aP):cT (kU P) "list"=some (.type "list"):=by kernel_rfl
theorem OB(P:aP):cT (kU P) "range"=some (.type "range"):=by kernel_rfl
theorem abj(P:aP):cT (kU P) "set"=some (.type "set"):=by kernel_rfl
theorem abk(P:aP):cT (kU P) "enumerate"=some (.type "enumerate"):=by kernel_rfl
theorem abl(P:aP):cT (kU P) "map"=some (.type "map"):=by kernel_rfl
theorem OC(P:aP):cT (kU P) "tuple"=some (.type "tuple"):=by kernel_rfl
noncomputable abbrev fr(w:bx)(os:bM)(dr:cV)(o:bc)(a L:ax):Cx:=rd (TW w os dr) (fdOf o) a L
theorem mr{a b:az}:a9 C n (pL .Sub) (.int a) (.int b) st (.int<|a-b) st:=.mk λA s ρ x y Q hA R ⟨t,e1⟩ ⟨aiy,e2⟩ h=>by
 subst e1 e2;exact PyProof.Rows.sub_int<|h ρ _ _ (gh R _) ⟨_,rfl⟩
theorem a9.floordiv_int{a b:az}(hb:b≠0)(hp:ed.divisionGoesByPylong a b=false):a9 C n (pL .FloorDiv) (.int a) (.int b) st (.int<|a.fdiv b) st:=.mk λA s ρ x y Q hA R ⟨t,e1⟩ ⟨aiy,e2⟩ h=>by
 subst e1 e2;exact PyProof.Rows.floordiv_int hb (h ρ _ _ (gh R _) ⟨_,rfl⟩)<|.inl hp
theorem a9.isub_int{a b:az}:a9 C n (inplaceOp .Sub) (.int a) (.int b) st (.int<|a-b) st:=.mk λA s ρ x y Q hA R ⟨t,e1⟩ ⟨aiy,e2⟩ h=>by
 subst e1 e2;exact PyProof.Rows.isub_int<|h ρ _ _ (gh R _) ⟨_,rfl⟩
theorem a9.le_int{a b:az}:a9 C n (iU .LtE) (.int a) (.int b) st (.bool<|decide (a<=b)) st:=.mk λA s ρ x y Q hA R ⟨t,e1⟩ ⟨aiy,e2⟩ h=>by
 subst e1 e2;exact PyProof.Rows.le_int<|h ρ _ _ (ek R) rfl
theorem a9.ge_int{a b:az}:a9 C n (iU .GtE) (.int a) (.int b) st (.bool<|decide (b<=a)) st:=.mk λA s ρ x y Q hA R ⟨t,e1⟩ ⟨aiy,e2⟩ h=>by
 subst e1 e2;exact PyProof.Rows.ge_int<|h ρ _ _ (ek R) rfl
theorem str_beq(a b:ao):(a.cps.toList==b.cps.toList)=decide (a=b):=by
 obtain⟨a⟩:=a;obtain⟨b⟩:=b
 by_cases h:a=b
 ·subst h;simp
 ·have G:¬a.toList=b.toList:=λe=>h<|t9 e;have h2:¬(tZ a=tZ b):=λe=>h (by cases e;rfl);refine D (fz h2) ?_
  simpa using h
theorem a9.eq_str{a b:ao}:a9 C n (iU .Eq) (.str a) (.str b) st (.bool<|decide (a=b)) st:=.mk λA s ρ x y Q hA R ⟨t,e1⟩ ⟨aiy,e2⟩ h=>by
 subst e1 e2;exact PySem.P.eq_str (h ρ _ _ (ek R)<|by refine bL (str_beq _ _) ?_;rfl)
theorem a9.ne_str{a b:ao}:a9 C n (iU .NotEq) (.str a) (.str b) st (.bool<|!decide (a=b)) st:=.mk λA s ρ x y Q hA R ⟨t,e1⟩ ⟨aiy,e2⟩ h=>by
 subst e1 e2;exact PySem.P.ne_str (h ρ _ _ (ek R)<|by refine bL (str_beq _ _) ?_;rfl)
theorem TV.abm{l:bB}(G:EV C n l st aiy am)(h2:EV C n r1 am v ba)(h3:a9 C n (iU o1) aiy v ba (.bool false) ce)
  (hm:aO (lastMarks [o1,o2] [r1,r2]=false) aW._auto_1):TV C n (.Compare l [o1,o2] [r1,r2] p) st false ce:=.mk λA s ρ Q hA R h=>
 isTrue_chain (G.run A s ρ _ hA R λaC x s1 N1 i1=>test_link (h2.run A s1 aC _ hA N1.rep λbh y s2 N2 i2=>
  h3.run A s2 bh x y _ hA N2.rep (i1.mono N2.pre N2.aX) i2 λdp z s3 N3 i3=>by
   subst i3;exact wpAny_truthy_bool (h dp s3 ((N1.trans N2).trans N3)))) hm
theorem TV.abn{l:bB}{v2:V}{hO Bv:St}(G:EV C n l st aiy am)(h2:EV C n r1 am v ba)(h3:a9 C n (iU o1) aiy v ba (.bool true) ce)
  (h4:EV C n r2 ce v2 hO) (h5:a9 C n (iU o2) v v2 hO (.bool b) Bv)
  (hm:aO (lastMarks [o1,o2] [r1,r2]=false) aW._auto_1):TV C n (.Compare l [o1,o2] [r1,r2] p) st b Bv:=.mk λA s ρ Q hA R h=>
 isTrue_chain (G.run A s ρ _ hA R λaC x s1 N1 i1=>test_link (h2.run A s1 aC _ hA N1.rep λbh y s2 N2 i2=>
  h3.run A s2 bh x y _ hA N2.rep (i1.mono N2.pre N2.aX) i2 λdp z s3 N3 i3=>by
   subst i3;refine wpAny_truthy_bool ?_
   exact test_last (h4.run A s3 dp _ hA N3.rep λeX z4 s4 N4 i4=>h5.run A s4 eX y z4 _ hA N4.rep ((i2.mono N3.pre N3.aX).mono N4.pre N4.aX) i4 λGw z5 s5 N5 i5=>by
    subst i5;exact wpAny_truthy_bool (h Gw s5 ((((N1.trans N2).trans N3).trans N4).trans N5))))) hm
theorem Gx{slice:bB}{o i:ak}{id:dm}(hT:s.TypeIs o T)
  (hl:ea (.type T) "__getitem__"=pure (some<|.builtin id)) (h:aF (aN C.prog C.w) A (getItem o i) Q bq s):
  aF (aN C.prog C.w) A (subscriptTail value slice o i) Q bq s:=by
 refine wpAny_bind<|D (getitemInPython_of_ne hT.not_modules)<|wpAny_bind<|wpAny_specialOf hT hl ?_;have fin:aF (aN C.prog C.w) A (subscripted slice false o i) (λr lK=>aF (aN C.prog C.w) A (vI value o r >>= λH=>pure r) Q bq lK) bq s:=by
  have k:∀vs,aF (aN C.prog C.w) A (operate vs<|getItem o i) (λr lK=>aF (aN C.prog C.w) A (vI value o r >>= λH=>pure r) Q bq lK) bq s:=λvs=>
   wpAny_operating (wpAny_mono h (λr lK abo=>wpAny_bind<|wpAny_letTemporaryGo<|wpAny_pure abo) λH H x=>x)
  cases slice with
  |Slice a b c=>cases c with
   |none=>exact k _
   |some=>exact k _
  |_=>exact k _
 first
  |exact wpAny_pure<|wpAny_bind fin
  |exact wpAny_bind<|wpAny_pure (wpAny_bind fin)
  |exact wpAny_bind fin
structure gW(C:Cx)(n:B)(aiy i:V)(st:St)(v:V)(aj:St)(T id:dm):Prop where
 ty:∀(s:ay) (ρ:J ax) (x:ak),Rep C ρ st s->aiy.Is ρ s.heap x->s.TypeIs x T
 op:a9 C n getItem aiy i st v aj
theorem eJ{slice:bB}{i:V}{id:dm}(G:EV C n value st aiy am)(h2:EV C n slice am i ba)(h3:gW C n aiy i ba v ce T id)
  (hl:ea (.type T) "__getitem__"=pure (some<|.builtin id)):EV C n (.Subscript value slice p) st v ce:=.mk λA s ρ Q hA R h=>
 Ey (G.run A s ρ _ hA R λaC x s1 N1 i1=>h2.run A s1 aC _ hA N1.rep λbh y s2 N2 i2=>
  Gx (h3.ty s2 bh x N2.rep (i1.mono N2.pre N2.aX)) hl (h3.op.run A s2 bh x y Q hA N2.rep (i1.mono N2.pre N2.aX) i2 λdp z s3 N3 i3=>h dp z s3 ((N1.trans N2).trans N3) i3))
theorem mY{x:ak}(R:Rep C ρ st s)(hk:st.hp[k]?=some (.list l))(hx:V.Is ρ s.heap (.ref k) x):∃a vs,x= .ref a/\ρ[k]?=some a/\s.heap.IsList a vs/\V.IsL ρ s.heap l vs.toList:=by
 refine aH hx λa ha av=>?_
 clear hx;subst av;exact dv (R.led.objs k _ a hk ha) λvs m ho hi=>(⟨a,vs,rfl,ha,⟨_,ho,rfl,m,rfl⟩,hi⟩)
theorem i6{k:B}{l:J V}{i:az}{v:V}(hk:st.hp[k]?=some (.list l))(h0:0<=i)(hi:l[i.toNat]?=some v)(hf:i<2 ^ 63:=by first|decide|lia):gW C n (.ref k) (.int i) st v st "list" "list.__getitem__":=
 ⟨λs ρ x R hx=>by obtain⟨a,vs,rfl,_,hL,_⟩:=mY R hk hx;exact hL.typeIs,.mk λA s ρ x y Q hA R hx ⟨t,e⟩ h=>by
  subst e;refine kn (mY R hk hx) λa vs av H hL hl=>?_
  subst av;refine aH (V.IsL.get hl hi) λz hz iz=>?_
  exact wpAny_getItem_list hL h0 hf (by refine bL (jX) ?_;exact hz) (h ρ z s (ek R) iz)⟩
theorem gW.Gy(hk:st.hp[k]?=some (.list l))(h0:i<0)(G: -(U l:az)<=i)(hi:l[(i+U l).toNat]?=some v)(hf: -(2 ^ 63)<=i:=by first|decide|lia):gW C n (.ref k) (.int i) st v st "list" "list.__getitem__":=
 ⟨λs ρ x R hx=>by obtain⟨a,vs,rfl,_,hL,_⟩:=mY R hk hx;exact hL.typeIs,.mk λA s ρ x y Q hA R hx ⟨t,e⟩ h=>by
  subst e;refine kn (mY R hk hx) λa vs av H hL hl=>?_
  subst av;refine aH (V.IsL.get hl hi) λz hz iz=>?_
  have hs:vs.size=U l:=by rw[←eO,dK hl]
  exact wpAny_getItem_list_neg hL h0 (by refine D hs ?_;exact G) hf (by refine D hs (bL (jX) ?_);exact hz) (h ρ z s (ek R) iz)⟩
theorem gW.str{t:ao}{i:az}{c:B}(hc:(oE i t.length).bind (t.cps[·]?)=some c)(hr:aO ((decide (i< -(2 ^ 63:az))||decide (i≥2 ^ 63))=false) aD._auto_1):gW C n (.str t) (.int i) st (.str ⟨#[c]⟩) st "str" "str.__getitem__":=
 ⟨λs ρ x R ⟨aiy,e⟩=>by subst e;exact typeIs_str s t aiy,.mk λA s ρ x y Q hA R ⟨t',e⟩ ⟨aiy,e'⟩ h=>by
  subst e e'
  exact PySem.P.getItem_str hr hc (h ρ _ _ (gh R _) ⟨_,rfl⟩)⟩
theorem gW.tup{l:J V}{i:az}{j:B}{v:V}(hj:oE i (U l)=some j)(hi:l[j]?=some v)(kr:aO (-(2 ^ 63)<=i) aD._auto_1)(hhi:aO (i<2 ^ 63) aD._auto_1):gW C n (.tup (.type "tuple") l) (.int i) st v st "tuple" "tuple.__getitem__":=
 ⟨λs ρ x R ⟨_,a,vs,m,e,ho,hl⟩=>by subst e;exact⟨_,ho,rfl⟩,.mk λA s ρ x y Q hA R ⟨_,a,vs,m,e,ho,hl⟩ ⟨aiy,e'⟩ h=>by
  subst e e';refine aH (V.IsL.get hl hi) λz hz iz=>?_
  have hs:vs.size=U l:=by rw[←eO,dK hl]
  exact getItem_tuple ⟨_,ho,rfl,m,rfl⟩ kr hhi (by refine D hs ?_;exact hj) (by refine bL (jX) ?_;exact hz) (h ρ z s (ek R) iz)⟩
theorem gx:ea (.type "list") "__getitem__"=pure (some<|.builtin "list.__getitem__"):=slot_list_getitem.lookup
theorem yo:ea (.type "str") "__getitem__"=pure (some<|.builtin "str.__getitem__"):=PySem.F.slot_str_getitem.lookup
theorem sL:ea (.type "tuple") "__getitem__"=pure (some<|.builtin "tuple.__getitem__"):=slot_tuple_getitem.lookup
inductive PV(C:Cx)(n:B):bC bB->St->bC az->St->Prop
 |none {st:St}:PV C n none st none st
 |some {e:bB} {i:az} {st am:St} (h:EV C n e st (.int i) am):PV C n (some e) st (some i) am
theorem PV.go{e:bC bB}{k:bC az}(h:PV C n e st k am)(hA:cn n A)(R:Rep C ρ st s)
  (hq:∀aB x s',bk C ρ s am aB s'->IsPart x k->Q x s'):aF (aN C.prog C.w) A (evalPart e C.env) Q bq s:=by
 cases h with
 |none=>rw[evalPart_none];exact wpAny_pure<|hq ρ _ s (ek R) .none
 |some h=>rw[evalPart_some];exact h.run A s ρ _ hA R λaC x s1 N1 ⟨t,e⟩=>by subst e;exact hq aC _ s1 N1<|.int ..
noncomputable def mZ(l:J α)(lo hi:bC az):J α:=(l.drop<|lo.elim 0<|qT<|U l).take<|hi.elim (U l) (qT<|U l)-lo.elim 0 (qT<|U l)
theorem OD(items:bD ak)(lo hi:bC az):slicePick items lo hi none=(mZ items.toList lo hi).toArray:=by
 rw[slicePick_plain];unfold mZ;exact D eO rfl
theorem V.IsL.cut{xs:J ak}(e:V.IsL ρ h l xs)(lo hi:bC az):V.IsL ρ h (mZ l lo hi) (mZ xs lo hi):=by
 unfold mZ;exact D (dK e)<|V.IsL.take _<|V.IsL.drop _ e
theorem EV.slice{value:bB}{lo up:bC bB}{p pos:cN}{k:B}{l:J V}{a b:bC az}(G:EV C n value st (.ref k) am)(h2:PV C n lo am a ba)(h3:PV C n up ba b ce)(hk:ce.hp[k]?=some (.list l))(hz:U l<=16777216):
  EV C n (.Subscript value (.Slice lo up aA p) pos) st (.ref<|U ce.hp) ⟨ce.loc,ce.hp++[.list<|mZ l a b]⟩:=.mk λA s ρ Q hA R h=>by
 refine Ey<|G.run A s ρ _ hA R λaC x s1 N1 i1=>wpAny_Slice<|h2.go hA N1.rep λbh y s2 N2 p2=>h3.go hA N2.rep λdp z s3 N3 p3=>(D (evalPart_none _)<|wpAny_pure<|kn (mY N3.rep hk<|(i1.mono N2.pre N2.aX).mono N3.pre N3.aX) λc vs av ha hL hl=>?_);subst av;have hs:vs.size=U l:=by rw[←eO,dK hl]
 refine Gx (hL.push _).typeIs gx (wpAny_getItem_list_slice (hL.push _) (Kt ..) p2 p3 .none (by simp) ?_<|by refine D hs ?_;exact hz);have N4:=bk.push N3.rep {cls:=.type "slice",data:=.fields #[y,z,jB]} s3.toks
 have N5:=bk.alloc (ob:=.list (mZ l a b)) (o:={cls:=.type "list",data:=.seq (slicePick vs a b aA)}) N4.rep rfl ⟨slicePick vs a b aA,0,ew _ rfl,by
  rw[OD]
  exact((hl.mono (bP _) (bF.push _ _)).mono (gK ..) (bF.push _ _)).cut a b⟩ s3.toks
 exact h _ _ _ ((((N1.trans N2).trans N3).trans N4).trans N5)<|mU N4.rep.led _
theorem aQ.ord{c:B}:aQ C n (.builtin "ord") [.str ⟨#[c]⟩] st (.int c) st:=.mk λA s ρ xs Q hA R aV h=>by
 refine cD aV λx r bE cx i2=>?_
 clear aV;subst bE;refine xE cx λt av=>?_
 clear cx;subst av;obtain rfl:r=[]:=i2;exact ord_of_one rfl<|h ρ _ _ (gh R _) ⟨_,rfl⟩
theorem aQ.chr{i:az}(h0:0<=i)(G:i<=1114111):aQ C n (.builtin "chr") [.int i] st (.str ⟨#[i.toNat]⟩) st:=.mk λA s ρ xs Q hA R aV h=>by
 refine cD aV λx r bE cx i2=>?_
 clear aV;subst bE;refine xE cx λt av=>?_
 clear cx;subst av;obtain rfl:r=[]:=i2;exact chr_of_range h0 G<|h ρ _ _ (gh R _) ⟨_,rfl⟩
theorem a9.add_list{i j:B}{l m:J V}(hi:st.hp[i]?=some (.list l))(hj:st.hp[j]?=some (.list m))(hz:U l+U m<=16777216):a9 C n (pL .Add) (.ref i) (.ref j) st (.ref<|U st.hp) ⟨st.loc,st.hp++[.list<|l++m]⟩:=.mk λA s ρ x y Q hA R ⟨a,ha,e1⟩ ⟨b,hb,e2⟩ h=>by
 subst e1 e2;refine dv (R.led.objs i _ a hi ha) λvs k1 ho hl=>dv (R.led.objs j _ b hj hb) λus k2 nZ kA=>?_
 have s1:vs.size=U l:=by simp only[←eO,dK hl]
 have s2:us.size=U m:=by simp only[←eO,dK kA]
 refine PySem.P.add_list (n:=k1) (n2:=k2) ho nZ (h _ _ _ (bk.alloc (ob:=.list<|l++m) R rfl ⟨vs++us,0,ew _ rfl,?_⟩ s.toks)<|mU R.led _) (by simp only[s1,s2];exact hz);simp only[KF];exact(hl.mono (gK ..)<|bF.push _ _).append<|kA.mono (gK ..)<|bF.push _ _
theorem aQ.extend{i j:B}{l m:J V}(hi:st.hp[i]?=some (.list l))(hj:st.hp[j]?=some (.list m))(hz:U l+U m<=16777216):aQ C n (.builtin "list.extend") [.ref i,.ref j] st .none ⟨st.loc,st.hp.set i<|.list<|l++m⟩:=.mk λA s ρ xs Q hA R aV h=>by
 refine cD aV λx r bE cx bR=>?_
 clear aV;subst bE;refine aH cx λa ha av=>?_
 clear cx;subst av;refine cD bR λy r' gT ky i2=>?_
 clear bR;subst gT;refine aH ky λb hb av=>?_
 clear ky;subst av;obtain rfl:r'=[]:=i2;refine dv (R.led.objs i _ a hi ha) λvs k1 ho hl=>dv (R.led.objs j _ b hj hb) λus k2 nZ kA=>?_
 have s1:vs.size=U l:=by simp only[←eO,dK hl]
 have s2:us.size=U m:=by simp only[←eO,dK kA]
 refine DV F.slot_list_extend ⟨_,ho,rfl⟩ F.entry_list_extend (F.args_list_extend_2 _ _) (AutoSeq1.list_extend_list_list_0 a vs k1 b us k2 (extend_door<|by simp only[s1,s2];exact hz) (by refine D s1 ?_;exact cX (dZ ..) hz)<|by simp only[s1,s2];exact ly hz) ⟨ho,nZ,?_⟩;refine xE (⟨_,rfl⟩:∃m',fX (· ++us) ⟨.type "list",aA,.seq vs k1,#[]⟩=⟨.type "list",aA,.seq (vs++us) m',#[]⟩) λm' e=>?_
 have ht:mc ⟨pP "list",aA,.seq vs k1,#[]⟩=false:=by rfl
 have j7:bF s.heap (s.heap.update a<|fX (· ++us)):=jY (iA ..) ho ht;refine h ρ _ _ (bk.change R (ob:=.list<|l++m) ha (iA ..) ⟨vs++us,m',?_,?_⟩ s.toks) rfl
 ·exact(pO _ ho rfl).trans<|bA some e
 ·simp only[KF];exact(hl.mono (bP _) j7).append<|kA.mono (bP _) j7
theorem Gz{ρ:J ax}{h:bn}:∀{ns:J az} {xs:J ak},V.IsL ρ h (ns.map V.int) xs->(∀v∈xs,∃a t,v=qZ a t)/\numsOf xs=ns
 | [],_,e=>by exact D (show _=[] from e)<|⟨λv hv=>by simp at hv,rfl⟩
 |a::ns,_,z0=>dh z0 λx r e z1 e2=>xE z1 λt ex=>by
  refine xA (Gz e2) λG h2=>?_
  subst e ex
  exact⟨λv hv=>by
   rcases cu.mp hv with rfl|hv
   ·exact⟨a,t,rfl⟩
   ·exact G v hv,by simp only[numsOf,h2]⟩
theorem aQ.max2{a b:az}:aQ C n (.builtin "max") [.int a,.int b] st (.int<|max a b) st:=.mk λA s ρ xs Q hA R aV h=>by
 refine cD aV λx r bE cx bR=>?_
 clear aV;subst bE;refine xE cx λt av=>?_
 clear cx;subst av;refine cD bR λy r' gT ky i2=>?_
 clear bR;subst gT;refine xE ky λaiy av=>?_
 clear ky;subst av;obtain rfl:r'=[]:=i2;refine max_two_ints hA.1 λh' tk hk=>h ρ _ _ (bk.grow R hk (eN.refl _) rfl rfl) ?_
 by_cases hc:b>a
 ·exact D (aU hc)<|⟨aiy,by exact D (az.max_eq_right<|Es hc) rfl⟩
 ·exact D (aE hc)<|⟨t,by exact D (az.max_eq_left<|xD.mp hc) rfl⟩
theorem aQ.min2{a b:az}:aQ C n (.builtin "min") [.int a,.int b] st (.int<|min a b) st:=.mk λA s ρ xs Q hA R aV h=>by
 refine cD aV λx r bE cx bR=>?_
 clear aV;subst bE;refine xE cx λt av=>?_
 clear cx;subst av;refine cD bR λy r' gT ky i2=>?_
 clear bR;subst gT;refine xE ky λaiy av=>?_
 clear ky;subst av;obtain rfl:r'=[]:=i2;refine min_two_ints hA.1 λh' tk hk=>h ρ _ _ (bk.grow R hk (eN.refl _) rfl rfl) ?_
 by_cases hc:b<a
 ·exact D (aU hc)<|⟨aiy,by exact D (az.min_eq_right<|Es hc) rfl⟩
 ·exact D (aE hc)<|⟨t,by exact D (az.min_eq_left<|xD.mp hc) rfl⟩
theorem bk.made{t:B}(R:Rep C ρ st s)(eS:∀b o,s.heap.get? b=some o->h'.get? b=some o)(ha:s.heap.objs.size<=a)(hi:ob.Is C.w (ρ++[a]) h' a):
  bk C ρ s ⟨st.loc,st.hp++[ob]⟩ (ρ++[a]) {s with heap:=h',toks:=t}:=by
 have fr:s.heap.get? a=none:=by
  cases e:s.heap.get? a with
  |none=>rfl
  |some o=>exact aY (dH e)<|iT.mpr ha
 have nf:a∉ρ:=λh=>by
  refine mM (R.toF.mem h) λH H ob H H H ho H=>?_
  simp only[fr] at ho;exact nomatch ho
 refine⟨gK ..,iB eS,λb o e H H=>eS b o e,λa h q=>?_,eN.refl _,?_⟩
 ·rcases bK.mp h with h|h
  ·exact aY h q
  ·rw[bw] at h;subst h;exact fr
 ·have R':Rep C ρ st {s with heap:=h',toks:=t}:=R.after eS rfl rfl;refine⟨?_,⟨?_,λk o b e q=>?_,?_,λh=>?_,λb h=>?_,R.led.gQ,R'.led.top,R.led.os,R.led.drawn⟩⟩
  ·refine aH R'.loc λm bT hm=>?_
   exact⟨m,bT,λx v e=>by obtain⟨y,hy,q⟩:=hm x v e;exact⟨y,hy,q.mono (gK ..)<|bF.refl _⟩⟩
  ·simp only[aK,cK,iQ,R.led.len]
  ·by_cases wb:k<U st.hp
   ·simp only[cA wb] at e
    (simp only[cA<|by refine D R.led.len ?_;exact wb] at q)
    exact(R'.led.objs k o b e q).mono (gK ..) (bF.refl _) rfl
   ·have kP:k=U st.hp:=by
     have:=(cJ.mp e).1;simp only[aK,cK,iQ] at this;exact Fi this wb
    subst kP;simp only[dc<|aG _,fF] at e
    (simp only[dc (by refine D R.led.len ?_;exact aG _),R.led.len,fF] at q)
    (have:=cj e;clear e;subst this);(have:=cj q;clear q;subst this)
    exact hi
  ·refine mF.mpr ⟨R.led.nodup,l5.mpr ⟨by simp,lx⟩,λc hc b hb=>?_⟩;rw[bw] at hb;subst hb;intro e;subst e;exact nf hc
  ·rcases bK.mp h with h|h
   ·exact R.led.fB h
   ·rw[bw] at h;refine aH R.loc λm hn H=>?_
    have:=hn.lt;rw[h] at this;exact aY ha<|vH.mpr this
  ·rcases bK.mp h with h|h
   ·exact R.led.low b h
   ·rw[bw] at h;subst h;exact cX R.toF.size ha
theorem aQ.list_list(hk:st.hp[k]?=some (.list l))(hz:U l<=16777216):aQ C n (.type "list") [.ref k] st (.ref<|U st.hp) ⟨st.loc,st.hp++[.list l]⟩:=.mk λA s ρ xs Q hA R aV h=>by
 refine cD aV λx r bE hx i2=>?_
 clear aV;subst bE;obtain rfl:r=[]:=i2;refine kn (mY R hk hx) λa vs av ha kW hl=>?_
 subst av;refine Lk kW λo ho hc m hd=>?_
 have s1:vs.size=U l:=by simp only[←eO,dK hl]
 refine call_list_seq a (.inl rfl) ho hc hd (λh' c' eS hn=>?_) (by refine D s1 ?_;exact hz);exact h _ _ _ (bk.made R eS (aG _) (ob:=.list l) ⟨vs,c',hn,hl.mono (gK ..)<|iB eS⟩)<|mU R.led _
theorem GA{ρ:J ax}{h:bn}:∀{l:J V} {xs:J ak},U xs=U l->(∀(i:B) v x,l[i]?=some v->xs[i]?=some x->V.Is ρ h v x)->V.IsL ρ h l xs
 | [],xs=>λhl H=>rO hl
 |v::l,[]=>λhl H=>by exact nomatch hl
 |v::l,x::xs=>λhl k=>⟨x,xs,rfl,k 0 v x rfl rfl,GA (by simpa using hl) λi v x G h2=>k (i+1) v x (by simpa using G)<|by simpa using h2⟩
theorem aQ.list_str(hz:x.length<=16777216):aQ C n (.type "list") [.str x] st (.ref<|U st.hp) ⟨st.loc,st.hp++[.list<|signs x]⟩:=.mk λA s ρ xs Q hA R aV h=>by
 refine cD aV λy r bE cx i2=>?_
 clear aV;subst bE;refine xE cx λt av=>?_
 clear cx;subst av;obtain rfl:r=[]:=i2;refine call_list_str hA.1 x t (λh' tk uD c' eS hn oS=>(h _ _ _ (bk.made R eS (aG _) (ob:=.list<|signs x) ⟨uD,c',hn,(GA ?_ λi v y G h2=>?_)⟩)<|mU R.led _)) hz
 ·simp only[eO,oS.1];unfold signs;simp only[bg,eO]
 ·rw[jX] at h2;refine dv (oS.2 i y h2) λc t' h3 av=>?_
  subst av;unfold signs at G;simp only[c6,jX,h3] at G
  (injection G;subst_vars)
  exact⟨t',rfl⟩
theorem OE{ρ:J ax}{h:bn}:∀{ts:J ao} {xs:J ak},V.IsL ρ h (ts.map V.str) xs->∃l:J<|ao×jg,xs=strValues l/\l.map (·.1)=ts
 | [],_,e=>⟨[],by refine D (e:_=[]) ?_;rfl,rfl⟩
 |a::ts,_,z0=>dh z0 λx r e z1 e2=>xE z1 λt ex=>by
  refine aH (OE e2) λl G h2=>?_
  subst e ex G;exact⟨(a,t)::l,rfl,by simp only[eu,h2]⟩
theorem aQ.join{sep:ao}{k:B}{ts:J ao}(hk:st.hp[k]?=some (.list<|ts.map V.str))(hz:(ts.map (·.length)).sum+U ts*sep.length<=16777216):aQ C n (.builtin "str.join") [.str sep,.ref k] st (.str<|DZ sep ts) st:=.mk λA s ρ xs Q hA R aV h=>by
 refine cD aV λy r bE cx bR=>?_
 clear aV;subst bE;refine xE cx λt av=>?_
 clear cx;subst av;refine cD bR λx r' gT hx i2=>?_
 clear bR;subst gT;obtain rfl:r'=[]:=i2;refine kn (mY R hk hx) λa vs av ha hL hl=>?_
 subst av;refine aH (OE hl) λl e1 av=>?_
 subst av;have Bw:=joinOk_of (sep:=sep) hz;unfold JoinOk at Bw;rw[bb.not_eq_true'] at Bw;have e2:vs=(strValues l).toArray:=by exact bL e1 rfl
 refine DV F.slot_str_join (typeIs_str _ _ _) F.entry_str_join (F.args_str_join_2 _ _) (meets_str_join_list sep t a l Bw) ⟨e2▸hL,post_join l ⟨joinFit_length Bw,λt' k'=>(h ρ _ _ (gh R _) ⟨t',?_⟩)⟩⟩;show iW (ed.Str.glued sep<|l.map (·.1)) t'=_;exact D (StrLaws.glued_eq_join _ _) rfl
theorem gS.enum{aiA:ao}{x1}(hf:EV C n (.Name aiA p) st (.val<|.type "enumerate") am)(ha:EV C n e am (.ref k) ba)(hk:ba.hp[k]?=some (.list l))(he:aO (gR e=true) a8):
  gS C n (.Tuple elts x1 tp) (.Call (.Name aiA p) [e] [] pos) st ba (pairs 0 l) (λaj=>aj.hp[k]?=some (.list l)) (k+1):=.mk λA s ρ Q hA R h=>by
 refine wpAny_Call_Name_kw<|hf.run A s ρ _ hA R λaC x s1 N1 i1=>?_;subst i1;refine callWith_type1 ((an ha aM he).run A s1 aC pos _ hA N1.rep λbh xs s2 N2 i2=>(cD i2 λx r bE cx i3=>?_)) (kQ he) rfl;clear i2;subst bE;refine aH cx λl' kt av=>?_
 clear cx;subst av;obtain rfl:r=[]:=i3;refine dv (N2.rep.led.objs k _ l' hk kt) λvs m ho hi=>call_enumerate_1 ho λh' OF hit hz ml=>wpAny_pyIter_enum OF ?_
 have R2:=N2.rep;have ext:∀{a b:ax} {G h2:bn},(∀c o,c≠a->c≠b->G.get? c=some o->h2.get? c=some o)->jE [a,b] G h2:=λe c o hb q=>e c o (λz=>hb<|by simp[z]) (λz=>hb<|by simp[z]) q;have N3:bk C bh s2 ba bh {s2 with heap:=h'}:=bk.grow R2 ml (eN.refl _) rfl rfl;have fr:∀a,s2.heap.objs.size<=a->s2.heap.get? a=aA:=λa ha=>by
  cases e:s2.heap.get? a with
  |none=>rfl
  |some o=>exact aY (dH e)<|iT.mpr ha
 have fr0:∀a,s2.heap.objs.size<=a->a∉bh/\s.heap.get? a=aA:=λa ha=>by
  have nr:a∉bh:=λhm=>by
   refine mM (R2.toF.mem hm) λH H ob H H H ho H=>?_
   simp only[fr a ha] at ho;exact nomatch ho
  refine⟨nr,?_⟩;cases e:s.heap.get? a with
  |none=>rfl
  |some o=>
   have iY:=N1.trans N2
   by_cases hl:a=C.env.locals
   ·subst hl;refine aH R2.loc λm cq H=>eR cq λoL H H hL H=>?_
    simp only[fr _ ha] at hL;exact nomatch hL
   ·simp only[←fr a ha,iY.keep a o e (λhr=>nr<|iY.pre.subset hr) hl]
 refine h bh (.ref<|s2.heap.objs.size+1) [s2.heap.objs.size+1,s2.heap.objs.size] (λi hh=>(∃old,IsEnum hh (s2.heap.objs.size+1) s2.heap.objs.size i old)/\hh.IsListIter s2.heap.objs.size l' i) _ (λp hp=>⟨λi G h2 x e j7=>?_,λi G x a ha=>?_,?_⟩) ⟨⟨_,OF⟩,hit⟩ (λa ha=>fr0 a ?_)<|(N1.trans N2).trans N3
 ·refine xA x λcq x2=>?_
  obtain⟨old,x1⟩:=cq;exact⟨⟨old,e _ (by simp) _ x1⟩,x2.at λo=>e _ (by simp) o⟩
 ·refine xA x λcq x2=>?_
  obtain⟨old,x1⟩:=cq;rcases cu.mp ha with rfl|ha
  ·exact⟨_,x1⟩
  ·rw[bw] at ha;subst ha;exact aH x2 λo ho H=>⟨o,ho⟩
 ·intro i A' s' aB aj Qn Qs fP R' pre hD cO side rh ri;refine xA cO λcq x2=>?_
  obtain⟨old,x1⟩:=cq;obtain⟨l2,kA,mR,m',gD,ic⟩:∃l2,aB[k]?=some l2/\∃mR m',s'.heap.get? l2=some ⟨.type "list",aA,.seq mR m',#[]⟩/\V.IsL aB s'.heap l mR.toList:=by
   refine cP (R'.led.at hD) λa G cq H=>dv cq λmR m' h2 h3=>?_
   exact⟨a,G,mR,m',h2,h3⟩
  have:l2=l':=by
   have:=pS pre (by refine D (zV hp) ?_;exact kt);rw[kA] at this;(cases cj this;clear this);rfl
  subst this;have sC:s'.heap.IsList l2 mR:=⟨_,gD,rfl,m',rfl⟩
  have cw:s2.heap.objs.size+1≠s2.heap.objs.size:=Kh _;cases hq:(pairs 0 l)[i]? with
  |some v=>
   have hU:=hq;simp only[Bo] at hq;cases hv:l[i]? with
   |none=>rw[hv] at hq;exact nomatch hq
   |some aiy=>
    rw[hv] at hq;refine aH (V.IsL.get ic hv) λy hy hvy=>?_
    refine wpAny_pyNext_enum_item x1 x2 sC (by refine bL (jX) ?_;exact hy) cw λh3 e3 it3 t3 z3 k3=>?_
    refine wpAny_letOwnedTupleGo_enum e3 λh4 e4 GB=>?_
    have bJ:s2.heap.objs.size+1<s'.heap.objs.size:=dH x1;have k4:jE [s2.heap.objs.size+1,s2.heap.objs.size] s'.heap h4:=λb o hb q=>GB.extBut b o (λz=>hb<|by simp[z])<|k3 b o (λz=>hb<|by simp[z]) (λz=>hb<|by simp[z]) q;have j7:bF s'.heap h4:=λb o q t=>by
     refine k4 b o (λhb=>?_) q;rcases cu.mp hb with rfl|hb
     ·rw[x1] at q;cases q;cases t
     ·rw[bw] at hb;subst hb;refine cP x2 λob ho H hd=>?_
      rw[ho] at q;cases q;rw[ye hd] at t;cases t
    have t4:h4.get? s'.heap.objs.size=some {cls:=.type "tuple",data:=.seq #[.int i s'.toks,y]}:=GB.extBut _ _ (kl bJ) t3;refine rh v hU _ h4 _ ⟨⟨_,by refine D (show((i+1:B):az)=(i:az)+1 from by rfl) ?_;exact e4⟩,it3.extBut GB.extBut<|ue cw⟩ k4 j7 ?_
    cases hq;refine⟨rfl,_,_,_,rfl,t4,_,_,rfl,⟨_,by exact D (iu _) rfl⟩,_,_,rfl,hvy.mono (bP _) j7,rfl⟩
  |none=>
   have hv:l[i]?=aA:=by
    rw[Bo] at hq;cases hv:l[i]? with
    |none=>rfl
    |some aiy=>rw[hv] at hq;cases hq
   refine wpAny_pyNext_enum_end fP.1 x1 x2 sC ?_ λh3 e3=>?_
   ·rw[←jX,ot,dK ic,←ot];exact hv
   ·have k3:jE [s2.heap.objs.size+1,s2.heap.objs.size] s'.heap h3:=λb o hb q=>e3 b o (λz=>hb<|by simp[z]) q;refine ri hq h3 s'.toks k3 λb o q t=>k3 b o (λhb=>?_) q;rcases cu.mp hb with rfl|hb
    ·rw[x1] at q;cases q;cases t
    ·rw[bw] at hb;subst hb;refine cP x2 λob ho H hd=>?_
     rw[ho] at q;cases q;rw[ye hd] at t;cases t
 ·rcases cu.mp ha with rfl|ha
  ·exact eM _
  ·rw[bw] at ha;subst ha;exact aG _
inductive bU(C:Cx)(n:B):J bB->J V->St->St->Prop
 |nil {st:St}:bU C n [] [] st st
 |cons {e:bB} {es:J bB} {v:V} {vs:J V} {st am ba:St} (h:c8 C n e v st am) (t:bU C n es vs am ba) (he:aO (gR e=true) a8):bU C n (e::es) (v::vs) st ba
theorem Bx(he:gR e=true):tU (e::es) env=(false,assign e env)::tU es env:=by
 cases e with
 |Starred=>exact aY he dy
 |_=>rfl
theorem bU.star(h:bU C n elts vs st am):(tU elts C.env).findIdx? (·.1)=none/\U (tU elts C.env)=U vs:=by
 induction h with
 |nil=>exact⟨rfl,rfl⟩
 |cons h t he ih=>rw[Bx he];exact⟨by refine D (J.findIdx?_cons) ?_;simp[ih.1],by simp only[cK,cK,ih.2]⟩
theorem bU.go(h:bU C n elts vs st am):∀{A:bS} {s:ay} {ρ:J ax} {ys:J ak} {Q:fD->ay->Prop},cn n A->Rep C ρ st s->V.IsL ρ s.heap vs ys->(∀aB s',bk C ρ s am aB s'->Q () s')->
  aF (aN C.prog C.w) A (assignInOrder ((tU elts C.env).map (·.2)) ys) Q bq s:=by
 induction h with
 |nil=>intro A s ρ ys Q hA R hy hq;obtain rfl:ys=[]:=hy;exact wpAny_pure<|hq ρ s<|ek R
 |cons h t he ih=>
  intro A s ρ ys Q hA R hy hq;refine cD hy λy r bE i1 i2=>?_
  clear hy;subst bE;exact D (Bx he)<|wpAny_bind<|wpAny_holding<|h.run A s ρ y _ hA R i1 λaC s1 N1=>(ih hA N1.rep (i2.mono N1.pre N1.aX) λbh s2 N2=>hq bh s2<|N1.trans N2)
theorem c8.tup{elts:J bB}{k:B}{p:cN}{vs:J V}(h:bU C n elts vs st am):c8 C n (.Tuple elts k p) (.tup (.type "tuple") vs) st am:=.mk λA s ρ x Q hA R hv hq=>by
 rw[Ex];refine wpAny_bind<|wpAny_standAt ?_;unfold unpack;simp only[h.star.1,h.star.2];exact wpAny_bind<|wpAny_holding<|Ob hA.1 R hv λys s1 N1 i1=>h.go hA N1.rep i1 λbh s2 N2=>hq bh s2<|N1.trans N2
theorem X1.abp(G:EV C n e st v am)(h2:c8 C n (.Tuple elts k tp) v am ba)(h:K .next ba)
  (hs:aO (vJ [.Tuple elts k tp] e p.line C.env=pure false) a8) (hw:aO (vK [.Tuple elts k tp] e C.env=pure aA) a8):
  X1 C n q (.Assign [.Tuple elts k tp] e p) st K:=.mk λA s ρ Q hA R kk=>
 Assign_Tuple (G.run A s ρ _ hA R λaC x s1 N1 i1=>h2.run A s1 aC x _ hA N1.rep i1 λbh s2 N2=>kk bh .next _ _ s2 h (N1.trans N2).toS rfl) hs hw
theorem yp(G:EV C n e st v am)(h2:c8 C n (.Tuple elts k tp) v am ba)(h:XS C n q r ba K)
  (hs:aO (vJ [.Tuple elts k tp] e p.line C.env=pure false) a8) (hw:aO (vK [.Tuple elts k tp] e C.env=pure aA) a8):XS C n q (.Assign [.Tuple elts k tp] e p::r) st K:=cg<|X1.abp G h2 h hs hw
theorem kX{o:bB}{l:J (ao×V)}(ho:EV C n o st (.ref k) am)(hk:am.hp[k]?=some (.inst c d))(hd:am.hp[d]?=some (.attrs l))
  (hc:v8 C.top c mN) (bT:aO (mN "__setattr__"=aA) a8) (mW:aO (mN x=aA) a8) (hB:ea (.type "object") x=pure aA) (hl:U l<=16777216:=by exact bY rfl):
  c8 C n (.Attribute o x p) v st ⟨am.loc,am.hp.set d<|.attrs<|putL l x v⟩:=.mk λA s ρ y Q hA R hv h=>by
 show aF _ A (do
  let ov ←holding [y] (eval o C.env)
  nK p.atName
  holding [y,ov] (setAttr ov x y)
  release [y,ov] []) Q bq s
 refine wpAny_bind<|wpAny_holding<|ho.run A s ρ _ hA R λaC z s1 N1 i1=>wpAny_bind<|wpAny_standAt<|wpAny_bind<|wpAny_holding<|aH i1 λa ha av=>?_;clear i1;subst av;exact aaZ N1.rep hk hd ha (hv.mono N1.pre N1.aX) hc bT mW hB hl λs2 N2=>wpAny_release'<|h aC s2<|N1.trans N2
theorem set_list{l:ax}{items:bD ak}{ne:B}{k:az}{t:jg}{v:ak}{Q:fD->ay->Prop}(ho:s.heap.get? l=some ⟨.type "list",aA,.seq items ne,#[]⟩)
  (hf:Ld k=true) (hk:(k=j/\j<items.size)\/(k<0/\oE k items.size=some j/\j<items.size))
  (h:Q () {s with heap:=s.heap.update l (fX (·.setIfInBounds j v))}):aF (aN C.prog C.w) A (setItem (.ref l) (.int k t) v) Q bq s:=by
 have hl:s.heap.IsList l items:=⟨_,ho,rfl,ne,rfl⟩
 unfold setItem
 try with_reducible refine wpAny_holding ?_
 first|refine wpAny_bind (wpAny_pure ?_)|skip
 refine wpAny_bind<|wpAny_sequenceKey hl.typeIs (by decide) ?_
 refine wpAny_bind (wpAny_callSpecial?_slot (name:=ft "__setitem__") hl.typeIs slot_list_setitem
  (wpAny_call_entry slot_list_setitem hl.typeIs entry_list_setitem ?_ (args_list_setitem _ _ _)))
 show aF _ _ (ed.List.listSubscript? (.int k t) >>= _) _ _ s;refine wpAny_bind<|wpAny_listSubscript_int hf ?_;clear hf;have hj:j<items.size:=by rcases hk with h|h<;>lia
 have OG:items[j]?=some items[j]:=ia hj;have tail:∀Q':Fin->ay->Prop,(∀s',s'={s with heap:=s.heap.update l (fX (·.setIfInBounds j v))}->aF (aN C.prog C.w) A.in1 (ret .none) Q' bq s')->
   aF (aN C.prog C.w) A.in1 (do setSeqItemAt l j v;ret .none) Q' bq s:=λQ' hq=>wpAny_bind<|wpAny_setSeqItemAt ho rfl<|hq _ rfl
 rcases hk with ⟨rfl,_⟩|⟨h0,abq,_⟩
 ·
  refine wpAny_bind<|wpAny_bind<|wpAny_seqItemAt ho rfl<|wpAny_pure<|D OG<|wpAny_mono (tail (λr s'=>_) λs' n5=>?_) (λH H x=>x) λH H x=>x.elim;subst n5;exact wpAny_pure ⟨.none,rfl,wpAny_pure h⟩
 ·obtain⟨m,rfl⟩:∃m:B,k=az.negSucc m:=by
   cases k with
   |ofNat n=>exact aY h0<|xD.mpr<|az.ofNat_nonneg n
   |negSucc n=>exact⟨n,rfl⟩
  refine wpAny_bind<|wpAny_bind<|wpAny_bind<|wpAny_seqItems ho rfl<|wpAny_pure<|wpAny_pure<|D abq ?_;simp only[Kc,OG,vF];refine wpAny_mono (tail (λr s'=>_) λs' n5=>?_) (λH H x=>x) λH H x=>x.elim;subst n5;exact wpAny_pure ⟨.none,rfl,wpAny_pure h⟩
theorem abr{vs:bD ak}{m:B}(R:Rep C ρ st s)(ha:ρ[k]?=some a)(ho:s.heap.get? a=some ⟨.type "list",aA,.seq vs m,#[]⟩)(hl:V.IsL ρ s.heap l vs.toList)(hv:v.Is ρ s.heap y):
  bk C ρ s ⟨st.loc,st.hp.set k<|.list<|l.set j v⟩ ρ {s with heap:=s.heap.update a (fX (·.setIfInBounds j y))}:=by
 refine xE (⟨_,rfl⟩:∃m',fX (·.setIfInBounds j y) ⟨.type "list",aA,.seq vs m,#[]⟩=⟨.type "list",aA,.seq (vs.setIfInBounds j y) m',#[]⟩) λm' e=>?_
 have j7:bF s.heap (s.heap.update a<|fX (·.setIfInBounds j y)):=jY (iA ..) ho rfl;refine bk.change R (ob:=.list<|l.set j v) ha (iA ..) ⟨_,m',(pO _ ho rfl).trans<|bA some e,?_⟩ s.toks;exact D bD.toList_setIfInBounds<|V.IsL.set j (hl.mono (bP _) j7)<|hv.mono (bP _) j7
theorem c8.item{o i:bB}{z:az}(ho:EV C n o st (.ref k) am)(hi:EV C n i am (.int z) ba)(hk:ba.hp[k]?=some (.list l))(hz:(z=j/\j<U l)\/(z<0/\oE z (U l)=some j/\j<U l))(hf:aO (Ld z=true) aD._auto_1):
  c8 C n (.Subscript o i p) v st ⟨ba.loc,ba.hp.set k<|.list<|l.set j v⟩:=.mk λA s ρ y Q hA R hv h=>by
 refine wpAny_bind<|wpAny_holding<|ho.run A s ρ _ hA R λaC z s1 N1 i1=>wpAny_bind<|wpAny_holding<|hi.run A s1 aC _ hA N1.rep λbh z2 s2 N2 i2=>wpAny_bind<|wpAny_standAt<|wpAny_bind<|wpAny_holding<|aH (i1.mono N2.pre N2.aX) λa ha av=>?_;subst av;refine dv (N2.rep.led.objs k _ a hk ha) λvs m kz hl=>xE i2 λt av=>?_
 clear i2;subst av;have hs:vs.size=U l:=by rw[←eO,dK hl]
 refine set_list kz hf (by refine D hs ?_;exact hz) ?_
 exact wpAny_release'<|h bh _<|(N1.trans N2).trans<|abr N2.rep ha kz hl<|(hv.mono N1.pre N1.aX).mono N2.pre N2.aX
inductive cF(C:Cx)(n:B):J bB->V->St->St->Prop
 |nil {v:V} {st:St}:cF C n [] v st st
 |cons {e:bB} {es:J bB} {v:V} {st am ba:St} (h:c8 C n e v st am) (t:cF C n es v am ba) (he:aO (gR e=true) a8):cF C n (e::es) v st ba
theorem cF.go(h:cF C n es v st am):∀{A:bS} {s:ay} {ρ:J ax} {y:ak} {Q:fD->ay->Prop},cn n A->Rep C ρ st s->v.Is ρ s.heap y->(∀aB s',bk C ρ s am aB s'->Q () s')->
  aF (aN C.prog C.w) A (assignAll y<|(tU es C.env).map (·.2)) Q bq s:=by
 induction h with
 |nil=>intro A s ρ y Q hA R hy hq;exact wpAny_pure<|hq ρ s (ek R)
 |cons h t he ih=>
  intro A s ρ y Q hA R hy hq;refine D (Bx he) ?_
  have key:aF (aN C.prog C.w) A (do holding [y] (assign _ C.env y);assignAll y ((tU _ C.env).map (·.2))) Q bq s:=
   wpAny_bind (wpAny_holding<|h.run A s ρ y _ hA R hy λaC s1 N1=>ih hA N1.rep (hy.mono N1.pre N1.aX) λbh s2 N2=>hq bh s2<|N1.trans N2)
  cases t with
  |nil=>exact h.run A s ρ y _ hA R hy hq
  |cons h' t' FO=>
   rw[Bx FO] at key ⊢;exact key
theorem X1.abt(G:EV C n e st v am)(h2:cF C n es v am ba)(h:K .next ba)
  (hs:aO (vJ es e p.line C.env=pure false) a8) (hw:aO (vK es e C.env=pure aA) a8):X1 C n q (.Assign es e p) st K:=.mk λA s ρ Q hA R k=>by
 rw[exec_Assign];refine wpAny_bind (wpAny_standAt<|D hs<|wpAny_bind<|wpAny_pure<|D (aE<|by decide) ?_);refine wpAny_bind<|G.run A s ρ _ hA R λaC x s1 N1 i1=>(D hw<|wpAny_bind<|wpAny_pure ?_);show aF _ A (do assignAll x _;pure .next) Q bq s1;exact wpAny_bind<|h2.go hA N1.rep i1 λbh s2 N2=>wpAny_pure<|k bh .next _ _ s2 h (N1.trans N2).toS rfl
theorem jG(G:EV C n e st v am)(h2:cF C n es v am ba)(h:XS C n q r ba K)
  (hs:aO (vJ es e p.line C.env=pure false) a8) (hw:aO (vK es e C.env=pure aA) a8):XS C n q (.Assign es e p::r) st K:=cg<|X1.abt G h2 h hs hw
theorem By{aiA:ak}{Q:Args->ay->Prop}(ha:jl C n es st vs am)(hA:cn n A)(R:Rep C ρ st s)(he:es.all gR=true)
  (h:∀aB xs s',bk C ρ s am aB s'->V.IsL aB s'.heap vs xs->Q ⟨xs,[]⟩ s'):aF (aN C.prog C.w) A (evalArgs aiA true (lE pos<|lC es C.env) []) Q bq s:=by
 have key:=ha.run A s ρ pos (λxs s'=>Q ⟨xs,[]⟩ s') hA R h;cases es with
 |nil=>
  exact wpAny_bind<|wpAny_mono key (λvs s' h'=>(wpAny_bind<|wpAny_pure<|wpAny_holding<|wpAny_bind<|wpAny_pure<|wpAny_bind<|wpAny_pure<|wpAny_pure h')) λH H x=>x
 |cons e es=>
  have Gh:gR e=true:=by simp only[oA,gP] at he;exact he.1
  simp only[kQ Gh] at key ⊢;exact EB key
theorem GD(h:es.all gR=true)(hl:U es<30):((lE pos (lC es env)).all (λx=> !x.1)&&(qQ pos (qP [] env)).all (λx=>x.1.isSome)
   &&decide (U es+U ([]:J nN)+(if([]:J nN).isEmpty then 0 else 1)<30))=true:=by
 have e1:(lE pos<|lC es env).all (λx=> !x.1)=true:=by
  unfold lE
  induction es with
  |nil=>rfl
  |cons e es ih=>
   simp only[oA,gP] at h;have wc:=ih h.2 (by simp only[cK] at hl;exact lz ‹_›);refine D (kQ h.1) ?_
   simp only[eu,oA] at wc ⊢;exact wc
 (refine D e1<|D (dF<|by simp;exact hl) ?_)
 rfl
theorem EV.rn{o:bB}{name:ao}{args:J bB}{aiA:ax}{of:bc}{l:J (ao×V)}{y:bC ak}
  (ho:EV C n o st (.ref k) am) (hk:am.hp[k]?=some (.inst c d)) (hd:am.hp[d]?=some (.attrs l)) (hc:v8 C.top c mN) (hf:mN name=some (.ref aiA)) (yq:C.top.get? aiA=some of) (ro:of.cls= .type "function") (Bz:of.data= .func fd)
  (hB:ea (.type "object") name=pure y) (ha:jl C n args am vs ba) (oT:aQ C n (.ref aiA) (.ref k::vs) ba v ce)
  (uE:aO (mN "__getattribute__"=aA) a8) (GE:aO (mN "__getattr__"=aA) a8) (eo:aO (l.lookup name=aA) a8) (he:aO (args.all gR=true) a8) (hlen:aO (U args<30) aD._auto_1)
  (oR:aO (vL o name C.env (eval o C.env)=eval o C.env) a8) (lL:aO ((apos.endLine==pos.line)=true) a8):EV C n (.Call (.Attribute o name apos) args [] pos) st v ce:=.mk λA s ρ Q hA R h=>by
 simp only[arm_eval_Call,oR];refine wpAny_bind<|ho.run A s ρ _ hA R λaC x s1 N1 i1=>(wpAny_bind<|wpAny_standAt ?_);have yr:methodCallForm (U args+U ([]:J nN)) (lE pos<|lC args C.env) (qQ pos<|qP [] C.env)=true:=GD he hlen;have oU:vM true o C.env apos pos=pure pos:=by unfold vM;simp[lL]
 unfold methodCall;refine D yr<|aH i1 λa rp av=>?_;clear i1;subst av;refine kn (Bq N1.rep hk hd rp) λm b hb ne I hm=>?_
 obtain⟨nm,q,N,bs,sn,sub,ab,col,dd,k0,k1,k2,k3,k5,newId,hC,hn⟩:=hc;refine wpAny_bind<|wpAny_holding<|method_ofFk (N1.rep.led.top _ _ hC) (hn.keeps N1.rep.led.top) uE GE hf (N1.rep.led.top _ _ yq) ro hB I ((hm name).2 eo)<|wpAny_bind<|wpAny_of_eq oU<|Ez (o:=of) (fd:=fd) ?_;exact By ha hA N1.rep he λbh xs s2 N2 i2=>⟨⟨N2.rep.led.top _ _ yq,Bz⟩,(oT.run A s2 bh (.ref a::xs) Q hA N2.rep ⟨_,xs,rfl,⟨a,pS N2.pre rp,rfl⟩,i2⟩ λdp z s3 N3 i3=>h dp z s3 ((N1.trans N2).trans N3) i3)⟩
theorem a9.is_ref_none:a9 C n (iU .Is) (.ref k) .none st (.bool false) st:=.mk λA s ρ x y Q hA R ⟨a,_,e⟩ e2 h=>by
 subst e e2;exact KZ (by intro x;cases x)<|h ρ _ _ (ek R) rfl
theorem a9.is_int_none:a9 C n (iU .Is) (.int i) .none st (.bool false) st:=.mk λA s ρ x y Q hA R ⟨a,e⟩ e2 h=>by
 subst e e2;exact KZ (by intro x;cases x)<|h ρ _ _ (ek R) rfl
theorem a9.isnot_none_none:a9 C n (iU .IsNot) .none .none st (.bool false) st:=.mk λA s ρ x y Q hA R e e2 h=>by
 subst e e2;exact PyProof.Rows.isnot_none_none<|h ρ _ _ (ek R) rfl
noncomputable def sM(h:bn)(c:ax):bn:=(h.push {cls:=.type "dict",data:=.dict #[]}).push {cls:=.ref c,dict:=some h.objs.size,data:=.plain}
theorem abu(h:bn)(c:ax):(sM h c).get? (h.objs.size+1)=some ⟨.ref c,some h.objs.size,.plain,#[]⟩:=by
 have:=ew (h.push {cls:=.type "dict",data:=.dict #[]}) (o:={cls:=.ref c,dict:=some h.objs.size,data:=.plain}) rfl;rw[jV] at this;exact this
theorem BA:∀b o,h.get? b=some o->(sM h c).get? b=some o:=λb o e=>dD _<|dD _ e
theorem abv{M:du}{g:bD de}{d:cV}{t:B}{os:bM}{q:ao}{sub:J ak}{Q:Fin->ay->Prop}
  (hC:h.get? c=some (vN nm q c N bs [.type "object"] true sn sub false col dd k0 k1 k2 k3 k5 "object.__new__")) (hn:h.Ns N mN) (hi:mN "__init__"=some (.ref fI)) (yt:h.get? fI=some oI) (ro:oI.cls= .type "function")
  (hq:aF (aN M w) A (gO (.ref fI)<|.ref (h.objs.size+1)::rest) (λr s'=>r= .none/\Q (.done<|.ret<|.ref<|h.objs.size+1) s') bq ⟨sM h c,g,d,t,os⟩):
  aF (aN M w) A (ed.«type.__call__» ⟨.ref c::rest,[]⟩) Q bq ⟨h,g,d,t,os⟩:=by
 have F:=PySem.F.objNew;have abw:mroOf (.type "object")=pure [.type "object"]:=by kernel_rfl
 have uF:ea (.type "object") "__init__"=pure (some<|.builtin "object.__init__"):=by rw[typeLookup_type,builtinLookup_eq_fast];kernel_rfl
 repeat (first|with_reducible refine wpAny_loadPart_at hC ?_|with_reducible refine wpAny_madeBy_exc hC ?_|wp_step)
 refine codeAny_call_builtin_code (xw _ F.quiet)<|wpAny_check_obj_new F hC<|codeAny_obj_new F hC hn hi ?_;show aF _ _ _ _ _ ⟨sM h c,g,d,t,os⟩;have hcC:(ud c::[pP "object"]).contains (.ref c)=true:=by simp
 repeat (first|with_reducible refine wpAny_loadPart_at (abu h c) ?_|(with_reducible refine wpAny_isSubtype_exc (BA _ _ hC) ?_;rw[hcC])|wp_step)
 refine wpAny_typeLookup_exc (BA _ _ hC) (hn.keeps BA) abw uF<|D hi<|wpAny_holding<|wpAny_bind<|wpAny_bind<|wpAny_typeOf (T:="function") ⟨_,BA _ _ yt,ro⟩ ?_;refine D (aU<|by decide)<|wpAny_pure<|wpAny_bind<|wpAny_mono hq (λr s' hr=>?_) λH H x=>x;obtain⟨rfl,hQ⟩:=hr
 wp_walk
 exact hQ
theorem abx{M:du}{g:bD de}{d:cV}{t:B}{os:bM}{q:ao}{sub:J ak}
  (hC:h.get? c=some (vN nm q c N bs [.type "object"] true sn sub false col dd k0 k1 k2 k3 k5 "object.__new__")) (hn:h.Ns N mN) (hi:mN "__init__"=some (.ref fI)) (yt:h.get? fI=some oI) (ro:oI.cls= .type "function")
  (hq:aF (aN M w) (A.under<|.builtin "type.__call__" ⟨.ref c::rest,[]⟩) (gO (.ref fI)<|.ref (h.objs.size+1)::rest) (λr s'=>r= .none/\Q (.ref<|h.objs.size+1) s') bq ⟨sM h c,g,d,t,os⟩):
  aF (aN M w) A (gO (.ref c) rest) Q bq ⟨h,g,d,t,os⟩:=by
 have f1:=tc_lookup;have f2:=tc_bind<|.ref c;have hT:(⟨h,g,d,t,os⟩:ay).TypeIs (.ref c) "type":=⟨_,hC,rfl⟩
 refine wpAny_call<|codeAny_of_tree ?_;show aF _ _ (callAny (.ref c) _) _ _ _
 repeat (any_goals (first|assumption|with_reducible refine wpAny_loadPart_at hC ?_|wp_step))
 exact⟨rfl,codeAny_call_builtin_at (xw _<|by decide+kernel) entry_typeCall<|wpAny_check_type_call_sub hC<|abv hC hn hi yt ro hq⟩
theorem cn.create(h:cn (n+1) A):cn n (A.under<|.builtin "type.__call__" ⟨.ref c::rest,[]⟩):=by
 have hw:(xx "type.__call__" ⟨.ref c::rest,[]⟩).weight=1:=by rfl
 have hu:(xx "type.__call__" ⟨.ref c::rest,[]⟩).cUnits<=5:=bY rfl;refine⟨h.1,?_,?_⟩
 ·show A.depth+_+10*n<=900;refine D hw ?_;have:=h.2.1;exact Nu this
 ·
  have:=h.2.2;exact ZK this hu
theorem aby(R:Rep C ρ st s)(c:ax):bk C ρ s ⟨st.loc,st.hp++[.attrs []]++[.inst c<|U st.hp]⟩ (ρ++[s.heap.objs.size]++[s.heap.objs.size+1]) {s with heap:=sM s.heap c}:=by
 have hg:(s.heap.push {cls:=.type "dict",data:=.dict #[]}).get? s.heap.objs.size=some {cls:=.type "dict",data:=.dict #[]}:=ew _ rfl;have N1:=bk.alloc (ob:=.attrs []) (o:={cls:=.type "dict",data:=.dict #[]}) R rfl ⟨⟨_,hg,rfl,rfl⟩,λH=>none,bn.Ns1.of_empty ⟨_,#[],_,hg,rfl,λe he=>aY he (by simp),λH=>rfl⟩,λx=>⟨λv e=>by simp at e,λH=>rfl⟩⟩ s.toks;have hz:(s.heap.push {cls:=.type "dict",data:=.dict #[]}).objs.size=s.heap.objs.size+1:=jV ..
 have N2:=bk.alloc (ob:=.inst c (U st.hp)) (o:={cls:=.ref c,dict:=some s.heap.objs.size,data:=.plain}) N1.rep rfl ⟨s.heap.objs.size,by
   (refine D (cA (by simp[R.led.len])) (D (dc (by rw[R.led.len];exact aG _)) (D R.led.len (D (fF _) ?_))));rfl,ew _ rfl⟩ s.toks
 have N:=N1.trans N2;dsimp only at N;rw[hz] at N;exact N
theorem aQ.new{q:ao}{sub:J ak}
  (hC:C.top.get? c=some (vN nm q c N bs [.type "object"] true sn sub false col dd k0 k1 k2 k3 k5 "object.__new__")) (hn:C.top.Ns N mN) (hi:mN "__init__"=some (.ref fI)) (yt:C.top.get? fI=some oI) (ro:oI.cls= .type "function")
  (oT:aQ C n (.ref fI) (.ref (U st.hp+1)::args) ⟨st.loc,st.hp++[.attrs []]++[.inst c<|U st.hp]⟩ .none am):aQ C (n+1) (.ref c) args st (.ref<|U st.hp+1) am:=.mk λA s ρ xs Q hA R aV h=>by
 have N0:=aby R c;refine abx (R.led.top _ _ hC) (hn.keeps R.led.top) hi (R.led.top _ _ yt) ro ?_
 have hx:V.Is (ρ++[s.heap.objs.size]++[s.heap.objs.size+1]) (sM s.heap c) (.ref (U st.hp+1)) (.ref (s.heap.objs.size+1)):=⟨_,by
  refine D (dc (by simp[R.led.len])) ?_;simp[R.led.len],rfl⟩
 exact oT.run _ {s with heap:=sM s.heap c} _ _ _ hA.create N0.rep ⟨_,xs,rfl,hx,aV.mono N0.pre N0.aX⟩ λaC x s1 N1 i1=>⟨i1,(aH hx λa e1 e2=>(h aC _ s1 (N0.trans N1) ⟨a,pS N1.pre e1,e2⟩))⟩
noncomputable def GF(C:Cx)(aiy:V)(st:St):Prop:=∀(s:ay) (ρ:J ax) (x:ak),Rep C ρ st s->aiy.Is ρ s.heap x->
 ∃k,k≠Ks/\∀(A:bS) (Q:Keeper->ay->Prop),Q k s->aF (aN C.prog C.w) A (keeperOf x) Q bq s
@[irreducible] noncomputable def gX(C:Cx)(aiy:V)(st:St):Prop:=GF C aiy st
theorem gX.mk(run:GF C aiy st):gX C aiy st:=by with_unfolding_all exact run
theorem gX.run(h:gX C aiy st):GF C aiy st:=by with_unfolding_all exact h
noncomputable def GH(C:Cx)(n:B)(aiy:V)(args:J V)(st:St)(v:V)(aj:St):Prop:=
 ∀(A:bS) (s:ay) (ρ:J ax) (x:ak) (xs:J ak) (Q:ak->ay->Prop),cn n A->Rep C ρ st s->aiy.Is ρ s.heap x->V.IsL ρ s.heap args xs->
  (∀aB z s',bk C ρ s aj aB s'->v.Is aB s'.heap z->Q z s')->aF (aN C.prog C.w) A (gO x xs) Q bq s
@[irreducible] noncomputable def gY(C:Cx)(n:B)(aiy:V)(args:J V)(st:St)(v:V)(aj:St):Prop:=GH C n aiy args st v aj
theorem gY.mk(run:GH C n aiy args st v aj):gY C n aiy args st v aj:=by with_unfolding_all exact run
theorem gY.run(h:gY C n aiy args st v aj):GH C n aiy args st v aj:=by with_unfolding_all exact h
theorem gY.of{aiA:ak}(h:aQ C n aiA args st v am):gY C n (.val aiA) args st v am:=.mk λA s ρ x xs Q hA R hx aV hq=>by
 subst hx;exact h.run A s ρ xs Q hA R aV hq
theorem gX.builtin{id:dm}:gX C (.val<|.builtin id) st:=.mk λs ρ x R hx=>⟨.machine,by decide,λA Q hq=>by subst hx;exact wpAny_pure hq⟩
theorem gX.type{T:dm}:gX C (.val<|.type T) st:=.mk λs ρ x R hx=>⟨.machine,by decide,λA Q hq=>by subst hx;exact wpAny_pure hq⟩
theorem gX.cls{q:ao}{bm:J ak}{abz:bb}{sub:J ak}{ab:bb}{newId:dm}
  (hC:C.top.get? c=some (vN nm q c N bs bm abz sn sub ab col dd k0 k1 k2 k3 k5 newId)):gX C (.val (.ref c)) st:=.mk λs ρ x R hx=>⟨.machine,by decide,λA Q hq=>by
 subst hx;have i7:=R.led.top _ _ hC;obtain⟨hh,g,d,t,os⟩:=s;have f1:=tc_lookup;have hT:(⟨hh,g,d,t,os⟩:ay).TypeIs (.ref c) "type":=⟨_,i7,rfl⟩
 repeat (any_goals (first|assumption|with_reducible refine wpAny_loadPart_at i7 ?_|with_reducible refine wpAny_load' i7 ?_|wp_step))
 all_goals first
  |exact hq
  |(rw[aU rfl];exact hq)⟩
theorem abA{aiA:ak}{first:J ak}{args:J (bb×dG ak)}(abB:args.any (·.1)=false)
  (h:aF (aN C.prog C.w) A (evalArgs aiA true args []) (λa cW=>(∃k,k≠Ks/\∀(A:bS) (Q:Keeper->ay->Prop),Q k cW->aF (aN C.prog C.w) A (keeperOf aiA) Q bq cW)/\aF (aN C.prog C.w) A (gO aiA (first++a.pos) a.kw) Q bq cW) bq s):
  aF (aN C.prog C.w) A (callWith pos aiA first args []) Q bq s:=by
 refine wpAny_bind<|wpAny_holding<|wpAny_mono h (λa cW h₁=>wpAny_bind<|wpAny_standAt ?_) λH H x=>x;obtain⟨⟨k,hk,L⟩,hc⟩:=h₁;refine D (D abB rfl:(args.any (·.1)||([]:J (bC ao×dG ak)).any (·.1.isNone))=false)<|wpAny_bind<|L A _ ?_;have tail:∀{t:dG ak},aF (aN C.prog C.w) A t Q bq cW->aF (aN C.prog C.w) A (t >>= λr=>holding [r] point >>= λH=>pure r) Q bq cW:=
  λht=>wpAny_bind<|wpAny_mono ht (λr sy hr=>wpAny_bind<|wpAny_holding<|wpAny_point<|wpAny_pure hr) λH H x=>x
 have marked (mk:ak):aF (aN C.prog C.w) A (callMarked mk aiA (first++a.pos) a.kw) Q bq cW:=by unfold callMarked;exact Calls.wpAny_keep hc
 cases k with
 |caller=>exact aY rfl hk
 |frame=>exact EL (p:=λt=>aF (aN C.prog C.w) A t Q bq cW) (tail hc)<|tail<|marked _
 |boundFrame=>exact EL (p:=λt=>aF (aN C.prog C.w) A t Q bq cW) (tail hc)<|tail<|marked _
 |machine=>exact tail hc
theorem plain_any(h:es.all gR=true):(lE pos<|lC es env).any (·.1)=false:=by
 induction es with
 |nil=>rfl
 |cons e es ih=>
  simp only[oA,gP] at h;have wc:=ih h.2;unfold lE at wc ⊢;refine D (kQ h.1) ?_
  simp only[eu,DK] at wc ⊢;exact wc
theorem EV.qe{aiA:ao}(hf:EV C n (.Name aiA p) st aiy am)(ha:jl C n es am vs ba)(hk:gX C aiy ba)(hc:gY C n aiy vs ba v ce)(sD:aO (es.all gR=true) a8):
  EV C n (.Call (.Name aiA p) es [] pos) st v ce:=.mk λA s ρ Q hA R h=>by
 exact wpAny_Call_Name_kw<|hf.run A s ρ _ hA R λaC x s1 N1 i1=>(abA (plain_any sD)<|By ha hA N1.rep sD λbh xs s2 N2 i2=>⟨hk.run s2 bh x N2.rep<|i1.mono N2.pre N2.aX,(hc.run A s2 bh x xs Q hA N2.rep (i1.mono N2.pre N2.aX) i2 λdp z s3 N3 i3=>h dp z s3 ((N1.trans N2).trans N3) i3)⟩)
theorem fv{aiA:ao}{id:dm}(hf:EV C n (.Name aiA p) st (.val<|.builtin id) am)(ha:jl C n es am vs ba)(hc:aQ C n (.builtin id) vs ba v ce)(sD:aO (es.all gR=true) a8):
  EV C n (.Call (.Name aiA p) es [] pos) st v ce:=EV.qe hf ha gX.builtin (gY.of hc) sD
theorem OH{ρ:J ax}{h:bn}{i:az}:∀{ns:J az} {l:J ak},V.IsL ρ h (ns.map V.int) l->l.any (λz=>match z with| .int b _=>b==i|_=>false)=ns.contains i
 | [],l,hl=>by exact D (show l=[] from hl) rfl
 |k::ns,_,z0=>dh z0 λz r ez z1 h2=>xE z1 λaiy e=>by
  subst ez;subst e;refine D DK<|D (OH h2)<|D z7 ?_;show(k==i||_)=(i==k||_)
  exact D (sa.mpr ⟨λh=>nG.mpr (nG.mp h).symm,λh=>nG.mpr (nG.mp h).symm⟩:(k==i)=(i==k)) rfl
theorem a9.abC{ns:J az}:a9 C n (iU .In) (.int i) (.tup (.type "tuple")<|ns.map V.int) st (.bool<|ns.contains i) st:=.mk λA s ρ x y Q hA R ⟨t,e⟩ ⟨_,a,vs,m,e2,ho,hl⟩ h=>by
 subst e e2;have pZ:∀z,z∈vs.toList->∃b aiy,z=qZ b aiy:=(Gz hl).1;refine SeqAt.in_tupleAt (λz=>match z with| .int b _=>b==i|_=>false) ⟨_,ho,rfl,m,rfl⟩ (λz hz=>?_) ?_
 ·refine xI (pZ z<|KE.mpr hz) λb aiy av=>?_
  subst av;exact(SY b i aiy t).at _ _
 ·have e3:vs.any (λz=>match z with| .int b _=>b==i|_=>false)=ns.contains i:=by
   exact bL bD.any_toList<|OH hl
  exact D e3<|h ρ _ s (ek R) rfl
theorem yu{κ:Type}[xm κ]{ρ:J ax}{h:bn}{x:κ}:∀{l:J (κ×V)} {bI:J (κ×ak)},bI.map (·.1)=l.map (·.1)->V.IsL ρ h (l.map (·.2)) (bI.map (·.2))->
  (∀v,l.lookup x=some v->∃y,valueAt bI x=some y/\v.Is ρ h y)/\(l.lookup x=none->valueAt bI x=none)
 | [],bI=>λe H=>by
  obtain rfl:bI=[]:=w9.mp e;exact⟨λv hv=>by simp at hv,λH=>rfl⟩
 |(k,aiy)::l,[]=>λe H=>by exact nomatch e
 |(k,aiy)::l,(k',y)::bI=>λe z0=>dh z0 λz r e2 i1 i2=>by
  simp only[eu,DM] at e e2;obtain⟨rfl,e⟩:=e;obtain⟨rfl,rfl⟩:=e2;have ih:=yu (x:=x) e i2;refine D gv ?_
  unfold valueAt at ih ⊢;refine D (J.find?_cons) ?_
  by_cases hk:k'=x
  ·subst hk;refine D (xl _)<|D (dF rfl) ?_;exact⟨λv hv=>by cases hv;exact⟨y,rfl,i1⟩,λh=>by cases h⟩
  ·have G:(x==k')=false:=by simpa using λe=>hk e.symm
   refine D G<|D (fz hk) ?_;exact ih
noncomputable def oW[xm κ](l:J<|κ×V)(k:κ)(v:V):J (κ×V):=if l.any (λp=>p.1=k) then l.map (λp=>if p.1=k then(p.1,v) else p) else l++[(k,v)]
theorem OI[xm κ]{x:κ}(hv:v.Is ρ h y){l:J (κ×V)}{bI:J (κ×ak)}(e:bI.map (·.1)=l.map (·.1))(i:V.IsL ρ h (l.map (·.2))<|bI.map (·.2)):
  (stored bI x y).map (·.1)=(oW l x v).map (·.1)/\V.IsL ρ h ((oW l x v).map (·.2)) ((stored bI x y).map (·.2)):=by
 have OJ:bI.any (λkv=>kv.1=x)=l.any (λp=>p.1=x):=by
  have:∀{α:Type} (l:J<|κ×α),l.any (λp=>decide (p.1=x))=(l.map (·.1)).any (λk=>decide (k=x)):=λl=>by simp only[J.any_map];rfl
  simp only[this,this,e]
 unfold stored oW;simp only[OJ];split
 ·rename_i hx;clear hx OJ
  induction l generalizing bI with
  |nil=>obtain rfl:bI=[]:=w9.mp e;exact⟨rfl,i⟩
  |cons p l ih=>
   cases bI with
   |nil=>simp at e
   |cons q bI=>
    obtain⟨k',z⟩:=q;obtain⟨k,aiy⟩:=p;simp only[eu,DM] at e;obtain⟨rfl,e⟩:=e;refine dh i λz' r e2 i1 i2=>?_
    simp only[eu,DM] at e2;obtain⟨rfl,rfl⟩:=e2;obtain⟨G,h2⟩:=ih e i2;simp only[eu]
    by_cases hk:k'=x
    ·simp only[hk,xo];exact⟨by simp only[G],_,_,rfl,hv,h2⟩
    ·simp only[hk,xn];exact⟨by simp only[G],_,_,rfl,i1,h2⟩
 ·simp only[eL,eL,eL,eL,e];exact⟨rfl,i.append ⟨y,[],rfl,hv,rfl⟩⟩
theorem TV.GI{c:bb}(G:TV C n e st b st)(h2:TV C n (.BoolOp .Or es p) st c st):TV C n (.BoolOp .Or (e::es) p) st (b||c) st:=by
 cases b with
 |true=>exact TV.or_true G
 |false=>exact TV.or_false G h2
theorem kC{c:bb}(G:TV C n e st b st)(h2:TV C n (.BoolOp .And es p) st c st):TV C n (.BoolOp .And (e::es) p) st (b&&c) st:=by
 cases b with
 |true=>exact kq G h2
 |false=>exact jm G
theorem TV.GJ{l:bB}{v2:V}{c:bb}(G:EV C n l st aiy st)(h2:EV C n r1 st v st)(h3:a9 C n (iU o1) aiy v st (.bool b) st)
  (h4:EV C n r2 st v2 st) (h5:a9 C n (iU o2) v v2 st (.bool c) st)
  (hm:aO (lastMarks [o1,o2] [r1,r2]=false) aW._auto_1):TV C n (.Compare l [o1,o2] [r1,r2] p) st (b&&c) st:=by
 cases b with
 |true=>exact TV.abn G h2 h3 h4 h5 hm
 |false=>exact TV.abm G h2 h3 hm
theorem EV.yv{a b:bB}{c:bb}(G:TV C n t st c am)(ha:c=true->EV C n a am v ba)(hb:c=false->EV C n b am v ba):EV C n (.IfExp t a b p) st v ba:=by
 cases c with
 |true=>exact EV.ifT G<|ha rfl
 |false=>exact EV.ifF G<|hb rfl
theorem i8(b:bb)(G:TV C n t st b st)(ht:b=true->XS C n q body st K)(hf:b=false->XS C n q orelse st K):X1 C n q (.If t body orelse p) st K:=jj G ht hf
theorem b7(hl:SubL l' st.loc)(hh:st.hp=aZ)(h:XS C n q ss ⟨l',aZ⟩ K):XS C n q ss st K:=by
 subst hh;exact XS.forget (l:=st.loc) (hp:=st.hp) hl h
theorem lM(G:TV C n t st false am)(h:XS C n q ss am K):XS C n q (.If t body [] p::ss) st K:=cg<|jj G (λh=>nomatch h) λH=>bd h
theorem jt{s:fq}{K':Fl->St->Prop}(h:X1 C n q s st K)(hk:∀aiA aj,K aiA aj->K' aiA aj):X1 C n q s st K':=.mk λA s ρ Q hA R k=>h.run A s ρ Q hA R λaB fl aiA aj s' hK=>k aB fl aiA aj s'<|hk fl aj hK
mutual
theorem V.m5{g g':B->bb}(hg:∀k,g k=true->g' k=true):∀{v:V},v.bG g=true->v.bG g'=true
 | .none=>λH=>rfl
 | .bool _=>λH=>rfl
 | .int _=>λH=>rfl
 | .str _=>λH=>rfl
 | .val _=>λH=>rfl
 | .ref k=>λh=>hg k h
 | .tup c l=>λh=>uG hg h
theorem uG{g g':B->bb}(hg:∀k,g k=true->g' k=true):∀{l:J V},V.fe g l=true->V.fe g' l=true
 | []=>λH=>rfl
 |v::l=>λh=>fb.mpr ⟨V.m5 hg (fb.mp h).1,uG hg (fb.mp h).2⟩
end
theorem oX{α:Type}{g:B->bb}{aiA:α->V}(hf:∀a,(aiA a).bG g=true):∀{l:J α},V.fe g (l.map aiA)=true
 | []=>rfl
 |a::l=>fb.mpr ⟨hf a,oX hf⟩
theorem V.GK{α:Type}{k:B->B}{aiA:α->V}(hf:∀a,(aiA a).cf k=aiA a):∀{l:J α},V.lI k (l.map aiA)=l.map aiA
 | []=>rfl
 |a::l=>cons_eq (hf a)<|V.GK hf
theorem X1.while{test:bB}(r:B)(Inv:B->St->Prop){m0:B}(h0:Inv m0 st)(hq:q<=r)
  (iX:∀m am,Inv m am->∃b ba,TV C n test am b ba/\(b=true->XS C n r body ba (kL (λce=>∃m',m'<m/\Inv m' ce) K))/\
   (b=false->XS C n q orelse ba K)):
  X1 C n q (.While test body orelse pos) st K:=.mk λA s ρ Q hA R k=>by
 have weak:∀{ρ s aj aB s'},eH C r ρ s aj aB s'->eH C q ρ s aj aB s':=λN=>⟨xj (w7 hq) N.pre,N.aX,N.keep,N.fresh,N.gens,N.rep⟩
 refine wpAny_While<|codeAny_whileLoop (λm s'=>∃aB aj,Inv m aj/\eH C q ρ s aj aB s') ?_ m0 ⟨ρ,st,h0,eH.refl R⟩;intro m s' dM
 refine dv dM λaB aj hI N=>dh (iX m aj hI) λb ba hT hB hE=>wpAny_mono (hT.run A s' aB (λb sy=>if b then aF (aN C.prog C.w) A (mJ body C.env) (λaiA lK=>match aiA with
      | .next| .cont=>∃m',m'<m/\(∃aB aj,Inv m' aj/\eH C q ρ s aj aB lK)
      | .brk=>Q .next lK
      | .ret v=>Q (.ret v) lK) bq sy else aF (aN C.prog C.w) A (mJ orelse C.env) Q bq sy) hA N.rep λbh s2 N2=>?_) (λb sy h=>?_) (λH H h=>h.elim)
 ·cases b with
  |true=>
   refine D (aU rfl)<|(hB rfl).run A s2 bh _ hA N2.rep λeX fl aiA hO s4 hK N4 hf=>?_;have sB:=(N.NZ N2).trans<|weak N4;cases fl with
   |next=>subst hf;obtain⟨m',hm,iZ⟩:=hK;exact⟨m',hm,eX,hO,iZ,sB⟩
   |cont=>subst hf;obtain⟨m',hm,iZ⟩:=hK;exact⟨m',hm,eX,hO,iZ,sB⟩
   |brk=>subst hf;exact k eX .next _ hO s4 hK sB rfl
   |ret w=>obtain⟨z,rfl,hz⟩:=hf;exact k eX (.ret w) _ hO s4 hK sB ⟨z,rfl,hz⟩
  |false=>
   exact D (aE dy)<|(hE rfl).run A s2 bh Q hA N2.rep λeX fl aiA hO s4 hK N4 hf=>k eX fl aiA hO s4 hK ((N.NZ N2).trans N4) hf
 ·cases b with
  |true=>
   rw[aU rfl] at h ⊢;refine wpAny_mono h (λaiA lK h=>?_) λH H h=>h.elim;cases aiA<;>exact h
  |false=>
   rw[aE dy] at h ⊢;exact wpAny_mono h (λH H h=>h) λH H h=>h.elim
noncomputable def n6(p:B)(ns:J B)(k:B):B:=if k<p then k else p+ns.idxOf k
noncomputable def oY(p:B)(ns:J B)(k:B):bb:=decide (k<p)||ns.contains k
inductive oZ(aiA:B->B)(g:B->bb):J O->J O->Prop
 |nil:oZ aiA g [] []
 |cons {o o':O} {r r':J O} (hi:o.bG g=true) (hr:o'=o.cf aiA) (t:oZ aiA g r r'):oZ aiA g (o::r) (o'::r')
theorem oZ.get{r r':J O}(h:oZ aiA g r r'):U r'=U r/\∀(k:B) (o':O),r'[k]?=some o'->∃o,r[k]?=some o/\o.bG g=true/\o'=o.cf aiA:=by
 induction h with
 |nil=>exact⟨rfl,λk o' h=>by exact nomatch h⟩
 |cons hi hr t ih=>
  refine⟨by simp only[cK,cK,ih.1],λk o' h=>?_⟩;cases k with
  |zero=>cases h;exact⟨_,rfl,hi,hr⟩
  |succ k=>simp only[vy] at h ⊢;exact ih.2 k o' h
theorem Cv.of{p:B}{ns:J B}{base sel:J O}(hf:aiA=n6 p ns)(hg:g=oY p ns)(G:ns.Nodup)(h2:∀k∈ns,p<=k)(hb:jh.take p=base)(fZ:U base=p)(hs:ns.map (jh[·]?)=sel.map some)
  (hc:oZ aiA g (base++sel) aZ):Cv p ns aiA g jh aZ:=by
 subst hf hg;obtain⟨hl,cO⟩:=hc.get;have qf:U sel=U ns:=by have:=bA U hs;simpa using this.symm
 have v5:∀(i k:B),ns[i]?=some k->∃o,jh[k]?=some o/\sel[i]?=some o:=λi k e=>by
  have e1:(ns.map (jh[·]?))[i]?=some jh[k]?:=by simp only[c6,e];rfl
  rw[hs,c6] at e1;cases hq:sel[i]? with
  |none=>rw[hq] at e1;exact nomatch e1
  |some o=>rw[hq] at e1;exact⟨o,(cj e1).symm,rfl⟩
 have idx:∀(i k:B),ns[i]?=some k->ns.idxOf k=i:=λi k e=>by
  obtain⟨hi,e'⟩:=cJ.mp e;exact bL e'<|G.idxOf_getElem i hi
 refine⟨G,h2,λk hk=>?_,by rw[hl,aK,fZ,qf],λk o' hk e=>?_,λi k e=>?_⟩
 ·unfold oY at hk;rcases bb.or_eq_true_iff.mp hk with h|h
  ·exact .inl ⟨dq h,by unfold n6;rw[aU<|dq h]⟩
  ·have hm:k∈ns:=by simpa using h
   obtain⟨i,hi,e⟩:=mE hm;have e':ns[i]?=some k:=by rw[bO hi,e]
   refine .inr ⟨i,e',?_⟩;unfold n6;rw[aE<|iT.mpr<|h2 k hm,idx i k e']
 ·refine cP (cO k o' e) λo e1 e2 e3=>?_
  rw[cA<|me hk fZ] at e1;refine⟨o,?_,e2,e3⟩;rw[←hb,zV hk] at e1;exact e1
 ·refine aH (v5 i k e) λo e1 e2=>?_
  have hi:=(cJ.mp e).1;have e3:(base++sel)[p+i]?=some o:=by rw[dc<|ZM fZ,fZ,jx];exact e2
  have e4:p+i<U aZ:=by exact D hl<|D aK<|ZL hi fZ qf
  refine cP (cO (p+i) aZ[p+i]<|bO e4) λo2 e5 e6 e7=>?_
  rw[e3] at e5;cases e5;exact⟨o,e1,e6,by rw[bO e4,e7]⟩
end
end Mine.Internal
namespace Mine.Internal
open PySem PyProof.Rows PySem.W PySem.Builtin.Str
noncomputable def FT(v:ak)(y:ao):Prop:=y.length<=1000000/\∀(prog:du) (w:bx) (A:bS) (E:ak->ay->Prop) (s:ay) (Q:ak->ay->Prop),(∀t k,Q (.str y t) {s with toks:=k})->aF (aN prog w) A (formatOf v ao.empty) Q E s
theorem FT.str{x:ao}{t:jg}(h:x.length<=1000000):FT (.str x t) x:=⟨h,λH H H H s H hq=>wpAny_of_eq (KFm.formatOf_str x t)<|hq t s.toks⟩
theorem FT.int{n:az}{aiy:jg}(h0:0<=n)(G:n<10 ^ 10):FT (.int n aiy) (ft<|toString n):=⟨cX (toString_length_le (k:=10) h0 (by decide) G) (by decide),λH H H H H H hq=>KFm.formatOf_int (by kfm_hd) hq⟩
noncomputable def BC(L:B):J ak->J B->ao->ao->Prop
 | []=>λr T T'=>r=[]/\T=T'
 |v::vs=>λr T T'=>∃(lit rest:J B) (y:ao),(r.isEmpty=false/\nextMarkup r= .ok (lit,some {name:=[]},rest)/\U lit≠L/\U lit<=100)/\FT v y/\BC L vs rest (T++⟨lit.toArray⟩++y) T'
section
variable{prog:du}{wd:bx}{A:bS}{E:ak->ay->Prop}{s:ay}
theorem abD{a:bD ak}{L:B}{F:B->Writer×Numbering×J B->dG (ForInStep<|Writer×Numbering×J B)}{Q:Writer×Numbering×J B->ay->Prop}{T':ao}
  (h0:∀x w num k,Q (w,num,[]) {s with toks:=k}->aF (aN prog wd) A (F x (w,num,[])) (λr s'=>match r with| .done b=>Q b s'| .yield _=>c7) E {s with toks:=k})
  (G:∀{lit r rest:J B} {y:ao} {v:ak} (x w num i k) (R:ForInStep (Writer×Numbering×J B)->ay->Prop),r.isEmpty=false->nextMarkup r= .ok (lit,some {name:=[]},rest)->U lit≠L->FT v y->a[i]?=some v->(num= .unset/\i=0)\/num= .auto i->tooLong w.total=false->
   (∀o1 o2 k,KPc.Obj o1 ⟨lit.toArray⟩->KPc.Obj o2 y->R (.yield ((w.add ⟨lit.toArray⟩ o1).add y o2,.auto (i+1),rest)) {s with toks:=k})->aF (aN prog wd) A (F x (w,num,r)) R E {s with toks:=k})
  (hq:∀w num k N,KPc.Good w T' N->N<=16777216->Q (w,num,[]) {s with toks:=k}):
  ∀(vs:J ak) {r T w num k} (i j m N:B),BC L vs r T T'->a.toList.drop i=vs->U vs<=m->N+U vs*1000100<=16777216->(num= .unset/\i=0)\/num= .auto i->KPc.Good w T N->aF (aN prog wd) A (forIn (fj j m 1) (w,num,r) F) Q E {s with toks:=k}:=λvs=>by
 induction vs with
 |nil=>
  intro r T w num k i j m N hc _ _ hN _ g;obtain⟨rfl,rfl⟩:=hc;have q:∀k,Q (w,num,[]) {s with toks:=k}:=λk=>hq w num k N g (by simpa using hN);cases m with
  |zero=>exact wpAny_pure<|q k
  |succ m=>
   refine KPc.turn<|wpAny_mono (h0 j w num k<|q k) (λr s' hr=>?_) λH H e=>e;cases r with
   |done b=>exact hr
   |yield b=>exact hr.elim
 |cons v vs ih=>
  intro r T w num k i j m N hc hd hm hN hn g;obtain⟨lit,rest,y,⟨c1,c2,c3,c4⟩,hf,hc⟩:=hc;cases m with
  |zero=>exact aY hm<|B.not_succ_le_zero _
  |succ m=>
   rw[cK] at hN hm;refine KPc.turn<|G j w num i k _ c1 c2 c3 hf ?_ hn ?_ λo1 o2 k p1 p2=>?_
   ·rw[←jX,←JT,hd];rfl
   ·exact Ky.mpr (KPc.short_good g<|by omega)
   ·refine ih (i+1) (j+1) m (N+U lit+y.length) hc (by rw[←J.tail_drop,hd];rfl) (B.le_of_succ_le_succ hm) ?_ (.inr rfl) (KPc.good_add (KPc.good_add g p1) p2)
    have:=hf.1;omega
theorem abE{X T:ao}{t:jg}{vs:J ak}{Q:Fin->ay->Prop}(hc:BC X.cps.toList.length vs X.cps.toList ao.empty T)(hv:U vs<=4)(GL:U vs<=X.cps.toList.length)
  (h:∀t' k,Q (.done<|.ret<|.str T t') {s with toks:=k}):aF (aN prog wd) A (ed.«str.format» ⟨.str X t::vs,[]⟩) Q E s:=by
 refine wpAny_bind (wpAny_of_eq (a:=(_,_,_)) rfl<|wpAny_bind<|wpAny_bind<|D (KPc.range_list _ _ _)<|abD (a:=vs.toArray) (L:=X.cps.toList.length) (T':=T) (k:=s.toks) ?_ ?_ (λw num k N g hN=>?_) vs 0 0 _ 0 hc rfl GL (by omega) (.inl ⟨rfl,rfl⟩) KPc.good0)
 ·intro x w num k q;exact wpAny_pure q
 ·intro lit r rest y v x w num i k R c1 c2 c3 hf ha hn hw hR;refine wpAny_ite<|Er (by rw[c1];exact dy) ?_;refine wpAny_ite<|Er (by rw[hw];exact dy) ?_;rw[c2];refine wpAny_bind<|KFm.field_auto hn ha (wpAny_bind (wpAny_holding (wpAny_of_eq (a:=_) rfl (wpAny_ite (Er dy (wpAny_bind (wpAny_pure ?_)))))));refine wpAny_bind (wpAny_holding (hf.2 _ _ _ _ _ _ λt k=>(wpAny_bind (wpAny_of_eq (a:=some _) rfl (wpAny_pure (hR _ _ _ (KPc.obj_none (aE λq=>c3<|nG.mp q)) λz hz=>?_))))))
  by_cases he:rest.isEmpty=true
  ·rw[aU he] at hz;exact⟨t,(cj hz).symm⟩
  ·rw[aE he] at hz;exact nomatch hz
 ·exact wpAny_pure<|KPc.finish_ok g hN rfl λt' k=>h t' k
end
end Mine.Internal
namespace Mine.Internal
open PySem PyProof.Rows
section
variable{ρ:J ax}{s:ay}{k:B}{a:ax}{p p':du}{w:bx}{bI:J (ao×ak)}{l:J (ao×V)}{z:ao}{v:V}
section
variable{C:Cx}{n q:B}{st am ba ce:St}
noncomputable def sN(C:Cx):Prop:=tW<C.top.objs.size
theorem sN.ne(h:sN C){hp:J O}(L:Led C ρ hp s)(ha:ρ[k]?=some a):(a==tW)=false:=by
 have:=L.low a<|dT ha;rw[xk];intro e;subst e;exact aY h<|iT.mpr this
theorem OK{κ:Type}[xm κ]{l:J (κ×V)}{x:κ}(h:l.lookup x=none):oW l x=λv=>l++[(x,v)]:=by
 funext v;unfold oW;rw[aE];intro e;refine aH (DE.mp e) λp hp hx=>?_
 have:=Ju.mp h p hp;simp only[ip] at hx;simp only[hx] at this;simp at this
theorem sO(z:ao)(t:jg):(gN p w).is z (.str z t)=true:=by simp[gN,ak.isStrOf]
theorem isInt_self(z:az)(t:jg):(oC p w).is z (.int z t)=true:=by simp[oC,AC]
theorem aQ.OL:aQ C n (.type "set") [] st (.ref<|U st.hp) ⟨st.loc,st.hp++[.fY]⟩:=.mk λA s ρ xs Q hA R aV h=>by
 obtain rfl:xs=[]:=aV;exact call_set_0 λled=>(h _ _ _ (bk.alloc (ob:=.fY) R rfl ⟨led,ew _ rfl⟩ s.toks)<|mU R.led _)
theorem EV.abF{p:cN}:EV C n (.Dict [] [] p) st (.ref<|U st.hp) ⟨st.loc,st.hp++[.fc []]⟩:=.mk λA s ρ Q hA R h=>by
 exact wpAny_Dict_empty<|h _ _ _ (bk.alloc (ob:=.fc []) R rfl ⟨[],Ku _,rfl,rfl⟩ s.toks)<|mU R.led _
theorem abG{es:J jz}(h:Pairs (gN p w) es bI):Pairs (gN p' w) es bI:=by
 induction h with
 |nil=>exact .nil
 |cons G h2 _ ih=>exact .cons G h2 ih
theorem OM{h:bn}(x:h.DictOf (gN p w) a bI):h.DictOf (gN p' w) a bI:=
 eR x λo es ep ho r=>se r λhc hd hk hp hn=>⟨o,es,ep,ho,hc,hd,hk,abG hp,hn⟩
theorem BD{x:ak}(R:Rep C ρ st s)(hk:st.hp[k]?=some (.fc l))(hx:V.Is ρ s.heap (.ref k) x):
  ∃a bI,x= .ref a/\ρ[k]?=some a/\s.heap.DictOf (gN C.prog C.w) a bI/\bI.map (·.1)=l.map (·.1)/\V.IsL ρ s.heap (l.map (·.2)) (bI.map (·.2)):=by
 refine aH hx λa ha av=>?_
 clear hx;subst av;exact cP (R.led.objs k _ a hk ha) λbI G h2 h3=>(⟨a,bI,rfl,ha,OM G,h2,h3⟩)
theorem ON(e:bI.map (·.1)=l.map (·.1)):U bI=U l:=by
 have:=bA U e;simpa using this
theorem aQ.abH{d:V}(n7:sN C)(hk:st.hp[k]?=some (.fc l)):aQ C n (.builtin "dict.get") [.ref k,.str z,d] st ((l.lookup z).getD d) st:=.mk λA s ρ xs Q hA R aV h=>by
 refine vS aV λx r bE hx y r' bR=>?_
 clear aV;subst bE;refine uh bR λo6 uH aiy r2 gT hu i2=>?_
 clear bR;subst o6 gT;refine xE uH λt av=>?_
 clear uH;subst av;obtain rfl:r2=[]:=i2;refine pR (BD R hk hx) λa bI av ha hd e1 e2=>?_
 subst av;refine xA (yu (x:=z) e1 e2) λp1 p2=>call_meetsIn Ek hd.typeIs Ei (F.args_dict_get_3 _ _ _) (meets_dict_get_default (gN C.prog C.w) (k:=z) a (sO z _) (n7.ne R.led ha) aiy) ⟨_,hd.mapOf,(h ρ _ _ (gh R _) ?_)⟩;cases hl:l.lookup z with
 |none=>rw[p2 hl];exact hu
 |some v=>obtain⟨y,hy,hv⟩:=p1 v hl;exact D hy hv
theorem aQ.abI{d:V}(n7:sN C)(hk:st.hp[k]?=some (.fc l))(hl:l.lookup z=some v)(hz:U l<=16777216):aQ C n (.builtin "dict.setdefault") [.ref k,.str z,d] st v st:=.mk λA s ρ xs Q hA R aV h=>by
 refine vS aV λx r bE hx y r' bR=>?_
 clear aV;subst bE;refine uh bR λo6 uH aiy r2 gT hu i2=>?_
 clear bR;subst o6 gT;refine xE uH λt av=>?_
 clear uH;subst av;obtain rfl:r2=[]:=i2;refine pR (BD R hk hx) λa bI av ha hd e1 e2=>?_
 subst av;refine xA (yu (x:=z) e1 e2) λp1 p2=>aH (p1 v hl) λy hy hv=>?_
 refine call_meetsIn KO hd.typeIs KN (KK _ _ _) (kt_meets_setdefault (gN C.prog C.w) (k:=z) a (sO z _) (n7.ne R.led ha) aiy) ⟨bI,hd,by refine D (ON e1) ?_;exact mn hz,λw hw=>?_,λhn=>?_⟩
 ·rw[hy] at hw;(cases cj hw;clear hw);exact h ρ _ _ (gh R _) hv
 ·rw[hy] at hn;exact nomatch hn
theorem abJ{y:ak}{h':bn}(R:Rep C ρ st s)(ha:ρ[k]?=some a)(hd:s.heap.DictOf (gN C.prog C.w) a bI)
  (e1:bI.map (·.1)=l.map (·.1)) (e2:V.IsL ρ s.heap (l.map (·.2))<|bI.map (·.2)) (hv:v.Is ρ s.heap y) (hV:h'.DictOf (gN C.prog C.w) a<|stored bI z y) (hs:iV a s.heap h') (tk:B):
  bk C ρ s ⟨st.loc,st.hp.set k<|.fc<|oW l z v⟩ ρ {s with heap:=h',toks:=tk}:=by
 refine lH hd λo es ep ho hc H=>?_
 have j7:bF s.heap h':=jY hs ho<|q9 hc.1;exact xA (OI (x:=z) hv e1 e2) λq1 q2=>(bk.change R (ob:=.fc<|oW l z v) ha hs ⟨_,OM hV,q1,q2.mono (bP _) j7⟩ tk)
theorem aQ.abK{d:V}(n7:sN C)(hk:st.hp[k]?=some (.fc l))(hl:l.lookup z=none)(hz:U l<=16777216):aQ C n (.builtin "dict.setdefault") [.ref k,.str z,d] st d ⟨st.loc,st.hp.set k<|.fc<|l++[(z,d)]⟩:=.mk λA s ρ xs Q hA R aV h=>by
 refine vS aV λx r bE hx y r' bR=>?_
 clear aV;subst bE;refine uh bR λo6 uH aiy r2 gT hu i2=>?_
 clear bR;subst o6 gT;refine xE uH λt av=>?_
 subst av;obtain rfl:r2=[]:=i2;refine pR (BD R hk hx) λa bI av ha hd e1 e2=>?_
 subst av;refine xA (yu (x:=z) e1 e2) λp1 p2=>?_
 refine call_meetsIn KO hd.typeIs KN (KK _ _ _) (kt_meets_setdefault (gN C.prog C.w) (k:=z) a (sO z _) (n7.ne R.led ha) aiy) ⟨bI,hd,by refine D (ON e1) ?_;exact mn hz,λw hw=>?_,λH h' hV hs=>?_⟩
 ·rw[p2 hl] at hw;exact nomatch hw
 ·have N:=abJ (z:=z) (v:=d) R ha hd e1 e2 hu hV hs<|s.toks+1;rw[OK hl] at N;exact h ρ _ _ N<|hu.mono (bP _) N.aX
theorem EV.BE{p:cN}:EV C n (.Dict [] [] p) st (.ref<|U st.hp) ⟨st.loc,st.hp++[.intD []]⟩:=.mk λA s ρ Q hA R h=>by
 exact wpAny_Dict_empty<|h _ _ _ (bk.alloc (ob:=.intD []) R rfl ⟨[],Ku _,rfl,rfl⟩ s.toks)<|mU R.led _
theorem abL{es:J jz}{bI:J (az×ak)}(h:Pairs (oC p w) es bI):Pairs (oC p' w) es bI:=by
 induction h with
 |nil=>exact .nil
 |cons G h2 _ ih=>exact .cons G h2 ih
theorem OO{h:bn}{bI:J (az×ak)}(x:h.DictOf (oC p w) a bI):h.DictOf (oC p' w) a bI:=
 eR x λo es ep ho r=>se r λhc hd hk hp hn=>⟨o,es,ep,ho,hc,hd,hk,abL hp,hn⟩
theorem GM{l:J (az×V)}{x:ak}(R:Rep C ρ st s)(hk:st.hp[k]?=some (.intD l))(hx:V.Is ρ s.heap (.ref k) x):
  ∃a bI,x= .ref a/\ρ[k]?=some a/\s.heap.DictOf (oC C.prog C.w) a bI/\bI.map (·.1)=l.map (·.1)/\V.IsL ρ s.heap (l.map (·.2)) (bI.map (·.2)):=by
 refine aH hx λa ha av=>?_
 clear hx;subst av;exact cP (R.led.objs k _ a hk ha) λbI G h2 h3=>(⟨a,bI,rfl,ha,OO G,h2,h3⟩)
theorem abM{l:J (az×V)}{bI:J (az×ak)}(e:bI.map (·.1)=l.map (·.1)):U bI=U l:=by
 have:=bA U e;simpa using this
theorem abN{l:J (az×V)}{z:az}{y:ak}{bI:J (az×ak)}{h':bn}(R:Rep C ρ st s)(ha:ρ[k]?=some a)(hd:s.heap.DictOf (oC C.prog C.w) a bI)
  (e1:bI.map (·.1)=l.map (·.1)) (e2:V.IsL ρ s.heap (l.map (·.2))<|bI.map (·.2)) (hv:v.Is ρ s.heap y) (hV:h'.DictOf (oC C.prog C.w) a<|stored bI z y) (hs:iV a s.heap h') (tk:B):
  bk C ρ s ⟨st.loc,st.hp.set k<|.intD<|oW l z v⟩ ρ {s with heap:=h',toks:=tk}:=by
 refine lH hd λo es ep ho hc H=>?_
 have j7:bF s.heap h':=jY hs ho<|q9 hc.1;exact xA (OI (x:=z) hv e1 e2) λq1 q2=>(bk.change R (ob:=.intD<|oW l z v) ha hs ⟨_,OO hV,q1,q2.mono (bP _) j7⟩ tk)
theorem c8.BE{o i:bB}{p:cN}{l:J (az×V)}{z:az}(n7:sN C)(ho:EV C n o st (.ref k) am)(hi:EV C n i am (.int z) ba)(hk:ba.hp[k]?=some (.intD l))(hz:U l<=16777216):
  c8 C n (.Subscript o i p) v st ⟨ba.loc,ba.hp.set k<|.intD<|oW l z v⟩:=.mk λA s ρ y Q hA R hv h=>by
 refine wpAny_bind<|wpAny_holding<|ho.run A s ρ _ hA R λaC x s1 N1 i1=>wpAny_bind<|wpAny_holding<|hi.run A s1 aC _ hA N1.rep λbh z2 s2 N2 i2=>wpAny_bind<|wpAny_standAt<|wpAny_bind<|wpAny_holding<|pR (GM N2.rep hk<|i1.mono N2.pre N2.aX) λa bI av ha hd e1 e2=>?_;subst av;refine xE i2 λt av=>?_
 clear i2;subst av;have GL:=(hv.mono N1.pre N1.aX).mono N2.pre N2.aX;refine wpAny_setItem_pairs (knd:=oC C.prog C.w) (k:=z) (isInt_self z _) hd (λh' hV hs=>?_) (by refine D (abM e1) ?_;exact mn hz);exact wpAny_release'<|h bh _<|(N1.trans N2).trans<|abN N2.rep ha hd e1 e2 GL hV hs _
end
end
namespace BM
theorem we:qU "method_descriptor" "__get__" "method_descriptor.__get__":=
 .of (owner:="method_descriptor") (n:="__get__") (by rw[typeLookup_type,builtinLookup_eq_fast];kernel_rfl) (by decide+kernel) (by decide+kernel) (by decide+kernel)
  (by first|exact .inl (by decide+kernel)|exact .inr<|by decide+kernel) (by rw[isSubtype_type];kernel_rfl)
theorem OP:ea (.type "method_descriptor") "__set__"=pure aA:=by rw[typeLookup_type,builtinLookup_eq_fast];kernel_rfl
theorem OQ:ea (.type "method_descriptor") "__delete__"=pure aA:=by rw[typeLookup_type,builtinLookup_eq_fast];kernel_rfl
theorem OR:qR table "method_descriptor.__get__"=some ed.«method_descriptor.__get__»:=entryFor_of_tree (by kernel_rfl)
theorem OS(a b c:ak):l8 "method_descriptor.__get__" ⟨[a,b,c],[]⟩:=by unfold l8;kernel_rfl
theorem abO:(".".intercalate ("dict.get".cutAt '.').dropLast)="dict":=by
 have e0:"dict.get".cutAt '.'=["dict","get"]:=by first|rfl|decide+kernel
 rw[e0];decide+kernel
theorem abP:(".".intercalate ("set.__contains__".cutAt '.').dropLast)="set":=by
 have e0:"set.__contains__".cutAt '.'=["set","__contains__"]:=by first|rfl|decide+kernel
 rw[e0];decide+kernel
theorem abQ:r0 (.type "dict") (.type "dict")=pure true:=by rw[isSubtype_type];kernel_rfl
theorem abR:r0 (.type "set") (.type "set")=pure true:=by rw[isSubtype_type];kernel_rfl
theorem entry_set_ga:qR table "set.__getattribute__"=some ed.«object.__getattribute__»:=
 entryFor_alias (id':="object.__getattribute__") (by kernel_rfl) (by first|rfl|decide+kernel) (by decide+kernel) (by kernel_rfl)
end BM
section
variable{R:Result->ay->Prop}{tk:jg}{Q:ak->ay->Prop}
section
variable{prog:du}{w:bx}{A:bS}{E:ak->ay->Prop}{h:bn}{g:bD de}{d:cV}{t:B}{os:bM}{a:ax}{o:bc}
noncomputable def n8(id:dm)(a:ax):bc:={cls:=.type "builtin_function_or_method",data:=.fields #[.builtin id,.ref a]}
theorem abS(hx:h.get? a=some o)(hc:o.cls= .type "dict")(hq:R (.ok<|.ret<|.ref h.objs.size) ⟨h.push<|n8 "dict.get" a,g,d,t,os⟩):
  codeAny (aN prog w) A (.call (.builtin "method_descriptor.__get__") ⟨[.builtin "dict.get",.ref a,.type "dict"],[]⟩) R ⟨h,g,d,t,os⟩:=by
 have hT:(⟨h,g,d,t,os⟩:ay).TypeIs (.ref a) "dict":=⟨_,hx,hc⟩
 have yw:(⟨h,g,d,t,os⟩:ay).TypeIs (.builtin "dict.get") "method_descriptor":=El;refine codeAny_call_builtin BM.we.plain BM.OR<|BM.we.check _ _ _ _ _ _ _ _ yw (BM.OS _ _ _) ?_;have ho:=BM.abO;have hs:=BM.abQ
 repeat (any_goals (first|assumption|wp_step))
 rw[ho,hs]
 repeat (any_goals (first|assumption|wp_step))
theorem abT{es:bD jz}{ep:B}{Q:Fin->ay->Prop}(hx:h.get? a=some ⟨.type "dict",aA,.dict es ep,#[]⟩)(hq:Q (.done<|.ret<|.ref h.objs.size) ⟨h.push<|n8 "dict.get" a,g,d,t,os⟩):
  aF (aN prog w) A (ed.«object.__getattribute__» ⟨[.ref a,.str "get" tk],[]⟩) Q E ⟨h,g,d,t,os⟩:=by
 have hT:(⟨h,g,d,t,os⟩:ay).TypeIs (.ref a) "dict":=⟨_,hx,rfl⟩
 have yw:(⟨h,g,d,t,os⟩:ay).TypeIs (.builtin "dict.get") "method_descriptor":=El;have f4:=Ek.lookup;have f5:=El;have f6:=BM.we.lookup;have f7:=BM.OP;have f8:=BM.OQ
 repeat (any_goals (first|assumption|wp_step))
 exact abS hx rfl<|wpAny_pure hq
theorem abU{es:bD jz}{ep:B}(hx:h.get? a=some ⟨.type "dict",aA,.dict es ep,#[]⟩)(hq:Q (.ref h.objs.size) ⟨h.push<|n8 "dict.get" a,g,d,t,os⟩):aF (aN prog w) A (getAttrBy (.ref a) (.str "get" tk) true true) Q E ⟨h,g,d,t,os⟩:=by
 have hT:(⟨h,g,d,t,os⟩:ay).TypeIs (.ref a) "dict":=⟨_,hx,rfl⟩
 have f2:=Aw.lookup;have f3:=Aw.bind<|.ref a
 repeat (any_goals (first|assumption|wp_step))
 refine codeAny_call_builtin Aw.plain F.entry_dict_ga<|Aw.check _ _ _ _ _ _ _ _ hT (F.args_dict_getattribute_2 _ _)<|abT hx ?_
 repeat (any_goals (first|assumption|wp_step))
theorem abV(hx:h.get? a=some o)(hc:o.cls= .type "set")(hq:R (.ok<|.ret<|.ref h.objs.size) ⟨h.push<|n8 "set.__contains__" a,g,d,t,os⟩):
  codeAny (aN prog w) A (.call (.builtin "method_descriptor.__get__") ⟨[.builtin "set.__contains__",.ref a,.type "set"],[]⟩) R ⟨h,g,d,t,os⟩:=by
 have hT:(⟨h,g,d,t,os⟩:ay).TypeIs (.ref a) "set":=⟨_,hx,hc⟩
 have yw:(⟨h,g,d,t,os⟩:ay).TypeIs (.builtin "set.__contains__") "method_descriptor":=Eh;refine codeAny_call_builtin BM.we.plain BM.OR<|BM.we.check _ _ _ _ _ _ _ _ yw (BM.OS _ _ _) ?_;have ho:=BM.abP;have hs:=BM.abR
 repeat (any_goals (first|assumption|wp_step))
 rw[ho,hs]
 repeat (any_goals (first|assumption|wp_step))
theorem abW{es}{ep}{tg}{Q:Fin->ay->Prop}(hx:h.get? a=some ⟨.type "set",aA,.set es ep tg,#[]⟩)(hq:Q (.done<|.ret<|.ref h.objs.size) ⟨h.push<|n8 "set.__contains__" a,g,d,t,os⟩):
  aF (aN prog w) A (ed.«object.__getattribute__» ⟨[.ref a,.str "__contains__" tk],[]⟩) Q E ⟨h,g,d,t,os⟩:=by
 have hT:(⟨h,g,d,t,os⟩:ay).TypeIs (.ref a) "set":=⟨_,hx,rfl⟩
 have yw:(⟨h,g,d,t,os⟩:ay).TypeIs (.builtin "set.__contains__") "method_descriptor":=Eh;have f4:=KP.lookup;have f5:=Eh;have f6:=BM.we.lookup;have f7:=BM.OP;have f8:=BM.OQ
 repeat (any_goals (first|assumption|wp_step))
 exact abV hx rfl<|wpAny_pure hq
theorem abX{es}{ep}{tg}(hx:h.get? a=some ⟨.type "set",aA,.set es ep tg,#[]⟩)(hq:Q (.ref h.objs.size) ⟨h.push<|n8 "set.__contains__" a,g,d,t,os⟩):aF (aN prog w) A (getAttrBy (.ref a) (.str "__contains__" tk) true true) Q E ⟨h,g,d,t,os⟩:=by
 have hT:(⟨h,g,d,t,os⟩:ay).TypeIs (.ref a) "set":=⟨_,hx,rfl⟩
 have f2:=Ax.lookup;have f3:=Ax.bind<|.ref a
 repeat (any_goals (first|assumption|wp_step))
 refine codeAny_call_builtin Ax.plain BM.entry_set_ga<|Ax.check _ _ _ _ _ _ _ _ hT (F.args_set_getattribute_2 _ _)<|abW hx ?_
 repeat (any_goals (first|assumption|wp_step))
end
end
namespace BM
theorem abY:tT "dict.get"=some .method:=by kernel_rfl
theorem abZ:tT "set.__contains__"=some .method:=by kernel_rfl
theorem ab0:r0 (.type "dict") (.type "module")=pure false:=by rw[isSubtype_type];kernel_rfl
theorem ab1:r0 (.type "set") (.type "module")=pure false:=by rw[isSubtype_type];kernel_rfl
theorem ab2:Kq.contains "dict.get"=false:=by decide+kernel
theorem ab3:Kq.contains "set.__contains__"=false:=by decide+kernel
theorem ab4{as:Args}:(xx "dict.get" as).quiet=true:=xw _ (by decide+kernel)
theorem ab5{as:Args}:(xx "set.__contains__" as).quiet=true:=xw _ (by decide+kernel)
end BM
section
variable{w:bx}{E Q:ak->ay->Prop}{h:bn}{os:bM}{a:ax}{x:ak}{s:ay}{n b k:B}{dr:cV}{l:J (J B×J B)}
section
variable{prog:du}{A:bS}{g:bD de}{d:cV}{t:B}{o:bc}
theorem ab6{es:bD jz}{ep:B}{y:ak}{Q:fD->ay->Prop}(hx:h.get? a=some ⟨.type "dict",aA,.dict es ep,#[]⟩)(hq:Q () ⟨h,g,d,t,os⟩):aF (aN prog w) A (xu "dict.get" ⟨[.ref a,x,y],[]⟩) Q E ⟨h,g,d,t,os⟩:=by
 have hT:(⟨h,g,d,t,os⟩:ay).TypeIs (.ref a) "dict":=⟨_,hx,rfl⟩
 have k1:=BM.abY;refine D (signature?_of (id:="dict.get") (n:=['t','e','g']) (o:=['t','c','i','d']) (by kernel_rfl) F.owner_dict) ?_
 repeat (any_goals (first|assumption|wp_step))
 refine D BM.ab0 ?_
 refine wpAny_pure ?_
 refine D BM.ab2 ?_
 repeat (any_goals (first|assumption|wp_step))
theorem ab7{es}{ep}{tg}{Q:fD->ay->Prop}(hx:h.get? a=some ⟨.type "set",aA,.set es ep tg,#[]⟩)(hq:Q () ⟨h,g,d,t,os⟩):aF (aN prog w) A (xu "set.__contains__" ⟨[.ref a,x],[]⟩) Q E ⟨h,g,d,t,os⟩:=by
 have hT:(⟨h,g,d,t,os⟩:ay).TypeIs (.ref a) "set":=⟨_,hx,rfl⟩
 unfold xu;have k1:=BM.abZ;refine D (signature?_of (id:="set.__contains__") (n:=['_','_','s','n','i','a','t','n','o','c','_','_']) (o:=['t','e','s']) (by kernel_rfl) F.owner_set) ?_
 repeat (any_goals (first|assumption|wp_step))
 refine D BM.ab1 ?_
 refine wpAny_pure ?_
 refine D BM.ab3 ?_
 unfold isType
 repeat (any_goals (first|assumption|wp_step))
theorem OT{id:dm}{aiv:ed}{b:ax}{args:J ak}(hb:s.heap.get? b=some (n8 id a))(he:qR table id=some aiv)(hqt:∀{as:Args},(xx id as).quiet=true)
  (hc:∀{Q':fD->ay->Prop} {E':ak->ay->Prop} {A':bS},Q' () s->aF (aN prog w) A' (xu id ⟨.ref a::args,[]⟩) Q' E' s)
  (hm:codeAny (aN prog w) A (.builtin id ⟨.ref a::args,[]⟩) (wants Q E) s):aF (aN prog w) A (call (.ref b) args) Q E s:=by
 refine wpAny_call<|codeAny_of_tree ?_;refine wpAny_bind<|wpAny_load hb ?_;show aF _ A.in1 (do xu id ⟨.ref a::args,[]⟩;again (.builtin id ⟨.ref a::args,[]⟩)) _ _ s;refine wpAny_bind<|hc ?_;exact wpAny_bind<|wpAny_pure<|wpAny_pure<|⟨hqt,hm⟩
end
section
variable{prog:du}{A:bS}{g:bD de}{d:cV}{t:B}{o:bc}
theorem ab8{es:bD jz}{ep:B}(hx:h.get? a=some ⟨.type "dict",aA,.dict es ep,#[]⟩)(hq:Q (.ref h.objs.size) ⟨h.push<|n8 "dict.get" a,g,d,t+1,os⟩):aF (aN prog w) A (l7 (.ref a) "get" true) Q E ⟨h,g,d,t,os⟩:=by
 unfold l7
 repeat (any_goals (first|assumption|with_reducible apply abU hx|wp_step))
theorem ab9{es}{ep}{tg}(hx:h.get? a=some ⟨.type "set",aA,.set es ep tg,#[]⟩)(hq:Q (.ref h.objs.size) ⟨h.push<|n8 "set.__contains__" a,g,d,t+1,os⟩):aF (aN prog w) A (l7 (.ref a) "__contains__" true) Q E ⟨h,g,d,t,os⟩:=by
 unfold l7
 repeat (any_goals (first|assumption|with_reducible apply abX hx|wp_step))
end
section
variable{C:Cx}{q:B}{st am ba ce:St}
noncomputable def hZ(id:dm)(k:B):O:=.fields "builtin_function_or_method" [.val<|.builtin id,.ref k]
theorem GN{id:dm}{ρ:J ax}(R:Rep C ρ st s)(hb:st.hp[b]?=some (hZ id k))(hx:V.Is ρ s.heap (.ref b) x):
  ∃a c,x= .ref c/\ρ[k]?=some a/\s.heap.get? c=some (n8 id a):=by
 refine aH hx λc hc av=>?_
 clear hx;subst av;refine Th (R.led.objs b _ c hb hc) λH vs G y r e1 bR=>EJ bR λi1 z r' e2 kW i3=>aH kW λa ha e3=>?_
 obtain rfl:r'=[]:=i3;subst e2 e3;simp only[show y= .builtin id from i1] at e1;refine⟨a,c,rfl,ha,(D G ?_)⟩;have:vs=#[.builtin id,.ref a]:=t9 e1;exact D this rfl
theorem bm_new{id:dm}{ρ:J ax}(R:Rep C ρ st s)(ha:ρ[k]?=some a)(tk:B):
  bk C ρ s ⟨st.loc,st.hp++[hZ id k]⟩ (ρ++[s.heap.objs.size]) {s with heap:=s.heap.push (n8 id a),toks:=tk}:=
 bk.alloc (ob:=hZ id k) (o:=n8 id a) R rfl ⟨by decide,#[.builtin id,.ref a],ew _ rfl,.builtin id,_,rfl,rfl,.ref a,[],rfl,⟨a,by rw[cA (cJ.mp ha).1];exact ha,rfl⟩,rfl⟩ tk
theorem EV.aca{o:bB}{pos:cN}{l:J (az×V)}(ho:EV C n o st (.ref k) am)(hk:am.hp[k]?=some (.intD l))
  (he:aO (eval (.Attribute o "get" pos) C.env=(do
   let w ←eval o C.env
   nK pos.atName
   let r ←holding [w] (l7 w "get" true)
   vI o w r
   pure r)) aW._auto_1):EV C n (.Attribute o "get" pos) st (.ref (U am.hp)) ⟨am.loc,am.hp++[hZ "dict.get" k]⟩:=.mk λA s ρ Q hA R h=>by
 refine AE (ho.run A s ρ _ hA R λaC y s1 N1 i1=>(pR (GM N1.rep hk i1) λa bI av ha kW H H=>?_)) he;subst av;refine AI kW λob es ep kz cq hd H=>?_
 obtain⟨c1,c2,c3⟩:=cq;obtain⟨c,dd,dt,sl⟩:=ob;dsimp only at c1 c2 c3 hd;subst c1 c2 c3 hd;exact ab8 kz<|h _ _ _ (N1.trans<|bm_new N1.rep ha _)<|mU N1.rep.led _
theorem EV.acb{o:bB}{pos:cN}(ho:EV C n o st (.ref k) am)(hk:am.hp[k]?=some .fY)
  (he:aO (eval (.Attribute o "__contains__" pos) C.env=(do
   let w ←eval o C.env
   nK pos.atName
   let r ←holding [w] (l7 w "__contains__" true)
   vI o w r
   pure r)) aW._auto_1):EV C n (.Attribute o "__contains__" pos) st (.ref (U am.hp)) ⟨am.loc,am.hp++[hZ "set.__contains__" k]⟩:=.mk λA s ρ Q hA R h=>by
 refine AE (ho.run A s ρ _ hA R λaC y s1 N1 i1=>(aH i1 λa ha av=>?_)) he;clear i1;subst av;exact xE (N1.rep.led.objs k _ a hk ha) λled kz=>(ab9 kz<|h _ _ _ (N1.trans<|bm_new N1.rep ha _)<|mU N1.rep.led _)
theorem gX.bm{id:dm}(hb:st.hp[b]?=some (hZ id k)):gX C (.ref b) st:=.mk λs ρ x R hx=>by
 refine dh (GN R hb hx) λa c av ha hc=>?_
 subst av;exact⟨.machine,by decide,λA Q hq=>(wpAny_bind<|wpAny_load hc<|wpAny_pure hq)⟩
theorem gY.acd{l:J (az×V)}{z:az}{d:V}(n7:sN C)(hb:st.hp[b]?=some (hZ "dict.get" k))(hk:st.hp[k]?=some (.intD l)):gY C n (.ref b) [.int z,d] st ((l.lookup z).getD d) st:=.mk λA s ρ x xs Q hA R hx aV h=>by
 refine dh (GN R hb hx) λa c av ha hc=>?_
 subst av;refine vS aV λy r' bE cx aiy r2 bR=>?_
 clear aV;subst bE;refine xE cx λt av=>?_
 clear cx;subst av;refine eh bR λuI hu i2=>?_
 clear bR;subst uI;obtain rfl:r2=[]:=i2;refine pR (GM R hk ⟨a,ha,rfl⟩) λa' bI e rp hd e1 e2=>?_
 cases e;refine AI (id hd) λob es ep kz cq OU H=>eh cq λc1 c2 c3=>?_
 obtain⟨cc,dd,dt,sl⟩:=ob;dsimp only at c1 c2 c3 OU;subst c1 c2 c3 OU;refine xA (yu (x:=z) e1 e2) λp1 p2=>OT hc Ei BM.ab4 (λhq=>ab6 kz hq)<|codeAny_builtin Ei ?_;simp only[Aq Ek.plain _];refine meets_dict_get_default (oC C.prog C.w) (k:=z) a (isInt_self z _) (n7.ne R.led ha) aiy A (wants Q bq) s ⟨_,hd.mapOf,(h ρ _ _ (gh R _) ?_)⟩;cases hl:l.lookup z with
 |none=>rw[p2 hl];exact hu
 |some v=>obtain⟨y,hy,hv⟩:=p1 v hl;exact D hy hv
theorem ace{led:bb}(kz:h.get? a=some ⟨.type "set",aA,.set #[] 0 (.fresh 0 0 led),#[]⟩):h.SetOf (gN C.prog C.w) a (λH=>false) 0:=
 ⟨_,#[],0,_,kz,⟨rfl,rfl,rfl⟩,rfl,(by intro e he;simp at he),(λk=>by simp),by decide,by cases led<;>decide,rfl⟩
theorem gY.BF{z:ao}(hb:st.hp[b]?=some (hZ "set.__contains__" k))(hk:st.hp[k]?=some .fY):gY C n (.ref b) [.str z] st (.bool false) st:=.mk λA s ρ x xs Q hA R hx aV h=>by
 refine dh (GN R hb hx) λa c av ha hc=>?_
 subst av;refine dh aV λy r' av kW i2=>?_
 clear aV;subst av;refine xE kW λt av=>?_
 clear kW;subst av;obtain rfl:r'=[]:=i2;refine xE (R.led.objs k _ a hk ha) λled kz=>OT hc entry_set_contains BM.ab5 (λhq=>ab7 kz hq)<|codeAny_builtin entry_set_contains ?_;simp only[Aq KP.plain _];unfold ed.«frozenset.__contains__» SV;simp only[J.isEmpty_nil,bind_assoc];refine wpAny_bind<|wpAny_pure<|wpAny_bind<|wpAny_pure<|wpAny_bind<|wpAny_tryCatch<|wpAny_holding ?_;refine wpAny_bind<|(gN C.prog C.w).pyHash (sO z t)<|wpAny_bind<|wpAny_setFind_of (knd:=gN C.prog C.w) (s:={s with toks:=s.toks+1}) (sO z t) rfl (ace kz) λr hr=>(wpAny_pure ?_);show aF _ _ (ret<|ak.bool r.isSome) _ _ _;simp only[hr];exact wpAny_pure<|h ρ _ _ (gh R _) rfl
end
noncomputable def esS(P:aP):J jz:=match (Bc P).data with| .dict es _=>es.toList|_=>[]
noncomputable def epS(P:aP):B:=match (Bc P).data with| .dict _ n=>n|_=>0
noncomputable abbrev nS(P:aP):ao->bC ak:=cT<|esS P
theorem OV(P:aP):(bZ P).Ns 241 (nS P):=v9 (o:=Bc P) (ep:=epS P) (by kernel_rfl) (by kernel_rfl) (by kernel_rfl)
theorem GO(P:aP):(bZ P).get? 242=some (vN "SequenceMatcher" "SequenceMatcher" 242 241 [.type "object"] [.type "object"] true [] [] false aA aA aA aA (some<|.str "SequenceMatcher" 389) (some<|.str "SequenceMatcher" 397) (some<|.bool true) "object.__new__"):=by kernel_rfl
theorem qg(P:aP):v8 (bZ P) 242 (nS P):=⟨_,_,_,_,_,_,_,_,_,_,_,_,_,_,_,GO P,OV P⟩
theorem acf(P:aP):nS P "__init__"=some (.ref 160):=by kernel_rfl
theorem acg(P:aP):nS P "set_seqs"=some (.ref 167):=by kernel_rfl
theorem ach(P:aP):nS P "set_seq1"=some (.ref 174):=by kernel_rfl
theorem aci(P:aP):nS P "set_seq2"=some (.ref 181):=by kernel_rfl
theorem acj(P:aP):nS P "_SequenceMatcher__chain_b"=some (.ref 188):=by kernel_rfl
theorem ack(P:aP):nS P "find_longest_match"=some (.ref 196):=by kernel_rfl
theorem acl(P:aP):nS P "get_matching_blocks"=some (.ref 203):=by kernel_rfl
theorem acm(P:aP):nS P "get_grouped_opcodes"=some (.ref 218):=by kernel_rfl
theorem OW:ea (.type "object") "isjunk"=pure aA:=by rw[typeLookup_type,builtinLookup_eq_fast];kernel_rfl
theorem yx:ea (.type "object") "a"=pure aA:=by rw[typeLookup_type,builtinLookup_eq_fast];kernel_rfl
theorem wf:ea (.type "object") "b"=pure aA:=by rw[typeLookup_type,builtinLookup_eq_fast];kernel_rfl
theorem OX:ea (.type "object") "autojunk"=pure aA:=by rw[typeLookup_type,builtinLookup_eq_fast];kernel_rfl
theorem yy:ea (.type "object") "matching_blocks"=pure aA:=by rw[typeLookup_type,builtinLookup_eq_fast];kernel_rfl
theorem BG:ea (.type "object") "opcodes"=pure aA:=by rw[typeLookup_type,builtinLookup_eq_fast];kernel_rfl
theorem acn:ea (.type "object") "fullbcount"=pure aA:=by rw[typeLookup_type,builtinLookup_eq_fast];kernel_rfl
theorem OY:ea (.type "object") "b2j"=pure aA:=by rw[typeLookup_type,builtinLookup_eq_fast];kernel_rfl
theorem OZ:ea (.type "object") "bjunk"=pure aA:=by rw[typeLookup_type,builtinLookup_eq_fast];kernel_rfl
theorem aco:ea (.type "object") "bpopular"=pure aA:=by rw[typeLookup_type,builtinLookup_eq_fast];kernel_rfl
theorem acp:ea (.type "object") "set_seqs"=pure aA:=by rw[typeLookup_type,builtinLookup_eq_fast];kernel_rfl
theorem acq:ea (.type "object") "set_seq1"=pure aA:=by rw[typeLookup_type,builtinLookup_eq_fast];kernel_rfl
theorem acr:ea (.type "object") "set_seq2"=pure aA:=by rw[typeLookup_type,builtinLookup_eq_fast];kernel_rfl
theorem acs:ea (.type "object") "find_longest_match"=pure aA:=by rw[typeLookup_type,builtinLookup_eq_fast];kernel_rfl
theorem act:ea (.type "object") "_SequenceMatcher__chain_b"=pure aA:=by rw[typeLookup_type,builtinLookup_eq_fast];kernel_rfl
theorem o7{jh:J O}{v:V}(h:v.bG (λH=>false)=true)(hr:v.cf id=v):Conv 0 jh v [] v:=
 ⟨[],id,λH=>false,⟨lx,λk h=>(g8 h).elim,λk h=>(dy h).elim,rfl,λk H h H=>(Aj _ h).elim,λi k h=>by exact nomatch h⟩,h,hr.symm⟩
noncomputable def rangeT(start size:az):ao:=
 if size=0 then ft (toString start)++ft ",0"
 else if size=1 then ft<|toString<|start+1
 else ft (toString<|start+1)++ft ","++ft (toString size)
theorem yz{i:az}(h:i.natAbs<2 ^ 64):i.natAbs.log2<1920:=by
 by_cases h0:i.natAbs=0
 ·refine D h0 ?_;decide
 ·exact tP ((B.log2_lt h0).mpr h) (by decide)
theorem BH{i:az}(h:i.natAbs<2 ^ 64):(ft<|toString i).length<=2000:=cX (int_text_len_1921<|yz h) (by decide)
theorem BI(a b:ao):(a++b).length=a.length+b.length:=ao.length_append a b
theorem m6{o:bc}{body:J fq}{names:J ao}{args:J V}{hp aZ:J O}{v:V}(aiw:iF w.params a o names)(oO:(fdOf o).body= .stmts body)
  (mP:∀xs:J ak,U xs=U args->r7 (fdOf o) ⟨xs,[]⟩=pure (names.zip xs))
  (hb:∀L,XS (rd (TW w os dr) (fdOf o) a L) n (U hp) body ⟨names.zip args,hp⟩ (λfl am=>∃v1,Back v1 fl/\Conv (U hp) am.hp v1 aZ v))
  (bo:aO ((fdOf o).scope.isCoroutine=false) a8) (oP:aO ((fdOf o).scope.isGenerator=false) a8) (hk:aO ((fdOf o).scope.kind= .function) a8):cE (TW w os dr) (n+1) (.ref a) hp args aZ v:=
 cE.fn aiw.get aiw.fd oO aiw.code (noLimit _) mP aiw.nd aiw.cell aiw.loc hb bo oP hk
theorem acu{i k:az}(hi:i.natAbs<2 ^ 60)(hk:k.natAbs<2 ^ 60):cE (TW w os dr) (n+1) (.ref 308) [] [.int i,.int k] [] (.str<|rangeT i k):=by
 refine m6 (yn _) rfl (λxs hx=>?_) λL=>?_
 ·revert xs;exact sG λH H=>rfl
 have l1:(ft ",0").length=2:=by decide
 have l2:(ft ",").length=1:=by decide
 have e1:=BH (i:=i) (by lia);have e2:=BH (i:=k) (by lia);have e3:=BH (i:=i+1) (by omega);refine cg<|jj (bV ah bz mh) (λh=>?_) λh=>bd ?_
 ·refine j6 (bt (mq (cB (cQ _) (sH _) (dN _)<|sI _) (an ah aM)<|aQ.str_int<|yz<|by lia) dE<|nY<|by simp only[BI,l1];exact mn<|YU e1) ⟨_,rfl,?_⟩;rw[rangeT,aU<|by simpa using h];exact o7 rfl rfl
 refine cg<|jj (bV ah bz mh) (λh2=>?_) λh2=>bd ?_
 ·refine j6 (mq (cB (cQ _) (sH _) (dN _)<|sI _) (an (bt ah bz eT) aM)<|aQ.str_int<|yz<|by omega) ⟨_,rfl,?_⟩;rw[rangeT,aE (by simpa using h),aU<|by simpa using h2];exact o7 rfl rfl
 refine j6 (bt (bt (mq (cB (cQ _) (sH _) (dN _)<|sI _) (an (bt ah bz eT) aM)<|aQ.str_int<|yz<|by omega) dE<|nY<|by simp only[BI,l2];exact mn<|YT e3) (mq (cB (cQ _) (sH _) (dN _)<|sI _) (an ah aM)<|aQ.str_int<|yz<|by lia)<|nY<|by simp only[BI,BI,l2];exact mn<|YS e2 e3) ⟨_,rfl,?_⟩;rw[rangeT,aE (by simpa using h),aE<|by simpa using h2];exact o7 rfl rfl
noncomputable def uJ(c:az):bb:=(decide (9<=c)&&decide (c<=13))||(decide (91<=c)&&decide (c<=94))||(decide (123<=c)&&decide (c<=126))||[32,35,36,38,40,41,42,43,45,46,63].contains c
theorem acv{c:B}:cE (TW w os dr) (n+1) (.ref 294) [] [.str ⟨#[c]⟩] [] (.bool<|uJ c):=by
 refine m6 (ym _) rfl (λxs hx=>?_) λL=>?_
 ·revert xs;exact sF λH=>rfl
 refine cY (fv (cB (cQ _) (Bt _) (dN _)<|Bu _) (an ah aM) aQ.ord)<|cg<|jj (TV.GI (TV.GJ bz ah a9.le_int bz a9.le_int)<|TV.GI (TV.GJ bz ah a9.le_int bz a9.le_int)<|TV.GI (TV.GJ bz ah a9.le_int bz a9.le_int) TV.or_nil) (λh=>?_) λh=>bd ?_
 ·refine j6 EV.bool ⟨_,rfl,?_⟩;have:uJ c=true:=by
   unfold uJ;rw[D8,←KA] at h;exact D h rfl
  simp only[this];exact o7 rfl rfl
 ·refine j6 (EV.cmp ah (dL<|an bz<|an bz<|an bz<|an bz<|an bz<|an bz<|an bz<|an bz<|an bz<|an bz<|an bz aM)<|a9.abC (ns:=[32,35,36,38,40,41,42,43,45,46,63])) ⟨_,rfl,?_⟩;have:uJ c=[32,35,36,38,40,41,42,43,45,46,63].contains (c:az):=by
   unfold uJ;rw[D8,←KA] at h;exact D h rfl
  simp only[this];exact o7 rfl rfl
noncomputable def tx(l:J B):ao:=⟨l.toArray⟩
theorem kY(l m:J B):tx l++tx m=tx (l++m):=by
 show tZ (l.toArray++m.toArray)=tZ (l++m).toArray;exact D (J.append_toArray _ _) rfl
theorem jH(l:J B):(tx l).length=U l:=rU ..
theorem EV.tx{C:Cx}{n:B}{st:St}{x:ao}{k:B}{p:cN}(l:J B)(h:aO (x=Mine.Internal.tx l) a8):EV C n (.Constant (.str x) k p) st (.str<|Mine.Internal.tx l) st:=h▸dE
noncomputable def kZ(z:az):B:=
 if z.fmod 4=0 then(if(z.fdiv 4).fmod 2=0 then 97 else 98)
 else if z.fmod 4=1 then(if(z.fdiv 4).fmod 2=0 then 46 else 45)
 else if z.fmod 4=2 then((z.fdiv 4).fmod 128).toNat
 else(if 55295<(z.fdiv 4).fmod 1112064 then(z.fdiv 4).fmod 1112064+2048 else(z.fdiv 4).fmod 1112064).toNat
noncomputable def f0(zs:J az):J B:=[46,97,45,46,97]++(zs.take 6).map kZ
theorem uK(a b:az)(h:0<b):0<=a.fmod b/\a.fmod b<b:=⟨az.fmod_nonneg_of_pos a h,az.fmod_lt_of_pos a h⟩
theorem at2{z:az}{a:B}:(oE (z.fmod 2) (tx [a,b]).length).bind ((tx [a,b]).cps[·]?)=some (if z.fmod 2=0 then a else b):=by
 refine xA (uK z 2<|by decide) λh0 G=>D (jH _) ?_
 (refine D (seqIndex_of h0<|by show z.fmod 2<((2:B):az);assumption) ?_)
 by_cases h:z.fmod 2=0
 ·exact D h rfl
 ·exact D (aE h)<|D (show z.fmod 2=1 by lia) rfl
noncomputable def aw(l:J<|J B):J V:=l.map λx=>.str<|tx x
noncomputable def bf(l:J<|J B×J B):J V:=l.map λp=>.tup (.type "tuple") [.str<|tx p.1,.str<|tx p.2]
theorem eY{g:B->bb}{l:J (J B)}:V.fe g (aw l)=true:=oX λH=>rfl
theorem rq{aiA:B->B}{l:J (J B)}:V.lI aiA (aw l)=aw l:=V.GK λH=>rfl
theorem k6{g:B->bb}:V.fe g (bf l)=true:=oX λH=>rfl
theorem wg{aiA:B->B}:V.lI aiA (bf l)=bf l:=V.GK λH=>rfl
theorem sP(l m:J<|J B):aw l++aw m=aw (l++m):=(eL ..).symm
theorem wi(l:J<|J B)(x:J B):aw l++[.str<|tx x]=aw (l++[x]):=by simp only[←sP];rfl
theorem en(l:J<|J B):U (aw l)=U l:=bg ..
theorem o8{a b:J B}:tx a=tx b↔a=b:=⟨λh=>by
 have:=bA (λs:ao=>s.cps.toList) h
 simpa[tx] using this,λh=>by exact D h rfl⟩
noncomputable def iG(s:J (J B)×J (J B))(p:J B×J B):J (J B)×J (J B):=
 if p.1=p.2 then(s.1++s.2++[32::p.1],[]) else(if p.1=[] then s.1 else s.1++[45::p.1],if p.2=[] then s.2 else s.2++[43::p.2])
noncomputable def rowsOf(steps:J<|J B×J B):J (J B)×J (J B):=steps.foldl iG ([],[])
noncomputable def gk(steps:J<|J B×J B):J (J B):=(rowsOf steps).1++(rowsOf steps).2
theorem acw(l:J<|J B×J B)(p):rowsOf (l++[p])=iG (rowsOf l) p:=by unfold rowsOf;exact D jS rfl
theorem BJ:∀(steps:J<|J B×J B),(rowsOf steps).1.length+(rowsOf steps).2.length<=2*U steps:=λsteps=>by
 suffices ∀(l:J<|J B×J B) s,(l.foldl iG s).1.length+(l.foldl iG s).2.length<=U s.1+U s.2+2*U l by have:=this steps ([],[]);simp only[iQ,iu] at this;exact this
 intro l
 induction l with
 |nil=>intro s;simp
 |cons p l ih=>
  intro s;refine D l6<|cX (ih _) ?_;unfold iG;split
  ·simp;exact ZI
  ·split<;>split<;>simp<;>lia
end
namespace yB
noncomputable def ES(w:bx)(os:bM)(dr:cV)(n:B)(steps:J<|J B×J B)(_ _ _ _ _ _ _ _:fD):Prop:=(U steps<=1000)->(∀p∈steps,U p.1<=1000/\U p.2<=1000)->cE (TW w os dr) (n+1) (.ref 301) [.list<|bf steps] [.ref 0] [.list<|bf steps,.list<|aw<|gk steps] (.ref 1)
@[irreducible] noncomputable def EX:=nT oN default {} 0 [] () () () () () () () () ES
noncomputable def w:=EX.1
noncomputable def os:=EX.2.1
noncomputable def dr:=EX.2.2.1
noncomputable def n:=EX.2.2.2.1
noncomputable def steps:=EX.2.2.2.2.1
theorem Ee:ES w os dr n steps () () () () () () () ():=λhz hs=>by
 refine m6 (Gl _) rfl (λxs hx=>?_) λL=>?_
 ·revert xs;exact sF λH=>rfl
 refine rf (names:=["rows","coming"]) (dL<|an (eI aM)<|an (eI aM) aM) ?_
 refine cg (nV 2 (items:=bf steps) (aiw:=λaj=>aj.hp[0]?=some (.list (bf steps))) (am:=⟨[("rows",.ref 1),("coming",.ref 2),("steps",.ref 0)],[.list (bf steps),.list (aw []),.list (aw [])]⟩)
  (λi aj=>aj=⟨[("rows",.ref 1),("coming",.ref 2),("steps",.ref 0)],[.list<|bf steps,.list<|aw (rowsOf<|steps.take i).1,.list<|aw (rowsOf<|steps.take i).2]⟩)
  (gS.of (v:=.ref 0) ah (gj.list rfl)) rfl (λi aj H h=>by refine D h ?_;rfl) (eM 1) (eM 1) (λi aiy aj hu hI=>?_) (λaj hI=>?_))
 ·subst hI;unfold bf at hu;rw[c6] at hu;cases hq:steps[i]? with
  |none=>rw[hq] at hu;exact nomatch hu
  |some p=>
  rw[hq] at hu;cases hu;obtain⟨l1,l2⟩:=hs p<|dT hq;have hlen:=BJ<|steps.take i;have eU:U (steps.take i)<=1000:=by exact D gA<|ZH hz
  have m7:rowsOf (steps.take<|i+1)=iG (rowsOf<|steps.take i) p:=by exact D qL<|D hq<|acw _ _
  refine D m7 ?_
  generalize hR:(rowsOf<|steps.take i)=RC at hlen ⊢;obtain⟨R,M⟩:=RC;dsimp only at hlen ⊢;have fit:∀(c:B) (x:J B),U x<=1000->(tx [c]++tx x).length<=km:=λc x hx=>by
   rw[kY,jH];simp only[jT,nF,cK];exact mn<|ZG hx
  refine⟨_,c8.tup<|bU.cons bW<|bU.cons bW bU.nil,(cg<|jj (bV ah ah a9.eq_str) (λh=>?_) λh=>?_)⟩
  ·have e:p.1=p.2:=o8.mp (by simpa using h);refine eE (jq ah (uB rfl) (an ah aM) (aQ.extend rfl rfl<|by refine D (en _)<|D (en _) ?_;exact Fh hlen eU) uc KL KM) ?_
   refine eE (iE ah rfl (bt dE ah<|nY<|fit 32 p.1 l1) rfl<|by rw[sP,en,aK];exact Fh hlen eU) ?_
   refine cY (eI aM) ?_
   refine jo (aj:=⟨[("rows",.ref 1),("coming",.ref 2),("steps",.ref 0)],[.list (bf steps),.list (aw (iG (R,M) p).1),.list (aw (iG (R,M) p).2)]⟩) (.inr ⟨[3],_,_,Cv.of (base:=[.list (bf steps),.list (aw R++aw M++[.str (tx [32]++tx p.1)])]) (sel:=[.list []]) rfl rfl (by decide) (by decide) rfl rfl rfl
    (.cons k6 (bA O.list wg).symm (.cons ?_ ?_ (.cons rfl ?_ .nil))),c9.cons rfl rfl rfl (c9.cons rfl rfl rfl (c9.cons rfl rfl rfl c9.nil))⟩) (bd (bd rfl)) (bY rfl)
   ·rw[kY,sP,wi];exact eY
   ·rw[kY,sP,wi,iG,aU e];exact(bA O.list rq).symm
   ·rw[iG,aU e];rfl
  ·have e:¬p.1=p.2:=λz=>(by simpa using h:¬tx p.1=tx p.2) (o8.mpr z)
   have es:iG (R,M) p=(if p.1=[] then R else R++[45::p.1],if p.2=[] then M else M++[43::p.2]):=by rw[iG,aE e]
   refine D es ?_
   have b1:∀x:J B,(!decide (tx x=tx []))=true->x≠[]:=λx h z=>by subst z;simp at h
   have b2:∀x:J B,(!decide (tx x=tx []))=false->x=[]:=λx h=>o8.mp (by simpa using h);refine cg<|jt (K:=λfl aj=>fl= .next/\SubL [("rows",.ref 1),("coming",.ref 2),("steps",.ref 0),("new",.str<|tx p.2)] aj.loc/\aj.hp=[.list<|bf steps,.list (aw<|if p.1=[] then R else R++[45::p.1]),.list<|aw M]) (jj (bV ah (EV.tx []) a9.ne_str) (λG=>?_) λG=>bd ⟨rfl,bp rfl,D (aU<|b2 _ G) rfl⟩) λfl aj q=>?_
   ·refine eE (iE ah rfl (bt (EV.tx [45]) ah<|nY<|fit 45 p.1 l1) rfl<|by refine D (en _) ?_;exact ZE hlen eU)<|bd ⟨rfl,bp rfl,?_⟩;refine D (aE<|b1 _ G) ?_
    rw[kY,wi];rfl
   ·refine eh q λe hl hh=>?_
    subst e;refine b7 hl hh<|cg<|jj (bV ah (EV.tx []) a9.ne_str) (λh2=>?_) λh2=>bd ?_
    ·refine eE (iE ah rfl (bt (EV.tx [43]) ah<|nY<|fit 43 p.2 l2) rfl<|by refine D (en _) ?_;exact ZF hlen eU)<|bd ?_;refine D (aE<|b1 _ h2)<|b7 (l':=[("rows",.ref 1),("coming",.ref 2),("steps",.ref 0)]) (bp rfl) ?_<|bd<|bd rfl;rw[kY,wi];rfl
    ·exact D (aU<|b2 _ h2)<|XS.forget (bp rfl)<|bd<|bd rfl
 ·subst hI;have e:U (bf steps)=U steps:=bg ..;refine D e<|D pH ?_;have hlen:=BJ steps
  refine bd (j6 (bt ah ah (a9.add_list rfl rfl (by refine D (en _) (D (en _) ?_);exact Fh hlen hz))) ⟨_,rfl,[3],_,_,Cv.of (p:=1) (base:=[.list (bf steps)]) (sel:=[.list (aw (rowsOf steps).1++aw (rowsOf steps).2)]) rfl rfl (by decide) (by decide) rfl rfl rfl
   (.cons k6 (bA O.list wg).symm (.cons (by refine D (sP _ _) ?_;exact eY) ?_ .nil)),rfl,rfl⟩)
  exact D (sP _ _)<|(bA O.list rq).symm
end yB
section
variable{w:bx}{os:bM}{dr:cV}{n q:B}{i:az}{am ba ce:St}{v:V}{aiA:B->B}{g:B->bb}{hp:J O}{l:J (ao×V)}{b:J (J B)}{x:J B}
theorem acx:∀{w os dr n steps},yB.ES w os dr n steps () () () () () () () ():=by with_unfolding_all exact oK yB.ES yB.EX rfl yB.Ee _ _ _ _ _ () () () () () () () ()
noncomputable def dg(i:az):J B:=(ft<|toString i).cps.toList
theorem wj(i:az):ft (toString i)=tx (dg i):=by
 rfl
theorem GQ(h:i.natAbs<2 ^ 64):U (dg i)<=2000:=by
 have:=BH h;rw[wj,jH] at this;exact this
noncomputable def lN(start size:az):J B:=if size=0 then dg start++[44,48] else if size=1 then dg (start+1) else dg (start+1)++[44]++dg size
theorem acy(a b:az):rangeT a b=tx (lN a b):=by
 unfold rangeT lN;split
 ·simp only[wj,show ft ",0"=tx [44,48] by rfl,kY]
 ·split
  ·simp only[wj]
  ·simp only[wj,wj,show ft ","=tx [44] by rfl,kY,kY]
section
variable{C:Cx}{st:St}
theorem fG.int{i:az}:fG C n (.int i) st (i !=0):=.mk λA s ρ x Q hA R ⟨t,e⟩ h=>by
 subst e;exact PySem.P.truthy_int<|h s<|ek R
theorem fG.str{x:ao}(hz:x.length<=16777216):fG C n (.str x) st (x.length !=0):=.mk λA s ρ y Q hA R ⟨t,e⟩ h=>by
 subst e;refine PySem.P.truthy_str (by lia) ?_
 simp only[show((x.length:az)!=0)=(x.length !=0) from sa.mpr<|by simp];exact h _<|gh R _
theorem fG.list{k:B}{l:J V}(hk:st.hp[k]?=some (.list l))(hz:U l<=16777216):fG C n (.ref k) st (!l.isEmpty):=.mk λA s ρ y Q hA R hx h=>by
 refine kn (mY R hk hx) λa vs av ha hL hl=>?_
 subst av;have s1:vs.size=U l:=by simp only[←eO,dK hl]
 refine wpAny_truthy_list hL (by refine D s1 ?_;omega) ?_
 have e:vs.isEmpty=l.isEmpty:=by
  rw[sa,J.isEmpty_iff_length_eq_zero,←s1];simp[bD.isEmpty]
 simp only[e];exact h _<|gh R _
noncomputable def VT:V->J B->Prop
 | .str x,y=>x=tx y/\U y<=1000000
 | .int i,y=>dg i=y/\0<=i/\i<10 ^ 10
 |_,_=>c7
noncomputable def Fm(L:B):J V->J B->J B->J B->Prop
 | []=>λr T T'=>r=[]/\T=T'
 |v::vs=>λr T T'=>∃lit rest y,(r.isEmpty=false/\K9 r= .ok (lit,some {name:=[]},rest)/\U lit≠L/\U lit<=100)/\VT v y/\Fm L vs rest (T++lit++y) T'
theorem Fm.cons{L:B}{vs:J V}{r T T1 T' lit rest y:J B}(c2:K9 r= .ok (lit,some {name:=[]},rest))(hv:VT v y)(e:T++lit++y=T1)(h:Fm L vs rest T1 T')(c1:aO ((r.isEmpty||U lit==L|| !Nat.ble (U lit) 100)=false) a8):Fm L (v::vs) r T T':=by
 subst e;obtain⟨c,c4⟩:=Kw.mp c1;obtain⟨c1,c3⟩:=Kw.mp c;exact⟨lit,rest,y,⟨c1,c2,λq=>dy<|c3.symm.trans (nG.mpr q),bY<|KB (y:=true) c4⟩,hv,h⟩
theorem Fm.go{L:B}{ρ:J ax}{h:bn}{us:J V}:∀{xs r T T'},Fm L us r T T'->V.IsL ρ h us xs->BC L xs r (tx T) (tx T'):=by
 induction us with
 |nil=>intro xs r T T' hc hx;obtain rfl:xs=[]:=hx;exact⟨hc.1,bA tx hc.2⟩
 |cons v vs ih=>
  intro xs r T T' hc hx;obtain⟨lit,rest,y,c,hv,hc⟩:=hc;refine cD hx λx r' e i1 i2=>?_
  subst e;refine⟨lit,rest,tx y,c,?_,D (by rw[kY,kY]:tx T++tx lit++tx y=tx (T++lit++y))<|ih hc i2⟩;cases v with
  |str z=>obtain⟨t,rfl⟩:=i1;obtain⟨rfl,hy⟩:=hv;exact FT.str<|D (jH y) hy
  |int z=>obtain⟨t,rfl⟩:=i1;obtain⟨rfl,h0,G⟩:=hv;exact bL (wj z)<|FT.int h0 G
  |_=>exact hv.elim
theorem acz{X:ao}{t:jg}:∀{xs:J ak},U xs<=3->l8 "str.format" ⟨.str X t::xs,[]⟩
 | [],_=>PySem.W.KFm.args_1 _
 | [_],_=>PySem.W.KFm.args_2 _ _
 | [_,_],_=>PySem.W.KFm.args_3 _ _ _
 | [_,_,_],_=>PySem.W.KFm.args_4 _ _ _ _
 |_::_::_::_::l,h=>aY h (by simp only[cK];exact B.not_le_of_gt<|pJ _ _)
theorem aQ.fmt{X X':ao}{us:J V}{r:J B}(hc:Fm X'.cps.toList.length us X'.cps.toList [] r)(hX:X=X':=by decide+kernel)(h2:aO ((B.ble (U us) 3&&B.ble (U us) X'.cps.toList.length)=true) a8):aQ C n (.builtin "str.format") (.str X::us) st (.str<|tx r) st:=.mk λA s ρ xs Q hA R aV h=>by
 refine cD aV λx xs e i1 i2=>?_
 subst e;obtain⟨t,rfl⟩:=i1;obtain⟨ha,hb⟩:=fb.mp h2;have hl:=dK i2;exact PySem.W.KFm.call_k hX (acz<|D hl<|bY ha) (PySem.W.KPc.meets_of λH H H H H H hq=>abE (Fm.go hc i2) (D hl<|ly<|bY ha) (D hl<|bY hb) hq) λt' k=>h ρ _ _ (gh R _) ⟨t',rfl⟩
theorem aQ.acA(h0:0<=i)(G:i<10 ^ 10):aQ C n (.builtin "str.format") [.str<|ft "{}",.int i] st (.str<|tx<|dg i) st:=
 aQ.fmt (X':=⟨#[123,125]⟩) (Fm.cons (lit:=[]) (rest:=[]) (T1:=dg i) rfl ⟨rfl,h0,G⟩ rfl ⟨rfl,rfl⟩)
theorem aQ.O0{j:az}(h0:0<=i)(G:i<10 ^ 10)(h2:0<=j)(h3:j<10 ^ 10):aQ C n (.builtin "str.format") [.str<|ft "{},{}",.int i,.int j] st (.str<|tx<|dg i++[44]++dg j) st:=
 aQ.fmt (X':=⟨#[123,125,44,123,125]⟩) (Fm.cons (lit:=[]) (rest:=[44,123,125]) (T1:=dg i) rfl ⟨rfl,h0,G⟩ rfl<|Fm.cons (lit:=[44]) (rest:=[]) rfl ⟨rfl,h2,h3⟩ rfl ⟨rfl,rfl⟩)
end
theorem O1{a b:az}(h0:0<=a)(G:a<=b)(h2:b<10 ^ 9):cE (TW w os dr) (n+1) (.ref 253) [] [.int a,.int b] [] (.str<|tx<|lN a<|b-a):=by
 refine m6 (yl _) rfl (λxs hx=>?_) λL=>?_
 ·revert xs;exact sG λH H=>rfl
 refine eE dE<|cY (bt ah bz eT)<|cY (bt ah ah mr)<|cg<|jj (bV ah bz mh) (λh=>?_) λh=>bd ?_
 ·have e:b-a=1:=by simpa using h
  refine j6 (jq dE nW (an ah aM) (aQ.acA (by lia)<|by lia) nQ ua ub) ⟨_,rfl,?_⟩;rw[lN,aE (by omega),aU e];exact o7 rfl rfl
 have ne:¬b-a=1:=by simpa using h
 refine cg<|jj (TV.not<|fu ah fG.int) (λh=>?_) λh=>bd ?_
 ·have e:b-a=0:=by simpa using h
  refine cg (X1.aug rfl bz a9.isub_int<|bd<|j6 (jq dE nW (an ah<|an ah aM) (aQ.O0 (by lia) (by lia) (by omega)<|by omega) nQ ua ub) ⟨_,rfl,?_⟩);rw[lN,aU e,e,show a+1-1=a by lia,show dg 0=[48] by rfl,cm];exact o7 rfl rfl
 ·have e:¬b-a=0:=by simpa using h
  refine j6 (jq dE nW (an ah<|an ah aM) (aQ.O0 (by lia) (by omega) (by omega)<|by lia) nQ ua ub) ⟨_,rfl,?_⟩;rw[lN,aE e,aE ne];exact o7 rfl rfl
section
variable{C:Cx}{st:St}
theorem aQ.BK{x:ao}:aQ C n (.builtin "isinstance") [.str x,.val<|.type "str"] st (.bool true) st:=.mk λA s ρ xs Q hA R aV h=>by
 refine cD aV λx r bE cx bR=>?_
 clear aV;subst bE;obtain⟨t,rfl⟩:=cx;refine cD bR λy r' gT e i2=>?_
 clear bR;subst gT;obtain rfl:r'=[]:=i2;subst e;exact PySem.IsiPair.str_str<|h ρ _ _ (ek R) rfl
end
theorem acB{l1 l2:J (J B)}{s1 s2 s3 s4 s5:ao}(G:U l1<=1000)(h2:U l2<=1000):
  cE (TW w os dr) (n+1) (.ref 268) [.list<|aw l1,.list<|aw l2] [.ref 0,.ref 1,.str s1,.str s2,.str s3,.str s4,.str s5] [.list<|aw l1,.list<|aw l2] .none:=by
 have aiw:=Gk w.params;refine cE.v0 aiw.get aiw.fd rfl aiw.code (noLimit _) (names:=["a","b","args"]) (bs:=[.ref 0,.ref 1,.tup (.type "tuple") [.str s1,.str s2,.str s3,.str s4,.str s5]]) (λA E ρ s xs Q R aV hq=>?_) aiw.nd aiw.cell aiw.loc λL=>?_
 ·refine cD aV λx0 H bE i0 bR=>?_
  clear aV;subst bE;refine cD bR λx1 H uI i1 BL=>?_
  clear bR;subst uI;refine cD BL λy1 H e6_ j1 O2=>?_
  clear BL;subst e6_;refine cD O2 λy2 H Gf j2 O3=>?_
  clear O2;subst Gf;refine cD O3 λy3 H Gg j3 O4=>?_
  clear O3;subst Gg;refine cD O4 λy4 H acC j4 O5=>?_
  clear O4;subst acC;refine cD O5 λy5 H acD j5 acE=>?_
  clear O5;subst acD acE;show aF _ A (do let t ←newTuple [y1,y2,y3,y4,y5];pure [(ft "a",x0),(ft "b",x1),(ft "args",t)]) Q E s;refine wpAny_bind (wpAny_newObj_type (wpAny_pure<|hq [x0,x1,.ref s.heap.objs.size] _ s.toks (λb o e=>dD _ e) (by simp only[jV];exact eM _) ?_)<|by show(5:B)<=km;decide);have hs:=bF.push s.heap {cls:=.type "tuple",data:=.seq [y1,y2,y3,y4,y5].toArray}
  exact⟨_,_,rfl,i0.mono (bP _) hs,_,_,rfl,i1.mono (bP _) hs,_,_,rfl,⟨rfl,_,_,0,rfl,ew _ rfl,
   ⟨_,_,rfl,j1.mono (bP _) hs,_,_,rfl,j2.mono (bP _) hs,_,_,rfl,j3.mono (bP _) hs,_,_,rfl,j4.mono (bP _) hs,_,_,rfl,j5.mono (bP _) hs,rfl⟩⟩,rfl⟩
 have gi:=Ov w.params;have bi:=Oz w.params;refine cg<|i8 false ?_ (λh=>aY h dy) λH=>bd ?_
 ·cases l1 with
  |nil=>exact jm (fu ah<|fG.list (l:=aw []) rfl<|by decide)
  |cons x l=>exact kq (fu ah<|fG.list (l:=aw<|x::l) rfl<|by rw[en];exact E8 G) (jm<|TV.not<|fu (fv (cB (cQ _) gi (dN _) bi) (an (eJ ah bz (i6 (l:=aw<|x::l) rfl (by decide) rfl) gx)<|an (cB (cQ _) (sH _) (dN _)<|sI _) aM) aQ.BK) kR)
 refine cg<|i8 false ?_ (λh=>aY h dy) λH=>bd ?_
 ·cases l2 with
  |nil=>exact jm (fu ah<|fG.list (l:=aw []) rfl<|by decide)
  |cons x l=>exact kq (fu ah<|fG.list (l:=aw<|x::l) rfl<|by rw[en];exact E8 h2) (jm<|TV.not<|fu (fv (cB (cQ _) gi (dN _) bi) (an (eJ ah bz (i6 (l:=aw<|x::l) rfl (by decide) rfl) gx)<|an (cB (cQ _) (sH _) (dN _)<|sI _) aM) aQ.BK) kR)
 refine cg (nV 2 (items:=([s1,s2,s3,s4,s5].map V.str)) (aiw:=λH=>gC) (lo:=0) (am:=⟨[("a",.ref 0),("b",.ref 1),("args",.tup (.type "tuple") ([s1,s2,s3,s4,s5].map V.str))],[.list (aw l1),.list (aw l2)]⟩)
  (λi aj=>aj=⟨[("a",.ref 0),("b",.ref 1),("args",.tup (.type "tuple")<|[s1,s2,s3,s4,s5].map V.str)],[.list<|aw l1,.list<|aw l2]⟩)
  (gS.of ah (gj.tup rfl)) rfl (λH H H H=>trivial) (bH _) (aG _) (λi aiy aj hu hI=>?_) (λaj hI=>?_))
 ·subst hI;rw[c6] at hu;cases hq: [s1,s2,s3,s4,s5][i]? with
  |none=>rw[hq] at hu;exact nomatch hu
  |some z=>
  rw[hq] at hu;cases hu;exact⟨_,bW,(lM (TV.not (fu (fv (cB (cQ _) gi (dN _) bi) (an ah (an (cB (cQ _) (sH _) (dN _) (sI _)) aM)) aQ.BK) kR)) (b7 (bp rfl) rfl (bd rfl)))⟩
 ·subst hI;exact bd<|bd ⟨_,rfl,[],_,_,Cv.of (p:=2) (base:=[.list<|aw l1,.list<|aw l2]) (sel:=[]) rfl rfl lx (λk h=>(g8 h).elim) rfl rfl rfl<|.cons eY (bA O.list rq).symm (.cons eY (bA O.list rq).symm .nil),rfl,rfl⟩
theorem V.GS(v:V):v.cf (λk=>k)=v:=V.jC (g:=λH=>true) (λH H=>rfl) V.re
theorem GT{κ:Type}{aiA:B->B}{g:B->bb}(hf:∀k,g k=true->aiA k=k):∀{l:J (κ×V)},V.fe g (l.map (·.2))=true->(l.map λp=>(p.1,p.2.cf aiA))=l
 | []=>λH=>rfl
 |p::l=>λh=>by
  have h:=fb.mp h;exact cons_eq (bA (EF p.1)<|V.jC hf h.1)<|GT hf h.2
theorem O6{κ:Type}{aiA:B->B}{g:B->bb}(hf:∀k,g k=true->aiA k=k):∀{l:J (κ×V)},(l.all λp=>p.2.bG g)=true->(l.map λp=>(p.1,p.2.cf aiA))=l
 | []=>λH=>rfl
 |p::l=>λh=>by
  have h:=fb.mp h;exact cons_eq (bA (EF p.1)<|V.jC hf h.1)<|O6 hf h.2
theorem O.jC{aiA:B->B}{g:B->bb}(hf:∀k,g k=true->aiA k=k):∀{o:O},o.bG g=true->o.cf aiA=o
 | .list l=>λh=>bA O.list<|V.ut hf h
 | .attrs l=>λh=>bA O.attrs<|O6 hf h
 | .inst c d=>λh=>bA (O.inst c)<|hf d h
 | .cell v=>λh=>bA O.cell<|V.jC hf h
 | .fields c l=>λh=>bA (O.fields c)<|V.ut hf h
 | .fc l=>λh=>bA O.fc<|GT hf h
 | .intD l=>λh=>bA O.intD<|GT hf h
 | .fY=>λH=>rfl
theorem O.GS(o:O):o.cf (λk=>k)=o:=O.jC (g:=λH=>true) (λH H=>rfl) O.re
theorem acF(p:B):oQ (eD p) p=λk=>k:=by
 funext k;unfold oQ;refine D gL ?_
 split
 ·next h=>rw[c5,ou h];rfl
 ·lia
theorem range_getD{p k:B}(h:k<p):(eD p).getD k 0=k:=by refine D (c5)<|D (ou h) ?_;rfl
theorem acG{α:Type}{hp os:J α}(h:U hp<=U os):over hp (eD<|U hp) os=os:=by
 apply xb;intro k
 by_cases hk:k<U hp
 ·exact Bj xe (ou hk) hk (by exact D gL<|h)
 ·obtain⟨i,rfl⟩:=Kd<|iT.mp hk;rw[F0 (by rw[gL];exact h),gL]
theorem acH{α:Type}{hp aZ rest:J α}(h:U aZ=U hp):over (hp++rest) (eD<|U hp) aZ=aZ++rest:=by
 apply xb;intro k
 by_cases hk:k<U hp
 ·rw[Bj xe (ou hk) (by rw[aK];exact ZW hk) (by rw[gL];exact vU h),cA<|me hk h]
 ·by_cases h2:k<U (hp++rest)
  ·(simp only[Bi (by rw[rW];exact hk) h2,dc (by exact iR ‹_›),dc<|Nv hk h,h])
  ·rw[rP (by rw[FZ (by rw[gL];exact vU h),gL];exact ZV h2 h),rP<|by rw[aK] at h2 ⊢;exact ZU h2 h]
section
variable{C:Cx}{st:St}
theorem cE.same{aiA:ak}{aZ:J O}{args:J V}(hf:cE C.toWd n aiA hp args aZ v)(hle:U hp<=U aZ)
  (hc:∀o∈hp,o.bG (λk=>decide (k<U hp))=true) (ha:V.fe (λk=>decide (k<U hp)) args=true):aQ C n aiA args ⟨l,hp⟩ v ⟨l,aZ⟩:=by
 have uL:∀k,(λk=>decide (k<U hp)) k=true->(λk=>(eD<|U hp).getD k 0) k=k:=λk h=>range_getD<|dq h
 have key:=cE.frame (st:=⟨l,hp⟩) (eD (U hp)) hf gL hle xe (λi o h=>by
  have hi:=(cJ.mp h).1;have ho:=hc o<|dT h;refine D gL ?_
  exact⟨ho,i,ou hi,by refine D (O.jC uL ho) ?_;exact h⟩) (by exact D gL (ha))
 dsimp only at key;rw[V.ut uL ha,acF,V.GS,show O.cf (λk=>k)=id from funext O.GS,DL,acG hle] at key;exact key
theorem cE.front{aiA:ak}{aZ rest:J O}{args:J V}(hf:cE C.toWd n aiA hp args aZ v)(hle:U aZ=U hp)
  (hc:∀o∈hp,o.bG (λk=>decide (k<U hp))=true) (yC:∀o∈aZ,o.bG (λk=>decide (k<U hp))=true) (ha:V.fe (λk=>decide (k<U hp)) args=true) (hv:v.bG (λk=>decide (k<U hp))=true):
  aQ C n aiA args ⟨l,hp++rest⟩ v ⟨l,aZ++rest⟩:=by
 have uL:∀k,(λk=>decide (k<U hp)) k=true->(λk=>(eD<|U hp).getD k 0) k=k:=λk h=>range_getD<|dq h;have O7:∀k,(λk=>decide (k<U hp)) k=true->(oQ (eD<|U hp)<|U<|hp++rest) k=k:=λk h=>by
  have h:=dq h;unfold oQ;exact D gL<|D (aU h)<|range_getD h
 have key:=cE.frame (st:=⟨l,hp++rest⟩) (eD (U hp)) hf gL (vU hle) xe (λi o h=>by
  have hi:=(cJ.mp h).1;have ho:=hc o<|dT h;refine D gL ?_
  exact⟨ho,i,ou hi,by simp only[O.jC uL ho,cA hi];exact h⟩) (by exact D gL (ha))
 dsimp only at key;have e:aZ.map (O.cf<|oQ (eD<|U hp)<|U<|hp++rest)=aZ:=by
  exact(rT (g:=id) λo ho=>O.jC O7<|yC o ho).trans<|DL _
 simp only[V.ut uL ha,V.jC O7 hv,e,acH hle] at key;exact key
end
noncomputable def uM:J (ao×V):=[("autojunk",.bool true),("b",.none),("a",.none),("isjunk",.none)]
noncomputable def wk:J (ao×V):=[("opcodes",.none),("matching_blocks",.none),("a",.ref 0),("autojunk",.bool true),("b",.none),("isjunk",.none)]
theorem acI{f u:J (J B)}:cE (TW w os dr) (n+1) (.ref 174) [.list<|aw f,.list<|aw u,.attrs uM,.inst 242 2] [.ref 3,.ref 0] [.list<|aw f,.list<|aw u,.attrs wk,.inst 242 2] .none:=by
 refine m6 (Gn _) rfl (λxs hx=>?_) λL=>?_
 ·revert xs;exact sG λH H=>rfl
 have cl:=qg w.params;refine eE dE (lM (bV ah (EV.attr (k:=3) (d:=2) (l:=uM) ah rfl rfl rfl cl (by kernel_rfl) (by kernel_rfl) yx λH h=>by exact nomatch h) a9.is_ref_none)<|jG ah (cF.cons (kX (k:=3) (d:=2) (l:=uM) ah rfl rfl cl (by kernel_rfl) (by kernel_rfl) yx) cF.nil)<|jG EV.none (cF.cons (kX (k:=3) (d:=2) ah rfl rfl cl (by kernel_rfl) (by kernel_rfl) yy)<|cF.cons (kX (k:=3) (d:=2) ah rfl rfl cl (by kernel_rfl) (by kernel_rfl) BG) cF.nil) ?_);exact bd<|⟨_,rfl,[],_,_,Cv.of (p:=4) (base:=[.list<|aw f,.list<|aw u,.attrs wk,.inst 242 2]) (sel:=[]) rfl rfl lx (λk h=>(g8 h).elim) rfl rfl rfl<|.cons eY (bA O.list rq).symm (.cons eY (bA O.list rq).symm (.cons rfl rfl<|.cons rfl rfl .nil)),rfl,rfl⟩
noncomputable def gy(hp:J O):Prop:=∀o∈hp,o.bG (λk=>decide (k<U hp))=true
theorem O.m5{g g':B->bb}(hg:∀k,g k=true->g' k=true):∀{o:O},o.bG g=true->o.bG g'=true
 | .list _=>λh=>uG hg h
 | .attrs l=>λh=>fW.mpr λp hp=>V.m5 hg<|fW.mp h p hp
 | .inst _ _=>λh=>hg _ h
 | .cell _=>λh=>V.m5 hg h
 | .fields _ _=>λh=>uG hg h
 | .fc _=>λh=>uG hg h
 | .intD _=>λh=>uG hg h
 | .fY=>λH=>rfl
theorem O.acJ{p p':B}(h:p<=p'){o:O}(ho:o.bG (λk=>decide (k<p))=true):o.bG (λk=>decide (k<p'))=true:=
 O.m5 (λk hk=>dF<|oB (dq hk) h) ho
theorem oZ.same{aiA:B->B}{g:B->bb}:∀{hp:J O},(∀o∈hp,o.bG g=true/\o=o.cf aiA)->oZ aiA g hp hp
 | []=>λH=>.nil
 |o::hp=>λh=>.cons (h o<|vA ..).1 (h o<|vA ..).2<|oZ.same λo ho=>h o<|vz _ ho
section
variable{junk:J O}
theorem BN(hq:q<=U hp):(∀k,k<U hp->n6 q (fj q<|U hp-q) k=k)/\∀k,k<U hp->oY q (fj q<|U hp-q) k=true:=by
 constructor
 ·intro k hk;unfold n6;split
  ·rfl
  ·have hm:fj q (U hp-q)=J.map (q+ ·) (eD<|U hp-q):=by simp only[JB,J.map_add_range'];simp
   have uN:(fj q<|U hp-q)[k-q]?=some k:=by refine D (Dw<|by lia) ?_;congr 1;lia
   have bJ:=(cJ.mp uN).1;have e:=(cJ.mp uN).2;have:(fj q<|U hp-q).idxOf k=k-q:=by
    conv=>lhs;rw[←e]
    exact DN DB _ bJ
   lia
 ·intro k hk;unfold oY
  by_cases h:k<q
  ·simp[h]
  ·simp only[D5,ip,z6,xc];exact ZX hk
theorem Cv.drop(hq:q<=U hp)(hc:gy hp):Cv q (fj q<|U hp-q) (n6 q<|fj q<|U hp-q) (oY q<|fj q<|U hp-q) (hp++junk) hp:=by
 refine xA (BN hq) λG h2=>?_
 refine Cv.of (base:=hp.take q) (sel:=hp.drop q) rfl rfl DB (λk h=>(xc.mp h).1) (by exact D (w6 hq) rfl) (by refine D gA ?_;exact Fj hq) ?_ ?_
 ·apply xb;intro i;simp only[c6,c6,z8]
  by_cases hi:i<U hp-q
  ·refine D (Dw hi) ?_
   have hb:q+i<U hp:=by exact E0 hi
   simp only[vF,Am];refine D (cA hb)<|D (bO hb) ?_;rfl
  ·(refine D (rP<|by rw[z9];exact iR ‹_›)<|D (rP<|Nw hi) ?_);rfl
 ·simp only[rQ];refine oZ.same λo ho=>?_
  have:=hc o ho;exact⟨O.m5 (λk hk=>h2 k<|dq hk) this,(O.jC (λk hk=>G k<|dq hk) this).symm⟩
theorem mt{l':J (ao×V)}(hq:q<=U hp)(hc:gy hp)(hl:SubL l' l)(hv:∀p∈l',p.2.bG (λk=>decide (k<U hp))=true):jn q ⟨l,hp++junk⟩ ⟨l',hp⟩:=by
 refine xA (BN hq) λG h2=>.inr ⟨_,_,_,Cv.drop hq hc,λx v e=>?_⟩;have hm:v.bG (λk=>decide (k<U hp))=true:=by
  clear hl
  induction l' with
  |nil=>cases e
  |cons p l' ih=>
   rw[gv] at e;split at e
   ·(injection e;subst_vars);exact hv p<|vA ..
   ·exact ih (λp hp=>hv p<|vz _ hp) e
 exact⟨v,hl x v e,V.m5 (λk hk=>h2 k<|dq hk) hm,(V.jC (λk hk=>G k<|dq hk) hm).symm⟩
theorem Conv.drop{v:V}(hq:q<=U hp)(hc:gy hp)(hv:v.bG (λk=>decide (k<U hp))=true):Conv q (hp++junk) v hp v:=by
 exact xA (BN hq) λG h2=>(⟨_,_,_,Cv.drop hq hc,V.m5 (λk hk=>h2 k<|dq hk) hv,(V.jC (λk hk=>G k<|dq hk) hv).symm⟩)
end
noncomputable def keysOf(b:J<|J B):J (J B):=b.foldl (λks x=>if ks.contains x then ks else ks++[x]) []
noncomputable def posOf(x:J B)(b:J<|J B):J B:=(eD<|U b).filter λi=>b[i]?==some x
theorem O8(b:J<|J B)(x:J B):keysOf (b++[x])=if(keysOf b).contains x then keysOf b else keysOf b++[x]:=by
 unfold keysOf;exact D jS rfl
theorem O9:x∈keysOf b↔x∈b:=by
 suffices ∀(b ks:J<|J B),x∈b.foldl (λks x=>if ks.contains x then ks else ks++[x]) ks↔x∈ks\/x∈b by
  have:=this b [];simpa[keysOf] using this
 intro b
 induction b with
 |nil=>intro ks;simp
 |cons y b ih=>
  intro ks;rw[l6,ih];split
  ·next h=>
   have h:y∈ks:=by simpa using h
   constructor
   ·rintro(G|G)
    ·exact .inl G
    ·exact .inr<|vz _ G
   ·rintro(G|G)
    ·exact .inl G
    ·rcases cu.mp G with rfl|G
     ·exact .inl h
     ·exact .inr G
  ·simp only[bK,cu,g8,rX,or_assoc]
theorem acK(b:J<|J B):(keysOf b).Nodup:=by
 suffices ∀(b ks:J<|J B),ks.Nodup->(b.foldl (λks x=>if ks.contains x then ks else ks++[x]) ks).Nodup from this b [] lx
 intro b
 induction b with
 |nil=>intro ks h;exact h
 |cons y b ih=>
  intro ks h;refine D l6<|ih _ ?_;split
  ·exact h
  ·next hy=>
   have hy:y∉ks:=by simpa using hy
   refine mF.mpr ⟨h,by simp,λa ha c hc=>?_⟩;rw[bw] at hc;subst hc;intro e;subst e;exact hy ha
theorem BO(b:J<|J B)(x y:J B):posOf y (b++[x])=if x=y then posOf y b++[U b] else posOf y b:=by
 unfold posOf;rw[aK,J.length_singleton,Ac,xa];have e1:(eD<|U b).filter (λi=>(b++[x])[i]?==some y)=(eD<|U b).filter (λi=>b[i]?==some y):=by
  apply J.filter_congr;intro i hi;exact D (cA (rW.mp hi)) rfl
 refine D e1 ?_
 have e2:(b++[x])[U b]?=some x:=by refine D (dc<|aG _)<|D (fF _) ?_;rfl
 split
 ·next h=>subst h;simp
 ·next h=>simp[h]
theorem Pa(h:x∉b):posOf x b=[]:=by
 unfold posOf;rw[Jw];intro i hi e;have e:=eq_of_beq e;exact h<|dT e
noncomputable def jI:B->J (J B)->J (ao×V)
 |_,[]=>[]
 |p,x::r=>(tx x,.ref p)::jI (p+1) r
theorem Pb:∀(p:B) (ks:J<|J B) (x:J B),jI p (ks++[x])=jI p ks++[(tx x,.ref<|p+U ks)]
 |p,[]=>λx=>rfl
 |p,y::ks=>λx=>by
  show(tx y,V.ref p)::jI (p+1) (ks++[x])=_;rw[Pb];exact D cK<|D (by exact nH _ _ _:p+1+U ks=p+(U ks+1)) rfl
theorem BP:∀(p:B) (ks:J<|J B) (x:J B),(jI p ks).lookup (tx x)=if ks.contains x then some (.ref<|p+ks.idxOf x) else aA
 |p,[]=>λx=>rfl
 |p,y::ks=>λx=>by
  refine D gv<|D (BP (p+1) ks x) ?_
  by_cases h:x=y
  ·subst h;simp
  ·have G:(tx x==tx y)=false:=by simpa using λe=>h (o8.mp e)
   have h2:(y==x)=false:=by simpa using λe=>h e.symm
   have h3:(x==y)=false:=by simpa using h
   simp only[G,z7,h3,Av,J.idxOf_cons,h2,cond_false];split<;>simp;first|exact bA V.ref (nH _ _ _)|exact nH _ _ _
theorem GU:∀(p:B) (ks:J<|J B),U (jI p ks)=U ks
 |_,[]=>rfl
 |p,_::ks=>by show U (jI (p+1) ks)+1=_;rw[GU,cK]
theorem GV:∀(p m:B) (ks:J<|J B),p+U ks<=m->V.fe (λk=>decide (k<m)) ((jI p ks).map (·.2))=true
 |_,_,[]=>λH=>rfl
 |p,m,_::ks=>λh=>by
  rw[cK] at h;show(decide (p<m)&&V.fe _ ((jI (p+1) ks).map (·.2)))=true;exact D (GV (p+1) m ks<|by exact xM h)<|D (dF<|by exact ul h) rfl
noncomputable def mw(l:J B):J V:=l.map λ(i:B)=>.int (i:az)
noncomputable def ju(b ks:J<|J B):J O:=ks.map λx=>.list<|mw<|posOf x b
theorem acL{ks:J (J B)}(hn:ks.Nodup)(hx:x∈ks):(ju b ks).set (ks.idxOf x) (.list<|mw<|posOf x b++[U b])=ju (b++[x]) ks:=by
 apply xb;intro i;refine D (J.getElem?_set)<|D (c6) (D (c6) (D (bg _) ?_));have bJ:=Ds.mpr hx;split
 ·next h=>
  subst h;rw[bO bJ,Dz bJ,vF,BO,aU rfl]
 ·next h=>
  cases hk:ks[i]? with
  |none=>rfl
  |some y=>
   have cw:x≠y:=λe=>by
    subst e;have G:=(cJ.mp hk).1;have h2:=(cJ.mp hk).2;apply h;exact bL h2<|DN hn _ G
   rw[vF,vF,BO,aE cw]
theorem acM{ks:J (J B)}(hx:x∉ks)(hb:x∉b):ju b ks++[.list<|mw [U b]]=ju (b++[x]) (ks++[x]):=by
 unfold ju;rw[eL,eu,pI,BO,aU rfl,Pa hb];refine bA (· ++_) ?_
 apply rT;intro y hy;rw[BO,aE (λ(e:x=y)=>hx<|e▸hy)]
noncomputable def sQ:J (ao×V):=[("fullbcount",.none),("opcodes",.none),("matching_blocks",.none),("b",.ref 1),("a",.ref 0),("autojunk",.bool true),("isjunk",.none)]
noncomputable def rs:J (ao×V):=("b2j",.ref 4)::sQ
noncomputable def jJ(m:B):J (ao×V):=("bpopular",.ref<|6+m)::("bjunk",.ref<|5+m)::rs
noncomputable def lO(f u b:J<|J B):J O:=[.list<|aw f,.list<|aw u,.attrs rs,.inst 242 2,.fc<|jI 5<|keysOf b]++ju b (keysOf b)
theorem sR(f u b:J<|J B):U (lO f u b)=5+U (keysOf b):=by
 exact D aK<|D (bg _) rfl
theorem Pc{l:J B}:V.fe g (mw l)=true:=oX λH=>rfl
theorem acN(f u b:J<|J B):gy (lO f u b):=by
 intro o ho;rw[sR];rcases bK.mp ho with h|h
 ·simp only[cu,g8,rX] at h;rcases h with rfl|rfl|rfl|rfl|rfl
  ·exact eY
  ·exact eY
  ·show(rs.all λp=>p.2.bG λk=>decide (k<5+U (keysOf b)))=true;simp only[rs,sQ,oA,xi,V.ur,V.NX,V.NY,lF,xy,gP,ip];exact W3
  ·exact dF W2
  ·exact GV _ _ _<|aG _
 ·refine aH (fa.mp h) λx H av=>?_
  subst av;exact Pc
theorem acO(b:J<|J B):U (keysOf b)<=U b:=by
 suffices ∀(b ks:J<|J B),U (b.foldl (λks x=>if ks.contains x then ks else ks++[x]) ks)<=U ks+U b by
  have:=this b [];simpa[keysOf] using this
 intro b
 induction b with
 |nil=>intro ks;simp
 |cons y b ih=>
  intro ks;refine D l6 ?_
  have:=ih (if ks.contains y then ks else ks++[y]);have h2:U (if ks.contains y then ks else ks++[y])<=U ks+1:=by split<;>simp
  exact D cK<|W1 h2 this
theorem Pd(x:J B)(b:J<|J B):U (posOf x b)<=U b:=by
 have:=pE (λi=>b[i]?==some x)<|eD<|U b;rwa [gL] at this
end
end Mine.Internal
namespace Mine.Internal
section
variable{j i aq au aJ aS:B}{P:B->B->Prop}{s:B×B×B}{b a:J (J B)}{l:J (B×B×B)}
section
variable(a b:J<|J B)(aq aS au aJ:B)
noncomputable def Ok(i j:B):Prop:=aq<=i/\au<=j/\i<U a/\a[i]?=b[j]?
open Classical in
noncomputable def run:B->B->B
 |0,j=>if Ok a b aq au 0 j then 1 else 0
 |i+1,0=>if Ok a b aq au (i+1) 0 then 1 else 0
 |i+1,j+1=>if Ok a b aq au (i+1) (j+1) then run i j+1 else 0
theorem Pe(h:Ok a b aq au 0 j):run a b aq au 0 j=1:=aU h
theorem GW(h:Ok a b aq au (i+1) 0):run a b aq au (i+1) 0=1:=aU h
theorem yD(h:Ok a b aq au (i+1)<|j+1):run a b aq au (i+1) (j+1)=run a b aq au i j+1:=aU h
theorem GX(h:Ok a b aq au i j):0<run a b aq au i j:=by
 cases i with
 |zero=>exact D (Pe a b aq au h) B.one_pos
 |succ i=>cases j with
  |zero=>exact D (GW a b aq au h) B.one_pos
  |succ j=>exact D (yD a b aq au h)<|rY _
theorem BQ(h:¬Ok a b aq au i j):run a b aq au i j=0:=by
 cases i with
 |zero=>exact aE h
 |succ i=>cases j with
  |zero=>exact aE h
  |succ j=>exact aE h
theorem Pf{c:Prop}{hd:Decidable c}{t:B}(h:t+1<if c then 1 else 0):c7:=Ai (pJ 1 t)<|oB h<|EL (p:=(· <=1)) (aG 1)<|bH 1
theorem BR:∀(i j t:B),t<run a b aq au i j->t<=i/\t<=j/\Ok a b aq au (i-t) (j-t)
 |i,j,0=>λh=>⟨bH _,bH _,by
  by_cases ho:Ok a b aq au i j
  ·exact ho
  ·simp only[BQ a b aq au ho] at h;cases h⟩
 |0,j,t+1=>λh=>(Pf h).elim
 |i+1,0,t+1=>λh=>(Pf h).elim
 |i+1,j+1,t+1=>λh=>by
  by_cases ho:Ok a b aq au (i+1) (j+1)
  ·rw[yD a b aq au ho] at h;have:=BR i j t<|LH h;simp only[Ah,Ah];exact⟨by exact AM this.1,by exact AM this.2.1,this.2.2⟩
  ·rw[BQ a b aq au ho] at h;exact nomatch h
theorem Pg:∀(k i j:B),(∀t,t<k->t<=i/\t<=j/\Ok a b aq au (i-t) (j-t))->k<=run a b aq au i j
 |0,_,_=>λH=>bH _
 |k+1,0,j=>λh=>by
  have h0:=(h 0<|rY _).2.2;have G:k=0:=by
   by_cases hk:k=0
   ·exact hk
   ·have:=(h 1<|LV hk).1;exact aY ‹_› (jf _)
  subst G;exact GX a b aq au h0
 |k+1,i+1,0=>λh=>by
  have h0:=(h 0<|rY _).2.2;have G:k=0:=by
   by_cases hk:k=0
   ·exact hk
   ·have:=(h 1<|LV hk).2.1;exact aY ‹_› (jf _)
  subst G;exact GX a b aq au h0
 |k+1,i+1,j+1=>λh=>by
  have h0:=(h 0<|rY _).2.2;rw[yD a b aq au h0];have:=Pg k i j λt ht=>by
   have:=h (t+1)<|T6 ht;rw[Ah,Ah] at this;exact⟨by exact LU this.1,by exact LU this.2.1,this.2.2⟩
  exact AM this
noncomputable def rt(i:B)(s:B×B×B)(j:B):B×B×B:=
 if s.2.2<run a b aq au i j then(i+1-run a b aq au i j,j+1-run a b aq au i j,run a b aq au i j) else s
noncomputable def cols(i:B):J B:=match a[i]? with
 |some x=>(posOf x b).filter λj=>decide (au<=j)&&decide (j<aJ)
 |none=>[]
noncomputable def sS(s:B×B×B)(i:B):B×B×B:=(cols a b au aJ i).foldl (rt a b aq au i) s
noncomputable def jK:B×B×B:=(fj aq<|aS-aq).foldl (sS a b aq au aJ) (aq,au,0)
structure m8(P:B->B->Prop)(s:B×B×B):Prop where
 zero:s.2.2=0->s=(aq,au,0)
 here:0<s.2.2->P (s.1+s.2.2-1) (s.2.1+s.2.2-1)/\run a b aq au (s.1+s.2.2-1) (s.2.1+s.2.2-1)=s.2.2
 max:∀i j,P i j->run a b aq au i j<=s.2.2
 first:∀i j,P i j->0<s.2.2->run a b aq au i j=s.2.2->s.1+s.2.2-1<i\/(s.1+s.2.2-1=i/\s.2.1+s.2.2-1<=j)
variable{a b aq aS au aJ}
theorem m8.step(h:m8 a b aq au P s)(acP:∀i' j',P i' j'->i'<i\/(i'=i/\j'<j)):
  m8 a b aq au (λi' j'=>P i' j'\/(i'=i/\j'=j)) (rt a b aq au i s j):=by
 obtain⟨bi,bj,bs⟩:=s;obtain⟨G,h2,h3,h4⟩:=h;dsimp only at G h2 h3 h4;have hle:run a b aq au i j<=i+1/\run a b aq au i j<=j+1:=by
  by_cases h0:run a b aq au i j=0
  ·exact T5 h0
  ·have:=BR a b aq au i j (run a b aq au i j-1)<|T4 h0;exact T3 this.1 this.2.1
 unfold rt;split
 ·next hk=>
  have e1:i+1-run a b aq au i j+run a b aq au i j-1=i:=by exact T0 hle
  have e2:j+1-run a b aq au i j+run a b aq au i j-1=j:=by exact TZ hle
  refine⟨λe=>?_,λH=>?_,λi' j' hp=>?_,λi' j' hp H hr=>?_⟩<;>dsimp only at*
  ·exact(LS hk e).elim
  ·exact D e1<|D e2<|⟨.inr ⟨rfl,rfl⟩,rfl⟩
  ·rcases hp with hp|⟨rfl,rfl⟩
   ·have:=h3 i' j' hp;exact cX ‹_› (lz ‹_›)
   ·exact aG _
  ·simp only[e1,e2];rcases hp with hp|⟨rfl,rfl⟩
   ·have:=h3 i' j' hp;exact TY hk hr this
   ·exact .inr ⟨rfl,aG _⟩
 ·next hk=>
  refine⟨G,λh=>?_,λi' j' hp=>?_,λi' j' hp h0 hr=>?_⟩<;>dsimp only at*
  ·exact⟨.inl (h2 h).1,(h2 h).2⟩
  ·rcases hp with hp|⟨rfl,rfl⟩
   ·exact h3 i' j' hp
   ·exact iR ‹_›
  ·rcases hp with hp|⟨rfl,rfl⟩
   ·exact h4 i' j' hp h0 hr
   ·have:=acP _ _ (h2 h0).1;exact TX this
theorem m8.congr{P':B->B->Prop}(h:m8 a b aq au P s)(hp:∀i j,P i j↔P' i j):m8 a b aq au P' s:=
 ⟨h.zero,λh0=>⟨(hp _ _).mp (h.here h0).1,(h.here h0).2⟩,λi j q=>h.max i j<|(hp i j).mpr q,λi j q=>h.first i j ((hp i j).mpr q)⟩
theorem m8.cols{i:B}:∀(l:J B) {P:B->B->Prop} {s:B×B×B},m8 a b aq au P s->l.Pairwise (· < ·)->(∀i' j',P i' j'->i'<i\/(i'=i/\∀j∈l,j'<j))->
  m8 a b aq au (λi' j'=>P i' j'\/(i'=i/\j'∈l)) (l.foldl (rt a b aq au i) s)
 | [],P,s,h,_,_=>h.congr λi' j'=>by simp
 |j::l,P,s,h,hs,hl=>by
  refine D l6 ?_
  obtain⟨G,h2⟩:=Aa.mp hs
  have:=m8.cols (i:=i) l (h.step (i:=i) (j:=j) λi' j' hp=>(hl i' j' hp).imp id λ⟨e,q⟩=>⟨e,q j (vA ..)⟩) h2 (by
   rintro i' j' (hp|⟨rfl,rfl⟩)
   ·exact(hl i' j' hp).imp id λ⟨e,q⟩=>⟨e,λGY hj=>q GY<|vz _ hj⟩
   ·exact .inr ⟨rfl,λGY hj=>G GY hj⟩)
  refine this.congr λi' j'=>?_
  rw[cu];constructor
  ·rintro((h|⟨h,h'⟩)|⟨h,h'⟩)
   ·exact .inl h
   ·exact .inr ⟨h,.inl h'⟩
   ·exact .inr ⟨h,.inr h'⟩
  ·rintro(h|⟨h,h'|h'⟩)
   ·exact .inl<|.inl h
   ·exact .inl<|.inr ⟨h,h'⟩
   ·exact .inr ⟨h,h'⟩
theorem GZ{x:J B}:j∈posOf x b↔b[j]?=some x:=by
 unfold posOf;simp only[rV,rW];constructor
 ·intro ⟨_,h⟩;exact eq_of_beq h
 ·intro h;exact⟨(cJ.mp h).1,by refine D h ?_;exact xl _⟩
theorem Ph(x:J B)(b:J<|J B):(posOf x b).Pairwise (· < ·):=J1 _ J.pairwise_lt_range
theorem acQ(i:B):(cols a b au aJ i).Pairwise (· < ·):=by
 unfold cols;split
 ·exact J1 _<|Ph _ _
 ·exact J.Pairwise.nil
theorem yE:j∈cols a b au aJ i↔au<=j/\j<aJ/\i<U a/\a[i]?=b[j]?:=by
 unfold cols;cases h:a[i]? with
 |none=>
  have:=ot.mp h;simp only[g8,false_iff];lia
 |some x=>
  have:=(cJ.mp h).1;simp only[rV,GZ,gP,ip];constructor
  ·intro ⟨G,h2,h3⟩;exact⟨h2,h3,this,G.symm⟩
  ·intro ⟨G,h2,_,h3⟩;exact⟨h3.symm,G,h2⟩
structure j8(a b:J<|J B)(aq aS au aJ:B)(s:B×B×B):Prop where
 lo1:aq<=s.1
 o9:s.1+s.2.2<=max aq aS
 lP:au<=s.2.1
 jv:s.2.1+s.2.2<=max au aJ
 eq:∀t,t<s.2.2->s.1+t<U a/\a[s.1+t]?=b[s.2.1+t]?
 zero:s.2.2=0->s=(aq,au,0)
 max:∀i j k,aq<=i->i+k<=aS->au<=j->j+k<=aJ->(∀t,t<k->i+t<U a/\a[i+t]?=b[j+t]?)->k<=s.2.2
 first:∀i j,aq<=i->i+s.2.2<=aS->au<=j->j+s.2.2<=aJ->0<s.2.2->(∀t,t<s.2.2->i+t<U a/\a[i+t]?=b[j+t]?)->s.1<i\/(s.1=i/\s.2.1<=j)
theorem Pi:∀(n:B),m8 a b aq au (λi j=>aq<=i/\i<aq+n/\j∈cols a b au aJ i)<|(fj aq n).foldl (sS a b aq au aJ) (aq,au,0)
 |0=>⟨λH=>rfl,λh=>aY h<|jf _,λi j h=>by exact TU h.2.1 h.1,λi j h=>by exact TR h.2.1 h.1⟩
 |n+1=>by
  simp only[JK,jS,l6,JV,Am];have h:=Pi n;have:=m8.cols (i:=aq+n) (cols a b au aJ<|aq+n) h (acQ _) λi' j' hp=>.inl hp.2.1;refine this.congr λi j=>?_
  constructor
  ·rintro(⟨G,h2,h3⟩|⟨rfl,h3⟩)
   ·exact⟨G,by exact Kg ‹_›,h3⟩
   ·exact⟨by exact dZ _ _,by exact tN _,h3⟩
  ·intro ⟨G,h2,h3⟩
   by_cases e:i=aq+n
   ·exact .inr ⟨e,e▸h3⟩
   ·exact .inl ⟨G,by exact TQ h2 e,h3⟩
theorem acR(h:m8 a b aq au (λi j=>aq<=i/\i<aq+(aS-aq)/\j∈cols a b au aJ i) s):j8 a b aq aS au aJ s:=by
 obtain⟨bi,bj,bs⟩:=s;obtain⟨G,h2,h3,h4⟩:=h;dsimp only at G h2 h3 h4;have G0:∀i j k,0<k->aq<=i->i+k<=aS->au<=j->j+k<=aJ->(∀t,t<k->i+t<U a/\a[i+t]?=b[j+t]?)->
   (aq<=i+k-1/\i+k-1<aq+(aS-aq)/\j+k-1∈cols a b au aJ (i+k-1))/\k<=run a b aq au (i+k-1) (j+k-1):=λi j k h0 q1 q2 q3 q4 q5=>by
  have e:=q5 (k-1)<|xO h0;rw[show i+(k-1)=i+k-1 by exact LR h0,show j+(k-1)=j+k-1 by exact LR h0] at e;refine⟨⟨by exact LQ h0 q1,by exact TP h0 q2,yE.mpr ⟨by exact LQ h0 q3,by exact TO h0 q4,e.1,e.2⟩⟩,Pg a b aq au k _ _ λt ht=>⟨by exact LO ht,by exact LO ht,by exact LN ht q1,by exact LN ht q3,?_⟩⟩;have e:=q5 (k-1-t)<|TN ht;rw[show i+(k-1-t)=i+k-1-t by exact LM ht,show j+(k-1-t)=j+k-1-t by exact LM ht] at e;exact e
 by_cases h0:bs=0
 ·refine D (G h0) ?_
  refine⟨aG _,Kl ..,aG _,Kl ..,λt ht=>aY ht<|Aj _,λH=>rfl,λi j k q1 q2 q3 q4 q5=>?_,λi j H H H H q=>aY q<|jf _⟩
  by_cases hk:k=0
  ·exact D hk<|aG _
  ·have:=G0 i j k (by exact vG ‹_›) q1 q2 q3 q4 q5;exact cX this.2<|h0▸h3 _ _ this.1
 ·have oU:0<bs:=by exact vG ‹_›
  obtain⟨⟨p1,p2,p3⟩,p4⟩:=h2 oU;refine gc (yE.mp p3) λc1 c2 c3 c4=>?_
  have back:=BR a b aq au (bi+bs-1)<|bj+bs-1;have first:=back (bs-1)<|TM oU p4
  refine q8 first λb1 b2 b3 b4 b5 b6=>?_
  refine⟨?_,?_,?_,?_,λt ht=>?_,λe=>aY e h0,λi j k q1 q2 q3 q4 q5=>?_,λi j q1 q2 q3 q4 H q5=>?_⟩<;>dsimp only at*
  ·exact LL b3
  ·have:=Ki aq aS;exact TK p2
  ·exact LL b4
  ·have:=Ki au aJ;exact TJ c2
  ·refine q8 (back (bs-1-t)<|TH ht p4) λr1 r2 r3 r4 r5 r6=>?_
   simp only[show bi+bs-1-(bs-1-t)=bi+t by exact LK ht] at r5 r6;rw[show bj+bs-1-(bs-1-t)=bj+t by exact LK ht] at r6;exact⟨r5,r6⟩
  ·by_cases hk:k=0
   ·exact D hk<|bH _
   ·have:=G0 i j k (by exact vG ‹_›) q1 q2 q3 q4 q5;exact cX this.2<|h3 _ _ this.1
  ·have:=G0 i j bs oU q1 q2 q3 q4 q5;have hm:=h3 _ _ this.1;have:=h4 _ _ this.1 oU<|LJ this.2 hm;exact TG oU this
theorem qh:j8 a b aq aS au aJ (jK a b aq aS au aJ):=acR<|Pi<|aS-aq
theorem j8.unique{s':B×B×B}(h:j8 a b aq aS au aJ s)(h':j8 a b aq aS au aJ s'):s=s':=by
 have size:∀{s s':B×B×B},j8 a b aq aS au aJ s->j8 a b aq aS au aJ s'->s.2.2<=s'.2.2:=λ{s s'} h h'=>by
  by_cases h0:s.2.2=0
  ·exact AL h0
  ·have:=h.lo1;have:=h.o9;have:=h.lP;have:=h.jv;exact h'.max s.1 s.2.1 s.2.2 h.lo1 (by lia) h.lP (by lia) h.eq
 have e:s.2.2=s'.2.2:=DS (size h h')<|size h' h
 by_cases h0:s.2.2=0
 ·simp only[h.zero h0,h'.zero<|TF h0 e]
 ·have:=h.lo1;have:=h.o9;have:=h.lP;have:=h.jv;have:=h'.lo1;have:=h'.o9;have:=h'.lP;have:=h'.jv;have f1:=h.first s'.1 s'.2.1 h'.lo1 (by lia) h'.lP (by lia) (by exact vG ‹_›) (by exact D e<|h'.eq);have f2:=h'.first s.1 s.2.1 h.lo1 (by lia) h.lP (by lia) (TE h0 e) (by exact bL e<|h.eq);obtain⟨x,y,z⟩:=s;obtain⟨x',y',z'⟩:=s';dsimp only at*;have:x=x':=by exact TD f1 f2
  have:y=y':=by exact TB f1 f2
  subst_vars;rfl
theorem j8.after(h:j8 a b aq aS au aJ s)(G:s.1+s.2.2<aS)(h2:s.2.1+s.2.2<aJ)(hl:s.1+s.2.2<U a):a[s.1+s.2.2]?≠b[s.2.1+s.2.2]?:=λe=>by
 have:=h.max s.1 s.2.1 (s.2.2+1) h.lo1 ‹_› h.lP ‹_› (λt ht=>by
  by_cases q:t<s.2.2
  ·exact h.eq t q
  ·have:t=s.2.2:=by exact EW ht q
   subst this;exact⟨hl,e⟩)
 exact aY ‹_› (jf _)
theorem j8.before(h:j8 a b aq aS au aJ s)(G:aq<s.1)(h2:au<s.2.1)(hl:s.1<=U a):a[s.1-1]?≠b[s.2.1-1]?:=λe=>by
 have hz:s.2.2≠0:=λz=>by have:=h.zero z;replace G:=this▸G;exact aY G<|jf _
 have:=h.o9;have:=h.jv;have:=h.lo1;have:=h.lP
 have:=h.max (s.1-1) (s.2.1-1) (s.2.2+1) (LI G) (by lia) (LI h2) (by lia) (λt ht=>by
  cases t with
  |zero=>exact⟨by exact TA G hl,e⟩
  |succ t=>
   have:=h.eq t<|LH ht;simp only[show s.1-1+(t+1)=s.1+t by exact LG G,show s.2.1-1+(t+1)=s.2.1+t by exact LG h2]
   exact this)
 exact aY ‹_› (jf _)
end
section
variable(a b:J<|J B)(aq aS au aJ:B)
noncomputable def i9(i:B)(l:J B):J (az×V):=l.map λ(j:B)=>((j:az),V.int (run a b aq au i j:B))
noncomputable def kD(i:B):J (az×V):=if i<=aq then[] else i9 a b aq au (i-1)<|cols a b au aJ<|i-1
end
theorem G3{aiA:B->V}:∀(l:J B) (z:B),(l.map λ(j:B)=>((j:az),aiA j)).lookup (z:az)=if z∈l then some (aiA z) else aA
 | []=>λz=>rfl
 |j::l=>λz=>by
  refine D eu<|D gv<|D (G3 l z) ?_
  by_cases h:z=j
  ·subst h;simp
  ·have:((z:az)==(j:az))=false:=by rw[xk];lia
   refine D this ?_;simp[h]
theorem Pj{aiA:B->V}{z:az}(hz:z<0):∀(l:J B),(l.map λ(j:B)=>((j:az),aiA j)).lookup z=aA
 | []=>rfl
 |j::l=>by
  refine D eu<|D gv<|D (Pj hz l) ?_;have:(z==(j:az))=false:=by simp;lia
  exact D this rfl
theorem acS(hi:aq<=i)(hj:j∈cols a b au aJ i):
  ((kD a b aq au aJ i).lookup<|(j:az)-1).getD (.int 0)= .int ((run a b aq au i j:B)-1):=by
 refine gc (yE.mp hj) λc1 c2 c3 c4=>?_
 have ho:Ok a b aq au i j:=⟨hi,c1,c3,c4⟩
 unfold kD;cases i with
 |zero=>
  exact D (aU<|bH _)<|D (Pe a b aq au ho) rfl
 |succ i=>
  by_cases h:i+1<=aq
  ·refine D (aU h) ?_
   cases j with
   |zero=>exact D (GW a b aq au ho) rfl
   |succ j=>
    rw[yD a b aq au ho,BQ a b aq au (λq=>by have:=q.1;exact Vm h this)];rfl
  ·rw[aE h,DQ];unfold i9;cases j with
   |zero=>rw[Pj (z:=((0:B):az)-1) (by decide),GW a b aq au ho];rfl
   |succ j=>
    rw[show(((j+1:B):az)-1)=(j:az) by lia,G3,yD a b aq au ho];split
    ·show V.int _=_;congr 1;lia
    ·next hn=>
     exact D (BQ a b aq au λq=>hn<|yE.mpr ⟨q.2.1,by exact lz ‹_›,q.2.2.1,q.2.2.2⟩) rfl
noncomputable def k7(au aJ:B)(l:J B):J B:=l.filter λj=>decide (au<=j)&&decide (j<aJ)
theorem acT(au aJ:B)(l:J B)(j:B):k7 au aJ (l++[j])=if au<=j/\j<aJ then k7 au aJ l++[j] else k7 au aJ l:=by
 unfold k7;refine D (xa _ _) ?_
 by_cases h:au<=j/\j<aJ
 ·refine D (aU h) ?_;simp[h.1,h.2]
 ·refine D (aE h) ?_
  have:(decide (au<=j)&&decide (j<aJ))=false:=by
   rw[Ky];intro e;rw[gP,ip,ip] at e;exact h e
  simp[this]
theorem acU{l:J B}(hs:l.Pairwise (· < ·)){t:B}(hj:l[t]?=some j)(h:aJ<=j):k7 au aJ l=k7 au aJ (l.take t):=by
 unfold k7
 conv=>lhs;rw[←rQ t l]
 rw[xa];have:(l.drop t).filter (λj=>decide (au<=j)&&decide (j<aJ))=[]:=by
  rw[Jw];intro x hx e;rw[gP,ip,ip] at e;obtain⟨i,hi,rfl⟩:=mE hx;rw[J.getElem_drop] at e;obtain⟨ht,rfl⟩:=cJ.mp hj
  by_cases hz:i=0
  ·subst hz;simp only[jy] at e;exact Vl h e
  ·have:=(Dr.mp hs) t (t+i) ht (by rw[kO] at hi;exact E0 hi)<|Vk hz;exact Vj this h e
 rw[this,cM]
theorem cols_eq{x:J B}(h:a[i]?=some x):cols a b au aJ i=k7 au aJ (posOf x b):=by
 unfold cols k7;exact D h rfl
theorem acV{l:J B}(hs:l.Pairwise (· < ·)){t:B}(hj:l[t]?=some j):j∉k7 au aJ (l.take t):=by
 intro h;have h:=(rV.mp h).1;obtain⟨i,hi,e⟩:=mE h;rw[J.getElem_take] at e;rw[gA] at hi;obtain⟨ht,rfl⟩:=cJ.mp hj;have:=(Dr.mp hs) i t (Vi hi) ht<|Vh hi;exact Vg this e
inductive gE(a b:J<|J B):B->B->B->B->J (B×B×B)->Prop
 |none {aq aS au aJ:B} (h:(jK a b aq aS au aJ).2.2=0):gE a b aq aS au aJ []
 |some {aq aS au aJ i j k:B} {l r:J (B×B×B)} (h:jK a b aq aS au aJ=(i,j,k)) (hk:0<k) (hl:gE a b aq i au j l) (hr:gE a b (i+k) aS (j+k) aJ r):gE a b aq aS au aJ (l++(i,j,k)::r)
theorem BS(h:aS<=aq\/aJ<=au):(jK a b aq aS au aJ).2.2=0:=by
 have:=(qh (a:=a) (b:=b) (aq:=aq) (aS:=aS) (au:=au) (aJ:=aJ))
 have G:=this.o9;have h2:=this.jv;have h3:=this.lo1;have h4:=this.lP;exact We G h2 h3 h4 h
theorem gE.BU(a b:J<|J B):∀(m aq aS au aJ:B),aS-aq<=m->∃l,gE a b aq aS au aJ l
 |m,aq,aS,au,aJ,hm=>by
  by_cases h0:(jK a b aq aS au aJ).2.2=0
  ·exact⟨[],.none h0⟩
  ·have aiv:=(qh (a:=a) (b:=b) (aq:=aq) (aS:=aS) (au:=au) (aJ:=aJ))
   have G:=aiv.o9;have h2:=aiv.jv;have h3:=aiv.lo1;have h4:=aiv.lP;cases hf:jK a b aq aS au aJ with
   |mk i jk=>
    obtain⟨j,k⟩:=jk;rw[hf] at h0 G h2 h3 h4;dsimp only at h0 G h2 h3 h4;cases m with
    |zero=>exact(Wc G hm h0 h3).elim
    |succ m=>
     obtain⟨l,hl⟩:=gE.BU a b m aq i au j<|Wb G hm h0;obtain⟨r,hr⟩:=gE.BU a b m (i+k) aS (j+k) aJ<|Wa hm h0 h3;exact⟨_,.some hf (by exact vG ‹_›) hl hr⟩
theorem gE.unique{l':J (B×B×B)}(h:gE a b aq aS au aJ l)(h':gE a b aq aS au aJ l'):l=l':=by
 induction h generalizing l' with
 |none h=>
  cases h' with
  |none _=>rfl
  |some G hk _ _=>rw[G] at h;exact aY h (by dsimp only;exact kl ‹_›)
 |some h hk _ _ il ir=>
  cases h' with
  |none G=>rw[h] at G;exact aY G (by dsimp only;exact kl ‹_›)
  |some G gm m9 qi=>
   rw[h] at G;cases G;rw[il m9,ir qi]
theorem gE.inside(h:gE a b aq aS au aJ l):
  ∀s∈l,aq<=s.1/\s.1+s.2.2<=aS/\au<=s.2.1/\s.2.1+s.2.2<=aJ/\0<s.2.2/\∀t,t<s.2.2->s.1+t<U a/\a[s.1+t]?=b[s.2.1+t]?:=by
 induction h with
 |none _=>intro s hs;cases hs
 |@some aq aS au aJ i j k l r hf hk _ _ il ir=>
  have aiv:=(qh (a:=a) (b:=b) (aq:=aq) (aS:=aS) (au:=au) (aJ:=aJ))
  rw[hf] at aiv;have G:=aiv.o9;have h2:=aiv.jv;have h3:=aiv.lo1;have h4:=aiv.lP;have h5:=aiv.eq;dsimp only at G h2 h3 h4 h5;intro s hs;rcases bK.mp hs with hs|hs
  ·exact q8 (il s hs) λq1 q2 q3 q4 q5 q6=>(⟨q1,by exact MM q5 G q2 q1,q3,by exact MM q5 h2 q4 q3,q5,q6⟩)
  ·rcases cu.mp hs with rfl|hs
   ·exact⟨h3,by dsimp only;exact ML hk G h3,h4,by dsimp only;exact ML hk h2 h4,hk,h5⟩
   ·exact q8 (ir s hs) λq1 q2 q3 q4 q5 q6=>(⟨by exact MK q1 h3,q2,by exact MK q3 h4,q4,q5,q6⟩)
theorem gE.sorted(h:gE a b aq aS au aJ l):l.Pairwise (λs s'=>s.1+s.2.2<=s'.1/\s.2.1+s.2.2<=s'.2.1):=by
 induction h with
 |none _=>exact .nil
 |@some aq aS au aJ i j k l r hf hk hl hr il ir=>
  have L:=hl.inside;have R:=hr.inside;refine w8.mpr ⟨il,Aa.mpr ⟨λs hs=>?_,ir⟩,λs hs s' n5=>?_⟩
  ·exact q8 (R s hs) λq1 q2 q3 q4 q5 q6=>(⟨q1,q3⟩)
  ·refine q8 (L s hs) λq1 q2 q3 q4 q5 q6=>?_
   rcases cu.mp n5 with rfl|n5
   ·exact⟨q2,q4⟩
   ·exact q8 (R s' n5) λp1 p2 p3 p4 p5 p6=>(⟨by exact MJ q2 p1,by exact MJ q4 p3⟩)
noncomputable def nc(a b:J<|J B)(q:B×B×B×B):J (B×B×B):=Classical.choose<|gE.BU a b _ q.1 q.2.1 q.2.2.1 q.2.2.2<|aG _
theorem ru(a b:J<|J B)(q:B×B×B×B):gE a b q.1 q.2.1 q.2.2.1 q.2.2.2 (nc a b q):=KX<|gE.BU a b _ q.1 q.2.1 q.2.2.1 q.2.2.2<|aG _
theorem acW(h:aS<=aq\/aJ<=au):nc a b (aq,aS,au,aJ)=[]:=
 gE.unique (ru a b (aq,aS,au,aJ)) (.none<|BS h)
theorem acX(h:(jK a b aq aS au aJ).2.2=0):nc a b (aq,aS,au,aJ)=[]:=
 gE.unique (ru a b (aq,aS,au,aJ)) (.none h)
theorem acY{k:B}(h:jK a b aq aS au aJ=(i,j,k))(hk:0<k):
  nc a b (aq,aS,au,aJ)=nc a b (aq,i,au,j)++(i,j,k)::nc a b (i+k,aS,j+k,aJ):=
 gE.unique (ru a b (aq,aS,au,aJ)) (.some h hk (ru a b (aq,i,au,j))<|ru a b (i+k,aS,j+k,aJ))
noncomputable def mx(s:(B×B×B)×J (B×B×B)):J (B×B×B):=if s.1.2.2=0 then s.2 else s.2++[s.1]
noncomputable def ng(s:(B×B×B)×J (B×B×B))(b:B×B×B):(B×B×B)×J (B×B×B):=
 if s.1.1+s.1.2.2=b.1/\s.1.2.1+s.1.2.2=b.2.1 then((s.1.1,s.1.2.1,s.1.2.2+b.2.2),s.2) else(b,mx s)
noncomputable def pb(bs:J<|B×B×B):J (B×B×B):=mx<|bs.foldl ng ((0,0,0),[])
noncomputable def dU(f u:J<|J B):J (B×B×B):=nc f u (0,U f,0,U u)
noncomputable def gn(f u:J<|J B):J (B×B×B):=pb (dU f u)++[(U f,U u,0)]
theorem BV:∀(bs:J<|B×B×B) (s:(B×B×B)×J (B×B×B)),(bs.foldl ng s).2.length<=U s.2+U bs
 | []=>λs=>aG _
 |b::bs=>λs=>by
  refine cX (BV bs _) ?_
  have:(ng s b).2.length<=U s.2+1:=by
   unfold ng mx;split
   ·exact eM _
   ·dsimp only;split
    ·exact eM _
    ·rw[aK];exact aG _
  simp only[cK];exact WV this
theorem Pk:∀(l:J<|B×B×B) (lo n:B),(l.Pairwise λs s'=>s.1<s'.1)->(∀s∈l,lo<=s.1/\s.1<n)->U l<=n-lo
 | []=>λlo n H H=>bH _
 |s::l=>λlo n hp hb=>by
  obtain⟨G,h2⟩:=Aa.mp hp;have hs:=hb s<|vA ..;have:=Pk l (s.1+1) n h2 λt ht=>⟨G t ht,(hb t<|vz _ ht).2⟩
  simp only[cK];exact WU this hs
theorem Pl(f u:J<|J B):(dU f u).Pairwise λs s'=>s.1<s'.1:=by
 have h:=ru f u (0,U f,0,U u);refine J.Pairwise.imp_of_mem (λ{s t} hs ht gV=>?_) h.sorted;have:=h.inside s hs;exact WT this.2.2.2.2.1 gV
theorem G4(f u:J<|J B):U (dU f u)<=U f:=by
 have h:=ru f u (0,U f,0,U u);have:=Pk (dU f u) 0 (U f) (Pl f u) λs hs=>by
  have:=h.inside s hs;dsimp only at this;exact WR this.2.2.2.2.1 this.2.1
 assumption
end
end Mine.Internal
namespace Mine.Internal
open PySem PyProof.Rows
section
variable{n:B}{rows:J (J B)}{C:Cx}{st am:St}{x y z:J B}{ρ:J ax}{s:ay}{acc:J V}
noncomputable def lQ:B->ao
 |0=>"equal"
 |1=>"replace"
 |2=>"delete"
 |_=>"insert"
noncomputable abbrev b8:=B×B×B×B×B
noncomputable def h8(i ai j bj:B):J b8:=if i<ai then(if j<bj then[(1,i,ai,j,bj)] else[(2,i,ai,j,bj)]) else if j<bj then[(3,i,ai,j,bj)] else[]
noncomputable def k8(b:B×B×B):J b8:=if b.2.2=0 then[] else[(0,b.1,b.1+b.2.2,b.2.1,b.2.1+b.2.2)]
noncomputable def rv(s:(B×B)×J b8)(b:B×B×B):(B×B)×J b8:=((b.1+b.2.2,b.2.1+b.2.2),s.2++h8 s.1.1 b.1 s.1.2 b.2.1++k8 b)
noncomputable def fH(f u:J<|J B):J b8:=((gn f u).foldl rv ((0,0),[])).2
theorem G5:∀(bs:J<|B×B×B) (s:(B×B)×J b8),(bs.foldl rv s).2.length<=U s.2+2*U bs
 | []=>λs=>aG _
 |b::bs=>λs=>by
  refine cX (G5 bs _) ?_
  have G:U (h8 s.1.1 b.1 s.1.2 b.2.1)<=1:=by unfold h8;(repeat' split)<;>simp
  have h2:U (k8 b)<=1:=by unfold k8;split<;>simp
  have:(rv s b).2.length<=U s.2+2:=by
   unfold rv;simp only[aK];exact WZ G h2
  simp only[cK];exact WY this
theorem Pm(f u:J<|J B):U (gn f u)<=U f+2:=by
 have G:=BV (dU f u) ((0,0,0),[]);have h2:=G4 f u;simp only[iQ] at G;unfold gn pb mx;refine D aK ?_
 show _+1<=_;split
 ·exact WX G h2
 ·exact D aK<|WW G h2
noncomputable def my(n:B)(o:b8):b8:=(o.1,max o.2.1<|o.2.2.1-n,o.2.2.1,max o.2.2.2.1<|o.2.2.2.2-n,o.2.2.2.2)
noncomputable def jL(n:B)(o:b8):b8:=(o.1,o.2.1,min o.2.2.1<|o.2.1+n,o.2.2.2.1,min o.2.2.2.2<|o.2.2.2.1+n)
noncomputable def nh(n:B):J b8->J b8
 | []=>[]
 |o::l=>(if o.1=0 then my n o else o)::l
noncomputable def kE(n:B):J b8->J b8
 | []=>[]
 | [o]=>[if o.1=0 then jL n o else o]
 |o::o'::l=>o::kE n (o'::l)
noncomputable def codes(f u:J<|J B)(n:B):J b8:=kE n (nh n<|if(fH f u)=[] then[(0,0,1,0,1)] else fH f u)
noncomputable def jM(n:B):J b8->J b8->J (J b8)
 |cG,[]=>if cG=[]\/(U cG=1/\(cG.headD (0,0,0,0,0)).1=0) then[] else[cG]
 |cG,o::l=>if o.1=0/\o.2.1+(n+n)<o.2.2.1 then(cG++[jL n o])::jM n [my n o] l else jM n (cG++[o]) l
theorem Pn{cG:J b8}:jM n cG []=if cG=[]\/(U cG=1/\(cG.headD (0,0,0,0,0)).1=0) then[] else[cG]:=rfl
theorem uO{cG:J b8}{o:b8}{l:J b8}:jM n cG (o::l)=if o.1=0/\o.2.1+(n+n)<o.2.2.1 then(cG++[jL n o])::jM n [my n o] l else jM n (cG++[o]) l:=rfl
noncomputable def groups(f u:J<|J B)(n:B):J (J b8):=jM n []<|codes f u n
theorem Po:∀{l:J b8},U (nh n l)=U l
 | []=>rfl
 |_::_=>rfl
theorem Pp{n:B}:∀{l:J b8},U (kE n l)=U l
 | []=>rfl
 | [o]=>rfl
 |o::o'::l=>bA (· +1)<|Pp (l:=o'::l)
theorem G6{n:B}:∀(l:J b8) (o:b8),kE n (l++[o])=l++[if o.1=0 then jL n o else o]
 | []=>λo=>rfl
 | [a]=>λo=>rfl
 |a::b::l=>λo=>by
  show a::kE n (b::l++[o])=_;rw[G6 (b::l) o];rfl
theorem acZ(f u:J<|J B):U (fH f u)<=2*U f+4:=by
 have G:=G5 (gn f u) ((0,0),[]);have h2:=Pm f u;simp only[iQ] at G;exact W0 G h2
noncomputable def dw{α:Type}(l:J α)(i j:B):J α:=(l.drop i).take<|j-i
noncomputable def k9(f u:J<|J B)(o:b8):J (J B):=
 if o.1=0 then(dw f o.2.1 o.2.2.1).map (32:: ·)
 else(if o.1=1\/o.1=2 then(dw f o.2.1 o.2.2.1).map (45:: ·) else[])++(if o.1=1\/3<=o.1 then(dw u o.2.2.2.1 o.2.2.2.2).map (43:: ·) else[])
noncomputable def jw:b8:=(0,0,0,0,0)
noncomputable def BW(g:J b8)(e:J B):J B:=
 [64,64,32,45]++lN (g.headD jw).2.1 ((g.getLastD jw).2.2.1-(g.headD jw).2.1:az)++[32,43]++lN (g.headD jw).2.2.2.1 ((g.getLastD jw).2.2.2.2-(g.headD jw).2.2.2.1:az)++[32,64,64]++e
noncomputable def BX(pre name date e:J B):J B:=pre++name++(if date=[] then[] else 9::date)++e
noncomputable def rx(f u:J<|J B)(e:J B)(g:J b8):J (J B):=BW g e::g.flatMap (k9 f u)
noncomputable def fw(f u:J<|J B)(k:B)(f1 f2 d1 d2 e:J B):J (J B):=
 (if groups f u k=[] then[] else[BX [45,45,45,32] f1 d1 e,BX [43,43,43,32] f2 d2 e])++(groups f u k).flatMap (rx f u e)
noncomputable def GoodG(g:J b8):Prop:=g≠[]/\U g<=1000/\(g.headD jw).2.1<=(g.getLastD jw).2.2.1/\(g.getLastD jw).2.2.1<10 ^ 9/\(g.headD jw).2.2.2.1<=(g.getLastD jw).2.2.2.2/\(g.getLastD jw).2.2.2.2<10 ^ 9
noncomputable abbrev Piece:=B×B×J (J B)
noncomputable def ja(rows:J<|J B)(n k:B):bb:=(dw rows (k-n)<|k+n+1).any λr=>decide (r.headD 0≠32)
noncomputable def sT:J Piece->J B->J Piece
 | [],_=>[]
 | [p],r=>[(p.1,p.2.1,p.2.2++[r])]
 |p::q::l,r=>p::sT (q::l) r
noncomputable abbrev ry:=J Piece×B×B×bb
noncomputable def gb(rows:J<|J B)(n:B)(s:ry)(k:B):ry:=
 (if ja rows n k then sT (if s.2.2.2 then s.1 else s.1++[(s.2.1,s.2.2.1,[])]) (rows.getD k []) else s.1,
  if(rows.getD k []).headD 0=43 then s.2.1 else s.2.1+1,if(rows.getD k []).headD 0=45 then s.2.2.1 else s.2.2.1+1,ja rows n k)
noncomputable def lg(rows:J<|J B)(n:B)(ks:J B):ry:=ks.foldl (gb rows n) ([],0,0,false)
noncomputable def cZ(c:B)(l:J<|J B):B:=U<|l.filter λr=>decide (r.headD 0≠c)
noncomputable def lR(e:J B)(p:Piece):J (J B):=
 ([64,64,32,45]++lN (p.1:az) (cZ 43 p.2.2:B)++[32,43]++lN (p.2.1:az) (cZ 45 p.2.2:B)++[32,64,64]++e)::p.2.2
noncomputable def report(rows:J<|J B)(n:B)(G h2 e:J B):J (J B):=
 [G++e,h2++e]++(lg rows n<|eD<|U rows).1.flatMap (lR e)
theorem yG:∀(l:J Piece) (p:Piece) (r:J B),sT (l++[p]) r=l++[(p.1,p.2.1,p.2.2++[r])]
 | []=>λp r=>rfl
 | [a]=>λp r=>rfl
 |a::b::l=>λp r=>by
  show a::sT (b::l++[p]) r=_;exact D (yG (b::l) p r) rfl
structure G7(rows:J<|J B)(t:B)(s:ry):Prop where
 ins:s.2.2.2=true->s.1≠[]
 len:U s.1<=t
 shown:∀p∈s.1,U p.2.2<=t/\p.1<=t/\p.2.1<=t/\∀r∈p.2.2,r∈rows
 old:s.2.1<=t
 new:s.2.2.1<=t
theorem ac0{t:B}{s:ry}(h:G7 rows t s)(ht:t<U rows):G7 rows (t+1) (gb rows n s t):=by
 obtain⟨G,h2,h3,h4,h5⟩:=h;have key:∀l:J Piece,l≠[]->U l<=t+1->(∀p∈l,U p.2.2<=t/\p.1<=t/\p.2.1<=t/\∀r∈p.2.2,r∈rows)->sT l (rows.getD t [])≠[]/\U (sT l<|rows.getD t [])<=t+1/\∀p∈sT l (rows.getD t []),U p.2.2<=t+1/\p.1<=t+1/\p.2.1<=t+1/\∀r∈p.2.2,r∈rows:=λl hl hz hp=>by
  rcases rR l with h|⟨l',q,rfl⟩
  ·exact aY h hl
  rw[rS] at*;rw[yG];refine⟨by simp,by simpa using hz,λp hm=>?_⟩;rcases bK.mp hm with hm|hm
  ·exact gc (hp p<|bK.mpr<|.inl hm) λa b c d=>(⟨by exact ly ‹_›,by exact ly ‹_›,by exact ly ‹_›,d⟩)
  ·rw[bw] at hm;subst hm;refine gc (hp q<|bK.mpr<|.inr<|bw.mpr rfl) λa b c d=>?_
   refine⟨by refine D aK ?_;exact AM a,by show q.1<=_;exact ly ‹_›,by show q.2.1<=_;exact ly ‹_›,λr hr=>?_⟩;rcases bK.mp hr with hr|hr
   ·exact d r hr
   ·rw[bw] at hr;subst hr;refine D (c5)<|D (bO ht) ?_;exact nE _
 have base:s.1++[(s.2.1,s.2.2.1,([]:J<|J B))]≠[]/\U (s.1++[(s.2.1,s.2.2.1,([]:J<|J B))])<=t+1/\∀p∈s.1++[(s.2.1,s.2.2.1,([]:J<|J B))],U p.2.2<=t/\p.1<=t/\p.2.1<=t/\∀r∈p.2.2,r∈rows:=by
  refine⟨by simp,by simp;assumption,λp hm=>?_⟩;rcases bK.mp hm with hm|hm
  ·exact h3 p hm
  ·rw[bw] at hm;subst hm;exact⟨bH _,h4,h5,λr hr=>nomatch hr⟩
 unfold gb;cases hn:ja rows n t with
 |false=>
  refine D (aE dy) ?_
  refine⟨(λh=>nomatch h),by show U s.1<=_;exact ly ‹_›,λp hp=>?_,?_,?_⟩
  ·exact gc (h3 p hp) λa b c d=>(⟨by exact ly ‹_›,by exact ly ‹_›,by exact ly ‹_›,d⟩)
  ·dsimp only;split<;>lia
  ·dsimp only;split<;>lia
 |true=>
  refine D (aU rfl) ?_
  cases hi:s.2.2.2 with
  |true=>
   refine D (aU rfl)<|eh (key s.1 (G hi) (by exact ly ‹_›) h3) λa b c=>?_;exact⟨λH=>a,b,c,by dsimp only;split<;>lia,by dsimp only;split<;>lia⟩
  |false=>
   refine D (aE dy)<|eh (key _ base.1 base.2.1 base.2.2) λa b c=>?_;exact⟨λH=>a,b,c,by dsimp only;split<;>lia,by dsimp only;split<;>lia⟩
theorem BY{rows:J (J B)}{n:B}:∀t,t<=U rows->G7 rows t (lg rows n<|eD t)
 |0=>λH=>⟨(λh=>nomatch h),aG _,(λp hp=>nomatch hp),aG _,aG _⟩
 |t+1=>λh=>by
  have:=ac0 (n:=n) (BY (rows:=rows) (n:=n) t<|by exact lz ‹_›) h;unfold lg at this ⊢;exact D Ac<|D jS this
theorem EV.neg{e:bB}{p:cN}{a:az}(G:EV C n e st (.int a) am):EV C n (.UnaryOp .USub e p) st (.int<|-a) am:=.mk λA s ρ Q hA R h=>by
 refine wpAny_UnaryOp<|G.run A s ρ _ hA R λaB x s' N i=>(xE i λt av=>?_);clear i;subst av;exact neg_int<|h aB _ _ (N.trans<|gh N.rep _) ⟨_,rfl⟩
section
variable{q:B}{ba ce:St}
theorem aQ.wl{aiA:ak}{args:J V}{v:V}(h:cE C.toWd n aiA [] args [] v)(ha:aO (V.fe (λH=>false) args=true) a8)(hv:aO (v.bG (λH=>false)=true) a8):aQ C n aiA args st v st:=by
 obtain⟨l,hp⟩:=st;exact cE.front (hp:=[]) (aZ:=[]) (rest:=hp) h rfl (λH h=>by exact nomatch h) (λH h=>by exact nomatch h) (uG (λH h=>by exact aY h dy) ha)<|V.m5 (λH h=>by exact aY h dy) hv
theorem aQ.ac1(h0:U x<=1000000):aQ C n (.builtin "str.format") [.str<|ft "\t{}",.str<|tx x] st (.str<|tx<|9::x) st:=
 aQ.fmt (X':=⟨#[9,123,125]⟩) (Fm.cons (lit:=[9]) (rest:=[]) rfl ⟨rfl,h0⟩ rfl ⟨rfl,rfl⟩)
theorem Fm.two{L:B}{T T':J B}(G:U x<=1000000)(h2:U y<=1000000)(e:T++x++y=T')(hL:aO (((0:B)==L)=false) a8):Fm L [.str<|tx x,.str<|tx y] [123,125,123,125] T T':=
 Fm.cons (lit:=[]) (rest:=[123,125]) rfl ⟨rfl,G⟩ (D (cM T) rfl) (Fm.cons (lit:=[]) (rest:=[]) rfl ⟨rfl,h2⟩ (D (cM _) e) ⟨rfl,rfl⟩<|by rw[iQ,hL];rfl) (by rw[iQ,hL];rfl)
theorem aQ.ac2(h0:U x<=1000000)(G:U y<=1000000)(h2:U z<=1000000):aQ C n (.builtin "str.format") [.str<|ft "--- {}{}{}",.str<|tx x,.str<|tx y,.str<|tx z] st (.str<|tx<|[45,45,45,32]++x++y++z) st:=
 aQ.fmt (X':=⟨#[45,45,45,32,123,125,123,125,123,125]⟩) (Fm.cons (lit:=[45,45,45,32]) (rest:=[123,125,123,125]) rfl ⟨rfl,h0⟩ rfl<|Fm.two G h2 rfl)
theorem aQ.ac3(h0:U x<=1000000)(G:U y<=1000000)(h2:U z<=1000000):aQ C n (.builtin "str.format") [.str<|ft "+++ {}{}{}",.str<|tx x,.str<|tx y,.str<|tx z] st (.str<|tx<|[43,43,43,32]++x++y++z) st:=
 aQ.fmt (X':=⟨#[43,43,43,32,123,125,123,125,123,125]⟩) (Fm.cons (lit:=[43,43,43,32]) (rest:=[123,125,123,125]) rfl ⟨rfl,h0⟩ rfl<|Fm.two G h2 rfl)
theorem aQ.ac4(h0:U x<=1000000)(G:U y<=1000000)(h2:U z<=1000000):aQ C n (.builtin "str.format") [.str<|ft "@@ -{} +{} @@{}",.str<|tx x,.str<|tx y,.str<|tx z] st (.str<|tx<|[64,64,32,45]++x++[32,43]++y++[32,64,64]++z) st:=
 aQ.fmt (X':=⟨#[64,64,32,45,123,125,32,43,123,125,32,64,64,123,125]⟩) (Fm.cons (lit:=[64,64,32,45]) (rest:=[32,43,123,125,32,64,64,123,125]) rfl ⟨rfl,h0⟩ rfl<|Fm.cons (lit:=[32,43]) (rest:=[32,64,64,123,125]) rfl ⟨rfl,G⟩ rfl<|Fm.cons (lit:=[32,64,64]) (rest:=[]) rfl ⟨rfl,h2⟩ rfl ⟨rfl,rfl⟩)
end
noncomputable abbrev gZ(C:Cx)(scope:r9)(cl:J<|ao×ax)(L:ax):Cx:=⟨C.toWd,tY scope cl L C.env⟩
inductive qj(C:Cx)(n:B):J bB->St->bb->Prop
 |nil {st:St}:qj C n [] st true
 |one {c:bB} {st:St} {b:bb} (h:TV C n c st b st):qj C n [c] st b
theorem Rep.ac5{a:ax}{o:O}(R:Rep C ρ st s)(ho:o.Is C.w (ρ++[a]) s.heap a)(G:a∉ρ)(h3:C.top.objs.size<=a)(h2:a≠C.env.locals):Rep C (ρ++[a]) ⟨st.loc,st.hp++[o]⟩ s:=by
 have L:=R.led;refine⟨?_,⟨by simp only[aK,aK,L.len];rfl,λk o' b e q=>?_,?_,λh=>?_,λb h=>?_,L.gQ,L.top,L.os,L.drawn⟩⟩
 ·refine aH R.loc λm bT hm=>?_
  exact⟨m,bT,λx v e=>by obtain⟨y,hy,q⟩:=hm x v e;exact⟨y,hy,q.mono (gK ..)<|bF.refl _⟩⟩
 ·by_cases hk:k<U st.hp
  ·have e':st.hp[k]?=some o':=by exact bL e ((cA hk).symm)
   have q':ρ[k]?=some b:=by simp only[←q];exact(cA<|by refine D L.len ?_;exact hk).symm
   exact(L.objs k o' b e' q').mono (gK ..) (bF.refl _) rfl
  ·have bJ:k<U (st.hp++[o]):=(cJ.mp e).1;rw[aK] at bJ;have eS:k=U st.hp:=by simp at bJ;exact EW bJ hk
   subst eS;have e2:(st.hp++[o])[U st.hp]?=some o':=e;rw[dc<|aG _,fF] at e2;simp only[←L.len,dc<|aG _,fF] at q
   (have:=cj e2;clear e2;subst this);(have:=cj q;clear q;subst this)
   exact ho
 ·simp only[mF];exact⟨L.nodup,by simp,λx hx y hy e=>by rw[bw] at hy;subst hy;subst e;exact G hx⟩
 ·rcases bK.mp h with h|h
  ·exact L.fB h
  ·exact h2 (bw.mp h).symm
 ·rcases bK.mp h with h|h
  ·exact L.low b h
  ·simp only[bw.mp h];exact h3
theorem Rep.ac6{s':ay}(R:Rep C ρ st s)(k:∀b o,s.heap.get? b=some o->s'.heap.get? b=some o)(ho:s'.os=s.os)(hd:s'.drawn=s.drawn):Rep C ρ st s':=by
 have L:=R.led;refine⟨?_,⟨L.len,λj o b e q=>?_,L.nodup,L.fB,L.low,L.gQ,λb o e=>k b o<|L.top b o e,ho.trans L.os,hd.trans L.drawn⟩⟩
 ·refine aH R.loc λm bT hm=>?_
  exact⟨m,mi bT λo e=>k _ o e,λx v e=>by obtain⟨y,hy,q⟩:=hm x v e;exact⟨y,hy,q.mono (bP _)<|iB k⟩⟩
 ·have z:=L.objs j o b e q;exact aH z.there λx hx H=>(z.mono (bP _) (iB k)<|(k _ _ hx).trans hx.symm)
section
variable{aC:J ax}{scope:r9}{cl:J (ao×ax)}{L aiw:ax}{own:J ax}{At:B->bn->Prop}{s2 s':ay}{i:B}{l l' acc:J _}
structure CJ(C:Cx)(am:St)(aC:J ax)(L aiw:ax)(own:J ax)(s2:ay)(acc:J V)(s:ay):Prop where
 rep:Rep C aC am s
 out:∃vs c,s.heap.get? aiw=some ⟨.type "list",aA,.seq vs c,#[]⟩/\V.IsL aC s.heap acc vs.toList
 aX:bF s2.heap s.heap
 keep:∀b o,s2.heap.get? b=some o->b∉own->b∉aC->s.heap.get? b=some o
 gens:eN s2.gens s.gens
structure CF(C:Cx)(aC:J ax)(L aiw:ax)(own:J ax):Prop where
 nL:L∉aC
 nD:aiw∉aC
 LD:L≠aiw
 LC:L≠C.env.locals
 DC:aiw≠C.env.locals
 oL:L∉own
 oD:aiw∉own
 tL:C.top.get? L=aA
 own:∀a∈own,a∉aC/\a≠C.env.locals/\C.top.get? a=aA
theorem ac7(F:CF C aC L aiw own)(R:Rep C aC am s)(hl:uq (gZ C scope cl L) aC s.heap l):Rep (gZ C scope cl L) aC ⟨l,am.hp⟩ s:=
 ⟨hl,⟨R.led.len,R.led.objs,R.led.nodup,F.nL,R.led.low,F.tL,R.led.top,R.led.os,R.led.drawn⟩⟩
theorem CJ.next(F:CF C aC L aiw own)(gw:s2.heap.get? L=aA)(aiu:CJ C am aC L aiw own s2 acc s){aB:J ax}{l':J (ao×V)}(N:bk (gZ C scope cl L) aC s ⟨l',am.hp⟩ aB s'):aB=aC/\CJ C am aC L aiw own s2 acc s':=by
 have e:aB=aC:=(Ag N.pre<|by simp only[aiu.rep.led.len,N.rep.led.len]).symm;subst e;have R:=N.rep.led;refine⟨rfl,⟨⟨?_,⟨R.len,R.objs,R.nodup,aiu.rep.led.fB,R.low,aiu.rep.led.gQ,R.top,R.os,R.drawn⟩⟩,?_,aiu.aX.trans N.aX,λb o e G h2=>N.keep b o (aiu.keep b o e G h2) h2 (λq=>by subst q;rw[show s2.heap.get? _=aA from gw] at e;cases e),aiu.gens.trans N.gens⟩⟩
 ·refine aH aiu.rep.loc λm bT hm=>?_
  exact⟨m,mi bT λo e=>N.keep _ o e aiu.rep.led.fB<|ue F.LC,λx v e=>by obtain⟨y,hy,q⟩:=hm x v e;exact⟨y,hy,q.mono (bP _) N.aX⟩⟩
 ·exact dv aiu.out λvs c G h2=>(⟨vs,c,N.keep _ _ G F.nD<|ue F.LD,h2.mono (bP _) N.aX⟩)
theorem CJ.step(F:CF C aC L aiw own)(aiu:CJ C am aC L aiw own s2 acc s){h':bn}{t:B}(ext:jE own s.heap h')(aX:bF s.heap h'):CJ C am aC L aiw own s2 acc {s with heap:=h',toks:=t}:=by
 exact⟨aiu.rep.own F.own ext aX t,(dv aiu.out λvs c G h2=>(⟨vs,c,ext _ _ F.oD G,h2.mono (bP _) aX⟩)),aiu.aX.trans aX,λb o e G h2=>ext b o G<|aiu.keep b o e G h2,aiu.gens⟩
theorem CJ.push{acc:J V}{aiy:V}{y:ak}{A:bS}{Q:ak->ay->Prop}(F:CF C aC L aiw own)(aiu:CJ C am aC L aiw own s2 acc s)(hD2:s2.heap.get? aiw=aA)(hu:aiy.Is aC s.heap y)(tD:C.top.get? aiw=aA)(hz:U acc<=1000000)
  (h:∀h',iV aiw s.heap h'->CJ C am aC L aiw own s2 (acc++[aiy]) {s with heap:=h'}->Q .none {s with heap:=h'}):aF (aN C.prog C.w) A (call (.builtin "list.append") [.ref aiw,y]) Q bq s:=by
 refine dv aiu.out λvs c ho hi=>wpAny_call_entry slot_list_append ⟨_,ho,rfl⟩ entry_list_append ?_<|args_list_append _ _
 show aF _ _ (updateSeq aiw (·.push y) >>= λH=>ret .none) _ _ s;refine wpAny_bind ?_
 have hlen:vs.size<=km:=by simp only[←eO,dK hi];exact mn<|Nh hz
 refine xE (⟨_,rfl⟩:∃m',fX (·.push y) ⟨.type "list",aA,.seq vs c,#[]⟩=⟨.type "list",aA,.seq (vs.push y) m',#[]⟩) λm' e=>?_
 have sb:iV aiw s.heap (s.heap.update aiw<|fX (·.push y)):=iA ..;have gV:bF s.heap (s.heap.update aiw<|fX (·.push y)):=jY sb ho rfl;have ic:V.IsL aC (s.heap.update aiw<|fX (·.push y)) (acc++[aiy]) (vs.push y).toList:=by
  simp only[KG];exact V.IsL.append (hi.mono (bP _) gV) ⟨y,[],rfl,hu.mono (bP _) gV,rfl⟩
 refine wpAny_updateSeq ho rfl<|wpAny_pure ⟨.none,rfl,h _ sb ⟨?_,⟨vs.push y,m',(pO _ ho rfl).trans<|bA some e,ic⟩,aiu.aX.trans gV,λb o e G h2=>?_,aiu.gens⟩⟩
 ·exact aiu.rep.own (own:=[aiw]) (fM<|⟨F.nD,F.DC,tD⟩) (λb o hb e=>(sb.2 b λq=>hb<|bw.mpr q).trans e) gV s.toks
 ·refine(sb.2 b λq=>?_).trans<|aiu.keep b o e G h2;subst q;simp only[hD2] at e;exact nomatch e
theorem qj.go{ifs:J bB}{b:bb}(h:qj C n ifs st b){A:bS}{Q:bb->ay->Prop}(hA:cn n A)(R:Rep C ρ st s)(hq:∀aB s',bk C ρ s st aB s'->Q b s'):
  aF (aN C.prog C.w) A (forIn ifs true λc r=>if r=true then do let ok ←isTrue c C.env (eval c C.env);pure (AH ok) else pure<|AH r) Q bq s:=by
 cases h with
 |nil=>exact wpAny_tests_nil<|hq ρ s<|ek R
 |one h=>exact wpAny_tests_one<|h.run A s ρ _ hA R hq
end
end
namespace yH
noncomputable def ES(C:Cx)(n:B)(st:St)(am:St)(scope:r9)(items:J V)(aiw:St->Prop)(g:V->J V)(A:bS)(s:ay)(ρ:J ax)(Q:ak->ay->Prop)(x:ao):Prop:=∀(elt:bB),∀(iter:bB),∀(px:cN),∀(pos:cN),∀(yI:cN),∀(ifs:J bB),∀(v:V),∀(lo:B),∀(cl:J (ao×ax)),∀(use:bC (ak->dG fD)),(EV C n iter st v am)->(fC C n v am items aiw lo)->(aiw am)->(lo<=U am.hp)->(∀L aiy,aiy∈items->∃b,qj (gZ C scope cl L) n ifs ⟨[(x,aiy)],am.hp⟩ b/\((b=false/\g aiy=[])\/(b=true/\∃y,g aiy=[y]/\EV (gZ C scope cl L) n elt ⟨[(x,aiy)],am.hp⟩ y ⟨[(x,aiy)],am.hp⟩)))->(U (items.flatMap g)<=1000000)->(tX scope C.env=pure cl)->(∀y∈scope.names,y.2≠ .cell)->(scope.kind= .function)->(∀y∈scope.names,y.2= .local->scope.names.lookup y.1=some .local)->(scope.names.lookup x=some .local)->(∀x,pK iter C.env x=pure x)->(cn n A)->(Rep C ρ st s)->(∀(aB:J ax) (s':ay) (acc:ax) (L:ax) (m:ao->bC ak),bk C ρ s ⟨am.loc,am.hp++[.list (items.flatMap g)]⟩ aB s'->V.Is aB s'.heap (.ref (U am.hp)) (.ref acc)->L∉aB->L≠C.env.locals->C.top.get? L=aA->s.heap.get? L=aA->s'.heap.Ns L m->
   compPost (aN C.prog C.w) A bq use Q (.ref acc) L (.ok .next) s')->aF (aN C.prog C.w) A (comprehension (.ListComp elt [⟨.Name x px,iter,ifs,0⟩] scope pos) scope C.env yI (newList []) false (eval iter C.env) use) Q bq s
@[irreducible] noncomputable def EX:=nT aaT 0 ⟨[],[]⟩ ⟨[],[]⟩ default [] (λH=>gC) (λH=>[]) {} {} [] (λH H=>gC) default ES
noncomputable def C:=EX.1
noncomputable def n:=EX.2.1
noncomputable def st:=EX.2.2.1
noncomputable def am:=EX.2.2.2.1
noncomputable def scope:=EX.2.2.2.2.1
noncomputable def items:=EX.2.2.2.2.2.1
noncomputable def aiw:=EX.2.2.2.2.2.2.1
noncomputable def g:=EX.2.2.2.2.2.2.2.1
noncomputable def A:=EX.2.2.2.2.2.2.2.2.1
noncomputable def s:=EX.2.2.2.2.2.2.2.2.2.1
noncomputable def ρ:=EX.2.2.2.2.2.2.2.2.2.2.1
noncomputable def Q:=EX.2.2.2.2.2.2.2.2.2.2.2.1
noncomputable def x:=EX.2.2.2.2.2.2.2.2.2.2.2.2
theorem Ee:ES C n st am scope items aiw g A s ρ Q x:=λelt iter px pos yI ifs v lo cl use G h2 hD kr iX hz ni iD kF uP hx hs hA R G8=>by
 refine wpAny_comprehension_free (use:=use) rfl hs ni kF uP<|G.run A s ρ _ hA R λaC xv s1 N1 i1=>h2.run A s1 aC xv _ hA N1.rep i1 λit own At s2 hit self yJ dj N2=>?_;refine wpAny_newObj_type<|wpAny_newFunctionEnv iD (by intro y hy;simp at hy) (λh₁ G9 BZ=>?_) kF;dsimp only at G9 BZ ⊢;generalize Ha:s2.heap.push {cls:=.type "list",dict:=aA,data:=.seq ([]:J ak).toArray}=H2 at G9 BZ ⊢;have R2:=N2.rep;have Hb:H2.objs.size=s2.heap.objs.size+1:=by simp only[←Ha,jV]
 have pc:∀a,s2.heap.objs.size<=a->s2.heap.get? a=aA:=λa ha=>xW ha;have Pq:∀a,s2.heap.objs.size<=a->a∉aC:=λa ha q=>by
  refine mM (R2.toF.mem q) λH H ob H H H h3 H=>?_
  simp only[pc a ha] at h3;exact nomatch h3
 have Pr:∀a,s2.heap.objs.size<=a->a≠C.env.locals:=λa ha q=>by
  subst q;refine aH R2.loc λmm cq H=>eR cq λoL H H hL H=>?_
  simp only[pc _ ha] at hL;exact nomatch hL
 have ie:∀a,s2.heap.objs.size<=a->C.top.get? a=aA:=λa ha=>by
  cases e:C.top.get? a with
  |none=>rfl
  |some o=>have:=R2.led.top a o e;rw[pc a ha] at this;exact nomatch this
 have ac8:∀a∈own,∃o,s2.heap.get? a=some o:=(hit (.Name x px) lo<|aG _).2.1 0 s2.heap yJ;have Ps:∀a,s2.heap.objs.size<=a->a∉own:=λa ha q=>by
  refine xE (ac8 a q) λo e=>?_
  rw[pc a ha] at e;exact nomatch e
 have rz:s2.heap.objs.size<=H2.objs.size:=by simp only[Hb];exact eM _
 have F:CF C aC H2.objs.size s2.heap.objs.size own:=by
  refine⟨Pq _ rz,Pq _<|aG _,by refine D Hb ?_;exact Kh _,Pr _ rz,Pr _<|aG _,Ps _ rz,Ps _<|aG _,ie _ rz,λa ha=>?_⟩;have e:=dj a ha;refine⟨λq=>?_,λq=>?_,?_⟩
  ·refine mM (N1.rep.toF.mem q) λH H ob H H H h3 H=>?_
   simp only[e] at h3;exact nomatch h3
  ·subst q;refine aH N1.rep.loc λmm cq H=>eR cq λoL H H hL H=>?_
   simp only[show s1.heap.get? _=aA from e] at hL;exact nomatch hL
  ·cases q:C.top.get? a with
   |none=>rfl
   |some o=>have:=N1.rep.led.top a o q;rw[e] at this;exact nomatch this
 have old:∀b o,s2.heap.get? b=some o->h₁.get? b=some o:=λb o e=>BZ.extBut b o (λq=>by subst q;rw[pc _ rz] at e;cases e)<|dD _<|Ha▸dD _ e;have yK:At 0 h₁:=(hit (.Name x px) lo<|aG _).1 0 s2.heap h₁ yJ (λa H o e=>old a o e)<|iB old;have J0:CJ C am aC H2.objs.size s2.heap.objs.size own s2 [] {s2 with heap:=h₁,toks:=s2.toks+U ([]:J<|ao×ak)}:=by
  refine⟨R2.ac6 old rfl rfl,⟨#[],0,BZ.extBut _ _ (by simp only[Hb];exact iS<|tN _)<|dD _<|Ha▸ew _ rfl,rfl⟩,iB old,λb o e H H=>old b o e,eN.refl _⟩
 have l0:uq (gZ C scope cl H2.objs.size) aC h₁ []:=⟨_,G9,λx v e=>by exact nomatch e⟩
 have loop:codeAny (aN C.prog C.w) A (.compLoop (.ListComp elt [⟨.Name x px,iter,ifs,0⟩] scope pos) 0 it (.ref s2.heap.objs.size)<|tY scope cl H2.objs.size C.env)
   (compPost (aN C.prog C.w) A bq use Q (.ref s2.heap.objs.size) H2.objs.size) {s2 with heap:=h₁,toks:=s2.toks+U ([]:J<|ao×ak)}:=by
  refine codeAny_compLoop_tests (λm s'=>∃i l,m=U items-i/\i<=U items/\CJ C am aC H2.objs.size s2.heap.objs.size own s2 ((items.take i).flatMap g) s'/\uq (gZ C scope cl H2.objs.size) aC s'.heap l/\At i s'.heap) ?_ (U items)
   ⟨0,[],rfl,bH _,J0,l0,yK⟩
  intro m s' dM;refine pR dM λi l av hi aiu hl Gb=>?_
  clear dM;subst av;have Hc:∀a∈own,a≠H2.objs.size:=λa ha q=>F.oL<|q▸ha;have side:∀a∈own,a∉aC/\a≠C.env.locals/\C.top.get? a=aA:=F.own;have itn:=(hit (.Name x px) (U am.hp) kr).2.2 i A s' aC am
   (λs3=>compPost (aN C.prog C.w) A bq use Q (.ref s2.heap.objs.size) H2.objs.size (.ok .next) s3)
   (λy s3=>aF (aN C.prog C.w) A (assign (.Name x px) (tY scope cl H2.objs.size C.env) y) (λH s4=>
    aF (aN C.prog C.w) A (forIn ifs true λc r=>if r=true then do let ok ←isTrue c (tY scope cl H2.objs.size C.env) (eval c (tY scope cl H2.objs.size C.env));pure (AH ok) else pure (AH r)) (λok s5=>
     if ok=true then aF (aN C.prog C.w) A (eval elt<|tY scope cl H2.objs.size C.env) (λz s6=>aF (aN C.prog C.w) A (call (.builtin "list.append") [.ref s2.heap.objs.size,z]) (λH s7=>∃m,m<U items-i/\∃i l,m=U items-i/\i<=U items/\CJ C am aC H2.objs.size s2.heap.objs.size own s2 ((items.take i).flatMap g) s7/\uq (gZ C scope cl H2.objs.size) aC s7.heap l/\At i s7.heap) bq s6) bq s5
     else ∃m,m<U items-i/\∃i l,m=U items-i/\i<=U items/\CJ C am aC H2.objs.size s2.heap.objs.size own s2 ((items.take i).flatMap g) s5/\uq (gZ C scope cl H2.objs.size) aC s5.heap l/\At i s5.heap) bq s4) bq s3)
   hA aiu.rep (pG ..) hD Gb side ?_ ?_
  ·refine wpAny_mono itn (λr s3 h3=>?_) λH H h=>h.elim;cases r with
   |none=>exact h3
   |some y=>
    show aF _ _ (pure () >>= λH=>assign (.Name x px) (tY scope cl H2.objs.size C.env) y) _ _ _;refine wpAny_bind<|wpAny_mono h3 (λH s4 h4=>(wpAny_mono h4 (λH s5 h5=>wpAny_mono h5 (λok s6 h6=>?_) λH H h=>h.elim) λH H h=>h.elim)) λH H h=>h.elim;cases ok with
    |true=>exact wpAny_mono h6 (λz s7 h7=>wpAny_mono h7 (λH H h=>h) λH H h=>h.elim) λH H h=>h.elim
    |false=>exact h6
  ·intro aiy hu y h' t at' ext aX iy;have bJ:i<U items:=(cJ.mp hu).1;have rA:(items.take<|i+1).flatMap g=(items.take i).flatMap g++g aiy:=by
    refine D qL<|D hu<|D kN ?_;simp
   have hlen:U ((items.take<|i+1).flatMap g)<=1000000:=by
    have:U (items.flatMap g)=U ((items.take<|i+1).flatMap g)+U ((items.drop<|i+1).flatMap g):=by
     simp only[←aK,←kN,rQ]
    exact aam this hz
   have J3:=aiu.step (t:=t) F ext aX;have pd:uq (gZ C scope cl H2.objs.size) aC h' l:=by
    refine aH hl λm bT hm=>?_
    exact⟨m,mi bT λo e=>ext _ o F.oL e,λx v e=>by obtain⟨y,hy,q⟩:=hm x v e;exact⟨y,hy,q.mono (bP _) aX⟩⟩
   have Ri:=ac7 F J3.rep pd;refine(bW (C:=gZ C scope cl H2.objs.size) (n:=n) kF<|lookup_relabel_local hx).run A _ aC y _ hA Ri iy λeX s4 N4=>xA (J3.next F (pc _ rz) N4) λav J4=>?_
   subst av;have R4:Rep (gZ C scope cl H2.objs.size) eX ⟨[(x,aiy)],am.hp⟩ s4:=by
    refine⟨(aH N4.rep.loc λm bT hm=>(⟨m,bT,λz v e=>hm z v ?_⟩)),⟨N4.rep.led.len,N4.rep.led.objs,N4.rep.led.nodup,N4.rep.led.fB,N4.rep.led.low,N4.rep.led.gQ,N4.rep.led.top,N4.rep.led.os,N4.rep.led.drawn⟩⟩;rw[gv] at e;refine D gv ?_
    cases q:z==x with
    |true=>rw[q] at e;exact e
    |false=>rw[q] at e;exact nomatch e
   have ac9:At (i+1) s4.heap:=(hit (.Name x px) lo<|aG _).1 (i+1) h' s4.heap at' (λa ha o e=>N4.keep a o e (F.own a ha).1<|Hc a ha) N4.aX;refine aH (iX H2.objs.size aiy<|dT hu) λb ada hb=>ada.go hA R4 λGw s5 N5=>xA (J4.next F (pc _ rz) N5) λav J5=>?_
   subst av;have Pt:At (i+1) s5.heap:=(hit (.Name x px) lo<|aG _).1 (i+1) s4.heap s5.heap ac9 (λa ha o e=>N5.keep a o e (F.own a ha).1<|Hc a ha) N5.aX;rcases hb with ⟨rfl,hg⟩|⟨rfl,z,hg,he⟩
   ·exact⟨U items-(i+1),by exact Fk bJ,i+1,_,rfl,bJ,by simp only[rA,hg,cM];exact J5,N5.rep.loc,Pt⟩
   ·refine he.run A s5 Gw _ hA N5.rep λρ6 zv s6 N6 iz=>xA (J5.next F (pc _ rz) N6) λav J6=>?_
    subst av;have adb:At (i+1) s6.heap:=(hit (.Name x px) lo<|aG _).1 (i+1) s5.heap s6.heap Pt (λa ha o e=>N6.keep a o e (F.own a ha).1<|Hc a ha) N6.aX;refine J6.push F (pc _<|aG _) iz (ie _<|aG _) (by simp only[rA,aK] at hlen;exact aal hlen) λh7 uQ J7=>?_
    refine⟨U items-(i+1),by exact Fk bJ,i+1,[(x,aiy)],rfl,bJ,by simp only[rA,hg];exact J7,?_,?_⟩
    ·refine aH N6.rep.loc λm bT hm=>?_
     exact⟨m,mi bT λo e=>(uQ.2 _ F.LD).trans e,λx v e=>by obtain⟨y,hy,q⟩:=hm x v e;exact⟨y,hy,q.mono (bP _) (by
      exact dv J6.out λvs c ho H=>jY uQ ho rfl)⟩⟩
    ·exact(hit (.Name x px) lo (aG _)).1 (i+1) s6.heap h7 adb (λa ha o e=>(uQ.2 a (λq=>F.oD (q▸ha))).trans e) (by
      exact dv J6.out λvs c ho H=>jY uQ ho rfl)
  ·intro hu h' t ext aX;have he:i=U items:=DS hi<|ot.mp hu;subst he;simp only[pH] at aiu;have J3:=aiu.step (t:=t) F ext aX;refine aH hl λm bT hm=>?_
   have hn5:h'.Ns H2.objs.size m:=mi bT λo e=>ext _ o F.oL e;refine dv J3.out λvs c ho hiL=>?_
   have N5:bk C aC s1 ⟨am.loc,am.hp++[.list<|items.flatMap g]⟩ (aC++[s2.heap.objs.size]) {s' with heap:=h',toks:=t}:=by
    refine⟨gK ..,N2.aX.trans J3.aX,λb o e G h2=>?_,λa ha mW=>?_,N2.gens.trans J3.gens,J3.rep.ac5 ⟨vs,c,ho,hiL.mono (gK ..)<|bF.refl _⟩ F.nD R2.toF.size F.DC⟩
    ·have e2:=N2.keep b o e G h2;have hb:b∉own:=λq=>by simp only[dj b q] at e;exact nomatch e
     exact J3.keep b o e2 hb G
    ·rcases bK.mp ha with q|q
     ·exact aY q mW
     ·refine D (bw.mp q) ?_
      cases e:s1.heap.get? s2.heap.objs.size with
      |none=>rfl
      |some o=>have:=N2.keep _ o e F.nD F.DC;rw[pc _<|aG _] at this;exact nomatch this
   refine G8 (aC++[s2.heap.objs.size]) _ _ _ m (N1.trans N5) ⟨_,by simp only[←R2.led.len,dc<|aG _,fF];rfl,rfl⟩ (λq=>?_) F.LC F.tL ?_ hn5
   ·rcases bK.mp q with q|q
    ·exact F.nL q
    ·exact F.LD<|bw.mp q
   ·cases e:s.heap.get? H2.objs.size with
    |none=>rfl
    |some o=>
     have:=(N1.trans N2).keep _ o e (λq=>F.nL<|(N1.trans N2).pre.subset q) F.LC;rw[pc _ rz] at this;exact nomatch this
 refine codeAny_compStart_list loop<|self 0 _ _ _ yK loop |> λq=>wpAny_mono q (λH H h=>h) λH H h=>h.elim
end yH
section
variable{C:Cx}{n lo:B}{st am:St}{elt iter:bB}{px pos:cN}{ifs:J bB}{scope:r9}{items:J V}{aiw:St->Prop}{w:bx}{l m:J (J B)}
theorem Pu{x:ao}{yI:cN}{v:V}(cl:J<|ao×ax)(g:V->J V)(use:bC<|ak->dG fD)
  (G:EV C n iter st v am) (h2:fC C n v am items aiw lo) (hD:aiw am) (kr:lo<=U am.hp)
  (iX:∀L aiy,aiy∈items->∃b,qj (gZ C scope cl L) n ifs ⟨[(x,aiy)],am.hp⟩ b/\((b=false/\g aiy=[])\/(b=true/\∃y,g aiy=[y]/\EV (gZ C scope cl L) n elt ⟨[(x,aiy)],am.hp⟩ y ⟨[(x,aiy)],am.hp⟩)))
  (hz:U (items.flatMap g)<=1000000)
  (ni:tX scope C.env=pure cl) (iD:∀y∈scope.names,y.2≠ .cell) (kF:scope.kind= .function) (uP:∀y∈scope.names,y.2= .local->scope.names.lookup y.1=some .local) (hx:scope.names.lookup x=some .local)
  (hs:∀x,pK iter C.env x=pure x)
  (A:bS) (s:ay) (ρ:J ax) (Q:ak->ay->Prop) (hA:cn n A) (R:Rep C ρ st s)
  (G8:∀(aB:J ax) (s':ay) (acc:ax) (L:ax) (m:ao->bC ak),bk C ρ s ⟨am.loc,am.hp++[.list (items.flatMap g)]⟩ aB s'->V.Is aB s'.heap (.ref (U am.hp)) (.ref acc)->L∉aB->L≠C.env.locals->C.top.get? L=aA->s.heap.get? L=aA->s'.heap.Ns L m->
   compPost (aN C.prog C.w) A bq use Q (.ref acc) L (.ok .next) s'):
  aF (aN C.prog C.w) A (comprehension (.ListComp elt [⟨.Name x px,iter,ifs,0⟩] scope pos) scope C.env yI (newList []) false (eval iter C.env) use) Q bq s:=(show yH.ES C n st am scope items aiw g A s ρ Q x by with_unfolding_all exact oK yH.ES yH.EX rfl yH.Ee _ _ _ _ _ _ _ _ _ _ _ _ _) elt iter px pos yI ifs v lo cl use G h2 hD kr iX hz ni iD kF uP hx hs hA R G8
theorem bk.off{ρ aB:J ax}{s s':ay}{aj:St}{L:ax}{m:ao->bC ak}{h':bn}(N:bk C ρ s aj aB s')(G:L∉aB)(h2:L≠C.env.locals)(h3:C.top.get? L=aA)(h4:s.heap.get? L=aA)(hn:s'.heap.Ns L m)(sb:iV L s'.heap h'):bk C ρ s aj aB {s' with heap:=h'}:=by
 have Bv:bF s'.heap h':=by
  exact lH hn λoL es ep ho hd H=>(jY sb ho<|AJ hd)
 exact bk.own (own:=[L]) N (fM<|⟨G,h2,h3⟩) (fM h4) (λb o hb e=>(sb.2 b λq=>hb<|bw.mpr q).trans e) Bv s'.toks
theorem Pv{x:ao}{v:V}(cl:J<|ao×ax)(g:V->J V)
  (G:EV C n iter st v am) (h2:fC C n v am items aiw lo) (hD:aiw am) (kr:lo<=U am.hp)
  (iX:∀L aiy,aiy∈items->∃b,qj (gZ C scope cl L) n ifs ⟨[(x,aiy)],am.hp⟩ b/\((b=false/\g aiy=[])\/(b=true/\∃y,g aiy=[y]/\EV (gZ C scope cl L) n elt ⟨[(x,aiy)],am.hp⟩ y ⟨[(x,aiy)],am.hp⟩)))
  (hz:U (items.flatMap g)<=1000000)
  (ni:tX scope C.env=pure cl) (iD:∀y∈scope.names,y.2≠ .cell) (kF:scope.kind= .function) (uP:∀y∈scope.names,y.2= .local->scope.names.lookup y.1=some .local) (hx:scope.names.lookup x=some .local)
  (hs:aO (∀x,pK iter C.env x=pure x) aI._auto_1):
  EV C n (.ListComp elt [⟨.Name x px,iter,ifs,0⟩] scope pos) st (.ref<|U am.hp) ⟨am.loc,am.hp++[.list<|items.flatMap g]⟩:=.mk λA s ρ Q hA R h=>by
 simp only[eval_ListComp];exact Pu cl g aA G h2 hD kr iX hz ni iD kF uP hx hs A s ρ Q hA R λaB s' acc L m N i n1 n2 n3 n4 hn=>⟨m,hn,λh' sb=>h aB _ _ (N.off n1 n2 n3 n4 hn sb) i⟩
theorem adc{q:B}{x y:ao}{py yL:cN}{v:V}{K:Fl->St->Prop}(cl:J<|ao×ax)(g:V->J V)
  (Hd:swapsWith (.ListComp elt [⟨.Name x px,iter,ifs,0⟩] scope pos) (some<|.Name y py) yL.line C.env=pure true)
  (G:EV C n iter st v am) (h2:fC C n v am items aiw lo) (hD:aiw am) (kr:lo<=U am.hp)
  (iX:∀L aiy,aiy∈items->∃b,qj (gZ C scope cl L) n ifs ⟨[(x,aiy)],am.hp⟩ b/\((b=false/\g aiy=[])\/(b=true/\∃y,g aiy=[y]/\EV (gZ C scope cl L) n elt ⟨[(x,aiy)],am.hp⟩ y ⟨[(x,aiy)],am.hp⟩)))
  (hz:U (items.flatMap g)<=1000000)
  (ni:tX scope C.env=pure cl) (iD:∀y∈scope.names,y.2≠ .cell) (kF:scope.kind= .function) (uP:∀y∈scope.names,y.2= .local->scope.names.lookup y.1=some .local) (hx:scope.names.lookup x=some .local)
  (hK:K .next (St.put ⟨am.loc,am.hp++[.list<|items.flatMap g]⟩ y<|.ref<|U am.hp))
  (hk:aO (C.env.scope.kind= .function) a8) (hy:aO (C.env.kindOf y=some .local) a8)
  (hs:aO (∀x,pK iter C.env x=pure x) aI._auto_1):
  X1 C n q (.Assign [.Name y py] (.ListComp elt [⟨.Name x px,iter,ifs,0⟩] scope pos) yL) st K:=.mk λA s ρ Q hA R k=>by
 refine D (exec_Assign_Name_used _ _ _ _ Hd)<|wpAny_bind<|wpAny_standAt<|wpAny_bind ?_;show aF _ A (do let _ ←comprehension (.ListComp elt [⟨.Name x px,iter,ifs,0⟩] scope pos) scope C.env _ (newList []) false (eval iter C.env) (some<|assign (.Name y py) C.env)) _ _ s;refine wpAny_bind<|wpAny_mono (Pu cl g (some<|assign (.Name y py) C.env) G h2 hD kr iX hz ni iD kF uP hx hs A s ρ (λH s'=>Q .next s') hA R λaB s' acc L m N i n1 n2 n3 n4 hn=>((bW (n:=n) hk hy).run A s' aB (.ref acc) _ hA N.rep i λbh s2 N2=>?_)) (λH s' hq=>wpAny_pure<|wpAny_pure hq) λH H e=>e;have e:bh=aB:=(Ag N2.pre<|by refine D N.rep.led.len<|D N2.rep.led.len ?_;rfl).symm;subst e;have sU:s2.heap.Ns L m:=mi hn λo e=>N2.keep _ o e n1 n2;exact⟨m,sU,λh' sb=>k bh .next _ _ _ hK ((N.trans N2).off n1 n2 n3 n4 sU sb).toS rfl⟩
section
variable{prog:du}{A:bS}{E:ak->ay->Prop}{s:ay}
theorem Pw{it t:ax}{items:bD ak}(cw:t≠it):∀(n i:B) (s:ay) (Q:J ak->ay->Prop),s.heap.IsListIter it t i->s.heap.IsList t items->i+n<=items.size->
  (∀h',h'.IsListIter it t (i+n)->iV it s.heap h'->Q ((items.toList.drop i).take n) {s with heap:=h'})->aF (aN prog w) A (draw (.ref it) n) Q E s
 |0,i,s,Q,hit,_,_,hQ=>by
  exact wpAny_pure (by simpa using hQ s.heap hit (iV.refl ..))
 |n+1,i,s,Q,hit,ht,hle,hQ=>by
  have bJ:i<items.size:=by exact ul hle
  refine wpAny_bind (wpAny_pyNext_list_item hit ht (x:=items[i]) (by simp[bJ]) λh₁ He yM=>(wpAny_bind<|wpAny_holding<|Pw cw n (i+1) _ _ He (ht.extBut yM.extBut cw) (xM hle) λHf ade adf=>wpAny_pure ?_));have hd:items.toList.drop i=items[i]::items.toList.drop (i+1):=by simp[vx,bJ]
  have:=hQ Hf (by refine D (show i+(n+1)=i+1+n by exact aan) ?_;exact ade)<|yM.trans adf;rw[hd,J.take_succ_cons] at this;exact this
theorem adg{t:ax}{items:bD ak}{Q:J ak->ay->Prop}(hh:A.handled=none)(ht:s.heap.IsList t items)
  (hQ:∀h',qW s.heap.objs.size s.heap h'->Q items.toList {s with heap:=h'}):aF (aN prog w) A (unpackItems (.ref t) items.size none) Q E s:=by
 have bJ:t≠s.heap.objs.size:=by obtain⟨o,ho,_⟩:=ht;exact iS<|dH ho
 refine wpAny_bind ?_
 ·
  refine wpAny_bind<|wpAny_specialOf ht.typeIs slot_list_iter.lookup<|wpAny_pure ?_;refine D (aE dy) ?_
  refine wpAny_bind<|wpAny_holding<|wpAny_pyIter_list ht ?_;have hp:∀o,(s.heap.push o).IsList t items:=λo=>by
   exact aH ht λob G r=>(⟨ob,dD _ G,r⟩)
  refine wpAny_bind<|wpAny_holding<|Pw bJ items.size 0 _ _ ⟨_,ew _ rfl,rfl,rfl⟩ (hp _) LW λh₁ He yM=>?_;have pZ:J.take items.size (J.drop 0 items.toList)=items.toList:=by
   exact D mG (qK<|by simp)
  refine D pZ<|D (aE<|by simp) ?_;have adh:h₁.IsList t items:=(hp _).extBut yM.extBut bJ;refine wpAny_bind (wpAny_holding<|wpAny_pyNext_list_end hh He adh (by simp) λHf adi=>?_);refine wpAny_ite_false rfl ?_
  refine wpAny_pure<|hQ Hf λb o hb e=>adi b o hb<|yM.extBut b o hb<|dD _ e
end
theorem c8.lst{elts:J bB}{k i:B}{p:cN}{vs:J V}(hi:st.hp[i]?=some (.list vs))(h:bU C n elts vs st am):c8 C n (.Tuple elts k p) (.ref i) st am:=.mk λA s ρ x Q hA R hv hq=>by
 rw[Ex];refine wpAny_bind<|wpAny_standAt ?_;unfold unpack;refine D h.star.1<|D h.star.2<|kn (mY R hi hv) λa ar av ha hl il=>?_;subst av;have hz:U vs=ar.size:=by rw[←eO,dK il]
 refine D hz<|wpAny_bind<|wpAny_holding<|adg hA.1 hl λh' he=>?_;have kp:∀b o,s.heap.get? b=some o->h'.get? b=some o:=λb o e=>he b o (iS<|dH e) e;have N1:=bk.grow (s':={s with heap:=h'}) R kp (eN.refl _) rfl rfl;exact h.go hA N1.rep (il.mono (bP _)<|iB kp) λbh s2 N2=>hq bh s2<|N1.trans N2
theorem all_eq{α:Type}[xm α](d:α):∀(l m:J α),U l=U m->(eD<|U l).all (λj=>decide (l.getD j d=m.getD j d))=decide (l=m):=by
 intro l m h;rw[sa,fW,ip];constructor
 ·intro hj;refine DF h λi G h2=>?_
  have:=dq<|hj i<|rW.mpr G;rw[c5,c5,bO G,bO h2] at this;exact this
 ·rintro rfl j _;exact dF rfl
theorem Px{ρ:J ax}{h:bn}{xs ys:bD ak}(hx:V.IsL ρ h (aw l) xs.toList)(hy:V.IsL ρ h (aw m) ys.toList)(A:bS)(s:ay):
  ∀j (G:j<xs.size) (h2:j<ys.size),SeqAt.EqAt A s xs[j] ys[j] (decide (l.getD j []=m.getD j [])):=λj G h2=>by
 have k1:j<U l:=by have:=dK hx;rw[en,eO] at this;exact mO G this
 have k2:j<U m:=by have:=dK hy;rw[en,eO] at this;exact mO h2 this
 have g1:(aw l)[j]?=some (.str<|tx l[j]):=by unfold aw;simp only[c6,bO k1];rfl
 have g2:(aw m)[j]?=some (.str<|tx m[j]):=by unfold aw;simp only[c6,bO k2];rfl
 refine EH (hx.get g1) λx e1 t i1=>EH (hy.get g2) λy e2 aiy i2=>?_
 simp only[jX,ia G] at e1;simp only[jX,ia h2] at e2
 (have:=cj e1;clear e1;subst this);(have:=cj e2;clear e2;subst this)
 simp only[i1,i2];intro prog w E Q hq;refine wpAny_eqBool_str ?_
 have:decide (tx l[j]=tx m[j])=decide (l.getD j []=m.getD j []):=by
  simp only[c5,c5,bO k1,bO k2];exact vD.mpr o8
 rw[this];exact hq
theorem a9.adj{i j:B}(hi:st.hp[i]?=some (.list<|aw l))(hj:st.hp[j]?=some (.list<|aw m)):a9 C n (iU .Eq) (.ref i) (.ref j) st (.bool<|decide (l=m)) st:=.mk λA s ρ x y Q hA R hx hy h=>by
 refine kn (mY R hi hx) λa vs av ha hl il=>?_
 subst av;refine kn (mY R hj hy) λb ws av hb hm im=>?_
 subst av;have z1:vs.size=U l:=by have:=dK il;rw[en,eO] at this;exact this
 have z2:ws.size=U m:=by have:=dK im;rw[en,eO] at this;exact this
 by_cases hz:U l=U m
 ·refine SeqAt.eq_listAt hl hm (by simp only[z1,z2,hz]) hA.units (Px il im _ _) ?_
  simp only[z1,all_eq [] l m hz];exact h ρ _ s (ek R) rfl
 ·refine SeqAt.eq_list_lengthsAt hl hm (by simp only[z1,z2];exact DO.mpr hz) hA.units ?_
  rw[fz λe=>hz<|by rw[e]] at h;exact h ρ _ s (ek R) rfl
theorem a9.yN{i j:B}(hi:st.hp[i]?=some (.list<|aw l))(hj:st.hp[j]?=some (.list<|aw m)):a9 C n (iU .NotEq) (.ref i) (.ref j) st (.bool<|!decide (l=m)) st:=.mk λA s ρ x y Q hA R hx hy h=>by
 refine kn (mY R hi hx) λa vs av ha hl il=>?_
 subst av;refine kn (mY R hj hy) λb ws av hb hm im=>?_
 subst av;have z1:vs.size=U l:=by have:=dK il;rw[en,eO] at this;exact this
 have z2:ws.size=U m:=by have:=dK im;rw[en,eO] at this;exact this
 by_cases hz:U l=U m
 ·refine SeqAt.RcNeAt.lists hl hm (by simp only[z1,z2,hz]) hA.units (Px il im _ _) _ _ bq Q ?_
  simp only[z1,all_eq [] l m hz];exact h ρ _ s (ek R) rfl
 ·refine SeqAt.RcNeAt.lists_lengths hl hm (by simp only[z1,z2];exact DO.mpr hz) hA.units _ _ bq Q ?_
  rw[fz λe=>hz<|by rw[e]] at h;exact h ρ _ s (ek R) rfl
section
variable{q:B}{hp tail sel:J O}
theorem jn.pick(hq:q<=U hp)(hc:gy hp)(ns:J B)(hn:ns.Nodup)(hs:ns.map (tail[·]?)=sel.map some)(v5:∀o∈sel,o.bG (λk=>decide (k<U hp))=true):
  ∃aiA g,(∀k,k<U hp->g k=true/\aiA k=k)/\(∀i t,ns[i]?=some t->g (U hp+t)=true/\aiA (U hp+t)=U hp+i)/\Cv q (fj q (U hp-q)++ns.map (U hp+ ·)) aiA g (hp++tail) (hp++sel):=by
 let ms:=fj q (U hp-q)++ns.map (U hp+ ·)
 have Hg:∀k,k<U hp->oY q ms k=true/\n6 q ms k=k:=λk hk=>by
  refine xA (BN (hp:=hp) hq) λG h2=>?_
  have G:=G k hk;have h2:=h2 k hk;unfold oY at h2 ⊢;unfold n6 at G ⊢
  by_cases Py:k<q
  ·simp[Py]
  ·have hm:k∈fj q (U hp-q):=xc.mpr ⟨by exact iR ‹_›,by exact Z3 hk⟩;rw[aE Py] at G ⊢;refine⟨?_,?_⟩
   ·simp only[D5,z6,ip];exact .inr<|JC _ hm
   ·(refine D (by show(fj q (U hp-q)++_).idxOf k=_;rw[J.idxOf_append,aU hm]:ms.idxOf k=(fj q<|U hp-q).idxOf k) ?_);exact G
 have ko:ms.Nodup:=by
  refine mF.mpr ⟨DB,?_,λa ha c hc=>?_⟩
  ·exact J.Pairwise.map _ (λH H h e=>h<|Z2 e) hn
  ·refine aH (fa.mp hc) λt H av=>?_
   subst av;have:=(xc.mp ha).2;exact Z1 this hq
 have uv:∀i t,ns[i]?=some t->oY q ms (U hp+t)=true/\n6 q ms (U hp+t)=U hp+i:=λi t e=>by
  have pe:U hp+t∈ms:=zX _<|fa.mpr ⟨t,dT e,rfl⟩;have uN:ms[U hp-q+i]?=some (U hp+t):=by
   rw[dc (by rw[z9];exact dZ _ _),z9,jx,c6,e];rfl
  unfold oY n6;refine D (aE<|Z0 hq)<|⟨?_,?_⟩
  ·simp only[D5,z6,ip];exact .inr pe
  ·have bJ:=(cJ.mp uN).1;have e2:=(cJ.mp uN).2;have:ms.idxOf (U hp+t)=U hp-q+i:=by
    exact bL e2<|DN ko _ bJ
   exact ZZ this hq
 refine⟨n6 q ms,oY q ms,Hg,uv,?_⟩;refine Cv.of (base:=hp.take q) (sel:=hp.drop q++sel) rfl rfl ko (λk h=>?_) (D (w6 hq) rfl) (by refine D gA ?_;exact Fj hq) ?_ ?_
 ·rcases bK.mp h with h|h
  ·exact(xc.mp h).1
  ·refine aH (fa.mp h) λt H av=>?_
   subst av;exact ZY hq
 ·refine D eL<|D eL<|congr (bA _ ?_) ?_
  ·apply xb;intro i;refine D (c6) (D (c6) (D (z8) ?_))
   by_cases hi:i<U hp-q
   ·refine D (Dw hi) ?_
    have hb:q+i<U hp:=by exact E0 hi
    simp only[vF,Am];refine D (cA hb)<|D (bO hb) ?_;rfl
   ·(refine D (rP<|by rw[z9];exact iR ‹_›)<|D (rP<|Nw hi) ?_);rfl
  ·refine D gM<|bL hs ?_;apply rT;intro t _;show(hp++tail)[U hp+t]?=_;rw[dc (dZ ..),jx]
 ·rw[←cm,rQ];refine oZ.same λo ho=>?_
  have:=(bK.mp ho).elim (hc o)<|v5 o;exact⟨O.m5 (λk hk=>(Hg k<|dq hk).1) this,(O.jC (λk hk=>(Hg k<|dq hk).2) this).symm⟩
end
section
variable{os:bM}{dr:cV}
theorem yO{os:bM}{dr:cV}{o:bc}{a L:ax}:sN (fr w os dr o a L):=by
 show tW<(bZ w.params).objs.size;exact B.lt_of_lt_of_eq (by decide:tW<319) (by kernel_rfl)
theorem rj.fc{C:Cx}{st:St}{k:B}{l:J (ao×V)}(hk:st.hp[k]?=some (.fc l)):rj C (.ref k) st "dict":=λs ρ x R hv=>by
 refine pR (BD R hk hv) λa bI av ha hd e1 e2=>?_
 subst av;exact⟨hd.typeIs,hd.mapOf.noDict⟩
theorem fJ{e:bB}{b c:bb}(h:TV C n e st b am)(hb:b=c):TV C n e st c am:=hb▸h
noncomputable def lS(f u:J<|J B):J O:=[.list<|aw f,.list<|aw u,.attrs<|jJ<|U<|keysOf u,.inst 242 2,.fc<|jI 5<|keysOf u]++ju u (keysOf u)++[.fY,.fY]
theorem qk(f u:J<|J B):U (lS f u)=7+U (keysOf u):=by
 exact D aK<|D aK<|D (bg _)<|nH _ _ _
theorem wm(f u:J<|J B):gy (lS f u):=by
 intro o ho;refine D (qk _ _) ?_
 rcases bK.mp ho with ho|h
 rcases bK.mp ho with h|h
 ·simp only[cu,g8,rX] at h;rcases h with rfl|rfl|rfl|rfl|rfl
  ·exact eY
  ·exact eY
  ·show((jJ<|U<|keysOf u).all λp=>p.2.bG λk=>decide (k<7+U (keysOf u)))=true;simp only[jJ,rs,sQ,oA,xi,V.ur,V.NX,V.NY,lF,xy,gP,ip];exact Xd
  ·exact dF Xc
  ·exact GV _ _ _ Xb
 ·refine aH (fa.mp h) λx H av=>?_
  subst av;exact Pc
 ·simp only[cu,g8,rX,or_self] at h;subst h;rfl
theorem Pz:∀(k:B) (l:J V),U (pairs k l)=U l
 |_,[]=>rfl
 |k,v::l=>by show U (pairs (k+1) l)+1=_;exact D (Pz _ _) rfl
theorem adk(p:B)(h:4<p):∀x∈([("b2j",.ref 4),("b",.ref 1),("self",.ref 3)]:J<|ao×V),x.2.bG (λk=>decide (k<p))=true:=by
 intro x hx;simp only[cu,g8,rX] at hx;rcases hx with rfl|rfl|rfl<;>exact dF (by omega)
theorem adl{α:Type}(A aiv:J α)(c d s:α){k:B}(hk:k<U A):((A++aiv++[c]).set k s).set (U A+U aiv) d=A.set k s++aiv++[d]:=by
 rw[cm,JD _ _ hk,zY _ _ (by rw[qM];exact dZ _ _),zY _ _<|by rw[qM];exact Xa];rw[qM,jx,fF,cm];rfl
end
end
namespace yP
noncomputable def ES(w:bx)(os:bM)(dr:cV)(n:B)(f:J<|J B)(u:J<|J B)(_ _ _ _ _ _ _:fD):Prop:=(U u<200)->cE (TW w os dr) (n+1) (.ref 188) [.list<|aw f,.list<|aw u,.attrs sQ,.inst 242 2] [.ref 3]
  (lS f u) .none
@[irreducible] noncomputable def EX:=nT oN default {} 0 [] [] () () () () () () () ES
noncomputable def w:=EX.1
noncomputable def os:=EX.2.1
noncomputable def dr:=EX.2.2.1
noncomputable def n:=EX.2.2.2.1
noncomputable def f:=EX.2.2.2.2.1
noncomputable def u:=EX.2.2.2.2.2.1
theorem Ee:ES w os dr n f u () () () () () () ():=λhz=>by
 refine m6 (Gp _) rfl (λxs hx=>?_) λL=>?_
 ·revert xs;exact sF λH=>rfl
 have cl:=qg w.params;have ge:=abf w.params;have be:=abk w.params;have gs:=abe w.params;have bs:=abj w.params;have gl:=qa w.params;have bl:=qc w.params;have B0:U (aw u)=U u:=bg ..;refine cY (EV.attr (k:=3) (d:=2) (l:=sQ) ah rfl rfl rfl cl (by kernel_rfl) (by kernel_rfl) wf λH h=>by cases h)<|jG EV.abF (cF.cons (kX (k:=3) (d:=2) (l:=sQ) ah rfl rfl cl (by kernel_rfl) (by kernel_rfl) OY)<|cF.cons bW cF.nil) ?_
 refine cg (nV 4 (items:=pairs 0 (aw u)) (aiw:=λaj=>aj.hp[1]?=some (.list (aw u))) (lo:=2) (am:=⟨[("b2j",.ref 4),("b",.ref 1),("self",.ref 3)],lO f u []⟩)
  (λi aj=>aj=⟨[("b2j",.ref 4),("b",.ref 1),("self",.ref 3)],lO f u (u.take i)⟩) (gS.enum (cB (cQ _) ge (dN _) be) ah rfl) rfl (λi aj hi hI=>by subst hI;rfl) (by decide) (bY rfl) (λi aiy aj hu hI=>?_) (λaj hI=>?_))
 ·subst hI;rw[Bo] at hu;unfold aw at hu;rw[c6] at hu;cases hq:u[i]? with
  |none=>rw[hq] at hu;cases hu
  |some x=>
  rw[hq] at hu;cases hu;refine D (iu _) ?_
  have hi:=(cJ.mp hq).1;have hlen:U (u.take i)=i:=by exact D gA<|W9 hi
  have m7:u.take (i+1)=u.take i++[x]:=by refine D qL<|D hq ?_;rfl
  have wb:=acO<|u.take i;have li:=Pd x<|u.take i;refine⟨_,c8.tup<|bU.cons bW<|bU.cons bW bU.nil,(D m7 ?_)⟩;have ko:=acK<|u.take i
  by_cases hx:x∈keysOf (u.take i)
  ·have uF:(jI 5<|keysOf<|u.take i).lookup (tx x)=some (.ref<|5+(keysOf<|u.take i).idxOf x):=by rw[BP,aU<|by simpa using hx]
   have bJ:=Ds.mpr hx;have cO:((lO f u<|u.take i)++[O.list []])[5+(keysOf<|u.take i).idxOf x]?=some (.list<|mw<|posOf x<|u.take i):=by
    (refine D (cA<|by rw[sR];exact E5 bJ) ?_)
    (refine D (dc<|by show 5<=_;exact dZ _ _) ?_)
    refine D (jx _ _) ?_
    refine D (c6)<|D (bO bJ)<|D (Dz bJ) ?_;rfl
   refine cY (jq ah (rj.fc (k:=4) rfl) (an ah<|an (eI aM) aM) (aQ.abI (k:=4) yO rfl uF<|by refine D (GU _ _) ?_;exact E4 hz hi hlen wb) Eg KI KJ) ?_
   refine eE (iE ah cO ah cO<|by unfold mw;rw[bg];exact E4 hz hi hlen li) ?_
   refine b7 (l':=[("b2j",.ref 4),("b",.ref 1),("self",.ref 3)]) (aZ:=lO f u (u.take i++[x])++[.list []]) (bp rfl) ?_ ?_
   ·show(lO f u (u.take i)++[O.list []]).set _ (O.list<|mw (posOf x<|u.take i)++[V.int i])=_
    (refine D (JD _ _<|by rw[sR];exact E5 bJ) ?_)
    unfold lO;rw[zY _ _ (by show 5<=_;exact dZ _ _),O8,aU (by simpa using hx),←acL ko hx,hlen,cm,cm];refine D (jx _ _) ?_
    unfold mw;refine D eL ?_;rfl
   ·exact jo (mt (l':=[("b2j",.ref 4),("b",.ref 1),("self",.ref 3)]) (by rw[sR];exact W8) (acN _ _ _) (λH H h=>h)<|adk _<|by rw[sR];exact dZ _ _) (bd rfl) (by rw[aK,sR];exact W7)
  ·have uF:(jI 5<|keysOf<|u.take i).lookup (tx x)=aA:=by rw[BP,aE<|by simpa using hx]
   have hxb:x∉u.take i:=λh=>hx<|O9.mpr h;have hm:U (lO f u<|u.take i)=5+U (keysOf<|u.take i):=sR ..;have cO:((lO f u (u.take i)++[O.list []]).set 4<|O.fc<|jI 5 (keysOf<|u.take i)++[(tx x,V.ref<|5+U (keysOf<|u.take i))])[5+U (keysOf<|u.take i)]?=some (.list []):=by
    refine D (zZ<|by exact W6) (D (dc<|by exact W5 hm)<|D hm<|D (fF _) ?_);rfl
   refine cY (jq ah (rj.fc (k:=4) rfl) (an ah<|an (eI aM) aM) (aQ.abK (k:=4) yO rfl uF<|by refine D (GU _ _) ?_;exact E4 hz hi hlen wb) Eg KI KJ) ?_
   refine b7 (l':=[("indices",.ref<|5+U (keysOf<|u.take i)),("i",.int i),("b2j",.ref 4),("b",.ref 1),("self",.ref 3)]) (aZ:=((lO f u (u.take i)++[O.list []]).set 4<|O.fc<|jI 5 (keysOf<|u.take i)++[(tx x,V.ref<|5+U (keysOf<|u.take i))])) (by refine bL hm ?_;exact bp rfl) (by refine bL hm ?_;rfl) ?_
   refine eE (iE ah cO ah cO<|bH _)<|b7 (l':=[("b2j",.ref 4),("b",.ref 1),("self",.ref 3)]) (aZ:=lO f u<|u.take i++[x]) (bp rfl) ?_<|bd rfl;show((lO f u (u.take i)++[O.list []]).set 4 _).set _ (O.list<|[]++[V.int i])=_;unfold lO;rw[O8,aE (by simpa using hx),←acM hx hxb,Pb,hlen];have PA:U (ju (u.take i)<|keysOf<|u.take i)=U (keysOf<|u.take i):=by unfold ju;exact D (bg _) rfl
   refine bL PA ?_
   exact(adl _ _ _ _ _<|by exact bY rfl).trans (by rw[PA,cm];rfl)
 ·subst hI;have he:U (pairs 0<|aw u)=U u:=by rw[Pz,B0]
  refine D he<|D pH<|bd ?_;have hm:U (lO f u u)=5+U (keysOf u):=sR ..;refine jG (EV.qe (cB (cQ _) gs (dN _) bs) aM gX.type<|gY.of aQ.OL) (cF.cons (kX (k:=3) (d:=2) (l:=rs) ah rfl rfl cl (by kernel_rfl) (by kernel_rfl) OZ)<|cF.cons bW cF.nil) ?_
  refine b7 (l':=[("b2j",.ref 4),("b",.ref 1),("self",.ref 3)]) (aZ:=[.list<|aw f,.list<|aw u,.attrs<|("bjunk",.ref<|5+U (keysOf u))::rs,.inst 242 2,.fc<|jI 5<|keysOf u]++ju u (keysOf u)++[.fY]) (bp rfl) (by refine bL hm ?_;rfl) ?_
  refine cY (EV.attr (k:=3) (d:=2) (l:=("bjunk",.ref<|5+U (keysOf u))::rs) ah rfl rfl rfl cl (by kernel_rfl) (by kernel_rfl) OW λH h=>by cases h) (lM (fu ah fG.none)<|jG (EV.qe (cB (cQ _) gs (dN _) bs) aM gX.type<|gY.of aQ.OL) (cF.cons (kX (k:=3) (d:=2) (l:=("bjunk",.ref<|5+U (keysOf u))::rs) ah rfl rfl cl (by kernel_rfl) (by kernel_rfl) aco)<|cF.cons bW cF.nil) ?_);have hi5:U (ju u<|keysOf u)=U (keysOf u):=by unfold ju;exact D (bg _) rfl
  refine b7 (l':=[("b2j",.ref 4),("b",.ref 1),("self",.ref 3)]) (aZ:=[.list<|aw f,.list<|aw u,.attrs<|jJ<|U<|keysOf u,.inst 242 2,.fc<|jI 5<|keysOf u]++ju u (keysOf u)++[.fY,.fY]) (bp rfl) ?_ ?_
  ·have e6:U (ju u (keysOf u)++[O.fY])+5=6+U (keysOf u):=by exact D aK (D hi5 W4)
   show[_,_,O.attrs<|("bpopular",V.ref<|U (ju u (keysOf u)++[O.fY])+5)::_,_,_]++(ju u (keysOf u)++[O.fY]++[O.fY])=_;rw[e6,cm,cm];rfl
  refine cY (fv (cB (cQ _) gl (dN _) bl) (an ah aM)<|p0 (k:=1) (l:=aw u) rfl<|by lia) ?_
  refine lM (kq (fu (EV.attr (k:=3) (d:=2) (l:=jJ<|U<|keysOf u) ah rfl rfl rfl cl (by kernel_rfl) (by kernel_rfl) OX λH h=>by cases h) kR)<|jm<|fJ (bV ah bz a9.ge_int)<|by refine D B0 ?_;exact fz<|by lia) ?_
  refine bd ⟨_,rfl,?_⟩;have:=Conv.drop (q:=4) (hp:=lS f u) (junk:=[]) (v:=.none) (by refine D (qk _ _) ?_;exact sr) (wm f u) rfl;rw[cM] at this;exact this
end yP
section
variable{w:bx}{os:bM}{dr:cV}{f u:J (J B)}
section
variable{n:B}
theorem adm:∀{w os dr n f u},yP.ES w os dr n f u () () () () () () ():=by with_unfolding_all exact oK yP.ES yP.EX rfl yP.Ee _ _ _ _ _ _ () () () () () () ()
end
section
variable{n:B}
theorem yQ{l:J (ao×V)}(h:(l.all λp=>p.2.bG λk=>decide (k<4))=true):∀o∈([.list<|aw f,.list<|aw u,.attrs l,.inst 242 2]:J O),o.bG (λk=>decide (k<4))=true:=by
 intro o ho;simp only[cu,g8,rX] at ho;rcases ho with rfl|rfl|rfl|rfl
 ·exact eY
 ·exact eY
 ·exact h
 ·rfl
theorem adn(hz:U u<200):cE (TW w os dr) (n+2) (.ref 181) [.list<|aw f,.list<|aw u,.attrs wk,.inst 242 2] [.ref 3,.ref 1] (lS f u) .none:=by
 refine m6 (Go _) rfl (λxs hx=>?_) λL=>?_
 ·revert xs;exact sG λH H=>rfl
 have cl:=qg w.params;refine eE dE (lM (bV ah (EV.attr (k:=3) (d:=2) (l:=wk) ah rfl rfl rfl cl (by kernel_rfl) (by kernel_rfl) wf λH h=>by exact nomatch h) a9.is_ref_none)<|jG ah (cF.cons (kX (k:=3) (d:=2) (l:=wk) ah rfl rfl cl (by kernel_rfl) (by kernel_rfl) wf) cF.nil)<|jG EV.none (cF.cons (kX (k:=3) (d:=2) ah rfl rfl cl (by kernel_rfl) (by kernel_rfl) yy)<|cF.cons (kX (k:=3) (d:=2) ah rfl rfl cl (by kernel_rfl) (by kernel_rfl) BG) cF.nil) ?_);refine jG EV.none (cF.cons (kX (k:=3) (d:=2) ah rfl rfl cl (by kernel_rfl) (by kernel_rfl) acn) cF.nil) ?_
 have ch:=adm (w:=w) (os:=os) (dr:=dr) (n:=n) (f:=f) (u:=u) hz;refine b7 (l':=[("self",.ref 3),("b",.ref 1)]) (aZ:=[.list<|aw f,.list<|aw u,.attrs sQ,.inst 242 2]) (bp rfl) rfl ?_
 refine eE (EV.rn (k:=3) (d:=2) (l:=sQ) ah rfl rfl cl (acj _) (Gp _).get rfl (Gp _).fd act aM (cE.same ch (by simp only[qk];exact sr) (yQ rfl) rfl) (by kernel_rfl)<|by kernel_rfl) ?_
 refine bd ⟨_,rfl,?_⟩;have:=Conv.drop (q:=4) (hp:=lS f u) (junk:=[]) (v:=.none) (by refine D (qk _ _) ?_;exact sr) (wm f u) rfl;rw[cM] at this;exact this
theorem ado(hz:U u<200):cE (TW w os dr) (n+3) (.ref 167) [.list<|aw f,.list<|aw u,.attrs uM,.inst 242 2] [.ref 3,.ref 0,.ref 1] (lS f u) .none:=by
 refine m6 (Gm _) rfl (λxs hx=>?_) λL=>?_
 ·revert xs;exact Gj λH H H=>rfl
 have cl:=qg w.params;refine eE dE ?_
 have c1:=(acI (w:=w) (os:=os) (dr:=dr) (n:=n+1) (f:=f) (u:=u))
 have c2:=adn (w:=w) (os:=os) (dr:=dr) (n:=n) (f:=f) (u:=u) hz;refine eE (EV.rn (k:=3) (d:=2) (l:=uM) ah rfl rfl cl (ach _) (Gn _).get rfl (Gn _).fd acq (an ah aM) (cE.same c1 (aG _) (yQ rfl) rfl) (by kernel_rfl)<|by kernel_rfl) ?_
 refine eE (EV.rn (k:=3) (d:=2) (l:=wk) ah rfl rfl cl (aci _) (Go _).get rfl (Go _).fd acr (an ah aM) (cE.same c2 (by simp only[qk];exact sr) (yQ rfl) rfl) (by kernel_rfl)<|by kernel_rfl) ?_
 refine bd ⟨_,rfl,?_⟩;have:=Conv.drop (q:=4) (hp:=lS f u) (junk:=[]) (v:=.none) (by refine D (qk _ _) ?_;exact sr) (wm f u) rfl;rw[cM] at this;exact this
end
section
variable{n:B}
noncomputable def adp(P:aP):bD ak:=match (Fq P).data with| .seq x _=>x|_=>#[]
theorem adq(hz:U u<200):cE (TW w os dr) (n+4) (.ref 160) [.list<|aw f,.list<|aw u,.attrs [],.inst 242 2] [.ref 3,.none,.ref 0,.ref 1] (lS f u) .none:=by
 have aiw:=Oq w.params;refine cE.N8 aiw.get aiw.fd rfl aiw.code (noLimit _) (names:=["self","isjunk","a","b","autojunk"]) (Td:=153) (od:=Fq w.params) (items:=adp w.params) (m:=0) (ds:=[.bool true]) (xd:=[.bool true]) (by kernel_rfl) (by kernel_rfl) (by kernel_rfl) (λρ h=>⟨_,[],rfl,rfl,rfl⟩) (λxs hx=>?_) aiw.nd aiw.cell aiw.loc λL=>?_
 ·revert xs;exact yk λH H H H=>rfl
 have cl:=qg w.params;refine eE dE (jG ah (cF.cons (kX (k:=3) (d:=2) (l:=[]) ah rfl rfl cl (by kernel_rfl) (by kernel_rfl) OW) cF.nil)<|jG EV.none (cF.cons (kX (k:=3) (d:=2) ah rfl rfl cl (by kernel_rfl) (by kernel_rfl) yx)<|cF.cons (kX (k:=3) (d:=2) ah rfl rfl cl (by kernel_rfl) (by kernel_rfl) wf) cF.nil)<|jG ah (cF.cons (kX (k:=3) (d:=2) ah rfl rfl cl (by kernel_rfl) (by kernel_rfl) OX) cF.nil) ?_);have c2:=ado (w:=w) (os:=os) (dr:=dr) (n:=n) (f:=f) (u:=u) hz;refine b7 (l':=[("self",.ref 3),("a",.ref 0),("b",.ref 1)]) (aZ:=[.list<|aw f,.list<|aw u,.attrs uM,.inst 242 2]) (bp rfl) rfl ?_
 refine eE (EV.rn (k:=3) (d:=2) (l:=uM) ah rfl rfl cl (acg _) (Gm _).get rfl (Gm _).fd acp (an ah<|an ah aM) (cE.same c2 (by refine D (qk _ _) ?_;exact sr) (yQ rfl) rfl) (by kernel_rfl)<|by kernel_rfl) ?_
 refine bd ⟨_,rfl,?_⟩;have:=Conv.drop (q:=4) (hp:=lS f u) (junk:=[]) (v:=.none) (by refine D (qk _ _) ?_;exact sr) (wm f u) rfl;rw[cM] at this;exact this
end
end
namespace TC
theorem nj:qU "type" "__getattribute__" "type.__getattribute__":=
 .of (owner:="type") (n:="__getattribute__") (by rw[typeLookup_type,builtinLookup_eq_fast];kernel_rfl) (by decide+kernel) (by decide+kernel) (by decide+kernel)
  (by first|exact .inl (by decide+kernel)|exact .inr<|by decide+kernel) (by rw[isSubtype_type];kernel_rfl)
theorem Hh:qR table "type.__getattribute__"=some ed.«type.__getattribute__»:=entryFor_of_tree (by kernel_rfl)
theorem Hi(a b:ak):l8 "type.__getattribute__" ⟨[a,b],[]⟩:=by unfold l8;kernel_rfl
theorem PB:ea (.type "type") "__new__"=pure (some<|.builtin "type.__new__"):=by rw[typeLookup_type,builtinLookup_eq_fast];kernel_rfl
theorem PC:typeOf (.builtin "type.__new__")=pure (.type "builtin_function_or_method"):=by show builtinType _=_;rw[builtinType_eq_fast];kernel_rfl
theorem PD:ea (.type "builtin_function_or_method") "__get__"=pure aA:=by rw[typeLookup_type,builtinLookup_eq_fast];kernel_rfl
theorem PE:ea (.type "tuple") "__new__"=pure (some<|.builtin "tuple.__new__"):=by rw[typeLookup_type,builtinLookup_eq_fast];kernel_rfl
theorem Hj:qU "staticmethod" "__get__" "staticmethod.__get__":=
 .of (owner:="staticmethod") (n:="__get__") (by rw[typeLookup_type,builtinLookup_eq_fast];kernel_rfl) (by decide+kernel) (by decide+kernel) (by decide+kernel)
  (by first|exact .inl (by decide+kernel)|exact .inr<|by decide+kernel) (by rw[isSubtype_type];kernel_rfl)
theorem adr:qR table "staticmethod.__get__"=some ed.«staticmethod.__get__»:=entryFor_of_tree (by kernel_rfl)
theorem PF(a b c:ak):l8 "staticmethod.__get__" ⟨[a,b,c],[]⟩:=by unfold l8;kernel_rfl
theorem ads(a b c d:ak):l8 "object.__init__" ⟨[a,b,c,d],[]⟩:=by
 refine D (signature?_of (id:="object.__init__") (n:=['_','_','t','i','n','i','_','_']) (o:=['t','c','e','j','b','o']) (by kernel_rfl) F.owner_object) ?_;kernel_rfl
theorem adt:tT "object.__init__"=some .slot:=by kernel_rfl
theorem adu:splitId "object.__init__"=some ("object","__init__"):=by kernel_rfl
end TC
section
variable{E:ak->ay->Prop}{nm:ao}{c N sA fA:ax}{k0 k1 k2 k3 k5:bC ak}{mN mS:ao->bC ak}{Q:Fin->ay->Prop}{x y z:ak}
section
variable{M:du}{w:bx}{A:bS}{h:bn}{g:bD de}{d:cV}{t:B}{os:bM}
noncomputable def dW(nm q:ao)(c N:ax)(k0 k1 k2 k3 k5:bC ak):bc:=
 {cls:=.type "type",dict:=aA,data:=.cls {name:=nm,bases:=[.type "tuple"],mro:=[.ref c,.type "tuple",.type "object"],ns:=N,qualname:=q,hasDict:=false,slotNames:=[],subclasses:=[],abstract:=false,collection:=aA,hasDel:=false},slots:=#[k0,k1,k2,k3,some .none,k5]}
variable{q:ao}
theorem B1{Q:J ak->ay->Prop}(hC:h.get? c=some (dW nm q c N k0 k1 k2 k3 k5))(hq:Q [.ref c,.type "tuple",.type "object"] ⟨h,g,d,t,os⟩):aF (aN M w) A (mroOf<|.ref c) Q E ⟨h,g,d,t,os⟩:=by
 unfold mroOf dW at*
 repeat (any_goals (first|assumption|wp_step))
theorem sV{base:ak}{Q:bb->ay->Prop}(hC:h.get? c=some (dW nm q c N k0 k1 k2 k3 k5))(hq:Q ([ud c,.type "tuple",.type "object"].contains base) ⟨h,g,d,t,os⟩):aF (aN M w) A (r0 (.ref c) base) Q E ⟨h,g,d,t,os⟩:=by
 unfold r0 dW at*
 repeat (any_goals (first|assumption|wp_step))
theorem adv{name:ao}{Q:bC ak->ay->Prop}(hC:h.get? c=some (dW nm q c N k0 k1 k2 k3 k5))(hn:h.Ns N mN)(hq:Q (mN name) ⟨h,g,d,t,os⟩):aF (aN M w) A (classOwn (.ref c) name) Q E ⟨h,g,d,t,os⟩:=by
 refine wpAny_bind ?_
 refine wpAny_bind<|wpAny_load hC<|wpAny_pure<|wpAny_nsGet hn hq
theorem ql{name:ao}{y:bC ak}{Q:bC ak->ay->Prop}(hC:h.get? c=some (dW nm q c N k0 k1 k2 k3 k5))(hn:h.Ns N mN)(hB:ea (.type "tuple") name=pure y)
  (hq:Q (match mN name with|some v=>some v|none=>y) ⟨h,g,d,t,os⟩):aF (aN M w) A (ea (.ref c) name) Q E ⟨h,g,d,t,os⟩:=by
 have yR:lookupAlong [.type "tuple",.type "object"] name=pure y:=by simp only[typeLookup_eq,F.mro_tuple] at hB;exact hB
 simp only[typeLookup_eq];refine wpAny_bind<|B1 hC ?_;rw[lookupAlong_cons];refine wpAny_bind<|adv hC hn ?_;cases hv:mN name with
 |some v=>rw[hv] at hq;exact wpAny_pure hq
 |none=>rw[hv] at hq;exact D yR<|wpAny_pure hq
theorem adw{tk:jg}(hC:h.get? c=some (dW nm q c N k0 k1 k2 k3 k5))(hn:h.Ns N mN)(hs:mN "__new__"=some (.ref sA))(lT:h.get? sA=some ⟨.type "staticmethod",aA,.fields #[.ref fA],#[]⟩)
  (gV:h.Ns r8 mS) (pf:mS "thirdparty.any"=aA)
  (hq:Q (.done<|.ret<|.ref fA) ⟨h,g,d,t,os⟩):aF (aN M w) A (ed.«type.__getattribute__» ⟨[.ref c,.str "__new__" tk],[]⟩) Q E ⟨h,g,d,t,os⟩:=by
 have hT:(⟨h,g,d,t,os⟩:ay).TypeIs (.ref c) "type":=⟨_,hC,rfl⟩
 have lU:(⟨h,g,d,t,os⟩:ay).TypeIs (.ref sA) "staticmethod":=⟨_,lT,rfl⟩
 have f1:=TC.PB;have f2:=TC.PC;have f3:=TC.PD;have f4:=TC.Hj.lookup;unfold ed.«type.__getattribute__»
 repeat (first|with_reducible refine wpAny_nsGet gV ?_|with_reducible refine ql hC hn TC.PE ?_|wp_step)
 refine D hs ?_
 have f5:=TC.PF (.ref sA) .none<|.ref c
 repeat (any_goals (first|assumption|wp_step))
 refine codeAny_call_builtin TC.Hj.plain TC.adr<|TC.Hj.check _ _ _ _ _ _ _ _ lU (TC.PF _ _ _) ?_
 repeat (any_goals (first|assumption|with_reducible refine wpAny_loadPart_at lT ?_|wp_step))
theorem adx{Q:ak->ay->Prop}(hC:h.get? c=some (dW nm q c N k0 k1 k2 k3 k5))(hn:h.Ns N mN)(hs:mN "__new__"=some (.ref sA))(lT:h.get? sA=some ⟨.type "staticmethod",aA,.fields #[.ref fA],#[]⟩)
  (gV:h.Ns r8 mS) (pf:mS "thirdparty.any"=aA)
  (hq:Q (.ref fA) ⟨h,g,d,t+1,os⟩):aF (aN M w) A (l7 (.ref c) "__new__") Q E ⟨h,g,d,t,os⟩:=by
 have hT:∀t,(⟨h,g,d,t,os⟩:ay).TypeIs (.ref c) "type":=λt=>⟨_,hC,rfl⟩
 have yS:=hT t;have lU:=hT<|t+1;have f2:=TC.nj.lookup;have f3:=TC.nj.bind<|.ref c;unfold l7
 repeat (any_goals (first|assumption|wp_step))
 refine codeAny_call_builtin TC.nj.plain TC.Hh<|TC.nj.check _ _ _ _ _ _ _ _ lU (TC.Hi _ _)<|adw hC hn hs lT gV pf ?_
 repeat (any_goals (first|assumption|wp_step))
theorem PG{Q:bC dm->ay->Prop}(hC:h.get? c=some (dW nm q c N k0 k1 k2 k3 k5))(hq:Q aA ⟨h,g,d,t,os⟩):aF (aN M w) A (Bind.madeBy<|.ref c) Q E ⟨h,g,d,t,os⟩:=by
 unfold Bind.madeBy;have i7:=hC;unfold dW at i7
 repeat (first|with_reducible refine B1 hC ?_|with_reducible refine wpAny_loadPart_at i7 ?_|wp_step)
 exact hq
theorem ady{a:ax}{dd:bC ax}{vs:bD ak}{n:B}{Q:fD->ay->Prop}(hC:h.get? c=some (dW nm q c N k0 k1 k2 k3 k5))(ha:h.get? a=some ⟨.ref c,dd,.seq vs n,#[]⟩)(hq:Q () ⟨h,g,d,t,os⟩):
  aF (aN M w) A (mI "object.__init__" ⟨[.ref a,x,y,z],[]⟩) Q E ⟨h,g,d,t,os⟩:=by
 have Hk:=TC.ads (.ref a) x y z;unfold mI;refine D TC.adt<|D TC.adu ?_
 repeat (first|with_reducible refine wpAny_loadPart_at ha ?_|with_reducible refine sV hC ?_|wp_step)
 exact hq
theorem adz{a:ax}{dd:bC ax}{vs:bD ak}{n:B}(hC:h.get? c=some (dW nm q c N k0 k1 k2 k3 k5))(hn:h.Ns N mN)(hi:mN "__init__"=aA)(ha:h.get? a=some ⟨.ref c,dd,.seq vs n,#[]⟩)(hq:Q (.done<|.ret .none) ⟨h,g,d,t,os⟩):
  aF (aN M w) A (ed.«object.__init__» ⟨[.ref a,x,y,z],[]⟩) Q E ⟨h,g,d,t,os⟩:=by
 unfold ed.«object.__init__»
 repeat (first|with_reducible refine wpAny_loadPart_at ha ?_|with_reducible refine ql hC hn init_tuple_lookup ?_|with_reducible refine PG hC ?_|wp_step)
 exact hq
theorem adA
  (hC:h.get? c=some (dW nm q c N k0 k1 k2 k3 k5)) (hn:h.Ns N mN) (hs:mN "__new__"=some (.ref sA)) (hi:mN "__init__"=aA) (lT:h.get? sA=some ⟨.type "staticmethod",aA,.fields #[.ref fA],#[]⟩)
  (gV:h.Ns r8 mS) (pf:mS "thirdparty.any"=aA)
  (hq:aF (aN M w) A (gO (.ref fA) [.ref c,x,y,z]) (λr s'=>∃a dd vs n,r= .ref a/\s'.heap.get? a=some ⟨.ref c,dd,.seq vs n,#[]⟩/\(s'.heap.get? c=some (dW nm q c N k0 k1 k2 k3 k5)/\s'.heap.Ns N mN)/\Q (.done<|.ret r) s') E ⟨h,g,d,t+1,os⟩):aF (aN M w) A (ed.«type.__call__» ⟨[.ref c,x,y,z],[]⟩) Q E ⟨h,g,d,t,os⟩:=by
 unfold ed.«type.__call__»;have i7:=hC
 repeat (first|refine wpAny_mono hq (λr s' hr=>?_) (λH H x=>x)|with_reducible refine B1 hC ?_|with_reducible refine wpAny_loadPart_at i7 ?_|with_reducible refine adx hC hn hs lT gV pf ?_|wp_step)
 refine Lm hr λa dd vs m av ha kW hQ=>?_
 clear hr;subst av;obtain⟨yT,qm⟩:=kW;obtain⟨h',g',d',t',B2⟩:=s';dsimp only at ha yT qm
 repeat (first|with_reducible refine wpAny_loadPart_at ha ?_|with_reducible refine sV yT ?_|with_reducible refine ql yT qm init_tuple_lookup ?_|wp_step)
 refine D hi ?_
 refine wpAny_holding<|wpAny_bind<|wpAny_of_eq (KR.bind _) ?_;refine wpAny_bind<|wpAny_call<|codeAny_call_builtin KR.plain F.entry_object_init<|ady yT ha<|adz yT qm hi ha ?_
 repeat (first|exact hQ|wp_step)
end
section
variable{M:du}{w:bx}{A:bS}{h:bn}{g:bD de}{d:cV}{t:B}{os:bM}
variable{q:ao}
theorem adB{rest:J ak}{Q:fD->ay->Prop}(hC:h.get? c=some (dW nm q c N k0 k1 k2 k3 k5))(hq:Q () ⟨h,g,d,t,os⟩):aF (aN M w) A (mI "type.__call__" ⟨.ref c::rest,[]⟩) Q E ⟨h,g,d,t,os⟩:=by
 have f3:=tc_sub;have hT:(⟨h,g,d,t,os⟩:ay).TypeIs (.ref c) "type":=⟨_,hC,rfl⟩
 unfold dW at hC;unfold mI;refine D tc_kind<|D tc_split ?_
 repeat (any_goals (first|assumption|with_reducible refine wpAny_loadPart_at hC ?_|with_reducible refine wpAny_onRaise ?_|with_reducible refine wpAny_map ?_|wp_step))
theorem adC{Q:ak->ay->Prop}
  (hC:h.get? c=some (dW nm q c N k0 k1 k2 k3 k5)) (hn:h.Ns N mN) (hs:mN "__new__"=some (.ref sA)) (hi:mN "__init__"=aA) (lT:h.get? sA=some ⟨.type "staticmethod",aA,.fields #[.ref fA],#[]⟩)
  (gV:h.Ns r8 mS) (pf:mS "thirdparty.any"=aA)
  (hq:aF (aN M w) (A.under<|.builtin "type.__call__" ⟨[.ref c,x,y,z],[]⟩) (gO (.ref fA) [.ref c,x,y,z]) (λr s'=>∃a dd vs n,r= .ref a/\s'.heap.get? a=some ⟨.ref c,dd,.seq vs n,#[]⟩/\(s'.heap.get? c=some (dW nm q c N k0 k1 k2 k3 k5)/\s'.heap.Ns N mN)/\Q r s') E ⟨h,g,d,t+1,os⟩):aF (aN M w) A (gO (.ref c) [x,y,z]) Q E ⟨h,g,d,t,os⟩:=by
 have f1:=tc_lookup;have f2:=tc_bind<|.ref c;have hT:(⟨h,g,d,t,os⟩:ay).TypeIs (.ref c) "type":=⟨_,hC,rfl⟩
 have i7:=hC;refine wpAny_call<|codeAny_of_tree ?_;show aF _ _ (callAny (.ref c) _) _ _ _
 repeat (any_goals (first|assumption|with_reducible refine wpAny_loadPart_at i7 ?_|wp_step))
 exact⟨rfl,codeAny_call_builtin_at (xw _<|by decide+kernel) entry_typeCall<|adB hC<|adA hC hn hs hi lT gV pf hq⟩
end
section
variable{C:Cx}{n:B}{st am ba ce:St}
theorem gX.tup{q:ao}(hC:C.top.get? c=some (dW nm q c N k0 k1 k2 k3 k5)):gX C (.val (.ref c)) st:=.mk λs ρ x R hx=>⟨.machine,by decide,λA Q hq=>by
 subst hx;have i7:=R.led.top _ _ hC;obtain⟨hh,g,d,t,os⟩:=s;have f1:=tc_lookup;have hT:(⟨hh,g,d,t,os⟩:ay).TypeIs (.ref c) "type":=⟨_,i7,rfl⟩
 repeat (any_goals (first|assumption|with_reducible refine wpAny_loadPart_at i7 ?_|with_reducible refine wpAny_load' i7 ?_|wp_step))
 all_goals first
  |exact hq
  |(rw[aU rfl];exact hq)⟩
end
end
namespace TC
theorem adD:typeOf (.builtin "tuple.__new__")=pure (.type "builtin_function_or_method"):=by show builtinType _=_;rw[builtinType_eq_fast];kernel_rfl
theorem B3:typeOf (.type "tuple")=pure (.type "type"):=by kernel_rfl
theorem adE:ed.heldUnderItsOwnName "__new__" (.builtin "tuple.__new__")=false:=by decide+kernel
theorem PH:withoutEnding? "tuple.__new__" "#data"=aA:=by decide+kernel
theorem adF:Manifest.isStub "tuple"=false:=by first|rfl|decide+kernel|kernel_rfl
end TC
section
variable{E Q:ak->ay->Prop}
section
variable{M:du}{w:bx}{A:bS}{h:bn}{g:bD de}{d:cV}{t:B}{os:bM}
theorem adG{tk:jg}{Q:Fin->ay->Prop}(hq:Q (.done<|.ret<|.builtin "tuple.__new__") ⟨h,g,d,t,os⟩):aF (aN M w) A (ed.«type.__getattribute__» ⟨[.type "tuple",.str "__new__" tk],[]⟩) Q E ⟨h,g,d,t,os⟩:=by
 have hT:(⟨h,g,d,t,os⟩:ay).TypeIs (.type "tuple") "type":=TC.B3;have lU:(⟨h,g,d,t,os⟩:ay).TypeIs (.builtin "tuple.__new__") "builtin_function_or_method":=TC.adD;have f1:=TC.PB;have f2:=TC.PC;have f3:=TC.PD;have f4:=TC.PE;have f6:=TC.adE;have f7:=TC.PH;have f8:=TC.adF;unfold ed.«type.__getattribute__»
 repeat (any_goals (first|assumption|wp_step))
theorem adH(hq:Q (.builtin "tuple.__new__") ⟨h,g,d,t+1,os⟩):aF (aN M w) A (l7 (.type "tuple") "__new__") Q E ⟨h,g,d,t,os⟩:=by
 have yS:(⟨h,g,d,t,os⟩:ay).TypeIs (.type "tuple") "type":=TC.B3;have lU:(⟨h,g,d,t+1,os⟩:ay).TypeIs (.type "tuple") "type":=TC.B3;have f2:=TC.nj.lookup;have f3:=TC.nj.bind<|.type "tuple";have f7:=TC.PH;have key:∀{R:Result->ay->Prop},R (.ok<|.ret<|.builtin "tuple.__new__") ⟨h,g,d,t+1,os⟩->codeAny (aN M w) A (.call (.builtin "type.__getattribute__") ⟨[.type "tuple",.str "__new__" t],[]⟩) R ⟨h,g,d,t+1,os⟩:=λhR=>
  codeAny_call_builtin TC.nj.plain TC.Hh (TC.nj.check _ _ _ _ _ _ _ _ lU (TC.Hi _ _)<|adG hR)
 unfold l7
 repeat (any_goals (first|assumption|wp_step))
 refine key ?_
 repeat (any_goals (first|assumption|wp_step))
theorem adI{Q:ak×J ak->ay->Prop}{pl:dG bb}(hq:Q (.builtin "tuple.__new__",[]) ⟨h,g,d,t+1,os⟩):aF (aN M w) A (getMethod (.type "tuple") "__new__" pl) Q E ⟨h,g,d,t,os⟩:=by
 have yS:(⟨h,g,d,t,os⟩:ay).TypeIs (.type "tuple") "type":=TC.B3;have f2:=TC.nj.lookup;have f9:(Manifest.canonical "type.__getattribute__"!="object.__getattribute__")=true:=by decide+kernel
 unfold getMethod
 repeat (any_goals (first|assumption|with_reducible refine adH ?_|wp_step))
end
section
variable{M:du}{w:bx}{A:bS}{h:bn}{g:bD de}{d:cV}{t:B}{os:bM}
variable{nm q:ao}{c N:ax}{k0 k1 k2 k3 k5:bC ak}
theorem adJ:ed.Slots.bestBase [.type "tuple"]=pure (.type "tuple"):=by first|rfl|kernel_rfl
@[reducible] noncomputable def adK(nm q:ao)(c N:ax):ClassData:={name:=nm,bases:=[.type "tuple"],mro:=[.ref c,.type "tuple",.type "object"],ns:=N,qualname:=q,hasDict:=false,slotNames:=[],subclasses:=[],abstract:=false,collection:=aA,hasDel:=false}
theorem adL{Q:ClassData->ay->Prop}(hC:h.get? c=some (dW nm q c N k0 k1 k2 k3 k5))(hq:Q (adK nm q c N) ⟨h,g,d,t,os⟩):aF (aN M w) A (classData c) Q E ⟨h,g,d,t,os⟩:=wpAny_bind<|wpAny_load hC<|wpAny_pure hq
theorem PI(hC:h.get? c=some (dW nm q c N k0 k1 k2 k3 k5))(hq:Q (.type "tuple") ⟨h,g,d,t,os⟩):aF (aN M w) A (Kr<|.ref c) Q E ⟨h,g,d,t,os⟩:=by
 have hb:=adJ;have hm:=En.made;have i7:=hC;unfold dW at i7;unfold Kr
 iterate 40 (try (first|exact hq|with_reducible refine B1 hC ?_|with_reducible refine PG hC ?_|with_reducible refine adL hC ?_|with_reducible refine wpAny_of_eq hb ?_|with_reducible refine wpAny_of_eq hm ?_|wp_step))
theorem adM{Q:fD->ay->Prop}(hC:h.get? c=some (dW nm q c N k0 k1 k2 k3 k5))(hq:Q () ⟨h,g,d,t,os⟩):aF (aN M w) A (Bind.madeHere "tuple.__new__"<|.ref c) Q E ⟨h,g,d,t,os⟩:=by
 exact wpAny_bind (PI hC<|wpAny_bind<|wpAny_of_eq En.made<|D (aE<|by simp)<|wpAny_pure hq)
theorem adN{mN:ao->bC ak}{tp:ax}{x y z:ak}{m:B}{Q:Fin->ay->Prop}(hC:h.get? c=some (dW nm q c N k0 k1 k2 k3 k5))(hn:h.Ns N mN)(hi:mN "__init__"=aA)
  (ie:h.get? tp=some ⟨.type "tuple",aA,.seq #[x,y,z] m,#[]⟩)
  (hq:∀h' e dd,(∀b o,h.get? b=some o->h'.get? b=some o)->h'.get? e=some ⟨.ref c,dd,.seq #[x,y,z] 0,#[]⟩->Q (.done<|.ret<|.ref e) ⟨h',g,d,t,os⟩):aF (aN M w) A (ed.«tuple.__new__» ⟨[.ref c,.ref tp],[]⟩) Q E ⟨h,g,d,t,os⟩:=by
 have i7:=hC
 iterate 60 (try (first|with_reducible refine wpAny_collect_seq tp (.inr rfl) ie rfl rfl (λh' hk=>?_) ?_|with_reducible refine adM hC ?_|with_reducible refine wpAny_loadPart_at i7 ?_|with_reducible refine sV hC ?_|with_reducible refine ql hC hn init_tuple_lookup ?_|wp_step))
 ·have k2:∀b o,h.get? b=some o->((h'.push {cls:=pP "dict",data:=Data.dict #[]}).push {cls:=ud c,dict:=some h'.objs.size,data:=Data.seq #[x,y,z].toList.toArray}).get? b=some o:=λb o e=>dD _<|dD _<|hk b o e;exact wpAny_load (k2 _ _ i7) (wpAny_pure<|D (aE λe:(false=true)=>by cases e)<|wpAny_pure<|wpAny_pure<|hq _ _ (some h'.objs.size) k2<|ew _ rfl)
 ·exact bY rfl
end
end
namespace TC
theorem adO:tT "tuple.__new__"=some .builtinFn:=by kernel_rfl
theorem adP:splitId "tuple.__new__"=some ("tuple","__new__"):=by kernel_rfl
theorem adQ:plainId "tuple.__new__"=true:=by decide+kernel
end TC
section
variable{w:bx}{os:bM}{mN:ao->bC ak}{C:Cx}{n i p:B}{st am:St}{v v':V}{e:bB}{aix:J O}
section
variable{M:du}{A:bS}{h:bn}{g:bD de}{d:cV}{t:B}{E:ak->ay->Prop}
variable{nm q:ao}{c N:ax}{k0 k1 k2 k3 k5:bC ak}
theorem adR{tp:ax}{Q:fD->ay->Prop}(hC:h.get? c=some (dW nm q c N k0 k1 k2 k3 k5))(hn:h.Ns N mN)(hi:mN "__init__"=aA)(hq:Q () ⟨h,g,d,t,os⟩):
  aF (aN M w) A (mI "tuple.__new__" ⟨[.ref c,.ref tp],[]⟩) Q E ⟨h,g,d,t,os⟩:=by
 have hm:=En.made;have i7:=hC;unfold mI;refine D TC.adO<|D TC.adP ?_
 iterate 40 (try (first|exact hq|with_reducible refine PI hC ?_|with_reducible refine wpAny_of_eq hm ?_|with_reducible refine wpAny_loadPart_at i7 ?_|with_reducible refine sV hC ?_|wp_step))
theorem adS{tp:ax}{x y z:ak}{m:B}{Q:ak->ay->Prop}(hC:h.get? c=some (dW nm q c N k0 k1 k2 k3 k5))(hn:h.Ns N mN)(hi:mN "__init__"=aA)
  (ie:h.get? tp=some ⟨.type "tuple",aA,.seq #[x,y,z] m,#[]⟩)
  (hq:∀h' e dd,(∀b o,h.get? b=some o->h'.get? b=some o)->h'.get? e=some ⟨.ref c,dd,.seq #[x,y,z] 0,#[]⟩->Q (.ref e) ⟨h',g,d,t,os⟩):aF (aN M w) A (gO (.builtin "tuple.__new__") [.ref c,.ref tp]) Q E ⟨h,g,d,t,os⟩:=
 wpAny_call (codeAny_call_builtin TC.adQ F.entry_tuple_new<|adR hC hn hi<|adN hC hn hi ie λh' e dd k1 k2=>hq h' e dd k1 k2)
end
section
variable{ba ce:St}
theorem aQ.uz{c N:ax}{nm q:ao}{k0 k1 k2 k3 k5:bC ak}{aiy r:V}(hC:C.top.get? c=some (dW nm q c N k0 k1 k2 k3 k5))(hn:C.top.Ns N mN)(hi:mN "__init__"=aA):
  aQ C n (.builtin "tuple.__new__") [.val<|.ref c,.tup (.type "tuple") [aiy,v,r]] st (.tup (.ref c) [aiy,v,r]) st:=.mk λA s ρ xs Q hA R aV h=>by
 refine cD aV λx0 r1 bE e0 bR=>?_
 clear aV;subst bE;refine cD bR λx1 r2 uI e1 i2=>?_
 clear bR;subst uI;obtain rfl:r2=[]:=i2;subst e0;refine oJ e1 λtc a vs m bE cO bR=>?_
 clear e1;subst bE;refine vS bR λy0 q1 e2 j0 y1 q2 BL=>uh BL λe3 j1 y2 q3 e4 j2 e5=>?_
 subst e3 e4 e5;have hv:vs=#[y0,y1,y2]:=t9 e2;subst hv;obtain⟨hh,g,d,t,os⟩:=s;refine adS (R.led.top _ _ hC) (hn.keeps R.led.top) hi cO λh' e dd hk he=>?_
 have N:=bk.grow (s':=⟨h',g,d,t,os⟩) R hk (eN.refl _) rfl rfl;exact h ρ _ _ N ⟨rfl,e,_,_,rfl,⟨dd,he⟩,_,_,rfl,j0.mono N.pre N.aX,_,_,rfl,j1.mono N.pre N.aX,_,_,rfl,j2.mono N.pre N.aX,rfl⟩
theorem EV.uz{p apos pos:cN}{args:J bB}{vs:J V}(ho:EV C n (.Name "tuple" p) st (.val<|.type "tuple") am)(ha:jl C n args am vs ba)(oT:aQ C n (.builtin "tuple.__new__") vs ba v ce)
  (he:aO (args.all gR=true) a8) (hlen:aO (U args<30) aD._auto_1) (cw:∃e es,args=e::es:=by exact⟨_,_,rfl⟩)
  (oR:aO (vL (.Name "tuple" p) "__new__" C.env (eval (.Name "tuple" p) C.env)=eval (.Name "tuple" p) C.env) a8) (lL:aO ((apos.endLine==pos.line)=true) a8):EV C n (.Call (.Attribute (.Name "tuple" p) "__new__" apos) args [] pos) st v ce:=.mk λA s ρ Q hA R h=>by
 simp only[arm_eval_Call,oR];refine wpAny_bind<|ho.run A s ρ _ hA R λaC x s1 N1 i1=>?_;subst i1;refine wpAny_bind<|wpAny_standAt ?_;have yr:methodCallForm (U args+U ([]:J nN)) (lE pos<|lC args C.env) (qQ pos<|qP [] C.env)=true:=GD he hlen;have oU:vM true (.Name "tuple" p) C.env apos pos=pure pos:=by unfold vM;simp[lL]
 unfold methodCall;refine D yr ?_
 obtain⟨hh,g,d,t,os⟩:=s1;refine wpAny_bind<|wpAny_holding<|adI<|wpAny_bind<|wpAny_of_eq oU ?_;have N2:=N1.trans<|gh N1.rep<|t+1;refine EA ?_ ?_
 ·exact plain_any he
 exact By ha hA N2.rep he λbh xs s2 N3 i2=>(oT.run A s2 bh xs Q hA N3.rep i2 λdp z s3 N4 i3=>h dp z s3 ((N2.trans N3).trans N4) i3)
end
noncomputable def esM(P:aP):J jz:=match (A0 P).data with| .dict es _=>es.toList|_=>[]
noncomputable def epM(P:aP):B:=match (A0 P).data with| .dict _ n=>n|_=>0
noncomputable abbrev nM(P:aP):ao->bC ak:=cT<|esM P
theorem qo(P:aP):(bZ P).Ns 134 (nM P):=v9 (o:=A0 P) (ep:=epM P) (by kernel_rfl) (by kernel_rfl) (by kernel_rfl)
theorem ph(P:aP):(bZ P).get? 135=some (dW "Match" "Match" 135 134 (some<|.ref 65) aA (some<|.str "Match" 253) (some<|.str "Match" 261)<|some<|.bool false):=by kernel_rfl
theorem adT(P:aP):nM P "__new__"=some (.ref 136):=by kernel_rfl
theorem Hl(P:aP):nM P "__init__"=aA:=by kernel_rfl
theorem adU(P:aP):(bZ P).get? 136=some ⟨.type "staticmethod",aA,.fields #[.ref 82],#[]⟩:=by kernel_rfl
theorem PJ(P:aP):(bZ P).Ns r8 (cT []):=v9 (o:=KS P) (es:=[]) (ep:=0) (by kernel_rfl) (by kernel_rfl) rfl
noncomputable def mV(s:B×B×B):V:=.tup (.ref 135) [.int s.1,.int s.2.1,.int s.2.2]
section
variable{dr:cV}
theorem adV{j k:B}:cE (TW w os dr) (n+1) (.ref 82) [] [.val<|.ref 135,.int i,.int j,.int k] [] (mV (i,j,k)):=by
 refine m6 (d82 _) rfl (λxs hx=>?_) λL=>?_
 ·revert xs;exact yk λH H H H=>rfl
 refine eE dE<|j6 (EV.uz (cB (cQ _) (Oy _) (dN _)<|OC _) (an ah<|an (dL<|an ah<|an ah<|an ah aM) aM)<|aQ.uz (ph _) (qo _)<|Hl _) ⟨_,rfl,?_⟩;exact o7 rfl rfl
theorem adW{o:bc}{a L:ax}{j k:B}:aQ (fr w os dr o a L) (n+2) (.ref 135) [.int i,.int j,.int k] st (mV (i,j,k)) st:=.mk λA s ρ xs Q hA R aV h=>by
 have hl:=dK aV;obtain⟨x,y,z,rfl⟩:∃x y z,xs=[x,y,z]:=by
  clear aV;revert xs;exact Gj λx y z=>⟨x,y,z,rfl⟩
 have PK:=cE.frame (C:=fr w os dr o a L) (st:=st) [] (adV (w:=w) (os:=os) (dr:=dr) (n:=n) (i:=i) (j:=j) (k:=k)) rfl (aG _) lx (λi o h=>by exact nomatch h) rfl;have Hm:over st.hp [] (([]:J O).map<|O.cf<|oQ []<|U st.hp)=st.hp:=cM _;simp only[Hm] at PK;obtain⟨hh,g,d,t,B2⟩:=s;refine adC (R.led.top _ _<|ph w.params) ((qo w.params).keeps R.led.top) (adT _) (Hl _) (R.led.top _ _<|adU w.params) ((PJ w.params).keeps R.led.top) rfl ?_
 have N1:=gh R<|t+1;refine PK.run _ ⟨hh,g,d,t+1,B2⟩ ρ (.ref 135::[x,y,z]) _ hA.create N1.rep ⟨_,_,rfl,rfl,aV⟩ λaC r s1 N2 i2=>oJ (id i2) λtc e vs m av kW i3=>?_
 subst av;obtain⟨dd,he⟩:=kW;exact⟨e,dd,vs,m,rfl,he,⟨N2.rep.led.top _ _<|ph w.params,(qo w.params).keeps N2.rep.led.top⟩,h aC _ s1 (N1.trans N2) i2⟩
end
theorem XS.hide{q:B}{ss:J fq}{K:Fl->St->Prop}(h:∀K':Fl->St->Prop,(∀fl st,K fl st->K' fl st)->XS C n q ss st K'):XS C n q ss st K:=h K λH H x=>x
section
variable{dr:cV}
theorem a9.to{aiA:ak->ak->dG ak}{aiy r r':V}(h:a9 C n aiA aiy v st r am)(e:r=r'):a9 C n aiA aiy v st r' am:=e▸h
theorem EV.to(h:EV C n e st v am)(q:v=v'):EV C n e st v' am:=q▸h
theorem gY.to{aiy:V}{args:J V}(h:gY C n aiy args st v am)(q:v=v'):gY C n aiy args st v' am:=q▸h
theorem aQ.to{aiy:ak}{args:J V}(h:aQ C n aiy args st v am)(q:v=v'):aQ C n aiy args st v' am:=q▸h
theorem EV.eq{Hn:St}(h:EV C n e st v am)(q:v=v')(r:am=Hn):EV C n e st v' Hn:=r▸q▸h
theorem fR{tail:J O}{t:B}(h:U aix=p):(aix++tail)[p+t]?=tail[t]?:=by
 subst h;rw[dc<|dZ ..,jx]
theorem Ho{tail:J O}(h:U aix=p):U (aix++tail)=p+U tail:=by subst h;exact aK
theorem EV.push{l:J (ao×V)}{T:J O}{o:O}(hP:U aix=p)(h:EV C n e ⟨l,aix++T⟩ (.ref<|U<|aix++T) ⟨l,aix++T++[o]⟩):EV C n e ⟨l,aix++T⟩ (.ref<|p+U T) ⟨l,aix++(T++[o])⟩:=
 EV.eq h (bA V.ref<|Ho hP) (bA (St.mk l)<|cm ..)
theorem set_tail{T:J O}{t:B}{o:O}(h:U aix=p):(aix++T).set (p+t) o=aix++T.set t o:=by
 subst h;rw[zY _ _<|dZ ..,jx]
theorem adX{f u:J (J B)}{aq au:B}{l:J B}{g:B->bb}:(O.intD<|i9 f u aq au i l).bG g=true:=by
 show V.fe g ((i9 f u aq au i l).map (·.2))=true;exact D gM<|oX λH=>rfl
theorem sW{l:J (J B)}{x:J B}(h:l[i]?=some x){z:az}(hz:z=(i:az)):(aw l)[z.toNat]?=some (.str<|tx x):=by
 subst hz;refine D (xB _)<|D (c6)<|D h ?_;rfl
noncomputable def lV(p aq aS au aJ:B)(s:B×B×B):J (ao×V):=
 [("nothing",.ref<|p+2),("j2len",.ref<|p+1),("bestsize",.int s.2.2),("bestj",.int s.2.1),("besti",.int s.1),("isbjunk",.ref p),("b2j",.ref 4),("b",.ref 1),("a",.ref 0),("bhi",.int aJ),("blo",.int au),("ahi",.int aS),("alo",.int aq)]
noncomputable def rB(p aq aS au aJ bi bj bs:B):J (ao×V):=
 [("nothing",.ref<|p+2),("j2len",.ref<|p+1),("bestsize",.int bs),("bestj",.int bj),("besti",.int bi),("isbjunk",.ref p),("b2j",.ref 4),("b",.ref 1),("a",.ref 0),("bhi",.int aJ),("blo",.int au),("ahi",.int aS),("alo",.int aq)]
noncomputable def bu(f u:J<|J B)(al:J<|ao×V)(tl:J O):J O:=[.list<|aw f,.list<|aw u,.attrs al,.inst 242 2,.fc<|jI 5<|keysOf u]++ju u (keysOf u)++([.fY,.fY]++tl)
theorem adY(f u:J<|J B):bu f u (jJ<|U<|keysOf u) []=lS f u:=rfl
theorem pi(f u:J<|J B)(al:J<|ao×V)(tl:J O):U (bu f u al tl)=7+U (keysOf u)+U tl:=by
 exact D aK<|D aK<|D aK<|D (bg _) Xo
structure sX(m:B)(al:J<|ao×V):Prop where
 a:mH ("a":ao) al=some (V.ref 0)
 b:mH ("b":ao) al=some (V.ref 1)
 PL:mH ("b2j":ao) al=some (V.ref 4)
 PM:mH ("bjunk":ao) al=some (V.ref<|5+m)
 jK:mH ("find_longest_match":ao) al=aA
 PN:mH ("get_matching_blocks":ao) al=aA
 len:U al<=16
noncomputable def adZ(P:aP):bD ak:=match (Fr P).data with| .seq x _=>x|_=>#[]
end
end
namespace yU
noncomputable def ES(w:bx)(os:bM)(dr:cV)(n:B)(f:J<|J B)(u:J<|J B)(al:J<|ao×V)(tl:J O)(aq:B)(aS:B)(au:B)(aJ:B)(_:fD):Prop:=(sX (U<|keysOf u) al)->(gy<|bu f u al tl)->(U f<200)->(U u<200)->(aS<=U f)->(aJ<=U u)->(aq<=aS)->(au<=aJ)->cE (TW w os dr) (n+3) (.ref 196) (bu f u al tl) [.ref 3,.int aq,.int aS,.int au,.int aJ] (bu f u al tl) (mV<|jK f u aq aS au aJ)
@[irreducible] noncomputable def EX:=nT oN default {} 0 [] [] [] [] 0 0 0 0 () ES
noncomputable def w:=EX.1
noncomputable def os:=EX.2.1
noncomputable def dr:=EX.2.2.1
noncomputable def n:=EX.2.2.2.1
noncomputable def f:=EX.2.2.2.2.1
noncomputable def u:=EX.2.2.2.2.2.1
noncomputable def al:=EX.2.2.2.2.2.2.1
noncomputable def tl:=EX.2.2.2.2.2.2.2.1
noncomputable def aq:=EX.2.2.2.2.2.2.2.2.1
noncomputable def aS:=EX.2.2.2.2.2.2.2.2.2.1
noncomputable def au:=EX.2.2.2.2.2.2.2.2.2.2.1
noncomputable def aJ:=EX.2.2.2.2.2.2.2.2.2.2.2.1
noncomputable def lj(x:J<|az×V)(m:J O):J O:=hZ "set.__contains__" (5+U (keysOf u)):: .intD x:: .list []:: .fields "range" [.int aq,.int aS,.int 1]::m
@[irreducible] noncomputable def p:B:=U<|bu f u al tl
theorem hP:U (bu f u al tl)=p:=by unfold p;rfl
theorem hp:p=7+U (keysOf u)+U tl:=hP.symm.trans (pi f u al tl)
theorem Ee:ES w os dr n f u al tl aq aS au aJ ():=λnk j9 ha hb G h2 h3 h4=>by
 have aiw:=Gq w.params;refine cE.N8 aiw.get aiw.fd (by rfl) aiw.code (noLimit _) (names:=["self","alo","ahi","blo","bhi"]) (Td:=189) (od:=Fr w.params) (items:=adZ w.params) (m:=0) (ds:=[]) (xd:=[]) (by kernel_rfl) (by kernel_rfl) (by kernel_rfl) (λρ h=>rfl) (λxs hx=>?_) aiw.nd aiw.cell aiw.loc λL=>?_
 ·revert xs;exact Oo λH H H H H=>rfl
 have cl:=qg w.params;have gl:=qa w.params;have bl:=qc w.params;have gr:=Ow w.params;have br:=OB w.params;refine D hP<|eE dE ?_;have yV:(bu f u al tl)[5+U (keysOf u)]?=some .fY:=by
  (refine D (dc<|by rw[aK];unfold ju;rw[bg];exact aG _)<|D aK ?_)
  refine D (bg _) ?_
  refine D (fF _) ?_;rfl
 refine yp (dL (an (EV.attr (k:=3) (d:=2) (l:=al) ah rfl rfl nk.a cl (by kernel_rfl) (by kernel_rfl) yx (λH h=>by cases h)) (an (EV.attr (k:=3) (d:=2) (l:=al) ah rfl rfl nk.b cl (by kernel_rfl) (by kernel_rfl) wf (λH h=>by cases h)) (an (EV.attr (k:=3) (d:=2) (l:=al) ah rfl rfl nk.PL cl (by kernel_rfl) (by kernel_rfl) OY (λH h=>by cases h))
  (an (EV.acb (k:=5+U (keysOf u)) (EV.attr (k:=3) (d:=2) (l:=al) ah rfl rfl nk.PM cl (by kernel_rfl) (by kernel_rfl) OZ (λH h=>by cases h)) yV) aM))))) (c8.tup (bU.cons bW (bU.cons bW (bU.cons bW (bU.cons bW bU.nil))))) ?_
 refine lM (bV ah EV.none a9.is_int_none)<|lM (bV ah EV.none a9.is_int_none) ?_;refine rf (names:=["besti","bestj","bestsize"]) (dL<|an ah<|an ah<|an bz aM)<|cY EV.BE ?_;refine cY (eI aM) ?_
 have e1:U (bu f u al tl++[hZ "set.__contains__"<|5+U (keysOf u)])=p+1:=by refine D aK<|D hP ?_;rfl
 have e2:U (bu f u al tl++[hZ "set.__contains__"<|5+U (keysOf u)]++[O.intD []])=p+2:=by refine D aK<|D e1 ?_;rfl
 refine b7 (l':=lV p aq aS au aJ (aq,au,0)) (aZ:=bu f u al tl++[hZ "set.__contains__"<|5+U (keysOf u),.intD [],.list []]) ?_ ?_ ?_
 ·unfold lV;exact bL e2<|bL e1<|bL hP<|bp rfl
 ·show bu f u al tl++[hZ "set.__contains__"<|5+U (keysOf u)]++[O.intD []]++[O.list []]=_;simp only[cm,jT,nF]
 refine cg (nV p (items:=nums aq (aS-aq)) (aiw:=λH=>gC) (lo:=0) (am:=⟨lV p aq aS au aJ (aq,au,0),bu f u al tl++(lj [] [])⟩)
  (λt aj=>aj=⟨lV p aq aS au aJ<|(fj aq t).foldl (sS f u aq au aJ) (aq,au,0),bu f u al tl++(lj (kD f u aq au aJ<|aq+t) [])⟩)
  ?_ ?_ (λH H H H=>trivial) (bH _) (aG _) (λt aiy aj hu hI=>?_) (λaj hI=>?_))
 ·have e3:U (bu f u al tl++[hZ "set.__contains__"<|5+U (keysOf u),.intD [],.list []])=p+3:=Ho hP;have ad0:((aS:az)-(aq:az)).toNat=aS-aq:=by lia
  refine bL ad0<|gS.of (EV.eq (v':=.ref<|p+3) (mq (cB (cQ _) gr (dN _) br) (an ah<|an ah aM) aQ.aaY) (bA V.ref e3) ?_)<|gj.range (fR hP) ?_ ?_
  ·show St.mk _ _=_;rw[cm];rfl
  ·refine D (rangeSize_one _ _) ?_;split<;>lia
  ·exact small_one (Et (by decide)<|vP _) (az.lt_trans (AD.mpr<|xq (cX h3 G) ha)<|by decide) (Et (by decide)<|vP _) (az.lt_trans (AD.mpr<|xq G ha)<|by decide)
 ·show _=_;unfold kD;refine D (aU<|by exact aG _) ?_;rfl
 ·subst hI;unfold nums at hu;rw[c6] at hu
  by_cases ht:t<aS-aq
  rotate_left
  ·rw[rP<|by refine D gL ?_;exact iR ‹_›] at hu;cases hu
  rw[ou ht] at hu;obtain rfl:aiy=V.int ((aq+t:B):az):=by cases hu;exact bA V.int (by rfl)
  have pY:aq+t<U f:=by exact Xn ht G
  generalize hs:(fj aq t).foldl (sS f u aq au aJ) (aq,au,0)=s;obtain⟨x,hx⟩:∃x,f[aq+t]?=some x:=⟨_,bO pY⟩
  generalize hi:aq+t=i at pY hx;refine⟨_,bW,(XS.hide λK hK=>?_)⟩;refine cY (EV.push hP<|EV.aca (k:=p+1) (l:=kD f u aq au aJ i) ah<|fR hP)<|cY (EV.push hP EV.BE) ?_;refine b7 (l':=("newj2len",.ref<|p+5)::("j2lenget",.ref<|p+4)::("i",.int i)::lV p aq aS au aJ s) (aZ:=bu f u al tl++(lj (kD f u aq au aJ i) [hZ "dict.get"<|p+1,.intD []])) (λH H h=>h) rfl ?_
  obtain⟨kk,gm,kP,PO⟩:∃kk,((jI 5<|keysOf u).lookup<|tx x).getD (.ref<|p+2)= .ref kk/\kk+1<=p+6/\∀T:J O,T[2]?=some (.list [])->(bu f u al tl++T)[kk]?=some (.list<|mw<|posOf x u):=by
   rw[BP]
   by_cases B4:x∈keysOf u
   ·have bJ:=Ds.mpr B4;refine⟨5+(keysOf u).idxOf x,by refine D (aU<|by simpa using B4) ?_;rfl,by exact Xm bJ hp,λT H=>?_⟩;refine D (cA<|by exact Xl bJ hp hP) ?_
    have pY:U (ju u<|keysOf u)=U (keysOf u):=by unfold ju;exact D (bg _) rfl
    (refine D (cA<|by rw[aK,pY];exact E5 bJ)<|D (fR (p:=5) rfl) ?_)
    refine D (c6)<|D (bO bJ)<|D (Dz bJ) ?_;rfl
   ·refine⟨p+2,by refine D (aE<|by simpa using B4) ?_;rfl,by exact Xk,λT hT=>?_⟩;refine D (fR hP)<|D hT<|D (Pa λh=>B4<|O9.mpr h) ?_;rfl
  have B5:cols f u au aJ i=k7 au aJ (posOf x u):=cols_eq hx;have PP:=Ph x u;refine cg<|jt (K:=λfl aj=>fl= .next/\SubL (("newj2len",.ref<|p+5)::lV p aq aS au aJ (sS f u aq au aJ s i)) aj.loc/\aj.hp=bu f u al tl++(lj (kD f u aq au aJ i) [hZ "dict.get"<|p+1,.intD<|i9 f u aq au i<|cols f u au aJ i])) ?_ ?_
  ·refine nV (p+6) (items:=mw<|posOf x u) (aiw:=λaj=>aj.hp[kk]?=some (.list<|mw<|posOf x u)) (lo:=kk+1) (am:=⟨("newj2len",.ref<|p+5)::("j2lenget",.ref<|p+4)::("i",.int i)::lV p aq aS au aJ s,bu f u al tl++(lj (kD f u aq au aJ i) [hZ "dict.get"<|p+1,.intD []])⟩)
    (λt' aj=>aj=⟨("newj2len",.ref<|p+5)::("j2lenget",.ref<|p+4)::("i",.int i)::lV p aq aS au aJ ((k7 au aJ<|(posOf x u).take t').foldl (rt f u aq au i) s),bu f u al tl++(lj (kD f u aq au aJ i) [hZ "dict.get"<|p+1,.intD<|i9 f u aq au i<|k7 au aJ<|(posOf x u).take t'])⟩)
    (gS.of (EV.to (jq ah (rj.fc (k:=4) rfl) (an (eJ ah ah (i6 (k:=0) (l:=aw f) (v:=.str<|tx x) rfl (vP _)<|by unfold aw;rw[xB,c6,hx];rfl) gx)<|an ah aM) (aQ.abH (k:=4) yO rfl) Eg PySem.F.slot_dict_get PySem.F.type_dict_get) gm)<|gj.list<|PO _ rfl) rfl (λt' aj H hI=>by subst hI;exact PO _ rfl) kP (by exact Xj) (λt' aiy aj hu hI=>?_) (λaj hI=>?_)
   ·subst hI;unfold mw at hu;rw[c6] at hu;cases hj:(posOf x u)[t']? with
    |none=>rw[hj] at hu;cases hu
    |some j=>
    rw[hj] at hu;obtain rfl:aiy=V.int (j:az):=by cases hu;rfl
    have m7:(posOf x u).take (t'+1)=(posOf x u).take t'++[j]:=by refine D qL<|D hj ?_;rfl
    have Hp:j<U u:=(cJ.mp<|GZ.mp<|dT hj).1;have Hq:=acV (au:=au) (aJ:=aJ) PP hj;have PQ:=λh=>acU (au:=au) (aJ:=aJ) PP hj h;have yW:=acT au aJ ((posOf x u).take t') j;rw[←m7] at yW;have Hr:U (k7 au aJ<|(posOf x u).take t')<=200:=by
     have q1:U (k7 au aJ<|(posOf x u).take t')<=_:=pE _ _;rw[gA] at q1;have q2:=Pd x u;exact Xi hb q1 q2
    generalize hc:k7 au aJ ((posOf x u).take t')=cc at*;generalize wn:cc.foldl (rt f u aq au i) s=s1;refine⟨_,bW,(XS.hide λK hK=>?_)⟩;refine cg<|jj (bV ah ah jZ) (λh=>?_) λh=>bd ?_
    ·refine b7 (l':=("newj2len",.ref<|p+5)::("j2lenget",.ref<|p+4)::("i",.int i)::lV p aq aS au aJ s1) (aZ:=bu f u al tl++(lj (kD f u aq au aJ i) [hZ "dict.get"<|p+1,.intD<|i9 f u aq au i cc])) (by exact bp rfl) rfl<|cg<|X1.cont<|hK _ _ ?_;have h:=dq h;show _=_;rw[yW,aE (by lia),wn]
    have h:=kj h;refine cg<|jj (bV ah ah a9.ge_int) (λh'=>?_) λh'=>bd ?_
    ·refine cg<|X1.brk<|hK _ _ ⟨rfl,?_,?_⟩
     ·have e:=PQ (by have:=dq h';lia);unfold sS;exact D B5<|D e<|D wn<|bp rfl
     ·have e:=PQ (by have:=dq h';lia);refine D B5<|D e ?_;rfl
    have h':=kj h';have dk:au<=j/\j<aJ:=⟨by lia,by lia⟩
    replace yW:=(aU dk)▸yW;have PR:u[j]?=some x:=GZ.mp<|dT hj;have hjc:j∈cols f u au aJ i:=yE.mpr ⟨dk.1,dk.2,pY,hx.trans PR.symm⟩;have li:=acS (a:=f) (aq:=aq) (by exact uk hi) hjc;have qi:0<run f u aq au i j:=GX f u aq au ⟨by exact uk hi,dk.1,pY,hx.trans PR.symm⟩;have uR:=BR f u aq au i j (run f u aq au i j-1) (by exact xO qi);have uF:(i9 f u aq au i cc).lookup (j:az)=aA:=by unfold i9;rw[G3,aE Hq]
    have iX:(cc++[j]).foldl (rt f u aq au i) s=rt f u aq au i s1 j:=by refine D jS<|D wn ?_;rfl
    have hdl:U (i9 f u aq au i cc)<=16777216:=by unfold i9;refine D (bg _) ?_;exact MY Hr
    have iH:(i9 f u aq au i cc)++[((j:az),V.int (run f u aq au i j:B))]=i9 f u aq au i (cc++[j]):=by unfold i9;refine D eL ?_;rfl
    rw[yW,iX] at hK;unfold rt at hK;generalize hr:run f u aq au i j=r at*;refine jG (bt (EV.qe ah (an (bt ah bz mr)<|an bz aM) (gX.bm (b:=p+4) (k:=p+1) (id:="dict.get")<|fR hP)<|gY.to (gY.acd (b:=p+4) (k:=p+1) yO (fR hP)<|fR hP) li) bz<|a9.to (r':=.int (r:B)) eT<|bA V.int<|by lia)
     (cF.cons bW<|cF.cons (c8.BE (k:=p+5) (z:=(j:az)) yO ah ah (fR hP) hdl) cF.nil) ?_
    refine b7 (l':=("k",.int (r:B))::("j",.int (j:B))::("newj2len",.ref<|p+5)::("j2lenget",.ref<|p+4)::("i",.int i)::lV p aq aS au aJ s1) (aZ:=bu f u al tl++(lj (kD f u aq au aJ i) [hZ "dict.get"<|p+1,.intD<|i9 f u aq au i<|cc++[j]])) (by exact bp rfl) ?_ ?_
    ·show(bu f u al tl++_).set (p+5) (.intD<|oW _ _ _)=_;refine D (set_tail hP) (D (OK uF) ?_)
     try dsimp only
     refine D iH ?_;rfl
    refine cg<|jj (bV ah ah a9.gt_int) (λhg=>?_) λhg=>bd ?_
    ·have hg:=dq hg;refine rf (names:=["besti","bestj","bestsize"]) (dL<|an (bt (bt ah ah mr) bz<|a9.to (r':=.int ((i+1-r:B):az)) eT<|bA V.int<|by lia)<|an (bt (bt ah ah mr) bz<|a9.to (r':=.int ((j+1-r:B):az)) eT<|bA V.int<|by lia)<|an ah aM) (b7 (l':=("newj2len",.ref<|p+5)::("j2lenget",.ref<|p+4)::("i",.int i)::lV p aq aS au aJ (i+1-r,j+1-r,r)) (aZ:=bu f u al tl++(lj (kD f u aq au aJ i) [hZ "dict.get"<|p+1,.intD<|i9 f u aq au i<|cc++[j]])) (by exact bp rfl) rfl<|bd<|bd<|hK _ _ ?_);show _=_;exact D (aU<|by lia) rfl
    ·have hg:=kj hg;refine b7 (l':=("newj2len",.ref<|p+5)::("j2lenget",.ref<|p+4)::("i",.int i)::lV p aq aS au aJ s1) (aZ:=bu f u al tl++(lj (kD f u aq au aJ i) [hZ "dict.get"<|p+1,.intD<|i9 f u aq au i<|cc++[j]])) (by exact bp rfl) rfl<|bd<|hK _ _ ?_;show _=_;exact D (aE<|by lia) rfl
   ·subst hI;have e:U (mw<|posOf x u)=U (posOf x u):=by unfold mw;exact D (bg _) rfl
    refine D e<|D pH<|bd ⟨rfl,?_,?_⟩
    ·unfold sS;exact D B5<|bp rfl
    ·exact D B5 rfl
  ·intro aiA aj dM;refine eh dM λav hl hh=>?_
   clear dM;subst av;refine b7 hl hh<|cY ah ?_;have dk:∀o∈lj (i9 f u aq au i<|cols f u au aJ i) [],o.bG (λk=>decide (k<U (bu f u al tl)))=true:=
    gg (by show(true&&(decide (5+U (keysOf u)<U (bu f u al tl))&&true))=true;exact D (dF<|MU hp hP) rfl) (gg adX<|gg rfl<|fM rfl)
   obtain⟨aiA,g,q1,q2,q3⟩:=jn.pick (q:=p) (hp:=bu f u al tl) (tail:=(lj (kD f u aq au aJ i) [hZ "dict.get"<|p+1,.intD<|i9 f u aq au i<|cols f u au aJ i]))
    (sel:=(lj (i9 f u aq au i<|cols f u au aJ i) [])) (by exact vU hP) j9 [0,5,2,3] (by decide) rfl dk
   rw[hP] at q1 q2;have a0:=q2 0 0 rfl;have a1:=q2 1 5 rfl;have a2:=q2 2 2 rfl;refine jo (aj:=⟨lV p aq aS au aJ<|sS f u aq au aJ s i,bu f u al tl++(lj (i9 f u aq au i<|cols f u au aJ i) [])⟩) (.inr ⟨_,_,_,q3,?_⟩) (bd ?_) (by show p<=U (bu f u al tl++_);rw[aK];exact Xh hP)
   ·
    exact c9.cons (v:=.ref<|p+2) rfl a2.1 (bA V.ref a2.2.symm) (c9.cons (v:=.ref<|p+5) rfl a1.1 (bA V.ref a1.2.symm)<|c9.cons rfl rfl rfl<|c9.cons rfl rfl rfl<|c9.cons rfl rfl rfl<|c9.cons (v:=.ref p) rfl a0.1 (bA V.ref a0.2.symm)<|c9.cons (v:=.ref 4) rfl (q1 4<|by exact MX hp).1 (bA V.ref (q1 4<|by exact MX hp).2.symm)<|c9.cons (v:=.ref 1) rfl (q1 1<|by exact MW hp).1 (bA V.ref (q1 1<|by exact MW hp).2.symm)<|c9.cons (v:=.ref 0) rfl (q1 0<|by exact MV hp).1 (bA V.ref (q1 0<|by exact MV hp).2.symm)<|c9.cons rfl rfl rfl<|c9.cons rfl rfl rfl<|c9.cons rfl rfl rfl<|c9.cons rfl rfl rfl c9.nil)
   ·refine hK _ _ ?_
    show _=_;rw[JK,jS,l6,JV,Am,hs,hi];unfold kD;exact D (aE<|by exact Xg)<|D (show aq+(t+1)-1=i by exact Xf hi) rfl
 ·subst hI;have e:U (nums (aq:az)<|aS-aq)=aS-aq:=by unfold nums;rw[bg,gL]
  refine D e<|bd ?_;have wo:j8 f u aq aS au aJ (jK f u aq aS au aJ):=qh;show XS _ _ _ _ ⟨lV p aq aS au aJ<|jK f u aq aS au aJ,_⟩ _;generalize hs:jK f u aq aS au aJ=s at*;refine b7 (l':=lV p aq aS au aJ s) (aZ:=bu f u al tl++(lj (kD f u aq au aJ<|aq+(aS-aq)) [])) (λH H h=>h) rfl ?_
  generalize hT:((lj (kD f u aq au aJ<|aq+(aS-aq)) []):J O)=T;have nl:(bu f u al tl++T)[p]?=some (hZ "set.__contains__"<|5+U (keysOf u)):=by subst hT;exact fR (t:=0) hP
  have qp:(bu f u al tl++T)[5+U (keysOf u)]?=some .fY:=by refine D (cA<|by exact MU hp hP) ?_;exact yV
  have PS:(bu f u al tl++T)[0]?=some (.list<|aw f):=rfl;have wq:(bu f u al tl++T)[1]?=some (.list<|aw u):=rfl;have m1:=wo.o9;have m2:=wo.jv;have m3:=wo.lo1;have m4:=wo.lP;have n1:=wo.before;have n2:=wo.after;obtain⟨bi,bj,bs⟩:=s;dsimp only at m1 m2 m3 m4 n1 n2;refine b7 (l':=rB p aq aS au aJ bi bj bs) (aZ:=bu f u al tl++T) (λH H h=>h) rfl<|cg<|X1.while p (λm am=>am=⟨rB p aq aS au aJ bi bj bs,bu f u al tl++T⟩) (m0:=0) rfl (aG _) λm am hI=>?_;subst hI;refine⟨false,⟨rB p aq aS au aJ bi bj bs,bu f u al tl++T⟩,?_,(λh=>by cases h),λH=>bd ?_⟩
  ·by_cases c1:aq<bi
   ·refine kq (fJ (bV ah ah a9.gt_int)<|dF<|by show(aq:az)<(bi:az);lia) ?_
    by_cases c2:au<bj
    ·refine kq (fJ (bV ah ah a9.gt_int)<|dF<|by show(au:az)<(bj:az);lia) ?_
     have cw:=n1 c1 c2 (by exact Xe m1 c1 G);obtain⟨x,hx⟩:∃x,f[bi-1]?=some x:=⟨_,bO<|by exact E6 m1 c1 G⟩
     obtain⟨y,hy⟩:∃y,u[bj-1]?=some y:=⟨_,bO<|by exact E6 m2 c2 h2⟩
     refine kq (TV.not<|fu (EV.qe ah (an (eJ ah (bt ah bz mr) (i6 (k:=1) wq (by lia) (sW hy<|by lia)<|by lia) gx) aM) (gX.bm nl)<|gY.BF nl qp) kR) (jm<|fJ (bV (eJ ah (bt ah bz mr) (i6 (k:=0) PS (by lia) (sW hx<|by lia)<|by lia) gx) (eJ ah (bt ah bz mr) (i6 (k:=1) wq (by lia) (sW hy<|by lia)<|by lia) gx) a9.eq_str)<|fz λe=>cw ?_);rw[hx,hy,o8.mp e]
    ·exact jm (fJ (bV ah ah a9.gt_int)<|fz<|by show ¬(au:az)<(bj:az);lia)
   ·exact jm (fJ (bV ah ah a9.gt_int)<|fz<|by show ¬(aq:az)<(bi:az);lia)
  refine cg<|X1.while p (λm am=>am=⟨rB p aq aS au aJ bi bj bs,bu f u al tl++T⟩) (m0:=0) rfl (aG _) λm am hI=>?_;subst hI;refine⟨false,⟨rB p aq aS au aJ bi bj bs,bu f u al tl++T⟩,?_,(λh=>by cases h),λH=>bd ?_⟩
  ·by_cases c1:bi+bs<aS
   ·refine kq (fJ (bV (bt ah ah eT) ah jZ)<|dF<|by lia) ?_
    by_cases c2:bj+bs<aJ
    ·refine kq (fJ (bV (bt ah ah eT) ah jZ)<|dF<|by lia) ?_
     have cw:=n2 c1 c2 (by exact AS c1 G);obtain⟨x,hx⟩:∃x,f[bi+bs]?=some x:=⟨_,bO<|by exact AS c1 G⟩
     obtain⟨y,hy⟩:∃y,u[bj+bs]?=some y:=⟨_,bO<|by exact AS c2 h2⟩
     refine kq (TV.not<|fu (EV.qe ah (an (eJ ah (bt ah ah eT) (i6 (k:=1) wq (by lia) (sW hy<|by lia)<|by lia) gx) aM) (gX.bm nl)<|gY.BF nl qp) kR) (jm<|fJ (bV (eJ ah (bt ah ah eT) (i6 (k:=0) PS (by lia) (sW hx<|by lia)<|by lia) gx) (eJ ah (bt ah ah eT) (i6 (k:=1) wq (by lia) (sW hy<|by lia)<|by lia) gx) a9.eq_str)<|fz λe=>cw ?_);rw[hx,hy,o8.mp e]
    ·exact jm (fJ (bV (bt ah ah eT) ah jZ)<|fz<|by lia)
   ·exact jm (fJ (bV (bt ah ah eT) ah jZ)<|fz<|by lia)
  refine cg<|X1.while p (λm am=>am=⟨rB p aq aS au aJ bi bj bs,bu f u al tl++T⟩) (m0:=0) rfl (aG _) λm am hI=>?_;subst hI;refine⟨false,⟨rB p aq aS au aJ bi bj bs,bu f u al tl++T⟩,?_,(λh=>by cases h),λH=>bd ?_⟩
  ·by_cases c1:aq<bi
   ·refine kq (fJ (bV ah ah a9.gt_int)<|dF<|by lia) ?_
    by_cases c2:au<bj
    ·refine kq (fJ (bV ah ah a9.gt_int)<|dF<|by lia) ?_
     obtain⟨y,hy⟩:∃y,u[bj-1]?=some y:=⟨_,bO<|by exact E6 m2 c2 h2⟩
     exact jm<|fu (EV.qe ah (an (eJ ah (bt ah bz mr) (i6 (k:=1) wq (by lia) (sW hy<|by lia)<|by lia) gx) aM) (gX.bm nl)<|gY.BF nl qp) kR
    ·exact jm (fJ (bV ah ah a9.gt_int)<|fz<|by lia)
   ·exact jm (fJ (bV ah ah a9.gt_int)<|fz<|by lia)
  refine cg<|X1.while p (λm am=>am=⟨rB p aq aS au aJ bi bj bs,bu f u al tl++T⟩) (m0:=0) rfl (aG _) λm am hI=>?_;subst hI;refine⟨false,⟨rB p aq aS au aJ bi bj bs,bu f u al tl++T⟩,?_,(λh=>by cases h),λH=>bd ?_⟩
  ·by_cases c1:bi+bs<aS
   ·refine kq (fJ (bV (bt ah ah eT) ah jZ)<|dF<|by lia) ?_
    by_cases c2:bj+bs<aJ
    ·refine kq (fJ (bV (bt ah ah eT) ah jZ)<|dF<|by lia) ?_
     obtain⟨y,hy⟩:∃y,u[bj+bs]?=some y:=⟨_,bO<|by exact AS c2 h2⟩
     exact jm<|fu (EV.qe ah (an (eJ ah (bt ah ah eT) (i6 (k:=1) wq (by lia) (sW hy<|by lia)<|by lia) gx) aM) (gX.bm nl)<|gY.BF nl qp) kR
    ·exact jm (fJ (bV (bt ah ah eT) ah jZ)<|fz<|by lia)
   ·exact jm (fJ (bV (bt ah ah eT) ah jZ)<|fz<|by lia)
  exact j6 (EV.qe (hH (cQ _)<|Ou _) (an ah<|an ah<|an ah aM) (gX.tup<|ph _)<|gY.of<|adW (i:=bi) (j:=bj) (k:=bs)) ⟨_,rfl,(Conv.drop (q:=p) (by exact vU hP) j9 rfl)⟩
end yU
section
variable{w:bx}{os:bM}{n m t:B}{am:St}{ps:J Piece}{steps:J (J B×J B)}{hd rows:J (J B)}{h:bn}{xs:J ak}{M:du}{A:bS}{g:bD de}{d:cV}{E:ak->ay->Prop}{nm q:ao}{c N tp a:ax}{k0 k1 k2 k3 k5:bC ak}{Q:bC ak->ay->Prop}{dd:bC ax}{vs:bD ak}{mN:ao->bC ak}
section
variable{dr:cV}
theorem ad1:∀{w os dr n f u al tl aq aS au aJ},yU.ES w os dr n f u al tl aq aS au aJ ():=by with_unfolding_all exact oK yU.ES yU.EX rfl yU.Ee _ _ _ _ _ _ _ _ _ _ _ _ ()
end
theorem Hs{scope:r9}(h:(scope.names.all λy=>match y.2 with| .cell=>false| .local=>(match scope.names.lookup y.1 with|some .local=>true|_=>false)|_=>true)=true):
  (∀y∈scope.names,y.2≠ .cell)/\∀y∈scope.names,y.2= .local->scope.names.lookup y.1=some .local:=by
 rw[fW] at h;refine⟨λy hy e=>?_,λy hy e=>?_⟩
 ·have:=h y hy;rw[e] at this;exact Au this
 ·have:=h y hy;rw[e] at this;dsimp only at this;cases q:scope.names.lookup y.1 with
  |none=>rw[q] at this;exact nomatch this
  |some k=>rw[q] at this;cases k<;>first|rfl|cases this
section
variable{C:Cx}{st:St}
theorem PT{α β:Type}(aiA:α->β)(p:α->bb)(g:β->J β):∀(l:J α),(∀a∈l,g (aiA a)=if p a then[aiA a] else[])->(l.map aiA).flatMap g=(l.filter p).map aiA
 | []=>λH=>rfl
 |a::l=>λh=>by
  simp only[eu,e9,h a<|.head _,PT aiA p g l λb hb=>h b<|.tail _ hb,pF];cases p a<;>rfl
theorem Ht{iter:bB}{px p1 p2 p3 p4 pos:cN}{k1 k2:B}{scope:r9}{kx c:B}{sg:ao}{l:J (J B)}{p5 Hu:cN}(G:EV C n iter st (.ref kx) am)(hk:am.hp[kx]?=some (.list<|aw l))(cw:∀r∈l,r≠[])(hz:U l<=1000000)(uS:sg=tx [c])
  (eF:aO ((scope.names.all λy=>match y.2 with| .cell=>false| .local=>(match scope.names.lookup y.1 with|some .local=>true|_=>false)|_=>true)=true) a8) (ni:aO (tX scope C.env=pure []) a8) (kF:aO (scope.kind= .function) a8) (hx:aO (scope.names.lookup ("row":ao)=some D3) a8)
  (hs:aO (∀x,pK iter C.env x=pure x) aI._auto_1):
  EV C n (.ListComp (.Name "row" p1) [⟨.Name "row" px,iter,[.Compare (.Subscript (.Name "row" p2) (.Constant (.int 0) k1 p3) p4) [.NotEq] [.Constant (.str sg) k2 p5] Hu],0⟩] scope pos) st (.ref<|U am.hp) ⟨am.loc,am.hp++[.list<|aw<|l.filter λr=>decide (r.headD 0≠c)]⟩:=by
 have sc:=Hs eF
 let g:V->J V:=λaiy=>match aiy with| .str x=>if x.cps.toList.headD 0≠c then[aiy] else[]|_=>[]
 have hg:(aw l).flatMap g=aw (l.filter λr=>decide (r.headD 0≠c)):=PT (λx=>V.str<|tx x) _ g l λa ha=>by
  show(if a.headD 0≠c then[V.str<|tx a] else[])=_
  by_cases h:a.headD 0≠c
  ·rw[aU h,aU<|dF h]
  ·rw[aE h,aE λq=>h<|dq q]
 simp only[←hg];refine Pv [] g G (fC.list hk) hk ?_ (λL aiy hu=>?_) (by refine D hg<|D (en _) ?_;exact cX (pE ..) hz) ni sc.1 kF sc.2 hx hs
 ·have:=(cJ.mp hk).1;assumption
 ·unfold aw at hu;refine aH (fa.mp hu) λr hr av=>?_
  subst av;obtain⟨a,r',rfl⟩:∃a r',r=a::r':=by
   cases r with
   |nil=>exact aY rfl<|cw _ hr
   |cons a r'=>exact⟨a,r',rfl⟩
  have cO:(oE 0 (tx<|a::r').length).bind ((tx<|a::r').cps[·]?)=some a:=by
   unfold oE;refine D (jH _) ?_
   simp[tx]
  have kL:(gZ C scope [] L).env.kindOf "row"=some .local:=lookup_relabel_local hx;have ev:EV (gZ C scope [] L) n (.Name "row" p2) ⟨[("row",.str<|tx<|a::r')],am.hp⟩ (.str<|tx<|a::r') ⟨[("row",.str<|tx<|a::r')],am.hp⟩:=ah rfl kF kL;have ev1:EV (gZ C scope [] L) n (.Name "row" p1) ⟨[("row",.str<|tx<|a::r')],am.hp⟩ (.str<|tx<|a::r') ⟨[("row",.str<|tx<|a::r')],am.hp⟩:=ah rfl kF kL;refine⟨_,.one<|bV (eJ ev bz (gW.str cO<|by decide) yo) (EV.tx [c] uS) a9.ne_str,?_⟩;have e:decide ((⟨#[a]⟩:ao)=tx [c])=decide (a=c):=vD.mpr (o8 (a:=[a]) (b:=[c]) |>.trans (by simp));simp only[e]
  by_cases h:a=c
  ·refine .inl ⟨by simp[h],?_⟩;show(if a≠c then _ else _)=_;exact D (aE λq=>q h) rfl
  ·refine .inr ⟨by simp[h],_,?_,ev1⟩;show(if a≠c then _ else _)=_;exact D (aU h) rfl
end
noncomputable def np:B->J Piece->J O
 |_,[]=>[]
 |b,p::ps=>.list (aw p.2.2):: .list [.int p.1,.int p.2.1,.ref b]::np (b+2) ps
theorem Hv{b:B}{p:Piece}:np b (p::ps)= .list (aw p.2.2):: .list [.int p.1,.int p.2.1,.ref b]::np (b+2) ps:=rfl
noncomputable def iI(m:B):J V:=(eD m).map λi=>V.ref<|5+2*i
noncomputable def cH(steps:J<|J B×J B)(hd rows:J<|J B)(ps:J Piece):J O:=.list (bf steps):: .list (aw hd):: .list (aw rows):: .list (iI<|U ps)::np 4 ps
theorem Hw:∀(ps:J Piece) (b:B),U (np b ps)=2*U ps
 | []=>λb=>rfl
 |p::ps=>λb=>bA (· +2)<|Hw ps<|b+2
theorem Hx:∀(ps:J Piece) (b:B) (p:Piece),np b (ps++[p])=np b ps++[.list<|aw p.2.2,.list [.int p.1,.int p.2.1,.ref<|b+2*U ps]]
 | []=>λb p=>rfl
 |q::ps=>λb p=>by
  rw[jT,Hv,Hx ps (b+2) p,Hv,cK,show b+2+2*U ps=b+2*(U ps+1) by exact nH _ _ _];rfl
theorem PU:∀(ps:J Piece) (b i:B) (p:Piece),ps[i]?=some p->(np b ps)[2*i]?=some (.list<|aw p.2.2)/\(np b ps)[2*i+1]?=some (.list [.int p.1,.int p.2.1,.ref<|b+2*i])
 | [],b,i=>λp h=>by exact nomatch h
 |q::ps,b,0=>λp h=>by cases h;exact⟨rfl,rfl⟩
 |q::ps,b,i+1=>λp h=>by
  have:=PU ps (b+2) i p h;rw[show 2*(i+1)=2*i+1+1 by rfl,Hv,show b+(2*i+1+1)=b+2+2*i by exact Ys];exact this
theorem uT:U (cH steps hd rows ps)=4+2*U ps:=by
 unfold cH;simp only[cK,Hw];exact M6
theorem PW:∀(ps:J Piece) (b m:B),b+2*U ps<=m->∀o∈np b ps,o.bG (λk=>decide (k<m))=true
 | []=>λb m h o ho=>nomatch ho
 |p::ps=>λb m h o ho=>by
  simp only[cK] at h;rcases cu.mp ho with rfl|ho
  ·exact eY
  rcases cu.mp ho with rfl|ho
  ·show(true&&(true&&(decide (b<m)&&true)))=true;exact D (dF<|by exact Yr h) rfl
  ·exact PW ps (b+2) m (Yq h) o ho
theorem ad2{k:B}(h:4+2*m<=k):V.fe (λi=>decide (i<k)) (iI m)=true:=by
 have:∀(l:J B),(∀i∈l,i<m)->V.fe (λi=>decide (i<k)) (l.map λi=>V.ref<|5+2*i)=true:=by
  intro l
  induction l with
  |nil=>intro _;rfl
  |cons a l ih=>
   intro hl;exact fb.mpr ⟨dF (Yp h (hl a (.head _))),ih λi hi=>hl i<|.tail _ hi⟩
 exact this _ λi hi=>rW.mp hi
theorem Hy:gy (cH steps hd rows ps):=by
 intro o ho;refine D uT ?_
 unfold cH at ho;rcases cu.mp ho with rfl|ho
 ·exact k6
 rcases cu.mp ho with rfl|ho
 ·exact eY
 rcases cu.mp ho with rfl|ho
 ·exact eY
 rcases cu.mp ho with rfl|ho
 ·exact ad2<|aG _
 ·exact PW ps 4 _ (aG _) o ho
theorem ad3(m:B):iI (m+1)=iI m++[V.ref<|5+2*m]:=by unfold iI;simp only[Ac,eL];rfl
theorem ad4{a b:B}:(cH steps hd rows ps++[O.list [],O.list [V.int a,V.int b,V.ref<|4+2*U ps]]).set 3 (O.list<|iI (U ps)++[V.ref<|5+2*U ps])=cH steps hd rows (ps++[(a,b,[])]):=by
 unfold cH;rw[Hx,aK,show U ps+U [((a,b,[]):Piece)]=U ps+1 from rfl,ad3];rfl
theorem PX{aix T:J O}{p:B}{o:O}(h:U aix=p):(aix++T).set p o=aix++T.set 0 o:=by
 rw[JU,aE<|Yo h,h,fF]
theorem ad5{p:Piece}{x:J (J B)}:(cH steps hd rows<|ps++[p]).set (4+2*U ps) (.list<|aw x)=cH steps hd rows (ps++[(p.1,p.2.1,x)]):=by
 have e:∀q:Piece,cH steps hd rows (ps++[q])=(.list (bf steps):: .list (aw hd):: .list (aw rows):: .list (iI<|U ps+1)::np 4 ps)++[.list<|aw q.2.2,.list [.int q.1,.int q.2.1,.ref<|4+2*U ps]]:=λq=>by
  unfold cH;simp only[Hx,aK];rfl
 (refine D (e _)<|D (e _)<|D (PX<|by simp only[cK,Hw];exact M6) ?_);rfl
noncomputable def nq(k old new:B)(b:bb)(e:J B):J (ao×V):=[("inside",.bool b),("new",.int new),("old",.int old),("pieces",.ref 3),("rows",.ref 2),("end",.str<|tx e),("heads",.ref 1),("around",.int k),("steps",.ref 0)]
section
variable{C:Cx}{q:B}{st ba ce:St}
theorem ad6{ρ:J ax}{l:J V}{v:V}(e:V.IsL ρ h (l++[v]) xs):∃ys y,xs=ys++[y]/\V.IsL ρ h l ys/\v.Is ρ h y:=by
 induction l generalizing xs with
 |nil=>obtain⟨y,r,rfl,i,i2⟩:=e;obtain rfl:r=[]:=i2;exact⟨[],y,rfl,rfl,i⟩
 |cons aiy l ih=>
  refine cD e λz r bE i i2=>?_
  clear e;subst bE;refine dh (ih i2) λys y av G h2=>?_
  subst av;exact⟨z::ys,y,rfl,⟨z,ys,rfl,i,G⟩,h2⟩
theorem aQ.pop{k:B}{l:J V}{v:V}(hk:st.hp[k]?=some (.list<|l++[v]))(hz:U l<=1000000):aQ C n (.builtin "list.pop") [.ref k] st v ⟨st.loc,st.hp.set k<|.list l⟩:=.mk λA s ρ xs Q hA R aV h=>by
 refine cD aV λx r bE cx i2=>?_
 clear aV;subst bE;refine aH cx λa ha av=>?_
 clear cx;subst av;obtain rfl:r=[]:=i2;refine dv (R.led.objs k _ a hk ha) λvs m ho hl=>dh (ad6 hl) λys y e G h2=>?_
 have hs:vs.size=U l+1:=by refine bL eO<|D (dK hl)<|D aK ?_;rfl
 have hy:vs[vs.size-1]?=some y:=by
  refine bL (jX)<|D e<|bL eO<|D e<|D aK ?_;simp
 have her:(vs.eraseIdxIfInBounds<|vs.size-1).toList=ys:=by
  have:vs=(ys++[y]).toArray:=by exact bL e rfl
  subst this;simp[bD.eraseIdxIfInBounds];exact D (J.eraseIdx_append_of_length_le (aG _) _)<|D (fF _)<|cM _
 refine DV F.slot_list_pop ⟨_,ho,rfl⟩ F.entry_list_pop (F.args_list_pop_1 _) (MeetsSeq.list_pop_last a vs m y hy<|by refine D hs ?_;exact mn<|by exact Z4 hz) ⟨ho,?_⟩;refine xE (⟨_,rfl⟩:∃m',fX (λxs=>xs.eraseIdxIfInBounds<|vs.size-1) ⟨.type "list",aA,.seq vs m,#[]⟩=⟨.type "list",aA,.seq (vs.eraseIdxIfInBounds<|vs.size-1) m',#[]⟩) λm' e'=>?_
 have ht:mc ⟨pP "list",aA,.seq vs m,#[]⟩=false:=by rfl
 have j7:bF s.heap (s.heap.update a<|fX λxs=>xs.eraseIdxIfInBounds<|vs.size-1):=jY (iA ..) ho ht;refine h ρ _ _ (bk.change R (ob:=.list l) ha (iA ..) ⟨_,m',(pO _ ho rfl).trans<|bA some e',?_⟩ s.toks)<|h2.mono (bP _) j7;exact D her<|G.mono (bP _) j7
end
theorem Hz{it:ax}{i:B}{oo:bc}{items:bD ak}{x:ak}(hit:h.get? it=some ⟨.type "tuple_iterator",aA,.fields #[.ref tp,.int i 0],#[]⟩)
  (ie:h.get? tp=some oo) (hd:oo.data= .seq items m) (hx:items[i]?=some x)
  (hQ:∀h',h'.get? it=some ⟨.type "tuple_iterator",aA,.fields #[.ref tp,.int ((i+1:B):az) 0],#[]⟩->iV it h h'->Q (some x) ⟨h',g,d,t,os⟩):aF (aN M w) A (oF<|.ref it) Q E ⟨h,g,d,t,os⟩:=by
 have hT:(⟨h,g,d,t,os⟩:ay).TypeIs (.ref it) "tuple_iterator":=⟨_,hit,rfl⟩
 refine wpAny_bind<|wpAny_attempt<|wpAny_callSpecial?_slot (name:=ft "__next__") hT slot_tupleiter_next<|wpAny_call_entry slot_tupleiter_next hT entry_tupleiter_next ?_<|args_tupleiter_next _;show aF _ _ (field (.ref it) 0 >>= _) _ _ _;refine wpAny_bind<|wpAny_field hit rfl (x:=.ref tp) rfl ?_;dsimp only;show aF _ _ (if(ud tp==jB)=true then _ else _) _ _ _;refine D (aE λe=>by cases e) ?_
 show aF _ _ (field (.ref it) 1 >>= _) _ _ _;refine wpAny_bind<|wpAny_field hit rfl (x:=.int i 0) rfl<|wpAny_bind<|wpAny_seqItems ie hd ?_;simp only[xB,hx];refine wpAny_bind<|wpAny_setField hit rfl (aG _)<|wpAny_pure ⟨x,rfl,wpAny_pure<|hQ _ ((pO _ hit rfl).trans ?_)<|iA ..⟩;rfl
theorem ad7{it:ax}{i:B}{oo:bc}{items:bD ak}(hh:A.handled=aA)(hit:h.get? it=some ⟨.type "tuple_iterator",aA,.fields #[.ref tp,.int i 0],#[]⟩)
  (ie:h.get? tp=some oo) (hd:oo.data= .seq items m) (hx:items[i]?=aA)
  (hQ:∀h',qW it h h'->Q aA ⟨h',g,d,t,os⟩):aF (aN M w) A (oF<|.ref it) Q E ⟨h,g,d,t,os⟩:=by
 have hT:(⟨h,g,d,t,os⟩:ay).TypeIs (.ref it) "tuple_iterator":=⟨_,hit,rfl⟩
 refine wpAny_bind<|wpAny_attempt<|wpAny_callSpecial?_slot (name:=ft "__next__") hT slot_tupleiter_next<|wpAny_call_entry slot_tupleiter_next hT entry_tupleiter_next ?_<|args_tupleiter_next _;show aF _ _ (field (.ref it) 0 >>= _) _ _ _;refine wpAny_bind<|wpAny_field hit rfl (x:=.ref tp) rfl ?_;dsimp only;show aF _ _ (if(ud tp==jB)=true then _ else _) _ _ _;refine D (aE λe=>by cases e) ?_
 show aF _ _ (field (.ref it) 1 >>= _) _ _ _;refine wpAny_bind<|wpAny_field hit rfl (x:=.int i 0) rfl<|wpAny_bind<|wpAny_seqItems ie hd ?_;simp only[xB,hx];refine wpAny_bind (wpAny_rule<|wpAny_bind<|wpAny_setField hit rfl (by simp) ?_);have hs:A.in1.handled=aA:=hh
 iterate 30 (try (first|wp_step))
 refine wpAny_bind<|wpAny_handled<|D hs<|wpAny_bind<|wpAny_pure<|wpAny_throw ?_;refine wpAny_bind<|wpAny_isInstance (T:="StopIteration") (b:=true) ⟨_,ew _ rfl,rfl⟩ isSubtype_stop ?_;exact wpAny_pure<|hQ _<|((iA ..).extBut.push _).push _
theorem ad8:tT "tuple.__iter__"=some .slot:=by kernel_rfl
theorem ad9:splitId "tuple.__iter__"=some ("tuple","__iter__"):=by kernel_rfl
theorem aea{Q:fD->ay->Prop}(hC:h.get? c=some (dW nm q c N k0 k1 k2 k3 k5))(ha:h.get? a=some ⟨.ref c,dd,.seq vs n,#[]⟩)(hq:Q () ⟨h,g,d,t,os⟩):
  aF (aN M w) A (mI "tuple.__iter__" ⟨[.ref a],[]⟩) Q E ⟨h,g,d,t,os⟩:=by
 have Hk:=args_tuple_iter<|.ref a;unfold mI;refine D ad8<|D ad9 ?_
 repeat (first|with_reducible refine wpAny_loadPart_at ha ?_|with_reducible refine sV hC ?_|wp_step)
 exact hq
theorem aeb{Q:ak->ay->Prop}(hC:h.get? c=some (dW nm q c N k0 k1 k2 k3 k5))(hn:h.Ns N mN)(hi:mN "__iter__"=aA)
  (ie:h.get? tp=some ⟨.ref c,dd,.seq vs m,#[]⟩)
  (hQ:Q (.ref h.objs.size) ⟨h.push ⟨.type "tuple_iterator",aA,.fields #[.ref tp,.int 0 0],#[]⟩,g,d,t,os⟩):aF (aN M w) A (oG<|.ref tp) Q E ⟨h,g,d,t,os⟩:=by
 have f1:=slot_tuple_iter.lookup;have f2:=slot_tuple_iter.bind<|.ref tp;unfold oG
 iterate 30 (try (first|with_reducible refine ql hC hn f1 ?_|with_reducible refine wpAny_loadPart_at ie ?_|wp_step))
 refine D hi ?_
 have pre:callSpecialIfBoundUnlessNone? (ud tp) "__iter__"=callSpecialIfBoundUnlessNone? (ud tp) "__iter__":=rfl;unfold callSpecialIfBoundUnlessNone?
 iterate 30 (try (first|with_reducible refine ql hC hn f1 ?_|with_reducible refine wpAny_loadPart_at ie ?_|(rw[hi];dsimp only)|wp_step))
 refine wpAny_askSetting ?_
 have lU:(⟨h,g,d,t,os⟩:ay).heap.get? tp=some ⟨.ref c,dd,.seq vs m,#[]⟩:=ie;have f9:=slot_tupleiter_next.lookup;have tail:∀{R:ak->ay->Prop},R (.ref h.objs.size) ⟨h.push ⟨.type "tuple_iterator",aA,.fields #[.ref tp,.int 0 0],#[]⟩,g,d,t,os⟩->aF (aN M w) A (gO (.builtin "tuple.__iter__") [.ref tp]) R E ⟨h,g,d,t,os⟩:=λhR=>by
  refine wpAny_call<|codeAny_call_builtin slot_tuple_iter.plain entry_tuple_iter<|aea hC ie ?_;show aF _ _ (do ret (←newFields "tuple_iterator" [.ref tp,rawInt 0])) _ _ _;exact wpAny_bind<|wpAny_newObj_type<|wpAny_pure hR
 split
 ·iterate 24 (try (first|exact hQ|refine tail ?_|with_reducible refine wpAny_loadPart_at (ew _ rfl) ?_|wp_step))
 ·refine wpAny_tryCatch ?_
  iterate 24 (try (first|exact hQ|refine tail ?_|with_reducible refine wpAny_loadPart_at (ew _ rfl) ?_|wp_step))
theorem aec{x y z:ak}{Q:J ak->ay->Prop}(hh:A.handled=aA)(hC:h.get? c=some (dW nm q c N k0 k1 k2 k3 k5))(hn:h.Ns N mN)(hi:mN "__iter__"=aA)
  (ie:h.get? tp=some ⟨.ref c,dd,.seq #[x,y,z] m,#[]⟩)
  (hQ:∀h',(∀b o,h.get? b=some o->h'.get? b=some o)->Q [x,y,z] ⟨h',g,d,t,os⟩):aF (aN M w) A (unpackItems (.ref tp) 3 aA) Q E ⟨h,g,d,t,os⟩:=by
 have bJ:tp<h.objs.size:=dH ie;have k0:∀b o,h.get? b=some o->(h.push ⟨.type "tuple_iterator",aA,.fields #[.ref tp,.int 0 0],#[]⟩).get? b=some o:=λb o e=>dD _ e;have step:∀{G h2:bn},(∀b o,h.get? b=some o->G.get? b=some o)->iV h.objs.size G h2->∀b o,h.get? b=some o->h2.get? b=some o:=λk s b o e=>(s.2 b<|iS<|dH e).trans<|k b o e;refine wpAny_bind ?_
 unfold notIterableAtAll specialOf;have f1:=slot_tuple_iter.lookup
 iterate 12 (try (first|with_reducible refine ql hC hn f1 ?_|with_reducible refine wpAny_loadPart_at ie ?_|(rw[hi];dsimp only)|wp_step))
 refine wpAny_holding<|aeb hC hn hi ie<|wpAny_bind<|wpAny_holding ?_;have yX:(h.push ⟨.type "tuple_iterator",aA,.fields #[.ref tp,.int 0 0],#[]⟩).get? h.objs.size=some ⟨.type "tuple_iterator",aA,.fields #[.ref tp,.int ((0:B):az) 0],#[]⟩:=ew _ rfl;refine wpAny_bind<|Hz yX (k0 _ _ ie) rfl (x:=x) rfl λG aed s1=>wpAny_bind<|wpAny_holding ?_;have k1:=step k0 s1;refine wpAny_bind<|Hz aed (k1 _ _ ie) rfl (x:=y) rfl λh2 mT s2=>wpAny_bind<|wpAny_holding ?_;have k2:=step k1 s2;refine wpAny_bind<|Hz mT (k2 _ _ ie) rfl (x:=z) rfl λh3 aee s3=>wpAny_bind<|wpAny_holding ?_;have k3:=step k2 s3;exact wpAny_pure (wpAny_pure<|wpAny_pure<|wpAny_pure<|D (aE<|by simp)<|wpAny_bind<|wpAny_holding<|ad7 hh aee (k3 _ _ ie) rfl rfl λh4 e4=>(D (aE<|by simp)<|wpAny_pure<|hQ h4 λb o e=>e4 b o (iS<|dH e)<|k3 b o e))
section
variable{C:Cx}{q:B}{st ba ce:St}
theorem c8.HA{elts:J bB}{k:B}{p:cN}{aiy v r:V}{qn:ao}(hC:C.top.get? c=some (dW nm qn c N k0 k1 k2 k3 k5))(hn:C.top.Ns N mN)(hi:mN "__iter__"=aA)
  (h:bU C n elts [aiy,v,r] st am):c8 C n (.Tuple elts k p) (.tup (.ref c) [aiy,v,r]) st am:=.mk λA s ρ x Q hA R hv hq=>by
 rw[Ex];refine wpAny_bind<|wpAny_standAt ?_;unfold unpack;refine D h.star.1<|D h.star.2<|oJ hv λtc a vs m bE cx bR=>?_;clear hv;subst bE;obtain⟨dd,cO⟩:=cx;refine vS bR λy0 q1 e2 j0 y1 q2 Bn=>uh Bn λe3 j1 y2 q3 e4 j2 e5=>?_
 subst e3 e4 e5;have HB:vs=#[y0,y1,y2]:=t9 e2;subst HB;obtain⟨hh,g,d,t,os⟩:=s;refine wpAny_bind<|wpAny_holding<|aec hA.1 (R.led.top _ _ hC) (hn.keeps R.led.top) hi cO λh' hk=>?_;have N:=bk.grow (s':=⟨h',g,d,t,os⟩) R hk (eN.refl _) rfl rfl;exact h.go hA N.rep ⟨_,_,rfl,j0.mono N.pre N.aX,_,_,rfl,j1.mono N.pre N.aX,_,_,rfl,j2.mono N.pre N.aX,rfl⟩ λbh s2 N2=>hq bh s2<|N.trans N2
end
theorem aef:tT "tuple.__lt__"=some .slot:=by kernel_rfl
theorem aeg:splitId "tuple.__lt__"=some ("tuple","__lt__"):=by kernel_rfl
theorem aeh{Q:bb->ay->Prop}(hC:h.get? c=some (dW nm q c N k0 k1 k2 k3 k5))(ha:h.get? a=some ⟨.ref c,dd,.seq vs n,#[]⟩)(hq:Q true ⟨h,g,d,t,os⟩):
  aF (aN M w) A (isInstance (.ref a)<|.type "tuple") Q E ⟨h,g,d,t,os⟩:=by
 unfold isInstance
 repeat (first|with_reducible refine wpAny_loadPart_at ha ?_|with_reducible refine sV hC ?_|wp_step)
 exact hq
theorem aei{b:ak}{Q:fD->ay->Prop}(hC:h.get? c=some (dW nm q c N k0 k1 k2 k3 k5))(ha:h.get? a=some ⟨.ref c,dd,.seq vs n,#[]⟩)(hq:Q () ⟨h,g,d,t,os⟩):
  aF (aN M w) A (mI "tuple.__lt__" ⟨[.ref a,b],[]⟩) Q E ⟨h,g,d,t,os⟩:=by
 have Hk:=F.args_tuple_lt_2 (.ref a) b;unfold mI;refine D aef<|D aeg ?_
 repeat (first|with_reducible refine wpAny_loadPart_at ha ?_|with_reducible refine sV hC ?_|wp_step)
 exact hq
theorem aej{b:ax}{da db:bC ax}{i j:az}{ti tj:jg}{ys:J ak}{Q:Fin->ay->Prop}(hC:h.get? c=some (dW nm q c N k0 k1 k2 k3 k5))(ha:h.get? a=some ⟨.ref c,da,.seq (qZ i ti::xs).toArray n,#[]⟩)(hb:h.get? b=some ⟨.ref c,db,.seq (qZ j tj::ys).toArray m,#[]⟩)
  (cw:i≠j) (hq:Q (.done<|.ret<|.bool<|decide (i<j)) ⟨h,g,d,t,os⟩):
  aF (aN M w) A (ed.«tuple.__lt__» ⟨[.ref a,.ref b],[]⟩) Q E ⟨h,g,d,t,os⟩:=by
 show aF _ _ (isInstance (.ref b) (.type "tuple") >>= _) _ _ _;refine wpAny_bind<|aeh hC hb ?_;refine wpAny_ite_false rfl ?_
 refine wpAny_bind<|wpAny_tupleItemsOf ha rfl<|wpAny_bind<|wpAny_tupleItemsOf hb rfl ?_;rw[Dy,Ad];refine wpAny_bind<|wpAny_bind<|wpAny_bind<|wpAny_eqBool_int<|D (beq_false_of_ne cw:(i==j)=false) ?_;simp only[D7,xo];exact wpAny_bind<|wpAny_rule<|wpAny_bind<|K0<|wpAny_bind<|wpAny_pure<|wpAny_pure<|wpAny_pure<|wpAny_pure hq
theorem aek{b:ax}{da db:bC ax}{i j:az}{ti tj:jg}{ys:J ak}{Q:bb->ay->Prop}(hu:A.units<cLine)(hC:h.get? c=some (dW nm q c N k0 k1 k2 k3 k5))(hn:h.Ns N mN)(hi:mN "__lt__"=aA)(ha:h.get? a=some ⟨.ref c,da,.seq (qZ i ti::xs).toArray n,#[]⟩)(hb:h.get? b=some ⟨.ref c,db,.seq (qZ j tj::ys).toArray m,#[]⟩)
  (cw:i≠j) (hq:Q (decide (i<j)) ⟨h,g,d,t,os⟩):aF (aN M w) A (keyLt' oneType' (.ref a)<|.ref b) Q E ⟨h,g,d,t,os⟩:=by
 have f1:ea (.type "tuple") "__lt__"=pure (some<|.builtin "tuple.__lt__"):=Em.lookup;have f2:=Em.bind<|.ref a;have tail:aF (aN M w) A (gO (.builtin "tuple.__lt__") [.ref a,.ref b]) (λv s'=>v= .bool (decide (i<j))/\s'=⟨h,g,d,t,os⟩) E ⟨h,g,d,t,os⟩:=
  wpAny_call (codeAny_call_builtin Em.plain F.entry_tuple_lt<|aei hC ha<|aej hC ha hb cw ⟨rfl,rfl⟩)
 rw[keyLt'_oneType,oneLt'_eq];simp only[xo];refine wpAny_bind<|wpAny_cRoomFor hu ?_;unfold callSpecialIfBound?
 iterate 30 (try (first|with_reducible refine ql hC hn f1 ?_|with_reducible refine wpAny_loadPart_at ha ?_|(rw[hi];dsimp only)|wp_step))
 refine wpAny_askSetting<|D f2 ?_;split
 ·refine wpAny_bind<|wpAny_pure<|wpAny_pure<|wpAny_bind<|wpAny_mono tail (λv s' hs=>(xA hs λav bE=>?_)) λH H x=>x;clear hs;subst av bE;exact wpAny_pure<|wpAny_truthy_bool hq
 ·refine wpAny_tryCatch<|wpAny_bind<|wpAny_pure<|wpAny_pure<|wpAny_bind<|wpAny_mono tail (λv s' hs=>(xA hs λav bE=>?_)) λH H x=>x;clear hs;subst av bE;exact wpAny_pure<|wpAny_truthy_bool hq
end
end Mine.Internal
namespace Mine.Internal
open PySem PySem.W PyProof.Rows
section
variable{α:Type}{p:bD B}{i j m:B}{a:ax}{vs:J ak}
section
variable{β:Type}{v:B->B->Prop}{c:B->B->bb}
noncomputable def fS(v:B->B->Prop)(c:B->B->bb):KasT α->(α->Prop)->Prop
 | .ret a,Q=>Q a
 | .ask i j k,Q=>v i j/\fS v c (k<|c i j) Q
theorem fS.bind{aiA:α->KasT β}{Q:β->Prop}:∀{t:KasT α},fS v c t (λa=>fS v c (aiA a) Q)->fS v c (t.bind aiA) Q
 | .ret _=>λh=>h
 | .ask _ _ _=>λh=>⟨h.1,fS.bind h.2⟩
theorem fS.mono{Q Q':α->Prop}(hq:∀a,Q a->Q' a):∀{t:KasT α},fS v c t Q->fS v c t Q'
 | .ret a=>λh=>hq a h
 | .ask _ _ _=>λh=>⟨h.1,fS.mono hq h.2⟩
theorem fS.wp{cmp:B->B->(bb->ay->Prop)->ay->Prop}{s0:ay}{aiz:α->ay->Prop}(uU:∀i j (C:bb->ay->Prop),v i j->C (c i j) s0->cmp i j C s0):∀{t:KasT α} {Q:α->Prop},fS v c t Q->(∀a,Q a->aiz a s0)->t.kasWp cmp aiz s0
 | .ret a,_,h,hg=>hg a h
 | .ask i j k,_,h,hg=>uU i j _ h.1<|fS.wp uU h.2 hg
end
section
variable{n:B}{key:B->B}
noncomputable def kv(n:B)(i j:B):Prop:=i<n/\j<n/\i≠j
noncomputable def kc(key:B->B)(i j:B):bb:=decide (key i<key j)
noncomputable def kp(key:B->B)(p:bD B)(i:B):B:=key<|p.getD i 0
structure Gd(n:B)(p:bD B):Prop where
 size:p.size=n
 perm:p.toList.Perm (eD n)
noncomputable def nt(key:B->B)(p:bD B)(k:B):Prop:=∀i j,i<j->j<k->kp key p i<kp key p j
noncomputable def sY(key:B->B)(p:bD B)(k:B):Prop:=∀i j,i<j->j<k->kp key p j<kp key p i
theorem B6{q:bD B}(h:p[i]?=q[j]?):kp key p i=kp key q j:=by
 unfold kp;simp only[t8,t8,h]
theorem Gd.val(h:Gd n p)(hi:i<n):p.getD i 0<n:=by
 have hs:=h.size;have:p.getD i 0∈p.toList:=by
  simp only[t8,ia<|me hi hs];simp
 exact rW.mp<|h.perm.mem_iff.mp this
theorem Gd.ne(h:Gd n p)(hi:i<n)(hj:j<n)(fT:i≠j):p.getD i 0≠p.getD j 0:=by
 have hs:=h.size;have hn:p.toList.Nodup:=h.perm.nodup_iff.mpr xe;intro e;rw[t8,t8,ia (me hi hs),ia (me hj hs)] at e;simp only[vE] at e;exact fT ((DG (h₀:=by simpa using(me hi hs:i<p.size)) (h₁:=by simpa using(me hj hs:j<p.size)) hn).mp (by simpa using e))
theorem Gd.ok(h:Gd n p)(hi:i<n)(hj:j<n)(fT:i≠j):kv n (p.getD i 0) (p.getD j 0):=⟨h.val hi,h.val hj,h.ne hi hj fT⟩
theorem Gd.HC(hk:∀i j,i<n->j<n->key i=key j->i=j)(h:Gd n p)(hi:i<n)(hj:j<n)(fT:i≠j)(hl:¬kp key p i<kp key p j):kp key p j<kp key p i:=by
 have:=h.ne hi hj fT;have:kp key p i≠kp key p j:=λe=>this<|hk _ _ (h.val hi) (h.val hj) e;exact WQ hl this
theorem Gd.rev(h:Gd n p)(i j:B):Gd n (kas_rev p i j):=
 ⟨(kas_rev_size i j).trans h.size,(KD.mp<|mirror_perm ..).trans h.perm⟩
theorem Gd.bubble{p:bD B}(h:Gd n p)(i j:B):Gd n (PyProof.Rows.bubble p i j):=
 ⟨(bubble_size ..).trans h.size,(KD.mp<|bubble_perm ..).trans h.perm⟩
theorem nt.ext(G:1<=m)(h:nt key p m)(hl:kp key p (m-1)<kp key p m):nt key p (m+1):=λi j fT hj=>by
 by_cases hm:j=m
 ·subst hm
  by_cases hi:i=j-1
  ·subst hi;exact hl
  ·exact tP (h i (j-1) (MT fT hi)<|MS G) hl
 ·exact h i j fT<|E3 hj hm
theorem sY.ext(G:1<=m)(h:sY key p m)(hl:kp key p m<kp key p (m-1)):sY key p (m+1):=λi j fT hj=>by
 by_cases hm:j=m
 ·subst hm
  by_cases hi:i=j-1
  ·subst hi;exact hl
  ·exact tP hl<|h i (j-1) (MT fT hi)<|MS G
 ·exact h i j fT<|E3 hj hm
theorem PY{k:B}(hm:m<=p.size)(hk:k<m):kp key (kas_rev p 0 m) k=kp key p (m-1-k):=by
 refine B6 ?_
 have:=getElem?_mirror_all (i:=0) hm k
 rw[aU ⟨bH _,hk⟩,iu] at this;exact this
theorem sY.rev(hm:m<=p.size)(h:sY key p m):nt key (kas_rev p 0 m) m:=λi j fT hj=>by
 exact D (PY hm<|by exact tP ‹_› ‹_›) (D (PY hm hj)<|h _ _ (by exact WP fT hj)<|by exact WO hj)
variable(hk:∀i j,i<n->j<n->key i=key j->i=j)
include hk
theorem HD{p:bD B}(g:Gd n p):∀(aiA m:B),1<=m->m+aiA<=n->nt key p m->fS (kv n) (kc key) (kas_asc p aiA m) (λr=>m<=r/\r<=m+aiA/\nt key p r/\(r<m+aiA->kp key p r<kp key p (r-1)))
 |0=>λm G h2 h3=>⟨aG _,aG _,h3,λh=>aY h<|jf _⟩
 |aiA+1=>λm G h2 h3=>by
  refine⟨g.ok (ul h2) (xP h2)<|AR G,?_⟩;show fS _ _ (if decide (kp key p m<kp key p (m-1))=true then _ else _) _
  by_cases hc:kp key p m<kp key p (m-1)
  ·exact D (aU<|dF hc)<|⟨aG _,by exact dZ _ _,h3,λH=>hc⟩
  ·exact D (aE<|by simpa using hc) ((HD g aiA (m+1) (rY _) (xM h2)<|h3.ext G<|g.HC hk (ul h2) (xP h2) (AR G) hc).mono λr hr=>(gc hr λa b cc d=>(⟨by exact lz ‹_›,by exact MR b,cc,λh=>d<|by exact WN h⟩)))
theorem PZ{p:bD B}(g:Gd n p):∀(aiA m:B),1<=m->m+aiA<=n->sY key p m->fS (kv n) (kc key) (kas_desc aiA p m 0) (λr=>r.1=p/\m<=r.2.1/\r.2.1<=m+aiA/\sY key p r.2.1/\r.2.2=0)
 |0=>λm G h2 h3=>⟨rfl,aG _,aG _,h3,rfl⟩
 |aiA+1=>λm G h2 h3=>by
  refine⟨g.ok (ul h2) (xP h2)<|AR G,?_⟩;show fS _ _ (if decide (kp key p m<kp key p (m-1))=true then(if 0>0 then _ else _) else _) _
  by_cases hc:kp key p m<kp key p (m-1)
  ·exact D (aU<|dF hc) (D (aE<|by decide)<|(PZ g aiA (m+1) (rY _) (xM h2)<|h3.ext G hc).mono λr hr=>(se hr λe a b cc d=>(⟨e,by exact lz ‹_›,by exact MR b,cc,d⟩)))
  ·refine D (aE<|by simpa using hc)<|⟨g.ok (xP h2) (ul h2)<|WM G,?_⟩;have hd:=g.HC hk (i:=m) (j:=m-1) (ul h2) (xP h2) (AR G) hc;show fS _ _ (if decide (kp key p (m-1)<kp key p m)=true then _ else _) _;refine D (aU<|dF hd) ?_
   exact⟨rfl,aG _,by dsimp only;exact dZ _ _,h3,rfl⟩
theorem ael(G:1<=n)(g:Gd n p):fS (kv n) (kc key) (kas_count n p) (λr=>1<=r.1/\r.1<=n/\Gd n r.2/\nt key r.2 r.1):=by
 refine fS.bind ((HD hk g (n-1) 1 (aG _) (WL G) λi j a b=>by exact MQ b a).mono λm hm=>(gc hm λa b cc d=>?_))
 by_cases e:m=n
 ·subst e;exact D (aU<|by simp)<|⟨a,aG _,g,cc⟩
 ·refine D (aE<|by simpa using e) ?_
  by_cases gF:m>1
  ·refine D (aU gF)<|⟨g.ok ‹_› (WK gF b) (WJ gF),?_⟩;show fS _ _ (if decide (kp key p 0<kp key p (m-1))=true then _ else _) _;exact D (aU<|dF<|cc 0 (m-1) (by exact WI gF)<|by exact WH gF)<|⟨a,by exact WG gF b,g,cc⟩
  ·refine D (aE gF) ?_
   obtain rfl:m=1:=by exact WF a gF
   have hd:=d<|WE e G;refine fS.bind<|(PZ hk g (n-(1+1)) 2 (eM _) (WD e G)<|sY.ext (aG 1) (λi j a b=>by exact MQ b a) hd).mono λr hr=>?_;obtain⟨p',m',q'⟩:=r;refine se hr λe1 e2 e3 e4 e5=>?_
   dsimp only at e1 e2 e3 e4 e5;subst e1 e5;dsimp only;refine D (aE<|by decide) ?_
   have hs:=g.size;refine fS.bind ((HD hk (g.rev 0 m') (n-m') m' (by exact lz ‹_›) (WC e G e3)<|e4.rev<|WB e G hs e3).mono λr hr=>(gc hr λq1 q2 q3 q4=>?_));exact⟨by dsimp only;exact WA e2 q1,by dsimp only;exact Wz e G e3 q2,g.rev 0 m',q3⟩
theorem HE{p:bD B}(g:Gd n p){k:B}(qm:k<n)(hs:nt key p k):∀(aiA l r:B),l<=r->r<=k->r-l<=aiA->(∀i,i<l->kp key p i<kp key p k)->(∀i,r<=i->i<k->kp key p k<kp key p i)->
  fS (kv n) (kc key) (kas_place p k aiA l r) (λm=>m<=k/\(∀i,i<m->kp key p i<kp key p k)/\(∀i,m<=i->i<k->kp key p k<kp key p i))
 |0=>λl r G h2 h3 h4 h5=>by
  obtain rfl:l=r:=by exact Wy h3 G
  exact⟨h2,h4,h5⟩
 |aiA+1=>λl r G h2 h3 h4 h5=>by
  dsimp only[kas_place]
  by_cases hl:l≥r
  ·refine D (aU hl) ?_
   obtain rfl:l=r:=by exact Wx G hl
   exact⟨h2,h4,h5⟩
  ·refine D (aE hl) ?_
   have gF:l<=(l+r) / 2:=by lia
   have lW:(l+r) / 2<r:=by lia
   generalize (l+r) / 2=m at gF lW ⊢;refine⟨g.ok qm (MO qm lW h2)<|AK lW h2,?_⟩;show fS _ _ (if decide (kp key p k<kp key p m)=true then _ else _) _
   by_cases hc:kp key p k<kp key p m
   ·refine D (aU<|dF hc) (HE g qm hs aiA l m gF (EU lW h2) (Ww h3 lW) h4 λi a b=>?_)
    by_cases e:i=m
    ·subst e;exact hc
    ·exact tP hc<|hs m i (Wv e a) b
   ·refine D (aE<|by simpa using hc) ?_
    have hd:=g.HC hk qm (j:=m) (MO qm lW h2) (AK lW h2) hc;refine HE g qm hs aiA (m+1) r ‹_› h2 (Wu h3 gF) (λi a=>?_) h5
    by_cases e:i=m
    ·subst e;exact hd
    ·exact tP (hs i m (E3 a e)<|by exact oB ‹_› ‹_›) hd
theorem P0:∀(aiA:B) {p:bD B} (k:B),Gd n p->k+aiA=n->nt key p k->fS (kv n) (kc key) (kas_bin aiA p k) (λp'=>Gd n p'/\nt key p' n)
 |0,p,k,g,h,hs=>by
  obtain rfl:k=n:=h;exact⟨g,hs⟩
 |aiA+1,p,k,g,h,hs=>by
  refine fS.bind ((HE hk g (LA h) hs k 0 k (bH _) (aG _) (aG _) (λi a=>by exact Wt a) λi a b=>by exact Ws b a).mono λl hl=>(eh hl λG h2 h3=>(P0 aiA (k+1) (g.bubble ..) (xN h) λi j fT hj=>?_)));have sz:=g.size;have at':∀x,kp key (bubble p k<|k-l) x=if x=l then kp key p k else if l<x/\x<=k then kp key p (x-1) else kp key p x:=λx=>by
   have:=getElem?_bubble (xs:=p) (src:=k) (Wr h sz) (k-l) (DU _ _) x
   rw[show k-(k-l)=l by exact Wq G] at this;split
   ·next e=>rw[aU e] at this;exact B6 this
   ·next e=>
    simp only[aE e] at this;split
    ·next e2=>rw[aU e2] at this;exact B6 this
    ·next e2=>rw[aE e2] at this;exact B6 this
  simp only[at',at']
  by_cases i1:i=l
  ·exact D (aU i1) (D (aE<|by exact Wp fT i1)<|D (aU<|by exact Wo hj fT i1)<|h3 _ (by exact Wn fT i1)<|by exact AQ hj fT)
  ·refine D (aE i1) ?_
   by_cases j1:j=l
   ·exact D (aU j1) (D (aE<|by exact Wm fT j1)<|h2 _<|by exact mO fT j1)
   ·refine D (aE j1) ?_
    by_cases i2:l<i
    ·exact D (aU<|by exact Wl hj i2 fT) (D (aU<|by exact Wk hj i2 fT)<|hs _ _ (by exact Wj i2 fT)<|by exact AQ hj fT)
    ·refine D (aE<|MN i2) ?_
     by_cases j2:l<j
     ·refine D (aU<|Wi hj j2) ?_
      by_cases e:j-1=l
      ·exact hs _ _ (Wh e i2 i1)<|AQ hj j2
      ·exact hs _ _ (Wg e i2 j2)<|AQ hj j2
     ·exact D (aE<|by exact MN j2) (hs _ _ ‹_› (by exact Wf j2 j1 G))
theorem aem(G:1<=n):fS (kv n) (kc key) (kas_sort n) (λp=>Gd n p/\nt key p n):=by
 have g:Gd n (qN<|eD n):=⟨by simp,J8 _⟩
 refine fS.bind<|(ael hk G g).mono λr hr=>(gc hr λa b cc d=>?_);split
 ·exact D (Kk a)<|P0 hk _ _ cc (by exact xp ‹_›) d
 ·obtain e:r.1=n:=by lia
  simp only[e] at d;exact⟨cc,d⟩
end
section
variable{M:du}{w:bx}{A:bS}{s:ay}{E:ak->ay->Prop}
noncomputable def lX(h:bn)(a:ax)(vs:J ak):bn:=((h.update a<|fX λH=>(#[]:bD ak)).push<|q7 "tuple" vs.toArray 0).push<|q7 "list" #[] 0
theorem aen{R:α->α->Prop}{l:J α}(h:U l<2):l.Pairwise R:=by
 cases l with
 |nil=>exact .nil
 |cons a l=>cases l with
  |nil=>exact Jv _ _
  |cons b l=>exact aY h<|iT.mpr<|pJ 2 _
theorem aeo{n:B}{T:ak}{key:B->B}{P:h9->ay->Prop}(ho:s.heap.get? a=some (q7 "list" vs.toArray n))(fU:U vs<64)
  (hk:∀i j,i<U vs->j<U vs->key i=key j->i=j)
  (hT:∀v∈vs,Looks (aN M w) (lX s.heap a vs) (typeOf v) T) (yS:(T !=pP "tuple")=true) (lU:(T==T)=true)
  (uU:∀i j,i<U vs->j<U vs->i≠j->∀(Q:bb->ay->Prop),Q (decide (key i<key j)) {s with heap:=lX s.heap a vs}->aF (aN M w) A (keyLt' oneType' (vs.getD i .none)<|vs.getD j .none) Q (λH H=>c7) {s with heap:=lX s.heap a vs})
  (h:∀(p:J B) m,p.Perm (eD<|U vs)->p.Pairwise (λi j=>key i<key j)->∀h',(∀b o,b≠a->s.heap.get? b=some o->h'.get? b=some o)->h'.get? a=some (q7 "list" (p.map λi=>vs.getD i jB).toArray m)->P (.done<|.ret .none) {s with heap:=h'}):
  aF (aN M w) A (ed.«list.sort» ⟨[.ref a],[]⟩) P E s:=by
 have ha:a<s.heap.objs.size:=dH ho;refine xE (⟨_,get?_update_seq ho λH=>#[]⟩:∃e1,(s.heap.update a<|fX λH=>(#[]:bD ak)).get? a=some (q7 "list" #[] e1)) λe1 yY=>?_
 have sZ:(lX s.heap a vs).get? a=some (q7 "list" #[] e1):=dD _<|dD _ yY;have aep:∀b o,b≠a->s.heap.get? b=some o->(lX s.heap a vs).get? b=some o:=λb o hb e=>
  dD _ (dD _<|((iA s.heap a _).2 b hb).trans e)
 have P1:∀(aiA:bc->bc) b o,b≠a->s.heap.get? b=some o->((lX s.heap a vs).update a aiA).get? b=some o:=λaiA b o hb e=>
  ((iA _ a aiA).2 b hb).trans (aep b o hb e)
 refine D (list_sort_plain _)<|wpAny_bind<|listItems_at ho rfl ?_;refine wpAny_bind (listUpdate_at ho rfl ?_ (by refine D rU<|D sizeLine_eq ?_;exact Fg fU)<|bH _);refine wpAny_bind<|seqEpoch_at yY rfl ?_;refine wpAny_bind (wpAny_newTuple ?_<|by show U vs<=_;rw[sizeLine_eq];exact Fg fU);refine wpAny_bind<|wpAny_newList (wpAny_holding ?_)<|bH _;show aF (aN M w) A _ P E {s with heap:=lX s.heap a vs}
 by_cases h2:U vs<2
 ·have sU:vs.toArray.size<2:=by exact D rU h2
  refine D (aU sU)<|D (aU sU)<|wpAny_bind<|wpAny_pure<|wpAny_bind<|wpAny_pure ?_;dsimp only;have uV:(arrOf<|AF general' (vs.toArray.zip vs.toArray) #[] 7 none).map (·.2)=vs.toArray:=by
   show(vs.toArray.zip vs.toArray).map (·.2)=_;apply KH.mp;simp[JR]
  refine D uV<|wpAny_bind<|seqEpoch_at sZ rfl ?_;refine wpAny_bind (listUpdate_at sZ rfl ?_ (bH _)<|by refine D rU<|D sizeLine_eq ?_;exact aae h2);refine wpAny_ite_false (fz<|by rw[Kb];exact dy) ?_
  show aF _ _ (do
   match (none:bC ak) with
   |some e=>rule "list.sort.comparison-raised";throw e
   |_=>pure ()
   ret .none) _ _ _
  refine wpAny_bind<|wpAny_pure<|wpAny_pure ?_;have uL:(eD<|U vs).map (λi=>vs.getD i jB)=vs:=by
   apply DF
   ·simp
   ·intro i G h2;have G:i<U vs:=by simpa using G
    simp[c5,bO G]
  refine xE (⟨_,get?_update_seq sZ λH=>vs.toArray⟩:∃c2,((lX s.heap a vs).update a<|fX λH=>vs.toArray).get? a=some (q7 "list" vs.toArray c2)) λc2 uC=>?_
  refine h (eD<|U vs) c2 (J8 _) ?_ _ (P1 _) (by refine D uL ?_;exact uC)
  exact aen (by exact D gL<|h2)
 ·have sU:¬vs.toArray.size<2:=by exact D rU h2
  refine D (aE sU) (D (aE sU)<|wpAny_bind<|kas_kind (by exact iR ‹_›) hT yS lU ?_);have Hm:AF oneType' (vs.toArray.zip vs.toArray) #[] 7 none=kas_st oneType' (pairsOf vs) (qN<|eD<|U vs):=by
   have e:=kas_range<|pairsOf vs;rw[pairsOf_size] at e;show AF oneType' (pairsOf vs) #[] 7 none=AF oneType' ((qN<|eD<|U vs).map<|kas_item<|pairsOf vs) #[] 7 none;exact D e rfl
  have ask:(kas_sort<|U vs).kasWp (kas_ask M w A oneType' vs) (λp s'=>s'={s with heap:=lX s.heap a vs}/\Gd (U vs) p/\nt key p (U vs)) {s with heap:=lX s.heap a vs}:=
   fS.wp (v:=kv<|U vs) (c:=kc key) (λi j C hv hC=>uU i j hv.1 hv.2.1 hv.2.2 C hC) (aem hk<|aad h2) (λp hp=>⟨rfl,hp⟩)
  rw[kas_ask_eq] at ask;have run:=kas_runs (E:=E) (Q:=λH aj s'=>∃p:bD B,arrOf aj=p.map (kas_item<|pairsOf vs)/\failedOf aj=none/\s'={s with heap:=lX s.heap a vs}/\Gd (U vs) p/\nt key p (U vs))
   (by exact iR ‹_›) fU (λp' aj s' a1 a2 a3 a4=>⟨p',a2,a3,a4⟩) ask
  rw[←Hm] at run;refine wpAny_bind<|wpAny_mono run ?_ λH H e=>e;intro dM s' hU;obtain⟨⟨⟩,aj⟩:=dM;refine ug hU λp HF hf av gp sp=>?_
  clear hU;subst av;dsimp only;have uV:(arrOf aj).map (·.2)=qN (p.toList.map λi=>vs.getD i jB):=by
   apply KH.mp;refine D HF<|D bD.map_map<|D bD.toList_map ?_;exact rT λi H=>by show(kas_item (pairsOf vs) i).2=_;exact D (kas_item_eq _ _) rfl
  have ka:(qN<|p.toList.map λi=>vs.getD i jB).size=U vs:=by rw[rU,bg,eO,gp.size]
  refine D uV<|xE (⟨_,get?_update_seq sZ λH=>qN<|p.toList.map λi=>vs.getD i jB⟩:∃c2,((lX s.heap a vs).update a<|fX λH=>qN<|p.toList.map λi=>vs.getD i jB).get? a=some (q7 "list" (qN<|p.toList.map λi=>vs.getD i jB) c2)) λc2 uC=>?_;refine wpAny_bind<|seqEpoch_at sZ rfl ?_;refine wpAny_bind (listUpdate_at sZ rfl ?_ (bH _)<|cX (Ak ka)<|by rw[sizeLine_eq];exact aac fU);refine D hf ?_
  refine wpAny_ite_false (fz<|by rw[Kb];exact dy) ?_
  refine wpAny_pure<|h p.toList c2 gp.perm ?_ _ (P1 _) uC;rw[Dr];intro i j hi hj fT;have hl:U p.toList=U vs:=by rw[eO,gp.size]
  have:=sp i j fT<|mO hj hl;unfold kp at this;rw[t8,t8,ia (by have:=gp.size;assumption),ia (by have:=gp.size;assumption)] at this;simpa using this
end
theorem aeq{h:bn}{o:bc}(ho:h.get? a=some o)(ht:mc o=false):bF h (lX h a vs):=
 ((jY (iA h a _) ho ht).trans<|bF.push _ _).trans (bF.push _ _)
theorem aer{h top:bn}(k:∀b o,top.get? b=some o->h.get? b=some o)(ha:top.objs.size<=a):∀b o,top.get? b=some o->(lX h a vs).get? b=some o:=λb o e=>
 dD _ (dD _<|((iA h a _).2 b (λq=>by subst q;exact aY (dH e)<|iT.mpr ha)).trans<|k b o e)
section
variable{C:Cx}{n q:B}{st am ba ce:St}
theorem aQ.sort{α:Type}[Inhabited α]{k:B}{bs yZ:J α}{aiA:α->B}{r:α->J V}{c N:ax}{nm qn:ao}{k0 k1 k2 k3 k5:bC ak}{mN:ao->bC ak}(hC:C.top.get? c=some (dW nm qn c N k0 k1 k2 k3 k5))(hn:C.top.Ns N mN)(hi:mN "__lt__"=aA)
  (hk:st.hp[k]?=some (.list<|bs.map λx=>V.tup (.ref c)<|.int (aiA x)::r x)) (fU:U bs<64) (hp:yZ.Perm bs) (hs:yZ.Pairwise λx y=>aiA x<aiA y):
  aQ C (n+1) (.builtin "list.sort") [.ref k] st .none ⟨st.loc,st.hp.set k<|.list<|yZ.map λx=>V.tup (.ref c)<|.int (aiA x)::r x⟩:=.mk λA s ρ xs Q hA R aV h=>by
 refine cD aV λx rr bE cx i2=>?_
 clear aV;subst bE;refine aH cx λa ha av=>?_
 clear cx;subst av;obtain rfl:rr=[]:=i2;refine dv (R.led.objs k _ a hk ha) λvs m ho hl=>?_
 have hlen:U vs.toList=U bs:=(dK hl).trans<|bg _;have cw:(bs.map aiA).Nodup:=by
  refine(hp.map aiA).nodup_iff.mp ?_
  rw[J.nodup_iff_pairwise_ne,JO];exact hs.imp λh=>iS h
 have el:∀i,i<U vs.toList->∃e d us mm t ys,vs.toList.getD i .none= .ref e/\s.heap.get? e=some ⟨.ref c,d,.seq us mm,#[]⟩/\us.toList=qZ (aiA<|bs.getD i default) t::ys:=λi ic=>by
  have hb:i<U bs:=by exact mO ic hlen
  refine Tg (V.IsL.get hl (i:=i) (v:=V.tup (.ref c)<|.int (aiA<|bs.getD i default)::r (bs.getD i default))<|by refine D (c6)<|D (bO hb)<|D (c5)<|D (bO hb) ?_;rfl) λx hx tc e us mm bR=>?_
  refine eh bR λbE cx iL=>?_
  clear bR;subst bE;refine xE cx λd he=>dh iL λy ys ey cq H=>xE cq λt av=>?_
  clear cq;subst av;exact⟨e,d,us,mm,t,ys,by refine D (c5)<|D hx ?_;rfl,he,ey⟩
 have aT:C.top.objs.size<=a:=R.led.low a<|dT ha;have P2:mc ⟨pP "list",aA,.seq vs m,#[]⟩=false:=by rfl
 have j7:=aeq (vs:=vs.toList) ho P2;have P3:=aer (vs:=vs.toList) R.led.top aT;have gD:s.heap.get? a=some (q7 "list" vs.toList.toArray m):=by exact D D9 ho
 have HG:∀{e:ax} {d:bC ax} {us:bD ak} {mm:B},s.heap.get? e=some ⟨.ref c,d,.seq us mm,#[]⟩->(lX s.heap a vs.toList).get? e=some ⟨.ref c,d,.seq us mm,#[]⟩:=λhe=>j7 _ _ he rfl;refine wpAny_call_entry slot_list_sort ⟨_,ho,rfl⟩ entry_list_sort (aeo (key:=λi=>aiA<|bs.getD i default) (T:=.ref c) gD (aab fU hlen) (λi j G h2 e=>?_) (λv hv=>?_) rfl (by simp) (λi j G h2 fT Q' hQ=>?_) λp m' pp ps h' keep FL=>?_)<|args_list_sort _
 ·have G:i<U bs:=by exact mO G hlen
  have h2:j<U bs:=by exact mO h2 hlen
  simp only[c5,bO G,bO h2,vE] at e;exact(DG (h₀:=by simpa using G) (h₁:=by simpa using h2) cw).mp (by simpa using e)
 ·obtain⟨i,ic,rfl⟩:=mE hv;refine EK (el i ic) λe d us mm t ys bR=>eh bR λe1 e2 e3=>?_
  rw[c5,bO ic,vE] at e1;exact D e1<|(Looks.ld<|HG e2).andThen .now
 ·refine EK (el i G) λe d us mm t ys bR=>eh bR λe1 e2 e3=>EK (el j h2) λe' d' us' mm' t' FR bR=>eh bR λyj e2' e3'=>?_
  refine D e1<|D yj ?_;obtain rfl:us=(qZ (aiA (bs.getD i default)) t::ys).toArray:=by rw[←e3,D9]
  obtain rfl:us'=(qZ (aiA (bs.getD j default)) t'::FR).toArray:=by rw[←e3',D9]
  obtain⟨hh,g,dd,tt,B2⟩:=s;refine aek hA.in1.units (P3 _ _ hC) (hn.keeps P3) hi (HG e2) (HG e2') ?_ ?_
  ·have G:i<U bs:=by exact mO G hlen
   have h2:j<U bs:=by exact mO h2 hlen
   intro e;have e:aiA (bs.getD i default)=aiA (bs.getD j default):=by lia
   simp only[c5,bO G,bO h2,vE] at e;exact fT ((DG (h₀:=by simpa using G) (h₁:=by simpa using h2) cw).mp<|by simpa using e)
  ·have:decide (((aiA (bs.getD i default):B):az)<((aiA (bs.getD j default):B):az))=decide (aiA (bs.getD i default)<aiA (bs.getD j default)):=by simp only[AD]
   exact D this hQ
 ·refine⟨_,rfl,h ρ _ _ (bk.Oj R (ob:=.list _) ha (λb o hb e=>keep b o hb e) ⟨_,m',FL,?_⟩ s.toks) rfl⟩;have hb:yZ=p.map λi=>bs.getD i default:=by
   refine J.Perm.eq_of_pairwise (le:=λx y=>aiA x<aiA y) (λH H H H q q'=>aY (tP q q')<|jf _) hs ?_<|hp.trans ?_
   ·rw[JO];exact ps
   ·have:=(pp.map λi=>bs.getD i default).symm;rw[hlen] at this;refine J2 (J.Perm.of_eq ?_) this;apply DF
    ·simp
    ·intro i G h2;simp[c5,bO G]
  refine D hb<|D gM ?_;have aes:bF s.heap h':=λb o e t=>keep b o (λq=>by subst q;rw[ho] at e;cases e;rw[P2] at t;cases t) e;have pe:∀i∈p,i<U vs.toList:=λi ic=>rW.mp<|pp.mem_iff.mp ic;refine GA (by simp) λi v x G h2=>?_
  simp only[c6] at G h2;cases y6:p[i]? with
  |none=>rw[y6] at G;cases G
  |some j=>
   rw[y6] at G h2;cases G;cases h2;have hj:=pe j<|dT y6;refine aH (V.IsL.get hl (i:=j) (v:=V.tup (.ref c)<|.int (aiA<|bs.getD j default)::r (bs.getD j default))<|by refine D (c6)<|D (bO<|mO hj hlen)<|D (c5)<|D (bO<|mO hj hlen) ?_;rfl) λx hx ix=>?_
   show V.Is ρ h' _ (vs.toList.getD j .none);refine D (c5)<|D hx ?_;exact ix.mono (bP _) aes
end
end
end Mine.Internal
namespace Mine.Internal
open PySem PyProof.Rows
namespace TC
theorem aet:ea (.type "type") "_make"=pure aA:=by rw[typeLookup_type,builtinLookup_eq_fast];kernel_rfl
theorem aeu:ea (.type "tuple") "_make"=pure aA:=by rw[typeLookup_type,builtinLookup_eq_fast];kernel_rfl
theorem HI:qU "classmethod" "__get__" "classmethod.__get__":=
 .of (owner:="classmethod") (n:="__get__") (by rw[typeLookup_type,builtinLookup_eq_fast];kernel_rfl) (by decide+kernel) (by decide+kernel) (by decide+kernel)
  (by first|exact .inl (by decide+kernel)|exact .inr<|by decide+kernel) (by rw[isSubtype_type];kernel_rfl)
theorem aev:qR table "classmethod.__get__"=some ed.«classmethod.__get__»:=entryFor_of_tree (by kernel_rfl)
theorem P4(a b c:ak):l8 "classmethod.__get__" ⟨[a,b,c],[]⟩:=by unfold l8;kernel_rfl
end TC
section
variable{A:bS}{E Q:ak->ay->Prop}{mN mS:ao->bC ak}{sh:J (ax×J V)}{eK:ax->Prop}
section
variable{M:du}{w:bx}{h:bn}{g:bD de}{d:cV}{t:B}{os:bM}
variable{nm q:ao}{c N:ax}{k0 k1 k2 k3 k5:bC ak}
noncomputable def wr(aiA c:ax):bc:={cls:=.type "method",data:=.fields #[.ref aiA,.ref c]}
theorem aew{sA fA:ax}{x:ak}{dd:bC ax}{tk:jg}{Q:Fin->ay->Prop}(hC:h.get? c=some (dW nm q c N k0 k1 k2 k3 k5))(hn:h.Ns N mN)(hs:mN "_make"=some (.ref sA))(lT:h.get? sA=some ⟨.type "classmethod",dd,.fields #[.ref fA,x],#[]⟩)
  (gV:h.Ns r8 mS) (pf:mS "thirdparty.any"=aA)
  (hq:Q (.done<|.ret<|.ref h.objs.size) ⟨h.push<|wr fA c,g,d,t,os⟩):aF (aN M w) A (ed.«type.__getattribute__» ⟨[.ref c,.str "_make" tk],[]⟩) Q E ⟨h,g,d,t,os⟩:=by
 have hT:(⟨h,g,d,t,os⟩:ay).TypeIs (.ref c) "type":=⟨_,hC,rfl⟩
 have lU:(⟨h,g,d,t,os⟩:ay).TypeIs (.ref sA) "classmethod":=⟨_,lT,rfl⟩
 have f1:=TC.aet;have f4:=TC.HI.lookup;unfold ed.«type.__getattribute__»
 repeat (first|with_reducible refine wpAny_nsGet gV ?_|with_reducible refine ql hC hn TC.aeu ?_|wp_step)
 refine D hs ?_
 have f5:=TC.P4 (.ref sA) .none<|.ref c
 repeat (any_goals (first|assumption|wp_step))
 refine codeAny_call_builtin TC.HI.plain TC.aev<|TC.HI.check _ _ _ _ _ _ _ _ lU (TC.P4 _ _ _) ?_
 repeat (any_goals (first|assumption|with_reducible refine wpAny_loadPart_at lT ?_|wp_step))
theorem aex{sA fA:ax}{x:ak}{dd:bC ax}(hC:h.get? c=some (dW nm q c N k0 k1 k2 k3 k5))(hn:h.Ns N mN)(hs:mN "_make"=some (.ref sA))(lT:h.get? sA=some ⟨.type "classmethod",dd,.fields #[.ref fA,x],#[]⟩)
  (gV:h.Ns r8 mS) (pf:mS "thirdparty.any"=aA)
  (hq:Q (.ref h.objs.size) ⟨h.push<|wr fA c,g,d,t+1,os⟩):aF (aN M w) A (l7 (.ref c) "_make" true) Q E ⟨h,g,d,t,os⟩:=by
 have hT:∀t,(⟨h,g,d,t,os⟩:ay).TypeIs (.ref c) "type":=λt=>⟨_,hC,rfl⟩
 have yS:=hT t;have lU:=hT<|t+1;have f2:=TC.nj.lookup;have f3:=TC.nj.bind<|.ref c;unfold l7
 repeat (any_goals (first|assumption|wp_step))
 refine codeAny_call_builtin TC.nj.plain TC.Hh<|TC.nj.check _ _ _ _ _ _ _ _ lU (TC.Hi _ _)<|aew hC hn hs lT gV pf ?_
 repeat (any_goals (first|assumption|wp_step))
end
section
variable{C:Cx}{n q:B}{st am ba ce:St}
end
structure Rel(T:Wd)(sh:J<|ax×J V)(g:B->Prop)(own:ax->Prop)(s s':ay):Prop where
 keep:∀b o,own b->s.heap.get? b=some o->s'.heap.get? b=some o
 aX:bF s.heap s'.heap
 sh:∀p∈sh,(O.list p.2).Is T.w [] s'.heap p.1
 top:∀b o,T.top.get? b=some o->s'.heap.get? b=some o
 gens:∀(i:B) (x:de),g i->s.gens[i]?=some x->s'.gens[i]?=some x
 news:∀(i:B) (x:de),g i->s.gens.size<=i->s'.gens[i]?=some x->x= .finished
 size:s.gens.size<=s'.gens.size
 os:s'.os=T.os
 drawn:s'.drawn=T.drawn
structure Mv(T:Wd)(sh:J<|ax×J V)(g:B->Prop)(own:ax->Prop)(s s':ay):Prop where
 keep:∀b o,s.heap.get? b=some o->¬own b->(∀p∈sh,p.1≠b)->s'.heap.get? b=some o
 aX:bF s.heap s'.heap
 sh:∀p∈sh,(O.list p.2).Is T.w [] s'.heap p.1
 top:∀b o,T.top.get? b=some o->s'.heap.get? b=some o
 gens:∀(i:B) (x:de),¬g i->s.gens[i]?=some x->s'.gens[i]?=some x
 size:s.gens.size<=s'.gens.size
 os:s'.os=T.os
 drawn:s'.drawn=T.drawn
inductive It where
 |val (v:V)
 |obj (o:O)
noncomputable def It.Is(T:Wd)(own eK:ax->Prop)(s' bQ:ay):It->ak->Prop
 | .val v,x=>v.Is [] bQ.heap x
 | .obj o,x=>∃a,x= .ref a/\(own a\/s'.heap.get? a=aA)/\T.top.objs.size<=a/\¬eK a/\o.Is T.w [] bQ.heap a
noncomputable def gq(T:Wd)(n:B)(I:ax)(sh:J<|ax×J V)(g:B->Prop):J It->(ax->Prop)->ay->Prop
 | [],own,s=>∀s',Rel T sh g own s s'->∀(A:bS) (Q:bC ak->ay->Prop) (E:ak->ay->Prop),cn n A->
   (∀bQ,Mv T sh g own s' bQ->(∀(i:B) (x:de),g i->bQ.gens[i]?=some x->x= .finished)->Q aA bQ)->aF (aN T.prog T.w) A (oF<|.ref I) Q E s'
 |it::l,own,s=>∀s',Rel T sh g own s s'->∀(A:bS) (Q:bC ak->ay->Prop) (E:ak->ay->Prop),cn n A->
   (∀x bQ eK,Mv T sh g own s' bQ->(∀b,eK b->(own b\/s'.heap.get? b=aA)/\∃o,bQ.heap.get? b=some o)->it.Is T own eK s' bQ x->gq T n I sh g l eK bQ->Q (some x) bQ)->aF (aN T.prog T.w) A (oF<|.ref I) Q E s'
section
variable{T:Wd}{g:B->Prop}{n:B}{own:ax->Prop}{s s' bQ:ay}{I:ax}
theorem Rel.trans(x:Rel T sh g own s s')(y:Rel T sh g own s' bQ):Rel T sh g own s bQ:=by
 refine⟨λb o h e=>y.keep b o h<|x.keep b o h e,x.aX.trans y.aX,y.sh,y.top,λi z h e=>y.gens i z h<|x.gens i z h e,λi z hg h e=>?_,cX x.size y.size,y.os,y.drawn⟩
 by_cases hi:i<s'.gens.size
 ·have e1:s'.gens[i]?=some s'.gens[i]:=ia hi;have e2:=x.news i _ hg h e1;rw[y.gens i _ hg e1] at e;cases e;exact e2
 ·exact y.news i z hg (by exact iR ‹_›) e
theorem Rel.weak(x:Rel T sh g own s s')(h:∀b,eK b->own b):Rel T sh g eK s s':=⟨λb o hb e=>x.keep b o (h b hb) e,x.aX,x.sh,x.top,x.gens,x.news,x.size,x.os,x.drawn⟩
theorem Mv.trans(x:Mv T sh g own s s')(h:∀b,eK b->own b\/s.heap.get? b=aA)(y:Mv T sh g eK s' bQ):Mv T sh g own s bQ:=by
 refine⟨λb o e hb hs=>y.keep b o (x.keep b o e hb hs) (λyi=>?_) hs,x.aX.trans y.aX,y.sh,y.top,λi z h e=>y.gens i z h<|x.gens i z h e,cX x.size y.size,y.os,y.drawn⟩;rcases h b yi with h|h
 ·exact hb h
 ·rw[h] at e;cases e
theorem Mv.weak(x:Mv T sh g own s s')(h:∀b,own b->eK b):Mv T sh g eK s s':=⟨λb o e hb hs=>x.keep b o e (λq=>hb<|h b q) hs,x.aX,x.sh,x.top,x.gens,x.size,x.os,x.drawn⟩
theorem gq.rel{l:J It}(aiA:gq T n I sh g l own s)(r:Rel T sh g own s s'):gq T n I sh g l own s':=by
 cases l with
 |nil=>exact λbQ r'=>aiA bQ<|r.trans r'
 |cons it l=>exact λbQ r'=>aiA bQ<|r.trans r'
theorem eN.size{a b:bD de}(h:eN a b):a.size<=b.size:=by
 by_cases hl:b.size<a.size
 ·have e:=h.1 b.size _<|ia hl;have:b.size<b.size:=(jW.mp e).1;exact aY ‹_› (jf _)
 ·exact iR ‹_›
theorem Rel.upd{a:ax}{aiA:bc->bc}{ob:bc}(ho:s.heap.get? a=some ob)(ht:mc ob=false)(ha:¬own a)(hsa:∀p∈sh,p.1≠a)(hl:T.top.objs.size<=a)
  (r:∀p∈sh,(O.list p.2).Is T.w [] s.heap p.1) (top:∀b o,T.top.get? b=some o->s.heap.get? b=some o) (os:s.os=T.os) (dr:s.drawn=T.drawn):Rel T sh g own s {s with heap:=s.heap.update a aiA}:=by
 have sb:iV a s.heap (s.heap.update a aiA):=iA _ _ _;have st:=jY sb ho ht;refine⟨λb o h e=>(sb.2 b λz=>ha<|z▸h).trans e,st,λp hp=>(r p hp).mono (bP _) st<|sb.2 _<|hsa p hp,λb o e=>?_,λi x H e=>e,λi x hg h e=>?_,aG _,os,dr⟩
 ·have:b≠a:=λz=>by
   subst z;exact aY (dH e)<|iT.mpr hl
  exact(sb.2 b this).trans<|top b o e
 ·have:i<s.gens.size:=(jW.mp e).1;exact(Lz this h).elim
theorem P5{S:ax}{res:ak}:∀(l:J V) (own:ax->Prop) (s:ay) (acc:bD ak) (c:B) (A:bS) (R:Result->ay->Prop),cn n A.in1->gq T n I sh g (l.map .val) own s->¬own S->(∀p∈sh,p.1≠S)->T.top.objs.size<=S->
  (∀p∈sh,(O.list p.2).Is T.w [] s.heap p.1)->(∀b o,T.top.get? b=some o->s.heap.get? b=some o)->s.os=T.os->s.drawn=T.drawn->
  s.heap.get? S=some ⟨.type "list",aA,.seq acc c,#[]⟩->acc.size+U l<=km->
  (∀s' vs c',Mv T sh g (λb=>own b\/b=S) s s'->s'.heap.get? S=some ⟨.type "list",aA,.seq (acc++vs.toArray) c',#[]⟩->V.IsL [] s'.heap l vs->(∀(i:B) (x:de),g i->s'.gens[i]?=some x->x= .finished)->R (.ok<|.ret res) s')->
  codeAny (aN T.prog T.w) A (.builtin "list.extend.loop" ⟨[.ref S,.ref I,res],[]⟩) R s
 | []=>λown s acc c A R hA hF hS n9 qq eo jp lm iH ho hz hR=>by
  refine codeAny_builtin KQ (D (Aq AB _)<|wpAny_bind<|hF s ⟨λH H H e=>e,bF.refl _,eo,jp,λH H H e=>e,λi x H h e=>aY (jW.mp e).1 (by exact Ai ‹_›),aG _,lm,iH⟩ _ _ _ hA λs' m fin=>?_);exact wpAny_pure<|hR s' [] c (m.weak λb h=>.inl h) (D (show acc++([]:J ak).toArray=acc by simp)<|m.keep S _ ho hS n9) rfl fin
 |v::l=>λown s acc c A R hA hF hS n9 qq eo jp lm iH ho hz hR=>by
  refine codeAny_builtin KQ (D (Aq AB _)<|wpAny_bind<|hF s ⟨λH H H e=>e,bF.refl _,eo,jp,λH H H e=>e,λi x H h e=>aY (jW.mp e).1 (by exact Ai ‹_›),aG _,lm,iH⟩ _ _ _ hA λx s' eK m dj hx hF'=>?_);have gD:=m.keep S _ ho hS n9;have B7:¬eK S:=λh=>by
   rcases(dj S h).1 with h|h
   ·exact hS h
   ·rw[h] at ho;cases ho
  simp only[cK] at hz;refine wpAny_bind ?_
  refine wpAny_updateSeq gD rfl (wpAny_pure ⟨plainId_quiet AB _,?_⟩) (To hz) (by refine D (Eb _) ?_;exact Tn hz);have hr:=Rel.upd (T:=T) (g:=g) (own:=eK) (aiA:=fX (·.push x)) gD rfl B7 n9 qq m.sh m.top m.os m.drawn;refine P5 l eK _ (acc.push x) _ A R hA (hF'.rel hr) B7 n9 qq hr.sh hr.top hr.os hr.drawn (pO _ gD rfl) (by refine D (Eb _) ?_;exact xM hz) λbQ vs c' m2 e2 i2 fin=>?_
  refine hR bQ (x::vs) c' ?_ (by refine D e2 ?_;simp) ⟨x,vs,rfl,hx.mono (bP _)<|hr.aX.trans m2.aX,i2⟩ fin
  have mu:Mv T sh g (λb=>own b\/b=S) s {s' with heap:=s'.heap.update S (fX (·.push x))}:=by
   exact⟨λb o e hb hs=>(((iA s'.heap S _).2 b λz=>hb<|.inr z).trans<|m.keep b o e (λh=>hb<|.inl h) hs),m.aX.trans hr.aX,hr.sh,hr.top,m.gens,m.size,m.os,m.drawn⟩
  refine mu.trans (λb hb=>?_) m2;rcases hb with hb|hb
  ·rcases(dj b hb).1 with h|h
   ·exact .inl<|.inl h
   ·exact .inr h
  ·exact .inl<|.inr hb
end
structure wt(ty:dm):Prop where
 HJ:ea (.type ty) "__len__"=pure aA
 HK:ea (.type ty) "__length_hint__"=pure aA
 n1:(pP ty==pP "list")=false
 n2:(pP ty==pP "tuple")=false
 self:∀(prog:du) (w:bx) (A:bS) (s:ay) (I:ax) (Q:ak->ay->Prop) (E:ak->ay->Prop),s.heap.get? I≠aA->s.TypeIs (.ref I) ty->Q (.ref I) s->aF (aN prog w) A (oG<|.ref I) Q E s
section
variable{T:Wd}{g:B->Prop}{n:B}{own:ax->Prop}{s s' bQ:ay}{I:ax}
theorem gq.same{l:J It}{h':bn}{t:B}(aiA:gq T n I sh g l own s)(hk:∀b o,s.heap.get? b=some o->h'.get? b=some o)(eo:∀p∈sh,(O.list p.2).Is T.w [] s.heap p.1)(jp:∀b o,T.top.get? b=some o->s.heap.get? b=some o)(lm:s.os=T.os)(iH:s.drawn=T.drawn):
  gq T n I sh g l own {s with heap:=h',toks:=t}/\∀p∈sh,(O.list p.2).Is T.w [] h' p.1:=by
 have z:∀p∈sh,(O.list p.2).Is T.w [] h' p.1:=λp hp=>by
  have y:=eo p hp;exact aH y.there λx hx H=>(y.mono (bP _) (iB hk)<|(hk _ _ hx).trans hx.symm)
 exact⟨aiA.rel ⟨λb o H e=>hk b o e,iB hk,z,λb o e=>hk b o<|jp b o e,λH H H e=>e,λi x H h e=>aY (jW.mp e).1<|iT.mpr h,aG _,lm,iH⟩,z⟩
theorem aey{ty:dm}(ku:wt ty){S:ax}{res:ak}{l:J V}{c:B}{R:Result->ay->Prop}(hA:cn n A.in1)(hF:gq T n I sh g (l.map .val) own s)(hT:s.TypeIs (.ref I) ty)(hS:¬own S)(n9:∀p∈sh,p.1≠S)(qq:T.top.objs.size<=S)(hSI:S≠I)
  (eo:∀p∈sh,(O.list p.2).Is T.w [] s.heap p.1) (jp:∀b o,T.top.get? b=some o->s.heap.get? b=some o) (lm:s.os=T.os) (iH:s.drawn=T.drawn)
  (ho:s.heap.get? S=some ⟨.type "list",aA,.seq #[] c,#[]⟩) (hz:U l<=km)
  (hR:∀s' vs c',Mv T sh g (λb=>own b\/b=S) s s'->s'.heap.get? S=some ⟨.type "list",aA,.seq vs c',#[]⟩->V.IsL [] s'.heap l vs.toList->(∀(i:B) (x:de),g i->s'.gens[i]?=some x->x= .finished)->R (.ok<|.ret res) s'):
  aF (aN T.prog T.w) A.in1 (Lc (.ref S) (.ref I) res)
   (λfin s'=>match fin with| .done aiA=>R (.ok aiA) s'| .again c'=>c'.quiet=true/\codeAny (aN T.prog T.w) A c' R s') (λe s'=>R (.error e) s') s:=by
 have hex:s.heap.get? I≠aA:=by obtain⟨o,h,_⟩:=hT;refine D h ?_;simp
 refine wpAny_bind<|wpAny_typeOf hT ?_;have G:Le (.ref S) (.ref I)=false:=by simp[Le,hSI]
 simp only[G,ku.n1,ku.n2,D8,As,xn];refine wpAny_bind<|ku.self _ _ _ _ _ _ _ hex hT<|wpAny_bind<|wpAny_holding<|wpAny_bind<|wpAny_specialOf hT ku.HJ<|wpAny_bind<|wpAny_specialOf hT ku.HK ?_;refine wpAny_pure ?_
 show aF _ A.in1 (rule "list.extend.makes-room" >>= λH=>ed.List.listTouch (.ref S) >>= λH=>
  again (.builtin "list.extend.loop" ⟨[.ref S,.ref I,res],[]⟩)) _ _ _
 refine wpAny_bind<|wpAny_rule<|wpAny_bind<|wpAny_bind<|wpAny_updateSeq ho rfl ?_;have nZ:=pO (fX (·.push jB)) ho rfl;refine wpAny_updateSeq (hz:=by seq_fits) nZ rfl ?_
 have r1:=Rel.upd (T:=T) (g:=g) (own:=own) (aiA:=fX (·.push jB)) ho rfl hS n9 qq eo jp lm iH;have r2:=Rel.upd (T:=T) (g:=g) (own:=own) (aiA:=fX (·.pop)) nZ rfl hS n9 qq r1.sh r1.top r1.os r1.drawn;have sZ:=pO (fX (·.pop)) nZ rfl;refine wpAny_pure ⟨plainId_quiet AB _,P5 (S:=S) (res:=res) l own _ #[] _ A R hA (hF.rel<|r1.trans r2) hS n9 qq r2.sh r2.top r2.os r2.drawn sZ (by simpa using hz) λs' vs c' m e i fin=>(hR s' _ c' (Mv.trans ⟨λb o e hb hs=>?_,(r1.trans r2).aX,r2.sh,r2.top,λH H H e=>e,aG _,r2.os,r2.drawn⟩ (λb h=>.inl h) m) e (by simpa using i) fin)⟩;have nb:b≠S:=λz=>hb<|.inr z;exact((iA _ S _).2 b nb).trans<|((iA _ S _).2 b nb).trans e
theorem aez{ty:dm}(ku:wt ty){l:J V}(hA:cn (n+2) A)(hF:gq T n I sh g (l.map .val) own s)(hT:s.TypeIs (.ref I) ty)(dj:∀b,own b->b<s.heap.objs.size)(qq:T.top.objs.size<=s.heap.objs.size)
  (eo:∀p∈sh,(O.list p.2).Is T.w [] s.heap p.1) (jp:∀b o,T.top.get? b=some o->s.heap.get? b=some o) (lm:s.os=T.os) (iH:s.drawn=T.drawn) (hz:U l<=km)
  (hQ:∀s' vs c',Mv T sh g own s s'->s'.heap.get? s.heap.objs.size=some ⟨.type "list",aA,.seq vs c',#[]⟩->V.IsL [] s'.heap l vs.toList->(∀(i:B) (x:de),g i->s'.gens[i]?=some x->x= .finished)->Q (.ref s.heap.objs.size) s'):
  aF (aN T.prog T.w) A (call (.type "list") [.ref I]) Q E s:=by
 have hS:¬own s.heap.objs.size:=λh=>jf _<|dj _ h;have P6:I<s.heap.objs.size:=by obtain⟨o,h,_⟩:=hT;exact dH h
 have n9:∀p∈sh,p.1≠s.heap.objs.size:=λp hp e=>by
  refine aH ((eo p hp).there) λx hx H=>?_
  rw[e] at hx;exact jf _<|dH hx
 refine callType_codes (Q₁:=λobj cW=>obj= .ref s.heap.objs.size/\cW={s with heap:=s.heap.push {cls:=.type "list",data:=.seq #[]}}) F.called_list (F.typeCall_list_1 _) F.entry_list_init
  (code_list_new _ ⟨rfl,rfl⟩) λobj cW h₁=>?_
 refine xA h₁ λav bE=>?_
 clear h₁;subst av bE;have ho:(s.heap.push {cls:=.type "list",data:=.seq #[]}).get? s.heap.objs.size=some {cls:=.type "list",data:=.seq #[]}:=ew _ rfl;refine⟨⟨_,ho,rfl⟩,F.args_list_init_2 _ _,?_⟩;show aF _ A.in1.in1 (do let old ←ed.List.listItems (.ref s.heap.objs.size);ed.List.listUpdate (.ref s.heap.objs.size) (λH=>#[]);letGo old.toList.reverse;Lc (.ref s.heap.objs.size) (.ref I) .none) _ _ _;refine wpAny_bind<|wpAny_bind<|wpAny_seqItems ho rfl<|wpAny_pure<|wpAny_bind<|wpAny_updateSeq ho rfl ?_;have nZ:=pO (fX λH=>(#[]:bD ak)) ho rfl;refine wpAny_bind<|wpAny_letGo ?_;have kp:∀b o,s.heap.get? b=some o->(s.heap.push {cls:=.type "list",data:=.seq #[]}).get? b=some o:=λb o e=>dD _ e;refine xA (hF.same (h':=s.heap.push {cls:=.type "list",data:=.seq #[]}) (t:=s.toks) kp eo jp lm iH) λf1 z1=>?_
 have r1:=Rel.upd (T:=T) (g:=g) (own:=own) (s:={s with heap:=s.heap.push {cls:=.type "list",data:=.seq #[]}}) (aiA:=fX λH=>(#[]:bD ak)) ho rfl hS n9 qq z1 (λb o e=>kp b o<|jp b o e) lm iH;have lU:(⟨(s.heap.push {cls:=.type "list",data:=.seq #[]}).update s.heap.objs.size<|fX λH=>(#[]:bD ak),s.gens,s.drawn,s.toks,s.os⟩:ay).TypeIs (.ref I) ty:=by
  exact aH hT λo h hc=>(⟨o,((iA _ s.heap.objs.size _).2 I<|iS P6).trans<|kp _ _ h,hc⟩)
 refine aey ku (hA.in1.in1) (f1.rel r1) lU hS n9 qq (ue<|iS P6) r1.sh r1.top r1.os r1.drawn nZ hz λs' vs c' m e i fin=>⟨rfl,hQ s' vs c' (⟨λb o e hb hs=>m.keep b o ?_ (λh=>?_) hs,(iB kp).trans<|r1.aX.trans m.aX,m.sh,m.top,m.gens,m.size,m.os,m.drawn⟩) e i fin⟩
 ·exact((iA _ s.heap.objs.size _).2 b<|iS<|dH e).trans<|kp _ _ e
 ·rcases h with h|h
  ·exact hb h
  ·exact aY (dH e) (by exact D h<|jf _)
end
end
namespace MP
theorem slot_next:qU "map" "__next__" "map.__next__":=
 .of (owner:="map") (n:="__next__") (by rw[typeLookup_type,builtinLookup_eq_fast];kernel_rfl) (by decide+kernel) (by decide+kernel) (by decide+kernel)
  (by first|exact .inl (by decide+kernel)|exact .inr<|by decide+kernel) (by rw[isSubtype_type];kernel_rfl)
theorem P7:qU "map" "__iter__" "map.__iter__":=
 .of (owner:="map") (n:="__iter__") (by rw[typeLookup_type,builtinLookup_eq_fast];kernel_rfl) (by decide+kernel) (by decide+kernel) (by decide+kernel)
  (by first|exact .inl (by decide+kernel)|exact .inr<|by decide+kernel) (by rw[isSubtype_type];kernel_rfl)
theorem aeA:qU "map" "__init__" "object.__init__":=
 .of (owner:="object") (n:="__init__") (by rw[typeLookup_type,builtinLookup_eq_fast];kernel_rfl) (by decide+kernel) (by decide+kernel) (by decide+kernel)
  (by first|exact .inl (by decide+kernel)|exact .inr<|by decide+kernel) (by rw[isSubtype_type];kernel_rfl)
theorem entry_next:qR table "map.__next__"=some ed.«map.__next__»:=entryFor_of_tree (by kernel_rfl)
theorem aeB:qR table "map.__new__"=some ed.«map.__new__»:=entryFor_of_tree (by kernel_rfl)
theorem aeC:qR table "map.__iter__"=some ed.«dict_keyiterator.__iter__»:=
 entryFor_alias (id':="dict_keyiterator.__iter__") (by kernel_rfl) (by first|rfl|decide+kernel|(unfold dm.splitOn;simp+decide [dm.splitOnAux])) (by decide+kernel) (by kernel_rfl)
theorem args_next(a:ak):l8 "map.__next__" ⟨[a],[]⟩:=by unfold l8;kernel_rfl
theorem aeD(a:ak):l8 "map.__iter__" ⟨[a],[]⟩:=by unfold l8;kernel_rfl
theorem mro:mroOf (.type "map")=pure [.type "map",.type "object"]:=by rw[mroOf_type];kernel_rfl
theorem sub:r0 (.type "map") (.type "map")=pure true:=by rw[isSubtype_type];kernel_rfl
theorem aeE:ea (.type "map") "__new__"=pure (some<|.builtin "map.__new__"):=by rw[typeLookup_type,builtinLookup_eq_fast];kernel_rfl
theorem called:TypeCalled "map" "map.__new__" "object.__init__":=
 ⟨by decide+kernel,by decide+kernel,⟨_,_,mro⟩,madeBy_type mro aeE (by decide+kernel),by decide+kernel,by rw[isSubtype_type];kernel_rfl,aeA⟩
theorem typeCall(a b:ak):checkTypeCall "map" ⟨[a,b],[]⟩=pure ():=by kernel_rfl
theorem aeF(a b:ak):mI "map.__new__" ⟨[.type "map",a,b],[]⟩=pure ():=by kernel_rfl
end MP
section
variable{w:bx}{E Q:ak->ay->Prop}{s:ay}{l I TI it c N a:ax}{aiA x:ak}{i n:B}{items vs:bD ak}{h:bn}{os:bM}{nm:ao}{k0 k1 k2 k3 k5:bC ak}{dd:bC ax}{mN:ao->bC ak}{C:Cx}{st:St}{ρ:J ax}{v:V}{sh:J (B×J V)}{dr:cV}{f u:J (J B)}
section
variable{prog:du}{A:bS}
theorem aeG:wt "map" where
 HJ:=by rw[typeLookup_type,builtinLookup_eq_fast];kernel_rfl
 HK:=by rw[typeLookup_type,builtinLookup_eq_fast];kernel_rfl
 n1:=by decide
 n2:=by decide
 self:=λprog w A s I Q E hI hT hQ=>by
  exact wpAny_pyIter_slot hT MP.P7<|wpAny_call_entry MP.P7 hT MP.aeC (wpAny_pure ⟨_,rfl,"map",_,hT,MP.slot_next.lookup,hQ⟩)<|MP.aeD _
noncomputable abbrev y7(h:bn)(l:ax):bn:=h.push {cls:=.type "list_iterator",data:=.fields #[.ref l,.int 0 0]}
noncomputable abbrev wu(h:bn)(l:ax):bn:=(y7 h l).push {cls:=.type "tuple",data:=.seq #[.ref h.objs.size]}
noncomputable abbrev wv(TI:ax)(aiA:ak):bc:={cls:=.type "map",data:=.fields #[.ref TI,aiA]}
noncomputable abbrev qr(h:bn)(l:ax)(aiA:ak):bn:=(wu h l).push<|wv (y7 h l).objs.size aiA
theorem aeH(l:ax)(aiA:ak)(xs:bD ak):
  Meets (ed.«map.__new__» ⟨[.type "map",aiA,.ref l],[]⟩) (λH R s=>s.heap.IsList l xs/\R (.ok<|.ret<|.ref (wu s.heap l).objs.size) {s with heap:=qr s.heap l aiA}):=
 .of_wp λprog w A R s h=>by
  obtain⟨hp,g,d,tk,os⟩:=s;obtain⟨m9,h⟩:=h;have ct:=MP.sub;have hL1:bn.IsList (ay.heap ⟨hp,g,d,tk,os⟩) l xs:=m9
  wp_walk using wpAny_pyIter_list hL1
  exact⟨_,rfl,h⟩
theorem aeI{xs:bD ak}(hl:s.heap.IsList l xs)
  (h:Q (.ref<|s.heap.objs.size+2) {s with heap:=qr s.heap l aiA}):aF (aN prog w) A (call (.type "map") [aiA,.ref l]) Q E s:=by
 refine callType_new MP.called (by decide) (MP.typeCall _ _) (MP.aeF _ _) (λobj=>F.args_object_init_3 obj _ _) MP.aeB (aeH l aiA xs) ⟨hl,?_⟩;have z1:(y7 s.heap l).objs.size=s.heap.objs.size+1:=jV ..;have z2:(wu s.heap l).objs.size=s.heap.objs.size+2:=by rw[jV,z1]
 have g3:(qr s.heap l aiA).get? (wu s.heap l).objs.size=some _:=ew _ rfl;exact⟨⟨_,g3,rfl⟩,by rw[z2];exact h⟩
theorem aeJ(hI:s.heap.get? I=some (wv TI aiA))(pj:s.heap.get? TI=some {cls:=.type "tuple",data:=.seq #[.ref it]})
  (hit:s.heap.IsListIter it l i) (hl:s.heap.IsList l items) (hx:items[i]?=some x) (HL:I≠it)
  (hQ:∀h',h'.IsListIter it l (i+1)->iV it s.heap h'->aF (aN prog w) A (call aiA [x]) Q E {s with heap:=h'}):
  aF (aN prog w) A (ed.«map.__next__» ⟨[.ref I],[]⟩) (λfin s'=>∃v,fin= .done (.ret v)/\Q v s') E s:=by
 show aF _ _ (field (.ref I) 0 >>= _) _ _ _;refine wpAny_bind<|wpAny_field hI rfl (x:=.ref TI) rfl ?_;refine wpAny_bind<|wpAny_seqItems pj rfl ?_;simp only[JL,Ad,DJ];refine wpAny_bind<|wpAny_bind ?_;refine wpAny_bind<|wpAny_holding<|wpAny_nextOf_list_item hit hl hx λh' uA n5=>?_;refine wpAny_pure<|wpAny_pure ?_;refine wpAny_bind<|wpAny_field (n5.extBut _ _ HL hI) rfl (x:=aiA) rfl ?_;exact wpAny_bind<|wpAny_holding<|wpAny_mono (hQ h' uA n5) (λv s' hv=>(wpAny_bind<|wpAny_letGo<|wpAny_pure ⟨v,rfl,hv⟩)) λH H h=>h
theorem aeK{Q:Fin->ay->Prop}(hh:A.handled=aA)(hI:s.heap.get? I=some (wv TI aiA))(pj:s.heap.get? TI=some {cls:=.type "tuple",data:=.seq #[.ref it]})
  (hit:s.heap.IsListIter it l i) (hl:s.heap.IsList l items) (hx:items[i]?=aA)
  (hE:∀h' e,qW it s.heap h'->(∃o,h'.get? e=some o/\o.cls= .type "StopIteration")->E (.ref e) {s with heap:=h'}):
  aF (aN prog w) A (ed.«map.__next__» ⟨[.ref I],[]⟩) Q E s:=by
 show aF _ _ (field (.ref I) 0 >>= _) _ _ _;refine wpAny_bind<|wpAny_field hI rfl (x:=.ref TI) rfl ?_;refine wpAny_bind<|wpAny_seqItems pj rfl ?_;simp only[JL,Ad,DJ];exact wpAny_bind<|wpAny_bind<|wpAny_bind<|wpAny_holding<|wpAny_nextOf_list_end hh hit hl hx λh' e G h2=>hE h' e G h2
theorem aeL{Q:bC ak->ay->Prop}(hI:s.heap.get? I=some (wv TI aiA))(pj:s.heap.get? TI=some {cls:=.type "tuple",data:=.seq #[.ref it]})
  (hit:s.heap.IsListIter it l i) (hl:s.heap.IsList l items) (hx:items[i]?=some x) (HL:I≠it)
  (hQ:∀h',h'.IsListIter it l (i+1)->iV it s.heap h'->aF (aN prog w) A.in1 (call aiA [x]) (λv s'=>Q (some v) s') bq {s with heap:=h'}):
  aF (aN prog w) A (oF<|.ref I) Q E s:=by
 have hT:s.TypeIs (.ref I) "map":=⟨_,hI,rfl⟩
 exact wpAny_bind (wpAny_attempt (wpAny_callSpecial?_slot (name:=ft "__next__") hT MP.slot_next
  (wpAny_call_entry MP.slot_next hT MP.entry_next (aeJ hI pj hit hl hx HL λh' a1 a2=>wpAny_mono (hQ h' a1 a2) (λv s' h=>wpAny_pure h) λH H h=>h.elim) (MP.args_next _))))
theorem aeM{Q:bC ak->ay->Prop}(hh:A.handled=aA)(hI:s.heap.get? I=some (wv TI aiA))(pj:s.heap.get? TI=some {cls:=.type "tuple",data:=.seq #[.ref it]})
  (hit:s.heap.IsListIter it l i) (hl:s.heap.IsList l items) (hx:items[i]?=aA) (hQ:∀h',qW it s.heap h'->Q aA {s with heap:=h'}):aF (aN prog w) A (oF<|.ref I) Q E s:=by
 have hT:s.TypeIs (.ref I) "map":=⟨_,hI,rfl⟩
 refine wpAny_bind (wpAny_attempt (wpAny_callSpecial?_slot (name:=ft "__next__") hT MP.slot_next
  (wpAny_call_entry MP.slot_next hT MP.entry_next (aeK hh hI pj hit hl hx λh' e hk he=>?_) (MP.args_next _))))
 refine aH he λo ho hc=>?_
 exact wpAny_bind<|wpAny_isInstance (T:="StopIteration") (b:=true) ⟨o,ho,hc⟩ isSubtype_stop<|wpAny_pure<|hQ _ hk
end
theorem aeN:tT "tuple.__len__"=some .slot:=by kernel_rfl
theorem aeO:splitId "tuple.__len__"=some ("tuple","__len__"):=by kernel_rfl
section
variable{M:du}{A:bS}{g:bD de}{d:cV}{t:B}
variable{q:ao}
theorem aeP{Q:fD->ay->Prop}(hC:h.get? c=some (dW nm q c N k0 k1 k2 k3 k5))(ha:h.get? a=some ⟨.ref c,dd,.seq vs n,#[]⟩)(hq:Q () ⟨h,g,d,t,os⟩):
  aF (aN M w) A (mI "tuple.__len__" ⟨[.ref a],[]⟩) Q E ⟨h,g,d,t,os⟩:=by
 have Hk:=F.args_tuple_len_1<|.ref a;unfold mI;refine D aeN<|D aeO ?_
 repeat (first|with_reducible refine wpAny_loadPart_at ha ?_|with_reducible refine sV hC ?_|wp_step)
 exact hq
theorem aeQ(hC:h.get? c=some (dW nm q c N k0 k1 k2 k3 k5))(hn:h.Ns N mN)(hi:mN "__len__"=aA)
  (ha:h.get? a=some ⟨.ref c,dd,.seq vs n,#[]⟩) (hz:(vs.size:az)<2 ^ 63) (hQ:Q (.int vs.size<|t+1) ⟨h,g,d,t+1+1,os⟩):aF (aN M w) A (gO (.builtin "len") [.ref a]) Q E ⟨h,g,d,t,os⟩:=by
 refine Calls.call_function_entry kind_len plain_len entry_len (args_len1 _) ?_
 unfold ed.«len» callSpecial?;refine wpAny_bind (m:=oneArg "len" _)<|wpAny_pure ?_;have f1:=Ej.lookup;have f2:=Ej.bind<|.ref a;refine wpAny_bind ?_
 iterate 12 (try (first|with_reducible refine ql hC hn f1 ?_|with_reducible refine wpAny_loadPart_at ha ?_|wp_step))
 refine D hi<|wpAny_holding<|wpAny_bind<|wpAny_of_eq f2<|wpAny_bind<|wpAny_call<|codeAny_call_builtin Ej.plain F.entry_tuple_len<|aeP hC ha ?_;show aF _ _ (do retInt (←ed.Tuple.tupleItemsOf<|.ref a).size) _ _ _;refine wpAny_bind<|wpAny_bind<|wpAny_seqItems ha rfl<|wpAny_pure<|wpAny_bind<|wpAny_mkInt<|wpAny_pure<|wpAny_pure ?_;dsimp only;refine wpAny_bind<|wpAny_holding<|wpAny_pure<|wpAny_bind<|wpAny_letGo ?_;show aF _ _ (if((vs.size:B):az)<0 then _ else _) _ _ _;refine D (aE<|by lia) ?_
 show aF _ _ (if((vs.size:B):az)≥2 ^ 63 then _ else _) _ _ _;exact D (aE<|by lia)<|wpAny_bind<|wpAny_mkInt<|wpAny_pure ⟨_,rfl,hQ⟩
end
theorem aQ.aeR{q:ao}{l:J V}(hC:C.top.get? c=some (dW nm q c N k0 k1 k2 k3 k5))(hn:C.top.Ns N mN)(hi:mN "__len__"=aA)(hz:U l<2 ^ 63):
  aQ C n (.builtin "len") [.tup (.ref c) l] st (.int<|U l) st:=.mk λA s ρ xs Q hA R aV h=>by
 refine cD aV λx0 r1 bE e0 i2=>?_
 clear aV;subst bE;obtain rfl:r1=[]:=i2;refine oJ e0 λtc a vs m av kW hl=>?_
 clear e0;subst av;obtain⟨dd,cO⟩:=kW;have hs:vs.size=U l:=by rw[←eO,dK hl]
 obtain⟨hh,g,d,t,os⟩:=s;refine aeQ (R.led.top _ _ hC) (hn.keeps R.led.top) hi cO (by refine D hs ?_;lia) ?_
 exact h ρ _ _ (gh R _) ⟨_,by exact D hs rfl⟩
theorem V.Is.ww{aB:J ax}(hv:v.bG (λH=>false)=true)(e:v.Is ρ h x):v.Is aB h x:=by
 have z:=e.cf (aB:=aB) (aiA:=id) (g:=λH=>false) (λH H h=>by exact aY h dy) hv;rwa [V.jC (aiA:=id) (λH H=>rfl) hv] at z
theorem V.IsL.ww{aB:J ax}{v:J V}{x:J ak}(hv:V.fe (λH=>false) v=true)(e:V.IsL ρ h v x):V.IsL aB h v x:=by
 have z:=e.cf (aB:=aB) (aiA:=id) (g:=λH=>false) (λH H h=>by exact aY h dy) hv;rwa [V.ut (aiA:=id) (λH H=>rfl) hv] at z
structure y8(C:Cx)(ρ:J ax)(s:ay)(aj:St)(aB:J ax)(s':ay):Prop where
 pre:ρ<+:aB
 aX:bF s.heap s'.heap
 keep:∀b o,s.heap.get? b=some o->b∉ρ->b≠C.env.locals->s'.heap.get? b=some o
 fresh:∀a∈aB,a∉ρ->s.heap.get? a=none
 gens:∀(i:B) (x:de),s.gens[i]?=some x->s'.gens[i]?=some x
 rep:Rep C aB aj s'
noncomputable def gH(hp:J O)(sh:J<|B×J V):Prop:=∀p∈sh,hp[p.1]?=some (.list p.2)/\V.fe (λH=>false) p.2=true
noncomputable def dO(ρ:J ax)(sh:J<|B×J V):J (ax×J V):=sh.map λp=>(ρ.getD p.1 0,p.2)
noncomputable def aeS(C:Cx)(n:B)(e:bB)(st:St)(ty:dm)(sh:J<|B×J V)(items:J It)(am:St):Prop:=
 ∀(A:bS) (s:ay) (ρ:J ax) (Q:ak->ay->Prop),cn n A->Rep C ρ st s->
  (∀aC I own s1,y8 C ρ s am aC s1->s1.TypeIs (.ref I) ty->gq C.toWd n I (dO aC sh) (λi=>s.gens.size<=i) items own s1->(∀b,own b->b∉aC/\b≠C.env.locals/\s.heap.get? b=aA/\∃o,s1.heap.get? b=some o)->Q (.ref I) s1)->aF (aN C.prog C.w) A (eval e C.env) Q bq s
structure pk(C:Cx)(n:B)(e:bB)(st:St)(ty:dm)(sh:J<|B×J V)(items:J It)(am:St):Prop where
 run:aeS C n e st ty sh items am
 sh:gH am.hp sh
section
variable{m:B}{am:St}
theorem gH.at{ρ:J ax}{s:ay}{sh:J (B×J V)}(h:gH st.hp sh)(R:Rep C ρ st s):∀p∈dO ρ sh,p.1∈ρ/\(O.list p.2).Is C.w [] s.heap p.1/\∃j:B,ρ[j]?=some p.1/\st.hp[j]?=some (.list p.2):=by
 intro p hp;refine aH (fa.mp hp) λcq hj bE=>?_
 subst bE;obtain⟨j,l⟩:=cq;obtain⟨G,h2⟩:=h _ hj;refine cP (R.led.at G) λa ha hi hm=>?_
 have e:ρ.getD j 0=a:=by simp only[c5,ha];rfl
 dsimp only at G h2 ⊢;exact D e<|dv hi λvs k z1 z2=>(⟨hm,⟨vs,k,z1,z2.ww h2⟩,j,ha,G⟩)
theorem y8.listed{aC:J ax}{s1 s':ay}{own:ax->Prop}{items:J V}{c:B}(N:y8 C ρ s am aC s1)(hs:gH am.hp sh)(dj:∀b,own b->b∉aC/\b≠C.env.locals/\s.heap.get? b=aA/\∃o,s1.heap.get? b=some o)
  (m:Mv C.toWd (dO aC sh) (λi=>s.gens.size<=i) own s1 s') (e:s'.heap.get? s1.heap.objs.size=some ⟨.type "list",aA,.seq vs c,#[]⟩) (i:V.IsL [] s'.heap items vs.toList) (fin:∀(i:B) (x:de),s.gens.size<=i->s'.gens[i]?=some x->x= .finished):
  bk C ρ s ⟨am.loc,am.hp++[.list items]⟩ (aC++[s1.heap.objs.size]) s':=by
 have R:=N.rep;have sA:=hs.at R;have nf:=R.led.Bg;have hp:aC<+:aC++[s1.heap.objs.size]:=gK ..;have lt:C.env.locals<s1.heap.objs.size:=by obtain⟨m,hn,_⟩:=R.loc;exact hn.lt
 have old:∀b o,s.heap.get? b=some o->b∉ρ->b≠C.env.locals->s'.heap.get? b=some o:=λb o e G h2=>by
  refine m.keep b o (N.keep b o e G h2) (λh=>?_) λp hp q=>?_
  ·simp only[(dj b h).2.2.1] at e;exact nomatch e
  ·have:=N.fresh b (q▸(sA p hp).1) G;simp only[this] at e;exact nomatch e
 refine⟨N.pre.trans hp,N.aX.trans m.aX,old,λa h q=>?_,⟨λi x e=>?_,fin⟩,?_,?_⟩
 ·rcases bK.mp h with h|h
  ·exact N.fresh a h q
  ·rw[bw] at h;subst h;cases e':s.heap.get? s1.heap.objs.size with
   |none=>rfl
   |some o=>exact aY (dH<|N.keep _ o e' q<|kl lt)<|jf _
 ·have hi:i<s.gens.size:=(jW.mp e).1;exact m.gens i x (vH.mpr hi)<|N.gens i x e
 ·refine aH R.loc λmm bT hm=>⟨mm,mi bT λo e=>m.keep _ o e (λh=>(dj _ h).2.1 rfl) λp hp q=>R.led.fB<|q▸(sA p hp).1,λx v e=>?_⟩
  exact aH (hm x v e) λy hy q=>⟨y,hy,q.mono hp m.aX⟩
 ·refine⟨by simp only[aK,cK,iQ,R.led.len],λk o a e1 q=>?_,?_,?_,λa ha=>?_,R.led.gQ,m.top,m.os,m.drawn⟩
  ·by_cases hk:k<U am.hp
   ·simp only[cA hk] at e1
    (simp only[cA<|by refine D R.led.len ?_;exact hk] at q)
    have z:=R.led.objs k o a e1 q
    by_cases hs:∃p∈dO aC sh,p.1=a
    ·refine aH hs λp aZ av=>?_
     clear hs;subst av;refine EI (sA p aZ) λH H j s8 kb=>?_
     rw[pU R.led.nodup s8 q,e1] at kb
     (have:=cj kb;clear kb;subst this)
     exact dv (m.sh p aZ) λvs k z1 z2=>(⟨vs,k,z1,z2.mono xg<|bF.refl _⟩)
    ·refine aH z.there λx hx H=>z.mono hp m.aX<|(m.keep a x hx (λh=>(dj a h).1<|dT q) λp aZ q=>hs ⟨p,aZ,q⟩).trans hx.symm
   ·have hl:k<U (am.hp++[O.list items]):=(cJ.mp e1).1;simp only[aK,cK,iQ] at hl;have B8:k=U am.hp:=by exact Fi hl hk
    subst B8;simp only[dc<|aG _,fF] at e1
    (have:=cj e1;clear e1;subst this)
    simp only[←R.led.len,dc<|aG _,fF] at q
    (have:=cj q;clear q;subst this)
    exact⟨vs,c,e,i.mono xg<|bF.refl _⟩
  ·refine mF.mpr ⟨R.led.nodup,l5.mpr ⟨g8,lx⟩,λa ha b hb e=>?_⟩;simp only[bw] at hb;subst hb e;exact nf ha
  ·intro h;rcases bK.mp h with h|h
   ·exact R.led.fB h
   ·rw[bw] at h;exact aY h<|iS lt
  ·rcases bK.mp ha with h|h
   ·exact R.led.low a h
   ·rw[bw] at h;subst h;exact R.led.size
theorem EV.listOf{p pos:cN}{e:bB}{ty:dm}{items:J V}(hf:EV C (n+2) (.Name "list" p) st (.val<|.type "list") st)(ku:wt ty)(G:pk C n e st ty sh (items.map .val) am)(hz:U items<=km)(he:aO (gR e=true) a8):
  EV C (n+2) (.Call (.Name "list" p) [e] [] pos) st (.ref<|U am.hp) ⟨am.loc,am.hp++[.list items]⟩:=.mk λA s ρ Q hA R h=>by
 refine wpAny_Call_Name_kw<|hf.run A s ρ _ hA R λfO x s0 N0 i0=>?_;subst i0;have key:aF (aN C.prog C.w) A (spliced<|lE pos<|lC [e] C.env) (λvs s'=>aF (aN C.prog C.w) A (gO (.type "list") vs) Q bq s') bq s0:=by
  refine D (kQ he)<|AG ?_;show aF _ _ (if false=true then _ else eval e C.env) _ _ _;refine D (aE dy)<|G.run A s0 fO _ (hA.le<|dZ _ _) N0.rep λaC I own s1 N1 hT hF dj=>(EC ?_);have R1:=N1.rep;refine aez ku hA hF hT (λb hb=>let ⟨_,e⟩:=(dj b hb).2.2.2;dH e) R1.toF.size (λp hp=>(G.sh.at R1 p hp).2.1) R1.led.top R1.led.os R1.led.drawn hz λs' vs c' m e i fin=>?_
  exact h _ _ _ (N0.trans<|N1.listed G.sh dj m e i fin)<|mU R1.led _
 exact callWith_type1 key (kQ he) rfl
end
section
variable{T:Wd}{g:B->Prop}
theorem P8{sh:J (ax×J V)}{own:ax->Prop}{s':ay}(r:Rel T sh g own s s')(fin:∀(i:B) (x:de),g i->s.gens[i]?=some x->x= .finished):∀(i:B) (x:de),g i->s'.gens[i]?=some x->x= .finished:=λi x hi e=>by
 by_cases hs:i<s.gens.size
 ·have e1:s.gens[i]?=some s.gens[i]:=ia hs;simp only[r.gens i _ hi e1] at e;(have:=cj e;clear e;subst this);exact fin i _ hi e1
 ·exact r.news i x hi (by exact iR ‹_›) e
theorem aeT{aiA:ax}{c:ak}{xs:J V}{r:V->V}{m:ax}(hf:∀x∈xs,uw T n (.ref aiA) [] [.val c,x] []<|r x)(hI0:T.top.objs.size<=I)(yX:T.top.objs.size<=it)(HM:I≠it)(hl:l≠it)(HN:m≠it):
  ∀(ys:J V) (k:B) (s:ay),xs.drop k=ys->s.heap.get? I=some (wv TI<|.ref m)->s.heap.get? TI=some {cls:=.type "tuple",data:=.seq #[.ref it]}->s.heap.IsListIter it l k->s.heap.get? m=some {cls:=.type "method",data:=.fields #[.ref aiA,c]}->
  (∀(i:B) (x:de),g i->s.gens[i]?=some x->x= .finished)->gq T (n+1) I [(l,xs)] g ((ys.map r).map .val) (λb=>b=it\/b=I\/b=m) s:=by
 intro ys
 induction ys with
 |nil=>
  intro k s hk hI pj hit hm fin s' rel A Q E hA hQ;have iZ:=rel.keep _ _ (.inr<|.inl rfl) hI;have B9:=rel.aX _ _ pj rfl;refine cP hit λoi ho hc hd=>?_
  have gD:=rel.keep _ _ (.inl rfl) ho;refine dv (rel.sh _<|bw.mpr rfl) λvs n' el cD=>?_
  have hlen:vs.size=U xs:=by simp only[←eO,dK cD]
  have hkx:U xs<=k:=by
   have:=bA U hk;rw[kO] at this;simp at this;exact aag this
  refine aeM hA.1 iZ B9 ⟨oi,gD,hc,hd⟩ ⟨_,el,rfl,n',rfl⟩ (bD.getElem?_eq_none<|aaf hlen hkx) λh' ext=>hQ _ ?_ λi x hi e=>P8 rel fin i x hi e
  have ne:∀{b o},s'.heap.get? b=some o->mc o=true->b≠it:=λe t z=>by
   subst z;simp only[gD] at e;(cases cj e;clear e);exact Lq<|(q9 hc).symm.trans t
  refine⟨λb o e hb H=>ext b o (λz=>hb<|.inl z) e,λb o e t=>ext b o (ne e t) e,?_,λb o e=>ext b o (λz=>?_)<|rel.top b o e,λi x H e=>e,aG _,rel.os,rel.drawn⟩
  ·intro p hp;rw[bw] at hp;subst hp;exact⟨vs,n',ext _ _ hl el,cD.mono (bP _) λb o e t=>ext b o (ne e t) e⟩
  ·subst z;exact aY (dH e)<|iT.mpr yX
 |cons y ys ih=>
  intro k s hk hI pj hit hm fin s' rel A Q E hA hQ;have iZ:=rel.keep _ _ (.inr<|.inl rfl) hI;have y9:=rel.keep _ _ (.inr<|.inr rfl) hm;have B9:=rel.aX _ _ pj rfl;refine cP hit λoi ho hc hd=>?_
  have gD:=rel.keep _ _ (.inl rfl) ho;refine dv (rel.sh _<|bw.mpr rfl) λvs n' el cD=>?_
  have hy:xs[k]?=some y:=by simp only[←JT,hk];rfl
  refine aH (cD.get hy) λx hx ix=>?_
  simp only[jX] at hx;refine aeL iZ B9 ⟨oi,gD,hc,hd⟩ ⟨_,el,rfl,n',rfl⟩ hx HM λh' uA sb=>?_
  have ht:mc oi=false:=q9 hc;have st:=jY sb gD ht;have isz:it<s'.heap.objs.size:=dH gD;have ka:s'.heap.objs.size=h'.objs.size:=sb.1.symm
  have aeU:∀b o,T.top.get? b=some o->h'.get? b=some o:=λb o e=>(sb.2 b (λz=>by
   subst z
   exact aY (dH e) (iT.mpr yX))).trans (rel.top b o e)
  refine wpAny_call<|ks_codeAny_call_bound ((sb.2 m HN).trans y9)<|hf y (dT hy) A.in1 {s' with heap:=h'} [] [c,x] (λv s2=>Q (some v) s2) hA.in1 ⟨rfl,λk o a e=>(nomatch e),lx,λa h=>(nomatch h),cX yX<|lz<|ka▸isz,aeU,rel.os,rel.drawn⟩ ⟨_,_,rfl,rfl,_,_,rfl,ix.mono (bP _) st,rfl⟩ λaB v s2 N hv=>?_;have e0:aB=[]:=Dt.mp N.led.len;subst e0;have kp:∀b o,h'.get? b=some o->s2.heap.get? b=some o:=λb o e=>N.keep b o e g8;refine cP uA λP9 nZ uC hd2=>?_
  have mv:Mv T [(l,xs)] g (λb=>b=it\/b=I\/b=m) s' s2:=by
   refine⟨λb o e hb H=>kp b o<|(sb.2 b λz=>hb<|.inl z).trans e,st.trans N.aX,?_,N.led.top,λi x H e=>N.gens.1 i x e,N.gens.size,N.led.os,N.led.drawn⟩;intro p hp;rw[bw] at hp;subst hp;exact⟨vs,n',kp _ _ ((sb.2 l hl).trans el),cD.mono (bP _) (st.trans N.aX)⟩
  refine hQ v s2 _ mv (λb hb=>⟨.inl hb,?_⟩) hv ?_
  ·exact hb.elim (λe=>⟨P9,(bA s2.heap.get? e).trans<|kp _ _ nZ⟩) λhb=>hb.elim (λe=>⟨_,(bA s2.heap.get? e).trans<|kp _ _<|(sb.2 _ HM).trans iZ⟩) λe=>⟨_,(bA s2.heap.get? e).trans<|kp _ _<|(sb.2 _ HN).trans y9⟩
  refine ih (k+1) s2 ?_ (kp _ _<|(sb.2 I HM).trans iZ) (N.aX _ _ (st _ _ B9 rfl) rfl) ⟨P9,kp _ _ nZ,uC,hd2⟩ (kp _ _<|(sb.2 m HN).trans y9) λi x hi e=>?_
  ·simp only[←xh,hk];rfl
  ·by_cases hs:i<s'.gens.size
   ·have e1:s'.gens[i]?=some s'.gens[i]:=ia hs;simp only[N.gens.1 i _ e1] at e;(have:=cj e;clear e;subst this);exact P8 rel fin i _ hi e1
   ·exact N.gens.2 i x (by show s'.gens.size<=i;exact iR ‹_›) e
end
section
variable{m:B}{am:St}
theorem pk.aeV{mp ap pos:cN}{o e2:bB}{qn:ao}{mS:ao->bC ak}{sA fA:ax}{z:ak}{k:B}{xs:J V}{r:V->V}
  (hf:EV C n (.Name "map" mp) st (.val<|.type "map") st) (ho:EV C n o st (.val<|.ref c) st) (hC:C.top.get? c=some (dW nm qn c N k0 k1 k2 k3 k5)) (hn:C.top.Ns N mN)
  (hs:mN "_make"=some (.ref sA)) (lT:C.top.get? sA=some ⟨.type "classmethod",dd,.fields #[.ref fA,z],#[]⟩) (gV:C.top.Ns r8 mS) (pf:mS "thirdparty.any"=aA)
  (h2:EV C n e2 st (.ref k) st) (hk:st.hp[k]?=some (.list xs)) (j9:V.fe (λH=>false) xs=true) (hF:∀x∈xs,uw C.toWd n (.ref fA) [] [.val<|.ref c,x] []<|r x) (iJ:aO (gR e2=true) a8)
  (he:aO (eval (.Attribute o "_make" ap) C.env=(do
   let w ←eval o C.env
   nK ap.atName
   let r ←holding [w] (l7 w "_make" true)
   vI o w r
   pure r)) aW._auto_1):pk C (n+1) (.Call (.Name "map" mp) [.Attribute o "_make" ap,e2] [] pos) st "map" [(k,xs)] ((xs.map r).map .val) st where
 sh:=λp hp=>by
  rw[bw] at hp;subst hp;exact⟨hk,j9⟩
 run:=λA s ρ Q hA R h=>by
  have HO:cn n A:=hA.le<|eM _;refine wpAny_Call_Name_kw<|hf.run A s ρ _ HO R λfO x s0 N0 i0=>?_;subst i0;have key:aF (aN C.prog C.w) A (spliced<|lE pos<|lC [.Attribute o "_make" ap,e2] C.env) (λvs s'=>aF (aN C.prog C.w) A (gO (.type "map") vs) Q bq s') bq s0:=by
   refine D (kQ rfl)<|D (kQ iJ)<|AG ?_;show aF _ _ (if false=true then _ else eval _ C.env) _ _ _;refine D (aE dy)<|AE (ho.run A s0 fO _ HO N0.rep λaC y s1 N1 i1=>?_) he;obtain rfl:y= .ref c:=i1;obtain⟨hh,g,d,t,B2⟩:=s1;refine aex (N1.rep.led.top _ _ hC) (hn.keeps N1.rep.led.top) hs (N1.rep.led.top _ _ lT) (gV.keeps N1.rep.led.top) pf ?_
   have N2:=(N0.trans N1).trans<|bk.push N1.rep (wr fA c)<|t+1;have hm:(hh.push<|wr fA c).get? hh.objs.size=some (wr fA c):=ew _ rfl;refine AG<|h2.run A _ aC _ HO N2.rep λbh x2 s2 N3 i2=>(EC<|aH i2 λl hl av=>?_);clear i2;subst av;have N:=N2.trans N3;have R2:=N.rep;have wx:C.env.locals<hh.objs.size:=by obtain⟨mm,bT,_⟩:=N1.rep.loc;exact bT.lt
   have gF:hh.objs.size∉aC:=N1.rep.led.Bg;have lW:=N3.keep _ _ hm gF<|kl wx;have hm3:hh.objs.size∉bh:=λq=>by
    have:=N3.fresh _ q gF;simp only[show(hh.push<|wr fA c).get? hh.objs.size=aA from this] at hm;exact nomatch hm
   refine cP (R2.led.at hk) λl' kt il s9=>?_
   simp only[hl] at kt;(have:=cj kt;clear kt;subst this);refine dv il λvs q el cD=>aeI ⟨_,el,rfl,q,rfl⟩ ?_
   have Qa:∀a,a∉bh->a≠C.env.locals->s2.heap.objs.size<=a->s.heap.get? a=aA:=λa G h2 h3=>by
    cases e':s.heap.get? a with
    |none=>rfl
    |some o'=>exact aY (dH<|N.keep _ _ e' (λq=>G<|N.pre.subset q) h2)<|iT.mpr h3
   have uW:∀a,s2.heap.objs.size<=a->a∉bh:=λa h q=>by
    exact mM (R2.toF.mem q) λH H ob H H H h3 H=>(aY (dH h3)<|iT.mpr h)
   have Qb:C.top.objs.size<=s2.heap.objs.size:=R2.toF.size;have HP:C.env.locals<s2.heap.objs.size:=by obtain⟨mm,bT,_⟩:=R2.loc;exact bT.lt
   have bJ:l<s2.heap.objs.size:=dH el;have ltm:hh.objs.size<s2.heap.objs.size:=dH lW;have z1:(y7 s2.heap l).objs.size=s2.heap.objs.size+1:=jV ..;have z2:(wu s2.heap l).objs.size=s2.heap.objs.size+2:=by simp only[jV,z1]
   have z3:(qr s2.heap l<|.ref hh.objs.size).objs.size=s2.heap.objs.size+3:=by simp only[jV,z2]
   have kp:∀b o,s2.heap.get? b=some o->(qr s2.heap l<|.ref hh.objs.size).get? b=some o:=λb o e=>dD _<|dD _<|dD _ e;have g3:(qr s2.heap l<|.ref hh.objs.size).get? (wu s2.heap l).objs.size=some _:=ew _ rfl;have g2:(qr s2.heap l<|.ref hh.objs.size).get? (y7 s2.heap l).objs.size=some _:=dD _<|ew _ rfl;have g1:(qr s2.heap l<|.ref hh.objs.size).get? s2.heap.objs.size=some _:=dD _<|dD _<|ew _ rfl;simp only[z2] at g3;have NG:=N.trans<|bk.grow (s':={s2 with heap:=qr s2.heap l (.ref hh.objs.size)}) R2 kp (eN.refl _) rfl rfl;have e0:bh.getD k 0=l:=by simp only[c5,hl];rfl
   refine h bh (s2.heap.objs.size+2) (λb=>b=s2.heap.objs.size\/b=s2.heap.objs.size+2\/b=hh.objs.size) {s2 with heap:=qr s2.heap l (.ref hh.objs.size)} ⟨NG.pre,NG.aX,NG.keep,NG.fresh,NG.gens.1,NG.rep⟩ ⟨_,g3,rfl⟩ ?_ ?_
   ·show gq _ _ _ [(bh.getD k 0,xs)] _ _ _ _;simp only[e0];exact aeT hF (cX Qb<|dZ _ 2) Qb (kl<|B.lt_add_of_pos_right<|by decide) (iS bJ) (iS ltm) xs 0 _ rfl g3 g2 ⟨_,g1,rfl,rfl⟩ (kp _ _ lW) λi x hi e=>NG.gens.2 i x hi e
   ·have l2:C.env.locals<s2.heap.objs.size+2:=oB HP<|dZ _ 2;rintro b (rfl|rfl|rfl)
    ·exact⟨uW _<|aG _,kl HP,Qa _ (uW _<|aG _) (kl HP)<|aG _,_,g1⟩
    ·exact⟨uW _<|dZ _ 2,kl l2,Qa _ (uW _<|dZ _ 2) (kl l2)<|dZ _ 2,_,g3⟩
    ·refine⟨hm3,kl wx,?_,_,kp _ _ lW⟩;cases e':s.heap.get? hh.objs.size with
     |none=>rfl
     |some o'=>exact aY (dH<|(N0.trans N1).keep _ _ e' (λq=>gF<|(N0.trans N1).pre.subset q)<|kl wx)<|jf _
  exact callWith_type1 key (kQ rfl) (by refine D (kQ iJ) ?_;rfl)
end
theorem aeW(P:aP):nM P "__len__"=aA:=by kernel_rfl
theorem aeX(P:aP):nM P "_make"=some (.ref 91):=by kernel_rfl
theorem aeY(P:aP):(bZ P).get? 91=some ⟨.type "classmethod",some 90,.fields #[.ref 89,.bool false],#[]⟩:=by kernel_rfl
noncomputable def tV(s:B×B×B):V:=.tup (.type "tuple") [.int s.1,.int s.2.1,.int s.2.2]
theorem aeZ{s:B×B×B}:uw (TW w os dr) (n+1) (.ref 89) [] [.val<|.ref 135,tV s] [] (mV s):=by
 have aiw:=d89 w.params;refine uw.v0 (T:=TW w os dr) aiw.get aiw.fd rfl aiw.code (noLimit _) (names:=["cls","iterable"]) (bs:=[.val<|.ref 135,tV s]) (λA E ρ st xs Q R aV hq=>?_) aiw.nd aiw.cell aiw.loc (λL=>?_) rfl rfl rfl
 ·have hl:=dK aV;revert aV;revert xs;exact sG λx y=>λaV=>wpAny_pure<|hq [x,y] st.heap st.toks (λH H e=>e) (aG _) aV
 refine eE dE<|cY (EV.uz (cB (cQ _) (Oy _) (dN _)<|OC _) (an ah<|an ah aM)<|aQ.uz (ph _) (qo _)<|Hl _) ?_;refine lM (bV (fv (cB (cQ _) (qa _) (dN _)<|qc _) (an ah aM)<|aQ.aeR (ph _) (qo _) (aeW _)<|by show 3<_;decide) bz a9.ne_int) ?_
 exact j6 ah ⟨_,rfl,(o7 rfl rfl)⟩
theorem ae0{o:bc}{L:ax}{l:J (ao×V)}(hz:U u<200):
  aQ (fr w os dr o a L) (n+5) (.ref 242) [.none,.ref 0,.ref 1] ⟨l,[.list<|aw f,.list<|aw u]⟩ (.ref 3) ⟨l,lS f u⟩:=by
 have c:=adq (w:=w) (os:=os) (dr:=dr) (n:=n) (f:=f) (u:=u) hz;exact aQ.new (GO w.params) (OV w.params) (acf _) (Oq _).get rfl<|cE.same c (by refine D (qk _ _) ?_;exact sr) (yQ rfl) rfl
theorem Ca{aix T:J O}{p:B}{o:O}(h:U aix=p):(aix++T).set p o=aix++T.set 0 o:=set_tail (t:=0) h
theorem c8.norm{e:bB}{ba:St}{l':J (ao×V)}{aZ:J O}(hs:SubL l' st.loc)(hh:st.hp=aZ)(h:c8 C n e v ⟨l',aZ⟩ ba):c8 C n e v st ba:=.mk λA s ρ x Q hA R hv k=>by
 subst hh;exact h.run A s ρ x Q hA ⟨by obtain⟨m,bT,hm⟩:=R.loc;exact⟨m,bT,λx v e=>hm x v<|hs x v e⟩,R.led⟩ hv k
theorem ae1(P:aP):nM P "__lt__"=aA:=by kernel_rfl
theorem HQ(P:aP):nM P "__iter__"=aA:=by kernel_rfl
noncomputable def qV(q:B×B×B×B):V:=.tup (.type "tuple") [.int q.1,.int q.2.1,.int q.2.2.1,.int q.2.2.2]
noncomputable def po(qs:J<|B×B×B×B):B:=(qs.map λq=>2*(q.2.1-q.1)+1).sum
theorem za(a b:J<|B×B×B×B):po (a++b)=po a+po b:=by
 unfold po;simp only[eL,J.sum_append]
theorem HR:∀(a:J<|B×B×B×B),U a<=po a
 | []=>bH _
 |q::a=>by
  have:=HR a;unfold po at this ⊢;simp only[eu,JX,cK];exact XR this
noncomputable def Qc(p f u aq aS au aJ:B):J (ao×V):=("bhi",.int aJ)::("blo",.int au)::("ahi",.int aS)::("alo",.int aq)::[("matching_blocks",.ref<|p+1),("queue",.ref p),("la",.int f),("lb",.int u),("self",.ref 3)]
noncomputable def Cb(p f u aq aS au aJ i j k:B):J (ao×V):=("k",.int k)::("j",.int j)::("i",.int i)::Qc p f u aq aS au aJ
noncomputable def qt(p f u:B)(s:B×B×B):J (ao×V):=[("k1",.int s.2.2),("j1",.int s.2.1),("i1",.int s.1),("non_adjacent",.ref<|p+2),("matching_blocks",.ref<|p+1),("la",.int f),("lb",.int u),("self",.ref 3)]
noncomputable def rC(f u:J<|J B)(al:J<|ao×V)(tl:J O):J O:=bu f u (putL al "matching_blocks"<|.ref<|10+U (keysOf u)+U tl)<|tl++[.list [],.list<|(dU f u).map mV,.list<|(gn f u).map tV,.list<|(gn f u).map mV]
theorem ae2{g:B->bb}{l:J (ao×V)}{x:ao}(hv:v.bG g=true)(hl:(O.attrs l).bG g=true):(O.attrs<|putL l x v).bG g=true:=by
 have hl:(l.all λp=>p.2.bG g)=true:=hl;have h2:((l.filter λp=> !(p.1==x)).all λp=>p.2.bG g)=true:=by
  simp only[fW] at hl ⊢;exact λp hp=>hl p (rV.mp hp).1
 show(v.bG g&&_)=true;simp only[hv,xy];exact h2
theorem HS{al:J (ao×V)}{tl more:J O}{x:ao}(h:gy<|bu f u al tl)(hv:v.bG (λk=>decide (k<7+U (keysOf u)+U (tl++more)))=true)(hm:∀o∈more,o.bG (λk=>decide (k<7+U (keysOf u)+U (tl++more)))=true):gy (bu f u (putL al x v)<|tl++more):=by
 have mono:∀{o:O},o.bG (λk=>decide (k<U (bu f u al tl)))=true->o.bG (λk=>decide (k<7+U (keysOf u)+U (tl++more)))=true:=λh=>O.m5 (λk hk=>by
  rw[pi] at hk;refine D aK ?_;simp only[ip] at hk ⊢;exact XQ hk) h
 have ha:=mono<|h (.attrs al)<|dT (i:=2) rfl;have key:∀o∈bu f u (putL al x v) (tl++more),o.bG (λk=>decide (k<7+U (keysOf u)+U (tl++more)))=true:=
  ma (ma (gg (mono<|h _<|dT (i:=0) rfl)<|gg (mono<|h _<|dT (i:=1) rfl)<|gg (ae2 hv ha)<|gg (mono<|h _<|dT (i:=3) rfl)<|fM<|mono<|h _<|dT (i:=4) rfl) λo hi=>mono<|h o<|JC _<|zX _ hi) (ma (gg rfl<|fM rfl)<|ma (λo ht=>mono<|h o<|zX _<|zX _ ht) hm)
 intro o ho;exact D (pi ..)<|key o ho
theorem Qd{al:J (ao×V)}{tl:J O}(h:gy<|bu f u al tl):gy (rC f u al tl):=by
 refine HS h (dF ?_) λo ho=>?_
 ·simp only[aK];exact XO
 ·simp only[cu,g8,rX] at ho;rcases ho with rfl|rfl|rfl|rfl
  ·rfl
  ·exact oX λH=>rfl
  ·exact oX λH=>rfl
  ·exact oX λH=>rfl
noncomputable def Qe:V->V
 | .tup _ l=>.tup (.ref 135) l
 |v=>v
noncomputable def wy(p f u:B):J (ao×V):=[("matching_blocks",.ref<|p+1),("queue",.ref p),("la",.int f),("lb",.int u),("self",.ref 3)]
noncomputable def kd(aq i au j:B):J (B×B×B×B):=if aq<i/\au<j then[(aq,i,au,j)] else[]
theorem Qf(a b:J<|J B)(aq i au j:B):(kd aq i au j).flatMap (nc a b)=nc a b (aq,i,au,j):=by
 unfold kd;split
 ·exact cM _
 ·exact D (acW<|by lia) rfl
theorem Qg(aq i au j:B):po (kd aq i au j)<=2*(i-aq)+1:=by
 unfold kd;split
 ·exact aG _
 ·exact bH _
end
namespace zb
noncomputable def ES(w:bx)(os:bM)(dr:cV)(n:B)(f:J<|J B)(u:J<|J B)(al:J<|ao×V)(tl:J O)(_ _ _ _ _:fD):Prop:=(sX (U<|keysOf u) al)->(mH ("matching_blocks":ao) al=some V.none)->(gy<|bu f u al tl)->(U f<64)->(U u<200)->cE (TW w os dr) (n+5) (.ref 203) (bu f u al tl) [.ref 3] (rC f u al tl) (.ref<|10+U (keysOf u)+U tl)
@[irreducible] noncomputable def EX:=nT oN default {} 0 [] [] [] [] () () () () () ES
noncomputable def w:=EX.1
noncomputable def os:=EX.2.1
noncomputable def dr:=EX.2.2.1
noncomputable def n:=EX.2.2.2.1
noncomputable def f:=EX.2.2.2.2.1
noncomputable def u:=EX.2.2.2.2.2.1
noncomputable def al:=EX.2.2.2.2.2.2.1
noncomputable def tl:=EX.2.2.2.2.2.2.2.1
theorem Ee:ES w os dr n f u al tl () () () () ():=λnk HT j9 fU hb=>by
 have ha:U f<200:=by exact M0 fU
 refine m6 (Gr _) rfl (λxs hx=>?_) λL=>?_
 ·revert xs;exact sF λH=>rfl
 have cl:=qg w.params;have gl:=qa w.params;have bl:=qc w.params;have rD:U (aw f)=U f:=bg ..;have hlb:U (aw u)=U u:=bg ..;have hp:=pi f u al tl;have uX:rC f u al tl=rC f u al tl:=rfl
 conv at uX=>rhs;unfold rC
 have Qh:10+U (keysOf u)+U tl=U (bu f u al tl)+3:=by exact D hp XN
 rw[Qh] at uX ⊢;have Qi:=Qd j9;generalize rC f u al tl=hM at uX Qi ⊢;generalize hP:U (bu f u al tl)=p at*;refine eE dE (lM (bV (EV.attr (k:=3) (d:=2) (l:=al) ah rfl rfl HT cl (by kernel_rfl) (by kernel_rfl) yy λH h=>by cases h) EV.none a9.isnot_none_none)<|rf (names:=["la","lb"]) (dL<|an (fv (cB (cQ _) gl (dN _) bl) (an (EV.attr (k:=3) (d:=2) (l:=al) ah rfl rfl nk.a cl (by kernel_rfl) (by kernel_rfl) yx λH h=>by cases h) aM)<|p0 (k:=0) (l:=aw f) rfl<|by lia)<|an (fv (cB (cQ _) gl (dN _) bl) (an (EV.attr (k:=3) (d:=2) (l:=al) ah rfl rfl nk.b cl (by kernel_rfl) (by kernel_rfl) wf λH h=>by cases h) aM)<|p0 (k:=1) (l:=aw u) rfl<|by lia) aM)<|D rD<|D hlb ?_);refine cY (eI<|an (dL<|an bz<|an ah<|an bz<|an ah aM) aM)<|cY (eI aM) ?_;have e1:U (bu f u al tl++[O.list [qV (0,U f,0,U u)]])=p+1:=by exact D aK<|D hP rfl
 refine b7 (l':=wy p (U f)<|U u) (aZ:=bu f u al tl++[.list<|[(0,U f,0,U u)].map qV,.list<|([]:J<|B×B×B).map mV]) ?_ ?_ ?_
 ·unfold wy;exact bL e1<|bL hP<|bp rfl
 ·show bu f u al tl++[O.list [qV (0,U f,0,U u)]]++[O.list []]=_;rw[cm];rfl
 refine cg<|jt (K:=λfl aj=>fl= .next/\∃bs:J<|B×B×B,bs.Perm (nc f u (0,U f,0,U u))/\SubL (wy p (U f)<|U u) aj.loc/\aj.hp=bu f u al tl++[.list [],.list<|bs.map mV]) ?_ ?_
 ·refine X1.while (p+2) (λm am=>∃qs bs,m=po qs/\SubL (wy p (U f)<|U u) am.loc/\am.hp=bu f u al tl++[.list<|qs.map qV,.list<|bs.map mV]/\(bs++qs.flatMap (nc f u)).Perm (nc f u (0,U f,0,U u))/\(∀q∈qs,q.1<=q.2.1/\q.2.1<=U f/\q.2.2.1<=q.2.2.2/\q.2.2.2<=U u)/\U bs+m<=2*U f+1) (m0:=2*U f+1) ?_ (dZ _ _) λm am hI=>?_
  ·refine⟨[(0,U f,0,U u)],[],?_,λH H h=>h,rfl,?_,?_,?_⟩
   ·rfl
   ·simp
   ·intro q hq;rw[bw] at hq;subst hq;exact⟨bH _,aG _,bH _,aG _⟩
   ·exact XM
  ·obtain⟨qs,bs,rfl,ct,oa,uY,dk,hm⟩:=hI;have yJ:am.hp[p]?=some (.list<|qs.map qV):=by exact D oa (fR (t:=0) hP)
   have hq:=HR qs;refine⟨_,am,fu (ah<|ct "queue" _ rfl) (fG.list yJ<|by refine D (bg _) ?_;exact XK hm ha hq),λcw=>?_,λhe=>bd ?_⟩
   rotate_left
   ·have:qs=[]:=by cases qs with
     |nil=>rfl
     |cons a l=>cases he
    subst this;exact⟨rfl,bs,by simpa using uY,ct,oa⟩
   ·refine XS.hide λK hK=>?_
    rcases rR qs with rfl|⟨mz,⟨aq,aS,au,aJ⟩,rfl⟩
    ·cases cw
    rw[rS] at*;clear cw yJ;refine b7 (l':=wy p (U f)<|U u) (aZ:=bu f u al tl++[.list<|mz.map qV++[qV (aq,aS,au,aJ)],.list<|bs.map mV]) ct (by refine D oa<|D eL ?_;rfl) ?_
    refine gc (dk _<|bK.mpr<|.inr<|bw.mpr rfl) λG h2 h3 h4=>?_
    dsimp only at G h2 h3 h4;rw[aK] at hq;rw[za] at hm hq hK;have dM:po [(aq,aS,au,aJ)]=2*(aS-aq)+1:=by show 2*(aS-aq)+1+0=_;rfl
    rw[dM] at hm hq hK;refine yp (EV.method0 ah (uB<|fR (t:=0) hP) (aQ.pop (k:=p) (l:=mz.map qV) (v:=qV (aq,aS,au,aJ)) (fR (t:=0) hP)<|by refine D (bg _) ?_;exact XJ hm hq ha) uc PySem.F.slot_list_pop PySem.F.type_list_pop) (c8.tup<|bU.cons bW<|bU.cons bW<|bU.cons bW<|bU.cons bW bU.nil) ?_
    refine b7 (l':=(Qc p (U f) (U u) aq aS au aJ)) (aZ:=bu f u al tl++[.list<|mz.map qV,.list<|bs.map mV]) (bp rfl) (by show(bu f u al tl++_).set p _=_;exact Ca hP) ?_
    have ta:=ad1 nk j9 (w:=w) (os:=os) (dr:=dr) (n:=n+1) (f:=f) (u:=u) (aq:=aq) (aS:=aS) (au:=au) (aJ:=aJ) ha hb h2 h4 G h3;have aiv:=qh (a:=f) (b:=u) (aq:=aq) (aS:=aS) (au:=au) (aJ:=aJ);have zc:=acX (a:=f) (b:=u) (aq:=aq) (aS:=aS) (au:=au) (aJ:=aJ);have HU:=λi j k=>acY (a:=f) (b:=u) (aq:=aq) (aS:=aS) (au:=au) (aJ:=aJ) (i:=i) (j:=j) (k:=k);refine EG (⟨_,_,_,rfl⟩:∃i j k,jK f u aq aS au aJ=(i,j,k)) λi j k hf=>?_
    rw[hf] at ta aiv zc;have m1:=aiv.o9;have m2:=aiv.jv;have m3:=aiv.lo1;have m4:=aiv.lP;dsimp only at m1 m2 m3 m4 zc;have Qj:∀o∈bu f u al tl,o.bG (λk=>decide (k<U (bu f u al tl)))=true:=j9;refine jG (EV.rn (k:=3) (d:=2) (l:=al) ah rfl rfl cl (ack _) (Gq _).get rfl (Gq _).fd acs (an ah<|an ah<|an ah<|an ah aM) (cE.front ta rfl Qj Qj (by show(decide (3<U (bu f u al tl))&&_)=true;rw[dF<|by exact pJ _ _];rfl) rfl) (by kernel_rfl) (by kernel_rfl) nk.jK)
     (cF.cons (c8.HA (ph _) (qo _) (HQ _)<|bU.cons bW<|bU.cons bW<|bU.cons bW bU.nil)<|cF.cons bW cF.nil) ?_
    refine b7 (l':=(("x",mV (i,j,k))::Cb p (U f) (U u) aq aS au aJ i j k)) (aZ:=bu f u al tl++[.list<|mz.map qV,.list<|bs.map mV]) (bp rfl) rfl<|cg<|i8 _ (fu ah fG.int) (λhk=>?_) λhk=>bd<|bd<|hK _ _ ?_
    rotate_left
    ·have hk:k=0:=by simpa using hk
     refine⟨po mz,by exact XI,mz,bs,rfl,by exact bp rfl,rfl,?_,λq jN=>dk q<|bK.mpr<|.inl jN,by exact XH hm⟩;rw[kN,show[(aq,aS,au,aJ)].flatMap (nc f u)=[] by rw[Jy,zc hk],cM] at uY;exact uY
    ·have hk:0<k:=vG (by simpa using hk);have hz:=HU i j k hf hk;refine eE (iE (k:=p+1) (l:=bs.map mV) ah (fR (t:=1) hP) ah (fR (t:=1) hP)<|by refine D (bg _) ?_;exact XF hm ha) ?_
     refine b7 (l':=(Cb p (U f) (U u) aq aS au aJ i j k)) (aZ:=bu f u al tl++[.list<|mz.map qV,.list<|(bs++[(i,j,k)]).map mV]) (by exact bp rfl) (by refine D eL ?_;exact set_tail (t:=1) hP) ?_
     refine cg<|jt (K:=λfl aj=>fl= .next/\aj=⟨(Cb p (U f) (U u) aq aS au aJ i j k),bu f u al tl++[.list<|(mz++kd aq i au j).map qV,.list<|(bs++[(i,j,k)]).map mV]⟩) (i8 _ (kC (bV ah ah jZ)<|kC (bV ah ah jZ) pX) (λhc=>?_) λhc=>bd ⟨rfl,?_⟩) ?_
     ·have hc:aq<i/\au<j:=by simpa using hc
      refine eE (iE (k:=p) (l:=mz.map qV) ah (fR (t:=0) hP) (dL<|an ah<|an ah<|an ah<|an ah aM) (fR (t:=0) hP)<|by refine D (bg _) ?_;exact XE hm hq ha) ?_
      refine bd ⟨rfl,bA (St.mk _) ?_⟩;unfold kd;exact D (aU hc)<|D (eL (l₁:=mz))<|Ca hP
     ·have hc:¬(aq<i/\au<j):=by
       intro h;revert hc;simp[h.1,h.2]
      unfold kd;rw[aE hc,cM]
     intro fl aj dM;obtain⟨rfl,rfl⟩:=dM
     try dsimp only
     have m9:=Qg aq i au j;have kA:=Qg (i+k) aS (j+k) aJ;have pd:=HR<|kd aq i au j;refine cg<|jt (K:=λfl aj=>fl= .next/\aj=⟨(Cb p (U f) (U u) aq aS au aJ i j k),bu f u al tl++[.list<|(mz++kd aq i au j++kd (i+k) aS (j+k) aJ).map qV,.list<|(bs++[(i,j,k)]).map mV]⟩) (i8 _ (kC (bV (bt ah ah eT) ah jZ)<|kC (bV (bt ah ah eT) ah jZ) pX) (λhc=>?_) λhc=>bd ⟨rfl,?_⟩) ?_
     ·have hc:i+k<aS/\j+k<aJ:=by
       simp only[gP,ip,lF] at hc;lia
      refine eE (iE (k:=p) (l:=(mz++kd aq i au j).map qV) ah (fR (t:=0) hP) (dL<|an (bt ah ah eT)<|an ah<|an (bt ah ah eT)<|an ah aM) (fR (t:=0) hP)<|by refine D (bg _)<|D aK ?_;exact XD hm hc hq ha m9 pd) ?_
      refine bd ⟨rfl,bA (St.mk _) ?_⟩;have hr:kd (i+k) aS (j+k) aJ=[(i+k,aS,j+k,aJ)]:=aU hc;exact D hr<|D (eL (l₁:=mz++kd aq i au j))<|Ca hP
     ·have hc:¬(i+k<aS/\j+k<aJ):=by
       intro h;simp only[Kv,J9,lF] at hc;lia
      have hr:kd (i+k) aS (j+k) aJ=[]:=aE hc;rw[hr,cM]
     intro fl aj hU;obtain⟨rfl,rfl⟩:=hU
     try dsimp only
     refine bd (bd<|hK _ _<|⟨po<|mz++kd aq i au j++kd (i+k) aS (j+k) aJ,?_,_,bs++[(i,j,k)],rfl,by exact bp rfl,rfl,?_,?_,?_⟩)
     ·rw[za,za];exact XC hk m1 kA m9 m3
     ·refine J2 ?_ uY
      rw[kN,kN,kN,Qf,Qf,Jy,hz];refine J.perm_iff_count.mpr λx=>?_
      simp only[J.count_append,J.count_cons,J.count_nil];exact XB
     ·intro q jN;rcases bK.mp jN with jN|jN
      ·rcases bK.mp jN with jN|jN
       ·exact dk q<|bK.mpr<|.inl jN
       ·unfold kd at jN;split at jN
        ·rw[bw] at jN;subst jN;exact XA hk m1 m2 h2 m3 m4 h4
        ·cases jN
      ·unfold kd at jN;split at jN
       ·rw[bw] at jN;subst jN;exact Xz hk m1 m2 h2 m3 m4 h4
       ·cases jN
     ·rw[za,za,aK];exact Xy hk hm m1 kA m9 m3
 intro fl aj nu;refine S4 nu λav bs uY ct oa=>?_
 clear nu;subst av;refine b7 ct oa ?_
 have hlen:U bs<64:=by exact D uY.length_eq<|xq (G4 f u) fU
 have qf:=G4 f u;refine eE (EV.method0 ah (uB<|fR (t:=1) hP) (aQ.sort (k:=p+1) (aiA:=λs:B×B×B=>s.1) (r:=λs=>[.int s.2.1,.int s.2.2]) (bs:=bs) (yZ:=dU f u) (ph _) (qo _) (ae1 _) (fR (t:=1) hP) hlen uY.symm (Pl f u)) uc PySem.F.slot_list_sort PySem.F.type_list_sort)<|jG bz (cF.cons bW<|cF.cons bW<|cF.cons bW cF.nil)<|cY (eI aM) ?_;have e2:U ((bu f u al tl++[O.list [],O.list<|bs.map mV]).set (p+1)<|.list<|(dU f u).map mV)=p+2:=by refine D qM<|D aK<|D hP ?_;rfl
 refine b7 (l':=qt p (U f) (U u) (0,0,0)) (aZ:=bu f u al tl++[.list [],.list<|(dU f u).map mV,.list<|([]:J<|B×B×B).map tV]) ?_ ?_ ?_
 ·unfold qt wy;exact bL e2<|bp rfl
 ·show(bu f u al tl++[O.list [],O.list<|bs.map mV]).set (p+1) (.list<|(dU f u).map mV)++[O.list []]=_;rw[set_tail (t:=1) hP,cm];rfl
 have fZ:∀t,U ((dU f u).take t)<=64:=λt=>cX (JE ..) (by exact cX ‹_› (lz ‹_›));refine cg<|jt (K:=λfl aj=>fl= .next/\∃c acc,(dU f u).foldl ng ((0,0,0),[])=(c,acc)/\SubL (qt p (U f) (U u) c) aj.loc/\aj.hp=bu f u al tl++[.list [],.list<|(dU f u).map mV,.list<|acc.map tV]) ?_ ?_
 ·refine nV (p+3) (items:=(dU f u).map mV) (λt aj=>∃c acc,((dU f u).take t).foldl ng ((0,0,0),[])=(c,acc)/\SubL (qt p (U f) (U u) c) aj.loc/\aj.hp=bu f u al tl++[.list [],.list<|(dU f u).map mV,.list<|acc.map tV])
   (gS.of ah<|gj.list (k:=p+1)<|fR (t:=1) hP) ⟨(0,0,0),[],rfl,λH H h=>h,rfl⟩ (λt aj H hI=>?_) (eM _) (dZ _ _) (λt aiy aj hu hI=>?_) (λaj hI=>?_)
  ·refine dh hI λc acc H H hh=>?_
   show aj.hp[p+1]?=_;exact D hh<|fR (t:=1) hP
  ·refine dh hI λcq acc hf ct hh=>?_
   obtain⟨i1,j1,k1⟩:=cq;rw[c6] at hu;cases uZ:(dU f u)[t]? with
   |none=>rw[uZ] at hu;cases hu
   |some b=>
   rw[uZ] at hu;obtain⟨i2,j2,k2⟩:=b;obtain rfl:aiy=mV (i2,j2,k2):=by cases hu;rfl
   clear hu;have m7:((dU f u).take<|t+1).foldl ng ((0,0,0),[])=ng ((i1,j1,k1),acc) (i2,j2,k2):=by
    refine D qL<|D uZ<|D jS<|D hf ?_;rfl
   have oS:U acc<=64:=by
    have G:=BV ((dU f u).take t) ((0,0,0),[]);rw[hf] at G;have h2:=fZ t;simp only[iQ] at G;exact Xx G h2
   refine⟨_,c8.norm ct hh<|c8.HA (ph _) (qo _) (HQ _)<|bU.cons bW<|bU.cons bW<|bU.cons bW bU.nil,(XS.hide λK hK=>(b7 (l':=("k2",.int k2)::("j2",.int j2)::("i2",.int i2)::qt p (U f) (U u) (i1,j1,k1)) (aZ:=bu f u al tl++[.list [],.list<|(dU f u).map mV,.list<|acc.map tV]) (bp rfl) rfl<|cg<|i8 _ (kC (bV (bt ah ah eT) ah mh)<|kC (bV (bt ah ah eT) ah mh) pX) (λhc=>?_) λhc=>?_))⟩
   ·have hc:i1+k1=i2/\j1+k1=j2:=by
     simp only[gP,nG,lF] at hc;lia
    exact cg (X1.aug rfl ah a9.iadd_int<|bd<|bd<|hK _ _ ⟨(i1,j1,k1+k2),acc,(D m7<|aU hc),by exact bp rfl,rfl⟩)
   ·have hc:¬(i1+k1=i2/\j1+k1=j2):=by
     simp only[Kv,xk,lF] at hc;lia
    refine cg<|jt (K:=λfl aj=>fl= .next/\aj=⟨("k2",.int k2)::("j2",.int j2)::("i2",.int i2)::qt p (U f) (U u) (i1,j1,k1),bu f u al tl++[.list [],.list<|(dU f u).map mV,.list<|(mx ((i1,j1,k1),acc)).map tV]⟩) (i8 _ (fu ah fG.int) (λhk=>?_) λhk=>bd ⟨rfl,?_⟩) ?_
    ·have hk:¬k1=0:=by simpa using hk
     refine eE (iE (k:=p+2) (l:=acc.map tV) ah (fR (t:=2) hP) (dL<|an ah<|an ah<|an ah aM) (fR (t:=2) hP)<|by refine D (bg _) ?_;exact MZ oS) ?_
     exact bd ⟨rfl,bA (St.mk _)<|D (show mx ((i1,j1,k1),acc)=acc++[(i1,j1,k1)] from aE hk)<|D eL<|set_tail (t:=2) hP⟩
    ·have hk:k1=0:=by simpa using hk
     exact D (show mx ((i1,j1,k1),acc)=acc from aU hk) rfl
    intro fl aj Cc;obtain⟨rfl,rfl⟩:=Cc
    try dsimp only
    exact rf (names:=["i1","j1","k1"]) (dL<|an ah<|an ah<|an ah aM) (bd<|bd<|hK _ _ ⟨(i2,j2,k2),_,(D m7<|aE hc),by exact bp rfl,rfl⟩)
  ·refine dh hI λc acc hf ct hh=>?_
   rw[bg,pH] at hf;exact bd ⟨rfl,c,acc,hf,ct,hh⟩
 intro fl aj Qk;refine EJ Qk λav kW acc hf ct hh=>?_
 clear Qk;subst av;obtain⟨i1,j1,k1⟩:=kW;have oS:U acc<=64:=by
  have G:=BV (dU f u) ((0,0,0),[]);rw[hf] at G;simp only[iQ] at G;exact Xw fU G qf
 refine b7 ct hh<|cg<|jt (K:=λfl aj=>fl= .next/\aj=⟨qt p (U f) (U u) (i1,j1,k1),bu f u al tl++[.list [],.list<|(dU f u).map mV,.list<|(pb<|dU f u).map tV]⟩) (i8 _ (fu ah fG.int) (λhk=>?_) λhk=>bd ⟨rfl,?_⟩) ?_
 ·have hk:¬k1=0:=by simpa using hk
  refine eE (iE (k:=p+2) (l:=acc.map tV) ah (fR (t:=2) hP) (dL<|an ah<|an ah<|an ah aM) (fR (t:=2) hP)<|by refine D (bg _) ?_;exact MZ oS) ?_
  refine bd ⟨rfl,bA (St.mk _) ?_⟩;unfold pb;exact D hf (D (show mx ((i1,j1,k1),acc)=acc++[(i1,j1,k1)] from aE hk)<|D eL<|set_tail (t:=2) hP)
 ·have hk:k1=0:=by simpa using hk
  unfold pb;exact D hf<|D (show mx ((i1,j1,k1),acc)=acc from aU hk) rfl
 intro fl aj hq6;obtain⟨rfl,rfl⟩:=hq6
 try dsimp only
 have s9:U (pb<|dU f u)<=65:=by
  unfold pb mx;refine D hf ?_
  split
  ·exact Xv oS
  ·exact D aK<|Xu oS
 refine eE (iE (k:=p+2) (l:=(pb<|dU f u).map tV) ah (fR (t:=2) hP) (dL<|an ah<|an ah<|an bz aM) (fR (t:=2) hP)<|by refine D (bg _) ?_;exact Xs s9) ?_
 refine b7 (l':=qt p (U f) (U u) (i1,j1,k1)) (aZ:=bu f u al tl++[.list [],.list<|(dU f u).map mV,.list<|(gn f u).map tV]) (λH H h=>h) ?_ ?_
 ·show(bu f u al tl++_).set (p+2) _=_;exact D (set_tail (t:=2) hP)<|D eL rfl
 have e3:U (bu f u al tl++[O.list [],O.list<|(dU f u).map mV,O.list<|(gn f u).map tV])=p+3:=Ho hP;refine jG (EV.eq (v':=.ref<|p+3) (Hn:=⟨qt p (U f) (U u) (i1,j1,k1),bu f u al tl++[.list [],.list<|(dU f u).map mV,.list<|(gn f u).map tV,.list<|((gn f u).map tV).map Qe]⟩) (EV.listOf (cB (cQ _) (qb _) (dN _)<|qd _) aeG (pk.aeV (r:=Qe) (cB (cQ _) (abg _) (dN _)<|abl _) (hH (cQ _)<|Ou _) (ph _) (qo _) (aeX _) (aeY _) (PJ _) rfl ah (k:=p+2) (fR (t:=2) hP) (oX λH=>rfl) λx hx=>?_)<|by refine D (bg _)<|D (bg _) ?_;unfold gn;rw[aK];exact cX (B.add_le_add_right s9 1)<|bY rfl) (bA V.ref e3)<|bA (St.mk _)<|by rw[cm];rfl) (cF.cons (kX (k:=3) (d:=2) (l:=al) ah rfl rfl cl (by kernel_rfl) (by kernel_rfl) yy<|cX nk.len<|bY rfl) cF.nil) ?_
 ·refine aH (fa.mp hx) λs hs av=>?_
  subst av;exact aeZ
 have hlen:U hM=p+4:=by rw[uX,pi,aK];exact Xr Qh
 refine b7 (l':=qt p (U f) (U u) (i1,j1,k1)) (aZ:=hM) (λH H h=>h) ?_ ?_
 ·refine D uX ?_
  show(bu f u al tl++_).set 2 _=_;unfold bu;simp only[cm,jT,nF,JM,DA,gM];rfl
 have hM2:hM[2]?=some (.attrs<|putL al "matching_blocks"<|.ref<|p+3):=by exact D uX rfl
 have hM3:hM[3]?=some (.inst 242 2):=by exact D uX rfl
 refine j6 (EV.attr (k:=3) (d:=2) ah hM3 hM2 rfl cl (by kernel_rfl) (by kernel_rfl) yy λH h=>by cases h) ⟨_,rfl,?_⟩;have:=Conv.drop (q:=p) (hp:=hM) (junk:=[]) (v:=.ref<|p+3) (Xq hlen) Qi (by show decide (p+3<U hM)=true;exact dF<|Xp hlen);rwa [cM] at this
end zb
section
variable{n q m:B}{T:Wd}{A:bS}{c c':nP}{fs:J nO}{s s' bQ s0:ay}{P:End->ay->Prop}{aix:ak->dG h9}{gd:bb->bb}{lv:J ak->J ak}{sh:J (ax×J V)}{g g':B->Prop}{eK bX:ax->Prop}{x:de}{aiz:GC}{ρ aB:J ax}{st aj am ba:St}{a:fq}{cy:J (B×J V)}{ss body:J fq}{items rest:J It}{Φ:Fl->J It->St->Prop}{p wz pos:cN}{K:mK->dG h9}{env:Env}{e:bB}{l l' al:J (ao×V)}{hp gt tl:J O}{o:O}{At:bn->Prop}{C:Cx}{aiA:ax}{args:J V}{kw:J (ao×ak)}{Q:ak->ay->Prop}{gI:J ao}{f u:J (J B)}{acc:J b8}
section
variable{w:bx}{os:bM}{dr:cV}
theorem ae3:∀{w os dr n f u al tl},zb.ES w os dr n f u al tl () () () () ():=by with_unfolding_all exact oK zb.ES zb.EX rfl zb.Ee _ _ _ _ _ _ _ _ () () () () ()
end
noncomputable abbrev Md(T:Wd):Model:=aN T.prog T.w
noncomputable abbrev SX(T:Wd)(A:bS)(c:nP)(t:dG h9)(fs:J nO)(s:ay)(P:End->ay->Prop):Prop:=W.X.SegX (Md T) A c t fs s P
theorem jO{α:Type}{m:dG α}{K:α->dG h9}
  (h:aF (Md T) (A.over c fs) m (λa s'=>SX T A c (K a) fs s' P) bq s):SX T A c (m.wrap K aix gd lv) fs s P:=by
 rintro Γ p rfl td;exact dv (runs_wrap_of_wp (Φ:=λe s'=>e.quiet=true/\P e s') K aix gd lv m (h (Γ.over fs) p (td.over fs)) (λa p' s' h'=>h' Γ p' rfl td) (λx p' s' h'=>h'.elim)) λe s' hr hq=>(⟨e,s',hr,hq⟩)
noncomputable def wA(T:Wd)(n γ:B)(g:B->Prop)(sh:J<|ax×J V):J It->(ax->Prop)->ay->End->ay->Prop
 | [],bX,s0,e,s'=>match e with
  | .ret r=>r= .ok (.ret .none)/\Mv T sh g bX s0 s'/\∀(i:B) (x:de),g i->i≠γ->s'.gens[i]?=some x->x= .finished
  | .susp .. =>c7
 |it::l,bX,s0,e,s'=>match e with
  | .ret _=>c7
  | .susp v _ _ k c _ fs=>∃eK,Mv T sh g bX s0 s'/\s'.gens[γ]?=some .running/\(∀b,eK b->(bX b\/s0.heap.get? b=aA)/\∃o,s'.heap.get? b=some o)/\it.Is T bX eK s0 s' v/\
   ∀bQ,Rel T sh g eK s' bQ->∀A,cn n A->SX T A c (k<|.send .none) fs bQ (wA T n γ g sh l eK bQ)
noncomputable def Ql(T:Wd)(n γ:B)(g:B->Prop)(sh:J<|ax×J V)(items:J It)(bX:ax->Prop)(s0:ay)(c:nP)(t:dG h9)(fs:J nO)(s:ay):Prop:=
 ∀A,cn n A->SX T A c t fs s (wA T n γ g sh items bX s0)
section
variable{γ:B}{own:ax->Prop}{I:ax}
theorem rE{i:B}(h:i≠γ):(s.setGen γ x).gens[i]?=s.gens[i]?:=D (bD.getElem?_setIfInBounds_ne<|ue h) rfl
theorem u0{y:de}(h:s.gens[γ]?=some y):(s.setGen γ x).gens[γ]?=some x:=by
 have:γ<s.gens.size:=(jW.mp h).1;exact D (bD.getElem?_setIfInBounds_self_of_lt this) rfl
theorem qu:(s.setGen γ x).gens.size=s.gens.size:=bD.size_setIfInBounds ..
theorem Mv.ae4(nv:g γ)(m:Mv T sh g own s s'):Mv T sh g own s (s'.setGen γ x):=
 ⟨m.keep,m.aX,m.sh,m.top,λi y hi e=>by
  have ne:i≠γ:=λz=>hi<|z▸nv
  refine D (rE ne) ?_;exact m.gens i y hi e,by simp only[qu];exact m.size,m.os,m.drawn⟩
theorem Mv.Qm(nv:g γ)(m:Mv T sh g own (s.setGen γ x) s'):Mv T sh g own s s':=
 ⟨m.keep,m.aX,m.sh,m.top,λi y hi e=>by
  have ne:i≠γ:=λz=>hi<|z▸nv
  exact m.gens i y hi ((rE ne).trans e),by have:=m.size;rwa [qu] at this,m.os,m.drawn⟩
theorem Qo{Q:bC ak->ay->Prop}{E:ak->ay->Prop}{gs:de}{c₀:nP}{t₀:dG h9}{rF:J nO}(hh:A.handled=aA)(hl:s.heap.NoLimit)(ae5:A.depth<recursionLimit)
  (hg:s.heap.IsGen I γ) (wB:s.gens[γ]?=some gs) (nw:(gs= .fresh c₀/\t₀=denote table c₀/\rF=[])\/(∃k₀ HV HW cl,gs= .suspended k₀ HV c₀ HW rF cl/\t₀=k₀ (.send .none)))
  (x:SX T A.in1 c₀ t₀ rF (s.setGen γ .running) (λe cW=>match e with
   | .ret r=>r= .ok (.ret .none)/\∀h',(∀b o,cW.heap.get? b=some o->h'.get? b=some o)->Q aA {cW.setGen γ .finished with heap:=h'}
   | .susp v g l k c p fs=>Q (some v) (cW.setGen γ (End.susp v g l k c p fs).genState))):
  aF (Md T) A (oF<|.ref I) Q E s:=by
 refine wpAny_bind (wpAny_attempt (wpAny_callSpecial?_slot (name:=ft "__next__") hg.typeIs slot_gen_next
  (wpAny_call_entry slot_gen_next hg.typeIs entry_gen_next ?_ (args_gen_next _))))
 show aF _ _ (SW (.ref I)<|.send .none) _ _ s;refine wpAny_bind<|wpAny_holding<|wpAny_genNumber hg<|wpAny_bind<|wpAny_genState wB ?_;have go:∀(R:h9->ay->Prop) (E':ak->ay->Prop) (k:GenResult->dG h9),(∀cW:ay,(∀h':bn,(∀b o,cW.heap.get? b=some o->h'.get? b=some o)->Q aA {cW.setGen γ .finished with heap:=h'})->aF (Md T) A.in1 (k (End.ret<|.ok<|.ret .none).result) R E' (cW.setGen γ .finished))->
   (∀(v:ak) (cW:ay),Q (some v) cW->aF (Md T) A.in1 (k<|.yielded v) R E' cW)->aF (Md T) A.in1 (.resume γ (.send .none) [] k) R E' s:=λR E' k G h2 Γ p td=>
  W.X.wake_any h9 T.prog T.w (A:=A.in1) (Q:=R) (E:=E') wB (nw.imp (λh=>⟨h.1,rfl,h.2.1,h.2.2⟩) id) (λΓ=>Γ.In A.in1) (λH h=>h) (Ep x λe cW he=>by
   cases e with
   |ret r=>obtain⟨rfl,he⟩:=he;exact λΓ p td=>G cW he Γ p td
   |susp v g l k c p fs=>exact λΓ p td=>h2 v _ he Γ p td) Γ p td
 rcases nw with ⟨rfl,_⟩|⟨_,_,_,_,rfl,_⟩
 all_goals
  refine wpAny_bind<|wpAny_roomToWake hl ae5<|go _ _ _ (λcW hp=>?_) λv cW hv=>wpAny_pure ⟨v,rfl,wpAny_pure hv⟩;show aF _ _ (newExc (.type "StopIteration") [] >>= _) _ _ _;refine wpAny_bind ?_
  simp only[newExc,newTuple];refine wpAny_bind (wpAny_newObj_type ?_<|by size_fits);refine wpAny_bind (m:=firstArgMember _ _)<|wpAny_of_eq (a:=jB) (by first|rfl|(simp only[firstArgMember];rfl)) ?_;refine wpAny_newObj_type ?_ (by size_fits)
  dsimp only[raiseNew];refine wpAny_bind<|wpAny_bind<|wpAny_handled<|D (hh:A.in1.handled=aA)<|wpAny_throw<|wpAny_bind<|wpAny_isInstance (T:="StopIteration") (b:=true) ⟨_,ew _ rfl,rfl⟩ isSubtype_stop ?_;exact wpAny_pure<|hp _ λb o hb=>dD _<|dD _ hb
theorem Qp(nv:g γ)(mj:T.top.NoLimit):∀(items:J It) (own:ax->Prop) (s:ay) (gs:de) (c₀:nP) (t₀:dG h9) (rF:J nO),s.heap.IsGen I γ->¬own I->s.gens[γ]?=some gs->
  ((gs= .fresh c₀/\t₀=denote table c₀/\rF=[])\/(∃k₀ HV HW cl,gs= .suspended k₀ HV c₀ HW rF cl/\t₀=k₀ (.send .none)))->
  (∀s',Rel T sh g own s s'->Ql T n γ g sh items own (s'.setGen γ .running) c₀ t₀ rF (s'.setGen γ .running))->gq T (n+1) I sh g items (λb=>b=I\/own b) s
 | []=>λown s gs c₀ t₀ rF hg hI wB nw go=>λs' rel A Q E hA hQ=>by
  refine eR hg λob nm qn ho r=>?_
  have gD:=rel.keep I ob (.inl rfl) ho;refine Qo hA.1 (mj.keeps rel.top) hA.depth ⟨ob,nm,qn,gD,r⟩ (rel.gens γ gs nv wB) nw<|Ep (go s' (rel.weak λb h=>.inr h) A.in1 hA.in1) λe s1 he=>?_;cases e with
  |susp=>exact he.elim
  |ret r=>
   refine eh he λav mv fin=>?_
   clear he;subst av;refine⟨rfl,λh' kp=>hQ _ ?_ λi x hi e=>?_⟩
   ·have m:=mv.Qm nv;refine⟨λb o e hb hs=>kp b o<|m.keep b o e (λh=>hb<|.inr h) hs,m.aX.trans<|iB kp,λp hp=>?_,λb o e=>kp b o<|m.top b o e,λi x hi e=>?_,by show _<=(s1.setGen γ .finished).gens.size;rw[qu];exact m.size,m.os,m.drawn⟩
    ·have z:=m.sh p hp;exact aH z.there λx hx H=>(z.mono (bP _) (iB kp)<|(kp _ _ hx).trans hx.symm)
    ·have ne:i≠γ:=λz=>hi<|z▸nv;exact(rE ne).trans<|m.gens i x hi e
   ·by_cases qw:i=γ
    ·subst qw;have hs:i<(s1.setGen i .finished).gens.size:=(jW.mp e).1;rw[qu] at hs;have:=u0 (x:=.finished)<|ia hs;rw[show(s1.setGen i .finished).gens[i]?=some x from e] at this;exact cj this
    ·exact fin i x hi qw<|(rE qw).symm.trans e
 |it::l=>λown s gs c₀ t₀ rF hg hI wB nw go=>λs' rel A Q E hA hQ=>by
  refine eR hg λob nm qn ho r=>?_
  have gD:=rel.keep I ob (.inl rfl) ho;refine Qo hA.1 (mj.keeps rel.top) hA.depth ⟨ob,nm,qn,gD,r⟩ (rel.gens γ gs nv wB) nw<|Ep (go s' (rel.weak λb h=>.inr h) A.in1 hA.in1) λe s1 he=>?_;cases e with
  |ret=>exact he.elim
  |susp v gd lv k c p fs=>
   refine ug he λeK mv run dj hit cont=>?_
   have iZ:¬eK I:=λh=>by
    rcases(dj I h).1 with h|h
    ·exact hI h
    ·simp only[show s'.heap.get? I=aA from h] at gD;exact nomatch gD
   have yY:s1.heap.get? I=some ob:=by
    refine mv.keep I ob gD hI λq hq e=>dv (rel.sh q hq) λvs m z H=>?_
    simp only[e,gD] at z
    (cases cj z;clear z)
    have:=r.1;simp at this
   refine hQ v _ (λb=>b=I\/eK b) (((mv.Qm nv).ae4 nv).weak λb h=>.inr h) (λb h=>?_) ?_ ?_
   ·rcases h with h|h
    ·exact⟨.inl<|.inl h,ob,by subst h;exact yY⟩
    ·exact⟨(dj b h).1.imp .inr id,(dj b h).2⟩
   ·cases it with
    |val w=>exact hit
    |obj o=>
     refine ug hit λa av G h2 h3 h4=>?_
     clear hit;subst av;refine⟨a,rfl,G.imp .inr id,h2,λh=>?_,h4⟩;rcases h with h|h
     ·subst h;rcases G with h|h
      ·exact hI h
      ·simp only[show s'.heap.get? a=aA from h] at gD;exact nomatch gD
     ·exact h3 h
   ·refine Qp nv mj l eK _ _ c (k<|.send .none) fs ⟨ob,nm,qn,yY,r⟩ iZ (u0 run) (.inr ⟨k,_,p,_,rfl,rfl⟩) λbQ qx A' fP=>cont (bQ.setGen γ .running) ⟨qx.keep,qx.aX,qx.sh,qx.top,λi x hi e=>?_,λi x hi hs e=>?_,by have:=qx.size;rw[qu] at this ⊢;exact this,qx.os,qx.drawn⟩ A' fP
    ·by_cases qw:i=γ
     ·subst qw;simp only[run] at e;(injection e;subst_vars);exact u0<|qx.gens i _ hi<|u0 run
     ·exact(rE qw).trans<|qx.gens i x hi<|(rE qw).trans e
    ·have bJ:γ<s1.gens.size:=(jW.mp run).1;have ne:i≠γ:=by exact AK bJ hs
     exact qx.news i x hi (by refine D qu ?_;exact hs)<|(rE ne).symm.trans e
end
structure GC where
 C:Cx
 n:B
 m:B
 γ:B
 g:B->Prop
 sh:J (ax×J V)
 cy:J (B×J V)
 b:B
 low:∀p∈cy,p.1<b
 nv:g γ
structure cU(aiz:GC) where
 ext:ax->Prop
 eg:B->Prop
 Z:ay->Prop
 wC:∀s s',Rel aiz.C.toWd aiz.sh eg ext s s'->Z s->Z s'
 HX:¬eg aiz.γ
 zd:∀i,eg i->aiz.g i
noncomputable def cU.nil(aiz:GC):cU aiz:=⟨λH=>c7,λH=>c7,λH=>gC,λH H H H=>trivial,λh=>h,λH h=>h.elim⟩
noncomputable def ke(sh:J<|ax×J V)(a:ax):Prop:=∀p∈sh,p.1≠a
structure Inv(aiz:GC)(R:cU aiz)(bX:ax->Prop)(s0:ay)(ρ:J ax)(st:St)(s:ay):Prop where
 rep:Rep aiz.C ρ st s
 dO:aiz.sh=dO ρ aiz.cy
 rG:gH st.hp aiz.cy
 len:aiz.b<=U st.hp
 mv:Mv aiz.C.toWd aiz.sh aiz.g bX s0 s
 run:s.gens[aiz.γ]?=some .running
 fin:∀(i:B) (x:de),aiz.g i->i≠aiz.γ->¬R.eg i->s.gens[i]?=some x->x= .finished
 g7:∀a,(a∈ρ/\ke aiz.sh a)\/a=aiz.C.env.locals\/R.ext a->bX a\/s0.heap.get? a=aA
 ext:∀a,R.ext a->a∉ρ/\a≠aiz.C.env.locals/\∃o,s.heap.get? a=some o
 z:R.Z s
section
variable{R:cU aiz}
theorem Inv.at(I:Inv aiz R bX s0 ρ st s):∀p∈aiz.sh,p.1∈ρ/\(O.list p.2).Is aiz.C.w [] s.heap p.1/\∃j:B,ρ[j]?=some p.1/\st.hp[j]?=some (.list p.2):=by
 have:=I.rG.at I.rep;rwa [←I.dO] at this
theorem Inv.new(I:Inv aiz R bX s0 ρ st s){a:ax}(h:s.heap.get? a=aA):bX a\/s0.heap.get? a=aA:=by
 cases e:s0.heap.get? a with
 |none=>exact .inr rfl
 |some o=>
  refine .inl<|Ew λhn=>?_;have:s.heap.get? a=some o:=by
   refine I.mv.keep a o e hn λp hp q=>dv ((I.at p hp).2.1) λvs m z H=>?_
   simp only[q,h] at z;exact nomatch z
  rw[h] at this;exact nomatch this
theorem Qq{b:B}(hl:∀p∈cy,p.1<b)(hb:b<=U ρ)(hq:b<=q)(hp:ρ.take q<+:aB):dO ρ cy=dO aB cy:=by
 refine rT λp h=>?_
 have bJ:=hl p h;have G:ρ[p.1]?=some ρ[p.1]:=bO (by exact oB ‹_› ‹_›);have h2:(ρ.take q)[p.1]?=some ρ[p.1]:=by rw[JN,aU (by exact oB ‹_› ‹_›),G]
 have h3:=pS hp h2;simp only[c5,c5,G,h3]
theorem Inv.next(I:Inv aiz R bX s0 ρ st s)(N:eH aiz.C q ρ s aj aB s')(hq:aiz.b<=q)(eo:gH aj.hp aiz.cy):Inv aiz R bX s0 aB aj s':=by
 have lY:aiz.b<=U ρ:=by simp only[I.rep.led.len];exact I.len
 have e:=Qq aiz.low lY hq N.pre;have at':=eo.at N.rep;rw[←e,←I.dO] at at';have dk:∀{a},a∈aB->a∉ρ->s.heap.get? a=aA:=λh h'=>N.fresh _ h h';have old:∀b o,s0.heap.get? b=some o->¬bX b->ke aiz.sh b->b∉ρ/\b≠aiz.C.env.locals:=λb o e hb hs=>by
  refine⟨λh=>?_,λh=>?_⟩
  ·rcases I.g7 b (.inl ⟨h,hs⟩) with h|h
   ·exact hb h
   ·simp only[h] at e;exact nomatch e
  ·rcases I.g7 b (.inr<|.inl h) with h|h
   ·exact hb h
   ·simp only[h] at e;exact nomatch e
 refine⟨N.rep,I.dO.trans e,eo,?_,⟨λb o e hb hs=>?_,I.mv.aX.trans N.aX,λp hp=>(at' p hp).2.1,N.rep.led.top,λi x hi e=>N.gens.1 i x<|I.mv.gens i x hi e,cX I.mv.size N.gens.size,N.rep.led.os,N.rep.led.drawn⟩,N.gens.1 _ _ I.run,λi x G h2 h3 e=>?_,λa ha=>?_,λa ha=>?_,?_⟩
 ·have G:=JZ N.pre;rw[gA] at G;simp only[←N.rep.led.len];exact Tu G hq lY
 ·have:=old b o e hb hs;exact N.keep b o (I.mv.keep b o e hb hs) this.1 this.2
 ·by_cases hi:i<s.gens.size
  ·have e1:s.gens[i]?=some s.gens[i]:=ia hi;simp only[N.gens.1 i _ e1] at e;(have:=cj e;clear e;subst this);exact I.fin i _ G h2 h3 e1
  ·exact N.gens.2 i x (by exact iR ‹_›) e
 ·rcases ha with ⟨h,hs⟩|h|h
  ·by_cases h':a∈ρ
   ·exact I.g7 a<|.inl ⟨h',hs⟩
   ·exact I.new<|dk h h'
  ·exact I.g7 a<|.inr<|.inl h
  ·exact I.g7 a<|.inr<|.inr h
 ·refine xJ (I.ext a ha) λG h2 o h3=>⟨λh=>?_,h2,o,N.keep a o h3 G h2⟩
  simp only[dk h G] at h3;exact nomatch h3
 ·exact R.wC s s' ⟨λb o hb e=>N.keep b o e (I.ext b hb).1 (I.ext b hb).2.1,N.aX,λp hp=>(at' p hp).2.1,N.rep.led.top,λi x H e=>N.gens.1 i x e,λi x H h e=>N.gens.2 i x h e,N.gens.size,N.rep.led.os,N.rep.led.drawn⟩ I.z
noncomputable def Inv.own(aiz:GC)(R:cU aiz)(ρ:J ax)(a:ax):Prop:=(a∈ρ/\ke aiz.sh a)\/a=aiz.C.env.locals\/R.ext a
theorem Inv.lives(I:Inv aiz R bX s0 ρ st s){b:ax}(h:Inv.own aiz R ρ b):∃o,s.heap.get? b=some o:=by
 rcases h with ⟨h,_⟩|h|h
 ·exact mM (I.rep.toF.mem h) λH H ob H H H h3 H=>(⟨ob,h3⟩)
 ·subst h;exact aH I.rep.loc λm cq H=>eR cq λoL H H hL H=>(⟨oL,hL⟩)
 ·exact(I.ext b h).2.2
theorem Inv.resume(I:Inv aiz R bX s0 ρ st s)(r:Rel aiz.C.toWd aiz.sh aiz.g (Inv.own aiz R ρ) s bQ):Inv aiz R (Inv.own aiz R ρ) bQ ρ st bQ:=by
 have L:=I.rep.led;refine⟨⟨?_,⟨L.len,λk o a e q=>?_,L.nodup,L.fB,L.low,L.gQ,r.top,r.os,r.drawn⟩⟩,I.dO,I.rG,I.len,⟨λH H e H H=>e,bF.refl _,r.sh,r.top,λH H H e=>e,aG _,r.os,r.drawn⟩,r.gens _ _ aiz.nv I.run,λi x G h2 h3 e=>?_,λa h=>.inl h,λa ha=>?_,R.wC s bQ ⟨λb o hb e=>r.keep b o (.inr<|.inr hb) e,r.aX,r.sh,r.top,λi x hi e=>r.gens i x (R.zd i hi) e,λi x hi h e=>r.news i x (R.zd i hi) h e,r.size,r.os,r.drawn⟩ I.z⟩
 ·refine aH I.rep.loc λm bT hm=>?_
  exact⟨m,mi bT λo e=>r.keep _ o (.inr<|.inl rfl) e,λx v e=>by obtain⟨y,hy,q⟩:=hm x v e;exact⟨y,hy,q.mono (bP _) r.aX⟩⟩
 ·have z:=L.objs k o a e q
  by_cases hs:ke aiz.sh a
  ·exact aH z.there λx hx H=>(z.mono (bP _) r.aX<|(r.keep a x (.inl ⟨dT q,hs⟩) hx).trans hx.symm)
  ·unfold ke at hs;simp only[KY,xG] at hs;obtain⟨p,hp,rfl⟩:=hs;refine EI (I.at p hp) λH H j s8 kb=>?_
   rw[pU L.nodup s8 q,e] at kb
   (have:=cj kb;clear kb;subst this)
   exact dv (r.sh p hp) λvs k z1 z2=>(⟨vs,k,z1,z2.mono xg<|bF.refl _⟩)
 ·by_cases hi:i<s.gens.size
  ·have e1:s.gens[i]?=some s.gens[i]:=ia hi;simp only[r.gens i _ G e1] at e;(have:=cj e;clear e;subst this);exact I.fin i _ G h2 h3 e1
  ·exact r.news i x G (by exact iR ‹_›) e
 ·exact xJ (I.ext a ha) λG h2 o h3=>(⟨G,h2,o,r.keep a o (.inr<|.inr ha) h3⟩)
end
noncomputable def wD(n m:B)(c:nP)(fs:J nO):Prop:=(∀A,cn n A->cn m (A.over c fs))/\splitAtGen fs=aA/\fs.any D2=false
noncomputable abbrev GC.Seg(aiz:GC)(items:J It)(bX:ax->Prop)(s0:ay)(c:nP)(t:dG h9)(fs:J nO)(s:ay):Prop:=Ql aiz.C.toWd aiz.n aiz.γ aiz.g aiz.sh items bX s0 c t fs s
noncomputable def Qr(aiz:GC)(R:cU aiz)(q:B)(ρ:J ax)(K:mK->dG h9)(c:nP)(fs:J nO)(Φ:Fl->J It->St->Prop):Prop:=
 ∀fl items st bX s0 aB s aiA,Φ fl items st->ρ.take q<+:aB->Inv aiz R bX s0 aB st s->fl.Is aB s.heap aiA->aiz.Seg items bX s0 c (K aiA) fs s
noncomputable def wE(aiz:GC)(R:cU aiz)(q:B)(t:dG mK)(st:St)(items:J It)(Φ:Fl->J It->St->Prop):Prop:=
 ∀(c:nP) (fs:J nO) (K:mK->dG h9) (aix:ak->dG h9) (gd:bb->bb) (lv:J ak->J ak) (ρ:J ax),wD aiz.n aiz.m c fs->gd false=false->Qr aiz R q ρ K c fs Φ->
  ∀bX s0 s,Inv aiz R bX s0 ρ st s->aiz.Seg items bX s0 c (t.wrap K aix gd lv) fs s
@[irreducible] noncomputable def XG(aiz:GC)(R:cU aiz)(q:B)(ss:J fq)(st:St)(items:J It)(Φ:Fl->J It->St->Prop):Prop:=wE aiz R q (mJ ss aiz.C.env) st items Φ
theorem XG.mk{R:cU aiz}(run:wE aiz R q (mJ ss aiz.C.env) st items Φ):XG aiz R q ss st items Φ:=by with_unfolding_all exact run
theorem XG.run{R:cU aiz}(h:XG aiz R q ss st items Φ):wE aiz R q (mJ ss aiz.C.env) st items Φ:=by with_unfolding_all exact h
@[irreducible] noncomputable def dP(aiz:GC)(R:cU aiz)(q:B)(a:fq)(st:St)(items:J It)(Φ:Fl->J It->St->Prop):Prop:=wE aiz R q (exec a aiz.C.env) st items Φ
theorem dP.mk{R:cU aiz}(run:wE aiz R q (exec a aiz.C.env) st items Φ):dP aiz R q a st items Φ:=by with_unfolding_all exact run
theorem dP.run{R:cU aiz}(h:dP aiz R q a st items Φ):wE aiz R q (exec a aiz.C.env) st items Φ:=by with_unfolding_all exact h
section
variable{R:cU aiz}
theorem jb(h:Φ .next items st):XG aiz R q [] st items Φ:=.mk λc fs K aix gd lv ρ hf hg ht bX s0 s I=>ht .next items st bX s0 ρ s .next h (pG ..) I rfl
noncomputable abbrev kG(aiz:GC)(R:cU aiz)(q:B)(r:J fq)(Φ:Fl->J It->St->Prop):Fl->J It->St->Prop:=λfl bN aj=>match fl with| .next=>XG aiz R q r aj bN Φ|fl=>Φ fl bN aj
noncomputable abbrev kB(I:J It->St->Prop):Fl->J It->St->Prop:=λfl jP ce=>match fl with| .next| .cont=>I jP ce|_=>c7
noncomputable abbrev kM(I:J It->St->Prop)(Φ:Fl->J It->St->Prop):Fl->J It->St->Prop:=λfl jP ce=>match fl with| .next| .cont=>I jP ce| .brk=>Φ .next jP ce| .ret w=>Φ (.ret w) jP ce
theorem ig{r:J fq}(h:dP aiz R q a st items<|kG aiz R q r Φ):XG aiz R q (a::r) st items Φ:=.mk λc fs K aix gd lv ρ hf hg ht bX s0 s I=>by
 refine D (execs_cons_wrap _ _)<|h.run c fs _ aix gd lv ρ hf hg (λfl bN aj ff s1 aB s' aiA iK hp I' kH=>?_) bX s0 s I;cases fl with
 |next=>
  obtain rfl:aiA= .next:=kH;exact iK.run c fs K aix gd lv aB hf hg (λfl bN aj ff s1 mf s' aiA G h2=>ht fl bN aj ff s1 mf s' aiA G<|pV hp h2) ff s1 s' I'
 |brk=>obtain rfl:aiA= .brk:=kH;exact ht .brk bN aj ff s1 aB s' _ iK hp I' rfl
 |cont=>obtain rfl:aiA= .cont:=kH;exact ht .cont bN aj ff s1 aB s' _ iK hp I' rfl
 |ret v=>obtain⟨x,rfl,hv⟩:=kH;exact ht (.ret v) bN aj ff s1 aB s' _ iK hp I' ⟨x,rfl,hv⟩
theorem dP.lift{Kx:Fl->St->Prop}(hq:aiz.b<=q)(h:X1 aiz.C aiz.m q a st Kx)(hk:∀fl aj,Kx fl aj->gH aj.hp aiz.cy/\Φ fl items aj):dP aiz R q a st items Φ:=.mk λc fs K aix gd lv ρ hf hg ht bX s0 s I A hA=>
 jO (h.run (A.over c fs) s ρ _ (hf.1 A hA) I.rep λaB fl aiA aj s' hK N kH=>ht fl items aj bX s0 aB s' aiA (hk fl aj hK).2 N.pre (I.next N hq (hk fl aj hK).1) kH A hA)
theorem dP.mono{u2:Fl->J It->St->Prop}(h:dP aiz R q a st items u2)(hk:∀fl bN aj,u2 fl bN aj->Φ fl bN aj):dP aiz R q a st items Φ:=.mk λc fs K aix gd lv ρ hf hg ht=>h.run c fs K aix gd lv ρ hf hg λfl bN aj ff s1 aB s' aiA iK=>ht fl bN aj ff s1 aB s' aiA<|hk fl bN aj iK
theorem dP.if{t:bB}{orelse:J fq}(b:bb)(hq:aiz.b<=q)(G:TV aiz.C aiz.m t st b am)(hs:gH am.hp aiz.cy)(ht:b=true->XG aiz R q body am items Φ)(hf:b=false->XG aiz R q orelse am items Φ):dP aiz R q (.If t body orelse p) st items Φ:=.mk λc fs K aix gd lv ρ jc hg eU bX s0 s I A hA=>by
 rw[arm_exec_If,jU,jA];refine jO<|wpAny_standAt ?_;simp only[jU,jA];refine jO<|G.run (A.over c fs) s ρ _ (jc.1 A hA) I.rep λaB s' N=>?_;have I':=I.next (N.toS (p:=q)) hq hs;have Qt:Qr aiz R q aB K c fs Φ:=λfl bN aj ff s1 mf s' aiA G h2=>eU fl bN aj ff s1 mf s' aiA G<|pV (N.toS (p:=q)).pre h2;cases b with
 |true=>exact(ht rfl).run c fs K aix gd lv aB jc hg Qt bX s0 s' I' A hA
 |false=>exact(hf rfl).run c fs K aix gd lv aB jc hg Qt bX s0 s' I' A hA
theorem Qu(jc:splitAtGen fs=aA)(hfg:fs.any D2=false)(hgd:gd false=false)
  (h:aF (Md T) (A.over c fs) (eval e env) (λv s'=>∀(l:J ak) (k:Resume->dG h9) p,k (.send .none)=K .next->P (.susp v false l k c p fs) s') bq s) (bo:aO (env.scope.isCoroutine=false) a8) (hi:aO (interactive env=false) a8):
  SX T A c ((exec (.Expr (.Yield (some e) wz) pos) env).wrap K aix gd lv) fs s P:=by
 refine D (exec_Expr env _ pos hi rfl) ?_
 have hy:∀v,yieldOut env v=yieldValue v:=λv=>by simp only[yieldOut,bo,As,xn]
 show SX T A c (.at pos λH=>((eval e env >>= λv=>(nK wz >>= λH=>yieldOut env v)) >>= λx=>dropValue (.Yield (some e) wz) pos x).wrap K aix gd lv) fs s P;simp only[hy];refine jO (m:=nK pos) (gd:=id) (lv:=id) (aix:=.raise) (K:=λH=>_)<|wpAny_standAt ?_;rw[jU,jU,jA,jA];refine jO<|wpAny_mono h (λv s' h'=>(jO (m:=nK wz) (gd:=id) (lv:=id) (aix:=.raise) (K:=λH=>_)<|wpAny_standAt ?_)) λH H x=>x.elim;show SX T A c (.yield v (gd false) _ _) fs s' P;exact D hgd<|W.X.s_yield T.prog T.w A c fs P s' v _ _ jc hfg λp=>h' _ _ p rfl
theorem dP.Cd{v:V}(hq:aiz.b<=q)(G:EV aiz.C aiz.m e st v am)(hv:v.bG (λH=>false)=true)(hs:gH am.hp aiz.cy)(iK:Φ .next rest am)(bo:aO (aiz.C.env.scope.isCoroutine=false) a8)(hi:aO (interactive aiz.C.env=false) a8):
  dP aiz R q (.Expr (.Yield (some e) wz) pos) st (.val v::rest) Φ:=.mk λc fs K aix gd lv ρ jc hg ht bX s0 s I A hA=>by
 refine Qu jc.2.1 jc.2.2 hg (G.run (A.over c fs) s ρ _ (jc.1 A hA) I.rep λaB x s' N iv=>?_) bo hi;intro l k p hk;have I':=I.next (N.toS (p:=q)) hq hs;refine⟨Inv.own aiz R aB,I'.mv,I'.run,λb hb=>⟨I'.g7 b hb,I'.lives hb⟩,iv.ww hv,λbQ r A' fP=>?_⟩;simp only[hk];exact ht .next rest am _ bQ aB bQ .next iK (N.toS (p:=q)).pre (I'.resume r) rfl A' fP
theorem Inv.dropLast(I:Inv aiz R bX s0 ρ ⟨l,hp++[o]⟩ s)(hc:gy hp)(hl:∀x v,l'.lookup x=some v->l.lookup x=some v/\v.bG (λk=>decide (k<U hp))=true)(hb:aiz.b<=U hp):
  ∃fO a,ρ=fO++[a]/\Inv aiz R bX s0 fO ⟨l',hp⟩ s/\(o.bG (λH=>false)=true->o.Is aiz.C.w [] s.heap a)/\a∉fO/\ke aiz.sh a/\aiz.C.top.objs.size<=a/\U fO=U hp:=by
 have L:=I.rep.led;have hlen:U ρ=U hp+1:=by simp only[L.len,aK];rfl
 rcases rR ρ with rfl|⟨fO,a,rfl⟩
 ·exact nomatch hlen
 rw[rS] at*;have h0:U fO=U hp:=by rw[aK] at hlen;simpa using hlen
 have ko:=mF.mp L.nodup;have na:a∉fO:=λh=>ko.2.2 a h a (bw.mpr rfl) rfl;have atl:(fO++[a])[U hp]?=some a:=by simp only[←h0,dc<|aG _,fF];rfl
 have cf:∀k b,decide (k<U hp)=true->(fO++[a])[k]?=some b->fO[id k]?=some b:=λk b hk e=>by
  have hk:=dq hk;simp only[cA<|me hk h0] at e;exact e
 have Ce:Mine.Internal.dO (fO++[a]) aiz.cy=Mine.Internal.dO fO aiz.cy:=by
  refine rT λp h=>?_
  have:=aiz.low p h;simp only[c5,c5,cA<|LB this h0 hb]
 have eo:gH hp aiz.cy:=λp h=>by
  have:=I.rG p h;have lt:=aiz.low p h;simp only[cA<|by exact oB ‹_› ‹_›] at this;exact this
 have bT:ke aiz.sh a:=λp h e=>by
  simp only[I.dO,Ce] at h;refine aH (fa.mp h) λr hr av=>?_
  subst av;have lt:=aiz.low r hr;refine na<|bL e ?_;simp only[c5,bO<|LB lt h0 hb];exact nE _
 refine⟨fO,a,rfl,⟨⟨?_,⟨h0,λk o' b e q=>?_,ko.1,λh=>L.fB<|bK.mpr<|.inl h,λb h=>L.low b<|bK.mpr<|.inl h,L.gQ,L.top,L.os,L.drawn⟩⟩,I.dO.trans Ce,eo,hb,I.mv,I.run,I.fin,λb h=>I.g7 b<|h.imp (λh=>⟨bK.mpr<|.inl h.1,h.2⟩) id,λb h=>⟨λh'=>(I.ext b h).1<|bK.mpr<|.inl h',(I.ext b h).2⟩,I.z⟩,λho=>?_,na,bT,L.low a<|bK.mpr<|.inr<|bw.mpr rfl,h0⟩
 ·refine aH I.rep.loc λm bT hm=>⟨m,bT,λx v e=>(xA (hl x v e) λG h2=>aH (hm x v G) λy hy z=>?_)⟩
  have z2:=z.cf (aiA:=id) cf h2;rw[V.jC (aiA:=id) (λH H=>rfl) h2] at z2;exact⟨y,hy,z2⟩
 ·have hk:k<U hp:=(cJ.mp e).1;have z:=L.objs k o' b (by refine D (cA hk) ?_;exact e) (by refine D (cA<|me hk h0) ?_;exact q);have hi:=hc o'<|dT e;have z2:=z.cf (aiA:=id) cf hi;rw[O.jC (aiA:=id) (λH H=>rfl) hi] at z2;exact z2
 ·have z:=L.objs (U hp) o a (by simp only[dc<|aG _,fF];rfl) atl;have z2:=z.cf (aB:=[]) (aiA:=id) (g:=λH=>false) (λH H h=>by exact aY h dy) ho;rwa [O.jC (aiA:=id) (λH H=>rfl) ho] at z2
theorem dP.HY(hq:aiz.b<=q)(wF:q<=U hp)(G:EV aiz.C aiz.m e st (.ref<|U hp) ⟨l,hp++[o]⟩)(ho:o.bG (λH=>false)=true)(hc:gy hp)(hl:∀x v,l'.lookup x=some v->l.lookup x=some v/\v.bG (λk=>decide (k<U hp))=true)(hs:gH (hp++[o]) aiz.cy)
  (iK:Φ .next rest ⟨l',hp⟩) (bo:aO (aiz.C.env.scope.isCoroutine=false) a8) (hi:aO (interactive aiz.C.env=false) a8):
  dP aiz R q (.Expr (.Yield (some e) wz) pos) st (.obj o::rest) Φ:=.mk λc fs K aix gd lv ρ jc hg ht bX s0 s I A hA=>by
 refine Qu jc.2.1 jc.2.2 hg (G.run (A.over c fs) s ρ _ (jc.1 A hA) I.rep λaB x s' N iv=>?_) bo hi;intro lv' k p hk;have I1:=I.next (N.toS (p:=q)) hq hs;refine pR (I1.dropLast hc hl<|by exact cX ‹_› ‹_›) λfO a bE I' io na bR=>?_
 subst bE;refine eh bR λbT rD h0=>aH iv λa' rp av=>?_
 clear iv;subst av;have:a'=a:=by
  rw[←h0,dc<|aG _,fF] at rp;exact(cj rp).symm
 subst this;have mem:a'∈fO++[a']:=bK.mpr<|.inr<|bw.mpr rfl;refine⟨Inv.own aiz R fO,I'.mv,I'.run,λb hb=>⟨I'.g7 b hb,I'.lives hb⟩,⟨a',rfl,I1.g7 a'<|.inl ⟨mem,bT⟩,rD,λh=>?_,io ho⟩,λbQ r A' fP=>?_⟩
 ·rcases h with h|h|h
  ·exact na h.1
  ·exact I1.rep.led.fB<|h▸mem
  ·exact(I1.ext a' h).1 mem
 ·simp only[hk];refine ht .next rest _ _ bQ fO bQ .next iK ?_ (I'.resume r) rfl A' fP
  have wG:=(N.toS (p:=q)).pre;refine xE wG λt ht=>?_
  have lY:U (ρ.take q)<=U fO:=by exact D gA<|Tv h0 wF
  exact J.prefix_of_prefix_length_le ⟨t,ht⟩ (gK ..) lY
end
noncomputable def kI(env:Env)(K:mK->dG h9)(aix:ak->dG h9)(gd:bb->bb)(lv:J ak->J ak)(c:nP)(p:cN):nO:=
 .ret (λr=>((match r with| .ok aiA=>(.pure aiA:dG mK)| .error e=>.raise e).onRaise λ(x:ak)=>do
    if(←field x 1)==jB then unsupported "frame.own-activation:exception-without-traceback"
    setFlight x env.frame).wrap K aix gd lv) none (gd false) (lv []) c p []
theorem wD.loop(h:wD n m c fs)(hg:gd false=false)
  (hw:c'.weight=0) (hu:c'.cUnits=0):wD n m c' (kI env K aix gd lv c p::fs):=by
 refine eh h λG h2 h3=>⟨λA hA=>?_,by simp[kI,splitAtGen,h2],by simp[kI,D2,h3,hg]⟩
 refine eh (G A hA) λr1 r2 r3=>⟨r1,?_,?_⟩
 ·have:(A.over c'<|kI env K aix gd lv c p::fs).depth=(A.over c fs).depth:=by
   simp only[Kp,eu,kI,Ar,frameCount_cons,hw];exact LE
  exact D this r2
 ·have:(A.over c'<|kI env K aix gd lv c p::fs).units=(A.over c fs).units:=by
   simp only[Kp,eu,kI,Ar,hu];show A.units+(c.cUnits+unitsOf (fs.map Ar))+0=A.units+unitsOf (fs.map Ar)+c.cUnits;exact LE
  exact D this r3
noncomputable def cU.it(R:cU aiz)(own:J ax)(At:bn->Prop)(rH:∀h h',At h->(∀a∈own,∀o,h.get? a=some o->h'.get? a=some o)->bF h h'->At h'):cU aiz where
 ext a:=R.ext a\/a∈own
 eg:=R.eg
 Z s:=R.Z s/\At s.heap
 wC s s' r h:=⟨R.wC s s' (r.weak λb h=>.inl h) h.1,rH _ _ h.2 (λa ha o e=>r.keep a o (.inr ha) e) r.aX⟩
 HX:=R.HX
 zd:=R.zd
section
variable{R:cU aiz}
theorem Cf{aiA:mK}
  (h:SX T A c (K aiA) fs s P):SX T A c' (.pure<|.done aiA) (kI env K aix gd lv c p::fs) s P:=
 W.X.s_pop T.prog T.w A c' fs P s (.ok aiA) _ rfl _ none (gd false) (lv []) c p [] h
theorem Qv
  (h:SX T A (.block [] env) (.pure<|.done .next) fs s P):SX T A c' (.pure<|.again<|.block [] env) fs s P:=
 xz T.prog T.w A c' fs P s (.block [] env) rfl h
end
section
variable{R:cU aiz}
theorem Inv.take{own:J ax}{rH}(I:Inv aiz R bX s0 ρ st s)(G:∀a∈own,a∉ρ/\a≠aiz.C.env.locals/\(bX a\/s0.heap.get? a=aA)/\∃o,s.heap.get? a=some o)(h:At s.heap):Inv aiz (R.it own At rH) bX s0 ρ st s:=
 ⟨I.rep,I.dO,I.rG,I.len,I.mv,I.run,I.fin,λa ha=>by
  rcases ha with ha|ha|ha|ha
  ·exact I.g7 a<|.inl ha
  ·exact I.g7 a<|.inr<|.inl ha
  ·exact I.g7 a<|.inr<|.inr ha
  ·exact(G a ha).2.2.1,λa ha=>by
  rcases ha with ha|ha
  ·exact I.ext a ha
  ·exact⟨(G a ha).1,(G a ha).2.1,(G a ha).2.2.2⟩,⟨I.z,h⟩⟩
theorem Inv.leave{own:J ax}{rH}(I:Inv aiz (R.it own At rH) bX s0 ρ st s):Inv aiz R bX s0 ρ st s:=
 ⟨I.rep,I.dO,I.rG,I.len,I.mv,I.run,I.fin,λa ha=>I.g7 a<|ha.imp id<|.imp id .inl,λa ha=>I.ext a<|.inl ha,I.z.1⟩
theorem Inv.Qw{own:J ax}{rH}(I:Inv aiz (R.it own At rH) bX s0 ρ st s)(u3:∀a∈own,¬R.ext a)(jp:∀a∈own,aiz.C.top.get? a=aA){h':bn}{t:B}
  (ext:jE own s.heap h') (aX:bF s.heap h'):Inv aiz R bX s0 ρ st {s with heap:=h',toks:=t}:=by
 have ho:∀a∈own,a∉ρ/\a≠aiz.C.env.locals/\aiz.C.top.get? a=aA:=λa ha=>⟨(I.ext a<|.inr ha).1,(I.ext a<|.inr ha).2.1,jp a ha⟩
 have rep:=I.rep.own ho ext aX t;have ze:=I.rG.at rep;rw[←I.dO] at ze;refine⟨rep,I.dO,I.rG,I.len,⟨λb o e hb hs=>?_,I.mv.aX.trans aX,λp hp=>(ze p hp).2.1,rep.led.top,I.mv.gens,I.mv.size,I.mv.os,I.mv.drawn⟩,I.run,I.fin,λa ha=>I.g7 a<|ha.imp id<|.imp id .inl,λa ha=>?_,R.wC s _ ⟨λb o hb e=>ext b o (λh=>u3 b h hb) e,aX,λp hp=>(ze p hp).2.1,rep.led.top,λi x H e=>e,λi x H h e=>aY (jW.mp e).1<|iT.mpr h,aG _,rep.led.os,rep.led.drawn⟩ I.z.1⟩
 ·refine ext b o (λh=>?_)<|I.mv.keep b o e hb hs;rcases I.g7 b (.inr<|.inr<|.inr h) with h|h
  ·exact hb h
  ·rw[h] at e;cases e
 ·exact xJ (I.ext a<|.inl ha) λG h2 o h3=>(⟨G,h2,o,ext a o (λh=>u3 a h ha) h3⟩)
theorem Inv.step{own:J ax}{Qx:bn->Prop}{rH ae6}(I:Inv aiz (R.it own At rH) bX s0 ρ st s)(u3:∀a∈own,¬R.ext a)(jp:∀a∈own,aiz.C.top.get? a=aA){h':bn}{t:B}
  (at':Qx h') (hex:∀a∈own,∃o,h'.get? a=some o) (ext:jE own s.heap h') (aX:bF s.heap h'):Inv aiz (R.it own Qx ae6) bX s0 ρ st {s with heap:=h',toks:=t}:=
 (I.Qw u3 jp ext aX).take (λa ha=>⟨(I.ext a<|.inr ha).1,(I.ext a<|.inr ha).2.1,I.g7 a<|.inr<|.inr<|.inr ha,hex a ha⟩) at'
theorem te{m:dG α}{Q Q':α->ay->Prop}(h:aF (Md T) A m Q bq s)(hq:∀a s',Q a s'->Q' a s'):aF (Md T) A m Q' bq s:=wpAny_mono h hq λH H h=>h
section
variable{target:bB}{it:ak}
theorem Cg{tf:J nO}
  (h:aF (Md T) (A.over (.forLoop target it body [] env) tf) (oF it) (λr s'=>match r with
   |Option.none=>SX T A (.forLoop target it body [] env) (.pure<|.again<|.block [] env) tf s' P
   |some x=>aF (Md T) (A.over (.forLoop target it body [] env) tf) (xr target it x) (λH s1=>aF (Md T) (A.over (.forLoop target it body [] env) tf) (assign target env x) (λH s2=>
     ∀(K2:mK->dG h9) (H2:ak->dG h9),(∀aiA,K2 aiA=match aiA with
      | .next| .cont=>.pure<|.again<|.forLoop target it body [] env
      | .brk=>.pure<|.done .next
      | .ret v=>.pure (.done (.ret v)))->SX T A (.forLoop target it body [] env) ((mJ body env).wrap K2 H2 id id) tf s2 P) bq s1) bq s') bq s):
  SX T A (.forLoop target it body [] env) (denote table<|.forLoop target it body [] env) tf s P:=by
 show SX T A _ ((forTurn target it body [] env).onRaise (λx=>do noteFrame x env;theTreesLotGoes x)) tf s P;unfold forTurn;rw[D0,jU,jA];refine jO<|wpAny_standAt ?_;rw[jU,jA,D0,jA];refine jO<|te h λr s' hr=>?_;cases r with
 |none=>exact hr
 |some x=>
  show SX T A _ ((xr target it x >>= λH=>_).wrap _ _ _ _) tf s' P;rw[jU,jA];refine jO<|te hr λH s1 G=>?_;rw[jU,jA];refine jO<|te G λH s2 h2=>?_;rw[jU,jA];refine h2 _ _ λaiA=>?_
  cases aiA<;>rfl
end
end
section
variable{R:cU aiz}
theorem eH.Ci{p:B}{eX:J ax}(N:eH C p ρ s aj aB s')(h:aB.take p<+:eX):ρ.take p<+:eX:=pV N.pre h
theorem dP.for{target iter:bB}{items:J V}{aiw:St->Prop}{lo:B}{out:J It}(r:B)(L:B->J It->St->Prop)
  (G:gS aiz.C aiz.m target iter st am items aiw lo) (wn:gH am.hp aiz.cy) (zf:aiz.b<=q) (h0:L 0 out am) (hD:∀i bN aj,i<=U items->L i bN aj->aiw aj) (kr:lo<=r) (hq:q<=r)
  (iX:∀(R':cU aiz) i aiy bN aj,items[i]?=some aiy->L i bN aj->∃ba,c8 aiz.C aiz.m target aiy aj ba/\gH ba.hp aiz.cy/\XG aiz R' r body ba bN (kM (L<|i+1) Φ))
  (sx:∀bN aj,L (U items) bN aj->Φ .next bN aj)
  (hs:aO (∀x,pK iter aiz.C.env x=pure x) aI._auto_1):
  dP aiz R q (.For target iter body [] pos) st out Φ:=.mk λc fs K aix gd lv ρ jc hg eU bX s0 s I A hA=>by
 rw[exec_For];rw[jU,jA];refine jO<|wpAny_standAt ?_;simp only[hs];rw[jU,jA];refine jO<|te (G.run (A.over c fs) s ρ (λit s2=>SX aiz.C.toWd A c ((runOwn (.forLoop target it body [] aiz.C.env) aiz.C.env).wrap K aix gd lv) fs s2<|wA aiz.C.toWd aiz.n aiz.γ aiz.g aiz.sh out bX s0) (jc.1 A hA) I.rep λaC it own At s2 uA cO dj iY=>?_) λx s1 h=>?_
 rotate_left
 ·show SX aiz.C.toWd A c ((nK iter.pos >>= λH=>holding [x] (oG x) >>= λH=>_).wrap _ _ _ _) fs s1 _;rw[jU,jA];refine jO<|wpAny_standAt ?_;rw[jU,jA];exact jO<|wpAny_holding h
 have hit:=uA r kr;have qp:aiz.b<=U am.hp:=(I.next iY.toS zf wn).len;have I2:=I.next (q:=q) iY.toS zf wn;have jp:∀a∈own,aiz.C.top.get? a=aA:=λa ha=>by
  cases e:aiz.C.top.get? a with
  |none=>rfl
  |some o=>have:=I.rep.led.top a o e;rw[(dj a ha).2] at this;cases this
 have lJ:∀a∈own,a≠aiz.C.env.locals:=λa ha e=>by
  subst e;refine aH I.rep.loc λm cq H=>eR cq λoL H H hL H=>?_
  rw[(dj _ ha).2] at hL;cases hL
 have u3:∀a∈own,¬R.ext a:=λa ha h=>by
  refine xJ (I.ext a h) λH H o h3=>?_
  rw[(dj a ha).2] at h3;cases h3
 have Ii:∀{i:B} {aB:J ax} {aj:St} {ff s1 s'},Inv aiz (R.it own (At i)<|hit.1 i) ff s1 aB aj s'->∀a∈own,a∉aB/\a≠aiz.C.env.locals/\aiz.C.top.get? a=aA:=λI' a ha=>
  ⟨(I'.ext a<|.inr ha).1,lJ a ha,jp a ha⟩
 refine W.X.s_call aiz.C.prog aiz.C.w A c fs _ s2 (.forLoop target it body [] aiz.C.env) aA (gd false) (lv []) _ λp=>?_
 have rI:wD aiz.n aiz.m (.forLoop target it body [] aiz.C.env) (kI aiz.C.env K aix gd lv c p::fs):=jc.loop hg rfl rfl;have main:∀(k i:B) (bN:J It) (aj:St) (ff:ax->Prop) (s1 s':ay) (aB:J ax),i+k=U items->L i bN aj->ρ.take q<+:aB->aC.take r<+:aB->Inv aiz (R.it own (At i)<|hit.1 i) ff s1 aB aj s'->
   aiz.Seg bN ff s1 (.forLoop target it body [] aiz.C.env) (denote table<|.forLoop target it body [] aiz.C.env) (kI aiz.C.env K aix gd lv c p::fs) s':=by
  intro k
  induction k with
  |zero=>
   intro i bN aj ff s1 s' aB hk hL rJ u4 I' A' fP
   refine Cg (te (hit.2.2 i (A'.over _ _) s' aB aj (λs3=>SX aiz.C.toWd A' (.forLoop target it body [] aiz.C.env) (.pure (.again (.block [] aiz.C.env))) (kI aiz.C.env K aix gd lv c p::fs) s3 (wA aiz.C.toWd aiz.n aiz.γ aiz.g aiz.sh bN ff s1)) (λH H=>c7)
     (rI.1 A' fP) I'.rep u4 (hD i bN aj (Tz hk) hL) I'.z.2 (Ii I') ?_ ?_) λrr s3 h=>?_)
   ·intro v hv;have:=(cJ.mp hv).1;exact(Ty hk this).elim
   ·intro hn h' t ext aX;have Ix:=Inv.Qw (t:=t) I' u3 jp ext aX;have hi:i=U items:=by assumption
    subst hi;exact Qv<|Cf<|eU .next bN aj ff s1 aB _ .next (sx bN aj hL) rJ Ix rfl A' fP
   ·cases rr with
    |none=>exact h
    |some y=>exact te h λH H h=>h.elim
  |succ k ih=>
   intro i bN aj ff s1 s' aB hk hL rJ u4 I' A' fP
   refine Cg (te (hit.2.2 i (A'.over _ _) s' aB aj (λH=>c7) (λy s3=>aF (Md aiz.C.toWd) (A'.over (.forLoop target it body [] aiz.C.env) (kI aiz.C.env K aix gd lv c p::fs)) (assign target aiz.C.env y) (λH s2=>
     ∀(K2:mK->dG h9) (H2:ak->dG h9),(∀aiA,K2 aiA=match aiA with
      | .next| .cont=>.pure<|.again<|.forLoop target it body [] aiz.C.env
      | .brk=>.pure<|.done .next
      | .ret v=>.pure (.done (.ret v)))->SX aiz.C.toWd A' (.forLoop target it body [] aiz.C.env) ((mJ body aiz.C.env).wrap K2 H2 id id) (kI aiz.C.env K aix gd lv c p::fs) s2 (wA aiz.C.toWd aiz.n aiz.γ aiz.g aiz.sh bN ff s1)) bq s3)
     (rI.1 A' fP) I'.rep u4 (hD i bN aj (Tx hk) hL) I'.z.2 (Ii I') ?_ ?_) λrr s3 h=>?_)
   ·intro aiy hu y h' t at' ext aX iy;refine cP (iX (R.it own (At (i+1)) (hit.1 (i+1))) i aiy bN aj hu hL) λba yd HZ hB=>?_
    have I3:Inv aiz (R.it own (At<|i+1)<|hit.1<|i+1) ff s1 aB aj {s' with heap:=h',toks:=t}:=Inv.step I' u3 jp at' (hit.2.1 (i+1) h' at') ext aX;refine yd.run (A'.over _ _) _ aB y _ (rI.1 A' fP) I3.rep iy λdp s3 N3 K2 H2 rc=>?_
    have I4:=I3.next (q:=q) N3.toS zf HZ;refine hB.run (.forLoop target it body [] aiz.C.env) (kI aiz.C.env K aix gd lv c p::fs) K2 H2 id id dp rI rfl (λfl jP hO u5 s4 eX s5 aiA iK zg I5 kH=>?_) ff s1 s3 I4 A' fP;have pq:ρ.take q<+:eX:=pV rJ<|xj (w7 hq)<|(N3.toS (p:=r)).Ci zg;have pr:aC.take r<+:eX:=pV u4<|(N3.toS (p:=r)).Ci zg;intro A5 u6;refine D (rc _) ?_
    cases fl with
    |next=>obtain rfl:aiA= .next:=kH;exact xz _ _ _ _ _ _ _ _ rfl<|ih (i+1) jP hO u5 s4 s5 eX (xN hk) iK pq pr I5 A5 u6
    |cont=>obtain rfl:aiA= .cont:=kH;exact xz _ _ _ _ _ _ _ _ rfl<|ih (i+1) jP hO u5 s4 s5 eX (xN hk) iK pq pr I5 A5 u6
    |brk=>obtain rfl:aiA= .brk:=kH;exact Cf<|eU .next jP hO u5 s4 eX s5 .next iK pq I5.leave rfl A5 u6
    |ret w=>obtain⟨z,rfl,hz⟩:=kH;exact Cf<|eU (.ret w) jP hO u5 s4 eX s5 _ iK pq I5.leave ⟨z,rfl,hz⟩ A5 u6
   ·intro hn;have:=ot.mp hn;exact(Tw hk this).elim
   ·cases rr with
    |none=>exact h.elim
    |some y=>exact h
 exact main (U items) 0 out am bX s0 s2 aC (tQ _ _) h0 iY.toS.pre (pG ..) (I2.take (λa ha=>⟨(dj a ha).1,lJ a ha,I.new (dj a ha).2,hit.2.1 0 s2.heap cO a ha⟩) cO) A hA
end
noncomputable def cU.feed(aiz:GC)(n:B)(I:ax)(N:B)(hN:aiz.γ<N)(hG:∀i,N<=i->aiz.g i)(l:J It)(own:ax->Prop):cU aiz where
 ext:=own
 eg i:=N<=i
 Z s:=N<=s.gens.size/\gq aiz.C.toWd n I aiz.sh (λi=>N<=i) l own s
 wC s s' r h:=⟨cX h.1 r.size,h.2.rel r⟩
 HX h:=aY h<|vH.mpr hN
 zd:=hG
theorem Rep.add{a:ax}(R:Rep C ρ st s)(ho:o.Is C.w [] s.heap a)(G:a∉ρ)(h2:a≠C.env.locals)(h3:C.top.objs.size<=a):Rep C (ρ++[a]) ⟨st.loc,st.hp++[o]⟩ s:=by
 have L:=R.led;refine⟨?_,⟨by simp only[aK,aK,L.len];rfl,λk o' b e q=>?_,?_,λh=>?_,λb h=>?_,L.gQ,L.top,L.os,L.drawn⟩⟩
 ·refine aH R.loc λm bT hm=>?_
  exact⟨m,bT,λx v e=>by obtain⟨y,hy,q⟩:=hm x v e;exact⟨y,hy,q.mono (gK ..)<|bF.refl _⟩⟩
 ·by_cases hk:k<U st.hp
  ·have e':st.hp[k]?=some o':=by exact bL e ((cA hk).symm)
   have q':ρ[k]?=some b:=by simp only[←q];exact(cA<|by refine D L.len ?_;exact hk).symm
   exact(L.objs k o' b e' q').mono (gK ..) (bF.refl _) rfl
  ·have bJ:k<U (st.hp++[o]):=(cJ.mp e).1;rw[aK] at bJ;have eS:k=U st.hp:=by simp at bJ;exact EW bJ hk
   subst eS;have e2:(st.hp++[o])[U st.hp]?=some o':=e;rw[dc<|aG _,fF] at e2;simp only[←L.len,dc<|aG _,fF] at q
   (have:=cj e2;clear e2;subst this);(have:=cj q;clear q;subst this)
   exact ho.mono xg (bF.refl _) rfl
 ·simp only[mF];exact⟨L.nodup,by simp,λx hx y hy e=>by rw[bw] at hy;subst hy;subst e;exact G hx⟩
 ·rcases bK.mp h with h|h
  ·exact L.fB h
  ·exact h2 (bw.mp h).symm
 ·rcases bK.mp h with h|h
  ·exact L.low b h
  ·simp only[bw.mp h];exact h3
section
variable{R:cU aiz}{own:ax->Prop}{aC:J ax}{l l':J It}{N:B}{I0:ax}{hN:aiz.γ<N}{hG:∀i,N<=i->aiz.g i}
theorem ae7{a:ax}(h:¬ke sh a):∃p∈sh,p.1=a:=by
 unfold ke at h;simp only[KY,xG] at h;obtain⟨p,hp,e⟩:=h;exact⟨p,hp,e⟩
theorem Inv.made(I:Inv aiz (cU.nil aiz) bX s0 ρ st s)(N1:y8 aiz.C ρ s am aC s1)(eo:gH am.hp aiz.cy)(hN:aiz.γ<s.gens.size)(hG:∀i,s.gens.size<=i->aiz.g i)
  (F:gq aiz.C.toWd n I0 (Mine.Internal.dO aC aiz.cy) (λi=>s.gens.size<=i) l own s1) (dj:∀b,own b->b∉aC/\b≠aiz.C.env.locals/\s.heap.get? b=aA/\∃o,s1.heap.get? b=some o) (ka:s.gens.size<=s1.gens.size):
  Inv aiz (cU.feed aiz n I0 s.gens.size hN hG l own) bX s0 aC am s1:=by
 have lY:aiz.b<=U ρ:=by simp only[I.rep.led.len];exact I.len
 have pre:ρ.take aiz.b<+:aC:=(pG ..).trans N1.pre;have e:=Qq (q:=aiz.b) aiz.low lY (aG _) pre;have at':=eo.at N1.rep;rw[←e,←I.dO] at at';have old:∀b o,s0.heap.get? b=some o->¬bX b->ke aiz.sh b->b∉ρ/\b≠aiz.C.env.locals:=λb o e hb hs=>by
  refine⟨λh=>?_,λh=>?_⟩
  ·rcases I.g7 b (.inl ⟨h,hs⟩) with h|h
   ·exact hb h
   ·simp only[h] at e;exact nomatch e
  ·rcases I.g7 b (.inr<|.inl h) with h|h
   ·exact hb h
   ·simp only[h] at e;exact nomatch e
 refine⟨N1.rep,I.dO.trans e,eo,?_,⟨λb o e hb hs=>?_,I.mv.aX.trans N1.aX,λp hp=>(at' p hp).2.1,N1.rep.led.top,λi x hi e=>N1.gens i x<|I.mv.gens i x hi e,cX I.mv.size ka,N1.rep.led.os,N1.rep.led.drawn⟩,N1.gens _ _ I.run,λi x G h2 h3 e=>?_,λa ha=>?_,λa ha=>?_,⟨ka,?_⟩⟩
 ·have G:=JZ N1.pre;simp only[←N1.rep.led.len];exact cX ‹_› ‹_›
 ·have:=old b o e hb hs;exact N1.keep b o (I.mv.keep b o e hb hs) this.1 this.2
 ·have hi:i<s.gens.size:=tM h3;have e1:s.gens[i]?=some s.gens[i]:=ia hi;simp only[N1.gens i _ e1] at e;(have:=cj e;clear e;subst this);exact I.fin i _ G h2 (λh=>h) e1
 ·rcases ha with ⟨h,hs⟩|h|h
  ·by_cases h':a∈ρ
   ·exact I.g7 a<|.inl ⟨h',hs⟩
   ·exact I.new<|N1.fresh a h h'
  ·exact I.g7 a<|.inr<|.inl h
  ·exact I.new (dj a h).2.2.1
 ·exact⟨(dj a ha).1,(dj a ha).2.1,(dj a ha).2.2.2⟩
 ·simp only[I.dO,e];exact F
theorem Inv.moved(I:Inv aiz (cU.feed aiz n I0 N hN hG l own) bX s0 ρ st s)(m:Mv aiz.C.toWd aiz.sh (λi=>N<=i) own s bQ):
  Rep aiz.C ρ st bQ/\Mv aiz.C.toWd aiz.sh aiz.g bX s0 bQ/\bQ.gens[aiz.γ]?=some .running/\∀(i:B) (x:de),aiz.g i->i≠aiz.γ->¬N<=i->bQ.gens[i]?=some x->x= .finished:=by
 have L:=I.rep.led;have nL:ke aiz.sh aiz.C.env.locals:=λp hp e=>L.fB<|e▸(I.at p hp).1;have eK:∀b,own b->b∉ρ/\b≠aiz.C.env.locals:=λb h=>⟨(I.ext b h).1,(I.ext b h).2.1⟩
 refine⟨⟨?_,⟨L.len,λk o a e q=>?_,L.nodup,L.fB,L.low,L.gQ,m.top,m.os,m.drawn⟩⟩,⟨λb o e hb hs=>m.keep b o (I.mv.keep b o e hb hs) (λh=>?_) hs,I.mv.aX.trans m.aX,m.sh,m.top,λi x hi e=>m.gens i x (λh=>hi (hG i h)) (I.mv.gens i x hi e),cX I.mv.size m.size,m.os,m.drawn⟩,
  m.gens _ _ (vH.mpr hN) I.run,λi x G h2 h3 e=>?_⟩
 ·refine aH I.rep.loc λmm bT hm=>?_
  exact⟨mm,mi bT λo e=>m.keep _ o e (λh=>(eK _ h).2 rfl) nL,λx v e=>by obtain⟨y,hy,q⟩:=hm x v e;exact⟨y,hy,q.mono (bP _) m.aX⟩⟩
 ·have z:=L.objs k o a e q
  by_cases hs:ke aiz.sh a
  ·exact aH z.there λx hx H=>(z.mono (bP _) m.aX<|(m.keep a x hx (λh=>(eK _ h).1<|dT q) hs).trans hx.symm)
  ·refine aH (ae7 hs) λp hp av=>?_
   subst av;refine EI (I.at p hp) λH H j s8 kb=>?_
   rw[pU L.nodup s8 q,e] at kb
   (have:=cj kb;clear kb;subst this)
   exact dv (m.sh p hp) λvs k z1 z2=>(⟨vs,k,z1,z2.mono xg<|bF.refl _⟩)
 ·rcases I.g7 b (.inr<|.inr h) with h|h
  ·exact hb h
  ·simp only[h] at e;exact nomatch e
 ·have hi:i<s.gens.size:=by
   have:=I.z.1;exact oB (tM h3) this
  have e1:s.gens[i]?=some s.gens[i]:=ia hi;simp only[m.gens i _ h3 e1] at e;(have:=cj e;clear e;subst this);exact I.fin i _ G h2 h3 e1
theorem Inv.fed(I:Inv aiz (cU.feed aiz n I0 N hN hG l own) bX s0 ρ st s)(m:Mv aiz.C.toWd aiz.sh (λi=>N<=i) own s bQ)(fin:∀(i:B) (x:de),N<=i->bQ.gens[i]?=some x->x= .finished):Inv aiz (cU.nil aiz) bX s0 ρ st bQ:=by
 refine gc (I.moved m) λG h2 h3 h4=>⟨G,I.dO,I.rG,I.len,h2,h3,λi x a b H e=>?_,λa ha=>I.g7 a<|ha.imp id<|.imp id λh=>h.elim,λa h=>h.elim,trivial⟩
 by_cases hi:N<=i
 ·exact fin i x hi e
 ·exact h4 i x a b hi e
theorem Inv.given{a:ax}(I:Inv aiz (cU.feed aiz n I0 N hN hG (.obj o::l) own) bX s0 ρ st s)(m:Mv aiz.C.toWd aiz.sh (λi=>N<=i) own s bQ)
  (dj:∀b,eK b->(own b\/s.heap.get? b=aA)/\∃o,bQ.heap.get? b=some o) (ha:own a\/s.heap.get? a=aA) (rD:aiz.C.top.objs.size<=a) (mW:¬eK a) (ho:o.Is aiz.C.w [] bQ.heap a) (F:gq aiz.C.toWd n I0 aiz.sh (λi=>N<=i) l eK bQ):
  Inv aiz (cU.feed aiz n I0 N hN hG l eK) bX s0 (ρ++[a]) ⟨st.loc,st.hp++[o]⟩ bQ:=by
 refine gc (I.moved m) λG h2 h3 h4=>?_
 have out:∀b,own b\/s.heap.get? b=aA->b∉ρ/\b≠aiz.C.env.locals:=λb h=>by
  rcases h with h|h
  ·exact⟨(I.ext b h).1,(I.ext b h).2.1⟩
  ·refine⟨λhm=>?_,λe=>?_⟩
   ·refine mM (I.rep.toF.mem hm) λH H ob H H H h3 H=>?_
    simp only[h] at h3;exact nomatch h3
   ·subst e;refine aH I.rep.loc λmm cq H=>eR cq λoL H H hL H=>?_
    simp only[h] at hL;exact nomatch hL
 have Qy:∀b,own b\/s.heap.get? b=aA->bX b\/s0.heap.get? b=aA:=λb h=>by
  rcases h with h|h
  ·exact I.g7 b<|.inr<|.inr h
  ·exact I.new h
 have Ce:Mine.Internal.dO (ρ++[a]) aiz.cy=Mine.Internal.dO ρ aiz.cy:=by
  refine rT λp h=>?_
  have:=aiz.low p h;have hl:=I.len;rw[←I.rep.led.len] at hl;simp only[c5,c5,cA<|by exact oB ‹_› ‹_›]
 refine⟨G.add ho (out a ha).1 (out a ha).2 rD,I.dO.trans Ce.symm,λp h=>?_,?_,h2,h3,h4,λb hb=>?_,λb hb=>?_,⟨cX I.z.1 m.size,F⟩⟩
 ·have:=I.rG p h;have lt:=aiz.low p h;have hl:=I.len;refine⟨?_,this.2⟩;refine D (cA<|by exact oB ‹_› ‹_›) ?_;exact this.1
 ·
  simp only[aK];exact cX I.len<|dZ _ _
 ·rcases hb with ⟨h,hs⟩|h|h
  ·rcases bK.mp h with h|h
   ·exact I.g7 b<|.inl ⟨h,hs⟩
   ·exact D (bw.mp h)<|Qy a ha
  ·exact I.g7 b<|.inr<|.inl h
  ·exact Qy b (dj b h).1
 ·have:=out b (dj b hb).1;refine⟨λh=>?_,this.2,(dj b hb).2⟩;rcases bK.mp h with h|h
  ·exact this.1 h
  ·simp only[bw.mp h] at hb;exact mW hb
end
theorem Qz{a b:bD de}(h:∀(i:B) (x:de),a[i]?=some x->b[i]?=some x):a.size<=b.size:=by
 by_cases hl:b.size<a.size
 ·have e:=h b.size _<|ia hl;have:b.size<b.size:=(jW.mp e).1;exact aY ‹_› (jf _)
 ·exact iR ‹_›
theorem dP.ae8{x:ao}{tp:cN}{iter:bB}{objs:J O}{out:J It}{ty:dm}(r:B)(L:B->J It->St->Prop)(hup:∀i,aiz.γ<=i->aiz.g i)(ku:wt ty)
  (G:pk aiz.C aiz.m iter st ty aiz.cy (objs.map .obj) am) (zf:aiz.b<=q) (h0:L 0 out am) (hq:q<=r)
  (iX:∀(R':cU aiz) i o bN aj,objs[i]?=some o->L i bN aj->∃ba,c8 aiz.C aiz.m (.Name x tp) (.ref<|U aj.hp) ⟨aj.loc,aj.hp++[o]⟩ ba/\gH ba.hp aiz.cy/\XG aiz R' r body ba bN (kB<|L<|i+1))
  (sx:∀bN aj,L (U objs) bN aj->Φ .next bN aj)
  (hs:aO (∀x,pK iter aiz.C.env x=pure x) aI._auto_1):
  dP aiz (cU.nil aiz) q (.For (.Name x tp) iter body [] pos) st out Φ:=.mk λc fs K aix gd lv ρ jc hg eU bX s0 s I A hA=>by
 have hN:aiz.γ<s.gens.size:=(jW.mp I.run).1;have hG:∀i,s.gens.size<=i->aiz.g i:=λi h=>hup i<|EU hN h;rw[exec_For];rw[jU,jA];refine jO<|wpAny_standAt ?_;simp only[hs];rw[jU,jA];refine jO<|te (G.run (A.over c fs) s ρ (λz s2=>∃I0,z= .ref I0/\SX aiz.C.toWd A c ((runOwn (.forLoop (.Name x tp) z body [] aiz.C.env) aiz.C.env).wrap K aix gd lv) fs s2 (wA aiz.C.toWd aiz.n aiz.γ aiz.g aiz.sh out bX s0)/\s2.heap.get? I0≠aA/\s2.TypeIs (.ref I0) ty) (jc.1 A hA) I.rep λaC I0 own s2 iY hT F dj=>?_) λz s1 h=>?_
 rotate_left
 ·refine uf h λI0 av h hex hT=>?_
  subst av;show SX aiz.C.toWd A c ((nK iter.pos >>= λH=>holding [.ref I0] (oG<|.ref I0) >>= λH=>_).wrap _ _ _ _) fs s1 _;rw[jU,jA];refine jO<|wpAny_standAt ?_;rw[jU,jA];exact jO<|wpAny_holding<|ku.self _ _ _ _ _ _ _ hex hT h
 refine⟨I0,rfl,?_,by obtain⟨o,h,_⟩:=hT;rw[h];simp,hT⟩;have ka:=Qz iY.gens;have I2:=I.made iY G.sh hN hG F dj ka;refine W.X.s_call aiz.C.prog aiz.C.w A c fs _ s2 (.forLoop (.Name x tp) (.ref I0) body [] aiz.C.env) aA (gd false) (lv []) _ λp=>?_
 have rI:wD aiz.n aiz.m (.forLoop (.Name x tp) (.ref I0) body [] aiz.C.env) (kI aiz.C.env K aix gd lv c p::fs):=jc.loop hg rfl rfl;have main:∀(k i:B) (bN:J It) (aj:St) (own ff:ax->Prop) (s1 s':ay) (aB:J ax),i+k=U objs->L i bN aj->ρ.take q<+:aB->aC.take r<+:aB->Inv aiz (cU.feed aiz aiz.m I0 s.gens.size hN hG ((objs.drop i).map .obj) own) ff s1 aB aj s'->
   aiz.Seg bN ff s1 (.forLoop (.Name x tp) (.ref I0) body [] aiz.C.env) (denote table<|.forLoop (.Name x tp) (.ref I0) body [] aiz.C.env) (kI aiz.C.env K aix gd lv c p::fs) s':=by
  intro k
  induction k with
  |zero=>
   intro i bN aj own ff s1 s' aB hk hL rJ u4 I' A' fP;have hi:i=U objs:=by assumption
   subst hi;have nx:Inv aiz (cU.feed aiz aiz.m I0 s.gens.size hN hG [] own) ff s1 aB aj s':=by
    have:=I';rw[vC] at this;exact this
   have F':=nx.z.2;have H0:Rel aiz.C.toWd aiz.sh (λi=>s.gens.size<=i) own s' s':=⟨λH H H e=>e,bF.refl _,λp hp=>(nx.at p hp).2.1,nx.rep.led.top,λH H H e=>e,λi x H h e=>aY (jW.mp e).1<|iT.mpr h,aG _,nx.rep.led.os,nx.rep.led.drawn⟩
   exact Cg<|F' s' H0 (A'.over _ _) _ _ (rI.1 A' fP) λs3 m fin=>(Qv<|Cf<|eU .next bN aj ff s1 aB _ .next (sx bN aj hL) rJ (nx.fed m fin) rfl A' fP)
  |succ k ih=>
   intro i bN aj own ff s1 s' aB hk hL rJ u4 I' A' fP;have lt:i<U objs:=by exact LA hk
   have hu:objs[i]?=some objs[i]:=bO lt;have nx:Inv aiz (cU.feed aiz aiz.m I0 s.gens.size hN hG (.obj objs[i]::(objs.drop<|i+1).map .obj) own) ff s1 aB aj s':=by
    have:=I';rw[vx lt,eu] at this;exact this
   have F':=nx.z.2;have H0:Rel aiz.C.toWd aiz.sh (λi=>s.gens.size<=i) own s' s':=⟨λH H H e=>e,bF.refl _,λp hp=>(nx.at p hp).2.1,nx.rep.led.top,λH H H e=>e,λi x H h e=>aY (jW.mp e).1<|iT.mpr h,aG _,nx.rep.led.os,nx.rep.led.drawn⟩
   refine Cg<|F' s' H0 (A'.over _ _) _ _ (rI.1 A' fP) λz s3 eK m yc hz F2=>(ug hz λa av ha rD mW ho=>?_);clear hz;subst av;have I3:=nx.given m yc ha rD mW ho F2;obtain⟨ba,yd,HZ,hB⟩:=iX _ i objs[i] bN aj hu hL;refine wpAny_pure ?_
   have iv:V.Is (aB++[a]) s3.heap (.ref<|U aj.hp) (.ref a):=⟨a,by refine bL I'.rep.led.len<|D (dc<|aG _)<|D (fF _) ?_;rfl,rfl⟩
   refine yd.run (A'.over _ _) s3 (aB++[a]) _ _ (rI.1 A' fP) I3.rep iv λdp s4 N3 K2 H2 rc=>?_
   have I4:=I3.next (q:=q) N3.toS zf HZ;refine hB.run _ (kI aiz.C.env K aix gd lv c p::fs) K2 H2 id id dp rI rfl (λfl jP hO u5 s4 eX s5 aiA iK zg I5 kH=>?_) ff s1 s4 I4 A' fP;have pq:ρ.take q<+:eX:=pV (rJ.trans<|gK ..)<|xj (w7 hq)<|(N3.toS (p:=r)).Ci zg;have pr:aC.take r<+:eX:=pV (u4.trans<|gK ..)<|(N3.toS (p:=r)).Ci zg;intro A5 u6;refine D (rc _) ?_
   cases fl with
   |next=>obtain rfl:aiA= .next:=kH;exact xz _ _ _ _ _ _ _ _ rfl<|ih (i+1) jP hO _ u5 s4 s5 eX (xN hk) iK pq pr I5 A5 u6
   |cont=>obtain rfl:aiA= .cont:=kH;exact xz _ _ _ _ _ _ _ _ rfl<|ih (i+1) jP hO _ u5 s4 s5 eX (xN hk) iK pq pr I5 A5 u6
   |brk=>exact iK.elim
   |ret w=>exact iK.elim
 exact main (U objs) 0 out am own bX s0 s2 aC (by exact tQ _ _) h0 ((pG ..).trans iY.pre) (pG ..) (by refine D mG ?_;exact I2) A hA
theorem XG.conv{R:cU aiz}{ss:J fq}{items:J It}{aj:St}(cv:jn q st aj)(hq:aiz.b<=q)(wF:q<=U st.hp)(hs:gH aj.hp aiz.cy)(h:XG aiz R q ss aj items Φ):XG aiz R q ss st items Φ:=.mk λc fs K aix gd lv ρ jc hg eU bX s0 s I=>by
 exact aH (eH.conv I.rep wF cv) λbh N H=>(h.run c fs K aix gd lv bh jc hg (λfl bN aj ff s1 aB s' aiA G h2=>eU fl bN aj ff s1 aB s' aiA G<|pV N.pre h2) bX s0 s<|I.next N hq hs)
theorem XG.norm{R:cU aiz}{aZ:J O}(hl:SubL l' st.loc)(hh:st.hp=aZ)(h:XG aiz R q ss ⟨l',aZ⟩ items Φ)(hq:aiz.b<=q)(wF:q<=U aZ)(hs:gH aZ aiz.cy):XG aiz R q ss st items Φ:=by
 obtain⟨l,hp⟩:=st;cases hh;exact XG.conv (.loc hl) hq wF hs h
theorem QA:wt "generator" where
 HJ:=by rw[typeLookup_type,builtinLookup_eq_fast];kernel_rfl
 HK:=by rw[typeLookup_type,builtinLookup_eq_fast];kernel_rfl
 n1:=by decide
 n2:=by decide
 self:=λprog w A s I Q E hI hT hQ=>by
  exact wpAny_pyIter_slot hT slot_gen_iter<|wpAny_call_entry slot_gen_iter hT entry_gen_iter (wpAny_pure ⟨_,rfl,"generator",_,hT,slot_gen_next.lookup,hQ⟩)<|args_gen_iter _
theorem cn.ae9(h:cn (m+1) A):cn m (A.over (.func body env) []):=by
 refine eh h λG h2 h3=>⟨G,?_,?_⟩
 ·
  exact Ts h2
 ·
  exact Tq h3
noncomputable def Done(fl:Fl)(bN:J It)(st:St):Prop:=bN=[]/\(fl= .next\/fl= .ret .none)
theorem afa(hn:aiz.n=aiz.m+1)(h:XG aiz (cU.nil aiz) q body st items Done)(I:Inv aiz (cU.nil aiz) bX s0 ρ st s):aiz.Seg items bX s0 (.func body aiz.C.env) (denote table<|.func body aiz.C.env) [] s:=by
 intro A hA;show SX aiz.C.toWd A _ (.point [] λH=>((mJ body aiz.C.env).onRaise (leaving aiz.C.env)) >>= _) [] s _;have z:∀{k:fD->dG h9} {P:End->ay->Prop},SX aiz.C.toWd A (.func body aiz.C.env) (k ()) [] s P->SX aiz.C.toWd A (.func body aiz.C.env) (.point [] k) [] s P:=λ{k P} h=>
  jO (m:=point) (aix:=.raise) (gd:=id) (lv:=λH=>[]) (K:=k) (wpAny_point h)
 refine z ?_
 rw[D0,jU,jA];refine h.run _ [] _ _ _ _ ρ ⟨λA hA=>cn.ae9 (by rw[hn] at hA;exact hA),rfl,rfl⟩ rfl (λfl bN aj ff s1 aB s' aiA hD hp I' kH A' fP=>?_) bX s0 s I A hA;obtain⟨rfl,hf⟩:=hD;have hv:(match aiA with| .ret v=>v|_=>jB)=jB:=by
  rcases hf with rfl|rfl
  ·obtain rfl:aiA= .next:=kH;rfl
  ·obtain⟨x,rfl,hx⟩:=kH;exact hx
 refine W.X.s_end aiz.C.prog aiz.C.w A' _ _ s' (.ok<|.ret .none) _ ?_ ⟨rfl,I'.mv,λi x G h2 e=>I'.fin i x G h2 (λh=>h) e⟩
 show dG.wrap _ _ _ _ (dG.pure aiA)=_;cases aiA with
 |ret v=>obtain rfl:v=jB:=hv;rfl
 |next=>rfl
 |brk=>rfl
 |cont=>rfl
noncomputable abbrev zh(T:Wd)(fd:lD)(aiA L:ax)(m γ:B)(sh:J<|ax×J V)(cy:J<|B×J V)(b:B)(low:∀p∈cy,p.1<b):GC:=
 ⟨rd T fd aiA L,m+1,m,γ,λi=>γ<=i,sh,cy,b,low,aG _⟩
theorem Rel.afb{own:ax->Prop}{γ:B}{y:de}(hs:s.gens[γ]?=some y)(hg:g γ)(r:Rel T sh g own s s'):Rel T sh g own (s.setGen γ x) (s'.setGen γ x):=by
 have bJ:γ<s.gens.size:=(jW.mp hs).1;refine⟨r.keep,r.aX,r.sh,r.top,λi z hi e=>?_,λi z hi h e=>?_,by refine D qu<|D qu ?_;exact r.size,r.os,r.drawn⟩
 ·by_cases qw:i=γ
  ·subst qw;rw[u0 hs] at e;cases e;exact u0<|r.gens _ _ hg hs
  ·rw[rE qw] at e ⊢;exact r.gens i z hi e
 ·rw[qu] at h;have ne:i≠γ:=by exact AK bJ h
  rw[rE ne] at e;exact r.news i z hi h e
theorem QB{o:bc}{fd:lD}{names:J ao}{bs:J V}{b:B}(low:∀p∈cy,p.1<b)(hb:b<=U gt)(QC:gH gt cy)
  (ho:T.top.get? aiA=some o) (hd:o.data= .func fd) (oO:fd.body= .stmts body) (pW:T.top.CodeRec fd.code fd.qualname) (mj:T.top.NoLimit)
  (mP:∀(A:bS) (E:ak->ay->Prop) (ρ:J ax) (s:ay) (xs:J ak) (kw:J (ao×ak)) (Q:J (ao×ak)->ay->Prop),ji T ρ gt s->V.IsL ρ s.heap args (xs++kw.map (·.2))->kw.map (·.1)=gI->
   (∀ys h' t',(∀b o,s.heap.get? b=some o->h'.get? b=some o)->s.heap.objs.size<=h'.objs.size->V.IsL ρ h' bs ys->Q (names.zip ys) {s with heap:=h',toks:=t'})->aF (aN T.prog T.w) A (r7 fd ⟨xs,kw⟩) Q E s) (ko:names.Nodup)
  (iD:∀x∈fd.scope.names,x.2≠ .cell) (lJ:∀x∈names,fd.scope.names.lookup x=some .local)
  (hx:∀L γ sh,XG (zh T fd aiA L m γ sh cy b low) (cU.nil _) q body ⟨names.zip bs,gt⟩ items Done)
 {dQ:J ax} {xs:J ak} (hA:cn (m+2) A) (hL:ji T dQ gt s) (aV:V.IsL dQ s.heap args<|xs++kw.map (·.2)) (ii:kw.map (·.1)=gI)
  (hQ:∀s' I L,(∀b o,s.heap.get? b=some o->s'.heap.get? b=some o)->s.heap.get? I=aA->s.heap.get? L=aA->(∃o,s'.heap.get? L=some o)->s'.TypeIs (.ref I) "generator"->(∀(i:B) (x:de),s.gens[i]?=some x->s'.gens[i]?=some x)->s'.os=s.os->s'.drawn=s.drawn->
   gq T (m+2) I (dO dQ cy) (λi=>s.gens.size<=i) items (λa=>a=I\/(a∈dQ/\ke (dO dQ cy) a)\/a=L\/c7) s'->Q (.ref I) s')
  (bo:aO (fd.scope.isCoroutine=false) a8) (oP:aO (fd.scope.isGenerator=true) a8) (hk:aO (fd.scope.kind= .function) a8):
  aF (aN T.prog T.w) A (gO (.ref aiA) xs kw) Q bq s:=by
 refine wpAny_call<|codeAny_call_generator hA.depth (hL.top aiA o ho) hd bo oP oO (pW.keeps hL.top)<|mP _ _ dQ s xs kw _ hL aV ii λys h0 t0 sw FX nU=>(wpAny_newFunctionEnv iD (λx hx=>lJ _ (DI hx).1) (λh₁ bT ux=>⟨(mj.keeps λb o e=>sw b o<|hL.top b o e).fresh _ ux,?_⟩) hk);have yb:∀b o,h0.get? b=some o->h₁.get? b=some o:=λb o e=>ux.extBut b o (iS<|dH e)<|dD _ e;have afc:∀b o,s.heap.get? b=some o->h₁.get? b=some o:=λb o e=>yb b o<|sw b o e;have nf:∀a,h0.objs.size<=a->s.heap.get? a=aA:=λa h=>by
  cases e:s.heap.get? a with
  |none=>rfl
  |some o'=>exact aY (dH<|sw _ _ e)<|iT.mpr h
 have uW:∀a,s.heap.get? a=aA->a∉dQ:=λa e h=>by
  refine mM (hL.mem h) λH H ob H H H ho H=>?_
  rw[e] at ho;cases ho
 have H1:h0.objs.size<h₁.objs.size:=by
  exact eR bT λoL EQ ep h2 H=>(dH h2)
 let ob:bc:={cls:=.type "generator",data:=.fields #[.int s.gens.size 0,.str fd.name<|t0+U (names.zip ys),.str fd.qualname<|t0+U (names.zip ys)+1]}
 have ml:∀b o,s.heap.get? b=some o->(h₁.push ob).get? b=some o:=λb o e=>dD _<|afc b o e;have gV:=iB ml
 let aiz:GC:=zh T fd aiA h0.objs.size m s.gens.size (dO dQ cy) cy b low
 let s2:ay:={s with heap:=h₁.push ob,gens:=s.gens.push (.fresh<|.func body aiz.C.env),toks:=t0+U (names.zip ys)+1+1}
 have nL:h0.objs.size∉dQ:=uW _<|nf _<|aG _;have rep:∀g t,Rep aiz.C dQ ⟨names.zip bs,gt⟩ {s with heap:=h₁.push ob,gens:=g,toks:=t}:=λg t=>by
  refine⟨⟨_,mi bT λo e=>dD _ e,λx aiy e=>FQ ko (nU.mono (bP _)<|iB λb o e=>dD _<|yb b o e) e⟩,⟨hL.len,λj o b e q=>?_,hL.nodup,nL,hL.low,xW<|cX hL.size FX,λb o e=>ml b o<|hL.top b o e,hL.os,hL.drawn⟩⟩;have z:=hL.objs j o b e q;exact aH z.there λx hx H=>(z.mono (bP _) gV<|(ml _ _ hx).trans hx.symm)
 have H3:s2.gens[s.gens.size]?=some (.fresh<|.func body aiz.C.env):=bD.getElem?_push_size
 have afd:∀(i:B) (x:de),s.gens[i]?=some x->s2.gens[i]?=some x:=λi x e=>by
  have hi:i<s.gens.size:=(jW.mp e).1;refine D (bD.getElem?_push_lt hi) ?_
  rw[ia hi] at e;exact e
 have ze:=gH.at (st:=⟨names.zip bs,gt⟩) QC (rep s2.gens s2.toks);have I0:Inv aiz (cU.nil aiz) (Inv.own aiz (cU.nil aiz) dQ) (s2.setGen s.gens.size .running) dQ ⟨names.zip bs,gt⟩ (s2.setGen s.gens.size .running):=by
  refine⟨rep _ _,rfl,QC,hb,⟨λH H e H H=>e,bF.refl _,λp hp=>(ze p hp).2.1,(rep s2.gens s2.toks).led.top,λH H H e=>e,aG _,hL.os,hL.drawn⟩,u0 H3,λi x G h2 H e=>?_,λa h=>.inl h,λa h=>h.elim,trivial⟩;have hi:i<(s2.setGen s.gens.size .running).gens.size:=(jW.mp e).1;rw[qu] at hi;have:s2.gens.size=s.gens.size+1:=Eb ..;have v7:s.gens.size<=i:=G;have h2':i≠s.gens.size:=h2;exact(Tp hi this h2' v7).elim
 have hI:¬Inv.own aiz (cU.nil aiz) dQ h₁.objs.size:=λh=>by
  rcases h with h|h|h
  ·exact uW _ (nf _<|lz H1) h.1
  ·exact aY h<|kl H1
  ·exact h
 have QD:s2.heap.IsGen h₁.objs.size s.gens.size:=⟨ob,_,_,ew _ rfl,rfl,rfl,rfl⟩
 refine hQ s2 h₁.objs.size h0.objs.size ml (nf _<|lz H1) (nf _<|aG _) ?_ QD.typeIs afd rfl rfl ?_
 ·exact eR bT λoL EQ ep h2 H=>(⟨_,dD _ h2⟩)
 ·exact Qp (T:=T) (n:=m+1) (γ:=s.gens.size) (g:=λi=>s.gens.size<=i) (aG _) mj items (Inv.own aiz (cU.nil aiz) dQ) s2 _ _ _ [] QD hI H3 (.inl ⟨rfl,rfl,rfl⟩) λs' r=>afa (aiz:=aiz) rfl (hx _ _ _)<|I0.resume<|r.afb H3<|aG _
section
variable{R:cU aiz}
noncomputable abbrev kT(aiz:GC)(R:cU aiz)(q:B)(r:J fq)(items:J It)(Φ:Fl->J It->St->Prop):Fl->St->Prop:=λfl aj=>match fl with| .next=>gH aj.hp aiz.cy/\XG aiz R q r aj items Φ|_=>c7
theorem jd{r:J fq}(hq:aiz.b<=q)(h:X1 aiz.C aiz.m q a st<|kT aiz R q r items Φ):XG aiz R q (a::r) st items Φ:=
 ig (dP.lift hq h λfl aj hk=>by
  cases fl with
  |next=>exact hk
  |brk=>exact hk.elim
  |cont=>exact hk.elim
  |ret v=>exact hk.elim)
end
theorem Rel.widen{own:ax->Prop}(h:∀i,g' i->g i)(r:Rel T sh g own s s'):Rel T sh g' own s s':=
 ⟨r.keep,r.aX,r.sh,r.top,λi x hi e=>r.gens i x (h i hi) e,λi x hi hs e=>r.news i x (h i hi) hs e,r.size,r.os,r.drawn⟩
theorem Mv.widen{own:ax->Prop}(h:∀i,g' i->g i)(r:Mv T sh g' own s s'):Mv T sh g own s s':=
 ⟨r.keep,r.aX,r.sh,r.top,λi x hi e=>r.gens i x (λq=>hi<|h i q) e,r.size,r.os,r.drawn⟩
theorem gq.widen{T:Wd}{n:B}{I:ax}{sh:J (ax×J V)}{g g':B->Prop}(h:∀i,g' i->g i):∀{l:J It} {own:ax->Prop} {s:ay},(∀(i:B) (x:de),g i->¬g' i->s.gens[i]?=some x->x= .finished)->(∀i,s.gens.size<=i->g' i)->
  gq T n I sh g' l own s->gq T n I sh g l own s
 | [],own,s,hf,hs,aiA=>λs' r A Q E hA hQ=>aiA s' (r.widen h) A Q E hA λbQ mv fin=>hQ bQ (mv.widen h) λi x gi e=>by
  by_cases hi:g' i
  ·exact fin i x hi e
  ·have lt:i<s.gens.size:=tM λq=>hi<|hs i q;have e0:s.gens[i]?=some s.gens[i]:=ia lt;have e1:=mv.gens i _ hi<|r.gens i _ gi e0;rw[e] at e1;(have:=cj e1;clear e1;subst this);exact hf i _ gi hi e0
 |it::l,own,s,hf,hs,aiA=>λs' r A Q E hA hQ=>aiA s' (r.widen h) A Q E hA λx bQ eK mv dj hit F=>hQ x bQ eK (mv.widen h) dj hit (gq.widen h (λi y gi hi e=>by
   have lt:i<s.gens.size:=tM λq=>hi<|hs i q;have e0:s.gens[i]?=some s.gens[i]:=ia lt;have e1:=mv.gens i _ hi<|r.gens i _ gi e0;rw[e] at e1;(have:=cj e1;clear e1;subst this)
   exact hf i _ gi hi e0) (λi q=>hs i (cX r.size (cX mv.size q))) F)
theorem Rep.grow(R:Rep C ρ st s)(k:∀b o,s.heap.get? b=some o->s'.heap.get? b=some o)(ho:s'.os=s.os)(hd:s'.drawn=s.drawn):Rep C ρ st s':=by
 have L:=R.led;refine⟨?_,⟨L.len,λj o b e q=>?_,L.nodup,L.fB,L.low,L.gQ,λb o e=>k b o<|L.top b o e,ho.trans L.os,hd.trans L.drawn⟩⟩
 ·refine aH R.loc λm bT hm=>?_
  exact⟨m,mi bT λo e=>k _ o e,λx v e=>by obtain⟨y,hy,q⟩:=hm x v e;exact⟨y,hy,q.mono (bP _)<|iB k⟩⟩
 ·have z:=L.objs j o b e q;exact aH z.there λx hx H=>(z.mono (bP _) (iB k)<|(k _ _ hx).trans hx.symm)
@[irreducible] noncomputable def jQ(T:Wd)(m:B)(aiA:ax)(gt:J O)(args:J V)(gI:J ao)(cy:J<|B×J V)(items:J It):Prop:=∀{A:bS} {s:ay} {dQ:J ax} {xs:J ak} {kw:J (ao×ak)} {Q:ak->ay->Prop},cn (m+2) A->ji T dQ gt s->V.IsL dQ s.heap args (xs++kw.map (·.2))->kw.map (·.1)=gI->
  (∀s' I L,(∀b o,s.heap.get? b=some o->s'.heap.get? b=some o)->s.heap.get? I=aA->s.heap.get? L=aA->(∃o,s'.heap.get? L=some o)->s'.TypeIs (.ref I) "generator"->(∀(i:B) (x:de),s.gens[i]?=some x->s'.gens[i]?=some x)->s'.os=s.os->s'.drawn=s.drawn->
   gq T (m+2) I (dO dQ cy) (λi=>s.gens.size<=i) items (λa=>a=I\/(a∈dQ/\ke (dO dQ cy) a)\/a=L\/c7) s'->Q (.ref I) s')->
  aF (aN T.prog T.w) A (gO (.ref aiA) xs kw) Q bq s
theorem jQ.mk(run:∀{A:bS} {s:ay} {dQ:J ax} {xs:J ak} {kw:J (ao×ak)} {Q:ak->ay->Prop},cn (m+2) A->ji T dQ gt s->V.IsL dQ s.heap args (xs++kw.map (·.2))->kw.map (·.1)=gI->
  (∀s' I L,(∀b o,s.heap.get? b=some o->s'.heap.get? b=some o)->s.heap.get? I=aA->s.heap.get? L=aA->(∃o,s'.heap.get? L=some o)->s'.TypeIs (.ref I) "generator"->(∀(i:B) (x:de),s.gens[i]?=some x->s'.gens[i]?=some x)->s'.os=s.os->s'.drawn=s.drawn->
   gq T (m+2) I (dO dQ cy) (λi=>s.gens.size<=i) items (λa=>a=I\/(a∈dQ/\ke (dO dQ cy) a)\/a=L\/c7) s'->Q (.ref I) s')->
  aF (aN T.prog T.w) A (gO (.ref aiA) xs kw) Q bq s):jQ T m aiA gt args gI cy items:=by with_unfolding_all exact run
theorem jQ.run(h:jQ T m aiA gt args gI cy items):∀{A:bS} {s:ay} {dQ:J ax} {xs:J ak} {kw:J (ao×ak)} {Q:ak->ay->Prop},cn (m+2) A->ji T dQ gt s->V.IsL dQ s.heap args (xs++kw.map (·.2))->kw.map (·.1)=gI->
  (∀s' I L,(∀b o,s.heap.get? b=some o->s'.heap.get? b=some o)->s.heap.get? I=aA->s.heap.get? L=aA->(∃o,s'.heap.get? L=some o)->s'.TypeIs (.ref I) "generator"->(∀(i:B) (x:de),s.gens[i]?=some x->s'.gens[i]?=some x)->s'.os=s.os->s'.drawn=s.drawn->
   gq T (m+2) I (dO dQ cy) (λi=>s.gens.size<=i) items (λa=>a=I\/(a∈dQ/\ke (dO dQ cy) a)\/a=L\/c7) s'->Q (.ref I) s')->
  aF (aN T.prog T.w) A (gO (.ref aiA) xs kw) Q bq s:=by with_unfolding_all exact h
theorem jQ.feed{sh:J (B×J V)}(h:jQ C.toWd m aiA gt args gI cy items){s2:ay}{bh dQ aC:J ax}{xs:J ak}
  (R0:∀b o,s.heap.get? b=some o->∃o',s2.heap.get? b=some o')
  (N:bk C ρ s am bh s2) (R1:Rep C aC aj s2) (pre:ρ<+:aC) (QE:∀a∈aC,a∈bh) (ct:∀a∈dQ,a∈bh) (hd:∀a∈dQ,ke (dO dQ cy) a->a∉aC) (H4:dO dQ cy=dO aC sh)
  (hA:cn (m+2) A) (L:ji C.toWd dQ gt s2) (aV:V.IsL dQ s2.heap args<|xs++kw.map (·.2)) (ii:kw.map (·.1)=gI)
  (hQ:∀I own s1,y8 C ρ s aj aC s1->s1.TypeIs (.ref I) "generator"->gq C.toWd (m+2) I (dO aC sh) (λi=>s.gens.size<=i) items own s1->(∀b,own b->b∉aC/\b≠C.env.locals/\s.heap.get? b=aA/\∃o,s1.heap.get? b=some o)->Q (.ref I) s1):
  aF (aN C.prog C.w) A (gO (.ref aiA) xs kw) Q bq s2:=by
 refine h.run hA L aV ii λs3 I La keep hI hL H5 hT hg ho iH F=>?_
 have live:∀b,b∈bh->∃o,s2.heap.get? b=some o:=λb hb=>by
  exact mM (N.rep.toF.mem hb) λH H ob H H H h3 H=>(⟨ob,h3⟩)
 have afe:∃o,s2.heap.get? C.env.locals=some o:=by
  exact aH N.rep.loc λmm cq H=>eR cq λoL H H hL H=>(⟨oL,hL⟩)
 have new:∀b,s2.heap.get? b=aA->b∉aC/\b≠C.env.locals/\s.heap.get? b=aA:=λb e=>by
  refine⟨λhb=>?_,λhb=>?_,?_⟩
  ·refine xE (live b<|QE b hb) λo h'=>?_
   rw[e] at h';exact nomatch h'
  ·subst hb;refine xE afe λo h'=>?_
   rw[e] at h';exact nomatch h'
  ·cases e':s.heap.get? b with
   |none=>rfl
   |some o=>obtain⟨o',h'⟩:=R0 b o e';rw[e] at h';exact nomatch h'
 refine hQ I (λa=>a=I\/(a∈dQ/\ke (dO dQ cy) a)\/a=La\/c7) s3 ⟨pre,N.aX.trans<|iB keep,λb o e G h2=>keep b o<|N.keep b o e G h2,λa G h2=>N.fresh a (QE a G) h2,λi x e=>hg i x<|N.gens.1 i x e,R1.grow keep ho iH⟩ hT ?_ λb hb=>?_
 ·simp only[←H4];refine F.widen (λi hi=>cX (eN.size N.gens) hi) (λi x G h2 e=>?_) λi hi=>cX (Qz hg) hi;have lt:i<s2.gens.size:=tM h2;have e0:s2.gens[i]?=some s2.gens[i]:=ia lt;simp only[hg i _ e0] at e;(have:=cj e;clear e;subst this);exact N.gens.2 i _ G e0
 ·rcases hb with rfl|⟨hb,hs⟩|rfl|hb
  ·exact aH hT λo h' H=>(⟨(new _ hI).1,(new _ hI).2.1,(new _ hI).2.2,o,h'⟩)
  ·have G:=hd b hb hs;have h2:b≠C.env.locals:=λe=>N.rep.led.fB<|e▸ct b hb;exact xE (live b<|ct b hb) λo h'=>(⟨G,h2,N.fresh b (ct b hb) λh=>G<|pre.subset h,o,keep b o h'⟩)
  ·exact⟨(new _ hL).1,(new _ hL).2.1,(new _ hL).2.2,H5⟩
  ·exact hb.elim
theorem bk.lives(R:Rep C ρ st s)(N:bk C ρ s aj aB s'):∀b o,s.heap.get? b=some o->∃o',s'.heap.get? b=some o':=λb o e=>by
 by_cases h:b∈ρ
 ·exact mM (N.rep.toF.mem<|N.pre.subset h) λH H ob H H H h3 H=>(⟨ob,h3⟩)
 ·by_cases h2:b=C.env.locals
  ·subst h2;exact aH N.rep.loc λmm cq H=>eR cq λoL H H hL H=>(⟨oL,hL⟩)
  ·exact⟨o,N.keep b o e h h2⟩
theorem pk.rn{o:bB}{name:ao}{apos:cN}{args:J bB}{k d:B}{c:ax}{of:bc}{fd:lD}{l0:J (ao×V)}{mN:ao->bC ak}{vs:J V}{y:bC ak}
  (ho:EV C (m+2) o ⟨l0,hp⟩ (.ref k) ⟨l0,gt⟩) (hk:gt[k]?=some (.inst c d)) (hd:gt[d]?=some (.attrs l)) (hc:v8 C.top c mN) (hf:mN name=some (.ref aiA)) (yq:C.top.get? aiA=some of) (ro:of.cls= .type "function") (Bz:of.data= .func fd)
  (hB:ea (.type "object") name=pure y) (ha:jl C (m+2) args ⟨l0,gt⟩ vs ⟨l0,gt⟩) (oT:jQ C.toWd m aiA gt (.ref k::vs) [] cy items)
  (wH:∃tl,gt=hp++tl) (j9:gy hp) (H6:∀p∈l0,p.2.bG (λk=>decide (k<U hp))=true) (pZ:∀i,i<U hp->∃p∈cy,p.1=i) (n7:∀p∈cy,p.1<U hp) (eo:gH hp cy)
  (uE:aO (mN "__getattribute__"=aA) a8) (GE:aO (mN "__getattr__"=aA) a8) (bT:aO (l.lookup name=aA) a8) (he:aO (args.all gR=true) a8) (hlen:aO (U args<30) aD._auto_1)
  (oR:aO (vL o name C.env (eval o C.env)=eval o C.env) a8) (lL:aO ((apos.endLine==pos.line)=true) a8):pk C (m+2) (.Call (.Attribute o name apos) args [] pos) ⟨l0,hp⟩ "generator" cy items ⟨l0,hp⟩ where
 sh:=eo
 run:=λA s ρ Q hA R h=>by
  simp only[arm_eval_Call,oR];refine wpAny_bind<|ho.run A s ρ _ hA R λaC x s1 N1 i1=>(wpAny_bind<|wpAny_standAt ?_);have yr:methodCallForm (U args+U ([]:J nN)) (lE pos<|lC args C.env) (qQ pos<|qP [] C.env)=true:=GD he hlen;have oU:vM true o C.env apos pos=pure pos:=by unfold vM;simp[lL]
  unfold methodCall;refine D yr<|aH i1 λa rp av=>?_;clear i1;subst av;refine kn (Bq N1.rep hk hd rp) λmm b hb ne I hm=>?_
  obtain⟨nm,q,N,bs,sn,sub,ab,col,dd,k0,k1,k2,k3,k5,newId,hC,hn⟩:=hc;refine wpAny_bind<|wpAny_holding<|method_ofFk (N1.rep.led.top _ _ hC) (hn.keeps N1.rep.led.top) uE GE hf (N1.rep.led.top _ _ yq) ro hB I ((hm name).2 bT)<|wpAny_bind<|wpAny_of_eq oU<|Ez (o:=of) (fd:=fd) ?_;refine By ha hA N1.rep he λbh xs s2 N2 i2=>⟨⟨N2.rep.led.top _ _ yq,Bz⟩,?_⟩
  have iY:=N1.trans N2;refine xE wH λtl av=>?_
  clear wH;subst av;refine aH (eH.conv (p:=U hp) (aj:=⟨l0,hp⟩) iY.rep (by simp only[aK];exact dZ _ _)<|mt (aG _) j9 (λH H h=>h) H6) λdp N3 dk=>?_
  have lY:U ρ=U hp:=R.led.len;have pd:U dp=U hp:=N3.rep.led.len;have e3:bh.take (U hp)=ρ:=by
   have:=iY.pre;rw[J.prefix_iff_eq_take] at this;exact bL lY this.symm
  have e4:dp=ρ:=by
   have G:=N3.pre;rw[e3] at G;exact(Ag G<|by simp only[lY,pd]).symm
  subst e4;have H4:dO bh cy=dO dp cy:=by
   refine rT λp aZ=>?_
   have lt:=n7 p aZ;have G:dp[p.1]?=some dp[p.1]:=bO<|me lt lY;have h2:=pS iY.pre G;simp only[c5,c5,G,h2]
  refine oT.feed (bk.lives R iY) iY N3.rep (bP _) (λa h=>iY.pre.subset h) (λH h=>h) (λa G h2 h3=>?_) H4 hA iY.rep.toF (xs:=.ref a::xs) (kw:=[]) ?_ rfl λI own s4 G h2 h3 h4=>h dp I own s4 G h2 h3 h4
  ·obtain⟨i,hi,rfl⟩:=mE h3;refine aH (pZ i<|mO hi lY) λp aZ y6=>h2 (bh.getD p.1 0,p.2) (fa.mpr ⟨p,aZ,rfl⟩) ?_
   have G:dp[p.1]?=some dp[i]:=by exact D y6<|bO hi
   have h2:=pS iY.pre G;simp only[c5,h2];rfl
  ·simp only[pI,cM];exact⟨_,xs,rfl,⟨a,pS N2.pre rp,rfl⟩,i2⟩
noncomputable def oV(o:b8):V:=.tup (.type "tuple") [.str<|lQ o.1,.int o.2.1,.int o.2.2.1,.int o.2.2.2.1,.int o.2.2.2.2]
noncomputable def fx(f u:J<|J B)(al:J<|ao×V)(tl:J O)(acc:J b8):J O:=
 bu f u (putL (putL al "opcodes"<|.ref<|7+U (keysOf u)+U tl) "matching_blocks"<|.ref<|11+U (keysOf u)+U tl) (tl++ .list (acc.map oV)::[.list [],.list<|(dU f u).map mV,.list<|(gn f u).map tV,.list<|(gn f u).map mV])
theorem u7{x z:ao}{v:V}{aiy:bC V}(h:mH z l=aiy)(hz:z≠x):mH z (putL l x v)=aiy:=(Br hz).trans h
theorem sX.put(h:sX m al){x:ao}{v:V}(hx:x∈(["opcodes","matching_blocks"]:J ao))(hl:U al<=15):sX m (putL al x v):=by
 have ne:∀z:ao,z∉(["opcodes","matching_blocks"]:J ao)->z≠x:=λz hz e=>hz<|e▸hx;refine⟨u7 h.a (ne _<|by decide),u7 h.b (ne _<|by decide),u7 h.PL (ne _<|by decide),u7 h.PM (ne _<|by decide),u7 h.jK (ne _<|by decide),u7 h.PN (ne _<|by decide),?_⟩;unfold putL;simp only[cK];have:(al.filter λp=> !(p.1==x)).length<=U al:=pE _ _;exact X3 hl this
theorem QF(h:gy<|bu f u al tl):gy (fx f u al tl acc):=by
 have G:gy (bu f u (putL al "opcodes"<|.ref<|7+U (keysOf u)+U tl)<|tl++[.list<|acc.map oV]):=by
  refine HS h (dF ?_) λo ho=>?_
  ·simp only[aK];exact tN _
  ·rw[bw] at ho;subst ho;exact oX λH=>rfl
 have h2:=Qd G;unfold rC at h2;rw[aK,cm] at h2;rw[show 10+U (keysOf u)+(U tl+U [O.list<|acc.map oV])=11+U (keysOf u)+U tl by show _+(_+1)=_;exact E7] at h2;exact h2
theorem H7{t:B}:(fx f u al tl acc)[7+U (keysOf u)+U tl+t]?=(O.list (acc.map oV)::[.list [],.list<|(dU f u).map mV,.list<|(gn f u).map tV,.list<|(gn f u).map mV])[t]?:=by
 unfold fx
 rw[show bu f u (putL (putL al "opcodes" (.ref (7+U (keysOf u)+U tl))) "matching_blocks" (.ref (11+U (keysOf u)+U tl))) (tl++ .list (acc.map oV)::[.list [],.list ((dU f u).map mV),.list ((gn f u).map tV),.list ((gn f u).map mV)])=bu f u (putL (putL al "opcodes" (.ref (7+U (keysOf u)+U tl))) "matching_blocks" (.ref (11+U (keysOf u)+U tl))) tl++(.list (acc.map oV)::[.list [],.list ((dU f u).map mV),.list ((gn f u).map tV),.list ((gn f u).map mV)]) by
  unfold bu;simp only[cm]]
 exact fR<|pi ..
theorem aff{uD:J b8}:(fx f u al tl acc).set (7+U (keysOf u)+U tl) (.list<|uD.map oV)=fx f u al tl uD:=by
 have e:∀acc,fx f u al tl acc=bu f u (putL (putL al "opcodes"<|.ref<|7+U (keysOf u)+U tl) "matching_blocks"<|.ref<|11+U (keysOf u)+U tl) tl++(.list (acc.map oV)::[.list [],.list<|(dU f u).map mV,.list<|(gn f u).map tV,.list<|(gn f u).map mV]):=λacc=>by
  unfold fx bu;simp only[cm]
 simp only[e,e,Ca<|pi ..];rfl
theorem afg:ea (.type "object") "get_matching_blocks"=pure aA:=by rw[typeLookup_type,builtinLookup_eq_fast];kernel_rfl
noncomputable def u8(p:B)(s:B×B):J (ao×V):=[("j",.int s.2),("i",.int s.1),("answer",.ref p),("self",.ref 3)]
section
variable{w:bx}{os:bM}{dr:cV}
end
end
namespace zk
noncomputable def ES(w:bx)(os:bM)(dr:cV)(n:B)(f:J<|J B)(u:J<|J B)(al:J<|ao×V)(tl:J O)(_ _ _ _ _:fD):Prop:=(sX (U<|keysOf u) al)->(U al<=14)->(mH ("matching_blocks":ao) al=some V.none)->(mH ("opcodes":ao) al=some V.none)->(gy<|bu f u al tl)->(U f<64)->(U u<200)->cE (TW w os dr) (n+6) (.ref 210) (bu f u al tl) [.ref 3] (fx f u al tl<|fH f u) (.ref<|7+U (keysOf u)+U tl)
@[irreducible] noncomputable def EX:=nT oN default {} 0 [] [] [] [] () () () () () ES
noncomputable def w:=EX.1
noncomputable def os:=EX.2.1
noncomputable def dr:=EX.2.2.1
noncomputable def n:=EX.2.2.2.1
noncomputable def f:=EX.2.2.2.2.1
noncomputable def u:=EX.2.2.2.2.2.1
noncomputable def al:=EX.2.2.2.2.2.2.1
noncomputable def tl:=EX.2.2.2.2.2.2.2.1
theorem Ee:ES w os dr n f u al tl () () () () ():=λnk hlen HT H8 j9 fU hb=>by
 refine m6 (Gs _) rfl (λxs hx=>?_) λL=>?_
 ·revert xs;exact sF λH=>rfl
 have cl:=qg w.params;have hp:=pi f u al tl;have th:=λacc=>H7 (f:=f) (u:=u) (al:=al) (tl:=tl) (acc:=acc) (t:=0);have QG:=λacc=>H7 (f:=f) (u:=u) (al:=al) (tl:=tl) (acc:=acc) (t:=4);have QH:=λacc uD=>aff (f:=f) (u:=u) (al:=al) (tl:=tl) (acc:=acc) (uD:=uD);have afh:=QF (acc:=fH f u) j9;have QI:∀acc,U (fx f u al tl acc)=7+U (keysOf u)+U tl+5:=λacc=>by
  unfold fx;simp only[pi,aK];rfl
 have QJ:sX (U<|keysOf u) (putL al "opcodes"<|.ref<|7+U (keysOf u)+U tl):=nk.put (.head _) (by exact ly ‹_›);have QK:gy (bu f u (putL al "opcodes"<|.ref<|7+U (keysOf u)+U tl)<|tl++[.list []]):=by
  refine HS j9 (dF ?_) λo ho=>?_
  ·simp only[aK];exact tN _
  ·rw[bw] at ho;subst ho;rfl
 have hg:=ae3 (w:=w) (os:=os) (dr:=dr) (n:=n) QJ (u7 HT<|by decide) QK fU hb;have hL0:rC f u (putL al "opcodes"<|.ref<|7+U (keysOf u)+U tl) (tl++[.list []])=fx f u al tl []:=by
  unfold rC fx
  (simp only[aK,cm,show 10+U (keysOf u)+(U tl+U [O.list []])=11+U (keysOf u)+U tl by show _+(_+1)=_;exact E7])
  rfl
 (simp only[hL0,aK,show 10+U (keysOf u)+(U tl+U [O.list []])=11+U (keysOf u)+U tl by show _+(_+1)=_;exact E7] at hg)
 have QL:=QF (acc:=[]) j9;generalize hq:7+U (keysOf u)+U tl=p at*;have QM:11+U (keysOf u)+U tl=p+4:=by exact X2 hq
 simp only[QM] at hg;refine eE dE (lM (bV (EV.attr (k:=3) (d:=2) (l:=al) ah rfl rfl H8 cl (by kernel_rfl) (by kernel_rfl) BG λH h=>by exact nomatch h) EV.none a9.isnot_none_none)<|jG bz (cF.cons bW<|cF.cons bW cF.nil)<|jG (eI aM) (cF.cons (kX (k:=3) (d:=2) (l:=al) ah rfl rfl cl (by kernel_rfl) (by kernel_rfl) BG<|cX nk.len<|bY rfl)<|cF.cons bW cF.nil) ?_);refine b7 (l':=u8 p (0,0)) (aZ:=bu f u (putL al "opcodes"<|.ref p)<|tl++[.list []]) ?_ ?_ ?_
 ·
  show SubL _ (("answer",V.ref<|U<|bu f u al tl)::_);rw[hp];exact bp rfl
 ·show(bu f u al tl++[O.list []]).set 2 (.attrs<|putL al "opcodes"<|.ref<|U<|bu f u al tl)=_;simp only[hp];unfold bu;simp only[cm,jT,nF,JM,DA]
 have fZ:=Pm f u;have afi:∀o∈bu f u (putL al "opcodes"<|.ref p) (tl++[.list []]),o.bG (λk=>decide (k<U (bu f u (putL al "opcodes"<|.ref p)<|tl++[.list []])))=true:=QK;have m9:U (bu f u (putL al "opcodes"<|.ref p)<|tl++[.list []])=p+1:=by simp only[pi,aK];exact X0 QM
 have kA:U (fx f u al tl [])=p+5:=QI [];refine cg<|jt (K:=λfl aj=>fl= .next/\SubL [("answer",.ref p)] aj.loc/\aj.hp=fx f u al tl (fH f u)) ?_ ?_
 ·refine nV (p+5) (items:=(gn f u).map mV) (am:=⟨u8 p (0,0),fx f u al tl []⟩) (λt aj=>∃c acc,((gn f u).take t).foldl rv ((0,0),[])=(c,acc)/\SubL (u8 p c) aj.loc/\aj.hp=fx f u al tl acc)
   (gS.of (EV.rn (k:=3) (d:=2) (l:=putL al "opcodes"<|.ref p) ah rfl rfl cl (acl _) (Gr _).get rfl (Gr _).fd afg aM (cE.same hg (XZ m9 kA) afi<|(lF _).trans<|V.ur.trans<|dF<|by exact pJ _ _) (by kernel_rfl) (by kernel_rfl) QJ.PN)<|gj.list (k:=p+4)<|QG []) ⟨(0,0),[],rfl,λH H h=>h,rfl⟩ (λt aj H hI=>?_) (aG _) (XY hp) (λt aiy aj hu hI=>?_) (λaj hI=>?_)
  ·refine dh hI λc acc H H hh=>?_
   show aj.hp[p+4]?=_;exact D hh<|QG acc
  ·refine dh hI λcq acc hf ct hh=>?_
   obtain⟨i,j⟩:=cq;simp only[c6] at hu;cases uZ:(gn f u)[t]? with
   |none=>rw[uZ] at hu;exact nomatch hu
   |some b=>
   rw[uZ] at hu;obtain⟨ai,bj,sz⟩:=b;obtain rfl:aiy=mV (ai,bj,sz):=by cases hu;rfl
   clear hu;have m7:((gn f u).take<|t+1).foldl rv ((0,0),[])=rv ((i,j),acc) (ai,bj,sz):=by
    refine D qL<|D uZ<|D jS<|D hf ?_;rfl
   have oS:U acc<=200:=by
    have G:=G5 ((gn f u).take t) ((0,0),[]);rw[hf] at G;have h2:U ((gn f u).take t)<=_:=JE ..;simp only[iQ] at G;exact XX fU G fZ h2
   refine⟨_,c8.norm ct hh<|c8.HA (ph _) (qo _) (HQ _)<|bU.cons bW<|bU.cons bW<|bU.cons bW bU.nil,(XS.hide λK hK=>(cY dE<|b7 (l':=("tag",.str "")::("size",.int sz)::("bj",.int bj)::("ai",.int ai)::u8 p (i,j)) (aZ:=fx f u al tl acc) (bp rfl) rfl ?_))⟩;refine cg<|jt (K:=λfl aj=>fl= .next/\∃tg:ao,tg.length<=10/\SubL (("tag",.str tg)::("size",.int sz)::("bj",.int bj)::("ai",.int ai)::u8 p (i,j)) aj.loc/\aj.hp=fx f u al tl acc/\(h8 i ai j bj=if tg.length=0 then[] else[(if tg="replace" then 1 else if tg="delete" then 2 else 3,i,ai,j,bj)])/\(tg.length=0\/tg="replace"\/tg="delete"\/tg="insert")) ?_ ?_
   ·refine i8 _ (kC (bV ah ah jZ)<|kC (bV ah ah jZ) pX) (λhc=>?_) λhc=>?_
    ·have hc:i<ai/\j<bj:=by simpa using hc
     refine cY dE<|bd ⟨rfl,"replace",by decide,by exact bp rfl,rfl,?_,.inr<|.inl rfl⟩;unfold h8;exact D (aU hc.1)<|D (aU hc.2) rfl
    ·have hc:¬(i<ai/\j<bj):=by intro h;revert hc;simp[h.1,h.2]
     refine cg<|i8 _ (bV ah ah jZ) (λhd=>?_) λhd=>?_
     ·have hd:i<ai:=by simpa using hd
      refine cY dE (bd<|bd ⟨rfl,"delete",by decide,by exact bp rfl,rfl,?_,.inr<|.inr<|.inl rfl⟩);unfold h8;exact D (aU hd)<|D (aE λh=>hc ⟨hd,h⟩) rfl
     ·have hd:¬i<ai:=by simpa using hd
      refine cg<|i8 _ (bV ah ah jZ) (λhe=>?_) λhe=>?_
      ·have he:j<bj:=by simpa using he
       refine cY dE (bd<|bd<|bd ⟨rfl,"insert",by decide,by exact bp rfl,rfl,?_,.inr<|.inr<|.inr rfl⟩);unfold h8;exact D (aE hd)<|D (aU he) rfl
      ·have he:¬j<bj:=by simpa using he
       refine bd (bd<|bd ⟨rfl,"",by decide,by exact bp rfl,rfl,?_,.inl rfl⟩);unfold h8;exact D (aE hd)<|D (aE he) rfl
   intro fl aj dM;refine Tj dM λav tg eU oe fK QN htg=>?_
   clear dM;subst av
   try dsimp only
   refine b7 oe fK<|cg<|jt (K:=λfl aj=>fl= .next/\aj=⟨("tag",.str tg)::("size",.int sz)::("bj",.int bj)::("ai",.int ai)::u8 p (i,j),fx f u al tl<|acc++h8 i ai j bj⟩) (i8 _ (fu ah<|fG.str<|XW eU) (λhk=>?_) λhk=>bd ⟨rfl,?_⟩) ?_
   ·have hk:¬tg.length=0:=by simpa using hk
    refine eE (iE (k:=p) (l:=acc.map oV) ah (th acc) (dL<|an ah<|an ah<|an ah<|an ah<|an ah aM) (th acc)<|by refine D (bg _) ?_;exact MY oS) ?_
    refine bd ⟨rfl,bA (St.mk _)<|D QN<|D (aE hk)<|xH ?_<|QH acc _⟩;refine D eL ?_
    rcases htg with h|rfl|rfl|rfl
    ·exact aY h hk
    ·rfl
    ·rfl
    ·rfl
   ·have hk:tg.length=0:=by simpa using hk
    rw[QN,aU hk,cM]
   intro fl aj hU;refine xA hU λav bE=>?_
   clear hU;subst av bE
   try dsimp only
   have yh:U (h8 i ai j bj)<=1:=by unfold h8;(repeat' split)<;>simp
   refine rf (names:=["i","j"]) (dL<|an (bt ah ah eT)<|an (bt ah ah eT) aM)<|b7 (l':=("size",.int sz)::("bj",.int bj)::("ai",.int ai)::u8 p (ai+sz,bj+sz)) (aZ:=fx f u al tl<|acc++h8 i ai j bj) (bp rfl) rfl<|cg<|i8 _ (fu ah fG.int) (λhk=>?_) λhk=>bd<|bd<|hK _ _ ?_
   ·have hk:¬sz=0:=by simpa using hk
    refine eE (iE (k:=p) (l:=(acc++h8 i ai j bj).map oV) ah (th _) (dL<|an dE<|an ah<|an ah<|an ah<|an ah aM) (th _)<|by refine D (bg _)<|D aK ?_;exact XV yh oS) ?_
    refine bd (bd<|hK _ _ ⟨(ai+sz,bj+sz),acc++h8 i ai j bj++k8 (ai,bj,sz),m7,by exact bp rfl,(D (show k8 (ai,bj,sz)=[(0,ai,ai+sz,bj,bj+sz)] from aE hk) ?_)⟩);refine xH ?_<|QH (acc++h8 i ai j bj) _
    refine D (eL (l₁:=acc++h8 i ai j bj)) ?_
    rfl
   ·have hk:sz=0:=by simpa using hk
    refine⟨(ai+sz,bj+sz),acc++h8 i ai j bj++k8 (ai,bj,sz),m7,by exact bp rfl,?_⟩;rw[show k8 (ai,bj,sz)=[] from aU hk,cM]
  ·refine dh hI λc acc hf ct hh=>?_
   rw[bg,pH] at hf;refine bd ⟨rfl,SubL.cons (ct "answer" _ rfl) SubL.nil,?_⟩;unfold fH;exact D hf hh
 intro fl aj nu;refine eh nu λav ct hh=>?_
 clear nu;subst av;refine b7 ct hh<|j6 ah ⟨_,rfl,?_⟩;have pd:=QI<|fH f u;have:=Conv.drop (q:=p) (hp:=fx f u al tl<|fH f u) (junk:=[]) (v:=.ref p) (XU pd) afh<|dF<|XT pd;rw[cM] at this;exact D hp this
end zk
section
variable{w:bx}{os:bM}{dr:cV}{n:B}
theorem afj:∀{w os dr n f u al tl},zk.ES w os dr n f u al tl () () () () ():=by with_unfolding_all exact oK zk.ES zk.EX rfl zk.Ee _ _ _ _ _ _ _ _ () () () () ()
end
theorem XG.hide{aiz:GC}{R:cU aiz}{q:B}{ss:J fq}{st:St}{items:J It}{Φ:Fl->J It->St->Prop}(h:∀u2:Fl->J It->St->Prop,(∀fl bN st,Φ fl bN st->u2 fl bN st)->XG aiz R q ss st items u2):XG aiz R q ss st items Φ:=h Φ λH H H x=>x
noncomputable abbrev qy(f u:J<|J B):J (B×J V):=[(0,aw f),(1,aw u)]
theorem u9(f u:J<|J B):∀p∈qy f u,p.1<2:=gg ((by decide:0<2)) (fM<|(by decide:1<2))
theorem b9(f u:J<|J B)(t:J O):gH (.list (aw f):: .list (aw u)::t) (qy f u):=gg (⟨rfl,eY⟩)<|fM<|⟨rfl,eY⟩
noncomputable def kJ(f u:J<|J B)(cs:J b8):J O:=[.list<|aw f,.list<|aw u,.list<|cs.map oV]
theorem zl{g:B->bb}{l:J b8}:V.fe g (l.map oV)=true:=oX λH=>rfl
theorem afk{f u:J (J B)}{tail:J O}{cs:J b8}{c:B}{k:az}{l:J (ao×V)}(hc:tail[c]?=some (.list<|cs.map oV))(G:l.lookup ("codes":ao)=some (.ref<|2+c))(h2:l.lookup ("n":ao)=some (.int k)):
  jn 2 ⟨l,.list (aw f):: .list (aw u)::tail⟩ ⟨[("codes",.ref 2),("n",.int k)],kJ f u cs⟩:=by
 exact dh (jn.pick (q:=2) (hp:=[.list<|aw f,.list<|aw u]) (tail:=tail) (sel:=[.list<|cs.map oV]) (aG _) (gg eY<|fM eY) [c] (by simp) (by simp[hc])<|fM zl) λaiA g q1 q2 q3=>xA (q2 0 c rfl) λg1 f1=>.inr ⟨_,aiA,g,q3,c9.cons G g1 (bA V.ref f1.symm)<|c9.cons h2 rfl rfl c9.nil⟩
theorem Cj{f u:J (J B)}{al:J (ao×V)}{tl:J O}{acc:J b8}:fx f u al tl acc= .list (aw f):: .list (aw u)::(fx f u al tl acc).drop 2:=by
 rfl
section
variable{w:bx}{os:bM}{dr:cV}{n:B}
theorem zm{o:b8}:(decide (lQ o.1="equal"))=decide (o.1=0):=by
 match o.1 with
 |0=>rfl
 |1=>decide
 |2=>decide
 |(k+3)=>show decide (("insert":ao)="equal")=decide (k+3=0);rw[fz (by decide:¬("insert":ao)="equal"),fz Yb]
theorem afl(P:aP):nS P "get_opcodes"=some (.ref 210):=by kernel_rfl
theorem afm:ea (.type "object") "get_opcodes"=pure aA:=by rw[typeLookup_type,builtinLookup_eq_fast];kernel_rfl
theorem afn(m:B):sX m (jJ m):=⟨rfl,rfl,rfl,rfl,rfl,rfl,bY rfl⟩
theorem QO(k:B)(o:b8):V.tup (.type "tuple") [.str<|lQ o.1,.int<|max (o.2.1:az)<|o.2.2.1-k,.int o.2.2.1,.int<|max (o.2.2.2.1:az)<|o.2.2.2.2-k,.int o.2.2.2.2]=oV (my k o):=by
 unfold oV my;have e1:max (o.2.1:az) (o.2.2.1-k)=((max o.2.1 (o.2.2.1-k):B):az):=by lia
 have e2:max (o.2.2.2.1:az) (o.2.2.2.2-k)=((max o.2.2.2.1 (o.2.2.2.2-k):B):az):=by lia
 simp only[e1,e2]
theorem QP(k:B)(o:b8):V.tup (.type "tuple") [.str<|lQ o.1,.int o.2.1,.int<|min (o.2.2.1:az)<|o.2.1+k,.int o.2.2.2.1,.int<|min (o.2.2.2.2:az)<|o.2.2.2.1+k]=oV (jL k o):=by
 unfold oV jL;have e1:min (o.2.2.1:az) (o.2.1+k)=((min o.2.2.1 (o.2.1+k):B):az):=by lia
 have e2:min (o.2.2.2.2:az) (o.2.2.2.1+k)=((min o.2.2.2.2 (o.2.2.2.1+k):B):az):=by lia
 simp only[e1,e2]
noncomputable def va(k:B):J (ao×V):=[("group",.ref 3),("nn",.int<|(k:az)+k),("codes",.ref 2),("n",.int k)]
noncomputable def vd(o:b8)(k:B):J (ao×V):=("j2",.int o.2.2.2.2)::("j1",.int o.2.2.2.1)::("i2",.int o.2.2.1)::("i1",.int o.2.1)::("tag",.str<|lQ o.1)::va k
noncomputable def zn(o:b8)(k:B):J (ao×V):=[("j2",.int o.2.2.2.2),("j1",.int o.2.2.2.1),("i2",.int o.2.2.1),("i1",.int o.2.1),("tag",.str<|lQ o.1),("nn",.int<|(k:az)+k),("codes",.ref 2),("n",.int k)]
end
namespace zo
noncomputable def ES(w:bx)(os:bM)(dr:cV)(n:B)(f:J<|J B)(u:J<|J B)(k:B)(_ _ _ _ _ _:fD):Prop:=(U f<64)->(U u<200)->∀L γ sh,XG (zh (TW w os dr) (fdOf<|Bb w.params) 218 L (n+6) γ sh (qy f u) 2<|u9 f u) (cU.nil _) 2 (fBody [5,9]) ⟨(["self","n"]:J ao).zip [.ref 3,.int k],lS f u⟩ ((groups f u k).map λg=>It.obj<|.list<|g.map oV) Done
@[irreducible] noncomputable def EX:=nT oN default {} 0 [] [] 0 () () () () () () ES
noncomputable def w:=EX.1
noncomputable def os:=EX.2.1
noncomputable def dr:=EX.2.2.1
noncomputable def n:=EX.2.2.2.1
noncomputable def f:=EX.2.2.2.2.1
noncomputable def u:=EX.2.2.2.2.2.1
noncomputable def k:=EX.2.2.2.2.2.2.1
theorem Ee:ES w os dr n f u k () () () () () ():=λfU hb=>by
 intro L γ sh;have cl:=qg w.params;have ho:=afj (w:=w) (os:=os) (dr:=dr) (n:=n) (tl:=[]) (afn<|U<|keysOf u) (bY rfl) rfl rfl (wm f u) fU hb;rw[adY] at ho;have th:=H7 (f:=f) (u:=u) (al:=jJ<|U<|keysOf u) (tl:=[]) (acc:=fH f u) (t:=0);have hs:∀acc t,gH (fx f u (jJ<|U<|keysOf u) [] acc++t) (qy f u):=λacc t=>by exact D Cj<|b9 f u _
 have hs0:∀acc,gH (fx f u (jJ<|U<|keysOf u) [] acc) (qy f u):=λacc=>by exact D Cj<|b9 f u _
 have afo:U (lS f u)=7+U (keysOf u):=qk f u;have afp:7+U (keysOf u)<=U (fx f u (jJ<|U<|keysOf u) []<|fH f u):=by
  unfold fx;simp only[pi];exact dZ _ _
 have rK:=acZ f u;simp only[iQ,jy] at ho th;refine jd (aG _)<|X1.expr dE ⟨b9 f u _,?_⟩;refine jd (aG _)<|X1.assign (EV.rn (k:=3) (d:=2) (l:=jJ<|U<|keysOf u) ah rfl rfl cl (afl _) (Gs _).get rfl (Gs _).fd afm aM (cE.same ho (X9 afp afo) (wm f u)<|(lF _).trans<|V.ur.trans<|dF<|by exact pJ _ _) (by kernel_rfl) (by kernel_rfl) rfl) ⟨hs0 _,?_⟩;generalize ve:(if(fH f u)=[] then[(0,0,1,0,1)] else fH f u:J b8)=cs;have afq:U cs<=132:=by
  refine bL ve ?_;split
  ·exact(by decide:1<=132)
  ·exact X8 fU rK
 have QQ:cs≠[]:=by
  refine bL ve ?_;split
  ·exact λh=>by exact nomatch h
  ·assumption
 have hG:codes f u k=kE k (nh k cs):=by unfold codes;exact D ve rfl
 refine jd (aG _)<|jt (K:=λfl aj=>fl= .next/\∃c tail,aj.hp= .list (aw f):: .list (aw u)::tail/\tail[c]?=some (.list<|cs.map oV)/\aj.loc.lookup ("codes":ao)=some (.ref<|2+c)/\aj.loc.lookup ("n":ao)=some (.int k)) ?_ ?_
 ·have hq:7+U (keysOf u)=2+(5+U (keysOf u)):=by exact X7
  refine i8 (decide (fH f u=[])) ?_ (λhe=>?_) λhe=>?_
  ·have hb:decide (fH f u=[])= !!((fH f u).map oV).isEmpty:=by cases fH f u<;>rfl
   exact D hb (TV.not<|fu ah<|fG.list th<|by exact D (bg _)<|X6 fU rK)
  ·have he:fH f u=[]:=dq he;simp only[aU he] at ve;refine cY (eI<|an (dL<|an dE<|an bz<|an bz<|an bz<|an bz aM) aM)<|bd ⟨rfl,U (fx f u (jJ<|U<|keysOf u) []<|fH f u)-2,(fx f u (jJ<|U<|keysOf u) []<|fH f u).drop 2++[.list<|cs.map oV],?_,?_,?_,by rfl⟩
   ·show fx f u (jJ<|U<|keysOf u) [] (fH f u)++_=_
    conv=>lhs;rw[Cj]
    rw[←ve];rfl
   ·rw[dc (by rw[kO];exact aG _),kO,fF];rfl
   ·rw[show 2+(U (fx f u (jJ<|U<|keysOf u) []<|fH f u)-2)=U (fx f u (jJ<|U<|keysOf u) []<|fH f u) by exact tQ _ _];rfl
  ·have he:¬fH f u=[]:=kj he;rw[aE he] at ve;refine bd ⟨rfl,5+U (keysOf u),(fx f u (jJ<|U<|keysOf u) []<|fH f u).drop 2,Cj,?_,?_,by rfl⟩
   ·rw[z8,←hq,th,←ve];rfl
   ·rw[←hq];rfl
 intro fl aj dM;refine Ti dM λav c tail hh hc m9 kA=>?_
 clear dM;subst av;obtain⟨l,hp⟩:=aj;dsimp only at hh m9 kA ⊢;subst hh;refine⟨b9 f u tail,XG.conv (afk hc m9 kA) (aG _) (by show 2<=_+1+1;exact pJ _ _) (b9 f u _) ?_⟩;have wI:=Ox w.params;have wJ:=OA w.params;have Ck:=abd w.params;have Cl:=abi w.params;refine jd (aG _)<|jt (K:=λfl aj=>fl= .next/\SubL [("codes",.ref 2),("n",.int k)] aj.loc/\aj.hp=kJ f u (nh k cs)) ?_ ?_
 ·match cs,QQ with
  |o::l,_=>
   refine i8 (decide (o.1=0)) ?_ (λhe=>?_) λhe=>?_
   ·rw[←zm];exact bV (eJ (eJ ah bz (i6 (k:=2) (l:=(o::l).map oV) rfl (by decide) rfl) gx) bz (gW.tup (j:=0) rfl rfl) sL) dE a9.eq_str
   ·have he:o.1=0:=dq he;refine yp (eJ ah bz (i6 (k:=2) (l:=(o::l).map oV) rfl (by decide) rfl) gx) (c8.tup<|bU.cons bW<|bU.cons bW<|bU.cons bW<|bU.cons bW<|bU.cons bW bU.nil)<|b7 (l':=[("j2",.int o.2.2.2.2),("j1",.int o.2.2.2.1),("i2",.int o.2.2.1),("i1",.int o.2.1),("tag",.str<|lQ o.1),("codes",.ref 2),("n",.int k)]) (aZ:=kJ f u<|o::l) (bp rfl) rfl ?_;refine jG (dL<|an ah<|an (fv (cB (cQ _) wI (dN _) wJ) (an ah<|an (bt ah ah mr) aM) aQ.max2)<|an ah<|an (fv (cB (cQ _) wI (dN _) wJ) (an ah<|an (bt ah ah mr) aM) aQ.max2)<|an ah aM)
     (cF.cons (c8.item (k:=2) (l:=(o::l).map oV) (j:=0) ah bz rfl<|.inl ⟨rfl,by show 0<_+1;exact rY _⟩) cF.nil) ?_
    refine bd ⟨rfl,by exact bp rfl,?_⟩;rw[QO,show nh k (o::l)=my k o::l from by show(if o.1=0 then my k o else o)::l=_;rw[aU he]];rfl
   ·have he:¬o.1=0:=kj he;refine bd ⟨rfl,by exact bp rfl,?_⟩;rw[show nh k (o::l)=o::l from by show(if o.1=0 then my k o else o)::l=_;rw[aE he]]
 intro fl aj hU;refine eh hU λav ct hh=>?_
 clear hU;subst av;refine⟨by dsimp only;rw[hh];exact b9 f u _,XG.norm ct hh ?_ (aG _) (by show 2<=3;decide)<|b9 f u _⟩;have afr:U (nh k cs)<=132:=by rw[Po];exact afq
 have afs:nh k cs≠[]:=λh=>QQ (Dt.mp (by have:=Po (n:=k) (l:=cs);rw[h] at this;exact this.symm));generalize aii:nh k cs=Cm at*;refine jd (aG _)<|jt (K:=λfl aj=>fl= .next/\SubL [("codes",.ref 2),("n",.int k)] aj.loc/\aj.hp=kJ f u (kE k Cm)) ?_ ?_
 ·rcases rR Cm with h|⟨l,o,rfl⟩
  ·exact aY h afs
  rw[rS] at*;have s9:U ((l++[o]).map oV)=U l+1:=by rw[bg,aK];rfl
  have hsq:oE (-1) (U l+1)=some (U l):=by
   unfold oE;simp
   try lia
  have cO:((l++[o]).map oV)[U l]?=some (oV o):=by rw[c6,dc<|aG _,fF];rfl
  have it:∀{C:Cx} {n:B} {st:St},st.hp[2]?=some (.list<|(l++[o]).map oV)->gW C n (.ref 2) (.int<|-1) st (oV o) st "list" "list.__getitem__":=λh=>
   gW.Gy h (by decide) (by rw[s9];lia) (by rw[s9,show(-1+((U l+1:B):az)).toNat=U l by lia];exact cO)
  refine i8 (decide (o.1=0)) ?_ (λhe=>?_) λhe=>?_
  ·rw[←zm];exact bV (eJ (eJ ah (EV.neg bz) (it rfl) gx) bz (gW.tup (j:=0) rfl rfl) sL) dE a9.eq_str
  ·have he:o.1=0:=dq he;refine yp (eJ ah (EV.neg bz) (it rfl) gx) (c8.tup<|bU.cons bW<|bU.cons bW<|bU.cons bW<|bU.cons bW<|bU.cons bW bU.nil)<|b7 (l':=[("j2",.int o.2.2.2.2),("j1",.int o.2.2.2.1),("i2",.int o.2.2.1),("i1",.int o.2.1),("tag",.str<|lQ o.1),("codes",.ref 2),("n",.int k)]) (aZ:=kJ f u<|l++[o]) (bp rfl) rfl ?_;refine jG (dL<|an ah<|an ah<|an (fv (cB (cQ _) Ck (dN _) Cl) (an ah<|an (bt ah ah eT) aM) aQ.min2)<|an ah<|an (fv (cB (cQ _) Ck (dN _) Cl) (an ah<|an (bt ah ah eT) aM) aQ.min2) aM)
    (cF.cons (c8.item (k:=2) (l:=(l++[o]).map oV) (z:= -1) (j:=U l) ah (EV.neg bz) rfl<|.inr ⟨by decide,by rw[s9];exact hsq,by rw[s9];exact tN _⟩) cF.nil) ?_
   refine bd ⟨rfl,by exact bp rfl,?_⟩;rw[QP,G6,aU he];have e:((l++[o]).map oV).set (U l) (oV<|jL k o)=(l++[jL k o]).map oV:=by
    rw[eL,eL,JU,aE (by rw[bg];exact jf _),bg,fF];rfl
   rw[e];rfl
  ·have he:¬o.1=0:=kj he;refine bd ⟨rfl,by exact bp rfl,?_⟩;rw[G6,aE he]
 intro fl aj nu;refine eh nu λav ct hh=>?_
 clear nu;subst av;refine⟨by dsimp only;rw[hh];exact b9 f u _,XG.norm ct hh ?_ (aG _) (by show 2<=3;decide)<|b9 f u _⟩;have H9:U (kE k Cm)<=132:=by rw[Pp];exact afr
 unfold groups;rw[hG];generalize kE k Cm=iM at*;refine jd (aG _)<|X1.assign (bt ah ah eT) ⟨b9 f u _,(jd (aG _)<|X1.assign (eI aM) ⟨b9 f u _,?_⟩)⟩;refine XG.norm (l':=va k) (aZ:=kJ f u iM++[.list []]) (bp rfl) rfl ?_ (aG _) (by show 2<=4;decide)<|b9 f u _
 have wK:∀l:J V,(kJ f u iM++[O.list l])[3]?=some (.list l):=λl=>rfl;have j9:gy (kJ f u iM):=gg eY<|gg eY<|fM zl
 refine ig (dP.for 3 (λt bN aj=>∃cG,bN=(jM k cG (iM.drop t)).map (λg=>It.obj (.list (g.map oV)))/\U cG<=t/\SubL (va k) aj.loc/\aj.hp=kJ f u iM++[.list (cG.map oV)])
  (gS.of ah (gj.list (k:=2) (items:=iM.map oV) rfl)) (b9 f u _) (aG _) ⟨[],by rw[mG],bH _,λH H h=>h,rfl⟩ (λt bN aj H hI=>?_) (aG _) (by decide) (λR' t aiy bN aj hu hI=>?_) (λbN aj hI=>?_))
 ·refine uf hI λcG H H H hh=>?_
  rw[hh];rfl
 ·refine uf hI λcG av kf ct hh=>?_
  clear hI;subst av;rw[c6] at hu;cases ij:iM[t]? with
  |none=>rw[ij] at hu;cases hu
  |some o=>
  rw[ij] at hu;obtain rfl:aiy=oV o:=by cases hu;rfl
  clear hu;have bJ:t<U iM:=(cJ.mp ij).1;have iH:iM.drop t=o::iM.drop (t+1):=by
   rw[vx bJ];rw[bO bJ] at ij;cases ij;rfl
  refine⟨_,c8.norm ct hh<|c8.tup<|bU.cons bW<|bU.cons bW<|bU.cons bW<|bU.cons bW<|bU.cons bW bU.nil,b9 f u _,(XG.hide λΦ hK=>?_)⟩;refine XG.norm (l':=vd o k) (aZ:=kJ f u iM++[.list<|cG.map oV]) (by unfold vd va;exact bp rfl) rfl ?_ (eM 2) (by show 3<=4;decide)<|b9 f u _
  have aft:(decide (lQ o.1="equal")&&(decide (((k:az)+k)<(o.2.2.1:az)-o.2.1)&&true))=decide (o.1=0/\o.2.1+(k+k)<o.2.2.1):=by
   rw[zm,lF,sa,gP,ip,ip,ip];constructor
   ·rintro⟨G,h2⟩;exact⟨G,by lia⟩
   ·rintro⟨G,h2⟩;exact⟨G,by lia⟩
  rw[iH];unfold vd va;refine ig<|dP.if (decide (o.1=0/\o.2.1+(k+k)<o.2.2.1)) (eM 2) (aft▸kC (bV ah dE a9.eq_str) (kC (bV (bt ah ah mr) ah a9.gt_int) pX)) (b9 f u _) (λhc=>?_) (λhc=>?_)
  ·have hc:=dq hc;rw[show jM k cG (o::iM.drop (t+1))=(cG++[jL k o])::jM k [my k o] (iM.drop<|t+1) from aU hc,eu];refine jd (eM 2)<|X1.expr (iE (k:=3) (l:=cG.map oV) ah (wK _) (dL<|an ah<|an ah<|an (fv (cB (cQ _) Ck (dN _) Cl) (an ah<|an (bt ah ah eT) aM) aQ.min2)<|an ah<|an (fv (cB (cQ _) Ck (dN _) Cl) (an ah<|an (bt ah ah eT) aM) aQ.min2) aM) (wK _)<|by rw[bg];exact M1 bJ H9 kf) ⟨b9 f u _,?_⟩;refine XG.norm (l':=vd o k) (aZ:=kJ f u iM++[.list<|(cG++[jL k o]).map oV]) (by unfold vd va;exact bp rfl) ?_ ?_ (eM 2) (by show 3<=4;decide)<|b9 f u _
   ·rw[QP,eL];rfl
   refine ig<|dP.HY (hp:=kJ f u iM) (l':=zn o k) (eM 2) (aG _) ah zl j9 ?_ (b9 f u _) ?_
   ·intro x v h;have hs:SubL (zn o k) (vd o k):=by unfold zn vd va;exact bp rfl
    refine⟨hs x v h,(xE (lookup_mem h) λk' hm=>?_)⟩;have:(zn o k).all (λp=>p.2.bG λk=>decide (k<U (kJ f u iM)))=true:=rfl;exact fW.mp this _ hm
   refine jd (eM 2)<|X1.assign (eI aM) ⟨b9 f u _,?_⟩;refine XG.norm (l':=("group",.ref 3)::zn o k) (aZ:=kJ f u iM++[.list []]) (bp rfl) rfl ?_ (eM 2) (by show 3<=4;decide)<|b9 f u _
   refine jd (eM 2)<|X1.F7 (names:=["i1","j1"]) (dL<|an (fv (cB (cQ _) wI (dN _) wJ) (an ah<|an (bt ah ah mr) aM) aQ.max2)<|an (fv (cB (cQ _) wI (dN _) wJ) (an ah<|an (bt ah ah mr) aM) aQ.max2) aM) ⟨b9 f u _,(jb ?_)⟩
   try dsimp only
   refine XG.norm (l':=[("j1",.int<|max (o.2.2.2.1:az)<|o.2.2.2.2-k),("i1",.int<|max (o.2.1:az)<|o.2.2.1-k),("j2",.int o.2.2.2.2),("i2",.int o.2.2.1),("tag",.str<|lQ o.1),("group",.ref 3),("nn",.int<|(k:az)+k),("codes",.ref 2),("n",.int k)]) (aZ:=kJ f u iM++[.list []]) (bp rfl) rfl ?_ (eM 2) (by show 3<=4;decide)<|b9 f u _
   refine jd (eM 2)<|X1.expr (iE (k:=3) (l:=[]) ah (wK _) (dL<|an ah<|an ah<|an ah<|an ah<|an ah aM) (wK _)<|bH _) ⟨b9 f u _,?_⟩;refine jb<|hK _ _ _ ⟨[my k o],rfl,by show 1<=t+1;exact rY _,by exact bp rfl,?_⟩;rw[QO];rfl
  ·have hc:=kj hc;rw[show jM k cG (o::iM.drop (t+1))=jM k (cG++[o]) (iM.drop<|t+1) from aE hc];refine jb ?_
   refine jd (eM 2)<|X1.expr (iE (k:=3) (l:=cG.map oV) ah (wK _) (dL<|an ah<|an ah<|an ah<|an ah<|an ah aM) (wK _)<|by rw[bg];exact M1 bJ H9 kf) ⟨b9 f u _,?_⟩;refine jb<|hK _ _ _ ⟨cG++[o],rfl,by rw[aK];exact Kj kf,by exact bp rfl,?_⟩;rw[eL];rfl
 ·refine uf hI λcG av kf ct hh=>?_
  clear hI;subst av;rw[bg] at kf ⊢;rw[vC];refine XG.norm ct hh ?_ (aG _) (by show 2<=4;decide)<|b9 f u _
  have fin:∀{aj:St} {bN:J It},bN=[]->XG (zh (TW w os dr) (fdOf<|Bb w.params) 218 L (n+6) γ sh (qy f u) 2<|u9 f u) (cU.nil _) 2 [] aj bN Done:=λe=>jb ⟨e,.inl rfl⟩
  match cG,kf with
  | [],_=>
   exact ig (dP.if false (aG _) (jm<|fu ah<|fG.list (k:=3) (l:=[]) rfl<|bH _) (b9 f u _) (λh=>by cases h) (λH=>jb<|fin rfl))
  | [o],_=>
   refine ig (dP.if (!decide (o.1=0)) (aG _) (kq (fu ah<|fG.list (k:=3) (l:=[oV o]) rfl<|bY rfl)<|fJ (kC (TV.not<|kq (bV (fv (cB (cQ _) (qa _) (dN _)<|qc _) (an ah aM)<|p0 (k:=3) (l:=[oV o]) rfl<|by show 1<_;decide) bz mh)<|kC (bV (eJ (eJ ah bz (i6 (k:=3) (l:=[oV o]) rfl (by decide) rfl) gx) bz (gW.tup (j:=0) rfl rfl) sL) dE a9.eq_str) pX) pX)<|by rw[zm,lF,lF]) (b9 f u _) (λhc=>?_) (λhc=>?_))
   ·have hc:¬o.1=0:=by simpa using hc
    rw[show jM k [o] []=[[o]] from aE λh=>h.elim (λh=>by cases h) λh=>hc h.2];refine ig<|dP.HY (hp:=kJ f u iM) (l':=[]) (aG _) (by show 2<=3;decide) ah rfl j9 (λx v h=>by cases h) (b9 f u _) ?_;exact jb<|fin rfl
   ·have hc:o.1=0:=by simpa using hc
    rw[show jM k [o] []=[] from aU<|.inr ⟨rfl,hc⟩];exact jb<|fin rfl
  |o::o2::l,kf=>
   have B0:U ((o::o2::l).map oV)=(U l:az)+2:=by rw[bg];rfl
   refine ig (dP.if true (aG _) (kq (fu ah<|fG.list (k:=3) (l:=(o::o2::l).map oV) rfl<|by rw[bg];exact X5 H9 kf)<|kC (TV.not<|jm<|fJ (bV (fv (cB (cQ _) (qa _) (dN _)<|qc _) (an ah aM)<|p0 (k:=3) (l:=(o::o2::l).map oV) rfl<|by rw[bg];lia) bz mh)<|by rw[B0];exact xk.mpr<|by lia) pX) (b9 f u _) (λH=>?_) (λhc=>by cases hc));rw[show jM k (o::o2::l) []=[o::o2::l] from aE λh=>h.elim (λh=>by cases h) λh=>aY h.1<|by show ¬(U l+1+1=1);exact X4];refine ig<|dP.HY (hp:=kJ f u iM) (l':=[]) (aG _) (by show 2<=3;decide) ah zl j9 (λx v h=>by cases h) (b9 f u _) ?_;exact jb<|fin rfl
end zo
section
variable{w:bx}{n k1:B}{prog:du}{E:ak->ay->Prop}{aiw:ax}{S:ao->bb}{p1 p2:cN}
section
variable{os:bM}{dr:cV}
theorem afu:∀{w os dr n f u k},zo.ES w os dr n f u k () () () () () ():=by with_unfolding_all exact oK zo.ES zo.EX rfl zo.Ee _ _ _ _ _ _ _ () () () () () ()
end
theorem QR{A:bS}{s:ay}{z:ao}{t:jg}{Q:bb->ay->Prop}(hS:s.heap.SetOf (gN prog w) aiw S n)(hb:n+1<scanBound)
  (h:∀h' k,iV aiw s.heap h'->h'.SetOf (gN prog w) aiw (λk'=>S k'||decide (k'=z)) (if S z then n else n+1)->Q (!S z) {s with heap:=h',toks:=k}):aF (aN prog w) A (setAdd aiw<|.str z t) Q E s:=by
 exact wpAny_holding (wpAny_bind<|(gN prog w).pyHash (sO z t)<|wpAny_setAddHashed_of (s:={s with toks:=s.toks+1}) (sO z t) (by rfl) hS hb λh' ux B7=>h h' _ ux B7)
theorem afv{A:bS}{s:ay}{Q:fD->ay->Prop}(hS:s.heap.SetOf (gN prog w) aiw S n)
  (h:∀h',iV aiw s.heap h'->h'.SetOf (gN prog w) aiw S n->Q () {s with heap:=h'}):aF (aN prog w) A (setUnled aiw) Q E s:=by
 refine Ll hS λo es ep t ho hex bR=>q8 bR λhd Ia pe hb hf hn=>?_
 have hf':({t with led:=false}:SetTable).fits es.size=true:=by cases t;exact hf
 refine wpAny_bind<|wpAny_setState_of ho hd hf<|wpAny_storeSet_of ho hd ?_<|fits_of_scanBound hb;obtain⟨_,hS⟩:=SetOf_store (knd:=gN prog w) ho hex hd Ia pe hb hf';rw[hn] at hS;exact h _ (iA s.heap aiw<|bc.putSet es {t with led:=false}) hS
theorem afw{h h':bn}(hS:h.SetOf (gN prog w) aiw S n)(e:∀o,h.get? aiw=some o->h'.get? aiw=some o):h'.SetOf (gN prog w) aiw S n:=
 Lj hS λo es ep t r=>⟨o,es,ep,t,e o r.1,r.2⟩
section
variable{C:Cx}{st am:St}
theorem TV.QS{l:bB}{c1 c2 z:ao}{k2:B}{sp p:cN}(G:EV C n l st (.str z) am)(Cn:∃c o vs,C.env.code= .ref c/\C.top.get? c=some o/\o.data= .fields vs)
  (hm:aO (behindInMarks .In (.Set [.Constant (.str c1) k1 p1,.Constant (.str c2) k2 p2] 0 sp)=true) a8):
  TV C n (.Compare l [.In] [.Set [.Constant (.str c1) k1 p1,.Constant (.str c2) k2 p2] 0 sp] p) st (decide (z=c1)||decide (z=c2)) am:=.mk λA s ρ Q hA R h=>by
 refine W.kdi_test hm<|G.run A s ρ _ hA R λaC x s1 N1 i1=>?_;obtain⟨tx,rfl⟩:=i1;have R1:=N1.rep;rw[arm_eval_Set];refine wpAny_bind<|wpAny_standAt ?_;have main:∀{Q:bb->ay->Prop},(∀b,Q b s1)->aF (aN C.prog C.w) A (inMainModule C.env) Q bq s1:=λh=>by
  refine lH Cn λc o vs e ho hd=>?_
  unfold inMainModule;refine D e ?_
  split
  ·exact wpAny_pure<|h _
  ·refine wpAny_bind<|wpAny_fieldsOf (R1.led.top _ _ ho) hd ?_;split
   ·exact wpAny_bind<|wpAny_askSetting<|wpAny_pure<|h _
   ·exact wpAny_pure<|h _
 refine wpAny_bind<|main λb=>(D (W.kds_star _ rfl)<|D gM ?_);refine W.kds_core (ts:=(evalEach [.Constant (.str c1) k1 p1,.Constant (.str c2) k2 p2] C.env).map λt=>do let v ←t;nK sp;pure v) rfl rfl (bY rfl) (by rw[gM];rfl) λled=>?_
 let H:bc:={cls:=.type "set",dict:=aA,data:=.set #[] 0 (.fresh 0 0 led),slots:=#[]}
 have hS0:(s1.heap.push H).SetOf (gN C.prog C.w) s1.heap.objs.size (λH=>false) 0:=
  ⟨_,#[],0,_,ew _ rfl,⟨rfl,rfl,rfl⟩,rfl,λe he=>by simp at he,λk=>by simp,by decide,by cases led<;>decide,rfl⟩
 refine W.kds_all sp _ _ _ ?_
 have N2:=bk.push R1 H s1.toks;have nD:s1.heap.objs.size∉aC:=R1.led.Bg;have nL:s1.heap.objs.size≠C.env.locals:=by
  exact aH R1.loc λmm bT H=>(kl bT.lt)
 refine(dE).run A _ aC _ hA N2.rep λdp y1 s3 N3 i3=>?_
 obtain⟨t1,rfl⟩:=i3;refine(dE).run A _ dp _ hA N3.rep λeX y2 s4 N4 i4=>?_
 obtain⟨t2,rfl⟩:=i4;have rg:=N3.trans N4;have QT:=afw hS0 λo e=>rg.keep _ o e nD nL;have N14:=N2.trans rg;refine KT<|QR QT (by decide) λh5 t5 QU QV=>?_;refine KT<|QR QV (by show 0+1+1<scanBound;decide) λh6 t6 QW QX=>?_;refine W.kds_fill_nil rfl<|W.kdi_mark<|afv QX λh7 uQ hS7=>(wpAny_inSet_of (sO z tx) rfl hS7<|wpAny_truthy_bool ?_);have QY:s1.heap.get? s1.heap.objs.size=aA:=uu;have Ib:∀{h h':bn} {S:ao->bb} {k:B},h.SetOf (gN C.prog C.w) s1.heap.objs.size S k->iV s1.heap.objs.size h h'->bF h h':=λhS sb=>by
  exact Ll hS λo es ep t ho hex H=>(jY sb ho<|q9 hex.1)
 have nD4:s1.heap.objs.size∉eX:=λhm=>by
  have:=rg.fresh _ hm nD;rw[show(s1.heap.push H).get? s1.heap.objs.size=some H from ew _ rfl] at this;exact nomatch this
 show Q ((false||decide (z=c1))||decide (z=c2)) _;rw[Av];refine h eX _<|bk.own (own:=[s1.heap.objs.size]) (N1.trans N14) (λa ha=>?_) (λa ha=>?_) (λb o hb e=>?_) ((Ib QT QU).trans<|(Ib QV QW).trans<|Ib QX uQ) _
 ·rw[bw] at ha;subst ha;refine⟨nD4,nL,?_⟩;cases e:C.top.get? s1.heap.objs.size with
  |none=>rfl
  |some o=>have:=R1.led.top _ o e;rw[QY] at this;exact nomatch this
 ·rw[bw] at ha;subst ha;cases e:s.heap.get? s1.heap.objs.size with
  |none=>rfl
  |some o=>have:=N1.keep _ o e (λq=>nD<|N1.pre.subset q) nL;rw[QY] at this;exact nomatch this
 ·have hb:b≠s1.heap.objs.size:=λq=>hb<|bw.mpr q;exact(uQ.2 b hb).trans<|(QW.2 b hb).trans<|(QU.2 b hb).trans e
end
section
variable{os:bM}{dr:cV}
noncomputable def afx(P:aP):bD ak:=match (Ba P).data with| .seq x _=>x|_=>#[]
theorem afy{f u:J (J B)}{k:B}(fU:U f<64)(hb:U u<200):jQ (TW w os dr) (n+6) 218 (lS f u) [.ref 3,.int k] [] (qy f u) ((groups f u k).map λg=>It.obj (.list (g.map oV))):=.mk λhA hL aV ii hQ=>QB (u9 f u) (by show 2<=_+1+1;exact pJ _ _) (b9 f u _) (sK w.params).get (sK w.params).fd rfl (sK w.params).code (noLimit _) (λA E ρ s xs kw Q hL aV ii hq=>by
  obtain rfl:kw=[]:=w9.mp ii;rw[pI,cM] at aV;refine cD aV λx r bE i1 bR=>?_
  clear aV;subst bE;refine cD bR λy r' uI i2 i3=>?_
  clear bR;subst uI;obtain rfl:r'=[]:=i3;have h3:(fdOf<|Bb w.params).defaults= .ref 211:=by kernel_rfl
  have h4:(bZ w.params).get? 211=some (Ba w.params):=by kernel_rfl
  have h5:(Ba w.params).data= .seq (afx w.params) 0:=by kernel_rfl
  exact D1 (binds:=(["self","n"]:J ao).zip [x,y]) h3 (hL.top _ _ h4) h5 (bindK_eq _ _) rfl _ _ _ _ (hq [x,y] s.heap s.toks (λH H e=>e) (aG _) ⟨x,_,rfl,i1,y,_,rfl,i2,rfl⟩)) (sK w.params).nd (sK w.params).cell (sK w.params).loc (afu fU hb) hA hL aV ii hQ
theorem afz:ea (.type "object") "get_grouped_opcodes"=pure aA:=by rw[typeLookup_type,builtinLookup_eq_fast];kernel_rfl
theorem afA{o:b8}:(decide (lQ o.1="replace")||decide (lQ o.1="delete"))=decide (o.1=1\/o.1=2):=by
 match o.1 with
 |0=>decide
 |1=>decide
 |2=>decide
 |(k+3)=>
  show(decide (("insert":ao)="replace")||decide (("insert":ao)="delete"))=_;rw[fz (by decide:¬("insert":ao)="replace"),fz (by decide:¬("insert":ao)="delete"),fz Yn];rfl
theorem afB{o:b8}:(decide (lQ o.1="replace")||decide (lQ o.1="insert"))=decide (o.1=1\/3<=o.1):=by
 match o.1 with
 |0=>decide
 |1=>decide
 |2=>decide
 |(k+3)=>
  show(decide (("insert":ao)="replace")||decide (("insert":ao)="insert"))=_;rw[fz (by decide:¬("insert":ao)="replace"),dF (by decide:("insert":ao)="insert"),dF Ym];rfl
noncomputable def Ic(d:J B):J B:=if d=[] then[] else 9::d
theorem QZ{C:Cx}{st:St}{d:J B}{x:ao}{p3 p4 p5 p6 p7:cN}{k2:B}(hz:U d<=1000)(hx:st.loc.lookup x=some (.str<|tx d))
  (lL:(p3.endLine==p5.line)=true) (hk:aO (C.env.scope.kind= .function) a8) (hn:aO (C.env.kindOf x=some .local) a8) (hd:aO ((x==("__debug__":ao))=false) aD._auto_1):
  EV C n (.IfExp (.Name x p1) (.Call (.Attribute (.Constant (.str "\t{}") k1 p2) "format" p3) [.Name x p4] [] p5) (.Constant (.str "") k2 p6) p7) st (.str<|tx<|Ic d) st:=by
 have hl:(tx d).length=U d:=jH d;refine EV.yv (c:=(tx d).length !=0) (fu (ah hx hk hn hd)<|fG.str<|Yl hl hz) (λhc=>?_) λhc=>?_
 ·have hc:d≠[]:=λe=>by rw[hl,e] at hc;exact nomatch hc
  simp only[show Ic d=9::d from aE hc];exact jq dE nW (an (ah hx hk hn hd) aM) (aQ.ac1<|um hz) nQ ua ub rfl rfl lL
 ·have hc:d=[]:=by
   cases d with
   |nil=>rfl
   |cons a d=>rw[hl] at hc;exact Au hc
  exact D (show Ic d=[] from aU hc) dE
noncomputable def lp(f1 f2 d1 d2 e:J B)(k:B):J (ao×V):=[("lineterm",.str<|tx e),("n",.int k),("tofiledate",.str<|tx d2),("fromfiledate",.str<|tx d1),("tofile",.str<|tx f2),("fromfile",.str<|tx f1),("b",.ref 1),("a",.ref 0)]
noncomputable def iJ(f u:J<|J B):J O:=[.list<|aw f,.list<|aw u]
theorem Q0(n i:B):qT n (i:az)=min i n:=by
 unfold qT;refine D (aE<|by lia) ?_
 omega
theorem Q1{α:Type}(l:J α)(i j:B):mZ l (some (i:az)) (some (j:az))=dw l i j:=by
 unfold mZ dw;show(l.drop<|qT (U l) (i:az)).take (qT (U l) (j:az)-qT (U l) (i:az))=_;simp only[Q0,Q0]
 by_cases hi:i<=U l
 ·refine D (tO hi) ?_
  by_cases hj:j<=U l
  ·exact D (tO hj) rfl
  ·refine D (DR<|AT hj) ?_
   rw[qK (by rw[kO];exact aG _),qK<|by rw[kO];exact Yk hj]
 ·simp only[DR<|lz<|tM hi,vC,Jz<|AT hi];simp
theorem Q2(l:J<|J B)(i j:B):dw (aw l) i j=aw (dw l i j):=by
 unfold dw aw;simp only[←J.map_drop,←JY]
theorem a9.og{C:Cx}{st:St}{a b:J B}(h:U a+U b<=16777216):a9 C n (pL .Add) (.str<|tx a) (.str<|tx b) st (.str<|tx<|a++b) st:=by
 have:=nY (C:=C) (n:=n) (st:=st) (a:=tx a) (b:=tx b) (by simp only[kY,jH,aK];exact mn h);rwa [kY] at this
noncomputable abbrev gU(w:bx)(os:bM)(dr:cV)(n:B)(L γ:B)(sh:J<|ax×J V)(f u:J<|J B):GC:=zh (TW w os dr) (fdOf<|xU w.params) 261 L n γ sh (qy f u) 2<|u9 f u
theorem Id{L γ:B}{sh:J (ax×J V)}{f u ll:J (J B)}{R:cU (gU w os dr n L γ sh f u)}{q kx i j c:B}{X Ix Jx sg:ao}{p3 p4 p5 p6 p7 p8 p9 p10 p11 p12:cN}{l l0:J (ao×V)}{tl:J O}{rest:J It}{Φ:Fl->J It->St->Prop}
  (hq:2<=q) (wF:q<=U tl+2) (hX:l.lookup X=some (.ref kx)) (hI:l.lookup Ix=some (.int i)) (hJ:l.lookup Jx=some (.int j)) (hk:(.list (aw f):: .list (aw u)::tl:J O)[kx]?=some (.list<|aw ll)) (hz:U ll<=1000) (hlz:∀x∈ll,U x<=1000) (uS:sg=tx [c])
  (hl:SubL l0 l) (H6:l0.lookup ("line":ao)=aA) (iK:∀l',SubL l0 l'->Φ .next rest ⟨l',.list (aw f):: .list (aw u)::(tl++[.list<|aw<|dw ll i j])⟩)
  (nX:aO ((gU w os dr n L γ sh f u).C.env.kindOf X=some .local) a8) (nI:aO ((gU w os dr n L γ sh f u).C.env.kindOf Ix=some .local) a8) (nJ:aO ((gU w os dr n L γ sh f u).C.env.kindOf Jx=some .local) a8)
  (dX:aO ((X==("__debug__":ao))=false) aD._auto_1) (dI:aO ((Ix==("__debug__":ao))=false) aD._auto_1) (dJ:aO ((Jx==("__debug__":ao))=false) aD._auto_1):
  dP (gU w os dr n L γ sh f u) R q (.For (.Name "line" p1) (.Subscript (.Name X p2) (.Slice (some<|.Name Ix p3) (some<|.Name Jx p4) aA p5) p6) [.Expr (.Yield (some<|.BinOp (.Constant (.str sg) k1 p7) .Add (.Name "line" p8) p9) p10) p11] [] p12)
   ⟨l,.list (aw f):: .list (aw u)::tl⟩ (((dw ll i j).map λx=>It.val<|.str<|tx<|c::x)++rest) Φ:=by
 have qf:∀x∈dw ll i j,U x<=1000:=λx hx=>hlz x<|JF<|Dx hx;have afC:EV (gU w os dr n L γ sh f u).C n (.Subscript (.Name X p2) (.Slice (some<|.Name Ix p3) (some<|.Name Jx p4) aA p5) p6) ⟨l,.list (aw f):: .list (aw u)::tl⟩ (.ref<|U tl+2) ⟨l,.list (aw f):: .list (aw u)::(tl++[.list<|aw<|dw ll i j])⟩:=by
  have h:=EV.slice (C:=(gU w os dr n L γ sh f u).C) (n:=n) (st:=⟨l,.list (aw f):: .list (aw u)::tl⟩) (am:=⟨l,.list (aw f):: .list (aw u)::tl⟩) (ba:=⟨l,.list (aw f):: .list (aw u)::tl⟩) (ce:=⟨l,.list (aw f):: .list (aw u)::tl⟩) (k:=kx) (a:=some (i:az)) (b:=some (j:az)) (p:=p5) (pos:=p6) (ah (p:=p2) hX rfl nX dX) (PV.some<|ah (p:=p3) hI rfl nI dI) (PV.some<|ah (p:=p4) hJ rfl nJ dJ) (l:=aw ll) hk (by exact D (en _)<|E8 hz);rw[Q1,Q2] at h;exact h
 have cO:(.list (aw f):: .list (aw u)::(tl++[.list<|aw<|dw ll i j]):J O)[U tl+2]?=some (.list<|aw<|dw ll i j):=by
  show(tl++[O.list<|aw<|dw ll i j])[U tl]?=_;simp only[dc<|aG _,fF];rfl
 refine dP.for (U tl+3) (λt bN aj=>bN=(((dw ll i j).drop t).map λx=>It.val<|.str<|tx<|c::x)++rest/\SubL l0 aj.loc/\aj.hp= .list (aw f):: .list (aw u)::(tl++[.list<|aw<|dw ll i j]))
  (gS.of afC<|gj.list cO) (b9 f u _) hq ⟨by simp only[mG],hl,rfl⟩ (λt bN aj H iZ=>?_) (aG _) (by exact ly ‹_›) (λR' t aiy bN aj hu iZ=>?_) (λbN aj iZ=>?_)
 ·exact D iZ.2.2 cO
 ·refine eh iZ λav ct hh=>?_
  clear iZ;subst av;unfold aw at hu;simp only[c6] at hu;cases ij:(dw ll i j)[t]? with
  |none=>rw[ij] at hu;exact nomatch hu
  |some x=>
  rw[ij] at hu;obtain rfl:aiy= .str (tx x):=by cases hu;rfl
  clear hu;have bJ:t<U (dw ll i j):=(cJ.mp ij).1;have hxl:U x<=1000:=qf x<|dT ij;have iH:(dw ll i j).drop t=x::(dw ll i j).drop (t+1):=by
   refine D (vx bJ) ?_
   rw[bO bJ] at ij;cases ij;rfl
  have eo:gH aj.hp (qy f u):=by exact D hh<|b9 f u _
  refine⟨_,bW,eo,(XG.hide λΦ hK=>(D iH<|D eu<|D jT ?_))⟩;refine ig<|dP.Cd (by show 2<=_;exact pJ _ _) (bt (EV.tx [c] uS) ah<|a9.og<|by simp;exact Yj hxl) rfl eo ?_;refine jb<|hK _ _ _ ⟨rfl,λz v Ie=>?_,hh⟩;have cw:z≠("line":ao):=λe=>by rw[e,H6] at Ie;cases Ie
  exact(Br cw).trans<|ct z v Ie
 ·refine eh iZ λav ct hh=>?_
  clear iZ;subst av;refine D (en _)<|D vC ?_;obtain⟨l',hp⟩:=aj;dsimp only at hh;subst hh;exact iK l' ct
theorem Co{a b:az}(ha:a.natAbs<2 ^ 60)(hb:b.natAbs<2 ^ 60):U (lN a b)<=5000:=by
 have G:=GQ (i:=a) (by lia);have h2:=GQ (i:=b) (by lia);have h3:=GQ (i:=a+1) (by omega);unfold lN;split
 ·exact D aK<|Yi G
 ·split
  ·exact Yh h3
  ·simp only[aK,aK];exact Yg h2 h3
theorem afD{g:J b8}(h:g≠[]):(g.map oV)[0]?=some (oV<|g.headD jw):=by
 cases g with
 |nil=>exact aY rfl h
 |cons o l=>rfl
theorem afE{g:J b8}(h:g≠[]):(g.map oV)[U g-1]?=some (oV<|g.getLastD jw):=by
 refine D (c6) ?_
 rcases rR g with h'|⟨l,o,rfl⟩
 ·exact aY h' h
 ·simp only[rS,aK,J.getLastD_concat];show bC.map oV (l++[o])[U l+1-1]?=_;simp only[DQ,dc<|aG _,fF];rfl
noncomputable def oh(f1 f2 d1 d2 e:J B)(k:B):J (ao×V):=("group",.ref 2)::("started",.bool true)::lp f1 f2 d1 d2 e k
noncomputable def wL(o:b8)(f1 f2 d1 d2 e:J B)(k:B):J (ao×V):=("j2",.int o.2.2.2.2)::("j1",.int o.2.2.2.1)::("i2",.int o.2.2.1)::("i1",.int o.2.1)::("tag",.str<|lQ o.1)::oh f1 f2 d1 d2 e k
end
end
namespace zp
noncomputable def ES(w:bx)(os:bM)(dr:cV)(n:B)(f:J<|J B)(u:J<|J B)(k:B)(f1:J B)(f2:J B)(d1:J B)(d2:J B)(e:J B)(_:fD):Prop:=(U f<64)->(U u<200)->(U f1<=1000/\U f2<=1000/\U d1<=1000/\U d2<=1000/\U e<=1000)->((∀x∈f,U x<=1000)/\∀x∈u,U x<=1000)->(∀g∈groups f u k,GoodG g)->∀L γ sh,XG (gU w os dr (n+8) L γ sh f u) (cU.nil _) 2 (fBody [7]) ⟨(["a","b","fromfile","tofile","fromfiledate","tofiledate","n","lineterm"]:J ao).zip [.ref 0,.ref 1,.str<|tx f1,.str<|tx f2,.str<|tx d1,.str<|tx d2,.int k,.str<|tx e],iJ f u⟩
   ((fw f u k f1 f2 d1 d2 e).map λx=>It.val<|.str<|tx x) Done
@[irreducible] noncomputable def EX:=nT oN default {} 0 [] [] 0 [] [] [] [] [] () ES
noncomputable def w:=EX.1
noncomputable def os:=EX.2.1
noncomputable def dr:=EX.2.2.1
noncomputable def n:=EX.2.2.2.1
noncomputable def f:=EX.2.2.2.2.1
noncomputable def u:=EX.2.2.2.2.2.1
noncomputable def k:=EX.2.2.2.2.2.2.1
noncomputable def f1:=EX.2.2.2.2.2.2.2.1
noncomputable def f2:=EX.2.2.2.2.2.2.2.2.1
noncomputable def d1:=EX.2.2.2.2.2.2.2.2.2.1
noncomputable def d2:=EX.2.2.2.2.2.2.2.2.2.2.1
noncomputable def e:=EX.2.2.2.2.2.2.2.2.2.2.2.1
theorem Ee:ES w os dr n f u k f1 f2 d1 d2 e ():=λfU hb hz hl hG=>by
 intro L γ sh;have cl:=qg w.params;have ck:=acB (w:=w) (os:=os) (dr:=dr) (n:=n+7) (l1:=f) (l2:=u) (s1:=tx f1) (s2:=tx f2) (s3:=tx d1) (s4:=tx d2) (s5:=tx e) (M3 fU)<|M2 hb;have Ig:gy (iJ f u):=gg eY<|fM eY;refine jd (aG _)<|X1.expr dE ⟨b9 f u _,(jd (aG _)<|X1.expr (jD (hH (cQ _)<|aa8 _) (Gk _).get (Gk _).fd (an ah<|an ah<|an ah<|an ah<|an ah<|an ah<|an ah aM)<|cE.same ck (aG _) Ig rfl) ⟨b9 f u _,(jd (aG _)<|X1.assign EV.bool ⟨b9 f u _,(XG.norm (l':=("started",.bool false)::lp f1 f2 d1 d2 e k) (aZ:=iJ f u) (bp rfl) rfl ?_ (aG _) (aG _)<|b9 f u _)⟩)⟩)⟩
 refine se hz λHU hz2 hz3 hz4 Ih=>ig (dP.ae8 2 (λt bN aj=>bN=(((if t=0/\groups f u k≠[] then[BX [45,45,45,32] f1 d1 e,BX [43,43,43,32] f2 d2 e] else[])++((groups f u k).drop t).flatMap (rx f u e)).map λx=>It.val (.str (tx x)))/\SubL (("started",.bool (decide (0<t)))::lp f1 f2 d1 d2 e k) aj.loc/\aj.hp=iJ f u) (objs:=(groups f u k).map λg=>.list (g.map oV))
  (λi h=>h) QA (gM▸(pk.rn (k:=3) (d:=2) (l:=jJ (U (keysOf u))) (EV.qe (hH (cQ _) (abb _)) (an EV.none (an ah (an ah aM))) (gX.cls (GO _)) (gY.of (ae0 hb))) rfl rfl cl (acm _) (sK _).get rfl (sK _).fd afz (an ah aM) (afy fU hb) ⟨_,rfl⟩ Ig (λp hp=>by
   unfold lp at hp;revert p;simp only[J.forall_mem_cons]
   exact⟨rfl,rfl,rfl,rfl,rfl,rfl,rfl,rfl,rfl,λH h=>by exact nomatch h⟩) (λi hi=>by
   match i,hi with
   |0,_=>exact⟨_,.head _,rfl⟩
   |1,_=>exact⟨_,.tail _ (.head _),rfl⟩) (u9 f u) (b9 f u _) (by kernel_rfl) (by kernel_rfl))) (aG _) ⟨?_,λH H h=>h,rfl⟩ (aG _) (λR' t o bN aj hu hI=>?_) (λbN aj hI=>?_))
 ·unfold fw
  by_cases hg:groups f u k=[]
  ·rw[aU hg,aE λh=>h.2 hg,mG]
  ·rw[aE hg,aU ⟨rfl,hg⟩,mG]
 ·refine eh hI λav ct hh=>?_
  clear hI;subst av;obtain⟨l,hp⟩:=aj;subst hh;simp only[c6] at hu;cases ij:(groups f u k)[t]? with
  |none=>rw[ij] at hu;exact nomatch hu
  |some g=>
  rw[ij] at hu;obtain rfl:o= .list (g.map oV):=by cases hu;rfl
  clear hu;have bJ:t<U (groups f u k):=(cJ.mp ij).1;have cw:groups f u k≠[]:=λe=>by rw[e] at bJ;cases bJ
  have iH:(groups f u k).drop t=g::(groups f u k).drop (t+1):=by
   refine D (vx bJ) ?_
   rw[bO bJ] at ij;cases ij;rfl
  have afF:=hG g<|dT ij;refine⟨_,bW,b9 f u _,(XG.hide λΦ hK=>?_)⟩;refine XG.norm (l':=("group",.ref 2)::("started",.bool<|decide (0<t))::lp f1 f2 d1 d2 e k) (aZ:=iJ f u++[.list<|g.map oV]) (SubL.cons rfl λx v h=>?_) rfl ?_ (aG _) (by show 2<=3;decide)<|b9 f u _
  ·have uE:x≠("group":ao):=λe'=>by
    subst e';have h0:mH ("group":ao) (("started",V.bool<|decide (0<t))::lp f1 f2 d1 d2 e k)=aA:=by rfl
    rw[h0] at h;cases h
   exact(Br uE).trans<|ct x v h
  clear ct;refine D iH<|D e9 ?_
  refine ig (dP.mono (u2:=λfl jP aj=>fl= .next/\jP=((rx f u e g++((groups f u k).drop (t+1)).flatMap (rx f u e)).map λx=>It.val (.str (tx x)))/\SubL (("group",.ref 2)::("started",.bool true)::lp f1 f2 d1 d2 e k) aj.loc/\aj.hp=iJ f u++[.list (g.map oV)])
   (dP.if (!(decide (0<t))) (aG _) (TV.not (fu ah kR)) (b9 f u _) (λhc=>?_) (λhc=>?_)) ?_)
  ·have ht:t=0:=by
    cases t with
    |zero=>rfl
    |succ t=>simp at hc
   rw[aU ⟨ht,cw⟩,jT,jT,nF,eu,eu];refine jd (aG _)<|X1.assign EV.bool ⟨b9 f u _,(jd (aG _)<|X1.assign (QZ hz3 rfl rfl) ⟨b9 f u _,(jd (aG _)<|X1.assign (QZ hz4 rfl rfl) ⟨b9 f u _,?_⟩)⟩)⟩;have Ij:U (if d1=[] then[] else 9::d1)<=1001:=by split<;>simp;assumption
   have hd2:U (if d2=[] then[] else 9::d2)<=1001:=by split<;>simp;assumption
   exact ig (dP.Cd (aG _) (jq dE nW (an ah<|an ah<|an ah aM) (aQ.ac2 (um HU) (M5 Ij)<|um Ih) nQ ua ub) rfl (b9 f u _)<|ig<|dP.Cd (aG _) (jq dE nW (an ah<|an ah<|an ah aM) (aQ.ac3 (by exact um hz2) (by exact M5 hd2)<|by exact um Ih) nQ ua ub) rfl (b9 f u _)<|jb ⟨rfl,rfl,by exact bp rfl,rfl⟩)
  ·have ht:0<t:=by simpa using hc
   rw[aE (λh=>by exact Ye ht h.1),nF];exact jb ⟨rfl,rfl,(D (dF ht) λH H h=>h),rfl⟩
  intro fl jP aj dM;refine gc dM λav bE ct hh=>?_
  clear dM;subst av bE
  try dsimp only
  refine XG.norm ct hh ?_ (aG _) (by show 2<=3;decide)<|b9 f u _
  refine q8 afF λqz kf o9 jv s8 kb=>?_
  have hf:=afD qz;have rD:=afE qz;have hgp:1<=U g:=oz.mpr qz;rw[show rx f u e g=BW g e::g.flatMap (k9 f u) from rfl,jT,eu];unfold BW;generalize Bz:g.headD jw=fo at*;generalize hld:g.getLastD jw=lo at*;have Cp:gH (iJ f u++[.list<|g.map oV]) (qy f u):=b9 f u _;refine jd (aG _)<|X1.F7 (names:=["first","last"]) (dL<|an (eJ ah bz (i6 (k:=2) (l:=g.map oV) rfl (by decide) hf) gx)<|an (eJ ah (EV.neg bz) (gW.Gy (k:=2) (l:=g.map oV) rfl (by decide) (by refine D (bg _) ?_;lia)<|by refine D (bg _)<|D (show(-1+(U g:az)).toNat=U g-1 by lia) ?_;exact rD) gx) aM) ⟨b9 f u _,?_⟩;refine jd (aG _)<|X1.assign (jD (hH (cQ _)<|Os _) (yl _).get (yl _).fd (an (eJ ah bz (gW.tup (j:=1) rfl rfl) sL)<|an (eJ ah bz (gW.tup (j:=2) rfl rfl) sL) aM)<|aQ.wl<|O1 (a:=(fo.2.1:az)) (b:=(lo.2.2.1:az)) (by lia) (by lia)<|by lia) ⟨b9 f u _,(jd (aG _)<|X1.assign (jD (hH (cQ _)<|Os _) (yl _).get (yl _).fd (an (eJ ah bz (gW.tup (j:=3) rfl rfl) sL)<|an (eJ ah bz (gW.tup (j:=4) rfl rfl) sL) aM)<|aQ.wl<|O1 (a:=(fo.2.2.2.1:az)) (b:=(lo.2.2.2.2:az)) (by lia) (by lia)<|by lia) ⟨b9 f u _,?_⟩)⟩;have qi:=Co (a:=(fo.2.1:az)) (b:=(lo.2.2.1:az)-fo.2.1) (by lia) (by lia);have uR:=Co (a:=(fo.2.2.2.1:az)) (b:=(lo.2.2.2.2:az)-fo.2.2.2.1) (by lia) (by lia);refine ig<|dP.Cd (aG _) (jq dE nW (an ah<|an ah<|an ah aM) (aQ.ac4 (M4 qi) (M4 uR)<|um Ih) nQ ua ub) rfl (b9 f u _) ?_;refine XG.norm (l':=oh f1 f2 d1 d2 e k) (aZ:=iJ f u++[.list<|g.map oV]) (by unfold oh lp;exact bp rfl) rfl ?_ (aG _) (by show 2<=3;decide)<|b9 f u _
  have Cn:∃c o vs,(gU w os dr (n+8) L γ sh f u).C.env.code= .ref c/\(gU w os dr (n+8) L γ sh f u).C.top.get? c=some o/\o.data= .fields vs:=by
   exact Lm ((rl w.params).code) λc oc vs tq hc H8 hdc H=>(⟨c,oc,vs,hc,H8,hdc⟩)
  have Q3:U f<=1000:=by exact M3 fU
  have afG:U u<=1000:=by exact M2 hb
  have afH:gy (iJ f u++[.list<|g.map oV]):=gg eY<|gg eY<|fM zl;have cut:∀{l l':J (ao×V)} {junk:J O},SubL l' l->(l'.all λp=>p.2.bG λk=>decide (k<3))=true->jn 3 ⟨l,iJ f u++[.list<|g.map oV]++junk⟩ ⟨l',iJ f u++[.list<|g.map oV]⟩:=λhs hv=>
   mt (aG _) afH hs λp hp=>fW.mp hv p hp
  refine ig (dP.for 3 (λt2 bN aj=>bN=(((g.drop t2).flatMap (k9 f u)++((groups f u k).drop (t+1)).flatMap (rx f u e)).map λx=>It.val (.str (tx x)))/\SubL (oh f1 f2 d1 d2 e k) aj.loc/\aj.hp=iJ f u++[.list (g.map oV)])
   (gS.of ah (gj.list (k:=2) (items:=g.map oV) rfl)) (b9 f u _) (aG _) ⟨by exact D mG rfl,λH H h=>h,rfl⟩ (λt2 bN aj H hI=>?_) (aG _) (by decide) (λR2 t2 aiy bN aj hu hI=>?_) (λbN aj hI=>?_))
  ·exact D hI.2.2 rfl
  ·refine eh hI λav oe fK=>?_
   clear hI;subst av;rw[c6] at hu;cases zq:g[t2]? with
   |none=>rw[zq] at hu;cases hu
   |some o=>
   rw[zq] at hu;obtain rfl:aiy=oV o:=by cases hu;rfl
   clear hu;have wx:t2<U g:=(cJ.mp zq).1;have afI:g.drop t2=o::g.drop (t2+1):=by
    refine D (vx wx) ?_
    rw[bO wx] at zq;cases zq;rfl
   refine⟨_,c8.norm oe fK<|c8.tup<|bU.cons bW<|bU.cons bW<|bU.cons bW<|bU.cons bW<|bU.cons bW bU.nil,b9 f u _,(XG.hide λΦ hK=>?_)⟩;refine XG.norm (l':=wL o f1 f2 d1 d2 e k) (aZ:=iJ f u++[.list<|g.map oV]) (by unfold wL oh lp;exact bp rfl) rfl ?_ (eM 2) (by show 3<=3;decide)<|b9 f u _
   rw[afI,e9,cm,eL];generalize yR:((g.drop<|t2+1).flatMap (k9 f u)++((groups f u k).drop<|t+1).flatMap (rx f u e)).map (λx=>It.val<|.str<|tx x)=rest;refine ig<|dP.if (decide (o.1=0)) (eM 2) (zm▸bV ah dE a9.eq_str) (b9 f u _) (λhc=>?_) (λhc=>jb ?_)
   ·have hc:=dq hc;refine D (show k9 f u o=(dw f o.2.1 o.2.2.1).map (32:: ·) from aU hc)<|D gM ?_;refine ig (Id (q:=3) (kx:=0) (ll:=f) (c:=32) (l0:=oh f1 f2 d1 d2 e k) (eM 2) (aG _) rfl rfl rfl rfl Q3 hl.1 rfl (by unfold oh lp;exact bp rfl) rfl λl' kt=>?_);refine XG.conv (cut (junk:=[_]) kt rfl) (eM 2) (by show 3<=4;decide) (b9 f u _) ?_
    refine ig<|dP.lift (eM 2) (X1.cont (K:=λfl aj=>fl= .cont/\aj=⟨oh f1 f2 d1 d2 e k,iJ f u++[.list<|g.map oV]⟩) ⟨rfl,rfl⟩) λfl aj hk=>(xA hk λav bE=>?_);clear hk;subst av bE;exact⟨b9 f u _,hK _ _ _ ⟨yR.symm,λH H h=>h,rfl⟩⟩
   ·have hc:=kj hc;rw[show k9 f u o=(if o.1=1\/o.1=2 then(dw f o.2.1 o.2.2.1).map (45:: ·) else[])++(if o.1=1\/3<=o.1 then(dw u o.2.2.2.1 o.2.2.2.2).map (43:: ·) else[]) from aE hc,eL,cm];generalize afJ:(if o.1=1\/3<=o.1 then(dw u o.2.2.2.1 o.2.2.2.2).map (43:: ·) else[]).map (λx=>It.val<|.str<|tx x)++rest=afK
    refine ig (dP.mono (u2:=λfl jP aj=>fl= .next/\jP=afK/\SubL (wL o f1 f2 d1 d2 e k) aj.loc/\aj.hp=iJ f u++[.list (g.map oV)])
     (dP.if (decide (o.1=1\/o.1=2)) (eM 2) (afA▸TV.QS ah Cn) (b9 f u _) (λhd=>?_) (λhd=>jb ?_)) ?_)
    ·have hd:=dq hd;refine D (aU hd)<|D gM ?_;refine ig (Id (q:=3) (kx:=0) (ll:=f) (c:=45) (l0:=wL o f1 f2 d1 d2 e k) (eM 2) (aG _) rfl rfl rfl rfl Q3 hl.1 rfl (by unfold wL oh lp;exact bp rfl) rfl λl' kt=>?_);refine XG.conv (cut (junk:=[_]) kt rfl) (eM 2) (by show 3<=4;decide) (b9 f u _) ?_
     exact jb ⟨rfl,rfl,λH H h=>h,rfl⟩
    ·have hd:=kj hd;refine D (aE hd) ?_
     exact⟨rfl,rfl,by unfold wL oh lp;exact bp rfl,rfl⟩
    intro fl jP aj hU;refine gc hU λav bE zr tm=>?_
    clear hU;subst av bE
    try dsimp only
    refine XG.norm zr tm ?_ (eM 2) (by show 3<=3;decide)<|b9 f u _
    subst afJ;refine ig<|dP.if (decide (o.1=1\/3<=o.1)) (eM 2) (afB▸TV.QS ah Cn) (b9 f u _) (λhd=>?_) (λhd=>jb ?_)
    ·have hd:=dq hd;refine D (aU hd)<|D gM ?_;refine ig (Id (q:=3) (kx:=1) (ll:=u) (c:=43) (l0:=oh f1 f2 d1 d2 e k) (eM 2) (aG _) rfl rfl rfl rfl afG hl.2 rfl (by unfold oh lp;exact bp rfl) rfl λl' kt=>?_);refine XG.conv (cut (junk:=[_]) kt rfl) (eM 2) (by show 3<=4;decide) (b9 f u _) ?_
     exact jb<|jb<|hK _ _ _ ⟨yR.symm,λH H h=>h,rfl⟩
    ·have hd:=kj hd;exact D (aE hd) (jb<|hK _ _ _ ⟨yR.symm,by exact bp rfl,rfl⟩)
  ·refine eh hI λav oe fK=>?_
   clear hI;subst av;refine D (bg _)<|D vC ?_;obtain⟨l',aZ⟩:=aj;dsimp only at fK oe;subst fK;refine XG.conv (aj:=⟨("started",.bool true)::lp f1 f2 d1 d2 e k,iJ f u⟩) (mt (junk:=[_]) (aG 2) Ig (λx v h=>oe x v ?_) ?_) (aG 2) (by show 2<=3;decide) (b9 f u _)<|jb<|hK _ _ _ ⟨?_,?_,rfl⟩
   ·have uE:x≠("group":ao):=λe'=>by
     subst e';have h0:mH ("group":ao) (("started",V.bool true)::lp f1 f2 d1 d2 e k)=aA:=by rfl
     rw[h0] at h;cases h
    exact D gv<|D (xk.mpr uE) h
   ·intro p hp;have:(((("started":ao),V.bool true)::lp f1 f2 d1 d2 e k).all λp=>p.2.bG λk=>decide (k<2))=true:=by rfl
    exact fW.mp this p hp
   ·exact D (aE λh=>by exact Yd h.1) rfl
   ·exact D (dF<|by exact Yc) λH H h=>h
 ·refine eh hI λav ct hh=>?_
  clear hI;subst av;exact D (bg _)<|D vC<|D (aE λh=>h.2<|Dt.mp h.1)<|jb ⟨rfl,.inl rfl⟩
end zp
section
variable{steps:J (J B×J B)}
section
variable{w:bx}{os:bM}{dr:cV}{n:B}
theorem afL:∀{w os dr n f u k f1 f2 d1 d2 e},zp.ES w os dr n f u k f1 f2 d1 d2 e ():=by with_unfolding_all exact oK zp.ES zp.EX rfl zp.Ee _ _ _ _ _ _ _ _ _ _ _ _ ()
end
theorem afM(steps:J<|J B×J B)(hs:∀p∈steps,U p.1<=1000/\U p.2<=1000):(∀r∈(rowsOf steps).1,r≠[]/\U r<=1001)/\∀r∈(rowsOf steps).2,r≠[]/\U r<=1001:=by
 have:∀(l:J<|J B×J B) (s:J (J B)×J (J B)),(∀p∈l,U p.1<=1000/\U p.2<=1000)->(∀r∈s.1,r≠[]/\U r<=1001)->(∀r∈s.2,r≠[]/\U r<=1001)->(∀r∈(l.foldl iG s).1,r≠[]/\U r<=1001)/\∀r∈(l.foldl iG s).2,r≠[]/\U r<=1001:=by
  intro l
  induction l with
  |nil=>intro s _ G h2;exact⟨G,h2⟩
  |cons p l ih=>
   intro s hl G h2;refine xA (hl p (.head _)) λjh iJ=>?_
   simp only[l6];have one:∀(c:B) (x:J B),U x<=1000->(c::x≠[]/\U (c::x)<=1001):=λc x h=>⟨(λq=>nomatch q),by simp only[cK];exact YO h⟩
   refine ih _ (λq hq=>hl q<|.tail _ hq) ?_ ?_
   ·unfold iG;split
    ·intro r hr;rcases bK.mp hr with hr|hr
     ·rcases bK.mp hr with hr|hr
      ·exact G r hr
      ·exact h2 r hr
     ·rw[bw] at hr;subst hr;exact one _ _ jh
    ·dsimp only;split
     ·exact G
     ·intro r hr;rcases bK.mp hr with hr|hr
      ·exact G r hr
      ·rw[bw] at hr;subst hr;exact one _ _ jh
   ·unfold iG;split
    ·intro r hr;exact nomatch hr
    ·dsimp only;split
     ·exact h2
     ·intro r hr;rcases bK.mp hr with hr|hr
      ·exact h2 r hr
      ·rw[bw] at hr;subst hr;exact one _ _ iJ
 exact this steps ([],[]) hs (λr hr=>nomatch hr) λr hr=>nomatch hr
theorem afN(hs:∀p∈steps,U p.1<=1000/\U p.2<=1000):∀r∈gk steps,r≠[]/\U r<=1001:=λr hr=>by
 refine xA (afM steps hs) λG h2=>?_
 rcases bK.mp hr with hr|hr
 ·exact G r hr
 ·exact h2 r hr
theorem oj(aix:J O)(o:O):(aix++[o])[U aix]?=some o:=by simp only[dc<|aG _,fF];rfl
theorem Q4(aix:J O)(o o':O):(aix++[o]++[o'])[U aix]?=some o:=by(refine D (cA<|by rw[aK];exact tN _) ?_);exact oj aix o
theorem afO{α:Type}(l:J α)(i j:B):U (dw l i j)<=U l:=by
 unfold dw;simp only[gA,kO];exact YN
theorem Q5{hd rows:J (J B)}{ps:J Piece}{i:B}{p:Piece}(h:ps[i]?=some p):(cH steps hd rows ps)[4+2*i]?=some (.list<|aw p.2.2)/\(cH steps hd rows ps)[5+2*i]?=some (.list [.int p.1,.int p.2.1,.ref<|4+2*i]):=by
 have:=PU ps 4 i p h;simp only[show 4+2*i=2*i+1+1+1+1 by exact tQ _ _,show 5+2*i=2*i+1+1+1+1+1 by exact tQ _ _];rw[show 4+2*i=2*i+1+1+1+1 by exact tQ _ _] at this;exact this
noncomputable def ny(k m:B)(e:J B):J (ao×V):=[("due",.ref<|4+2*m),("pieces",.ref 3),("rows",.ref 2),("end",.str<|tx e),("heads",.ref 1),("around",.int k),("steps",.ref 0)]
theorem Q6{t:J B}{a:B}{t':J B}(h:t=a::t'):(oE 0 (tx t).length).bind ((tx t).cps[·]?)=some a:=by
 subst h;unfold oE;refine D (jH _) ?_
 simp[tx]
theorem EV.afP{C:Cx}{n:B}{st:St}{value lo up:bB}{p pos:cN}{kx i j:B}{l:J (J B)}{zi zj:az}(G:EV C n value st (.ref kx) st)(h2:EV C n lo st (.int zi) st)(h3:EV C n up st (.int zj) st)(hk:st.hp[kx]?=some (.list<|aw l))(hz:U l<=16777216)(ei:zi=(i:az))(ej:zj=(j:az)):
  EV C n (.Subscript value (.Slice (some lo) (some up) aA p) pos) st (.ref<|U st.hp) ⟨st.loc,st.hp++[.list<|aw<|dw l i j]⟩:=by
 subst ei ej;have h:=EV.slice (C:=C) (n:=n) (p:=p) (pos:=pos) G (PV.some h2) (PV.some h3) (l:=aw l) hk (by exact D (en _)<|hz);rw[Q1,Q2] at h;exact h
section
variable{w:bx}{os:bM}{dr:cV}{n:B}
theorem afQ{o:bc}{a L:ax}{hd:J (J B)}{l:J (ao×V)}(hz:U steps<=1000)(hs:∀p∈steps,U p.1<=1000/\U p.2<=1000):
  aQ (fr w os dr o a L) (n+1) (.ref 301) [.ref 0] ⟨l,[.list<|bf steps,.list<|aw hd]⟩ (.ref 2) ⟨l,[.list<|bf steps,.list<|aw hd,.list<|aw<|gk steps]⟩:=by
 have h:=cE.frame (C:=fr w os dr o a L) (st:=⟨l,[.list (bf steps),.list (aw hd)]⟩) [0] (acx (w:=w) (os:=os) (dr:=dr) (n:=n) hz hs) rfl (by show 1<=2;decide) (by decide) (λi ob hi=>by
  match i with
  |0=>
   (have:=cj hi;clear hi;subst this)
   exact⟨k6,0,rfl,by show some _=some (O.list<|V.lI _ _);rw[wg]⟩
  |i+1=>cases hi) rfl
 simp only[uy,FY,eu,pI,O.Bh,wg,rq,DA] at h;exact h
end
end
namespace zt
noncomputable def ES(w:bx)(os:bM)(dr:cV)(n:B)(steps:J<|J B×J B)(k:B)(G:J B)(h2:J B)(e:J B)(_ _ _ _:fD):Prop:=(U steps<=1000)->(∀p∈steps,U p.1<=1000/\U p.2<=1000)->(k<=1000)->(U G<=1000/\U h2<=1000/\U e<=1000)->cE (TW w os dr) (n+4) (.ref 313) [.list<|bf steps,.list<|aw [G,h2]] [.ref 0,.int k,.ref 1,.str<|tx e] [.list<|bf steps,.list<|aw [G,h2],.list<|aw<|report (gk steps) k G h2 e] (.ref 2)
@[irreducible] noncomputable def EX:=nT oN default {} 0 [] 0 [] [] [] () () () () ES
noncomputable def w:=EX.1
noncomputable def os:=EX.2.1
noncomputable def dr:=EX.2.2.1
noncomputable def n:=EX.2.2.2.1
noncomputable def steps:=EX.2.2.2.2.1
noncomputable def k:=EX.2.2.2.2.2.1
noncomputable def G:=EX.2.2.2.2.2.2.1
noncomputable def h2:=EX.2.2.2.2.2.2.2.1
noncomputable def e:=EX.2.2.2.2.2.2.2.2.1
@[irreducible] noncomputable def rows:J (J B):=gk steps
theorem Cq:gk steps=rows:=by unfold rows;rfl
theorem Ee:ES w os dr n steps k G h2 e () () () ():=λhz hs hk hh=>by
 refine m6 (rm _) rfl (λxs hx=>?_) λL=>?_
 ·revert xs;exact yk λH H H H=>rfl
 have lq:U rows<=2000:=by
  refine bL Cq ?_
  have:=BJ steps;refine D aK ?_;exact YM this hz
 have cw:=Cq▸afN hs;have cr:=λl=>Cq▸afQ (w:=w) (os:=os) (dr:=dr) (n:=n+2) (o:=xV w.params) (a:=313) (L:=L) (l:=l) (hd:=[G,h2]) hz hs;refine D Cq ?_
 have gl:=qa w.params;have bl:=qc w.params;have wI:=Ox w.params;have wJ:=OA w.params;refine yp (dL<|an (jD (hH (cQ _)<|aba _) (Gl _).get (Gl _).fd (an ah aM)<|cr _)<|an (eI aM)<|an bz<|an bz<|an EV.bool aM) (c8.tup<|bU.cons bW<|bU.cons bW<|bU.cons bW<|bU.cons bW<|bU.cons bW bU.nil)<|b7 (l':=nq k 0 0 false e) (aZ:=cH steps [G,h2] rows []) (by exact bp rfl) rfl ?_;have kf:∀ps,(cH steps [G,h2] rows ps)[2]?=some (.list<|aw rows):=λps=>rfl
 refine cg (nV 2 (λt aj=>∃junk,SubL (nq k (lg rows k (eD t)).2.1 (lg rows k (eD t)).2.2.1 (lg rows k (eD t)).2.2.2 e) aj.loc/\aj.hp=cH steps [G,h2] rows (lg rows k (eD t)).1++junk)
  (items:=nums 0<|U rows) (aiw:=λH=>gC) (lo:=0)
  (by
   exact gS.of (mq (cB (cQ _) (Ow _) (dN _) (OB _)) (an (fv (cB (cQ _) gl (dN _) bl) (an ah aM) (p0 (k:=2) (l:=aw rows) rfl (by refine D (en _) ?_;lia))) aM) aQ.aaX) (by
    have h:=gj.range (C:=fr w os dr (xV w.params) 313 L) (n:=n+3) (st:=⟨nq k 0 0 false e,cH steps [G,h2] rows []++[.fields "range" [.int 0,.int<|U<|aw rows,.int 1]]⟩) (k:=4) (a:=0) (b:=U<|aw rows) rfl (by simp only[rangeSize_one];split<;>lia) (small_one (by decide) (by decide) (Et (by decide)<|vP _)<|by refine D (en _) ?_;lia);rw[show((U (aw rows):az)-0).toNat=U rows by refine D (en _) ?_;rfl] at h
    exact h)) ⟨[.fields "range" [.int 0,.int (U (aw rows)),.int 1]],λH H h=>h,rfl⟩ (λt aj H H=>trivial) (bH _) (aG _) (λt aiy aj hu hI=>?_) (λaj hI=>?_))
 ·refine aH hI λjunk ct oa=>?_
  have eU:t<U rows:=by
   have:=(cJ.mp hu).1;unfold nums at this;rw[bg,gL] at this;exact this
  obtain rfl:aiy= .int (t:B):=by
   unfold nums at hu;simp only[c6,ou eU] at hu
   (cases cj hu;clear hu)
   show V.int (0+(t:az))=_;exact D (vQ _) rfl
  clear hu;have ok:=BY (rows:=rows) (n:=k) t (by exact lz ‹_›);have m7:lg rows k (eD<|t+1)=gb rows k (lg rows k<|eD t) t:=by
   unfold lg;simp only[Ac,jS];rfl
  simp only[m7];generalize lg rows k (eD t)=s at*;obtain⟨ps,old,new,ins⟩:=s;obtain⟨o1,o2,o3,o4,o5⟩:=ok;dsimp only at o1 o2 o3 o4 o5 ct oa;refine⟨_,c8.norm ct oa bW,?_⟩;have li:=uT (steps:=steps) (hd:=[G,h2]) (rows:=rows) (ps:=ps);have cut:∀{q:B} {l l':J (ao×V)} {junk:J O} {ps:J Piece},q<=2->SubL l' l->(l'.all λp=>p.2.bG λk=>decide (k<4))=true->jn q ⟨l,cH steps [G,h2] rows ps++junk⟩ ⟨l',cH steps [G,h2] rows ps⟩:=λhq hs hv=>
   mt (by refine D uT ?_;exact YL hq) Hy hs λp hp=>V.m5 (λi hi=>by have:=dq hi;exact dF<|by refine D uT ?_;exact Ng this)<|fW.mp hv p hp
  refine jo (aj:=⟨("k",.int t)::nq k old new ins e,cH steps [G,h2] rows ps⟩) (cut (aG _) (by exact bp rfl)<|by rfl) ?_ (by show 2<=U (cH steps [G,h2] rows ps++junk);rw[aK];exact Nf li)
  have Q7:rows[t]?=some (rows.getD t []):=by refine D (c5)<|D (bO eU) ?_;rfl
  have hrn:=cw _<|dT Q7;have lY:(aw rows)[t]?=some (.str<|tx<|rows.getD t []):=by unfold aw;simp only[c6,Q7];rfl
  have afR:max (0:az) ((t:az)-k)=((t-k:B):az):=by lia
  have Cr:((t:az)+k+1)=((t+k+1:B):az):=by rfl
  have qf:∀r∈dw rows (t-k) (t+k+1),r≠[]:=λr hr=>(cw r<|JF<|Dx hr).1;have afS:(!decide ((dw rows (t-k)<|t+k+1).filter (λr=>decide (r.headD 0≠32))=[]))=ja rows k t:=by
   unfold ja;generalize dw rows (t-k) (t+k+1)=l
   induction l with
   |nil=>rfl
   |cons a l ih=>
    simp only[pF,DK];cases h:decide (a.headD 0≠32) with
    |true=>rfl
    |false=>rw[aE dy,Av];exact ih
  refine cY (v:=.bool (ja rows k t)) (by
   simp only[←afS]
   exact EV.cmp (Ht (c:=32) (l:=dw rows (t-k) (t+k+1)) (kx:=U (cH steps [G,h2] rows ps)) (EV.afP (kx:=2) ah (fv (cB (cQ _) wI (dN _) wJ) (an bz (an (bt ah ah mr) aM)) aQ.max2) (bt (bt ah ah eT) bz eT) rfl (by exact Fa lq) afR Cr) (oj _ _) qf (by have:=afO rows (t-k) (t+k+1);exact E9 lq this) rfl) (eI aM) (a9.yN (l:=(dw rows (t-k) (t+k+1)).filter (λr=>decide (r.headD 0≠32))) (m:=[]) (Q4 _ _ _) (oj _ _))) ?_
  generalize Q8:ja rows k t=near at*;refine b7 (l':=("near",.bool near)::("k",.int t)::nq k old new ins e) (aZ:=cH steps [G,h2] rows ps++[_,_,_]) (by exact bp rfl) (by simp only[cm,jT,nF];rfl) ?_
  refine jo (aj:=⟨("near",.bool near)::("k",.int t)::nq k old new ins e,cH steps [G,h2] rows ps⟩) (cut (aG _) (λH H h=>h)<|by rfl) ?_ (by refine D aK ?_;exact pJ _ _)
  have Q9:U ps<=2000:=by exact Fb eU lq o2
  refine cg (jt (K:=λfl aj=>fl= .next/\SubL (("near",.bool near)::("k",.int t)::nq k old new ins e) aj.loc/\aj.hp=cH steps [G,h2] rows (if(near&&(!ins&&true))=true then ps++[(old,new,[])] else ps))
   (i8 (near&&(!ins&&true)) (kC (fu ah kR) (kC (TV.not (fu ah kR)) pX)) (λhc=>?_) (λhc=>?_)) ?_)
  ·simp only[aU hc];refine eE (iE (k:=3) (l:=iI<|U ps) (l2:=iI<|U ps) ah rfl (eI<|an ah<|an ah<|an (eI aM) aM) rfl<|by unfold iI;rw[bg,gL];exact Fa Q9) ?_
   refine bd ⟨rfl,by exact bp rfl,?_⟩;refine bL ad4 ?_
   simp only[aK,li,cm]
   (simp only[show 4+2*U ps+U [O.list []]=5+2*U ps by show 4+2*U ps+1=_;exact nH _ _ _]);rfl
  ·(refine D (aE (λh=>by rw[hc] at h;cases h)) ?_)
   exact bd ⟨rfl,by exact bp rfl,rfl⟩
  intro fl aj dM;refine eh dM λav oe fK=>?_
  clear dM;subst av
  try dsimp only
  have Ra:(gb rows k (ps,old,new,ins) t).1=if near=true then sT (if(near&&(!ins&&true))=true then ps++[(old,new,[])] else ps) (rows.getD t []) else ps:=by
   unfold gb
   try dsimp only
   simp only[Q8];cases near<;>cases ins<;>rfl
  have afT:near=true->(if(near&&(!ins&&true))=true then ps++[(old,new,[])] else ps)≠[]:=λhn=>by
   cases ins with
   |true=>
    have:=o1 rfl
    (refine D (aE<|by rw[hn];simp) ?_);exact this
   |false=>rw[aU<|by refine D hn ?_;rfl];simp
  have aij:U (if(near&&(!ins&&true))=true then ps++[(old,new,[])] else ps)<=2001:=by
   split
   ·refine D aK ?_;exact YK Q9
   ·exact ly ‹_›
  have afU:∀p∈(if(near&&(!ins&&true))=true then ps++[(old,new,[])] else ps),U p.2.2<=2000:=λp hp=>by
   split at hp
   ·rcases bK.mp hp with hp|hp
    ·have:=(o3 p hp).1;exact Fb eU lq this
    ·rw[bw] at hp;subst hp;exact bH _
   ·have:=(o3 p hp).1;exact Fb eU lq this
  have rk:near=false->(if(near&&(!ins&&true))=true then ps++[(old,new,[])] else ps)=ps:=λhn=>by refine D hn ?_;rfl
  generalize hq:(if(near&&(!ins&&true))=true then ps++[(old,new,[])] else ps)=ps' at*;refine b7 oe fK ?_
  refine cg (jt (K:=λfl aj=>fl= .next/\SubL (("near",.bool near)::("k",.int t)::nq k old new ins e) aj.loc/\aj.hp=cH steps [G,h2] rows (gb rows k (ps,old,new,ins) t).1)
   (i8 near (fu ah kR) (λhc=>?_) (λhc=>?_)) ?_)
  ·simp only[Ra,aU hc];rcases rR ps' with h|⟨pre,p,rfl⟩
   ·exact aY h<|afT hc
   rw[rS] at*;simp only[yG];have wG:U (pre++[p])=U pre+1:=by refine D aK ?_;rfl
   have cO:=Q5 (steps:=steps) (hd:=[G,h2]) (rows:=rows) (ps:=pre++[p]) (i:=U pre) (p:=p) (by simp only[dc<|aG _,fF];rfl);have afV:=afU p<|bK.mpr<|.inr<|bw.mpr rfl;have Cs:(iI<|U<|pre++[p])[U pre]?=some (.ref<|5+2*U pre):=by
    unfold iI;simp only[c6,wG,ou<|tN _];rfl
   have Rb:U (iI<|U<|pre++[p])=U pre+1:=by unfold iI;simp only[bg,gL,wG]
   refine eE (jq (eJ (eJ ah (EV.neg bz) (gW.Gy (k:=3) (l:=iI (U (pre++[p]))) rfl (by decide) (by refine D Rb ?_;lia) (by simp only[Rb,show(-1+((U pre+1:B):az)).toNat=U pre by lia];exact Cs)) gx) bz (i6 (k:=5+2*U pre) (l:=[.int p.1,.int p.2.1,.ref (4+2*U pre)]) cO.2 (by decide) rfl) gx)
    (uB cO.1) (an (eJ ah ah (i6 (k:=2) (l:=aw rows) (i:=(t:az)) rfl (by exact vP _) lY) gx) aM) (Gi (k:=4+2*U pre) (l:=aw p.2.2) cO.1 (by refine D (en _) ?_;exact Fa afV)) uc Ed Ef) ?_
   refine bd ⟨rfl,by exact bp rfl,?_⟩;refine D (wi _ _) ?_
   exact ad5
  ·refine bd ⟨rfl,by exact bp rfl,?_⟩;simp only[Ra,hc,aE dy,rk hc]
  intro fl aj hU;refine eh hU λav zr tm=>?_
  clear hU;subst av
  try dsimp only
  refine b7 zr tm<|cY ah ?_;refine b7 (l':=("k",.int t)::nq k old new near e) (aZ:=cH steps [G,h2] rows (gb rows k (ps,old,new,ins) t).1) (by exact bp rfl) rfl ?_
  obtain⟨a,r',Ik⟩:∃a r',rows.getD t []=a::r':=by
   cases hr:rows.getD t [] with
   |nil=>exact aY hr hrn.1
   |cons a r'=>exact⟨a,r',rfl⟩
  have uU:∀c:B,(!decide ((⟨#[a]⟩:ao)=tx [c]))=decide (¬a=c):=λc=>by
   have e:decide ((⟨#[a]⟩:ao)=tx [c])=decide (a=c):=vD.mpr ((o8 (a:=[a]) (b:=[c])).trans<|by simp);simp only[e];by_cases h:a=c<;>simp[h]
  have gw:(gb rows k (ps,old,new,ins) t)=((gb rows k (ps,old,new,ins) t).1,if a=43 then old else old+1,if a=45 then new else new+1,near):=by
   unfold gb;refine D Ik<|D Q8 ?_;rfl
  refine D gw ?_
  generalize (gb rows k (ps,old,new,ins) t).1=Rc
  refine cg (jt (K:=λfl aj=>fl= .next/\SubL (("k",.int t)::nq k (if a=43 then old else old+1) new near e) aj.loc/\aj.hp=cH steps [G,h2] rows Rc)
   (i8 (decide (¬a=43)) (uU 43▸bV (eJ (eJ ah ah (i6 (k:=2) (l:=aw rows) (i:=(t:az)) rfl (by lia) lY) gx) bz (gW.str (Q6 Ik) (by decide)) yo) (EV.tx [43]) a9.ne_str) (λhc=>?_) (λhc=>?_)) ?_)
  ·have hc:=dq hc;refine cY (bt ah bz eT)<|bd ⟨rfl,(D (aE hc) ?_),rfl⟩;exact bp rfl
  ·have hc:a=43:=xG.mp<|kj hc;refine bd ⟨rfl,(D (aU hc) ?_),rfl⟩;exact bp rfl
  intro fl aj nu;refine eh nu λav afW hh4=>?_
  clear nu;subst av
  try dsimp only
  refine b7 afW hh4 ?_
  generalize (if a=43 then old else old+1)=afX
  refine cg (jt (K:=λfl aj=>fl= .next/\SubL (nq k afX (if a=45 then new else new+1) near e) aj.loc/\aj.hp=cH steps [G,h2] rows Rc)
   (i8 (decide (¬a=45)) (uU 45▸bV (eJ (eJ ah ah (i6 (k:=2) (l:=aw rows) (i:=(t:az)) rfl (by lia) lY) gx) bz (gW.str (Q6 Ik) (by decide)) yo) (EV.tx [45]) a9.ne_str) (λhc=>?_) (λhc=>?_)) ?_)
  ·have hc:=dq hc;refine cY (bt ah bz eT)<|bd ⟨rfl,(D (aE hc) ?_),rfl⟩;exact bp rfl
  ·have hc:a=45:=xG.mp<|kj hc;refine bd ⟨rfl,(D (aU hc) ?_),rfl⟩;exact bp rfl
  intro fl aj Cc;refine eh Cc λav afY hh5=>?_
  clear Cc;subst av;exact bd ⟨[],afY,by refine D (cM _) ?_;exact hh5⟩
 ·refine aH hI λjunk ct oa=>?_
  have hnl:U (nums 0<|U rows)=U rows:=by unfold nums;simp only[bg,gL]
  simp only[hnl] at ct oa;have ok:=BY (rows:=rows) (n:=k) (U rows)<|aG _;unfold report;generalize lg rows k (eD<|U rows)=s at*;obtain⟨ps,old,new,ins⟩:=s;obtain⟨o1,o2,o3,o4,o5⟩:=ok;dsimp only at o1 o2 o3 o4 o5 ct oa ⊢;have li:=uT (steps:=steps) (hd:=[G,h2]) (rows:=rows) (ps:=ps);refine b7 ct oa ?_
  refine jo (aj:=⟨nq k old new ins e,cH steps [G,h2] rows ps⟩) (mt (by simp only[uT];exact YJ) Hy (λH H h=>h) λp hp=>V.m5 (λi hi=>by have:=dq hi;exact dF<|by refine D uT ?_;exact Ng this)<|fW.mp (show((nq k old new ins e).all λp=>p.2.bG λk=>decide (k<4))=true from rfl) p hp) ?_ (by simp only[aK];exact Nf li)
  refine bd<|cY (eI aM) ?_
  refine b7 (l':=ny k (U ps) e) (aZ:=cH steps [G,h2] rows ps++[.list []]) (by
   refine SubL.cons ?_ (by exact bp rfl)
   show some (V.ref<|U<|cH steps [G,h2] rows ps)=_
   rw[li]) rfl ?_
  have QL:∀er:J (J B),gy (cH steps [G,h2] rows ps++[.list<|aw er]):=λer o ho=>by
   rcases bK.mp ho with ho|ho
   ·exact O.acJ (by simp only[aK];exact dZ _ _)<|Hy o ho
   ·rw[bw] at ho;subst ho;exact eY
  have hd3:∀er:J (J B),(cH steps [G,h2] rows ps++[O.list<|aw er])[3]?=some (.list<|iI<|U ps):=λH=>rfl;have zu:∀er:J (J B),(cH steps [G,h2] rows ps++[O.list<|aw er])[4+2*U ps]?=some (.list<|aw er):=λer=>by simp only[←li];exact oj _ _
  have yV:∀(er Il:J<|J B),(cH steps [G,h2] rows ps++[O.list<|aw er]).set (4+2*U ps) (.list<|aw Il)=cH steps [G,h2] rows ps++[.list<|aw Il]:=λer Il=>by
   refine D (PX li) ?_;rfl
  have Cs:U (iI<|U ps)=U ps:=by unfold iI;simp only[bg,gL]
  refine cg (nV (5+2*U ps) (λt aj=>SubL (ny k (U ps) e) aj.loc/\aj.hp=cH steps [G,h2] rows ps++[.list (aw ((ps.take t).flatMap (lR e)))])
   (items:=iI (U ps)) (by unfold ny;exact gS.of ah (gj.list (k:=3) (hd3 []))) ⟨λH H h=>h,rfl⟩ (λt aj H hI=>by refine D hI.2 ?_;rfl) (by exact YI) (by show 2<=_;exact YH) (λt aiy aj hu hI=>?_) (λaj hI=>?_))
  ·refine xA hI λoe fK=>?_
   have eU:t<U ps:=by
    have:=(cJ.mp hu).1;rw[Cs] at this;exact this
   obtain rfl:aiy= .ref (5+2*t):=by
    unfold iI at hu;simp only[c6,ou eU] at hu
    (cases cj hu;clear hu);rfl
   clear hu;have hp:ps[t]?=some ps[t]:=bO eU;have rA:(ps.take<|t+1).flatMap (lR e)=(ps.take t).flatMap (lR e)++lR e ps[t]:=by
    refine D qL<|D hp<|D kN ?_;simp
   have pe:=dT hp;have cO:=Q5 (steps:=steps) (hd:=[G,h2]) (rows:=rows) hp;have eo:=o3 _ pe;have Ct:U ((ps.take t).flatMap<|lR e)<=5000000:=by
    have:∀l:J Piece,(∀p∈l,U p.2.2<=2000)->U (l.flatMap<|lR e)<=U l*2001:=by
     intro l
     induction l with
     |nil=>intro _;exact bH _
     |cons p l ih=>
      intro h;simp only[e9,aK,cK];have G:=ih λq hq=>h q<|.tail _ hq;have h2:=h p<|.head _;have h3:U (lR e p)=U p.2.2+1:=rfl;simp only[Al];exact M9 h3 G h2
    have G:=this (ps.take t) λp hp=>by have:=(o3 p<|Dx hp).1;exact xQ lq this
    rw[gA] at G;have:min t (U ps)<=2000:=by exact YG lq o2
    have:=DP 2001 this;exact YF this G
   simp only[rA];generalize (ps.take t).flatMap (lR e)=er at*;generalize ps[t]=p at*;obtain⟨begun,tn,shown⟩:=p;dsimp only at cO eo;have Cu:∀x:O,U (cH steps [G,h2] rows ps++[x])=5+2*U ps:=λx=>by simp only[aK,li];exact M8
   have yK:(cH steps [G,h2] rows ps++[.list<|aw er])[4+2*t]?=some (.list<|aw shown):=by(refine D (cA<|by rw[li];exact Na eU) ?_);exact cO.1
   have afZ:(cH steps [G,h2] rows ps++[.list<|aw er])[5+2*t]?=some (.list [.int begun,.int tn,.ref<|4+2*t]):=by rw[cA<|by rw[li];exact YE eU];exact cO.2
   have Rd:∀r∈shown,r≠[]:=λr hr=>(cw r<|eo.2.2.2 r hr).1;refine⟨_,c8.norm oe fK<|c8.lst afZ<|bU.cons bW<|bU.cons bW<|bU.cons bW bU.nil,(b7 (l':=("shown",.ref<|4+2*t)::("came",.int tn)::("begun",.int begun)::ny k (U ps) e) (aZ:=cH steps [G,h2] rows ps++[.list<|aw er]) (by exact bp rfl) rfl ?_)⟩;have cutD:∀{l l':J (ao×V)} {junk:J O},SubL l' l->(l'.all λp=>p.2.bG λk=>decide (k<5+2*U ps))=true->jn (5+2*U ps) ⟨l,cH steps [G,h2] rows ps++[.list<|aw er]++junk⟩ ⟨l',cH steps [G,h2] rows ps++[.list<|aw er]⟩:=λhs hv=>
    mt (by rw[Cu];exact aG _) (QL er) hs λp hp=>by rw[Cu];exact fW.mp hv p hp
   refine cY (fv (cB (cQ _) gl (dN _) bl) (an (Ht (c:=43) (l:=shown) ah yK Rd (by exact E9 lq eo.1) rfl) aM)<|p0 (l:=aw<|shown.filter λr=>decide (r.headD 0≠43)) (oj _ _) (by rw[en];have:=pE (λr=>decide (r.headD 0≠43)) shown;lia)) ?_
   rw[en];have af0:=pE (λr=>decide (r.headD 0≠43)) shown;have af1:=pE (λr=>decide (r.headD 0≠45)) shown;refine b7 (l':=("gone",.int (cZ 43 shown:B))::("shown",.ref<|4+2*t)::("came",.int tn)::("begun",.int begun)::ny k (U ps) e) (aZ:=cH steps [G,h2] rows ps++[.list<|aw er]++[_]) (by unfold ny cZ;exact bp rfl) rfl ?_
   refine jo (cutD (l':=("gone",.int (cZ 43 shown:B))::("shown",.ref (4+2*t))::("came",.int tn)::("begun",.int begun)::ny k (U ps) e) (λH H h=>h) (by
    unfold ny
    simp only[oA,xi,V.ur,V.FC,V.FD,lF,xy,gP,ip];exact Nd eU)) ?_ (by rw[aK,Cu];exact dZ _ _)
   refine cY (fv (cB (cQ _) gl (dN _) bl) (an (Ht (c:=45) (l:=shown) ah yK Rd (by exact E9 lq eo.1) rfl) aM)<|p0 (l:=aw<|shown.filter λr=>decide (r.headD 0≠45)) (oj _ _)<|by rw[en];lia) ?_
   rw[en];refine b7 (l':=("come",.int (cZ 45 shown:B))::("gone",.int (cZ 43 shown:B))::("shown",.ref<|4+2*t)::("came",.int tn)::("begun",.int begun)::ny k (U ps) e) (aZ:=cH steps [G,h2] rows ps++[.list<|aw er]++[_]) (by unfold ny;exact SubL.cons (by rfl)<|by exact bp rfl) rfl ?_
   refine jo (cutD (l':=("come",.int (cZ 45 shown:B))::("gone",.int (cZ 43 shown:B))::("shown",.ref (4+2*t))::("came",.int tn)::("begun",.int begun)::ny k (U ps) e) (λH H h=>h) (by
    unfold ny
    simp only[oA,xi,V.ur,V.FC,V.FD,lF,xy,gP,ip];exact Nd eU)) ?_ (by rw[aK,Cu];exact dZ _ _)
   have af2:cZ 43 shown<=2000:=by unfold cZ;exact Nc lq eo.1 af0
   have af3:cZ 45 shown<=2000:=by unfold cZ;exact Nc lq eo.1 af1
   have r1:=Co (a:=(begun:az)) (b:=(cZ 43 shown:B)) (by lia) (by lia);have r2:=Co (a:=(tn:az)) (b:=(cZ 45 shown:B)) (by lia) (by lia);have Re:∀{i j:B} {st:St},i<=2000->j<=2000->aQ (fr w os dr (xV w.params) 313 L) (n+3) (.ref 308) [.int i,.int j] st (.str<|tx<|lN i j) st:=λhi hj=>
    aQ.to (aQ.wl<|acu (by lia)<|by lia) (bA V.str<|acy _ _)
   refine eE (jq ah (uB (zu er)) (an (bt (bt (bt (bt (bt (EV.tx [64,64,32,45])
     (jD (hH (cQ _) (Op _)) (yn _).get (yn _).fd (an ah (an ah aM)) (Re (by exact xQ lq eo.2.1) (by exact Nb af2))) (a9.og (by show 4+_<=_;exact YD r1)))
     (EV.tx [32,43]) (a9.og (by rw[aK];exact YC r1)))
     (jD (hH (cQ _) (Op _)) (yn _).get (yn _).fd (an ah (an ah aM)) (Re (by exact xQ lq eo.2.2.1) (by exact Nb af3))) (a9.og (by rw[aK,aK];exact YB r1 r2)))
     (EV.tx [32,64,64]) (a9.og (by rw[aK,aK,aK];exact YA r1 r2)))
     ah (a9.og (by rw[aK,aK,aK,aK];exact Yz hh r1 r2))) aM)
    (Gi (k:=4+2*U ps) (l:=aw er) (zu er) (by rw[en];exact Yy Ct)) uc Ed Ef) ?_
   rw[wi];generalize lL: [64,64,32,45]++lN (begun:az) (cZ 43 shown:B)++[32,43]++lN (tn:az) (cZ 45 shown:B)++[32,64,64]++e=line;refine b7 (l':=("shown",.ref<|4+2*t)::ny k (U ps) e) (aZ:=cH steps [G,h2] rows ps++[.list<|aw<|er++[line]]) (by exact bp rfl) (yV _ _) ?_
   have af4:(cH steps [G,h2] rows ps++[.list<|aw<|er++[line]])[4+2*t]?=some (.list<|aw shown):=by rw[cA<|by rw[li];exact Na eU];exact cO.1
   refine eE (jq ah (uB<|zu _) (an ah aM) (aQ.extend (i:=4+2*U ps) (j:=4+2*t) (l:=aw<|er++[line]) (m:=aw shown) (zu _) af4<|by rw[en,en,aK];exact Yx lq Ct eo.1) uc KL KM) ?_
   refine bd ⟨by exact bp rfl,?_⟩;rw[sP];refine(yV _ _).trans ?_
   rw[cm,←lL];rfl
  ·refine xA hI λoe fK=>?_
   rw[Cs,pH] at fK;refine bd<|b7 oe fK ?_;generalize hdd:ps.flatMap (lR e)=er at*;have Ct:U er<=5000000:=by
    rw[←hdd];have:∀l:J Piece,(∀p∈l,U p.2.2<=2000)->U (l.flatMap<|lR e)<=U l*2001:=by
     intro l
     induction l with
     |nil=>intro _;exact bH _
     |cons p l ih=>
      intro h;rw[e9,aK,cK];have G:=ih λq hq=>h q<|.tail _ hq;have h2:=h p<|.head _;have h3:U (lR e p)=U p.2.2+1:=rfl;rw[Al];exact M9 h3 G h2
    have G:=this ps λp hp=>by have:=(o3 p hp).1;exact xQ lq this
    have:U ps<=2000:=by exact xQ lq o2
    have:=DP 2001 this;exact Yw this G
   refine eh hh λhh1 af5 tm=>?_
   have Rf:(cH steps [G,h2] rows ps++[O.list<|aw er])[1]?=some (.list<|aw [G,h2]):=rfl;have af6:U (cH steps [G,h2] rows ps++[O.list<|aw er])=5+2*U ps:=by rw[aK,li];exact M8
   refine j6 (bt (eI (an (bt (eJ ah bz (i6 (k:=1) (l:=aw [G,h2]) (i:=0) (v:=.str (tx G)) Rf (by decide) rfl) gx) ah (a9.og (by exact M7 hh1 tm))) (an (bt (eJ ah bz (i6 (k:=1) (l:=aw [G,h2]) (i:=1) (v:=.str (tx h2)) Rf (by decide) rfl) gx) ah (a9.og (by exact M7 af5 tm))) aM))) ah
    (a9.add_list (i:=U (cH steps [G,h2] rows ps++[O.list (aw er)])) (j:=4+2*U ps) (l:=aw [G++e,h2++e]) (m:=aw er) (oj _ _) (by
     rw[cA (by rw[af6];exact Yv)];exact zu er) (by rw[en,en];exact Yu Ct))) ⟨_,rfl,?_⟩
   rw[sP];generalize Im: [G++e,h2++e]++er=res;have wH:cH steps [G,h2] rows ps++[O.list<|aw er]++[O.list<|aw [G++e,h2++e]]++[O.list<|aw res]=[O.list<|bf steps,O.list<|aw [G,h2]]++((O.list (aw rows)::O.list (iI<|U ps)::np 4 ps)++[O.list<|aw er]++[O.list<|aw [G++e,h2++e]]++[O.list<|aw res]):=by unfold cH;rfl
   generalize eU:(O.list (aw rows)::O.list (iI<|U ps)::np 4 ps)++[O.list<|aw er]++[O.list<|aw [G++e,h2++e]]=tl at wH;refine dh (jn.pick (q:=2) (hp:=[.list<|bf steps,.list<|aw [G,h2]]) (tail:=tl++[O.list<|aw res]) (sel:=[.list<|aw res]) (aG _) (gg k6<|fM eY) [U tl] (by simp) (by simp)<|fM eY) λaiA g q1 q2 q3=>xA (q2 0 (U tl) rfl) λg1 f1=>?_
   have hlen:U ((cH steps [G,h2] rows ps++[O.list<|aw er])++[O.list<|aw [G++e,h2++e]])=2+U tl:=by
    have:=bA U wH;rw[aK,aK (as:=[O.list<|bf steps,O.list<|aw [G,h2]]),aK (as:=tl)] at this;have m9: U [O.list<|aw res]=1:=rfl;have kA: U [O.list<|bf steps,O.list<|aw [G,h2]]=2:=rfl;exact Yt this kA
   refine⟨_,aiA,g,(show Cv 2 _ aiA g (cH steps [G,h2] rows ps++[O.list<|aw er]++[O.list<|aw [G++e,h2++e]]++[O.list<|aw res]) _ from wH▸q3),?_,?_⟩
   ·show g (U<|(cH steps [G,h2] rows ps++[O.list<|aw er])++[O.list<|aw [G++e,h2++e]])=true;rw[hlen];exact g1
   ·show V.ref 2= .ref (aiA<|U<|(cH steps [G,h2] rows ps++[O.list<|aw er])++[O.list<|aw [G++e,h2++e]]);rw[hlen];exact bA V.ref f1.symm
end zt
section
variable{w:bx}{os:bM}{dr:cV}{n k c i:B}{C:Cx}{st am ba:St}{gI:J nN}{ns:J ao}{pos:cN}{o sc co:bc}{f u:J (J B)}{e:J B}{args:J V}{E:ak->ay->Prop}{α:Type}{s:ay}{aiA:az->bC ak}{x:ao}{Q:Mapped->ay->Prop}{P:aP}{env:Env}{ρ:J ax}{v:V}
theorem af7:∀{w os dr n steps k G h2 e},zt.ES w os dr n steps k G h2 e () () () ():=by with_unfolding_all exact oK zt.ES zt.EX rfl zt.Ee _ _ _ _ _ _ _ _ _ () () () ()
inductive lr(C:Cx)(n:B):J nN->J ao->J V->St->St->Prop
 |nil {st:St}:lr C n [] [] [] st st
 |cons {name:ao} {value:bB} {p:cN} {rest:J nN} {ns:J ao} {v:V} {vs:J V} {st am ba:St} (h:EV C n value st v am) (t:lr C n rest ns vs am ba):lr C n (⟨some name,value,p⟩::rest) (name::ns) (v::vs) st ba
theorem lr.go{vs:J V}(h:lr C n gI ns vs st am):∀{A:bS} {s:ay} {ρ:J ax} {pos:cN} {Q:J ak->ay->Prop},cn n A->Rep C ρ st s->
  (∀aB ys s',bk C ρ s am aB s'->V.IsL aB s'.heap vs ys->Q ys s')->aF (aN C.prog C.w) A (evalAll<|(qQ pos<|qP gI C.env).map (·.2)) Q bq s:=by
 induction h with
 |nil=>intro A s ρ pos Q hA R hq;exact kwAll_nil<|hq ρ [] s (ek R) rfl
 |cons h t ih=>
  intro A s ρ pos Q hA R hq;refine kwAll_cons<|h.run A s ρ _ hA R λaC x s1 N1 i1=>ih hA N1.rep λbh ys s2 N2 i2=>hq bh (x::ys) s2 (N1.trans N2) ⟨x,ys,rfl,i1.mono N2.pre N2.aX,i2⟩
theorem lr.names{vs:J V}(h:lr C n gI ns vs st am):(qQ pos<|qP gI C.env).all (·.1.isSome)=true/\(qQ pos<|qP gI C.env).filterMap (·.1)=ns/\U ns=U vs:=by
 induction h with
 |nil=>exact⟨rfl,rfl,rfl⟩
 |cons h t ih=>
  refine eh ih λG h2 h3=>⟨?_,?_,by simp only[cK,cK,h3]⟩
  ·exact G
  ·exact bA (J.cons _) h2
theorem pk.fn{aiA:ao}{p:cN}{e:bB}{es:J bB}{a:ax}{fd:lD}{m k1 k2:B}{x y r1 ws:J V}{items:J It}
  (hf:EV C (m+2) (.Name aiA p) st (.val<|.ref a) st) (ho:C.top.get? a=some o) (hd:o.data= .func fd) (ha:jl C (m+2) (e::es) st (.ref k1:: .ref k2::r1) am) (hk:lr C (m+2) gI ns ws am ba)
  (oT:jQ C.toWd m a [.list x,.list y] (.ref 0:: .ref 1::(r1++ws)) ns [(0,x),(1,y)] items) (gm:ba.hp[k1]?=some (.list x)) (kP:ba.hp[k2]?=some (.list y)) (cw:k1≠k2) (hx:V.fe (λH=>false) x=true) (hy:V.fe (λH=>false) y=true) (hr:V.fe (λH=>false) (r1++ws)=true)
  (he:aO (gR e=true) a8):pk C (m+2) (.Call (.Name aiA p) (e::es) gI pos) st "generator" [(k1,x),(k2,y)] items ba where
 sh:=gg (⟨gm,hx⟩)<|fM<|⟨kP,hy⟩
 run:=λA s ρ Q hA R h=>by
  refine wpAny_Call_Name_kw<|hf.run A s ρ _ hA R λfO z s0 N0 i0=>?_;obtain rfl:z= .ref a:=i0;refine eh (hk.names (pos:=pos)) λw1 w2 w3=>callWith_function_kw (o:=o) (fd:=fd)<|evalArgs_kw2 w1 (ha.run A s0 fO pos _ hA N0.rep λaC xs s1 N1 i1=>(hk.go hA N1.rep λbh ys s2 N2 i2=>⟨⟨N2.rep.led.top _ _ ho,hd⟩,?_⟩))<|kQ he;refine D w2<|D (nF _) ?_;have N:=(N0.trans N1).trans N2;have R2:=N.rep;have hlen:U ys=U ns:=by simp only[w3];exact dK i2
  have e1:((ns.zip ys).map (·.2))=ys:=JR<|Tt hlen;have e2:((ns.zip ys).map (·.1))=ns:=J.map_fst_zip<|vU hlen;refine cP (R2.led.at gm) λa1 G o1 m1=>cP (R2.led.at kP) λa2 h2 o2 m2=>?_
  have mW:a1≠a2:=λe=>cw<|pU R2.led.nodup G<|e▸h2;have d1:bh.getD k1 0=a1:=by simp only[c5,G];rfl
  have d2:bh.getD k2 0=a2:=by simp only[c5,h2];rfl
  have F:=R2.toF;have L:ji C.toWd [a1,a2] [.list x,.list y] s2:=by
   refine⟨rfl,λk ob b e q=>?_,?_,λb hb=>?_,F.size,F.top,F.os,F.drawn⟩
   ·match k with
    |0=>
     (have:=cj e;clear e;subst this);(have:=cj q;clear q;subst this)
     exact dv o1 λvs c g1 g2=>(⟨vs,c,g1,g2.ww hx⟩)
    |1=>
     (have:=cj e;clear e;subst this);(have:=cj q;clear q;subst this)
     exact dv o2 λvs c g1 g2=>(⟨vs,c,g1,g2.ww hy⟩)
    |k+2=>simp at e
   ·exact l5.mpr ⟨λh=>mW<|bw.mp h,l5.mpr ⟨(λh=>nomatch h),lx⟩⟩
   ·rcases cu.mp hb with rfl|hb
    ·exact F.low _ m1
    ·rw[bw] at hb;subst hb;exact F.low _ m2
  refine oT.feed (sh:=[(k1,x),(k2,y)]) (dQ:=[a1,a2]) (bk.lives R N) N R2 N.pre (λH h=>h) (λb hb=>?_) (λb hb hs=>?_) ?_ hA L ?_ e2 λI own s3 g1 g2 g3 g4=>h bh I own s3 g1 g2 g3 g4
  ·rcases cu.mp hb with rfl|hb
   ·exact m1
   ·rw[bw] at hb;subst hb;exact m2
  ·exfalso;rcases cu.mp hb with rfl|hb
   ·exact hs (b,x) (.head _) rfl
   ·rw[bw] at hb;subst hb;exact hs (b,y) (.tail _<|.head _) rfl
  ·show[((0:B),x),(1,y)].map (λp=>([a1,a2].getD p.1 0,p.2))=[(bh.getD k1 0,x),(bh.getD k2 0,y)]
   simp only[d1,d2];rfl
  ·refine D e1 ?_
   have Rg:=i1.mono N2.pre N2.aX;refine cD Rg λz1 t1 bE cx bR=>?_
   clear Rg;subst bE;refine aH cx λb1 q1 av=>?_
   clear cx;subst av;refine cD bR λz2 t2 gT ky i3=>?_
   clear bR;subst gT;refine aH ky λb2 q2 av=>?_
   clear ky;subst av;simp only[G] at q1;(have:=cj q1;clear q1;subst this);simp only[h2] at q2;(have:=cj q2;clear q2;subst this);exact⟨_,_,rfl,⟨_,rfl,rfl⟩,_,_,rfl,⟨_,rfl,rfl⟩,(V.IsL.append i3 i2).ww hr⟩
noncomputable def Rh(P:aP):bD ak:=match (Be P).data with| .seq x _=>x|_=>#[]
theorem af8(P:aP):(bZ P).get? 254=some (Be P):=by kernel_rfl
theorem af9(P:aP):(Be P).data= .seq (Rh P) 0:=by kernel_rfl
theorem aga(P:aP):(fdOf<|xU P).defaults= .ref 254:=by kernel_rfl
noncomputable abbrev agb:J ao:=["a","b","fromfile","tofile","fromfiledate","tofiledate","n","lineterm"]
theorem Io{f1 f2 d1 d2:J B}{gI:J ao}(fU:U f<64)(hb:U u<200)(hz:U f1<=1000/\U f2<=1000/\U d1<=1000/\U d2<=1000/\U e<=1000)(hl:(∀x∈f,x.length<=1000)/\∀x∈u,x.length<=1000)(hG:∀g∈groups f u k,GoodG g)
  (mP:∀(ρ:J ax) (h:bn) (xs:J ak) (kw:J (ao×ak)),V.IsL ρ h args (xs++kw.map (·.2))->kw.map (·.1)=gI->∃kk ys,r7 (fdOf (xU w.params)) ⟨xs,kw⟩=seqItems? (fdOf (xU w.params)).defaults >>= kk/\kk (some (Rh w.params))=pure (agb.zip ys)/\
   V.IsL ρ h [.ref 0,.ref 1,.str (tx f1),.str (tx f2),.str (tx d1),.str (tx d2),.int k,.str (tx e)] ys):
  jQ (TW w os dr) (n+8) 261 [.list (aw f),.list (aw u)] args gI [(0,aw f),(1,aw u)] ((fw f u k f1 f2 d1 d2 e).map λx=>It.val (.str (tx x))):=.mk λhA hL aV ii hQ=>QB (gt:=iJ f u) (u9 f u) (aG 2) (b9 f u _) (rl w.params).get (rl w.params).fd rfl (rl w.params).code (noLimit _) (λA E ρ s xs kw Q hL aV ii hq=>by
  exact dh (mP ρ s.heap xs kw aV ii) λkk ys G h2 h3=>D1 (aga _) (hL.top _ _ (af8 _)) (af9 _) G h2 _ _ _ _ (hq ys s.heap s.toks (λH H e=>e) (aG _) h3)) (rl w.params).nd (rl w.params).cell (rl w.params).loc (afL fU hb hz hl hG) hA hL aV ii hQ
section
variable{f1 f2 d1 d2:J B}(fU:U f<64)(hb:U u<200)(hz:U f1<=1000/\U f2<=1000/\U d1<=1000/\U d2<=1000/\U e<=1000)(hl:(∀x∈f,x.length<=1000)/\∀x∈u,x.length<=1000)
include fU hb hl
theorem Ip(hz:U f1<=1000/\U f2<=1000/\U d1<=1000/\U d2<=1000/\U e<=1000)(hG:∀g∈groups f u k,GoodG g):
  jQ (TW w os dr) (n+8) 261 [.list<|aw f,.list<|aw u] [.ref 0,.ref 1,.str<|tx f1,.str<|tx f2,.str<|tx d1,.str<|tx d2,.int k,.str<|tx e] [] [(0,aw f),(1,aw u)] ((fw f u k f1 f2 d1 d2 e).map λx=>It.val<|.str<|tx x):=
 Io fU hb hz hl hG λρ h xs kw aV ii=>by
  obtain rfl:kw=[]:=w9.mp ii;rw[pI,cM] at aV;have hl:=dK aV;revert aV;revert xs;exact aa2 λx1 x2 x3 x4 x5 x6 x7 x8=>λaV=>⟨_,[x1,x2,x3,x4,x5,x6,x7,x8],bindK_eq _ _,rfl,aV⟩
theorem agc(hz:U f1<=1000/\U f2<=1000)(hG:∀g∈groups f u 3,GoodG g):
  jQ (TW w os dr) (n+8) 261 [.list<|aw f,.list<|aw u] [.ref 0,.ref 1,.str<|tx f1,.str<|tx f2] [] [(0,aw f),(1,aw u)] ((fw f u 3 f1 f2 [] [] [10]).map λx=>It.val<|.str<|tx x):=
 Io fU hb ⟨hz.1,hz.2,bH _,bH _,bY rfl⟩ hl hG λρ h xs kw aV ii=>by
  obtain rfl:kw=[]:=w9.mp ii;rw[pI,cM] at aV;have hl:=dK aV;revert aV;revert xs;refine yk λx1 x2 x3 x4=>λaV=>?_
  ·exact⟨_,[x1,x2,x3,x4,.str "" 605,.str "" 606,.int 3 607,.str "\n" 608],bindK_eq _ _,rfl,(V.IsL.append (l:=[.ref 0,.ref 1,.str<|tx f1,.str<|tx f2]) aV ⟨_,_,rfl,⟨_,rfl⟩,_,_,rfl,⟨_,rfl⟩,_,_,rfl,⟨_,rfl⟩,_,_,rfl,⟨_,rfl⟩,rfl⟩)⟩
theorem agd(hz:U e<=1000)(hG:∀g∈groups f u k,GoodG g):
  jQ (TW w os dr) (n+8) 261 [.list<|aw f,.list<|aw u] [.ref 0,.ref 1,.int k,.str<|tx e] ["n","lineterm"] [(0,aw f),(1,aw u)] ((fw f u k [] [] [] [] e).map λx=>It.val<|.str<|tx x):=
 Io fU hb ⟨bH _,bH _,bH _,bH _,hz⟩ hl hG λρ h xs kw aV ii=>by
  have hk:U kw=2:=bg _ |>.symm.trans (bA U ii)
  revert aV ii;revert hk;revert kw;refine sG λp1 p2=>λaV ii=>?_
  have hl:U xs=2:=B.add_right_cancel (m:=2)<|aK.symm.trans (dK aV);obtain⟨k1,v1⟩:=p1;obtain⟨k2,v2⟩:=p2;obtain rfl:k1=_:=(tJ ii).1;obtain rfl:k2=_:=(tJ (tJ ii).2).1;revert aV;revert hl;revert xs;refine sG λx1 x2=>λaV=>⟨_,[x1,x2,.str "" 603,.str "" 604,.str "" 605,.str "" 606,v1,v2],rfl,rfl,(cD aV λH H e1 i1 r=>cD r λH H e2 i2 r=>?_)⟩
  cases e1;cases e2;exact⟨_,_,rfl,i1,_,_,rfl,i2,_,_,rfl,⟨_,rfl⟩,_,_,rfl,⟨_,rfl⟩,_,_,rfl,⟨_,rfl⟩,_,_,rfl,⟨_,rfl⟩,r⟩
end
theorem Rj{M:Model}{A:bS}{E:ak->ay->Prop}{α β:Type}{aiA:α->β->dG (ForInStep β)}{Q:β->ay->Prop}(I:J α->β->ay->Prop)
  (step:∀a r b s,I (a::r) b s->aF M A (aiA a b) (λfs s'=>match fs with| .yield b'=>I r b' s'| .done _=>c7) E s) (fin:∀b s,I [] b s->Q b s):
  ∀(l:J α) (b:β) (s:ay),I l b s->aF M A (forIn l b aiA) Q E s
 | []=>λb s h=>by exact D DJ<|wpAny_pure<|fin b s h
 |a::r=>λb s h=>by
  rw[Ad];refine wpAny_bind<|wpAny_mono (step a r b s h) (λfs s' hf=>?_) λH H x=>x;cases fs with
  |done b'=>exact hf.elim
  |yield b'=>exact Rj I step fin r b' s' hf
noncomputable def cI(c:B):bb:=(decide (9<=c)&&decide (c<=13))||(decide (91<=c)&&decide (c<=94))||(decide (123<=c)&&decide (c<=126))||[32,35,36,38,40,41,42,43,45,46,63].contains c
noncomputable def cC(c:B):J B:=if cI c then[92,c] else[c]
noncomputable def et(l:J B):J B:=l.flatMap cC
theorem Iq(l:J B):U (et l)<=2*U l:=by
 induction l with
 |nil=>exact aG _
 |cons c l ih=>
  show U (cC c++et l)<=_;refine D aK<|D cK ?_;have:U (cC c)<=2:=by unfold cC;split<;>exact bY rfl
  exact AP ih this
theorem age(l m:J B):et (l++m)=et l++et m:=kN ..
theorem agf(h:128<=c):cI c=false:=by
 unfold cI;refine D (fz (p:=c<=13)<|ZS h)<|D (fz (p:=c<=94)<|ZR h)<|D (fz (p:=c<=126)<|ZQ h) ?_;simp only[D6,Av];simp only[z6,J9,cu,g8,rX];exact ZP h
section
variable{prog:du}{A:bS}{d:ax}
open Builtin.Str in
theorem Ir{t:jg}(hm:s.heap.MapOf (pM prog w) d aiA)(hv:aiA c=some (.str x t))(h:∀k,Q (.text x) {s with toks:=k}):aF (aN prog w) A (tableLookup (.ref d) c) Q E s:=by
 exact wpAny_bind (wpAny_attempt<|wpAny_bind<|wpAny_mkInt<|wpAny_getItem_of (k:=(c:az)) (by simp[pM,AC]) (s:={s with toks:=s.toks+1}) hm hv<|wpAny_bind<|wpAny_of_eq (a:=none) rfl<|wpAny_bind<|wpAny_pure<|wpAny_pure<|h _)
theorem agg:r0 (.type "KeyError") (.type "LookupError")=pure true:=by rw[isSubtype_type];kernel_rfl
open Builtin.Str in
theorem Rk(hh:A.handled=none)(hd:(d==tW)=false)(hm:s.heap.MapOf (pM prog w) d aiA)(hv:aiA c=none)(h:∀h' k,(∀b o,s.heap.get? b=some o->h'.get? b=some o)->Q .keep {s with heap:=h',toks:=k}):aF (aN prog w) A (tableLookup (.ref d) c) Q E s:=by
 refine wpAny_bind (wpAny_attempt<|wpAny_bind<|wpAny_mkInt<|wpAny_getItem_missing_of (k:=(c:az)) (by simp[pM,AC]) hd hh (s:={s with toks:=s.toks+1}) hm hv λh' e hn=>(dh hn.there λob t ho hc H=>wpAny_bind<|wpAny_isInstance (T:="KeyError") (b:=true) ⟨ob,ho,hc⟩ agg ?_));exact D (aU rfl)<|wpAny_bind<|wpAny_rule<|wpAny_pure<|h h' _ hn.keeps
theorem Rl(h:n<=16777216):¬(Lb n=true):=by
 unfold Lb;rw[decide_eq_true_iff];have:km=16777216:=rfl;exact Ai ‹_›
theorem agh(l:J ao):(Af (λacc (p:ao)=>acc++p.cps) (#[]:bD B) l)=(l.flatMap λp=>p.cps.toList).toArray:=by
 suffices ∀(l:J ao) (a:bD B),(Af (λacc (p:ao)=>acc++p.cps) a l)=a++(l.flatMap λp=>p.cps.toList).toArray by refine D (this _ _) ?_;simp
 intro l
 induction l with
 |nil=>intro a;simp
 |cons p l ih=>intro a;refine D l6<|D (ih _) (D e9 ?_);apply t9;simp
inductive zw(x:ao)(s:ay)(l:J B):J ao×B×bb×J (B×bC B)×bb->ay->Prop
 |mk (dn:J B) (ps:J ao) (known:J (B×bC B)) (fast:bb) (h':bn) (k:B) (e1:x.cps.toList=dn++l) (e2:(ps.reverse.flatMap λp=>p.cps.toList)=et dn)
  (hk:∀c a,known.lookup c=some a->a=some c/\cI c=false) (hh:∀b o,s.heap.get? b=some o->h'.get? b=some o):zw x s l (ps,U<|et dn,fast,known,false) {s with heap:=h',toks:=k}
open Builtin.Str Builtin in
theorem agi{t:jg}{Q:ak->ay->Prop}(hh:A.handled=none)(hd:(d==tW)=false)(hm:s.heap.MapOf (pM prog w) d aiA)
  (hf:∀c:B,(cI c=true->∃t,aiA c=some (.str ⟨#[92,c]⟩ t))/\(cI c=false->aiA c=none)) (hz:x.length<=8000000)
  (h:∀h' t' k,(∀b o,s.heap.get? b=some o->h'.get? b=some o)->Q (.str ⟨(et x.cps.toList).toArray⟩ t') {s with heap:=h',toks:=k}):
  aF (aN prog w) A («str.translate» ⟨[iW x t,.ref d],[]⟩) (λfin s'=>∃v,fin= .done (.ret v)/\Q v s') E s:=by
 refine wpAny_bind<|wpAny_of_eq (a:=(.str x t,x,.ref d)) rfl ?_
 by_cases hx:x.length=0
 ·refine wpAny_ite_true (dF<|by simp[hx]) ?_
  have e0:x.cps.toList=[]:=rO (by refine D eO ?_;exact hx);refine wpAny_bind<|wpAny_rule<|wpAny_bind<|wpAny_of_eq (a:=.str x t) rfl ?_;refine wpAny_pure ⟨_,rfl,?_⟩;have:=h s.heap t s.toks λH H e=>e;rw[e0] at this;have e1:x=⟨#[]⟩:=by
   cases x;exact bA tZ<|t9 e0
  refine D e1 ?_;exact this
 refine wpAny_ite_false (fz<|by simp[hx])<|wpAny_bind<|wpAny_mono (Q:=λ(r:J ao×B×bb×J (B×bC B)×bb) s'=>∃ps known fast,r=(ps,(et x.cps.toList).length,fast,known,false)/\(ps.reverse.flatMap λp=>p.cps.toList)=et x.cps.toList/\(∃h' k,s'={s with heap:=h',toks:=k}/\(∀b o,s.heap.get? b=some o->h'.get? b=some o))) ?_ (λr s' hr=>?_) λH H x=>x
 ·refine bL bD.forIn_toList<|Rj (zw x s) ?_ ?_ _ _ _ ?_
  ·intro c r b s' dM;obtain⟨dn,ps,known,fast,G,tk,e1,e2,hk,gm⟩:=dM;dsimp only;have hle:U (et dn)<=16777216:=by
    have h3:x.cps.toList.length=x.length:=eO;rw[e1,aK] at h3;have:=Iq dn;exact ZO h3 this hz
   refine wpAny_ite_false (fz<|Rl hle) ?_
   have Cr:∀p:J B,cC c=p->et (dn++[c])=et dn++p:=λp e=>by rw[age,←e];exact bA (et dn++ ·)<|cM _
   have done:∀(p:ao) (Cw:J<|B×bC B) (Iu:bb) (h2:bn) (Cy:B),cC c=p.cps.toList->(∀c a,Cw.lookup c=some a->a=some c/\cI c=false)->(∀b o,s.heap.get? b=some o->h2.get? b=some o)->
     zw x s r (p::ps,U (et dn)+p.cps.size,Iu,Cw,false) {s with heap:=h2,toks:=Cy}:=λp Cw Iu h2 Cy hp eS fK=>by
    have e:=zw.mk (x:=x) (s:=s) (l:=r) (dn++[c]) (p::ps) Cw Iu h2 Cy (by rw[e1,cm];rfl) (by
     refine D (Cr _ hp)<|D Ab<|D kN<|D e2 ?_
     exact bA (et dn++ ·) (cM _)) eS fK
    rw[Cr _ hp,aK] at e;exact e
   have gF:∀h2:bn,(∀b o,s.heap.get? b=some o->h2.get? b=some o)->h2.MapOf (pM prog w) d aiA:=λh2 fK=>by
    exact eR hm λo es ep ho q=>⟨o,es,ep,fK _ _ ho,q⟩
   have pg:cI c=true->cC c=[92,c]:=λe=>by unfold cC;exact D (aU e) rfl
   have pn:cI c=false->cC c=[c]:=λe=>by unfold cC;(exact D (aE<|by rw[e];decide) rfl)
   cases fast
   ·refine wpAny_ite_false rfl (wpAny_ite_false rfl ?_)
    by_cases hg:cI c=true
    ·obtain⟨t2,hv⟩:=(hf c).1 hg;exact wpAny_bind<|Ir (gF G gm) hv λk=>(wpAny_pure<|done ⟨#[92,c]⟩ known false G k (pg hg) hk gm)
    ·have hg:=Ka hg;exact wpAny_bind<|Rk hh hd (gF G gm) ((hf c).2 hg) λh2 k kP=>(wpAny_pure<|done ⟨#[c]⟩ known false h2 k (pn hg) hk λb o e=>kP b o<|gm b o e)
   ·refine wpAny_ite_true rfl ?_
    cases hl:known.lookup c with
    |some a=>
     obtain⟨rfl,hg⟩:=hk c a hl;exact wpAny_bind<|wpAny_pure<|wpAny_pure<|done ⟨#[c]⟩ known true G tk (pn hg) hk gm
    |none=>
     by_cases hg:cI c=true
     ·obtain⟨t2,hv⟩:=(hf c).1 hg;refine wpAny_bind<|Ir (gF G gm) hv λk=>(wpAny_bind<|wpAny_pure ?_);refine wpAny_bind<|wpAny_rule<|wpAny_ite_false rfl ?_;exact wpAny_bind<|Ir (s:={s with heap:=G,toks:=k}) (gF G gm) hv λk2=>(wpAny_pure<|done ⟨#[92,c]⟩ known false G k2 (pg hg) hk gm)
     ·have hg:=Ka hg;refine wpAny_bind<|Rk hh hd (gF G gm) ((hf c).2 hg) λh2 k kP=>(wpAny_bind<|wpAny_pure ?_);refine wpAny_pure<|done ⟨#[c]⟩ ((c,some c)::known) true h2 k (pn hg) (λc' a' e=>?_) λb o e=>kP b o<|gm b o e;rw[gv] at e;split at e
      ·next he=>
       have:=eq_of_beq he;subst this;cases e;exact⟨rfl,hg⟩
      ·exact hk c' a' e
  ·intro b s' hU;obtain⟨dn,ps,known,fast,G,tk,e1,e2,hk,gm⟩:=hU;rw[cM] at e1;exact⟨ps,known,fast,by exact D e1 rfl,by refine D e1 ?_;exact e2,G,tk,rfl,gm⟩
  ·exact zw.mk [] [] [] _ s.heap s.toks rfl rfl (λc a e=>nomatch e) λH H e=>e
 ·refine Tf hr λps known fast bE e2 G bR=>?_
  clear hr;subst bE;refine aH bR λtk o6 gm=>?_
  clear bR;subst o6;have hle:(et x.cps.toList).length<=16777216:=by
   have h3:x.cps.toList.length=x.length:=eO;have:=Iq x.cps.toList;exact ZN h3 this hz
  refine wpAny_ite_false (fz<|Rl hle) ?_
  have e3:(Af (λacc (p:ao)=>acc++p.cps) (#[]:bD B) ps.reverse)=(et x.cps.toList).toArray:=by rw[agh,e2]
  refine D e3 ?_
  refine wpAny_bind (wpAny_mkStr (wpAny_pure ⟨_,rfl,?_⟩)<|by show(et x.cps.toList).toArray.size<=km;exact hle);exact h _ _ _ gm
end
section
variable{q:B}{ce:St}
theorem aQ.translate{x:ao}{d:ax}{aiA:az->bC ak}(hd:(d==tW)=false)(hm:C.top.MapOf (pM C.prog C.w) d aiA)
  (hf:∀c:B,(cI c=true->∃t,aiA c=some (.str ⟨#[92,c]⟩ t))/\(cI c=false->aiA c=none)) (hz:x.length<=8000000):
  aQ C n (.builtin "str.translate") [.str x,.val<|.ref d] st (.str ⟨(et x.cps.toList).toArray⟩) st:=.mk λA s ρ xs Q hA R aV h=>by
 refine cD aV λy r bE cx bR=>?_
 clear aV;subst bE;obtain⟨t,rfl⟩:=cx;refine cD bR λz r' gT e i2=>?_
 clear bR;subst gT;obtain rfl:r'=[]:=i2;subst e;have y9:s.heap.MapOf (pM C.prog C.w) d aiA:=by
  exact eR hm λo es ep ho q=>(⟨o,es,ep,R.led.top _ _ ho,q⟩)
 exact wpAny_call_entry F.slot_str_translate (typeIs_str _ _ _) F.entry_str_translate (agi hA.1 hd y9 hf hz λh' t' k hk=>(h ρ _ _ (bk.grow (s':={s with heap:=h',toks:=k}) R hk (eN.refl _) rfl rfl) ⟨t',rfl⟩))<|F.args_str_translate_2 _ _
end
theorem agj(P:aP):cT (fQ P) "_special_chars_map"=some (.ref 270):=by kernel_rfl
noncomputable def Iv(P:aP):J jz:=match (Bf P).data with| .dict es _=>es.toList|_=>[]
noncomputable def epE(P:aP):B:=match (Bf P).data with| .dict _ n=>n|_=>0
noncomputable def fE(P:aP)(k:az):bC ak:=((Iv P).find? λe=>AC k e.key).map (·.val)
noncomputable def Rm(v:bC ak)(c:B):bb:=match v with|some (.str x _)=>x.cps.toList==[92,c]&&cI c|none=> !cI c|_=>false
theorem Rn(P:aP):(Iv P).all (λe=>match e.key with| .int i _=>e.hash==hashInt i&&decide (0<=i)&&decide (i<128)|_=>false)=true:=by kernel_rfl
theorem agk(P:aP):(eD 128).all (λc=>Rm (fE P c) c)=true:=by kernel_rfl
theorem agl(P:aP)(prog:du)(w:bx):(bZ P).MapOf (pM prog w) 270 (fE P):=by
 refine⟨Bf P,(Iv P).toArray,epE P,by kernel_rfl,?_,by kernel_rfl,λe he=>?_,λk=>?_⟩
 ·exact⟨rfl,rfl,rfl⟩
 ·have:=fW.mp (Rn P) e (by simpa using he);obtain⟨hh,k,v⟩:=e;cases k with
  |int i t=>exact⟨i,xl i,eq_of_beq (fb.mp (fb.mp this).1).1⟩
  |_=>exact aY this dy
 ·unfold findBy fE;refine D (JJ _ _) ?_;rfl
theorem agm(v:bC ak)(c:B)(h:Rm v c=true):(cI c=true->∃t,v=some (.str ⟨#[92,c]⟩ t))/\(cI c=false->v=none):=by
 cases v with
 |none=>exact⟨λe=>aY ((bA not e).symm.trans h) dy,λH=>rfl⟩
 |some y=>
  cases y with
  |str x t=>
   have h:=fb.mp h;obtain⟨a⟩:=x;exact⟨λH=>⟨t,bA (λa=>some<|iW ⟨a⟩ t)<|t9<|eq_of_beq h.1⟩,λe=>aY (e.symm.trans h.2) dy⟩
  |_=>exact aY h dy
theorem agn(P:aP)(c:B):(cI c=true->∃t,fE P c=some (.str ⟨#[92,c]⟩ t))/\(cI c=false->fE P c=none):=by
 by_cases h:c<128
 ·have:=fW.mp (agk P) c<|rW.mpr h;revert this;generalize fE P c=o;exact agm o c
 ·have hg:=agf (c:=c) (by exact iR ‹_›);refine⟨λe=>(by rw[hg] at e;cases e),λH=>?_⟩;unfold fE;rw[J.find?_eq_none.mpr ?_];rfl;intro e he;have:=fW.mp (Rn P) e he;obtain⟨hh,k,v⟩:=e;cases k with
  |int i t=>
   refine λe2=>h ?_
   have h3:=dq (fb.mp this).2;exact AD.mp<|eq_of_beq e2▸h3
  |_=>exact aY this dy
theorem ago{l:J B}(hl:U l<=8000000):cE (TW w os dr) (n+1) (.ref 280) [] [.str<|tx l] [] (.str<|tx<|et l):=by
 refine m6 (mX _) rfl (λxs hx=>?_) λL=>?_
 ·revert xs;exact sF λH=>rfl
 have gi:=Ov w.params;have bi:=Oz w.params;refine eE dE (cg<|i8 true (fu (fv (cB (cQ _) gi (dN _) bi) (an ah<|an (cB (cQ _) (sH _) (dN _)<|sI _) aM) aQ.BK) kR) (λH=>?_) λh=>by exact Au h);refine j6 (jq ah nW (an (hH (cQ _)<|agj _) aM) (aQ.translate (aiA:=fE w.params) (by rfl) (agl _ _ _) (agn _)<|by refine D (jH _) ?_;exact hl) nQ PySem.F.slot_str_translate PySem.F.type_str_translate) ⟨_,rfl,?_⟩;exact o7 rfl rfl
theorem agp{p:cN}{ca:ax}{v:ak}{aiy:V}(ht:C.top.get? ca=some o)(hd:o.data= .cell (some v))(hu:∀ρ h,V.Is ρ h aiy v)
  (hk:C.env.scope.kind= .function) (hl:C.env.kindOf x=some .cell) (hc:C.env.cells.lookup x=some ca) (hx:aO ((x==("__debug__":ao))=false) aD._auto_1):EV C n (.Name x p) st aiy st:=.mk λA s ρ Q hA R h=>
 wpAny_Name (wpAny_loadName_cell hk hl hc ⟨o,R.led.top _ _ ht,hd⟩<|h ρ v s (ek R)<|hu ρ s.heap) hx
noncomputable def Ro:bc:=⟨.none,aA,.freed,#[]⟩
noncomputable def pt(P:aP)(sc co:bc):bn:=(((bZ P).push sc).push Ro).push co
theorem lu(P:aP):(bZ P).objs.size=319:=by kernel_rfl
theorem Cz(P:aP)(sc co:bc):(pt P sc co).objs.size=322:=by unfold pt;simp only[jV,jV,jV,lu]
theorem vg{b:ax}(h:(bZ P).get? b=some o):(pt P sc co).get? b=some o:=dD _<|dD _<|dD _ h
theorem Rp{b:ax}(h:(pt P sc co).get? b=some o):(b=321/\o=co)\/(b=319/\o=sc)\/(bZ P).get? b=some o:=by
 unfold pt at h;rcases D4 h with h|h
 ·rw[jV,jV,lu] at h;exact .inl h
 rcases D4 h with h'|h'
 ·exfalso;refine xA h' λG h2=>?_
  simp only[bn.get?_eq_some] at h;simp only[h2] at h;cases h.2
 rcases D4 h' with h|h
 ·rw[lu] at h;exact .inr<|.inl h
 ·exact .inr<|.inr h
theorem zx(h:co.isFreed=false):(pt P sc co).get? 321=some co:=by
 have:=ew (((bZ P).push sc).push Ro) h;rw[jV,jV,lu] at this;exact this
theorem agq(h:sc.isFreed=false):(pt P sc co).get? 319=some sc:=by
 have:=ew (bZ P) h;rw[lu] at this;exact dD _<|dD _ this
theorem agr:(pt P sc co).get? 320=aA:=by
 cases e:(pt P sc co).get? 320 with
 |none=>rfl
 |some o=>
  rcases Rp e with ⟨h,_⟩|⟨h,_⟩|h
  ·exact nomatch h
  ·exact nomatch h
  ·have:=dH h;rw[lu] at this;exact aY this (by decide)
noncomputable def TL(w:bx)(os:bM)(dr:cV)(sc co:bc)(bo:co.isFreed=false):Wd:=⟨oH,w,pt w.params sc co,os,dr,⟨co,by rw[Cz];exact zx bo⟩⟩
section
variable{bo:co.isFreed=false}
theorem Rq(R:Rep ⟨TL w os dr sc co bo,env⟩ ρ st s):Rep ⟨TW w os dr,env⟩ ρ st s:=by
 have L:=R.led;refine⟨R.loc,⟨L.len,L.objs,L.nodup,L.fB,λa h=>?_,?_,λb o e=>L.top b o<|vg e,L.os,L.drawn⟩⟩
 ·have:=L.low a h;rw[show(TL w os dr sc co bo).top.objs.size=322 from Cz ..] at this;exact D (lu _)<|cX (by decide) this
 ·cases e:(TW w os dr).top.get? env.locals with
  |none=>rfl
  |some o=>
   have G:(pt w.params sc co).get? env.locals=aA:=L.gQ;rw[vg (sc:=sc) (co:=co) e] at G;exact nomatch G
theorem Rr{aB:J ax}{aj:St}{s':ay}(R:Rep ⟨TL w os dr sc co bo,env⟩ ρ st s)(Hq:∀a∈aB,a∉ρ->322<=a)(N:bk ⟨TW w os dr,env⟩ ρ s aj aB s'):bk ⟨TL w os dr sc co bo,env⟩ ρ s aj aB s':=by
 have L:=N.rep.led;have ka:(TL w os dr sc co bo).top.objs.size=322:=Cz ..;refine⟨N.pre,N.aX,N.keep,N.fresh,N.gens,N.rep.loc,⟨L.len,L.objs,L.nodup,L.fB,λa h=>?_,R.led.gQ,λb o e=>?_,L.os,L.drawn⟩⟩
 ·
  refine D ka ?_
  by_cases ha:a∈ρ
  ·have:=R.led.low a ha;rw[show(Cx.toWd ⟨TL w os dr sc co bo,env⟩).top.objs.size=322 from ka] at this;exact this
  ·exact Hq a h ha
 ·refine N.keep b o (R.led.top b o e) (λhb=>?_) λhb=>?_
  ·have G:=R.led.low b hb;exact aY (dH e)<|iT.mpr G
  ·subst hb;rw[show(Cx.toWd ⟨TL w os dr sc co bo,env⟩).top.get? env.locals=aA from R.led.gQ] at e;exact nomatch e
theorem aQ.Rs{aiA:ak}(h:aQ ⟨TW w os dr,env⟩ n aiA args st v st):aQ ⟨TL w os dr sc co bo,env⟩ n aiA args st v st:=.mk λA s ρ xs Q hA R aV k=>
 h.run A s ρ xs Q hA (Rq R) aV λaB x s' N i=>by
  have e:aB=ρ:=(Ag N.pre<|by simp only[R.led.len,N.rep.led.len]).symm;subst e;exact k _ x s' (Rr R (λa G h2=>aY G h2) N) i
theorem aQ.up{aiA:ak}{aj:St}(eF:sc.isFreed=false)(hL:env.locals=320)(h:aQ ⟨TW w os dr,env⟩ n aiA args st v aj):aQ ⟨TL w os dr sc co bo,env⟩ n aiA args st v aj:=.mk λA s ρ xs Q hA R aV k=>
 h.run A s ρ xs Q hA (Rq R) aV λaB x s' N i=>k _ x s' (Rr R (λa G h2=>by
  have hf:=N.fresh a G h2;have hl:=N.rep.led.low a G;rw[show(Cx.toWd ⟨TW w os dr,env⟩).top.objs.size=319 from lu _] at hl;have n1:a≠321:=λe=>by
   subst e;rw[R.led.top 321 co<|zx bo] at hf;exact nomatch hf
  have n2:a≠319:=λe=>by
   subst e;simp only[R.led.top 319 sc<|agq eF] at hf;exact nomatch hf
  have n3:a≠320:=λe=>by
   subst e;refine aH R.loc λm cq H=>eR cq λoL H H h3 H=>?_
   rw[show(Cx.env ⟨TL w os dr sc co bo,env⟩).locals=320 from hL,show s.heap.get? 320=aA from hf] at h3;exact nomatch h3
  have:(319:B)<=a:=hl;have m1:@Ne B a 321:=n1;have m2:@Ne B a 319:=n2;have m3:@Ne B a 320:=n3
  exact YP this m2 m3 m1) N) i
theorem Rt{m:B}{I:ax}{sh:J (ax×J V)}{g:B->Prop}(eo:∀p∈sh,(TL w os dr sc co bo).top.get? p.1=aA):∀{l:J V} {own:ax->Prop} {s:ay},(∀b,own b->(TL w os dr sc co bo).top.get? b=aA)->
  gq (TW w os dr) m I sh g (l.map .val) own s->gq (TL w os dr sc co bo) m I sh g (l.map .val) own s
 | [],own,s,ho,aiA=>λs' r A Q E hA hQ=>aiA s' ⟨r.keep,r.aX,r.sh,λb o e=>r.top b o<|vg e,r.gens,r.news,r.size,r.os,r.drawn⟩ A Q E hA λbQ mv fin=>hQ bQ ⟨mv.keep,mv.aX,mv.sh,λb o e=>mv.keep b o (r.top b o e) (λh=>by simp only[ho b h] at e;cases e) (λp hp h=>by simp only[←h,eo p hp] at e;cases e),mv.gens,mv.size,mv.os,mv.drawn⟩ fin
 |v::l,own,s,ho,aiA=>λs' r A Q E hA hQ=>aiA s' ⟨r.keep,r.aX,r.sh,λb o e=>r.top b o<|vg e,r.gens,r.news,r.size,r.os,r.drawn⟩ A Q E hA λx bQ eK mv dj hit F=>by
  have mv':Mv (TL w os dr sc co bo) sh g own s' bQ:=⟨mv.keep,mv.aX,mv.sh,λb o e=>mv.keep b o (r.top b o e) (λh=>by simp only[ho b h] at e;cases e) (λp hp h=>by simp only[←h,eo p hp] at e;cases e),mv.gens,mv.size,mv.os,mv.drawn⟩
  refine hQ x bQ eK mv' dj hit<|Rt eo (λb hb=>?_) F;rcases(dj b hb).1 with h|h
  ·exact ho b h
  ·cases e:(TL w os dr sc co bo).top.get? b with
   |none=>rfl
   |some o=>have:=r.top b o e;rw[h] at this;exact nomatch this
theorem ags{hp:J O}(L:ji (TL w os dr sc co bo) ρ hp s):ji (TW w os dr) ρ hp s:=by
 have ka:(TL w os dr sc co bo).top.objs.size=322:=Cz ..;have h2:(TW w os dr).top.objs.size=319:=lu _;refine⟨L.len,L.objs,L.nodup,λa h=>?_,?_,λb o e=>L.top b o<|vg e,L.os,L.drawn⟩
 ·refine D h2 ?_;have:=L.low a h;rw[ka] at this;exact cX (by decide) this
 ·refine D h2 ?_;have:=L.size;rw[ka] at this;exact cX (by decide) this
theorem jQ.up{m:B}{aiA:ax}{gt:J O}{gI:J ao}{cy:J (B×J V)}{items:J V}(n7:∀p∈cy,p.1<U gt)(h:jQ (TW w os dr) m aiA gt args gI cy (items.map .val)):jQ (TL w os dr sc co bo) m aiA gt args gI cy (items.map .val):=.mk λ{A s dQ xs kw Q} hA hL aV ii hQ=>h.run hA (ags hL) aV ii λs' I La keep hI Ru H5 hT hg ho hd F=>hQ s' I La keep hI Ru H5 hT hg ho hd (by
  have live:∀b,s.heap.get? b=aA->(TL w os dr sc co bo).top.get? b=aA:=λb hb=>by
   cases e:(TL w os dr sc co bo).top.get? b with
   |none=>rfl
   |some o=>have:=hL.top b o e;rw[hb] at this;exact nomatch this
  have inl:∀b∈dQ,(TL w os dr sc co bo).top.get? b=aA:=λb hb=>xW<|hL.low b hb;refine Rt (λp hp=>?_) (λb hb=>?_) F
  ·refine aH (fa.mp hp) λq hq av=>?_
   subst av;refine inl _ ?_
   have lt:=n7 q hq;rw[←hL.len] at lt;simp only[c5,bO lt];exact nE _
  ·rcases hb with rfl|⟨hb,_⟩|rfl|hb
   ·exact live _ hI
   ·exact inl b hb
   ·exact live _ Ru
   ·exact hb.elim)
end
open Classical in
noncomputable def tr(aiA:α->V)(h:α->J V)(l:J α)(aiy:V):J V:=if e:∃a,a∈l/\aiA a=aiy then h (choose e) else[]
theorem Iw{aiA:α->V}{h:α->J V}{l:J α}(hf:∀a b,aiA a=aiA b->a=b){a:α}(ha:a∈l):tr aiA h l (aiA a)=h a:=by
 unfold tr;have e:∃b,b∈l/\aiA b=aiA a:=⟨a,ha,rfl⟩
 exact D (dif_pos e)<|D (hf _ _ (KX e).2) rfl
theorem Rv{aiA:α->V}{h:α->J V}{l:J α}(hf:∀a b,aiA a=aiA b->a=b):(l.map aiA).flatMap (tr aiA h l)=l.flatMap h:=by
 have:∀(m:J α),(∀a∈m,a∈l)->(m.map aiA).flatMap (tr aiA h l)=m.flatMap h:=by
  intro m
  induction m with
  |nil=>intro _;rfl
  |cons a m ih=>
   intro hm;simp only[eu,e9,e9,Iw hf (hm a (.head _)),ih λb hb=>hm b<|.tail _ hb]
 exact this l λa h=>h
theorem comp_map{elt iter:bB}{px:cN}{ifs:J bB}{scope:r9}{l:J α}{aiw:St->Prop}{lo:B}{out:J V}(cl:J<|ao×ax)(aiA:α->V)(h:α->J V)(hf:∀a b,aiA a=aiA b->a=b)
  (G:EV C n iter st v am) (h2:fC C n v am (l.map aiA) aiw lo) (hD:aiw am) (kr:lo<=U am.hp)
  (iX:∀L a,a∈l->∃b,qj (gZ C scope cl L) n ifs ⟨[(x,aiA a)],am.hp⟩ b/\((b=false/\h a=[])\/(b=true/\∃y,h a=[y]/\EV (gZ C scope cl L) n elt ⟨[(x,aiA a)],am.hp⟩ y ⟨[(x,aiA a)],am.hp⟩)))
  (uV:l.flatMap h=out) (hz:U out<=1000000)
  (ni:aO (tX scope C.env=pure cl) a8)
  (eF:aO ((scope.names.all λy=>match y.2 with| .cell=>false| .local=>(match scope.names.lookup y.1 with|some .local=>true|_=>false)|_=>true)=true) a8) (kF:aO (scope.kind= .function) a8) (hx:aO (scope.names.lookup x=some D3) a8)
  (hs:aO (∀x,pK iter C.env x=pure x) aI._auto_1):
  EV C n (.ListComp elt [⟨.Name x px,iter,ifs,0⟩] scope pos) st (.ref<|U am.hp) ⟨am.loc,am.hp++[.list out]⟩:=by
 have sc:=Hs eF;have e:(l.map aiA).flatMap (tr aiA h l)=out:=(Rv hf).trans uV;simp only[←e];refine Pv cl (tr aiA h l) G h2 hD kr (λL aiy hu=>?_) (by refine D e ?_;exact hz) ni sc.1 kF sc.2 hx hs;refine aH (fa.mp hu) λa ha av=>?_
 subst av;exact D (Iw hf ha)<|iX L a ha
theorem set_same{l:J α}{x:α}(h:l[i]?=some x):l.set i x=l:=by
 obtain⟨hi,e⟩:=cJ.mp h;subst e;exact J.set_getElem_self ..
noncomputable abbrev qA(w:bx):Env:=callEnvC (fdOf<|su w.params) 320 318
section
variable{bo:co.isFreed=false}{l:J (ao×V)}{hp:J O}
noncomputable abbrev cL(w:bx)(os:bM)(dr:cV)(sc co:bc)(bo:co.isFreed=false):Cx:=⟨TL w os dr sc co bo,qA w⟩
theorem CA(eF:sc.isFreed=false){j:B}{steps:J (J B×J B)}{G h2:J B}(hi:hp[i]?=some (.list<|bf steps))(hj:hp[j]?=some (.list<|aw [G,h2]))(fT:i≠j)(hz:U steps<=1000)(hs:∀p∈steps,U p.1<=1000/\U p.2<=1000)(hk:k<=1000)(hh:U G<=1000/\U h2<=1000/\U e<=1000):
  aQ (cL w os dr sc co bo) (n+4) (.ref 313) [.ref i,.int k,.ref j,.str<|tx e] ⟨l,hp⟩ (.ref<|U hp) ⟨l,hp++[.list<|aw<|report (gk steps) k G h2 e]⟩:=by
 refine aQ.up eF rfl ?_
 have h:=cE.frame (C:=⟨TW w os dr,qA w⟩) (st:=⟨l,hp⟩) [i,j] (af7 (w:=w) (os:=os) (dr:=dr) (n:=n) hz hs hk hh) rfl (by show 2<=3;decide) (by simp[fT]) (λa ob ha=>by
  match a with
  |0=>cases ha;exact⟨k6,i,rfl,by simp only[hi,O.Bh,wg]⟩
  |1=>cases ha;exact⟨eY,j,rfl,by simp only[hj,O.Bh,rq]⟩
  |a+2=>cases ha) rfl
 simp only[uy,FY,eu,pI,O.Bh,wg,rq,set_same hi,set_same hj] at h;exact h
theorem zy{aiy:J (J B)}{p1 p2 agt Hu:cN}{e:bB}{es:J bB}{k1 k2:B}{r1 ws:J V}
  (ha:jl (cL w os dr sc co bo) (n+10) (e::es) st (.ref k1:: .ref k2::r1) am) (hk:lr (cL w os dr sc co bo) (n+10) gI ns ws am ba)
  (oT:jQ (TW w os dr) (n+8) 261 [.list<|aw f,.list<|aw u] (.ref 0:: .ref 1::(r1++ws)) ns [(0,aw f),(1,aw u)]<|aiy.map λx=>It.val<|.str<|tx x)
  (gm:ba.hp[k1]?=some (.list<|aw f)) (kP:ba.hp[k2]?=some (.list<|aw u)) (cw:k1≠k2) (hr:V.fe (λH=>false) (r1++ws)=true) (hz:U aiy<=1000000) (he:aO (gR e=true) a8):
  EV (cL w os dr sc co bo) (n+12) (.Call (.Name "list" p1) [.Call (.Name "unified_diff" p2) (e::es) gI Hu] [] agt) st (.ref<|U ba.hp) ⟨ba.loc,ba.hp++[.list<|aw aiy]⟩:=by
 have hg:(bZ w.params).Ns tS (cT<|fQ w.params):=cQ _;have kp:∀b o,(bZ w.params).get? b=some o->(TL w os dr sc co bo).top.get? b=some o:=λb o h=>vg h;have hcu:jQ (TL w os dr sc co bo) (n+8) 261 [.list<|aw f,.list<|aw u] (.ref 0:: .ref 1::(r1++ws)) ns [(0,aw f),(1,aw u)] ((aw aiy).map .val):=by
  refine jQ.up (u9 f u) ?_
  have:(aw aiy).map It.val=aiy.map λx=>It.val (.str<|tx x):=by unfold aw;exact D gM rfl
  simp only[this];exact oT
 exact EV.listOf (n:=n+10) (cB (hg.keeps kp) (qb _) ((dN _).keeps kp)<|qd _) QA (pk.fn (m:=n+8) (hH (hg.keeps kp)<|aa7 _) (kp _ _ (rl w.params).get) (rl w.params).fd ha hk hcu gm kP cw eY eY hr he) (by exact D (en _)<|mn<|by exact Nh hz)
end
noncomputable def sg(l:J B):J (J B):=l.map λc=>[c]
noncomputable def cR(t:J B):J B:=t.filter λc=>decide (c≠92)
noncomputable def jR(z c:B):J B:=if c % 2=z then cC c else[c]
noncomputable def nz(z c:B):J B:=if c % 2=z then[c] else cC c
noncomputable def eG(z:B)(b:J B):J B:=b.flatMap<|jR z
noncomputable def nA(z:B)(b:J B):J B:=b.flatMap<|nz z
noncomputable abbrev dY:=J<|J B×J B
noncomputable def gu(z c:B):dY:=if cI c=true/\c % 2=z then[([],[92]),([c],[c])] else[([c],[c])]
noncomputable def fV(z c:B):dY:=if cI c=true/\c % 2=z then[([92],[92]),([c],[c])] else if cI c=true then[([92],[]),([c],[c])] else[([c],[c])]
noncomputable def eV(z:B)(b:J B):dY:=b.flatMap<|gu z
noncomputable def cS(z:B)(b:J B):dY:=b.flatMap<|fV z
noncomputable def fL(z:B)(b:J B):dY:=eV z b++(eV z b).map λs=>([],s.2)
noncomputable def fg(t:J B):dY:=t.map λc=>([c],cC c)
noncomputable def gJ(one two:J<|J B)(bare whole:J B):dY:=
 if U one<U two then(one++[bare]).map (λl=>(l,[]))++[([],whole)]++two.map (λl=>(l,l))++([bare]++one).map λl=>([],l)
 else([whole]++two++[bare]).map (λl=>([],l))++one.map (λl=>(l,l))++([bare]++two).map λl=>(l,[])
noncomputable def dR(z:B):J B:=if z=1 then[10] else[]
structure wM(t:J B)(z k:B):Prop where
 aik:fw [t] [t] k [98,97,114,101] [104,97,108,102] [49] [50] (dR z)=[]
 ail:fw [] [] k [98,97,114,101] [104,97,108,102] [49] [50] (dR z)=[]
 first:fw (sg<|cR t) (sg<|eG z (cR t)++eG z (cR t)) k [98,97,114,101] [104,97,108,102] [] [50] (dR z)=report (gk<|fL z<|cR t) k [45,45,45,32,98,97,114,101] [43,43,43,32,104,97,108,102,9,50] (dR z)
 second:fw (sg<|et<|cR t) (sg<|eG z<|cR t) k [119,104,111,108,101] [104,97,108,102] [49] [] (dR z)=report (gk<|cS z<|cR t) k [45,45,45,32,119,104,111,108,101,9,49] [43,43,43,32,104,97,108,102] (dR z)
 aim:fw (sg t) (t.map cC) k [] [] [] [] (dR z)=report (gk<|fg t) k [45,45,45,32] [43,43,43,32] (dR z)
 ain:fw (sg (eG z<|cR t)++[cR t]++sg (nA z<|cR t)) ([et<|cR t]++sg (nA z<|cR t)++[cR t]++sg (eG z<|cR t)) 3 [104,97,108,102] [111,116,104,101,114] [] [] [10]=report (gk<|gJ (sg<|eG z<|cR t) (sg<|nA z<|cR t) (cR t)<|et<|cR t) 3 [45,45,45,32,104,97,108,102] [43,43,43,32,111,116,104,101,114] [10]
 g1:∀g∈groups [t] [t] k,GoodG g
 g2:∀g∈groups [] [] k,GoodG g
 g3:∀g∈groups (sg<|cR t) (sg<|eG z (cR t)++eG z (cR t)) k,GoodG g
 g4:∀g∈groups (sg<|et<|cR t) (sg<|eG z<|cR t) k,GoodG g
 g5:∀g∈groups (sg t) (t.map cC) k,GoodG g
 g6:∀g∈groups (sg (eG z<|cR t)++[cR t]++sg (nA z<|cR t)) ([et<|cR t]++sg (nA z<|cR t)++[cR t]++sg (eG z<|cR t)) 3,GoodG g
theorem Rw{q:B}{elt iter:bB}{y:ao}{px py yL:cN}{ifs:J bB}{scope:r9}{l:J α}{aiw:St->Prop}{lo:B}{out:J V}{K:Fl->St->Prop}(cl:J<|ao×ax)(aiA:α->V)(h:α->J V)(hf:∀a b,aiA a=aiA b->a=b)
  (G:EV C n iter st v am) (h2:fC C n v am (l.map aiA) aiw lo) (hD:aiw am) (kr:lo<=U am.hp)
  (iX:∀L a,a∈l->∃b,qj (gZ C scope cl L) n ifs ⟨[(x,aiA a)],am.hp⟩ b/\((b=false/\h a=[])\/(b=true/\∃y,h a=[y]/\EV (gZ C scope cl L) n elt ⟨[(x,aiA a)],am.hp⟩ y ⟨[(x,aiA a)],am.hp⟩)))
  (uV:l.flatMap h=out) (hz:U out<=1000000) (hK:K .next (St.put ⟨am.loc,am.hp++[.list out]⟩ y<|.ref<|U am.hp))
  (Hd:aO (swapsWith (.ListComp elt [⟨.Name x px,iter,ifs,0⟩] scope pos) (some<|.Name y py) yL.line C.env=pure true) a8)
  (ni:aO (tX scope C.env=pure cl) a8)
  (eF:aO ((scope.names.all λy=>match y.2 with| .cell=>false| .local=>(match scope.names.lookup y.1 with|some .local=>true|_=>false)|_=>true)=true) a8) (kF:aO (scope.kind= .function) a8) (hx:aO (scope.names.lookup x=some D3) a8)
  (hk:aO (C.env.scope.kind= .function) a8) (hy:aO (C.env.kindOf y=some .local) a8)
  (hs:aO (∀x,pK iter C.env x=pure x) aI._auto_1):
  X1 C n q (.Assign [.Name y py] (.ListComp elt [⟨.Name x px,iter,ifs,0⟩] scope pos) yL) st K:=by
 have sc:=Hs eF;have e:(l.map aiA).flatMap (tr aiA h l)=out:=(Rv hf).trans uV;refine adc cl (tr aiA h l) Hd G h2 hD kr (λL aiy hu=>?_) (by refine D e ?_;exact hz) ni sc.1 kF sc.2 hx (by refine D e ?_;exact hK) hk hy hs;refine aH (fa.mp hu) λa ha av=>?_
 subst av;exact D (Iw hf ha)<|iX L a ha
theorem agu(c:B):uJ (c:az)=cI c:=by
 unfold uJ cI;have h:∀l:J B,(l.map λ(x:B)=>(x:az)).contains (c:az)=l.contains c:=by
  intro l
  induction l with
  |nil=>rfl
  |cons a l ih=>
   simp only[eu,z7,z7,ih];congr 1;rw[sa,nG,nG];lia
 have h2:=h [32,35,36,38,40,41,42,43,45,46,63];simp only[←h2];have e:∀a b:B,decide ((a:az)<=(b:az))=decide (a<=b):=λa b=>vD.mpr (by lia);have e1:=λa=>e a c;have e2:=λb=>e c b;simp only[show(9:az)=((9:B):az) from rfl,show(13:az)=((13:B):az) from rfl,show(91:az)=((91:B):az) from rfl,show(94:az)=((94:B):az) from rfl,show(123:az)=((123:B):az) from rfl,show(126:az)=((126:B):az) from rfl,e1,e2];rfl
section
variable{bo:co.isFreed=false}
theorem CB:∀b o,(bZ w.params).get? b=some o->(TL w os dr sc co bo).top.get? b=some o:=λb o h=>vg h
theorem Rx:(TL w os dr sc co bo).top.Ns tS (cT<|fQ w.params):=(cQ _).keeps CB
theorem Ry:(TL w os dr sc co bo).top.Ns builtinsNs (cT<|kU w.params):=(dN _).keeps CB
theorem wN{l:J B}(hl:U l<=8000000):aQ ⟨TL w os dr sc co bo,env⟩ (n+1) (.ref 280) [.str<|tx l] st (.str<|tx<|et l) st:=aQ.Rs<|aQ.wl<|ago hl
theorem Rz:aQ ⟨TL w os dr sc co bo,env⟩ (n+1) (.ref 294) [.str<|tx [c]] st (.bool<|cI c) st:=by
 have:=aQ.Rs (sc:=sc) (co:=co) (bo:=bo)<|aQ.wl (C:=⟨TW w os dr,env⟩) (n:=n+1) (st:=st)<|acv (w:=w) (os:=os) (dr:=dr) (n:=n) (c:=c);rw[agu] at this;exact this
theorem str_inj{a b:B}(h:V.str (tx [a])=V.str (tx [b])):a=b:=by
 cases h;rfl
theorem Iy{a b:J B}(h:V.str (tx a)=V.str (tx b)):a=b:=o8.mp (by injection h)
theorem Iz(l:J B):signs (tx l)=l.map λc=>V.str (tx [c]):=rfl
theorem RA(l:J B):signs (tx l)=aw (sg l):=by simp only[Iz];unfold aw sg;exact D gM rfl
theorem RB:∀(ls:J<|J B),DZ (tx []) (ls.map tx)=tx (ls.flatten)
 | []=>rfl
 | [x]=>by simp only[eu,pI,JP,J.flatten_nil,cM];rfl
 |x::y::ls=>by
  have h:=RB<|y::ls;refine D eu<|D eu<|D JP ?_;show tx x++tx []++DZ (tx []) (tx y::ls.map tx)=_;simp only[show tx y::ls.map tx=(y::ls).map tx from rfl,h,kY,kY,cM]
theorem CD{ls:J (J B)}(hk:st.hp[k]?=some (.list<|aw ls))(hz:(ls.map U).sum<=16777216):aQ C n (.builtin "str.join") [.str<|tx [],.ref k] st (.str<|tx ls.flatten) st:=by
 have e:aw ls=(ls.map tx).map V.str:=by unfold aw;simp only[gM];rfl
 simp only[←RB];refine aQ.join (by simp only[hk,e])<|D gM ?_;have:(λx:J B=>(tx x).length)=U:=by funext x;exact jH x
 exact D this<|D (jH _) hz
theorem agv{d:B}:(!decide (tx [c]=tx [d]))=decide (c≠d):=by
 have e:decide (tx [c]=tx [d])=decide (c=d):=vD.mpr ((o8 (a:=[c]) (b:=[d])).trans<|by simp);simp only[e];by_cases h:c=d<;>simp[h]
theorem zz(c:B):U (cC c)<=2:=by unfold cC;split<;>simp
theorem agw(z c:B):U (jR z c)<=2:=by
 unfold jR;split
 ·exact zz c
 ·exact bY rfl
theorem agx(z c:B):U (nz z c)<=2:=by
 unfold nz;split
 ·exact bY rfl
 ·exact zz c
theorem CE(c:B):et [c]=cC c:=by unfold et;exact cM _
theorem zA{α:Type}(aiA:α->J B)(m:B)(hf:∀a,U (aiA a)<=m):∀l:J α,((l.map aiA).map U).sum<=U l*m
 | []=>bH _
 |a::l=>by
  simp only[eu,eu,JX,cK,Al];have:=zA aiA m hf l;have:=hf a;lia
theorem agy(l:J B):(sg l).flatten=l:=by
 induction l with
 |nil=>rfl
 |cons a l ih=>show[a]++(sg l).flatten=_;exact D ih rfl
theorem wO{β:Type}(aiA:α->β)(l:J α):(l.flatMap λa=>[aiA a])=l.map aiA:=by
 induction l with
 |nil=>rfl
 |cons a l ih=>rw[e9,ih];rfl
theorem zB(aiA:α->J B)(l:J α):aw (l.map aiA)=l.map λa=>V.str (tx<|aiA a):=by unfold aw;simp only[gM];rfl
theorem mod2(c z:B):((((c:az).fmod 2)==(z:az)))=decide (c % 2=z):=by
 rw[KV _ (by decide),sa,nG,ip];lia
theorem IA(l:J<|ao×V)(x:O)(h:(l.all λp=>p.2.bG λk=>decide (k<0))=true):jn 0 ⟨l,[]++[x]⟩ ⟨l,[]⟩:=
 mt (hp:=[]) (aG _) (λo h=>nomatch h) (λH H h=>h) λp hp=>fW.mp h p hp
noncomputable def fh(t b h o wh:J B)(z k:B):J (ao×V):=[("whole",.str<|tx wh),("other",.str<|tx o),("half",.str<|tx h),("bare",.str<|tx b),("end",.str<|tx<|dR z),("around",.int k),("text",.str<|tx t)]
theorem RD:∀t:J B,(t.flatMap λc=>if c≠92 then[V.str<|tx [c]] else[])=aw (sg<|cR t)
 | []=>rfl
 |c::t=>by
  have ih:=RD t;unfold cR sg at*;simp only[zB] at*;simp only[e9,pF,ih]
  by_cases h:c≠92
  ·exact D (aU h)<|D (aU<|dF h) rfl
  ·exact D (aE h)<|D (aE λq=>h<|dq q) rfl
theorem RE{α:Type}(aiA:α->J (J B))(m:B):∀l:J α,(∀a∈l,U (aiA a)<=m)->U (l.flatMap aiA)<=U l*m
 | []=>λH=>bH _
 |a::l=>λh=>by
  simp only[e9,aK,cK,Al];have:=RE aiA m l λb hb=>h b<|.tail _ hb;have:=h a<|.head _;lia
theorem CG{rows:J (J B)}{G h2:J B}(h:U rows<=900):U (report rows k G h2 e)<=1000000:=by
 have ok:=BY (rows:=rows) (n:=k) (U rows)<|aG _;have G:=RE (lR e) 901 (lg rows k<|eD<|U rows).1 λp hp=>by
  have:=(ok.shown p hp).1;exact YR h this
 have h2:=ok.len;have h3:(lg rows k<|eD<|U rows).1.length*901<=900*901:=DP _ (by exact cX ‹_› ‹_›);exact D aK<|YQ h3 G
theorem CH(steps:dY):U (gk steps)<=2*U steps:=by
 have:=BJ steps;exact D aK this
noncomputable def pu(l:dY):Prop:=∀p∈l,U p.1<=1000/\U p.2<=1000
theorem wP{l m:dY}(G:pu l)(h2:pu m):pu (l++m):=λp hp=>(bK.mp hp).elim (G p)<|h2 p
theorem IB{aiA:B->dY}(h:∀c,pu<|aiA c)(l:J B):pu (l.flatMap aiA):=λp hp=>by
 exact aH (vB.mp hp) λc H hc=>(h c p hc)
theorem RF(z c:B):pu (gu z c):=λp hp=>by
 unfold gu at hp;split at hp
 ·rcases cu.mp hp with rfl|hp
  ·exact⟨bH _,bY rfl⟩
  ·rw[bw] at hp;subst hp;exact⟨bY rfl,bY rfl⟩
 ·rw[bw] at hp;subst hp;exact⟨bY rfl,bY rfl⟩
theorem agz(z c:B):pu (fV z c):=λp hp=>by
 unfold fV at hp;split at hp
 ·rcases cu.mp hp with rfl|hp
  ·exact⟨bY rfl,bY rfl⟩
  ·rw[bw] at hp;subst hp;exact⟨bY rfl,bY rfl⟩
 ·split at hp
  ·rcases cu.mp hp with rfl|hp
   ·exact⟨bY rfl,bH _⟩
   ·rw[bw] at hp;subst hp;exact⟨bY rfl,bY rfl⟩
  ·rw[bw] at hp;subst hp;exact⟨bY rfl,bY rfl⟩
theorem agA(z:B)(b:J B):pu (fL z b):=wP (IB (RF z) b) λp hp=>by
 refine aH (fa.mp hp) λq hq av=>?_
 subst av;exact⟨bH _,(IB (RF z) b q hq).2⟩
theorem agB(t:J B):pu (fg t):=λp hp=>by
 refine aH (fa.mp hp) λc H av=>?_
 subst av;exact⟨bY rfl,cX (zz c)<|bY rfl⟩
theorem vh(l:J B):∀x∈sg l,x.length<=1000:=λx hx=>by
 refine aH (fa.mp hx) λc H av=>?_
 subst av;exact bY rfl
theorem vj(l:J B):U (sg l)=U l:=bg ..
end
theorem agC(a b:J<|J B):aw (a++b)=aw a++aw b:=eL
theorem agD(a b:dY):bf (a++b)=bf a++bf b:=eL
theorem wQ(l:J<|J B)(m:B)(hm:m<=1000)(h:∀x∈l,x.length<=m)(aiA:J B->J B×J B)(hf:∀x,(aiA x).1.length<=x.length/\(aiA x).2.length<=x.length):pu (l.map aiA):=λp hp=>by
 refine aH (fa.mp hp) λx hx av=>?_
 subst av;have:=h x hx;have:=hf x;lia
theorem qB{j:B}(l m:J<|J B)(hi:st.hp[i]?=some (.list<|aw l))(hj:st.hp[j]?=some (.list<|aw m))(hz:U l+U m<=16777216):a9 C n (pL .Add) (.ref i) (.ref j) st (.ref<|U st.hp) ⟨st.loc,st.hp++[.list<|aw<|l++m]⟩:=by
 refine D (agC _ _) ?_;exact a9.add_list hi hj (by simp only[en,en];exact hz)
theorem zC{j:B}(l m:dY)(hi:st.hp[i]?=some (.list<|bf l))(hj:st.hp[j]?=some (.list<|bf m))(hz:U l+U m<=16777216):a9 C n (pL .Add) (.ref i) (.ref j) st (.ref<|U st.hp) ⟨st.loc,st.hp++[.list<|bf<|l++m]⟩:=by
 refine D (agD _ _) ?_;exact a9.add_list hi hj (by unfold bf;rw[bg,bg];exact hz)
section
variable{bo:co.isFreed=false}
end
end
namespace LtE
noncomputable def ES(w:bx)(os:bM)(dr:cV)(sc:bc)(mA:{co:bc // co.isFreed=false})(n:B)(t:J B)(b:J B)(h:J B)(o:J B)(wh:J B)(z:B)(k:B):Prop:=(sc.isFreed=false)->(k<=1000)->(U t<=11)->(U b<=11)->(U h<=22)->(U o<=22)->(U wh<=22)->(U (cS z b)<=22)->(U (fL z b)<=44)->(U (fg t)<=11)->(fw (sg b) (sg<|h++h) k [98,97,114,101] [104,97,108,102] [] [50] (dR z)=report (gk<|fL z b) k [45,45,45,32,98,97,114,101] [43,43,43,32,104,97,108,102,9,50] (dR z))->(fw (sg wh) (sg h) k [119,104,111,108,101] [104,97,108,102] [49] [] (dR z)=report (gk<|cS z b) k [45,45,45,32,119,104,111,108,101,9,49] [43,43,43,32,104,97,108,102] (dR z))->(fw (sg t) (t.map cC) k [] [] [] [] (dR z)=report (gk<|fg t) k [45,45,45,32] [43,43,43,32] (dR z))->(fw (sg h++[b]++sg o) ([wh]++sg o++[b]++sg h) 3 [104,97,108,102] [111,116,104,101,114] [] [] [10]=report (gk<|gJ (sg h) (sg o) b wh) 3 [45,45,45,32,104,97,108,102] [43,43,43,32,111,116,104,101,114] [10])->(∀g∈groups (sg b) (sg<|h++h) k,GoodG g)->(∀g∈groups (sg wh) (sg h) k,GoodG g)->(∀g∈groups (sg t) (t.map cC) k,GoodG g)->(∀g∈groups (sg h++[b]++sg o) ([wh]++sg o++[b]++sg h) 3,GoodG g)->∃rest,(fBody [18]).drop 12=rest/\XS (cL w os dr sc mA.1 mA.2) (n+20) 0 rest ⟨("changes",.ref 2)::("comes",.ref 0)::("goes",.ref 1)::fh t b h o wh z k,[.list<|bf<|fL z b,.list<|bf<|cS z b,.list<|bf<|fg t]⟩ (λfl aj=>fl= .ret (.bool true))
@[irreducible] noncomputable def EX:=nT oN default {} default ⟨default,rfl⟩ 0 [] [] [] [] [] 0 0 ES
noncomputable def w:=EX.1
noncomputable def os:=EX.2.1
noncomputable def dr:=EX.2.2.1
noncomputable def sc:=EX.2.2.2.1
noncomputable def mA:=EX.2.2.2.2.1
noncomputable def n:=EX.2.2.2.2.2.1
noncomputable def t:=EX.2.2.2.2.2.2.1
noncomputable def b:=EX.2.2.2.2.2.2.2.1
noncomputable def h:=EX.2.2.2.2.2.2.2.2.1
noncomputable def o:=EX.2.2.2.2.2.2.2.2.2.1
noncomputable def wh:=EX.2.2.2.2.2.2.2.2.2.2.1
noncomputable def z:=EX.2.2.2.2.2.2.2.2.2.2.2.1
noncomputable def k:=EX.2.2.2.2.2.2.2.2.2.2.2.2
noncomputable abbrev co:bc:=mA.1
theorem bo:co.isFreed=false:=mA.2
theorem Ee:ES w os dr sc mA n t b h o wh z k:=λeF hk ht fZ mB rK tv nw wR wS x1 x2 x3 x4 q3 q4 q5 q6=>by
 refine⟨_,rfl,?_⟩;have gG:=Rx (w:=w) (os:=os) (dr:=dr) (sc:=sc) (co:=co) (bo:=bo);have gB:=Ry (w:=w) (os:=os) (dr:=dr) (sc:=sc) (co:=co) (bo:=bo);have kp:=CB (w:=w) (os:=os) (dr:=dr) (sc:=sc) (co:=co) (bo:=bo);have tw:U (dR z)<=1000:=by unfold dR;split<;>simp
 have Cp:gy [.list<|bf<|fL z b,.list<|bf<|cS z b,.list<|bf<|fg t]:=gg k6<|gg k6<|fM k6;have IC:∀{l:J (ao×V)} {junk:J O},SubL (("changes",.ref 2)::("comes",.ref 0)::("goes",.ref 1)::fh t b h o wh z k) l->jn 0 ⟨l,[.list<|bf<|fL z b,.list<|bf<|cS z b,.list<|bf<|fg t]++junk⟩ ⟨("changes",.ref 2)::("comes",.ref 0)::("goes",.ref 1)::fh t b h o wh z k,[.list<|bf<|fL z b,.list<|bf<|cS z b,.list<|bf<|fg t]⟩:=λhs=>
  mt (bH _) Cp hs λp hp=>fW.mp (show((("changes":ao),V.ref 2)::(("comes":ao),V.ref 0)::(("goes":ao),V.ref 1)::fh t b h o wh z k).all (λp=>p.2.bG λk=>decide (k<3))=true from rfl) p hp
 have sl:∀x:J B,(.list (signs<|tx x):O)= .list (aw<|sg x):=λx=>by exact D (RA _) rfl
 have RG:=Ip (w:=w) (os:=os) (dr:=dr) (n:=n+8) (f:=sg b) (u:=sg<|h++h) (by refine D (vj _) ?_;exact No fZ) (by refine D (vj _)<|D aK ?_;exact Zh mB) ⟨vh _,vh _⟩ (f1:=[98,97,114,101]) (f2:=[104,97,108,102]) (d1:=[]) (d2:=[50]) (e:=dR z) (k:=k) ⟨bY rfl,bY rfl,bY rfl,bY rfl,tw⟩ q3;rw[x1] at RG
 refine cY (zy (n:=n+8) (k1:=3) (k2:=4) (f:=sg b) (u:=sg (h++h))
  (an (mq (cB gG (qb _) gB (qd _)) (an ah aM) (aQ.list_str (by refine D (jH _) ?_;exact Nn fZ)))
   (an (mq (cB gG (qb _) gB (qd _)) (an (bt ah ah (a9.og (by exact Ff mB))) aM) (aQ.list_str (by refine D (jH _) (D aK ?_);exact Ff mB)))
    (an (EV.tx [98,97,114,101]) (an (EV.tx [104,97,108,102]) (an (EV.tx []) (an (EV.tx [50]) (an ah (an ah aM)))))))) lr.nil RG (by refine bL (sl _) ?_;rfl) (by refine bL (sl _) ?_;rfl) (by decide) rfl (CG (by have:=CH (fL z b);exact Zg this wR))) ?_
 refine lM (fJ (bV ah (jD (hH gG (Bs _)) (kp _ _ (rm _).get) (rm _).fd (an ah (an ah (an (eI (an (EV.tx [45,45,45,32,98,97,114,101]) (an (EV.tx [43,43,43,32,104,97,108,102,9,50]) aM))) (an ah aM))))
   (CA (n:=n+16) eF (i:=0) (j:=6) rfl rfl (by decide) (by exact Zf wR) (agA z b) hk ⟨bY rfl,bY rfl,tw⟩)) (a9.yN (i:=5) (j:=7) rfl rfl)) (by simp)) ?_
 refine jo (IC (junk:=[_,_,_,_,_])<|by exact bp rfl) ?_<|bH _
 have RH:=Ip (w:=w) (os:=os) (dr:=dr) (n:=n+8) (f:=sg wh) (u:=sg h) (by refine D (vj _) ?_;exact Ze tv) (by refine D (vj _) ?_;exact Zd mB) ⟨vh _,vh _⟩ (f1:=[119,104,111,108,101]) (f2:=[104,97,108,102]) (d1:=[49]) (d2:=[]) (e:=dR z) (k:=k) ⟨bY rfl,bY rfl,bY rfl,bY rfl,tw⟩ q4;rw[x2] at RH
 refine cY (zy (n:=n+8) (k1:=3) (k2:=4) (f:=sg wh) (u:=sg h)
  (an (mq (cB gG (qb _) gB (qd _)) (an ah aM) (aQ.list_str (by refine D (jH _) ?_;exact vW tv)))
   (an (mq (cB gG (qb _) gB (qd _)) (an ah aM) (aQ.list_str (by refine D (jH _) ?_;exact vW mB)))
    (an (EV.tx [119,104,111,108,101]) (an (EV.tx [104,97,108,102]) (an (EV.tx [49]) (an (EV.tx []) (an ah (an ah aM)))))))) lr.nil RH (by refine bL (sl _) ?_;rfl) (by refine bL (sl _) ?_;rfl) (by decide) rfl (CG (by have:=CH (cS z b);exact Zc this nw))) ?_
 refine lM (fJ (bV ah (jD (hH gG (Bs _)) (kp _ _ (rm _).get) (rm _).fd (an ah (an ah (an (eI (an (EV.tx [45,45,45,32,119,104,111,108,101,9,49]) (an (EV.tx [43,43,43,32,104,97,108,102]) aM))) (an ah aM))))
   (CA (n:=n+16) eF (i:=1) (j:=6) rfl rfl (by decide) (by exact Fc nw) (IB (agz z) b) hk ⟨bY rfl,bY rfl,tw⟩)) (a9.yN (i:=5) (j:=7) rfl rfl)) (by simp)) ?_
 refine jo (IC (junk:=[_,_,_,_,_])<|by exact bp rfl) ?_<|bH _
 have RI:=agd (w:=w) (os:=os) (dr:=dr) (n:=n+8) (f:=sg t) (u:=t.map cC) (by refine D (vj _) ?_;exact No ht) (by refine D (bg _) ?_;exact Zb ht) ⟨vh _,λx hx=>by obtain⟨c,_,rfl⟩:=fa.mp hx;have:=zz c;exact Za this⟩ (e:=dR z) (k:=k) tw q5;rw[x3] at RI
 refine cY (zy (n:=n+8) (k1:=3) (k2:=4) (f:=sg t) (u:=t.map cC) (r1:=[]) (ws:=[.int k,.str (tx (dR z))])
  (an (mq (cB gG (qb _) gB (qd _)) (an ah aM) (aQ.list_str (by refine D (jH _) ?_;exact Nn ht)))
   (an (comp_map [] (λc=>V.str (tx [c])) (λc=>[V.str (tx (cC c))]) (λa b h=>str_inj h) ah fC.str trivial (bH _) (λL c hc=>⟨true,.nil,.inr ⟨rfl,_,rfl,by
    refine bL (CE _) ?_
    exact jD (hH gG (wa _)) (kp _ _ (mX _).get) (mX _).fd (an ah aM) (wN (bo:=bo) (bY rfl))⟩⟩) ((wO _ _).trans (zB cC t).symm) (by refine D (en _) (D (bg _) ?_);exact Fe ht)) aM)) (lr.cons ah (lr.cons ah lr.nil)) RI (by refine bL (sl _) ?_;rfl) (by rfl) (by decide) rfl (CG (by have:=CH (fg t);exact Y9 this wS))) ?_
 refine lM (fJ (bV ah (jD (hH gG (Bs _)) (kp _ _ (rm _).get) (rm _).fd (an ah (an ah (an (eI (an (EV.tx [45,45,45,32]) (an (EV.tx [43,43,43,32]) aM))) (an ah aM))))
   (CA (n:=n+16) eF (i:=2) (j:=6) rfl rfl (by decide) (by exact xR wS) (agB t) hk ⟨bY rfl,bY rfl,tw⟩)) (a9.yN (i:=5) (j:=7) rfl rfl)) (by simp)) ?_
 refine jo (aj:=⟨fh t b h o wh z k,[]⟩) (mt (hp:=[]) (junk:=[_,_,_,_,_,_,_,_]) (aG _) (λo h=>nomatch h) (by exact bp rfl) λp hp=>fW.mp (show(fh t b h o wh z k).all (λp=>p.2.bG λk=>decide (k<0))=true from rfl) p hp) ?_<|bH _
 refine rf (names:=["one","two"]) (dL<|an (mq (cB gG (qb _) gB<|qd _) (an ah aM)<|aQ.list_str<|by refine D (jH _) ?_;exact vW mB)<|an (mq (cB gG (qb _) gB<|qd _) (an ah aM)<|aQ.list_str<|by refine D (jH _) ?_;exact vW rK) aM) ?_
 refine b7 (l':=("two",.ref 1)::("one",.ref 0)::fh t b h o wh z k) (aZ:=[.list<|aw<|sg h,.list<|aw<|sg o]) (by exact bp rfl) (by refine bL (sl _)<|bL (sl _) ?_;rfl) ?_
 have lh:U (sg h)<=22:=by refine D (vj _) ?_;exact mB
 have lo:U (sg o)<=22:=by refine D (vj _) ?_;exact rK
 have sh:=vh h;have so:=vh o;generalize sg h=one at*;generalize sg o=two at*;have pl:∀l:dY,U (bf l)=U l:=λl=>by unfold bf;exact D (bg _) rfl
 have ll:=λl=>en l;have wT:∀a b:J B,V.str (tx a)=V.str (tx b)->a=b:=λa b=>Iy;have rL:∀(aiA:J B->J B×J B) (l:J<|J B),(l.flatMap λa=>[V.tup (.type "tuple") [.str<|tx (aiA a).1,.str<|tx (aiA a).2]])=bf (l.map aiA):=λaiA l=>by refine D (wO _ _) ?_;unfold bf;simp only[gM];rfl
 have eU:U (gJ one two b wh)<=100:=by
  unfold gJ;split<;>simp only[aK,bg,cK,iQ]<;>lia
 have hts:pu (gJ one two b wh):=by
  have qp:∀x∈[b],U x<=1000:=fM<|xR fZ;have RJ:∀x∈[wh],U x<=1000:=fM<|Fc tv;unfold gJ;split
  ·refine wP (wP (wP (wQ _ 1000 (aG _) (ma sh qp) _ λx=>⟨aG _,bH _⟩) ?_)<|wQ _ 1000 (aG _) so _ λx=>⟨aG _,aG _⟩)<|wQ _ 1000 (aG _) (ma qp sh) _ λx=>⟨bH _,aG _⟩;intro p hp;rw[bw] at hp;subst hp;exact⟨bH _,RJ _ (.head _)⟩
  ·exact wP (wP (wQ _ 1000 (aG _) (ma (ma RJ so) qp) _ λx=>⟨bH _,aG _⟩)<|wQ _ 1000 (aG _) sh _ λx=>⟨aG _,aG _⟩)<|wQ _ 1000 (aG _) (ma qp so) _ λx=>⟨aG _,bH _⟩
 have fin:∀{l:J (ao×V)} {m:J O},SubL (("turns",.ref 12)::("two",.ref 1)::("one",.ref 0)::fh t b h o wh z k) l->U m=10->jn 0 ⟨l,[.list<|aw one,.list<|aw two]++(m++[.list<|bf<|gJ one two b wh])⟩ ⟨("turns",.ref 2)::("two",.ref 1)::("one",.ref 0)::fh t b h o wh z k,[.list<|aw one,.list<|aw two,.list<|bf<|gJ one two b wh]⟩:=by
  intro l m hs hm;refine dh (jn.pick (q:=0) (hp:=[.list (aw one),.list (aw two)]) (tail:=m++[.list (bf (gJ one two b wh))]) (sel:=[.list (bf (gJ one two b wh))]) (bH _) (gg eY (fM eY)) [10] (by decide) (by refine D eu (D pI (D (dc (by exact Y8 hm)) (D hm ?_)));rfl) (fM k6)) λaiA g r1 r2 r3=>?_
  have a0:=r2 0 10 rfl;have b0:=r1 0 (show 0<2 by decide);have b1:=r1 1 (show 1<2 by decide);refine .inr ⟨_,aiA,g,r3,?_⟩;have base:c9 aiA g (("turns",.ref 2)::("two",.ref 1)::("one",.ref 0)::fh t b h o wh z k) (("turns",.ref 12)::("two",.ref 1)::("one",.ref 0)::fh t b h o wh z k):=by
   exact c9.cons (v:=.ref 12) rfl a0.1 (bA V.ref a0.2.symm)<|c9.cons (v:=.ref 1) rfl b1.1 (bA V.ref b1.2.symm)<|c9.cons (v:=.ref 0) rfl b0.1 (bA V.ref b0.2.symm)<|c9.cons rfl rfl rfl<|c9.cons rfl rfl rfl<|c9.cons rfl rfl rfl<|c9.cons rfl rfl rfl<|c9.cons rfl rfl rfl<|c9.cons rfl rfl rfl<|c9.cons rfl rfl rfl c9.nil
  intro x v' e;exact cP (base x v' e) λv c1 c2 c3=>⟨v,hs x v c1,c2,c3⟩
 refine cg (jt (K:=λfl aj=>fl= .next/\SubL (("turns",.ref 2)::("two",.ref 1)::("one",.ref 0)::fh t b h o wh z k) aj.loc/\aj.hp=[.list (aw one),.list (aw two),.list (bf (gJ one two b wh))])
  (jj (b:=decide (U one<U two)) (fJ (bV (fv (cB gG (qa _) gB (qc _)) (an ah aM) (p0 (k:=0) (l:=aw one) rfl (by refine D (ll _) ?_;lia))) (fv (cB gG (qa _) gB (qc _)) (an ah aM) (p0 (k:=1) (l:=aw two) rfl (by refine D (ll _) ?_;lia))) jZ) (by simp only[ll,ll];exact vD.mpr (by lia))) (λhc=>?_) (λhc=>?_)) ?_)
 ·have ID:gJ one two b wh=(one++[b]).map (λl=>(l,[]))++[([],wh)]++two.map (λl=>(l,l))++([b]++one).map λl=>([],l):=aU (dq hc)
  refine cY (bt (comp_map [] (λl:J B=>V.str (tx l)) (λl=>[V.tup (.type "tuple") [.str (tx l),.str (tx [])]]) wT (bt ah (eI (an ah aM)) (qB (i:=0) (j:=2) one [b] rfl rfl (by show _+1<=_;exact Nk lh))) (fC.list (k:=3) (items:=aw (one++[b])) rfl) rfl (by show 4<=4;decide)
   (λL c hc=>⟨true,.nil,.inr ⟨rfl,_,rfl,dL (an ah (an (EV.tx []) aM))⟩⟩) (rL (λl=>(l,[])) (one++[b])) (by simp only[pl,bg,aK];exact Y7 lh)) (eI (an (dL (an (EV.tx []) (an ah aM))) aM)) (zC (i:=4) (j:=5) ((one++[b]).map λl=>(l,[])) [([],wh)] rfl rfl (by simp only[bg,aK];exact Y6 lh))) ?_
  have z1:U ((one++[b]).map (λl=>(l,([]:J B)))++[([],wh)])<=30:=by simp only[aK,bg,aK];exact Y5 lh
  generalize (one++[b]).map (λl=>(l,([]:J B)))++[([],wh)]=u1 at*;refine b7 (l':=("turns",.ref 6)::("two",.ref 1)::("one",.ref 0)::fh t b h o wh z k) (aZ:=[.list<|aw one,.list<|aw two,_,_,_,_,.list<|bf u1]) (by exact bp rfl) rfl ?_
  refine cY (bt (bt ah (comp_map [] (λl:J B=>V.str (tx l)) (λl=>[V.tup (.type "tuple") [.str (tx l),.str (tx l)]]) wT ah (fC.list (k:=1) (items:=aw two) rfl) rfl (by show 2<=7;decide)
    (λL c hc=>⟨true,.nil,.inr ⟨rfl,_,rfl,dL (an ah (an ah aM))⟩⟩) (rL (λl=>(l,l)) two) (by refine D (pl _) (D (bg _) ?_);exact Fd lo)) (zC (i:=6) (j:=7) u1 (two.map λl=>(l,l)) rfl rfl (by refine D (bg _) ?_;exact Nm lo z1)))
   (comp_map [] (λl:J B=>V.str (tx l)) (λl=>[V.tup (.type "tuple") [.str (tx []),.str (tx l)]]) wT (bt (eI (an ah aM)) ah (qB (i:=9) (j:=0) [b] one rfl rfl (by show 1+_<=_;exact AU lh))) (fC.list (k:=10) (items:=aw ([b]++one)) rfl) rfl (by show 11<=11;decide)
    (λL c hc=>⟨true,.nil,.inr ⟨rfl,_,rfl,dL (an (EV.tx []) (an ah aM))⟩⟩) (rL (λl=>([],l)) ([b]++one)) (by simp only[pl,bg,aK];exact Nl lh))
   (zC (i:=8) (j:=11) (u1++two.map λl=>(l,l)) (([b]++one).map λl=>([],l)) rfl rfl (by simp only[bg,aK,aK,bg];exact Y4 lh lo z1))) ?_
  refine bL ID (jo (fin (m:=[_,_,_,_,_,_,_,_,_,_]) (by exact bp rfl) rfl) (bd ⟨rfl,λH H h=>h,rfl⟩)<|bH _)
 ·have ID:gJ one two b wh=([wh]++two++[b]).map (λl=>([],l))++one.map (λl=>(l,l))++([b]++two).map λl=>(l,[]):=aE<|kj hc;have z0:U ([wh]++two++[b])<=30:=by simp only[aK,aK];exact Y3 lo
  refine cg (Rw [] (λl:J B=>V.str (tx l)) (λl=>[V.tup (.type "tuple") [.str (tx []),.str (tx l)]]) wT (bt (bt (eI (an ah aM)) ah (qB (i:=2) (j:=1) [wh] two rfl rfl (by show 1+_<=_;exact AU lo))) (eI (an ah aM)) (qB (i:=3) (j:=4) ([wh]++two) [b] rfl rfl (by refine D aK ?_;exact Nj lo))) (fC.list (k:=5) (items:=aw ([wh]++two++[b])) rfl) rfl (by show 6<=6;decide)
   (λL c hc=>⟨true,.nil,.inr ⟨rfl,_,rfl,dL (an (EV.tx []) (an ah aM))⟩⟩) (rL (λl=>([],l)) ([wh]++two++[b])) (by refine D (pl _) (D (bg _) ?_);exact Y2 z0) ?_)
  have z1:U (([wh]++two++[b]).map λl=>(([]:J B),l))<=30:=by refine D (bg _) ?_;exact z0
  generalize ([wh]++two++[b]).map (λl=>(([]:J B),l))=u1 at*;refine b7 (l':=("turns",.ref 6)::("two",.ref 1)::("one",.ref 0)::fh t b h o wh z k) (aZ:=[.list<|aw one,.list<|aw two,_,_,_,_,.list<|bf u1]) (by exact bp rfl) rfl ?_
  refine cY (bt (bt ah (comp_map [] (λl:J B=>V.str (tx l)) (λl=>[V.tup (.type "tuple") [.str (tx l),.str (tx l)]]) wT ah (fC.list (k:=0) (items:=aw one) rfl) rfl (by show 1<=7;decide)
    (λL c hc=>⟨true,.nil,.inr ⟨rfl,_,rfl,dL (an ah (an ah aM))⟩⟩) (rL (λl=>(l,l)) one) (by refine D (pl _) (D (bg _) ?_);exact Fd lh)) (zC (i:=6) (j:=7) u1 (one.map λl=>(l,l)) rfl rfl (by refine D (bg _) ?_;exact Nm lh z1)))
   (comp_map [] (λl:J B=>V.str (tx l)) (λl=>[V.tup (.type "tuple") [.str (tx l),.str (tx [])]]) wT (bt (eI (an ah aM)) ah (qB (i:=9) (j:=1) [b] two rfl rfl (by show 1+_<=_;exact AU lo))) (fC.list (k:=10) (items:=aw ([b]++two)) rfl) rfl (by show 11<=11;decide)
    (λL c hc=>⟨true,.nil,.inr ⟨rfl,_,rfl,dL (an ah (an (EV.tx []) aM))⟩⟩) (rL (λl=>(l,[])) ([b]++two)) (by simp only[pl,bg,aK];exact Nl lo))
   (zC (i:=8) (j:=11) (u1++one.map λl=>(l,l)) (([b]++two).map λl=>(l,[])) rfl rfl (by simp only[bg,aK,aK,bg];exact Y1 lh lo z1))) ?_
  refine bL ID (jo (fin (m:=[_,_,_,_,_,_,_,_,_,_]) (by exact bp rfl) rfl) (bd ⟨rfl,λH H h=>h,rfl⟩)<|bH _)
 intro fl aj dM;refine eh dM λav ct fK=>?_
 clear dM;subst av
 try dsimp only
 refine b7 ct fK ?_
 clear ct fK aj fin;have RK:=agc (w:=w) (os:=os) (dr:=dr) (n:=n+8) (f:=one++[b]++two) (u:=[wh]++two++[b]++one) (by refine D aK<|D aK ?_;exact Y0 lh lo) (by simp only[aK,aK,aK];exact YZ lh lo)
  ⟨ma (ma sh<|fM<|xR fZ) so,ma (ma (ma (fM<|Fc tv) so)<|fM<|xR fZ) sh⟩ (f1:=[104,97,108,102]) (f2:=[111,116,104,101,114]) ⟨bY rfl,bY rfl⟩ q6
 rw[x4] at RK
 refine cY (zy (n:=n+8) (k1:=5) (k2:=10) (f:=one++[b]++two) (u:=[wh]++two++[b]++one)
  (an (bt (bt ah (eI (an ah aM)) (qB (i:=0) (j:=3) one [b] rfl rfl (by show _+1<=_;exact Nk lh))) ah (qB (i:=4) (j:=1) (one++[b]) two rfl rfl (by refine D aK ?_;exact YY lh lo)))
   (an (bt (bt (bt (eI (an ah aM)) ah (qB (i:=6) (j:=1) [wh] two rfl rfl (by show 1+_<=_;exact AU lo))) (eI (an ah aM)) (qB (i:=7) (j:=8) ([wh]++two) [b] rfl rfl (by refine D aK ?_;exact Nj lo))) ah (qB (i:=9) (j:=0) ([wh]++two++[b]) one rfl rfl (by simp only[aK,aK];exact YX lh lo)))
    (an (EV.tx [104,97,108,102]) (an (EV.tx [111,116,104,101,114]) aM)))) lr.nil RK (by rfl) (by rfl) (by decide) rfl (CG (by have:=CH (gJ one two b wh);exact YW this eU))) ?_
 refine j6 (EV.cmp ah (jD (hH gG (Bs _)) (kp _ _ (rm _).get) (rm _).fd (an ah (an bz (an (eI (an (EV.tx [45,45,45,32,104,97,108,102]) (an (EV.tx [43,43,43,32,111,116,104,101,114]) aM))) (an (EV.tx [10]) aM))))
   (CA (n:=n+16) eF (i:=2) (j:=12) (k:=3) rfl rfl (by decide) (by exact YV eU) hts (bY rfl) ⟨bY rfl,bY rfl,bY rfl⟩)) (a9.adj (i:=11) (j:=13) rfl rfl)) ?_
 show Fl.ret _=_;simp
theorem Ea:∀a b c d e aiA g h i j k l m,ES a b c d e aiA g h i j k l m:=by with_unfolding_all exact oK ES EX rfl Ee
end LtE
section
variable{w:bx}{os:bM}{dr:cV}{sc co:bc}{bo:co.isFreed=false}{n:B}{st:St}
theorem agE(eF:sc.isFreed=false){t b h o wh:J B}{z k:B}(hk:k<=1000)(ht:U t<=11)(fZ:U b<=11)(mB:U h<=22)(rK:U o<=22)(tv:U wh<=22)(nw:U (cS z b)<=22)(wR:U (fL z b)<=44)(wS:U (fg t)<=11)
  (x1:fw (sg b) (sg<|h++h) k [98,97,114,101] [104,97,108,102] [] [50] (dR z)=report (gk<|fL z b) k [45,45,45,32,98,97,114,101] [43,43,43,32,104,97,108,102,9,50] (dR z))
  (x2:fw (sg wh) (sg h) k [119,104,111,108,101] [104,97,108,102] [49] [] (dR z)=report (gk<|cS z b) k [45,45,45,32,119,104,111,108,101,9,49] [43,43,43,32,104,97,108,102] (dR z))
  (x3:fw (sg t) (t.map cC) k [] [] [] [] (dR z)=report (gk<|fg t) k [45,45,45,32] [43,43,43,32] (dR z))
  (x4:fw (sg h++[b]++sg o) ([wh]++sg o++[b]++sg h) 3 [104,97,108,102] [111,116,104,101,114] [] [] [10]=report (gk<|gJ (sg h) (sg o) b wh) 3 [45,45,45,32,104,97,108,102] [43,43,43,32,111,116,104,101,114] [10])
  (q3:∀g∈groups (sg b) (sg<|h++h) k,GoodG g) (q4:∀g∈groups (sg wh) (sg h) k,GoodG g) (q5:∀g∈groups (sg t) (t.map cC) k,GoodG g) (q6:∀g∈groups (sg h++[b]++sg o) ([wh]++sg o++[b]++sg h) 3,GoodG g):
  ∃rest,(fBody [18]).drop 12=rest/\XS (cL w os dr sc co bo) (n+20) 0 rest ⟨("changes",.ref 2)::("comes",.ref 0)::("goes",.ref 1)::fh t b h o wh z k,[.list<|bf<|fL z b,.list<|bf<|cS z b,.list<|bf<|fg t]⟩ (λfl aj=>fl= .ret (.bool true)):=LtE.Ea w os dr sc ⟨co,bo⟩ n t b h o wh z k eF hk ht fZ mB rK tv nw wR wS x1 x2 x3 x4 q3 q4 q5 q6
end
section
variable{w:bx}{os:bM}{dr:cV}{sc co:bc}{bo:co.isFreed=false}{n:B}{st:St}
end
namespace RL
noncomputable def ES(w:bx)(os:bM)(dr:cV)(sc:bc)(mA:{co:bc // co.isFreed=false})(n:B)(t:J B)(z:B)(k:B)(tk:jg)(_ _ _:fD):Prop:=(sc.isFreed=false)->(mA.1.data= .cell (some<|.int (z:B) tk))->(z<=1)->(k<=1000)->(U t<=11)->(wM t z k)->∃b1 rest,fBody [18]=b1::rest/\XS (cL w os dr sc mA.1 mA.2) (n+20) 0 rest ⟨[("around",.int k),("text",.str<|tx t)],[]⟩ (λfl aj=>fl= .ret (.bool true))
@[irreducible] noncomputable def EX:=nT oN default {} default ⟨default,rfl⟩ 0 [] 0 0 default () () () ES
noncomputable def w:=EX.1
noncomputable def os:=EX.2.1
noncomputable def dr:=EX.2.2.1
noncomputable def sc:=EX.2.2.2.1
noncomputable def mA:=EX.2.2.2.2.1
noncomputable def n:=EX.2.2.2.2.2.1
noncomputable def t:=EX.2.2.2.2.2.2.1
noncomputable def z:=EX.2.2.2.2.2.2.2.1
noncomputable def k:=EX.2.2.2.2.2.2.2.2.1
noncomputable def tk:=EX.2.2.2.2.2.2.2.2.2.1
noncomputable abbrev co:bc:=mA.1
theorem bo:co.isFreed=false:=mA.2
theorem Ee:ES w os dr sc mA n t z k tk () () ():=λeF hd hz hk ht aix=>by
 refine⟨_,_,rfl,?_⟩;have IE:∀{C:Cx} {m:B} {st:St} {p:cN},C.top.get? 321=some co->C.env.scope.kind= .function->C.env.kindOf "odd"=some .cell->C.env.cells.lookup ("odd":ao)=some 321->EV C m (.Name "odd" p) st (.int z) st:=λG h2 h3 h4=>
  agp G hd (λρ h=>⟨tk,rfl⟩) h2 h3 h4
 have RM:∀{m:B} {st:St} {p:cN},EV (cL w os dr sc co bo) m (.Name "odd" p) st (.int z) st:=IE (zx bo) rfl (by rfl) (by rfl);have gG:=Rx (w:=w) (os:=os) (dr:=dr) (sc:=sc) (co:=co) (bo:=bo);have gB:=Ry (w:=w) (os:=os) (dr:=dr) (sc:=sc) (co:=co) (bo:=bo);have kp:=CB (w:=w) (os:=os) (dr:=dr) (sc:=sc) (co:=co) (bo:=bo);refine cY (v:=.str<|tx<|dR z) (am:=⟨[("around",.int k),("text",.str<|tx t)],[]⟩) (EV.yv (c:=decide (z=1)) (fJ (bV RM bz mh)<|by rw[sa,nG,ip];lia) (λhc=>?_) λhc=>?_) ?_
 ·have hc:=dq hc;unfold dR;refine D (aU hc) ?_;exact EV.tx [10]
 ·have hc:=kj hc;unfold dR;refine D (aE hc) ?_;exact EV.tx []
 have cz:(0:B)=0:=rfl;have fZ:U (cR t)<=11:=by unfold cR;have:=pE (λc=>decide (c≠92)) t;exact cX ‹_› ‹_›
 have e1:=RD t
 refine cY (jq dE nW (an (comp_map [] (λc=>V.str (tx [c])) (λc=>if c≠92 then[V.str (tx [c])] else[]) (λa b h=>str_inj h) ah fC.str trivial (bH _) (λL c hc=>⟨_,.one (bV ah (EV.tx [92]) a9.ne_str),by
   simp only[agv]
   by_cases h:c≠92
   ·exact .inr ⟨dF h,_,aU h,ah⟩
   ·exact .inl ⟨fz h,aE h⟩⟩) e1 (by refine D (en _) ?_;unfold sg cR;rw[bg];have:=pE (λc=>decide (c≠92)) t;exact Zx ht this)) aM) (CD (ls:=sg (cR t)) (oj _ _) (by have:=zA (λc:B=>[c]) 1 (λH=>aG _) (cR t);exact Zw this fZ)) nQ Ay Az) ?_
 simp only[agy];generalize hb:cR t=b at*;refine b7 (l':=[("bare",.str<|tx b),("end",.str<|tx<|dR z),("around",.int k),("text",.str<|tx t)]) (aZ:=[]++[_]) (by exact bp rfl) rfl (jo (mt (hp:=[]) (l':=[("bare",.str<|tx b),("end",.str<|tx<|dR z),("around",.int k),("text",.str<|tx t)]) (aG _) (λo h=>nomatch h) (λH H h=>h) λp hp=>fW.mp (show([("bare",V.str<|tx b),("end",.str<|tx<|dR z),("around",.int k),("text",.str<|tx t)]:J<|ao×V).all (λp=>p.2.bG λk=>decide (k<0))=true from rfl) p hp) ?_<|bH _);have IF:((b.map<|jR z).map U).sum<=22:=by have:=zA (jR z) 2 (agw z) b;exact Nt this fZ
 refine cY (jq dE nW (an (comp_map [("odd",321)] (λc=>V.str (tx [c])) (λc=>[V.str (tx (jR z c))]) (λa b h=>str_inj h) ah fC.str trivial (bH _) (λL c hc=>⟨true,.nil,.inr ⟨rfl,_,rfl,EV.yv (c:=decide (c % 2=z)) (fJ (bV (bt (fv (cB gG (Bt _) gB (Bu _)) (an ah aM) aQ.ord) bz (a9.mod_int (by decide))) (IE (zx bo) rfl (by rfl) (by rfl)) mh) (mod2 c z))
   (λh=>by
    unfold jR
    exact D (aU (dq h)) (bL (CE _) (jD (hH gG (wa _)) (kp _ _ (mX _).get) (mX _).fd (an ah aM) (wN (bo:=bo) (bY rfl)))))
   (λh=>by
    unfold jR;refine D (aE<|kj h) ?_
    exact ah)⟩⟩) ((wO _ _).trans (zB (jR z) b).symm) (by refine D (en _) (D (bg _) ?_);exact Fe fZ)) aM) (CD (ls:=b.map (jR z)) (oj _ _) (by exact vW IF)) nQ Ay Az) ?_
 refine D (show(b.map<|jR z).flatten=eG z b from rfl) ?_
 have mB:U (eG z b)<=22:=by
  refine D JH ?_
  rw[gM] at IF;exact IF
 generalize hh:eG z b=h at*;refine b7 (l':=[("half",.str<|tx h),("bare",.str<|tx b),("end",.str<|tx<|dR z),("around",.int k),("text",.str<|tx t)]) (aZ:=[]++[_]) (by exact bp rfl) rfl (jo (IA _ _<|by rfl) ?_<|bH _);have IG:((b.map<|nz z).map U).sum<=22:=by have:=zA (nz z) 2 (agx z) b;exact Nt this fZ
 refine cY (jq dE nW (an (comp_map [("odd",321)] (λc=>V.str (tx [c])) (λc=>[V.str (tx (nz z c))]) (λa b h=>str_inj h) ah fC.str trivial (bH _) (λL c hc=>⟨true,.nil,.inr ⟨rfl,_,rfl,EV.yv (c:=decide (c % 2=z)) (fJ (bV (bt (fv (cB gG (Bt _) gB (Bu _)) (an ah aM) aQ.ord) bz (a9.mod_int (by decide))) (IE (zx bo) rfl (by rfl) (by rfl)) mh) (mod2 c z))
   (λh=>by
    unfold nz
    exact D (aU (dq h)) (ah))
   (λh=>by
    unfold nz;refine D (aE<|kj h)<|bL (CE _) ?_
    exact jD (hH gG (wa _)) (kp _ _ (mX _).get) (mX _).fd (an ah aM) (wN (bo:=bo) (bY rfl)))⟩⟩) ((wO _ _).trans (zB (nz z) b).symm) (by refine D (en _) (D (bg _) ?_);exact Fe fZ)) aM) (CD (ls:=b.map (nz z)) (oj _ _) (by exact vW IG)) nQ Ay Az) ?_
 refine D (show(b.map<|nz z).flatten=nA z b from rfl) ?_
 have rK:U (nA z b)<=22:=by
  refine D JH ?_
  rw[gM] at IG;exact IG
 generalize ho:nA z b=o at*;refine b7 (l':=[("other",.str<|tx o),("half",.str<|tx h),("bare",.str<|tx b),("end",.str<|tx<|dR z),("around",.int k),("text",.str<|tx t)]) (aZ:=[]++[_]) (by exact bp rfl) rfl (jo (IA _ _<|by rfl) ?_<|bH _);refine cY (jD (hH gG<|wa _) (kp _ _ (mX _).get) (mX _).fd (an ah aM)<|wN (bo:=bo)<|by exact Zv fZ) ?_
 have tv:U (et b)<=22:=by have:=Iq b;exact E1 this fZ
 generalize hw:et b=wh at*;refine b7 (l':=fh t b h o wh z k) (aZ:=[]) (by exact bp rfl) rfl ?_
 have IH:U (t++h)<=33:=by exact D aK<|Zu ht mB
 have Ia:(((t++h).map cC).map U).sum<=66:=by have:=zA cC 2 zz<|t++h;exact Zt this IH
 have hef:((t++h).map cC).flatten=et (t++h):=rfl
 refine lM (fJ (bV (jD (hH gG (wa _)) (kp _ _ (mX _).get) (mX _).fd (an (bt ah ah (a9.og (by exact Nr ht mB))) aM) (wN (bo:=bo) (by exact Zs IH)))
  (jq dE nW (an (comp_map [] (λc=>V.str (tx [c])) (λc=>[V.str (tx (cC c))]) (λa b h=>str_inj h) (bt ah ah (a9.og (by exact Nr ht mB))) fC.str trivial (bH _) (λL c hc=>⟨true,.nil,.inr ⟨rfl,_,rfl,by
    refine bL (CE _) ?_
    exact jD (hH gG (wa _)) (kp _ _ (mX _).get) (mX _).fd (an ah aM) (wN (bo:=bo) (bY rfl))⟩⟩) ((wO _ _).trans (zB cC (t++h)).symm) (by refine D (en _) (D (bg _) ?_);exact Zr IH)) aM) (CD (ls:=(t++h).map cC) (oj _ _) (by exact Zq Ia)) nQ Ay Az) a9.ne_str) (by refine D hef ?_;simp)) ?_
 refine jo (IA _ _<|by rfl) ?_<|bH _
 obtain⟨s1,s2,x1,x2,x3,x4,q1,q2,q3,q4,q5,q6⟩:=aix;simp only[hb,hh,ho,hw] at x1 x2 x4 q3 q4 q6;have tw:U (dR z)<=1000:=by unfold dR;split<;>simp
 have eU:U t<=1000:=by exact xR ht
 refine cg (nV 3 (λi aj=>SubL (fh t b h o wh z k) aj.loc/\aj.hp=[.list (aw [t]),.list (aw []),.list [.ref 0,.ref 1]]) (items:=[.ref 0,.ref 1])
  (gS.of (eI (an (eI (an ah aM)) (an (eI aM) aM))) (gj.list (k:=2) rfl)) ⟨λH H h=>h,rfl⟩ (λi aj H hI=>by refine D hI.2 ?_;rfl) (aG _) (bH _) (λi aiy aj hu hI=>?_) (λaj hI=>?_))
 ·refine xA hI λct fK=>?_
  obtain⟨j,ls,rfl,hj,RN,II,RO,hud,hg⟩:∃j ls,aiy=V.ref j/\([.list<|aw [t],.list<|aw [],.list [.ref 0,.ref 1]]:J O)[j]?=some (.list<|aw ls)/\j<3/\U ls<64/\(∀x∈ls,U x<=1000)/\fw ls ls k [98,97,114,101] [104,97,108,102] [49] [50] (dR z)=[]/\∀g∈groups ls ls k,GoodG g:=by
   match i,hu with
   |0,hu=>cases hu;exact⟨0,[t],rfl,rfl,by decide,Kf rfl,fM ‹_›,s1,q1⟩
   |1,hu=>cases hu;exact⟨1,[],rfl,rfl,by decide,Kf rfl,(λx hx=>nomatch hx),s2,q2⟩
   |i+2,hu=>cases hu
  have RP:=Ip (w:=w) (os:=os) (dr:=dr) (n:=n+8) II (by exact M0 II) ⟨RO,RO⟩ (f1:=[98,97,114,101]) (f2:=[104,97,108,102]) (d1:=[49]) (d2:=[50]) (e:=dR z) (k:=k) ⟨bY rfl,bY rfl,bY rfl,bY rfl,tw⟩ hg;rw[hud] at RP;have hj4:∀x:O,([.list<|aw [t],.list<|aw [],.list [.ref 0,.ref 1]]++[x]:J O)[j]?=some (.list<|aw ls):=λx=>by refine D (cA<|by exact RN) ?_;exact hj
  refine⟨_,c8.norm ct fK bW,(XS.hide λK hK=>(b7 (l':=("same",.ref j)::fh t b h o wh z k) (aZ:=[.list<|aw [t],.list<|aw [],.list [.ref 0,.ref 1]]) (by exact bp rfl) rfl ?_))⟩
  refine lM (fJ (bV (zy (n:=n+8) (k1:=j) (k2:=3) (f:=ls) (u:=ls) (aiy:=[])
   (an ah (an (mq (cB gG (qb _) gB (qd _)) (an ah aM) (aQ.list_list (k:=j) (l:=aw ls) hj (by exact D (en _) (Fg II))))
    (an (EV.tx [98,97,114,101]) (an (EV.tx [104,97,108,102]) (an (EV.tx [49]) (an (EV.tx [50]) (an ah (an ah aM)))))))) lr.nil RP (hj4 _) rfl (by exact iS ‹_›) rfl (bH _)) (eI aM) (a9.yN (l:=[]) (m:=[]) (Q4 _ _ _) (oj _ _))) rfl) ?_
  refine jo (aj:=⟨("same",.ref j)::fh t b h o wh z k,[.list (aw [t]),.list (aw []),.list [.ref 0,.ref 1]]⟩) (mt (hp:=[.list (aw [t]),.list (aw []),.list [.ref 0,.ref 1]]) (junk:=[_,_,_]) (aG 3) (gg eY (gg eY (fM rfl))) (by exact bp rfl) (λp hp=>by
    have:((("same":ao),V.ref j)::fh t b h o wh z k).all (λp=>p.2.bG λk=>decide (k<3))=true:=by
     unfold fh;simp only[oA,xi,V.ur,V.FC,V.FD,lF,ip];exact RN
    exact fW.mp this p hp)) ?_ (by show 3<=6;decide)
  exact bd<|hK _ _ ⟨by exact bp rfl,rfl⟩
 obtain⟨ct,fK⟩:=hI;refine b7 ct fK (jo (aj:=⟨fh t b h o wh z k,[]⟩) (mt (hp:=[]) (junk:=[_,_,_]) (aG _) (λo h=>nomatch h) (λH H h=>h) λp hp=>fW.mp (show(fh t b h o wh z k).all (λp=>p.2.bG λk=>decide (k<0))=true from rfl) p hp) (bd ?_)<|bH _);clear ct fK aj;refine rf (names:=["comes","goes"]) (dL<|an (eI aM)<|an (eI aM) aM)<|b7 (l':=("goes",.ref 1)::("comes",.ref 0)::fh t b h o wh z k) (aZ:=[.list<|bf [],.list<|bf []]) (by exact bp rfl) rfl ?_;have RQ:∀(l:J B),U (eV z l)<=2*U l/\U (cS z l)<=2*U l:=by
  intro l
  induction l with
  |nil=>exact⟨bH _,bH _⟩
  |cons c l ih=>
   unfold eV cS at*;simp only[e9,e9,aK,aK,cK];have G:U (gu z c)<=2:=by unfold gu;split<;>simp
   have h2:U (fV z c)<=2:=by unfold fV;(repeat' split)<;>simp
   exact Zp ih G h2
 refine cg (nV 2 (λi aj=>SubL (("goes",.ref 1)::("comes",.ref 0)::fh t b h o wh z k) aj.loc/\aj.hp=[.list (bf (eV z (b.take i))),.list (bf (cS z (b.take i)))]) (items:=signs (tx b)) (aiw:=λH=>gC) (lo:=0)
  (gS.of ah gj.str) ⟨λH H h=>h,rfl⟩ (λi aj H hI=>trivial) (bH _) (bH _) (λi aiy aj hu hI=>?_) (λaj hI=>?_))
 ·refine xA hI λct fK=>?_
  simp only[Iz,c6] at hu;cases ij:b[i]? with
  |none=>rw[ij] at hu;exact nomatch hu
  |some c=>
  rw[ij] at hu;obtain rfl:aiy= .str (tx [c]):=by cases hu;rfl
  clear hu;have rA:b.take (i+1)=b.take i++[c]:=by refine D qL<|D ij ?_;rfl
  have zD:=RQ<|b.take i;have zE:U (b.take i)<=11:=by exact D gA<|Zo fZ
  refine D rA ?_
  have hca:eV z (b.take i++[c])=eV z (b.take i)++gu z c:=by unfold eV;refine D kN ?_;simp
  have yh:cS z (b.take i++[c])=cS z (b.take i)++fV z c:=by unfold cS;refine D kN ?_;simp
  refine D hca<|D yh ?_;generalize eV z (b.take i)=ca at*;generalize cS z (b.take i)=ga at*;refine⟨_,c8.norm ct fK bW,(XS.hide λK hK=>(b7 (l':=("sign",.str<|tx [c])::("goes",.ref 1)::("comes",.ref 0)::fh t b h o wh z k) (aZ:=[.list<|bf ca,.list<|bf ga]) (by exact bp rfl) rfl ?_))⟩;have pl:∀l:dY,U (bf l)=U l:=λl=>by unfold bf;exact D (bg _) rfl
  have ps:∀(l:dY) (x y:J B),bf l++[.tup (.type "tuple") [.str<|tx x,.str<|tx y]]=bf (l++[(x,y)]):=λl x y=>by unfold bf;refine D eL ?_;rfl
  have spec:∀{st:St} {p1 p2 p3:cN},st.loc.lookup ("sign":ao)=some (.str<|tx [c])->EV (cL w os dr sc co bo) (n+20) (.Call (.Name "_law_special" p1) [.Name "sign" p2] [] p3) st (.bool<|cI c) st:=λhl=>
   jD (hH gG<|Ot _) (kp _ _ (ym _).get) (ym _).fd (an (ah hl) aM) (Rz (bo:=bo))
  refine cg (jt (K:=λfl aj=>fl= .next/\SubL (("sign",.str (tx [c]))::("goes",.ref 1)::("comes",.ref 0)::fh t b h o wh z k) aj.loc/\aj.hp=[.list (bf (ca++(gu z c).dropLast)),.list (bf (ga++(fV z c).dropLast))])
   (jj (b:=(cI c&&(decide (c % 2=z)&&true))) (kC (fu (spec (by rfl)) kR) (kC (fJ (bV (bt (fv (cB gG (Bt _) gB (Bu _)) (an ah aM) aQ.ord) bz (a9.mod_int (by decide))) RM mh) (mod2 c z)) pX)) (λhc=>?_) (λhc=>?_)) ?_)
  ·have wU:cI c=true/\c % 2=z:=by simpa using hc
   refine D (show gu z c=[([],[92]),([c],[c])] from aU wU)<|D (show fV z c=[([92],[92]),([c],[c])] from aU wU) ?_;refine eE (iE (k:=0) (l:=bf ca) (l2:=bf ca) ah rfl (dL<|an (EV.tx [])<|an (EV.tx [92]) aM) rfl<|by refine D (pl _) ?_;exact Zn zD zE) ?_
   rw[ps];refine b7 (l':=("sign",.str<|tx [c])::("goes",.ref 1)::("comes",.ref 0)::fh t b h o wh z k) (aZ:=[.list<|bf<|ca++[([],[92])],.list<|bf ga]) (by exact bp rfl) rfl ?_
   refine eE (iE (k:=1) (l:=bf ga) (l2:=bf ga) ah rfl (dL<|an (EV.tx [92])<|an (EV.tx [92]) aM) rfl<|by refine D (pl _) ?_;exact Nq zD zE) ?_
   rw[ps];exact bd ⟨rfl,by exact bp rfl,rfl⟩
  ·have wU:¬(cI c=true/\c % 2=z):=by
    intro q;rw[q.1,dF q.2] at hc;cases hc
   refine D (show gu z c=[([c],[c])] from aE wU) (cg<|jj (b:=cI c) (fu (spec<|by rfl) kR) (λhd=>?_) λhd=>?_)
   ·refine D (show fV z c=[([92],[]),([c],[c])] from(aE wU).trans<|aU hd) ?_
    refine eE (iE (k:=1) (l:=bf ga) (l2:=bf ga) ah rfl (dL<|an (EV.tx [92])<|an (EV.tx []) aM) rfl<|by refine D (pl _) ?_;exact Nq zD zE) ?_
    rw[ps];refine bd<|bd ⟨rfl,by exact bp rfl,?_⟩;refine D (show[(([c]:J B),([c]:J B))].dropLast=[] from rfl)<|D (cM _) ?_;rfl
   ·(refine D (show fV z c=[([c],[c])] from(aE wU).trans<|aE<|by rw[hd];exact dy) ?_)
    refine bd<|bd ⟨rfl,by exact bp rfl,?_⟩;rw[show[(([c]:J B),([c]:J B))].dropLast=[] from rfl,cM,cM]
  intro fl aj dM;refine eh dM λav zr tm=>?_
  clear dM;subst av
  try dsimp only
  refine b7 zr tm ?_
  have Hr:(gu z c).dropLast++[([c],[c])]=gu z c:=by unfold gu;split<;>rfl
  have kf:(fV z c).dropLast++[([c],[c])]=fV z c:=by unfold fV;split;rfl;split<;>rfl
  have agF:U (gu z c)<=2:=by unfold gu;split<;>simp
  have agG:U (fV z c)<=2:=by unfold fV;(repeat' split)<;>simp
  have Ij:U (ca++(gu z c).dropLast)<=30:=by exact D aK<|D JG<|Zm zD zE agF
  have hd2:U (ga++(fV z c).dropLast)<=30:=by exact D aK<|D JG<|Zl zD zE agG
  rw[←Hr,←kf,←cm,←cm] at hK;generalize ca++(gu z c).dropLast=IJ at*;generalize ga++(fV z c).dropLast=IK at*;refine eE (iE (k:=0) (l:=bf IJ) (l2:=bf IJ) ah rfl (dL<|an ah<|an ah aM) rfl<|by refine D (pl _) ?_;exact Np Ij) ?_
  rw[ps];refine b7 (l':=("sign",.str<|tx [c])::("goes",.ref 1)::("comes",.ref 0)::fh t b h o wh z k) (aZ:=[.list<|bf<|IJ++[([c],[c])],.list<|bf IK]) (by exact bp rfl) rfl ?_
  refine eE (iE (k:=1) (l:=bf IK) (l2:=bf IK) ah rfl (dL<|an ah<|an ah aM) rfl<|by refine D (pl _) ?_;exact Np hd2) ?_
  rw[ps];exact bd<|hK _ _ ⟨by exact bp rfl,rfl⟩
 obtain⟨ct,fK⟩:=hI;have qf:U (signs<|tx b)=U b:=by rw[Iz,bg]
 rw[qf,pH] at fK;refine b7 ct fK<|bd ?_;clear ct fK aj;have pl:∀l:dY,U (bf l)=U l:=λl=>by unfold bf;exact D (bg _) rfl
 have RR:=RQ b;have nw:U (cS z b)<=22:=by exact Zk RR fZ
 have IL:U (eV z b)<=22:=by exact Zj RR fZ
 have agH:∀p q:J B×J B,V.tup (.type "tuple") [.str<|tx p.1,.str<|tx p.2]=V.tup (.type "tuple") [.str<|tx q.1,.str<|tx q.2]->p=q:=λp q rJ=>by
  injection rJ with _ h2
  injection h2 with h3 h4
  injection h4 with h5 _
  exact ED (Iy h3)<|Iy h5
 have rL:∀{α:Type} (aiA:α->J B×J B) (l:J α),(l.flatMap λa=>[V.tup (.type "tuple") [.str<|tx (aiA a).1,.str<|tx (aiA a).2]])=bf (l.map aiA):=λaiA l=>by refine D (wO _ _) ?_;unfold bf;refine D gM ?_;rfl
 refine cY (bt ah (comp_map [] (λp:J B×J B=>V.tup (.type "tuple") [.str (tx p.1),.str (tx p.2)]) (λp=>[V.tup (.type "tuple") [.str (tx []),.str (tx p.2)]]) agH ah (fC.list (k:=0) (items:=bf (eV z b)) rfl) rfl (by show 1<=2;decide)
  (λL p hp=>⟨true,.nil,.inr ⟨rfl,_,rfl,dL (an (EV.tx []) (an (eJ ah bz (gW.tup (j:=1) rfl rfl) sL) aM))⟩⟩) (rL (λp=>([],p.2)) (eV z b)) (by refine D (pl _) (D (bg _) ?_);exact Fd IL)) (a9.add_list (i:=0) (j:=2) (l:=bf (eV z b)) (m:=bf ((eV z b).map λp=>([],p.2))) rfl rfl (by refine D (pl _) (D (pl _) (D (bg _) ?_));exact Ff IL))) ?_
 (refine D (show bf (eV z b)++bf ((eV z b).map λp=>([],p.2))=bf (fL z b) by unfold fL bf;rw[eL]) ?_)
 have wR:U (fL z b)<=44:=by unfold fL;refine D aK<|D (bg _) ?_;exact Zi IL
 refine b7 (l':=("comes",.ref 3)::("goes",.ref 1)::fh t b h o wh z k) (aZ:=[.list<|bf<|eV z b,.list<|bf<|cS z b,.list<|bf<|(eV z b).map λp=>([],p.2),.list<|bf<|fL z b]) (by exact bp rfl) rfl ?_
 refine cg (Rw [] (λc=>V.str (tx [c])) (λc=>[V.tup (.type "tuple") [.str (tx [c]),.str (tx (cC c))]]) (λa b h=>str_inj h) ah (fC.str (x:=tx t)) trivial (bH _)
  (λL c hc=>⟨true,.nil,.inr ⟨rfl,_,rfl,dL (an ah (an (EV.yv (c:=cI c) (fu (jD (hH gG (Ot _)) (kp _ _ (ym _).get) (ym _).fd (an ah aM) (Rz (bo:=bo))) kR)
   (λh=>by
    exact D (show cC c=[92]++[c] from aU h) (bt (EV.tx [92]) ah (a9.og (bY rfl))))
   (λh=>by
    (refine D (show cC c=[c] from aE<|by rw[h];exact dy) ?_)
    exact ah)) aM))⟩⟩) (rL (λc=>([c],cC c)) t) (by refine D (pl _) (D (bg _) ?_);exact um eU) ?_)
 refine D (show t.map (λc=>([c],cC c))=fg t from rfl) ?_
 have wS:U (fg t)<=11:=by unfold fg;refine D (bg _) ?_;assumption
 refine dh (jn.pick (q:=0) (hp:=[]) (tail:=[.list<|bf<|eV z b,.list<|bf<|cS z b,.list<|bf<|(eV z b).map λp=>([],p.2),.list<|bf<|fL z b,.list<|bf<|fg t]) (sel:=[.list<|bf<|fL z b,.list<|bf<|cS z b,.list<|bf<|fg t]) (aG _) (λo h=>nomatch h) [3,1,4] (by decide) rfl<|gg k6<|gg k6<|fM k6) λaiA g r1 r2 r3=>?_
 have a0:=r2 0 3 rfl;have a1:=r2 1 1 rfl;have a2:=r2 2 4 rfl;refine jo (aj:=⟨("changes",.ref 2)::("comes",.ref 0)::("goes",.ref 1)::fh t b h o wh z k,[.list<|bf<|fL z b,.list<|bf<|cS z b,.list<|bf<|fg t]⟩) (.inr ⟨_,aiA,g,r3,?_⟩) ?_<|bH _
 ·
  exact c9.cons (v:=.ref 4) rfl a2.1 (bA V.ref a2.2.symm)<|c9.cons (v:=.ref 3) rfl a0.1 (bA V.ref a0.2.symm)<|c9.cons (v:=.ref 1) rfl a1.1 (bA V.ref a1.2.symm)<|c9.cons rfl rfl rfl<|c9.cons rfl rfl rfl<|c9.cons rfl rfl rfl<|c9.cons rfl rfl rfl<|c9.cons rfl rfl rfl<|c9.cons rfl rfl rfl<|c9.cons rfl rfl rfl c9.nil
 clear r1 r2 r3 a0 a1 a2 aiA g;have Cp:gy [.list<|bf<|fL z b,.list<|bf<|cS z b,.list<|bf<|fg t]:=gg k6<|gg k6<|fM k6;have IC:∀{l:J (ao×V)} {junk:J O},SubL (("changes",.ref 2)::("comes",.ref 0)::("goes",.ref 1)::fh t b h o wh z k) l->jn 0 ⟨l,[.list<|bf<|fL z b,.list<|bf<|cS z b,.list<|bf<|fg t]++junk⟩ ⟨("changes",.ref 2)::("comes",.ref 0)::("goes",.ref 1)::fh t b h o wh z k,[.list<|bf<|fL z b,.list<|bf<|cS z b,.list<|bf<|fg t]⟩:=λhs=>
  mt (bH _) Cp hs λp hp=>fW.mp (show((("changes":ao),V.ref 2)::(("comes":ao),V.ref 0)::(("goes":ao),V.ref 1)::fh t b h o wh z k).all (λp=>p.2.bG λk=>decide (k<3))=true from rfl) p hp
 have sl:∀x:J B,(.list (signs<|tx x):O)= .list (aw<|sg x):=λx=>by exact D (RA _) rfl
 refine aH (agE (w:=w) (os:=os) (dr:=dr) (sc:=sc) (co:=co) (bo:=bo) (n:=n) eF (o:=o) (wh:=wh) hk ht fZ mB rK tv nw wR wS x1 x2 x3 x4 q3 q4 q5 q6) λrest hr hx=>?_
 subst hr;exact hx
theorem Ea:∀a b c d e aiA g h i j k l m,ES a b c d e aiA g h i j k l m:=by with_unfolding_all exact oK ES EX rfl Ee
end RL
section
variable{w:bx}{sc:bc}{n:B}{l:J V}{s:ay}{zs:J az}
section
variable{os:bM}{dr:cV}{co:bc}{bo:co.isFreed=false}{st:St}
theorem agI(eF:sc.isFreed=false){t:J B}{z k:B}{tk:jg}(hd:co.data= .cell (some<|.int (z:B) tk))(hz:z<=1)(hk:k<=1000)(ht:U t<=11)(aix:wM t z k):
  ∃b1 rest,fBody [18]=b1::rest/\XS (cL w os dr sc co bo) (n+20) 0 rest ⟨[("around",.int k),("text",.str<|tx t)],[]⟩ (λfl aj=>fl= .ret (.bool true)):=RL.Ea w os dr sc ⟨co,bo⟩ n t z k tk () () () eF hd hz hk ht aix
end
structure tz(T:Wd)(a:ax)(l:J V):Prop where
 at_:∃vs,T.top.IsList a vs/\∀ρ h,V.IsL ρ h l vs.toList
section
variable{C:Cx}{st am ba ce:St}{a:ax}
theorem tz.get(S:tz C.toWd a l){ρ:J ax}(R:Rep C ρ st s):∃vs,s.heap.IsList a vs/\∀ρ h,V.IsL ρ h l vs.toList:=by
 exact aH S.at_ λvs cq hl=>aH cq λo ho hc=>(⟨vs,⟨o,R.led.top _ _ ho,hc⟩,hl⟩)
theorem agJ(S:tz C.toWd a l)(hz:U l<2 ^ 63):aQ C n (.builtin "len") [.val<|.ref a] st (.int<|U l) st:=.mk λA s ρ xs Q hA R aV h=>by
 refine cD aV λx r bE o6 i2=>?_
 clear aV;subst bE o6;obtain rfl:r=[]:=i2;refine aH (S.get R) λvs hL hi=>?_
 have hl:vs.size=U l:=by simp only[←eO,dK<|hi [] s.heap]
 exact K8 hL (by refine D hl ?_;omega)<|h ρ _ _ (gh R _) ⟨_,by exact D hl rfl⟩
theorem agK{ns:J az}(S:tz C.toWd a<|ns.map V.int):aQ C n (.builtin "sum") [.val<|.ref a] st (.int ns.sum) st:=.mk λA s ρ xs Q hA R aV h=>by
 refine cD aV λx r bE o6 i2=>?_
 clear aV;subst bE o6;obtain rfl:r=[]:=i2;refine aH (S.get R) λvs hL hl=>xA (Gz<|hl [] s.heap) λG h2=>xE (AllInts.items (vs:=vs) λv hv=>G v<|KE.mpr hv) λys av=>?_
 subst av;rw[nums_intItems] at h2;refine sum_intListG hA.1 hL λh' tk t' eS=>?_
 rw[preSum_eq,qK (by simp),h2];exact h ρ _ _ (bk.grow R eS (eN.refl _) rfl rfl) ⟨_,rfl⟩
theorem agL{value:bB}{lo up:bC bB}{p pos:cN}{i j:bC az}(S:tz C.toWd a l)(G:EV C n value st (.val<|.ref a) am)(h2:PV C n lo am i ba)(h3:PV C n up ba j ce)(hz:U l<=16777216):
  EV C n (.Subscript value (.Slice lo up aA p) pos) st (.ref<|U ce.hp) ⟨ce.loc,ce.hp++[.list<|mZ l i j]⟩:=.mk λA s ρ Q hA R h=>by
 refine Ey<|G.run A s ρ _ hA R λaC x s1 N1 i1=>wpAny_Slice<|h2.go hA N1.rep λbh y s2 N2 p2=>h3.go hA N2.rep λdp z s3 N3 p3=>?_;simp only[evalPart_none];refine wpAny_pure ?_
 obtain rfl:x= .ref a:=i1;refine aH (S.get N3.rep) λvs hL hl=>?_
 have hs:vs.size=U l:=by simp only[←eO,dK<|hl [] s3.heap]
 refine Gx (hL.push _).typeIs gx (wpAny_getItem_list_slice (hL.push _) (Kt ..) p2 p3 .none (by simp) ?_<|by refine D hs ?_;exact hz);have N4:=bk.push N3.rep {cls:=.type "slice",data:=.fields #[y,z,jB]} s3.toks
 have N5:=bk.alloc (ob:=.list (mZ l i j)) (o:={cls:=.type "list",data:=.seq (slicePick vs i j aA)}) N4.rep rfl ⟨slicePick vs i j aA,0,ew _ rfl,by
  rw[OD]
  exact(hl _ _).cut i j⟩ s3.toks
 exact h _ _ _ ((((N1.trans N2).trans N3).trans N4).trans N5)<|mU N4.rep.led _
end
section
variable{T:Wd}{a:ax}(kp:∀b o,(bZ w.params).get? b=some o->T.top.get? b=some o)
include kp
set_option maxHeartbeats 1000000 in
theorem agM(hz:U zs<=63)(S:tz T a<|zs.map V.int):cE T (n+1) (.ref 287) [] [.val<|.ref a] [] (.str<|tx<|f0 zs):=by
 have gG:=(cQ w.params).keeps kp;have gB:=(dN w.params).keeps kp;refine cE.fn (kp _ _ (sJ _).get) (sJ _).fd rfl ((sJ _).code.keeps kp) ((noLimit _).keeps kp) (λxs hx=>?_) (sJ w.params).nd (sJ _).cell (sJ _).loc λL=>?_
 ·revert xs;exact sF λH=>rfl
 have RT:mZ (zs.map V.int) none (some 6)=(zs.take 6).map V.int:=by
  unfold mZ;simp only[bC.elim_none,bC.elim_some,mG,B.sub_zero,bg];simp only[show qT (U zs) 6=min 6 (U zs) from clipAt_nat (U zs) 6,JY];simp only[JA,bg];exact ZC
 refine xE (⟨_,rfl⟩:∃ys,ys=zs.take 6) λys nU=>?_
 have hyl:U ys<=6:=by exact D nU<|D gA ZB
 simp only[←nU] at RT;have Im:f0 zs=[46,97,45,46,97]++ys.map kZ:=by exact D nU rfl
 refine D Im ?_
 clear nU Im;refine cY (v:=.str<|tx [46,97,45,46,97]) dE ?_
 refine cg (nV 1 (items:=ys.map V.int) (aiw:=λaj=>aj.hp[0]?=some (.list (ys.map V.int))) (am:=⟨[("text",.str (tx [46,97,45,46,97])),("script",.val (.ref a))],[.list (ys.map V.int)]⟩) (λi aj=>aj=⟨[("text",.str (tx ([46,97,45,46,97]++(ys.take i).map kZ))),("script",.val (.ref a))],[.list (ys.map V.int)]⟩)
  (gS.of (v:=.ref 0) (by simp only[←RT];exact agL S ah PV.none (PV.some bz) (by refine D (bg _) ?_;exact ZA hz)) (gj.list rfl)) rfl (λi aj H h=>by refine D h ?_;rfl) (aG 1) (bH _) (λi aiy aj hu hI=>?_) (λaj hI=>?_))
 ·subst hI;rw[c6] at hu;cases hq:ys[i]? with
  |none=>rw[hq] at hu;exact nomatch hu
  |some z=>
  rw[hq] at hu;cases hu;have hlen:U (ys.take i)<=6:=by exact D gA<|Zz hyl
  have fin:∀c,kZ z=c->tx ([46,97,45,46,97]++(ys.take i).map kZ)++tx [c]=tx ([46,97,45,46,97]++(ys.take<|i+1).map kZ):=λc hc=>by
   rw[kY,qL,hq,eL,cm];simp[hc]
  have fit:∀c,(tx ([46,97,45,46,97]++(ys.take i).map kZ)++tx [c]).length<=km:=λc=>by
   rw[kY,jH];simp only[aK,bg,cK,iQ];exact mn<|Zy hlen
  have done:∀(c:B) (l:J<|ao×V) (K:Fl->St->Prop),kZ z=c->SubL [("text",.str<|tx ([46,97,45,46,97]++(ys.take i).map kZ)++tx [c]),("script",.val<|.ref a)] l->
    K .next ⟨[("text",.str<|tx<|[46,97,45,46,97]++(ys.take<|i+1).map kZ),("script",.val<|.ref a)],[.list<|ys.map V.int]⟩->
    XS (rd T (fdOf<|NH w.params) 287 L) n 1 [] ⟨l,[.list<|ys.map V.int]⟩ K:=
   λc l K hc hs hk=>XS.forget hs (bd<|by exact D (fin c hc)<|hk)
  have h4:=uK z 4 (by decide);refine⟨_,bW,(rf (names:=["way","rest"]) (dL<|an (bt ah bz<|a9.mod_int<|by decide)<|an (bt ah bz<|a9.floordiv_int (by decide)<|PyProof.noPylong_small<|by decide) aM) ?_)⟩;have hr:∀k:az,0<k->k<2000000->(decide ((z.fdiv 4).fmod k< -(2 ^ 63:az))||decide ((z.fdiv 4).fmod k≥2 ^ 63))=false:=λk h0 G=>by
   have:=uK (z.fdiv 4) k h0;exact D (fz<|by omega)<|D (fz<|by omega) rfl
  refine cg<|jj (bV ah bz mh) (λh=>?_) λh=>?_
  ·have e:z.fmod 4=0:=by simpa using h
   refine cY (bt ah (eJ dE (bt ah bz<|a9.mod_int<|by decide) (gW.str (t:=tx [97,98]) at2<|hr 2 (by decide)<|by decide) yo)<|nY<|fit _)<|bd<|done _ _ _ ?_ (bp rfl) rfl;unfold kZ;exact D (aU e) rfl
  have n0:¬z.fmod 4=0:=by simpa using h
  refine cg<|jj (bV ah bz mh) (λG=>?_) λG=>?_
  ·have e:z.fmod 4=1:=by simpa using G
   refine cY (bt ah (eJ dE (bt ah bz<|a9.mod_int<|by decide) (gW.str (t:=tx [46,45]) at2<|hr 2 (by decide)<|by decide) yo)<|nY<|fit _)<|bd<|bd<|done _ _ _ ?_ (bp rfl) rfl;unfold kZ;rw[aE n0,aU e]
  have n1:¬z.fmod 4=1:=by simpa using G
  refine cg<|jj (bV ah bz mh) (λh2=>?_) λh2=>?_
  ·have e:z.fmod 4=2:=by simpa using h2
   have hm:=uK (z.fdiv 4) 128 (by decide);refine cY (bt ah (fv (cB gG (Gu _) gB<|Gv _) (an (bt ah bz<|a9.mod_int<|by decide) aM)<|aQ.chr (by omega)<|by omega)<|nY<|fit _)<|bd<|bd<|bd<|done _ _ _ ?_ (bp rfl) rfl;unfold kZ;rw[aE n0,aE n1,aU e]
  have n2:¬z.fmod 4=2:=by simpa using h2
  have hm:=uK (z.fdiv 4) 1112064 (by decide);refine cY (bt ah bz<|a9.mod_int<|by decide)<|cg<|jj (bV ah bz a9.gt_int) (λh3=>?_) λh3=>bd ?_
  ·have e:55295<(z.fdiv 4).fmod 1112064:=by simpa using h3
   refine cY (bt ah bz eT) (bd<|cY (bt ah (fv (cB gG (Gu _) gB<|Gv _) (an ah aM)<|aQ.chr (by omega)<|by omega)<|nY<|fit _)<|bd<|bd<|bd<|done _ _ _ ?_ (bp rfl) rfl);unfold kZ;rw[aE n0,aE n1,aE n2,aU e]
  ·have e:¬55295<(z.fdiv 4).fmod 1112064:=by simpa using h3
   refine cY (bt ah (fv (cB gG (Gu _) gB<|Gv _) (an ah aM)<|aQ.chr (by omega)<|by omega)<|nY<|fit _)<|bd<|bd<|bd<|done _ _ _ ?_ (bp rfl) rfl;unfold kZ;rw[aE n0,aE n1,aE n2,aE e]
 ·subst hI;refine D (bg _)<|D pH<|bd<|j6 ah ⟨_,rfl,[],n6 0 [],oY 0 [],Cv.of (base:=[]) (sel:=[]) rfl rfl lx (λk h=>(g8 h).elim) rfl rfl rfl .nil,rfl,rfl⟩
end
noncomputable def TS(w:bx)(os:bM)(dr:cV)(sc:bc)(eF:sc.isFreed=false):Wd:=⟨oH,w,(bZ w.params).push sc,os,dr,⟨sc,by rw[jV,lu];have:=ew (bZ w.params) eF;rw[lu] at this;exact this⟩⟩
section
variable{os:bM}{dr:cV}{eF:sc.isFreed=false}
theorem RU:∀b o,(bZ w.params).get? b=some o->(TS w os dr sc eF).top.get? b=some o:=λb o h=>dD _ h
theorem agN{ρ:J ax}{s':ay}{t:J B}{v:ak}(R:Rep ⟨TS w os dr sc eF,qA w⟩ ρ ⟨[("text",.str<|tx t),("script",.val<|.ref 319)],[]⟩ s)(hc:s'.heap.IsCell 321<|some v)(hs:iV 321 s.heap s'.heap)(lm:s'.os=s.os)(iH:s'.drawn=s.drawn):
  ∃co,∃bo:co.isFreed=false,co.data= .cell (some v)/\Rep ⟨TL w os dr sc co bo,qA w⟩ [] ⟨[("text",.str<|tx t)],[]⟩ s':=by
 refine aH hc λco uN hd=>?_
 have bo:co.isFreed=false:=by obtain⟨c1,c2,c3,c4⟩:=co;change c3=_ at hd;subst hd;rfl
 have zF:s.heap.get? 319=some sc:=R.led.top 319 sc (by have:=ew (bZ w.params) eF;rw[lu] at this;exact this);refine⟨co,bo,hd,⟨?_,?_⟩⟩
 ·refine aH R.loc λm hn hm=>⟨m,hn.sameBut hs (by decide:(320:B)≠321),λx v e=>?_⟩
  rw[gv] at e;cases hx:x==("text":ao) with
  |true=>
   rw[hx] at e;cases e;refine EH (hm x (.str (tx t)) (by rw[gv,hx])) λy hy t av=>?_
   subst av;exact⟨_,hy,t,rfl⟩
  |false=>rw[hx] at e;cases e
 ·refine⟨rfl,(λk o a e=>nomatch e),lx,g8,λa h=>aY h g8,agr,λb o e=>?_,lm.trans R.led.os,iH.trans R.led.drawn⟩;rcases Rp e with ⟨rfl,rfl⟩|⟨rfl,rfl⟩|e
  ·exact uN
  ·exact(hs.2 (319:B) (by decide:(319:B)≠321)).trans zF
  ·have bJ:=dH e;rw[lu] at bJ;exact(hs.2 b (λh=>by subst h;exact aY bJ (by decide):b≠321)).trans<|R.led.top b o<|RU (eF:=eF) b o e
theorem agO(hz:U zs<=63)(S:tz (TS w os dr sc eF) 319<|zs.map V.int)(aix:wM (f0 zs) (U zs % 2) (zs.sum.fmod 4).toNat){A:bS}(hA:cn (n+20) A)
  (R:Rep ⟨TS w os dr sc eF,qA w⟩ [] ⟨[("script",.val<|.ref 319)],[]⟩ s) (iD:s.heap.IsCell 321 aA) {Q:mK->ay->Prop}
  (hQ:∀s',(∀b o,s.heap.get? b=some o->b≠320->b≠321->s'.heap.get? b=some o)->eN s.gens s'.gens->s'.os=os->Q (.ret<|.bool true) s'):
  aF (aN oH w) A (mJ (fBody [18])<|qA w) Q bq s:=by
 have kp:=RU (w:=w) (os:=os) (dr:=dr) (sc:=sc) (eF:=eF);have gG:=(cQ w.params).keeps kp;have gB:=(dN w.params).keeps kp;have key:∃b1 rest,fBody [18]=b1::rest/\aF (aN oH w) A (mJ (b1::rest)<|qA w) Q bq s:=by
  refine⟨_,_,rfl,(wpAny_execs_cons<|Assign_Tuple ?_)⟩
  refine EV.run (C:=⟨TS w os dr sc eF,qA w⟩) (n:=n+20) (st:=⟨[("script",.val (.ref 319))],[]⟩) (dL (an (jD (hH gG (aa9 _)) (kp _ _ (sJ _).get) (sJ _).fd (an ah aM) (aQ.wl (n:=n+20) (agM kp hz S)))
   (an (bt (fv (cB gG (qa _) gB (qc _)) (an ah aM) (agJ S (by rw[bg];lia))) bz (a9.mod_int (b:=2) (by decide)))
    (an (bt (fv (cB gG (abc _) gB (abh _)) (an ah aM) (agK S)) bz (a9.mod_int (b:=4) (by decide))) aM)))) A s [] _ hA R λaC x s1 N1 i1=>?_
  refine oJ i1 λH a ar m av ho hl=>?_
  clear i1;subst av;have ht:IsTup s1.heap a ar:=⟨_,ho,rfl,m,rfl⟩
  have HF:ar.size=3:=by rw[←eO,dK hl];rfl
  refine assign_Tuple_tuple hA.1 ht (by rw[HF];rfl) rfl λh' he=>?_
  have kh:∀b o,s1.heap.get? b=some o->h'.get? b=some o:=λb o e=>he b o (iS<|dH e) e;have N2:bk ⟨TS w os dr sc eF,qA w⟩ aC s1 _ aC {s1 with heap:=h'}:=bk.grow N1.rep kh (eN.refl _) rfl rfl;refine dh hl λy1 r1 e1 cq hl=>?_
  obtain⟨tk1,rfl⟩:=cq;obtain⟨y2,r2,rfl,⟨Cy,rfl⟩,hl⟩:=hl;obtain⟨y3,r3,rfl,⟨tk3,rfl⟩,hl⟩:=hl;obtain rfl:r3=[]:=hl;rw[e1];refine wpAny_bind<|wpAny_holding<|assign_Name<|vY N2.rep (x:="text") (v:=.str<|tx<|f0 zs) ⟨tk1,rfl⟩ (λs2 N3=>?_) rfl rfl;have N:=(N1.trans N2).trans N3;have aio:∃o,s.heap.get? 321=some o/\o.data= .cell aA:=iD;have agP:s2.heap.IsCell 321 aA:=by
   exact aH iD λo ho hd=>(⟨o,N.keep 321 o ho g8 (show(321:B)≠320 by decide),hd⟩)
  refine wpAny_bind<|wpAny_holding<|assign_Name<|wpAny_storeName_cell (name:="odd") rfl rfl rfl agP λh3 hc3 RV=>?_;obtain⟨co,bo,hd,R3⟩:=agN (s':={s2 with heap:=h3}) N3.rep hc3 RV rfl rfl;have kP:(U (zs.map V.int):az).fmod 2=((U zs % 2:B):az):=by
   rw[bg,KV _<|by decide];rfl
  refine aH (⟨(zs.sum.fmod 4).toNat,by have:=uK zs.sum 4 (by decide);lia,by have:=uK zs.sum 4 (by decide);lia⟩:∃kk:B,zs.sum.fmod 4=(kk:az)/\kk<4) λkk B8 hk4=>?_
  rw[B8,xB] at aix;rw[kP] at hd;refine wpAny_bind (wpAny_holding<|assign_Name<|vY R3 (x:="around") (v:=.int kk) ⟨tk3,by rw[B8]⟩ (λs4 N4=>?_) rfl rfl);refine wpAny_pure ?_
  refine dv (agI (w:=w) (os:=os) (dr:=dr) (sc:=sc) (co:=co) (bo:=bo) (n:=n) eF (z:=U zs % 2) (k:=kk) hd (by lia) (ZD hk4) (t:=f0 zs) (by unfold f0;rw[aK,bg,gA];exact MH) aix) λb1 rest e hx=>?_
  have e2:=(tJ e).2;subst e2;refine(b7 (l':=[("around",.int kk),("text",.str<|tx<|f0 zs)]) (aZ:=[]) (bp rfl) rfl hx).run A s4 [] _ hA N4.rep λaB fl aiA aj s5 hK N5 hf=>?_
  subst hK;refine aH hf λx av hx=>?_
  clear hf;subst av;obtain rfl:x= .bool true:=hx;refine hQ s5 (λb o e G h2=>?_) ?_ N5.rep.led.os
  ·exact N5.keep b o (N4.keep b o ((RV.2 b h2).trans<|N.keep b o e g8 G) g8 G) g8 G
  ·exact(N.gens.trans N4.gens).trans N5.gens
 refine dv key λb1 rest e h=>?_
 rw[e];exact h
end
theorem agQ(P:aP):(bZ P).get? 318=some (su P):=by kernel_rfl
theorem agR(P:aP):(su P).data= .func (fdOf<|su P):=by kernel_rfl
theorem agS(P:aP):(bZ P).CodeRec (fdOf<|su P).code (fdOf<|su P).qualname:=codeRec_of (by kernel_rfl)
theorem agT{cW:ay}(hz:U zs<=63)(hh:cW.heap=(bZ w.params).push sc)(hg:cW.gens=#[]){vs:bD ak}(agU:sc.cls= .type "list"){m:B}(IM:sc.data= .seq vs m)(HB:∀ρ h,V.IsL ρ h (zs.map V.int) vs.toList)
  (aix:wM (f0 zs) (U zs % 2) (zs.sum.fmod 4).toNat):
  aF (aN oH w) callerA (gO (.ref 318) [.ref 319]) (λv s'=>v= .bool true/\(∀b o,cW.heap.get? b=some o->s'.heap.get? b=some o)/\AllBare s'.gens/\s'.os=cW.os) bq cW:=by
 have eF:sc.isFreed=false:=by obtain⟨c1,c2,c3,c4⟩:=sc;change c3=_ at IM;subst IM;rfl
 have ka:cW.heap.objs.size=320:=by rw[hh,jV,lu]
 have zF:cW.heap.get? 319=some sc:=by refine D hh ?_;have:=ew (bZ w.params) eF;rw[lu] at this;exact this
 have kp:∀b o,(bZ w.params).get? b=some o->cW.heap.get? b=some o:=λb o e=>by exact D hh<|dD _ e
 have S:tz (TS w cW.os cW.drawn sc eF) 319 (zs.map V.int):=⟨vs,⟨sc,by show((bZ w.params).push sc).get? 319=_;rw[←hh];exact zF,agU,m,IM⟩,HB⟩
 have hA:cn 21 callerA:=⟨rfl,by decide,by decide⟩
 refine wpAny_call<|codeAny_call_cells hA.depth (kp _ _<|agQ _) (agR _) ((noLimit _).keeps kp) ((agS _).keeps kp) (body:=fBody [18]) rfl (binds:=[("script",.ref 319)]) rfl rfl (λx hx=>?_) λs' x=>?_
 ·rw[bw] at hx;subst hx;exact .inl rfl
 rw[ka] at x ⊢;have CI:=x.toInCall;refine xI CI.same λh' tk av=>?_
 subst av;have R:Rep ⟨TS w cW.os cW.drawn sc eF,qA w⟩ [] ⟨[("script",.val<|.ref 319)],[]⟩ {cW with heap:=h',toks:=tk}:=by
  refine⟨⟨_,CI.ns,λy v e=>?_⟩,⟨rfl,(λk o a e=>nomatch e),lx,g8,λa h=>aY h g8,?_,λb o e=>CI.keep b o ?_,rfl,rfl⟩⟩
  ·rw[gv] at e;cases hy:y==("script":ao) with
   |true=>rw[hy] at e;(injection e;subst_vars);exact D (eq_of_beq hy)<|⟨.ref 319,by rfl,rfl⟩
   |false=>rw[hy] at e;exact nomatch e
  ·exact xW (by show((bZ w.params).push sc).objs.size<=_;rw[←hh,ka];exact aG _)
  ·exact D hh e
 have iD:({cW with heap:=h',toks:=tk}:ay).heap.IsCell 321 aA:=x.cell "odd" 321 rfl;refine wpAny_mono (agO (n:=0) hz S aix hA.deeper R iD (Q:=λaiA s'=>aiA= .ret (.bool true)/\(∀b o,cW.heap.get? b=some o->s'.heap.get? b=some o)/\AllBare s'.gens/\s'.os=cW.os) λs' hk IN lm=>⟨rfl,λb o e=>?_,?_,lm⟩) (λaiA s' hf=>?_) λH H h=>h.elim
 ·have bJ:=dH e;rw[ka] at bJ;exact hk b o (CI.keep b o e) (iS bJ)<|iS<|Kg bJ
 ·intro y hy;obtain⟨i,hi⟩:=bD.getElem?_of_mem hy
  have agV:({cW with heap:=h',toks:=tk}:ay).gens.size<=i:=by exact D (show({cW with heap:=h',toks:=tk}:ay).gens=#[] from hg)<|bH _
  exact D (IN.2 i y agV hi) rfl
 ·refine gc hf λav G h2 h3=>?_
  clear hf;subst av;exact⟨rfl,G,h2,h3⟩
end
end Mine.Internal
namespace Mine.Internal
open PySem PySem.W PyProof.Rows
section
variable{R:WRecords}{cl:ao->bC ax}{ord:J jz->J jz}
noncomputable def qv:du:={pw with main:={pw.main with body:=[eC 0,eC 2,eC 3,eC 4,eC 5,eC 6,eC 8,eC 10,eC 11,eC 13,eC 14,eC 15,eC 16,eC 17,eC 18]}}
noncomputable def eZ:J ao:=["_tuplegetter","Match","SequenceMatcher","unified_diff","_special_chars_map"]
noncomputable def xT(s:ay):bb:=xlAt qv [] s&&recOk (RowW.records<|KU<|qY l9) s
theorem rM.{aiy}{α:Sort aiy}{aiA g:du->du->bn->bn->ay->J ao->bb->α}(e:aiA=g)(p q:du)(b h:bn)(s:ay)(N:J ao)(x:bb):aiA p q b h s N x=g p q b h s N x:=by rw[e]
noncomputable def CK(p q:du)(b h:bn)(s:ay)(N:J ao)(x:bb):=staticsOk (xt p.main.body) b h&&namesBound p h&&gensDone s&&laidKept b h
theorem agW:@CK=@CK:=rfl
name_quick Lk0q for Mine.Internal.CK by Mine.Internal.agW
theorem ek0(w:bx)(os:bM):(staticsOk (xt pw.main.body) (g9 w.params) (bZ w.params)&&namesBound pw (bZ w.params)&&gensDone (Sf w os)&&laidKept (g9 w.params) (bZ w.params))=true:=(by kernel_rfl:_=CK pw qv (g9 w.params) (bZ w.params) (Sf w os) eZ (xT<|Sf w os)).trans <|(rM Fast.Lk0q_eq pw qv (g9 w.params) (bZ w.params) (Sf w os) eZ<|xT<|Sf w os).trans (by kernel_rfl)
noncomputable def CL(p q:du)(b h:bn)(s:ay)(N:J ao)(x:bb):=seen ((recsOf q).map (·.name)) (ownsOf q) [] {s with gens:=#[]}
theorem agX:@CL=@CL:=rfl
name_quick Lk1q for Mine.Internal.CL by Mine.Internal.agX
theorem ek1(w:bx)(os:bM):(seen ((recsOf qv).map (·.name)) (ownsOf qv) [] {Sf w os with gens:=#[]})=expectedOf qv:=(by kernel_rfl:_=CL pw qv (g9 w.params) (bZ w.params) (Sf w os) eZ (xT<|Sf w os)).trans <|(rM Fast.Lk1q_eq pw qv (g9 w.params) (bZ w.params) (Sf w os) eZ<|xT<|Sf w os).trans (by kernel_rfl)
theorem ek2(w:bx)(os:bM):(Sf w os).heap.bltView=PySem.bltViewBooted:=by kernel_rfl
noncomputable def CM(p q:du)(b h:bn)(s:ay)(N:J ao)(x:bb):=s.heap.keysOk (looseW q N) ((recsOf q).map (·.name)) ((litsOf q).map (·.1)) ((clssOf q<|looseW q N).map (·.name))&&s.heap.accountedOkI (xt p.main.body)&&s.heap.isNs Km&&s.heap.isNs Kn&&tablesOk q s.heap&&x&&s.gens.size==0
theorem agY:@CM=@CM:=rfl
name_quick Lk3q for Mine.Internal.CM by Mine.Internal.agY
theorem ek3(w:bx)(os:bM):((Sf w os).heap.keysOk (looseW qv eZ) ((recsOf qv).map (·.name)) ((litsOf qv).map (·.1)) ((clssOf qv<|looseW qv eZ).map (·.name))&&(Sf w os).heap.accountedOkI (xt pw.main.body)&&(Sf w os).heap.isNs Km&&(Sf w os).heap.isNs Kn&&tablesOk qv (Sf w os).heap&&xT (Sf w os)&&(Sf w os).gens.size==0)=true:=(by kernel_rfl:_=CM pw qv (g9 w.params) (bZ w.params) (Sf w os) eZ (xT<|Sf w os)).trans <|(rM Fast.Lk3q_eq pw qv (g9 w.params) (bZ w.params) (Sf w os) eZ<|xT<|Sf w os).trans (by kernel_rfl)
noncomputable def CN(p q:du)(b h:bn)(s:ay)(N:J ao)(x:bb):=tabsOk q s
theorem agZ:@CN=@CN:=rfl
name_quick Lk4q for Mine.Internal.CN by Mine.Internal.agZ
theorem ek4(w:bx)(os:bM):(tabsOk qv<|Sf w os)=true:=(by kernel_rfl:_=CN pw qv (g9 w.params) (bZ w.params) (Sf w os) eZ (xT<|Sf w os)).trans <|(rM Fast.Lk4q_eq pw qv (g9 w.params) (bZ w.params) (Sf w os) eZ<|xT<|Sf w os).trans (by kernel_rfl)
noncomputable def CO(p q:du)(b h:bn)(s:ay)(N:J ao)(x:bb):=pinSeenD q (drecsOf q) s
theorem ag0:@CO=@CO:=rfl
name_quick Lk5q for Mine.Internal.CO by Mine.Internal.ag0
noncomputable def IO(q:du)(N:J ao):=pinGoodD<|drecsOf q
theorem ag1:@IO=@IO:=rfl
name_quick Rk5q for Mine.Internal.IO by Mine.Internal.ag1
theorem ek5(w:bx)(os:bM):(pinSeenD qv (drecsOf qv)<|Sf w os)=pinGoodD (drecsOf qv):=(by kernel_rfl:_=CO pw qv (g9 w.params) (bZ w.params) (Sf w os) eZ (xT<|Sf w os)).trans <|(rM Fast.Lk5q_eq pw qv (g9 w.params) (bZ w.params) (Sf w os) eZ<|xT<|Sf w os).trans ((by kernel_rfl:_=Fast.Rk5q qv eZ).trans<|(fk (fk Fast.Rk5q_eq qv) eZ).symm.trans (by kernel_rfl))
noncomputable def CP(p q:du)(b h:bn)(s:ay)(N:J ao)(x:bb):=plainSeenE q (looseW q N) s
theorem ag2:@CP=@CP:=rfl
name_quick Lk6q for Mine.Internal.CP by Mine.Internal.ag2
noncomputable def IP(q:du)(N:J ao):=plainGoodE q<|looseW q N
theorem ag3:@IP=@IP:=rfl
name_quick Rk6q for Mine.Internal.IP by Mine.Internal.ag3
theorem ek6(w:bx)(os:bM):(plainSeenE qv (looseW qv eZ)<|Sf w os)=plainGoodE qv (looseW qv eZ):=(by kernel_rfl:_=CP pw qv (g9 w.params) (bZ w.params) (Sf w os) eZ (xT<|Sf w os)).trans <|(rM Fast.Lk6q_eq pw qv (g9 w.params) (bZ w.params) (Sf w os) eZ<|xT<|Sf w os).trans ((by kernel_rfl:_=Fast.Rk6q qv eZ).trans<|(fk (fk Fast.Rk6q_eq qv) eZ).symm.trans (by kernel_rfl))
noncomputable def CQ(p q:du)(b h:bn)(s:ay)(N:J ao)(x:bb):=plainSeenD q N s
theorem ag4:@CQ=@CQ:=rfl
name_quick Lk7q for Mine.Internal.CQ by Mine.Internal.ag4
theorem ek7(w:bx)(os:bM):(plainSeenD qv eZ<|Sf w os)=plainGoodD qv eZ:=(by kernel_rfl:_=CQ pw qv (g9 w.params) (bZ w.params) (Sf w os) eZ (xT<|Sf w os)).trans <|(rM Fast.Lk7q_eq pw qv (g9 w.params) (bZ w.params) (Sf w os) eZ<|xT<|Sf w os).trans (by kernel_rfl)
noncomputable def CR(p q:du)(b h:bn)(s:ay)(N:J ao)(x:bb):=wideSeen q s
theorem ag5:@CR=@CR:=rfl
name_quick Lk8q for Mine.Internal.CR by Mine.Internal.ag5
theorem ek8(w:bx)(os:bM):(wideSeen qv<|Sf w os)=wideGood qv:=(by kernel_rfl:_=CR pw qv (g9 w.params) (bZ w.params) (Sf w os) eZ (xT<|Sf w os)).trans <|(rM Fast.Lk8q_eq pw qv (g9 w.params) (bZ w.params) (Sf w os) eZ<|xT<|Sf w os).trans (by kernel_rfl)
noncomputable def CS(p q:du)(b h:bn)(s:ay)(N:J ao)(x:bb):=clsSeenW q N s
theorem ag6:@CS=@CS:=rfl
name_quick Lk9q for Mine.Internal.CS by Mine.Internal.ag6
theorem ek9(w:bx)(os:bM):(clsSeenW qv eZ<|Sf w os)=clsGoodW qv eZ:=(by kernel_rfl:_=CS pw qv (g9 w.params) (bZ w.params) (Sf w os) eZ (xT<|Sf w os)).trans <|(rM Fast.Lk9q_eq pw qv (g9 w.params) (bZ w.params) (Sf w os) eZ<|xT<|Sf w os).trans (by kernel_rfl)
theorem pair.{aiy,v}{α:Type aiy}{β:Type v}{a c:α}{b d:β}(h:a=c)(k:b=d):(a,b)=(c,d):=by rw[h,k]
theorem ag7(w:bx)(os:bM):openSeen qv eZ (xt pw.main.body) xT true (Sf w os)=openGood qv eZ:=xH (by kernel_rfl) (xH (pair (ek1 w os)<|pair (ek2 w os)<|pair (ek3 w os)<|pair (ek4 w os)<|pair (ek5 w os)<|pair (ek6 w os)<|pair (ek7 w os)<|pair (ek8 w os)<|ek9 w os)<|by kernel_rfl)
noncomputable abbrev yF(s:PySem.Shared):PySem.Heap×B:=(s.heap,s.toks)
noncomputable abbrev yA(w:PySem.World):PySem.Heap×B:=(bZ w.params,857)
noncomputable def CT(p:du)(w:bx):=(importEnds treeTable p w 600 (start p).1 (start p).2).map λs=>(s.heap,s.gens,s.drawn,s.toks)
theorem ag8:@CT=@CT:=rfl
name_quick Lbootq for Mine.Internal.CT by Mine.Internal.ag8
theorem ag9(w:bx):CT (opening pw) w=some (g9 w.params,(Ec []:bD de),boot_drawn,boot_toks):=(fk (fk PySem.W.Fast.Lbootq_eq<|opening pw) w).trans (by kernel_rfl)
theorem aha:∀s,fenceModules? oH s=some s:=λs=>by kernel_rfl
theorem ahb:∀w:bx,(fencedOpening treeTable oH w 7534).map (λs=>(s.heap,s.gens,s.drawn,s.toks))=some (g9 w.params,Ec [],boot_drawn,boot_toks):=λw=>by
 obtain⟨s,hs,hv⟩:=bC.map_eq_some_iff.mp<|ag9 w;have m:=importEnds_mono (7534-600) _ _ _ _ hs;rw[show 600+(7534-600)=7534 by omega] at m;unfold fencedOpening;rw[m];rw[Kc,aha s];exact bA some hv
theorem left:LeftO oH qv eZ xT yF yA 7534 true:=by
 refine LeftO.of_pieces (H₀:=g9) (H₁:=bZ) (gs₀:=Ec []) (gs₁:=qN []) (d₀:=boot_drawn) (d₁:=PySem.Drawn.mk 0 0 0 0) (k₀:=boot_toks) (k₁:=857) (m₀:=11) (ann:=some<|PySem.Value.ref 6) ahb ?size aaS (by kernel_rfl) ?looks
 case size=>intro w;kernel_rfl
 case looks=>
  intro w;funext os;exact ED (ek0 w os)<|ED (ag7 w os) rfl
noncomputable def vk:RowW:=KU<|qY l9
theorem ahc:∃d tA,defOf qv (qY l9).name=some (d,tA)/\(qY l9).prog.theDef (qY l9).name=some (d.params,d.body,d.scope)/\kwWritten? d.params.kwonlyargs d.params.kw_defaults=some tA:=⟨_,_,by rfl,by rfl,by rfl⟩
theorem prom:vk.promised:=by
 exact⟨[WData.list []],by decide+kernel,by decide+kernel⟩
noncomputable def WS(l:OpenLaw):bb:=l.wellSaid
theorem WSr:@WS=@WS:=rfl
name_quick WSq for Mine.Internal.WS by Mine.Internal.WSr
theorem RW:l9.wellSaid=true:=(by kernel_rfl:_=WS l9).trans ((fk Fast.WSq_eq l9).trans<|by kernel_rfl)
theorem ahd(d:DefRec)(tA:J<|ao×DY)(G:defOf qv (qY l9).name=some (d,tA))
 (h2:(qY l9).prog.theDef (qY l9).name=some (d.params,d.body,d.scope)) (h3:kwWritten? d.params.kwonlyargs d.params.kw_defaults=some tA)
 (hc:WalkX qv eZ (XL qv []) yF yA vk d tA λaiA vs=>gO aiA vs):l9.Holds:=by
 refine holds_law RW λRW=>?_
 exact holds_openX (r:=qY l9) (q:=qv) (loose:=eZ) (Xt:=xT) (XP:=XL qv []) (Yf:=yF) (Ya:=yA) (N:=7534) left (λs e=>xl_of s (fb.mp e).1) XL.keeps G h2 h3 (λs e=>recFacts_of (fb.mp e).2) (by rfl) ‹_› (by decide+kernel) ⟨rfl,rfl,rfl,rfl,rfl,by decide+kernel⟩ prom hc
theorem RX{R:WRecords}:∀{ds:J WData},WShape.hasItems R ds .int=true->∃zs:J az,ds=zs.map vO
 | []=>λH=>⟨[],rfl⟩
 |d::ds=>λh=>by
  refine xA (fb.mp h) λG h2=>xE (hasW_int G) λi av=>?_
  subst av;refine xE (RX h2) λzs av=>?_
  subst av;exact⟨i::zs,rfl⟩
theorem lay_ints{R:WRecords}{cl:ao->bC ax}{P:aP}{ord:J jz->J jz}:∀(zs:J az) (s:ay),∃xs tk,layAllW R cl P ord (zs.map vO) s=some (xs,{s with toks:=tk})/\∀ρ h,V.IsL ρ h (zs.map V.int) xs
 | [],s=>⟨[],s.toks,rfl,λH H=>rfl⟩
 |z::zs,s=>by
  refine dv (lay_ints (R:=R) (cl:=cl) (P:=P) (ord:=ord) zs {s with toks:=s.toks+1}) λxs tk e h=>⟨.int z s.toks::xs,tk,(D eu ?_),λρ hh=>⟨_,_,rfl,⟨_,rfl⟩,h ρ hh⟩⟩
  unfold layAllW;unfold layW
  try dsimp only
  exact D e rfl
theorem ahe{P:aP}(zs:J az)(s:ay):∃xs tk,layAllW R cl P ord [.list<|zs.map vO] s=some ([.ref s.heap.objs.size],{s with heap:=s.heap.push {cls:=.type "list",data:=.seq xs.toArray},toks:=tk})/\∀ρ h,V.IsL ρ h (zs.map V.int) xs:=by
 refine dv (lay_ints (R:=R) (cl:=cl) (P:=P) (ord:=ord) zs s) λxs tk e h=>⟨xs,tk,?_,h⟩
 unfold layAllW;unfold layW;refine D e ?_
 try dsimp only
 rfl
theorem ahf{zs:J az}(hp:vk.pre.holds vk.records {args:=[.list<|zs.map vO]}=true):U zs<=63:=by
 have h:=(holdsW_of_value<|w_and (w_not<|w_lt w_lit<|w_len_list<|w_arg rfl) w_lit).symm.trans hp;rw[lF,bg] at h;exact az.ofNat_le.mp<|xD.mp<|kj<|KB (y:=false) h
theorem ahg{zs:J az}:vk.claim.post [.list<|zs.map vO] (.bool true) [.list<|zs.map vO]=true:=by
 with_unfolding_all rfl
theorem ahh(P:aP):cT (fQ P) "law"=some (.ref 318):=by kernel_rfl
theorem aip(ahj:∀zs:J az,U zs<=63->wM (f0 zs) (U zs % 2) (zs.sum.fmod 4).toNat):l9.Holds:=by
 refine dh ahc λd tA G h2 h3=>ahd d tA G h2 h3 ?_
 intro w wV cW mg mb aiz hY a o pm cd doc dV kV ha hd pW hdf hmg IN args vals as hL wG aiq hR hW air;refine xA (pre_splitW wG) λeo hp=>dh (hasAllW_cons (eo:WShape.hasAll vk.records args [.list .int]=true)) λd0 r av zG hr=>?_
 subst av;obtain rfl:=hasAllW_nil hr;refine aH (hasW_list zG) λds av hit=>?_
 subst av;refine xE (RX hit) λzs av=>?_
 subst av;have hz:=ahf hp;refine aH hL.laid λord H hl=>dv (ahe (R:=vk.records) (cl:=classAt wV.heap) (P:=w.params) (ord:=ord) zs wV) λxs tk e aV=>?_
 rw[e] at hl;refine xA (Lh<|cj hl) λav bE=>?_
 subst av bE;have IQ:wV.heap=bZ w.params:=(Lh hY).1;have ahk:d.name="law":=defOf_name G;obtain rfl:a=318:=by
  have q1:=aiz.T.g.eq_nsMap;have q2:=((cQ w.params).keeps (h':=wV.heap.push {cls:=.type "list",data:=.seq xs.toArray}) (λb o e=>by refine D IQ ?_;exact dD _ e)).eq_nsMap;have q3:mg d.name=some (.ref 318):=by refine D ahk<|D q1<|bL q2 ?_;exact ahh w.params
  rw[hmg] at q3;injection q3 with q3
  injection q3
 have zF:wV.heap.objs.size=319:=by rw[IQ,lu]
 refine D zF ?_
 refine wpAny_mono (agT (w:=w) (zs:=zs) (sc:={cls:=.type "list",data:=.seq xs.toArray}) hz (by show wV.heap.push _=_;rw[IQ]) IN rfl rfl aV<|ahj zs hz) (λv s' hv=>?_) λH H h=>h.elim;refine gc hv λav hk hb lm=>?_
 clear hv;subst av;exact⟨.inl ⟨_,.bool true,[],rfl,λH=>rfl,.bool true,ahg,λH=>⟨lx,λa h=>aY h g8⟩⟩,.of_keep hk,lm,hb⟩
end
end Mine.Internal
namespace Mine.Internal
open PySem PyProof.Rows
section
variable{c:Ch}{S F F1 F2:J Ch}{x y e f1 f2 d1 d2 G h2 b:J B}{l q lead f u rows X Z E Y:J (J B)}{i j n k z:B}{p:Piece}{α:Type}{ps:J Piece}{P:B->Prop}{L:Ls}
noncomputable abbrev Ch:=J (J B)×J (J B)×J (J B)
noncomputable def qC(c:Ch):J (J B):=c.1++c.2.2
noncomputable def qD(c:Ch):J (J B):=c.2.1++c.2.2
noncomputable def dz(c:Ch):J (J B):=c.1.map (45:: ·)++c.2.1.map (43:: ·)
noncomputable def gz(c:Ch):J (J B):=dz c++c.2.2.map (32:: ·)
noncomputable def opt(x:J B):J (J B):=if x=[] then[] else[x]
noncomputable def pv(x y:J B):J (J B)->J Ch->J Ch
 | [],c::S=>(opt x++c.1,opt y++c.2.1,c.2.2)::S
 |l,S=>(opt x,opt y,l)::S
noncomputable def cks:dY->J (J B)×J Ch
 | []=>([],[])
 |p::r=>if p.1=p.2 then(p.1::(cks r).1,(cks r).2) else([],pv p.1 p.2 (cks r).1 (cks r).2)
theorem rN(p:J B×J B)(r:dY):cks (p::r)=if p.1=p.2 then(p.1::(cks r).1,(cks r).2) else([],pv p.1 p.2 (cks r).1 (cks r).2):=rfl
noncomputable def iN(s:dY):J (J B):=s.flatMap λp=>opt p.1
noncomputable def iO(s:dY):J (J B):=s.flatMap λp=>opt p.2
noncomputable def qE(c:Ch):Prop:=c.1≠[]\/c.2.1≠[]
noncomputable def fy:J Ch->Prop
 | []=>gC
 | [c]=>qE c
 |c::c'::S=>qE c/\c.2.2≠[]/\fy (c'::S)
theorem fy.gap(h:fy<|c::S):qE c:=by cases S with
 |nil=>exact h
 |cons c' S=>exact h.1
theorem fy.tail(h:fy<|c::S):fy S:=by cases S with
 |nil=>trivial
 |cons c' S=>exact h.2.2
theorem fy.same(h:fy<|c::S)(hs:S≠[]):c.2.2≠[]:=by cases S with
 |nil=>exact aY rfl hs
 |cons c' S=>exact h.2.1
theorem fy.cons{c:Ch}{S:J Ch}(h:fy S)(hg:qE c)(hs:S≠[]->c.2.2≠[]):fy (c::S):=by cases S with
 |nil=>exact hg
 |cons c' S=>exact⟨hg,hs (by simp),h⟩
theorem ahl(hxy:x≠y)(h:fy S):fy (pv x y l S):=by
 have hg:∀(aiw I:J<|J B) E,qE (opt x++aiw,opt y++I,E):=λaiw I E=>by
  by_cases hx:x=[]
  ·have e:opt y=[y]:=aE λh=>hxy<|hx.trans h.symm;exact .inr<|D e λe=>nomatch e
  ·have e:opt x=[x]:=aE hx;exact .inl<|D e λe=>nomatch e
 have qz:∀E,qE (opt x,opt y,E):=λE=>by have:=hg [] [] E;simpa using this
 match l,S with
 | [],[]=>exact qz []
 | [],c::S=>exact fy.cons h.tail (hg _ _ _) λhs=>h.same hs
 |a::l,S=>exact fy.cons h (qz _) λH=>by simp
theorem IR:∀s:dY,fy (cks s).2
 | []=>trivial
 |p::r=>by
  refine D (rN _ _) ?_
  split
  ·exact IR r
  ·rename_i h;exact ahl h<|IR r
theorem ahm:pv x y l S≠[]:=by
 match l,S with
 | [],[]=>exact xf _ _
 | [],c::S=>exact xf _ _
 |a::l,S=>exact xf _ _
theorem RY:∀{s:dY},(∃p∈s,p.1≠p.2)->(cks s).2≠[]
 | []=>λh=>by obtain⟨p,hp,_⟩:=h;cases hp
 |p::r=>λh=>by
  refine D (rN _ _) ?_
  split
  ·rename_i e;obtain⟨q,hq,cw⟩:=h;rcases cu.mp hq with rfl|hq
   ·exact aY e cw
   ·exact RY ⟨q,hq,cw⟩
  ·exact ahm
theorem ahn:(pv x y l S).flatMap qC=opt x++(l++S.flatMap qC):=by
 match l,S with
 | [],[]=>exact cM _
 | [],c::S=>exact(bA (· ++S.flatMap qC)<|cm ..).trans<|cm ..
 |a::l,S=>exact cm ..
theorem aho:(pv x y l S).flatMap qD=opt y++(l++S.flatMap qD):=by
 match l,S with
 | [],[]=>exact cM _
 | [],c::S=>exact(bA (· ++S.flatMap qD)<|cm ..).trans<|cm ..
 |a::l,S=>exact cm ..
noncomputable def qF(s:dY):Prop:=∀p∈s,¬(p.1=[]/\p.2=[])
theorem IS:∀(s:dY),qF s->(cks s).1++(cks s).2.flatMap qC=iN s
 | []=>λH=>rfl
 |p::r=>λh=>by
  have ih:=IS r λq hq=>h q<|.tail _ hq;unfold iN at*;rw[e9,←ih,rN];split
  ·rename_i e;have:opt p.1=[p.1]:=aE λh0=>h p (.head _) ⟨h0,e▸h0⟩;exact D this rfl
  ·exact D ahn rfl
theorem IT:∀(s:dY),qF s->(cks s).1++(cks s).2.flatMap qD=iO s
 | []=>λH=>rfl
 |p::r=>λh=>by
  have ih:=IT r λq hq=>h q<|.tail _ hq;unfold iO at*;rw[e9,←ih,rN];split
  ·rename_i e;have:opt p.2=[p.2]:=aE λh0=>h p (.head _) ⟨e.trans h0,h0⟩;exact D this<|D e rfl
  ·exact D aho rfl
noncomputable def CU(q:J<|J B):J (J B)->J Ch->J (J B)
 | [],c::S=>c.1.map (45:: ·)++q++c.2.1.map (43:: ·)++c.2.2.map (32:: ·)++S.flatMap gz
 |l,S=>q++l.map (32:: ·)++S.flatMap gz
theorem CV:CU q [] []=q:=(cM _).trans<|cM _
theorem CW:CU q [] (c::S)=c.1.map (45:: ·)++q++c.2.1.map (43:: ·)++c.2.2.map (32:: ·)++S.flatMap gz:=rfl
theorem zH{a:J B}:CU q (a::l) S=q++(a::l).map (32:: ·)++S.flatMap gz:=rfl
theorem ahp:pv x y [] []=[(opt x,opt y,[])]:=rfl
theorem ahq:pv x y [] (c::S)=(opt x++c.1,opt y++c.2.1,c.2.2)::S:=rfl
theorem ahr{a:J B}:pv x y (a::l) S=(opt x,opt y,a::l)::S:=rfl
theorem RZ:∀(s:dY) (aiy q:J<|J B),(s.foldl iG (aiy,q)).1++(s.foldl iG (aiy,q)).2=aiy++CU q (cks s).1 (cks s).2
 | []=>λaiy q=>bA (aiy++ ·) CV.symm
 |p::r=>λaiy q=>by
  refine D l6 ?_
  have e:iG (aiy,q) p=((iG (aiy,q) p).1,(iG (aiy,q) p).2):=rfl;rw[e,RZ r];refine D (rN _ _) ?_
  unfold iG;split
  ·cases hc:(cks r).1 with
   |nil=>cases hS:(cks r).2<;>simp[CV,CW,zH,gz,dz]
   |cons a l=>simp[zH]
  ·have ox:∀x:J B,(if x=[] then aiy else aiy++[45::x])=aiy++(opt x).map (45:: ·):=λx=>by unfold opt;split<;>simp
   have oy:∀y:J B,(if y=[] then q else q++[43::y])=q++(opt y).map (43:: ·):=λy=>by unfold opt;split<;>simp
   dsimp only;refine D (ox _)<|D (oy _) ?_;cases hc:(cks r).1 with
   |nil=>cases hS:(cks r).2<;>simp[CV,CW,ahp,ahq,gz,dz]
   |cons a l=>simp[CW,zH,ahr,gz,dz]
theorem ahs(s:dY):gk s=(cks s).1.map (32:: ·)++(cks s).2.flatMap gz:=by
 unfold gk rowsOf;rw[RZ];cases (cks s).1 with
 |nil=>cases (cks s).2<;>simp[CV,CW,zH,gz,dz]
 |cons a l=>simp[zH]
noncomputable abbrev kK:=B×B×B
noncomputable def cp(S:J Ch):J (J B):=S.flatMap qC
noncomputable def allB(S:J Ch):J (J B):=S.flatMap qD
noncomputable def dC(i:B)(c:Ch):B:=i+U c.1+U c.2.2
noncomputable def dS(j:B)(c:Ch):B:=j+U c.2.1+U c.2.2
noncomputable def je(i j:B)(c:Ch):J kK:=if c.2.2=[] then[] else[(i+U c.1,j+U c.2.1,U c.2.2)]
noncomputable def eW:B->B->J Ch->J kK
 |_,_,[]=>[]
 |i,j,c::S=>je i j c++eW (dC i c) (dS j c) S
noncomputable def pz(l:J<|J B):J kK:=if l=[] then[] else[(0,0,U l)]
noncomputable def lw(i j:B)(c:Ch):J b8:=h8 i (i+U c.1) j<|j+U c.2.1
noncomputable def lZ(i j:B)(c:Ch):J b8:=k8 (i+U c.1,j+U c.2.1,U c.2.2)
noncomputable def l4:B->B->J Ch->J b8
 |_,_,[]=>[]
 |i,j,c::S=>lw i j c++lZ i j c++l4 (dC i c) (dS j c) S
theorem zI:eW i j (c::S)=je i j c++eW (dC i c) (dS j c) S:=rfl
theorem CX:l4 i j (c::S)=lw i j c++lZ i j c++l4 (dC i c) (dS j c) S:=rfl
theorem vm(c:Ch)(S:J Ch):U (cp<|c::S)=U c.1+U c.2.2+U (cp S):=by
 unfold cp qC;rw[e9,aK,aK]
theorem vo(c:Ch)(S:J Ch):U (allB<|c::S)=U c.2.1+U c.2.2+U (allB S):=by
 unfold allB qD;rw[e9,aK,aK]
theorem zJ(h:qE c):0<U c.1\/0<U c.2.1:=by
 rcases h with h|h
 ·exact .inl<|oz.mpr h
 ·exact .inr<|oz.mpr h
theorem R5(i j:B):h8 i i j j=[]:=by unfold h8;simp
theorem IU:∀(S:J Ch) (i j:B) (acc:J b8),fy S->((eW i j S++[(i+U (cp S),j+U (allB S),0)]).foldl rv ((i,j),acc)).2=acc++l4 i j S
 | []=>λi j acc H=>by
  show acc++h8 i (i+0) j (j+0)++[]=acc++[];rw[jy,jy,R5,cM,cM]
 |c::S=>λi j acc h=>by
  rw[vm,vo];refine D zI<|D CX ?_;unfold je
  by_cases hE:c.2.2=[]
  ·have hS:S=[]:=by
    cases S with
    |nil=>rfl
    |cons c' S=>exact aY hE h.2.1
   subst hS;rw[aU hE];show acc++h8 i _ j _++[]=_;show _=acc++(_++_++[]);unfold lw lZ k8;rw[hE];simp[cp,allB]
  ·rw[aE hE];have R6:U c.2.2≠0:=λe=>hE<|rO e;have ih:=IU S (dC i c) (dS j c) (acc++lw i j c++lZ i j c) h.tail;rw[cm,jS];rw[show i+(U c.1+U c.2.2+U (cp S))=dC i c+U (cp S) by unfold dC;exact vV,show j+(U c.2.1+U c.2.2+U (allB S))=dS j c+U (allB S) by unfold dS;exact vV];rw[show acc++(lw i j c++lZ i j c++l4 (dC i c) (dS j c) S)=acc++lw i j c++lZ i j c++l4 (dC i c) (dS j c) S by simp only[cm]];exact ih
noncomputable def Apart:kK->J kK->Prop
 |_,[]=>gC
 |x,y::l=>¬(x.1+x.2.2=y.1/\x.2.1+x.2.2=y.2.1)/\0<y.2.2/\Apart y l
theorem R7:∀(l:J kK) (x:kK) (acc:J kK),0<x.2.2->Apart x l->mx (l.foldl ng (x,acc))=acc++x::l
 | []=>λx acc hx H=>by
  show mx (x,acc)=_;unfold mx
  (exact D (aE<|by show ¬x.2.2=0;exact kl ‹_›) rfl)
 |y::l=>λx acc hx h=>by
  rw[l6];have e:ng (x,acc) y=(y,acc++[x]):=by
   unfold ng mx;rw[aE h.1,aE<|by show ¬x.2.2=0;exact kl ‹_›]
  rw[e,R7 l y _ h.2.1 h.2.2,cm];rfl
theorem aht:∀(l:J kK),(∀x r,l=x::r->0<x.2.2/\Apart x r)->pb l=l
 | []=>λH=>rfl
 |x::r=>λh=>by
  obtain⟨G,h2⟩:=h x r rfl;unfold pb;refine D l6 ?_
  have e:ng ((0,0,0),[]) x=(x,[]):=by
   unfold ng
   by_cases hx:(0:B)+0=x.1/\(0:B)+0=x.2.1
   ·refine D (aU hx) ?_
    obtain⟨a,b⟩:=hx;obtain⟨x1,x2,x3⟩:=x;dsimp only at*;subst a b;simp
   ·exact D (aE hx) rfl
  exact D e<|D (R7 r x [] G h2) rfl
theorem IV:∀(S:J Ch) (i j:B) (x:kK),fy S->x.1+x.2.2=i->x.2.1+x.2.2=j->Apart x (eW i j S)
 | []=>λH H H H H H=>trivial
 |c::S=>λi j x h hi hj=>by
  refine D zI ?_
  unfold je
  by_cases hE:c.2.2=[]
  ·have hS:S=[]:=by
    cases S with
    |nil=>rfl
    |cons c' S=>exact aY hE h.2.1
   subst hS;refine D (aU hE) ?_;trivial
  ·refine D (aE hE) ?_
   have R6:0<U c.2.2:=oz.mpr hE;refine⟨λq=>?_,R6,IV S _ _ _ h.tail rfl rfl⟩;have:=zJ h.gap;obtain⟨a,b⟩:=q;dsimp only at a b;exact T7 this a b hi hj
theorem ahu(h:fy S):pb (pz lead++eW (U lead) (U lead) S)=pz lead++eW (U lead) (U lead) S:=by
 refine aht _ λx r e=>?_
 unfold pz at e
 by_cases hl:lead=[]
 ·rw[aU hl] at e;cases S with
  |nil=>cases e
  |cons c S=>
   rw[zI] at e;unfold je at e
   by_cases hE:c.2.2=[]
   ·have hS:S=[]:=by
     cases S with
     |nil=>rfl
     |cons c' S=>exact aY hE h.2.1
    subst hS;rw[aU hE] at e;cases e
   ·rw[aE hE] at e;injection e with e1 e2
    subst e1;have e2:_=r:=e2;subst e2;exact⟨oz.mpr hE,IV S _ _ _ h.tail rfl rfl⟩
 ·rw[aE hl] at e;injection e with e1 e2
  subst e1;have e2:_=r:=e2;subst e2;exact⟨oz.mpr hl,IV S _ _ _ h (by simp)<|by simp⟩
theorem IW(h:fy S)(hA:f=lead++cp S)(hB:u=lead++allB S)(hb:dU f u=pz lead++eW (U lead) (U lead) S):
  fH f u=k8 (0,0,U lead)++l4 (U lead) (U lead) S:=by
 unfold fH gn;refine D hb<|D (ahu h) ?_;have e1:U f=U lead+U (cp S):=by rw[hA,aK]
 have e2:U u=U lead+U (allB S):=by rw[hB,aK]
 refine D e1<|D e2 ?_;unfold pz
 by_cases hl:lead=[]
 ·refine D (aU hl) ?_
  subst hl;exact IU S 0 0 [] h
 ·rw[aE hl,cm,jS];show(Af rv ((0+U lead,0+U lead),[]++h8 0 0 0 0++k8 (0,0,U lead)) _).2=_;rw[R5,iu];exact IU S _ _ _ h
noncomputable def bv(E:J<|J B):J (J B):=E.map (32:: ·)
noncomputable def om(n:B):Piece->B->B->J Ch->J Piece
 |p,_,_,[]=>[p]
 |p,_,_,[c]=>[(p.1,p.2.1,p.2.2++dz c++bv (c.2.2.take n))]
 |p,i,j,c::c'::S=>if n+n<U c.2.2 then(p.1,p.2.1,p.2.2++dz c++bv (c.2.2.take n))::om n (dC i c-n,dS j c-n,bv<|c.2.2.drop<|U c.2.2-n) (dC i c) (dS j c) (c'::S)
  else om n (p.1,p.2.1,p.2.2++dz c++bv c.2.2) (dC i c) (dS j c)<|c'::S
noncomputable def vp(n:B):B->B->J Ch->J b8
 |_,_,[]=>[]
 |i,j,[c]=>lw i j c++(lZ i j c).map (jL n)
 |i,j,c::c'::S=>lw i j c++lZ i j c++vp n (dC i c) (dS j c) (c'::S)
theorem ahv{o p:b8}{l:J b8}:kE n (o::p::l)=o::kE n (p::l):=rfl
theorem ahw:vp n i j [c]=lw i j c++(lZ i j c).map (jL n):=rfl
theorem ahx{c':Ch}:vp n i j (c::c'::S)=lw i j c++lZ i j c++vp n (dC i c) (dS j c) (c'::S):=rfl
theorem ahy:om n p i j [c]=[(p.1,p.2.1,p.2.2++dz c++bv (c.2.2.take n))]:=rfl
theorem R8{c':Ch}:om n p i j (c::c'::S)=if n+n<U c.2.2 then(p.1,p.2.1,p.2.2++dz c++bv (c.2.2.take n))::om n (dC i c-n,dS j c-n,bv<|c.2.2.drop<|U c.2.2-n) (dC i c) (dS j c) (c'::S)
  else om n (p.1,p.2.1,p.2.2++dz c++bv c.2.2) (dC i c) (dS j c) (c'::S):=rfl
theorem wW(h:qE c):∃t,t≠0/\lw i j c=[(t,i,i+U c.1,j,j+U c.2.1)]/\(t=1\/t=2/\c.2.1=[]\/t=3/\c.1=[]):=by
 have:=zJ h;unfold lw h8
 by_cases G:i<i+U c.1
 ·refine D (aU G) ?_
  by_cases h2:j<j+U c.2.1
  ·exact D (aU h2)<|⟨1,by decide,rfl,.inl rfl⟩
  ·exact D (aE h2)<|⟨2,by decide,rfl,.inr<|.inl ⟨rfl,rO<|by exact L7 h2⟩⟩
 ·exact D (aE G) (D (aU<|by exact Uo this G)<|⟨3,by decide,rfl,.inr<|.inr ⟨rfl,rO<|by exact L7 G⟩⟩)
theorem IX(h:c.2.2≠[]):lZ i j c=[(0,i+U c.1,dC i c,j+U c.2.1,dS j c)]:=by
 have:U c.2.2≠0:=λe=>h<|rO e;unfold lZ k8 dC dS;exact D (aE this) rfl
theorem R9(h:c.2.2=[]):lZ i j c=[]:=by
 unfold lZ k8;exact D h rfl
theorem IY{n:B}{Y:J b8}(hY:Y≠[]):∀X:J b8,kE n (X++Y)=X++kE n Y
 | []=>rfl
 |x::X=>by
  refine D jT ?_
  have ih:=IY (n:=n) hY X;cases h:X++Y with
  |nil=>exact aY (zW.mp h).2 hY
  |cons a l=>
   rw[h] at ih;rw[ahv,ih,jT]
theorem IZ(h:qE c):l4 i j (c::S)≠[]:=by
 refine cP (wW (i:=i) (j:=j) h) λt H e H=>?_
 refine D CX<|D e ?_;simp
theorem I6{n:B}:∀(S:J Ch) (i j:B),fy S->kE n (l4 i j S)=vp n i j S
 | []=>λH H H=>rfl
 | [c]=>λi j h=>by
  refine cP (wW (i:=i) (j:=j)<|fy.gap h) λt ht e H=>?_
  show kE n (lw i j c++lZ i j c++[])=lw i j c++_;refine D (cM _)<|D e ?_
  by_cases hE:c.2.2=[]
  ·refine D (R9 hE) ?_
   show[if t=0 then _ else _]=_;exact D (aE ht) rfl
  ·exact D (IX hE) rfl
 |c::c'::S=>λi j h=>by
  rw[CX,IY<|IZ h.2.2.gap,I6 (c'::S) _ _ h.tail];rfl
theorem ahz(h:fy S)(hS:S≠[])(ho:fH f u=k8 (0,0,U lead)++l4 (U lead) (U lead) S):
  codes f u n=(if lead=[] then[] else[(0,U lead-n,U lead,U lead-n,U lead)])++vp n (U lead) (U lead) S:=by
 cases S with
 |nil=>exact aY rfl hS
 |cons c S=>
 unfold codes;refine cP (wW (i:=U lead) (j:=U lead)<|fy.gap h) λt ht e H=>?_
 by_cases hl:lead=[]
 ·subst hl;have ho:fH f u=l4 0 0 (c::S):=ho
  (refine D (aE<|by rw[ho];exact IZ h.gap)<|D ho<|D (aU rfl) ?_)
  have e2:nh n (l4 0 0<|c::S)=l4 0 0 (c::S):=by
   refine D CX<|D (e:lw 0 0 c=_) ?_;show(if t=0 then _ else _)::_=_;exact D (aE ht) rfl
  exact D e2<|I6 _ _ _ h
 ·have kt:U lead≠0:=λe=>hl<|rO e;have e1:k8 (0,0,U lead)=[(0,0,U lead,0,U lead)]:=by
   unfold k8;rw[aE kt,iu]
  replace ho:=e1▸ho
  (refine D (aE<|by rw[ho];simp)<|D ho<|D (aE hl) ?_)
  have e2:nh n ([(0,0,U lead,0,U lead)]++l4 (U lead) (U lead) (c::S))=[(0,U lead-n,U lead,U lead-n,U lead)]++l4 (U lead) (U lead) (c::S):=by
   show(0,max 0<|U lead-n,U lead,max 0<|U lead-n,U lead)::_=_;exact D (B.zero_max _) rfl
  rw[e2,IY<|IZ h.gap,I6 _ _ _ h]
theorem CY(c:B)(l m:J<|J B):cZ c (l++m)=cZ c l+cZ c m:=by
 unfold cZ;rw[xa,aK]
theorem I7{c:B}:∀(l:J<|J B),cZ c (l.map (c:: ·))=0
 | []=>rfl
 |a::l=>by
  have ih:=I7 (c:=c) l;unfold cZ at*;exact D eu (D pF<|D (aE<|by simp) ih)
theorem zK{c d:B}(h:d≠c):∀(l:J<|J B),cZ c (l.map (d:: ·))=U l
 | []=>rfl
 |a::l=>by
  have ih:=zK h l;unfold cZ at*;rw[eu,pF,aU (by simpa using h),cK,ih,cK]
theorem I8(c:Ch):cZ 43 (dz c)=U c.1:=by
 unfold dz;rw[CY,zK (by decide),I7,jy]
theorem I9(c:Ch):cZ 45 (dz c)=U c.2.1:=by
 unfold dz;rw[CY,zK (c:=45) (d:=43) (by decide),I7,iu]
theorem pA(E:J<|J B):cZ 43 (bv E)=U E:=zK (by decide) E
theorem pB(E:J<|J B):cZ 45 (bv E)=U E:=zK (by decide) E
structure GR(f u:J<|J B)(cG:J b8)(p:Piece)(i j:B):Prop where
 rows:cG.flatMap (k9 f u)=p.2.2
 a:p.1+cZ 43 p.2.2=i
 b:p.2.1+cZ 45 p.2.2=j
 ends:cG≠[]->(cG.headD jw).2.1=p.1/\(cG.headD jw).2.2.2.1=p.2.1/\(cG.getLastD jw).2.2.1=i/\(cG.getLastD jw).2.2.2.2=j
theorem ahA(l:J α)(a d:α):(l++[a]).getLastD d=a:=by
 refine D (J.getLastD_eq_getLast?)<|D (J.getLast?_append) ?_;rfl
section
theorem GR.snoc{cG:J b8}(h:GR f u cG p i j){o:b8}{R:J (J B)}(hi:o.2.1=i)(hj:o.2.2.2.1=j)(hR:k9 f u o=R)(ca:i+cZ 43 R=o.2.2.1)(cb:j+cZ 45 R=o.2.2.2.2):
  GR f u (cG++[o]) (p.1,p.2.1,p.2.2++R) o.2.2.1 o.2.2.2.2:=by
 refine⟨by refine D kN<|D h.rows ?_;simp[hR],?_,?_,λH=>?_⟩
 ·
  rw[CY,←iq,h.a,ca]
 ·
  rw[CY,←iq,h.b,cb]
 ·rw[ahA];cases cG with
  |nil=>
   have h0:p.2.2=[]:=h.rows.symm;have ha:=h.a;have hb:=h.b;rw[h0] at ha hb;exact⟨hi.trans ha.symm,hj.trans hb.symm,rfl,rfl⟩
  |cons x cG=>
   exact gc (h.ends<|by simp) λe1 e2 H H=>(⟨e1,e2,rfl,rfl⟩)
theorem Ja(l:J α)(i aiy v:B):dw l (i+aiy) (i+aiy+v)=((l.drop i).drop aiy).take v:=by
 unfold dw;rw[xh,jx]
variable(hA:f.drop i=cp (c::S))(hB:u.drop j=allB (c::S))
include hA
theorem ahB:dw f i (i+U c.1)=c.1:=by
 have:=Ja f i 0<|U c.1;rw[jy] at this;rw[this,hA,mG];unfold cp qC;rw[e9,cm,JW]
theorem CZ(aiy v:B)(h:aiy+v<=U c.2.2):dw f (i+U c.1+aiy) (i+U c.1+aiy+v)=(c.2.2.drop aiy).take v:=by
 rw[iq i,Ja f i (U c.1+aiy) v,hA];unfold cp qC;rw[e9,cm,J.drop_append,Jz (by exact dZ _ _),nF,jx,Jt (by exact Un h),w6<|by refine D kO ?_;exact Um h]
omit hA
include hB
theorem ahC:dw u j (j+U c.2.1)=c.2.1:=by
 have:=Ja u j 0<|U c.2.1;rw[jy] at this;rw[this,hB,mG];unfold allB qD;rw[e9,cm,JW]
include hA
theorem Sb{o:b8}(hg:qE c)(ho:lw i j c=[o]):k9 f u o=dz c/\o.1≠0/\o.2=(i,i+U c.1,j,j+U c.2.1):=by
 refine cP (wW (i:=i) (j:=j) hg) λt ht e hc=>?_
 rw[ho] at e;obtain rfl:o=_:=(tJ e).1;refine⟨?_,ht,rfl⟩;unfold k9;refine D (aE ht)<|D (ahB hA)<|D (ahC hB) ?_;unfold dz;rcases hc with rfl|⟨rfl,h⟩|⟨rfl,h⟩
 ·simp
 ·simp[h]
 ·simp[h]
end
inductive nB{α β:Type}(R:α->β->Prop):J α->J β->Prop
 |nil:nB R [] []
 |cons {a:α} {b:β} {l:J α} {m:J β} (h:R a b) (t:nB R l m):nB R (a::l) (b::m)
noncomputable def GP(f u:J<|J B)(N:B)(g:J b8)(p:Piece):Prop:=g≠[]/\U g<=N/\∃i j,i<=U f/\j<=U u/\GR f u g p i j
theorem C0{f u:J (J B)}{n N:B}:∀(S:J Ch) (i j:B) (cG:J b8) (p:Piece),S≠[]->fy S->i+U (cp S)=U f->j+U (allB S)=U u->f.drop i=cp S->u.drop j=allB S->GR f u cG p i j->U cG+2*U S<=N->
  nB (GP f u N) (jM n cG<|vp n i j S) (om n p i j S)
 | []=>λH H H H h H H H H H H H=>aY rfl h
 | [c]=>λi j cG p H h hi hj hA hB hG hN=>by
  refine cP (wW (i:=i) (j:=j)<|fy.gap h) λt ht e H=>eh (Sb hA hB (fy.gap h) e) λl1 l2 l3=>?_
  have G1:=hG.snoc (o:=(t,i,i+U c.1,j,j+U c.2.1)) (R:=dz c) rfl rfl l1 (D (I8 _) rfl)<|D (I9 _) rfl;rw[vm] at hi;rw[vo] at hj;refine D ahw<|D ahy<|D e ?_;have C4:U cG+2<=N:=hN
  by_cases hE:c.2.2=[]
  ·refine D (R9 hE)<|D hE ?_;show nB _ (jM n cG<|(t,i,i+U c.1,j,j+U c.2.1)::[]) _;refine D uO (D (aE λq=>ht q.1)<|D Pn ?_)
   rw[aE (by
    rintro(q|⟨q1,q2⟩)
    ·simp at q
    ·cases cG with
     |nil=>exact ht q2
     |cons x g=>simp at q1)]
   refine D (by simp[bv]:bv (J.take n [])=[])<|D (cM _) ?_;exact .cons ⟨by simp,by refine D aK ?_;exact lz ‹_›,_,_,by dsimp only;exact L6 hi,by dsimp only;exact L6 hj,G1⟩ .nil
  ·refine D (IX hE) ?_
   show nB _ (jM n cG<|(t,i,i+U c.1,j,j+U c.2.1)::jL n (0,i+U c.1,dC i c,j+U c.2.1,dS j c)::[]) _;have em:∃k,k=min n (U c.2.2)/\jL n (0,i+U c.1,dC i c,j+U c.2.1,dS j c)=(0,i+U c.1,i+U c.1+k,j+U c.2.1,j+U c.2.1+k):=by
    refine⟨_,rfl,?_⟩;unfold jL dC dS;dsimp only;exact D (by exact L5:min (i+U c.1+U c.2.2) (i+U c.1+n)=i+U c.1+min n (U c.2.2))<|D (by exact L5:min (j+U c.2.1+U c.2.2) (j+U c.2.1+n)=j+U c.2.1+min n (U c.2.2)) rfl
   refine aH em λk hk eb=>?_
   have gm:k<=U c.2.2:=by exact Ul hk
   have rA:c.2.2.take n=c.2.2.take k:=by
    rw[hk,JA];exact Uk
   have ls:k9 f u (0,i+U c.1,i+U c.1+k,j+U c.2.1,j+U c.2.1+k)=bv (c.2.2.take k):=by
    have:=CZ hA 0 k<|Uj gm;rw[jy,mG] at this;show(dw f _ _).map (32:: ·)=_;refine D this ?_;rfl
   have G2:=G1.snoc (o:=(0,i+U c.1,i+U c.1+k,j+U c.2.1,j+U c.2.1+k)) (R:=bv<|c.2.2.take k) rfl rfl ls (by rw[pA,gA,tO gm]) (by rw[pB,gA,tO gm]);refine D eb<|D rA<|D uO ?_;refine D (aE λq=>ht q.1)<|D uO ?_
   rw[aE (by
    intro dM;obtain⟨_,q⟩:=dM;dsimp only at q
    exact Ui q hk)]
   refine D Pn ?_
   rw[aE (by
    rintro(q|⟨q1,q2⟩)
    ·simp at q
    ·simp at q1)]
   exact .cons ⟨by simp,by refine D aK<|D aK ?_;assumption,_,_,by dsimp only;exact L4 hi gm,by dsimp only;exact L4 hj gm,G2⟩ .nil
 |c::c'::S=>λi j cG p H h hi hj hA hB hG hN=>by
  refine cP (wW (i:=i) (j:=j)<|fy.gap h) λt ht e H=>eh (Sb hA hB (fy.gap h) e) λl1 l2 l3=>?_
  have G1:=hG.snoc (o:=(t,i,i+U c.1,j,j+U c.2.1)) (R:=dz c) rfl rfl l1 (by exact D (I8 _) rfl) (by exact D (I9 _) rfl);have hE:=h.2.1;rw[vm] at hi;rw[vo] at hj;have C4:U cG+2*(U S+2)<=N:=hN;have dA:f.drop (dC i c)=cp (c'::S):=by
   unfold dC;rw[iq,←xh,hA];unfold cp qC;rw[e9,←aK,Ae]
  have dB:u.drop (dS j c)=allB (c'::S):=by
   unfold dS;rw[iq,←xh,hB];unfold allB qD;rw[e9,←aK,Ae]
  have jv:dC i c+U (cp<|c'::S)=U f:=by unfold dC;exact L3 hi
  have kb:dS j c+U (allB<|c'::S)=U u:=by unfold dS;exact L3 hj
  refine D ahx<|D R8<|D e<|D (IX hE) ?_;refine D uO<|D (aE λq=>ht q.1) ?_;refine D uO ?_
  have eA:dC i c=i+U c.1+U c.2.2:=rfl;have eB:dS j c=j+U c.2.1+U c.2.2:=rfl
  by_cases hL:n+n<U c.2.2
  ·(refine D (aU hL)<|D (aU ⟨rfl,by dsimp only;exact Uh hL eA⟩) ?_)
   have ls:k9 f u (0,i+U c.1,i+U c.1+n,j+U c.2.1,j+U c.2.1+n)=bv (c.2.2.take n):=by
    have:=CZ hA 0 n<|Ug hL;rw[jy,mG] at this;show(dw f _ _).map (32:: ·)=_;exact D this rfl
   have G2:=G1.snoc (o:=(0,i+U c.1,i+U c.1+n,j+U c.2.1,j+U c.2.1+n)) (R:=bv<|c.2.2.take n) rfl rfl ls (by rw[pA,gA,tO<|L2 hL]) (by rw[pB,gA,tO<|L2 hL]);have eb:jL n (0,i+U c.1,dC i c,j+U c.2.1,dS j c)=(0,i+U c.1,i+U c.1+n,j+U c.2.1,j+U c.2.1+n):=by
    unfold jL;exact D (by exact L1 hL eA:min (dC i c) (i+U c.1+n)=i+U c.1+n)<|D (by exact L1 hL eB:min (dS j c) (j+U c.2.1+n)=j+U c.2.1+n) rfl
   have ef:my n (0,i+U c.1,dC i c,j+U c.2.1,dS j c)=(0,dC i c-n,dC i c,dS j c-n,dS j c):=by
    unfold my;exact D (by exact L0 hL eA:max (i+U c.1) (dC i c-n)=dC i c-n)<|D (by exact L0 hL eB:max (j+U c.2.1) (dS j c-n)=dS j c-n) rfl
   refine D eb<|D ef ?_;have lf:k9 f u (0,dC i c-n,dC i c,dS j c-n,dS j c)=bv (c.2.2.drop<|U c.2.2-n):=by
    have:=CZ hA (U c.2.2-n) n<|Uf hL;rw[show i+U c.1+(U c.2.2-n)+n=dC i c by exact Ue hL eA,show i+U c.1+(U c.2.2-n)=dC i c-n by exact Ud hL eA,qK<|by refine D kO ?_;exact Uc] at this;show(dw f _ _).map (32:: ·)=_;exact D this rfl
   have hl:U (bv<|c.2.2.drop<|U c.2.2-n)=n:=by unfold bv;exact D (bg _)<|D kO<|LZ hL
   refine .cons ⟨by simp,by refine D aK<|D aK ?_;exact Ub C4,_,_,by dsimp only;exact LY hL jv eA,by dsimp only;exact LY hL kb eB,G2⟩ (C0 (c'::S) _ _ _ _ (by simp) h.tail jv kb dA dB ⟨?_,?_,?_,λH=>⟨rfl,rfl,rfl,rfl⟩⟩<|by show 1+2*(U S+1)<=_;exact Ua C4)
   ·show k9 f u _++[]=_;exact D (cM _) lf
   ·
    exact D (pA _)<|D kO<|LX hL eA
   ·
    exact D (pB _)<|D kO<|LX hL eB
  ·(refine D (aE hL)<|D (aE λq=>hL (by have:=q.2;dsimp only at this;exact T9 this eA)) ?_)
   have ls:k9 f u (0,i+U c.1,dC i c,j+U c.2.1,dS j c)=bv c.2.2:=by
    have:=CZ hA 0 (U c.2.2) LW;rw[jy,mG,pH] at this;show(dw f _ _).map (32:: ·)=_;exact D eA<|D this rfl
   have G2:=G1.snoc (o:=(0,i+U c.1,dC i c,j+U c.2.1,dS j c)) (R:=bv c.2.2) rfl rfl ls (by refine D (pA _) ?_;rfl) (by refine D (pB _) ?_;rfl);exact C0 (c'::S) _ _ _ _ (by simp) h.tail jv kb dA dB G2 (by exact D aK<|D aK<|T8 C4)
noncomputable def pC(rows:J<|J B)(m:B):Prop:=m<U rows/\(rows.getD m []).headD 0≠32
theorem Sc(l:J α)(i j t:B):(dw l i j)[t]?=if t<j-i then l[i+t]? else none:=by
 unfold dw;simp only[JN];split
 ·simp only[z8]
 ·rfl
theorem tB:ja rows n k=true↔∃m,k-n<=m/\m<=k+n/\pC rows m:=by
 unfold ja pC;simp only[DE];constructor
 ·intro dM;refine aH dM λr hr hd=>?_
  obtain⟨t,ht⟩:=J.getElem?_of_mem hr
  rw[Sc] at ht;split at ht
  ·rename_i bJ;have hl:=(cJ.mp ht).1;refine⟨k-n+t,by exact dZ _ _,by exact UN bJ,hl,?_⟩;refine D (c5)<|D ht ?_;exact dq hd
  ·exact nomatch ht
 ·intro hU;refine uf hU λm G h2 h3 h4=>⟨rows.getD m [],(dT (i:=m-(k-n)) ?_),dF h4⟩
  rw[Sc,aU<|UM h2,show k-n+(m-(k-n))=m by exact xp ‹_›,c5,bO h3];rfl
noncomputable def RS(s:ry)(ps:J Piece)(p:Piece)(i j:B):Prop:=(s=(ps,i,j,false)/\p=(i,j,[]))\/s=(ps++[p],i,j,true)
theorem cnt_cons(c:B)(r:J B)(R:J<|J B):cZ c (r::R)=(if r.headD 0=c then 0 else 1)+cZ c R:=by
 unfold cZ;simp only[pF]
 by_cases h:r.headD 0=c
 ·rw[aE (by simpa using h),aU h,iu]
 ·rw[aU (by simpa using h),aE h,cK,tQ]
theorem vq:∀(R:J<|J B) (k:B) (s:ry) (ps:J Piece) (p:Piece) (i j:B),RS s ps p i j->(∀t,t<U R->rows[k+t]?=R[t]?)->(∀t,t<U R->ja rows n (k+t)=true)->
  RS ((fj k<|U R).foldl (gb rows n) s) ps (p.1,p.2.1,p.2.2++R) (i+cZ 43 R) (j+cZ 45 R)
 | []=>λk s ps p i j h H H=>by
  simp only[cM];exact h
 |r::R=>λk s ps p i j h hr hn=>by
  simp only[cK,JS,l6];have h0:=hr 0 (by simp);have n0:=hn 0 (by simp);simp only[jy] at h0 n0;have hg:rows.getD k []=r:=by simp only[c5,h0];rfl
  have step:gb rows n s k=(ps++[(p.1,p.2.1,p.2.2++[r])],(if r.headD 0=43 then i else i+1),(if r.headD 0=45 then j else j+1),true):=by
   unfold gb;refine D hg<|D n0<|D (aU rfl) ?_;rcases h with ⟨rfl,rfl⟩|rfl
   ·dsimp only;simp only[aE dy,yG]
   ·dsimp only;rw[aU rfl,yG]
  have ih:=vq R (k+1) (gb rows n s k) ps (p.1,p.2.1,p.2.2++[r]) _ _ (.inr step) (λt ht=>by have:=hr (t+1) (by simpa using ht);rw[vy] at this;rw[←this];congr 1;exact nH _ _ _) (λt ht=>by have:=hn (t+1) (by simpa using ht);rw[←this];congr 1;exact nH _ _ _);simp only[cnt_cons,cnt_cons];have e:p.2.2++r::R=p.2.2++[r]++R:=by simp
  simp only[e];have e1:i+((if r.headD 0=43 then 0 else 1)+cZ 43 R)=(if r.headD 0=43 then i else i+1)+cZ 43 R:=by split<;>exact(iq _ _ _).symm
  have e2:j+((if r.headD 0=45 then 0 else 1)+cZ 45 R)=(if r.headD 0=45 then j else j+1)+cZ 45 R:=by split<;>exact(iq _ _ _).symm
  simp only[e1,e2];exact ih
theorem C5:∀(R:J<|J B) (k:B) (s:ry),(∀t,t<U R->rows[k+t]?=R[t]?)->(∀t,t<U R->ja rows n (k+t)=false)->
  (fj k<|U R).foldl (gb rows n) s=(s.1,s.2.1+cZ 43 R,s.2.2.1+cZ 45 R,if R=[] then s.2.2.2 else false)
 | []=>λk s H H=>rfl
 |r::R=>λk s hr hn=>by
  simp only[cK,JS,l6];have h0:=hr 0 (by simp);have n0:=hn 0 (by simp);simp only[jy] at h0 n0;have hg:rows.getD k []=r:=by simp only[c5,h0];rfl
  (simp only[C5 R (k+1) (gb rows n s k) (λt ht=>by have:=hr (t+1) (by simpa using ht);rw[vy] at this;rw[←this];congr 1;exact nH _ _ _) (λt ht=>by have:=hn (t+1) (by simpa using ht);rw[←this];congr 1;exact nH _ _ _)])
  simp only[cnt_cons,cnt_cons,aE (by simp:¬(r::R=[]))];unfold gb;refine D hg<|D n0 ?_;dsimp only;simp only[aE dy];have e1:s.2.1+((if r.headD 0=43 then 0 else 1)+cZ 43 R)=(if r.headD 0=43 then s.2.1 else s.2.1+1)+cZ 43 R:=by split<;>exact(iq _ _ _).symm
  have e2:s.2.2.1+((if r.headD 0=45 then 0 else 1)+cZ 45 R)=(if r.headD 0=45 then s.2.2.1 else s.2.2.1+1)+cZ 45 R:=by split<;>exact(iq _ _ _).symm
  have e3:(if R=[] then false else false)=false:=by split<;>rfl
  simp only[e1,e2,e3]
theorem dl(E:J<|J B):U (bv E)=U E:=bg ..
theorem C6(E F:J<|J B):bv (E++F)=bv E++bv F:=eL
theorem vu{X Y Z:J α}{t:B}(h:t<U Y):(X++(Y++Z))[U X+t]?=Y[t]?:=by
 rw[dc<|dZ _ _,jx,cA h]
theorem Jb(hr:rows=X++(bv E++Z)){m:B}(G:U X<=m)(h2:m<U X+U E):¬pC rows m:=by
 intro nu;obtain⟨_,h⟩:=nu;obtain⟨t,rfl⟩:=Kd G;have ht:t<U E:=by exact UL h2
 refine h ?_
 (refine D (c5)<|D hr<|D (vu<|by rw[dl];exact ht) ?_)
 refine D (c6)<|D (bO ht) ?_;rfl
theorem ahD(hr:rows=X++(bv E++Y))(hX:∃m,m<U X/\U X<=m+1/\pC rows m)(hY:pC rows<|U X+U E):
  if n+n<U E then RS ((fj (U X)<|U E).foldl (gb rows n) (ps++[p],i,j,true)) (ps++[(p.1,p.2.1,p.2.2++bv (E.take n))]) (i+U E-n,j+U E-n,bv<|E.drop<|U E-n) (i+U E)<|j+U E
  else RS ((fj (U X)<|U E).foldl (gb rows n) (ps++[p],i,j,true)) ps (p.1,p.2.1,p.2.2++bv E) (i+U E) (j+U E):=by
 refine cP hX λm gF lW hm=>?_
 have C7:∀t,t<n->ja rows n (U X+t)=true:=λt ht=>tB.mpr ⟨m,by exact Mc ht lW,by exact Mb gF,hm⟩;have C8:∀t,U E<=t+n->t<U E->ja rows n (U X+t)=true:=λt ht bJ=>tB.mpr ⟨U X+U E,by exact UK bJ,by exact UJ ht,hY⟩;have zL:∀t,n<=t->t+n<U E->ja rows n (U X+t)=false:=λt G h2=>by
  cases hq:ja rows n (U X+t) with
  |false=>rfl
  |true=>
   exact cP (tB.mp hq) λm' a b hc=>(aY hc<|Jb hr (by exact Ma a G)<|by exact UI h2 b)
 have hE:∀t,t<U (bv E)->rows[U X+t]?=(bv E)[t]?:=λt ht=>by rw[hr,vu ht]
 by_cases hL:n+n<U E
 ·refine D (aU hL) ?_
  have e1:E.take n++(E.drop n).take (U E-(n+n))++E.drop (U E-n)=E:=by
   have a:=rQ n E;have b:=rQ (U E-(n+n))<|E.drop n;rw[xh,show n+(U E-(n+n))=U E-n by exact UH hL] at b;simp only[cm,b,a]
  have l1:U (E.take n)=n:=by exact D gA<|UG hL
  have l2:U ((E.drop n).take<|U E-(n+n))=U E-(n+n):=by simp only[gA,kO];exact UF
  have l3:U (E.drop<|U E-n)=n:=by exact D kO<|LZ hL
  generalize Jc:E.take n=F1 at*;generalize Sd:(E.drop n).take (U E-(n+n))=F2 at*;generalize hF3:E.drop (U E-n)=F3 at*;have e2:U E=n+(U F2+n):=by exact D l2<|UE hL
  have hF:∀t,t<U (bv E)->rows[U X+t]?=(bv<|F1++F2++F3)[t]?:=λt ht=>by exact D e1<|hE t ht
  rw[C6,C6] at hF;have r1:∀t,t<U (bv F1)->rows[U X+t]?=(bv F1)[t]?:=λt ht=>by
   rw[dl] at ht
   (simp only[hF t (by refine D (dl _) ?_;exact UD ht e2 l1),cm,cA<|by rw[dl];exact ht])
  have r2:∀t,t<U (bv F2)->rows[U X+n+t]?=(bv F2)[t]?:=λt ht=>by
   rw[dl] at ht;rw[iq,hF (n+t) (by rw[dl];exact UC ht e2),cm,←l1,←dl F1,vu<|by rw[dl];exact ht]
  have r3:∀t,t<U (bv F3)->rows[U X+n+U F2+t]?=(bv F3)[t]?:=λt ht=>by
   rw[dl] at ht;rw[show U X+n+U F2+t=U X+(n+U F2+t) by exact Mh,hF _ (by rw[dl];exact Mg ht e2 l3),show n+U F2+t=U (bv F1++bv F2)+t by rw[aK,dl,dl,l1],dc<|dZ _ _,jx]
  simp only[e2,←tI,←tI,jS,jS];have S1:=vq (n:=n) (bv F1) (U X) (ps++[p],i,j,true) ps p i j (.inr rfl) r1 (λt ht=>C7 t<|by rw[dl] at ht;exact mO ht l1);rw[dl,l1,pA,pB,l1] at S1;have zM:(fj (U X) n).foldl (gb rows n) (ps++[p],i,j,true)=(ps++[(p.1,p.2.1,p.2.2++bv F1)],i+n,j+n,true):=by
   rcases S1 with ⟨a,b⟩|a
   ·have hz:p.2.2++bv F1=[]:=bA (·.2.2) b;obtain⟨G,h2⟩:=zW.mp hz;have n0:n=0:=by refine bL l1<|bL (dl _)<|D h2 ?_;rfl
    subst n0;simp only[h2,cM];rfl
   ·exact a
  simp only[zM];have S2:=C5 (n:=n) (bv F2) (U X+n) (ps++[(p.1,p.2.1,p.2.2++bv F1)],i+n,j+n,true) r2 (λt ht=>by rw[dl] at ht;rw[iq];exact zL _ (dZ _ _)<|UB ht e2);have cw:¬bv F2=[]:=λq=>by have h0:U (bv F2)=0:=(by refine D q ?_;rfl);rw[dl] at h0;exact UA hL e2 h0
  rw[dl,pA,pB,aE cw] at S2;refine D S2 ?_
  have S3:=vq (n:=n) (bv F3) (U X+n+U F2) (ps++[(p.1,p.2.1,p.2.2++bv F1)],i+n+U F2,j+n+U F2,false) (ps++[(p.1,p.2.1,p.2.2++bv F1)]) (i+n+U F2,j+n+U F2,[]) _ _ (.inl ⟨rfl,rfl⟩) r3 (λt ht=>by
   rw[dl] at ht
   exact D (show U X+n+U F2+t=U X+(n+U F2+t) by exact Mh) (C8 _ (by exact Uz e2) (by exact Mg ht e2 l3)))
  rw[dl,l3,pA,pB,l3,nF] at S3;exact D (show i+(n+(U F2+n))-n=i+n+U F2 by exact Mf) (D (show j+(n+(U F2+n))-n=j+n+U F2 by exact Mf)<|D (show i+(n+(U F2+n))=i+n+U F2+n by exact Me)<|D (show j+(n+(U F2+n))=j+n+U F2+n by exact Me) S3)
 ·refine D (aE hL) ?_
  have S1:=vq (n:=n) (bv E) (U X) (ps++[p],i,j,true) ps p i j (.inr rfl) hE (λt ht=>by
   rw[dl] at ht
   by_cases h:t<n
   ·exact C7 t h
   ·exact C8 t (Uy hL h) ht)
  rw[dl,pA,pB] at S1;exact S1
theorem ahE(hr:rows=X++(bv E++[]))(hX:∃m,m<U X/\U X<=m+1/\pC rows m):
  ((fj (U X)<|U E).foldl (gb rows n) (ps++[p],i,j,true)).1=ps++[(p.1,p.2.1,p.2.2++bv (E.take n))]:=by
 refine cP hX λm gF lW hm=>?_
 have C7:∀t,t<n->ja rows n (U X+t)=true:=λt ht=>tB.mpr ⟨m,by exact Mc ht lW,by exact Mb gF,hm⟩;have zL:∀t,n<=t->ja rows n (U X+t)=false:=λt G=>by
  cases hq:ja rows n (U X+t) with
  |false=>rfl
  |true=>
   refine cP (tB.mp hq) λm' a b hc=>?_
   have hl:=hc.1;rw[hr,cM,aK,dl] at hl;exact aY hc<|Jb hr (Ma a G) ‹_›
 have hE:∀t,t<U (bv E)->rows[U X+t]?=(bv E)[t]?:=λt ht=>by rw[hr,vu ht]
 have e1:=rQ n E;have e2:U E=U (E.take n)+U (E.drop n):=by simp only[←aK,e1]
 have l1:U (E.take n)<=n:=by exact D gA Ux
 have l2:U (E.drop n)=U E-n:=kO;generalize Jc:E.take n=F1 at*;generalize Sd:E.drop n=F2 at*;have hF:∀t,t<U (bv E)->rows[U X+t]?=(bv F1++bv F2)[t]?:=λt ht=>by simp only[←C6,e1];exact hE t ht
 have r1:∀t,t<U (bv F1)->rows[U X+t]?=(bv F1)[t]?:=λt ht=>by
  rw[dl] at ht;rw[hF t (by rw[dl];exact L9 ht e2),cA<|by rw[dl];exact ht]
 have r2:∀t,t<U (bv F2)->rows[U X+U F1+t]?=(bv F2)[t]?:=λt ht=>by
  rw[dl] at ht;rw[iq,hF _ (by rw[dl];exact EY ht e2),show U F1+t=U (bv F1)+t by rw[dl],dc<|dZ _ _,jx]
 simp only[e2,←tI,jS];have S1:=vq (n:=n) (bv F1) (U X) (ps++[p],i,j,true) ps p i j (.inr rfl) r1 (λt ht=>C7 t<|by rw[dl] at ht;exact oB ‹_› ‹_›);rw[dl] at S1;have zM:((fj (U X)<|U F1).foldl (gb rows n) (ps++[p],i,j,true)).1=ps++[(p.1,p.2.1,p.2.2++bv F1)]:=by
  rcases S1 with ⟨a,b⟩|a
  ·have hz:p.2.2++bv F1=[]:=bA (·.2.2) b;obtain⟨G,h2⟩:=zW.mp hz;have n0:U F1=0:=by exact bL (dl _) (D h2 rfl)
   simp only[n0,h2,cM];rfl
  ·simp only[a]
 have S2:=C5 (n:=n) (bv F2) (U X+U F1) ((fj (U X) (U F1)).foldl (gb rows n) (ps++[p],i,j,true)) r2 (λt ht=>by
  rw[dl] at ht
  rw[iq];exact zL _ (Uw ht (show U F1=min n (U E) by simp only[←Jc,gA]) e2))
 rw[dl] at S2;rw[S2];exact zM
theorem ahF(hr:rows=[]++(bv E++Y))(hY:pC rows<|U E):
  RS ((fj 0<|U E).foldl (gb rows n) ([],0,0,false)) [] (U E-n,U E-n,bv<|E.drop<|U E-n) (U E) (U E):=by
 have C8:∀t,U E<=t+n->t<U E->ja rows n t=true:=λt ht bJ=>tB.mpr ⟨U E,by exact Uv bJ,by assumption,hY⟩;have zL:∀t,t+n<U E->ja rows n t=false:=λt h2=>by
  cases hq:ja rows n t with
  |false=>rfl
  |true=>
   refine cP (tB.mp hq) λm' a b hc=>?_
   exact aY hc (Jb hr (bH _)<|by show m'<0+_;exact Uu h2 b)
 have hE:∀t,t<U (bv E)->rows[t]?=(bv E)[t]?:=λt ht=>by have:=vu (X:=([]:J<|J B)) (Y:=bv E) (Z:=Y) ht;rw[←hr] at this;refine bL this ?_;simp
 have e1:=rQ (U E-n) E;have e2:U E=U (E.take<|U E-n)+U (E.drop<|U E-n):=by simp only[←aK,e1]
 have l1:U (E.take<|U E-n)=U E-n:=by exact D gA Ut
 generalize Jc:E.take (U E-n)=F1 at*;generalize Sd:E.drop (U E-n)=F2 at*;have hF:∀t,t<U (bv E)->rows[t]?=(bv F1++bv F2)[t]?:=λt ht=>by simp only[←C6,e1];exact hE t ht
 have r1:∀t,t<U (bv F1)->rows[0+t]?=(bv F1)[t]?:=λt ht=>by
  rw[dl] at ht
  (simp only[iu,hF t (by refine D (dl _) ?_;exact L9 ht e2),cA<|by rw[dl];exact ht])
 have r2:∀t,t<U (bv F2)->rows[0+U F1+t]?=(bv F2)[t]?:=λt ht=>by
  rw[dl] at ht;rw[iu,hF _ (by rw[dl];exact EY ht e2),show U F1+t=U (bv F1)+t by rw[dl],dc<|dZ _ _,jx]
 have S1:=C5 (n:=n) (bv F1) 0 ([],0,0,false) r1 (λt ht=>by rw[dl] at ht;rw[iu];exact zL _<|Us ht l1);rw[dl,pA,pB] at S1;have hif:(if bv F1=[] then false else false)=false:=by split<;>rfl
 dsimp only at S1;simp only[hif,iu] at S1
 have S2:=vq (n:=n) (bv F2) (0+U F1) ([],U F1,U F1,false) [] (U F1,U F1,[]) _ _ (.inl ⟨rfl,rfl⟩) r2 (λt ht=>by
  rw[dl] at ht
  exact D (iu _) (C8 _ (by exact Ur l1) (by exact EY ht e2)))
 rw[dl,pA,pB,nF] at S2;have e3:fj 0 (U E)=fj 0 (U F1)++fj (0+U F1) (U F2):=by simp only[tI,←e2]
 simp only[e3,jS,S1,←l1];rw[←e2] at S2;exact S2
theorem Jd(c:Ch):U (dz c)=U c.1+U c.2.1:=by unfold dz;simp only[aK,bg,bg]
theorem ahG(c:Ch){r:J B}(h:r∈dz c):r.headD 0≠32:=by
 rcases bK.mp h with h|h
 ·refine aH (fa.mp h) λx H av=>?_
  subst av;exact λq=>by exact nomatch q
 ·refine aH (fa.mp h) λx H av=>?_
  subst av;exact λq=>by exact nomatch q
theorem C9(hr:rows=X++(dz c++Y)){t:B}(ht:t<U (dz c)):pC rows (U X+t):=by
 have G:rows[U X+t]?=some (dz c)[t]:=by simp only[hr,vu ht,bO ht]
 refine⟨(cJ.mp G).1,?_⟩;refine D (c5)<|D G ?_;exact ahG c<|nE _
theorem Je:∀(S:J Ch) (X:J<|J B) (s:ry) (ps:J Piece) (p:Piece) (i j:B),S≠[]->fy S->rows=X++S.flatMap gz->RS s ps p i j->
  ((fj (U X)<|U<|S.flatMap gz).foldl (gb rows n) s).1=ps++om n p i j S
 | []=>λH H H H H H h H H H=>aY rfl h
 |c::S=>λX s ps p i j H h hr hs=>by
  have hg:=zJ h.gap;have kf:=Jd c;have qi:rows=X++(dz c++(bv c.2.2++S.flatMap gz)):=by
   simp only[hr,e9];unfold gz;simp only[cm];rfl
  have S1:=vq (n:=n) (dz c) (U X) s ps p i j hs (λt ht=>by rw[qi,vu ht]) λt ht=>tB.mpr ⟨_,by exact DU _ _,by exact dZ _ _,C9 qi ht⟩;rw[I8,I9] at S1;have zM:(fj (U X)<|U<|dz c).foldl (gb rows n) s=(ps++[(p.1,p.2.1,p.2.2++dz c)],i+U c.1,j+U c.2.1,true):=by
   rcases S1 with ⟨a,b⟩|a
   ·have hz:p.2.2++dz c=[]:=bA (·.2.2) b;obtain⟨G,h2⟩:=zW.mp hz;simp only[h2] at kf;have h0:U ([]:J<|J B)=0:=rfl;exact(Uq hg kf h0).elim
   ·exact a
  have hlen:U ((c::S).flatMap gz)=U (dz c)+(U c.2.2+U (S.flatMap gz)):=by
   simp only[e9];unfold gz;simp only[aK,aK,bg,iq]
  have uR:rows=(X++dz c)++(bv c.2.2++S.flatMap gz):=by simp only[qi,cm]
  have Se:∃m,m<U (X++dz c)/\U (X++dz c)<=m+1/\pC rows m:=by
   refine⟨U X+(U (dz c)-1),?_,?_,C9 qi<|Up hg kf⟩<;>rw[aK]<;>lia
  have hXl:U (X++dz c)=U X+U (dz c):=aK;simp only[hlen,←tI,jS,zM,←tI,jS,←hXl];cases S with
  |nil=>
   simp only[show U (([]:J Ch).flatMap gz)=0 from rfl];show((fj (U<|X++dz c)<|U c.2.2).foldl (gb rows n) _).1=_;refine D (ahE uR Se) ?_
   rfl
  |cons c' S=>
   have hY:pC rows (U (X++dz c)+U c.2.2):=by
    have hg':=zJ h.tail.gap;have ahH:=Jd c';have e:rows=(X++dz c++bv c.2.2)++(dz c'++(bv c'.2.2++S.flatMap gz)):=by
     simp only[uR,e9];unfold gz;simp[bv]
    have:=C9 e (t:=0)<|L8 hg' ahH;rw[jy,aK,dl] at this;exact this
   have hm:=ahD (n:=n) uR Se hY (ps:=ps) (p:=(p.1,p.2.1,p.2.2++dz c)) (i:=i+U c.1) (j:=j+U c.2.1);have Sg:rows=(X++dz c++bv c.2.2)++(c'::S).flatMap gz:=by simp only[uR];simp only[cm]
   have pd:U (X++dz c++bv c.2.2)=U (X++dz c)+U c.2.2:=by rw[aK,dl]
   dsimp only[om]
   by_cases hL:n+n<U c.2.2
   ·rw[aU hL] at hm ⊢;have ih:=Je (c'::S) _ _ _ _ _ _ nofun h.tail Sg hm;rw[pd] at ih;rw[ih,cm];rfl
   ·rw[aE hL] at hm ⊢;have ih:=Je (c'::S) _ _ _ _ _ _ nofun h.tail Sg hm;rw[pd] at ih;exact D ih rfl
theorem nB.lines{N:B}{gs:J (J b8)}(aix:nB (GP f u N) gs ps):gs.flatMap (rx f u e)=ps.flatMap (lR e):=by
 induction aix with
 |nil=>rfl
 |@cons g p _ _ h t ih=>
  simp only[e9,e9,ih];congr 1;refine uh h λcw H i j H H aiz=>gc (aiz.ends cw) λe1 e2 e3 e4=>?_
  have ha:=aiz.a;have hb:=aiz.b;unfold rx lR BW;simp only[aiz.rows,e1,e2,e3,e4];simp only[show((i:az)-(p.1:az))=((cZ 43 p.2.2:B):az) by lia,show((j:az)-(p.2.1:az))=((cZ 45 p.2.2:B):az) by lia]
theorem nB.good{N:B}(hN:N<=1000)(ha:U f<10 ^ 9)(hb:U u<10 ^ 9){gs:J (J b8)}(aix:nB (GP f u N) gs ps):∀g∈gs,GoodG g:=by
 induction aix with
 |nil=>exact λg hg=>nomatch hg
 |@cons g0 p _ _ h t ih=>
  intro g hg;rcases cu.mp hg with rfl|hg
  ·refine uh h λcw hl i j hi hj aiz=>gc (aiz.ends cw) λe1 e2 e3 e4=>?_
   have a1:=aiz.a;have b1:=aiz.b;exact⟨cw,by exact cX ‹_› ‹_›,by simp only[e1,e3];exact uk a1,by refine D e3 ?_;exact xq ‹_› ‹_›,by simp only[e2,e4];exact uk b1,by refine D e4 ?_;exact xq ‹_› ‹_›⟩
  ·exact ih g hg
theorem nB.ne{β:Type}{R:α->β->Prop}{l:J α}{m:J β}(h:nB R l m)(hm:m≠[]):l≠[]:=by
 cases h with
 |nil=>exact aY rfl hm
 |cons h t=>simp
theorem Sh{n:B}:∀(S:J Ch) (p:Piece) (i j:B),om n p i j S≠[]
 | []=>λp i j=>xf _ _
 | [c]=>λp i j=>xf _ _
 |c::c'::S=>λp i j=>by
  refine D R8 ?_
  split
  ·simp
  ·exact Sh (c'::S) _ _ _
theorem ahI(h:fy S)(hS:S≠[])(hA:f=lead++cp S)(hB:u=lead++allB S)(hb:dU f u=pz lead++eW (U lead) (U lead) S):
  nB (GP f u<|1+2*U S) (groups f u n) (om n (U lead-n,U lead-n,bv<|lead.drop<|U lead-n) (U lead) (U lead) S):=by
 unfold groups;simp only[ahz h hS<|IW h hA hB hb];have e1:U lead+U (cp S)=U f:=by simp only[hA,aK]
 have e2:U lead+U (allB S)=U u:=by simp only[hB,aK]
 have d1:f.drop (U lead)=cp S:=by simp only[hA,Ae]
 have d2:u.drop (U lead)=allB S:=by simp only[hB,Ae]
 by_cases hl:lead=[]
 ·refine D (aU hl) ?_
  refine C0 S _ _ [] _ hS h e1 e2 d1 d2 ⟨?_,?_,?_,λq=>aY rfl q⟩ (by show 0+_<=_;exact US)<;>subst hl<;>simp[bv,cZ]
 ·refine D (aE hl)<|D uO ?_;have kt:0<U lead:=oz.mpr hl
  (refine D (aE (λq=>by have:=q.2;dsimp only at this;exact UR this)) ?_)
  have hd:U (lead.drop<|U lead-n)=U lead-(U lead-n):=kO;refine C0 S _ _ _ _ hS h e1 e2 d1 d2 ⟨?_,?_,?_,λH=>⟨rfl,rfl,rfl,rfl⟩⟩ (by show 1+_<=_;exact aG _)
  ·show k9 f u _++[]=_;refine D (cM _) ?_
   show(dw f (U lead-n)<|U lead).map (32:: ·)=_;unfold bv dw;rw[hA,Jt<|DU _ _,w6<|UQ hd,qK<|UP hd]
  ·
   simp only[pA,hd];exact Mi
  ·
   simp only[pB,hd];exact Mi
theorem ahJ(h:fy S)(hS:S≠[])(hr:rows=bv lead++S.flatMap gz):
  (lg rows n<|eD<|U rows).1=om n (U lead-n,U lead-n,bv<|lead.drop<|U lead-n) (U lead) (U lead) S:=by
 unfold lg;have hl:U rows=U lead+U (S.flatMap gz):=by simp only[hr,aK,dl]
 simp only[JB,hl,←tI,jS,iu];cases S with
 |nil=>exact aY rfl hS
 |cons c S=>
 have hY:pC rows (U lead):=by
  have hg:=zJ h.gap;have kf:=Jd c;have e:rows=bv lead++(dz c++(bv c.2.2++S.flatMap gz)):=by
   simp only[hr,e9];unfold gz;simp only[cm];rfl
  have:=C9 e (t:=0)<|L8 hg kf;rw[jy,dl] at this;exact this
 have:=Je (n:=n) (rows:=rows) (c::S) (bv lead) _ _ _ _ _ hS h hr<|ahF (n:=n) (rows:=rows) (E:=lead) (Y:=(c::S).flatMap gz) hr hY;rw[dl,nF] at this;exact this
theorem ahK(h:fy S)(hS:S≠[])(hA:f=lead++cp S)(hB:u=lead++allB S)(hb:dU f u=pz lead++eW (U lead) (U lead) S)(hr:rows=bv lead++S.flatMap gz)
  (e1:G=[45,45,45,32]++f1++(if d1=[] then[] else 9::d1)) (e2:h2=[43,43,43,32]++f2++(if d2=[] then[] else 9::d2)) (hz:U S<=400) (ha:U f<10 ^ 9) (wX:U u<10 ^ 9):
  fw f u n f1 f2 d1 d2 e=report rows n G h2 e/\∀g∈groups f u n,GoodG g:=by
 have aiz:=ahI (n:=n) h hS hA hB hb;refine⟨?_,aiz.good (UO hz) ha wX⟩;unfold fw report;simp only[aE<|aiz.ne<|Sh _ _ _ _,aiz.lines,ahJ (n:=n) h hS hr,e1,e2];rfl
theorem ahL{steps:dY}(h0:qF steps)(hc:∃p∈steps,p.1≠p.2)(hA:f=iN steps)(hB:u=iO steps)(hb:dU f u=pz (cks steps).1++eW (cks steps).1.length (cks steps).1.length (cks steps).2)
  (e1:G=[45,45,45,32]++f1++(if d1=[] then[] else 9::d1)) (e2:h2=[43,43,43,32]++f2++(if d2=[] then[] else 9::d2)) (hz:U steps<=400) (ha:U f<10 ^ 9) (wX:U u<10 ^ 9):
  fw f u n f1 f2 d1 d2 e=report (gk steps) n G h2 e/\∀g∈groups f u n,GoodG g:=by
 have hl:(cks steps).2.length<=U steps:=by
  have hg:∀(x y:J B) l (S:J Ch),U (pv x y l S)<=U S+1:=λx y l S=>by
   match l,S with
   | [],[]=>exact aG _
   | [],c::S=>exact eM _
   |a::l,S=>exact aG _
  have:∀s:dY,(cks s).2.length<=U s:=λs=>by
   induction s with
   |nil=>exact aG _
   |cons p r ih=>
    simp only[rN,cK];split
    ·exact cX ih<|eM _
    ·exact cX (hg _ _ _ _)<|Kj ih
  exact this steps
 exact ahK (IR steps) (RY hc) (hA.trans (IS steps h0).symm) (hB.trans (IT steps h0).symm) hb (ahs steps) e1 e2 (by exact cX ‹_› ‹_›) ha wX
noncomputable def Da(a b:J<|J B)(i j k:B):Prop:=∀t,t<k->i+t<U a/\a[i+t]?=b[j+t]?
noncomputable def zN(i k:B)(s:kK):Prop:=s.1<=i/\i+k<=s.1+s.2.2
noncomputable def zO(j k:B)(s:kK):Prop:=s.2.1<=j/\j+k<=s.2.1+s.2.2
noncomputable def zP(a b:J<|J B)(mC:J kK):Prop:=∀i j k,0<k->Da a b i j k->
 (∃s∈mC,zN i k s/\(i=s.1->k=s.2.2->(∃s'∈mC,zO j k s')\/s.2.1<=j))\/
 (∃s∈mC,zO j k s/\(j=s.2.1->k=s.2.2->(∃s'∈mC,zN i k s')\/s.1<=i))
theorem Si:∀(T:J kK),T≠[]->∃Tl s Tr,T=Tl++s::Tr/\(∀x∈Tl,x.2.2<s.2.2)/\∀x∈Tr,x.2.2<=s.2.2
 | []=>λh=>aY rfl h
 | [x]=>λH=>⟨[],x,[],rfl,(λH h=>nomatch h),(λH h=>nomatch h)⟩
 |x::y::T=>λH=>by
  refine lH (Si (y::T)<|by simp) λTl s Tr e G h2=>?_
  by_cases h:s.2.2<=x.2.2
  ·refine⟨[],x,y::T,rfl,(λH h=>nomatch h),λz hz=>?_⟩;rw[e] at hz;rcases bK.mp hz with hz|hz
   ·have:=G z hz;exact EU this h
   rcases cu.mp hz with rfl|hz
   ·exact h
   ·have:=h2 z hz;exact cX ‹_› ‹_›
  ·refine⟨x::Tl,s,Tr,by refine D e ?_;rfl,λz hz=>?_,h2⟩;rcases cu.mp hz with rfl|hz
   ·exact vH.mp ‹_›
   ·exact G z hz
theorem ahM{a b:J (J B)}{mC:J kK}(hv:∀s∈mC,0<s.2.2/\Da a b s.1 s.2.1 s.2.2)(hs:mC.Pairwise λs s'=>s.1+s.2.2<=s'.1/\s.2.1+s.2.2<=s'.2.1)(hw:zP a b mC):
  ∀(m:B) (T1 T T2:J kK) (aq aS au aJ:B),U T<=m->mC=T1++T++T2->(∀s∈T1,s.1+s.2.2<=aq/\s.2.1+s.2.2<=au)->(∀s∈T2,aS<=s.1/\aJ<=s.2.1)->
   (∀s∈T,aq<=s.1/\s.1+s.2.2<=aS/\au<=s.2.1/\s.2.1+s.2.2<=aJ)->gE a b aq aS au aJ T:=by
 intro m
 induction m with
 |zero=>
  intro T1 T T2 aq aS au aJ hm he G h2 h3;obtain rfl:T=[]:=rO<|U6 hm;refine .none ?_
  have aiv:=qh (a:=a) (b:=b) (aq:=aq) (aS:=aS) (au:=au) (aJ:=aJ);generalize jK a b aq aS au aJ=q at*;rcases tK q.2.2 with h0|hp
  ·exact h0
  exfalso;have b1:=aiv.lo1;have b2:=aiv.o9;have b3:=aiv.lP;have b4:=aiv.jv;have mem:∀s∈mC,s∈T1\/s∈T2:=λs hs=>by rw[he,cM] at hs;exact bK.mp hs
  rcases hw q.1 q.2.1 q.2.2 hp aiv.eq with ⟨s,uS,dk,_⟩|⟨s,uS,dk,_⟩
  ·refine xA dk λi1 i2=>?_
   rcases mem s uS with hm|hm
   ·have:=G s hm;exact U5 i2 this hp b1
   ·have:=h2 s hm;exact U4 b2 hp b1 i1 this
  ·refine xA dk λi1 i2=>?_
   rcases mem s uS with hm|hm
   ·have:=G s hm;exact U3 i2 this hp b3
   ·have:=h2 s hm;exact U2 b4 hp b3 i1 this
 |succ m ih=>
  intro T1 T T2 aq aS au aJ hm he G h2 h3
  by_cases hT:T=[]
  ·subst hT;exact ih T1 [] T2 aq aS au aJ (bH _) he G h2 h3
  refine lH (Si T hT) λTl s Tr e hl hr=>?_
  subst e;have pe:∀x,x∈Tl\/x=s\/x∈Tr->x∈Tl++s::Tr:=λx hx=>by simp only[bK,cu];exact hx
  have ct:∀x∈Tl++s::Tr,x∈mC:=λx hx=>by refine D he ?_;simp only[bK] at hx ⊢;exact .inl<|.inr hx
  have Sj:=pe s<|.inr<|.inl rfl;refine xA (hv s<|ct s Sj) λsp sc=>gc (h3 s Sj) λr1 r2 r3 r4=>?_
  have sorted:(Tl++s::Tr).Pairwise λs s'=>s.1+s.2.2<=s'.1/\s.2.1+s.2.2<=s'.2.1:=by
   rw[he] at hs;exact(w8.mp (w8.mp hs).1).2.1
  refine eh (w8.mp sorted) λp1 p2 p3=>xA (Aa.mp p2) λp4 p5=>?_
  have Db:∀x∈mC,(∃i j k,0<k/\aq<=i/\i+k<=aS/\au<=j/\j+k<=aJ/\(zN i k x\/zO j k x))->x∈Tl\/x=s\/x∈Tr:=λx hx h=>lH h λi j k hk c1 r=>gc r λc2 c3 c4 dk=>by
   rw[he] at hx;simp only[bK,cu] at hx;rcases hx with (hx|hx)|hx
   ·have:=G x hx;rcases dk with ⟨i1,i2⟩|⟨i1,i2⟩<;>exfalso<;>lia
   ·exact hx
   ·have:=h2 x hx;rcases dk with ⟨i1,i2⟩|⟨i1,i2⟩<;>exfalso<;>lia
  have Sk:∀x,x∈Tl\/x=s\/x∈Tr->s.2.2<=x.2.2->s.1<=x.1/\s.2.1<=x.2.1/\(x≠s->s.1<x.1)/\x.2.2=s.2.2:=λx hx hk=>by
   rcases hx with hx|rfl|hx
   ·have:=hl x hx;exact aY hk<|U1 this
   ·exact⟨aG _,aG _,λh=>aY rfl h,rfl⟩
   ·have:=p4 x hx;have:=hr x hx;exact⟨by lia,by lia,λH=>by lia,by exact LJ hk this⟩
  have small:∀x,x∈Tl\/x=s\/x∈Tr->x.2.2<=s.2.2:=λx hx=>by
   rcases hx with hx|rfl|hx
   ·exact lz<|hl x hx
   ·exact aG _
   ·exact hr x hx
  have best:j8 a b aq aS au aJ s:=by
   refine⟨r1,by exact Mk r2,r3,by exact Mk r4,sc,λh=>aY h (by exact kl ‹_›),λi j k c1 c2 c3 c4 hc=>?_,λi j c1 c2 c3 c4 hp hc=>?_⟩
   ·rcases tK k with h0|hp
    ·exact AL h0
    rcases hw i j k hp hc with ⟨x,hx,dk,_⟩|⟨x,hx,dk,_⟩
    ·have:=small x<|Db x hx ⟨i,j,k,hp,c1,c2,c3,c4,.inl dk⟩;exact xA dk λi1 i2=>(Mj i2 this i1)
    ·have:=small x<|Db x hx ⟨i,j,k,hp,c1,c2,c3,c4,.inr dk⟩;exact xA dk λi1 i2=>(Mj i2 this i1)
   ·have lA:∀x∈mC,zN i s.2.2 x->s.1<=x.1/\s.2.1<=x.2.1/\(x≠s->s.1<x.1)/\x.2.2=s.2.2:=λx hx dk=>Sk x (Db x hx ⟨i,j,s.2.2,hp,c1,c2,c3,c4,.inl dk⟩) (by have:=dk.1;have:=dk.2;lia);have lB:∀x∈mC,zO j s.2.2 x->s.1<=x.1/\s.2.1<=x.2.1/\(x≠s->s.1<x.1)/\x.2.2=s.2.2:=λx hx dk=>Sk x (Db x hx ⟨i,j,s.2.2,hp,c1,c2,c3,c4,.inr dk⟩) (by have:=dk.1;have:=dk.2;lia);rcases hw i j s.2.2 hp hc with ⟨x,hx,dk,himp⟩|⟨x,hx,dk,himp⟩
    ·refine gc (lA x hx dk) λg1 g2 g3 g4=>?_
     have hi:i=x.1:=by have:=dk.1;have:=dk.2;lia
     by_cases aV:x=s
     ·subst aV;refine .inr ⟨hi.symm,?_⟩;rcases himp hi rfl with ⟨y,hy,zQ⟩|h
      ·have:=(lB y hy zQ).2.1;have:=zQ.1;exact cX ‹_› ‹_›
      ·exact h
     ·exact .inl (by have:=g3 aV;exact me this hi)
    ·refine gc (lB x hx dk) λg1 g2 g3 g4=>?_
     have hj:j=x.2.1:=by have:=dk.1;have:=dk.2;lia
     have hi:s.1<=i:=by
      rcases himp hj g4.symm with ⟨y,hy,zQ⟩|h
      ·have:=(lA y hy zQ).1;have:=zQ.1;exact cX ‹_› ‹_›
      ·exact cX ‹_› ‹_›
     by_cases q:s.1=i
     ·exact .inr ⟨q,by exact U0 hj g2⟩
     ·exact .inl<|UZ q hi
  have ta:jK a b aq aS au aJ=s:=j8.unique qh best;have hlen:U (Tl++s::Tr)=Tl.length+Tr.length+1:=by simp;rfl
  refine .some (i:=s.1) (j:=s.2.1) (k:=s.2.2) ta sp ?_ ?_
  ·refine ih T1 Tl (s::Tr++T2) aq s.1 au s.2.1 (UY hlen hm) (by refine D he ?_;simp) G (λx hx=>?_) λx hx=>?_
   ·rw[jT] at hx;rcases cu.mp hx with rfl|hx
    ·exact⟨aG _,aG _⟩
    rcases bK.mp hx with hx|hx
    ·have:=p4 x hx;exact UX this
    ·have:=h2 x hx;exact UW r2 r4 this
   ·have:=h3 x<|pe x<|.inl hx;have:=p3 x hx s<|.head _;lia
  ·refine ih (T1++Tl++[s]) Tr T2 (s.1+s.2.2) aS (s.2.1+s.2.2) aJ (UV hlen hm) (by refine D he ?_;simp) (λx hx=>?_) h2 λx hx=>?_
   ·simp only[bK,bw] at hx;rcases hx with (hx|hx)|rfl
    ·have:=G x hx;exact UU this r1 r3
    ·have:=p3 x hx s<|.head _;exact UT this
    ·exact⟨aG _,aG _⟩
   ·have:=h3 x<|pe x<|.inr<|.inr hx;have:=p4 x hx;lia
theorem wY(F aiz:J Ch):cp (F++aiz)=cp F++cp aiz:=kN
theorem vv(F aiz:J Ch):allB (F++aiz)=allB F++allB aiz:=kN
theorem qG(c:Ch)(F:J Ch):cp (c::F)=c.1++(c.2.2++cp F):=by unfold cp qC;simp only[e9,cm]
theorem qH(c:Ch)(F:J Ch):allB (c::F)=c.2.1++(c.2.2++allB F):=by unfold allB qD;simp only[e9,cm]
theorem kg(X Y:J α)(t:B):(X++Y)[U X+t]?=Y[t]?:=by
 rw[dc<|dZ _ _,jx]
section
variable(h:F=F1++c::F2)
include h
theorem Sl{d:B}(hd:d<U c.1):(cp F)[U (cp F1)+d]?=c.1[d]?:=by
 simp only[h,wY,kg,qG,cA hd]
theorem Sm{e:B}(he:e<U c.2.2):(cp F)[U (cp F1)+U c.1+e]?=c.2.2[e]?:=by
 simp only[h,wY,iq,kg,qG,kg,cA he]
theorem Dc(t:B):(cp F)[U (cp F1)+U c.1+U c.2.2+t]?=(cp F2)[t]?:=by
 simp only[h,wY,iq,iq,kg,qG,kg,kg]
theorem Sn{d:B}(hd:d<U c.2.1):(allB F)[U (allB F1)+d]?=c.2.1[d]?:=by
 simp only[h,vv,kg,qH,cA hd]
theorem So{e:B}(he:e<U c.2.2):(allB F)[U (allB F1)+U c.2.1+e]?=c.2.2[e]?:=by
 simp only[h,vv,iq,kg,qH,kg,cA he]
theorem Jf(t:B):(allB F)[U (allB F1)+U c.2.1+U c.2.2+t]?=(allB F2)[t]?:=by
 simp only[h,vv,iq,iq,kg,qH,kg,kg]
end
theorem Dd:∀(F:J Ch) (i:B),i<U (cp F)->∃F1 c F2,F=F1++c::F2/\((∃d,d<U c.1/\i=U (cp F1)+d)\/∃e,e<U c.2.2/\i=U (cp F1)+U c.1+e)
 | []=>λi h=>aY h<|Aj _
 |c::F=>λi h=>by
  rw[vm] at h
  by_cases G:i<U c.1
  ·exact⟨[],c,F,rfl,.inl ⟨i,G,(iu _).symm⟩⟩
  by_cases h2:i<U c.1+U c.2.2
  ·exact⟨[],c,F,rfl,.inr ⟨i-U c.1,by exact Mr h2 G,by show i=0+_+_;exact Mq G⟩⟩
  refine eR (Dd F (i-(U c.1+U c.2.2))<|Mp h h2) λF1 c' F2 e hh=>?_
  refine⟨c::F1,c',F2,by refine D e ?_;rfl,?_⟩;refine D (vm _ _) ?_
  rcases hh with ⟨d,hd,hi⟩|⟨d,hd,hi⟩
  ·exact .inl ⟨d,hd,by exact Mo hi h2⟩
  ·exact .inr ⟨d,hd,by exact Mn hi h2⟩
theorem De:∀(F:J Ch) (j:B),j<U (allB F)->∃F1 c F2,F=F1++c::F2/\((∃d,d<U c.2.1/\j=U (allB F1)+d)\/∃e,e<U c.2.2/\j=U (allB F1)+U c.2.1+e)
 | []=>λi h=>aY h<|Aj _
 |c::F=>λi h=>by
  rw[vo] at h
  by_cases G:i<U c.2.1
  ·exact⟨[],c,F,rfl,.inl ⟨i,G,(iu _).symm⟩⟩
  by_cases h2:i<U c.2.1+U c.2.2
  ·exact⟨[],c,F,rfl,.inr ⟨i-U c.2.1,by exact Mr h2 G,by show i=0+_+_;exact Mq G⟩⟩
  refine eR (De F (i-(U c.2.1+U c.2.2))<|Mp h h2) λF1 c' F2 e hh=>?_
  refine⟨c::F1,c',F2,by refine D e ?_;rfl,?_⟩;refine D (vo _ _) ?_
  rcases hh with ⟨d,hd,hi⟩|⟨d,hd,hi⟩
  ·exact .inl ⟨d,hd,by exact Mo hi h2⟩
  ·exact .inr ⟨d,hd,by exact Mn hi h2⟩
theorem Sp:∀(F1:J Ch) (c:Ch) (F2:J Ch) (i j:B),c.2.2≠[]->(i+U (cp F1)+U c.1,j+U (allB F1)+U c.2.1,U c.2.2)∈eW i j (F1++c::F2)
 | []=>λc F2 i j h=>by
  show _∈eW i j (c::F2);exact D zI (D (show je i j c=_ from aE h)<|bK.mpr<|.inl<|bw.mpr rfl)
 |c'::F1=>λc F2 i j h=>by
  have ih:=Sp F1 c F2 (dC i c') (dS j c') h;simp only[jT];refine bK.mpr<|.inr ?_;simp only[vm,vo];simp only[show i+(U c'.1+U c'.2.2+U (cp F1))=i+U c'.1+U c'.2.2+U (cp F1) by exact vV,show j+(U c'.2.1+U c'.2.2+U (allB F1))=j+U c'.2.1+U c'.2.2+U (allB F1) by exact vV];exact ih
theorem Jg:∀(F:J Ch) (i j:B) (s:kK),s∈eW i j F->∃F1 c F2,F=F1++c::F2/\c.2.2≠[]/\s=(i+U (cp F1)+U c.1,j+U (allB F1)+U c.2.1,U c.2.2)
 | []=>λi j s h=>nomatch h
 |c::F=>λi j s h=>by
  rw[zI] at h;rcases bK.mp h with h|h
  ·unfold je at h;split at h
   ·exact nomatch h
   ·rename_i hE;rw[bw] at h;exact⟨[],c,F,rfl,hE,h⟩
  ·refine lH (Jg F _ _ s h) λF1 c' F2 e hE hs=>?_
   refine⟨c::F1,c',F2,by refine D e ?_;rfl,hE,?_⟩;simp only[hs,vm,vo];unfold dC dS;simp only[show i+(U c.1+U c.2.2+U (cp F1))=i+U c.1+U c.2.2+U (cp F1) by exact vV,show j+(U c.2.1+U c.2.2+U (allB F1))=j+U c.2.1+U c.2.2+U (allB F1) by exact vV]
theorem ahN:∀(F:J Ch) (i j:B),∀s∈eW i j F,i<=s.1/\j<=s.2.1:=λF i j s h=>by
 refine lH (Jg F i j s h) λF1 c F2 H H av=>?_
 subst av;exact⟨by dsimp only;exact Mm,by dsimp only;exact Mm⟩
theorem Sq:∀(F:J Ch) (i j:B),(eW i j F).Pairwise λs s'=>s.1+s.2.2<=s'.1/\s.2.1+s.2.2<=s'.2.1
 | []=>λH H=>.nil
 |c::F=>λi j=>by
  refine w8.mpr ⟨?_,Sq F _ _,λs hs s' n5=>?_⟩
  ·unfold je;split
   ·exact .nil
   ·exact Jv ..
  ·have:=ahN F _ _ s' n5;unfold je at hs;split at hs
   ·exact nomatch hs
   ·rw[bw] at hs;subst hs;exact this
theorem ahO:∀s∈eW 0 0 F,0<s.2.2/\Da (cp F++Z) (allB F++Y) s.1 s.2.1 s.2.2:=λs h=>by
 refine lH (Jg F 0 0 s h) λF1 c F2 e hE av=>?_
 subst av;refine⟨oz.mpr hE,λt ht=>?_⟩;dsimp only at ht ⊢;refine D (iu _)<|D (iu _) ?_;have G:=Sm e ht;have h2:=So e ht;simp only[bO ht] at G h2;obtain⟨l1,_⟩:=cJ.mp G;obtain⟨l2,_⟩:=cJ.mp h2;refine⟨by simp only[aK];exact U7 l1,?_⟩;simp only[cA l1,cA l2,G,h2]
theorem zR(hA:f=cp F++Z)(hB:u=allB F++Y)(hw:zP f u<|eW 0 0 F):dU f u=eW 0 0 F:=by
 have hv:=λs hs=>ahO (F:=F) (Z:=Z) (Y:=Y) s hs;rw[←hA,←hB] at hv
 have hb:=ahM hv (Sq F 0 0) hw (U (eW 0 0 F)) [] (eW 0 0 F) [] 0 (U f) 0 (U u) (aG _) (by simp) (λH h=>nomatch h) (λH h=>nomatch h) (λs hs=>by
  obtain⟨hp,hc⟩:=hv s hs;have G:=hc (s.2.2-1)<|xO hp;have l1:=G.1;have l2:s.2.1+(s.2.2-1)<U u:=by
   have e:=G.2;rw[bO l1] at e;exact(cJ.mp e.symm).1
  exact⟨bH _,by exact Ml l1,bH _,by exact Ml l2⟩)
 exact gE.unique (ru f u (0,U f,0,U u)) hb
theorem Jh(lead:J<|J B)(S:J Ch):pz lead++eW (U lead) (U lead) S=eW 0 0 (([],[],lead)::S):=by
 show _=je 0 0 ([],[],lead)++eW (0+0+U lead) (0+0+U lead) S;exact D (iu _) rfl
theorem ahP(F:J Ch)(c:Ch)(hc:c.2.2=[]):∀i j,eW i j (F++[c])=eW i j F:=by
 induction F with
 |nil=>
  intro i j;show je i j c++[]=[]
  unfold je;exact D (aU hc) rfl
 |cons x F ih=>
  intro i j;show je i j x++eW _ _ (F++[c])=_;exact D (ih _ _) rfl
theorem part2{α:Type}:∀{F1 mD:J α} {c c':α} {F2 oq:J α},F1++c::F2=mD++c'::oq->(F1=mD/\c=c'/\F2=oq)\/(∃M,mD=F1++c::M/\F2=M++c'::oq)\/∃M,F1=mD++c'::M/\oq=M++c::F2
 | [],[],c,c',F2,oq,h=>by
  injection h with G h2
  exact .inl ⟨rfl,G,h2⟩
 | [],x::mD,c,c',F2,oq,h=>by
  injection h with G h2
  exact .inr<|.inl ⟨mD,by refine D G ?_;rfl,h2⟩
 |x::F1,[],c,c',F2,oq,h=>by
  injection h with G h2
  exact .inr<|.inr ⟨F1,by refine D G ?_;rfl,h2.symm⟩
 |x::F1,x'::mD,c,c',F2,oq,h=>by
  injection h with G h2
  subst G;rcases part2 h2 with ⟨rfl,rfl,rfl⟩|⟨M,rfl,h3⟩|⟨M,rfl,h3⟩
  ·exact .inl ⟨rfl,rfl,rfl⟩
  ·exact .inr<|.inl ⟨M,rfl,h3⟩
  ·exact .inr<|.inr ⟨M,rfl,h3⟩
theorem qI(h:F=F1++c::F2):c∈F:=by refine D h ?_;simp
theorem wZ(h:F=F1++c::F2)(hE:c.2.2≠[]):(U (cp F1)+U c.1,U (allB F1)+U c.2.1,U c.2.2)∈eW 0 0 F:=by
 have:=Sp F1 c F2 0 0 hE;rw[iu,iu] at this;simp only[h];exact this
theorem Ji{l:J α}(h:i<U l):∃v,l[i]?=some v/\v∈l:=⟨l[i],bO h,nE h⟩
theorem ne_of_lt{l:J α}(h:i<U l):l≠[]:=λe=>by simp only[e] at h;exact nomatch h
theorem ahQ(hD:∀c∈F,∀x∈c.1,∃g,x=[g]/\cI g=true)(hI:∀c∈F,∀y∈c.2.1,U y=2)(hE:∀c∈F,∀y∈c.2.2,∃g,y=[g]/\cI g=false)
  (hS:∀F1 c c2 F2,F=F1++c::c2::F2->c2.1≠[]/\c2.2.1≠[]):zP (cp F) (allB F) (eW 0 0 F):=by
 intro i j k hk hc;have ahR:∀v∈cp F,U v=1:=λv hv=>by
  refine aH (vB.mp hv) λc zS hv=>?_
  rcases bK.mp hv with hv|hv
  ·refine aH (hD c zS v hv) λg av H=>?_
   subst av;rfl
  ·refine aH (hE c zS v hv) λg av H=>?_
   subst av;rfl
 have kindB:∀v∈allB F,U v=2\/∃g,v=[g]/\cI g=false:=λv hv=>by
  refine aH (vB.mp hv) λc zS hv=>?_
  rcases bK.mp hv with hv|hv
  ·exact .inl<|hI c zS v hv
  ·exact .inr<|hE c zS v hv
 have at_:∀t,t<k->∃g,(cp F)[i+t]?=some [g]/\(allB F)[j+t]?=some [g]/\cI g=false:=λt ht=>by
  obtain⟨G,h2⟩:=hc t ht;refine aH (Ji G) λv hv hm=>?_
  have Sr:(allB F)[j+t]?=some v:=h2.symm.trans hv;have l1:=ahR v hm;rcases kindB v (dT Sr) with h|⟨g,rfl,hg⟩
  ·exact(Vf l1 h).elim
  ·exact⟨g,hv,Sr,hg⟩
 refine cP (at_ 0 hk) λg0 Df nl qz=>?_
 simp only[jy] at Df nl;have inA:∃s∈eW 0 0 F,zN i k s:=by
  refine eR (Dd F i (cJ.mp Df).1) λF1 c F2 e hz=>?_
  rcases hz with ⟨d,hd,rfl⟩|⟨d,hd,rfl⟩
  ·rw[Sl e hd] at Df;refine aH (hD c (qI e) [g0]<|dT Df) λg G h2=>?_
   cases G;rw[qz] at h2;exact aY h2 dy
  ·refine⟨_,wZ e<|ne_of_lt hd,by dsimp only;exact dZ _ _,?_⟩
   by_cases hq:d+k<=U c.2.2
   ·exact AN hq
   exfalso;refine cP (at_ (U c.2.2-d)<|sq hq hd) λg ha H hg=>?_
   simp only[show U (cp F1)+U c.1+d+(U c.2.2-d)=U (cp F1)+U c.1+U c.2.2+0 by exact AO hd,Dc e] at ha;cases F2 with
   |nil=>cases ha
   |cons c2 F2=>
    obtain⟨n1,_⟩:=hS F1 c c2 F2 e;cases mo:c2.1 with
    |nil=>exact n1 mo
    |cons x r=>
     simp only[qG,mo] at ha;have ha:some x=some [g]:=ha;refine aH (hD c2 (by refine D e ?_;simp) x<|by refine D mo ?_;exact .head _) λg' G h2=>?_
     simp only[G] at ha
     (cases cj ha;clear ha)
     rw[hg] at h2;exact nomatch h2
 have inB:∃s∈eW 0 0 F,zO j k s:=by
  refine eR (De F j (cJ.mp nl).1) λF1 c F2 e hz=>?_
  rcases hz with ⟨d,hd,rfl⟩|⟨d,hd,rfl⟩
  ·rw[Sn e hd] at nl;have:=hI c (qI e) [g0]<|dT nl;exact nomatch this
  ·refine⟨_,wZ e<|ne_of_lt hd,by dsimp only;exact dZ _ _,?_⟩
   by_cases hq:d+k<=U c.2.2
   ·exact AN hq
   exfalso;refine cP (at_ (U c.2.2-d)<|sq hq hd) λg H hb hg=>?_
   simp only[show U (allB F1)+U c.2.1+d+(U c.2.2-d)=U (allB F1)+U c.2.1+U c.2.2+0 by exact AO hd,Jf e] at hb;cases F2 with
   |nil=>cases hb
   |cons c2 F2=>
    obtain⟨_,n1⟩:=hS F1 c c2 F2 e;cases mo:c2.2.1 with
    |nil=>exact n1 mo
    |cons x r=>
     simp only[qH,mo] at hb;have hb:some x=some [g]:=hb;have:=hI c2 (by refine D e ?_;simp) x (by exact D mo<|.head _)
     (have:=cj hb;clear hb;subst this)
     exact nomatch this
 exact aH inA λs hs dk=>(.inl ⟨s,hs,dk,λH H=>.inl inB⟩)
theorem ahS{ys:J (J B)}{sp:B->Prop}(hD:∀c∈F,c.1=[])(hE:∀c∈F,∀y∈c.2.2,y≠[92])(hI:∀c∈F,∀y∈c.2.1,y=[92])
  (hS:∀F1 c c2 F2,F=F1++c::c2::F2->c2.2.1=[[92]]/\∃x r,c2.2.2=[x]::r/\sp x) (hP:∀m x,(allB F++ys)[m]?=some [x]->sp x->∃m',m=m'+1/\(allB F++ys)[m']?=some [92]):zP (cp F) (allB F++ys) (eW 0 0 F):=by
 intro i j k hk hc;have inl:∀{m:B},m<U (allB F)->(allB F++ys)[m]?=(allB F)[m]?:=λh=>cA h;refine eR (Dd F i (by have:=(hc 0 hk).1;assumption)) λF1 c F2 e hz=>?_
 have mo:=hD c<|qI e;rcases hz with ⟨d,hd,rfl⟩|⟨d,hd,rfl⟩
 ·simp only[mo] at hd;exact nomatch hd
 have tC:∀t,t<k->d+t<U c.2.2->∃v,(allB F++ys)[j+t]?=some v/\c.2.2[d+t]?=some v/\v≠[92]:=λt ht hl=>by
  have:=(hc t ht).2;rw[iq _ d,Sm e hl] at this;exact aH (Ji hl) λv hv hm=>(⟨v,by simp only[←this,hv],hv,hE c (qI e) v hm⟩)
 have w0:d+k<=U c.2.2:=by
  by_cases hq:d+k<=U c.2.2
  ·exact hq
  exfalso;have ht:=hc (U c.2.2-d)<|sq hq hd;rw[show U (cp F1)+U c.1+d+(U c.2.2-d)=U (cp F1)+U c.1+U c.2.2+0 by exact AO hd,Dc e] at ht;obtain⟨G,h2⟩:=ht;cases F2 with
  |nil=>
   simp only[e,wY,aK,qG,aK,aK] at G;simp only[cp,DH,iQ] at G;exact EZ G
  |cons c2 F2=>
   refine vR (hS F1 c c2 F2 e) λH x r hx vw=>?_
   have hd2:=hD c2 (by refine D e ?_;simp);simp only[qG,hd2,hx] at h2;have h2:some [x]=_:=h2;refine aH (hP _ x h2.symm vw) λm' e1 e2=>cP (tC (U c.2.2-d-1) (MA hq hd)<|Mz hd) λv v1 H v3=>?_
   simp only[show j+(U c.2.2-d-1)=m' by exact My e1 hd,e2] at v1
   (have:=cj v1;clear v1;subst this)
   exact v3 rfl
 refine .inl ⟨_,wZ e<|ne_of_lt hd,⟨by dsimp only;exact dZ _ _,by dsimp only;exact AN w0⟩,λG h2=>?_⟩;dsimp only at G h2 ⊢;have zG:d=0:=by exact Mx G
 subst zG
 by_cases hj:U (allB F1)+U c.2.1<=j
 ·exact .inr hj
 refine .inl ?_
 have Ss:j<U (allB F):=by
  simp only[e,vv,aK,qH,aK,aK];exact Ve hj
 refine eR (De F j Ss) λmD c' oq e' hz=>?_
 rcases hz with ⟨d',hV,tE⟩|⟨d',hV,tE⟩
 ·exfalso;refine cP (tC 0 hk ‹_›) λv v1 H v3=>?_
  rw[jy,inl Ss,tE,Sn e' hV] at v1;exact v3<|hI c' (qI e') v<|dT v1
 ·refine⟨_,wZ e'<|ne_of_lt hV,by dsimp only;exact Mw tE,?_⟩;dsimp only
  by_cases hq:d'+k<=U c'.2.2
  ·exact Mu hq tE
  exfalso;rcases part2 (e.symm.trans e') with ⟨rfl,rfl,rfl⟩|⟨M,rfl,_⟩|⟨M,rfl,hM⟩
  ·exact Vd hj tE
  ·rw[vv,aK,qH,aK] at tE;exact Vc hj tE
  ·refine cP (tC (U c'.2.2-d') (sq hq hV)<|Mt w0 hq hV) λv v1 H v3=>?_
   have hn:∃c2 F3,oq=c2::F3:=by
    refine D hM ?_
    cases M with
    |nil=>exact⟨_,_,rfl⟩
    |cons x M=>exact⟨_,_,rfl⟩
   refine xI hn λc2 F3 av=>?_
   clear hn;subst av;obtain⟨jv,_⟩:=hS mD c' c2 F3 e';have hg:=Jf e' 0;rw[qH,jv] at hg;have hg:_=some [92]:=hg;have bJ:=(cJ.mp hg).1;simp only[show j+(U c'.2.2-d')=U (allB mD)+U c'.2.1+U c'.2.2+0 by exact Ms hV tE,inl bJ,hg] at v1
   (have:=cj v1;clear v1;subst this)
   exact v3 rfl
theorem ahT{off:B->Prop}(tF:¬off 92)(hI:∀c∈F,c.2.1=[])(hD:∀c∈F,∀x∈c.1,x=[92])
  (hS:∀F1 c c2 F2,F=F1++c::c2::F2->c2.1=[[92]]/\∃x r,c2.2.2=[x]::r/\off x) (hL:∀c∈F,c.2.2≠[]->c.2.2[U c.2.2-1]?≠some [92])
  (hR:∀c∈F,∀m x,c.2.2[m+1]?=some [x]->¬off x) (hP:∀m x,(cp F)[m]?=some [x]->off x->∃m',m=m'+1/\(cp F)[m']?=some [92])
  (h0:∀c F2,F=c::F2->c.1=[]):zP (cp F) (allB F) (eW 0 0 F):=by
 intro i j k hk hc;have Hp:∀t,t<k->j+t<U (allB F):=λt ht=>by
  obtain⟨G,h2⟩:=hc t ht;rw[bO G] at h2;exact(cJ.mp h2.symm).1
 refine eR (De F j<|Hp 0 hk) λF1 c F2 e hz=>?_
 have mo:=hI c<|qI e;rcases hz with ⟨d,hd,rfl⟩|⟨d,hd,rfl⟩
 ·simp only[mo] at hd;exact nomatch hd
 have tC:∀t,t<k->d+t<U c.2.2->(cp F)[i+t]?=c.2.2[d+t]?:=λt ht hl=>by
  have:=(hc t ht).2;rw[iq _ d,So e hl] at this;exact this
 have w0:d+k<=U c.2.2:=by
  by_cases hq:d+k<=U c.2.2
  ·exact hq
  exfalso;have h2:=(hc (U c.2.2-d)<|sq hq hd).2;have G:=Hp (U c.2.2-d)<|sq hq hd;simp only[show U (allB F1)+U c.2.1+d+(U c.2.2-d)=U (allB F1)+U c.2.1+U c.2.2+0 by exact AO hd] at G h2;simp only[Jf e] at h2;cases F2 with
  |nil=>
   simp only[e,vv,aK,qH,aK,aK] at G;simp only[allB,DH,iQ] at G;exact EZ G
  |cons c2 F2=>
   refine vR (hS F1 c c2 F2 e) λH x r hx vw=>?_
   have jv:=hI c2 (by refine D e ?_;simp);simp only[qH,jv,hx] at h2;have h2:_=some [x]:=h2;refine aH (hP _ x h2 vw) λm' e1 e2=>?_
   have:=tC (U c.2.2-d-1) (MA hq hd)<|Mz hd;rw[show i+(U c.2.2-d-1)=m' by exact My e1 hd,e2,show d+(U c.2.2-d-1)=U c.2.2-1 by exact Vb hd] at this;exact hL c (qI e) (ne_of_lt hd) this.symm
 refine .inr ⟨_,wZ e<|ne_of_lt hd,⟨by dsimp only;exact dZ _ _,by dsimp only;exact AN w0⟩,λG h2=>?_⟩;dsimp only at G h2 ⊢;have zG:d=0:=by exact Mx G
 subst zG;refine eR (Dd F i (by have:=(hc 0 hk).1;assumption)) λmD c' oq e' hz=>?_
 rcases hz with ⟨d',hV,ic⟩|⟨d',hV,ic⟩
 ·refine .inr ?_
  have hg:=tC 0 hk ‹_›;rw[jy,ic,Sl e' hV] at hg;refine aH (Ji hV) λv hv hm=>?_
  simp only[hv,hD c' (qI e') v hm] at hg;rcases rR F1 with rfl|⟨F1d,cl,rfl⟩
  ·exact D (h0 c F2 e)<|bH _
  ·exfalso;simp only[rS,cm] at e;refine vR (hS F1d cl c F2 e) λH x r hx vw=>?_
   simp only[hx] at hg;have hg:some [92]=some [x]:=hg
   (cases cj hg;clear hg)
   exact tF vw
 ·refine .inl ⟨_,wZ e'<|ne_of_lt hV,by dsimp only;exact Mw ic,?_⟩;dsimp only
  by_cases hq:d'+k<=U c'.2.2
  ·exact Mu hq ic
  exfalso;have hg:=tC (U c'.2.2-d') (sq hq hV)<|Mt w0 hq hV;have bJ:=(hc (U c'.2.2-d')<|sq hq hV).1;simp only[show i+(U c'.2.2-d')=U (cp mD)+U c'.1+U c'.2.2+0 by exact Ms hV ic] at hg bJ;simp only[Dc e'] at hg;cases oq with
  |nil=>
   simp only[e',wY,aK,qG,aK,aK] at bJ;simp only[cp,DH,iQ] at bJ;exact EZ bJ
  |cons c2 F3=>
   refine vR (hS mD c' c2 F3 e') λhd2 x r hx vw=>?_
   simp only[qG,hd2] at hg;have hg:some [92]=_:=hg
   by_cases qJ:U c'.2.2-d'+1<k
   ·have Dg:=tC (U c'.2.2-d'+1) qJ<|Va w0 qJ;rw[show i+(U c'.2.2-d'+1)=U (cp mD)+U c'.1+U c'.2.2+1 by exact U9 hV ic,Dc e',qG,hd2,hx] at Dg;have Dg:some [x]=_:=Dg;exact hR c (qI e) (0+(U c'.2.2-d')) x Dg.symm vw
   ·refine hL c (qI e) (ne_of_lt hd) ?_
    simp only[hg];congr 1;exact U8 hq qJ h2
theorem Dh{steps:dY}(h0:qF steps)(hc:∃p∈steps,p.1≠p.2)(hA:f=iN steps)(hB:u=iO steps)(hb:dU f u=eW 0 0 (([],[],(cks steps).1)::(cks steps).2))
  (e1:G=[45,45,45,32]++f1++(if d1=[] then[] else 9::d1)) (e2:h2=[43,43,43,32]++f2++(if d2=[] then[] else 9::d2)) (hz:U steps<=400):
  fw f u n f1 f2 d1 d2 e=report (gk steps) n G h2 e/\∀g∈groups f u n,GoodG g:=by
 have ho:∀x:J B,U (opt x)<=1:=λx=>by unfold opt;split<;>simp
 have hl:∀(aiA:J B×J B->J B) (s:dY),U (s.flatMap λp=>opt<|aiA p)<=U s:=λaiA s=>by
  induction s with
  |nil=>exact aG _
  |cons p s ih=>
   simp only[e9,aK,cK];have:=ho<|aiA p;exact Vq this ih
 have l1:U f<=U steps:=by exact D hA<|hl (·.1) steps
 have l2:U u<=U steps:=by exact D hB<|hl (·.2) steps
 exact ahL h0 hc hA hB (hb.trans (Jh _ _).symm) e1 e2 hz (by lia) (by lia)
theorem Jj(steps:dY)(h0:qF steps):cp (([],[],(cks steps).1)::(cks steps).2)=iN steps:=(qG _ _).trans<|IS steps h0
theorem Jk(steps:dY)(h0:qF steps):allB (([],[],(cks steps).1)::(cks steps).2)=iO steps:=(qH _ _).trans<|IT steps h0
theorem Jl{c0:Ch}{P:Ch->Prop}(h:∀c∈S,P c):∀F1 c c2 F2,c0::S=F1++c::c2::F2->P c2
 | []=>λc c2 F2 e=>by
  injection e with _ e
  exact h c2 (by exact D e<|.head _)
 |x::F1=>λc c2 F2 e=>by
  injection e with _ e
  exact h c2 (by refine D e ?_;simp)
theorem cks_eq(x:J B)(r:dY):cks ((x,x)::r)=(x::(cks r).1,(cks r).2):=aU rfl
theorem tG(h:x≠y)(r:dY):cks ((x,y)::r)=([],pv x y (cks r).1 (cks r).2):=aE h
noncomputable def C3(c:Ch):Prop:=c.1≠[]/\c.2.1≠[]/\(∀x∈c.1,∃g,x=[g]/\cI g=true)/\(∀y∈c.2.1,U y=2)/\∀y∈c.2.2,∃g,y=[g]/\cI g=false
theorem Su:∀t:J B,(∀c∈(cks<|fg t).2,C3 c)/\∀y∈(cks<|fg t).1,∃g,y=[g]/\cI g=false
 | []=>⟨(λH h=>nomatch h),(λH h=>nomatch h)⟩
 |c::t=>by
  obtain⟨G,h2⟩:=Su t;have e:fg (c::t)=([c],cC c)::fg t:=rfl;rw[e,rN];generalize (cks<|fg t).1=l at*;generalize (cks<|fg t).2=S at*
  by_cases hg:cI c=true
  ·have ee:cC c=[92,c]:=aU hg;dsimp only;refine D ee (D (aE λq=>by cases q)<|⟨λx hx=>?_,λH h=>nomatch h⟩);have o1:opt [c]=[[c]]:=rfl;have o2:opt [92,c]=[[92,c]]:=rfl;have new:∀E:J (J B),(∀y∈E,∃g,y=[g]/\cI g=false)->C3 (opt [c],opt [92,c],E):=λE hE=>
    ⟨by refine D o1 ?_;simp,by refine D o2 ?_;simp,λx hx=>by rw[o1,bw] at hx;exact⟨c,hx,hg⟩,λy hy=>by rw[o2,bw] at hy;subst hy;rfl,hE⟩
   match l,S with
   | [],[]=>
    obtain rfl:=bw.mp (hx:x∈[(opt [c],opt [92,c],[])]);exact new [] h2
   | [],q::S=>
    rcases cu.mp (hx:x∈(opt [c]++q.1,opt [92,c]++q.2.1,q.2.2)::S) with rfl|hx
    ·refine se (G q<|.head _) λa1 a2 a3 a4 a5=>?_
     refine⟨by refine D o1 ?_;simp,by refine D o2 ?_;simp,λx hx=>?_,λy hy=>?_,a5⟩
     ·rcases cu.mp (hx:x∈[c]::q.1) with rfl|hx
      ·exact⟨c,rfl,hg⟩
      ·exact a3 x hx
     ·rcases cu.mp (hy:y∈[92,c]::q.2.1) with rfl|hy
      ·rfl
      ·exact a4 y hy
    ·exact G x<|.tail _ hx
   |a::l,S=>
    rcases cu.mp (hx:x∈(opt [c],opt [92,c],a::l)::S) with rfl|hx
    ·exact new _ h2
    ·exact G x hx
  ·have ee:cC c=[c]:=aE hg;dsimp only;refine D ee<|D (aU rfl)<|⟨G,λy hy=>?_⟩;rcases cu.mp hy with rfl|hy
   ·exact⟨c,rfl,by simpa using hg⟩
   ·exact h2 y hy
theorem ahU(c:B):cC c≠[]:=by unfold cC;split<;>simp
theorem ahV(t:J B):qF (fg t):=λp hp q=>by
 refine aH (fa.mp hp) λc H av=>?_
 subst av;cases q.1
theorem Sv(t:J B):sg t=iN (fg t):=by
 induction t with
 |nil=>rfl
 |cons c t ih=>
  show[c]::sg t=opt [c]++iN (fg t);exact D ih rfl
theorem Sw(t:J B):t.map cC=iO (fg t):=by
 induction t with
 |nil=>rfl
 |cons c t ih=>
  show cC c::t.map cC=opt (cC c)++iO (fg t);simp only[ih,show opt (cC c)=[cC c] from aE<|ahU c];rfl
theorem ahW{t:J B}(ht:U t<=400)(h46:∃c∈t,cI c=true):
  fw (sg t) (t.map cC) k [] [] [] [] e=report (gk<|fg t) k [45,45,45,32] [43,43,43,32] e/\∀g∈groups (sg t) (t.map cC) k,GoodG g:=by
 obtain⟨G,h2⟩:=Su t;have nn:=ahV t;refine aH h46 λc hc hg=>?_
 refine Dh nn ⟨([c],cC c),fa.mpr ⟨c,hc,rfl⟩,λq=>?_⟩ (Sv t) (Sw t) ?_ rfl rfl (by unfold fg;rw[bg];exact ht)
 ·rw[show cC c=[92,c] from aU hg] at q;exact nomatch q
 ·have eA:=(Sv t).trans (Jj _ nn).symm;have eB:=(Sw t).trans (Jk _ nn).symm;refine zR (Z:=[]) (Y:=[]) (by simp only[cM];exact eA) (by simp only[cM];exact eB) ?_
  simp only[eA,eB];refine ahQ (λc hc=>?_) (λc hc=>?_) (λc hc=>?_)<|Jl (P:=λc=>c.1≠[]/\c.2.1≠[]) λc hc=>⟨(G c hc).1,(G c hc).2.1⟩
  ·rcases cu.mp hc with rfl|hc
   ·exact λH h=>nomatch h
   ·exact(G c hc).2.2.1
  ·rcases cu.mp hc with rfl|hc
   ·exact λH h=>nomatch h
   ·exact(G c hc).2.2.2.1
  ·rcases cu.mp hc with rfl|hc
   ·exact h2
   ·exact(G c hc).2.2.2.2
noncomputable def ki(P:B->Prop)(l:J B):Prop:=∀m x,l[m]?=some x->P x->∃m',m=m'+1/\l[m']?=some 92
theorem ki.app{l m:J B}(G:ki P l)(h2:ki P m):ki P (l++m):=λi x hx hp=>by
 by_cases h:i<U l
 ·simp only[cA h] at hx;refine aH (G i x hx hp) λm' e1 e2=>?_
  exact⟨m',e1,by refine D (cA<|Vp h e1) ?_;exact e2⟩
 ·simp only[dc<|by exact iR ‹_›] at hx;refine aH (h2 _ x hx hp) λm' e1 e2=>?_
  exact⟨U l+m',by exact Vo e1,by rw[kg];exact e2⟩
theorem ki.flat{P:B->Prop}{aiA:B->J B}(h:∀c,ki P<|aiA c):∀l:J B,ki P<|l.flatMap aiA
 | []=>λi x hx=>nomatch hx
 |c::l=>by exact D e9<|(h c).app<|ki.flat h l
theorem ki.two(h:¬P 92)(c:B):ki P [92,c]:=λi x hx hp=>by
 match i,hx with
 |0,hx=>cases hx;exact aY hp h
 |1,hx=>exact⟨0,rfl,rfl⟩
theorem ki.one{c:B}(h:¬P c):ki P [c]:=λi x hx hp=>by
 match i,hx with
 |0,hx=>cases hx;exact aY hp h
theorem ki.sg{P:B->Prop}{l:J B}(h:ki P l):∀m x,(sg l)[m]?=some [x]->P x->∃m',m=m'+1/\(sg l)[m']?=some [92]:=λm x hx hp=>by
 unfold Mine.Internal.sg at*;rw[c6] at hx;cases hq:l[m]? with
 |none=>rw[hq] at hx;exact nomatch hx
 |some y=>
  rw[hq] at hx;obtain rfl:y=x:=by cases hx;rfl
  refine aH (h m y hq hp) λm' e1 e2=>?_
  exact⟨m',e1,by refine D (c6)<|D e2 ?_;rfl⟩
noncomputable def Di(z x:B):Prop:=cI x=true/\x % 2=z/\x≠92
noncomputable def w4(z x:B):Prop:=cI x=true/\x % 2≠z/\x≠92
theorem Dj(l m:J B):sg (l++m)=sg l++sg m:=eL
theorem Jm{c:B}(h:cI c=true/\c % 2=z):jR z c=[92,c]:=by
 unfold jR cC;rw[aU h.2,aU h.1]
theorem Jn{c:B}(h:¬(cI c=true/\c % 2=z)):jR z c=[c]:=by
 unfold jR cC
 by_cases h2:c % 2=z
 ·rw[aU h2,aE λq=>h ⟨q,h2⟩]
 ·exact D (aE h2) rfl
theorem Sx(z:B)(b:J B):ki (Di z) (eG z b):=ki.flat (λc=>by
 by_cases h:cI c=true/\c % 2=z
 ·refine D (Jm h) ?_;exact .two (λq=>q.2.2 rfl) c
 ·refine D (Jn h) ?_;exact .one λq=>h ⟨q.1,q.2.1⟩) b
theorem ahX(z:B)(b:J B):ki (w4 z) (et b):=ki.flat (λc=>by
 unfold cC
 by_cases h:cI c=true
 ·refine D (aU h) ?_;exact .two (λq=>q.2.2 rfl) c
 ·refine D (aE h) ?_;exact .one λq=>h q.1) b
theorem Jo:∀(L:J<|J B),(∀y∈L,y≠[])->L≠[]->cks (L.map λy=>([],y))=([],[([],L,[])])
 | []=>λH h=>aY rfl h
 | [y]=>λh H=>by
  have hy:=h y<|.head _;show cks (([],y)::[])=_;rw[rN,aE λq=>hy q.symm];show([],[(opt [],opt y,[])])=_;exact D (show opt y=[y] from aE hy) rfl
 |y::y'::L=>λh H=>by
  have hy:=h y<|.head _;have ih:=Jo (y'::L) (λq hq=>h q<|.tail _ hq) nofun;rw[eu,rN,ih,aE λq=>hy q.symm];show([],[(opt []++[],opt y++y'::L,[])])=_;exact D (show opt y=[y] from aE hy) rfl
noncomputable def C1(z:B)(c:Ch):Prop:=c.1=[]/\c.2.1=[[92]]/\(∃x r,c.2.2=[x]::r/\Di z x)/\∀y∈c.2.2,y≠[92]
theorem Sy{z:B}{tail:dY}{ys:J (J B)}(ht:cks tail=([],[([],ys,[])])):∀b:J B,(∀c∈b,c≠92)->∃l S0,cks (eV z b++tail)=(l,S0++[([],ys,[])])/\(∀c∈S0,C1 z c)/\∀y∈l,y≠[92]
 | []=>λH=>⟨[],[],ht,(λH h=>nomatch h),λH h=>nomatch h⟩
 |c::b=>λhb=>by
  refine dh (Sy (z:=z) ht b λx hx=>hb x<|.tail _ hx) λl S0 e G h2=>?_
  have hc:=hb c<|.head _;have yC: [c]≠[92]:=λq=>hc (by cases q;rfl);have hl:∀y∈[c]::l,y≠[92]:=λy hy=>by
   rcases cu.mp hy with rfl|hy
   ·exact yC
   ·exact h2 y hy
  have e0:eV z (c::b)++tail=gu z c++(eV z b++tail):=by unfold eV;simp only[e9,cm]
  simp only[e0]
  by_cases hg:cI c=true/\c % 2=z
  ·refine D (show gu z c=[([],[92]),([c],[c])] from aU hg)<|⟨[],([],[[92]],[c]::l)::S0,?_,λx hx=>?_,λH h=>nomatch h⟩
   ·show cks (([],[92])::([c],[c])::(eV z b++tail))=_;rw[tG (x:=[]) (y:=[92]) (by simp),cks_eq,e];rfl
   ·rcases cu.mp hx with rfl|hx
    ·exact⟨rfl,rfl,⟨c,l,rfl,hg.1,hg.2,hc⟩,hl⟩
    ·exact G x hx
  ·refine D (show gu z c=[([c],[c])] from aE hg)<|⟨[c]::l,S0,?_,G,hl⟩;show cks (([c],[c])::(eV z b++tail))=_;simp only[cks_eq,e]
theorem Dk(z:B)(b:J B):(eV z b).map (·.2)=sg (eG z b):=by
 induction b with
 |nil=>rfl
 |cons c b ih=>
  show(gu z c++eV z b).map (·.2)=sg (jR z c++eG z b);simp only[eL,ih,Dj];congr 1
  by_cases hg:cI c=true/\c % 2=z
  ·simp only[show gu z c=[([],[92]),([c],[c])] from aU hg,Jm hg];rfl
  ·simp only[show gu z c=[([c],[c])] from aE hg,Jn hg];rfl
theorem tH(s r:dY):iN (s++r)=iN s++iN r:=kN
theorem w5(s r:dY):iO (s++r)=iO s++iO r:=kN
theorem Sz(z:B)(b:J B):iN (eV z b)=sg b:=by
 induction b with
 |nil=>rfl
 |cons c b ih=>
  show iN (gu z c++eV z b)=[c]::sg b;simp only[tH,ih]
  by_cases hg:cI c=true/\c % 2=z
  ·exact D (show gu z c=[([],[92]),([c],[c])] from aU hg) rfl
  ·exact D (show gu z c=[([c],[c])] from aE hg) rfl
theorem ahY(z:B)(b:J B):∀p∈eV z b,p.2≠[]:=λp hp=>by
 have:p.2∈(eV z b).map (·.2):=fa.mpr ⟨p,hp,rfl⟩;rw[Dk] at this;refine aH (fa.mp this) λc H h=>?_
 refine bL h ?_;simp
theorem ahZ{s:dY}(h:∀p∈s,p.2≠[]):iO s=s.map (·.2):=by
 induction s with
 |nil=>rfl
 |cons p s ih=>
  show opt p.2++iO s=p.2::s.map (·.2);simp only[ih λq hq=>h q<|.tail _ hq,show opt p.2=[p.2] from aE<|h p<|.head _];rfl
theorem ah0(hb:U b<=50)(tF:∀c∈b,c≠92)(cw:b≠[]):
  fw (sg b) (sg<|eG z b++eG z b) k [98,97,114,101] [104,97,108,102] [] [50] e=report (gk<|fL z b) k [45,45,45,32,98,97,114,101] [43,43,43,32,104,97,108,102,9,50] e/\∀g∈groups (sg b) (sg<|eG z b++eG z b) k,GoodG g:=by
 have zT:fL z b=eV z b++(sg<|eG z b).map λy=>([],y):=by
  simp only[←Dk,gM];rfl
 have ah1:=ahY z b;have hcA:eV z b≠[]:=λq=>by
  have:=Sz z b;rw[q] at this;cases b with
  |nil=>exact cw rfl
  |cons c b=>cases this
 have SA:sg (eG z b)≠[]:=by refine bL (Dk _ _) ?_;simpa using hcA
 have nU:∀y∈sg (eG z b),y≠[]:=λy hy=>by obtain⟨c,_,rfl⟩:=fa.mp hy;simp
 have pZ:∀p∈fL z b,p.2≠[]:=λp hp=>by
  rw[zT] at hp;rcases bK.mp hp with hp|hp
  ·exact ah1 p hp
  ·refine aH (fa.mp hp) λy hy av=>?_
   subst av;exact nU y hy
 have nn:qF (fL z b):=λp hp q=>pZ p hp q.2;refine dh (Sy (z:=z) (Jo _ nU SA) b tF) λl S0 ec G h2=>?_
 simp only[←zT] at ec;have hA:sg b=iN (fL z b):=by
  simp only[zT,tH,Sz];have:∀L:J (J B),iN (L.map λy=>(([]:J B),y))=[]:=λL=>by
   induction L with
   |nil=>rfl
   |cons y L ih=>exact ih
  simp only[this,cM]
 have hB:sg (eG z b++eG z b)=iO (fL z b):=by
  rw[ahZ pZ,zT,eL,Dk,Dj];congr 1;simp only[gM];exact(DL _).symm
 have hlen:U (fL z b)<=400:=by
  have hp:∀c,U (gu z c)<=2:=λc=>by unfold gu;split<;>simp
  have:∀l:J B,U (eV z l)<=2*U l:=λl=>by
   induction l with
   |nil=>exact aG _
   |cons c l ih=>
    show U (gu z c++eV z l)<=_;simp only[aK,cK];have:=hp c;exact AP ih this
  have:=this b;unfold fL;simp only[aK,bg];exact Vn this hb
 obtain⟨y0,SB⟩:=J.exists_mem_of_ne_nil _ SA;refine Dh nn ⟨([],y0),?_,λq=>nU y0 SB q.symm⟩ hA hB ?_ rfl rfl hlen
 ·exact D zT<|bK.mpr<|.inr<|fa.mpr ⟨y0,SB,rfl⟩
 ·have eA:=hA.trans (Jj _ nn).symm;have eB:=hB.trans (Jk _ nn).symm;rw[ec] at eA eB ⊢;simp only[←jT] at eA eB ⊢;refine D (ahP _ _ rfl _ _) ?_
  simp only[wY] at eA;rw[vv] at eB;have eA:sg b=cp (([],[],l)::S0)++[]:=eA;have eB:sg (eG z b++eG z b)=allB (([],[],l)::S0)++sg (eG z b):=by
   simp only[eB];congr 1;unfold allB qD;simp
  refine zR eA eB ?_
  have hw:=ahS (F:=([],[],l)::S0) (ys:=sg (eG z b)) (sp:=Di z) (λc hc=>?_) (λc hc=>?_) (λc hc=>?_) (Jl (P:=λc=>c.2.1=[[92]]/\∃x r,c.2.2=[x]::r/\Di z x) λc hc=>⟨(G c hc).2.1,(G c hc).2.2.1⟩) (by
   exact bL eB (((Sx z b).app (Sx z b)).sg))
  ·simp only[eA,eB,cM];exact hw
  ·rcases cu.mp hc with rfl|hc
   ·rfl
   ·exact(G c hc).1
  ·rcases cu.mp hc with rfl|hc
   ·exact h2
   ·exact(G c hc).2.2.2
  ·rcases cu.mp hc with rfl|hc
   ·exact λH h=>nomatch h
   ·intro y hy;rw[(G c hc).2.1] at hy;exact bw.mp hy
noncomputable def nC(E:J<|J B):Prop:=E≠[]->E[U E-1]?≠some [92]
theorem nC.nil:nC []:=λh=>aY rfl h
theorem nC.more(h:nC E)(cw:E≠[]):nC (y::E):=λH=>by
 have:=h cw;have hl:=oz.mpr cw;rw[cK,DQ,show U E=(U E-1)+1 by exact Vu hl,vy];exact this
theorem nC.cons(h:nC E)(hy:y≠[92]):nC (y::E):=by
 by_cases cw:E=[]
 ·subst cw;intro _ q;have q:some y=some [92]:=q
  (have:=cj q;clear q;subst this)
  exact hy rfl
 ·exact h.more cw
noncomputable def SC(z:B)(y:J B):Prop:=∀x,y=[x]->¬w4 z x
noncomputable def C2(z:B)(c:Ch):Prop:=c.1=[[92]]/\c.2.1=[]/\(∃x r,c.2.2=[x]::r/\w4 z x/\∀y∈r,SC z y)/\nC c.2.2
theorem SD{z:B}:∀b:J B,(∀c∈b,c≠92)->(∀c∈(cks<|cS z b).2,C2 z c)/\(∀y∈(cks<|cS z b).1,SC z y)/\nC (cks<|cS z b).1
 | []=>λH=>⟨(λH h=>nomatch h),(λH h=>nomatch h),nC.nil⟩
 |c::b=>λhb=>by
  refine eh (SD (z:=z) b λx hx=>hb x<|.tail _ hx) λG h2 h3=>?_
  have hc:=hb c<|.head _;have yC: [c]≠[92]:=λq=>hc (by cases q;rfl);have e0:cS z (c::b)=fV z c++cS z b:=rfl;refine D e0 ?_
  have Jp:nC ([c]::(cks<|cS z b).1):=h3.cons yC
  by_cases hg:cI c=true/\c % 2=z
  ·refine D (show fV z c=[([92],[92]),([c],[c])] from aU hg) ?_
   have e1:cks ([([92],[92]),([c],[c])]++cS z b)=([92]::[c]::(cks<|cS z b).1,(cks<|cS z b).2):=by
    show cks (([92],[92])::([c],[c])::cS z b)=_;simp only[cks_eq,cks_eq]
   rw[e1];refine⟨?_,λy hy=>?_,Jp.more nofun⟩
   ·have e2:cks (([92],[92])::([c],[c])::cS z b)=_:=e1;exact D e2 G
   ·rcases cu.mp hy with rfl|hy
    ·intro x hx pD
     (injection hx;subst_vars)
     exact pD.2.2 rfl
    rcases cu.mp hy with rfl|hy
    ·intro x hx pD;cases hx;exact pD.2.1 hg.2
    ·exact h2 y hy
  ·by_cases hd:cI c=true
   ·have pD:w4 z c:=⟨hd,λq=>hg ⟨hd,q⟩,hc⟩
    refine D (show fV z c=[([92],[]),([c],[c])] from(aE hg).trans<|aU hd) ?_
    have e1:cks ([([92],[]),([c],[c])]++cS z b)=([],([[92]],[],[c]::(cks<|cS z b).1)::(cks<|cS z b).2):=by
     show cks (([92],[])::([c],[c])::cS z b)=_;rw[tG (x:=[92]) (y:=[]) (by simp),cks_eq];rfl
    refine D e1<|⟨λx hx=>?_,(λH h=>nomatch h),nC.nil⟩;rcases cu.mp hx with rfl|hx
    ·exact⟨rfl,rfl,⟨c,_,rfl,pD,h2⟩,Jp⟩
    ·exact G x hx
   ·refine D (show fV z c=[([c],[c])] from(aE hg).trans<|aE hd) ?_
    have e1:cks ([([c],[c])]++cS z b)=([c]::(cks<|cS z b).1,(cks<|cS z b).2):=by
     show cks (([c],[c])::cS z b)=_;simp only[cks_eq]
    refine D e1<|⟨G,λy hy=>?_,Jp⟩;rcases cu.mp hy with rfl|hy
    ·intro x hx pD;cases hx;exact hd pD.1
    ·exact h2 y hy
theorem SE(z:B)(b:J B):sg (et b)=iN (cS z b):=by
 induction b with
 |nil=>rfl
 |cons c b ih=>
  show sg (cC c++et b)=iN (fV z c++cS z b);simp only[Dj,tH,ih];congr 1;unfold cC fV
  by_cases hd:cI c=true
  ·refine D (aU hd) ?_
   by_cases hz:c % 2=z
   ·exact D (aU ⟨hd,hz⟩) rfl
   ·exact D (aE λq=>hz q.2)<|D (aU hd) rfl
  ·refine D (aE hd)<|D (aE λq=>hd q.1)<|D (aE hd) ?_;rfl
theorem SF(z:B)(b:J B):sg (eG z b)=iO (cS z b):=by
 induction b with
 |nil=>rfl
 |cons c b ih=>
  show sg (jR z c++eG z b)=iO (fV z c++cS z b);simp only[Dj,w5,ih];congr 1;unfold fV
  by_cases hg:cI c=true/\c % 2=z
  ·exact D (aU hg)<|D (Jm hg) rfl
  ·refine D (aE hg)<|D (Jn hg) ?_;split<;>rfl
theorem ah2(hb:U b<=50)(tF:∀c∈b,c≠92)(pD:∃c∈b,cI c=true/\c % 2≠z):
  fw (sg<|et b) (sg<|eG z b) k [119,104,111,108,101] [104,97,108,102] [49] [] e=report (gk<|cS z b) k [45,45,45,32,119,104,111,108,101,9,49] [43,43,43,32,104,97,108,102] e/\∀g∈groups (sg<|et b) (sg<|eG z b) k,GoodG g:=by
 refine eh (SD (z:=z) b tF) λG h2 h3=>?_
 have nn:qF (cS z b):=λp hp q=>by
  refine aH (vB.mp hp) λc H hp=>?_
  unfold fV at hp;split at hp
  ·rcases cu.mp hp with rfl|hp
   ·cases q.1
   ·rw[bw] at hp;subst hp;cases q.1
  ·split at hp
   ·rcases cu.mp hp with rfl|hp
    ·cases q.1
    ·rw[bw] at hp;subst hp;cases q.1
   ·rw[bw] at hp;subst hp;cases q.1
 have hlen:U (cS z b)<=400:=by
  have hp:∀c,U (fV z c)<=2:=λc=>by unfold fV;(repeat' split)<;>simp
  have:∀l:J B,U (cS z l)<=2*U l:=λl=>by
   induction l with
   |nil=>exact aG _
   |cons c l ih=>
    show U (fV z c++cS z l)<=_;simp only[aK,cK];have:=hp c;exact AP ih this
  have:=this b;exact Vt this hb
 refine cP pD λc0 hc0 qz zc=>Dh nn ⟨([92],[]),vB.mpr ⟨c0,hc0,?_⟩,by simp⟩ (SE z b) (SF z b) ?_ rfl rfl hlen
 ·unfold fV;exact D (aE λq=>zc q.2)<|D (aU qz)<|.head _
 ·have eA:=(SE z b).trans (Jj _ nn).symm;have eB:=(SF z b).trans (Jk _ nn).symm;refine zR (Z:=[]) (Y:=[]) (by simp only[cM];exact eA) (by simp only[cM];exact eB) ?_
  simp only[eA,eB];refine ahT (off:=w4 z) (λq=>q.2.2 rfl) (λc hc=>?_) (λc hc=>?_) (Jl (P:=λc=>c.1=[[92]]/\∃x r,c.2.2=[x]::r/\w4 z x) λc hc=>⟨(G c hc).1,?_⟩) (λc hc=>?_) (λc hc m x hx=>?_) (by refine bL eA ?_;exact(ahX z b).sg) (λc F2 e=>by injection e with e _;rw[←e])
  ·rcases cu.mp hc with rfl|hc
   ·rfl
   ·exact(G c hc).2.1
  ·rcases cu.mp hc with rfl|hc
   ·exact λH h=>nomatch h
   ·intro x hx;rw[(G c hc).1] at hx;exact bw.mp hx
  ·exact dh ((G c hc).2.2.1) λx r a b H=>(⟨x,r,a,b⟩)
  ·rcases cu.mp hc with rfl|hc
   ·exact h3
   ·exact(G c hc).2.2.2
  ·rcases cu.mp hc with rfl|hc
   ·exact h2 _ (dT hx) x rfl
   ·refine dh ((G c hc).2.2.1) λy r hr H Dl=>?_
    simp only[hr,vy] at hx;exact Dl _ (dT hx) x rfl
theorem SG(h:codes f f k=kE k (nh k [(0,0,1,0,1)])):groups f f k=[]:=by
 unfold groups;refine D h ?_
 have e:kE k (nh k [(0,0,1,0,1)])=[jL k<|my k (0,0,1,0,1)]:=rfl;refine D e<|D uO ?_
 rw[aE (by
  intro dM;obtain⟨_,q⟩:=dM;unfold jL my at q;dsimp only at q
  exact Vs q)]
 dsimp only[jM];exact D (aU<|.inr ⟨rfl,rfl⟩) rfl
theorem ah3{t:J B}:fw [t] [t] k f1 f2 d1 d2 e=[]/\∀g∈groups [t] [t] k,GoodG g:=by
 have hb:dU [t] [t]=pz [t]++eW (U [t]) (U [t]) []:=by
  simp only[Jh];refine zR (F:=[([],[],[t])]) (Z:=[]) (Y:=[]) rfl rfl λi j k hk hc=>.inl ⟨(0,0,1),.head _,?_,λH H=>.inr<|bH _⟩;have:=(hc (k-1)<|xO hk).1;have hl:U ([t]:J<|J B)=1:=rfl;exact⟨bH _,by dsimp only;exact Vr this hl⟩
 have ho:fH [t] [t]=[(0,0,1,0,1)]:=(IW (f:=[t]) (u:=[t]) (lead:=[t]) (S:=[]) trivial rfl rfl hb).trans rfl;have hg:groups [t] [t] k=[]:=SG (by unfold codes;rw[ho];rfl);exact⟨by unfold fw;rw[hg];rfl,by refine D hg ?_;exact λH h=>nomatch h⟩
theorem ah4:fw [] [] k f1 f2 d1 d2 e=[]/\∀g∈groups [] [] k,GoodG g:=by
 have hb:dU [] []=pz []++eW (U ([]:J<|J B)) (U ([]:J<|J B)) []:=by
  rw[Jh];refine zR (F:=[([],[],[])]) (Z:=[]) (Y:=[]) rfl rfl λi j k hk hc=>?_
  have:=(hc 0 hk).1;exact nomatch this
 have ho:fH [] []=[]:=(IW (lead:=[]) (S:=[]) trivial rfl rfl hb).trans rfl;have hg:groups [] [] k=[]:=SG (by unfold codes;rw[ho];rfl);exact⟨by unfold fw;rw[hg];rfl,by refine D hg ?_;exact λH h=>nomatch h⟩
noncomputable abbrev Ls:=J<|J B
theorem SH:∀(L:Ls) (r:dY) {c:Ch} {S:J Ch},(∀l∈L,l≠[])->cks r=([],c::S)->cks (L.map (λl=>(l,[]))++r)=([],(L++c.1,c.2.1,c.2.2)::S)
 | []=>λr {c} {S} H h=>h
 |l::L=>λr {c} {S} hl h=>by
  have ih:=SH L r (λx hx=>hl x<|.tail _ hx) h;have h0:=hl l<|.head _;refine D eu<|D jT<|D (tG h0 _)<|D ih ?_;show([],(opt l++(L++c.1),opt []++c.2.1,c.2.2)::S)=_;exact D (show opt l=[l] from aE h0) rfl
theorem SI:∀(L:Ls) (r:dY) {c:Ch} {S:J Ch},(∀l∈L,l≠[])->cks r=([],c::S)->cks (L.map (λl=>([],l))++r)=([],(c.1,L++c.2.1,c.2.2)::S)
 | []=>λr {c} {S} H h=>h
 |l::L=>λr {c} {S} hl h=>by
  have ih:=SI L r (λx hx=>hl x<|.tail _ hx) h;have h0:=hl l<|.head _;refine D eu<|D jT<|D (tG (λq=>h0 q.symm) _)<|D ih ?_;show([],(opt []++c.1,opt l++(L++c.2.1),c.2.2)::S)=_;exact D (show opt l=[l] from aE h0) rfl
theorem Jq:∀(L:Ls) (r:dY),cks (L.map (λl=>(l,l))++r)=(L++(cks r).1,(cks r).2)
 | []=>λr=>rfl
 |l::L=>λr=>by rw[eu,jT,cks_eq,Jq L r];rfl
theorem SJ:∀(L:Ls),(∀y∈L,y≠[])->L≠[]->cks (L.map λy=>(y,[]))=([],[(L,[],[])])
 | []=>λH h=>aY rfl h
 | [y]=>λh H=>by
  have hy:=h y<|.head _;refine D (tG hy _) ?_
  show([],[(opt y,opt [],[])])=_;exact D (show opt y=[y] from aE hy) rfl
 |y::y'::L=>λh H=>by
  have hy:=h y<|.head _;have ih:=SJ (y'::L) (λq hq=>h q<|.tail _ hq) (by simp);refine D eu<|D (tG hy _)<|D ih ?_;show([],[(opt y++y'::L,opt []++[],[])])=_;exact D (show opt y=[y] from aE hy) rfl
theorem SK(h:∀l∈L,l≠[]):iN (L.map λl=>(l,[]))=L:=by
 induction L with
 |nil=>rfl
 |cons l L ih=>
  show opt l++iN (L.map λl=>(l,[]))=_;exact D (ih λx hx=>h x<|.tail _ hx)<|D (show opt l=[l] from aE<|h l<|.head _) rfl
theorem SL(L:Ls):iN (L.map λl=>([],l))=[]:=by
 induction L with
 |nil=>rfl
 |cons l L ih=>exact ih
theorem SM(h:∀l∈L,l≠[]):iN (L.map λl=>(l,l))=L:=by
 induction L with
 |nil=>rfl
 |cons l L ih=>
  show opt l++iN (L.map λl=>(l,l))=_;exact D (ih λx hx=>h x<|.tail _ hx)<|D (show opt l=[l] from aE<|h l<|.head _) rfl
theorem SN(h:∀l∈L,l≠[]):iO (L.map λl=>([],l))=L:=by
 induction L with
 |nil=>rfl
 |cons l L ih=>
  show opt l++iO (L.map λl=>([],l))=_;exact D (ih λx hx=>h x<|.tail _ hx)<|D (show opt l=[l] from aE<|h l<|.head _) rfl
theorem SO(L:Ls):iO (L.map λl=>(l,[]))=[]:=by
 induction L with
 |nil=>rfl
 |cons l L ih=>exact ih
theorem SP(h:∀l∈L,l≠[]):iO (L.map λl=>(l,l))=L:=by
 induction L with
 |nil=>rfl
 |cons l L ih=>
  show opt l++iO (L.map λl=>(l,l))=_;exact D (ih λx hx=>h x<|.tail _ hx)<|D (show opt l=[l] from aE<|h l<|.head _) rfl
structure Dm(one two:Ls)(b wh:J B):Prop where
 s1:∀x∈one,U x=1
 s2:∀x∈two,U x=1
 b2:2<=U b
 w2:2<=U wh
 ne:b≠wh
 n1:one≠[]
 n2:two≠[]
 head:one[0]?≠two[0]?
 suf:∀aiy,aiy<=U one->aiy<=U two->max (U one) (U two)<=aiy+1->∃v,v<aiy/\one[U one-aiy+v]?≠two[U two-aiy+v]?
noncomputable def ik(one two:Ls)(b:J B):Ls:=one++[b]++two
noncomputable def iP(one two:Ls)(b wh:J B):Ls:=[wh]++two++[b]++one
section
variable{one two:Ls}{wh:J B}
theorem Dn{p:B}(h:p<U one):(ik one two b)[p]?=one[p]?:=by
 unfold ik;rw[cm,cA h]
theorem SQ:(ik one two b)[U one]?=some b:=by
 unfold ik;rw[cm,show U one=U one+0 from rfl,kg];rfl
theorem Jr(v:B):(ik one two b)[U one+1+v]?=two[v]?:=by
 have:=kg (one++[b]) two v;rw[aK] at this;exact this
theorem Do{v:B}(h:v<U two):(iP one two b wh)[1+v]?=two[v]?:=by
 unfold iP;rw[cm,cm];have:=kg [wh] (two++([b]++one)) v;rw[cA h] at this;exact this
theorem ah5:(iP one two b wh)[1+U two]?=some b:=by
 unfold iP;rw[cm];have:=kg ([wh]++two) ([b]++one) 0;rw[aK] at this;exact this
theorem Js(v:B):(iP one two b wh)[U two+2+v]?=one[v]?:=by
 have:=kg ([wh]++two++[b]) one v;rw[aK,aK] at this;refine bL this ?_
 congr 1;exact V4
theorem Dp:U (ik one two b)=U one+1+U two:=by unfold ik;exact D aK<|D aK rfl
theorem ah6:U (iP one two b wh)=1+U two+1+U one:=by unfold iP;refine D aK<|D aK<|D aK ?_;rfl
variable(aix:Dm one two b wh)
include aix
theorem ah7{p:B}:(ik one two b)[p]?≠some wh:=λe=>by
 have hm:=dT e;unfold ik at hm;simp only[bK,bw] at hm;have:=aix.w2;rcases hm with (hm|hm)|hm
 ·have:=aix.s1 _ hm;lia
 ·exact aix.ne hm.symm
 ·have:=aix.s2 _ hm;lia
theorem ah8{p:B}(e:(ik one two b)[p]?=some b):p=U one:=by
 have hb:=aix.b2
 by_cases G:p<U one
 ·rw[Dn G] at e;have:=aix.s1 _<|dT e;exact MD hb this
 by_cases h2:p=U one
 ·exact h2
 ·rw[show p=U one+1+(p-U one-1) by exact V3 G h2,Jr] at e;have:=aix.s2 _<|dT e;exact MD hb this
theorem SR{q:B}(e:(iP one two b wh)[q]?=some b):q=1+U two:=by
 have hb:=aix.b2
 by_cases h0:q=0
 ·subst h0;have:(iP one two b wh)[0]?=some wh:=rfl;rw[this] at e;cases e;exact aY rfl aix.ne
 by_cases G:q<1+U two
 ·rw[show q=1+(q-1) by exact V2 h0,Do<|V1 G h0] at e;have:=aix.s2 _<|dT e;exact MC hb this
 by_cases h2:q=1+U two
 ·exact h2
 ·rw[show q=U two+2+(q-U two-2) by exact V0 G h2,Js] at e;have:=aix.s1 _<|dT e;exact MC hb this
theorem zU(hk:0<k)(hc:Da (ik one two b) (iP one two b wh) i j k):
  1<=j/\(k+1<=max (U one) (U two)\/(i+k<=U one/\(j+k<=1+U two\/U two+2<=j))\/(U one+1<=i/\i+k<=U one+1+U two/\(j+k<=1+U two\/U two+2<=j))):=by
 have hj:1<=j:=by
  rcases tK j with h|h
  ·subst h;have:=(hc 0 hk).2;exact aY this<|ah7 aix
  ·exact h
 refine⟨hj,?_⟩;have sx:=(hc (k-1)<|xO hk).1;rw[Dp] at sx;have wX:(i<=U one/\U one<i+k)↔(j<=1+U two/\1+U two<j+k):=by
  constructor
  ·intro dM;refine xA dM λG h2=>?_
   have:=(hc (U one-i)<|VZ h2 G).2;rw[show i+(U one-i)=U one by exact xp ‹_›,SQ] at this;have:=SR aix this.symm;exact VY this h2 G
  ·intro hU;refine xA hU λG h2=>?_
   have:=(hc (1+U two-j)<|VX h2 G).2;rw[show j+(1+U two-j)=1+U two by exact xp ‹_›,ah5] at this;have:=ah8 aix this;exact VW h2 this G
 by_cases dk:i<=U one/\U one<i+k
 ·refine .inl<|xA dk λG h2=>(xA (wX.mp ⟨G,h2⟩) λh3 h4=>?_);have rk:U one-i=1+U two-j:=by
   have:=(hc (U one-i)<|VV h4 h2 h3).2;rw[show i+(U one-i)=U one by exact xp ‹_›,SQ] at this;have:=SR aix this.symm;exact VU this
  have qJ:i+k<=U one+1:=by
   by_cases hq:i+k<=U one+1
   ·exact hq
   exfalso;have:=(hc (U one+1-i)<|VS h4 hq h3).2;rw[show i+(U one+1-i)=U one+1+0 by exact VR G,Jr,show j+(U one+1-i)=U two+2+0 by exact VQ rk h3 G,Js] at this;exact aix.head this.symm
  by_cases hK:k+1<=max (U one) (U two)
  ·exact hK
  exfalso;refine aH (aix.suf (k-1) (VP qJ) (VO hj qJ rk)<|VN hK) λv hv cw=>?_
  have:=(hc v<|VM hv).2;rw[Dn<|VL qJ hv,show j+v=1+(U two-(k-1)+v) by exact VK h4 hj qJ rk hv,Do<|VJ hj qJ rk hv,show i+v=U one-(k-1)+v by exact VI h4 qJ rk hv] at this;exact cw this
 ·have Dl:¬(j<=1+U two/\1+U two<j+k):=λq=>dk (wX.mpr q)
  by_cases G:i<=U one
  ·exact .inr<|.inl ⟨by exact VH G dk,by exact MB Dl⟩
  ·exact .inr<|.inr ⟨by exact vH.mp ‹_›,by exact VG sx,by exact MB Dl⟩
theorem ah9:dU (ik one two b) (iP one two b wh)=[if U one<U two then(U one+1,1,U two) else(0,U two+2,U one)]:=by
 have l1:0<U one:=oz.mpr aix.n1;have l2:0<U two:=oz.mpr aix.n2;refine gE.unique (ru _ _ (0,U<|ik one two b,0,U<|iP one two b wh))<|D Dp<|D ah6 ?_;dsimp only
 by_cases hL:U one<U two
 ·refine D (aU hL) ?_
  have best:j8 (ik one two b) (iP one two b wh) 0 (U one+1+U two) 0 (1+U two+1+U one) (U one+1,1,U two):=by
   refine⟨bH _,by dsimp only;exact aG _,bH _,by dsimp only;exact VF,λt ht=>?_,λh=>?_,λi j k H H H H hc=>?_,λi j H H H H hp hc=>?_⟩
   ·
    exact⟨by rw[Dp];exact VE ht,by rw[Jr,Do ht]⟩
   ·dsimp only at h;exact(LS hL h).elim
   ·dsimp only;rcases tK k with h0|hk
    ·exact AL h0
    have:=(zU aix hk hc).2;exact VD this hL
   ·dsimp only at hp hc ⊢;exact xA (zU aix hp hc) λG h2=>(VC G h2 hL)
  have ta:=j8.unique qh best;have:=gE.some (a:=ik one two b) (b:=iP one two b wh) (l:=[]) (r:=[]) ta l2 (.none ?_)<|.none ?_
  ·exact this
  ·have aiv:=qh (a:=ik one two b) (b:=iP one two b wh) (aq:=0) (aS:=U one+1) (au:=0) (aJ:=1);generalize jK (ik one two b) (iP one two b wh) 0 (U one+1) 0 1=q at*;rcases tK q.2.2 with h0|hp
   ·exact h0
   have:=(zU aix hp aiv.eq).1;have:=aiv.jv;have:=aiv.lP;lia
  ·exact BS<|.inl<|aG _
 ·refine D (aE hL) ?_
  have best:j8 (ik one two b) (iP one two b wh) 0 (U one+1+U two) 0 (1+U two+1+U one) (0,U two+2,U one):=by
   refine⟨bH _,by dsimp only;exact VB,bH _,by dsimp only;exact VA,λt ht=>?_,λh=>?_,λi j k H H H H hc=>?_,λi j H H H kb hp hc=>?_⟩
   ·
    exact⟨by rw[Dp];exact Vz ht,by rw[iu,Dn ht,Js]⟩
   ·dsimp only at h;exact(Vy l2 hL h).elim
   ·dsimp only;rcases tK k with h0|hk
    ·exact AL h0
    have:=(zU aix hk hc).2;exact Vx this hL
   ·dsimp only at hp hc kb ⊢;refine xA (zU aix hp hc) λG h2=>?_
    rcases tK i with hi|hi
    ·refine .inr ⟨hi.symm,?_⟩
     by_cases hj:U two+2<=j
     ·exact hj
     exfalso;have s8:j=1:=by exact Vw G h2 hj hL
     subst hi s8;have:=(hc 0 hp).2;rw[jy,jy,Dn l1,show 1=1+0 from rfl,Do l2] at this;exact aix.head this
    ·exact .inl hi
  have ta:=j8.unique qh best;have:=gE.some (a:=ik one two b) (b:=iP one two b wh) (l:=[]) (r:=[]) ta l1 (.none ?_)<|.none ?_
  ·exact this
  ·exact BS<|.inl<|aG _
  ·exact BS<|.inr Vv
end
section
variable{one two:Ls}{wh:J B}(aix:Dm one two b wh)
include aix
theorem SS:(∀l∈one,l≠[])/\(∀l∈two,l≠[])/\b≠[]/\wh≠[]:=by
 have z:U ([]:J B)=0:=rfl;refine⟨λl hl e=>?_,λl hl e=>?_,λe=>?_,λe=>?_⟩
 ·have:=aix.s1 l hl;rw[e] at this;cases this
 ·have:=aix.s2 l hl;rw[e] at this;cases this
 ·have:=aix.b2;rw[e,z] at this;contradiction
 ·have:=aix.w2;rw[e,z] at this;contradiction
theorem aia:cks (gJ one two b wh)=([],if U one<U two then[(one++[b],[wh],two),([],b::one,[])] else[([],wh::two++[b],one),(b::two,[],[])]):=by
 refine gc (SS aix) λo1 o2 o3 o4=>?_
 have aib:∀l∈one++[b],l≠[]:=λl hl=>by
  rcases bK.mp hl with hl|hl
  ·exact o1 l hl
  ·rw[bw] at hl;subst hl;exact o3
 have aic:∀l∈[b]++one,l≠[]:=λl hl=>by
  rcases bK.mp hl with hl|hl
  ·rw[bw] at hl;subst hl;exact o3
  ·exact o1 l hl
 have aid:∀l∈[wh]++two++[b],l≠[]:=λl hl=>by
  rcases bK.mp hl with hl|hl
  ·rcases bK.mp hl with hl|hl
   ·rw[bw] at hl;subst hl;exact o4
   ·exact o2 l hl
  ·rw[bw] at hl;subst hl;exact o3
 have aie:∀l∈[b]++two,l≠[]:=λl hl=>by
  rcases bK.mp hl with hl|hl
  ·rw[bw] at hl;subst hl;exact o3
  ·exact o2 l hl
 unfold gJ
 by_cases hL:U one<U two
 ·rw[aU hL,aU hL,cm,cm];have e1:=Jo ([b]++one) aic (by simp);have e2:=Jq two<|([b]++one).map λy=>([],y);rw[e1,cM] at e2;have e3:cks ([([],wh)]++(two.map (λl=>(l,l))++([b]++one).map λy=>([],y)))=([],([],[wh],two)::[([],[b]++one,[])]):=by
   show cks (([],wh)::(two.map (λl=>(l,l))++([b]++one).map λy=>([],y)))=_;refine D (tG (λq=>o4 q.symm) _)<|D e2 ?_;cases ht:two with
   |nil=>exact aY ht aix.n2
   |cons x l=>
    show([],(opt [],opt wh,x::l)::_)=_;exact D (show opt wh=[wh] from aE o4) rfl
  exact D (SH _ _ aib e3)<|D (cM _) rfl
 ·rw[aE hL,aE hL,cm];have e1:=SJ ([b]++two) aie (by simp);have e2:=Jq one<|([b]++two).map λy=>(y,[]);rw[e1,cM] at e2;cases hw:([wh]++two++[b]:Ls) with
  |nil=>cases hw
  |cons x L=>
   have hx:∀l∈x::L,l≠[]:=by exact bL hw aid
   rcases rR (x::L) with h|⟨M,y,h⟩
   ·cases h
   rw[rS] at h;rw[h] at hx ⊢;have hy:=hx y (by simp);have e3:cks ([([],y)]++(one.map (λl=>(l,l))++([b]++two).map λy=>(y,[])))=([],([],[y],one)::[([b]++two,[],[])]):=by
    show cks (([],y)::(one.map (λl=>(l,l))++([b]++two).map λy=>(y,[])))=_;refine D (tG (λq=>hy q.symm) _)<|D e2 ?_;cases ht:one with
    |nil=>exact aY ht aix.n1
    |cons x l=>
     show([],(opt [],opt y,x::l)::_)=_;exact D (show opt y=[y] from aE hy) rfl
   rw[eL,cm];have e4:=SI M _ (λl hl=>hx l<|by simp[hl]) e3;have e5:M++[y]=wh::two++[b]:=h.symm.trans hw.symm;exact bL e5 e4
theorem aif(hz:U one<=60/\U two<=60):
  fw (ik one two b) (iP one two b wh) 3 [104,97,108,102] [111,116,104,101,114] [] [] [10]=report (gk<|gJ one two b wh) 3 [45,45,45,32,104,97,108,102] [43,43,43,32,111,116,104,101,114] [10]/\∀g∈groups (ik one two b) (iP one two b wh) 3,GoodG g:=by
 refine gc (SS aix) λo1 o2 o3 o4=>?_
 have ap:∀{L M:Ls},(∀l∈L,l≠[])->(∀l∈M,l≠[])->∀l∈L++M,l≠[]:=λG h2 l hl=>(bK.mp hl).elim (G l)<|h2 l;have ob:∀l∈[b],l≠[]:=fM o3;have ow:∀l∈[wh],l≠[]:=fM o4;have hA:ik one two b=iN (gJ one two b wh):=by
  unfold gJ ik;split
  ·rw[tH,tH,tH,SK<|ap o1 ob,SM o2,SL];show _=one++[b]++[]++two++[];simp
  ·rw[tH,tH,SL,SM o1,SK<|ap ob o2];simp
 have hB:iP one two b wh=iO (gJ one two b wh):=by
  unfold gJ iP;split
  ·rw[w5,w5,w5,SO,SP o2,SN<|ap ob o1];have:iO [([],wh)]=[wh]:=by show opt wh++[]=_;exact D (show opt wh=[wh] from aE o4) rfl
   refine D this ?_
   simp
  ·rw[w5,w5,SN<|ap (ap ow o2) ob,SP o1,SO];simp
 have nn:qF (gJ one two b wh):=λp hp q=>by
  unfold gJ at hp;split at hp
  ·simp only[bK,fa,bw] at hp;rcases hp with ((⟨l,hl,rfl⟩|rfl)|⟨l,hl,rfl⟩)|⟨l,hl,rfl⟩
   ·exact(ap o1 ob) l (by simpa using hl) q.1
   ·exact o4 q.2
   ·exact o2 l hl q.1
   ·exact(ap ob o1) l (by simpa using hl) q.2
  ·simp only[bK,fa,bw] at hp;rcases hp with (⟨l,hl,rfl⟩|⟨l,hl,rfl⟩)|⟨l,hl,rfl⟩
   ·exact(ap (ap ow o2) ob) l (by simpa[or_assoc] using hl) q.2
   ·exact o1 l hl q.1
   ·exact(ap ob o2) l (by simpa using hl) q.1
 refine Dh nn ⟨([],wh),?_,λq=>o4 q.symm⟩ hA hB ?_ rfl rfl ?_
 ·unfold gJ;split<;>simp
 ·refine D (aia aix) (D (ah9 aix) ?_)
  by_cases hL:U one<U two
  ·refine D (aU hL)<|D (aU hL) ?_;show _=je 0 0 ([],[],[])++(je (dC 0 ([],[],[])) (dS 0 ([],[],[])) (one++[b],[wh],two)++(je _ _ ([],b::one,[])++[]));unfold je dC dS;dsimp only;rw[aU rfl,aE aix.n2,aU rfl,aK];simp
  ·refine D (aE hL)<|D (aE hL) ?_;show _=je 0 0 ([],[],[])++(je (dC 0 ([],[],[])) (dS 0 ([],[],[])) ([],wh::two++[b],one)++(je _ _ (b::two,[],[])++[]));unfold je dC dS;dsimp only;rw[aU rfl,aE aix.n1,aU rfl];simp
 ·have:=hz.1;have:=hz.2;unfold gJ;split<;>simp only[aK,bg,cK,iQ]<;>lia
end
theorem suf_of{P Q:Ls}(aiy:B)(G:aiy<=U ([92]::[46]::[97]::[45]::P))(h2:aiy<=U ([46]::[97]::[92]::[45]::Q))(h3:max (U<|[92]::[46]::[97]::[45]::P) (U<|[46]::[97]::[92]::[45]::Q)<=aiy+1):
  ∃v,v<aiy/\([92]::[46]::[97]::[45]::P)[U ([92]::[46]::[97]::[45]::P)-aiy+v]?≠([46]::[97]::[92]::[45]::Q)[U ([46]::[97]::[92]::[45]::Q)-aiy+v]?:=by
 simp only[cK] at G h2 h3 ⊢
 by_cases a:U P+1+1+1+1=aiy
 ·refine D (by exact E2 a:U P+1+1+1+1-aiy=0) ?_
  refine⟨if U Q+1+1+1+1=aiy then 0 else 0,by split<;>exact V9 a,?_⟩
  by_cases c:U Q+1+1+1+1=aiy
  ·refine D (by exact E2 c:U Q+1+1+1+1-aiy=0)<|D (aU c) ?_;simp
  ·refine D (by exact MI h3 c h2:U Q+1+1+1+1-aiy=1)<|D (aE c) ?_;simp
 ·refine D (by exact V8 h3 a G:U P+1+1+1+1-aiy=1) ?_
  by_cases c:U Q+1+1+1+1=aiy
  ·exact D (show U Q+1+1+1+1-aiy=0 by exact E2 c)<|⟨2,by exact V7 c,by simp⟩
  ·exact D (show U Q+1+1+1+1-aiy=1 by exact MI h3 c h2)<|⟨0,by exact V6 h3,by simp⟩
theorem Dq{l:J B}:∀x∈sg l,U x=1:=λx hx=>by
 refine aH (fa.mp hx) λc H av=>?_
 subst av;rfl
theorem aig{r:J B}(hz:z<=1):Dm (sg<|eG z<|[46,97,45,46,97]++r) (sg<|nA z<|[46,97,45,46,97]++r) ([46,97,45,46,97]++r) (et<|[46,97,45,46,97]++r):=by
 have ST:2<=U (et<|[46,97,45,46,97]++r):=by
  exact D aK<|dZ _ _
 have SU:([46,97,45,46,97]++r)≠et ([46,97,45,46,97]++r):=λq=>by
  have q:(46:B)::_=92::_:=q;injection q with q _
  cases q
 rcases(MG hz:z=0\/z=1) with rfl|rfl
 ·have e1:∃P,sg (eG 0<|[46,97,45,46,97]++r)=[92]::[46]::[97]::[45]::P:=⟨_,rfl⟩
  have e2:∃Q,sg (nA 0<|[46,97,45,46,97]++r)=[46]::[97]::[92]::[45]::Q:=⟨_,rfl⟩
  obtain⟨P,eP⟩:=e1;obtain⟨Q,eQ⟩:=e2;refine⟨Dq,Dq,by simp,ST,SU,?_,?_,?_,?_⟩
  ·refine D eP ?_;simp
  ·refine D eQ ?_;simp
  ·refine D eP<|D eQ ?_;simp
  ·exact D eP<|D eQ suf_of
 ·have e1:∃P,sg (eG 1<|[46,97,45,46,97]++r)=[46]::[97]::[92]::[45]::P:=⟨_,rfl⟩
  have e2:∃Q,sg (nA 1<|[46,97,45,46,97]++r)=[92]::[46]::[97]::[45]::Q:=⟨_,rfl⟩
  obtain⟨P,eP⟩:=e1;obtain⟨Q,eQ⟩:=e2;refine⟨Dq,Dq,by simp,ST,SU,?_,?_,?_,?_⟩
  ·refine D eP ?_;simp
  ·refine D eQ ?_;simp
  ·refine D eP<|D eQ ?_;simp
  ·refine D eP<|D eQ ?_;intro aiy G h2 h3;refine aH (suf_of aiy h2 G (by refine D (B.max_comm _ _) ?_;exact h3)) λv a b=>?_
   exact⟨v,a,λq=>b q.symm⟩
theorem ais(zs:J az):wM (f0 zs) (U zs % 2) (zs.sum.fmod 4).toNat:=by
 have hz:U zs % 2<=1:=by lia
 generalize (U zs) % 2=z at*;generalize (zs.sum.fmod 4).toNat=k;have ht:U (f0 zs)<=11:=by
  exact D aK<|D (bg _)<|D gA MH
 obtain⟨r,hr⟩:∃r,cR (f0 zs)=[46,97,45,46,97]++r:=⟨cR<|(zs.take 6).map kZ,by unfold f0 cR;rw[xa];rfl⟩
 have hb:U (cR<|f0 zs)<=11:=cX (pE _ _) ht;have tF:∀c∈cR (f0 zs),c≠92:=λc hc=>dq (rV.mp hc).2;have pD:∃c∈cR (f0 zs),cI c=true/\c % 2≠z:=by
  refine D hr ?_
  rcases(by exact MG hz:z=0\/z=1) with rfl|rfl
  ·exact⟨45,by simp,by decide,by decide⟩
  ·exact⟨46,by simp,by decide,by decide⟩
 have hg:∃c∈f0 zs,cI c=true:=⟨46,bK.mpr<|.inl<|.head _,by decide⟩
 have a1:=ah3 (t:=f0 zs) (k:=k) (f1:=[98,97,114,101]) (f2:=[104,97,108,102]) (d1:=[49]) (d2:=[50]) (e:=dR z);have a2:=ah4 (k:=k) (f1:=[98,97,114,101]) (f2:=[104,97,108,102]) (d1:=[49]) (d2:=[50]) (e:=dR z);have a3:=ah0 (b:=cR<|f0 zs) (z:=z) (k:=k) (e:=dR z) (by exact MF hb) tF (by refine D hr ?_;simp);have a4:=ah2 (b:=cR<|f0 zs) (z:=z) (k:=k) (e:=dR z) (by exact MF hb) tF pD;have a5:=ahW (t:=f0 zs) (k:=k) (e:=dR z) (by exact V5 ht) hg;have F:Dm (sg<|eG z<|cR<|f0 zs) (sg<|nA z<|cR<|f0 zs) (cR<|f0 zs) (et<|cR<|f0 zs):=by refine D hr ?_;exact aig hz
 have l2:∀(aiA:B->J B),(∀c,U (aiA c)<=2)->∀l:J B,U (l.flatMap aiA)<=2*U l:=λaiA hf l=>by
  induction l with
  |nil=>exact aG _
  |cons c l ih=>
   refine D e9<|D aK<|D cK ?_;have:=hf c;exact AP ih this
 have le:∀c,U (cC c)<=2:=λc=>by unfold cC;split<;>simp
 have lh:U (eG z<|cR<|f0 zs)<=22:=by
  have:=l2 (jR z) (λc=>by
   unfold jR;split
   ·exact le c
   ·exact eM 1) (cR (f0 zs))
  exact E1 this hb
 have lo:U (nA z<|cR<|f0 zs)<=22:=by
  have:=l2 (nz z) (λc=>by
   unfold nz;split
   ·exact eM 1
   ·exact le c) (cR (f0 zs))
  exact E1 this hb
 have sl:∀l:J B,U (sg l)=U l:=λl=>bg _;have a6:=aif F ⟨by refine D (sl _) ?_;exact ME lh,by refine D (sl _) ?_;exact ME lo⟩;exact⟨a1.1,a2.1,a3.1,a4.1,a5.1,a6.1,a1.2,a2.2,a3.2,a4.2,a5.2,a6.2⟩
end
end Mine.Internal
theorem PySem.Challenge.cw_we0038_01_holds : PySem.Challenge.rw_we0038_01.Holds :=
 Mine.Internal.aip fun zs H=>Mine.Internal.ais zs
